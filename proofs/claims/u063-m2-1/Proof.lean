import JvmDerived
import JvmDerived.Pilot.@@N@@Statement
import JvmDerived.Pilot.@@N@@Code
set_option linter.unusedVariables false
set_option linter.unusedSimpArgs false
/- laws to paste: Road.backV, Road.codOf (cut by pick.py; bodies as the Statement names them) -/
namespace Jvm.Pilot.@@N@@
namespace StrChars
open Jvm Sem ClassFile Op Lib Jvm.Stand Jvm.Free.XT Jvm.Free.ALB Jvm.Free.JM Jvm.Free
open Jvm.Lib.Cold (StaticIs)
/-- a char array whose places are chars -/
def Ch (a : Addr) (A : Cell) (U : State) : Prop := Arr .char a A U ∧ Typed .char A
theorem Ch.mv {a : Addr} {A : Cell} {U U' : State} (h : Ch a A U) (hal : U.vm.Alike U'.vm) (hh : U'.heap = U.heap) : Ch a A U' := ⟨h.1.mv hal hh, h.2⟩
theorem Ch.keep {a : Addr} {A : Cell} {U U' : State} (h : Ch a A U) (hal : U.vm.Alike U'.vm) (hk : U'.heap[a]? = some A) : Ch a A U' := ⟨h.1.keep hal hk, h.2⟩
/-- what place i of a char[]'s cell holds -/
def cv (A : Cell) (i : Nat) : Int32 := match A.slots[i]? with | some (.int x) => x | _ => 0
theorem Ch.get {a : Addr} {A : Cell} {U : State} (h : Ch a A U) {i : Nat} (hi : i < A.slots.size) : A.slots[i]? = some (.int (cv A i)) := by
  have e := Array.getElem?_eq_getElem hi
  have f := h.2 i _ e
  unfold cv; rw [e]
  generalize A.slots[i] = v at f
  cases v <;> simp [fits] at f ⊢
/-- the byte that i2b leaves of a char -/
def lo8 (x : Int32) : Int32 := x.toInt8.toInt32
theorem fits_lo8 (y : Int32) : fits .byte (.int (lo8 y)) = true := by
  have h1 := y.toInt8.le_toInt
  have h2 := y.toInt8.toInt_lt
  simp only [lo8, fits, Bool.and_eq_true, decide_eq_true_eq, Int32.le_iff_toInt_le, Int8.toInt_toInt32, show (-128 : Int32).toInt = -128 from by decide, show (127 : Int32).toInt = 127 from by decide]
  omega
/-- A' is A but that each place j of lo .. hi - 1 holds f j -/
def Laid (A A' : Cell) (lo hi : Nat) (f : Nat → Value) : Prop := A'.cls = A.cls ∧ A'.vm = A.vm ∧ A'.slots.size = A.slots.size ∧ ∀ i, A'.slots[i]? = if lo ≤ i ∧ i < hi then some (f i) else A.slots[i]?
theorem Laid.zero (A : Cell) (lo : Nat) (f : Nat → Value) : Laid A A lo (lo + 0) f := ⟨rfl, rfl, rfl, fun i => by rw [if_neg (by omega)]⟩
theorem Laid.step {A Ak : Cell} {lo k : Nat} {f : Nat → Value} {v : Value} (h : Laid A Ak lo k f) (hlo : lo ≤ k) (hk : k < Ak.slots.size) (hv : v = f k) : Laid A (Ak.setSlot k v) lo (k + 1) f := by
  refine ⟨h.1, h.2.1, by simpa [Cell.setSlot] using h.2.2.1, fun i => ?_⟩
  by_cases e : k = i
  · subst e; rw [Cell.slots_setSlot_self v hk, if_pos (by omega), hv]
  · rw [Cell.slots_setSlot_ne v e, h.2.2.2 i]
    by_cases q : lo ≤ i ∧ i < k
    · rw [if_pos q, if_pos (by omega)]
    · rw [if_neg q, if_neg (by omega)]
def U16 : String := "java/lang/StringUTF16"
namespace Cmp5
def yN : MethodName := ⟨"java/lang/StringUTF16", "compress", "([CI[BII)I"⟩
abbrev yB : ByteArray := jdk_52_method_21_code
theorem d0 : decode yB 0 = .ok (.iconst 0, 1) := by decide +kernel
theorem d1 : decode yB 1 = .ok (.istore 5, 2) := by decide +kernel
theorem d3 : decode yB 3 = .ok (.iload 5, 2) := by decide +kernel
theorem d5 : decode yB 5 = .ok (.iload 4, 2) := by decide +kernel
theorem d7 : decode yB 7 = .ok (.if_icmp (.ge) 37, 3) := by decide +kernel
theorem d10 : decode yB 10 = .ok (.aload_n 0, 1) := by decide +kernel
theorem d11 : decode yB 11 = .ok (.iload_n 1, 1) := by decide +kernel
theorem d12 : decode yB 12 = .ok (.caload, 1) := by decide +kernel
theorem d13 : decode yB 13 = .ok (.istore 6, 2) := by decide +kernel
theorem d15 : decode yB 15 = .ok (.iload 6, 2) := by decide +kernel
theorem d17 : decode yB 17 = .ok (.sipush 255, 3) := by decide +kernel
theorem d20 : decode yB 20 = .ok (.if_icmp (.le) 6, 3) := by decide +kernel
theorem d26 : decode yB 26 = .ok (.aload_n 2, 1) := by decide +kernel
theorem d27 : decode yB 27 = .ok (.iload_n 3, 1) := by decide +kernel
theorem d28 : decode yB 28 = .ok (.iload 6, 2) := by decide +kernel
theorem d30 : decode yB 30 = .ok (.i2b, 1) := by decide +kernel
theorem d31 : decode yB 31 = .ok (.bastore, 1) := by decide +kernel
theorem d32 : decode yB 32 = .ok (.iinc 1 1, 3) := by decide +kernel
theorem d35 : decode yB 35 = .ok (.iinc 3 1, 3) := by decide +kernel
theorem d38 : decode yB 38 = .ok (.iinc 5 1, 3) := by decide +kernel
theorem d41 : decode yB 41 = .ok (.goto (-38), 3) := by decide +kernel
theorem d44 : decode yB 44 = .ok (.iload 4, 2) := by decide +kernel
theorem d46 : decode yB 46 = .ok (.ireturn, 1) := by decide +kernel
def site : List Cond := []
def tab : Cond := tabOf yN yB 7 (some .int) site
def P (b : Addr) (A : Cell) (d : Addr) (B : Cell) (o q len : Nat) (args : Array Value) (s : State) : Prop := args = #[.ref b, .int (Int32.ofNat o), .ref d, .int (Int32.ofNat q), .int (Int32.ofNat len)] ∧ Ch b A s ∧ Arr .byte d B s ∧ b ≠ d ∧ o + len ≤ A.slots.size ∧ q + len ≤ B.slots.size ∧ ∀ i, i < len → ¬ 255 < cv A (o + i)
def E (b : Addr) (A : Cell) (d : Addr) (B : Cell) (o q len : Nat) (r : Option Value) (s u : State) : Prop := r = some (.int (Int32.ofNat len)) ∧ ∃ B', Put d B' s u ∧ Laid B B' q (q + len) (fun j => Value.int (lo8 (cv A (o + (j - q)))))
/-- no char of the range above 255: len; the places written hold each char's low byte -/
theorem law (l : Launch) (b : Addr) (A : Cell) (d : Addr) (B : Cell) (o q len : Nat) : Law l yN 5 5 0 0 yB 7 (some .int) site (P b A d B o q len) (E b A d B o q len) (copyLocs d q len) 0 0 := by
  refine Law.of_walk (plainFor_of_name (by decide +kernel)) (by decide +kernel) (by decide +kernel) (by decide) (fun _ _ h => by rw [h.1]; rfl) (fun _ U U' hal hh h => ⟨h.1, h.2.1.mv hal hh, h.2.2.1.mv hal hh, h.2.2.2⟩) (fun r U U' V V' h1 hal h2 h => ⟨h.1, h.2.elim fun B' q => ⟨B', q.1.mv h1 h2, q.2⟩⟩) ?_
  intro p e s m args below meth c s₁ X0 hexec hbytes hml hret hlk hnm hown hh0 W hP
  obtain ⟨rfl, hA, hB, hne, l1, l2, hp⟩ := hP
  have c1 : Steps p.tables e below (s₁.setTop (entryFrame m #[.ref b, .int (Int32.ofNat o), .ref d, .int (Int32.ofNat q), .int (Int32.ofNat len)] 7)) (s₁.setTop (mkF m 0 #[.val (.ref b), .val (.int (Int32.ofNat o)), .val (.ref d), .val (.int (Int32.ofNat q)), .val (.int (Int32.ofNat len)), .unset, .unset] [])) := entry rfl
  have hA0 := hA.1.mv X0.warmed.alike hh0
  have hB0 := hB.mv X0.warmed.alike hh0
  have a31 := hA.1.2.2.2
  have c2 : Steps p.tables e below (s₁.setTop (entryFrame m #[.ref b, .int (Int32.ofNat o), .ref d, .int (Int32.ofNat q), .int (Int32.ofNat len)] 7)) (s₁.setTop (mkF m 3 #[.val (.ref b), .val (.int (Int32.ofNat o)), .val (.ref d), .val (.int (Int32.ofNat q)), .val (.int (Int32.ofNat len)), .val (.int 0), .unset] [])) := c1.trans (by
    refine iconstV X0.here hexec rfl 0 (hb hbytes d0) (by decide) ?_
    refine XS.istore X0.here hexec rfl (hb hbytes d1) rfl rfl ?_
    exact Steps.refl _)
  have loop : ∀ (r i : Nat), i + r = len → ∀ (z : Slot), (z = .unset ∨ ∃ w, z = .val w ∧ w.category = 1) → ∀ (Tl : State) (Bk : Cell), Stand p l e { frames := 0, locals := 0, cells := 0, slots := 0 } s m #[.ref b, .int (Int32.ofNat o), .ref d, .int (Int32.ofNat q), .int (Int32.ofNat len)] below meth c Tl ([] ++ copyLocs d q i) 0 0 → Put d Bk s₁ Tl → Laid B Bk q (q + i) (fun j => Value.int (lo8 (cv A (o + (j - q))))) →
      Steps p.tables e below (s₁.setTop (entryFrame m #[.ref b, .int (Int32.ofNat o), .ref d, .int (Int32.ofNat q), .int (Int32.ofNat len)] 7)) (Tl.setTop (mkF m 3 #[.val (.ref b), .val (.int (Int32.ofNat (o + i))), .val (.ref d), .val (.int (Int32.ofNat (q + i))), .val (.int (Int32.ofNat len)), .val (.int (Int32.ofNat i)), z] [])) → ∃ (T' : State) (B' : Cell) (z' : Slot), Stand p l e { frames := 0, locals := 0, cells := 0, slots := 0 } s m #[.ref b, .int (Int32.ofNat o), .ref d, .int (Int32.ofNat q), .int (Int32.ofNat len)] below meth c T' ([] ++ copyLocs d q len) 0 0 ∧ Put d B' s₁ T' ∧ Laid B B' q (q + len) (fun j => Value.int (lo8 (cv A (o + (j - q))))) ∧
      Steps p.tables e below (s₁.setTop (entryFrame m #[.ref b, .int (Int32.ofNat o), .ref d, .int (Int32.ofNat q), .int (Int32.ofNat len)] 7)) (T'.setTop (mkF m 3 #[.val (.ref b), .val (.int (Int32.ofNat (o + len))), .val (.ref d), .val (.int (Int32.ofNat (q + len))), .val (.int (Int32.ofNat len)), .val (.int (Int32.ofNat len)), z'] [])) := by
    intro r
    induction r with
    | zero =>
      intro i hi z hz Tl Bk Xl pl fl cl
      have hil : i = len := by omega
      rw [hil] at Xl fl cl
      exact ⟨Tl, Bk, z, Xl, pl, fl, cl⟩
    | succ r ih =>
      intro i hi z hz Tl Bk Xl pl fl cl
      have all := X0.warmed.alike.symm.trans Xl.warmed.alike
      have hAl := hA0.keep all (pl.other hne hA0.1)
      have hBk := hB0.like all pl.1 fl.1 fl.2.1 fl.2.2.1
      have hlt : q + i < Bk.slots.size := by rw [fl.2.2.1]; omega
      have c3 : Steps p.tables e below (s₁.setTop (entryFrame m #[.ref b, .int (Int32.ofNat o), .ref d, .int (Int32.ofNat q), .int (Int32.ofNat len)] 7)) (Tl.setTop (mkF m 12 #[.val (.ref b), .val (.int (Int32.ofNat (o + i))), .val (.ref d), .val (.int (Int32.ofNat (q + i))), .val (.int (Int32.ofNat len)), .val (.int (Int32.ofNat i)), z] [.int (Int32.ofNat (o + i)), .ref b])) := cl.trans (by
        refine XS.iload Xl.here hexec rfl (hb hbytes d3) rfl ?_
        refine XS.iload Xl.here hexec rfl (hb hbytes d5) rfl ?_
        refine XS.icmpNo Xl.here hexec rfl (hb hbytes d7) rfl (ii_ge_f (lt32 (by omega) (by omega))) ?_
        refine XS.aloadN Xl.here hexec rfl (hb hbytes d10) rfl rfl ?_
        refine XS.iloadN Xl.here hexec rfl (hb hbytes d11) rfl ?_
        exact Steps.refl _)
      have c4 : Steps p.tables e below (s₁.setTop (entryFrame m #[.ref b, .int (Int32.ofNat o), .ref d, .int (Int32.ofNat q), .int (Int32.ofNat len)] 7)) (Tl.setTop (mkF m 13 #[.val (.ref b), .val (.int (Int32.ofNat (o + i))), .val (.ref d), .val (.int (Int32.ofNat (q + i))), .val (.int (Int32.ofNat len)), .val (.int (Int32.ofNat i)), z] [.int (cv A (o + i))])) := c3.trans (by
        refine Xl.aget hexec hAl rfl (hA.get (i := o + i) (by omega)) rfl rfl (hb hbytes d12) ?_
        exact Steps.refl _)
      have c5 : Steps p.tables e below (s₁.setTop (entryFrame m #[.ref b, .int (Int32.ofNat o), .ref d, .int (Int32.ofNat q), .int (Int32.ofNat len)] 7)) (Tl.setTop (mkF m 15 #[.val (.ref b), .val (.int (Int32.ofNat (o + i))), .val (.ref d), .val (.int (Int32.ofNat (q + i))), .val (.int (Int32.ofNat len)), .val (.int (Int32.ofNat i)), .val (.int (cv A (o + i)))] [])) := c4.trans (by
        refine XS.istoreS Xl.here hexec rfl (hb hbytes d13) rfl rfl hz ?_
        exact Steps.refl _)
      have c6 : Steps p.tables e below (s₁.setTop (entryFrame m #[.ref b, .int (Int32.ofNat o), .ref d, .int (Int32.ofNat q), .int (Int32.ofNat len)] 7)) (Tl.setTop (mkF m 31 #[.val (.ref b), .val (.int (Int32.ofNat (o + i))), .val (.ref d), .val (.int (Int32.ofNat (q + i))), .val (.int (Int32.ofNat len)), .val (.int (Int32.ofNat i)), .val (.int (cv A (o + i)))] [.int (lo8 (cv A (o + i))), .int (Int32.ofNat (q + i)), .ref d])) := c5.trans (by
        refine XS.iload Xl.here hexec rfl (hb hbytes d15) rfl ?_
        refine sipushV Xl.here hexec rfl 255 (hb hbytes d17) (by decide) ?_
        refine XS.icmpYes Xl.here hexec rfl (pc0 := 20) rfl (hb hbytes d20) rfl (ii_le_t (hp i (by omega))) (by decide) rfl ?_
        refine XS.aloadN Xl.here hexec rfl (hb hbytes d26) rfl rfl ?_
        refine XS.iloadN Xl.here hexec rfl (hb hbytes d27) rfl ?_
        refine XS.iload Xl.here hexec rfl (hb hbytes d28) rfl ?_
        refine i2b Xl.here hexec rfl (hb hbytes d30) rfl ?_
        exact Steps.refl _)
      obtain ⟨T7, X7, p7, st7⟩ := Xl.aput hexec hBk rfl hlt rfl (fits_lo8 (cv A (o + i))) (g := (mkF m 31 #[.val (.ref b), .val (.int (Int32.ofNat (o + i))), .val (.ref d), .val (.int (Int32.ofNat (q + i))), .val (.int (Int32.ofNat len)), .val (.int (Int32.ofNat i)), .val (.int (cv A (o + i)))] [.int (lo8 (cv A (o + i))), .int (Int32.ofNat (q + i)), .ref d])) rfl (rest := []) rfl (hb hbytes d31)
      have c8 : Steps p.tables e below (s₁.setTop (entryFrame m #[.ref b, .int (Int32.ofNat o), .ref d, .int (Int32.ofNat q), .int (Int32.ofNat len)] 7)) (T7.setTop (mkF m 32 #[.val (.ref b), .val (.int (Int32.ofNat (o + i))), .val (.ref d), .val (.int (Int32.ofNat (q + i))), .val (.int (Int32.ofNat len)), .val (.int (Int32.ofNat i)), .val (.int (cv A (o + i)))] [])) := c6.trans (st7 _ (Steps.refl _))
      have c9 : Steps p.tables e below (s₁.setTop (entryFrame m #[.ref b, .int (Int32.ofNat o), .ref d, .int (Int32.ofNat q), .int (Int32.ofNat len)] 7)) (T7.setTop (mkF m 3 #[.val (.ref b), .val (.int (Int32.ofNat (o + i) + 1)), .val (.ref d), .val (.int (Int32.ofNat (q + i) + 1)), .val (.int (Int32.ofNat len)), .val (.int (Int32.ofNat i + 1)), .val (.int (cv A (o + i)))] [])) := c8.trans (by
        refine iincV X7.here hexec rfl 1 (hb hbytes d32) (by decide) rfl rfl ?_
        refine iincV X7.here hexec rfl 1 (hb hbytes d35) (by decide) rfl rfl ?_
        refine iincV X7.here hexec rfl 1 (hb hbytes d38) (by decide) rfl rfl ?_
        refine XS.goto X7.here hexec rfl (pc0 := 41) rfl (hb hbytes d41) (by decide) rfl ?_
        exact Steps.refl _)
      have c10 : Steps p.tables e below (s₁.setTop (entryFrame m #[.ref b, .int (Int32.ofNat o), .ref d, .int (Int32.ofNat q), .int (Int32.ofNat len)] 7)) (T7.setTop (mkF m 3 #[.val (.ref b), .val (.int (Int32.ofNat (o + (i + 1)))), .val (.ref d), .val (.int (Int32.ofNat (q + (i + 1)))), .val (.int (Int32.ofNat len)), .val (.int (Int32.ofNat (i + 1))), .val (.int (cv A (o + i)))] [])) := by
        have := c9
        rw [succ32, succ32, succ32] at this
        exact this
      exact ih (i + 1) (by omega) _ (Or.inr ⟨_, rfl, rfl⟩) T7 _ (by rw [copyLocs_step, ← List.append_assoc]; exact X7) (pl.trans p7) (fl.step (by omega) hlt (by simp)) c10
  obtain ⟨T9, B9, z9, X9, p9, f9, g9⟩ := loop len 0 (by omega) .unset (Or.inl rfl) s₁ B (by simpa [copyLocs] using X0) ⟨hB0.1, fun _ _ => rfl, rfl⟩ (Laid.zero _ _ _) c2
  have c11 : Steps p.tables e below (s₁.setTop (entryFrame m #[.ref b, .int (Int32.ofNat o), .ref d, .int (Int32.ofNat q), .int (Int32.ofNat len)] 7)) (T9.setTop (mkF m 46 #[.val (.ref b), .val (.int (Int32.ofNat (o + len))), .val (.ref d), .val (.int (Int32.ofNat (q + len))), .val (.int (Int32.ofNat len)), .val (.int (Int32.ofNat len)), z9] [.int (Int32.ofNat len)])) := g9.trans (by
    refine XS.iload X9.here hexec rfl (hb hbytes d3) rfl ?_
    refine XS.iload X9.here hexec rfl (hb hbytes d5) rfl ?_
    refine XS.icmpYes X9.here hexec rfl (pc0 := 7) rfl (hb hbytes d7) rfl (ii_ge_t (nlt32 (by omega) (Nat.le_refl _))) (by decide) rfl ?_
    refine XS.iload X9.here hexec rfl (hb hbytes d44) rfl ?_
    exact Steps.refl _)
  exact ⟨T9, some (.int (Int32.ofNat len)), _, _, _, X9, by simp, rfl, rfl, (fun h => by cases h), ⟨rfl, B9, p9.from hh0, f9⟩, fun fs hl => c11.trans (X9.ireturnOut hexec hret rfl (Or.inl rfl) (hb hbytes d46) hl)⟩
end Cmp5
namespace Cmp3
def yN : MethodName := ⟨"java/lang/StringUTF16", "compress", "([CII)[B"⟩
abbrev yB : ByteArray := jdk_52_method_16_code
theorem d0 : decode yB 0 = .ok (.iload_n 2, 1) := by decide +kernel
theorem d1 : decode yB 1 = .ok (.newarray .byte, 2) := by decide +kernel
theorem d3 : decode yB 3 = .ok (.astore_n 3, 1) := by decide +kernel
theorem d4 : decode yB 4 = .ok (.aload_n 0, 1) := by decide +kernel
theorem d5 : decode yB 5 = .ok (.iload_n 1, 1) := by decide +kernel
theorem d6 : decode yB 6 = .ok (.aload_n 3, 1) := by decide +kernel
theorem d7 : decode yB 7 = .ok (.iconst 0, 1) := by decide +kernel
theorem d8 : decode yB 8 = .ok (.iload_n 2, 1) := by decide +kernel
theorem d9 : decode yB 9 = .ok (.invokestatic 115, 3) := by decide +kernel
theorem d12 : decode yB 12 = .ok (.istore 4, 2) := by decide +kernel
theorem d14 : decode yB 14 = .ok (.iload 4, 2) := by decide +kernel
theorem d16 : decode yB 16 = .ok (.iload_n 2, 1) := by decide +kernel
theorem d17 : decode yB 17 = .ok (.if_icmp (.eq) 40, 3) := by decide +kernel
theorem d57 : decode yB 57 = .ok (.aload_n 3, 1) := by decide +kernel
theorem d58 : decode yB 58 = .ok (.areturn, 1) := by decide +kernel
def site : List Cond := [.arrayClass .byte, Cmp5.tab] ++ staticW U16 115 Cmp5.yN
def tab : Cond := tabOf yN yB 6 (some (.array .byte)) site
def P (b : Addr) (A : Cell) (o len : Nat) (args : Array Value) (s : State) : Prop := args = #[.ref b, .int (Int32.ofNat o), .int (Int32.ofNat len)] ∧ Ch b A s ∧ o + len ≤ A.slots.size ∧ len ≤ 536870912 ∧ ∀ i, i < len → ¬ 255 < cv A (o + i)
def E (b : Addr) (A : Cell) (o len : Nat) (r : Option Value) (s u : State) : Prop := NewArr .byte "[B" len (fun j => .int (lo8 (cv A (o + j)))) r s u ∧ u.heap.size = s.heap.size + 1
/-- no char of the range above 255: a new byte[] of their low bytes -/
theorem law (l : Launch) (b : Addr) (A : Cell) (o len : Nat) : Law l yN 3 3 1 18 yB 6 (some (.array .byte)) site (P b A o len) (E b A o len) [] 1 len := by
  refine Law.of_walk (plainFor_of_name (by decide +kernel)) (by decide +kernel) (by decide +kernel) (by decide) (fun _ _ h => by rw [h.1]; rfl) (fun _ U U' hal hh h => ⟨h.1, h.2.1.mv hal hh, h.2.2⟩) (fun r U U' V V' h1 hal h2 h => ⟨NewArr.mv r U U' V V' h1 hal h2 h.1, by rw [h1, h2]; exact h.2⟩) ?_
  intro p e s m args below meth c s₁ X0 hexec hbytes hml hret hlk hnm hown hh0 W hP
  obtain ⟨rfl, hA, l1, l2, hp⟩ := hP
  have a31 := hA.1.2.2.2
  have c1 : Steps p.tables e below (s₁.setTop (entryFrame m #[.ref b, .int (Int32.ofNat o), .int (Int32.ofNat len)] 6)) (s₁.setTop (mkF m 0 #[.val (.ref b), .val (.int (Int32.ofNat o)), .val (.int (Int32.ofNat len)), .unset, .unset, .unset] [])) := entry rfl
  have c2 : Steps p.tables e below (s₁.setTop (entryFrame m #[.ref b, .int (Int32.ofNat o), .int (Int32.ofNat len)] 6)) (s₁.setTop (mkF m 1 #[.val (.ref b), .val (.int (Int32.ofNat o)), .val (.int (Int32.ofNat len)), .unset, .unset, .unset] [.int (Int32.ofNat len)])) := c1.trans (by
    refine XS.iloadN X0.here hexec rfl (hb hbytes d0) rfl ?_
    exact Steps.refl _)
  obtain ⟨T3, B3, X3, ba3, bs3, bv3, bh3, bf3, st3⟩ := X0.anew hexec (atype := .byte) (wk W (.arrayClass .byte)) rfl (by show len * 1 ≤ _; omega) (by omega) (g := (mkF m 1 #[.val (.ref b), .val (.int (Int32.ofNat o)), .val (.int (Int32.ofNat len)), .unset, .unset, .unset] [.int (Int32.ofNat len)])) rfl (hb hbytes d1) (rest := []) rfl (Nat.le_refl _) (by show 0 + len ≤ len; omega)
  rw [hh0] at ba3 st3
  have kp3 : XT.Kept s T3 := (XT.Kept.of_eq hh0).push bh3
  have hA3 := hA.keep X3.warmed.alike (kp3 _ _ hA.1.1)
  have hne : b ≠ s.heap.size := hA.1.ne
  have c4 : Steps p.tables e below (s₁.setTop (entryFrame m #[.ref b, .int (Int32.ofNat o), .int (Int32.ofNat len)] 6)) (T3.setTop (mkF m 3 #[.val (.ref b), .val (.int (Int32.ofNat o)), .val (.int (Int32.ofNat len)), .unset, .unset, .unset] [.ref s.heap.size])) := c2.trans (st3 _ (Steps.refl _))
  have c5 : Steps p.tables e below (s₁.setTop (entryFrame m #[.ref b, .int (Int32.ofNat o), .int (Int32.ofNat len)] 6)) (T3.setTop (mkF m 9 #[.val (.ref b), .val (.int (Int32.ofNat o)), .val (.int (Int32.ofNat len)), .val (.ref s.heap.size), .unset, .unset] [.int (Int32.ofNat len), .int 0, .ref s.heap.size, .int (Int32.ofNat o), .ref b])) := c4.trans (by
    refine XS.astoreN X3.here hexec rfl (hb hbytes d3) rfl rfl rfl ?_
    refine XS.aloadN X3.here hexec rfl (hb hbytes d4) rfl rfl ?_
    refine XS.iloadN X3.here hexec rfl (hb hbytes d5) rfl ?_
    refine XS.aloadN X3.here hexec rfl (hb hbytes d6) rfl rfl ?_
    refine iconstV X3.here hexec rfl 0 (hb hbytes d7) (by decide) ?_
    refine XS.iloadN X3.here hexec rfl (hb hbytes d8) rfl ?_
    exact Steps.refl _)
  obtain ⟨v6, T6, X6, E6, g6⟩ := X3.callS hexec (Cmp5.law l b A s.heap.size B3 o 0 len) hown (wks W (staticW U16 115 Cmp5.yN)) (wk W Cmp5.tab) (W := 0) (Nat.le_of_ble_eq_true rfl) (Nat.le_of_ble_eq_true rfl) (Nat.le_refl _) (by show 0 + len + 0 ≤ len; omega) (g := (mkF m 9 #[.val (.ref b), .val (.int (Int32.ofNat o)), .val (.int (Int32.ofNat len)), .val (.ref s.heap.size), .unset, .unset] [.int (Int32.ofNat len), .int (Int32.ofNat 0), .ref s.heap.size, .int (Int32.ofNat o), .ref b])) rfl (by rw [hml]; rfl) c5 (argsL := [.ref b, .int (Int32.ofNat o), .ref s.heap.size, .int (Int32.ofNat 0), .int (Int32.ofNat len)]) (rest := []) rfl rfl (by show 2 * 0 + 0 ≤ _; decide) (hb hbytes d9) (⟨rfl, hA3, ba3, hne, l1, by rw [bs3]; simp, hp⟩)
  obtain ⟨rfl, B6, p6, f6⟩ := E6
  have c7 : Steps p.tables e below (s₁.setTop (entryFrame m #[.ref b, .int (Int32.ofNat o), .int (Int32.ofNat len)] 6)) (T6.setTop (mkF m 12 #[.val (.ref b), .val (.int (Int32.ofNat o)), .val (.int (Int32.ofNat len)), .val (.ref s.heap.size), .unset, .unset] [.int (Int32.ofNat len)])) := g6
  have c8 : Steps p.tables e below (s₁.setTop (entryFrame m #[.ref b, .int (Int32.ofNat o), .int (Int32.ofNat len)] 6)) (T6.setTop (mkF m 58 #[.val (.ref b), .val (.int (Int32.ofNat o)), .val (.int (Int32.ofNat len)), .val (.ref s.heap.size), .val (.int (Int32.ofNat len)), .unset] [.ref s.heap.size])) := c7.trans (by
    refine XS.istore X6.here hexec rfl (hb hbytes d12) rfl rfl ?_
    refine XS.iload X6.here hexec rfl (hb hbytes d14) rfl ?_
    refine XS.iloadN X6.here hexec rfl (hb hbytes d16) rfl ?_
    refine XS.icmpYes X6.here hexec rfl (pc0 := 17) rfl (hb hbytes d17) rfl (ii_eq_t rfl) (by decide) rfl ?_
    refine XS.aloadN X6.here hexec rfl (hb hbytes d57) rfl rfl ?_
    exact Steps.refl _)
  have X8 := X6.wide (L' := []) (cells' := 1) (slots' := len) (fun x hx hlt => by
    simp only [List.nil_append, copyLocs, List.mem_map, List.mem_range] at hx
    obtain ⟨i, -, rfl⟩ := hx
    exact absurd hlt (Nat.lt_irrefl _)) (Nat.le_refl _) (by omega)
  exact ⟨T6, some (.ref s.heap.size), _, _, _, X8, rfl, rfl, rfl, (fun h => by cases h), ⟨⟨rfl, B6, ba3.like (X3.warmed.alike.symm.trans X6.warmed.alike) p6.1 f6.1 f6.2.1 f6.2.2.1, f6.2.1.trans bv3, by rw [X6.warmed.alike.findClass, f6.1]; exact bf3, by rw [f6.2.2.1, bs3]; simp, fun j hj => by rw [f6.2.2.2 j, if_pos (by omega)]; rfl, kp3.put p6 (Nat.le_refl _)⟩, by rw [p6.2.2, bh3, hh0]; simp⟩, fun fs hl => c8.trans (X8.areturnOut hexec rfl hret rfl (hb hbytes d58) hl)⟩
end Cmp3
namespace CodL
def yN : MethodName := ⟨"java/lang/StringUTF16", "coderFromArrayLen", "([BI)B"⟩
abbrev yB : ByteArray := jdk_52_method_15_code
theorem d0 : decode yB 0 = .ok (.iload_n 1, 1) := by decide +kernel
theorem d1 : decode yB 1 = .ok (.aload_n 0, 1) := by decide +kernel
theorem d2 : decode yB 2 = .ok (.arraylength, 1) := by decide +kernel
theorem d3 : decode yB 3 = .ok (.isub, 1) := by decide +kernel
theorem d4 : decode yB 4 = .ok (.bipush 31, 2) := by decide +kernel
theorem d6 : decode yB 6 = .ok (.iushr, 1) := by decide +kernel
theorem d7 : decode yB 7 = .ok (.i2b, 1) := by decide +kernel
theorem d8 : decode yB 8 = .ok (.ireturn, 1) := by decide +kernel
def site : List Cond := []
def tab : Cond := tabOf yN yB 2 (some .byte) site
def P (d : Addr) (B : Cell) (args : Array Value) (s : State) : Prop := args = #[.ref d, .int (Int32.ofNat B.slots.size)] ∧ Arr .byte d B s
def E (r : Option Value) (s u : State) : Prop := XT.PureE (some (.int 0)) r s u
/-- an array as long as the number of chars: LATIN1 -/
theorem law (l : Launch) (d : Addr) (B : Cell) : Law l yN 2 2 0 0 yB 2 (some .byte) site (P d B) E [] 0 0 := by
  refine Law.of_walk (plainFor_of_name (by decide +kernel)) (by decide +kernel) (by decide +kernel) (by decide) (fun _ _ h => by rw [h.1]; rfl) (fun _ U U' hal hh h => ⟨h.1, h.2.mv hal hh⟩) (fun r U U' V V' h1 hal h2 h => XT.PureE.mv r U U' V V' h1 hal h2 h) ?_
  intro p e s m args below meth c s₁ X0 hexec hbytes hml hret hlk hnm hown hh0 W hP
  obtain ⟨rfl, hB⟩ := hP
  have hB0 := hB.mv X0.warmed.alike hh0
  have c1 : Steps p.tables e below (s₁.setTop (entryFrame m #[.ref d, .int (Int32.ofNat B.slots.size)] 2)) (s₁.setTop (mkF m 0 #[.val (.ref d), .val (.int (Int32.ofNat B.slots.size))] [])) := entry rfl
  have c2 : Steps p.tables e below (s₁.setTop (entryFrame m #[.ref d, .int (Int32.ofNat B.slots.size)] 2)) (s₁.setTop (mkF m 2 #[.val (.ref d), .val (.int (Int32.ofNat B.slots.size))] [.ref d, .int (Int32.ofNat B.slots.size)])) := c1.trans (by
    refine XS.iloadN X0.here hexec rfl (hb hbytes d0) rfl ?_
    refine XS.aloadN X0.here hexec rfl (hb hbytes d1) rfl rfl ?_
    exact Steps.refl _)
  have c3 : Steps p.tables e below (s₁.setTop (entryFrame m #[.ref d, .int (Int32.ofNat B.slots.size)] 2)) (s₁.setTop (mkF m 8 #[.val (.ref d), .val (.int (Int32.ofNat B.slots.size))] [.int (lo8 (ushr (Int32.ofNat B.slots.size - Int32.ofNat B.slots.size) 31))])) := c2.trans (by
    refine X0.alen hexec hB0 rfl rfl (hb hbytes d2) ?_
    refine XS.isub X0.here hexec rfl (hb hbytes d3) rfl ?_
    refine bipushV X0.here hexec rfl 31 (hb hbytes d4) (by decide) ?_
    refine iushr X0.here hexec rfl (hb hbytes d6) rfl ?_
    refine i2b X0.here hexec rfl (hb hbytes d7) rfl ?_
    exact Steps.refl _)
  have e0 : lo8 (ushr (Int32.ofNat B.slots.size - Int32.ofNat B.slots.size) 31) = 0 := by rw [Int32.sub_self]; decide
  rw [e0] at c3
  exact ⟨s₁, some (.int 0), _, _, _, X0, rfl, rfl, rfl, (fun h => by cases h), ⟨rfl, hh0⟩, fun fs hl => c3.trans (X0.ireturnOut hexec hret rfl (Or.inr (Or.inr (Or.inl rfl))) (hb hbytes d8) hl)⟩
end CodL
/-- the String at a is Latin-1 over a new byte[] (the heap's one new cell): the low bytes of the len chars of A from o on; every cell but a is kept -/
def Got (a : Addr) (D : Cell) (fV fC : Field) (A : Cell) (o len : Nat) (r : Option Value) (s u : State) : Prop := r = none ∧ ∃ D' V : Cell, Blank "java/lang/String" a D' u ∧ Same D D' [fV.slot, fC.slot] ∧ D'.slots[fV.slot]? = some (.ref s.heap.size) ∧ D'.slots[fC.slot]? = some (.int 0) ∧ Arr .byte s.heap.size V u ∧ V.vm = .none ∧ u.vm.findClass "[B" = some V.cls ∧ V.slots.size = len ∧ (∀ j, j < len → V.slots[j]? = some (.int (lo8 (cv A (o + j))))) ∧ (∀ (y : Addr) (c : Cell), y ≠ a → s.heap[y]? = some c → u.heap[y]? = some c) ∧ u.heap.size = s.heap.size + 1
theorem Got.mv {a : Addr} {D A : Cell} {fV fC : Field} {o len : Nat} : ∀ r (U U' V V' : State), U'.heap = U.heap → V.vm.Alike V'.vm → V'.heap = V.heap → Got a D fV fC A o len r U V → Got a D fV fC A o len r U' V' :=
  fun r U U' V V' h1 hal h2 ⟨e0, D', X, a1, a2, a3, a4, a5, a6, a7, a8, a9, a10, a11⟩ => ⟨e0, D', X, a1.mv hal h2, a2, by rw [h1]; exact a3, a4, by rw [h1]; exact a5.mv hal h2, a6, by rw [hal.findClass]; exact a7, a8, a9, by rw [h1, h2]; exact a10, by rw [h1, h2]; exact a11⟩
namespace New4
def yN : MethodName := ⟨"java/lang/String", "<init>", "([CIILjava/lang/Void;)V"⟩
abbrev yB : ByteArray := jdk_42_method_149_code
theorem d0 : decode yB 0 = .ok (.aload_n 0, 1) := by decide +kernel
theorem d1 : decode yB 1 = .ok (.invokespecial 1, 3) := by decide +kernel
theorem d4 : decode yB 4 = .ok (.iload_n 3, 1) := by decide +kernel
theorem d5 : decode yB 5 = .ok (.ifCond (.ne) 22, 3) := by decide +kernel
theorem d27 : decode yB 27 = .ok (.getstatic 38, 3) := by decide +kernel
theorem d30 : decode yB 30 = .ok (.ifCond (.eq) 28, 3) := by decide +kernel
theorem d33 : decode yB 33 = .ok (.aload_n 1, 1) := by decide +kernel
theorem d34 : decode yB 34 = .ok (.iload_n 2, 1) := by decide +kernel
theorem d35 : decode yB 35 = .ok (.iload_n 3, 1) := by decide +kernel
theorem d36 : decode yB 36 = .ok (.invokestatic 177, 3) := by decide +kernel
theorem d39 : decode yB 39 = .ok (.astore 5, 2) := by decide +kernel
theorem d41 : decode yB 41 = .ok (.aload_n 0, 1) := by decide +kernel
theorem d42 : decode yB 42 = .ok (.aload 5, 2) := by decide +kernel
theorem d44 : decode yB 44 = .ok (.iload_n 3, 1) := by decide +kernel
theorem d45 : decode yB 45 = .ok (.invokestatic 47, 3) := by decide +kernel
theorem d48 : decode yB 48 = .ok (.putfield 15, 3) := by decide +kernel
theorem d51 : decode yB 51 = .ok (.aload_n 0, 1) := by decide +kernel
theorem d52 : decode yB 52 = .ok (.aload 5, 2) := by decide +kernel
theorem d54 : decode yB 54 = .ok (.putfield 9, 3) := by decide +kernel
theorem d57 : decode yB 57 = .ok (.return_, 1) := by decide +kernel
def site : List Cond := [.fieldLink "java/lang/String" 38 "java/lang/String" "COMPACT_STRINGS" "Z", Cmp3.tab, CodL.tab, .laysFinal "java/lang/String" "java/lang/String" "value" "[B", .fieldLink "java/lang/String" 9 "java/lang/String" "value" "[B", .laysFinal "java/lang/String" "java/lang/String" "coder" "B", .fieldLink "java/lang/String" 15 "java/lang/String" "coder" "B"] ++ objW "java/lang/String" 1 ++ staticW "java/lang/String" 177 Cmp3.yN ++ staticW "java/lang/String" 47 CodL.yN
def tab : Cond := tabOf yN yB 6 none site
def P (a : Addr) (D : Cell) (fV fC : Field) (b : Addr) (A : Cell) (z : Int32) (o len : Nat) (args : Array Value) (s : State) : Prop := args = #[.ref a, .ref b, .int (Int32.ofNat o), .int (Int32.ofNat len), .null] ∧ Blank "java/lang/String" a D s ∧ Found "java/lang/String" "value" "[B" fV s ∧ Found "java/lang/String" "coder" "B" fC s ∧ Ch b A s ∧ StaticIs s "java/lang/String" "COMPACT_STRINGS" "Z" (.int z) ∧ ¬ z = 0 ∧ 0 < len ∧ o + len ≤ A.slots.size ∧ len ≤ 536870912 ∧ ∀ i, i < len → ¬ 255 < cv A (o + i)
def E (a : Addr) (D : Cell) (fV fC : Field) (A : Cell) (o len : Nat) (r : Option Value) (s u : State) : Prop := Got a D fV fC A o len r s u
/-- len > 0, no char of the range above 255: a Latin-1 String of their low bytes -/
theorem law (l : Launch) (a : Addr) (D : Cell) (fV fC : Field) (b : Addr) (A : Cell) (z : Int32) (o len : Nat) : Law l yN 5 4 2 35 yB 6 none site (P a D fV fC b A z o len) (E a D fV fC A o len) [⟨a, fC.slot⟩, ⟨a, fV.slot⟩] 1 len := by
  refine Law.of_walk (plainFor_of_name (by decide +kernel)) (by decide +kernel) (by decide +kernel) (by decide) (fun _ _ h => by rw [h.1]; rfl) (fun _ U U' hal hh h => ⟨h.1, h.2.1.mv hal hh, h.2.2.1.al hal, h.2.2.2.1.al hal, h.2.2.2.2.1.mv hal hh, h.2.2.2.2.2.1.there hal hh, h.2.2.2.2.2.2⟩) (fun r U U' V V' h1 hal h2 h => Got.mv r U U' V V' h1 hal h2 h) ?_
  intro p e s m args below meth c s₁ X0 hexec hbytes hml hret hlk hnm hown hh0 W hP
  obtain ⟨rfl, hB, f1, f2, hA, s1, hz, l0, l1, l2, hp⟩ := hP
  have a31 := hA.1.2.2.2
  have c1 : Steps p.tables e below (s₁.setTop (entryFrame m #[.ref a, .ref b, .int (Int32.ofNat o), .int (Int32.ofNat len), .null] 6)) (s₁.setTop (mkF m 0 #[.val (.ref a), .val (.ref b), .val (.int (Int32.ofNat o)), .val (.int (Int32.ofNat len)), .val .null, .unset] [])) := entry rfl
  have c2 : Steps p.tables e below (s₁.setTop (entryFrame m #[.ref a, .ref b, .int (Int32.ofNat o), .int (Int32.ofNat len), .null] 6)) (s₁.setTop (mkF m 1 #[.val (.ref a), .val (.ref b), .val (.int (Int32.ofNat o)), .val (.int (Int32.ofNat len)), .val .null, .unset] [.ref a])) := c1.trans (by
    refine XS.aloadN X0.here hexec rfl (hb hbytes d0) rfl rfl ?_
    exact Steps.refl _)
  obtain ⟨T3, X3, q3, st3⟩ := X0.oinit hexec hown (wks W (objW "java/lang/String" 1)) (g := (mkF m 1 #[.val (.ref a), .val (.ref b), .val (.int (Int32.ofNat o)), .val (.int (Int32.ofNat len)), .val .null, .unset] [.ref a])) rfl (by rw [hml]; rfl) (rest := []) rfl (hb hbytes d1) (W := 0) (by show 2 * 0 + 0 ≤ _; decide) (Nat.le_of_ble_eq_true rfl) (Nat.le_of_ble_eq_true rfl)
  have hh3 := q3.trans hh0
  have c4 : Steps p.tables e below (s₁.setTop (entryFrame m #[.ref a, .ref b, .int (Int32.ofNat o), .int (Int32.ofNat len), .null] 6)) (T3.setTop (mkF m 27 #[.val (.ref a), .val (.ref b), .val (.int (Int32.ofNat o)), .val (.int (Int32.ofNat len)), .val .null, .unset] [])) := (c2.trans (st3 _ (Steps.refl _))).trans (by
    refine XS.iloadN X3.here hexec rfl (hb hbytes d4) rfl ?_
    refine XS.ifYes X3.here hexec rfl (pc0 := 5) rfl (hb hbytes d5) rfl (i0_ne_t (nz32 (by omega) l0)) (by decide) rfl ?_
    exact Steps.refl _)
  obtain ⟨T5, X5, q5, st5⟩ := X3.sget hexec hown (wk W (.fieldLink "java/lang/String" 38 "java/lang/String" "COMPACT_STRINGS" "Z")) s1 (fun _ _ h => by rw [hh3]; exact h) (g := (mkF m 27 #[.val (.ref a), .val (.ref b), .val (.int (Int32.ofNat o)), .val (.int (Int32.ofNat len)), .val .null, .unset] [])) rfl (hb hbytes d27)
  have hh5 := q5.trans hh3
  have c6 : Steps p.tables e below (s₁.setTop (entryFrame m #[.ref a, .ref b, .int (Int32.ofNat o), .int (Int32.ofNat len), .null] 6)) (T5.setTop (mkF m 30 #[.val (.ref a), .val (.ref b), .val (.int (Int32.ofNat o)), .val (.int (Int32.ofNat len)), .val .null, .unset] [.int z])) := c4.trans (st5 _ (Steps.refl _))
  have c7 : Steps p.tables e below (s₁.setTop (entryFrame m #[.ref a, .ref b, .int (Int32.ofNat o), .int (Int32.ofNat len), .null] 6)) (T5.setTop (mkF m 36 #[.val (.ref a), .val (.ref b), .val (.int (Int32.ofNat o)), .val (.int (Int32.ofNat len)), .val .null, .unset] [.int (Int32.ofNat len), .int (Int32.ofNat o), .ref b])) := c6.trans (by
    refine XS.ifNo X5.here hexec rfl (hb hbytes d30) rfl (i0_eq_f hz) ?_
    refine XS.aloadN X5.here hexec rfl (hb hbytes d33) rfl rfl ?_
    refine XS.iloadN X5.here hexec rfl (hb hbytes d34) rfl ?_
    refine XS.iloadN X5.here hexec rfl (hb hbytes d35) rfl ?_
    exact Steps.refl _)
  obtain ⟨v8, T8, X8, E8, g8⟩ := X5.callS hexec (Cmp3.law l b A o len) hown (wks W (staticW "java/lang/String" 177 Cmp3.yN)) (wk W Cmp3.tab) (W := 0) (Nat.le_of_ble_eq_true rfl) (Nat.le_of_ble_eq_true rfl) (Nat.le_refl _) (by show 0 + len ≤ len; omega) (g := (mkF m 36 #[.val (.ref a), .val (.ref b), .val (.int (Int32.ofNat o)), .val (.int (Int32.ofNat len)), .val .null, .unset] [.int (Int32.ofNat len), .int (Int32.ofNat o), .ref b])) rfl (by rw [hml]; rfl) c7 (argsL := [.ref b, .int (Int32.ofNat o), .int (Int32.ofNat len)]) (rest := []) rfl rfl (by show 2 * 0 + 0 ≤ _; decide) (hb hbytes d36) (⟨rfl, hA.mv X5.warmed.alike hh5, l1, l2, hp⟩)
  obtain ⟨e8, z8⟩ := E8
  obtain ⟨rfl, N, n1, n2, n3, n4, n5, n6⟩ := NewArr.mv _ T5 s _ _ hh5.symm (Vm.Alike.refl _) rfl e8
  rw [hh5] at z8
  have hB1 := hB.keep X8.warmed.alike (n6 _ _ hB.1)
  have hne : s.heap.size ≠ a := (Nat.ne_of_lt (Array.getElem?_eq_some_iff.mp hB.1).1).symm
  have c9 : Steps p.tables e below (s₁.setTop (entryFrame m #[.ref a, .ref b, .int (Int32.ofNat o), .int (Int32.ofNat len), .null] 6)) (T8.setTop (mkF m 39 #[.val (.ref a), .val (.ref b), .val (.int (Int32.ofNat o)), .val (.int (Int32.ofNat len)), .val .null, .unset] [.ref s.heap.size])) := g8
  have c10 : Steps p.tables e below (s₁.setTop (entryFrame m #[.ref a, .ref b, .int (Int32.ofNat o), .int (Int32.ofNat len), .null] 6)) (T8.setTop (mkF m 45 #[.val (.ref a), .val (.ref b), .val (.int (Int32.ofNat o)), .val (.int (Int32.ofNat len)), .val .null, .val (.ref s.heap.size)] [.int (Int32.ofNat N.slots.size), .ref s.heap.size, .ref a])) := by
    have hc : Steps p.tables e below (s₁.setTop (entryFrame m #[.ref a, .ref b, .int (Int32.ofNat o), .int (Int32.ofNat len), .null] 6)) (T8.setTop (mkF m 45 #[.val (.ref a), .val (.ref b), .val (.int (Int32.ofNat o)), .val (.int (Int32.ofNat len)), .val .null, .val (.ref s.heap.size)] [.int (Int32.ofNat len), .ref s.heap.size, .ref a])) := c9.trans (by
      refine XS.astore X8.here hexec rfl (hb hbytes d39) rfl rfl rfl ?_
      refine XS.aloadN X8.here hexec rfl (hb hbytes d41) rfl rfl ?_
      refine XS.aload X8.here hexec rfl (hb hbytes d42) rfl rfl ?_
      refine XS.iloadN X8.here hexec rfl (hb hbytes d44) rfl ?_
      exact Steps.refl _)
    rw [n4]; exact hc
  obtain ⟨v11, T11, X11, E11, g11⟩ := X8.callS hexec (CodL.law l s.heap.size N) hown (wks W (staticW "java/lang/String" 47 CodL.yN)) (wk W CodL.tab) (W := 1) (Nat.le_of_ble_eq_true rfl) (Nat.le_of_ble_eq_true rfl) (Nat.le_refl _) (by show 0 + len + 0 ≤ len; omega) (g := (mkF m 45 #[.val (.ref a), .val (.ref b), .val (.int (Int32.ofNat o)), .val (.int (Int32.ofNat len)), .val .null, .val (.ref s.heap.size)] [.int (Int32.ofNat N.slots.size), .ref s.heap.size, .ref a])) rfl (by rw [hml]; rfl) c10 (argsL := [.ref s.heap.size, .int (Int32.ofNat N.slots.size)]) (rest := [.ref a]) rfl rfl (by show 2 * 0 + (1 + 0) ≤ _; decide) (hb hbytes d45) (⟨rfl, n1⟩)
  obtain ⟨rfl, q11⟩ := E11
  have hB11 := hB1.mv (X8.warmed.alike.symm.trans X11.warmed.alike) q11
  have c12 : Steps p.tables e below (s₁.setTop (entryFrame m #[.ref a, .ref b, .int (Int32.ofNat o), .int (Int32.ofNat len), .null] 6)) (T11.setTop (mkF m 48 #[.val (.ref a), .val (.ref b), .val (.int (Int32.ofNat o)), .val (.int (Int32.ofNat len)), .val .null, .val (.ref s.heap.size)] [.int 0, .ref a])) := g11
  obtain ⟨T13, X13, p13, bl13, sl13, st13⟩ := X11.finit hexec hown (wk W (.fieldLink "java/lang/String" 15 "java/lang/String" "coder" "B")) (Or.inr ⟨_, (wk W (.laysFinal "java/lang/String" "java/lang/String" "coder" "B"))⟩) (Or.inl ⟨rfl, hnm⟩) f2 (Or.inl rfl) hB11 (t := .byte) (by decide +kernel) rfl (g := (mkF m 48 #[.val (.ref a), .val (.ref b), .val (.int (Int32.ofNat o)), .val (.int (Int32.ofNat len)), .val .null, .val (.ref s.heap.size)] [.int 0, .ref a])) rfl (rest := []) rfl (hb hbytes d48)
  have c14 : Steps p.tables e below (s₁.setTop (entryFrame m #[.ref a, .ref b, .int (Int32.ofNat o), .int (Int32.ofNat len), .null] 6)) (T13.setTop (mkF m 54 #[.val (.ref a), .val (.ref b), .val (.int (Int32.ofNat o)), .val (.int (Int32.ofNat len)), .val .null, .val (.ref s.heap.size)] [.ref s.heap.size, .ref a])) := (c12.trans (st13 _ (Steps.refl _))).trans (by
    refine XS.aloadN X13.here hexec rfl (hb hbytes d51) rfl rfl ?_
    refine XS.aload X13.here hexec rfl (hb hbytes d52) rfl rfl ?_
    exact Steps.refl _)
  obtain ⟨T15, X15, p15, bl15, sl15, st15⟩ := X13.finit hexec hown (wk W (.fieldLink "java/lang/String" 9 "java/lang/String" "value" "[B")) (Or.inr ⟨_, (wk W (.laysFinal "java/lang/String" "java/lang/String" "value" "[B"))⟩) (Or.inl ⟨rfl, hnm⟩) f1 (Or.inl rfl) bl13 (t := (.array .byte)) (by decide +kernel) rfl (g := (mkF m 54 #[.val (.ref a), .val (.ref b), .val (.int (Int32.ofNat o)), .val (.int (Int32.ofNat len)), .val .null, .val (.ref s.heap.size)] [.ref s.heap.size, .ref a])) rfl (rest := []) rfl (hb hbytes d54)
  have c16 : Steps p.tables e below (s₁.setTop (entryFrame m #[.ref a, .ref b, .int (Int32.ofNat o), .int (Int32.ofNat len), .null] 6)) (T15.setTop (mkF m 57 #[.val (.ref a), .val (.ref b), .val (.int (Int32.ofNat o)), .val (.int (Int32.ofNat len)), .val .null, .val (.ref s.heap.size)] [])) := c14.trans (st15 _ (Steps.refl _))
  have ap := apart (Or.inr ⟨_, (wk W (.laysFinal "java/lang/String" "java/lang/String" "value" "[B"))⟩) (Or.inr ⟨_, (wk W (.laysFinal "java/lang/String" "java/lang/String" "coder" "B"))⟩) f1 f2 (t₁ := .array .byte) (t₂ := .byte) (by decide +kernel) (by decide +kernel) (by decide)
  have al := X8.warmed.alike.symm.trans X15.warmed.alike
  have n7 : T11.heap[s.heap.size]? = some N := by rw [q11]; exact n1.1
  exact ⟨T15, none, _, _, _, X15, by simp, rfl, by omega, (fun _ => rfl), ⟨rfl, _, N, bl15, ((Same.refl D _).set _ (by simp)).set _ (by simp), sl15, (Cell.slots_setSlot_ne _ ap).trans sl13, n1.keep al (p15.other hne (p13.other hne n7)), n2, by rw [al.findClass]; exact n3, n4, n5, fun y c h1 h2 => p15.other h1 (p13.other h1 (by rw [q11]; exact n6 y c h2)), by rw [p15.2.2, p13.2.2, q11]; exact z8⟩, fun fs hl => c16.trans (X15.returnOut hexec hret (hb hbytes d57) hl)⟩
end New4
namespace New1
def yN : MethodName := ⟨"java/lang/String", "<init>", "([C)V"⟩
abbrev yB : ByteArray := jdk_42_method_3_code
theorem d0 : decode yB 0 = .ok (.aload_n 0, 1) := by decide +kernel
theorem d1 : decode yB 1 = .ok (.aload_n 1, 1) := by decide +kernel
theorem d2 : decode yB 2 = .ok (.iconst 0, 1) := by decide +kernel
theorem d3 : decode yB 3 = .ok (.aload_n 1, 1) := by decide +kernel
theorem d4 : decode yB 4 = .ok (.arraylength, 1) := by decide +kernel
theorem d5 : decode yB 5 = .ok (.aconst_null, 1) := by decide +kernel
theorem d6 : decode yB 6 = .ok (.invokespecial 27, 3) := by decide +kernel
theorem d9 : decode yB 9 = .ok (.return_, 1) := by decide +kernel
def site : List Cond := [New4.tab] ++ initW "java/lang/String" 27 New4.yN
def tab : Cond := tabOf yN yB 2 none site
def P (a : Addr) (D : Cell) (fV fC : Field) (b : Addr) (A : Cell) (z : Int32) (args : Array Value) (s : State) : Prop := args = #[.ref a, .ref b] ∧ Blank "java/lang/String" a D s ∧ Found "java/lang/String" "value" "[B" fV s ∧ Found "java/lang/String" "coder" "B" fC s ∧ Ch b A s ∧ StaticIs s "java/lang/String" "COMPACT_STRINGS" "Z" (.int z) ∧ ¬ z = 0 ∧ 0 < A.slots.size ∧ A.slots.size ≤ 536870912 ∧ ∀ i, i < A.slots.size → ¬ 255 < cv A i
def E (a : Addr) (D : Cell) (fV fC : Field) (A : Cell) (r : Option Value) (s u : State) : Prop := Got a D fV fC A 0 A.slots.size r s u
/-- new String(chars), not empty, no char above 255: a Latin-1 String of their low bytes -/
theorem law (l : Launch) (a : Addr) (D : Cell) (fV fC : Field) (b : Addr) (A : Cell) (z : Int32) : Law l yN 2 1 3 52 yB 2 none site (P a D fV fC b A z) (E a D fV fC A) [⟨a, fC.slot⟩, ⟨a, fV.slot⟩] 1 A.slots.size := by
  refine Law.of_walk (plainFor_of_name (by decide +kernel)) (by decide +kernel) (by decide +kernel) (by decide) (fun _ _ h => by rw [h.1]; rfl) (fun _ U U' hal hh h => ⟨h.1, h.2.1.mv hal hh, h.2.2.1.al hal, h.2.2.2.1.al hal, h.2.2.2.2.1.mv hal hh, h.2.2.2.2.2.1.there hal hh, h.2.2.2.2.2.2⟩) (fun r U U' V V' h1 hal h2 h => Got.mv r U U' V V' h1 hal h2 h) ?_
  intro p e s m args below meth c s₁ X0 hexec hbytes hml hret hlk hnm hown hh0 W hP
  obtain ⟨rfl, hB, f1, f2, hA, s1, hz, l0, l2, hp⟩ := hP
  have c1 : Steps p.tables e below (s₁.setTop (entryFrame m #[.ref a, .ref b] 2)) (s₁.setTop (mkF m 0 #[.val (.ref a), .val (.ref b)] [])) := entry rfl
  have c2 : Steps p.tables e below (s₁.setTop (entryFrame m #[.ref a, .ref b] 2)) (s₁.setTop (mkF m 6 #[.val (.ref a), .val (.ref b)] [.null, .int (Int32.ofNat A.slots.size), .int 0, .ref b, .ref a])) := c1.trans (by
    refine XS.aloadN X0.here hexec rfl (hb hbytes d0) rfl rfl ?_
    refine XS.aloadN X0.here hexec rfl (hb hbytes d1) rfl rfl ?_
    refine iconstV X0.here hexec rfl 0 (hb hbytes d2) (by decide) ?_
    refine XS.aloadN X0.here hexec rfl (hb hbytes d3) rfl rfl ?_
    refine X0.alen hexec (hA.1.mv X0.warmed.alike hh0) rfl rfl (hb hbytes d4) ?_
    refine XS.aconstNull X0.here hexec rfl (hb hbytes d5) ?_
    exact Steps.refl _)
  obtain ⟨v3, T3, X3, E3, g3⟩ := X0.callN hexec (New4.law l a D fV fC b A z 0 A.slots.size) rfl hown (wks W (initW "java/lang/String" 27 New4.yN)) (W New4.tab (by simp only [site, List.mem_cons, List.mem_append, true_or, or_true])) (W := 0) (Nat.le_of_ble_eq_true rfl) (Nat.le_of_ble_eq_true rfl) (Nat.le_refl _) (by show 0 + A.slots.size ≤ A.slots.size; omega) (g := (mkF m 6 #[.val (.ref a), .val (.ref b)] [.null, .int (Int32.ofNat A.slots.size), .int (Int32.ofNat 0), .ref b, .ref a])) rfl (by rw [hml]; rfl) c2 (argsL := [.ref b, .int (Int32.ofNat 0), .int (Int32.ofNat A.slots.size), .null]) (rest := []) rfl rfl (by show 2 * 0 + 0 ≤ _; decide) (hb hbytes d6) (⟨rfl, hB.mv X0.warmed.alike hh0, f1.al X0.warmed.alike, f2.al X0.warmed.alike, hA.mv X0.warmed.alike hh0, s1.there X0.warmed.alike hh0, hz, l0, by omega, l2, fun i hi => by rw [Nat.zero_add]; exact hp i hi⟩)
  have e0 := Got.mv _ s₁ s _ _ hh0.symm (Vm.Alike.refl _) rfl E3
  obtain rfl := e0.1
  have c4 : Steps p.tables e below (s₁.setTop (entryFrame m #[.ref a, .ref b] 2)) (T3.setTop (mkF m 9 #[.val (.ref a), .val (.ref b)] [])) := g3
  exact ⟨T3, none, _, _, _, X3, by simp, rfl, by omega, (fun _ => rfl), e0, fun fs hl => c4.trans (X3.returnOut hexec hret (hb hbytes d9) hl)⟩
theorem pays {l : Launch} {R : Room} {p : Program} {e : Env} {below : List Frame} {s : State} {sargs : Array Value} {len W : Nat} (a : Addr) (D : Cell) (fV fC : Field) (b : Addr) (A : Cell) (z : Int32) (htab : tab.before sargs s = true) (hfr : 4 ≤ R.frames) (hlo : W + 65 ≤ R.locals) :
    Back l R p e below s sargs yN len W (fun A₁ a₁ => A₁.cells + 1 ≤ R.cells ∧ A₁.slots + A.slots.size ≤ R.slots ∧ P a D fV fC b A z a₁ A₁.U) (fun A₁ _ v₁ B₁ => E a D fV fC A v₁ A₁.U B₁.U ∧ B₁.locs = A₁.locs ++ [⟨a, fC.slot⟩, ⟨a, fV.slot⟩] ∧ B₁.cells = A₁.cells + 1 ∧ B₁.slots = A₁.slots + A.slots.size) :=
  (law l a D fV fC b A z).pays htab hfr (by omega)
end New1
end StrChars
namespace StrChars.Road
open Jvm Sem ClassFile Op Lib Jvm.Stand Jvm.Free Jvm.Free.XT
open Jvm.Lib.Cold (StaticIs)
abbrev ST : String := "java/lang/String"
/-- every table word that New1's law asks, flat -/
abbrev words : List Jvm.Cond := [.code New1.yN New1.yB 2 none, .initialized ST, .methodLink ST 27 New4.yN, .instanceMethod New4.yN,
  .code New4.yN New4.yB 6 none, .fieldLink ST 38 ST "COMPACT_STRINGS" "Z", .laysFinal ST ST "value" "[B", .fieldLink ST 9 ST "value" "[B", .laysFinal ST ST "coder" "B", .fieldLink ST 15 ST "coder" "B",
  .methodLink ST 1 Lib.objectInit, .instanceMethod Lib.objectInit, .code Lib.objectInit ⟨#[0xb1]⟩ 1 none, .methodLink ST 177 Cmp3.yN, .static Cmp3.yN, .methodLink ST 47 CodL.yN, .static CodL.yN,
  .code Cmp3.yN Cmp3.yB 6 (some (.array .byte)), .initialized U16, .arrayClass .byte, .methodLink U16 115 Cmp5.yN, .static Cmp5.yN, .code Cmp5.yN Cmp5.yB 7 (some .int), .code CodL.yN CodL.yB 2 (some .byte)]
theorem tab_of {a : Array Value} {s : State} (h : ∀ w ∈ words, w.before a s = true) : New1.tab.before a s = true := by
  have h5 : Cmp5.tab.before a s = true := unparts (wk h (.code Cmp5.yN Cmp5.yB 7 (some .int))) (wks h (.initialized Cmp5.yN.cls :: Cmp5.site))
  have hc : CodL.tab.before a s = true := unparts (wk h (.code CodL.yN CodL.yB 2 (some .byte))) (wks h (.initialized CodL.yN.cls :: CodL.site))
  have q5 : ∀ w ∈ Cmp5.tab :: words, w.before a s = true := fun w hw => (List.mem_cons.mp hw).elim (fun e => e ▸ h5) (h w)
  have h3 : Cmp3.tab.before a s = true := unparts (wk q5 (.code Cmp3.yN Cmp3.yB 6 (some (.array .byte)))) (wks q5 (.initialized Cmp3.yN.cls :: Cmp3.site))
  have q3 : ∀ w ∈ Cmp3.tab :: CodL.tab :: words, w.before a s = true := fun w hw => (List.mem_cons.mp hw).elim (fun e => e ▸ h3) fun hw => (List.mem_cons.mp hw).elim (fun e => e ▸ hc) (h w)
  have h4 : New4.tab.before a s = true := unparts (wk q3 (.code New4.yN New4.yB 6 none)) (wks q3 (.initialized New4.yN.cls :: New4.site))
  have q4 : ∀ w ∈ New4.tab :: words, w.before a s = true := fun w hw => (List.mem_cons.mp hw).elim (fun e => e ▸ h4) (h w)
  exact unparts (wk q4 (.code New1.yN New1.yB 2 none)) (wks q4 (.initialized New1.yN.cls :: New1.site))
/-- the words ride from the start Z to the walk's own state -/
theorem moved {Z s : State} {a0 args : Array Value} (hZ : Z.Warmed39 s.vm) (hw : ∀ d ∈ words, d.before a0 Z = true) : ∀ d ∈ words, d.before args s = true := fun d hd => by
  have q := hw d hd
  have t : ∀ d ∈ words, d = .arrayClass .byte ∨ (d.onTables && d.keepsFace) = true := by decide +kernel
  rcases t d hd with rfl | t
  · exact RoadKit.mvA hZ q
  · exact RoadKit.mv hZ q t
/-- WHAT COMES BACK, over the tables of the start Z: h the heap at the call, h' behind it -/
def Q (Z : State) (x : Addr) (A : Cell) (h : Heap) (v : Option Value) (h' : Heap) (L : List Loc) : Prop := v = none ∧ (∀ y ∈ L, y.base = x) ∧ RoadKit.Keep h h' [x] ∧ h'.size = h.size + 1 ∧ RoadKit.Exa Z h' x ST ∧ RoadKit.Fld Z h' x ST "value" "[B" (.ref h.size) ∧ RoadKit.Fld Z h' x ST "coder" "B" (.int 0) ∧
  (∃ V : Cell, RoadKit.Arr Z h' h.size V .byte ∧ V.vm = .none ∧ Z.vm.findClass "[B" = some V.cls ∧ V.slots.size = A.slots.size ∧ ∀ j, j < A.slots.size → V.slots[j]? = some (.int (lo8 (cv A j)))) ∧
  ∀ (O n d : String) (w : Value), RoadKit.Fld Z h x O n d w → RoadKit.slotOf Z O n d ≠ RoadKit.slotOf Z ST "value" "[B" → RoadKit.slotOf Z O n d ≠ RoadKit.slotOf Z ST "coder" "B" → RoadKit.Fld Z h' x O n d w
/-- **new String(chars) AT A CALL, IN THE ROAD'S FORM**: for specialBack behind newO: x the fresh String, b the char[] with the cell A -/
theorem back {p : Program} {l : Launch} {e : Env} {R : Room} {s : State} {args : Array Value} {below : List Frame} {len W : Nat} {Z : State} {a0 : Array Value} {h : Heap} (hZ : Z.Warmed39 s.vm) (hw : ∀ d ∈ words, d.before a0 Z = true) {kI : Nat} (wi : (Jvm.Cond.instantiable ST kI).before a0 Z = true)
    {x b : Addr} {A : Cell} {z : Int32} {v0 c0 : Value} (E : RoadKit.Exa Z h x ST) (V : RoadKit.Fld Z h x ST "value" "[B" v0) (C : RoadKit.Fld Z h x ST "coder" "B" c0) (K : RoadKit.Arr Z h b A .char) (hty : Typed .char A) (S : RoadKit.Sta Z h ST "COMPACT_STRINGS" "Z" (.int z)) (hz : ¬ z = 0)
    (l0 : 0 < A.slots.size) (l2 : A.slots.size ≤ 536870912) (hp : ∀ i, i < A.slots.size → ¬ 255 < cv A i) (hfr : 4 ≤ R.frames) (hlo : W + 65 ≤ R.locals) :
    Back l R p e below s args New1.yN len W (fun P a => a = #[.ref x, .ref b] ∧ P.U.heap = h ∧ P.cells + 1 ≤ R.cells ∧ P.slots + A.slots.size ≤ R.slots)
      (fun P _ v B => ∃ L, Q Z x A h v B.U.heap L ∧ B.locs = P.locs ++ L ∧ B.cells = P.cells + 1 ∧ B.slots = P.slots + A.slots.size) := by
  intro m meth c P g ig mk a X hg hsize hdg hW hn hp'
  obtain ⟨rfl, rfl, r1, r2⟩ := hp'
  have al : Z.vm.Alike P.U.vm := hZ.alike.trans X.warmed.alike
  obtain ⟨D, cfV, kV, iV, fV, hD, gV, stV, knV, obV, asV, slV⟩ := id V
  obtain ⟨D', cfC, kC, iC, fC, hD', gC, stC, -, -, asC, slC⟩ := id C
  cases hD.symm.trans hD'
  obtain ⟨D2, kD, e1, e2, e3, e4, e5⟩ := id E
  cases hD.symm.trans e1
  obtain ⟨c2, k2, i1, i2, i3, -⟩ := Cond.instantiable_spec wi
  cases e2.symm.trans i1
  cases e3.symm.trans i2
  obtain ⟨kU, u1, u2⟩ := al.2.2 _ _ e3
  have hB : Blank ST x D P.U := ⟨hD, ⟨knV, fun q hq => by rw [hq] at obV; cases obV⟩, by rw [al.findClass]; exact e2, kU, u1, by rw [u2]; exact i3, by rw [u2]; exact e5 i3⟩
  have F1 : Found ST "value" "[B" fV P.U := ⟨SBG.found_only al ⟨cfV, kV, iV, gV⟩, stV⟩
  have F2 : Found ST "coder" "B" fC P.U := ⟨SBG.found_only al ⟨cfC, kC, iC, gC⟩, stC⟩
  have hA : Ch b A P.U := ⟨⟨K.1, State.isArrayOf_alike al K.2.1, K.2.2, by omega⟩, hty⟩
  have hS : StaticIs P.U ST "COMPACT_STRINGS" "Z" (.int z) := by
    obtain ⟨cfS, iS, kS, fS, st, cS, t1, t2, t3, t4, t5, t6, t7⟩ := S
    exact StaticIs.there (s := { Z with heap := P.U.heap }) ⟨cfS, iS, kS, fS, st, cS, t1, t2, t3, t4, t5, (fun q => by rw [q] at t6; cases t6), t7⟩ al rfl
  obtain ⟨v, B, X', ⟨⟨hv, E', V', q1, q2, q3, q4, q5, q6, q7, q8, q9, q10, q11⟩, hl, hc, hs⟩, st⟩ := New1.pays x D fV fC b A z (tab_of (moved hZ hw)) hfr hlo m meth c P g ig mk _ X hg hsize hdg hW hn ⟨r1, r2, rfl, hB, F1, F2, hA, hS, hz, l0, l2, hp⟩
  have al' : Z.vm.Alike B.U.vm := hZ.alike.trans X'.warmed.alike
  have hsz : E'.slots.size = D.slots.size := by
    obtain ⟨-, -, -, kB, w1, w2, w3⟩ := q1
    obtain ⟨kB', y1, y2⟩ := al'.2.2 _ _ e3
    rw [q2.2.1] at w1
    cases w1.symm.trans y1
    rw [w3, e5 i3, y2]
  refine ⟨v, B, X', ⟨_, ⟨hv, ?_, ⟨by omega, fun y cy hy hn' => q10 y cy (by simpa using hn') hy, fun y cy hy => ?_⟩, q11, ⟨E', _, q1.1, by rw [q2.2.1]; exact e2, by rw [q2.2.1]; exact e3, by rw [q2.1]; exact obV, fun _ => by rw [hsz]; exact e5 i3⟩,
    ⟨E', cfV, kV, iV, fV, q1.1, gV, stV, by rw [q2.1]; exact knV, by rw [q2.1]; exact obV, by rw [q2.2.1]; exact asV, q3⟩, ⟨E', cfC, kC, iC, fC, q1.1, gC, stC, by rw [q2.1]; exact knV, by rw [q2.1]; exact obV, by rw [q2.2.1]; exact asC, q4⟩,
    ⟨V', ⟨q5.1, State.isArrayOf_alike al'.symm q5.2.1, q5.2.2.1⟩, q6, by rw [← al'.findClass]; exact q7, q8, fun j hj => by have := q9 j hj; rwa [Nat.zero_add] at this⟩, fun O n d w F n1 n2 => ?_⟩, hl, hc, hs⟩, st⟩
  · intro y hy
    simp only [List.mem_cons, List.not_mem_nil, or_false] at hy
    rcases hy with rfl | rfl <;> rfl
  · by_cases q : y = x
    · subst q
      cases hD.symm.trans hy
      exact ⟨E', q1.1, q2.2.1, q2.1, hsz⟩
    · exact ⟨cy, q10 y cy q hy, rfl, rfl, rfl⟩
  · obtain ⟨D3, cf, k, i, f, g1, g2, g3, g4, g5, g6, g7⟩ := F
    cases hD.symm.trans g1
    simp only [RoadKit.slotOf, g2, gV, gC, Option.map_some, Option.getD_some] at n1 n2
    exact ⟨E', cf, k, i, f, q1.1, g2, g3, by rw [q2.1]; exact g4, by rw [q2.1]; exact g5, by rw [q2.2.1]; exact g6, by rw [q2.2.2 f.slot (by simp [n1, n2])]; exact g7⟩
end StrChars.Road
namespace StrChars.Road
open Jvm Sem ClassFile Op Lib Jvm.Stand Jvm.Free Jvm.Free.XT
/-- WHAT COMES BACK, the byte[] as a list of values -/
def QA (Z : State) (x : Addr) (zn : Int32) (cs : List Int32) (h : Heap) (v : Option Value) (h' : Heap) (L : List Loc) : Prop := v = none ∧ (∀ y ∈ L, y.base = x) ∧ RoadKit.Keep h h' [x] ∧ h'.size = h.size + 1 ∧ RoadKit.Exa Z h' x ST ∧ RoadKit.Fld Z h' x ST "value" "[B" (.ref h.size) ∧ RoadKit.Fld Z h' x ST "coder" "B" (.int 0) ∧
  (∃ kb, Z.vm.findClass "[B" = some kb ∧ RoadKit.Arv Z h' h.size kb .byte zn (cs.map fun c => .int (lo8 c)) (.int 0)) ∧
  ∀ (O n d : String) (w : Value), RoadKit.Fld Z h x O n d w → RoadKit.slotOf Z O n d ≠ RoadKit.slotOf Z ST "value" "[B" → RoadKit.slotOf Z O n d ≠ RoadKit.slotOf Z ST "coder" "B" → RoadKit.Fld Z h' x O n d w
/-- **new String(chars) AT A CALL, THE ARRAYS AS LISTS**: the char[] at b holds cs, not empty, no char above 255 -/
theorem backArv {p : Program} {l : Launch} {e : Env} {R : Room} {s : State} {args : Array Value} {below : List Frame} {len W : Nat} {Z : State} {a0 : Array Value} {h : Heap} (hZ : Z.Warmed39 s.vm) (hw : ∀ d ∈ words, d.before a0 Z = true) {kI : Nat} (wi : (Jvm.Cond.instantiable ST kI).before a0 Z = true)
    {x b : Addr} {k : ClassId} {zn z : Int32} {cs : List Int32} {dv v0 c0 : Value} (E : RoadKit.Exa Z h x ST) (V : RoadKit.Fld Z h x ST "value" "[B" v0) (C : RoadKit.Fld Z h x ST "coder" "B" c0) (K : RoadKit.Arv Z h b k .char zn (cs.map Value.int) dv) (S : RoadKit.Sta Z h ST "COMPACT_STRINGS" "Z" (.int z)) (hz : ¬ z = 0)
    (hlen : zn.toNatClampNeg = cs.length) (h0 : 0 < cs.length) (hbig : cs.length ≤ 536870912) (hall : ∀ c ∈ cs, ¬ 255 < c) (hfr : 4 ≤ R.frames) (hlo : W + 65 ≤ R.locals) :
    Back l R p e below s args New1.yN len W (fun P a => a = #[.ref x, .ref b] ∧ P.U.heap = h ∧ P.cells + 1 ≤ R.cells ∧ P.slots + cs.length ≤ R.slots)
      (fun P _ v B => ∃ L, QA Z x zn cs h v B.U.heap L ∧ B.locs = P.locs ++ L ∧ B.cells = P.cells + 1 ∧ B.slots = P.slots + cs.length) := by
  obtain ⟨A, K1, K2, K3, K4, K5, K6⟩ := K
  have e : A.slots.size = cs.length := K3.trans hlen
  have hat : ∀ (i : Nat) (hi : i < cs.length), A.slots[i]? = some (.int cs[i]) := fun i hi => by rw [K5 i (by omega)]; simp [List.getD_eq_getElem?_getD, hi]
  have hcv : ∀ (i : Nat) (hi : i < cs.length), cv A i = cs[i] := fun i hi => by unfold cv; rw [hat i hi]
  have hty : Typed .char A := fun i v hv => by
    have hi : i < A.slots.size := (Array.getElem?_eq_some_iff.mp hv).1
    have q := K5 i hi
    rw [hv] at q
    rw [Option.some.inj q]
    exact K6 i hi
  refine Back.mono (back hZ hw wi E V C K1 hty S hz (by omega) (by omega) (fun i hi => by rw [hcv i (by omega)]; exact hall _ (List.getElem_mem _)) hfr hlo) (fun P a hp => ⟨hp.1, hp.2.1, hp.2.2.1, by rw [e]; exact hp.2.2.2⟩) (fun P a v B hp hq => ?_)
  obtain ⟨L, ⟨q1, q2, q3, q4, q5, q6, q7, ⟨V', v1, v2, v3, v4, v5⟩, q9⟩, hl, hc, hs⟩ := hq
  refine ⟨L, ⟨q1, q2, q3, q4, q5, q6, q7, ⟨V'.cls, v3, V', v1, rfl, by rw [v4, e, hlen], K4, fun i hi => ?_, fun i hi => ?_⟩, q9⟩, hl, hc, by rw [hs, e]⟩
  · have hi' : i < cs.length := by omega
    rw [v5 i (by omega), hcv i hi']; simp [List.getD_eq_getElem?_getD, hi']
  · have hi' : i < cs.length := by omega
    simp only [List.getD_eq_getElem?_getD, List.getElem?_map, List.getElem?_eq_getElem hi', Option.map_some, Option.getD_some]
    exact fits_lo8 _
end StrChars.Road
namespace StrChars.Road
open Jvm Sem ClassFile Op Lib Jvm.Stand Jvm.Free Jvm.Free.XT
/-- WHAT COMES BACK, in the writer's own shape -/
def QV (Z : State) (x : Addr) (N : Int32) (bs : List Int32) (h : Heap) (n0 : Nat) (v : Option Value) (h' : Heap) (L : List Loc) : Prop := v = none ∧ RoadKit.Fr n0 L ∧ RoadKit.Keep h h' [x] ∧ RoadKit.Exa Z h' x ST ∧ RoadKit.Fld Z h' x ST "coder" "B" (.int 0) ∧
  ∃ (t : Addr) (kb : ClassId), n0 ≤ t ∧ h.size ≤ t ∧ ¬ t = x ∧ RoadKit.Fld Z h' x ST "value" "[B" (.ref t) ∧ RoadKit.Arv Z h' t kb .byte N (bs.map Value.int) (.int 0)
/-- **new String(chars) AT A CALL, FOR THE WRITER**: a char[] of n known ints, each 0 to 255 -/
theorem backV {p : Program} {l : Launch} {e : Env} {R : Room} {s : State} {args : Array Value} {below : List Frame} {len W : Nat} {Z : State} {a0 : Array Value} {h : Heap} (hZ : Z.Warmed39 s.vm) (hw : ∀ d ∈ words, d.before a0 Z = true) {kI : Nat} (wi : (Jvm.Cond.instantiable ST kI).before a0 Z = true)
    {x b : Addr} {kC : ClassId} {cs bs : List Int32} {d v0 c0 : Value} {z N : Int32} {n n0 : Nat} (hx0 : n0 ≤ x) (hh0 : n0 ≤ h.size) (E : RoadKit.Exa Z h x ST) (V : RoadKit.Fld Z h x ST "value" "[B" v0) (C : RoadKit.Fld Z h x ST "coder" "B" c0) (K : RoadKit.Arv Z h b kC .char N (cs.map Value.int) d) (S : RoadKit.Sta Z h ST "COMPACT_STRINGS" "Z" (.int z)) (hz : ¬ z = 0)
    (hn : cs.length = n) (hN : N = Int32.ofNat n) (l0 : 0 < n) (l2 : n ≤ 4000) (hp : ∀ c ∈ cs, ¬ c < 0 ∧ ¬ (255 : Int32) < c) (hb : bs = cs.map (fun c => c.toInt8.toInt32)) (hfr : 4 ≤ R.frames) (hlo : W + 65 ≤ R.locals) :
    Back l R p e below s args (⟨"java/lang/String", "<init>", "([C)V"⟩ : MethodName) len W (fun P a => a = #[.ref x, .ref b] ∧ P.U.heap = h ∧ P.cells + 1 ≤ R.cells ∧ P.slots + n ≤ R.slots)
      (fun P _ v B => ∃ L, QV Z x N bs h n0 v B.U.heap L ∧ B.locs = P.locs ++ L ∧ B.cells = P.cells + 1 ∧ B.slots = P.slots + n) := by
  subst hn hN hb
  refine Back.mono (backArv hZ hw wi E V C K S hz (n32 (by omega)) l0 (by omega) (fun c hc => (hp c hc).2) hfr hlo) (fun P a hp => hp) (fun P a v B hp hq => ?_)
  obtain ⟨L, ⟨q1, q2, q3, q4, q5, q6, q7, ⟨kb, v1, v2⟩, q9⟩, hl, hc, hs⟩ := hq
  exact ⟨L, ⟨q1, fun y hy => by rw [q2 y hy]; exact hx0, q3, q5, q7, h.size, kb, hh0, Nat.le_refl _, Nat.ne_of_gt E.lt, q6, by rw [List.map_map]; exact v2⟩, hl, hc, hs⟩
end StrChars.Road
namespace StrChars
open Jvm Sem ClassFile Op Lib Jvm.Stand Jvm.Free.XT Jvm.Free.ALB Jvm.Free.JM Jvm.Free
open Jvm.Lib.Cold (StaticIs)
def hi8 (x : Int32) : Int32 := lo8 (x >>> ((8 : Int32) &&& 31))
end StrChars
namespace StrChars.Road
open Jvm Sem ClassFile Op Lib Jvm.Stand Jvm.Free Jvm.Free.XT
open Jvm.Lib.Cold (StaticIs)
/-- the bytes of the chars cs, low before high -/
def wideBytes : List Int32 → List Value
  | [] => []
  | c :: cs => .int (lo8 c) :: .int (hi8 c) :: wideBytes cs
/-- an array of N2 bytes vs codes the chars cs by the coder cd -/
def CodA (cs : List Int32) (cd N2 : Int32) (vs : List Value) : Prop := (cd = 0 ∧ N2 = Int32.ofNat cs.length ∧ vs = (cs.map fun c => Value.int (lo8 c)) ∧ ∀ c ∈ cs, ¬ 255 < c) ∨ (cd = 1 ∧ N2 = Int32.ofNat (2 * cs.length) ∧ vs = wideBytes cs ∧ ∃ c ∈ cs, 255 < c)
end StrChars.Road
namespace StrChars.Road
open Jvm Sem ClassFile Op Lib Jvm.Stand Jvm.Free Jvm.Free.XT
open Jvm.Lib.Cold (StaticIs)
/-- what backV says of its String, as the contracts of this text ask it: cs's low bytes, coder 0 -/
theorem codOf {cs : List Int32} {n : Nat} (hn : cs.length = n) (hb : ∀ c ∈ cs, ¬ 255 < c) : CodA cs 0 (Int32.ofNat n) ((cs.map lo8).map Value.int) := Or.inl ⟨rfl, by rw [hn], by simp [List.map_map, Function.comp_def], hb⟩
end StrChars.Road
end Jvm.Pilot.@@N@@
namespace Jvm.Pilot.@@N@@
open Jvm Jvm.ClassFile Sem Op Lib Jvm.Free Jvm.Stand Jvm.LawKit Jvm.RoadKit Bundle Jvm.Pilot.@@N@@.Jvm.D
section OwnGo
variable {p : Program} {e : Env} {below : List Frame} {F : State → Outcome → Prop} {m : MethodId} {c : Code} {T U V : State} {pc pc' pc2 : Nat} {Ls L' : Array Slot} {st : List Value}
/-- from here the walk comes to an end that F takes -/
def own_Go (p : Program) (e : Env) (below : List Frame) (F : State → Outcome → Prop) (U : State) : Prop := ∃ (t : State) (o : Outcome), Steps p.tables e below U t ∧ t.status = .running ∧ Ended t below o ∧ F t o
theorem own_on (h : ∀ t, Steps p.tables e below V t → Steps p.tables e below U t) (g : own_Go p e below F V) : own_Go p e below F U := by
  obtain ⟨t, o, h1, r⟩ := g; exact ⟨t, o, h t h1, r⟩
theorem own_to (h : Steps p.tables e below U V) (g : own_Go p e below F V) : own_Go p e below F U := by
  obtain ⟨t, o, h1, r⟩ := g; exact ⟨t, o, h.trans h1, r⟩
theorem own_aload_n (h : At T m c below) (hx : p.tables.exec = Jvm.exec) {k : Fin 4} {v : Value} (hd : decode c.code pc = .ok (.aload_n k, 1)) (hl : Ls[k.val]? = some (.val v)) (hv : v.isRef = true) (hp : pc + 1 = pc') (K : own_Go p e below F (T.setTop (mkF m pc' Ls (v :: st)))) : own_Go p e below F (T.setTop (mkF m pc Ls st)) := by
  subst hp; exact own_on (fun _ => XS.aloadN h hx rfl hd hl hv) K
theorem own_aload (h : At T m c below) (hx : p.tables.exec = Jvm.exec) {k : Nat} {v : Value} (hd : decode c.code pc = .ok (.aload k, 2)) (hl : Ls[k]? = some (.val v)) (hv : v.isRef = true) (hp : pc + 2 = pc') (K : own_Go p e below F (T.setTop (mkF m pc' Ls (v :: st)))) : own_Go p e below F (T.setTop (mkF m pc Ls st)) := by
  subst hp; exact own_on (fun _ => XS.aload h hx rfl hd hl hv) K
theorem own_iload_n (h : At T m c below) (hx : p.tables.exec = Jvm.exec) {k : Fin 4} {v : Int32} (hd : decode c.code pc = .ok (.iload_n k, 1)) (hl : Ls[k.val]? = some (.val (.int v))) (hp : pc + 1 = pc') (K : own_Go p e below F (T.setTop (mkF m pc' Ls (.int v :: st)))) : own_Go p e below F (T.setTop (mkF m pc Ls st)) := by
  subst hp; exact own_on (fun _ => XS.iloadN h hx rfl hd hl) K
theorem own_iload (h : At T m c below) (hx : p.tables.exec = Jvm.exec) {k : Nat} {v : Int32} (hd : decode c.code pc = .ok (.iload k, 2)) (hl : Ls[k]? = some (.val (.int v))) (hp : pc + 2 = pc') (K : own_Go p e below F (T.setTop (mkF m pc' Ls (.int v :: st)))) : own_Go p e below F (T.setTop (mkF m pc Ls st)) := by
  subst hp; exact own_on (fun _ => XS.iload h hx rfl hd hl) K
theorem own_lload_n (h : At T m c below) (hx : p.tables.exec = Jvm.exec) {k : Fin 4} {v : Int64} (hd : decode c.code pc = .ok (.lload_n k, 1)) (hl : Ls[k.val]? = some (.val (.long v))) (hp : pc + 1 = pc') (K : own_Go p e below F (T.setTop (mkF m pc' Ls (.long v :: st)))) : own_Go p e below F (T.setTop (mkF m pc Ls st)) := by
  subst hp; exact own_on (fun _ => XT.lloadN h hx rfl hd hl) K
theorem own_lload (h : At T m c below) (hx : p.tables.exec = Jvm.exec) {k : Nat} {v : Int64} (hd : decode c.code pc = .ok (.lload k, 2)) (hl : Ls[k]? = some (.val (.long v))) (hp : pc + 2 = pc') (K : own_Go p e below F (T.setTop (mkF m pc' Ls (.long v :: st)))) : own_Go p e below F (T.setTop (mkF m pc Ls st)) := by
  subst hp; exact own_on (fun _ => XT.lload h hx rfl hd hl) K
theorem own_dload_n (h : At T m c below) (hx : p.tables.exec = Jvm.exec) {k : Fin 4} {v : UInt64} (hd : decode c.code pc = .ok (.dload_n k, 1)) (hl : Ls[k.val]? = some (.val (.double v))) (hp : pc + 1 = pc') (K : own_Go p e below F (T.setTop (mkF m pc' Ls (.double v :: st)))) : own_Go p e below F (T.setTop (mkF m pc Ls st)) := by
  subst hp; exact own_on (fun _ => XS.dloadN h hx rfl hd hl) K
theorem own_dload (h : At T m c below) (hx : p.tables.exec = Jvm.exec) {k : Nat} {v : UInt64} (hd : decode c.code pc = .ok (.dload k, 2)) (hl : Ls[k]? = some (.val (.double v))) (hp : pc + 2 = pc') (K : own_Go p e below F (T.setTop (mkF m pc' Ls (.double v :: st)))) : own_Go p e below F (T.setTop (mkF m pc Ls st)) := by
  subst hp; exact own_on (fun _ => XS.dload h hx rfl hd hl) K
theorem own_iconst (h : At T m c below) (hx : p.tables.exec = Jvm.exec) {i : Int} {v : Int32} (hd : decode c.code pc = .ok (.iconst i, 1)) (hv : Int32.ofInt i = v) (hp : pc + 1 = pc') (K : own_Go p e below F (T.setTop (mkF m pc' Ls (.int v :: st)))) : own_Go p e below F (T.setTop (mkF m pc Ls st)) := by
  subst hp hv; exact own_on (fun _ => XS.iconst h hx rfl hd) K
theorem own_bipush (h : At T m c below) (hx : p.tables.exec = Jvm.exec) {i : Int} {v : Int32} (hd : decode c.code pc = .ok (.bipush i, 2)) (hv : (Int8.ofInt i).toInt32 = v) (hp : pc + 2 = pc') (K : own_Go p e below F (T.setTop (mkF m pc' Ls (.int v :: st)))) : own_Go p e below F (T.setTop (mkF m pc Ls st)) := by
  subst hp hv; exact own_on (fun _ => XS.bipush h hx rfl hd) K
theorem own_sipush (h : At T m c below) (hx : p.tables.exec = Jvm.exec) {i : Int} {v : Int32} (hd : decode c.code pc = .ok (.sipush i, 3)) (hv : (Int16.ofInt i).toInt32 = v) (hp : pc + 3 = pc') (K : own_Go p e below F (T.setTop (mkF m pc' Ls (.int v :: st)))) : own_Go p e below F (T.setTop (mkF m pc Ls st)) := by
  subst hp hv; exact own_on (fun _ => XS.sipush h hx rfl hd) K
theorem own_lconst (h : At T m c below) (hx : p.tables.exec = Jvm.exec) {k : Fin 2} {v : Int64} (hd : decode c.code pc = .ok (.lconst k, 1)) (hv : Int64.ofNat k = v) (hp : pc + 1 = pc') (K : own_Go p e below F (T.setTop (mkF m pc' Ls (.long v :: st)))) : own_Go p e below F (T.setTop (mkF m pc Ls st)) := by
  subst hp hv; exact own_on (fun _ => XT.lconst h hx rfl hd) K
theorem own_aconst_null (h : At T m c below) (hx : p.tables.exec = Jvm.exec) (hd : decode c.code pc = .ok (.aconst_null, 1)) (hp : pc + 1 = pc') (K : own_Go p e below F (T.setTop (mkF m pc' Ls (.null :: st)))) : own_Go p e below F (T.setTop (mkF m pc Ls st)) := by
  subst hp; exact own_on (fun _ => XS.aconstNull h hx rfl hd) K
theorem own_iadd (h : At T m c below) (hx : p.tables.exec = Jvm.exec) {x y : Int32} (hd : decode c.code pc = .ok (.iadd, 1)) (hp : pc + 1 = pc') (K : own_Go p e below F (T.setTop (mkF m pc' Ls (.int (x + y) :: st)))) : own_Go p e below F (T.setTop (mkF m pc Ls (.int y :: .int x :: st))) := by
  subst hp; exact own_on (fun _ => XS.iadd h hx rfl hd rfl) K
theorem own_isub (h : At T m c below) (hx : p.tables.exec = Jvm.exec) {x y : Int32} (hd : decode c.code pc = .ok (.isub, 1)) (hp : pc + 1 = pc') (K : own_Go p e below F (T.setTop (mkF m pc' Ls (.int (x - y) :: st)))) : own_Go p e below F (T.setTop (mkF m pc Ls (.int y :: .int x :: st))) := by
  subst hp; exact own_on (fun _ => XS.isub h hx rfl hd rfl) K
theorem own_imul (h : At T m c below) (hx : p.tables.exec = Jvm.exec) {x y : Int32} (hd : decode c.code pc = .ok (.imul, 1)) (hp : pc + 1 = pc') (K : own_Go p e below F (T.setTop (mkF m pc' Ls (.int (x * y) :: st)))) : own_Go p e below F (T.setTop (mkF m pc Ls (.int y :: .int x :: st))) := by
  subst hp; exact own_on (fun _ => XS.imul h hx rfl hd rfl) K
theorem own_irem (h : At T m c below) (hx : p.tables.exec = Jvm.exec) {x y : Int32} (hd : decode c.code pc = .ok (.irem, 1)) (hy : y ≠ 0) (hp : pc + 1 = pc') (K : own_Go p e below F (T.setTop (mkF m pc' Ls (.int (x % y) :: st)))) : own_Go p e below F (T.setTop (mkF m pc Ls (.int y :: .int x :: st))) := by
  subst hp; exact own_on (fun _ hr => XS.irem h hx rfl hd rfl hy (by rw [show x - x / y * y = x % y from irem_eq_mod x y]; exact hr)) K
theorem own_iand (h : At T m c below) (hx : p.tables.exec = Jvm.exec) {x y : Int32} (hd : decode c.code pc = .ok (.iand, 1)) (hp : pc + 1 = pc') (K : own_Go p e below F (T.setTop (mkF m pc' Ls (.int (x &&& y) :: st)))) : own_Go p e below F (T.setTop (mkF m pc Ls (.int y :: .int x :: st))) := by
  subst hp; exact own_on (fun _ => XS.iand h hx rfl hd rfl) K
theorem own_ior (h : At T m c below) (hx : p.tables.exec = Jvm.exec) {x y : Int32} (hd : decode c.code pc = .ok (.ior, 1)) (hp : pc + 1 = pc') (K : own_Go p e below F (T.setTop (mkF m pc' Ls (.int (x ||| y) :: st)))) : own_Go p e below F (T.setTop (mkF m pc Ls (.int y :: .int x :: st))) := by
  subst hp; exact own_on (fun _ => XT.ior h hx rfl hd rfl) K
theorem own_ishl (h : At T m c below) (hx : p.tables.exec = Jvm.exec) {x y : Int32} (hd : decode c.code pc = .ok (.ishl, 1)) (hp : pc + 1 = pc') (K : own_Go p e below F (T.setTop (mkF m pc' Ls (.int (x <<< (y &&& 31)) :: st)))) : own_Go p e below F (T.setTop (mkF m pc Ls (.int y :: .int x :: st))) := by
  subst hp; exact own_on (fun _ => XT.ishl h hx rfl hd rfl) K
theorem own_ishr (h : At T m c below) (hx : p.tables.exec = Jvm.exec) {x y : Int32} (hd : decode c.code pc = .ok (.ishr, 1)) (hp : pc + 1 = pc') (K : own_Go p e below F (T.setTop (mkF m pc' Ls (.int (x >>> (y &&& 31)) :: st)))) : own_Go p e below F (T.setTop (mkF m pc Ls (.int y :: .int x :: st))) := by
  subst hp; exact own_on (fun _ => XT.ishr h hx rfl hd rfl) K
theorem own_iushr (h : At T m c below) (hx : p.tables.exec = Jvm.exec) {x y : Int32} (hd : decode c.code pc = .ok (.iushr, 1)) (hp : pc + 1 = pc') (K : own_Go p e below F (T.setTop (mkF m pc' Ls (.int (XT.ushr x y) :: st)))) : own_Go p e below F (T.setTop (mkF m pc Ls (.int y :: .int x :: st))) := by
  subst hp; exact own_on (fun _ => XT.iushr h hx rfl hd rfl) K
theorem own_i2l (h : At T m c below) (hx : p.tables.exec = Jvm.exec) {x : Int32} (hd : decode c.code pc = .ok (.i2l, 1)) (hp : pc + 1 = pc') (K : own_Go p e below F (T.setTop (mkF m pc' Ls (.long x.toInt64 :: st)))) : own_Go p e below F (T.setTop (mkF m pc Ls (.int x :: st))) := by
  subst hp; exact own_on (fun _ => XT.i2l h hx rfl hd rfl) K
theorem own_l2i (h : At T m c below) (hx : p.tables.exec = Jvm.exec) {x : Int64} (hd : decode c.code pc = .ok (.l2i, 1)) (hp : pc + 1 = pc') (K : own_Go p e below F (T.setTop (mkF m pc' Ls (.int x.toInt32 :: st)))) : own_Go p e below F (T.setTop (mkF m pc Ls (.long x :: st))) := by
  subst hp; exact own_on (fun _ => XT.l2i h hx rfl hd rfl) K
/-- (char) x -/
def own_c (x : Int32) : Int32 := x.toUInt32.toUInt16.toUInt32.toInt32
theorem own_i2c (h : At T m c below) (hx : p.tables.exec = Jvm.exec) {x : Int32} (hd : decode c.code pc = .ok (.i2c, 1)) (hp : pc + 1 = pc') (K : own_Go p e below F (T.setTop (mkF m pc' Ls (.int (own_c x) :: st)))) : own_Go p e below F (T.setTop (mkF m pc Ls (.int x :: st))) := by
  subst hp; exact own_on (fun _ => XT.i2c h hx rfl hd rfl) K
theorem own_i2b (h : At T m c below) (hx : p.tables.exec = Jvm.exec) {x : Int32} (hd : decode c.code pc = .ok (.i2b, 1)) (hp : pc + 1 = pc') (K : own_Go p e below F (T.setTop (mkF m pc' Ls (.int x.toInt8.toInt32 :: st)))) : own_Go p e below F (T.setTop (mkF m pc Ls (.int x :: st))) := by
  subst hp; exact own_on (fun _ => XT.i2b h hx rfl hd rfl) K
theorem own_i2d (h : At T m c below) (hx : p.tables.exec = Jvm.exec) {x : Int32} (hd : decode c.code pc = .ok (.i2d, 1)) (hp : pc + 1 = pc') (K : own_Go p e below F (T.setTop (mkF m pc' Ls (.double (FP.i2d x) :: st)))) : own_Go p e below F (T.setTop (mkF m pc Ls (.int x :: st))) := by
  subst hp; exact own_on (fun _ => XS.i2dS h hx rfl hd rfl rfl) K
theorem own_l2d (h : At T m c below) (hx : p.tables.exec = Jvm.exec) {x : Int64} (hd : decode c.code pc = .ok (.l2d, 1)) (hp : pc + 1 = pc') (K : own_Go p e below F (T.setTop (mkF m pc' Ls (.double (FP.l2d x) :: st)))) : own_Go p e below F (T.setTop (mkF m pc Ls (.long x :: st))) := by
  subst hp; exact own_on (fun _ => XS.l2dS h hx rfl hd rfl rfl) K
theorem own_dneg (h : At T m c below) (hx : p.tables.exec = Jvm.exec) {x : UInt64} (hd : decode c.code pc = .ok (.dneg, 1)) (hp : pc + 1 = pc') (K : own_Go p e below F (T.setTop (mkF m pc' Ls (.double (FP.dneg x) :: st)))) : own_Go p e below F (T.setTop (mkF m pc Ls (.double x :: st))) := by
  subst hp; exact own_on (fun _ => XS.dnegS h hx rfl hd rfl rfl) K
theorem own_dcmp (h : At T m c below) (hx : p.tables.exec = Jvm.exec) {o : CmpOp} {x y : UInt64} {v : Int32} (hd : decode c.code pc = .ok (.dcmp o, 1)) (hv : cmpValue (FP.dcmp x y) o = v) (hp : pc + 1 = pc') (K : own_Go p e below F (T.setTop (mkF m pc' Ls (.int v :: st)))) : own_Go p e below F (T.setTop (mkF m pc Ls (.double y :: .double x :: st))) := by
  subst hp; exact own_on (fun _ => XS.dcmpS h hx rfl hd rfl hv) K
theorem own_dmul (h : At T m c below) (hx : p.tables.exec = Jvm.exec) {x y : UInt64} (hd : decode c.code pc = .ok (.dmul, 1)) (hn : Jvm.Free.Fl.NoNaN64 (FP.dmul x y)) (hp : pc + 1 = pc') (K : own_Go p e below F (T.setTop (mkF m pc' Ls (.double (FP.dmul x y) :: st)))) : own_Go p e below F (T.setTop (mkF m pc Ls (.double y :: .double x :: st))) := by
  subst hp; exact own_on (fun _ => XS.dmulS h hx rfl hd rfl hn rfl) K
theorem own_ddiv (h : At T m c below) (hx : p.tables.exec = Jvm.exec) {x y : UInt64} (hd : decode c.code pc = .ok (.ddiv, 1)) (hn : Jvm.Free.Fl.NoNaN64 (FP.ddiv x y)) (hp : pc + 1 = pc') (K : own_Go p e below F (T.setTop (mkF m pc' Ls (.double (FP.ddiv x y) :: st)))) : own_Go p e below F (T.setTop (mkF m pc Ls (.double y :: .double x :: st))) := by
  subst hp; exact own_on (fun _ => XS.ddivS h hx rfl hd rfl hn rfl) K
theorem own_ladd (h : At T m c below) (hx : p.tables.exec = Jvm.exec) {x y : Int64} (hd : decode c.code pc = .ok (.ladd, 1)) (hp : pc + 1 = pc') (K : own_Go p e below F (T.setTop (mkF m pc' Ls (.long (x + y) :: st)))) : own_Go p e below F (T.setTop (mkF m pc Ls (.long y :: .long x :: st))) := by
  subst hp; exact own_on (fun _ => XT.ladd h hx rfl hd rfl) K
theorem own_lsub (h : At T m c below) (hx : p.tables.exec = Jvm.exec) {x y : Int64} (hd : decode c.code pc = .ok (.lsub, 1)) (hp : pc + 1 = pc') (K : own_Go p e below F (T.setTop (mkF m pc' Ls (.long (x - y) :: st)))) : own_Go p e below F (T.setTop (mkF m pc Ls (.long y :: .long x :: st))) := by
  subst hp; exact own_on (fun _ => XT.lsub h hx rfl hd rfl) K
theorem own_lmul (h : At T m c below) (hx : p.tables.exec = Jvm.exec) {x y : Int64} (hd : decode c.code pc = .ok (.lmul, 1)) (hp : pc + 1 = pc') (K : own_Go p e below F (T.setTop (mkF m pc' Ls (.long (x * y) :: st)))) : own_Go p e below F (T.setTop (mkF m pc Ls (.long y :: .long x :: st))) := by
  subst hp; exact own_on (fun _ => XT.lmul h hx rfl hd rfl) K
theorem own_land (h : At T m c below) (hx : p.tables.exec = Jvm.exec) {x y : Int64} (hd : decode c.code pc = .ok (.land, 1)) (hp : pc + 1 = pc') (K : own_Go p e below F (T.setTop (mkF m pc' Ls (.long (x &&& y) :: st)))) : own_Go p e below F (T.setTop (mkF m pc Ls (.long y :: .long x :: st))) := by
  subst hp; exact own_on (fun _ => XT.land h hx rfl hd rfl) K
theorem own_lneg (h : At T m c below) (hx : p.tables.exec = Jvm.exec) {x : Int64} (hd : decode c.code pc = .ok (.lneg, 1)) (hp : pc + 1 = pc') (K : own_Go p e below F (T.setTop (mkF m pc' Ls (.long (-x) :: st)))) : own_Go p e below F (T.setTop (mkF m pc Ls (.long x :: st))) := by
  subst hp; exact own_on (fun _ => XT.lneg h hx rfl hd rfl) K
theorem own_lushr (h : At T m c below) (hx : p.tables.exec = Jvm.exec) {x : Int64} {y : Int32} (hd : decode c.code pc = .ok (.lushr, 1)) (hp : pc + 1 = pc') (K : own_Go p e below F (T.setTop (mkF m pc' Ls (.long (XT.ushrL x y) :: st)))) : own_Go p e below F (T.setTop (mkF m pc Ls (.int y :: .long x :: st))) := by
  subst hp; exact own_on (fun _ => XT.lushr h hx rfl hd rfl) K
theorem own_lcmp (h : At T m c below) (hx : p.tables.exec = Jvm.exec) {x y : Int64} (hd : decode c.code pc = .ok (.lcmp, 1)) (hp : pc + 1 = pc') (K : own_Go p e below F (T.setTop (mkF m pc' Ls (.int (XT.cmpL x y) :: st)))) : own_Go p e below F (T.setTop (mkF m pc Ls (.long y :: .long x :: st))) := by
  subst hp; exact own_on (fun _ => XT.lcmp h hx rfl hd rfl) K
theorem own_dup (h : At T m c below) (hx : p.tables.exec = Jvm.exec) {x : Value} (hd : decode c.code pc = .ok (.dup, 1)) (hc : x.category = 1) (hp : pc + 1 = pc') (K : own_Go p e below F (T.setTop (mkF m pc' Ls (x :: x :: st)))) : own_Go p e below F (T.setTop (mkF m pc Ls (x :: st))) := by
  subst hp; exact own_on (fun _ => XS.dup h hx rfl hd rfl hc) K
theorem own_pop (h : At T m c below) (hx : p.tables.exec = Jvm.exec) {x : Value} (hd : decode c.code pc = .ok (.pop, 1)) (hc : x.category = 1) (hp : pc + 1 = pc') (K : own_Go p e below F (T.setTop (mkF m pc' Ls st))) : own_Go p e below F (T.setTop (mkF m pc Ls (x :: st))) := by
  subst hp; exact own_on (fun _ => XT.pop h hx rfl hd rfl hc) K
theorem own_istore_n (h : At T m c below) (hx : p.tables.exec = Jvm.exec) {k : Fin 4} {x : Int32} (hd : decode c.code pc = .ok (.istore_n k, 1)) (hl : storeLocals Ls k.val (.int x) = some L') (hp : pc + 1 = pc') (K : own_Go p e below F (T.setTop (mkF m pc' L' st))) : own_Go p e below F (T.setTop (mkF m pc Ls (.int x :: st))) := by
  subst hp; exact own_on (fun _ => XS.istoreN h hx rfl hd rfl hl) K
theorem own_istore (h : At T m c below) (hx : p.tables.exec = Jvm.exec) {k : Nat} {x : Int32} (hd : decode c.code pc = .ok (.istore k, 2)) (hl : storeLocals Ls k (.int x) = some L') (hp : pc + 2 = pc') (K : own_Go p e below F (T.setTop (mkF m pc' L' st))) : own_Go p e below F (T.setTop (mkF m pc Ls (.int x :: st))) := by
  subst hp; exact own_on (fun _ => XS.istore h hx rfl hd rfl hl) K
theorem own_astore_n (h : At T m c below) (hx : p.tables.exec = Jvm.exec) {k : Fin 4} {x : Value} (hd : decode c.code pc = .ok (.astore_n k, 1)) (hv : x.isRef = true) (hl : storeLocals Ls k.val x = some L') (hp : pc + 1 = pc') (K : own_Go p e below F (T.setTop (mkF m pc' L' st))) : own_Go p e below F (T.setTop (mkF m pc Ls (x :: st))) := by
  subst hp; exact own_on (fun _ => XS.astoreN h hx rfl hd rfl hv hl) K
theorem own_astore (h : At T m c below) (hx : p.tables.exec = Jvm.exec) {k : Nat} {x : Value} (hd : decode c.code pc = .ok (.astore k, 2)) (hv : x.isRef = true) (hl : storeLocals Ls k x = some L') (hp : pc + 2 = pc') (K : own_Go p e below F (T.setTop (mkF m pc' L' st))) : own_Go p e below F (T.setTop (mkF m pc Ls (x :: st))) := by
  subst hp; exact own_on (fun _ => XS.astore h hx rfl hd rfl hv hl) K
theorem own_lstore_n (h : At T m c below) (hx : p.tables.exec = Jvm.exec) {k : Fin 4} {x : Int64} (hd : decode c.code pc = .ok (.lstore_n k, 1)) (hl : storeLocals Ls k.val (.long x) = some L') (hp : pc + 1 = pc') (K : own_Go p e below F (T.setTop (mkF m pc' L' st))) : own_Go p e below F (T.setTop (mkF m pc Ls (.long x :: st))) := by
  subst hp; exact own_on (fun _ => XT.lstoreN h hx rfl hd rfl hl) K
theorem own_lstore (h : At T m c below) (hx : p.tables.exec = Jvm.exec) {k : Nat} {x : Int64} (hd : decode c.code pc = .ok (.lstore k, 2)) (hl : storeLocals Ls k (.long x) = some L') (hp : pc + 2 = pc') (K : own_Go p e below F (T.setTop (mkF m pc' L' st))) : own_Go p e below F (T.setTop (mkF m pc Ls (.long x :: st))) := by
  subst hp; exact own_on (fun _ => XT.lstore h hx rfl hd rfl hl) K
theorem own_dstore (h : At T m c below) (hx : p.tables.exec = Jvm.exec) {k : Nat} {x : UInt64} (hd : decode c.code pc = .ok (.dstore k, 2)) (hl : storeLocals Ls k (.double x) = some L') (hp : pc + 2 = pc') (K : own_Go p e below F (T.setTop (mkF m pc' L' st))) : own_Go p e below F (T.setTop (mkF m pc Ls (.double x :: st))) := by
  subst hp; exact own_on (fun _ => XS.dstore h hx rfl hd rfl hl) K
theorem own_iinc (h : At T m c below) (hx : p.tables.exec = Jvm.exec) {k : Nat} {i : Int} {x y : Int32} (hd : decode c.code pc = .ok (.iinc k i, 3)) (hl : Ls[k]? = some (.val (.int x))) (hy : x + Int32.ofInt i = y) (hl' : storeLocals Ls k (.int y) = some L') (hp : pc + 3 = pc') (K : own_Go p e below F (T.setTop (mkF m pc' L' st))) : own_Go p e below F (T.setTop (mkF m pc Ls st)) := by
  subst hp hy; exact own_on (fun _ => XS.iinc h hx rfl hd hl hl') K
theorem own_goto (h : At T m c below) (hx : p.tables.exec = Jvm.exec) {o : Int} (hd : decode c.code pc = .ok (.goto o, 3)) (ho : 0 ≤ (pc : Int) + o) (hp : ((pc : Int) + o).toNat = pc') (K : own_Go p e below F (T.setTop (mkF m pc' Ls st))) : own_Go p e below F (T.setTop (mkF m pc Ls st)) :=
  own_on (fun _ => XS.goto h hx rfl rfl hd ho hp) K
theorem own_if (h : At T m c below) (hx : p.tables.exec = Jvm.exec) {cd : ClassFile.Cond} {x : Int32} {o : Int} (hd : decode c.code pc = .ok (.ifCond cd o, 3)) (ho : 0 ≤ (pc : Int) + o) (hp : ((pc : Int) + o).toNat = pc') (hp2 : pc + 3 = pc2)
    (Y : ifCond.holds cd x = true → own_Go p e below F (T.setTop (mkF m pc' Ls st))) (N : ifCond.holds cd x = false → own_Go p e below F (T.setTop (mkF m pc2 Ls st))) : own_Go p e below F (T.setTop (mkF m pc Ls (.int x :: st))) := by
  subst hp2
  cases hc : ifCond.holds cd x with
  | true => exact own_on (fun _ => XS.ifYes h hx rfl rfl hd rfl hc ho hp) (Y hc)
  | false => exact own_on (fun _ => XS.ifNo h hx rfl hd rfl hc) (N hc)
theorem own_icmp (h : At T m c below) (hx : p.tables.exec = Jvm.exec) {cd : ClassFile.Cond} {x y : Int32} {o : Int} (hd : decode c.code pc = .ok (.if_icmp cd o, 3)) (ho : 0 ≤ (pc : Int) + o) (hp : ((pc : Int) + o).toNat = pc') (hp2 : pc + 3 = pc2)
    (Y : if_icmp.holds cd x y = true → own_Go p e below F (T.setTop (mkF m pc' Ls st))) (N : if_icmp.holds cd x y = false → own_Go p e below F (T.setTop (mkF m pc2 Ls st))) : own_Go p e below F (T.setTop (mkF m pc Ls (.int y :: .int x :: st))) := by
  subst hp2
  cases hc : if_icmp.holds cd x y with
  | true => exact own_on (fun _ => XS.icmpYes h hx rfl rfl hd rfl hc ho hp) (Y hc)
  | false => exact own_on (fun _ => XS.icmpNo h hx rfl hd rfl hc) (N hc)
theorem own_ifeq (h : At T m c below) (hx : p.tables.exec = Jvm.exec) {x : Int32} {o : Int} (hd : decode c.code pc = .ok (.ifCond .eq o, 3)) (ho : 0 ≤ (pc : Int) + o) (hp : ((pc : Int) + o).toNat = pc') (hp2 : pc + 3 = pc2)
    (Y : x = 0 → own_Go p e below F (T.setTop (mkF m pc' Ls st))) (N : ¬ x = 0 → own_Go p e below F (T.setTop (mkF m pc2 Ls st))) : own_Go p e below F (T.setTop (mkF m pc Ls (.int x :: st))) :=
  own_if h hx hd ho hp hp2 (fun q => Y (by simpa [ifCond.holds] using q)) (fun q => N (by simpa [ifCond.holds] using q))
theorem own_ifne (h : At T m c below) (hx : p.tables.exec = Jvm.exec) {x : Int32} {o : Int} (hd : decode c.code pc = .ok (.ifCond .ne o, 3)) (ho : 0 ≤ (pc : Int) + o) (hp : ((pc : Int) + o).toNat = pc') (hp2 : pc + 3 = pc2)
    (Y : ¬ x = 0 → own_Go p e below F (T.setTop (mkF m pc' Ls st))) (N : x = 0 → own_Go p e below F (T.setTop (mkF m pc2 Ls st))) : own_Go p e below F (T.setTop (mkF m pc Ls (.int x :: st))) :=
  own_if h hx hd ho hp hp2 (fun q => Y (by simpa [ifCond.holds] using q)) (fun q => N (by simpa [ifCond.holds] using q))
theorem own_iflt (h : At T m c below) (hx : p.tables.exec = Jvm.exec) {x : Int32} {o : Int} (hd : decode c.code pc = .ok (.ifCond .lt o, 3)) (ho : 0 ≤ (pc : Int) + o) (hp : ((pc : Int) + o).toNat = pc') (hp2 : pc + 3 = pc2)
    (Y : x < 0 → own_Go p e below F (T.setTop (mkF m pc' Ls st))) (N : ¬ x < 0 → own_Go p e below F (T.setTop (mkF m pc2 Ls st))) : own_Go p e below F (T.setTop (mkF m pc Ls (.int x :: st))) :=
  own_if h hx hd ho hp hp2 (fun q => Y (of_decide_eq_true q)) (fun q => N (of_decide_eq_false q))
theorem own_ifge (h : At T m c below) (hx : p.tables.exec = Jvm.exec) {x : Int32} {o : Int} (hd : decode c.code pc = .ok (.ifCond .ge o, 3)) (ho : 0 ≤ (pc : Int) + o) (hp : ((pc : Int) + o).toNat = pc') (hp2 : pc + 3 = pc2)
    (Y : ¬ x < 0 → own_Go p e below F (T.setTop (mkF m pc' Ls st))) (N : x < 0 → own_Go p e below F (T.setTop (mkF m pc2 Ls st))) : own_Go p e below F (T.setTop (mkF m pc Ls (.int x :: st))) :=
  own_if h hx hd ho hp hp2 (fun q => Y (Int32.not_lt.mpr (of_decide_eq_true q))) (fun q => N (Int32.not_le.mp (of_decide_eq_false q)))
theorem own_ifgt (h : At T m c below) (hx : p.tables.exec = Jvm.exec) {x : Int32} {o : Int} (hd : decode c.code pc = .ok (.ifCond .gt o, 3)) (ho : 0 ≤ (pc : Int) + o) (hp : ((pc : Int) + o).toNat = pc') (hp2 : pc + 3 = pc2)
    (Y : 0 < x → own_Go p e below F (T.setTop (mkF m pc' Ls st))) (N : ¬ 0 < x → own_Go p e below F (T.setTop (mkF m pc2 Ls st))) : own_Go p e below F (T.setTop (mkF m pc Ls (.int x :: st))) :=
  own_if h hx hd ho hp hp2 (fun q => Y (of_decide_eq_true q)) (fun q => N (of_decide_eq_false q))
theorem own_ifle (h : At T m c below) (hx : p.tables.exec = Jvm.exec) {x : Int32} {o : Int} (hd : decode c.code pc = .ok (.ifCond .le o, 3)) (ho : 0 ≤ (pc : Int) + o) (hp : ((pc : Int) + o).toNat = pc') (hp2 : pc + 3 = pc2)
    (Y : ¬ 0 < x → own_Go p e below F (T.setTop (mkF m pc' Ls st))) (N : 0 < x → own_Go p e below F (T.setTop (mkF m pc2 Ls st))) : own_Go p e below F (T.setTop (mkF m pc Ls (.int x :: st))) :=
  own_if h hx hd ho hp hp2 (fun q => Y (Int32.not_lt.mpr (of_decide_eq_true q))) (fun q => N (Int32.not_le.mp (of_decide_eq_false q)))
theorem own_icmpeq (h : At T m c below) (hx : p.tables.exec = Jvm.exec) {x y : Int32} {o : Int} (hd : decode c.code pc = .ok (.if_icmp .eq o, 3)) (ho : 0 ≤ (pc : Int) + o) (hp : ((pc : Int) + o).toNat = pc') (hp2 : pc + 3 = pc2)
    (Y : x = y → own_Go p e below F (T.setTop (mkF m pc' Ls st))) (N : ¬ x = y → own_Go p e below F (T.setTop (mkF m pc2 Ls st))) : own_Go p e below F (T.setTop (mkF m pc Ls (.int y :: .int x :: st))) :=
  own_icmp h hx hd ho hp hp2 (fun q => Y (by simpa [if_icmp.holds] using q)) (fun q => N (by simpa [if_icmp.holds] using q))
theorem own_icmpne (h : At T m c below) (hx : p.tables.exec = Jvm.exec) {x y : Int32} {o : Int} (hd : decode c.code pc = .ok (.if_icmp .ne o, 3)) (ho : 0 ≤ (pc : Int) + o) (hp : ((pc : Int) + o).toNat = pc') (hp2 : pc + 3 = pc2)
    (Y : ¬ x = y → own_Go p e below F (T.setTop (mkF m pc' Ls st))) (N : x = y → own_Go p e below F (T.setTop (mkF m pc2 Ls st))) : own_Go p e below F (T.setTop (mkF m pc Ls (.int y :: .int x :: st))) :=
  own_icmp h hx hd ho hp hp2 (fun q => Y (by simpa [if_icmp.holds] using q)) (fun q => N (by simpa [if_icmp.holds] using q))
theorem own_icmplt (h : At T m c below) (hx : p.tables.exec = Jvm.exec) {x y : Int32} {o : Int} (hd : decode c.code pc = .ok (.if_icmp .lt o, 3)) (ho : 0 ≤ (pc : Int) + o) (hp : ((pc : Int) + o).toNat = pc') (hp2 : pc + 3 = pc2)
    (Y : x < y → own_Go p e below F (T.setTop (mkF m pc' Ls st))) (N : ¬ x < y → own_Go p e below F (T.setTop (mkF m pc2 Ls st))) : own_Go p e below F (T.setTop (mkF m pc Ls (.int y :: .int x :: st))) :=
  own_icmp h hx hd ho hp hp2 (fun q => Y (of_decide_eq_true q)) (fun q => N (of_decide_eq_false q))
theorem own_icmpge (h : At T m c below) (hx : p.tables.exec = Jvm.exec) {x y : Int32} {o : Int} (hd : decode c.code pc = .ok (.if_icmp .ge o, 3)) (ho : 0 ≤ (pc : Int) + o) (hp : ((pc : Int) + o).toNat = pc') (hp2 : pc + 3 = pc2)
    (Y : ¬ x < y → own_Go p e below F (T.setTop (mkF m pc' Ls st))) (N : x < y → own_Go p e below F (T.setTop (mkF m pc2 Ls st))) : own_Go p e below F (T.setTop (mkF m pc Ls (.int y :: .int x :: st))) :=
  own_icmp h hx hd ho hp hp2 (fun q => Y (Int32.not_lt.mpr (of_decide_eq_true q))) (fun q => N (Int32.not_le.mp (of_decide_eq_false q)))
theorem own_icmpgt (h : At T m c below) (hx : p.tables.exec = Jvm.exec) {x y : Int32} {o : Int} (hd : decode c.code pc = .ok (.if_icmp .gt o, 3)) (ho : 0 ≤ (pc : Int) + o) (hp : ((pc : Int) + o).toNat = pc') (hp2 : pc + 3 = pc2)
    (Y : y < x → own_Go p e below F (T.setTop (mkF m pc' Ls st))) (N : ¬ y < x → own_Go p e below F (T.setTop (mkF m pc2 Ls st))) : own_Go p e below F (T.setTop (mkF m pc Ls (.int y :: .int x :: st))) :=
  own_icmp h hx hd ho hp hp2 (fun q => Y (of_decide_eq_true q)) (fun q => N (of_decide_eq_false q))
theorem own_icmple (h : At T m c below) (hx : p.tables.exec = Jvm.exec) {x y : Int32} {o : Int} (hd : decode c.code pc = .ok (.if_icmp .le o, 3)) (ho : 0 ≤ (pc : Int) + o) (hp : ((pc : Int) + o).toNat = pc') (hp2 : pc + 3 = pc2)
    (Y : ¬ y < x → own_Go p e below F (T.setTop (mkF m pc' Ls st))) (N : y < x → own_Go p e below F (T.setTop (mkF m pc2 Ls st))) : own_Go p e below F (T.setTop (mkF m pc Ls (.int y :: .int x :: st))) :=
  own_icmp h hx hd ho hp hp2 (fun q => Y (Int32.not_lt.mpr (of_decide_eq_true q))) (fun q => N (Int32.not_le.mp (of_decide_eq_false q)))
theorem own_ifnonnull (h : At T m c below) (hx : p.tables.exec = Jvm.exec) {x : Value} (hr : x.isRef = true) {o : Int} (hd : decode c.code pc = .ok (.ifnonnull o, 3)) (ho : 0 ≤ (pc : Int) + o) (hp : ((pc : Int) + o).toNat = pc') (hp2 : pc + 3 = pc2)
    (Y : ¬ x = .null → own_Go p e below F (T.setTop (mkF m pc' Ls st))) (N : x = .null → own_Go p e below F (T.setTop (mkF m pc2 Ls st))) : own_Go p e below F (T.setTop (mkF m pc Ls (x :: st))) := by
  subst hp2
  rcases ref_cases hr with rfl | ⟨a, rfl⟩
  · exact own_on (fun _ => XT.ifnonnullNo h hx rfl hd rfl) (N rfl)
  · exact own_on (fun _ => XT.ifnonnullYes h hx rfl rfl hd rfl ho hp) (Y (fun q => nomatch q))
theorem own_ifnull (h : At T m c below) (hx : p.tables.exec = Jvm.exec) {x : Value} (hr : x.isRef = true) {o : Int} (hd : decode c.code pc = .ok (.ifnull o, 3)) (ho : 0 ≤ (pc : Int) + o) (hp : ((pc : Int) + o).toNat = pc') (hp2 : pc + 3 = pc2)
    (Y : x = .null → own_Go p e below F (T.setTop (mkF m pc' Ls st))) (N : ¬ x = .null → own_Go p e below F (T.setTop (mkF m pc2 Ls st))) : own_Go p e below F (T.setTop (mkF m pc Ls (x :: st))) := by
  subst hp2
  rcases ref_cases hr with rfl | ⟨a, rfl⟩
  · exact own_on (fun _ => XS.ifnullYes h hx rfl rfl hd rfl ho hp) (Y rfl)
  · exact own_on (fun _ => XS.ifnullNo h hx rfl hd rfl) (N (fun q => nomatch q))
theorem own_acmpeq (h : At T m c below) (hx : p.tables.exec = Jvm.exec) {x y : Value} (hr : x.isRef = true) (hr' : y.isRef = true) {o : Int} (hd : decode c.code pc = .ok (.if_acmp .eq o, 3)) (ho : 0 ≤ (pc : Int) + o) (hp : ((pc : Int) + o).toNat = pc') (hp2 : pc + 3 = pc2)
    (Y : x = y → own_Go p e below F (T.setTop (mkF m pc' Ls st))) (N : ¬ x = y → own_Go p e below F (T.setTop (mkF m pc2 Ls st))) : own_Go p e below F (T.setTop (mkF m pc Ls (y :: x :: st))) := by
  subst hp2
  by_cases q : x = y
  · exact own_on (fun _ => XT.acmpYes h hx rfl rfl hd rfl hr hr' (by simp [XT.acmp, q]) ho hp) (Y q)
  · exact own_on (fun _ => XT.acmpNo h hx rfl hd rfl hr hr' (by simp [XT.acmp, q])) (N q)
theorem own_acmpne (h : At T m c below) (hx : p.tables.exec = Jvm.exec) {x y : Value} (hr : x.isRef = true) (hr' : y.isRef = true) {o : Int} (hd : decode c.code pc = .ok (.if_acmp .ne o, 3)) (ho : 0 ≤ (pc : Int) + o) (hp : ((pc : Int) + o).toNat = pc') (hp2 : pc + 3 = pc2)
    (Y : ¬ x = y → own_Go p e below F (T.setTop (mkF m pc' Ls st))) (N : x = y → own_Go p e below F (T.setTop (mkF m pc2 Ls st))) : own_Go p e below F (T.setTop (mkF m pc Ls (y :: x :: st))) := by
  subst hp2
  by_cases q : x = y
  · exact own_on (fun _ => XT.acmpNo h hx rfl hd rfl hr hr' (by simp [XT.acmp, q])) (N q)
  · exact own_on (fun _ => XT.acmpYes h hx rfl rfl hd rfl hr hr' (by simp [XT.acmp, q]) ho hp) (Y q)
end OwnGo
section OwnEnd
variable {p : Program} {l : Launch} {e : Env} {R : Room} {s : State} {m : MethodId} {args : Array Value} {below : List Frame} {meth : Method} {c : Code} {T : State} {locs : List Loc} {cells slots : Nat} {F : State → Outcome → Prop} {pc : Nat} {Ls : Array Slot} {st : List Value}
/-- a narrow contract's walk begins -/
theorem own_enter {Q : Option Value → Heap → List Loc → Prop} {U : State} {cz sz : Nat}
    (K : ∀ F : State → Outcome → Prop, (∀ (t : State) (v : Option Value) (L : List Loc) (k n : Nat), Q v t.heap L → FrameEnd s (.returned v) t L k n → k ≤ cz → n ≤ sz → F t (.returned v)) → own_Go p e below F U) :
    ∃ (s₂ : State) (o : Outcome), Steps p.tables e below U s₂ ∧ s₂.status = .running ∧ Ended s₂ below o ∧ ∃ (v : Option Value) (L : List Loc), o = .returned v ∧ Q v s₂.heap L ∧ FrameEnd s o s₂ L cz sz := by
  obtain ⟨t, o, h1, h2, h3, v, L, k, n, rfl, hq, hf, hk, hn⟩ := K (fun t o => ∃ v L k n, o = .returned v ∧ Q v t.heap L ∧ FrameEnd s (.returned v) t L k n ∧ k ≤ cz ∧ n ≤ sz) (fun t v L k n a b c d => ⟨v, L, k, n, rfl, a, b, c, d⟩)
  exact ⟨t, _, h1, h2, h3, v, L, rfl, hq, hf.1, hf.2.1, hf.2.2.mono hk hn⟩
theorem own_ret (X : Stand p l e R s m args below meth c T locs cells slots) (hx : p.tables.exec = Jvm.exec) (hlk : meth.locks = false) {w : Value} {t : FieldType} {i : Instr} (hret : meth.sig.returnType = some t) (hn : narrow t w = w)
    (hi : (i = .ireturn ∧ (t = .int ∨ t = .boolean ∨ t = .byte ∨ t = .char ∨ t = .short) ∧ ∃ z, w = .int z) ∨ (i = .lreturn ∧ t = .long ∧ ∃ z, w = .long z) ∨ (i = .dreturn ∧ t = .double ∧ ∃ z, w = .double z) ∨ (i = .freturn ∧ t = .float ∧ ∃ z, w = .float z) ∨ (i = .areturn ∧ t.isReference = true ∧ w.isRef = true))
    (hd : decode c.code pc = .ok (i, 1)) (K : ∀ t : State, t.heap = T.heap → FrameEnd s (.returned (some w)) t locs cells slots → F t (.returned (some w))) : own_Go p e below F (T.setTop (mkF m pc Ls (w :: st))) := by
  obtain ⟨fs, hr, hrun, hended, hW, hsame⟩ := X.leave (v := some w) (fun h => by rw [hret] at h; cases h) hlk
  exact ⟨_, _, retOut X hx hret hn hi hd hr, hrun, hended, K _ rfl ⟨⟨_, rfl⟩, hW, hsame⟩⟩
theorem own_retI (X : Stand p l e R s m args below meth c T locs cells slots) (hx : p.tables.exec = Jvm.exec) (hlk : meth.locks = false) {z : Int32} (hret : meth.sig.returnType = some .int) (hd : decode c.code pc = .ok (.ireturn, 1)) (K : ∀ t : State, t.heap = T.heap → FrameEnd s (.returned (some (.int z))) t locs cells slots → F t (.returned (some (.int z)))) : own_Go p e below F (T.setTop (mkF m pc Ls (.int z :: st))) :=
  own_ret X hx hlk hret rfl (Or.inl ⟨rfl, Or.inl rfl, _, rfl⟩) hd K
theorem own_retZ (X : Stand p l e R s m args below meth c T locs cells slots) (hx : p.tables.exec = Jvm.exec) (hlk : meth.locks = false) {z : Int32} (hz : z = 0 ∨ z = 1) (hret : meth.sig.returnType = some .boolean) (hd : decode c.code pc = .ok (.ireturn, 1)) (K : ∀ t : State, t.heap = T.heap → FrameEnd s (.returned (some (.int z))) t locs cells slots → F t (.returned (some (.int z)))) : own_Go p e below F (T.setTop (mkF m pc Ls (.int z :: st))) :=
  own_ret X hx hlk hret (by rcases hz with rfl | rfl <;> rfl) (Or.inl ⟨rfl, Or.inr (Or.inl rfl), _, rfl⟩) hd K
theorem own_retC (X : Stand p l e R s m args below meth c T locs cells slots) (hx : p.tables.exec = Jvm.exec) (hlk : meth.locks = false) {z : Int32} (hz : narrow .char (.int z) = .int z) (hret : meth.sig.returnType = some .char) (hd : decode c.code pc = .ok (.ireturn, 1)) (K : ∀ t : State, t.heap = T.heap → FrameEnd s (.returned (some (.int z))) t locs cells slots → F t (.returned (some (.int z)))) : own_Go p e below F (T.setTop (mkF m pc Ls (.int z :: st))) :=
  own_ret X hx hlk hret hz (Or.inl ⟨rfl, Or.inr (Or.inr (Or.inr (Or.inl rfl))), _, rfl⟩) hd K
theorem own_retA (X : Stand p l e R s m args below meth c T locs cells slots) (hx : p.tables.exec = Jvm.exec) (hlk : meth.locks = false) {w : Value} {t : FieldType} (hret : meth.sig.returnType = some t) (ht : t.isReference = true) (hw : w.isRef = true) (hd : decode c.code pc = .ok (.areturn, 1)) (K : ∀ t : State, t.heap = T.heap → FrameEnd s (.returned (some w)) t locs cells slots → F t (.returned (some w))) : own_Go p e below F (T.setTop (mkF m pc Ls (w :: st))) :=
  own_ret X hx hlk hret (by rcases ref_cases hw with rfl | ⟨a, rfl⟩ <;> cases t <;> first | rfl | (cases ht; done)) (Or.inr (Or.inr (Or.inr (Or.inr ⟨rfl, ht, hw⟩)))) hd K
theorem own_retV (X : Stand p l e R s m args below meth c T locs cells slots) (hx : p.tables.exec = Jvm.exec) (hlk : meth.locks = false) (hret : meth.sig.returnType = none) (hd : decode c.code pc = .ok (.return_, 1)) (K : ∀ t : State, t.heap = T.heap → FrameEnd s (.returned none) t locs cells slots → F t (.returned none)) : own_Go p e below F (T.setTop (mkF m pc Ls [])) := by
  obtain ⟨fs, hr, hrun, hended, hW, hsame⟩ := X.leave (v := none) (fun _ => rfl) hlk
  exact ⟨_, _, X.returnOut hx hret hd hr, hrun, hended, K _ rfl ⟨⟨_, rfl⟩, hW, hsame⟩⟩
end OwnEnd
end Jvm.Pilot.@@N@@
namespace Jvm.Pilot.@@N@@
open Jvm Jvm.ClassFile Sem Op Lib Jvm.Free Jvm.Stand Jvm.LawKit Jvm.RoadKit Bundle Jvm.Pilot.@@N@@.Jvm.D
/-- a narrow contract, from its walk -/
theorem own_walkN {l : Launch} {y : MethodName} {bytes : ByteArray} {maxL : Nat} {ret : Option FieldType} {ws : List Jvm.Cond} {rm : Room} {Z : State} {as' : Array Value} {h : Heap} {Q : Option Value → Heap → List Loc → Prop} (hpl : plainName y.cls = true)
    (K : ∀ (p : Program) (e : Env) (s : State) (m : MethodId) (below : List Frame) (meth : Method) (c : Code) (T : State), Stand p l e rm s m as' below meth c T [] 0 0 → p.tables.exec = Jvm.exec → c.code = bytes → c.maxLocals = maxL → meth.sig.returnType = ret → meth.locks = false → meth.name = y.name → s.vm.findClass y.cls = some m.cls → Z.Warmed39 s.vm → T.heap = h → s.heap = h →
      ∀ F : State → Outcome → Prop, (∀ (t : State) (v : Option Value) (L : List Loc) (k n : Nat), Q v t.heap L → FrameEnd s (.returned v) t L k n → k ≤ rm.cells → n ≤ rm.slots → F t (.returned v)) → own_Go p e below F (T.setTop (entryFrame m as' maxL))) :
    MetFree l y (head1 (Jvm.Cond.code y bytes maxL ret :: ws) rm) (fun a U => a = as' ∧ Z.Warmed39 U.vm ∧ U.heap = h) (fun _ _ _ _ _ => True) (fun _ U o U' => ∃ v L, o = .returned v ∧ Q v U'.heap L ∧ FrameEnd U o U' L rm.cells rm.slots) := by
  refine MetFree.of_bodySF (plainFor_of_name hpl) hisR ?_
  intro p e s m args below meth c s₁ Bd hml0 hP hK
  obtain ⟨rfl, hZ, hh⟩ := hP
  exact own_enter (fun F hF => K p e s m below meth c s₁ (Stand.of_body Bd) Bd.exec Bd.bytes hml0 Bd.returns (BodyLoose.notSynchronized Bd) (name_of_methodNamed Bd.named Bd.method).1 (findClass_of_methodNamed Bd.named) hZ (by rw [← hh, Bd.state]; rfl) hh F hF)
end Jvm.Pilot.@@N@@
namespace Jvm.Pilot.@@N@@
open Jvm Jvm.ClassFile Sem Op Lib Jvm.Free Jvm.Stand Jvm.LawKit Jvm.RoadKit Bundle Jvm.Pilot.@@N@@.Jvm.D
/-- getstatic through a nest-mate's entry -/
theorem own_getSN {p : Program} {l : Launch} {e : Env} {R : Room} {s : State} {m : MethodId} {args : Array Value} {below : List Frame} {meth : Method} {c : Code} {T : State} {locs : List Loc} {cells slots : Nat} {Z : State} {a0 : Array Value} {h : Heap}
    (X : Stand p l e R s m args below meth c T locs cells slots) (hx : p.tables.exec = Jvm.exec) (hZ : Z.Warmed39 s.vm) {own O n d host : String} {index : Nat} (hown : s.vm.findClass own = some m.cls) (w : (Jvm.Cond.fieldLinkNest own index O n d host).before a0 Z = true)
    (eT : T.heap = h) {v : Value} (F : Sta Z h O n d v) {g : JFrame} (hg : g.method = m) (hd : decode c.code g.pc = .ok (.getstatic index, 3)) : ∃ T', Stand p l e R s m args below meth c T' locs cells slots ∧ T'.heap = h ∧ ∀ target, Steps p.tables e below (T'.setTop { g with pc := g.pc + 3, stack := v :: g.stack }) target → Steps p.tables e below (T.setTop g) target := by
  obtain ⟨cf, i, k, f, st, cell, h1, h2, h3, h4, h5, h6, h7⟩ := F
  obtain ⟨k', hi, ek⟩ := State.fieldFound?_setVm (s := Z) hZ.alike h1
  obtain ⟨vm', X', stp⟩ := X.getstaticNest hx hown (mvN hZ w) hi h2 (by rw [ek]; exact h3) (a₁ := st) (by rw [ek]; exact h4) (by rw [eT]; exact h5) (fun q => by rw [q] at h6; cases h6) h7 hg hd
  exact ⟨_, X', eT, stp⟩
end Jvm.Pilot.@@N@@
namespace Jvm.Pilot.@@N@@
open Jvm Jvm.ClassFile Sem Op Lib Jvm.Free Jvm.Stand Jvm.LawKit Jvm.RoadKit Bundle Jvm.Pilot.@@N@@.Jvm.D
theorem own_fldnull {Z : State} {args : Array Value} {t : Term} {C n d : String} {a : Addr} (ev : t.eval args Z none [] Z = some (.ref a)) (h : (Jvm.Cond.eq (.field t C n d) .null).value args Z none Z [] = some true) : Fld Z Z.heap a C n d .null := by
  cases hf : Z.fieldOf? a C n d with
  | none => simp [Cond.value, Term.eval, ev, hf] at h
  | some v =>
    cases v <;> simp [Cond.value, Term.eval, ev, hf] at h
    exact Fld.start hf
end Jvm.Pilot.@@N@@
namespace Jvm.Pilot.@@N@@
open Jvm Jvm.ClassFile Sem Op Lib Jvm.Free Jvm.Stand Jvm.LawKit Jvm.RoadKit Bundle Jvm.Pilot.@@N@@.Jvm.D
section OwnWide
variable {p : Program} {l : Launch} {e : Env} {R : Room} {s : State} {m : MethodId} {args : Array Value} {below : List Frame} {meth : Method} {c : Code} {T : State} {locs : List Loc} {cells slots : Nat} {F : State → Outcome → Prop} {pc : Nat} {Ls : Array Slot} {st : List Value}
  {Z : State} {a0 : Array Value} {EL : List (String × Nat)} {vm vm0 vm1 : Vm} {h h' h2 : Heap} {own : String} {ws : List Addr} {a : Addr} {sl : Nat} {v : Value}
theorem own_ext_refl (h : Heap) : Ext h h := ⟨Nat.le_refl _, fun _ _ q => q⟩
theorem own_ext_trans (A : Ext h h') (B : Ext h' h2) : Ext h h2 := ⟨Nat.le_trans A.1 B.1, fun x c q => B.2 x c (A.2 x c q)⟩
theorem own_ext_keep (A : Ext h h') (K : Keep h' h2 ws) (q : ∀ x ∈ ws, h.size ≤ x) : Ext h h2 :=
  ⟨Nat.le_trans A.1 K.1, fun x c r => K.2.1 x c (A.2 x c r) fun z => absurd (Array.getElem?_eq_some_iff.mp r).1 (Nat.not_lt.mpr (q x z))⟩
theorem own_ext_wr (A : Ext h h') (W : Wr h' h2 a sl v) (q : h.size ≤ a) : Ext h h2 := own_ext_keep A (Keep.of_wr W) fun x hx => by cases List.mem_singleton.mp hx; exact q
theorem own_keep_ext (E : Ext h h') : Keep h h' ws := ⟨E.1, fun x c q _ => E.2 x c q, fun x c q => ⟨c, E.2 x c q, rfl, rfl, rfl⟩⟩
theorem own_since0 (s : State) : s.Since s.vm 0 := (State.WarmedH.refl s).since 0
/-- what a walk that may intern bears: the tables vm since s, the heap h -/
def own_I (s Z : State) (EL : List (String × Nat)) (vm : Vm) (h : Heap) (own : String) (m : MethodId) : Prop :=
  Z.Warmed39 vm ∧ vm.findClass own = some m.cls ∧ (∃ k0, s.Since vm k0 ∧ k0 ≤ h.size) ∧ CHr Z EL s.vm s.heap vm h
theorem own_I.ext (I : own_I s Z EL vm h own m) (E : Ext h h') : own_I s Z EL vm h' own m := by
  obtain ⟨i1, i2, ⟨k, i3, i4⟩, i5⟩ := I
  exact ⟨i1, i2, ⟨k, i3, Nat.le_trans i4 E.1⟩, i5.trans (CHr.ext E i5.1)⟩
theorem own_I.wr (I : own_I s Z EL vm h own m) (W : Wr h h' a sl v) (S : Safe Z EL vm h a) : own_I s Z EL vm h' own m := by
  obtain ⟨i1, i2, ⟨k, i3, i4⟩, i5⟩ := I
  exact ⟨i1, i2, ⟨k, i3, by rw [W.size]; exact i4⟩, i5.trans (CHr.wr W S i5.1)⟩
theorem own_I.keep (I : own_I s Z EL vm h own m) (K : Keep h h' ws) (S : ∀ x ∈ ws, Safe Z EL vm h x) : own_I s Z EL vm h' own m := by
  obtain ⟨i1, i2, ⟨k, i3, i4⟩, i5⟩ := I
  exact ⟨i1, i2, ⟨k, i3, Nat.le_trans i4 K.1⟩, i5.trans (CHr.keep K S i5.1)⟩
theorem own_I.later (I : own_I s Z EL vm0 h own m) {n : Nat} (S : (s.setVm vm0).Since vm1 n) (hn : n ≤ h'.size) (hg : h.size ≤ n) (C : CHr Z EL vm0 h vm1 h') : own_I s Z EL vm1 h' own m := by
  obtain ⟨i1, i2, ⟨k, i3, i4⟩, i5⟩ := I
  exact ⟨State.Warmed39.trans (t := s.setVm vm0) i1 S.1, (S.1.alike.findClass _ _).trans i2, ⟨n, i3.trans S (Nat.le_trans i4 hg), hn⟩, i5.trans C⟩
theorem own_I.safe (I : own_I s Z EL vm h own m) {x : Addr} (hx : x < s.heap.size) (S : Safe Z EL s.vm s.heap x) : Safe Z EL vm h x := I.2.2.2.safe hx S
theorem own_I.ch (I : own_I s Z EL vm h own m) : CHv Z EL vm h := I.2.2.2.1
/-- a wide contract's use -/
theorem own_backW {y : MethodName} {bytes : ByteArray} {maxL : Nat} {ret : Option FieldType} {rm : Room} {len W : Nat} {as' : Array Value} {sf : List Addr} {Q : Option Value → Heap → List Loc → Prop}
    (hM : MetFree l y (head1 [Jvm.Cond.code y bytes maxL ret] rm) (fun a U => a = as' ∧ Z.Warmed39 U.vm ∧ U.heap = h ∧ CHv Z EL U.vm h ∧ ∀ x ∈ sf, Safe Z EL U.vm h x) (fun _ _ _ _ _ => True) (fun _ U o U' => ∃ v L, o = .returned v ∧ Q v U'.heap L ∧ CHr Z EL U.vm U.heap U'.vm U'.heap ∧ ReturnedEndW U o U' L rm.cells rm.slots))
    (hZ : Z.Warmed39 vm0) (wc : (Jvm.Cond.code y bytes maxL ret).before a0 Z = true) (wz : (Jvm.Cond.initialized y.cls).before a0 Z = true) (hf : rm.frames + 1 ≤ R.frames) (hl : W + (maxL + 11) + rm.locals ≤ R.locals) (hEL : EW Z a0 EL) (H : CHv Z EL vm0 h) (HS : ∀ x ∈ sf, x < h.size ∧ Safe Z EL vm0 h x) :
    BackS l R p e below (s.setVm vm0) args y len W (fun A a => a = as' ∧ A.U.heap = h ∧ A.cells + rm.cells ≤ R.cells ∧ A.slots + rm.slots ≤ R.slots)
      (fun A _ v B => ∃ L, Q v B.U.heap L ∧ B.locs = A.locs ++ L ∧ B.cells = A.cells + rm.cells ∧ B.slots = A.slots + rm.slots ∧ CHr Z EL vm0 h B.U.vm B.U.heap) :=
  BackS.of_freeW (bytes := bytes) (maxL := maxL) (ret := ret) (E := fun _ first o t L k n => k = rm.cells ∧ n = rm.slots ∧ (∃ v, o = .returned v ∧ Q v t.heap L) ∧ CHr Z EL first.vm first.heap t.vm t.heap) hM hf hl
    (fun m meth c A a Y hp => have hU : Z.Warmed39 A.U.vm := wtrans (s := s.setVm vm0) hZ Y.warmed
      ⟨by show (Jvm.Cond.and _ .tt).before a A.U = true; rw [Cond.before_and, mv hU wc]; rfl, mv hU wc, mv hU wz, hp.2.2.1, hp.2.2.2⟩)
    (fun m meth c A a g mk Y hp => ⟨hp.1, wtrans (s := s.setVm vm0) hZ Y.warmed, hp.2.1, (CHv.at Y hZ hEL H).1, fun x hx => (CHv.at Y hZ hEL H).safe (HS x hx).1 (HS x hx).2⟩) (fun _ _ _ _ _ _ _ _ _ => trivial)
    (fun _ _ _ _ ⟨v, L, h1, h2, h3, h4⟩ => ⟨L, _, _, h4, rfl, rfl, ⟨v, h1, h2⟩, h3⟩)
    (fun m meth c A a g mk v t L k n Y hp _ _ ⟨e1, e2, ⟨v', e3, e4⟩, e5⟩ => by
      cases e3; subst e1 e2
      refine ⟨L, e4, rfl, rfl, rfl, (CHv.at Y hZ hEL H).trans ?_⟩
      rw [← hp.2.1]; exact e5)
theorem own_enterW {Q : Option Value → Heap → List Loc → Prop} {U : State} {cz sz : Nat}
    (K : ∀ F : State → Outcome → Prop, (∀ (t : State) (v : Option Value) (L : List Loc) (k n : Nat), Q v t.heap L → CHr Z EL s.vm s.heap t.vm t.heap → ReturnedEndW s (.returned v) t L k n → k ≤ cz → n ≤ sz → F t (.returned v)) → own_Go p e below F U) :
    ∃ (s₂ : State) (o : Outcome), Steps p.tables e below U s₂ ∧ s₂.status = .running ∧ Ended s₂ below o ∧ ∃ (v : Option Value) (L : List Loc), o = .returned v ∧ Q v s₂.heap L ∧ CHr Z EL s.vm s.heap s₂.vm s₂.heap ∧ ReturnedEndW s o s₂ L cz sz := by
  obtain ⟨t, o, h1, h2, h3, v, L, k, n, rfl, hq, hc, hf, hk, hn⟩ := K (fun t o => ∃ v L k n, o = .returned v ∧ Q v t.heap L ∧ CHr Z EL s.vm s.heap t.vm t.heap ∧ ReturnedEndW s (.returned v) t L k n ∧ k ≤ cz ∧ n ≤ sz) (fun t v L k n a b c d f => ⟨v, L, k, n, rfl, a, b, c, d, f⟩)
  exact ⟨t, _, h1, h2, h3, v, L, rfl, hq, hc, hf.1, hf.2.1, hf.2.2.1, hf.2.2.2.mono hk hn⟩
/-- a wide contract, from its walk -/
theorem own_walkW {y : MethodName} {bytes : ByteArray} {maxL : Nat} {ret : Option FieldType} {wl : List Jvm.Cond} {rm : Room} {as' : Array Value} {sf : List Addr} {Q : Option Value → Heap → List Loc → Prop} (hpl : plainName y.cls = true)
    (K : ∀ (p : Program) (e : Env) (s : State) (m : MethodId) (below : List Frame) (meth : Method) (c : Code) (T : State), Stand p l e rm (s.setVm s.vm) m as' below meth c T [] 0 0 → p.tables.exec = Jvm.exec → c.code = bytes → c.maxLocals = maxL → meth.sig.returnType = ret → meth.locks = false → meth.name = y.name → s.heap = h → T.heap = h → own_I s Z EL s.vm h y.cls m → (∀ x ∈ sf, Safe Z EL s.vm h x) →
      ∀ F : State → Outcome → Prop, (∀ (t : State) (v : Option Value) (L : List Loc) (k n : Nat), Q v t.heap L → CHr Z EL s.vm s.heap t.vm t.heap → ReturnedEndW s (.returned v) t L k n → k ≤ rm.cells → n ≤ rm.slots → F t (.returned v)) → own_Go p e below F (T.setTop (entryFrame m as' maxL))) :
    MetFree l y (head1 (Jvm.Cond.code y bytes maxL ret :: wl) rm) (fun a U => a = as' ∧ Z.Warmed39 U.vm ∧ U.heap = h ∧ CHv Z EL U.vm h ∧ ∀ x ∈ sf, Safe Z EL U.vm h x) (fun _ _ _ _ _ => True) (fun _ U o U' => ∃ v L, o = .returned v ∧ Q v U'.heap L ∧ CHr Z EL U.vm U.heap U'.vm U'.heap ∧ ReturnedEndW U o U' L rm.cells rm.slots) := by
  refine MetFree.of_bodySF (plainFor_of_name hpl) hisR ?_
  intro p e s m args below meth c s₁ Bd hml0 hP hK
  obtain ⟨rfl, hZ, hh, hC, hsf⟩ := hP
  have X0 : Stand p l e rm s m args below meth c s₁ [] 0 0 := Stand.of_body Bd
  refine own_enterW (fun F hF => K p e s m below meth c s₁ X0 Bd.exec Bd.bytes hml0 Bd.returns (BodyLoose.notSynchronized Bd) (name_of_methodNamed Bd.named Bd.method).1 hh (by rw [← hh, Bd.state]; rfl) ⟨hZ, findClass_of_methodNamed Bd.named, ⟨0, own_since0 s, Nat.zero_le _⟩, ?_⟩ hsf F hF)
  rw [hh]; exact CHr.refl hC
theorem own_retW (X : Stand p l e R (s.setVm vm) m args below meth c T locs cells slots) (hx : p.tables.exec = Jvm.exec) (hlk : meth.locks = false) (hEL : EW Z a0 EL) (I : own_I s Z EL vm h own m) (eT : T.heap = h) {w : Value} {t : FieldType} {i : Instr} (hret : meth.sig.returnType = some t) (hn : narrow t w = w)
    (hi : (i = .ireturn ∧ (t = .int ∨ t = .boolean ∨ t = .byte ∨ t = .char ∨ t = .short) ∧ ∃ z, w = .int z) ∨ (i = .lreturn ∧ t = .long ∧ ∃ z, w = .long z) ∨ (i = .dreturn ∧ t = .double ∧ ∃ z, w = .double z) ∨ (i = .freturn ∧ t = .float ∧ ∃ z, w = .float z) ∨ (i = .areturn ∧ t.isReference = true ∧ w.isRef = true))
    (hd : decode c.code pc = .ok (i, 1)) (K : ∀ t : State, t.heap = h → CHr Z EL s.vm s.heap t.vm t.heap → ReturnedEndW s (.returned (some w)) t locs cells slots → F t (.returned (some w))) : own_Go p e below F (T.setTop (mkF m pc Ls (w :: st))) := by
  obtain ⟨i1, i2, ⟨k, i3, i4⟩, i5⟩ := I
  obtain ⟨fs, hr, hrun, hended, hE⟩ := X.leaveW i3 (by rw [eT]; exact i4) (v := some w) (fun h => by rw [hret] at h; cases h) hlk
  refine ⟨_, _, retOut X hx hret hn hi hd hr, hrun, hended, K _ eT ?_ hE⟩
  show CHr Z EL s.vm s.heap T.vm T.heap
  rw [eT]; exact i5.trans (CHv.at X i1 hEL i5.1)
theorem own_retVW (X : Stand p l e R (s.setVm vm) m args below meth c T locs cells slots) (hx : p.tables.exec = Jvm.exec) (hlk : meth.locks = false) (hEL : EW Z a0 EL) (I : own_I s Z EL vm h own m) (eT : T.heap = h) (hret : meth.sig.returnType = none)
    (hd : decode c.code pc = .ok (.return_, 1)) (K : ∀ t : State, t.heap = h → CHr Z EL s.vm s.heap t.vm t.heap → ReturnedEndW s (.returned none) t locs cells slots → F t (.returned none)) : own_Go p e below F (T.setTop (mkF m pc Ls [])) := by
  obtain ⟨i1, i2, ⟨k, i3, i4⟩, i5⟩ := I
  obtain ⟨fs, hr, hrun, hended, hE⟩ := X.leaveW i3 (by rw [eT]; exact i4) (v := none) (fun _ => rfl) hlk
  refine ⟨_, _, X.returnOut hx hret hd hr, hrun, hended, K _ eT ?_ hE⟩
  show CHr Z EL s.vm s.heap T.vm T.heap
  rw [eT]; exact i5.trans (CHv.at X i1 hEL i5.1)
theorem own_retAW (X : Stand p l e R (s.setVm vm) m args below meth c T locs cells slots) (hx : p.tables.exec = Jvm.exec) (hlk : meth.locks = false) (hEL : EW Z a0 EL) (I : own_I s Z EL vm h own m) (eT : T.heap = h) {w : Value} {t : FieldType} (hret : meth.sig.returnType = some t) (ht : t.isReference = true) (hw : w.isRef = true)
    (hd : decode c.code pc = .ok (.areturn, 1)) (K : ∀ t : State, t.heap = h → CHr Z EL s.vm s.heap t.vm t.heap → ReturnedEndW s (.returned (some w)) t locs cells slots → F t (.returned (some w))) : own_Go p e below F (T.setTop (mkF m pc Ls (w :: st))) :=
  own_retW X hx hlk hEL I eT hret (by rcases ref_cases hw with rfl | ⟨a, rfl⟩ <;> cases t <;> first | rfl | (cases ht; done)) (Or.inr (Or.inr (Or.inr (Or.inr ⟨rfl, ht, hw⟩)))) hd K
theorem own_retIW (X : Stand p l e R (s.setVm vm) m args below meth c T locs cells slots) (hx : p.tables.exec = Jvm.exec) (hlk : meth.locks = false) (hEL : EW Z a0 EL) (I : own_I s Z EL vm h own m) (eT : T.heap = h) {z : Int32} (hret : meth.sig.returnType = some .int)
    (hd : decode c.code pc = .ok (.ireturn, 1)) (K : ∀ t : State, t.heap = h → CHr Z EL s.vm s.heap t.vm t.heap → ReturnedEndW s (.returned (some (.int z))) t locs cells slots → F t (.returned (some (.int z)))) : own_Go p e below F (T.setTop (mkF m pc Ls (.int z :: st))) :=
  own_retW X hx hlk hEL I eT hret rfl (Or.inl ⟨rfl, Or.inl rfl, _, rfl⟩) hd K
theorem own_retZW (X : Stand p l e R (s.setVm vm) m args below meth c T locs cells slots) (hx : p.tables.exec = Jvm.exec) (hlk : meth.locks = false) (hEL : EW Z a0 EL) (I : own_I s Z EL vm h own m) (eT : T.heap = h) {z : Int32} (hz : z = 0 ∨ z = 1) (hret : meth.sig.returnType = some .boolean)
    (hd : decode c.code pc = .ok (.ireturn, 1)) (K : ∀ t : State, t.heap = h → CHr Z EL s.vm s.heap t.vm t.heap → ReturnedEndW s (.returned (some (.int z))) t locs cells slots → F t (.returned (some (.int z)))) : own_Go p e below F (T.setTop (mkF m pc Ls (.int z :: st))) :=
  own_retW X hx hlk hEL I eT hret (by rcases hz with rfl | rfl <;> rfl) (Or.inl ⟨rfl, Or.inr (Or.inl rfl), _, rfl⟩) hd K
/-- ldc of a String constant, its text unread -/
theorem own_ldcO (X : Stand p l e R (s.setVm vm0) m args below meth c T locs cells slots) (hx : p.tables.exec = Jvm.exec) (I : own_I s Z EL vm0 h own m) {text : String} {index : Nat} (w : (Jvm.Cond.stringLink own index text).before a0 Z = true) (wS : ∀ a ∈ Bundle.stringAtoms, a.before a0 Z = true)
    (eT : T.heap = h) (hEL : EW Z a0 EL) {g : JFrame} (hg : g.method = m) (hd : decode c.code g.pc = .ok (.ldc index, 2)) {n : Nat} (hn : 4 * text.toList.length ≤ n) (hbig : n ≤ 536870912) (hc : cells + 2 ≤ R.cells) (hl : slots + (n + 4) ≤ R.slots) :
    ∃ (a : Addr) (T' : State), Stand p l e R (s.setVm T'.vm) m args below meth c T' locs (cells + 2) (slots + (n + 4)) ∧ Ext h T'.heap ∧ own_I s Z EL T'.vm T'.heap own m ∧ CHr Z EL vm0 h T'.vm T'.heap ∧
      ∀ target, Steps p.tables e below (T'.setTop { g with pc := g.pc + 2, stack := .ref a :: g.stack }) target → Steps p.tables e below (T.setTop g) target := by
  obtain ⟨i1, i2, ⟨k, i3, i4⟩, i5⟩ := I
  obtain ⟨a, T', h', k1, X', rfl, E, hS, hk, hW, hf, hC, -, st⟩ := ldcOH X hx i1 i2 w wS eT i3 i4 hEL i5.1 hg hd hn hbig hc hl
  exact ⟨a, T', X', E, ⟨hW, hf, ⟨k1, hS, hk⟩, i5.trans hC⟩, hC, st⟩
end OwnWide
end Jvm.Pilot.@@N@@
namespace Jvm.Pilot.@@N@@
open Jvm Jvm.ClassFile Sem Op Lib Jvm.Free Jvm.Stand Jvm.LawKit Jvm.RoadKit Bundle Jvm.Pilot.@@N@@.Jvm.D
/-- ldc of a String constant of EL, its text read -/
theorem own_ldcT {p : Program} {l : Launch} {e : Env} {R : Room} {s : State} {m : MethodId} {args : Array Value} {below : List Frame} {meth : Method} {c : Code} {T : State} {locs : List Loc} {cells slots : Nat} {Z : State} {a0 : Array Value} {EL : List (String × Nat)} {vm0 : Vm} {h : Heap} {own : String}
    (X : Stand p l e R (s.setVm vm0) m args below meth c T locs cells slots) (hx : p.tables.exec = Jvm.exec) (I : own_I s Z EL vm0 h own m) {text : String} {index : Nat} (w : (Jvm.Cond.stringLink own index text).before a0 Z = true) (wS : ∀ a ∈ Bundle.stringAtoms, a.before a0 Z = true)
    (eT : T.heap = h) (hEL : EW Z a0 EL) (hmem : (own, index) ∈ EL) {vs : List Value} {z : Int32} (ht : (∀ c ∈ text.toList, c.toNat < 256) ∧ text.toList.map (fun c => Value.int (Jvm.Lit.byteI c.toNat.toUInt16)) = vs) (hz : ¬ z < 0) (hl : z.toNatClampNeg = vs.length)
    {g : JFrame} (hg : g.method = m) (hd : decode c.code g.pc = .ok (.ldc index, 2)) {n : Nat} (hn : 4 * text.toList.length ≤ n) (hbig : n ≤ 536870912) (hc : cells + 2 ≤ R.cells) (hl' : slots + (n + 4) ≤ R.slots) :
    ∃ (a : Addr) (T' : State) (b : Addr) (k : ClassId), Stand p l e R (s.setVm T'.vm) m args below meth c T' locs (cells + 2) (slots + (n + 4)) ∧ Ext h T'.heap ∧ own_I s Z EL T'.vm T'.heap own m ∧ CHr Z EL vm0 h T'.vm T'.heap ∧
      Exa Z T'.heap a "java/lang/String" ∧ Fld Z T'.heap a "java/lang/String" "coder" "B" (.int 0) ∧ Fld Z T'.heap a "java/lang/String" "value" "[B" (.ref b) ∧ Arv Z T'.heap b k .byte z vs (.int 0) ∧ (∀ x, Safe Z EL T'.vm T'.heap x → x ≠ a ∧ x ≠ b) ∧
      ∀ target, Steps p.tables e below (T'.setTop { g with pc := g.pc + 2, stack := .ref a :: g.stack }) target → Steps p.tables e below (T.setTop g) target := by
  obtain ⟨i1, i2, ⟨k, i3, i4⟩, i5⟩ := I
  obtain ⟨a, T', h', k1, b, kb, X', rfl, E, hS, hk, hW, hf, q1, q2, q3, q4, -, -, hC, -, hne, st⟩ := ldcCH X hx i1 i2 w wS eT i3 i4 hEL hmem i5.1 ht hz hl hg hd hn hbig hc hl'
  exact ⟨a, T', b, kb, X', E, ⟨hW, hf, ⟨k1, hS, hk⟩, i5.trans hC⟩, hC, q1, q2, q3, q4, hne, st⟩
theorem own_strW {Z : State} {a0 : Array Value} (hw : ∀ d ∈ tables_1, d.before a0 Z = true) : ∀ a ∈ Bundle.stringAtoms, a.before a0 Z = true := fun d hd => hw d ((by decide +kernel : ∀ d ∈ Bundle.stringAtoms, d ∈ tables_1) d hd)
end Jvm.Pilot.@@N@@
namespace Jvm.Pilot.@@N@@
open Jvm Jvm.ClassFile Sem Op Lib Jvm.Free Jvm.Stand Jvm.LawKit Jvm.RoadKit Bundle Jvm.Pilot.@@N@@.Jvm.D
section OwnArr
variable {p : Program} {l : Launch} {e : Env} {R : Room} {s : State} {m : MethodId} {args : Array Value} {below : List Frame} {meth : Method} {c : Code} {T : State} {locs : List Loc} {cells slots : Nat} {F : State → Outcome → Prop} {pc pc' : Nat} {Ls : Array Slot} {st : List Value}
  {Z : State} {a0 : Array Value} {h h' : Heap} {a : Addr} {k : ClassId} {ty : FieldType} {z j : Int32} {vs : List Value} {dv : Value}
theorem own_alen (X : Stand p l e R s m args below meth c T locs cells slots) (hx : p.tables.exec = Jvm.exec) (hZ : Z.Warmed39 s.vm) (eT : T.heap = h) (V : Arv Z h a k ty z vs dv) (hd : decode c.code pc = .ok (.arraylength, 1)) (hp : pc + 1 = pc') (K : own_Go p e below F (T.setTop (mkF m pc' Ls (.int z :: st)))) : own_Go p e below F (T.setTop (mkF m pc Ls (.ref a :: st))) := by
  subst hp
  obtain ⟨cl, A, -, S, q, -⟩ := V
  refine own_on (fun t => X.arraylength hx (cell := cl) (by rw [eT]; exact A.1) (State.isArrayOf_alike hZ.alike A.2.1) (g := mkF m pc Ls (.ref a :: st)) rfl (rest := st) rfl hd t) ?_
  rw [len_of S q]; exact K
theorem own_caload (X : Stand p l e R s m args below meth c T locs cells slots) (hx : p.tables.exec = Jvm.exec) (hZ : Z.Warmed39 s.vm) (eT : T.heap = h) (V : Arv Z h a k .char z vs dv) {w : Int32} (hin : ¬ j < 0 ∧ j < z) (hw : vs.getD j.toNatClampNeg dv = .int w) (hd : decode c.code pc = .ok (.caload, 1)) (hp : pc + 1 = pc') (K : own_Go p e below F (T.setTop (mkF m pc' Ls (.int w :: st)))) : own_Go p e below F (T.setTop (mkF m pc Ls (.int j :: .ref a :: st))) := by
  subst hp
  obtain ⟨cl, A, -, S, q, H, -⟩ := V
  have hb := inb_of S hin
  have hat : cl.slots[j.toNatClampNeg]? = some (.int w) := by rw [H _ (Nat.lt_of_not_le fun y => hb (Or.inr y)), hw]
  exact own_on (fun t => X.caload hx (j := j) (v := .int w) (by rw [eT]; exact A.1) (State.isArrayOf_alike hZ.alike A.2.1) A.2.2 hb hat (g := mkF m pc Ls (.int j :: .ref a :: st)) rfl rfl hd t) K
theorem own_cast (X : Stand p l e R s m args below meth c T locs cells slots) (hx : p.tables.exec = Jvm.exec) (hZ : Z.Warmed39 s.vm) (eT : T.heap = h) (V : Arv Z h a k .char z vs dv) {i : Nat} {w : Int32} (hj : j.toNatClampNeg = i) (hi : i < vs.length) (hin : ¬ j < 0 ∧ j < z) (hw : nar .char w = w)
    {g : JFrame} (hg : g.method = m) {rest : List Value} (hs : g.stack = .int w :: .int j :: .ref a :: rest) (hd : decode c.code g.pc = .ok (.castore, 1)) :
    ∃ T' h', Stand p l e R s m args below meth c T' (locs ++ [⟨a, j.toNatClampNeg⟩]) cells slots ∧ T'.heap = h' ∧ Wr h h' a j.toNatClampNeg (.int w) ∧ Arv Z h' a k .char z (vs.set i (.int w)) dv ∧ ∀ target, Steps p.tables e below (T'.setTop { g with pc := g.pc + 1, stack := rest }) target → Steps p.tables e below (T.setTop g) target := by
  obtain ⟨cl, A, q1, S, q3, H, G⟩ := V
  obtain ⟨T', h', X', e', W, st⟩ := stC X hx hZ eT A (inb_of S hin) hg hs hd
  rw [hw] at W
  exact ⟨T', h', X', e', W, Arv.set A q1 S q3 H G (by rw [← hw]; exact fits_nar_char _) W i hj hi, st⟩
theorem own_Fr_snoc {n0 : Nat} {L : List Loc} {sl : Nat} (N : Fr n0 L) (q : n0 ≤ a) : Fr n0 (L ++ [⟨a, sl⟩]) := N.app fun y hy => by cases List.mem_singleton.mp hy; exact q
end OwnArr
theorem own_nar (x : Int32) : nar .char (own_c x) = own_c x := by
  have h : (own_c x).toUInt32.toUInt16 = x.toUInt32.toUInt16 := by
    show (x.toUInt32.toUInt16.toUInt32).toUInt16 = _
    generalize x.toUInt32.toUInt16 = w
    simp
  exact congrArg (fun u : UInt16 => u.toUInt32.toInt32) h
theorem own_and255 (x : Int32) : ¬ own_c (x &&& (255 : Int32)) < 0 ∧ ¬ (255 : Int32) < own_c (x &&& (255 : Int32)) := by
  have t : ∀ k : Fin 256, ¬ own_c (Int32.ofNat k.val) < 0 ∧ ¬ (255 : Int32) < own_c (Int32.ofNat k.val) := by decide +kernel
  have h : (x &&& 255).toBitVec.toNat < 256 := by
    simp only [Int32.toBitVec_and, BitVec.toNat_and]
    exact Nat.lt_succ_of_le Nat.and_le_right
  have e : (x &&& 255) = Int32.ofNat (x &&& 255).toBitVec.toNat := by
    apply Int32.toBitVec_inj.mp
    show _ = BitVec.ofNat 32 _
    rw [BitVec.ofNat_toNat]; simp
  rw [e]
  exact t ⟨_, h⟩
/-- x & 3 is one of four -/
theorem own_and3c (x : Int32) : x &&& 3 = 0 ∨ x &&& 3 = 1 ∨ x &&& 3 = 2 ∨ x &&& 3 = 3 := by
  have h : (x &&& 3).toBitVec.toNat ≤ 3 := by
    simp only [Int32.toBitVec_and, BitVec.toNat_and]
    exact Nat.and_le_right
  have e : (x &&& 3) = Int32.ofNat (x &&& 3).toBitVec.toNat := by
    apply Int32.toBitVec_inj.mp
    show _ = BitVec.ofNat 32 _
    rw [BitVec.ofNat_toNat]; simp
  rw [e]
  generalize (x &&& 3).toBitVec.toNat = n at h
  have : n = 0 ∨ n = 1 ∨ n = 2 ∨ n = 3 := by omega
  rcases this with rfl | rfl | rfl | rfl <;> decide
theorem own_up (cs : List Int32) (h : ∀ c ∈ cs, ¬ c < 0 ∧ ¬ (255 : Int32) < c) : ∀ c ∈ cs, ¬ c < 0 ∧ ¬ (65535 : Int32) < c := fun c hc => ⟨(h c hc).1, fun q => (h c hc).2 (by rw [Int32.lt_iff_toInt_lt] at q ⊢; have e1 : (65535 : Int32).toInt = 65535 := rfl; have e2 : (255 : Int32).toInt = 255 := rfl; omega)⟩
/-- x is a Latin-1 String of the chars cs -/
def own_Str (Z : State) (h : Heap) (x : Addr) (cs : List Int32) : Prop := ∃ (t : Addr) (kb : ClassId), Exa Z h x "java/lang/String" ∧ Fld Z h x "java/lang/String" "value" "[B" (.ref t) ∧ Fld Z h x "java/lang/String" "coder" "B" (.int 0) ∧ Arv Z h t kb .byte (Int32.ofNat cs.length) ((cs.map fun c => c.toInt8.toInt32).map Value.int) (.int 0) ∧ (∀ c ∈ cs, ¬ c < 0 ∧ ¬ (255 : Int32) < c) ∧ cs.length ≤ 4000
theorem own_Str.ext {Z : State} {h h' : Heap} {x : Addr} {cs : List Int32} (S : own_Str Z h x cs) (E : Ext h h') : own_Str Z h' x cs := by
  obtain ⟨t, kb, s1, s2, s3, s4, r⟩ := S; exact ⟨t, kb, s1.ext E, s2.ext E, s3.ext E, s4.ext E, r⟩
theorem own_Str.exa {Z : State} {h : Heap} {x : Addr} {cs : List Int32} (S : own_Str Z h x cs) : Exa Z h x "java/lang/String" := by obtain ⟨_, _, q, -⟩ := S; exact q
theorem own_wiS : Jvm.Cond.instantiable "java/lang/String" 4 ∈ tables_1 := by decide +kernel
end Jvm.Pilot.@@N@@
namespace Jvm.Pilot.@@N@@
open Jvm Jvm.ClassFile Sem Op Lib Jvm.Free Jvm.Stand Jvm.LawKit Jvm.RoadKit Bundle Jvm.Pilot.@@N@@.Jvm.D
abbrev EL : List (String × Nat) := [("java/lang/String", 7)]
theorem own_hwsL {Z : State} {a0 : Array Value} (hw : ∀ d ∈ tables_1, d.before a0 Z = true) : ∀ d ∈ StrChars.Road.words, d.before a0 Z = true := fun d hd => hw d ((by decide +kernel : ∀ d ∈ StrChars.Road.words, d ∈ tables_1) d hd)
theorem dE4_0 : decode jdk_42_method_149_code 0 = .ok (.aload_n 0, 1) := by decide +kernel
theorem dE4_1 : decode jdk_42_method_149_code 1 = .ok (.invokespecial 1, 3) := by decide +kernel
theorem dE4_4 : decode jdk_42_method_149_code 4 = .ok (.iload_n 3, 1) := by decide +kernel
theorem dE4_5 : decode jdk_42_method_149_code 5 = .ok (.ifCond .ne 22, 3) := by decide +kernel
theorem dE4_8 : decode jdk_42_method_149_code 8 = .ok (.aload_n 0, 1) := by decide +kernel
theorem dE4_9 : decode jdk_42_method_149_code 9 = .ok (.ldc 7, 2) := by decide +kernel
theorem dE4_11 : decode jdk_42_method_149_code 11 = .ok (.getfield 9, 3) := by decide +kernel
theorem dE4_14 : decode jdk_42_method_149_code 14 = .ok (.putfield 9, 3) := by decide +kernel
theorem dE4_17 : decode jdk_42_method_149_code 17 = .ok (.aload_n 0, 1) := by decide +kernel
theorem dE4_18 : decode jdk_42_method_149_code 18 = .ok (.ldc 7, 2) := by decide +kernel
theorem dE4_20 : decode jdk_42_method_149_code 20 = .ok (.getfield 15, 3) := by decide +kernel
theorem dE4_23 : decode jdk_42_method_149_code 23 = .ok (.putfield 15, 3) := by decide +kernel
theorem dE4_26 : decode jdk_42_method_149_code 26 = .ok (.return_, 1) := by decide +kernel
theorem dE4_27 : decode jdk_42_method_149_code 27 = .ok (.getstatic 38, 3) := by decide +kernel
theorem dE4_30 : decode jdk_42_method_149_code 30 = .ok (.ifCond .eq 28, 3) := by decide +kernel
theorem dE4_33 : decode jdk_42_method_149_code 33 = .ok (.aload_n 1, 1) := by decide +kernel
theorem dE4_34 : decode jdk_42_method_149_code 34 = .ok (.iload_n 2, 1) := by decide +kernel
theorem dE4_35 : decode jdk_42_method_149_code 35 = .ok (.iload_n 3, 1) := by decide +kernel
theorem dE4_36 : decode jdk_42_method_149_code 36 = .ok (.invokestatic 177, 3) := by decide +kernel
theorem dE4_39 : decode jdk_42_method_149_code 39 = .ok (.astore 5, 2) := by decide +kernel
theorem dE4_41 : decode jdk_42_method_149_code 41 = .ok (.aload_n 0, 1) := by decide +kernel
theorem dE4_42 : decode jdk_42_method_149_code 42 = .ok (.aload 5, 2) := by decide +kernel
theorem dE4_44 : decode jdk_42_method_149_code 44 = .ok (.iload_n 3, 1) := by decide +kernel
theorem dE4_45 : decode jdk_42_method_149_code 45 = .ok (.invokestatic 47, 3) := by decide +kernel
theorem dE4_48 : decode jdk_42_method_149_code 48 = .ok (.putfield 15, 3) := by decide +kernel
theorem dE4_51 : decode jdk_42_method_149_code 51 = .ok (.aload_n 0, 1) := by decide +kernel
theorem dE4_52 : decode jdk_42_method_149_code 52 = .ok (.aload 5, 2) := by decide +kernel
theorem dE4_54 : decode jdk_42_method_149_code 54 = .ok (.putfield 9, 3) := by decide +kernel
theorem dE4_57 : decode jdk_42_method_149_code 57 = .ok (.return_, 1) := by decide +kernel
theorem dE4_58 : decode jdk_42_method_149_code 58 = .ok (.aload_n 0, 1) := by decide +kernel
theorem dE4_59 : decode jdk_42_method_149_code 59 = .ok (.iconst 1, 1) := by decide +kernel
theorem dE4_60 : decode jdk_42_method_149_code 60 = .ok (.putfield 15, 3) := by decide +kernel
theorem dE4_63 : decode jdk_42_method_149_code 63 = .ok (.aload_n 0, 1) := by decide +kernel
theorem dE4_64 : decode jdk_42_method_149_code 64 = .ok (.aload_n 1, 1) := by decide +kernel
theorem dE4_65 : decode jdk_42_method_149_code 65 = .ok (.iload_n 2, 1) := by decide +kernel
theorem dE4_66 : decode jdk_42_method_149_code 66 = .ok (.iload_n 3, 1) := by decide +kernel
theorem dE4_67 : decode jdk_42_method_149_code 67 = .ok (.invokestatic 180, 3) := by decide +kernel
theorem dE4_70 : decode jdk_42_method_149_code 70 = .ok (.putfield 9, 3) := by decide +kernel
theorem dE4_73 : decode jdk_42_method_149_code 73 = .ok (.return_, 1) := by decide +kernel
theorem dE1_0 : decode jdk_42_method_3_code 0 = .ok (.aload_n 0, 1) := by decide +kernel
theorem dE1_1 : decode jdk_42_method_3_code 1 = .ok (.aload_n 1, 1) := by decide +kernel
theorem dE1_2 : decode jdk_42_method_3_code 2 = .ok (.iconst 0, 1) := by decide +kernel
theorem dE1_3 : decode jdk_42_method_3_code 3 = .ok (.aload_n 1, 1) := by decide +kernel
theorem dE1_4 : decode jdk_42_method_3_code 4 = .ok (.arraylength, 1) := by decide +kernel
theorem dE1_5 : decode jdk_42_method_3_code 5 = .ok (.aconst_null, 1) := by decide +kernel
theorem dE1_6 : decode jdk_42_method_3_code 6 = .ok (.invokespecial 27, 3) := by decide +kernel
theorem dE1_9 : decode jdk_42_method_3_code 9 = .ok (.return_, 1) := by decide +kernel
theorem pnS : plainName "java/lang/String" = true := by first | (simp [plainName, overriddenIn]; done) | decide +kernel
theorem pdE4 : parseMethodDescriptor "([CIILjava/lang/Void;)V" = some ⟨[.array .char, .int, .int, .object "java/lang/Void"], none⟩ := by decide +kernel
theorem pdE1 : parseMethodDescriptor "([C)V" = some ⟨[.array .char], none⟩ := by decide +kernel
theorem efE4 (m : MethodId) (x0 : Addr) (x1 : Addr) (x2 : Int32) (x3 : Int32) : entryFrame m #[(.ref x0), (.ref x1), (.int x2), (.int x3), .null] 6 = mkF m 0 #[.val (.ref x0), .val (.ref x1), .val (.int x2), .val (.int x3), .val .null, .unset] [] := by first | (simp [entryFrame, mkF, argsToLocals, Value.category]; done) | rfl
def Q_rmE4 (Z : State) (x b : Addr) (h0 : Heap) (v : Option Value) (h : Heap) (L : List Loc) : Prop := v = none ∧ Fr Z.heap.size L ∧ Keep h0 h [x] ∧ own_Str Z h x []
set_option maxRecDepth 65536 in
set_option maxHeartbeats 40000000 in
theorem rmE4 (l : Launch) (Z : State) (a0 : Array Value) (hw : ∀ d ∈ tables_1, d.before a0 Z = true) (hEL : EW Z a0 EL) (x b : Addr) (h0 : Heap) (ga : Z.heap.size ≤ x) (A0 : Exa Z h0 x "java/lang/String") (Fv : Fld Z h0 x "java/lang/String" "value" "[B" .null) (Fc : Fld Z h0 x "java/lang/String" "coder" "B" (.int (0 : Int32))) :
    MetFree l (⟨"java/lang/String", "<init>", "([CIILjava/lang/Void;)V"⟩ : MethodName) (head1 (Jvm.Cond.code (⟨"java/lang/String", "<init>", "([CIILjava/lang/Void;)V"⟩ : MethodName) jdk_42_method_149_code 6 (Option.none : Option FieldType) :: []) ({ frames := 1, cells := 4, slots := 8, locals := 12 } : Room)) (fun aa U => aa = #[(.ref x), (.ref b), (.int (0 : Int32)), (.int (0 : Int32)), .null] ∧ Z.Warmed39 U.vm ∧ U.heap = h0 ∧ CHv Z EL U.vm h0 ∧ ∀ yy ∈ ([x] : List Addr), Safe Z EL U.vm h0 yy) (fun _ _ _ _ _ => True) (fun _ U o U' => ∃ v L, o = .returned v ∧ (Q_rmE4 Z x b h0) v U'.heap L ∧ CHr Z EL U.vm U.heap U'.vm U'.heap ∧ ReturnedEndW U o U' L ({ frames := 1, cells := 4, slots := 8, locals := 12 } : Room).cells ({ frames := 1, cells := 4, slots := 8, locals := 12 } : Room).slots) := by
  refine own_walkW (by exact pnS) ?_
  intro p e s m below meth c T0 X0 hx hby hml hret hlk hnm hs0 e0 I0 hsf F hF
  refine own_on (fun _ => castTop (efE4 m x b 0 0)) ?_
  have N0 := Fr.nil Z.heap.size
  have Q0 := Keep.refl h0 [x]
  have S0 := hsf x (by simp)
  refine own_aload_n X0.here hx (hb hby dE4_0) rfl rfl (pc' := 1) rfl ?_
  obtain ⟨T1, X1, e1, st1⟩ := initO X0 hx I0.1 I0.2.1 (hw _ (List.mem_of_getElem? (i := 15) rfl)) (hw _ (List.mem_of_getElem? (i := 16) rfl)) (hw _ (List.mem_of_getElem? (i := 17) rfl)) e0 (g := (mkF m 1 #[.val (.ref x), .val (.ref b), .val (.int ((0 : Int32))), .val (.int ((0 : Int32))), .val .null, .unset] [(.ref x)])) rfl (by rw [hml]; rfl) rfl (hb hby dE4_1) (by decide) (W := 0) (by show 2 * 0 + _ ≤ _; exact Nat.le_of_eq rfl) (by decide)
  refine own_on st1 ?_
  show own_Go p e below F (T1.setTop (mkF m 4 #[.val (.ref x), .val (.ref b), .val (.int ((0 : Int32))), .val (.int ((0 : Int32))), .val .null, .unset] []))
  refine own_iload_n X1.here hx (hb hby dE4_4) rfl (pc' := 5) rfl ?_
  refine own_ifne X1.here hx (hb hby dE4_5) (by decide) (pc' := 27) (by decide) (pc2 := 8) rfl (fun q => absurd rfl q) (fun q2 => ?_)
  refine own_aload_n X1.here hx (hb hby dE4_8) rfl rfl (pc' := 9) rfl ?_
  obtain ⟨b3, T3, t3, kb3, X3, E3, I3, C3, A3, Fc3, Fv3, V3, hn3, st3⟩ := own_ldcT X1 hx I0 (hw _ (List.mem_of_getElem? (i := 18) rfl)) (own_strW hw) e1 hEL (by simp [EL]) (vs := []) (z := 0) (by decide) (by decide) (by decide) (g := (mkF m 9 #[.val (.ref x), .val (.ref b), .val (.int ((0 : Int32))), .val (.int ((0 : Int32))), .val .null, .unset] [(.ref x)])) rfl (hb hby dE4_9) (n := 0) (by decide) (by decide) (by decide) (by decide)
  have f4 := Q0.ext E3
  have f5 := A0.ext E3
  have f6 := Fv.ext E3
  have f7 := Fc.ext E3
  have f8 := C3.safe A0.lt S0
  have ne9 := hn3 x f8
  refine own_on st3 ?_
  show own_Go p e below F (T3.setTop (mkF m 11 #[.val (.ref x), .val (.ref b), .val (.int ((0 : Int32))), .val (.int ((0 : Int32))), .val .null, .unset] [(.ref b3), (.ref x)]))
  obtain ⟨T10, X10, e10, st10⟩ := getF X3 hx I3.1 I3.2.1 (host := "") (Or.inl (hw _ (List.mem_of_getElem? (i := 24) rfl))) Via.refl rfl Fv3 (g := (mkF m 11 #[.val (.ref x), .val (.ref b), .val (.int ((0 : Int32))), .val (.int ((0 : Int32))), .val .null, .unset] [(.ref b3), (.ref x)])) rfl rfl (hb hby dE4_11)
  refine own_on st10 ?_
  show own_Go p e below F (T10.setTop (mkF m 14 #[.val (.ref x), .val (.ref b), .val (.int ((0 : Int32))), .val (.int ((0 : Int32))), .val .null, .unset] [(.ref t3), (.ref x)]))
  obtain ⟨T11, h11, X11, e11, W11, st11⟩ := putF X10 hx I3.1 I3.2.1 (host := "") (Or.inl (hw _ (List.mem_of_getElem? (i := 24) rfl))) Via.refl e10 f6 f5 (Or.inr ⟨(hw _ (List.mem_of_getElem? (i := 20) rfl)), rfl, hnm⟩) (hw _ (List.mem_of_getElem? (i := 5) rfl)) (ty := .array .byte) (by decide) rfl rfl (g := (mkF m 14 #[.val (.ref x), .val (.ref b), .val (.int ((0 : Int32))), .val (.int ((0 : Int32))), .val .null, .unset] [(.ref t3), (.ref x)])) rfl rfl (hb hby dE4_14)
  have f12 := f5.wr W11
  have f13 := f6.same W11
  have f14 := f7.other W11 (Or.inr (slot_ne (Or.inr (hw _ (List.mem_of_getElem? (i := 21) rfl))) (Or.inr (hw _ (List.mem_of_getElem? (i := 20) rfl))) (by decide) (t := .byte) (by decide) (t' := .array .byte) (by decide)))
  have f15 := Safe.wr W11 f8 I3.ch f8
  have f16 := A3.wr W11
  have f17 := Fc3.other W11 (Or.inl (Ne.symm ne9.1))
  have f18 := Fv3.other W11 (Or.inl (Ne.symm ne9.1))
  have f19 := V3.other W11 (Ne.symm ne9.2)
  have J20 := I3.wr W11 f8
  have f21 := f4.wr W11 (Or.inl (by simp))
  have N22 := own_Fr_snoc (sl := Jvm.RoadKit.slotOf Z "java/lang/String" "value" "[B") N0 ga
  refine own_on st11 ?_
  show own_Go p e below F (T11.setTop (mkF m 17 #[.val (.ref x), .val (.ref b), .val (.int ((0 : Int32))), .val (.int ((0 : Int32))), .val .null, .unset] []))
  refine own_aload_n X11.here hx (hb hby dE4_17) rfl rfl (pc' := 18) rfl ?_
  obtain ⟨b23, T23, t23, kb23, X23, E23, I23, C23, A23, Fc23, Fv23, V23, hn23, st23⟩ := own_ldcT X11 hx J20 (hw _ (List.mem_of_getElem? (i := 18) rfl)) (own_strW hw) e11 hEL (by simp [EL]) (vs := []) (z := 0) (by decide) (by decide) (by decide) (g := (mkF m 18 #[.val (.ref x), .val (.ref b), .val (.int ((0 : Int32))), .val (.int ((0 : Int32))), .val .null, .unset] [(.ref x)])) rfl (hb hby dE4_18) (n := 0) (by decide) (by decide) (by decide) (by decide)
  have f24 := f12.ext E23
  have f25 := f13.ext E23
  have f26 := f14.ext E23
  have f27 := C23.safe (f12).lt f15
  have f28 := f19.ext E23
  have f29 := f21.ext E23
  have ne30 := hn23 x f27
  refine own_on st23 ?_
  show own_Go p e below F (T23.setTop (mkF m 20 #[.val (.ref x), .val (.ref b), .val (.int ((0 : Int32))), .val (.int ((0 : Int32))), .val .null, .unset] [(.ref b23), (.ref x)]))
  obtain ⟨T31, X31, e31, st31⟩ := getF X23 hx I23.1 I23.2.1 (host := "") (Or.inl (hw _ (List.mem_of_getElem? (i := 25) rfl))) Via.refl rfl Fc23 (g := (mkF m 20 #[.val (.ref x), .val (.ref b), .val (.int ((0 : Int32))), .val (.int ((0 : Int32))), .val .null, .unset] [(.ref b23), (.ref x)])) rfl rfl (hb hby dE4_20)
  refine own_on st31 ?_
  show own_Go p e below F (T31.setTop (mkF m 23 #[.val (.ref x), .val (.ref b), .val (.int ((0 : Int32))), .val (.int ((0 : Int32))), .val .null, .unset] [(.int ((0 : Int32))), (.ref x)]))
  obtain ⟨T32, h32, X32, e32, W32, st32⟩ := putF X31 hx I23.1 I23.2.1 (host := "") (Or.inl (hw _ (List.mem_of_getElem? (i := 25) rfl))) Via.refl e31 f26 f24 (Or.inr ⟨(hw _ (List.mem_of_getElem? (i := 21) rfl)), rfl, hnm⟩) (hw _ (List.mem_of_getElem? (i := 5) rfl)) (ty := .byte) (by decide) rfl rfl (g := (mkF m 23 #[.val (.ref x), .val (.ref b), .val (.int ((0 : Int32))), .val (.int ((0 : Int32))), .val .null, .unset] [(.int ((0 : Int32))), (.ref x)])) rfl rfl (hb hby dE4_23)
  have f33 := f24.wr W32
  have f34 := f25.other W32 (Or.inr (slot_ne (Or.inr (hw _ (List.mem_of_getElem? (i := 20) rfl))) (Or.inr (hw _ (List.mem_of_getElem? (i := 21) rfl))) (by decide) (t := .array .byte) (by decide) (t' := .byte) (by decide)))
  have f35 := f26.same W32
  have f36 := Safe.wr W32 f27 I23.ch f27
  have f37 := f28.other W32 (Ne.symm ne9.2)
  have f38 := A23.wr W32
  have f39 := Fc23.other W32 (Or.inl (Ne.symm ne30.1))
  have f40 := Fv23.other W32 (Or.inl (Ne.symm ne30.1))
  have f41 := V23.other W32 (Ne.symm ne30.2)
  have J42 := I23.wr W32 f27
  have f43 := f29.wr W32 (Or.inl (by simp))
  have N44 := own_Fr_snoc (sl := Jvm.RoadKit.slotOf Z "java/lang/String" "coder" "B") N22 ga
  refine own_on st32 ?_
  show own_Go p e below F (T32.setTop (mkF m 26 #[.val (.ref x), .val (.ref b), .val (.int ((0 : Int32))), .val (.int ((0 : Int32))), .val .null, .unset] []))
  exact own_retVW X32 hx hlk hEL J42 e32 hret (hb hby dE4_26) (fun t ht hC hE => hF t _ _ _ _ (by rw [ht]; exact ⟨rfl, N44, f43, t3, kb3, f33, f34, f35, f37, (fun _ q => nomatch q), (by decide)⟩) hC hE (by decide) (by decide))
theorem efE1 (m : MethodId) (x0 : Addr) (x1 : Addr) : entryFrame m #[(.ref x0), (.ref x1)] 2 = mkF m 0 #[.val (.ref x0), .val (.ref x1)] [] := by first | (simp [entryFrame, mkF, argsToLocals, Value.category]; done) | rfl
def Q_rmE1 (Z : State) (x b : Addr) (kc : ClassId) (dv : Value) (h0 : Heap) (v : Option Value) (h : Heap) (L : List Loc) : Prop := v = none ∧ Fr Z.heap.size L ∧ Keep h0 h [x] ∧ own_Str Z h x []
set_option maxRecDepth 65536 in
set_option maxHeartbeats 40000000 in
theorem rmE1 (l : Launch) (Z : State) (a0 : Array Value) (hw : ∀ d ∈ tables_1, d.before a0 Z = true) (hEL : EW Z a0 EL) (x b : Addr) (kc : ClassId) (dv : Value) (h0 : Heap) (ga : Z.heap.size ≤ x) (A0 : Exa Z h0 x "java/lang/String") (Fv : Fld Z h0 x "java/lang/String" "value" "[B" .null) (Fc : Fld Z h0 x "java/lang/String" "coder" "B" (.int (0 : Int32))) (V0 : Arv Z h0 b kc .char (0 : Int32) [] dv) :
    MetFree l (⟨"java/lang/String", "<init>", "([C)V"⟩ : MethodName) (head1 (Jvm.Cond.code (⟨"java/lang/String", "<init>", "([C)V"⟩ : MethodName) jdk_42_method_3_code 2 (Option.none : Option FieldType) :: []) ({ frames := 2, cells := 4, slots := 8, locals := 29 } : Room)) (fun aa U => aa = #[(.ref x), (.ref b)] ∧ Z.Warmed39 U.vm ∧ U.heap = h0 ∧ CHv Z EL U.vm h0 ∧ ∀ yy ∈ ([x] : List Addr), Safe Z EL U.vm h0 yy) (fun _ _ _ _ _ => True) (fun _ U o U' => ∃ v L, o = .returned v ∧ (Q_rmE1 Z x b kc dv h0) v U'.heap L ∧ CHr Z EL U.vm U.heap U'.vm U'.heap ∧ ReturnedEndW U o U' L ({ frames := 2, cells := 4, slots := 8, locals := 29 } : Room).cells ({ frames := 2, cells := 4, slots := 8, locals := 29 } : Room).slots) := by
  refine own_walkW (by exact pnS) ?_
  intro p e s m below meth c T0 X0 hx hby hml hret hlk hnm hs0 e0 I0 hsf F hF
  refine own_on (fun _ => castTop (efE1 m x b)) ?_
  have N0 := Fr.nil Z.heap.size
  have Q0 := Keep.refl h0 [x]
  refine own_aload_n X0.here hx (hb hby dE1_0) rfl rfl (pc' := 1) rfl ?_
  refine own_aload_n X0.here hx (hb hby dE1_1) rfl rfl (pc' := 2) rfl ?_
  refine own_iconst X0.here hx (hb hby dE1_2) (v := 0) rfl (pc' := 3) rfl ?_
  refine own_aload_n X0.here hx (hb hby dE1_3) rfl rfl (pc' := 4) rfl ?_
  refine own_alen X0 hx I0.1 e0 V0 (hb hby dE1_4) (pc' := 5) rfl ?_
  refine own_aconst_null X0.here hx (hb hby dE1_5) (pc' := 6) rfl ?_
  obtain ⟨_, _, ⟨T1, L1, k1, n1⟩, -, X1, hS1, hG1, ⟨Lc1, hQ1, l1, y1, z1, C1⟩, st1⟩ := X0.specialBackS hx (y := (⟨"java/lang/String", "<init>", "([CIILjava/lang/Void;)V"⟩ : MethodName)) rfl I0.2.1 (mvT I0.1 (hw _ (List.mem_of_getElem? (i := 11) rfl))) (mvT I0.1 (hw _ (List.mem_of_getElem? (i := 12) rfl))) (mvT I0.1 (hw _ (List.mem_of_getElem? (i := 14) rfl))) (by decide) (own_backW (W := 0) (rmE4 l Z a0 hw hEL x b h0 ga A0 Fv Fc) I0.1 (hw _ (List.mem_of_getElem? (i := 14) rfl)) (hw _ (List.mem_of_getElem? (i := 6) rfl)) (by decide) (by decide) hEL I0.ch (fun y hy => by simp only [List.mem_cons, List.not_mem_nil, or_false] at hy; subst hy; exact ⟨A0.lt, hsf _ (by simp)⟩)) (g := (mkF m 6 #[.val (.ref x), .val (.ref b)] [.null, (.int ((0 : Int32))), (.int ((0 : Int32))), (.ref b), (.ref x)])) rfl (by rw [hml]; rfl) (Steps.refl _) (a := x) (argsL := [(.ref b), (.int ((0 : Int32))), (.int ((0 : Int32))), .null]) (rest := []) (lenOf pdE4 rfl) rfl (by show 2 * 0 + _ ≤ _; exact Nat.le_of_eq rfl) (hb hby dE1_6) (fun _ _ => ⟨rfl, e0, (Nat.le_of_ble_eq_true rfl), (Nat.le_of_ble_eq_true rfl)⟩)
  dsimp only [Pt.U, Pt.locs, Pt.cells, Pt.slots] at X1 hS1 hG1 l1 y1 z1 C1 st1 hQ1
  subst l1 y1 z1
  replace X1 := (show Stand _ _ _ _ (s.setVm T1.vm) _ _ _ _ _ _ _ _ _ from X1)
  have I1 := I0.later hS1 (Nat.le_refl _) (by have q := hG1; rw [(e0 : _ = h0)] at q; exact q) C1
  obtain ⟨rfl, N1, K1, S1⟩ := hQ1
  refine own_to st1 ?_
  show own_Go p e below F (T1.setTop (mkF m 9 #[.val (.ref x), .val (.ref b)] []))
  have f2 := Q0.trans K1 (fun y hy => by simp only [List.mem_cons, List.not_mem_nil, or_false] at hy; rcases hy with rfl <;> first | exact Or.inl (by simp) | exact Or.inr (by assumption))
  have N3 := Fr.app N0 N1
  exact own_retVW X1 hx hlk hEL I1 rfl hret (hb hby dE1_9) (fun t ht hC hE => hF t _ _ _ _ (by rw [ht]; exact ⟨rfl, N3, f2, S1⟩) hC hE (by decide) (by decide))
theorem dN_0 : decode method_3_code 0 = .ok (.iload_n 0, 1) := by decide +kernel
theorem dN_1 : decode method_3_code 1 = .ok (.bipush 24, 2) := by decide +kernel
theorem dN_3 : decode method_3_code 3 = .ok (.iushr, 1) := by decide +kernel
theorem dN_4 : decode method_3_code 4 = .ok (.iconst 3, 1) := by decide +kernel
theorem dN_5 : decode method_3_code 5 = .ok (.iand, 1) := by decide +kernel
theorem dN_6 : decode method_3_code 6 = .ok (.istore_n 1, 1) := by decide +kernel
theorem dN_7 : decode method_3_code 7 = .ok (.iload_n 0, 1) := by decide +kernel
theorem dN_8 : decode method_3_code 8 = .ok (.sipush 255, 3) := by decide +kernel
theorem dN_11 : decode method_3_code 11 = .ok (.iand, 1) := by decide +kernel
theorem dN_12 : decode method_3_code 12 = .ok (.i2c, 1) := by decide +kernel
theorem dN_13 : decode method_3_code 13 = .ok (.istore_n 2, 1) := by decide +kernel
theorem dN_14 : decode method_3_code 14 = .ok (.iload_n 0, 1) := by decide +kernel
theorem dN_15 : decode method_3_code 15 = .ok (.bipush 8, 2) := by decide +kernel
theorem dN_17 : decode method_3_code 17 = .ok (.iushr, 1) := by decide +kernel
theorem dN_18 : decode method_3_code 18 = .ok (.sipush 255, 3) := by decide +kernel
theorem dN_21 : decode method_3_code 21 = .ok (.iand, 1) := by decide +kernel
theorem dN_22 : decode method_3_code 22 = .ok (.i2c, 1) := by decide +kernel
theorem dN_23 : decode method_3_code 23 = .ok (.istore_n 3, 1) := by decide +kernel
theorem dN_24 : decode method_3_code 24 = .ok (.iload_n 0, 1) := by decide +kernel
theorem dN_25 : decode method_3_code 25 = .ok (.bipush 16, 2) := by decide +kernel
theorem dN_27 : decode method_3_code 27 = .ok (.iushr, 1) := by decide +kernel
theorem dN_28 : decode method_3_code 28 = .ok (.sipush 255, 3) := by decide +kernel
theorem dN_31 : decode method_3_code 31 = .ok (.iand, 1) := by decide +kernel
theorem dN_32 : decode method_3_code 32 = .ok (.i2c, 1) := by decide +kernel
theorem dN_33 : decode method_3_code 33 = .ok (.istore 4, 2) := by decide +kernel
theorem dN_35 : decode method_3_code 35 = .ok (.iload_n 1, 1) := by decide +kernel
theorem dN_36 : decode method_3_code 36 = .ok (.ifCond .ne 14, 3) := by decide +kernel
theorem dN_39 : decode method_3_code 39 = .ok (.new 45, 3) := by decide +kernel
theorem dN_42 : decode method_3_code 42 = .ok (.dup, 1) := by decide +kernel
theorem dN_43 : decode method_3_code 43 = .ok (.iconst 0, 1) := by decide +kernel
theorem dN_44 : decode method_3_code 44 = .ok (.newarray .char, 2) := by decide +kernel
theorem dN_46 : decode method_3_code 46 = .ok (.invokespecial 71, 3) := by decide +kernel
theorem dN_49 : decode method_3_code 49 = .ok (.areturn, 1) := by decide +kernel
theorem dN_50 : decode method_3_code 50 = .ok (.iload_n 1, 1) := by decide +kernel
theorem dN_51 : decode method_3_code 51 = .ok (.iconst 1, 1) := by decide +kernel
theorem dN_52 : decode method_3_code 52 = .ok (.if_icmp .ne 18, 3) := by decide +kernel
theorem dN_55 : decode method_3_code 55 = .ok (.new 45, 3) := by decide +kernel
theorem dN_58 : decode method_3_code 58 = .ok (.dup, 1) := by decide +kernel
theorem dN_59 : decode method_3_code 59 = .ok (.iconst 1, 1) := by decide +kernel
theorem dN_60 : decode method_3_code 60 = .ok (.newarray .char, 2) := by decide +kernel
theorem dN_62 : decode method_3_code 62 = .ok (.dup, 1) := by decide +kernel
theorem dN_63 : decode method_3_code 63 = .ok (.iconst 0, 1) := by decide +kernel
theorem dN_64 : decode method_3_code 64 = .ok (.iload_n 2, 1) := by decide +kernel
theorem dN_65 : decode method_3_code 65 = .ok (.castore, 1) := by decide +kernel
theorem dN_66 : decode method_3_code 66 = .ok (.invokespecial 71, 3) := by decide +kernel
theorem dN_69 : decode method_3_code 69 = .ok (.areturn, 1) := by decide +kernel
theorem dN_70 : decode method_3_code 70 = .ok (.iload_n 1, 1) := by decide +kernel
theorem dN_71 : decode method_3_code 71 = .ok (.iconst 2, 1) := by decide +kernel
theorem dN_72 : decode method_3_code 72 = .ok (.if_icmp .ne 22, 3) := by decide +kernel
theorem dN_75 : decode method_3_code 75 = .ok (.new 45, 3) := by decide +kernel
theorem dN_78 : decode method_3_code 78 = .ok (.dup, 1) := by decide +kernel
theorem dN_79 : decode method_3_code 79 = .ok (.iconst 2, 1) := by decide +kernel
theorem dN_80 : decode method_3_code 80 = .ok (.newarray .char, 2) := by decide +kernel
theorem dN_82 : decode method_3_code 82 = .ok (.dup, 1) := by decide +kernel
theorem dN_83 : decode method_3_code 83 = .ok (.iconst 0, 1) := by decide +kernel
theorem dN_84 : decode method_3_code 84 = .ok (.iload_n 2, 1) := by decide +kernel
theorem dN_85 : decode method_3_code 85 = .ok (.castore, 1) := by decide +kernel
theorem dN_86 : decode method_3_code 86 = .ok (.dup, 1) := by decide +kernel
theorem dN_87 : decode method_3_code 87 = .ok (.iconst 1, 1) := by decide +kernel
theorem dN_88 : decode method_3_code 88 = .ok (.iload_n 3, 1) := by decide +kernel
theorem dN_89 : decode method_3_code 89 = .ok (.castore, 1) := by decide +kernel
theorem dN_90 : decode method_3_code 90 = .ok (.invokespecial 71, 3) := by decide +kernel
theorem dN_93 : decode method_3_code 93 = .ok (.areturn, 1) := by decide +kernel
theorem dN_94 : decode method_3_code 94 = .ok (.new 45, 3) := by decide +kernel
theorem dN_97 : decode method_3_code 97 = .ok (.dup, 1) := by decide +kernel
theorem dN_98 : decode method_3_code 98 = .ok (.iconst 3, 1) := by decide +kernel
theorem dN_99 : decode method_3_code 99 = .ok (.newarray .char, 2) := by decide +kernel
theorem dN_101 : decode method_3_code 101 = .ok (.dup, 1) := by decide +kernel
theorem dN_102 : decode method_3_code 102 = .ok (.iconst 0, 1) := by decide +kernel
theorem dN_103 : decode method_3_code 103 = .ok (.iload_n 2, 1) := by decide +kernel
theorem dN_104 : decode method_3_code 104 = .ok (.castore, 1) := by decide +kernel
theorem dN_105 : decode method_3_code 105 = .ok (.dup, 1) := by decide +kernel
theorem dN_106 : decode method_3_code 106 = .ok (.iconst 1, 1) := by decide +kernel
theorem dN_107 : decode method_3_code 107 = .ok (.iload_n 3, 1) := by decide +kernel
theorem dN_108 : decode method_3_code 108 = .ok (.castore, 1) := by decide +kernel
theorem dN_109 : decode method_3_code 109 = .ok (.dup, 1) := by decide +kernel
theorem dN_110 : decode method_3_code 110 = .ok (.iconst 2, 1) := by decide +kernel
theorem dN_111 : decode method_3_code 111 = .ok (.iload 4, 2) := by decide +kernel
theorem dN_113 : decode method_3_code 113 = .ok (.castore, 1) := by decide +kernel
theorem dN_114 : decode method_3_code 114 = .ok (.invokespecial 71, 3) := by decide +kernel
theorem dN_117 : decode method_3_code 117 = .ok (.areturn, 1) := by decide +kernel
theorem pnL : plainName "com/example/cladistic/cladistic/model/ColumnDefAsNullablePinLaw" = true := by first | (simp [plainName, overriddenIn]; done) | decide +kernel
theorem pdN : parseMethodDescriptor "(I)Ljava/lang/String;" = some ⟨[.int], some (.object "java/lang/String")⟩ := by decide +kernel
theorem efN (m : MethodId) (x0 : Int32) : entryFrame m #[(.int x0)] 5 = mkF m 0 #[.val (.int x0), .unset, .unset, .unset, .unset] [] := by first | (simp [entryFrame, mkF, argsToLocals, Value.category]; done) | rfl
def Q_rmN (Z : State) (a : Int32) (h0 : Heap) (z0 : Int32) (v : Option Value) (h : Heap) (L : List Loc) : Prop := ∃ x, v = some (.ref x) ∧ Exa Z h x "java/lang/String" ∧ Ext h0 h ∧ Fr Z.heap.size L
set_option maxRecDepth 65536 in
set_option maxHeartbeats 40000000 in
theorem rmN (l : Launch) (Z : State) (a0 : Array Value) (hw : ∀ d ∈ tables_1, d.before a0 Z = true) (hEL : EW Z a0 EL) (a : Int32) (h0 : Heap) (EZ : Ext Z.heap h0) (z0 : Int32) (O1 : Sta Z Z.heap "java/lang/String" "COMPACT_STRINGS" "Z" (.int z0)) (P5 : ¬ z0 = 0) :
    MetFree l (⟨"com/example/cladistic/cladistic/model/ColumnDefAsNullablePinLaw", "name", "(I)Ljava/lang/String;"⟩ : MethodName) (head1 (Jvm.Cond.code (⟨"com/example/cladistic/cladistic/model/ColumnDefAsNullablePinLaw", "name", "(I)Ljava/lang/String;"⟩ : MethodName) method_3_code 5 (Option.some (FieldType.object "java/lang/String")) :: []) ({ frames := 4, cells := 6, slots := 16, locals := 66 } : Room)) (fun aa U => aa = #[(.int a)] ∧ Z.Warmed39 U.vm ∧ U.heap = h0 ∧ CHv Z EL U.vm h0 ∧ ∀ yy ∈ ([] : List Addr), Safe Z EL U.vm h0 yy) (fun _ _ _ _ _ => True) (fun _ U o U' => ∃ v L, o = .returned v ∧ (Q_rmN Z a h0 z0) v U'.heap L ∧ CHr Z EL U.vm U.heap U'.vm U'.heap ∧ ReturnedEndW U o U' L ({ frames := 4, cells := 6, slots := 16, locals := 66 } : Room).cells ({ frames := 4, cells := 6, slots := 16, locals := 66 } : Room).slots) := by
  refine own_walkW (by exact pnL) ?_
  intro p e s m below meth c T0 X0 hx hby hml hret hlk hnm hs0 e0 I0 hsf F hF
  refine own_on (fun _ => castTop (efN m a)) ?_
  have M0 := own_ext_refl h0
  have N0 := Fr.nil Z.heap.size
  have own_hws := own_hwsL hw
  refine own_iload_n X0.here hx (hb hby dN_0) rfl (pc' := 1) rfl ?_
  refine own_bipush X0.here hx (hb hby dN_1) (v := 24) rfl (pc' := 3) rfl ?_
  refine own_iushr X0.here hx (hb hby dN_3) (pc' := 4) rfl ?_
  refine own_iconst X0.here hx (hb hby dN_4) (v := 3) rfl (pc' := 5) rfl ?_
  refine own_iand X0.here hx (hb hby dN_5) (pc' := 6) rfl ?_
  refine own_istore_n X0.here hx (hb hby dN_6) (L' := #[.val (.int a), .val (.int ((XT.ushr a (24 : Int32)) &&& (3 : Int32))), .unset, .unset, .unset]) rfl (pc' := 7) rfl ?_
  refine own_iload_n X0.here hx (hb hby dN_7) rfl (pc' := 8) rfl ?_
  refine own_sipush X0.here hx (hb hby dN_8) (v := 255) rfl (pc' := 11) rfl ?_
  refine own_iand X0.here hx (hb hby dN_11) (pc' := 12) rfl ?_
  refine own_i2c X0.here hx (hb hby dN_12) (pc' := 13) rfl ?_
  refine own_istore_n X0.here hx (hb hby dN_13) (L' := #[.val (.int a), .val (.int ((XT.ushr a (24 : Int32)) &&& (3 : Int32))), .val (.int (own_c (a &&& (255 : Int32)))), .unset, .unset]) rfl (pc' := 14) rfl ?_
  refine own_iload_n X0.here hx (hb hby dN_14) rfl (pc' := 15) rfl ?_
  refine own_bipush X0.here hx (hb hby dN_15) (v := 8) rfl (pc' := 17) rfl ?_
  refine own_iushr X0.here hx (hb hby dN_17) (pc' := 18) rfl ?_
  refine own_sipush X0.here hx (hb hby dN_18) (v := 255) rfl (pc' := 21) rfl ?_
  refine own_iand X0.here hx (hb hby dN_21) (pc' := 22) rfl ?_
  refine own_i2c X0.here hx (hb hby dN_22) (pc' := 23) rfl ?_
  refine own_istore_n X0.here hx (hb hby dN_23) (L' := #[.val (.int a), .val (.int ((XT.ushr a (24 : Int32)) &&& (3 : Int32))), .val (.int (own_c (a &&& (255 : Int32)))), .val (.int (own_c ((XT.ushr a (8 : Int32)) &&& (255 : Int32)))), .unset]) rfl (pc' := 24) rfl ?_
  refine own_iload_n X0.here hx (hb hby dN_24) rfl (pc' := 25) rfl ?_
  refine own_bipush X0.here hx (hb hby dN_25) (v := 16) rfl (pc' := 27) rfl ?_
  refine own_iushr X0.here hx (hb hby dN_27) (pc' := 28) rfl ?_
  refine own_sipush X0.here hx (hb hby dN_28) (v := 255) rfl (pc' := 31) rfl ?_
  refine own_iand X0.here hx (hb hby dN_31) (pc' := 32) rfl ?_
  refine own_i2c X0.here hx (hb hby dN_32) (pc' := 33) rfl ?_
  refine own_istore X0.here hx (hb hby dN_33) (L' := #[.val (.int a), .val (.int ((XT.ushr a (24 : Int32)) &&& (3 : Int32))), .val (.int (own_c (a &&& (255 : Int32)))), .val (.int (own_c ((XT.ushr a (8 : Int32)) &&& (255 : Int32)))), .val (.int (own_c ((XT.ushr a (16 : Int32)) &&& (255 : Int32))))]) rfl (pc' := 35) rfl ?_
  obtain ⟨c0, ec0⟩ : ∃ c, c = own_c (a &&& (255 : Int32)) := ⟨_, rfl⟩
  have nc0 : nar .char c0 = c0 := by rw [ec0]; exact own_nar _
  have pc0 : ¬ c0 < 0 ∧ ¬ (255 : Int32) < c0 := by rw [ec0]; exact own_and255 _
  rw [← ec0]
  obtain ⟨c1, ec1⟩ : ∃ c, c = own_c ((XT.ushr a (8 : Int32)) &&& (255 : Int32)) := ⟨_, rfl⟩
  have nc1 : nar .char c1 = c1 := by rw [ec1]; exact own_nar _
  have pc1 : ¬ c1 < 0 ∧ ¬ (255 : Int32) < c1 := by rw [ec1]; exact own_and255 _
  rw [← ec1]
  obtain ⟨c2, ec2⟩ : ∃ c, c = own_c ((XT.ushr a (16 : Int32)) &&& (255 : Int32)) := ⟨_, rfl⟩
  have nc2 : nar .char c2 = c2 := by rw [ec2]; exact own_nar _
  have pc2 : ¬ c2 < 0 ∧ ¬ (255 : Int32) < c2 := by rw [ec2]; exact own_and255 _
  rw [← ec2]
  rcases own_and3c (XT.ushr a (24 : Int32)) with hn | hn | hn | hn <;> rw [hn]
  · show own_Go p e below F (T0.setTop (mkF m 35 #[.val (.int a), .val (.int ((0 : Int32))), .val (.int c0), .val (.int c1), .val (.int c2)] []))
    refine own_iload_n X0.here hx (hb hby dN_35) rfl (pc' := 36) rfl ?_
    refine own_ifne X0.here hx (hb hby dN_36) (by decide) (pc' := 50) (by decide) (pc2 := 39) rfl (fun q => absurd rfl q) (fun q1 => ?_)
    obtain ⟨T2, h2, X2, e2, E2, A2, D2, -, st2⟩ := newO X0 hx I0.1 I0.2.1 (hw _ (List.mem_of_getElem? (i := 4) rfl)) (hw _ (List.mem_of_getElem? (i := 5) rfl)) (hw _ (List.mem_of_getElem? (i := 6) rfl)) e0 (g := (mkF m 39 #[.val (.int a), .val (.int ((0 : Int32))), .val (.int c0), .val (.int c1), .val (.int c2)] [])) rfl (hb hby dN_39) (by decide) (by decide)
    obtain ⟨a2, g2⟩ : ∃ z, z = h0.size := ⟨_, rfl⟩
    rw [← g2] at A2 D2 st2
    have ge3 : h0.size ≤ a2 := by rw [g2]; exact M0.1
    have sf2 := Safe.ext E2 I0.ch (Safe.new (Nat.le_of_eq g2.symm))
    have f4 := own_ext_trans M0 E2
    have J5 := I0.ext E2
    have F2_0 : Fld Z h2 a2 "java/lang/String" "value" "[B" (.null) := (D2 (Or.inr (hw _ (List.mem_of_getElem? (i := 20) rfl))) (ty := .array .byte) (by decide))
    have F2_1 : Fld Z h2 a2 "java/lang/String" "coder" "B" (.int ((0 : Int32))) := (D2 (Or.inr (hw _ (List.mem_of_getElem? (i := 21) rfl))) (ty := .byte) (by decide))
    refine own_on st2 ?_
    show own_Go p e below F (T2.setTop (mkF m 42 #[.val (.int a), .val (.int ((0 : Int32))), .val (.int c0), .val (.int c1), .val (.int c2)] [(.ref a2)]))
    have gz_a2 : Z.heap.size ≤ a2 := Nat.le_trans EZ.1 ge3
    refine own_dup X2.here hx (hb hby dN_42) rfl (pc' := 43) rfl ?_
    refine own_iconst X2.here hx (hb hby dN_43) (v := 0) rfl (pc' := 44) rfl ?_
    obtain ⟨T6, h6, k6, X6, e6, E6, A6, st6⟩ := newP X2 hx J5.1 (hw _ (List.mem_of_getElem? (i := 7) rfl)) e2 (g := (mkF m 44 #[.val (.int a), .val (.int ((0 : Int32))), .val (.int c0), .val (.int c1), .val (.int c2)] [(.int ((0 : Int32))), (.ref a2), (.ref a2)])) rfl (hb hby dN_44) rfl (by decide : ¬ ((0 : Int32) < (0 : Int32))) (cap := 0) (by decide) (by decide) (by decide) (by decide)
    obtain ⟨a6, g6⟩ : ∃ z, z = h2.size := ⟨_, rfl⟩
    rw [← g6] at A6 st6
    have ne7 : a2 ≠ a6 := Nat.ne_of_lt (by rw [g6]; exact A2.lt)
    have ge8 : h0.size ≤ a6 := by rw [g6]; exact f4.1
    have f9 := own_ext_trans f4 E6
    have f10 := A2.ext E6
    have f11 := F2_0.ext E6
    have f12 := F2_1.ext E6
    have f13 := Safe.ext E6 J5.ch sf2
    have J14 := J5.ext E6
    have V6 : Arv Z h6 a6 k6 .char (0 : Int32) [] (.int (0 : Int32)) := (Arv.new A6 (by decide)).pad (pad_rep [] (.int (0 : Int32)) 0)
    refine own_on st6 ?_
    show own_Go p e below F (T6.setTop (mkF m 46 #[.val (.int a), .val (.int ((0 : Int32))), .val (.int c0), .val (.int c1), .val (.int c2)] [(.ref a6), (.ref a2), (.ref a2)]))
    obtain ⟨_, _, ⟨T15, L15, k15, n15⟩, -, X15, hS15, hG15, ⟨Lc15, hQ15, l15, y15, z15, C15⟩, st15⟩ := X6.specialBackS hx (y := (⟨"java/lang/String", "<init>", "([C)V"⟩ : MethodName)) rfl J14.2.1 (mvT J14.1 (hw _ (List.mem_of_getElem? (i := 8) rfl))) (mvT J14.1 (hw _ (List.mem_of_getElem? (i := 9) rfl))) (mvT J14.1 (hw _ (List.mem_of_getElem? (i := 10) rfl))) (by decide) (own_backW (W := 1) (rmE1 l Z a0 hw hEL a2 a6 k6 _ h6 gz_a2 f10 f11 f12 V6) J14.1 (hw _ (List.mem_of_getElem? (i := 10) rfl)) (hw _ (List.mem_of_getElem? (i := 6) rfl)) (by decide) (by decide) hEL J14.ch (fun y hy => by simp only [List.mem_cons, List.not_mem_nil, or_false] at hy; subst hy; exact ⟨f10.lt, f13⟩)) (g := (mkF m 46 #[.val (.int a), .val (.int ((0 : Int32))), .val (.int c0), .val (.int c1), .val (.int c2)] [(.ref a6), (.ref a2), (.ref a2)])) rfl (by rw [hml]; rfl) (Steps.refl _) (a := a2) (argsL := [(.ref a6)]) (rest := [(.ref a2)]) (lenOf pdE1 rfl) rfl (by show 2 * 0 + _ ≤ _; exact Nat.le_of_eq rfl) (hb hby dN_46) (fun _ _ => ⟨rfl, e6, (Nat.le_of_ble_eq_true rfl), (Nat.le_of_ble_eq_true rfl)⟩)
    dsimp only [Pt.U, Pt.locs, Pt.cells, Pt.slots] at X15 hS15 hG15 l15 y15 z15 C15 st15 hQ15
    subst l15 y15 z15
    replace X15 := (show Stand _ _ _ _ (s.setVm T15.vm) _ _ _ _ _ _ _ _ _ from X15)
    have I15 := J14.later hS15 (Nat.le_refl _) (by have q := hG15; rw [(e6 : _ = h6)] at q; exact q) C15
    obtain ⟨rfl, N15, K15, S15⟩ := hQ15
    refine own_to st15 ?_
    show own_Go p e below F (T15.setTop (mkF m 49 #[.val (.int a), .val (.int ((0 : Int32))), .val (.int c0), .val (.int c1), .val (.int c2)] [(.ref a2)]))
    have f16 := own_ext_keep f9 K15 (fun y hy => by simp only [List.mem_cons, List.not_mem_nil, or_false] at hy; rcases hy with rfl <;> assumption)
    have N17 := Fr.app N0 N15
    exact own_retAW X15 hx hlk hEL I15 rfl hret rfl rfl (hb hby dN_49) (fun t ht hC hE => hF t _ _ _ _ (by rw [ht]; exact ⟨_, rfl, S15.exa, f16, N17⟩) hC hE (by decide) (by decide))
  · show own_Go p e below F (T0.setTop (mkF m 35 #[.val (.int a), .val (.int ((1 : Int32))), .val (.int c0), .val (.int c1), .val (.int c2)] []))
    refine own_iload_n X0.here hx (hb hby dN_35) rfl (pc' := 36) rfl ?_
    refine own_ifne X0.here hx (hb hby dN_36) (by decide) (pc' := 50) (by decide) (pc2 := 39) rfl (fun q18 => ?_) (fun q => absurd q (by decide))
    refine own_iload_n X0.here hx (hb hby dN_50) rfl (pc' := 51) rfl ?_
    refine own_iconst X0.here hx (hb hby dN_51) (v := 1) rfl (pc' := 52) rfl ?_
    refine own_icmpne X0.here hx (hb hby dN_52) (by decide) (pc' := 70) (by decide) (pc2 := 55) rfl (fun q => absurd rfl q) (fun q19 => ?_)
    obtain ⟨T20, h20, X20, e20, E20, A20, D20, -, st20⟩ := newO X0 hx I0.1 I0.2.1 (hw _ (List.mem_of_getElem? (i := 4) rfl)) (hw _ (List.mem_of_getElem? (i := 5) rfl)) (hw _ (List.mem_of_getElem? (i := 6) rfl)) e0 (g := (mkF m 55 #[.val (.int a), .val (.int ((1 : Int32))), .val (.int c0), .val (.int c1), .val (.int c2)] [])) rfl (hb hby dN_55) (by decide) (by decide)
    obtain ⟨a20, g20⟩ : ∃ z, z = h0.size := ⟨_, rfl⟩
    rw [← g20] at A20 D20 st20
    have ge21 : h0.size ≤ a20 := by rw [g20]; exact M0.1
    have sf20 := Safe.ext E20 I0.ch (Safe.new (Nat.le_of_eq g20.symm))
    have f22 := own_ext_trans M0 E20
    have J23 := I0.ext E20
    have F20_0 : Fld Z h20 a20 "java/lang/String" "value" "[B" (.null) := (D20 (Or.inr (hw _ (List.mem_of_getElem? (i := 20) rfl))) (ty := .array .byte) (by decide))
    have F20_1 : Fld Z h20 a20 "java/lang/String" "coder" "B" (.int ((0 : Int32))) := (D20 (Or.inr (hw _ (List.mem_of_getElem? (i := 21) rfl))) (ty := .byte) (by decide))
    refine own_on st20 ?_
    show own_Go p e below F (T20.setTop (mkF m 58 #[.val (.int a), .val (.int ((1 : Int32))), .val (.int c0), .val (.int c1), .val (.int c2)] [(.ref a20)]))
    have gz_a20 : Z.heap.size ≤ a20 := Nat.le_trans EZ.1 ge21
    refine own_dup X20.here hx (hb hby dN_58) rfl (pc' := 59) rfl ?_
    refine own_iconst X20.here hx (hb hby dN_59) (v := 1) rfl (pc' := 60) rfl ?_
    obtain ⟨T24, h24, k24, X24, e24, E24, A24, st24⟩ := newP X20 hx J23.1 (hw _ (List.mem_of_getElem? (i := 7) rfl)) e20 (g := (mkF m 60 #[.val (.int a), .val (.int ((1 : Int32))), .val (.int c0), .val (.int c1), .val (.int c2)] [(.int ((1 : Int32))), (.ref a20), (.ref a20)])) rfl (hb hby dN_60) rfl (by decide : ¬ ((1 : Int32) < (0 : Int32))) (cap := 1) (by decide) (by decide) (by decide) (by decide)
    obtain ⟨a24, g24⟩ : ∃ z, z = h20.size := ⟨_, rfl⟩
    rw [← g24] at A24 st24
    have ne25 : a20 ≠ a24 := Nat.ne_of_lt (by rw [g24]; exact A20.lt)
    have ge26 : h0.size ≤ a24 := by rw [g24]; exact f22.1
    have f27 := own_ext_trans f22 E24
    have f28 := A20.ext E24
    have f29 := F20_0.ext E24
    have f30 := F20_1.ext E24
    have f31 := Safe.ext E24 J23.ch sf20
    have J32 := J23.ext E24
    have V24 : Arv Z h24 a24 k24 .char (1 : Int32) [.int (0 : Int32)] (.int (0 : Int32)) := (Arv.new A24 (by decide)).pad (pad_rep [] (.int (0 : Int32)) 1)
    refine own_on st24 ?_
    show own_Go p e below F (T24.setTop (mkF m 62 #[.val (.int a), .val (.int ((1 : Int32))), .val (.int c0), .val (.int c1), .val (.int c2)] [(.ref a24), (.ref a20), (.ref a20)]))
    have gz_a24 : Z.heap.size ≤ a24 := Nat.le_trans EZ.1 ge26
    refine own_dup X24.here hx (hb hby dN_62) rfl (pc' := 63) rfl ?_
    refine own_iconst X24.here hx (hb hby dN_63) (v := 0) rfl (pc' := 64) rfl ?_
    refine own_iload_n X24.here hx (hb hby dN_64) rfl (pc' := 65) rfl ?_
    obtain ⟨T33, h33, X33, e33, W33, V33, st33⟩ := own_cast X24 hx J32.1 e24 V24 (i := 0) rfl (Nat.le_of_ble_eq_true rfl) (by decide) nc0 (g := (mkF m 65 #[.val (.int a), .val (.int ((1 : Int32))), .val (.int c0), .val (.int c1), .val (.int c2)] [(.int c0), (.int ((0 : Int32))), (.ref a24), (.ref a24), (.ref a20), (.ref a20)])) rfl rfl (hb hby dN_65)
    replace V33 : Arv Z h33 a24 k24 .char (1 : Int32) [.int c0] (.int (0 : Int32)) := V33
    have f34 := own_ext_wr f27 W33 ge26
    have f35 := f28.wr W33
    have f36 := f29.other W33 (Or.inl ne25)
    have f37 := f30.other W33 (Or.inl ne25)
    have f38 := Safe.wr W33 (Safe.arv J32.1.alike V24 (by decide)) J32.ch f31
    have J39 := J32.wr W33 (Safe.arv J32.1.alike V24 (by decide))
    have N40 := own_Fr_snoc (sl := ((0 : Int32)).toNatClampNeg) N0 gz_a24
    refine own_on st33 ?_
    show own_Go p e below F (T33.setTop (mkF m 66 #[.val (.int a), .val (.int ((1 : Int32))), .val (.int c0), .val (.int c1), .val (.int c2)] [(.ref a24), (.ref a20), (.ref a20)]))
    obtain ⟨_, _, ⟨T41, L41, k41, n41⟩, -, X41, ⟨Lc41, hQ41, l41, y41, z41⟩, st41⟩ := X33.specialBack hx (y := (⟨"java/lang/String", "<init>", "([C)V"⟩ : MethodName)) rfl J39.2.1 (mvT J39.1 (hw _ (List.mem_of_getElem? (i := 8) rfl))) (mvT J39.1 (hw _ (List.mem_of_getElem? (i := 9) rfl))) (mvT J39.1 (hw _ (List.mem_of_getElem? (i := 10) rfl))) (by decide) (StrChars.Road.backV (s := s.setVm s.vm) (W := 1) J39.1 own_hws (kI := 4) (hw _ own_wiS) (cs := ([c0] : List Int32)) (bs := ([c0] : List Int32).map (fun c => c.toInt8.toInt32)) (n := 1) gz_a20 (Nat.le_trans gz_a20 (Nat.le_of_lt (f35).lt)) f35 f36 f37 V33 (O1.ext (own_ext_trans EZ f34)) P5 rfl rfl (by decide) (by decide) (fun c hc => by simp only [List.mem_cons, List.not_mem_nil, or_false] at hc; rcases hc with rfl <;> assumption) rfl (by decide) (by decide)) (g := (mkF m 66 #[.val (.int a), .val (.int ((1 : Int32))), .val (.int c0), .val (.int c1), .val (.int c2)] [(.ref a24), (.ref a20), (.ref a20)])) rfl (by rw [hml]; rfl) (Steps.refl _) (a := a20) (argsL := [(.ref a24)]) (rest := [(.ref a20)]) (lenOf pdE1 rfl) rfl (by show 2 * 0 + _ ≤ _; exact Nat.le_of_eq rfl) (hb hby dN_66) (fun _ _ => ⟨rfl, e33, (Nat.le_of_ble_eq_true rfl), (Nat.le_of_ble_eq_true rfl)⟩)
    dsimp only [Pt.U, Pt.locs, Pt.cells, Pt.slots] at X41 l41 y41 z41 st41 hQ41
    subst l41 y41 z41
    obtain ⟨rfl, N41, K41, A41, C41, t41, kb41, _, _, _, V41, R41⟩ := hQ41
    refine own_to st41 ?_
    show own_Go p e below F (T41.setTop (mkF m 69 #[.val (.int a), .val (.int ((1 : Int32))), .val (.int c0), .val (.int c1), .val (.int c2)] [(.ref a20)]))
    have f42 := own_ext_keep f34 K41 (fun y hy => by simp only [List.mem_cons, List.not_mem_nil, or_false] at hy; rcases hy with rfl <;> assumption)
    have f43 := f35.keep K41
    have f46 := Safe.keep K41 (sfS f38 sf0) J39.ch f38
    have f47 := V33.keep K41 (by simp only [List.mem_cons, List.not_mem_nil, or_false, not_or]; exact (Ne.symm ne25))
    have J48 := J39.keep K41 (sfS f38 sf0)
    have N49 := Fr.app N40 N41
    have S50 : own_Str Z T41.heap a20 [c0] := ⟨t41, kb41, A41, V41, C41, R41, (fun c hc => by simp only [List.mem_cons, List.not_mem_nil, or_false] at hc; rcases hc with rfl <;> assumption), Nat.le_of_ble_eq_true rfl⟩
    exact own_retAW X41 hx hlk hEL J48 rfl hret rfl rfl (hb hby dN_69) (fun t ht hC hE => hF t _ _ _ _ (by rw [ht]; exact ⟨_, rfl, S50.exa, f42, N49⟩) hC hE (by decide) (by decide))
  · show own_Go p e below F (T0.setTop (mkF m 35 #[.val (.int a), .val (.int ((2 : Int32))), .val (.int c0), .val (.int c1), .val (.int c2)] []))
    refine own_iload_n X0.here hx (hb hby dN_35) rfl (pc' := 36) rfl ?_
    refine own_ifne X0.here hx (hb hby dN_36) (by decide) (pc' := 50) (by decide) (pc2 := 39) rfl (fun q51 => ?_) (fun q => absurd q (by decide))
    refine own_iload_n X0.here hx (hb hby dN_50) rfl (pc' := 51) rfl ?_
    refine own_iconst X0.here hx (hb hby dN_51) (v := 1) rfl (pc' := 52) rfl ?_
    refine own_icmpne X0.here hx (hb hby dN_52) (by decide) (pc' := 70) (by decide) (pc2 := 55) rfl (fun q52 => ?_) (fun q => absurd q (by decide))
    refine own_iload_n X0.here hx (hb hby dN_70) rfl (pc' := 71) rfl ?_
    refine own_iconst X0.here hx (hb hby dN_71) (v := 2) rfl (pc' := 72) rfl ?_
    refine own_icmpne X0.here hx (hb hby dN_72) (by decide) (pc' := 94) (by decide) (pc2 := 75) rfl (fun q => absurd rfl q) (fun q53 => ?_)
    obtain ⟨T54, h54, X54, e54, E54, A54, D54, -, st54⟩ := newO X0 hx I0.1 I0.2.1 (hw _ (List.mem_of_getElem? (i := 4) rfl)) (hw _ (List.mem_of_getElem? (i := 5) rfl)) (hw _ (List.mem_of_getElem? (i := 6) rfl)) e0 (g := (mkF m 75 #[.val (.int a), .val (.int ((2 : Int32))), .val (.int c0), .val (.int c1), .val (.int c2)] [])) rfl (hb hby dN_75) (by decide) (by decide)
    obtain ⟨a54, g54⟩ : ∃ z, z = h0.size := ⟨_, rfl⟩
    rw [← g54] at A54 D54 st54
    have ge55 : h0.size ≤ a54 := by rw [g54]; exact M0.1
    have sf54 := Safe.ext E54 I0.ch (Safe.new (Nat.le_of_eq g54.symm))
    have f56 := own_ext_trans M0 E54
    have J57 := I0.ext E54
    have F54_0 : Fld Z h54 a54 "java/lang/String" "value" "[B" (.null) := (D54 (Or.inr (hw _ (List.mem_of_getElem? (i := 20) rfl))) (ty := .array .byte) (by decide))
    have F54_1 : Fld Z h54 a54 "java/lang/String" "coder" "B" (.int ((0 : Int32))) := (D54 (Or.inr (hw _ (List.mem_of_getElem? (i := 21) rfl))) (ty := .byte) (by decide))
    refine own_on st54 ?_
    show own_Go p e below F (T54.setTop (mkF m 78 #[.val (.int a), .val (.int ((2 : Int32))), .val (.int c0), .val (.int c1), .val (.int c2)] [(.ref a54)]))
    have gz_a54 : Z.heap.size ≤ a54 := Nat.le_trans EZ.1 ge55
    refine own_dup X54.here hx (hb hby dN_78) rfl (pc' := 79) rfl ?_
    refine own_iconst X54.here hx (hb hby dN_79) (v := 2) rfl (pc' := 80) rfl ?_
    obtain ⟨T58, h58, k58, X58, e58, E58, A58, st58⟩ := newP X54 hx J57.1 (hw _ (List.mem_of_getElem? (i := 7) rfl)) e54 (g := (mkF m 80 #[.val (.int a), .val (.int ((2 : Int32))), .val (.int c0), .val (.int c1), .val (.int c2)] [(.int ((2 : Int32))), (.ref a54), (.ref a54)])) rfl (hb hby dN_80) rfl (by decide : ¬ ((2 : Int32) < (0 : Int32))) (cap := 2) (by decide) (by decide) (by decide) (by decide)
    obtain ⟨a58, g58⟩ : ∃ z, z = h54.size := ⟨_, rfl⟩
    rw [← g58] at A58 st58
    have ne59 : a54 ≠ a58 := Nat.ne_of_lt (by rw [g58]; exact A54.lt)
    have ge60 : h0.size ≤ a58 := by rw [g58]; exact f56.1
    have f61 := own_ext_trans f56 E58
    have f62 := A54.ext E58
    have f63 := F54_0.ext E58
    have f64 := F54_1.ext E58
    have f65 := Safe.ext E58 J57.ch sf54
    have J66 := J57.ext E58
    have V58 : Arv Z h58 a58 k58 .char (2 : Int32) [.int (0 : Int32), .int (0 : Int32)] (.int (0 : Int32)) := (Arv.new A58 (by decide)).pad (pad_rep [] (.int (0 : Int32)) 2)
    refine own_on st58 ?_
    show own_Go p e below F (T58.setTop (mkF m 82 #[.val (.int a), .val (.int ((2 : Int32))), .val (.int c0), .val (.int c1), .val (.int c2)] [(.ref a58), (.ref a54), (.ref a54)]))
    have gz_a58 : Z.heap.size ≤ a58 := Nat.le_trans EZ.1 ge60
    refine own_dup X58.here hx (hb hby dN_82) rfl (pc' := 83) rfl ?_
    refine own_iconst X58.here hx (hb hby dN_83) (v := 0) rfl (pc' := 84) rfl ?_
    refine own_iload_n X58.here hx (hb hby dN_84) rfl (pc' := 85) rfl ?_
    obtain ⟨T67, h67, X67, e67, W67, V67, st67⟩ := own_cast X58 hx J66.1 e58 V58 (i := 0) rfl (Nat.le_of_ble_eq_true rfl) (by decide) nc0 (g := (mkF m 85 #[.val (.int a), .val (.int ((2 : Int32))), .val (.int c0), .val (.int c1), .val (.int c2)] [(.int c0), (.int ((0 : Int32))), (.ref a58), (.ref a58), (.ref a54), (.ref a54)])) rfl rfl (hb hby dN_85)
    replace V67 : Arv Z h67 a58 k58 .char (2 : Int32) [.int c0, .int (0 : Int32)] (.int (0 : Int32)) := V67
    have f68 := own_ext_wr f61 W67 ge60
    have f69 := f62.wr W67
    have f70 := f63.other W67 (Or.inl ne59)
    have f71 := f64.other W67 (Or.inl ne59)
    have f72 := Safe.wr W67 (Safe.arv J66.1.alike V58 (by decide)) J66.ch f65
    have J73 := J66.wr W67 (Safe.arv J66.1.alike V58 (by decide))
    have N74 := own_Fr_snoc (sl := ((0 : Int32)).toNatClampNeg) N0 gz_a58
    refine own_on st67 ?_
    show own_Go p e below F (T67.setTop (mkF m 86 #[.val (.int a), .val (.int ((2 : Int32))), .val (.int c0), .val (.int c1), .val (.int c2)] [(.ref a58), (.ref a54), (.ref a54)]))
    refine own_dup X67.here hx (hb hby dN_86) rfl (pc' := 87) rfl ?_
    refine own_iconst X67.here hx (hb hby dN_87) (v := 1) rfl (pc' := 88) rfl ?_
    refine own_iload_n X67.here hx (hb hby dN_88) rfl (pc' := 89) rfl ?_
    obtain ⟨T75, h75, X75, e75, W75, V75, st75⟩ := own_cast X67 hx J73.1 e67 V67 (i := 1) rfl (Nat.le_of_ble_eq_true rfl) (by decide) nc1 (g := (mkF m 89 #[.val (.int a), .val (.int ((2 : Int32))), .val (.int c0), .val (.int c1), .val (.int c2)] [(.int c1), (.int ((1 : Int32))), (.ref a58), (.ref a58), (.ref a54), (.ref a54)])) rfl rfl (hb hby dN_89)
    replace V75 : Arv Z h75 a58 k58 .char (2 : Int32) [.int c0, .int c1] (.int (0 : Int32)) := V75
    have f76 := own_ext_wr f68 W75 ge60
    have f77 := f69.wr W75
    have f78 := f70.other W75 (Or.inl ne59)
    have f79 := f71.other W75 (Or.inl ne59)
    have f80 := Safe.wr W75 (Safe.arv J73.1.alike V67 (by decide)) J73.ch f72
    have J81 := J73.wr W75 (Safe.arv J73.1.alike V67 (by decide))
    have N82 := own_Fr_snoc (sl := ((1 : Int32)).toNatClampNeg) N74 gz_a58
    refine own_on st75 ?_
    show own_Go p e below F (T75.setTop (mkF m 90 #[.val (.int a), .val (.int ((2 : Int32))), .val (.int c0), .val (.int c1), .val (.int c2)] [(.ref a58), (.ref a54), (.ref a54)]))
    obtain ⟨_, _, ⟨T83, L83, k83, n83⟩, -, X83, ⟨Lc83, hQ83, l83, y83, z83⟩, st83⟩ := X75.specialBack hx (y := (⟨"java/lang/String", "<init>", "([C)V"⟩ : MethodName)) rfl J81.2.1 (mvT J81.1 (hw _ (List.mem_of_getElem? (i := 8) rfl))) (mvT J81.1 (hw _ (List.mem_of_getElem? (i := 9) rfl))) (mvT J81.1 (hw _ (List.mem_of_getElem? (i := 10) rfl))) (by decide) (StrChars.Road.backV (s := s.setVm s.vm) (W := 1) J81.1 own_hws (kI := 4) (hw _ own_wiS) (cs := ([c0, c1] : List Int32)) (bs := ([c0, c1] : List Int32).map (fun c => c.toInt8.toInt32)) (n := 2) gz_a54 (Nat.le_trans gz_a54 (Nat.le_of_lt (f77).lt)) f77 f78 f79 V75 (O1.ext (own_ext_trans EZ f76)) P5 rfl rfl (by decide) (by decide) (fun c hc => by simp only [List.mem_cons, List.not_mem_nil, or_false] at hc; rcases hc with rfl | rfl <;> assumption) rfl (by decide) (by decide)) (g := (mkF m 90 #[.val (.int a), .val (.int ((2 : Int32))), .val (.int c0), .val (.int c1), .val (.int c2)] [(.ref a58), (.ref a54), (.ref a54)])) rfl (by rw [hml]; rfl) (Steps.refl _) (a := a54) (argsL := [(.ref a58)]) (rest := [(.ref a54)]) (lenOf pdE1 rfl) rfl (by show 2 * 0 + _ ≤ _; exact Nat.le_of_eq rfl) (hb hby dN_90) (fun _ _ => ⟨rfl, e75, (Nat.le_of_ble_eq_true rfl), (Nat.le_of_ble_eq_true rfl)⟩)
    dsimp only [Pt.U, Pt.locs, Pt.cells, Pt.slots] at X83 l83 y83 z83 st83 hQ83
    subst l83 y83 z83
    obtain ⟨rfl, N83, K83, A83, C83, t83, kb83, _, _, _, V83, R83⟩ := hQ83
    refine own_to st83 ?_
    show own_Go p e below F (T83.setTop (mkF m 93 #[.val (.int a), .val (.int ((2 : Int32))), .val (.int c0), .val (.int c1), .val (.int c2)] [(.ref a54)]))
    have f84 := own_ext_keep f76 K83 (fun y hy => by simp only [List.mem_cons, List.not_mem_nil, or_false] at hy; rcases hy with rfl <;> assumption)
    have f85 := f77.keep K83
    have f88 := Safe.keep K83 (sfS f80 sf0) J81.ch f80
    have f89 := V75.keep K83 (by simp only [List.mem_cons, List.not_mem_nil, or_false, not_or]; exact (Ne.symm ne59))
    have J90 := J81.keep K83 (sfS f80 sf0)
    have N91 := Fr.app N82 N83
    have S92 : own_Str Z T83.heap a54 [c0, c1] := ⟨t83, kb83, A83, V83, C83, R83, (fun c hc => by simp only [List.mem_cons, List.not_mem_nil, or_false] at hc; rcases hc with rfl | rfl <;> assumption), Nat.le_of_ble_eq_true rfl⟩
    exact own_retAW X83 hx hlk hEL J90 rfl hret rfl rfl (hb hby dN_93) (fun t ht hC hE => hF t _ _ _ _ (by rw [ht]; exact ⟨_, rfl, S92.exa, f84, N91⟩) hC hE (by decide) (by decide))
  · show own_Go p e below F (T0.setTop (mkF m 35 #[.val (.int a), .val (.int ((3 : Int32))), .val (.int c0), .val (.int c1), .val (.int c2)] []))
    refine own_iload_n X0.here hx (hb hby dN_35) rfl (pc' := 36) rfl ?_
    refine own_ifne X0.here hx (hb hby dN_36) (by decide) (pc' := 50) (by decide) (pc2 := 39) rfl (fun q93 => ?_) (fun q => absurd q (by decide))
    refine own_iload_n X0.here hx (hb hby dN_50) rfl (pc' := 51) rfl ?_
    refine own_iconst X0.here hx (hb hby dN_51) (v := 1) rfl (pc' := 52) rfl ?_
    refine own_icmpne X0.here hx (hb hby dN_52) (by decide) (pc' := 70) (by decide) (pc2 := 55) rfl (fun q94 => ?_) (fun q => absurd q (by decide))
    refine own_iload_n X0.here hx (hb hby dN_70) rfl (pc' := 71) rfl ?_
    refine own_iconst X0.here hx (hb hby dN_71) (v := 2) rfl (pc' := 72) rfl ?_
    refine own_icmpne X0.here hx (hb hby dN_72) (by decide) (pc' := 94) (by decide) (pc2 := 75) rfl (fun q95 => ?_) (fun q => absurd q (by decide))
    obtain ⟨T96, h96, X96, e96, E96, A96, D96, -, st96⟩ := newO X0 hx I0.1 I0.2.1 (hw _ (List.mem_of_getElem? (i := 4) rfl)) (hw _ (List.mem_of_getElem? (i := 5) rfl)) (hw _ (List.mem_of_getElem? (i := 6) rfl)) e0 (g := (mkF m 94 #[.val (.int a), .val (.int ((3 : Int32))), .val (.int c0), .val (.int c1), .val (.int c2)] [])) rfl (hb hby dN_94) (by decide) (by decide)
    obtain ⟨a96, g96⟩ : ∃ z, z = h0.size := ⟨_, rfl⟩
    rw [← g96] at A96 D96 st96
    have ge97 : h0.size ≤ a96 := by rw [g96]; exact M0.1
    have sf96 := Safe.ext E96 I0.ch (Safe.new (Nat.le_of_eq g96.symm))
    have f98 := own_ext_trans M0 E96
    have J99 := I0.ext E96
    have F96_0 : Fld Z h96 a96 "java/lang/String" "value" "[B" (.null) := (D96 (Or.inr (hw _ (List.mem_of_getElem? (i := 20) rfl))) (ty := .array .byte) (by decide))
    have F96_1 : Fld Z h96 a96 "java/lang/String" "coder" "B" (.int ((0 : Int32))) := (D96 (Or.inr (hw _ (List.mem_of_getElem? (i := 21) rfl))) (ty := .byte) (by decide))
    refine own_on st96 ?_
    show own_Go p e below F (T96.setTop (mkF m 97 #[.val (.int a), .val (.int ((3 : Int32))), .val (.int c0), .val (.int c1), .val (.int c2)] [(.ref a96)]))
    have gz_a96 : Z.heap.size ≤ a96 := Nat.le_trans EZ.1 ge97
    refine own_dup X96.here hx (hb hby dN_97) rfl (pc' := 98) rfl ?_
    refine own_iconst X96.here hx (hb hby dN_98) (v := 3) rfl (pc' := 99) rfl ?_
    obtain ⟨T100, h100, k100, X100, e100, E100, A100, st100⟩ := newP X96 hx J99.1 (hw _ (List.mem_of_getElem? (i := 7) rfl)) e96 (g := (mkF m 99 #[.val (.int a), .val (.int ((3 : Int32))), .val (.int c0), .val (.int c1), .val (.int c2)] [(.int ((3 : Int32))), (.ref a96), (.ref a96)])) rfl (hb hby dN_99) rfl (by decide : ¬ ((3 : Int32) < (0 : Int32))) (cap := 3) (by decide) (by decide) (by decide) (by decide)
    obtain ⟨a100, g100⟩ : ∃ z, z = h96.size := ⟨_, rfl⟩
    rw [← g100] at A100 st100
    have ne101 : a96 ≠ a100 := Nat.ne_of_lt (by rw [g100]; exact A96.lt)
    have ge102 : h0.size ≤ a100 := by rw [g100]; exact f98.1
    have f103 := own_ext_trans f98 E100
    have f104 := A96.ext E100
    have f105 := F96_0.ext E100
    have f106 := F96_1.ext E100
    have f107 := Safe.ext E100 J99.ch sf96
    have J108 := J99.ext E100
    have V100 : Arv Z h100 a100 k100 .char (3 : Int32) [.int (0 : Int32), .int (0 : Int32), .int (0 : Int32)] (.int (0 : Int32)) := (Arv.new A100 (by decide)).pad (pad_rep [] (.int (0 : Int32)) 3)
    refine own_on st100 ?_
    show own_Go p e below F (T100.setTop (mkF m 101 #[.val (.int a), .val (.int ((3 : Int32))), .val (.int c0), .val (.int c1), .val (.int c2)] [(.ref a100), (.ref a96), (.ref a96)]))
    have gz_a100 : Z.heap.size ≤ a100 := Nat.le_trans EZ.1 ge102
    refine own_dup X100.here hx (hb hby dN_101) rfl (pc' := 102) rfl ?_
    refine own_iconst X100.here hx (hb hby dN_102) (v := 0) rfl (pc' := 103) rfl ?_
    refine own_iload_n X100.here hx (hb hby dN_103) rfl (pc' := 104) rfl ?_
    obtain ⟨T109, h109, X109, e109, W109, V109, st109⟩ := own_cast X100 hx J108.1 e100 V100 (i := 0) rfl (Nat.le_of_ble_eq_true rfl) (by decide) nc0 (g := (mkF m 104 #[.val (.int a), .val (.int ((3 : Int32))), .val (.int c0), .val (.int c1), .val (.int c2)] [(.int c0), (.int ((0 : Int32))), (.ref a100), (.ref a100), (.ref a96), (.ref a96)])) rfl rfl (hb hby dN_104)
    replace V109 : Arv Z h109 a100 k100 .char (3 : Int32) [.int c0, .int (0 : Int32), .int (0 : Int32)] (.int (0 : Int32)) := V109
    have f110 := own_ext_wr f103 W109 ge102
    have f111 := f104.wr W109
    have f112 := f105.other W109 (Or.inl ne101)
    have f113 := f106.other W109 (Or.inl ne101)
    have f114 := Safe.wr W109 (Safe.arv J108.1.alike V100 (by decide)) J108.ch f107
    have J115 := J108.wr W109 (Safe.arv J108.1.alike V100 (by decide))
    have N116 := own_Fr_snoc (sl := ((0 : Int32)).toNatClampNeg) N0 gz_a100
    refine own_on st109 ?_
    show own_Go p e below F (T109.setTop (mkF m 105 #[.val (.int a), .val (.int ((3 : Int32))), .val (.int c0), .val (.int c1), .val (.int c2)] [(.ref a100), (.ref a96), (.ref a96)]))
    refine own_dup X109.here hx (hb hby dN_105) rfl (pc' := 106) rfl ?_
    refine own_iconst X109.here hx (hb hby dN_106) (v := 1) rfl (pc' := 107) rfl ?_
    refine own_iload_n X109.here hx (hb hby dN_107) rfl (pc' := 108) rfl ?_
    obtain ⟨T117, h117, X117, e117, W117, V117, st117⟩ := own_cast X109 hx J115.1 e109 V109 (i := 1) rfl (Nat.le_of_ble_eq_true rfl) (by decide) nc1 (g := (mkF m 108 #[.val (.int a), .val (.int ((3 : Int32))), .val (.int c0), .val (.int c1), .val (.int c2)] [(.int c1), (.int ((1 : Int32))), (.ref a100), (.ref a100), (.ref a96), (.ref a96)])) rfl rfl (hb hby dN_108)
    replace V117 : Arv Z h117 a100 k100 .char (3 : Int32) [.int c0, .int c1, .int (0 : Int32)] (.int (0 : Int32)) := V117
    have f118 := own_ext_wr f110 W117 ge102
    have f119 := f111.wr W117
    have f120 := f112.other W117 (Or.inl ne101)
    have f121 := f113.other W117 (Or.inl ne101)
    have f122 := Safe.wr W117 (Safe.arv J115.1.alike V109 (by decide)) J115.ch f114
    have J123 := J115.wr W117 (Safe.arv J115.1.alike V109 (by decide))
    have N124 := own_Fr_snoc (sl := ((1 : Int32)).toNatClampNeg) N116 gz_a100
    refine own_on st117 ?_
    show own_Go p e below F (T117.setTop (mkF m 109 #[.val (.int a), .val (.int ((3 : Int32))), .val (.int c0), .val (.int c1), .val (.int c2)] [(.ref a100), (.ref a96), (.ref a96)]))
    refine own_dup X117.here hx (hb hby dN_109) rfl (pc' := 110) rfl ?_
    refine own_iconst X117.here hx (hb hby dN_110) (v := 2) rfl (pc' := 111) rfl ?_
    refine own_iload X117.here hx (hb hby dN_111) rfl (pc' := 113) rfl ?_
    obtain ⟨T125, h125, X125, e125, W125, V125, st125⟩ := own_cast X117 hx J123.1 e117 V117 (i := 2) rfl (Nat.le_of_ble_eq_true rfl) (by decide) nc2 (g := (mkF m 113 #[.val (.int a), .val (.int ((3 : Int32))), .val (.int c0), .val (.int c1), .val (.int c2)] [(.int c2), (.int ((2 : Int32))), (.ref a100), (.ref a100), (.ref a96), (.ref a96)])) rfl rfl (hb hby dN_113)
    replace V125 : Arv Z h125 a100 k100 .char (3 : Int32) [.int c0, .int c1, .int c2] (.int (0 : Int32)) := V125
    have f126 := own_ext_wr f118 W125 ge102
    have f127 := f119.wr W125
    have f128 := f120.other W125 (Or.inl ne101)
    have f129 := f121.other W125 (Or.inl ne101)
    have f130 := Safe.wr W125 (Safe.arv J123.1.alike V117 (by decide)) J123.ch f122
    have J131 := J123.wr W125 (Safe.arv J123.1.alike V117 (by decide))
    have N132 := own_Fr_snoc (sl := ((2 : Int32)).toNatClampNeg) N124 gz_a100
    refine own_on st125 ?_
    show own_Go p e below F (T125.setTop (mkF m 114 #[.val (.int a), .val (.int ((3 : Int32))), .val (.int c0), .val (.int c1), .val (.int c2)] [(.ref a100), (.ref a96), (.ref a96)]))
    obtain ⟨_, _, ⟨T133, L133, k133, n133⟩, -, X133, ⟨Lc133, hQ133, l133, y133, z133⟩, st133⟩ := X125.specialBack hx (y := (⟨"java/lang/String", "<init>", "([C)V"⟩ : MethodName)) rfl J131.2.1 (mvT J131.1 (hw _ (List.mem_of_getElem? (i := 8) rfl))) (mvT J131.1 (hw _ (List.mem_of_getElem? (i := 9) rfl))) (mvT J131.1 (hw _ (List.mem_of_getElem? (i := 10) rfl))) (by decide) (StrChars.Road.backV (s := s.setVm s.vm) (W := 1) J131.1 own_hws (kI := 4) (hw _ own_wiS) (cs := ([c0, c1, c2] : List Int32)) (bs := ([c0, c1, c2] : List Int32).map (fun c => c.toInt8.toInt32)) (n := 3) gz_a96 (Nat.le_trans gz_a96 (Nat.le_of_lt (f127).lt)) f127 f128 f129 V125 (O1.ext (own_ext_trans EZ f126)) P5 rfl rfl (by decide) (by decide) (fun c hc => by simp only [List.mem_cons, List.not_mem_nil, or_false] at hc; rcases hc with rfl | rfl | rfl <;> assumption) rfl (by decide) (by decide)) (g := (mkF m 114 #[.val (.int a), .val (.int ((3 : Int32))), .val (.int c0), .val (.int c1), .val (.int c2)] [(.ref a100), (.ref a96), (.ref a96)])) rfl (by rw [hml]; rfl) (Steps.refl _) (a := a96) (argsL := [(.ref a100)]) (rest := [(.ref a96)]) (lenOf pdE1 rfl) rfl (by show 2 * 0 + _ ≤ _; exact Nat.le_of_eq rfl) (hb hby dN_114) (fun _ _ => ⟨rfl, e125, (Nat.le_of_ble_eq_true rfl), (Nat.le_of_ble_eq_true rfl)⟩)
    dsimp only [Pt.U, Pt.locs, Pt.cells, Pt.slots] at X133 l133 y133 z133 st133 hQ133
    subst l133 y133 z133
    obtain ⟨rfl, N133, K133, A133, C133, t133, kb133, _, _, _, V133, R133⟩ := hQ133
    refine own_to st133 ?_
    show own_Go p e below F (T133.setTop (mkF m 117 #[.val (.int a), .val (.int ((3 : Int32))), .val (.int c0), .val (.int c1), .val (.int c2)] [(.ref a96)]))
    have f134 := own_ext_keep f126 K133 (fun y hy => by simp only [List.mem_cons, List.not_mem_nil, or_false] at hy; rcases hy with rfl <;> assumption)
    have f135 := f127.keep K133
    have f138 := Safe.keep K133 (sfS f130 sf0) J131.ch f130
    have f139 := V125.keep K133 (by simp only [List.mem_cons, List.not_mem_nil, or_false, not_or]; exact (Ne.symm ne101))
    have J140 := J131.keep K133 (sfS f130 sf0)
    have N141 := Fr.app N132 N133
    have S142 : own_Str Z T133.heap a96 [c0, c1, c2] := ⟨t133, kb133, A133, V133, C133, R133, (fun c hc => by simp only [List.mem_cons, List.not_mem_nil, or_false] at hc; rcases hc with rfl | rfl | rfl <;> assumption), Nat.le_of_ble_eq_true rfl⟩
    exact own_retAW X133 hx hlk hEL J140 rfl hret rfl rfl (hb hby dN_117) (fun t ht hC hE => hF t _ _ _ _ (by rw [ht]; exact ⟨_, rfl, S142.exa, f134, N141⟩) hC hE (by decide) (by decide))
theorem dT_0 : decode method_4_code 0 = .ok (.iload_n 0, 1) := by decide +kernel
theorem dT_1 : decode method_4_code 1 = .ok (.ldc 74, 2) := by decide +kernel
theorem dT_3 : decode method_4_code 3 = .ok (.iand, 1) := by decide +kernel
theorem dT_4 : decode method_4_code 4 = .ok (.bipush 11, 2) := by decide +kernel
theorem dT_6 : decode method_4_code 6 = .ok (.irem, 1) := by decide +kernel
theorem dT_7 : decode method_4_code 7 = .ok (.istore_n 1, 1) := by decide +kernel
theorem dT_8 : decode method_4_code 8 = .ok (.iload_n 1, 1) := by decide +kernel
theorem dT_9 : decode method_4_code 9 = .ok (.ifCond .ne 7, 3) := by decide +kernel
theorem dT_12 : decode method_4_code 12 = .ok (.getstatic 75, 3) := by decide +kernel
theorem dT_15 : decode method_4_code 15 = .ok (.areturn, 1) := by decide +kernel
theorem dT_16 : decode method_4_code 16 = .ok (.iload_n 1, 1) := by decide +kernel
theorem dT_17 : decode method_4_code 17 = .ok (.iconst 1, 1) := by decide +kernel
theorem dT_18 : decode method_4_code 18 = .ok (.if_icmp .ne 7, 3) := by decide +kernel
theorem dT_21 : decode method_4_code 21 = .ok (.getstatic 81, 3) := by decide +kernel
theorem dT_24 : decode method_4_code 24 = .ok (.areturn, 1) := by decide +kernel
theorem dT_25 : decode method_4_code 25 = .ok (.iload_n 1, 1) := by decide +kernel
theorem dT_26 : decode method_4_code 26 = .ok (.iconst 2, 1) := by decide +kernel
theorem dT_27 : decode method_4_code 27 = .ok (.if_icmp .ne 7, 3) := by decide +kernel
theorem dT_30 : decode method_4_code 30 = .ok (.getstatic 84, 3) := by decide +kernel
theorem dT_33 : decode method_4_code 33 = .ok (.areturn, 1) := by decide +kernel
theorem dT_34 : decode method_4_code 34 = .ok (.iload_n 1, 1) := by decide +kernel
theorem dT_35 : decode method_4_code 35 = .ok (.iconst 3, 1) := by decide +kernel
theorem dT_36 : decode method_4_code 36 = .ok (.if_icmp .ne 7, 3) := by decide +kernel
theorem dT_39 : decode method_4_code 39 = .ok (.getstatic 87, 3) := by decide +kernel
theorem dT_42 : decode method_4_code 42 = .ok (.areturn, 1) := by decide +kernel
theorem dT_43 : decode method_4_code 43 = .ok (.iload_n 1, 1) := by decide +kernel
theorem dT_44 : decode method_4_code 44 = .ok (.iconst 4, 1) := by decide +kernel
theorem dT_45 : decode method_4_code 45 = .ok (.if_icmp .ne 7, 3) := by decide +kernel
theorem dT_48 : decode method_4_code 48 = .ok (.getstatic 90, 3) := by decide +kernel
theorem dT_51 : decode method_4_code 51 = .ok (.areturn, 1) := by decide +kernel
theorem dT_52 : decode method_4_code 52 = .ok (.iload_n 1, 1) := by decide +kernel
theorem dT_53 : decode method_4_code 53 = .ok (.iconst 5, 1) := by decide +kernel
theorem dT_54 : decode method_4_code 54 = .ok (.if_icmp .ne 7, 3) := by decide +kernel
theorem dT_57 : decode method_4_code 57 = .ok (.getstatic 93, 3) := by decide +kernel
theorem dT_60 : decode method_4_code 60 = .ok (.areturn, 1) := by decide +kernel
theorem dT_61 : decode method_4_code 61 = .ok (.iload_n 1, 1) := by decide +kernel
theorem dT_62 : decode method_4_code 62 = .ok (.bipush 6, 2) := by decide +kernel
theorem dT_64 : decode method_4_code 64 = .ok (.if_icmp .ne 7, 3) := by decide +kernel
theorem dT_67 : decode method_4_code 67 = .ok (.getstatic 96, 3) := by decide +kernel
theorem dT_70 : decode method_4_code 70 = .ok (.areturn, 1) := by decide +kernel
theorem dT_71 : decode method_4_code 71 = .ok (.iload_n 1, 1) := by decide +kernel
theorem dT_72 : decode method_4_code 72 = .ok (.bipush 7, 2) := by decide +kernel
theorem dT_74 : decode method_4_code 74 = .ok (.if_icmp .ne 7, 3) := by decide +kernel
theorem dT_77 : decode method_4_code 77 = .ok (.getstatic 99, 3) := by decide +kernel
theorem dT_80 : decode method_4_code 80 = .ok (.areturn, 1) := by decide +kernel
theorem dT_81 : decode method_4_code 81 = .ok (.iload_n 1, 1) := by decide +kernel
theorem dT_82 : decode method_4_code 82 = .ok (.bipush 8, 2) := by decide +kernel
theorem dT_84 : decode method_4_code 84 = .ok (.if_icmp .ne 7, 3) := by decide +kernel
theorem dT_87 : decode method_4_code 87 = .ok (.getstatic 102, 3) := by decide +kernel
theorem dT_90 : decode method_4_code 90 = .ok (.areturn, 1) := by decide +kernel
theorem dT_91 : decode method_4_code 91 = .ok (.iload_n 1, 1) := by decide +kernel
theorem dT_92 : decode method_4_code 92 = .ok (.bipush 9, 2) := by decide +kernel
theorem dT_94 : decode method_4_code 94 = .ok (.if_icmp .ne 7, 3) := by decide +kernel
theorem dT_97 : decode method_4_code 97 = .ok (.getstatic 105, 3) := by decide +kernel
theorem dT_100 : decode method_4_code 100 = .ok (.areturn, 1) := by decide +kernel
theorem dT_101 : decode method_4_code 101 = .ok (.getstatic 108, 3) := by decide +kernel
theorem dT_104 : decode method_4_code 104 = .ok (.areturn, 1) := by decide +kernel
theorem pdT : parseMethodDescriptor "(I)Lcom/example/cladistic/cladistic/model/ValueType;" = some ⟨[.int], some (.object "com/example/cladistic/cladistic/model/ValueType")⟩ := by decide +kernel
theorem efT (m : MethodId) (x0 : Int32) : entryFrame m #[(.int x0)] 2 = mkF m 0 #[.val (.int x0), .unset] [] := by first | (simp [entryFrame, mkF, argsToLocals, Value.category]; done) | rfl
def Q_rmT (Z : State) (k : Int32) (h0 : Heap) (v0 : Addr) (v1 : Addr) (v2 : Addr) (v3 : Addr) (v4 : Addr) (v5 : Addr) (v6 : Addr) (v7 : Addr) (v8 : Addr) (v9 : Addr) (v10 : Addr) (v : Option Value) (h : Heap) (L : List Loc) : Prop := ∃ t, v = some (.ref t) ∧ Fr Z.heap.size L ∧ h = h0
set_option maxRecDepth 65536 in
set_option maxHeartbeats 40000000 in
theorem rmT (l : Launch) (Z : State) (a0 : Array Value) (hw : ∀ d ∈ tables_1, d.before a0 Z = true) (k : Int32) (h0 : Heap) (EZ : Ext Z.heap h0) (v0 : Addr) (V0 : Sta Z Z.heap "com/example/cladistic/cladistic/model/ValueType" "STRING" "Lcom/example/cladistic/cladistic/model/ValueType;" (.ref v0)) (v1 : Addr) (V1 : Sta Z Z.heap "com/example/cladistic/cladistic/model/ValueType" "BOOLEAN" "Lcom/example/cladistic/cladistic/model/ValueType;" (.ref v1)) (v2 : Addr) (V2 : Sta Z Z.heap "com/example/cladistic/cladistic/model/ValueType" "INT" "Lcom/example/cladistic/cladistic/model/ValueType;" (.ref v2)) (v3 : Addr) (V3 : Sta Z Z.heap "com/example/cladistic/cladistic/model/ValueType" "LONG" "Lcom/example/cladistic/cladistic/model/ValueType;" (.ref v3)) (v4 : Addr) (V4 : Sta Z Z.heap "com/example/cladistic/cladistic/model/ValueType" "DOUBLE" "Lcom/example/cladistic/cladistic/model/ValueType;" (.ref v4)) (v5 : Addr) (V5 : Sta Z Z.heap "com/example/cladistic/cladistic/model/ValueType" "DECIMAL" "Lcom/example/cladistic/cladistic/model/ValueType;" (.ref v5)) (v6 : Addr) (V6 : Sta Z Z.heap "com/example/cladistic/cladistic/model/ValueType" "DATE" "Lcom/example/cladistic/cladistic/model/ValueType;" (.ref v6)) (v7 : Addr) (V7 : Sta Z Z.heap "com/example/cladistic/cladistic/model/ValueType" "TIMESTAMP" "Lcom/example/cladistic/cladistic/model/ValueType;" (.ref v7)) (v8 : Addr) (V8 : Sta Z Z.heap "com/example/cladistic/cladistic/model/ValueType" "UUID" "Lcom/example/cladistic/cladistic/model/ValueType;" (.ref v8)) (v9 : Addr) (V9 : Sta Z Z.heap "com/example/cladistic/cladistic/model/ValueType" "ENUM" "Lcom/example/cladistic/cladistic/model/ValueType;" (.ref v9)) (v10 : Addr) (V10 : Sta Z Z.heap "com/example/cladistic/cladistic/model/ValueType" "CHAR" "Lcom/example/cladistic/cladistic/model/ValueType;" (.ref v10)) :
    MetFree l (⟨"com/example/cladistic/cladistic/model/ColumnDefAsNullablePinLaw", "type", "(I)Lcom/example/cladistic/cladistic/model/ValueType;"⟩ : MethodName) (head1 (Jvm.Cond.code (⟨"com/example/cladistic/cladistic/model/ColumnDefAsNullablePinLaw", "type", "(I)Lcom/example/cladistic/cladistic/model/ValueType;"⟩ : MethodName) method_4_code 2 (Option.some (FieldType.object "com/example/cladistic/cladistic/model/ValueType")) :: []) ({ frames := 0, cells := 0, slots := 0, locals := 0 } : Room)) (fun aa U => aa = #[(.int k)] ∧ Z.Warmed39 U.vm ∧ U.heap = h0) (fun _ _ _ _ _ => True) (fun _ U o U' => ∃ v L, o = .returned v ∧ (Q_rmT Z k h0 v0 v1 v2 v3 v4 v5 v6 v7 v8 v9 v10) v U'.heap L ∧ FrameEnd U o U' L ({ frames := 0, cells := 0, slots := 0, locals := 0 } : Room).cells ({ frames := 0, cells := 0, slots := 0, locals := 0 } : Room).slots) := by
  refine own_walkN (by exact pnL) ?_
  intro p e s m below meth c T0 X0 hx hby hml hret hlk hnm hown hZ e0 es0 F hF
  refine own_on (fun _ => castTop (efT m k)) ?_
  refine own_iload_n X0.here hx (hb hby dT_0) rfl (pc' := 1) rfl ?_
  refine own_on (fun _ => X0.ldcI hx hown (mv hZ (hw _ (List.mem_of_getElem? (i := 29) rfl))) (g := (mkF m 1 #[.val (.int k), .unset] [(.int k)])) rfl (hb hby dT_1)) ?_
  show own_Go p e below F (T0.setTop (mkF m 3 #[.val (.int k), .unset] [(.int ((2147483647 : Int32))), (.int k)]))
  refine own_iand X0.here hx (hb hby dT_3) (pc' := 4) rfl ?_
  refine own_bipush X0.here hx (hb hby dT_4) (v := 11) rfl (pc' := 6) rfl ?_
  refine own_irem X0.here hx (hb hby dT_6) (by decide) (pc' := 7) rfl ?_
  refine own_istore_n X0.here hx (hb hby dT_7) (L' := #[.val (.int k), .val (.int ((k &&& (2147483647 : Int32)) % (11 : Int32)))]) rfl (pc' := 8) rfl ?_
  refine own_iload_n X0.here hx (hb hby dT_8) rfl (pc' := 9) rfl ?_
  refine own_ifne X0.here hx (hb hby dT_9) (by decide) (pc' := 16) (by decide) (pc2 := 12) rfl (fun q1 => ?_) (fun q1 => ?_)
  · refine own_iload_n X0.here hx (hb hby dT_16) rfl (pc' := 17) rfl ?_
    refine own_iconst X0.here hx (hb hby dT_17) (v := 1) rfl (pc' := 18) rfl ?_
    refine own_icmpne X0.here hx (hb hby dT_18) (by decide) (pc' := 25) (by decide) (pc2 := 21) rfl (fun q3 => ?_) (fun q3 => ?_)
    · refine own_iload_n X0.here hx (hb hby dT_25) rfl (pc' := 26) rfl ?_
      refine own_iconst X0.here hx (hb hby dT_26) (v := 2) rfl (pc' := 27) rfl ?_
      refine own_icmpne X0.here hx (hb hby dT_27) (by decide) (pc' := 34) (by decide) (pc2 := 30) rfl (fun q5 => ?_) (fun q5 => ?_)
      · refine own_iload_n X0.here hx (hb hby dT_34) rfl (pc' := 35) rfl ?_
        refine own_iconst X0.here hx (hb hby dT_35) (v := 3) rfl (pc' := 36) rfl ?_
        refine own_icmpne X0.here hx (hb hby dT_36) (by decide) (pc' := 43) (by decide) (pc2 := 39) rfl (fun q7 => ?_) (fun q7 => ?_)
        · refine own_iload_n X0.here hx (hb hby dT_43) rfl (pc' := 44) rfl ?_
          refine own_iconst X0.here hx (hb hby dT_44) (v := 4) rfl (pc' := 45) rfl ?_
          refine own_icmpne X0.here hx (hb hby dT_45) (by decide) (pc' := 52) (by decide) (pc2 := 48) rfl (fun q9 => ?_) (fun q9 => ?_)
          · refine own_iload_n X0.here hx (hb hby dT_52) rfl (pc' := 53) rfl ?_
            refine own_iconst X0.here hx (hb hby dT_53) (v := 5) rfl (pc' := 54) rfl ?_
            refine own_icmpne X0.here hx (hb hby dT_54) (by decide) (pc' := 61) (by decide) (pc2 := 57) rfl (fun q11 => ?_) (fun q11 => ?_)
            · refine own_iload_n X0.here hx (hb hby dT_61) rfl (pc' := 62) rfl ?_
              refine own_bipush X0.here hx (hb hby dT_62) (v := 6) rfl (pc' := 64) rfl ?_
              refine own_icmpne X0.here hx (hb hby dT_64) (by decide) (pc' := 71) (by decide) (pc2 := 67) rfl (fun q13 => ?_) (fun q13 => ?_)
              · refine own_iload_n X0.here hx (hb hby dT_71) rfl (pc' := 72) rfl ?_
                refine own_bipush X0.here hx (hb hby dT_72) (v := 7) rfl (pc' := 74) rfl ?_
                refine own_icmpne X0.here hx (hb hby dT_74) (by decide) (pc' := 81) (by decide) (pc2 := 77) rfl (fun q15 => ?_) (fun q15 => ?_)
                · refine own_iload_n X0.here hx (hb hby dT_81) rfl (pc' := 82) rfl ?_
                  refine own_bipush X0.here hx (hb hby dT_82) (v := 8) rfl (pc' := 84) rfl ?_
                  refine own_icmpne X0.here hx (hb hby dT_84) (by decide) (pc' := 91) (by decide) (pc2 := 87) rfl (fun q17 => ?_) (fun q17 => ?_)
                  · refine own_iload_n X0.here hx (hb hby dT_91) rfl (pc' := 92) rfl ?_
                    refine own_bipush X0.here hx (hb hby dT_92) (v := 9) rfl (pc' := 94) rfl ?_
                    refine own_icmpne X0.here hx (hb hby dT_94) (by decide) (pc' := 101) (by decide) (pc2 := 97) rfl (fun q19 => ?_) (fun q19 => ?_)
                    · obtain ⟨T21, X21, e21, st21⟩ := getS (host := "") X0 hx hZ hown (hw _ (List.mem_of_getElem? (i := 116) rfl)) Via.refl e0 (V10.ext EZ) (g := (mkF m 101 #[.val (.int k), .val (.int ((k &&& (2147483647 : Int32)) % (11 : Int32)))] [])) rfl (hb hby dT_101)
                      refine own_on st21 ?_
                      show own_Go p e below F (T21.setTop (mkF m 104 #[.val (.int k), .val (.int ((k &&& (2147483647 : Int32)) % (11 : Int32)))] [(.ref v10)]))
                      exact own_retA X21 hx hlk hret rfl rfl (hb hby dT_104) (fun t ht hE => hF t _ _ _ _ (by rw [ht, (e21 : _ = h0)]; exact ⟨_, rfl, Fr.nil _, rfl⟩) hE (by decide) (by decide))
                    · obtain ⟨T20, X20, e20, st20⟩ := getS (host := "") X0 hx hZ hown (hw _ (List.mem_of_getElem? (i := 172) rfl)) Via.refl e0 (V9.ext EZ) (g := (mkF m 97 #[.val (.int k), .val (.int ((k &&& (2147483647 : Int32)) % (11 : Int32)))] [])) rfl (hb hby dT_97)
                      refine own_on st20 ?_
                      show own_Go p e below F (T20.setTop (mkF m 100 #[.val (.int k), .val (.int ((k &&& (2147483647 : Int32)) % (11 : Int32)))] [(.ref v9)]))
                      exact own_retA X20 hx hlk hret rfl rfl (hb hby dT_100) (fun t ht hE => hF t _ _ _ _ (by rw [ht, (e20 : _ = h0)]; exact ⟨_, rfl, Fr.nil _, rfl⟩) hE (by decide) (by decide))
                  · obtain ⟨T18, X18, e18, st18⟩ := getS (host := "") X0 hx hZ hown (hw _ (List.mem_of_getElem? (i := 168) rfl)) Via.refl e0 (V8.ext EZ) (g := (mkF m 87 #[.val (.int k), .val (.int ((k &&& (2147483647 : Int32)) % (11 : Int32)))] [])) rfl (hb hby dT_87)
                    refine own_on st18 ?_
                    show own_Go p e below F (T18.setTop (mkF m 90 #[.val (.int k), .val (.int ((k &&& (2147483647 : Int32)) % (11 : Int32)))] [(.ref v8)]))
                    exact own_retA X18 hx hlk hret rfl rfl (hb hby dT_90) (fun t ht hE => hF t _ _ _ _ (by rw [ht, (e18 : _ = h0)]; exact ⟨_, rfl, Fr.nil _, rfl⟩) hE (by decide) (by decide))
                · obtain ⟨T16, X16, e16, st16⟩ := getS (host := "") X0 hx hZ hown (hw _ (List.mem_of_getElem? (i := 166) rfl)) Via.refl e0 (V7.ext EZ) (g := (mkF m 77 #[.val (.int k), .val (.int ((k &&& (2147483647 : Int32)) % (11 : Int32)))] [])) rfl (hb hby dT_77)
                  refine own_on st16 ?_
                  show own_Go p e below F (T16.setTop (mkF m 80 #[.val (.int k), .val (.int ((k &&& (2147483647 : Int32)) % (11 : Int32)))] [(.ref v7)]))
                  exact own_retA X16 hx hlk hret rfl rfl (hb hby dT_80) (fun t ht hE => hF t _ _ _ _ (by rw [ht, (e16 : _ = h0)]; exact ⟨_, rfl, Fr.nil _, rfl⟩) hE (by decide) (by decide))
              · obtain ⟨T14, X14, e14, st14⟩ := getS (host := "") X0 hx hZ hown (hw _ (List.mem_of_getElem? (i := 162) rfl)) Via.refl e0 (V6.ext EZ) (g := (mkF m 67 #[.val (.int k), .val (.int ((k &&& (2147483647 : Int32)) % (11 : Int32)))] [])) rfl (hb hby dT_67)
                refine own_on st14 ?_
                show own_Go p e below F (T14.setTop (mkF m 70 #[.val (.int k), .val (.int ((k &&& (2147483647 : Int32)) % (11 : Int32)))] [(.ref v6)]))
                exact own_retA X14 hx hlk hret rfl rfl (hb hby dT_70) (fun t ht hE => hF t _ _ _ _ (by rw [ht, (e14 : _ = h0)]; exact ⟨_, rfl, Fr.nil _, rfl⟩) hE (by decide) (by decide))
            · obtain ⟨T12, X12, e12, st12⟩ := getS (host := "") X0 hx hZ hown (hw _ (List.mem_of_getElem? (i := 164) rfl)) Via.refl e0 (V5.ext EZ) (g := (mkF m 57 #[.val (.int k), .val (.int ((k &&& (2147483647 : Int32)) % (11 : Int32)))] [])) rfl (hb hby dT_57)
              refine own_on st12 ?_
              show own_Go p e below F (T12.setTop (mkF m 60 #[.val (.int k), .val (.int ((k &&& (2147483647 : Int32)) % (11 : Int32)))] [(.ref v5)]))
              exact own_retA X12 hx hlk hret rfl rfl (hb hby dT_60) (fun t ht hE => hF t _ _ _ _ (by rw [ht, (e12 : _ = h0)]; exact ⟨_, rfl, Fr.nil _, rfl⟩) hE (by decide) (by decide))
          · obtain ⟨T10, X10, e10, st10⟩ := getS (host := "") X0 hx hZ hown (hw _ (List.mem_of_getElem? (i := 118) rfl)) Via.refl e0 (V4.ext EZ) (g := (mkF m 48 #[.val (.int k), .val (.int ((k &&& (2147483647 : Int32)) % (11 : Int32)))] [])) rfl (hb hby dT_48)
            refine own_on st10 ?_
            show own_Go p e below F (T10.setTop (mkF m 51 #[.val (.int k), .val (.int ((k &&& (2147483647 : Int32)) % (11 : Int32)))] [(.ref v4)]))
            exact own_retA X10 hx hlk hret rfl rfl (hb hby dT_51) (fun t ht hE => hF t _ _ _ _ (by rw [ht, (e10 : _ = h0)]; exact ⟨_, rfl, Fr.nil _, rfl⟩) hE (by decide) (by decide))
        · obtain ⟨T8, X8, e8, st8⟩ := getS (host := "") X0 hx hZ hown (hw _ (List.mem_of_getElem? (i := 30) rfl)) Via.refl e0 (V3.ext EZ) (g := (mkF m 39 #[.val (.int k), .val (.int ((k &&& (2147483647 : Int32)) % (11 : Int32)))] [])) rfl (hb hby dT_39)
          refine own_on st8 ?_
          show own_Go p e below F (T8.setTop (mkF m 42 #[.val (.int k), .val (.int ((k &&& (2147483647 : Int32)) % (11 : Int32)))] [(.ref v3)]))
          exact own_retA X8 hx hlk hret rfl rfl (hb hby dT_42) (fun t ht hE => hF t _ _ _ _ (by rw [ht, (e8 : _ = h0)]; exact ⟨_, rfl, Fr.nil _, rfl⟩) hE (by decide) (by decide))
      · obtain ⟨T6, X6, e6, st6⟩ := getS (host := "") X0 hx hZ hown (hw _ (List.mem_of_getElem? (i := 147) rfl)) Via.refl e0 (V2.ext EZ) (g := (mkF m 30 #[.val (.int k), .val (.int ((k &&& (2147483647 : Int32)) % (11 : Int32)))] [])) rfl (hb hby dT_30)
        refine own_on st6 ?_
        show own_Go p e below F (T6.setTop (mkF m 33 #[.val (.int k), .val (.int ((k &&& (2147483647 : Int32)) % (11 : Int32)))] [(.ref v2)]))
        exact own_retA X6 hx hlk hret rfl rfl (hb hby dT_33) (fun t ht hE => hF t _ _ _ _ (by rw [ht, (e6 : _ = h0)]; exact ⟨_, rfl, Fr.nil _, rfl⟩) hE (by decide) (by decide))
    · obtain ⟨T4, X4, e4, st4⟩ := getS (host := "") X0 hx hZ hown (hw _ (List.mem_of_getElem? (i := 160) rfl)) Via.refl e0 (V1.ext EZ) (g := (mkF m 21 #[.val (.int k), .val (.int ((k &&& (2147483647 : Int32)) % (11 : Int32)))] [])) rfl (hb hby dT_21)
      refine own_on st4 ?_
      show own_Go p e below F (T4.setTop (mkF m 24 #[.val (.int k), .val (.int ((k &&& (2147483647 : Int32)) % (11 : Int32)))] [(.ref v1)]))
      exact own_retA X4 hx hlk hret rfl rfl (hb hby dT_24) (fun t ht hE => hF t _ _ _ _ (by rw [ht, (e4 : _ = h0)]; exact ⟨_, rfl, Fr.nil _, rfl⟩) hE (by decide) (by decide))
  · obtain ⟨T2, X2, e2, st2⟩ := getS (host := "") X0 hx hZ hown (hw _ (List.mem_of_getElem? (i := 170) rfl)) Via.refl e0 (V0.ext EZ) (g := (mkF m 12 #[.val (.int k), .val (.int ((k &&& (2147483647 : Int32)) % (11 : Int32)))] [])) rfl (hb hby dT_12)
    refine own_on st2 ?_
    show own_Go p e below F (T2.setTop (mkF m 15 #[.val (.int k), .val (.int ((k &&& (2147483647 : Int32)) % (11 : Int32)))] [(.ref v0)]))
    exact own_retA X2 hx hlk hret rfl rfl (hb hby dT_15) (fun t ht hE => hF t _ _ _ _ (by rw [ht, (e2 : _ = h0)]; exact ⟨_, rfl, Fr.nil _, rfl⟩) hE (by decide) (by decide))
theorem dR_0 : decode jdk_30_method_1_code 0 = .ok (.aload_n 0, 1) := by decide +kernel
theorem dR_1 : decode jdk_30_method_1_code 1 = .ok (.invokespecial 1, 3) := by decide +kernel
theorem dR_4 : decode jdk_30_method_1_code 4 = .ok (.return_, 1) := by decide +kernel
theorem dQ_0 : decode jdk_31_method_10_code 0 = .ok (.aload_n 0, 1) := by decide +kernel
theorem dQ_1 : decode jdk_31_method_10_code 1 = .ok (.ifnonnull 11, 3) := by decide +kernel
theorem dQ_4 : decode jdk_31_method_10_code 4 = .ok (.new 84, 3) := by decide +kernel
theorem dQ_7 : decode jdk_31_method_10_code 7 = .ok (.dup, 1) := by decide +kernel
theorem dQ_8 : decode jdk_31_method_10_code 8 = .ok (.invokespecial 86, 3) := by decide +kernel
theorem dQ_11 : decode jdk_31_method_10_code 11 = .ok (.athrow, 1) := by decide +kernel
theorem dQ_12 : decode jdk_31_method_10_code 12 = .ok (.aload_n 0, 1) := by decide +kernel
theorem dQ_13 : decode jdk_31_method_10_code 13 = .ok (.areturn, 1) := by decide +kernel
theorem dOI_0 : decode jdk_32_method_2_code 0 = .ok (.aload_n 0, 1) := by decide +kernel
theorem dOI_1 : decode jdk_32_method_2_code 1 = .ok (.invokespecial 7, 3) := by decide +kernel
theorem dOI_4 : decode jdk_32_method_2_code 4 = .ok (.aload_n 0, 1) := by decide +kernel
theorem dOI_5 : decode jdk_32_method_2_code 5 = .ok (.aload_n 1, 1) := by decide +kernel
theorem dOI_6 : decode jdk_32_method_2_code 6 = .ok (.putfield 13, 3) := by decide +kernel
theorem dOI_9 : decode jdk_32_method_2_code 9 = .ok (.return_, 1) := by decide +kernel
theorem dOF_0 : decode jdk_32_method_3_code 0 = .ok (.new 2, 3) := by decide +kernel
theorem dOF_3 : decode jdk_32_method_3_code 3 = .ok (.dup, 1) := by decide +kernel
theorem dOF_4 : decode jdk_32_method_3_code 4 = .ok (.aload_n 0, 1) := by decide +kernel
theorem dOF_5 : decode jdk_32_method_3_code 5 = .ok (.invokestatic 17, 3) := by decide +kernel
theorem dOF_8 : decode jdk_32_method_3_code 8 = .ok (.invokespecial 23, 3) := by decide +kernel
theorem dOF_11 : decode jdk_32_method_3_code 11 = .ok (.areturn, 1) := by decide +kernel
theorem dOE_0 : decode jdk_32_method_1_code 0 = .ok (.getstatic 1, 3) := by decide +kernel
theorem dOE_3 : decode jdk_32_method_1_code 3 = .ok (.astore_n 0, 1) := by decide +kernel
theorem dOE_4 : decode jdk_32_method_1_code 4 = .ok (.aload_n 0, 1) := by decide +kernel
theorem dOE_5 : decode jdk_32_method_1_code 5 = .ok (.areturn, 1) := by decide +kernel
theorem dDI_0 : decode prog_171_method_1_code 0 = .ok (.aload_n 0, 1) := by decide +kernel
theorem dDI_1 : decode prog_171_method_1_code 1 = .ok (.invokespecial 1, 3) := by decide +kernel
theorem dDI_4 : decode prog_171_method_1_code 4 = .ok (.aload_n 0, 1) := by decide +kernel
theorem dDI_5 : decode prog_171_method_1_code 5 = .ok (.iload_n 1, 1) := by decide +kernel
theorem dDI_6 : decode prog_171_method_1_code 6 = .ok (.putfield 7, 3) := by decide +kernel
theorem dDI_9 : decode prog_171_method_1_code 9 = .ok (.aload_n 0, 1) := by decide +kernel
theorem dDI_10 : decode prog_171_method_1_code 10 = .ok (.iload_n 2, 1) := by decide +kernel
theorem dDI_11 : decode prog_171_method_1_code 11 = .ok (.putfield 13, 3) := by decide +kernel
theorem dDI_14 : decode prog_171_method_1_code 14 = .ok (.return_, 1) := by decide +kernel
theorem pnR : plainName "java/lang/Record" = true := by first | (simp [plainName, overriddenIn]; done) | decide +kernel
theorem pnO : plainName "java/util/Objects" = true := by first | (simp [plainName, overriddenIn]; done) | decide +kernel
theorem pnP : plainName "java/util/Optional" = true := by first | (simp [plainName, overriddenIn]; done) | decide +kernel
theorem pnD : plainName "com/example/cladistic/cladistic/model/DecimalSize" = true := by first | (simp [plainName, overriddenIn]; done) | decide +kernel
theorem pnC : plainName "com/example/cladistic/cladistic/model/ColumnDef" = true := by first | (simp [plainName, overriddenIn]; done) | decide +kernel
theorem pdR : parseMethodDescriptor "()V" = some ⟨[], none⟩ := by decide +kernel
theorem pdQ : parseMethodDescriptor "(Ljava/lang/Object;)Ljava/lang/Object;" = some ⟨[.object "java/lang/Object"], some (.object "java/lang/Object")⟩ := by decide +kernel
theorem pdOI : parseMethodDescriptor "(Ljava/lang/Object;)V" = some ⟨[.object "java/lang/Object"], none⟩ := by decide +kernel
theorem pdOF : parseMethodDescriptor "(Ljava/lang/Object;)Ljava/util/Optional;" = some ⟨[.object "java/lang/Object"], some (.object "java/util/Optional")⟩ := by decide +kernel
theorem pdOE : parseMethodDescriptor "()Ljava/util/Optional;" = some ⟨[], some (.object "java/util/Optional")⟩ := by decide +kernel
theorem pdDI : parseMethodDescriptor "(II)V" = some ⟨[.int, .int], none⟩ := by decide +kernel
theorem efR (m : MethodId) (x0 : Addr) : entryFrame m #[(.ref x0)] 1 = mkF m 0 #[.val (.ref x0)] [] := by first | (simp [entryFrame, mkF, argsToLocals, Value.category]; done) | rfl
theorem efRR (m : MethodId) (x0 : Addr) (x1 : Addr) : entryFrame m #[(.ref x0), (.ref x1)] 2 = mkF m 0 #[.val (.ref x0), .val (.ref x1)] [] := by first | (simp [entryFrame, mkF, argsToLocals, Value.category]; done) | rfl
def Q_rmR (Z : State) (a : Addr) (h0 : Heap) (v : Option Value) (h : Heap) (L : List Loc) : Prop := v = none ∧ Fr Z.heap.size L ∧ h = h0
set_option maxRecDepth 65536 in
set_option maxHeartbeats 40000000 in
theorem rmR (l : Launch) (Z : State) (a0 : Array Value) (hw : ∀ d ∈ tables_1, d.before a0 Z = true) (a : Addr) (h0 : Heap) :
    MetFree l (⟨"java/lang/Record", "<init>", "()V"⟩ : MethodName) (head1 (Jvm.Cond.code (⟨"java/lang/Record", "<init>", "()V"⟩ : MethodName) jdk_30_method_1_code 1 (Option.none : Option FieldType) :: []) ({ frames := 1, cells := 0, slots := 0, locals := 12 } : Room)) (fun aa U => aa = #[(.ref a)] ∧ Z.Warmed39 U.vm ∧ U.heap = h0) (fun _ _ _ _ _ => True) (fun _ U o U' => ∃ v L, o = .returned v ∧ (Q_rmR Z a h0) v U'.heap L ∧ FrameEnd U o U' L ({ frames := 1, cells := 0, slots := 0, locals := 12 } : Room).cells ({ frames := 1, cells := 0, slots := 0, locals := 12 } : Room).slots) := by
  refine own_walkN (by exact pnR) ?_
  intro p e s m below meth c T0 X0 hx hby hml hret hlk hnm hown hZ e0 es0 F hF
  refine own_on (fun _ => castTop (efR m a)) ?_
  refine own_aload_n X0.here hx (hb hby dR_0) rfl rfl (pc' := 1) rfl ?_
  obtain ⟨T1, X1, e1, st1⟩ := initO X0 hx hZ hown (hw _ (List.mem_of_getElem? (i := 49) rfl)) (hw _ (List.mem_of_getElem? (i := 16) rfl)) (hw _ (List.mem_of_getElem? (i := 17) rfl)) e0 (g := (mkF m 1 #[.val (.ref a)] [(.ref a)])) rfl (by rw [hml]; rfl) rfl (hb hby dR_1) (by decide) (W := 0) (by show 2 * 0 + _ ≤ _; exact Nat.le_of_eq rfl) (by decide)
  refine own_on st1 ?_
  show own_Go p e below F (T1.setTop (mkF m 4 #[.val (.ref a)] []))
  exact own_retV X1 hx hlk hret (hb hby dR_4) (fun t ht hE => hF t _ _ _ _ (by rw [ht, (e1 : _ = h0)]; exact ⟨rfl, Fr.nil _, rfl⟩) hE (by decide) (by decide))
def Q_rmQ (Z : State) (a : Addr) (h0 : Heap) (v : Option Value) (h : Heap) (L : List Loc) : Prop := v = some (.ref a) ∧ Fr Z.heap.size L ∧ h = h0
set_option maxRecDepth 65536 in
set_option maxHeartbeats 40000000 in
theorem rmQ (l : Launch) (Z : State) (a0 : Array Value) (hw : ∀ d ∈ tables_1, d.before a0 Z = true) (a : Addr) (h0 : Heap) :
    MetFree l (⟨"java/util/Objects", "requireNonNull", "(Ljava/lang/Object;)Ljava/lang/Object;"⟩ : MethodName) (head1 (Jvm.Cond.code (⟨"java/util/Objects", "requireNonNull", "(Ljava/lang/Object;)Ljava/lang/Object;"⟩ : MethodName) jdk_31_method_10_code 1 (Option.some (FieldType.object "java/lang/Object")) :: []) ({ frames := 0, cells := 0, slots := 0, locals := 0 } : Room)) (fun aa U => aa = #[(.ref a)] ∧ Z.Warmed39 U.vm ∧ U.heap = h0) (fun _ _ _ _ _ => True) (fun _ U o U' => ∃ v L, o = .returned v ∧ (Q_rmQ Z a h0) v U'.heap L ∧ FrameEnd U o U' L ({ frames := 0, cells := 0, slots := 0, locals := 0 } : Room).cells ({ frames := 0, cells := 0, slots := 0, locals := 0 } : Room).slots) := by
  refine own_walkN (by exact pnO) ?_
  intro p e s m below meth c T0 X0 hx hby hml hret hlk hnm hown hZ e0 es0 F hF
  refine own_on (fun _ => castTop (efR m a)) ?_
  refine own_aload_n X0.here hx (hb hby dQ_0) rfl rfl (pc' := 1) rfl ?_
  refine own_ifnonnull X0.here hx rfl (hb hby dQ_1) (by decide) (pc' := 12) (by decide) (pc2 := 4) rfl (fun q1 => ?_) (fun q => nomatch q)
  refine own_aload_n X0.here hx (hb hby dQ_12) rfl rfl (pc' := 13) rfl ?_
  exact own_retA X0 hx hlk hret rfl rfl (hb hby dQ_13) (fun t ht hE => hF t _ _ _ _ (by rw [ht, (e0 : _ = h0)]; exact ⟨rfl, Fr.nil _, rfl⟩) hE (by decide) (by decide))
def Q_rmOI (Z : State) (a b : Addr) (h0 : Heap) (v : Option Value) (h : Heap) (L : List Loc) : Prop := v = none ∧ Fr Z.heap.size L ∧ Keep h0 h [a] ∧ Fld Z h a "java/util/Optional" "value" "Ljava/lang/Object;" (.ref b)
set_option maxRecDepth 65536 in
set_option maxHeartbeats 40000000 in
theorem rmOI (l : Launch) (Z : State) (a0 : Array Value) (hw : ∀ d ∈ tables_1, d.before a0 Z = true) (a b : Addr) (h0 : Heap) (ga : Z.heap.size ≤ a) (A0 : Exa Z h0 a "java/util/Optional") (F0 : Fld Z h0 a "java/util/Optional" "value" "Ljava/lang/Object;" .null) :
    MetFree l (⟨"java/util/Optional", "<init>", "(Ljava/lang/Object;)V"⟩ : MethodName) (head1 (Jvm.Cond.code (⟨"java/util/Optional", "<init>", "(Ljava/lang/Object;)V"⟩ : MethodName) jdk_32_method_2_code 2 (Option.none : Option FieldType) :: []) ({ frames := 1, cells := 0, slots := 0, locals := 12 } : Room)) (fun aa U => aa = #[(.ref a), (.ref b)] ∧ Z.Warmed39 U.vm ∧ U.heap = h0) (fun _ _ _ _ _ => True) (fun _ U o U' => ∃ v L, o = .returned v ∧ (Q_rmOI Z a b h0) v U'.heap L ∧ FrameEnd U o U' L ({ frames := 1, cells := 0, slots := 0, locals := 12 } : Room).cells ({ frames := 1, cells := 0, slots := 0, locals := 12 } : Room).slots) := by
  refine own_walkN (by exact pnP) ?_
  intro p e s m below meth c T0 X0 hx hby hml hret hlk hnm hown hZ e0 es0 F hF
  refine own_on (fun _ => castTop (efRR m a b)) ?_
  have N0 := Fr.nil Z.heap.size
  have Q0 := Keep.refl h0 [a]
  refine own_aload_n X0.here hx (hb hby dOI_0) rfl rfl (pc' := 1) rfl ?_
  obtain ⟨T1, X1, e1, st1⟩ := initO X0 hx hZ hown (hw _ (List.mem_of_getElem? (i := 144) rfl)) (hw _ (List.mem_of_getElem? (i := 16) rfl)) (hw _ (List.mem_of_getElem? (i := 17) rfl)) e0 (g := (mkF m 1 #[.val (.ref a), .val (.ref b)] [(.ref a)])) rfl (by rw [hml]; rfl) rfl (hb hby dOI_1) (by decide) (W := 0) (by show 2 * 0 + _ ≤ _; exact Nat.le_of_eq rfl) (by decide)
  refine own_on st1 ?_
  show own_Go p e below F (T1.setTop (mkF m 4 #[.val (.ref a), .val (.ref b)] []))
  refine own_aload_n X1.here hx (hb hby dOI_4) rfl rfl (pc' := 5) rfl ?_
  refine own_aload_n X1.here hx (hb hby dOI_5) rfl rfl (pc' := 6) rfl ?_
  obtain ⟨T2, h2, X2, e2, W2, st2⟩ := putF X1 hx hZ hown (host := "") (Or.inl (hw _ (List.mem_of_getElem? (i := 145) rfl))) Via.refl e1 F0 A0 (Or.inr ⟨(hw _ (List.mem_of_getElem? (i := 146) rfl)), rfl, hnm⟩) (hw _ (List.mem_of_getElem? (i := 135) rfl)) (ty := .object "java/lang/Object") (by decide) rfl rfl (g := (mkF m 6 #[.val (.ref a), .val (.ref b)] [(.ref b), (.ref a)])) rfl rfl (hb hby dOI_6)
  have f3 := A0.wr W2
  have f4 := F0.same W2
  have f5 := Q0.wr W2 (Or.inl (by simp))
  have N6 := own_Fr_snoc (sl := Jvm.RoadKit.slotOf Z "java/util/Optional" "value" "Ljava/lang/Object;") N0 ga
  refine own_on st2 ?_
  show own_Go p e below F (T2.setTop (mkF m 9 #[.val (.ref a), .val (.ref b)] []))
  exact own_retV X2 hx hlk hret (hb hby dOI_9) (fun t ht hE => hF t _ _ _ _ (by rw [ht, (e2 : _ = h2)]; exact ⟨rfl, N6, f5, f4⟩) hE (by decide) (by decide))
def Q_rmOF (Z : State) (b : Addr) (h0 : Heap) (v : Option Value) (h : Heap) (L : List Loc) : Prop := ∃ o, v = some (.ref o) ∧ Exa Z h o "java/util/Optional" ∧ Ext h0 h ∧ Fr Z.heap.size L
set_option maxRecDepth 65536 in
set_option maxHeartbeats 40000000 in
theorem rmOF (l : Launch) (Z : State) (a0 : Array Value) (hw : ∀ d ∈ tables_1, d.before a0 Z = true) (b : Addr) (h0 : Heap) (EZ : Ext Z.heap h0) :
    MetFree l (⟨"java/util/Optional", "of", "(Ljava/lang/Object;)Ljava/util/Optional;"⟩ : MethodName) (head1 (Jvm.Cond.code (⟨"java/util/Optional", "of", "(Ljava/lang/Object;)Ljava/util/Optional;"⟩ : MethodName) jdk_32_method_3_code 1 (Option.some (FieldType.object "java/util/Optional")) :: []) ({ frames := 2, cells := 1, slots := 1, locals := 26 } : Room)) (fun aa U => aa = #[(.ref b)] ∧ Z.Warmed39 U.vm ∧ U.heap = h0) (fun _ _ _ _ _ => True) (fun _ U o U' => ∃ v L, o = .returned v ∧ (Q_rmOF Z b h0) v U'.heap L ∧ FrameEnd U o U' L ({ frames := 2, cells := 1, slots := 1, locals := 26 } : Room).cells ({ frames := 2, cells := 1, slots := 1, locals := 26 } : Room).slots) := by
  refine own_walkN (by exact pnP) ?_
  intro p e s m below meth c T0 X0 hx hby hml hret hlk hnm hown hZ e0 es0 F hF
  refine own_on (fun _ => castTop (efR m b)) ?_
  have M0 := own_ext_refl h0
  have N0 := Fr.nil Z.heap.size
  obtain ⟨T1, h1, X1, e1, E1, A1, D1, -, st1⟩ := newO X0 hx hZ hown (hw _ (List.mem_of_getElem? (i := 134) rfl)) (hw _ (List.mem_of_getElem? (i := 135) rfl)) (hw _ (List.mem_of_getElem? (i := 35) rfl)) e0 (g := (mkF m 0 #[.val (.ref b)] [])) rfl (hb hby dOF_0) (by decide) (by decide)
  obtain ⟨a1, g1⟩ : ∃ z, z = h0.size := ⟨_, rfl⟩
  rw [← g1] at A1 D1 st1
  have ge2 : h0.size ≤ a1 := by rw [g1]; exact M0.1
  have f3 := own_ext_trans M0 E1
  have F1_0 : Fld Z h1 a1 "java/util/Optional" "value" "Ljava/lang/Object;" (.null) := (D1 (Or.inr (hw _ (List.mem_of_getElem? (i := 146) rfl))) (ty := .object "java/lang/Object") (by decide))
  refine own_on st1 ?_
  show own_Go p e below F (T1.setTop (mkF m 3 #[.val (.ref b)] [(.ref a1)]))
  have gz_a1 : Z.heap.size ≤ a1 := Nat.le_trans EZ.1 ge2
  refine own_dup X1.here hx (hb hby dOF_3) rfl (pc' := 4) rfl ?_
  refine own_aload_n X1.here hx (hb hby dOF_4) rfl rfl (pc' := 5) rfl ?_
  obtain ⟨_, _, ⟨T4, L4, k4, n4⟩, -, X4, ⟨Lc4, hQ4, l4, y4, z4⟩, st4⟩ := Jvm.LawKit.callS X1 hx (y := (⟨"java/util/Objects", "requireNonNull", "(Ljava/lang/Object;)Ljava/lang/Object;"⟩ : MethodName)) hown (mvT hZ (hw _ (List.mem_of_getElem? (i := 136) rfl))) (mvT hZ (hw _ (List.mem_of_getElem? (i := 137) rfl))) (mvT hZ (hw _ (List.mem_of_getElem? (i := 138) rfl))) (mvT hZ (hw _ (List.mem_of_getElem? (i := 139) rfl))) (by decide) (backOf (W := 2) (rmQ l Z a0 hw b h1) hZ (hw _ (List.mem_of_getElem? (i := 139) rfl)) (hw _ (List.mem_of_getElem? (i := 138) rfl)) (by decide) (by decide)) (g := (mkF m 5 #[.val (.ref b)] [(.ref b), (.ref a1), (.ref a1)])) rfl (by rw [hml]; rfl) (argsL := [(.ref b)]) (rest := [(.ref a1), (.ref a1)]) (lenOf pdQ rfl) rfl (by show 2 * 0 + _ ≤ _; exact Nat.le_of_eq rfl) (hb hby dOF_5) (fun _ _ => ⟨rfl, e1, (Nat.le_of_ble_eq_true rfl), (Nat.le_of_ble_eq_true rfl)⟩)
  dsimp only [Pt.U, Pt.locs, Pt.cells, Pt.slots] at X4 l4 y4 z4 st4 hQ4
  subst l4 y4 z4
  obtain ⟨rfl, N4, E4⟩ := hQ4
  refine own_on (st4) ?_
  show own_Go p e below F (T4.setTop (mkF m 8 #[.val (.ref b)] [(.ref b), (.ref a1), (.ref a1)]))
  have N5 := Fr.app N0 N4
  obtain ⟨_, _, ⟨T6, L6, k6, n6⟩, -, X6, ⟨Lc6, hQ6, l6, y6, z6⟩, st6⟩ := X4.specialBack hx (y := (⟨"java/util/Optional", "<init>", "(Ljava/lang/Object;)V"⟩ : MethodName)) rfl hown (mvT hZ (hw _ (List.mem_of_getElem? (i := 140) rfl))) (mvT hZ (hw _ (List.mem_of_getElem? (i := 141) rfl))) (mvT hZ (hw _ (List.mem_of_getElem? (i := 143) rfl))) (by decide) (backOf (W := 1) (rmOI l Z a0 hw a1 b h1 gz_a1 A1 F1_0) hZ (hw _ (List.mem_of_getElem? (i := 143) rfl)) (hw _ (List.mem_of_getElem? (i := 35) rfl)) (by decide) (by decide)) (g := (mkF m 8 #[.val (.ref b)] [(.ref b), (.ref a1), (.ref a1)])) rfl (by rw [hml]; rfl) (Steps.refl _) (a := a1) (argsL := [(.ref b)]) (rest := [(.ref a1)]) (lenOf pdOI rfl) rfl (by show 2 * 0 + _ ≤ _; exact Nat.le_of_eq rfl) (hb hby dOF_8) (fun _ _ => ⟨rfl, E4, (Nat.le_of_ble_eq_true rfl), (Nat.le_of_ble_eq_true rfl)⟩)
  dsimp only [Pt.U, Pt.locs, Pt.cells, Pt.slots] at X6 l6 y6 z6 st6 hQ6
  subst l6 y6 z6
  obtain ⟨rfl, N6, K6, F6⟩ := hQ6
  refine own_to st6 ?_
  show own_Go p e below F (T6.setTop (mkF m 11 #[.val (.ref b)] [(.ref a1)]))
  have f7 := own_ext_keep f3 K6 (fun y hy => by simp only [List.mem_cons, List.not_mem_nil, or_false] at hy; rcases hy with rfl <;> assumption)
  have f8 := A1.keep K6
  have N10 := Fr.app N5 N6
  exact own_retA X6 hx hlk hret rfl rfl (hb hby dOF_11) (fun t ht hE => hF t _ _ _ _ (by rw [ht, (rfl : _ = T6.heap)]; exact ⟨_, rfl, f8, f7, N10⟩) hE (by decide) (by decide))
theorem efE (m : MethodId) : entryFrame m #[] 1 = mkF m 0 #[.unset] [] := by first | (simp [entryFrame, mkF, argsToLocals, Value.category]; done) | rfl
def Q_rmOE (Z : State) (h0 : Heap) (eo : Addr) (v : Option Value) (h : Heap) (L : List Loc) : Prop := v = some (.ref eo) ∧ Fr Z.heap.size L ∧ h = h0
set_option maxRecDepth 65536 in
set_option maxHeartbeats 40000000 in
theorem rmOE (l : Launch) (Z : State) (a0 : Array Value) (hw : ∀ d ∈ tables_1, d.before a0 Z = true) (h0 : Heap) (EZ : Ext Z.heap h0) (eo : Addr) (OE : Sta Z Z.heap "java/util/Optional" "EMPTY" "Ljava/util/Optional;" (.ref eo)) (AE : Exa Z Z.heap eo "java/util/Optional") :
    MetFree l (⟨"java/util/Optional", "empty", "()Ljava/util/Optional;"⟩ : MethodName) (head1 (Jvm.Cond.code (⟨"java/util/Optional", "empty", "()Ljava/util/Optional;"⟩ : MethodName) jdk_32_method_1_code 1 (Option.some (FieldType.object "java/util/Optional")) :: []) ({ frames := 0, cells := 0, slots := 0, locals := 0 } : Room)) (fun aa U => aa = #[] ∧ Z.Warmed39 U.vm ∧ U.heap = h0) (fun _ _ _ _ _ => True) (fun _ U o U' => ∃ v L, o = .returned v ∧ (Q_rmOE Z h0 eo) v U'.heap L ∧ FrameEnd U o U' L ({ frames := 0, cells := 0, slots := 0, locals := 0 } : Room).cells ({ frames := 0, cells := 0, slots := 0, locals := 0 } : Room).slots) := by
  refine own_walkN (by exact pnP) ?_
  intro p e s m below meth c T0 X0 hx hby hml hret hlk hnm hown hZ e0 es0 F hF
  refine own_on (fun _ => castTop (efE m)) ?_
  obtain ⟨T1, X1, e1, st1⟩ := getS (host := "") X0 hx hZ hown (hw _ (List.mem_of_getElem? (i := 37) rfl)) Via.refl e0 (OE.ext EZ) (g := (mkF m 0 #[.unset] [])) rfl (hb hby dOE_0)
  refine own_on st1 ?_
  show own_Go p e below F (T1.setTop (mkF m 3 #[.unset] [(.ref eo)]))
  refine own_astore_n X1.here hx (hb hby dOE_3) rfl (L' := #[.val (.ref eo)]) rfl (pc' := 4) rfl ?_
  refine own_aload_n X1.here hx (hb hby dOE_4) rfl rfl (pc' := 5) rfl ?_
  exact own_retA X1 hx hlk hret rfl rfl (hb hby dOE_5) (fun t ht hE => hF t _ _ _ _ (by rw [ht, (e1 : _ = h0)]; exact ⟨rfl, Fr.nil _, rfl⟩) hE (by decide) (by decide))
theorem efDI (m : MethodId) (x0 : Addr) (x1 : Int32) (x2 : Int32) : entryFrame m #[(.ref x0), (.int x1), (.int x2)] 3 = mkF m 0 #[.val (.ref x0), .val (.int x1), .val (.int x2)] [] := by first | (simp [entryFrame, mkF, argsToLocals, Value.category]; done) | rfl
def Q_rmDI (Z : State) (a : Addr) (q1 q2 : Int32) (h0 : Heap) (v : Option Value) (h : Heap) (L : List Loc) : Prop := v = none ∧ Fr Z.heap.size L ∧ Keep h0 h [a]
set_option maxRecDepth 65536 in
set_option maxHeartbeats 40000000 in
theorem rmDI (l : Launch) (Z : State) (a0 : Array Value) (hw : ∀ d ∈ tables_1, d.before a0 Z = true) (a : Addr) (q1 q2 : Int32) (h0 : Heap) (ga : Z.heap.size ≤ a) (A0 : Exa Z h0 a "com/example/cladistic/cladistic/model/DecimalSize") (F0 : Fld Z h0 a "com/example/cladistic/cladistic/model/DecimalSize" "precision" "I" (.int (0 : Int32))) (F1 : Fld Z h0 a "com/example/cladistic/cladistic/model/DecimalSize" "scale" "I" (.int (0 : Int32))) :
    MetFree l (⟨"com/example/cladistic/cladistic/model/DecimalSize", "<init>", "(II)V"⟩ : MethodName) (head1 (Jvm.Cond.code (⟨"com/example/cladistic/cladistic/model/DecimalSize", "<init>", "(II)V"⟩ : MethodName) prog_171_method_1_code 3 (Option.none : Option FieldType) :: []) ({ frames := 2, cells := 0, slots := 0, locals := 24 } : Room)) (fun aa U => aa = #[(.ref a), (.int q1), (.int q2)] ∧ Z.Warmed39 U.vm ∧ U.heap = h0) (fun _ _ _ _ _ => True) (fun _ U o U' => ∃ v L, o = .returned v ∧ (Q_rmDI Z a q1 q2 h0) v U'.heap L ∧ FrameEnd U o U' L ({ frames := 2, cells := 0, slots := 0, locals := 24 } : Room).cells ({ frames := 2, cells := 0, slots := 0, locals := 24 } : Room).slots) := by
  refine own_walkN (by exact pnD) ?_
  intro p e s m below meth c T0 X0 hx hby hml hret hlk hnm hown hZ e0 es0 F hF
  refine own_on (fun _ => castTop (efDI m a q1 q2)) ?_
  have N0 := Fr.nil Z.heap.size
  have Q0 := Keep.refl h0 [a]
  refine own_aload_n X0.here hx (hb hby dDI_0) rfl rfl (pc' := 1) rfl ?_
  obtain ⟨_, _, ⟨T1, L1, k1, n1⟩, -, X1, ⟨Lc1, hQ1, l1, y1, z1⟩, st1⟩ := X0.specialBack hx (y := (⟨"java/lang/Record", "<init>", "()V"⟩ : MethodName)) rfl hown (mvT hZ (hw _ (List.mem_of_getElem? (i := 126) rfl))) (mvT hZ (hw _ (List.mem_of_getElem? (i := 45) rfl))) (mvT hZ (hw _ (List.mem_of_getElem? (i := 48) rfl))) (by decide) (backOf (W := 0) (rmR l Z a0 hw a h0) hZ (hw _ (List.mem_of_getElem? (i := 48) rfl)) (hw _ (List.mem_of_getElem? (i := 47) rfl)) (by decide) (by decide)) (g := (mkF m 1 #[.val (.ref a), .val (.int q1), .val (.int q2)] [(.ref a)])) rfl (by rw [hml]; rfl) (Steps.refl _) (a := a) (argsL := []) (rest := []) (lenOf pdR rfl) rfl (by show 2 * 0 + _ ≤ _; exact Nat.le_of_eq rfl) (hb hby dDI_1) (fun _ _ => ⟨rfl, e0, (Nat.le_of_ble_eq_true rfl), (Nat.le_of_ble_eq_true rfl)⟩)
  dsimp only [Pt.U, Pt.locs, Pt.cells, Pt.slots] at X1 l1 y1 z1 st1 hQ1
  subst l1 y1 z1
  obtain ⟨rfl, N1, E1⟩ := hQ1
  refine own_to st1 ?_
  show own_Go p e below F (T1.setTop (mkF m 4 #[.val (.ref a), .val (.int q1), .val (.int q2)] []))
  have N2 := Fr.app N0 N1
  refine own_aload_n X1.here hx (hb hby dDI_4) rfl rfl (pc' := 5) rfl ?_
  refine own_iload_n X1.here hx (hb hby dDI_5) rfl (pc' := 6) rfl ?_
  obtain ⟨T3, h3, X3, e3, W3, st3⟩ := putF X1 hx hZ hown (host := "") (Or.inl (hw _ (List.mem_of_getElem? (i := 127) rfl))) Via.refl E1 F0 A0 (Or.inr ⟨(hw _ (List.mem_of_getElem? (i := 128) rfl)), rfl, hnm⟩) (hw _ (List.mem_of_getElem? (i := 121) rfl)) (ty := .int) (by decide) rfl rfl (g := (mkF m 6 #[.val (.ref a), .val (.int q1), .val (.int q2)] [(.int q1), (.ref a)])) rfl rfl (hb hby dDI_6)
  have f4 := A0.wr W3
  have f5 := F0.same W3
  have f6 := F1.other W3 (Or.inr (slot_ne (Or.inr (hw _ (List.mem_of_getElem? (i := 130) rfl))) (Or.inr (hw _ (List.mem_of_getElem? (i := 128) rfl))) (by decide) (t := .int) (by decide) (t' := .int) (by decide)))
  have f7 := Q0.wr W3 (Or.inl (by simp))
  have N8 := own_Fr_snoc (sl := Jvm.RoadKit.slotOf Z "com/example/cladistic/cladistic/model/DecimalSize" "precision" "I") N2 ga
  refine own_on st3 ?_
  show own_Go p e below F (T3.setTop (mkF m 9 #[.val (.ref a), .val (.int q1), .val (.int q2)] []))
  refine own_aload_n X3.here hx (hb hby dDI_9) rfl rfl (pc' := 10) rfl ?_
  refine own_iload_n X3.here hx (hb hby dDI_10) rfl (pc' := 11) rfl ?_
  obtain ⟨T9, h9, X9, e9, W9, st9⟩ := putF X3 hx hZ hown (host := "") (Or.inl (hw _ (List.mem_of_getElem? (i := 129) rfl))) Via.refl e3 f6 f4 (Or.inr ⟨(hw _ (List.mem_of_getElem? (i := 130) rfl)), rfl, hnm⟩) (hw _ (List.mem_of_getElem? (i := 121) rfl)) (ty := .int) (by decide) rfl rfl (g := (mkF m 11 #[.val (.ref a), .val (.int q1), .val (.int q2)] [(.int q2), (.ref a)])) rfl rfl (hb hby dDI_11)
  have f10 := f4.wr W9
  have f11 := f5.other W9 (Or.inr (slot_ne (Or.inr (hw _ (List.mem_of_getElem? (i := 128) rfl))) (Or.inr (hw _ (List.mem_of_getElem? (i := 130) rfl))) (by decide) (t := .int) (by decide) (t' := .int) (by decide)))
  have f12 := f6.same W9
  have f13 := f7.wr W9 (Or.inl (by simp))
  have N14 := own_Fr_snoc (sl := Jvm.RoadKit.slotOf Z "com/example/cladistic/cladistic/model/DecimalSize" "scale" "I") N8 ga
  refine own_on st9 ?_
  show own_Go p e below F (T9.setTop (mkF m 14 #[.val (.ref a), .val (.int q1), .val (.int q2)] []))
  exact own_retV X9 hx hlk hret (hb hby dDI_14) (fun t ht hE => hF t _ _ _ _ (by rw [ht, (e9 : _ = h9)]; exact ⟨rfl, N14, f13⟩) hE (by decide) (by decide))
theorem dCI_0 : decode prog_166_method_1_code 0 = .ok (.aload_n 0, 1) := by decide +kernel
theorem dCI_1 : decode prog_166_method_1_code 1 = .ok (.invokespecial 1, 3) := by decide +kernel
theorem dCI_4 : decode prog_166_method_1_code 4 = .ok (.aload_n 0, 1) := by decide +kernel
theorem dCI_5 : decode prog_166_method_1_code 5 = .ok (.aload_n 1, 1) := by decide +kernel
theorem dCI_6 : decode prog_166_method_1_code 6 = .ok (.putfield 7, 3) := by decide +kernel
theorem dCI_9 : decode prog_166_method_1_code 9 = .ok (.aload_n 0, 1) := by decide +kernel
theorem dCI_10 : decode prog_166_method_1_code 10 = .ok (.aload_n 2, 1) := by decide +kernel
theorem dCI_11 : decode prog_166_method_1_code 11 = .ok (.putfield 13, 3) := by decide +kernel
theorem dCI_14 : decode prog_166_method_1_code 14 = .ok (.aload_n 0, 1) := by decide +kernel
theorem dCI_15 : decode prog_166_method_1_code 15 = .ok (.iload_n 3, 1) := by decide +kernel
theorem dCI_16 : decode prog_166_method_1_code 16 = .ok (.putfield 17, 3) := by decide +kernel
theorem dCI_19 : decode prog_166_method_1_code 19 = .ok (.aload_n 0, 1) := by decide +kernel
theorem dCI_20 : decode prog_166_method_1_code 20 = .ok (.aload 4, 2) := by decide +kernel
theorem dCI_22 : decode prog_166_method_1_code 22 = .ok (.putfield 21, 3) := by decide +kernel
theorem dCI_25 : decode prog_166_method_1_code 25 = .ok (.aload_n 0, 1) := by decide +kernel
theorem dCI_26 : decode prog_166_method_1_code 26 = .ok (.iload 5, 2) := by decide +kernel
theorem dCI_28 : decode prog_166_method_1_code 28 = .ok (.putfield 25, 3) := by decide +kernel
theorem dCI_31 : decode prog_166_method_1_code 31 = .ok (.aload_n 0, 1) := by decide +kernel
theorem dCI_32 : decode prog_166_method_1_code 32 = .ok (.iload 6, 2) := by decide +kernel
theorem dCI_34 : decode prog_166_method_1_code 34 = .ok (.putfield 29, 3) := by decide +kernel
theorem dCI_37 : decode prog_166_method_1_code 37 = .ok (.aload_n 0, 1) := by decide +kernel
theorem dCI_38 : decode prog_166_method_1_code 38 = .ok (.iload 7, 2) := by decide +kernel
theorem dCI_40 : decode prog_166_method_1_code 40 = .ok (.putfield 32, 3) := by decide +kernel
theorem dCI_43 : decode prog_166_method_1_code 43 = .ok (.return_, 1) := by decide +kernel
theorem dAN_0 : decode prog_166_method_4_code 0 = .ok (.new 8, 3) := by decide +kernel
theorem dAN_3 : decode prog_166_method_4_code 3 = .ok (.dup, 1) := by decide +kernel
theorem dAN_4 : decode prog_166_method_4_code 4 = .ok (.aload_n 0, 1) := by decide +kernel
theorem dAN_5 : decode prog_166_method_4_code 5 = .ok (.getfield 7, 3) := by decide +kernel
theorem dAN_8 : decode prog_166_method_4_code 8 = .ok (.aload_n 0, 1) := by decide +kernel
theorem dAN_9 : decode prog_166_method_4_code 9 = .ok (.getfield 13, 3) := by decide +kernel
theorem dAN_12 : decode prog_166_method_4_code 12 = .ok (.aload_n 0, 1) := by decide +kernel
theorem dAN_13 : decode prog_166_method_4_code 13 = .ok (.getfield 17, 3) := by decide +kernel
theorem dAN_16 : decode prog_166_method_4_code 16 = .ok (.aload_n 0, 1) := by decide +kernel
theorem dAN_17 : decode prog_166_method_4_code 17 = .ok (.getfield 21, 3) := by decide +kernel
theorem dAN_20 : decode prog_166_method_4_code 20 = .ok (.iconst 1, 1) := by decide +kernel
theorem dAN_21 : decode prog_166_method_4_code 21 = .ok (.iconst 0, 1) := by decide +kernel
theorem dAN_22 : decode prog_166_method_4_code 22 = .ok (.iconst 0, 1) := by decide +kernel
theorem dAN_23 : decode prog_166_method_4_code 23 = .ok (.invokespecial 53, 3) := by decide +kernel
theorem dAN_26 : decode prog_166_method_4_code 26 = .ok (.areturn, 1) := by decide +kernel
theorem pdCI : parseMethodDescriptor "(Ljava/lang/String;Lcom/example/cladistic/cladistic/model/ValueType;ILjava/util/Optional;ZZZ)V" = some ⟨[.object "java/lang/String", .object "com/example/cladistic/cladistic/model/ValueType", .int, .object "java/util/Optional", .boolean, .boolean, .boolean], none⟩ := by decide +kernel
theorem pdAN : parseMethodDescriptor "()Lcom/example/cladistic/cladistic/model/ColumnDef;" = some ⟨[], some (.object "com/example/cladistic/cladistic/model/ColumnDef")⟩ := by decide +kernel
theorem efCI (m : MethodId) (x0 : Addr) (x1 : Addr) (x2 : Addr) (x3 : Int32) (x4 : Addr) (x5 : Int32) (x6 : Int32) (x7 : Int32) : entryFrame m #[(.ref x0), (.ref x1), (.ref x2), (.int x3), (.ref x4), (.int x5), (.int x6), (.int x7)] 8 = mkF m 0 #[.val (.ref x0), .val (.ref x1), .val (.ref x2), .val (.int x3), .val (.ref x4), .val (.int x5), .val (.int x6), .val (.int x7)] [] := by first | (simp [entryFrame, mkF, argsToLocals, Value.category]; done) | rfl
def Q_rmCI (Z : State) (a x t d : Addr) (ln b1 b2 b3 : Int32) (h0 : Heap) (v : Option Value) (h : Heap) (L : List Loc) : Prop := v = none ∧ Fr Z.heap.size L ∧ Keep h0 h [a] ∧ Fld Z h a "com/example/cladistic/cladistic/model/ColumnDef" "name" "Ljava/lang/String;" (.ref x) ∧ Fld Z h a "com/example/cladistic/cladistic/model/ColumnDef" "type" "Lcom/example/cladistic/cladistic/model/ValueType;" (.ref t) ∧ Fld Z h a "com/example/cladistic/cladistic/model/ColumnDef" "length" "I" (.int ln) ∧ Fld Z h a "com/example/cladistic/cladistic/model/ColumnDef" "decimal" "Ljava/util/Optional;" (.ref d) ∧ Fld Z h a "com/example/cladistic/cladistic/model/ColumnDef" "nullable" "Z" (.int b1) ∧ Fld Z h a "com/example/cladistic/cladistic/model/ColumnDef" "primaryKey" "Z" (.int b2) ∧ Fld Z h a "com/example/cladistic/cladistic/model/ColumnDef" "generated" "Z" (.int b3)
set_option maxRecDepth 65536 in
set_option maxHeartbeats 40000000 in
theorem rmCI (l : Launch) (Z : State) (a0 : Array Value) (hw : ∀ d ∈ tables_1, d.before a0 Z = true) (a x t d : Addr) (ln b1 b2 b3 : Int32) (h0 : Heap) (ga : Z.heap.size ≤ a) (z1 : b1 = 0 ∨ b1 = 1) (z2 : b2 = 0 ∨ b2 = 1) (z3 : b3 = 0 ∨ b3 = 1) (A0 : Exa Z h0 a "com/example/cladistic/cladistic/model/ColumnDef") (F0 : Fld Z h0 a "com/example/cladistic/cladistic/model/ColumnDef" "name" "Ljava/lang/String;" (.null)) (F1 : Fld Z h0 a "com/example/cladistic/cladistic/model/ColumnDef" "type" "Lcom/example/cladistic/cladistic/model/ValueType;" (.null)) (F2 : Fld Z h0 a "com/example/cladistic/cladistic/model/ColumnDef" "length" "I" (.int ((0 : Int32)))) (F3 : Fld Z h0 a "com/example/cladistic/cladistic/model/ColumnDef" "decimal" "Ljava/util/Optional;" (.null)) (F4 : Fld Z h0 a "com/example/cladistic/cladistic/model/ColumnDef" "nullable" "Z" (.int ((0 : Int32)))) (F5 : Fld Z h0 a "com/example/cladistic/cladistic/model/ColumnDef" "primaryKey" "Z" (.int ((0 : Int32)))) (F6 : Fld Z h0 a "com/example/cladistic/cladistic/model/ColumnDef" "generated" "Z" (.int ((0 : Int32)))) :
    MetFree l (⟨"com/example/cladistic/cladistic/model/ColumnDef", "<init>", "(Ljava/lang/String;Lcom/example/cladistic/cladistic/model/ValueType;ILjava/util/Optional;ZZZ)V"⟩ : MethodName) (head1 (Jvm.Cond.code (⟨"com/example/cladistic/cladistic/model/ColumnDef", "<init>", "(Ljava/lang/String;Lcom/example/cladistic/cladistic/model/ValueType;ILjava/util/Optional;ZZZ)V"⟩ : MethodName) prog_166_method_1_code 8 (Option.none : Option FieldType) :: []) ({ frames := 2, cells := 0, slots := 0, locals := 24 } : Room)) (fun aa U => aa = #[(.ref a), (.ref x), (.ref t), (.int ln), (.ref d), (.int b1), (.int b2), (.int b3)] ∧ Z.Warmed39 U.vm ∧ U.heap = h0) (fun _ _ _ _ _ => True) (fun _ U o U' => ∃ v L, o = .returned v ∧ (Q_rmCI Z a x t d ln b1 b2 b3 h0) v U'.heap L ∧ FrameEnd U o U' L ({ frames := 2, cells := 0, slots := 0, locals := 24 } : Room).cells ({ frames := 2, cells := 0, slots := 0, locals := 24 } : Room).slots) := by
  refine own_walkN (by exact pnC) ?_
  intro p e s m below meth c T0 X0 hx hby hml hret hlk hnm hown hZ e0 es0 F hF
  refine own_on (fun _ => castTop (efCI m a x t ln d b1 b2 b3)) ?_
  have N0 := Fr.nil Z.heap.size
  have Q0 := Keep.refl h0 [a]
  refine own_aload_n X0.here hx (hb hby dCI_0) rfl rfl (pc' := 1) rfl ?_
  obtain ⟨_, _, ⟨T1, L1, k1, n1⟩, -, X1, ⟨Lc1, hQ1, l1, y1, z1⟩, st1⟩ := X0.specialBack hx (y := (⟨"java/lang/Record", "<init>", "()V"⟩ : MethodName)) rfl hown (mvT hZ (hw _ (List.mem_of_getElem? (i := 44) rfl))) (mvT hZ (hw _ (List.mem_of_getElem? (i := 45) rfl))) (mvT hZ (hw _ (List.mem_of_getElem? (i := 48) rfl))) (by decide) (backOf (W := 0) (rmR l Z a0 hw a h0) hZ (hw _ (List.mem_of_getElem? (i := 48) rfl)) (hw _ (List.mem_of_getElem? (i := 47) rfl)) (by decide) (by decide)) (g := (mkF m 1 #[.val (.ref a), .val (.ref x), .val (.ref t), .val (.int ln), .val (.ref d), .val (.int b1), .val (.int b2), .val (.int b3)] [(.ref a)])) rfl (by rw [hml]; rfl) (Steps.refl _) (a := a) (argsL := []) (rest := []) (lenOf pdR rfl) rfl (by show 2 * 0 + _ ≤ _; exact Nat.le_of_eq rfl) (hb hby dCI_1) (fun _ _ => ⟨rfl, e0, (Nat.le_of_ble_eq_true rfl), (Nat.le_of_ble_eq_true rfl)⟩)
  dsimp only [Pt.U, Pt.locs, Pt.cells, Pt.slots] at X1 l1 y1 z1 st1 hQ1
  subst l1 y1 z1
  obtain ⟨rfl, N1, E1⟩ := hQ1
  refine own_to st1 ?_
  show own_Go p e below F (T1.setTop (mkF m 4 #[.val (.ref a), .val (.ref x), .val (.ref t), .val (.int ln), .val (.ref d), .val (.int b1), .val (.int b2), .val (.int b3)] []))
  have N2 := Fr.app N0 N1
  refine own_aload_n X1.here hx (hb hby dCI_4) rfl rfl (pc' := 5) rfl ?_
  refine own_aload_n X1.here hx (hb hby dCI_5) rfl rfl (pc' := 6) rfl ?_
  obtain ⟨T3, h3, X3, e3, W3, st3⟩ := putF X1 hx hZ hown (host := "") (Or.inl (hw _ (List.mem_of_getElem? (i := 50) rfl))) Via.refl E1 F0 A0 (Or.inr ⟨(hw _ (List.mem_of_getElem? (i := 51) rfl)), rfl, hnm⟩) (hw _ (List.mem_of_getElem? (i := 39) rfl)) (ty := .object "java/lang/String") (by decide) rfl rfl (g := (mkF m 6 #[.val (.ref a), .val (.ref x), .val (.ref t), .val (.int ln), .val (.ref d), .val (.int b1), .val (.int b2), .val (.int b3)] [(.ref x), (.ref a)])) rfl rfl (hb hby dCI_6)
  have f4 := A0.wr W3
  have f5 := F0.same W3
  have f6 := F1.other W3 (Or.inr (slot_ne (Or.inr (hw _ (List.mem_of_getElem? (i := 53) rfl))) (Or.inr (hw _ (List.mem_of_getElem? (i := 51) rfl))) (by decide) (t := .object "com/example/cladistic/cladistic/model/ValueType") (by decide) (t' := .object "java/lang/String") (by decide)))
  have f7 := F2.other W3 (Or.inr (slot_ne (Or.inr (hw _ (List.mem_of_getElem? (i := 55) rfl))) (Or.inr (hw _ (List.mem_of_getElem? (i := 51) rfl))) (by decide) (t := .int) (by decide) (t' := .object "java/lang/String") (by decide)))
  have f8 := F3.other W3 (Or.inr (slot_ne (Or.inr (hw _ (List.mem_of_getElem? (i := 57) rfl))) (Or.inr (hw _ (List.mem_of_getElem? (i := 51) rfl))) (by decide) (t := .object "java/util/Optional") (by decide) (t' := .object "java/lang/String") (by decide)))
  have f9 := F4.other W3 (Or.inr (slot_ne (Or.inr (hw _ (List.mem_of_getElem? (i := 59) rfl))) (Or.inr (hw _ (List.mem_of_getElem? (i := 51) rfl))) (by decide) (t := .boolean) (by decide) (t' := .object "java/lang/String") (by decide)))
  have f10 := F5.other W3 (Or.inr (slot_ne (Or.inr (hw _ (List.mem_of_getElem? (i := 61) rfl))) (Or.inr (hw _ (List.mem_of_getElem? (i := 51) rfl))) (by decide) (t := .boolean) (by decide) (t' := .object "java/lang/String") (by decide)))
  have f11 := F6.other W3 (Or.inr (slot_ne (Or.inr (hw _ (List.mem_of_getElem? (i := 63) rfl))) (Or.inr (hw _ (List.mem_of_getElem? (i := 51) rfl))) (by decide) (t := .boolean) (by decide) (t' := .object "java/lang/String") (by decide)))
  have f12 := Q0.wr W3 (Or.inl (by simp))
  have N13 := own_Fr_snoc (sl := Jvm.RoadKit.slotOf Z "com/example/cladistic/cladistic/model/ColumnDef" "name" "Ljava/lang/String;") N2 ga
  refine own_on st3 ?_
  show own_Go p e below F (T3.setTop (mkF m 9 #[.val (.ref a), .val (.ref x), .val (.ref t), .val (.int ln), .val (.ref d), .val (.int b1), .val (.int b2), .val (.int b3)] []))
  refine own_aload_n X3.here hx (hb hby dCI_9) rfl rfl (pc' := 10) rfl ?_
  refine own_aload_n X3.here hx (hb hby dCI_10) rfl rfl (pc' := 11) rfl ?_
  obtain ⟨T14, h14, X14, e14, W14, st14⟩ := putF X3 hx hZ hown (host := "") (Or.inl (hw _ (List.mem_of_getElem? (i := 52) rfl))) Via.refl e3 f6 f4 (Or.inr ⟨(hw _ (List.mem_of_getElem? (i := 53) rfl)), rfl, hnm⟩) (hw _ (List.mem_of_getElem? (i := 39) rfl)) (ty := .object "com/example/cladistic/cladistic/model/ValueType") (by decide) rfl rfl (g := (mkF m 11 #[.val (.ref a), .val (.ref x), .val (.ref t), .val (.int ln), .val (.ref d), .val (.int b1), .val (.int b2), .val (.int b3)] [(.ref t), (.ref a)])) rfl rfl (hb hby dCI_11)
  have f15 := f4.wr W14
  have f16 := f5.other W14 (Or.inr (slot_ne (Or.inr (hw _ (List.mem_of_getElem? (i := 51) rfl))) (Or.inr (hw _ (List.mem_of_getElem? (i := 53) rfl))) (by decide) (t := .object "java/lang/String") (by decide) (t' := .object "com/example/cladistic/cladistic/model/ValueType") (by decide)))
  have f17 := f6.same W14
  have f18 := f7.other W14 (Or.inr (slot_ne (Or.inr (hw _ (List.mem_of_getElem? (i := 55) rfl))) (Or.inr (hw _ (List.mem_of_getElem? (i := 53) rfl))) (by decide) (t := .int) (by decide) (t' := .object "com/example/cladistic/cladistic/model/ValueType") (by decide)))
  have f19 := f8.other W14 (Or.inr (slot_ne (Or.inr (hw _ (List.mem_of_getElem? (i := 57) rfl))) (Or.inr (hw _ (List.mem_of_getElem? (i := 53) rfl))) (by decide) (t := .object "java/util/Optional") (by decide) (t' := .object "com/example/cladistic/cladistic/model/ValueType") (by decide)))
  have f20 := f9.other W14 (Or.inr (slot_ne (Or.inr (hw _ (List.mem_of_getElem? (i := 59) rfl))) (Or.inr (hw _ (List.mem_of_getElem? (i := 53) rfl))) (by decide) (t := .boolean) (by decide) (t' := .object "com/example/cladistic/cladistic/model/ValueType") (by decide)))
  have f21 := f10.other W14 (Or.inr (slot_ne (Or.inr (hw _ (List.mem_of_getElem? (i := 61) rfl))) (Or.inr (hw _ (List.mem_of_getElem? (i := 53) rfl))) (by decide) (t := .boolean) (by decide) (t' := .object "com/example/cladistic/cladistic/model/ValueType") (by decide)))
  have f22 := f11.other W14 (Or.inr (slot_ne (Or.inr (hw _ (List.mem_of_getElem? (i := 63) rfl))) (Or.inr (hw _ (List.mem_of_getElem? (i := 53) rfl))) (by decide) (t := .boolean) (by decide) (t' := .object "com/example/cladistic/cladistic/model/ValueType") (by decide)))
  have f23 := f12.wr W14 (Or.inl (by simp))
  have N24 := own_Fr_snoc (sl := Jvm.RoadKit.slotOf Z "com/example/cladistic/cladistic/model/ColumnDef" "type" "Lcom/example/cladistic/cladistic/model/ValueType;") N13 ga
  refine own_on st14 ?_
  show own_Go p e below F (T14.setTop (mkF m 14 #[.val (.ref a), .val (.ref x), .val (.ref t), .val (.int ln), .val (.ref d), .val (.int b1), .val (.int b2), .val (.int b3)] []))
  refine own_aload_n X14.here hx (hb hby dCI_14) rfl rfl (pc' := 15) rfl ?_
  refine own_iload_n X14.here hx (hb hby dCI_15) rfl (pc' := 16) rfl ?_
  obtain ⟨T25, h25, X25, e25, W25, st25⟩ := putF X14 hx hZ hown (host := "") (Or.inl (hw _ (List.mem_of_getElem? (i := 54) rfl))) Via.refl e14 f18 f15 (Or.inr ⟨(hw _ (List.mem_of_getElem? (i := 55) rfl)), rfl, hnm⟩) (hw _ (List.mem_of_getElem? (i := 39) rfl)) (ty := .int) (by decide) rfl rfl (g := (mkF m 16 #[.val (.ref a), .val (.ref x), .val (.ref t), .val (.int ln), .val (.ref d), .val (.int b1), .val (.int b2), .val (.int b3)] [(.int ln), (.ref a)])) rfl rfl (hb hby dCI_16)
  have f26 := f15.wr W25
  have f27 := f16.other W25 (Or.inr (slot_ne (Or.inr (hw _ (List.mem_of_getElem? (i := 51) rfl))) (Or.inr (hw _ (List.mem_of_getElem? (i := 55) rfl))) (by decide) (t := .object "java/lang/String") (by decide) (t' := .int) (by decide)))
  have f28 := f17.other W25 (Or.inr (slot_ne (Or.inr (hw _ (List.mem_of_getElem? (i := 53) rfl))) (Or.inr (hw _ (List.mem_of_getElem? (i := 55) rfl))) (by decide) (t := .object "com/example/cladistic/cladistic/model/ValueType") (by decide) (t' := .int) (by decide)))
  have f29 := f18.same W25
  have f30 := f19.other W25 (Or.inr (slot_ne (Or.inr (hw _ (List.mem_of_getElem? (i := 57) rfl))) (Or.inr (hw _ (List.mem_of_getElem? (i := 55) rfl))) (by decide) (t := .object "java/util/Optional") (by decide) (t' := .int) (by decide)))
  have f31 := f20.other W25 (Or.inr (slot_ne (Or.inr (hw _ (List.mem_of_getElem? (i := 59) rfl))) (Or.inr (hw _ (List.mem_of_getElem? (i := 55) rfl))) (by decide) (t := .boolean) (by decide) (t' := .int) (by decide)))
  have f32 := f21.other W25 (Or.inr (slot_ne (Or.inr (hw _ (List.mem_of_getElem? (i := 61) rfl))) (Or.inr (hw _ (List.mem_of_getElem? (i := 55) rfl))) (by decide) (t := .boolean) (by decide) (t' := .int) (by decide)))
  have f33 := f22.other W25 (Or.inr (slot_ne (Or.inr (hw _ (List.mem_of_getElem? (i := 63) rfl))) (Or.inr (hw _ (List.mem_of_getElem? (i := 55) rfl))) (by decide) (t := .boolean) (by decide) (t' := .int) (by decide)))
  have f34 := f23.wr W25 (Or.inl (by simp))
  have N35 := own_Fr_snoc (sl := Jvm.RoadKit.slotOf Z "com/example/cladistic/cladistic/model/ColumnDef" "length" "I") N24 ga
  refine own_on st25 ?_
  show own_Go p e below F (T25.setTop (mkF m 19 #[.val (.ref a), .val (.ref x), .val (.ref t), .val (.int ln), .val (.ref d), .val (.int b1), .val (.int b2), .val (.int b3)] []))
  refine own_aload_n X25.here hx (hb hby dCI_19) rfl rfl (pc' := 20) rfl ?_
  refine own_aload X25.here hx (hb hby dCI_20) rfl rfl (pc' := 22) rfl ?_
  obtain ⟨T36, h36, X36, e36, W36, st36⟩ := putF X25 hx hZ hown (host := "") (Or.inl (hw _ (List.mem_of_getElem? (i := 56) rfl))) Via.refl e25 f30 f26 (Or.inr ⟨(hw _ (List.mem_of_getElem? (i := 57) rfl)), rfl, hnm⟩) (hw _ (List.mem_of_getElem? (i := 39) rfl)) (ty := .object "java/util/Optional") (by decide) rfl rfl (g := (mkF m 22 #[.val (.ref a), .val (.ref x), .val (.ref t), .val (.int ln), .val (.ref d), .val (.int b1), .val (.int b2), .val (.int b3)] [(.ref d), (.ref a)])) rfl rfl (hb hby dCI_22)
  have f37 := f26.wr W36
  have f38 := f27.other W36 (Or.inr (slot_ne (Or.inr (hw _ (List.mem_of_getElem? (i := 51) rfl))) (Or.inr (hw _ (List.mem_of_getElem? (i := 57) rfl))) (by decide) (t := .object "java/lang/String") (by decide) (t' := .object "java/util/Optional") (by decide)))
  have f39 := f28.other W36 (Or.inr (slot_ne (Or.inr (hw _ (List.mem_of_getElem? (i := 53) rfl))) (Or.inr (hw _ (List.mem_of_getElem? (i := 57) rfl))) (by decide) (t := .object "com/example/cladistic/cladistic/model/ValueType") (by decide) (t' := .object "java/util/Optional") (by decide)))
  have f40 := f29.other W36 (Or.inr (slot_ne (Or.inr (hw _ (List.mem_of_getElem? (i := 55) rfl))) (Or.inr (hw _ (List.mem_of_getElem? (i := 57) rfl))) (by decide) (t := .int) (by decide) (t' := .object "java/util/Optional") (by decide)))
  have f41 := f30.same W36
  have f42 := f31.other W36 (Or.inr (slot_ne (Or.inr (hw _ (List.mem_of_getElem? (i := 59) rfl))) (Or.inr (hw _ (List.mem_of_getElem? (i := 57) rfl))) (by decide) (t := .boolean) (by decide) (t' := .object "java/util/Optional") (by decide)))
  have f43 := f32.other W36 (Or.inr (slot_ne (Or.inr (hw _ (List.mem_of_getElem? (i := 61) rfl))) (Or.inr (hw _ (List.mem_of_getElem? (i := 57) rfl))) (by decide) (t := .boolean) (by decide) (t' := .object "java/util/Optional") (by decide)))
  have f44 := f33.other W36 (Or.inr (slot_ne (Or.inr (hw _ (List.mem_of_getElem? (i := 63) rfl))) (Or.inr (hw _ (List.mem_of_getElem? (i := 57) rfl))) (by decide) (t := .boolean) (by decide) (t' := .object "java/util/Optional") (by decide)))
  have f45 := f34.wr W36 (Or.inl (by simp))
  have N46 := own_Fr_snoc (sl := Jvm.RoadKit.slotOf Z "com/example/cladistic/cladistic/model/ColumnDef" "decimal" "Ljava/util/Optional;") N35 ga
  refine own_on st36 ?_
  show own_Go p e below F (T36.setTop (mkF m 25 #[.val (.ref a), .val (.ref x), .val (.ref t), .val (.int ln), .val (.ref d), .val (.int b1), .val (.int b2), .val (.int b3)] []))
  refine own_aload_n X36.here hx (hb hby dCI_25) rfl rfl (pc' := 26) rfl ?_
  refine own_iload X36.here hx (hb hby dCI_26) rfl (pc' := 28) rfl ?_
  obtain ⟨T47, h47, X47, e47, W47, st47⟩ := putF X36 hx hZ hown (host := "") (Or.inl (hw _ (List.mem_of_getElem? (i := 58) rfl))) Via.refl e36 f42 f37 (Or.inr ⟨(hw _ (List.mem_of_getElem? (i := 59) rfl)), rfl, hnm⟩) (hw _ (List.mem_of_getElem? (i := 39) rfl)) (ty := .boolean) (by decide) (by rcases z1 with rfl | rfl <;> rfl) (by rcases z1 with rfl | rfl <;> rfl) (g := (mkF m 28 #[.val (.ref a), .val (.ref x), .val (.ref t), .val (.int ln), .val (.ref d), .val (.int b1), .val (.int b2), .val (.int b3)] [(.int b1), (.ref a)])) rfl rfl (hb hby dCI_28)
  have f48 := f37.wr W47
  have f49 := f38.other W47 (Or.inr (slot_ne (Or.inr (hw _ (List.mem_of_getElem? (i := 51) rfl))) (Or.inr (hw _ (List.mem_of_getElem? (i := 59) rfl))) (by decide) (t := .object "java/lang/String") (by decide) (t' := .boolean) (by decide)))
  have f50 := f39.other W47 (Or.inr (slot_ne (Or.inr (hw _ (List.mem_of_getElem? (i := 53) rfl))) (Or.inr (hw _ (List.mem_of_getElem? (i := 59) rfl))) (by decide) (t := .object "com/example/cladistic/cladistic/model/ValueType") (by decide) (t' := .boolean) (by decide)))
  have f51 := f40.other W47 (Or.inr (slot_ne (Or.inr (hw _ (List.mem_of_getElem? (i := 55) rfl))) (Or.inr (hw _ (List.mem_of_getElem? (i := 59) rfl))) (by decide) (t := .int) (by decide) (t' := .boolean) (by decide)))
  have f52 := f41.other W47 (Or.inr (slot_ne (Or.inr (hw _ (List.mem_of_getElem? (i := 57) rfl))) (Or.inr (hw _ (List.mem_of_getElem? (i := 59) rfl))) (by decide) (t := .object "java/util/Optional") (by decide) (t' := .boolean) (by decide)))
  have f53 := f42.same W47
  have f54 := f43.other W47 (Or.inr (slot_ne (Or.inr (hw _ (List.mem_of_getElem? (i := 61) rfl))) (Or.inr (hw _ (List.mem_of_getElem? (i := 59) rfl))) (by decide) (t := .boolean) (by decide) (t' := .boolean) (by decide)))
  have f55 := f44.other W47 (Or.inr (slot_ne (Or.inr (hw _ (List.mem_of_getElem? (i := 63) rfl))) (Or.inr (hw _ (List.mem_of_getElem? (i := 59) rfl))) (by decide) (t := .boolean) (by decide) (t' := .boolean) (by decide)))
  have f56 := f45.wr W47 (Or.inl (by simp))
  have N57 := own_Fr_snoc (sl := Jvm.RoadKit.slotOf Z "com/example/cladistic/cladistic/model/ColumnDef" "nullable" "Z") N46 ga
  refine own_on st47 ?_
  show own_Go p e below F (T47.setTop (mkF m 31 #[.val (.ref a), .val (.ref x), .val (.ref t), .val (.int ln), .val (.ref d), .val (.int b1), .val (.int b2), .val (.int b3)] []))
  refine own_aload_n X47.here hx (hb hby dCI_31) rfl rfl (pc' := 32) rfl ?_
  refine own_iload X47.here hx (hb hby dCI_32) rfl (pc' := 34) rfl ?_
  obtain ⟨T58, h58, X58, e58, W58, st58⟩ := putF X47 hx hZ hown (host := "") (Or.inl (hw _ (List.mem_of_getElem? (i := 60) rfl))) Via.refl e47 f54 f48 (Or.inr ⟨(hw _ (List.mem_of_getElem? (i := 61) rfl)), rfl, hnm⟩) (hw _ (List.mem_of_getElem? (i := 39) rfl)) (ty := .boolean) (by decide) (by rcases z2 with rfl | rfl <;> rfl) (by rcases z2 with rfl | rfl <;> rfl) (g := (mkF m 34 #[.val (.ref a), .val (.ref x), .val (.ref t), .val (.int ln), .val (.ref d), .val (.int b1), .val (.int b2), .val (.int b3)] [(.int b2), (.ref a)])) rfl rfl (hb hby dCI_34)
  have f59 := f48.wr W58
  have f60 := f49.other W58 (Or.inr (slot_ne (Or.inr (hw _ (List.mem_of_getElem? (i := 51) rfl))) (Or.inr (hw _ (List.mem_of_getElem? (i := 61) rfl))) (by decide) (t := .object "java/lang/String") (by decide) (t' := .boolean) (by decide)))
  have f61 := f50.other W58 (Or.inr (slot_ne (Or.inr (hw _ (List.mem_of_getElem? (i := 53) rfl))) (Or.inr (hw _ (List.mem_of_getElem? (i := 61) rfl))) (by decide) (t := .object "com/example/cladistic/cladistic/model/ValueType") (by decide) (t' := .boolean) (by decide)))
  have f62 := f51.other W58 (Or.inr (slot_ne (Or.inr (hw _ (List.mem_of_getElem? (i := 55) rfl))) (Or.inr (hw _ (List.mem_of_getElem? (i := 61) rfl))) (by decide) (t := .int) (by decide) (t' := .boolean) (by decide)))
  have f63 := f52.other W58 (Or.inr (slot_ne (Or.inr (hw _ (List.mem_of_getElem? (i := 57) rfl))) (Or.inr (hw _ (List.mem_of_getElem? (i := 61) rfl))) (by decide) (t := .object "java/util/Optional") (by decide) (t' := .boolean) (by decide)))
  have f64 := f53.other W58 (Or.inr (slot_ne (Or.inr (hw _ (List.mem_of_getElem? (i := 59) rfl))) (Or.inr (hw _ (List.mem_of_getElem? (i := 61) rfl))) (by decide) (t := .boolean) (by decide) (t' := .boolean) (by decide)))
  have f65 := f54.same W58
  have f66 := f55.other W58 (Or.inr (slot_ne (Or.inr (hw _ (List.mem_of_getElem? (i := 63) rfl))) (Or.inr (hw _ (List.mem_of_getElem? (i := 61) rfl))) (by decide) (t := .boolean) (by decide) (t' := .boolean) (by decide)))
  have f67 := f56.wr W58 (Or.inl (by simp))
  have N68 := own_Fr_snoc (sl := Jvm.RoadKit.slotOf Z "com/example/cladistic/cladistic/model/ColumnDef" "primaryKey" "Z") N57 ga
  refine own_on st58 ?_
  show own_Go p e below F (T58.setTop (mkF m 37 #[.val (.ref a), .val (.ref x), .val (.ref t), .val (.int ln), .val (.ref d), .val (.int b1), .val (.int b2), .val (.int b3)] []))
  refine own_aload_n X58.here hx (hb hby dCI_37) rfl rfl (pc' := 38) rfl ?_
  refine own_iload X58.here hx (hb hby dCI_38) rfl (pc' := 40) rfl ?_
  obtain ⟨T69, h69, X69, e69, W69, st69⟩ := putF X58 hx hZ hown (host := "") (Or.inl (hw _ (List.mem_of_getElem? (i := 62) rfl))) Via.refl e58 f66 f59 (Or.inr ⟨(hw _ (List.mem_of_getElem? (i := 63) rfl)), rfl, hnm⟩) (hw _ (List.mem_of_getElem? (i := 39) rfl)) (ty := .boolean) (by decide) (by rcases z3 with rfl | rfl <;> rfl) (by rcases z3 with rfl | rfl <;> rfl) (g := (mkF m 40 #[.val (.ref a), .val (.ref x), .val (.ref t), .val (.int ln), .val (.ref d), .val (.int b1), .val (.int b2), .val (.int b3)] [(.int b3), (.ref a)])) rfl rfl (hb hby dCI_40)
  have f70 := f59.wr W69
  have f71 := f60.other W69 (Or.inr (slot_ne (Or.inr (hw _ (List.mem_of_getElem? (i := 51) rfl))) (Or.inr (hw _ (List.mem_of_getElem? (i := 63) rfl))) (by decide) (t := .object "java/lang/String") (by decide) (t' := .boolean) (by decide)))
  have f72 := f61.other W69 (Or.inr (slot_ne (Or.inr (hw _ (List.mem_of_getElem? (i := 53) rfl))) (Or.inr (hw _ (List.mem_of_getElem? (i := 63) rfl))) (by decide) (t := .object "com/example/cladistic/cladistic/model/ValueType") (by decide) (t' := .boolean) (by decide)))
  have f73 := f62.other W69 (Or.inr (slot_ne (Or.inr (hw _ (List.mem_of_getElem? (i := 55) rfl))) (Or.inr (hw _ (List.mem_of_getElem? (i := 63) rfl))) (by decide) (t := .int) (by decide) (t' := .boolean) (by decide)))
  have f74 := f63.other W69 (Or.inr (slot_ne (Or.inr (hw _ (List.mem_of_getElem? (i := 57) rfl))) (Or.inr (hw _ (List.mem_of_getElem? (i := 63) rfl))) (by decide) (t := .object "java/util/Optional") (by decide) (t' := .boolean) (by decide)))
  have f75 := f64.other W69 (Or.inr (slot_ne (Or.inr (hw _ (List.mem_of_getElem? (i := 59) rfl))) (Or.inr (hw _ (List.mem_of_getElem? (i := 63) rfl))) (by decide) (t := .boolean) (by decide) (t' := .boolean) (by decide)))
  have f76 := f65.other W69 (Or.inr (slot_ne (Or.inr (hw _ (List.mem_of_getElem? (i := 61) rfl))) (Or.inr (hw _ (List.mem_of_getElem? (i := 63) rfl))) (by decide) (t := .boolean) (by decide) (t' := .boolean) (by decide)))
  have f77 := f66.same W69
  have f78 := f67.wr W69 (Or.inl (by simp))
  have N79 := own_Fr_snoc (sl := Jvm.RoadKit.slotOf Z "com/example/cladistic/cladistic/model/ColumnDef" "generated" "Z") N68 ga
  refine own_on st69 ?_
  show own_Go p e below F (T69.setTop (mkF m 43 #[.val (.ref a), .val (.ref x), .val (.ref t), .val (.int ln), .val (.ref d), .val (.int b1), .val (.int b2), .val (.int b3)] []))
  exact own_retV X69 hx hlk hret (hb hby dCI_43) (fun t ht hE => hF t _ _ _ _ (by rw [ht, (e69 : _ = h69)]; exact ⟨rfl, N79, f78, f71, f72, f73, f74, f75, f76, f77⟩) hE (by decide) (by decide))
def Q_rmAN (Z : State) (c0 x t d : Addr) (ln b1 b2 b3 : Int32) (h0 : Heap) (v : Option Value) (h : Heap) (L : List Loc) : Prop := ∃ a, v = some (.ref a) ∧ Ext h0 h ∧ Fr Z.heap.size L ∧ Exa Z h a "com/example/cladistic/cladistic/model/ColumnDef" ∧ Fld Z h a "com/example/cladistic/cladistic/model/ColumnDef" "name" "Ljava/lang/String;" (.ref x) ∧ Fld Z h a "com/example/cladistic/cladistic/model/ColumnDef" "type" "Lcom/example/cladistic/cladistic/model/ValueType;" (.ref t) ∧ Fld Z h a "com/example/cladistic/cladistic/model/ColumnDef" "length" "I" (.int ln) ∧ Fld Z h a "com/example/cladistic/cladistic/model/ColumnDef" "decimal" "Ljava/util/Optional;" (.ref d) ∧ Fld Z h a "com/example/cladistic/cladistic/model/ColumnDef" "nullable" "Z" (.int (1 : Int32)) ∧ Fld Z h a "com/example/cladistic/cladistic/model/ColumnDef" "primaryKey" "Z" (.int (0 : Int32)) ∧ Fld Z h a "com/example/cladistic/cladistic/model/ColumnDef" "generated" "Z" (.int (0 : Int32))
set_option maxRecDepth 65536 in
set_option maxHeartbeats 40000000 in
theorem rmAN (l : Launch) (Z : State) (a0 : Array Value) (hw : ∀ d ∈ tables_1, d.before a0 Z = true) (c0 x t d : Addr) (ln b1 b2 b3 : Int32) (h0 : Heap) (EZ : Ext Z.heap h0) (F0 : Fld Z h0 c0 "com/example/cladistic/cladistic/model/ColumnDef" "name" "Ljava/lang/String;" (.ref x)) (F1 : Fld Z h0 c0 "com/example/cladistic/cladistic/model/ColumnDef" "type" "Lcom/example/cladistic/cladistic/model/ValueType;" (.ref t)) (F2 : Fld Z h0 c0 "com/example/cladistic/cladistic/model/ColumnDef" "length" "I" (.int ln)) (F3 : Fld Z h0 c0 "com/example/cladistic/cladistic/model/ColumnDef" "decimal" "Ljava/util/Optional;" (.ref d)) :
    MetFree l (⟨"com/example/cladistic/cladistic/model/ColumnDef", "asNullable", "()Lcom/example/cladistic/cladistic/model/ColumnDef;"⟩ : MethodName) (head1 (Jvm.Cond.code (⟨"com/example/cladistic/cladistic/model/ColumnDef", "asNullable", "()Lcom/example/cladistic/cladistic/model/ColumnDef;"⟩ : MethodName) prog_166_method_4_code 1 (Option.some (FieldType.object "com/example/cladistic/cladistic/model/ColumnDef")) :: []) ({ frames := 3, cells := 1, slots := 7, locals := 44 } : Room)) (fun aa U => aa = #[(.ref c0)] ∧ Z.Warmed39 U.vm ∧ U.heap = h0) (fun _ _ _ _ _ => True) (fun _ U o U' => ∃ v L, o = .returned v ∧ (Q_rmAN Z c0 x t d ln b1 b2 b3 h0) v U'.heap L ∧ FrameEnd U o U' L ({ frames := 3, cells := 1, slots := 7, locals := 44 } : Room).cells ({ frames := 3, cells := 1, slots := 7, locals := 44 } : Room).slots) := by
  refine own_walkN (by exact pnC) ?_
  intro p e s m below meth c T0 X0 hx hby hml hret hlk hnm hown hZ e0 es0 F hF
  refine own_on (fun _ => castTop (efR m c0)) ?_
  have M0 := own_ext_refl h0
  have N0 := Fr.nil Z.heap.size
  obtain ⟨T1, h1, X1, e1, E1, A1, D1, -, st1⟩ := newO X0 hx hZ hown (hw _ (List.mem_of_getElem? (i := 69) rfl)) (hw _ (List.mem_of_getElem? (i := 39) rfl)) (hw _ (List.mem_of_getElem? (i := 40) rfl)) e0 (g := (mkF m 0 #[.val (.ref c0)] [])) rfl (hb hby dAN_0) (by decide) (by decide)
  obtain ⟨a1, g1⟩ : ∃ z, z = h0.size := ⟨_, rfl⟩
  rw [← g1] at A1 D1 st1
  have ne2 : c0 ≠ a1 := Nat.ne_of_lt (by rw [g1]; exact F0.lt)
  have ge3 : h0.size ≤ a1 := by rw [g1]; exact M0.1
  have f4 := own_ext_trans M0 E1
  have f5 := F0.ext E1
  have f6 := F1.ext E1
  have f7 := F2.ext E1
  have f8 := F3.ext E1
  have F1_0 : Fld Z h1 a1 "com/example/cladistic/cladistic/model/ColumnDef" "name" "Ljava/lang/String;" (.null) := (D1 (Or.inr (hw _ (List.mem_of_getElem? (i := 51) rfl))) (ty := .object "java/lang/String") (by decide))
  have F1_1 : Fld Z h1 a1 "com/example/cladistic/cladistic/model/ColumnDef" "type" "Lcom/example/cladistic/cladistic/model/ValueType;" (.null) := (D1 (Or.inr (hw _ (List.mem_of_getElem? (i := 53) rfl))) (ty := .object "com/example/cladistic/cladistic/model/ValueType") (by decide))
  have F1_2 : Fld Z h1 a1 "com/example/cladistic/cladistic/model/ColumnDef" "length" "I" (.int ((0 : Int32))) := (D1 (Or.inr (hw _ (List.mem_of_getElem? (i := 55) rfl))) (ty := .int) (by decide))
  have F1_3 : Fld Z h1 a1 "com/example/cladistic/cladistic/model/ColumnDef" "decimal" "Ljava/util/Optional;" (.null) := (D1 (Or.inr (hw _ (List.mem_of_getElem? (i := 57) rfl))) (ty := .object "java/util/Optional") (by decide))
  have F1_4 : Fld Z h1 a1 "com/example/cladistic/cladistic/model/ColumnDef" "nullable" "Z" (.int ((0 : Int32))) := (D1 (Or.inr (hw _ (List.mem_of_getElem? (i := 59) rfl))) (ty := .boolean) (by decide))
  have F1_5 : Fld Z h1 a1 "com/example/cladistic/cladistic/model/ColumnDef" "primaryKey" "Z" (.int ((0 : Int32))) := (D1 (Or.inr (hw _ (List.mem_of_getElem? (i := 61) rfl))) (ty := .boolean) (by decide))
  have F1_6 : Fld Z h1 a1 "com/example/cladistic/cladistic/model/ColumnDef" "generated" "Z" (.int ((0 : Int32))) := (D1 (Or.inr (hw _ (List.mem_of_getElem? (i := 63) rfl))) (ty := .boolean) (by decide))
  refine own_on st1 ?_
  show own_Go p e below F (T1.setTop (mkF m 3 #[.val (.ref c0)] [(.ref a1)]))
  have gz_a1 : Z.heap.size ≤ a1 := Nat.le_trans EZ.1 ge3
  refine own_dup X1.here hx (hb hby dAN_3) rfl (pc' := 4) rfl ?_
  refine own_aload_n X1.here hx (hb hby dAN_4) rfl rfl (pc' := 5) rfl ?_
  obtain ⟨T9, X9, e9, st9⟩ := getF X1 hx hZ hown (host := "") (Or.inl (hw _ (List.mem_of_getElem? (i := 50) rfl))) Via.refl e1 f5 (g := (mkF m 5 #[.val (.ref c0)] [(.ref c0), (.ref a1), (.ref a1)])) rfl rfl (hb hby dAN_5)
  refine own_on st9 ?_
  show own_Go p e below F (T9.setTop (mkF m 8 #[.val (.ref c0)] [(.ref x), (.ref a1), (.ref a1)]))
  refine own_aload_n X9.here hx (hb hby dAN_8) rfl rfl (pc' := 9) rfl ?_
  obtain ⟨T10, X10, e10, st10⟩ := getF X9 hx hZ hown (host := "") (Or.inl (hw _ (List.mem_of_getElem? (i := 52) rfl))) Via.refl e9 f6 (g := (mkF m 9 #[.val (.ref c0)] [(.ref c0), (.ref x), (.ref a1), (.ref a1)])) rfl rfl (hb hby dAN_9)
  refine own_on st10 ?_
  show own_Go p e below F (T10.setTop (mkF m 12 #[.val (.ref c0)] [(.ref t), (.ref x), (.ref a1), (.ref a1)]))
  refine own_aload_n X10.here hx (hb hby dAN_12) rfl rfl (pc' := 13) rfl ?_
  obtain ⟨T11, X11, e11, st11⟩ := getF X10 hx hZ hown (host := "") (Or.inl (hw _ (List.mem_of_getElem? (i := 54) rfl))) Via.refl e10 f7 (g := (mkF m 13 #[.val (.ref c0)] [(.ref c0), (.ref t), (.ref x), (.ref a1), (.ref a1)])) rfl rfl (hb hby dAN_13)
  refine own_on st11 ?_
  show own_Go p e below F (T11.setTop (mkF m 16 #[.val (.ref c0)] [(.int ln), (.ref t), (.ref x), (.ref a1), (.ref a1)]))
  refine own_aload_n X11.here hx (hb hby dAN_16) rfl rfl (pc' := 17) rfl ?_
  obtain ⟨T12, X12, e12, st12⟩ := getF X11 hx hZ hown (host := "") (Or.inl (hw _ (List.mem_of_getElem? (i := 56) rfl))) Via.refl e11 f8 (g := (mkF m 17 #[.val (.ref c0)] [(.ref c0), (.int ln), (.ref t), (.ref x), (.ref a1), (.ref a1)])) rfl rfl (hb hby dAN_17)
  refine own_on st12 ?_
  show own_Go p e below F (T12.setTop (mkF m 20 #[.val (.ref c0)] [(.ref d), (.int ln), (.ref t), (.ref x), (.ref a1), (.ref a1)]))
  refine own_iconst X12.here hx (hb hby dAN_20) (v := 1) rfl (pc' := 21) rfl ?_
  refine own_iconst X12.here hx (hb hby dAN_21) (v := 0) rfl (pc' := 22) rfl ?_
  refine own_iconst X12.here hx (hb hby dAN_22) (v := 0) rfl (pc' := 23) rfl ?_
  obtain ⟨_, _, ⟨T13, L13, k13, n13⟩, -, X13, ⟨Lc13, hQ13, l13, y13, z13⟩, st13⟩ := X12.specialBack hx (y := (⟨"com/example/cladistic/cladistic/model/ColumnDef", "<init>", "(Ljava/lang/String;Lcom/example/cladistic/cladistic/model/ValueType;ILjava/util/Optional;ZZZ)V"⟩ : MethodName)) rfl hown (mvT hZ (hw _ (List.mem_of_getElem? (i := 70) rfl))) (mvT hZ (hw _ (List.mem_of_getElem? (i := 42) rfl))) (mvT hZ (hw _ (List.mem_of_getElem? (i := 43) rfl))) (by decide) (backOf (W := 1) (rmCI l Z a0 hw a1 x t d ln 1 0 0 h1 gz_a1 (Or.inr rfl) (Or.inl rfl) (Or.inl rfl) A1 F1_0 F1_1 F1_2 F1_3 F1_4 F1_5 F1_6) hZ (hw _ (List.mem_of_getElem? (i := 43) rfl)) (hw _ (List.mem_of_getElem? (i := 40) rfl)) (by decide) (by decide)) (g := (mkF m 23 #[.val (.ref c0)] [(.int ((0 : Int32))), (.int ((0 : Int32))), (.int ((1 : Int32))), (.ref d), (.int ln), (.ref t), (.ref x), (.ref a1), (.ref a1)])) rfl (by rw [hml]; rfl) (Steps.refl _) (a := a1) (argsL := [(.ref x), (.ref t), (.int ln), (.ref d), (.int ((1 : Int32))), (.int ((0 : Int32))), (.int ((0 : Int32)))]) (rest := [(.ref a1)]) (lenOf pdCI rfl) rfl (by show 2 * 0 + _ ≤ _; exact Nat.le_of_eq rfl) (hb hby dAN_23) (fun _ _ => ⟨rfl, e12, (Nat.le_of_ble_eq_true rfl), (Nat.le_of_ble_eq_true rfl)⟩)
  dsimp only [Pt.U, Pt.locs, Pt.cells, Pt.slots] at X13 l13 y13 z13 st13 hQ13
  subst l13 y13 z13
  obtain ⟨rfl, N13, K13, G13_0, G13_1, G13_2, G13_3, G13_4, G13_5, G13_6⟩ := hQ13
  refine own_to st13 ?_
  show own_Go p e below F (T13.setTop (mkF m 26 #[.val (.ref c0)] [(.ref a1)]))
  have f14 := own_ext_keep f4 K13 (fun y hy => by simp only [List.mem_cons, List.not_mem_nil, or_false] at hy; rcases hy with rfl <;> assumption)
  have f15 := f5.keep K13 (by simp only [List.mem_cons, List.not_mem_nil, or_false, not_or]; exact ne2)
  have f16 := f6.keep K13 (by simp only [List.mem_cons, List.not_mem_nil, or_false, not_or]; exact ne2)
  have f17 := f7.keep K13 (by simp only [List.mem_cons, List.not_mem_nil, or_false, not_or]; exact ne2)
  have f18 := f8.keep K13 (by simp only [List.mem_cons, List.not_mem_nil, or_false, not_or]; exact ne2)
  have f19 := A1.keep K13
  have N27 := Fr.app N0 N13
  exact own_retA X13 hx hlk hret rfl rfl (hb hby dAN_26) (fun t ht hE => hF t _ _ _ _ (by rw [ht, (rfl : _ = T13.heap)]; exact ⟨_, rfl, f14, N27, f19, G13_0, G13_1, G13_2, G13_3, G13_4, G13_5, G13_6⟩) hE (by decide) (by decide))
theorem dG0_0 : decode prog_166_method_8_code 0 = .ok (.aload_n 0, 1) := by decide +kernel
theorem dG0_1 : decode prog_166_method_8_code 1 = .ok (.getfield 7, 3) := by decide +kernel
theorem dG0_4 : decode prog_166_method_8_code 4 = .ok (.areturn, 1) := by decide +kernel
theorem pdG0 : parseMethodDescriptor "()Ljava/lang/String;" = some ⟨[], some (.object "java/lang/String")⟩ := by decide +kernel
def Q_rmG0 (Z : State) (a : Addr) (b : Addr) (h0 : Heap) (v : Option Value) (h : Heap) (L : List Loc) : Prop := v = some (.ref b) ∧ Fr Z.heap.size L ∧ h = h0
set_option maxRecDepth 65536 in
set_option maxHeartbeats 40000000 in
theorem rmG0 (l : Launch) (Z : State) (a0 : Array Value) (hw : ∀ d ∈ tables_1, d.before a0 Z = true) (a : Addr) (b : Addr) (h0 : Heap) (F0 : Fld Z h0 a "com/example/cladistic/cladistic/model/ColumnDef" "name" "Ljava/lang/String;" (.ref b)) :
    MetFree l (⟨"com/example/cladistic/cladistic/model/ColumnDef", "name", "()Ljava/lang/String;"⟩ : MethodName) (head1 (Jvm.Cond.code (⟨"com/example/cladistic/cladistic/model/ColumnDef", "name", "()Ljava/lang/String;"⟩ : MethodName) prog_166_method_8_code 1 (Option.some (FieldType.object "java/lang/String")) :: []) ({ frames := 0, cells := 0, slots := 0, locals := 0 } : Room)) (fun aa U => aa = #[(.ref a)] ∧ Z.Warmed39 U.vm ∧ U.heap = h0) (fun _ _ _ _ _ => True) (fun _ U o U' => ∃ v L, o = .returned v ∧ (Q_rmG0 Z a b h0) v U'.heap L ∧ FrameEnd U o U' L ({ frames := 0, cells := 0, slots := 0, locals := 0 } : Room).cells ({ frames := 0, cells := 0, slots := 0, locals := 0 } : Room).slots) := by
  refine own_walkN (by exact pnC) ?_
  intro p e s m below meth c T0 X0 hx hby hml hret hlk hnm hown hZ e0 es0 F hF
  refine own_on (fun _ => castTop (efR m a)) ?_
  refine own_aload_n X0.here hx (hb hby dG0_0) rfl rfl (pc' := 1) rfl ?_
  obtain ⟨T1, X1, e1, st1⟩ := getF X0 hx hZ hown (host := "") (Or.inl (hw _ (List.mem_of_getElem? (i := 50) rfl))) Via.refl e0 F0 (g := (mkF m 1 #[.val (.ref a)] [(.ref a)])) rfl rfl (hb hby dG0_1)
  refine own_on st1 ?_
  show own_Go p e below F (T1.setTop (mkF m 4 #[.val (.ref a)] [(.ref b)]))
  exact own_retA X1 hx hlk hret rfl rfl (hb hby dG0_4) (fun t ht hE => hF t _ _ _ _ (by rw [ht, (e1 : _ = h0)]; exact ⟨rfl, Fr.nil _, rfl⟩) hE (by decide) (by decide))
theorem dG1_0 : decode prog_166_method_9_code 0 = .ok (.aload_n 0, 1) := by decide +kernel
theorem dG1_1 : decode prog_166_method_9_code 1 = .ok (.getfield 13, 3) := by decide +kernel
theorem dG1_4 : decode prog_166_method_9_code 4 = .ok (.areturn, 1) := by decide +kernel
theorem pdG1 : parseMethodDescriptor "()Lcom/example/cladistic/cladistic/model/ValueType;" = some ⟨[], some (.object "com/example/cladistic/cladistic/model/ValueType")⟩ := by decide +kernel
def Q_rmG1 (Z : State) (a : Addr) (b : Addr) (h0 : Heap) (v : Option Value) (h : Heap) (L : List Loc) : Prop := v = some (.ref b) ∧ Fr Z.heap.size L ∧ h = h0
set_option maxRecDepth 65536 in
set_option maxHeartbeats 40000000 in
theorem rmG1 (l : Launch) (Z : State) (a0 : Array Value) (hw : ∀ d ∈ tables_1, d.before a0 Z = true) (a : Addr) (b : Addr) (h0 : Heap) (F0 : Fld Z h0 a "com/example/cladistic/cladistic/model/ColumnDef" "type" "Lcom/example/cladistic/cladistic/model/ValueType;" (.ref b)) :
    MetFree l (⟨"com/example/cladistic/cladistic/model/ColumnDef", "type", "()Lcom/example/cladistic/cladistic/model/ValueType;"⟩ : MethodName) (head1 (Jvm.Cond.code (⟨"com/example/cladistic/cladistic/model/ColumnDef", "type", "()Lcom/example/cladistic/cladistic/model/ValueType;"⟩ : MethodName) prog_166_method_9_code 1 (Option.some (FieldType.object "com/example/cladistic/cladistic/model/ValueType")) :: []) ({ frames := 0, cells := 0, slots := 0, locals := 0 } : Room)) (fun aa U => aa = #[(.ref a)] ∧ Z.Warmed39 U.vm ∧ U.heap = h0) (fun _ _ _ _ _ => True) (fun _ U o U' => ∃ v L, o = .returned v ∧ (Q_rmG1 Z a b h0) v U'.heap L ∧ FrameEnd U o U' L ({ frames := 0, cells := 0, slots := 0, locals := 0 } : Room).cells ({ frames := 0, cells := 0, slots := 0, locals := 0 } : Room).slots) := by
  refine own_walkN (by exact pnC) ?_
  intro p e s m below meth c T0 X0 hx hby hml hret hlk hnm hown hZ e0 es0 F hF
  refine own_on (fun _ => castTop (efR m a)) ?_
  refine own_aload_n X0.here hx (hb hby dG1_0) rfl rfl (pc' := 1) rfl ?_
  obtain ⟨T1, X1, e1, st1⟩ := getF X0 hx hZ hown (host := "") (Or.inl (hw _ (List.mem_of_getElem? (i := 52) rfl))) Via.refl e0 F0 (g := (mkF m 1 #[.val (.ref a)] [(.ref a)])) rfl rfl (hb hby dG1_1)
  refine own_on st1 ?_
  show own_Go p e below F (T1.setTop (mkF m 4 #[.val (.ref a)] [(.ref b)]))
  exact own_retA X1 hx hlk hret rfl rfl (hb hby dG1_4) (fun t ht hE => hF t _ _ _ _ (by rw [ht, (e1 : _ = h0)]; exact ⟨rfl, Fr.nil _, rfl⟩) hE (by decide) (by decide))
theorem dG2_0 : decode prog_166_method_10_code 0 = .ok (.aload_n 0, 1) := by decide +kernel
theorem dG2_1 : decode prog_166_method_10_code 1 = .ok (.getfield 17, 3) := by decide +kernel
theorem dG2_4 : decode prog_166_method_10_code 4 = .ok (.ireturn, 1) := by decide +kernel
theorem pdG2 : parseMethodDescriptor "()I" = some ⟨[], some .int⟩ := by decide +kernel
def Q_rmG2 (Z : State) (a : Addr) (b : Int32) (h0 : Heap) (v : Option Value) (h : Heap) (L : List Loc) : Prop := v = some (.int b) ∧ Fr Z.heap.size L ∧ h = h0
set_option maxRecDepth 65536 in
set_option maxHeartbeats 40000000 in
theorem rmG2 (l : Launch) (Z : State) (a0 : Array Value) (hw : ∀ d ∈ tables_1, d.before a0 Z = true) (a : Addr) (b : Int32) (h0 : Heap) (F0 : Fld Z h0 a "com/example/cladistic/cladistic/model/ColumnDef" "length" "I" (.int b)) :
    MetFree l (⟨"com/example/cladistic/cladistic/model/ColumnDef", "length", "()I"⟩ : MethodName) (head1 (Jvm.Cond.code (⟨"com/example/cladistic/cladistic/model/ColumnDef", "length", "()I"⟩ : MethodName) prog_166_method_10_code 1 (Option.some FieldType.int) :: []) ({ frames := 0, cells := 0, slots := 0, locals := 0 } : Room)) (fun aa U => aa = #[(.ref a)] ∧ Z.Warmed39 U.vm ∧ U.heap = h0) (fun _ _ _ _ _ => True) (fun _ U o U' => ∃ v L, o = .returned v ∧ (Q_rmG2 Z a b h0) v U'.heap L ∧ FrameEnd U o U' L ({ frames := 0, cells := 0, slots := 0, locals := 0 } : Room).cells ({ frames := 0, cells := 0, slots := 0, locals := 0 } : Room).slots) := by
  refine own_walkN (by exact pnC) ?_
  intro p e s m below meth c T0 X0 hx hby hml hret hlk hnm hown hZ e0 es0 F hF
  refine own_on (fun _ => castTop (efR m a)) ?_
  refine own_aload_n X0.here hx (hb hby dG2_0) rfl rfl (pc' := 1) rfl ?_
  obtain ⟨T1, X1, e1, st1⟩ := getF X0 hx hZ hown (host := "") (Or.inl (hw _ (List.mem_of_getElem? (i := 54) rfl))) Via.refl e0 F0 (g := (mkF m 1 #[.val (.ref a)] [(.ref a)])) rfl rfl (hb hby dG2_1)
  refine own_on st1 ?_
  show own_Go p e below F (T1.setTop (mkF m 4 #[.val (.ref a)] [(.int b)]))
  exact own_retI X1 hx hlk hret (hb hby dG2_4) (fun t ht hE => hF t _ _ _ _ (by rw [ht, (e1 : _ = h0)]; exact ⟨rfl, Fr.nil _, rfl⟩) hE (by decide) (by decide))
theorem dG3_0 : decode prog_166_method_11_code 0 = .ok (.aload_n 0, 1) := by decide +kernel
theorem dG3_1 : decode prog_166_method_11_code 1 = .ok (.getfield 21, 3) := by decide +kernel
theorem dG3_4 : decode prog_166_method_11_code 4 = .ok (.areturn, 1) := by decide +kernel
theorem pdG3 : parseMethodDescriptor "()Ljava/util/Optional;" = some ⟨[], some (.object "java/util/Optional")⟩ := by decide +kernel
def Q_rmG3 (Z : State) (a : Addr) (b : Addr) (h0 : Heap) (v : Option Value) (h : Heap) (L : List Loc) : Prop := v = some (.ref b) ∧ Fr Z.heap.size L ∧ h = h0
set_option maxRecDepth 65536 in
set_option maxHeartbeats 40000000 in
theorem rmG3 (l : Launch) (Z : State) (a0 : Array Value) (hw : ∀ d ∈ tables_1, d.before a0 Z = true) (a : Addr) (b : Addr) (h0 : Heap) (F0 : Fld Z h0 a "com/example/cladistic/cladistic/model/ColumnDef" "decimal" "Ljava/util/Optional;" (.ref b)) :
    MetFree l (⟨"com/example/cladistic/cladistic/model/ColumnDef", "decimal", "()Ljava/util/Optional;"⟩ : MethodName) (head1 (Jvm.Cond.code (⟨"com/example/cladistic/cladistic/model/ColumnDef", "decimal", "()Ljava/util/Optional;"⟩ : MethodName) prog_166_method_11_code 1 (Option.some (FieldType.object "java/util/Optional")) :: []) ({ frames := 0, cells := 0, slots := 0, locals := 0 } : Room)) (fun aa U => aa = #[(.ref a)] ∧ Z.Warmed39 U.vm ∧ U.heap = h0) (fun _ _ _ _ _ => True) (fun _ U o U' => ∃ v L, o = .returned v ∧ (Q_rmG3 Z a b h0) v U'.heap L ∧ FrameEnd U o U' L ({ frames := 0, cells := 0, slots := 0, locals := 0 } : Room).cells ({ frames := 0, cells := 0, slots := 0, locals := 0 } : Room).slots) := by
  refine own_walkN (by exact pnC) ?_
  intro p e s m below meth c T0 X0 hx hby hml hret hlk hnm hown hZ e0 es0 F hF
  refine own_on (fun _ => castTop (efR m a)) ?_
  refine own_aload_n X0.here hx (hb hby dG3_0) rfl rfl (pc' := 1) rfl ?_
  obtain ⟨T1, X1, e1, st1⟩ := getF X0 hx hZ hown (host := "") (Or.inl (hw _ (List.mem_of_getElem? (i := 56) rfl))) Via.refl e0 F0 (g := (mkF m 1 #[.val (.ref a)] [(.ref a)])) rfl rfl (hb hby dG3_1)
  refine own_on st1 ?_
  show own_Go p e below F (T1.setTop (mkF m 4 #[.val (.ref a)] [(.ref b)]))
  exact own_retA X1 hx hlk hret rfl rfl (hb hby dG3_4) (fun t ht hE => hF t _ _ _ _ (by rw [ht, (e1 : _ = h0)]; exact ⟨rfl, Fr.nil _, rfl⟩) hE (by decide) (by decide))
theorem dG4_0 : decode prog_166_method_12_code 0 = .ok (.aload_n 0, 1) := by decide +kernel
theorem dG4_1 : decode prog_166_method_12_code 1 = .ok (.getfield 25, 3) := by decide +kernel
theorem dG4_4 : decode prog_166_method_12_code 4 = .ok (.ireturn, 1) := by decide +kernel
theorem pdG4 : parseMethodDescriptor "()Z" = some ⟨[], some .boolean⟩ := by decide +kernel
def Q_rmG4 (Z : State) (a : Addr) (b : Int32) (h0 : Heap) (v : Option Value) (h : Heap) (L : List Loc) : Prop := v = some (.int b) ∧ Fr Z.heap.size L ∧ h = h0
set_option maxRecDepth 65536 in
set_option maxHeartbeats 40000000 in
theorem rmG4 (l : Launch) (Z : State) (a0 : Array Value) (hw : ∀ d ∈ tables_1, d.before a0 Z = true) (a : Addr) (b : Int32) (h0 : Heap) (hv : b = 0 ∨ b = 1) (F0 : Fld Z h0 a "com/example/cladistic/cladistic/model/ColumnDef" "nullable" "Z" (.int b)) :
    MetFree l (⟨"com/example/cladistic/cladistic/model/ColumnDef", "nullable", "()Z"⟩ : MethodName) (head1 (Jvm.Cond.code (⟨"com/example/cladistic/cladistic/model/ColumnDef", "nullable", "()Z"⟩ : MethodName) prog_166_method_12_code 1 (Option.some FieldType.boolean) :: []) ({ frames := 0, cells := 0, slots := 0, locals := 0 } : Room)) (fun aa U => aa = #[(.ref a)] ∧ Z.Warmed39 U.vm ∧ U.heap = h0) (fun _ _ _ _ _ => True) (fun _ U o U' => ∃ v L, o = .returned v ∧ (Q_rmG4 Z a b h0) v U'.heap L ∧ FrameEnd U o U' L ({ frames := 0, cells := 0, slots := 0, locals := 0 } : Room).cells ({ frames := 0, cells := 0, slots := 0, locals := 0 } : Room).slots) := by
  refine own_walkN (by exact pnC) ?_
  intro p e s m below meth c T0 X0 hx hby hml hret hlk hnm hown hZ e0 es0 F hF
  refine own_on (fun _ => castTop (efR m a)) ?_
  refine own_aload_n X0.here hx (hb hby dG4_0) rfl rfl (pc' := 1) rfl ?_
  obtain ⟨T1, X1, e1, st1⟩ := getF X0 hx hZ hown (host := "") (Or.inl (hw _ (List.mem_of_getElem? (i := 58) rfl))) Via.refl e0 F0 (g := (mkF m 1 #[.val (.ref a)] [(.ref a)])) rfl rfl (hb hby dG4_1)
  refine own_on st1 ?_
  show own_Go p e below F (T1.setTop (mkF m 4 #[.val (.ref a)] [(.int b)]))
  exact own_retZ X1 hx hlk hv hret (hb hby dG4_4) (fun t ht hE => hF t _ _ _ _ (by rw [ht, (e1 : _ = h0)]; exact ⟨rfl, Fr.nil _, rfl⟩) hE (by decide) (by decide))
theorem dG5_0 : decode prog_166_method_13_code 0 = .ok (.aload_n 0, 1) := by decide +kernel
theorem dG5_1 : decode prog_166_method_13_code 1 = .ok (.getfield 29, 3) := by decide +kernel
theorem dG5_4 : decode prog_166_method_13_code 4 = .ok (.ireturn, 1) := by decide +kernel
theorem pdG5 : parseMethodDescriptor "()Z" = some ⟨[], some .boolean⟩ := by decide +kernel
def Q_rmG5 (Z : State) (a : Addr) (b : Int32) (h0 : Heap) (v : Option Value) (h : Heap) (L : List Loc) : Prop := v = some (.int b) ∧ Fr Z.heap.size L ∧ h = h0
set_option maxRecDepth 65536 in
set_option maxHeartbeats 40000000 in
theorem rmG5 (l : Launch) (Z : State) (a0 : Array Value) (hw : ∀ d ∈ tables_1, d.before a0 Z = true) (a : Addr) (b : Int32) (h0 : Heap) (hv : b = 0 ∨ b = 1) (F0 : Fld Z h0 a "com/example/cladistic/cladistic/model/ColumnDef" "primaryKey" "Z" (.int b)) :
    MetFree l (⟨"com/example/cladistic/cladistic/model/ColumnDef", "primaryKey", "()Z"⟩ : MethodName) (head1 (Jvm.Cond.code (⟨"com/example/cladistic/cladistic/model/ColumnDef", "primaryKey", "()Z"⟩ : MethodName) prog_166_method_13_code 1 (Option.some FieldType.boolean) :: []) ({ frames := 0, cells := 0, slots := 0, locals := 0 } : Room)) (fun aa U => aa = #[(.ref a)] ∧ Z.Warmed39 U.vm ∧ U.heap = h0) (fun _ _ _ _ _ => True) (fun _ U o U' => ∃ v L, o = .returned v ∧ (Q_rmG5 Z a b h0) v U'.heap L ∧ FrameEnd U o U' L ({ frames := 0, cells := 0, slots := 0, locals := 0 } : Room).cells ({ frames := 0, cells := 0, slots := 0, locals := 0 } : Room).slots) := by
  refine own_walkN (by exact pnC) ?_
  intro p e s m below meth c T0 X0 hx hby hml hret hlk hnm hown hZ e0 es0 F hF
  refine own_on (fun _ => castTop (efR m a)) ?_
  refine own_aload_n X0.here hx (hb hby dG5_0) rfl rfl (pc' := 1) rfl ?_
  obtain ⟨T1, X1, e1, st1⟩ := getF X0 hx hZ hown (host := "") (Or.inl (hw _ (List.mem_of_getElem? (i := 60) rfl))) Via.refl e0 F0 (g := (mkF m 1 #[.val (.ref a)] [(.ref a)])) rfl rfl (hb hby dG5_1)
  refine own_on st1 ?_
  show own_Go p e below F (T1.setTop (mkF m 4 #[.val (.ref a)] [(.int b)]))
  exact own_retZ X1 hx hlk hv hret (hb hby dG5_4) (fun t ht hE => hF t _ _ _ _ (by rw [ht, (e1 : _ = h0)]; exact ⟨rfl, Fr.nil _, rfl⟩) hE (by decide) (by decide))
theorem dG6_0 : decode prog_166_method_14_code 0 = .ok (.aload_n 0, 1) := by decide +kernel
theorem dG6_1 : decode prog_166_method_14_code 1 = .ok (.getfield 32, 3) := by decide +kernel
theorem dG6_4 : decode prog_166_method_14_code 4 = .ok (.ireturn, 1) := by decide +kernel
theorem pdG6 : parseMethodDescriptor "()Z" = some ⟨[], some .boolean⟩ := by decide +kernel
def Q_rmG6 (Z : State) (a : Addr) (b : Int32) (h0 : Heap) (v : Option Value) (h : Heap) (L : List Loc) : Prop := v = some (.int b) ∧ Fr Z.heap.size L ∧ h = h0
set_option maxRecDepth 65536 in
set_option maxHeartbeats 40000000 in
theorem rmG6 (l : Launch) (Z : State) (a0 : Array Value) (hw : ∀ d ∈ tables_1, d.before a0 Z = true) (a : Addr) (b : Int32) (h0 : Heap) (hv : b = 0 ∨ b = 1) (F0 : Fld Z h0 a "com/example/cladistic/cladistic/model/ColumnDef" "generated" "Z" (.int b)) :
    MetFree l (⟨"com/example/cladistic/cladistic/model/ColumnDef", "generated", "()Z"⟩ : MethodName) (head1 (Jvm.Cond.code (⟨"com/example/cladistic/cladistic/model/ColumnDef", "generated", "()Z"⟩ : MethodName) prog_166_method_14_code 1 (Option.some FieldType.boolean) :: []) ({ frames := 0, cells := 0, slots := 0, locals := 0 } : Room)) (fun aa U => aa = #[(.ref a)] ∧ Z.Warmed39 U.vm ∧ U.heap = h0) (fun _ _ _ _ _ => True) (fun _ U o U' => ∃ v L, o = .returned v ∧ (Q_rmG6 Z a b h0) v U'.heap L ∧ FrameEnd U o U' L ({ frames := 0, cells := 0, slots := 0, locals := 0 } : Room).cells ({ frames := 0, cells := 0, slots := 0, locals := 0 } : Room).slots) := by
  refine own_walkN (by exact pnC) ?_
  intro p e s m below meth c T0 X0 hx hby hml hret hlk hnm hown hZ e0 es0 F hF
  refine own_on (fun _ => castTop (efR m a)) ?_
  refine own_aload_n X0.here hx (hb hby dG6_0) rfl rfl (pc' := 1) rfl ?_
  obtain ⟨T1, X1, e1, st1⟩ := getF X0 hx hZ hown (host := "") (Or.inl (hw _ (List.mem_of_getElem? (i := 62) rfl))) Via.refl e0 F0 (g := (mkF m 1 #[.val (.ref a)] [(.ref a)])) rfl rfl (hb hby dG6_1)
  refine own_on st1 ?_
  show own_Go p e below F (T1.setTop (mkF m 4 #[.val (.ref a)] [(.int b)]))
  exact own_retZ X1 hx hlk hv hret (hb hby dG6_4) (fun t ht hE => hF t _ _ _ _ (by rw [ht, (e1 : _ = h0)]; exact ⟨rfl, Fr.nil _, rfl⟩) hE (by decide) (by decide))
theorem dEq_0 : decode jdk_42_method_66_code 0 = .ok (.aload_n 0, 1) := by decide +kernel
theorem dEq_1 : decode jdk_42_method_66_code 1 = .ok (.aload_n 1, 1) := by decide +kernel
theorem dEq_2 : decode jdk_42_method_66_code 2 = .ok (.if_acmp .ne 5, 3) := by decide +kernel
theorem dEq_5 : decode jdk_42_method_66_code 5 = .ok (.iconst 1, 1) := by decide +kernel
theorem dEq_6 : decode jdk_42_method_66_code 6 = .ok (.ireturn, 1) := by decide +kernel
theorem dEq_7 : decode jdk_42_method_66_code 7 = .ok (.aload_n 1, 1) := by decide +kernel
theorem dEq_8 : decode jdk_42_method_66_code 8 = .ok (.instanceof 10, 3) := by decide +kernel
theorem dEq_11 : decode jdk_42_method_66_code 11 = .ok (.ifCond .eq 43, 3) := by decide +kernel
theorem dEq_14 : decode jdk_42_method_66_code 14 = .ok (.aload_n 1, 1) := by decide +kernel
theorem dEq_15 : decode jdk_42_method_66_code 15 = .ok (.checkcast 10, 3) := by decide +kernel
theorem dEq_18 : decode jdk_42_method_66_code 18 = .ok (.astore_n 2, 1) := by decide +kernel
theorem dEq_19 : decode jdk_42_method_66_code 19 = .ok (.getstatic 38, 3) := by decide +kernel
theorem dEq_22 : decode jdk_42_method_66_code 22 = .ok (.ifCond .eq 14, 3) := by decide +kernel
theorem dEq_25 : decode jdk_42_method_66_code 25 = .ok (.aload_n 0, 1) := by decide +kernel
theorem dEq_26 : decode jdk_42_method_66_code 26 = .ok (.getfield 15, 3) := by decide +kernel
theorem dEq_29 : decode jdk_42_method_66_code 29 = .ok (.aload_n 2, 1) := by decide +kernel
theorem dEq_30 : decode jdk_42_method_66_code 30 = .ok (.getfield 15, 3) := by decide +kernel
theorem dEq_33 : decode jdk_42_method_66_code 33 = .ok (.if_icmp .ne 21, 3) := by decide +kernel
theorem dEq_36 : decode jdk_42_method_66_code 36 = .ok (.aload_n 0, 1) := by decide +kernel
theorem dEq_37 : decode jdk_42_method_66_code 37 = .ok (.getfield 9, 3) := by decide +kernel
theorem dEq_40 : decode jdk_42_method_66_code 40 = .ok (.aload_n 2, 1) := by decide +kernel
theorem dEq_41 : decode jdk_42_method_66_code 41 = .ok (.getfield 9, 3) := by decide +kernel
theorem dEq_44 : decode jdk_42_method_66_code 44 = .ok (.invokestatic 541, 3) := by decide +kernel
theorem dEq_47 : decode jdk_42_method_66_code 47 = .ok (.ifCond .eq 7, 3) := by decide +kernel
theorem dEq_50 : decode jdk_42_method_66_code 50 = .ok (.iconst 1, 1) := by decide +kernel
theorem dEq_51 : decode jdk_42_method_66_code 51 = .ok (.goto 4, 3) := by decide +kernel
theorem dEq_54 : decode jdk_42_method_66_code 54 = .ok (.iconst 0, 1) := by decide +kernel
theorem dEq_55 : decode jdk_42_method_66_code 55 = .ok (.ireturn, 1) := by decide +kernel
theorem dEo_0 : decode jdk_32_method_19_code 0 = .ok (.aload_n 0, 1) := by decide +kernel
theorem dEo_1 : decode jdk_32_method_19_code 1 = .ok (.aload_n 1, 1) := by decide +kernel
theorem dEo_2 : decode jdk_32_method_19_code 2 = .ok (.if_acmp .ne 5, 3) := by decide +kernel
theorem dEo_5 : decode jdk_32_method_19_code 5 = .ok (.iconst 1, 1) := by decide +kernel
theorem dEo_6 : decode jdk_32_method_19_code 6 = .ok (.ireturn, 1) := by decide +kernel
theorem dEo_7 : decode jdk_32_method_19_code 7 = .ok (.aload_n 1, 1) := by decide +kernel
theorem dEo_8 : decode jdk_32_method_19_code 8 = .ok (.instanceof 2, 3) := by decide +kernel
theorem dEo_11 : decode jdk_32_method_19_code 11 = .ok (.ifCond .eq 26, 3) := by decide +kernel
theorem dEo_14 : decode jdk_32_method_19_code 14 = .ok (.aload_n 1, 1) := by decide +kernel
theorem dEo_15 : decode jdk_32_method_19_code 15 = .ok (.checkcast 2, 3) := by decide +kernel
theorem dEo_18 : decode jdk_32_method_19_code 18 = .ok (.astore_n 2, 1) := by decide +kernel
theorem dEo_19 : decode jdk_32_method_19_code 19 = .ok (.aload_n 0, 1) := by decide +kernel
theorem dEo_20 : decode jdk_32_method_19_code 20 = .ok (.getfield 13, 3) := by decide +kernel
theorem dEo_23 : decode jdk_32_method_19_code 23 = .ok (.aload_n 2, 1) := by decide +kernel
theorem dEo_24 : decode jdk_32_method_19_code 24 = .ok (.getfield 13, 3) := by decide +kernel
theorem dEo_27 : decode jdk_32_method_19_code 27 = .ok (.invokestatic 86, 3) := by decide +kernel
theorem dEo_30 : decode jdk_32_method_19_code 30 = .ok (.ifCond .eq 7, 3) := by decide +kernel
theorem dEo_33 : decode jdk_32_method_19_code 33 = .ok (.iconst 1, 1) := by decide +kernel
theorem dEo_34 : decode jdk_32_method_19_code 34 = .ok (.goto 4, 3) := by decide +kernel
theorem dEo_37 : decode jdk_32_method_19_code 37 = .ok (.iconst 0, 1) := by decide +kernel
theorem dEo_38 : decode jdk_32_method_19_code 38 = .ok (.ireturn, 1) := by decide +kernel
theorem pdEq : parseMethodDescriptor "(Ljava/lang/Object;)Z" = some ⟨[.object "java/lang/Object"], some .boolean⟩ := by decide +kernel
theorem efEq (m : MethodId) (x0 : Addr) (x1 : Addr) : entryFrame m #[(.ref x0), (.ref x1)] 3 = mkF m 0 #[.val (.ref x0), .val (.ref x1), .unset] [] := by first | (simp [entryFrame, mkF, argsToLocals, Value.category]; done) | rfl
def Q_rmEq (Z : State) (a : Addr) (h0 : Heap) (v : Option Value) (h : Heap) (L : List Loc) : Prop := v = some (.int (1 : Int32)) ∧ Fr Z.heap.size L ∧ h = h0
set_option maxRecDepth 65536 in
set_option maxHeartbeats 40000000 in
theorem rmEq (l : Launch) (Z : State) (a0 : Array Value) (hw : ∀ d ∈ tables_1, d.before a0 Z = true) (a : Addr) (h0 : Heap) :
    MetFree l (⟨"java/lang/String", "equals", "(Ljava/lang/Object;)Z"⟩ : MethodName) (head1 (Jvm.Cond.code (⟨"java/lang/String", "equals", "(Ljava/lang/Object;)Z"⟩ : MethodName) jdk_42_method_66_code 3 (Option.some FieldType.boolean) :: []) ({ frames := 0, cells := 0, slots := 0, locals := 0 } : Room)) (fun aa U => aa = #[(.ref a), (.ref a)] ∧ Z.Warmed39 U.vm ∧ U.heap = h0) (fun _ _ _ _ _ => True) (fun _ U o U' => ∃ v L, o = .returned v ∧ (Q_rmEq Z a h0) v U'.heap L ∧ FrameEnd U o U' L ({ frames := 0, cells := 0, slots := 0, locals := 0 } : Room).cells ({ frames := 0, cells := 0, slots := 0, locals := 0 } : Room).slots) := by
  refine own_walkN (by exact pnS) ?_
  intro p e s m below meth c T0 X0 hx hby hml hret hlk hnm hown hZ e0 es0 F hF
  refine own_on (fun _ => castTop (efEq m a a)) ?_
  refine own_aload_n X0.here hx (hb hby dEq_0) rfl rfl (pc' := 1) rfl ?_
  refine own_aload_n X0.here hx (hb hby dEq_1) rfl rfl (pc' := 2) rfl ?_
  refine own_acmpne X0.here hx rfl rfl (hb hby dEq_2) (by decide) (pc' := 7) (by decide) (pc2 := 5) rfl (fun q => absurd rfl q) (fun q1 => ?_)
  refine own_iconst X0.here hx (hb hby dEq_5) (v := 1) rfl (pc' := 6) rfl ?_
  exact own_retZ X0 hx hlk (by decide) hret (hb hby dEq_6) (fun t ht hE => hF t _ _ _ _ (by rw [ht, (e0 : _ = h0)]; exact ⟨rfl, Fr.nil _, rfl⟩) hE (by decide) (by decide))
def Q_rmEo (Z : State) (a : Addr) (h0 : Heap) (v : Option Value) (h : Heap) (L : List Loc) : Prop := v = some (.int (1 : Int32)) ∧ Fr Z.heap.size L ∧ h = h0
set_option maxRecDepth 65536 in
set_option maxHeartbeats 40000000 in
theorem rmEo (l : Launch) (Z : State) (a0 : Array Value) (hw : ∀ d ∈ tables_1, d.before a0 Z = true) (a : Addr) (h0 : Heap) :
    MetFree l (⟨"java/util/Optional", "equals", "(Ljava/lang/Object;)Z"⟩ : MethodName) (head1 (Jvm.Cond.code (⟨"java/util/Optional", "equals", "(Ljava/lang/Object;)Z"⟩ : MethodName) jdk_32_method_19_code 3 (Option.some FieldType.boolean) :: []) ({ frames := 0, cells := 0, slots := 0, locals := 0 } : Room)) (fun aa U => aa = #[(.ref a), (.ref a)] ∧ Z.Warmed39 U.vm ∧ U.heap = h0) (fun _ _ _ _ _ => True) (fun _ U o U' => ∃ v L, o = .returned v ∧ (Q_rmEo Z a h0) v U'.heap L ∧ FrameEnd U o U' L ({ frames := 0, cells := 0, slots := 0, locals := 0 } : Room).cells ({ frames := 0, cells := 0, slots := 0, locals := 0 } : Room).slots) := by
  refine own_walkN (by exact pnP) ?_
  intro p e s m below meth c T0 X0 hx hby hml hret hlk hnm hown hZ e0 es0 F hF
  refine own_on (fun _ => castTop (efEq m a a)) ?_
  refine own_aload_n X0.here hx (hb hby dEo_0) rfl rfl (pc' := 1) rfl ?_
  refine own_aload_n X0.here hx (hb hby dEo_1) rfl rfl (pc' := 2) rfl ?_
  refine own_acmpne X0.here hx rfl rfl (hb hby dEo_2) (by decide) (pc' := 7) (by decide) (pc2 := 5) rfl (fun q => absurd rfl q) (fun q1 => ?_)
  refine own_iconst X0.here hx (hb hby dEo_5) (v := 1) rfl (pc' := 6) rfl ?_
  exact own_retZ X0 hx hlk (by decide) hret (hb hby dEo_6) (fun t ht hE => hF t _ _ _ _ (by rw [ht, (e0 : _ = h0)]; exact ⟨rfl, Fr.nil _, rfl⟩) hE (by decide) (by decide))
theorem efL (m : MethodId) (x0 : Int32) (x1 : Int32) (x2 : Int32) (x3 : Int32) (x4 : Int32) (x5 : Int32) : entryFrame m #[(.int x0), (.int x1), (.int x2), (.int x3), (.int x4), (.int x5)] 17 = mkF m 0 #[.val (.int x0), .val (.int x1), .val (.int x2), .val (.int x3), .val (.int x4), .val (.int x5), .unset, .unset, .unset, .unset, .unset, .unset, .unset, .unset, .unset, .unset, .unset] [] := by first | (simp [entryFrame, mkF, argsToLocals, Value.category]; done) | rfl
def Q_rmL (Z : State) (a k ln p1 s1 fl : Int32) (h0 : Heap) (z0 : Int32) (v0 : Addr) (v1 : Addr) (v2 : Addr) (v3 : Addr) (v4 : Addr) (v5 : Addr) (v6 : Addr) (v7 : Addr) (v8 : Addr) (v9 : Addr) (v10 : Addr) (eo : Addr) (v : Option Value) (h : Heap) (L : List Loc) : Prop := v = some (.int 1) ∧ Fr Z.heap.size L
set_option maxRecDepth 65536 in
set_option maxHeartbeats 40000000 in
theorem rmL (l : Launch) (Z : State) (a0 : Array Value) (hw : ∀ d ∈ tables_1, d.before a0 Z = true) (hEL : EW Z a0 EL) (a k ln p1 s1 fl : Int32) (h0 : Heap) (EZ : Ext Z.heap h0) (z0 : Int32) (O1 : Sta Z Z.heap "java/lang/String" "COMPACT_STRINGS" "Z" (.int z0)) (P5 : ¬ z0 = 0) (v0 : Addr) (V0 : Sta Z Z.heap "com/example/cladistic/cladistic/model/ValueType" "STRING" "Lcom/example/cladistic/cladistic/model/ValueType;" (.ref v0)) (v1 : Addr) (V1 : Sta Z Z.heap "com/example/cladistic/cladistic/model/ValueType" "BOOLEAN" "Lcom/example/cladistic/cladistic/model/ValueType;" (.ref v1)) (v2 : Addr) (V2 : Sta Z Z.heap "com/example/cladistic/cladistic/model/ValueType" "INT" "Lcom/example/cladistic/cladistic/model/ValueType;" (.ref v2)) (v3 : Addr) (V3 : Sta Z Z.heap "com/example/cladistic/cladistic/model/ValueType" "LONG" "Lcom/example/cladistic/cladistic/model/ValueType;" (.ref v3)) (v4 : Addr) (V4 : Sta Z Z.heap "com/example/cladistic/cladistic/model/ValueType" "DOUBLE" "Lcom/example/cladistic/cladistic/model/ValueType;" (.ref v4)) (v5 : Addr) (V5 : Sta Z Z.heap "com/example/cladistic/cladistic/model/ValueType" "DECIMAL" "Lcom/example/cladistic/cladistic/model/ValueType;" (.ref v5)) (v6 : Addr) (V6 : Sta Z Z.heap "com/example/cladistic/cladistic/model/ValueType" "DATE" "Lcom/example/cladistic/cladistic/model/ValueType;" (.ref v6)) (v7 : Addr) (V7 : Sta Z Z.heap "com/example/cladistic/cladistic/model/ValueType" "TIMESTAMP" "Lcom/example/cladistic/cladistic/model/ValueType;" (.ref v7)) (v8 : Addr) (V8 : Sta Z Z.heap "com/example/cladistic/cladistic/model/ValueType" "UUID" "Lcom/example/cladistic/cladistic/model/ValueType;" (.ref v8)) (v9 : Addr) (V9 : Sta Z Z.heap "com/example/cladistic/cladistic/model/ValueType" "ENUM" "Lcom/example/cladistic/cladistic/model/ValueType;" (.ref v9)) (v10 : Addr) (V10 : Sta Z Z.heap "com/example/cladistic/cladistic/model/ValueType" "CHAR" "Lcom/example/cladistic/cladistic/model/ValueType;" (.ref v10)) (eo : Addr) (OE : Sta Z Z.heap "java/util/Optional" "EMPTY" "Ljava/util/Optional;" (.ref eo)) (AE : Exa Z Z.heap eo "java/util/Optional") :
    MetFree l x (head1 (Jvm.Cond.code x code maxLocals ret :: tables_1) room_1) (fun aa U => aa = #[(.int a), (.int k), (.int ln), (.int p1), (.int s1), (.int fl)] ∧ Z.Warmed39 U.vm ∧ U.heap = h0 ∧ CHv Z EL U.vm h0 ∧ ∀ yy ∈ ([] : List Addr), Safe Z EL U.vm h0 yy) (fun _ _ _ _ _ => True) (fun _ U o U' => ∃ v L, o = .returned v ∧ (Q_rmL Z a k ln p1 s1 fl h0 z0 v0 v1 v2 v3 v4 v5 v6 v7 v8 v9 v10 eo) v U'.heap L ∧ CHr Z EL U.vm U.heap U'.vm U'.heap ∧ ReturnedEndW U o U' L room_1.cells room_1.slots) := by
  refine own_walkW (by exact pnL) ?_
  intro p e s m below meth c T0 X0 hx hby hml hret hlk hnm hs0 e0 I0 hsf F hF
  refine own_on (fun _ => castTop (efL m a k ln p1 s1 fl)) ?_
  have M0 := own_ext_refl h0
  have N0 := Fr.nil Z.heap.size
  refine own_iload_n X0.here hx (hb hby at_0) rfl (pc' := 1) rfl ?_
  obtain ⟨_, _, ⟨T1, L1, k1, n1⟩, -, X1, hS1, hG1, ⟨Lc1, hQ1, l1, y1, z1, C1⟩, st1⟩ := callSS X0 hx (y := (⟨"com/example/cladistic/cladistic/model/ColumnDefAsNullablePinLaw", "name", "(I)Ljava/lang/String;"⟩ : MethodName)) I0.2.1 (mvT I0.1 (hw _ (List.mem_of_getElem? (i := 0) rfl))) (mvT I0.1 (hw _ (List.mem_of_getElem? (i := 1) rfl))) (mvT I0.1 (hw _ (List.mem_of_getElem? (i := 2) rfl))) (mvT I0.1 (hw _ (List.mem_of_getElem? (i := 3) rfl))) (by decide) (own_backW (W := 0) (rmN l Z a0 hw hEL a h0 EZ z0 O1 P5) I0.1 (hw _ (List.mem_of_getElem? (i := 3) rfl)) (hw _ (List.mem_of_getElem? (i := 2) rfl)) (by decide) (by decide) hEL I0.ch (fun _ q => nomatch q)) (g := (mkF m 1 #[.val (.int a), .val (.int k), .val (.int ln), .val (.int p1), .val (.int s1), .val (.int fl), .unset, .unset, .unset, .unset, .unset, .unset, .unset, .unset, .unset, .unset, .unset] [(.int a)])) rfl (by rw [hml]; rfl) (argsL := [(.int a)]) (rest := []) (lenOf pdN rfl) rfl (by show 2 * 0 + _ ≤ _; exact Nat.le_of_eq rfl) (hb hby at_1) (fun _ _ => ⟨rfl, e0, (Nat.le_of_ble_eq_true rfl), (Nat.le_of_ble_eq_true rfl)⟩)
  dsimp only [Pt.U, Pt.locs, Pt.cells, Pt.slots] at X1 hS1 hG1 l1 y1 z1 C1 st1 hQ1
  subst l1 y1 z1
  replace X1 := (show Stand _ _ _ _ (s.setVm T1.vm) _ _ _ _ _ _ _ _ _ from X1)
  have I1 := I0.later hS1 (Nat.le_refl _) (by have q := hG1; rw [(e0 : _ = h0)] at q; exact q) C1
  obtain ⟨x1, rfl, A1, E1, N1⟩ := hQ1
  refine own_to st1 ?_
  show own_Go p e below F (T1.setTop (mkF m 4 #[.val (.int a), .val (.int k), .val (.int ln), .val (.int p1), .val (.int s1), .val (.int fl), .unset, .unset, .unset, .unset, .unset, .unset, .unset, .unset, .unset, .unset, .unset] [(.ref x1)]))
  have f2 := own_ext_trans M0 E1
  have N3 := Fr.app N0 N1
  refine own_astore X1.here hx (hb hby at_4) rfl (L' := #[.val (.int a), .val (.int k), .val (.int ln), .val (.int p1), .val (.int s1), .val (.int fl), .val (.ref x1), .unset, .unset, .unset, .unset, .unset, .unset, .unset, .unset, .unset, .unset]) rfl (pc' := 6) rfl ?_
  refine own_iload_n X1.here hx (hb hby at_6) rfl (pc' := 7) rfl ?_
  obtain ⟨_, _, ⟨T4, L4, k4, n4⟩, -, X4, ⟨Lc4, hQ4, l4, y4, z4⟩, st4⟩ := Jvm.LawKit.callS X1 hx (y := (⟨"com/example/cladistic/cladistic/model/ColumnDefAsNullablePinLaw", "type", "(I)Lcom/example/cladistic/cladistic/model/ValueType;"⟩ : MethodName)) I1.2.1 (mvT I1.1 (hw _ (List.mem_of_getElem? (i := 26) rfl))) (mvT I1.1 (hw _ (List.mem_of_getElem? (i := 27) rfl))) (mvT I1.1 (hw _ (List.mem_of_getElem? (i := 2) rfl))) (mvT I1.1 (hw _ (List.mem_of_getElem? (i := 28) rfl))) (by decide) (backOf (W := 0) (rmT l Z a0 hw k T1.heap (own_ext_trans EZ f2) v0 V0 v1 V1 v2 V2 v3 V3 v4 V4 v5 V5 v6 V6 v7 V7 v8 V8 v9 V9 v10 V10) I1.1 (hw _ (List.mem_of_getElem? (i := 28) rfl)) (hw _ (List.mem_of_getElem? (i := 2) rfl)) (by decide) (by decide)) (g := (mkF m 7 #[.val (.int a), .val (.int k), .val (.int ln), .val (.int p1), .val (.int s1), .val (.int fl), .val (.ref x1), .unset, .unset, .unset, .unset, .unset, .unset, .unset, .unset, .unset, .unset] [(.int k)])) rfl (by rw [hml]; rfl) (argsL := [(.int k)]) (rest := []) (lenOf pdT rfl) rfl (by show 2 * 0 + _ ≤ _; exact Nat.le_of_eq rfl) (hb hby at_7) (fun _ _ => ⟨rfl, rfl, (Nat.le_of_ble_eq_true rfl), (Nat.le_of_ble_eq_true rfl)⟩)
  dsimp only [Pt.U, Pt.locs, Pt.cells, Pt.slots] at X4 l4 y4 z4 st4 hQ4
  subst l4 y4 z4
  obtain ⟨t4, rfl, N4, E4⟩ := hQ4
  refine own_on (st4) ?_
  show own_Go p e below F (T4.setTop (mkF m 10 #[.val (.int a), .val (.int k), .val (.int ln), .val (.int p1), .val (.int s1), .val (.int fl), .val (.ref x1), .unset, .unset, .unset, .unset, .unset, .unset, .unset, .unset, .unset, .unset] [(.ref t4)]))
  have N5 := Fr.app N3 N4
  refine own_astore X4.here hx (hb hby at_10) rfl (L' := #[.val (.int a), .val (.int k), .val (.int ln), .val (.int p1), .val (.int s1), .val (.int fl), .val (.ref x1), .val (.ref t4), .unset, .unset, .unset, .unset, .unset, .unset, .unset, .unset, .unset]) rfl (pc' := 12) rfl ?_
  refine own_iload X4.here hx (hb hby at_12) rfl (pc' := 14) rfl ?_
  refine own_bipush X4.here hx (hb hby at_14) (v := 8) rfl (pc' := 16) rfl ?_
  refine own_iand X4.here hx (hb hby at_16) (pc' := 17) rfl ?_
  refine own_ifeq X4.here hx (hb hby at_17) (by decide) (pc' := 36) (by decide) (pc2 := 20) rfl (fun q8 => ?_) (fun q8 => ?_)
  · obtain ⟨_, _, ⟨T26, L26, k26, n26⟩, -, X26, ⟨Lc26, hQ26, l26, y26, z26⟩, st26⟩ := Jvm.LawKit.callS X4 hx (y := (⟨"java/util/Optional", "empty", "()Ljava/util/Optional;"⟩ : MethodName)) I1.2.1 (mvT I1.1 (hw _ (List.mem_of_getElem? (i := 33) rfl))) (mvT I1.1 (hw _ (List.mem_of_getElem? (i := 34) rfl))) (mvT I1.1 (hw _ (List.mem_of_getElem? (i := 35) rfl))) (mvT I1.1 (hw _ (List.mem_of_getElem? (i := 36) rfl))) (by decide) (backOf (W := 0) (rmOE l Z a0 hw T1.heap (own_ext_trans EZ f2) eo OE AE) I1.1 (hw _ (List.mem_of_getElem? (i := 36) rfl)) (hw _ (List.mem_of_getElem? (i := 35) rfl)) (by decide) (by decide)) (g := (mkF m 36 #[.val (.int a), .val (.int k), .val (.int ln), .val (.int p1), .val (.int s1), .val (.int fl), .val (.ref x1), .val (.ref t4), .unset, .unset, .unset, .unset, .unset, .unset, .unset, .unset, .unset] [])) rfl (by rw [hml]; rfl) (argsL := []) (rest := []) (lenOf pdG3 rfl) rfl (by show 2 * 0 + _ ≤ _; exact Nat.le_of_eq rfl) (hb hby at_36) (fun _ _ => ⟨rfl, E4, (Nat.le_of_ble_eq_true rfl), (Nat.le_of_ble_eq_true rfl)⟩)
    dsimp only [Pt.U, Pt.locs, Pt.cells, Pt.slots] at X26 l26 y26 z26 st26 hQ26
    subst l26 y26 z26
    obtain ⟨rfl, N26, E26⟩ := hQ26
    refine own_on (st26) ?_
    show own_Go p e below F (T26.setTop (mkF m 39 #[.val (.int a), .val (.int k), .val (.int ln), .val (.int p1), .val (.int s1), .val (.int fl), .val (.ref x1), .val (.ref t4), .unset, .unset, .unset, .unset, .unset, .unset, .unset, .unset, .unset] [(.ref eo)]))
    have N27 := Fr.app N5 N26
    have AE1 := AE.ext (own_ext_trans EZ f2)
    refine own_astore X26.here hx (hb hby at_39) rfl (L' := #[.val (.int a), .val (.int k), .val (.int ln), .val (.int p1), .val (.int s1), .val (.int fl), .val (.ref x1), .val (.ref t4), .val (.ref eo), .unset, .unset, .unset, .unset, .unset, .unset, .unset, .unset]) rfl (pc' := 41) rfl ?_
    have J81 : ∀ (b1 b2 b3 : Int32), (b1 = 0 ∨ b1 = 1) → (b2 = 0 ∨ b2 = 1) → (b3 = 0 ∨ b3 = 1) → own_Go p e below F (T26.setTop (mkF m 81 #[.val (.int a), .val (.int k), .val (.int ln), .val (.int p1), .val (.int s1), .val (.int fl), .val (.ref x1), .val (.ref t4), .val (.ref eo), .val (.int b1), .val (.int b2), .unset, .unset, .unset, .unset, .unset, .unset] [(.int b3)])) := by
      intro b1 b2 b3 z1 z2 z3
      refine own_istore X26.here hx (hb hby at_81) (L' := #[.val (.int a), .val (.int k), .val (.int ln), .val (.int p1), .val (.int s1), .val (.int fl), .val (.ref x1), .val (.ref t4), .val (.ref eo), .val (.int b1), .val (.int b2), .val (.int b3), .unset, .unset, .unset, .unset, .unset]) rfl (pc' := 83) rfl ?_
      obtain ⟨T108, h108, X108, e108, E108, A108, D108, -, st108⟩ := newO X26 hx I1.1 I1.2.1 (hw _ (List.mem_of_getElem? (i := 38) rfl)) (hw _ (List.mem_of_getElem? (i := 39) rfl)) (hw _ (List.mem_of_getElem? (i := 40) rfl)) E26 (g := (mkF m 83 #[.val (.int a), .val (.int k), .val (.int ln), .val (.int p1), .val (.int s1), .val (.int fl), .val (.ref x1), .val (.ref t4), .val (.ref eo), .val (.int b1), .val (.int b2), .val (.int b3), .unset, .unset, .unset, .unset, .unset] [])) rfl (hb hby at_83) (by decide) (by decide)
      obtain ⟨a108, g108⟩ : ∃ z, z = T1.heap.size := ⟨_, rfl⟩
      rw [← g108] at A108 D108 st108
      have ne109 : x1 ≠ a108 := Nat.ne_of_lt (by rw [g108]; exact A1.lt)
      have ne110 : eo ≠ a108 := Nat.ne_of_lt (by rw [g108]; exact AE1.lt)
      have ge111 : h0.size ≤ a108 := by rw [g108]; exact f2.1
      have f112 := own_ext_trans f2 E108
      have f113 := A1.ext E108
      have f114 := AE1.ext E108
      have J115 := I1.ext E108
      have F108_0 : Fld Z h108 a108 "com/example/cladistic/cladistic/model/ColumnDef" "name" "Ljava/lang/String;" (.null) := (D108 (Or.inr (hw _ (List.mem_of_getElem? (i := 51) rfl))) (ty := .object "java/lang/String") (by decide))
      have F108_1 : Fld Z h108 a108 "com/example/cladistic/cladistic/model/ColumnDef" "type" "Lcom/example/cladistic/cladistic/model/ValueType;" (.null) := (D108 (Or.inr (hw _ (List.mem_of_getElem? (i := 53) rfl))) (ty := .object "com/example/cladistic/cladistic/model/ValueType") (by decide))
      have F108_2 : Fld Z h108 a108 "com/example/cladistic/cladistic/model/ColumnDef" "length" "I" (.int ((0 : Int32))) := (D108 (Or.inr (hw _ (List.mem_of_getElem? (i := 55) rfl))) (ty := .int) (by decide))
      have F108_3 : Fld Z h108 a108 "com/example/cladistic/cladistic/model/ColumnDef" "decimal" "Ljava/util/Optional;" (.null) := (D108 (Or.inr (hw _ (List.mem_of_getElem? (i := 57) rfl))) (ty := .object "java/util/Optional") (by decide))
      have F108_4 : Fld Z h108 a108 "com/example/cladistic/cladistic/model/ColumnDef" "nullable" "Z" (.int ((0 : Int32))) := (D108 (Or.inr (hw _ (List.mem_of_getElem? (i := 59) rfl))) (ty := .boolean) (by decide))
      have F108_5 : Fld Z h108 a108 "com/example/cladistic/cladistic/model/ColumnDef" "primaryKey" "Z" (.int ((0 : Int32))) := (D108 (Or.inr (hw _ (List.mem_of_getElem? (i := 61) rfl))) (ty := .boolean) (by decide))
      have F108_6 : Fld Z h108 a108 "com/example/cladistic/cladistic/model/ColumnDef" "generated" "Z" (.int ((0 : Int32))) := (D108 (Or.inr (hw _ (List.mem_of_getElem? (i := 63) rfl))) (ty := .boolean) (by decide))
      refine own_on st108 ?_
      show own_Go p e below F (T108.setTop (mkF m 86 #[.val (.int a), .val (.int k), .val (.int ln), .val (.int p1), .val (.int s1), .val (.int fl), .val (.ref x1), .val (.ref t4), .val (.ref eo), .val (.int b1), .val (.int b2), .val (.int b3), .unset, .unset, .unset, .unset, .unset] [(.ref a108)]))
      have gz_a108 : Z.heap.size ≤ a108 := Nat.le_trans EZ.1 ge111
      refine own_dup X108.here hx (hb hby at_86) rfl (pc' := 87) rfl ?_
      refine own_aload X108.here hx (hb hby at_87) rfl rfl (pc' := 89) rfl ?_
      refine own_aload X108.here hx (hb hby at_89) rfl rfl (pc' := 91) rfl ?_
      refine own_iload_n X108.here hx (hb hby at_91) rfl (pc' := 92) rfl ?_
      refine own_aload X108.here hx (hb hby at_92) rfl rfl (pc' := 94) rfl ?_
      refine own_iload X108.here hx (hb hby at_94) rfl (pc' := 96) rfl ?_
      refine own_iload X108.here hx (hb hby at_96) rfl (pc' := 98) rfl ?_
      refine own_iload X108.here hx (hb hby at_98) rfl (pc' := 100) rfl ?_
      obtain ⟨_, _, ⟨T116, L116, k116, n116⟩, -, X116, ⟨Lc116, hQ116, l116, y116, z116⟩, st116⟩ := X108.specialBack hx (y := (⟨"com/example/cladistic/cladistic/model/ColumnDef", "<init>", "(Ljava/lang/String;Lcom/example/cladistic/cladistic/model/ValueType;ILjava/util/Optional;ZZZ)V"⟩ : MethodName)) rfl J115.2.1 (mvT J115.1 (hw _ (List.mem_of_getElem? (i := 41) rfl))) (mvT J115.1 (hw _ (List.mem_of_getElem? (i := 42) rfl))) (mvT J115.1 (hw _ (List.mem_of_getElem? (i := 43) rfl))) (by decide) (backOf (W := 1) (rmCI l Z a0 hw a108 x1 t4 eo ln b1 b2 b3 h108 gz_a108 z1 z2 z3 A108 F108_0 F108_1 F108_2 F108_3 F108_4 F108_5 F108_6) J115.1 (hw _ (List.mem_of_getElem? (i := 43) rfl)) (hw _ (List.mem_of_getElem? (i := 40) rfl)) (by decide) (by decide)) (g := (mkF m 100 #[.val (.int a), .val (.int k), .val (.int ln), .val (.int p1), .val (.int s1), .val (.int fl), .val (.ref x1), .val (.ref t4), .val (.ref eo), .val (.int b1), .val (.int b2), .val (.int b3), .unset, .unset, .unset, .unset, .unset] [(.int b3), (.int b2), (.int b1), (.ref eo), (.int ln), (.ref t4), (.ref x1), (.ref a108), (.ref a108)])) rfl (by rw [hml]; rfl) (Steps.refl _) (a := a108) (argsL := [(.ref x1), (.ref t4), (.int ln), (.ref eo), (.int b1), (.int b2), (.int b3)]) (rest := [(.ref a108)]) (lenOf pdCI rfl) rfl (by show 2 * 0 + _ ≤ _; exact Nat.le_of_eq rfl) (hb hby at_100) (fun _ _ => ⟨rfl, e108, (Nat.le_of_ble_eq_true rfl), (Nat.le_of_ble_eq_true rfl)⟩)
      dsimp only [Pt.U, Pt.locs, Pt.cells, Pt.slots] at X116 l116 y116 z116 st116 hQ116
      subst l116 y116 z116
      obtain ⟨rfl, N116, K116, G116_0, G116_1, G116_2, G116_3, G116_4, G116_5, G116_6⟩ := hQ116
      refine own_to st116 ?_
      show own_Go p e below F (T116.setTop (mkF m 103 #[.val (.int a), .val (.int k), .val (.int ln), .val (.int p1), .val (.int s1), .val (.int fl), .val (.ref x1), .val (.ref t4), .val (.ref eo), .val (.int b1), .val (.int b2), .val (.int b3), .unset, .unset, .unset, .unset, .unset] [(.ref a108)]))
      have f117 := own_ext_keep f112 K116 (fun y hy => by simp only [List.mem_cons, List.not_mem_nil, or_false] at hy; rcases hy with rfl <;> assumption)
      have f118 := f113.keep K116
      have f119 := f114.keep K116
      have f120 := A108.keep K116
      have J128 := J115.keep K116 (sfS (Safe.exa J115.1.alike A108 (by decide) (by decide)) sf0)
      have N129 := Fr.app N27 N116
      refine own_astore X116.here hx (hb hby at_103) rfl (L' := #[.val (.int a), .val (.int k), .val (.int ln), .val (.int p1), .val (.int s1), .val (.int fl), .val (.ref x1), .val (.ref t4), .val (.ref eo), .val (.int b1), .val (.int b2), .val (.int b3), .val (.ref a108), .unset, .unset, .unset, .unset]) rfl (pc' := 105) rfl ?_
      refine own_aload X116.here hx (hb hby at_105) rfl rfl (pc' := 107) rfl ?_
      obtain ⟨cq130, kq130, qa130, qb130, qc130⟩ := isOf J128.1 rfl f120
      obtain ⟨_, _, ⟨T130, L130, k130, n130⟩, -, X130, ⟨Lc130, hQ130, l130, y130, z130⟩, st130⟩ := X116.virtualBack hx (y := (⟨"com/example/cladistic/cladistic/model/ColumnDef", "asNullable", "()Lcom/example/cladistic/cladistic/model/ColumnDef;"⟩ : MethodName)) (z := (⟨"com/example/cladistic/cladistic/model/ColumnDef", "asNullable", "()Lcom/example/cladistic/cladistic/model/ColumnDef;"⟩ : MethodName)) J128.2.1 (mvT J128.1 (hw _ (List.mem_of_getElem? (i := 64) rfl))) (mvT J128.1 (hw _ (List.mem_of_getElem? (i := 65) rfl))) (notFace_of_selects (args := #[]) (mvT J128.1 (hw _ (List.mem_of_getElem? (i := 67) rfl)))) (mvT J128.1 (hw _ (List.mem_of_getElem? (i := 67) rfl))) (mvT J128.1 (hw _ (List.mem_of_getElem? (i := 66) rfl))) (by decide) (backOf (W := 0) (rmAN l Z a0 hw a108 x1 t4 eo ln b1 b2 b3 T116.heap (own_ext_trans EZ f117) G116_0 G116_1 G116_2 G116_3) J128.1 (hw _ (List.mem_of_getElem? (i := 68) rfl)) (hw _ (List.mem_of_getElem? (i := 40) rfl)) (by decide) (by decide)) qa130 qc130 (g := (mkF m 107 #[.val (.int a), .val (.int k), .val (.int ln), .val (.int p1), .val (.int s1), .val (.int fl), .val (.ref x1), .val (.ref t4), .val (.ref eo), .val (.int b1), .val (.int b2), .val (.int b3), .val (.ref a108), .unset, .unset, .unset, .unset] [(.ref a108)])) rfl (by rw [hml]; rfl) (Steps.refl _) (argsL := []) (rest := []) (lenOf pdAN rfl) rfl (by show 2 * 0 + _ ≤ _; exact Nat.le_of_eq rfl) (hb hby at_107) (fun _ _ => ⟨rfl, rfl, (Nat.le_of_ble_eq_true rfl), (Nat.le_of_ble_eq_true rfl)⟩)
      dsimp only [Pt.U, Pt.locs, Pt.cells, Pt.slots] at X130 l130 y130 z130 st130 hQ130
      subst l130 y130 z130
      obtain ⟨r130, rfl, E130, N130, A130, H130_0, H130_1, H130_2, H130_3, H130_4, H130_5, H130_6⟩ := hQ130
      refine own_to st130 ?_
      show own_Go p e below F (T130.setTop (mkF m 110 #[.val (.int a), .val (.int k), .val (.int ln), .val (.int p1), .val (.int s1), .val (.int fl), .val (.ref x1), .val (.ref t4), .val (.ref eo), .val (.int b1), .val (.int b2), .val (.int b3), .val (.ref a108), .unset, .unset, .unset, .unset] [(.ref r130)]))
      have f131 := own_ext_trans f117 E130
      have f132 := f118.ext E130
      have f133 := f119.ext E130
      have f134 := f120.ext E130
      have f135 := G116_0.ext E130
      have f136 := G116_1.ext E130
      have f137 := G116_2.ext E130
      have f138 := G116_3.ext E130
      have f139 := G116_4.ext E130
      have f140 := G116_5.ext E130
      have f141 := G116_6.ext E130
      have J142 := J128.ext E130
      have N143 := Fr.app N129 N130
      refine own_astore X130.here hx (hb hby at_110) rfl (L' := #[.val (.int a), .val (.int k), .val (.int ln), .val (.int p1), .val (.int s1), .val (.int fl), .val (.ref x1), .val (.ref t4), .val (.ref eo), .val (.int b1), .val (.int b2), .val (.int b3), .val (.ref a108), .val (.ref r130), .unset, .unset, .unset]) rfl (pc' := 112) rfl ?_
      refine own_aload X130.here hx (hb hby at_112) rfl rfl (pc' := 114) rfl ?_
      obtain ⟨cq144, kq144, qa144, qb144, qc144⟩ := isOf J142.1 rfl A130
      obtain ⟨_, _, ⟨T144, L144, k144, n144⟩, -, X144, ⟨Lc144, hQ144, l144, y144, z144⟩, st144⟩ := X130.virtualBack hx (y := (⟨"com/example/cladistic/cladistic/model/ColumnDef", "name", "()Ljava/lang/String;"⟩ : MethodName)) (z := (⟨"com/example/cladistic/cladistic/model/ColumnDef", "name", "()Ljava/lang/String;"⟩ : MethodName)) J142.2.1 (mvT J142.1 (hw _ (List.mem_of_getElem? (i := 71) rfl))) (mvT J142.1 (hw _ (List.mem_of_getElem? (i := 72) rfl))) (notFace_of_selects (args := #[]) (mvT J142.1 (hw _ (List.mem_of_getElem? (i := 74) rfl)))) (mvT J142.1 (hw _ (List.mem_of_getElem? (i := 74) rfl))) (mvT J142.1 (hw _ (List.mem_of_getElem? (i := 73) rfl))) (by decide) (backOf (W := 0) (rmG0 l Z a0 hw r130 x1 T130.heap H130_0) J142.1 (hw _ (List.mem_of_getElem? (i := 75) rfl)) (hw _ (List.mem_of_getElem? (i := 40) rfl)) (by decide) (by decide)) qa144 qc144 (g := (mkF m 114 #[.val (.int a), .val (.int k), .val (.int ln), .val (.int p1), .val (.int s1), .val (.int fl), .val (.ref x1), .val (.ref t4), .val (.ref eo), .val (.int b1), .val (.int b2), .val (.int b3), .val (.ref a108), .val (.ref r130), .unset, .unset, .unset] [(.ref r130)])) rfl (by rw [hml]; rfl) (Steps.refl _) (argsL := []) (rest := []) (lenOf pdG0 rfl) rfl (by show 2 * 0 + _ ≤ _; exact Nat.le_of_eq rfl) (hb hby at_114) (fun _ _ => ⟨rfl, rfl, (Nat.le_of_ble_eq_true rfl), (Nat.le_of_ble_eq_true rfl)⟩)
      dsimp only [Pt.U, Pt.locs, Pt.cells, Pt.slots] at X144 l144 y144 z144 st144 hQ144
      subst l144 y144 z144
      obtain ⟨rfl, N144, E144⟩ := hQ144
      refine own_to st144 ?_
      show own_Go p e below F (T144.setTop (mkF m 117 #[.val (.int a), .val (.int k), .val (.int ln), .val (.int p1), .val (.int s1), .val (.int fl), .val (.ref x1), .val (.ref t4), .val (.ref eo), .val (.int b1), .val (.int b2), .val (.int b3), .val (.ref a108), .val (.ref r130), .unset, .unset, .unset] [(.ref x1)]))
      have N145 := Fr.app N143 N144
      refine own_aload X144.here hx (hb hby at_117) rfl rfl (pc' := 119) rfl ?_
      obtain ⟨cq146, kq146, qa146, qb146, qc146⟩ := isOf J142.1 E144 f132
      obtain ⟨_, _, ⟨T146, L146, k146, n146⟩, -, X146, ⟨Lc146, hQ146, l146, y146, z146⟩, st146⟩ := X144.virtualBack hx (y := (⟨"java/lang/String", "equals", "(Ljava/lang/Object;)Z"⟩ : MethodName)) (z := (⟨"java/lang/String", "equals", "(Ljava/lang/Object;)Z"⟩ : MethodName)) J142.2.1 (mvT J142.1 (hw _ (List.mem_of_getElem? (i := 76) rfl))) (mvT J142.1 (hw _ (List.mem_of_getElem? (i := 77) rfl))) (notFace_of_selects (args := #[]) (mvT J142.1 (hw _ (List.mem_of_getElem? (i := 79) rfl)))) (mvT J142.1 (hw _ (List.mem_of_getElem? (i := 79) rfl))) (mvT J142.1 (hw _ (List.mem_of_getElem? (i := 78) rfl))) (by decide) (backOf (W := 0) (rmEq l Z a0 hw x1 T130.heap) J142.1 (hw _ (List.mem_of_getElem? (i := 80) rfl)) (hw _ (List.mem_of_getElem? (i := 6) rfl)) (by decide) (by decide)) qa146 qc146 (g := (mkF m 119 #[.val (.int a), .val (.int k), .val (.int ln), .val (.int p1), .val (.int s1), .val (.int fl), .val (.ref x1), .val (.ref t4), .val (.ref eo), .val (.int b1), .val (.int b2), .val (.int b3), .val (.ref a108), .val (.ref r130), .unset, .unset, .unset] [(.ref x1), (.ref x1)])) rfl (by rw [hml]; rfl) (Steps.refl _) (argsL := [(.ref x1)]) (rest := []) (lenOf pdEq rfl) rfl (by show 2 * 0 + _ ≤ _; exact Nat.le_of_eq rfl) (hb hby at_119) (fun _ _ => ⟨rfl, E144, (Nat.le_of_ble_eq_true rfl), (Nat.le_of_ble_eq_true rfl)⟩)
      dsimp only [Pt.U, Pt.locs, Pt.cells, Pt.slots] at X146 l146 y146 z146 st146 hQ146
      subst l146 y146 z146
      obtain ⟨rfl, N146, E146⟩ := hQ146
      refine own_to st146 ?_
      show own_Go p e below F (T146.setTop (mkF m 122 #[.val (.int a), .val (.int k), .val (.int ln), .val (.int p1), .val (.int s1), .val (.int fl), .val (.ref x1), .val (.ref t4), .val (.ref eo), .val (.int b1), .val (.int b2), .val (.int b3), .val (.ref a108), .val (.ref r130), .unset, .unset, .unset] [(.int ((1 : Int32)))]))
      have N147 := Fr.app N145 N146
      refine own_ifeq X146.here hx (hb hby at_122) (by decide) (pc' := 161) (by decide) (pc2 := 125) rfl (fun q => absurd q (by decide)) (fun q148 => ?_)
      refine own_aload X146.here hx (hb hby at_125) rfl rfl (pc' := 127) rfl ?_
      obtain ⟨cq149, kq149, qa149, qb149, qc149⟩ := isOf J142.1 E146 A130
      obtain ⟨_, _, ⟨T149, L149, k149, n149⟩, -, X149, ⟨Lc149, hQ149, l149, y149, z149⟩, st149⟩ := X146.virtualBack hx (y := (⟨"com/example/cladistic/cladistic/model/ColumnDef", "type", "()Lcom/example/cladistic/cladistic/model/ValueType;"⟩ : MethodName)) (z := (⟨"com/example/cladistic/cladistic/model/ColumnDef", "type", "()Lcom/example/cladistic/cladistic/model/ValueType;"⟩ : MethodName)) J142.2.1 (mvT J142.1 (hw _ (List.mem_of_getElem? (i := 81) rfl))) (mvT J142.1 (hw _ (List.mem_of_getElem? (i := 82) rfl))) (notFace_of_selects (args := #[]) (mvT J142.1 (hw _ (List.mem_of_getElem? (i := 84) rfl)))) (mvT J142.1 (hw _ (List.mem_of_getElem? (i := 84) rfl))) (mvT J142.1 (hw _ (List.mem_of_getElem? (i := 83) rfl))) (by decide) (backOf (W := 0) (rmG1 l Z a0 hw r130 t4 T130.heap H130_1) J142.1 (hw _ (List.mem_of_getElem? (i := 85) rfl)) (hw _ (List.mem_of_getElem? (i := 40) rfl)) (by decide) (by decide)) qa149 qc149 (g := (mkF m 127 #[.val (.int a), .val (.int k), .val (.int ln), .val (.int p1), .val (.int s1), .val (.int fl), .val (.ref x1), .val (.ref t4), .val (.ref eo), .val (.int b1), .val (.int b2), .val (.int b3), .val (.ref a108), .val (.ref r130), .unset, .unset, .unset] [(.ref r130)])) rfl (by rw [hml]; rfl) (Steps.refl _) (argsL := []) (rest := []) (lenOf pdG1 rfl) rfl (by show 2 * 0 + _ ≤ _; exact Nat.le_of_eq rfl) (hb hby at_127) (fun _ _ => ⟨rfl, E146, (Nat.le_of_ble_eq_true rfl), (Nat.le_of_ble_eq_true rfl)⟩)
      dsimp only [Pt.U, Pt.locs, Pt.cells, Pt.slots] at X149 l149 y149 z149 st149 hQ149
      subst l149 y149 z149
      obtain ⟨rfl, N149, E149⟩ := hQ149
      refine own_to st149 ?_
      show own_Go p e below F (T149.setTop (mkF m 130 #[.val (.int a), .val (.int k), .val (.int ln), .val (.int p1), .val (.int s1), .val (.int fl), .val (.ref x1), .val (.ref t4), .val (.ref eo), .val (.int b1), .val (.int b2), .val (.int b3), .val (.ref a108), .val (.ref r130), .unset, .unset, .unset] [(.ref t4)]))
      have N150 := Fr.app N147 N149
      refine own_aload X149.here hx (hb hby at_130) rfl rfl (pc' := 132) rfl ?_
      refine own_acmpne X149.here hx rfl rfl (hb hby at_132) (by decide) (pc' := 161) (by decide) (pc2 := 135) rfl (fun q => absurd rfl q) (fun q151 => ?_)
      refine own_aload X149.here hx (hb hby at_135) rfl rfl (pc' := 137) rfl ?_
      obtain ⟨cq152, kq152, qa152, qb152, qc152⟩ := isOf J142.1 E149 A130
      obtain ⟨_, _, ⟨T152, L152, k152, n152⟩, -, X152, ⟨Lc152, hQ152, l152, y152, z152⟩, st152⟩ := X149.virtualBack hx (y := (⟨"com/example/cladistic/cladistic/model/ColumnDef", "length", "()I"⟩ : MethodName)) (z := (⟨"com/example/cladistic/cladistic/model/ColumnDef", "length", "()I"⟩ : MethodName)) J142.2.1 (mvT J142.1 (hw _ (List.mem_of_getElem? (i := 86) rfl))) (mvT J142.1 (hw _ (List.mem_of_getElem? (i := 87) rfl))) (notFace_of_selects (args := #[]) (mvT J142.1 (hw _ (List.mem_of_getElem? (i := 89) rfl)))) (mvT J142.1 (hw _ (List.mem_of_getElem? (i := 89) rfl))) (mvT J142.1 (hw _ (List.mem_of_getElem? (i := 88) rfl))) (by decide) (backOf (W := 0) (rmG2 l Z a0 hw r130 ln T130.heap H130_2) J142.1 (hw _ (List.mem_of_getElem? (i := 90) rfl)) (hw _ (List.mem_of_getElem? (i := 40) rfl)) (by decide) (by decide)) qa152 qc152 (g := (mkF m 137 #[.val (.int a), .val (.int k), .val (.int ln), .val (.int p1), .val (.int s1), .val (.int fl), .val (.ref x1), .val (.ref t4), .val (.ref eo), .val (.int b1), .val (.int b2), .val (.int b3), .val (.ref a108), .val (.ref r130), .unset, .unset, .unset] [(.ref r130)])) rfl (by rw [hml]; rfl) (Steps.refl _) (argsL := []) (rest := []) (lenOf pdG2 rfl) rfl (by show 2 * 0 + _ ≤ _; exact Nat.le_of_eq rfl) (hb hby at_137) (fun _ _ => ⟨rfl, E149, (Nat.le_of_ble_eq_true rfl), (Nat.le_of_ble_eq_true rfl)⟩)
      dsimp only [Pt.U, Pt.locs, Pt.cells, Pt.slots] at X152 l152 y152 z152 st152 hQ152
      subst l152 y152 z152
      obtain ⟨rfl, N152, E152⟩ := hQ152
      refine own_to st152 ?_
      show own_Go p e below F (T152.setTop (mkF m 140 #[.val (.int a), .val (.int k), .val (.int ln), .val (.int p1), .val (.int s1), .val (.int fl), .val (.ref x1), .val (.ref t4), .val (.ref eo), .val (.int b1), .val (.int b2), .val (.int b3), .val (.ref a108), .val (.ref r130), .unset, .unset, .unset] [(.int ln)]))
      have N153 := Fr.app N150 N152
      refine own_iload_n X152.here hx (hb hby at_140) rfl (pc' := 141) rfl ?_
      refine own_icmpne X152.here hx (hb hby at_141) (by decide) (pc' := 161) (by decide) (pc2 := 144) rfl (fun q => absurd rfl q) (fun q154 => ?_)
      refine own_aload X152.here hx (hb hby at_144) rfl rfl (pc' := 146) rfl ?_
      obtain ⟨cq155, kq155, qa155, qb155, qc155⟩ := isOf J142.1 E152 A130
      obtain ⟨_, _, ⟨T155, L155, k155, n155⟩, -, X155, ⟨Lc155, hQ155, l155, y155, z155⟩, st155⟩ := X152.virtualBack hx (y := (⟨"com/example/cladistic/cladistic/model/ColumnDef", "decimal", "()Ljava/util/Optional;"⟩ : MethodName)) (z := (⟨"com/example/cladistic/cladistic/model/ColumnDef", "decimal", "()Ljava/util/Optional;"⟩ : MethodName)) J142.2.1 (mvT J142.1 (hw _ (List.mem_of_getElem? (i := 91) rfl))) (mvT J142.1 (hw _ (List.mem_of_getElem? (i := 92) rfl))) (notFace_of_selects (args := #[]) (mvT J142.1 (hw _ (List.mem_of_getElem? (i := 94) rfl)))) (mvT J142.1 (hw _ (List.mem_of_getElem? (i := 94) rfl))) (mvT J142.1 (hw _ (List.mem_of_getElem? (i := 93) rfl))) (by decide) (backOf (W := 0) (rmG3 l Z a0 hw r130 eo T130.heap H130_3) J142.1 (hw _ (List.mem_of_getElem? (i := 95) rfl)) (hw _ (List.mem_of_getElem? (i := 40) rfl)) (by decide) (by decide)) qa155 qc155 (g := (mkF m 146 #[.val (.int a), .val (.int k), .val (.int ln), .val (.int p1), .val (.int s1), .val (.int fl), .val (.ref x1), .val (.ref t4), .val (.ref eo), .val (.int b1), .val (.int b2), .val (.int b3), .val (.ref a108), .val (.ref r130), .unset, .unset, .unset] [(.ref r130)])) rfl (by rw [hml]; rfl) (Steps.refl _) (argsL := []) (rest := []) (lenOf pdG3 rfl) rfl (by show 2 * 0 + _ ≤ _; exact Nat.le_of_eq rfl) (hb hby at_146) (fun _ _ => ⟨rfl, E152, (Nat.le_of_ble_eq_true rfl), (Nat.le_of_ble_eq_true rfl)⟩)
      dsimp only [Pt.U, Pt.locs, Pt.cells, Pt.slots] at X155 l155 y155 z155 st155 hQ155
      subst l155 y155 z155
      obtain ⟨rfl, N155, E155⟩ := hQ155
      refine own_to st155 ?_
      show own_Go p e below F (T155.setTop (mkF m 149 #[.val (.int a), .val (.int k), .val (.int ln), .val (.int p1), .val (.int s1), .val (.int fl), .val (.ref x1), .val (.ref t4), .val (.ref eo), .val (.int b1), .val (.int b2), .val (.int b3), .val (.ref a108), .val (.ref r130), .unset, .unset, .unset] [(.ref eo)]))
      have N156 := Fr.app N153 N155
      refine own_aload X155.here hx (hb hby at_149) rfl rfl (pc' := 151) rfl ?_
      obtain ⟨cq157, kq157, qa157, qb157, qc157⟩ := isOf J142.1 E155 f133
      obtain ⟨_, _, ⟨T157, L157, k157, n157⟩, -, X157, ⟨Lc157, hQ157, l157, y157, z157⟩, st157⟩ := X155.virtualBack hx (y := (⟨"java/util/Optional", "equals", "(Ljava/lang/Object;)Z"⟩ : MethodName)) (z := (⟨"java/util/Optional", "equals", "(Ljava/lang/Object;)Z"⟩ : MethodName)) J142.2.1 (mvT J142.1 (hw _ (List.mem_of_getElem? (i := 96) rfl))) (mvT J142.1 (hw _ (List.mem_of_getElem? (i := 97) rfl))) (notFace_of_selects (args := #[]) (mvT J142.1 (hw _ (List.mem_of_getElem? (i := 99) rfl)))) (mvT J142.1 (hw _ (List.mem_of_getElem? (i := 99) rfl))) (mvT J142.1 (hw _ (List.mem_of_getElem? (i := 98) rfl))) (by decide) (backOf (W := 0) (rmEo l Z a0 hw eo T130.heap) J142.1 (hw _ (List.mem_of_getElem? (i := 100) rfl)) (hw _ (List.mem_of_getElem? (i := 35) rfl)) (by decide) (by decide)) qa157 qc157 (g := (mkF m 151 #[.val (.int a), .val (.int k), .val (.int ln), .val (.int p1), .val (.int s1), .val (.int fl), .val (.ref x1), .val (.ref t4), .val (.ref eo), .val (.int b1), .val (.int b2), .val (.int b3), .val (.ref a108), .val (.ref r130), .unset, .unset, .unset] [(.ref eo), (.ref eo)])) rfl (by rw [hml]; rfl) (Steps.refl _) (argsL := [(.ref eo)]) (rest := []) (lenOf pdEq rfl) rfl (by show 2 * 0 + _ ≤ _; exact Nat.le_of_eq rfl) (hb hby at_151) (fun _ _ => ⟨rfl, E155, (Nat.le_of_ble_eq_true rfl), (Nat.le_of_ble_eq_true rfl)⟩)
      dsimp only [Pt.U, Pt.locs, Pt.cells, Pt.slots] at X157 l157 y157 z157 st157 hQ157
      subst l157 y157 z157
      obtain ⟨rfl, N157, E157⟩ := hQ157
      refine own_to st157 ?_
      show own_Go p e below F (T157.setTop (mkF m 154 #[.val (.int a), .val (.int k), .val (.int ln), .val (.int p1), .val (.int s1), .val (.int fl), .val (.ref x1), .val (.ref t4), .val (.ref eo), .val (.int b1), .val (.int b2), .val (.int b3), .val (.ref a108), .val (.ref r130), .unset, .unset, .unset] [(.int ((1 : Int32)))]))
      have N158 := Fr.app N156 N157
      refine own_ifeq X157.here hx (hb hby at_154) (by decide) (pc' := 161) (by decide) (pc2 := 157) rfl (fun q => absurd q (by decide)) (fun q159 => ?_)
      refine own_iconst X157.here hx (hb hby at_157) (v := 1) rfl (pc' := 158) rfl ?_
      refine own_goto X157.here hx (hb hby at_158) (by decide) (pc' := 162) (by decide) ?_
      refine own_istore X157.here hx (hb hby at_162) (L' := #[.val (.int a), .val (.int k), .val (.int ln), .val (.int p1), .val (.int s1), .val (.int fl), .val (.ref x1), .val (.ref t4), .val (.ref eo), .val (.int b1), .val (.int b2), .val (.int b3), .val (.ref a108), .val (.ref r130), .val (.int ((1 : Int32))), .unset, .unset]) rfl (pc' := 164) rfl ?_
      refine own_aload X157.here hx (hb hby at_164) rfl rfl (pc' := 166) rfl ?_
      obtain ⟨cq160, kq160, qa160, qb160, qc160⟩ := isOf J142.1 E157 A130
      obtain ⟨_, _, ⟨T160, L160, k160, n160⟩, -, X160, ⟨Lc160, hQ160, l160, y160, z160⟩, st160⟩ := X157.virtualBack hx (y := (⟨"com/example/cladistic/cladistic/model/ColumnDef", "nullable", "()Z"⟩ : MethodName)) (z := (⟨"com/example/cladistic/cladistic/model/ColumnDef", "nullable", "()Z"⟩ : MethodName)) J142.2.1 (mvT J142.1 (hw _ (List.mem_of_getElem? (i := 101) rfl))) (mvT J142.1 (hw _ (List.mem_of_getElem? (i := 102) rfl))) (notFace_of_selects (args := #[]) (mvT J142.1 (hw _ (List.mem_of_getElem? (i := 104) rfl)))) (mvT J142.1 (hw _ (List.mem_of_getElem? (i := 104) rfl))) (mvT J142.1 (hw _ (List.mem_of_getElem? (i := 103) rfl))) (by decide) (backOf (W := 0) (rmG4 l Z a0 hw r130 (1 : Int32) T130.heap (Or.inr rfl) H130_4) J142.1 (hw _ (List.mem_of_getElem? (i := 105) rfl)) (hw _ (List.mem_of_getElem? (i := 40) rfl)) (by decide) (by decide)) qa160 qc160 (g := (mkF m 166 #[.val (.int a), .val (.int k), .val (.int ln), .val (.int p1), .val (.int s1), .val (.int fl), .val (.ref x1), .val (.ref t4), .val (.ref eo), .val (.int b1), .val (.int b2), .val (.int b3), .val (.ref a108), .val (.ref r130), .val (.int ((1 : Int32))), .unset, .unset] [(.ref r130)])) rfl (by rw [hml]; rfl) (Steps.refl _) (argsL := []) (rest := []) (lenOf pdG6 rfl) rfl (by show 2 * 0 + _ ≤ _; exact Nat.le_of_eq rfl) (hb hby at_166) (fun _ _ => ⟨rfl, E157, (Nat.le_of_ble_eq_true rfl), (Nat.le_of_ble_eq_true rfl)⟩)
      dsimp only [Pt.U, Pt.locs, Pt.cells, Pt.slots] at X160 l160 y160 z160 st160 hQ160
      subst l160 y160 z160
      obtain ⟨rfl, N160, E160⟩ := hQ160
      refine own_to st160 ?_
      show own_Go p e below F (T160.setTop (mkF m 169 #[.val (.int a), .val (.int k), .val (.int ln), .val (.int p1), .val (.int s1), .val (.int fl), .val (.ref x1), .val (.ref t4), .val (.ref eo), .val (.int b1), .val (.int b2), .val (.int b3), .val (.ref a108), .val (.ref r130), .val (.int ((1 : Int32))), .unset, .unset] [(.int ((1 : Int32)))]))
      have N161 := Fr.app N158 N160
      refine own_ifeq X160.here hx (hb hby at_169) (by decide) (pc' := 192) (by decide) (pc2 := 172) rfl (fun q => absurd q (by decide)) (fun q162 => ?_)
      refine own_aload X160.here hx (hb hby at_172) rfl rfl (pc' := 174) rfl ?_
      obtain ⟨cq163, kq163, qa163, qb163, qc163⟩ := isOf J142.1 E160 A130
      obtain ⟨_, _, ⟨T163, L163, k163, n163⟩, -, X163, ⟨Lc163, hQ163, l163, y163, z163⟩, st163⟩ := X160.virtualBack hx (y := (⟨"com/example/cladistic/cladistic/model/ColumnDef", "primaryKey", "()Z"⟩ : MethodName)) (z := (⟨"com/example/cladistic/cladistic/model/ColumnDef", "primaryKey", "()Z"⟩ : MethodName)) J142.2.1 (mvT J142.1 (hw _ (List.mem_of_getElem? (i := 106) rfl))) (mvT J142.1 (hw _ (List.mem_of_getElem? (i := 107) rfl))) (notFace_of_selects (args := #[]) (mvT J142.1 (hw _ (List.mem_of_getElem? (i := 109) rfl)))) (mvT J142.1 (hw _ (List.mem_of_getElem? (i := 109) rfl))) (mvT J142.1 (hw _ (List.mem_of_getElem? (i := 108) rfl))) (by decide) (backOf (W := 0) (rmG5 l Z a0 hw r130 (0 : Int32) T130.heap (Or.inl rfl) H130_5) J142.1 (hw _ (List.mem_of_getElem? (i := 110) rfl)) (hw _ (List.mem_of_getElem? (i := 40) rfl)) (by decide) (by decide)) qa163 qc163 (g := (mkF m 174 #[.val (.int a), .val (.int k), .val (.int ln), .val (.int p1), .val (.int s1), .val (.int fl), .val (.ref x1), .val (.ref t4), .val (.ref eo), .val (.int b1), .val (.int b2), .val (.int b3), .val (.ref a108), .val (.ref r130), .val (.int ((1 : Int32))), .unset, .unset] [(.ref r130)])) rfl (by rw [hml]; rfl) (Steps.refl _) (argsL := []) (rest := []) (lenOf pdG6 rfl) rfl (by show 2 * 0 + _ ≤ _; exact Nat.le_of_eq rfl) (hb hby at_174) (fun _ _ => ⟨rfl, E160, (Nat.le_of_ble_eq_true rfl), (Nat.le_of_ble_eq_true rfl)⟩)
      dsimp only [Pt.U, Pt.locs, Pt.cells, Pt.slots] at X163 l163 y163 z163 st163 hQ163
      subst l163 y163 z163
      obtain ⟨rfl, N163, E163⟩ := hQ163
      refine own_to st163 ?_
      show own_Go p e below F (T163.setTop (mkF m 177 #[.val (.int a), .val (.int k), .val (.int ln), .val (.int p1), .val (.int s1), .val (.int fl), .val (.ref x1), .val (.ref t4), .val (.ref eo), .val (.int b1), .val (.int b2), .val (.int b3), .val (.ref a108), .val (.ref r130), .val (.int ((1 : Int32))), .unset, .unset] [(.int ((0 : Int32)))]))
      have N164 := Fr.app N161 N163
      refine own_ifne X163.here hx (hb hby at_177) (by decide) (pc' := 192) (by decide) (pc2 := 180) rfl (fun q => absurd rfl q) (fun q165 => ?_)
      refine own_aload X163.here hx (hb hby at_180) rfl rfl (pc' := 182) rfl ?_
      obtain ⟨cq166, kq166, qa166, qb166, qc166⟩ := isOf J142.1 E163 A130
      obtain ⟨_, _, ⟨T166, L166, k166, n166⟩, -, X166, ⟨Lc166, hQ166, l166, y166, z166⟩, st166⟩ := X163.virtualBack hx (y := (⟨"com/example/cladistic/cladistic/model/ColumnDef", "generated", "()Z"⟩ : MethodName)) (z := (⟨"com/example/cladistic/cladistic/model/ColumnDef", "generated", "()Z"⟩ : MethodName)) J142.2.1 (mvT J142.1 (hw _ (List.mem_of_getElem? (i := 111) rfl))) (mvT J142.1 (hw _ (List.mem_of_getElem? (i := 112) rfl))) (notFace_of_selects (args := #[]) (mvT J142.1 (hw _ (List.mem_of_getElem? (i := 114) rfl)))) (mvT J142.1 (hw _ (List.mem_of_getElem? (i := 114) rfl))) (mvT J142.1 (hw _ (List.mem_of_getElem? (i := 113) rfl))) (by decide) (backOf (W := 0) (rmG6 l Z a0 hw r130 (0 : Int32) T130.heap (Or.inl rfl) H130_6) J142.1 (hw _ (List.mem_of_getElem? (i := 115) rfl)) (hw _ (List.mem_of_getElem? (i := 40) rfl)) (by decide) (by decide)) qa166 qc166 (g := (mkF m 182 #[.val (.int a), .val (.int k), .val (.int ln), .val (.int p1), .val (.int s1), .val (.int fl), .val (.ref x1), .val (.ref t4), .val (.ref eo), .val (.int b1), .val (.int b2), .val (.int b3), .val (.ref a108), .val (.ref r130), .val (.int ((1 : Int32))), .unset, .unset] [(.ref r130)])) rfl (by rw [hml]; rfl) (Steps.refl _) (argsL := []) (rest := []) (lenOf pdG6 rfl) rfl (by show 2 * 0 + _ ≤ _; exact Nat.le_of_eq rfl) (hb hby at_182) (fun _ _ => ⟨rfl, E163, (Nat.le_of_ble_eq_true rfl), (Nat.le_of_ble_eq_true rfl)⟩)
      dsimp only [Pt.U, Pt.locs, Pt.cells, Pt.slots] at X166 l166 y166 z166 st166 hQ166
      subst l166 y166 z166
      obtain ⟨rfl, N166, E166⟩ := hQ166
      refine own_to st166 ?_
      show own_Go p e below F (T166.setTop (mkF m 185 #[.val (.int a), .val (.int k), .val (.int ln), .val (.int p1), .val (.int s1), .val (.int fl), .val (.ref x1), .val (.ref t4), .val (.ref eo), .val (.int b1), .val (.int b2), .val (.int b3), .val (.ref a108), .val (.ref r130), .val (.int ((1 : Int32))), .unset, .unset] [(.int ((0 : Int32)))]))
      have N167 := Fr.app N164 N166
      refine own_ifne X166.here hx (hb hby at_185) (by decide) (pc' := 192) (by decide) (pc2 := 188) rfl (fun q => absurd rfl q) (fun q168 => ?_)
      refine own_iconst X166.here hx (hb hby at_188) (v := 1) rfl (pc' := 189) rfl ?_
      refine own_goto X166.here hx (hb hby at_189) (by decide) (pc' := 193) (by decide) ?_
      refine own_istore X166.here hx (hb hby at_193) (L' := #[.val (.int a), .val (.int k), .val (.int ln), .val (.int p1), .val (.int s1), .val (.int fl), .val (.ref x1), .val (.ref t4), .val (.ref eo), .val (.int b1), .val (.int b2), .val (.int b3), .val (.ref a108), .val (.ref r130), .val (.int ((1 : Int32))), .val (.int ((1 : Int32))), .unset]) rfl (pc' := 195) rfl ?_
      refine own_aload X166.here hx (hb hby at_195) rfl rfl (pc' := 197) rfl ?_
      obtain ⟨cq169, kq169, qa169, qb169, qc169⟩ := isOf J142.1 E166 f134
      obtain ⟨_, _, ⟨T169, L169, k169, n169⟩, -, X169, ⟨Lc169, hQ169, l169, y169, z169⟩, st169⟩ := X166.virtualBack hx (y := (⟨"com/example/cladistic/cladistic/model/ColumnDef", "nullable", "()Z"⟩ : MethodName)) (z := (⟨"com/example/cladistic/cladistic/model/ColumnDef", "nullable", "()Z"⟩ : MethodName)) J142.2.1 (mvT J142.1 (hw _ (List.mem_of_getElem? (i := 101) rfl))) (mvT J142.1 (hw _ (List.mem_of_getElem? (i := 102) rfl))) (notFace_of_selects (args := #[]) (mvT J142.1 (hw _ (List.mem_of_getElem? (i := 104) rfl)))) (mvT J142.1 (hw _ (List.mem_of_getElem? (i := 104) rfl))) (mvT J142.1 (hw _ (List.mem_of_getElem? (i := 103) rfl))) (by decide) (backOf (W := 0) (rmG4 l Z a0 hw a108 b1 T130.heap z1 f139) J142.1 (hw _ (List.mem_of_getElem? (i := 105) rfl)) (hw _ (List.mem_of_getElem? (i := 40) rfl)) (by decide) (by decide)) qa169 qc169 (g := (mkF m 197 #[.val (.int a), .val (.int k), .val (.int ln), .val (.int p1), .val (.int s1), .val (.int fl), .val (.ref x1), .val (.ref t4), .val (.ref eo), .val (.int b1), .val (.int b2), .val (.int b3), .val (.ref a108), .val (.ref r130), .val (.int ((1 : Int32))), .val (.int ((1 : Int32))), .unset] [(.ref a108)])) rfl (by rw [hml]; rfl) (Steps.refl _) (argsL := []) (rest := []) (lenOf pdG6 rfl) rfl (by show 2 * 0 + _ ≤ _; exact Nat.le_of_eq rfl) (hb hby at_197) (fun _ _ => ⟨rfl, E166, (Nat.le_of_ble_eq_true rfl), (Nat.le_of_ble_eq_true rfl)⟩)
      dsimp only [Pt.U, Pt.locs, Pt.cells, Pt.slots] at X169 l169 y169 z169 st169 hQ169
      subst l169 y169 z169
      obtain ⟨rfl, N169, E169⟩ := hQ169
      refine own_to st169 ?_
      show own_Go p e below F (T169.setTop (mkF m 200 #[.val (.int a), .val (.int k), .val (.int ln), .val (.int p1), .val (.int s1), .val (.int fl), .val (.ref x1), .val (.ref t4), .val (.ref eo), .val (.int b1), .val (.int b2), .val (.int b3), .val (.ref a108), .val (.ref r130), .val (.int ((1 : Int32))), .val (.int ((1 : Int32))), .unset] [(.int b1)]))
      have N170 := Fr.app N167 N169
      refine own_iload X169.here hx (hb hby at_200) rfl (pc' := 202) rfl ?_
      refine own_icmpne X169.here hx (hb hby at_202) (by decide) (pc' := 229) (by decide) (pc2 := 205) rfl (fun q => absurd rfl q) (fun q171 => ?_)
      refine own_aload X169.here hx (hb hby at_205) rfl rfl (pc' := 207) rfl ?_
      obtain ⟨cq172, kq172, qa172, qb172, qc172⟩ := isOf J142.1 E169 f134
      obtain ⟨_, _, ⟨T172, L172, k172, n172⟩, -, X172, ⟨Lc172, hQ172, l172, y172, z172⟩, st172⟩ := X169.virtualBack hx (y := (⟨"com/example/cladistic/cladistic/model/ColumnDef", "primaryKey", "()Z"⟩ : MethodName)) (z := (⟨"com/example/cladistic/cladistic/model/ColumnDef", "primaryKey", "()Z"⟩ : MethodName)) J142.2.1 (mvT J142.1 (hw _ (List.mem_of_getElem? (i := 106) rfl))) (mvT J142.1 (hw _ (List.mem_of_getElem? (i := 107) rfl))) (notFace_of_selects (args := #[]) (mvT J142.1 (hw _ (List.mem_of_getElem? (i := 109) rfl)))) (mvT J142.1 (hw _ (List.mem_of_getElem? (i := 109) rfl))) (mvT J142.1 (hw _ (List.mem_of_getElem? (i := 108) rfl))) (by decide) (backOf (W := 0) (rmG5 l Z a0 hw a108 b2 T130.heap z2 f140) J142.1 (hw _ (List.mem_of_getElem? (i := 110) rfl)) (hw _ (List.mem_of_getElem? (i := 40) rfl)) (by decide) (by decide)) qa172 qc172 (g := (mkF m 207 #[.val (.int a), .val (.int k), .val (.int ln), .val (.int p1), .val (.int s1), .val (.int fl), .val (.ref x1), .val (.ref t4), .val (.ref eo), .val (.int b1), .val (.int b2), .val (.int b3), .val (.ref a108), .val (.ref r130), .val (.int ((1 : Int32))), .val (.int ((1 : Int32))), .unset] [(.ref a108)])) rfl (by rw [hml]; rfl) (Steps.refl _) (argsL := []) (rest := []) (lenOf pdG6 rfl) rfl (by show 2 * 0 + _ ≤ _; exact Nat.le_of_eq rfl) (hb hby at_207) (fun _ _ => ⟨rfl, E169, (Nat.le_of_ble_eq_true rfl), (Nat.le_of_ble_eq_true rfl)⟩)
      dsimp only [Pt.U, Pt.locs, Pt.cells, Pt.slots] at X172 l172 y172 z172 st172 hQ172
      subst l172 y172 z172
      obtain ⟨rfl, N172, E172⟩ := hQ172
      refine own_to st172 ?_
      show own_Go p e below F (T172.setTop (mkF m 210 #[.val (.int a), .val (.int k), .val (.int ln), .val (.int p1), .val (.int s1), .val (.int fl), .val (.ref x1), .val (.ref t4), .val (.ref eo), .val (.int b1), .val (.int b2), .val (.int b3), .val (.ref a108), .val (.ref r130), .val (.int ((1 : Int32))), .val (.int ((1 : Int32))), .unset] [(.int b2)]))
      have N173 := Fr.app N170 N172
      refine own_iload X172.here hx (hb hby at_210) rfl (pc' := 212) rfl ?_
      refine own_icmpne X172.here hx (hb hby at_212) (by decide) (pc' := 229) (by decide) (pc2 := 215) rfl (fun q => absurd rfl q) (fun q174 => ?_)
      refine own_aload X172.here hx (hb hby at_215) rfl rfl (pc' := 217) rfl ?_
      obtain ⟨cq175, kq175, qa175, qb175, qc175⟩ := isOf J142.1 E172 f134
      obtain ⟨_, _, ⟨T175, L175, k175, n175⟩, -, X175, ⟨Lc175, hQ175, l175, y175, z175⟩, st175⟩ := X172.virtualBack hx (y := (⟨"com/example/cladistic/cladistic/model/ColumnDef", "generated", "()Z"⟩ : MethodName)) (z := (⟨"com/example/cladistic/cladistic/model/ColumnDef", "generated", "()Z"⟩ : MethodName)) J142.2.1 (mvT J142.1 (hw _ (List.mem_of_getElem? (i := 111) rfl))) (mvT J142.1 (hw _ (List.mem_of_getElem? (i := 112) rfl))) (notFace_of_selects (args := #[]) (mvT J142.1 (hw _ (List.mem_of_getElem? (i := 114) rfl)))) (mvT J142.1 (hw _ (List.mem_of_getElem? (i := 114) rfl))) (mvT J142.1 (hw _ (List.mem_of_getElem? (i := 113) rfl))) (by decide) (backOf (W := 0) (rmG6 l Z a0 hw a108 b3 T130.heap z3 f141) J142.1 (hw _ (List.mem_of_getElem? (i := 115) rfl)) (hw _ (List.mem_of_getElem? (i := 40) rfl)) (by decide) (by decide)) qa175 qc175 (g := (mkF m 217 #[.val (.int a), .val (.int k), .val (.int ln), .val (.int p1), .val (.int s1), .val (.int fl), .val (.ref x1), .val (.ref t4), .val (.ref eo), .val (.int b1), .val (.int b2), .val (.int b3), .val (.ref a108), .val (.ref r130), .val (.int ((1 : Int32))), .val (.int ((1 : Int32))), .unset] [(.ref a108)])) rfl (by rw [hml]; rfl) (Steps.refl _) (argsL := []) (rest := []) (lenOf pdG6 rfl) rfl (by show 2 * 0 + _ ≤ _; exact Nat.le_of_eq rfl) (hb hby at_217) (fun _ _ => ⟨rfl, E172, (Nat.le_of_ble_eq_true rfl), (Nat.le_of_ble_eq_true rfl)⟩)
      dsimp only [Pt.U, Pt.locs, Pt.cells, Pt.slots] at X175 l175 y175 z175 st175 hQ175
      subst l175 y175 z175
      obtain ⟨rfl, N175, E175⟩ := hQ175
      refine own_to st175 ?_
      show own_Go p e below F (T175.setTop (mkF m 220 #[.val (.int a), .val (.int k), .val (.int ln), .val (.int p1), .val (.int s1), .val (.int fl), .val (.ref x1), .val (.ref t4), .val (.ref eo), .val (.int b1), .val (.int b2), .val (.int b3), .val (.ref a108), .val (.ref r130), .val (.int ((1 : Int32))), .val (.int ((1 : Int32))), .unset] [(.int b3)]))
      have N176 := Fr.app N173 N175
      refine own_iload X175.here hx (hb hby at_220) rfl (pc' := 222) rfl ?_
      refine own_icmpne X175.here hx (hb hby at_222) (by decide) (pc' := 229) (by decide) (pc2 := 225) rfl (fun q => absurd rfl q) (fun q177 => ?_)
      refine own_iconst X175.here hx (hb hby at_225) (v := 1) rfl (pc' := 226) rfl ?_
      refine own_goto X175.here hx (hb hby at_226) (by decide) (pc' := 230) (by decide) ?_
      refine own_istore X175.here hx (hb hby at_230) (L' := #[.val (.int a), .val (.int k), .val (.int ln), .val (.int p1), .val (.int s1), .val (.int fl), .val (.ref x1), .val (.ref t4), .val (.ref eo), .val (.int b1), .val (.int b2), .val (.int b3), .val (.ref a108), .val (.ref r130), .val (.int ((1 : Int32))), .val (.int ((1 : Int32))), .val (.int ((1 : Int32)))]) rfl (pc' := 232) rfl ?_
      refine own_iload X175.here hx (hb hby at_232) rfl (pc' := 234) rfl ?_
      refine own_ifeq X175.here hx (hb hby at_234) (by decide) (pc' := 251) (by decide) (pc2 := 237) rfl (fun q => absurd q (by decide)) (fun q178 => ?_)
      refine own_iload X175.here hx (hb hby at_237) rfl (pc' := 239) rfl ?_
      refine own_ifeq X175.here hx (hb hby at_239) (by decide) (pc' := 251) (by decide) (pc2 := 242) rfl (fun q => absurd q (by decide)) (fun q179 => ?_)
      refine own_iload X175.here hx (hb hby at_242) rfl (pc' := 244) rfl ?_
      refine own_ifeq X175.here hx (hb hby at_244) (by decide) (pc' := 251) (by decide) (pc2 := 247) rfl (fun q => absurd q (by decide)) (fun q180 => ?_)
      refine own_iconst X175.here hx (hb hby at_247) (v := 1) rfl (pc' := 248) rfl ?_
      refine own_goto X175.here hx (hb hby at_248) (by decide) (pc' := 252) (by decide) ?_
      exact own_retZW X175 hx hlk hEL J142 E175 (by decide) hret (hb hby at_252) (fun t ht hC hE => hF t _ _ _ _ (by rw [ht]; exact ⟨rfl, (by simpa using N176)⟩) hC hE (by decide) (by decide))
    have J67 : ∀ (b1 b2 : Int32), (b1 = 0 ∨ b1 = 1) → (b2 = 0 ∨ b2 = 1) → own_Go p e below F (T26.setTop (mkF m 67 #[.val (.int a), .val (.int k), .val (.int ln), .val (.int p1), .val (.int s1), .val (.int fl), .val (.ref x1), .val (.ref t4), .val (.ref eo), .val (.int b1), .unset, .unset, .unset, .unset, .unset, .unset, .unset] [(.int b2)])) := by
      intro b1 b2 z1 z2
      refine own_istore X26.here hx (hb hby at_67) (L' := #[.val (.int a), .val (.int k), .val (.int ln), .val (.int p1), .val (.int s1), .val (.int fl), .val (.ref x1), .val (.ref t4), .val (.ref eo), .val (.int b1), .val (.int b2), .unset, .unset, .unset, .unset, .unset, .unset]) rfl (pc' := 69) rfl ?_
      refine own_iload X26.here hx (hb hby at_69) rfl (pc' := 71) rfl ?_
      refine own_iconst X26.here hx (hb hby at_71) (v := 4) rfl (pc' := 72) rfl ?_
      refine own_iand X26.here hx (hb hby at_72) (pc' := 73) rfl ?_
      refine own_ifeq X26.here hx (hb hby at_73) (by decide) (pc' := 80) (by decide) (pc2 := 76) rfl (fun q181 => ?_) (fun q181 => ?_)
      · refine own_iconst X26.here hx (hb hby at_80) (v := 0) rfl (pc' := 81) rfl ?_
        exact J81 b1 b2 (0 : Int32) z1 z2 (by decide)
      · refine own_iconst X26.here hx (hb hby at_76) (v := 1) rfl (pc' := 77) rfl ?_
        refine own_goto X26.here hx (hb hby at_77) (by decide) (pc' := 81) (by decide) ?_
        exact J81 b1 b2 (1 : Int32) z1 z2 (by decide)
    have J53 : ∀ (b1 : Int32), (b1 = 0 ∨ b1 = 1) → own_Go p e below F (T26.setTop (mkF m 53 #[.val (.int a), .val (.int k), .val (.int ln), .val (.int p1), .val (.int s1), .val (.int fl), .val (.ref x1), .val (.ref t4), .val (.ref eo), .unset, .unset, .unset, .unset, .unset, .unset, .unset, .unset] [(.int b1)])) := by
      intro b1 z1
      refine own_istore X26.here hx (hb hby at_53) (L' := #[.val (.int a), .val (.int k), .val (.int ln), .val (.int p1), .val (.int s1), .val (.int fl), .val (.ref x1), .val (.ref t4), .val (.ref eo), .val (.int b1), .unset, .unset, .unset, .unset, .unset, .unset, .unset]) rfl (pc' := 55) rfl ?_
      refine own_iload X26.here hx (hb hby at_55) rfl (pc' := 57) rfl ?_
      refine own_iconst X26.here hx (hb hby at_57) (v := 2) rfl (pc' := 58) rfl ?_
      refine own_iand X26.here hx (hb hby at_58) (pc' := 59) rfl ?_
      refine own_ifeq X26.here hx (hb hby at_59) (by decide) (pc' := 66) (by decide) (pc2 := 62) rfl (fun q182 => ?_) (fun q182 => ?_)
      · refine own_iconst X26.here hx (hb hby at_66) (v := 0) rfl (pc' := 67) rfl ?_
        exact J67 b1 (0 : Int32) z1 (by decide)
      · refine own_iconst X26.here hx (hb hby at_62) (v := 1) rfl (pc' := 63) rfl ?_
        refine own_goto X26.here hx (hb hby at_63) (by decide) (pc' := 67) (by decide) ?_
        exact J67 b1 (1 : Int32) z1 (by decide)
    refine own_iload X26.here hx (hb hby at_41) rfl (pc' := 43) rfl ?_
    refine own_iconst X26.here hx (hb hby at_43) (v := 1) rfl (pc' := 44) rfl ?_
    refine own_iand X26.here hx (hb hby at_44) (pc' := 45) rfl ?_
    refine own_ifeq X26.here hx (hb hby at_45) (by decide) (pc' := 52) (by decide) (pc2 := 48) rfl (fun q183 => ?_) (fun q183 => ?_)
    · refine own_iconst X26.here hx (hb hby at_52) (v := 0) rfl (pc' := 53) rfl ?_
      exact J53 (0 : Int32) (by decide)
    · refine own_iconst X26.here hx (hb hby at_48) (v := 1) rfl (pc' := 49) rfl ?_
      refine own_goto X26.here hx (hb hby at_49) (by decide) (pc' := 53) (by decide) ?_
      exact J53 (1 : Int32) (by decide)
  · obtain ⟨T6, h6, X6, e6, E6, A6, D6, -, st6⟩ := newO X4 hx I1.1 I1.2.1 (hw _ (List.mem_of_getElem? (i := 120) rfl)) (hw _ (List.mem_of_getElem? (i := 121) rfl)) (hw _ (List.mem_of_getElem? (i := 122) rfl)) E4 (g := (mkF m 20 #[.val (.int a), .val (.int k), .val (.int ln), .val (.int p1), .val (.int s1), .val (.int fl), .val (.ref x1), .val (.ref t4), .unset, .unset, .unset, .unset, .unset, .unset, .unset, .unset, .unset] [])) rfl (hb hby at_20) (by decide) (by decide)
    obtain ⟨a6, g6⟩ : ∃ z, z = T1.heap.size := ⟨_, rfl⟩
    rw [← g6] at A6 D6 st6
    have ne7 : x1 ≠ a6 := Nat.ne_of_lt (by rw [g6]; exact A1.lt)
    have ge8 : h0.size ≤ a6 := by rw [g6]; exact f2.1
    have f9 := own_ext_trans f2 E6
    have f10 := A1.ext E6
    have J11 := I1.ext E6
    have F6_0 : Fld Z h6 a6 "com/example/cladistic/cladistic/model/DecimalSize" "precision" "I" (.int ((0 : Int32))) := (D6 (Or.inr (hw _ (List.mem_of_getElem? (i := 128) rfl))) (ty := .int) (by decide))
    have F6_1 : Fld Z h6 a6 "com/example/cladistic/cladistic/model/DecimalSize" "scale" "I" (.int ((0 : Int32))) := (D6 (Or.inr (hw _ (List.mem_of_getElem? (i := 130) rfl))) (ty := .int) (by decide))
    refine own_on st6 ?_
    show own_Go p e below F (T6.setTop (mkF m 23 #[.val (.int a), .val (.int k), .val (.int ln), .val (.int p1), .val (.int s1), .val (.int fl), .val (.ref x1), .val (.ref t4), .unset, .unset, .unset, .unset, .unset, .unset, .unset, .unset, .unset] [(.ref a6)]))
    have gz_a6 : Z.heap.size ≤ a6 := Nat.le_trans EZ.1 ge8
    refine own_dup X6.here hx (hb hby at_23) rfl (pc' := 24) rfl ?_
    refine own_iload_n X6.here hx (hb hby at_24) rfl (pc' := 25) rfl ?_
    refine own_iload X6.here hx (hb hby at_25) rfl (pc' := 27) rfl ?_
    obtain ⟨_, _, ⟨T12, L12, k12, n12⟩, -, X12, ⟨Lc12, hQ12, l12, y12, z12⟩, st12⟩ := X6.specialBack hx (y := (⟨"com/example/cladistic/cladistic/model/DecimalSize", "<init>", "(II)V"⟩ : MethodName)) rfl J11.2.1 (mvT J11.1 (hw _ (List.mem_of_getElem? (i := 123) rfl))) (mvT J11.1 (hw _ (List.mem_of_getElem? (i := 124) rfl))) (mvT J11.1 (hw _ (List.mem_of_getElem? (i := 125) rfl))) (by decide) (backOf (W := 1) (rmDI l Z a0 hw a6 p1 s1 h6 gz_a6 A6 F6_0 F6_1) J11.1 (hw _ (List.mem_of_getElem? (i := 125) rfl)) (hw _ (List.mem_of_getElem? (i := 122) rfl)) (by decide) (by decide)) (g := (mkF m 27 #[.val (.int a), .val (.int k), .val (.int ln), .val (.int p1), .val (.int s1), .val (.int fl), .val (.ref x1), .val (.ref t4), .unset, .unset, .unset, .unset, .unset, .unset, .unset, .unset, .unset] [(.int s1), (.int p1), (.ref a6), (.ref a6)])) rfl (by rw [hml]; rfl) (Steps.refl _) (a := a6) (argsL := [(.int p1), (.int s1)]) (rest := [(.ref a6)]) (lenOf pdDI rfl) rfl (by show 2 * 0 + _ ≤ _; exact Nat.le_of_eq rfl) (hb hby at_27) (fun _ _ => ⟨rfl, e6, (Nat.le_of_ble_eq_true rfl), (Nat.le_of_ble_eq_true rfl)⟩)
    dsimp only [Pt.U, Pt.locs, Pt.cells, Pt.slots] at X12 l12 y12 z12 st12 hQ12
    subst l12 y12 z12
    obtain ⟨rfl, N12, K12⟩ := hQ12
    refine own_to st12 ?_
    show own_Go p e below F (T12.setTop (mkF m 30 #[.val (.int a), .val (.int k), .val (.int ln), .val (.int p1), .val (.int s1), .val (.int fl), .val (.ref x1), .val (.ref t4), .unset, .unset, .unset, .unset, .unset, .unset, .unset, .unset, .unset] [(.ref a6)]))
    have f13 := own_ext_keep f9 K12 (fun y hy => by simp only [List.mem_cons, List.not_mem_nil, or_false] at hy; rcases hy with rfl <;> assumption)
    have f14 := f10.keep K12
    have f15 := A6.keep K12
    have J18 := J11.keep K12 (sfS (Safe.exa J11.1.alike A6 (by decide) (by decide)) sf0)
    have N19 := Fr.app N5 N12
    obtain ⟨_, _, ⟨T20, L20, k20, n20⟩, -, X20, ⟨Lc20, hQ20, l20, y20, z20⟩, st20⟩ := Jvm.LawKit.callS X12 hx (y := (⟨"java/util/Optional", "of", "(Ljava/lang/Object;)Ljava/util/Optional;"⟩ : MethodName)) J18.2.1 (mvT J18.1 (hw _ (List.mem_of_getElem? (i := 131) rfl))) (mvT J18.1 (hw _ (List.mem_of_getElem? (i := 132) rfl))) (mvT J18.1 (hw _ (List.mem_of_getElem? (i := 35) rfl))) (mvT J18.1 (hw _ (List.mem_of_getElem? (i := 133) rfl))) (by decide) (backOf (W := 0) (rmOF l Z a0 hw a6 T12.heap (own_ext_trans EZ f13)) J18.1 (hw _ (List.mem_of_getElem? (i := 133) rfl)) (hw _ (List.mem_of_getElem? (i := 35) rfl)) (by decide) (by decide)) (g := (mkF m 30 #[.val (.int a), .val (.int k), .val (.int ln), .val (.int p1), .val (.int s1), .val (.int fl), .val (.ref x1), .val (.ref t4), .unset, .unset, .unset, .unset, .unset, .unset, .unset, .unset, .unset] [(.ref a6)])) rfl (by rw [hml]; rfl) (argsL := [(.ref a6)]) (rest := []) (lenOf pdOF rfl) rfl (by show 2 * 0 + _ ≤ _; exact Nat.le_of_eq rfl) (hb hby at_30) (fun _ _ => ⟨rfl, rfl, (Nat.le_of_ble_eq_true rfl), (Nat.le_of_ble_eq_true rfl)⟩)
    dsimp only [Pt.U, Pt.locs, Pt.cells, Pt.slots] at X20 l20 y20 z20 st20 hQ20
    subst l20 y20 z20
    obtain ⟨o20, rfl, A20, E20, N20⟩ := hQ20
    refine own_on (st20) ?_
    show own_Go p e below F (T20.setTop (mkF m 33 #[.val (.int a), .val (.int k), .val (.int ln), .val (.int p1), .val (.int s1), .val (.int fl), .val (.ref x1), .val (.ref t4), .unset, .unset, .unset, .unset, .unset, .unset, .unset, .unset, .unset] [(.ref o20)]))
    have f21 := own_ext_trans f13 E20
    have f22 := f14.ext E20
    have f23 := f15.ext E20
    have J24 := J18.ext E20
    have N25 := Fr.app N19 N20
    refine own_goto X20.here hx (hb hby at_33) (by decide) (pc' := 39) (by decide) ?_
    refine own_astore X20.here hx (hb hby at_39) rfl (L' := #[.val (.int a), .val (.int k), .val (.int ln), .val (.int p1), .val (.int s1), .val (.int fl), .val (.ref x1), .val (.ref t4), .val (.ref o20), .unset, .unset, .unset, .unset, .unset, .unset, .unset, .unset]) rfl (pc' := 41) rfl ?_
    have J81 : ∀ (b1 b2 b3 : Int32), (b1 = 0 ∨ b1 = 1) → (b2 = 0 ∨ b2 = 1) → (b3 = 0 ∨ b3 = 1) → own_Go p e below F (T20.setTop (mkF m 81 #[.val (.int a), .val (.int k), .val (.int ln), .val (.int p1), .val (.int s1), .val (.int fl), .val (.ref x1), .val (.ref t4), .val (.ref o20), .val (.int b1), .val (.int b2), .unset, .unset, .unset, .unset, .unset, .unset] [(.int b3)])) := by
      intro b1 b2 b3 z1 z2 z3
      refine own_istore X20.here hx (hb hby at_81) (L' := #[.val (.int a), .val (.int k), .val (.int ln), .val (.int p1), .val (.int s1), .val (.int fl), .val (.ref x1), .val (.ref t4), .val (.ref o20), .val (.int b1), .val (.int b2), .val (.int b3), .unset, .unset, .unset, .unset, .unset]) rfl (pc' := 83) rfl ?_
      obtain ⟨T28, h28, X28, e28, E28, A28, D28, -, st28⟩ := newO X20 hx J24.1 J24.2.1 (hw _ (List.mem_of_getElem? (i := 38) rfl)) (hw _ (List.mem_of_getElem? (i := 39) rfl)) (hw _ (List.mem_of_getElem? (i := 40) rfl)) rfl (g := (mkF m 83 #[.val (.int a), .val (.int k), .val (.int ln), .val (.int p1), .val (.int s1), .val (.int fl), .val (.ref x1), .val (.ref t4), .val (.ref o20), .val (.int b1), .val (.int b2), .val (.int b3), .unset, .unset, .unset, .unset, .unset] [])) rfl (hb hby at_83) (by decide) (by decide)
      obtain ⟨a28, g28⟩ : ∃ z, z = T20.heap.size := ⟨_, rfl⟩
      rw [← g28] at A28 D28 st28
      have ne29 : x1 ≠ a28 := Nat.ne_of_lt (by rw [g28]; exact f22.lt)
      have ne30 : a6 ≠ a28 := Nat.ne_of_lt (by rw [g28]; exact f23.lt)
      have ne31 : o20 ≠ a28 := Nat.ne_of_lt (by rw [g28]; exact A20.lt)
      have ge32 : h0.size ≤ a28 := by rw [g28]; exact f21.1
      have f33 := own_ext_trans f21 E28
      have f34 := f22.ext E28
      have f35 := f23.ext E28
      have f36 := A20.ext E28
      have J37 := J24.ext E28
      have F28_0 : Fld Z h28 a28 "com/example/cladistic/cladistic/model/ColumnDef" "name" "Ljava/lang/String;" (.null) := (D28 (Or.inr (hw _ (List.mem_of_getElem? (i := 51) rfl))) (ty := .object "java/lang/String") (by decide))
      have F28_1 : Fld Z h28 a28 "com/example/cladistic/cladistic/model/ColumnDef" "type" "Lcom/example/cladistic/cladistic/model/ValueType;" (.null) := (D28 (Or.inr (hw _ (List.mem_of_getElem? (i := 53) rfl))) (ty := .object "com/example/cladistic/cladistic/model/ValueType") (by decide))
      have F28_2 : Fld Z h28 a28 "com/example/cladistic/cladistic/model/ColumnDef" "length" "I" (.int ((0 : Int32))) := (D28 (Or.inr (hw _ (List.mem_of_getElem? (i := 55) rfl))) (ty := .int) (by decide))
      have F28_3 : Fld Z h28 a28 "com/example/cladistic/cladistic/model/ColumnDef" "decimal" "Ljava/util/Optional;" (.null) := (D28 (Or.inr (hw _ (List.mem_of_getElem? (i := 57) rfl))) (ty := .object "java/util/Optional") (by decide))
      have F28_4 : Fld Z h28 a28 "com/example/cladistic/cladistic/model/ColumnDef" "nullable" "Z" (.int ((0 : Int32))) := (D28 (Or.inr (hw _ (List.mem_of_getElem? (i := 59) rfl))) (ty := .boolean) (by decide))
      have F28_5 : Fld Z h28 a28 "com/example/cladistic/cladistic/model/ColumnDef" "primaryKey" "Z" (.int ((0 : Int32))) := (D28 (Or.inr (hw _ (List.mem_of_getElem? (i := 61) rfl))) (ty := .boolean) (by decide))
      have F28_6 : Fld Z h28 a28 "com/example/cladistic/cladistic/model/ColumnDef" "generated" "Z" (.int ((0 : Int32))) := (D28 (Or.inr (hw _ (List.mem_of_getElem? (i := 63) rfl))) (ty := .boolean) (by decide))
      refine own_on st28 ?_
      show own_Go p e below F (T28.setTop (mkF m 86 #[.val (.int a), .val (.int k), .val (.int ln), .val (.int p1), .val (.int s1), .val (.int fl), .val (.ref x1), .val (.ref t4), .val (.ref o20), .val (.int b1), .val (.int b2), .val (.int b3), .unset, .unset, .unset, .unset, .unset] [(.ref a28)]))
      have gz_a28 : Z.heap.size ≤ a28 := Nat.le_trans EZ.1 ge32
      refine own_dup X28.here hx (hb hby at_86) rfl (pc' := 87) rfl ?_
      refine own_aload X28.here hx (hb hby at_87) rfl rfl (pc' := 89) rfl ?_
      refine own_aload X28.here hx (hb hby at_89) rfl rfl (pc' := 91) rfl ?_
      refine own_iload_n X28.here hx (hb hby at_91) rfl (pc' := 92) rfl ?_
      refine own_aload X28.here hx (hb hby at_92) rfl rfl (pc' := 94) rfl ?_
      refine own_iload X28.here hx (hb hby at_94) rfl (pc' := 96) rfl ?_
      refine own_iload X28.here hx (hb hby at_96) rfl (pc' := 98) rfl ?_
      refine own_iload X28.here hx (hb hby at_98) rfl (pc' := 100) rfl ?_
      obtain ⟨_, _, ⟨T38, L38, k38, n38⟩, -, X38, ⟨Lc38, hQ38, l38, y38, z38⟩, st38⟩ := X28.specialBack hx (y := (⟨"com/example/cladistic/cladistic/model/ColumnDef", "<init>", "(Ljava/lang/String;Lcom/example/cladistic/cladistic/model/ValueType;ILjava/util/Optional;ZZZ)V"⟩ : MethodName)) rfl J37.2.1 (mvT J37.1 (hw _ (List.mem_of_getElem? (i := 41) rfl))) (mvT J37.1 (hw _ (List.mem_of_getElem? (i := 42) rfl))) (mvT J37.1 (hw _ (List.mem_of_getElem? (i := 43) rfl))) (by decide) (backOf (W := 1) (rmCI l Z a0 hw a28 x1 t4 o20 ln b1 b2 b3 h28 gz_a28 z1 z2 z3 A28 F28_0 F28_1 F28_2 F28_3 F28_4 F28_5 F28_6) J37.1 (hw _ (List.mem_of_getElem? (i := 43) rfl)) (hw _ (List.mem_of_getElem? (i := 40) rfl)) (by decide) (by decide)) (g := (mkF m 100 #[.val (.int a), .val (.int k), .val (.int ln), .val (.int p1), .val (.int s1), .val (.int fl), .val (.ref x1), .val (.ref t4), .val (.ref o20), .val (.int b1), .val (.int b2), .val (.int b3), .unset, .unset, .unset, .unset, .unset] [(.int b3), (.int b2), (.int b1), (.ref o20), (.int ln), (.ref t4), (.ref x1), (.ref a28), (.ref a28)])) rfl (by rw [hml]; rfl) (Steps.refl _) (a := a28) (argsL := [(.ref x1), (.ref t4), (.int ln), (.ref o20), (.int b1), (.int b2), (.int b3)]) (rest := [(.ref a28)]) (lenOf pdCI rfl) rfl (by show 2 * 0 + _ ≤ _; exact Nat.le_of_eq rfl) (hb hby at_100) (fun _ _ => ⟨rfl, e28, (Nat.le_of_ble_eq_true rfl), (Nat.le_of_ble_eq_true rfl)⟩)
      dsimp only [Pt.U, Pt.locs, Pt.cells, Pt.slots] at X38 l38 y38 z38 st38 hQ38
      subst l38 y38 z38
      obtain ⟨rfl, N38, K38, G38_0, G38_1, G38_2, G38_3, G38_4, G38_5, G38_6⟩ := hQ38
      refine own_to st38 ?_
      show own_Go p e below F (T38.setTop (mkF m 103 #[.val (.int a), .val (.int k), .val (.int ln), .val (.int p1), .val (.int s1), .val (.int fl), .val (.ref x1), .val (.ref t4), .val (.ref o20), .val (.int b1), .val (.int b2), .val (.int b3), .unset, .unset, .unset, .unset, .unset] [(.ref a28)]))
      have f39 := own_ext_keep f33 K38 (fun y hy => by simp only [List.mem_cons, List.not_mem_nil, or_false] at hy; rcases hy with rfl <;> assumption)
      have f40 := f34.keep K38
      have f41 := f35.keep K38
      have f42 := f36.keep K38
      have f43 := A28.keep K38
      have J51 := J37.keep K38 (sfS (Safe.exa J37.1.alike A28 (by decide) (by decide)) sf0)
      have N52 := Fr.app N25 N38
      refine own_astore X38.here hx (hb hby at_103) rfl (L' := #[.val (.int a), .val (.int k), .val (.int ln), .val (.int p1), .val (.int s1), .val (.int fl), .val (.ref x1), .val (.ref t4), .val (.ref o20), .val (.int b1), .val (.int b2), .val (.int b3), .val (.ref a28), .unset, .unset, .unset, .unset]) rfl (pc' := 105) rfl ?_
      refine own_aload X38.here hx (hb hby at_105) rfl rfl (pc' := 107) rfl ?_
      obtain ⟨cq53, kq53, qa53, qb53, qc53⟩ := isOf J51.1 rfl f43
      obtain ⟨_, _, ⟨T53, L53, k53, n53⟩, -, X53, ⟨Lc53, hQ53, l53, y53, z53⟩, st53⟩ := X38.virtualBack hx (y := (⟨"com/example/cladistic/cladistic/model/ColumnDef", "asNullable", "()Lcom/example/cladistic/cladistic/model/ColumnDef;"⟩ : MethodName)) (z := (⟨"com/example/cladistic/cladistic/model/ColumnDef", "asNullable", "()Lcom/example/cladistic/cladistic/model/ColumnDef;"⟩ : MethodName)) J51.2.1 (mvT J51.1 (hw _ (List.mem_of_getElem? (i := 64) rfl))) (mvT J51.1 (hw _ (List.mem_of_getElem? (i := 65) rfl))) (notFace_of_selects (args := #[]) (mvT J51.1 (hw _ (List.mem_of_getElem? (i := 67) rfl)))) (mvT J51.1 (hw _ (List.mem_of_getElem? (i := 67) rfl))) (mvT J51.1 (hw _ (List.mem_of_getElem? (i := 66) rfl))) (by decide) (backOf (W := 0) (rmAN l Z a0 hw a28 x1 t4 o20 ln b1 b2 b3 T38.heap (own_ext_trans EZ f39) G38_0 G38_1 G38_2 G38_3) J51.1 (hw _ (List.mem_of_getElem? (i := 68) rfl)) (hw _ (List.mem_of_getElem? (i := 40) rfl)) (by decide) (by decide)) qa53 qc53 (g := (mkF m 107 #[.val (.int a), .val (.int k), .val (.int ln), .val (.int p1), .val (.int s1), .val (.int fl), .val (.ref x1), .val (.ref t4), .val (.ref o20), .val (.int b1), .val (.int b2), .val (.int b3), .val (.ref a28), .unset, .unset, .unset, .unset] [(.ref a28)])) rfl (by rw [hml]; rfl) (Steps.refl _) (argsL := []) (rest := []) (lenOf pdAN rfl) rfl (by show 2 * 0 + _ ≤ _; exact Nat.le_of_eq rfl) (hb hby at_107) (fun _ _ => ⟨rfl, rfl, (Nat.le_of_ble_eq_true rfl), (Nat.le_of_ble_eq_true rfl)⟩)
      dsimp only [Pt.U, Pt.locs, Pt.cells, Pt.slots] at X53 l53 y53 z53 st53 hQ53
      subst l53 y53 z53
      obtain ⟨r53, rfl, E53, N53, A53, H53_0, H53_1, H53_2, H53_3, H53_4, H53_5, H53_6⟩ := hQ53
      refine own_to st53 ?_
      show own_Go p e below F (T53.setTop (mkF m 110 #[.val (.int a), .val (.int k), .val (.int ln), .val (.int p1), .val (.int s1), .val (.int fl), .val (.ref x1), .val (.ref t4), .val (.ref o20), .val (.int b1), .val (.int b2), .val (.int b3), .val (.ref a28), .unset, .unset, .unset, .unset] [(.ref r53)]))
      have f54 := own_ext_trans f39 E53
      have f55 := f40.ext E53
      have f56 := f41.ext E53
      have f57 := f42.ext E53
      have f58 := f43.ext E53
      have f59 := G38_0.ext E53
      have f60 := G38_1.ext E53
      have f61 := G38_2.ext E53
      have f62 := G38_3.ext E53
      have f63 := G38_4.ext E53
      have f64 := G38_5.ext E53
      have f65 := G38_6.ext E53
      have J66 := J51.ext E53
      have N67 := Fr.app N52 N53
      refine own_astore X53.here hx (hb hby at_110) rfl (L' := #[.val (.int a), .val (.int k), .val (.int ln), .val (.int p1), .val (.int s1), .val (.int fl), .val (.ref x1), .val (.ref t4), .val (.ref o20), .val (.int b1), .val (.int b2), .val (.int b3), .val (.ref a28), .val (.ref r53), .unset, .unset, .unset]) rfl (pc' := 112) rfl ?_
      refine own_aload X53.here hx (hb hby at_112) rfl rfl (pc' := 114) rfl ?_
      obtain ⟨cq68, kq68, qa68, qb68, qc68⟩ := isOf J66.1 rfl A53
      obtain ⟨_, _, ⟨T68, L68, k68, n68⟩, -, X68, ⟨Lc68, hQ68, l68, y68, z68⟩, st68⟩ := X53.virtualBack hx (y := (⟨"com/example/cladistic/cladistic/model/ColumnDef", "name", "()Ljava/lang/String;"⟩ : MethodName)) (z := (⟨"com/example/cladistic/cladistic/model/ColumnDef", "name", "()Ljava/lang/String;"⟩ : MethodName)) J66.2.1 (mvT J66.1 (hw _ (List.mem_of_getElem? (i := 71) rfl))) (mvT J66.1 (hw _ (List.mem_of_getElem? (i := 72) rfl))) (notFace_of_selects (args := #[]) (mvT J66.1 (hw _ (List.mem_of_getElem? (i := 74) rfl)))) (mvT J66.1 (hw _ (List.mem_of_getElem? (i := 74) rfl))) (mvT J66.1 (hw _ (List.mem_of_getElem? (i := 73) rfl))) (by decide) (backOf (W := 0) (rmG0 l Z a0 hw r53 x1 T53.heap H53_0) J66.1 (hw _ (List.mem_of_getElem? (i := 75) rfl)) (hw _ (List.mem_of_getElem? (i := 40) rfl)) (by decide) (by decide)) qa68 qc68 (g := (mkF m 114 #[.val (.int a), .val (.int k), .val (.int ln), .val (.int p1), .val (.int s1), .val (.int fl), .val (.ref x1), .val (.ref t4), .val (.ref o20), .val (.int b1), .val (.int b2), .val (.int b3), .val (.ref a28), .val (.ref r53), .unset, .unset, .unset] [(.ref r53)])) rfl (by rw [hml]; rfl) (Steps.refl _) (argsL := []) (rest := []) (lenOf pdG0 rfl) rfl (by show 2 * 0 + _ ≤ _; exact Nat.le_of_eq rfl) (hb hby at_114) (fun _ _ => ⟨rfl, rfl, (Nat.le_of_ble_eq_true rfl), (Nat.le_of_ble_eq_true rfl)⟩)
      dsimp only [Pt.U, Pt.locs, Pt.cells, Pt.slots] at X68 l68 y68 z68 st68 hQ68
      subst l68 y68 z68
      obtain ⟨rfl, N68, E68⟩ := hQ68
      refine own_to st68 ?_
      show own_Go p e below F (T68.setTop (mkF m 117 #[.val (.int a), .val (.int k), .val (.int ln), .val (.int p1), .val (.int s1), .val (.int fl), .val (.ref x1), .val (.ref t4), .val (.ref o20), .val (.int b1), .val (.int b2), .val (.int b3), .val (.ref a28), .val (.ref r53), .unset, .unset, .unset] [(.ref x1)]))
      have N69 := Fr.app N67 N68
      refine own_aload X68.here hx (hb hby at_117) rfl rfl (pc' := 119) rfl ?_
      obtain ⟨cq70, kq70, qa70, qb70, qc70⟩ := isOf J66.1 E68 f55
      obtain ⟨_, _, ⟨T70, L70, k70, n70⟩, -, X70, ⟨Lc70, hQ70, l70, y70, z70⟩, st70⟩ := X68.virtualBack hx (y := (⟨"java/lang/String", "equals", "(Ljava/lang/Object;)Z"⟩ : MethodName)) (z := (⟨"java/lang/String", "equals", "(Ljava/lang/Object;)Z"⟩ : MethodName)) J66.2.1 (mvT J66.1 (hw _ (List.mem_of_getElem? (i := 76) rfl))) (mvT J66.1 (hw _ (List.mem_of_getElem? (i := 77) rfl))) (notFace_of_selects (args := #[]) (mvT J66.1 (hw _ (List.mem_of_getElem? (i := 79) rfl)))) (mvT J66.1 (hw _ (List.mem_of_getElem? (i := 79) rfl))) (mvT J66.1 (hw _ (List.mem_of_getElem? (i := 78) rfl))) (by decide) (backOf (W := 0) (rmEq l Z a0 hw x1 T53.heap) J66.1 (hw _ (List.mem_of_getElem? (i := 80) rfl)) (hw _ (List.mem_of_getElem? (i := 6) rfl)) (by decide) (by decide)) qa70 qc70 (g := (mkF m 119 #[.val (.int a), .val (.int k), .val (.int ln), .val (.int p1), .val (.int s1), .val (.int fl), .val (.ref x1), .val (.ref t4), .val (.ref o20), .val (.int b1), .val (.int b2), .val (.int b3), .val (.ref a28), .val (.ref r53), .unset, .unset, .unset] [(.ref x1), (.ref x1)])) rfl (by rw [hml]; rfl) (Steps.refl _) (argsL := [(.ref x1)]) (rest := []) (lenOf pdEq rfl) rfl (by show 2 * 0 + _ ≤ _; exact Nat.le_of_eq rfl) (hb hby at_119) (fun _ _ => ⟨rfl, E68, (Nat.le_of_ble_eq_true rfl), (Nat.le_of_ble_eq_true rfl)⟩)
      dsimp only [Pt.U, Pt.locs, Pt.cells, Pt.slots] at X70 l70 y70 z70 st70 hQ70
      subst l70 y70 z70
      obtain ⟨rfl, N70, E70⟩ := hQ70
      refine own_to st70 ?_
      show own_Go p e below F (T70.setTop (mkF m 122 #[.val (.int a), .val (.int k), .val (.int ln), .val (.int p1), .val (.int s1), .val (.int fl), .val (.ref x1), .val (.ref t4), .val (.ref o20), .val (.int b1), .val (.int b2), .val (.int b3), .val (.ref a28), .val (.ref r53), .unset, .unset, .unset] [(.int ((1 : Int32)))]))
      have N71 := Fr.app N69 N70
      refine own_ifeq X70.here hx (hb hby at_122) (by decide) (pc' := 161) (by decide) (pc2 := 125) rfl (fun q => absurd q (by decide)) (fun q72 => ?_)
      refine own_aload X70.here hx (hb hby at_125) rfl rfl (pc' := 127) rfl ?_
      obtain ⟨cq73, kq73, qa73, qb73, qc73⟩ := isOf J66.1 E70 A53
      obtain ⟨_, _, ⟨T73, L73, k73, n73⟩, -, X73, ⟨Lc73, hQ73, l73, y73, z73⟩, st73⟩ := X70.virtualBack hx (y := (⟨"com/example/cladistic/cladistic/model/ColumnDef", "type", "()Lcom/example/cladistic/cladistic/model/ValueType;"⟩ : MethodName)) (z := (⟨"com/example/cladistic/cladistic/model/ColumnDef", "type", "()Lcom/example/cladistic/cladistic/model/ValueType;"⟩ : MethodName)) J66.2.1 (mvT J66.1 (hw _ (List.mem_of_getElem? (i := 81) rfl))) (mvT J66.1 (hw _ (List.mem_of_getElem? (i := 82) rfl))) (notFace_of_selects (args := #[]) (mvT J66.1 (hw _ (List.mem_of_getElem? (i := 84) rfl)))) (mvT J66.1 (hw _ (List.mem_of_getElem? (i := 84) rfl))) (mvT J66.1 (hw _ (List.mem_of_getElem? (i := 83) rfl))) (by decide) (backOf (W := 0) (rmG1 l Z a0 hw r53 t4 T53.heap H53_1) J66.1 (hw _ (List.mem_of_getElem? (i := 85) rfl)) (hw _ (List.mem_of_getElem? (i := 40) rfl)) (by decide) (by decide)) qa73 qc73 (g := (mkF m 127 #[.val (.int a), .val (.int k), .val (.int ln), .val (.int p1), .val (.int s1), .val (.int fl), .val (.ref x1), .val (.ref t4), .val (.ref o20), .val (.int b1), .val (.int b2), .val (.int b3), .val (.ref a28), .val (.ref r53), .unset, .unset, .unset] [(.ref r53)])) rfl (by rw [hml]; rfl) (Steps.refl _) (argsL := []) (rest := []) (lenOf pdG1 rfl) rfl (by show 2 * 0 + _ ≤ _; exact Nat.le_of_eq rfl) (hb hby at_127) (fun _ _ => ⟨rfl, E70, (Nat.le_of_ble_eq_true rfl), (Nat.le_of_ble_eq_true rfl)⟩)
      dsimp only [Pt.U, Pt.locs, Pt.cells, Pt.slots] at X73 l73 y73 z73 st73 hQ73
      subst l73 y73 z73
      obtain ⟨rfl, N73, E73⟩ := hQ73
      refine own_to st73 ?_
      show own_Go p e below F (T73.setTop (mkF m 130 #[.val (.int a), .val (.int k), .val (.int ln), .val (.int p1), .val (.int s1), .val (.int fl), .val (.ref x1), .val (.ref t4), .val (.ref o20), .val (.int b1), .val (.int b2), .val (.int b3), .val (.ref a28), .val (.ref r53), .unset, .unset, .unset] [(.ref t4)]))
      have N74 := Fr.app N71 N73
      refine own_aload X73.here hx (hb hby at_130) rfl rfl (pc' := 132) rfl ?_
      refine own_acmpne X73.here hx rfl rfl (hb hby at_132) (by decide) (pc' := 161) (by decide) (pc2 := 135) rfl (fun q => absurd rfl q) (fun q75 => ?_)
      refine own_aload X73.here hx (hb hby at_135) rfl rfl (pc' := 137) rfl ?_
      obtain ⟨cq76, kq76, qa76, qb76, qc76⟩ := isOf J66.1 E73 A53
      obtain ⟨_, _, ⟨T76, L76, k76, n76⟩, -, X76, ⟨Lc76, hQ76, l76, y76, z76⟩, st76⟩ := X73.virtualBack hx (y := (⟨"com/example/cladistic/cladistic/model/ColumnDef", "length", "()I"⟩ : MethodName)) (z := (⟨"com/example/cladistic/cladistic/model/ColumnDef", "length", "()I"⟩ : MethodName)) J66.2.1 (mvT J66.1 (hw _ (List.mem_of_getElem? (i := 86) rfl))) (mvT J66.1 (hw _ (List.mem_of_getElem? (i := 87) rfl))) (notFace_of_selects (args := #[]) (mvT J66.1 (hw _ (List.mem_of_getElem? (i := 89) rfl)))) (mvT J66.1 (hw _ (List.mem_of_getElem? (i := 89) rfl))) (mvT J66.1 (hw _ (List.mem_of_getElem? (i := 88) rfl))) (by decide) (backOf (W := 0) (rmG2 l Z a0 hw r53 ln T53.heap H53_2) J66.1 (hw _ (List.mem_of_getElem? (i := 90) rfl)) (hw _ (List.mem_of_getElem? (i := 40) rfl)) (by decide) (by decide)) qa76 qc76 (g := (mkF m 137 #[.val (.int a), .val (.int k), .val (.int ln), .val (.int p1), .val (.int s1), .val (.int fl), .val (.ref x1), .val (.ref t4), .val (.ref o20), .val (.int b1), .val (.int b2), .val (.int b3), .val (.ref a28), .val (.ref r53), .unset, .unset, .unset] [(.ref r53)])) rfl (by rw [hml]; rfl) (Steps.refl _) (argsL := []) (rest := []) (lenOf pdG2 rfl) rfl (by show 2 * 0 + _ ≤ _; exact Nat.le_of_eq rfl) (hb hby at_137) (fun _ _ => ⟨rfl, E73, (Nat.le_of_ble_eq_true rfl), (Nat.le_of_ble_eq_true rfl)⟩)
      dsimp only [Pt.U, Pt.locs, Pt.cells, Pt.slots] at X76 l76 y76 z76 st76 hQ76
      subst l76 y76 z76
      obtain ⟨rfl, N76, E76⟩ := hQ76
      refine own_to st76 ?_
      show own_Go p e below F (T76.setTop (mkF m 140 #[.val (.int a), .val (.int k), .val (.int ln), .val (.int p1), .val (.int s1), .val (.int fl), .val (.ref x1), .val (.ref t4), .val (.ref o20), .val (.int b1), .val (.int b2), .val (.int b3), .val (.ref a28), .val (.ref r53), .unset, .unset, .unset] [(.int ln)]))
      have N77 := Fr.app N74 N76
      refine own_iload_n X76.here hx (hb hby at_140) rfl (pc' := 141) rfl ?_
      refine own_icmpne X76.here hx (hb hby at_141) (by decide) (pc' := 161) (by decide) (pc2 := 144) rfl (fun q => absurd rfl q) (fun q78 => ?_)
      refine own_aload X76.here hx (hb hby at_144) rfl rfl (pc' := 146) rfl ?_
      obtain ⟨cq79, kq79, qa79, qb79, qc79⟩ := isOf J66.1 E76 A53
      obtain ⟨_, _, ⟨T79, L79, k79, n79⟩, -, X79, ⟨Lc79, hQ79, l79, y79, z79⟩, st79⟩ := X76.virtualBack hx (y := (⟨"com/example/cladistic/cladistic/model/ColumnDef", "decimal", "()Ljava/util/Optional;"⟩ : MethodName)) (z := (⟨"com/example/cladistic/cladistic/model/ColumnDef", "decimal", "()Ljava/util/Optional;"⟩ : MethodName)) J66.2.1 (mvT J66.1 (hw _ (List.mem_of_getElem? (i := 91) rfl))) (mvT J66.1 (hw _ (List.mem_of_getElem? (i := 92) rfl))) (notFace_of_selects (args := #[]) (mvT J66.1 (hw _ (List.mem_of_getElem? (i := 94) rfl)))) (mvT J66.1 (hw _ (List.mem_of_getElem? (i := 94) rfl))) (mvT J66.1 (hw _ (List.mem_of_getElem? (i := 93) rfl))) (by decide) (backOf (W := 0) (rmG3 l Z a0 hw r53 o20 T53.heap H53_3) J66.1 (hw _ (List.mem_of_getElem? (i := 95) rfl)) (hw _ (List.mem_of_getElem? (i := 40) rfl)) (by decide) (by decide)) qa79 qc79 (g := (mkF m 146 #[.val (.int a), .val (.int k), .val (.int ln), .val (.int p1), .val (.int s1), .val (.int fl), .val (.ref x1), .val (.ref t4), .val (.ref o20), .val (.int b1), .val (.int b2), .val (.int b3), .val (.ref a28), .val (.ref r53), .unset, .unset, .unset] [(.ref r53)])) rfl (by rw [hml]; rfl) (Steps.refl _) (argsL := []) (rest := []) (lenOf pdG3 rfl) rfl (by show 2 * 0 + _ ≤ _; exact Nat.le_of_eq rfl) (hb hby at_146) (fun _ _ => ⟨rfl, E76, (Nat.le_of_ble_eq_true rfl), (Nat.le_of_ble_eq_true rfl)⟩)
      dsimp only [Pt.U, Pt.locs, Pt.cells, Pt.slots] at X79 l79 y79 z79 st79 hQ79
      subst l79 y79 z79
      obtain ⟨rfl, N79, E79⟩ := hQ79
      refine own_to st79 ?_
      show own_Go p e below F (T79.setTop (mkF m 149 #[.val (.int a), .val (.int k), .val (.int ln), .val (.int p1), .val (.int s1), .val (.int fl), .val (.ref x1), .val (.ref t4), .val (.ref o20), .val (.int b1), .val (.int b2), .val (.int b3), .val (.ref a28), .val (.ref r53), .unset, .unset, .unset] [(.ref o20)]))
      have N80 := Fr.app N77 N79
      refine own_aload X79.here hx (hb hby at_149) rfl rfl (pc' := 151) rfl ?_
      obtain ⟨cq81, kq81, qa81, qb81, qc81⟩ := isOf J66.1 E79 f57
      obtain ⟨_, _, ⟨T81, L81, k81, n81⟩, -, X81, ⟨Lc81, hQ81, l81, y81, z81⟩, st81⟩ := X79.virtualBack hx (y := (⟨"java/util/Optional", "equals", "(Ljava/lang/Object;)Z"⟩ : MethodName)) (z := (⟨"java/util/Optional", "equals", "(Ljava/lang/Object;)Z"⟩ : MethodName)) J66.2.1 (mvT J66.1 (hw _ (List.mem_of_getElem? (i := 96) rfl))) (mvT J66.1 (hw _ (List.mem_of_getElem? (i := 97) rfl))) (notFace_of_selects (args := #[]) (mvT J66.1 (hw _ (List.mem_of_getElem? (i := 99) rfl)))) (mvT J66.1 (hw _ (List.mem_of_getElem? (i := 99) rfl))) (mvT J66.1 (hw _ (List.mem_of_getElem? (i := 98) rfl))) (by decide) (backOf (W := 0) (rmEo l Z a0 hw o20 T53.heap) J66.1 (hw _ (List.mem_of_getElem? (i := 100) rfl)) (hw _ (List.mem_of_getElem? (i := 35) rfl)) (by decide) (by decide)) qa81 qc81 (g := (mkF m 151 #[.val (.int a), .val (.int k), .val (.int ln), .val (.int p1), .val (.int s1), .val (.int fl), .val (.ref x1), .val (.ref t4), .val (.ref o20), .val (.int b1), .val (.int b2), .val (.int b3), .val (.ref a28), .val (.ref r53), .unset, .unset, .unset] [(.ref o20), (.ref o20)])) rfl (by rw [hml]; rfl) (Steps.refl _) (argsL := [(.ref o20)]) (rest := []) (lenOf pdEq rfl) rfl (by show 2 * 0 + _ ≤ _; exact Nat.le_of_eq rfl) (hb hby at_151) (fun _ _ => ⟨rfl, E79, (Nat.le_of_ble_eq_true rfl), (Nat.le_of_ble_eq_true rfl)⟩)
      dsimp only [Pt.U, Pt.locs, Pt.cells, Pt.slots] at X81 l81 y81 z81 st81 hQ81
      subst l81 y81 z81
      obtain ⟨rfl, N81, E81⟩ := hQ81
      refine own_to st81 ?_
      show own_Go p e below F (T81.setTop (mkF m 154 #[.val (.int a), .val (.int k), .val (.int ln), .val (.int p1), .val (.int s1), .val (.int fl), .val (.ref x1), .val (.ref t4), .val (.ref o20), .val (.int b1), .val (.int b2), .val (.int b3), .val (.ref a28), .val (.ref r53), .unset, .unset, .unset] [(.int ((1 : Int32)))]))
      have N82 := Fr.app N80 N81
      refine own_ifeq X81.here hx (hb hby at_154) (by decide) (pc' := 161) (by decide) (pc2 := 157) rfl (fun q => absurd q (by decide)) (fun q83 => ?_)
      refine own_iconst X81.here hx (hb hby at_157) (v := 1) rfl (pc' := 158) rfl ?_
      refine own_goto X81.here hx (hb hby at_158) (by decide) (pc' := 162) (by decide) ?_
      refine own_istore X81.here hx (hb hby at_162) (L' := #[.val (.int a), .val (.int k), .val (.int ln), .val (.int p1), .val (.int s1), .val (.int fl), .val (.ref x1), .val (.ref t4), .val (.ref o20), .val (.int b1), .val (.int b2), .val (.int b3), .val (.ref a28), .val (.ref r53), .val (.int ((1 : Int32))), .unset, .unset]) rfl (pc' := 164) rfl ?_
      refine own_aload X81.here hx (hb hby at_164) rfl rfl (pc' := 166) rfl ?_
      obtain ⟨cq84, kq84, qa84, qb84, qc84⟩ := isOf J66.1 E81 A53
      obtain ⟨_, _, ⟨T84, L84, k84, n84⟩, -, X84, ⟨Lc84, hQ84, l84, y84, z84⟩, st84⟩ := X81.virtualBack hx (y := (⟨"com/example/cladistic/cladistic/model/ColumnDef", "nullable", "()Z"⟩ : MethodName)) (z := (⟨"com/example/cladistic/cladistic/model/ColumnDef", "nullable", "()Z"⟩ : MethodName)) J66.2.1 (mvT J66.1 (hw _ (List.mem_of_getElem? (i := 101) rfl))) (mvT J66.1 (hw _ (List.mem_of_getElem? (i := 102) rfl))) (notFace_of_selects (args := #[]) (mvT J66.1 (hw _ (List.mem_of_getElem? (i := 104) rfl)))) (mvT J66.1 (hw _ (List.mem_of_getElem? (i := 104) rfl))) (mvT J66.1 (hw _ (List.mem_of_getElem? (i := 103) rfl))) (by decide) (backOf (W := 0) (rmG4 l Z a0 hw r53 (1 : Int32) T53.heap (Or.inr rfl) H53_4) J66.1 (hw _ (List.mem_of_getElem? (i := 105) rfl)) (hw _ (List.mem_of_getElem? (i := 40) rfl)) (by decide) (by decide)) qa84 qc84 (g := (mkF m 166 #[.val (.int a), .val (.int k), .val (.int ln), .val (.int p1), .val (.int s1), .val (.int fl), .val (.ref x1), .val (.ref t4), .val (.ref o20), .val (.int b1), .val (.int b2), .val (.int b3), .val (.ref a28), .val (.ref r53), .val (.int ((1 : Int32))), .unset, .unset] [(.ref r53)])) rfl (by rw [hml]; rfl) (Steps.refl _) (argsL := []) (rest := []) (lenOf pdG6 rfl) rfl (by show 2 * 0 + _ ≤ _; exact Nat.le_of_eq rfl) (hb hby at_166) (fun _ _ => ⟨rfl, E81, (Nat.le_of_ble_eq_true rfl), (Nat.le_of_ble_eq_true rfl)⟩)
      dsimp only [Pt.U, Pt.locs, Pt.cells, Pt.slots] at X84 l84 y84 z84 st84 hQ84
      subst l84 y84 z84
      obtain ⟨rfl, N84, E84⟩ := hQ84
      refine own_to st84 ?_
      show own_Go p e below F (T84.setTop (mkF m 169 #[.val (.int a), .val (.int k), .val (.int ln), .val (.int p1), .val (.int s1), .val (.int fl), .val (.ref x1), .val (.ref t4), .val (.ref o20), .val (.int b1), .val (.int b2), .val (.int b3), .val (.ref a28), .val (.ref r53), .val (.int ((1 : Int32))), .unset, .unset] [(.int ((1 : Int32)))]))
      have N85 := Fr.app N82 N84
      refine own_ifeq X84.here hx (hb hby at_169) (by decide) (pc' := 192) (by decide) (pc2 := 172) rfl (fun q => absurd q (by decide)) (fun q86 => ?_)
      refine own_aload X84.here hx (hb hby at_172) rfl rfl (pc' := 174) rfl ?_
      obtain ⟨cq87, kq87, qa87, qb87, qc87⟩ := isOf J66.1 E84 A53
      obtain ⟨_, _, ⟨T87, L87, k87, n87⟩, -, X87, ⟨Lc87, hQ87, l87, y87, z87⟩, st87⟩ := X84.virtualBack hx (y := (⟨"com/example/cladistic/cladistic/model/ColumnDef", "primaryKey", "()Z"⟩ : MethodName)) (z := (⟨"com/example/cladistic/cladistic/model/ColumnDef", "primaryKey", "()Z"⟩ : MethodName)) J66.2.1 (mvT J66.1 (hw _ (List.mem_of_getElem? (i := 106) rfl))) (mvT J66.1 (hw _ (List.mem_of_getElem? (i := 107) rfl))) (notFace_of_selects (args := #[]) (mvT J66.1 (hw _ (List.mem_of_getElem? (i := 109) rfl)))) (mvT J66.1 (hw _ (List.mem_of_getElem? (i := 109) rfl))) (mvT J66.1 (hw _ (List.mem_of_getElem? (i := 108) rfl))) (by decide) (backOf (W := 0) (rmG5 l Z a0 hw r53 (0 : Int32) T53.heap (Or.inl rfl) H53_5) J66.1 (hw _ (List.mem_of_getElem? (i := 110) rfl)) (hw _ (List.mem_of_getElem? (i := 40) rfl)) (by decide) (by decide)) qa87 qc87 (g := (mkF m 174 #[.val (.int a), .val (.int k), .val (.int ln), .val (.int p1), .val (.int s1), .val (.int fl), .val (.ref x1), .val (.ref t4), .val (.ref o20), .val (.int b1), .val (.int b2), .val (.int b3), .val (.ref a28), .val (.ref r53), .val (.int ((1 : Int32))), .unset, .unset] [(.ref r53)])) rfl (by rw [hml]; rfl) (Steps.refl _) (argsL := []) (rest := []) (lenOf pdG6 rfl) rfl (by show 2 * 0 + _ ≤ _; exact Nat.le_of_eq rfl) (hb hby at_174) (fun _ _ => ⟨rfl, E84, (Nat.le_of_ble_eq_true rfl), (Nat.le_of_ble_eq_true rfl)⟩)
      dsimp only [Pt.U, Pt.locs, Pt.cells, Pt.slots] at X87 l87 y87 z87 st87 hQ87
      subst l87 y87 z87
      obtain ⟨rfl, N87, E87⟩ := hQ87
      refine own_to st87 ?_
      show own_Go p e below F (T87.setTop (mkF m 177 #[.val (.int a), .val (.int k), .val (.int ln), .val (.int p1), .val (.int s1), .val (.int fl), .val (.ref x1), .val (.ref t4), .val (.ref o20), .val (.int b1), .val (.int b2), .val (.int b3), .val (.ref a28), .val (.ref r53), .val (.int ((1 : Int32))), .unset, .unset] [(.int ((0 : Int32)))]))
      have N88 := Fr.app N85 N87
      refine own_ifne X87.here hx (hb hby at_177) (by decide) (pc' := 192) (by decide) (pc2 := 180) rfl (fun q => absurd rfl q) (fun q89 => ?_)
      refine own_aload X87.here hx (hb hby at_180) rfl rfl (pc' := 182) rfl ?_
      obtain ⟨cq90, kq90, qa90, qb90, qc90⟩ := isOf J66.1 E87 A53
      obtain ⟨_, _, ⟨T90, L90, k90, n90⟩, -, X90, ⟨Lc90, hQ90, l90, y90, z90⟩, st90⟩ := X87.virtualBack hx (y := (⟨"com/example/cladistic/cladistic/model/ColumnDef", "generated", "()Z"⟩ : MethodName)) (z := (⟨"com/example/cladistic/cladistic/model/ColumnDef", "generated", "()Z"⟩ : MethodName)) J66.2.1 (mvT J66.1 (hw _ (List.mem_of_getElem? (i := 111) rfl))) (mvT J66.1 (hw _ (List.mem_of_getElem? (i := 112) rfl))) (notFace_of_selects (args := #[]) (mvT J66.1 (hw _ (List.mem_of_getElem? (i := 114) rfl)))) (mvT J66.1 (hw _ (List.mem_of_getElem? (i := 114) rfl))) (mvT J66.1 (hw _ (List.mem_of_getElem? (i := 113) rfl))) (by decide) (backOf (W := 0) (rmG6 l Z a0 hw r53 (0 : Int32) T53.heap (Or.inl rfl) H53_6) J66.1 (hw _ (List.mem_of_getElem? (i := 115) rfl)) (hw _ (List.mem_of_getElem? (i := 40) rfl)) (by decide) (by decide)) qa90 qc90 (g := (mkF m 182 #[.val (.int a), .val (.int k), .val (.int ln), .val (.int p1), .val (.int s1), .val (.int fl), .val (.ref x1), .val (.ref t4), .val (.ref o20), .val (.int b1), .val (.int b2), .val (.int b3), .val (.ref a28), .val (.ref r53), .val (.int ((1 : Int32))), .unset, .unset] [(.ref r53)])) rfl (by rw [hml]; rfl) (Steps.refl _) (argsL := []) (rest := []) (lenOf pdG6 rfl) rfl (by show 2 * 0 + _ ≤ _; exact Nat.le_of_eq rfl) (hb hby at_182) (fun _ _ => ⟨rfl, E87, (Nat.le_of_ble_eq_true rfl), (Nat.le_of_ble_eq_true rfl)⟩)
      dsimp only [Pt.U, Pt.locs, Pt.cells, Pt.slots] at X90 l90 y90 z90 st90 hQ90
      subst l90 y90 z90
      obtain ⟨rfl, N90, E90⟩ := hQ90
      refine own_to st90 ?_
      show own_Go p e below F (T90.setTop (mkF m 185 #[.val (.int a), .val (.int k), .val (.int ln), .val (.int p1), .val (.int s1), .val (.int fl), .val (.ref x1), .val (.ref t4), .val (.ref o20), .val (.int b1), .val (.int b2), .val (.int b3), .val (.ref a28), .val (.ref r53), .val (.int ((1 : Int32))), .unset, .unset] [(.int ((0 : Int32)))]))
      have N91 := Fr.app N88 N90
      refine own_ifne X90.here hx (hb hby at_185) (by decide) (pc' := 192) (by decide) (pc2 := 188) rfl (fun q => absurd rfl q) (fun q92 => ?_)
      refine own_iconst X90.here hx (hb hby at_188) (v := 1) rfl (pc' := 189) rfl ?_
      refine own_goto X90.here hx (hb hby at_189) (by decide) (pc' := 193) (by decide) ?_
      refine own_istore X90.here hx (hb hby at_193) (L' := #[.val (.int a), .val (.int k), .val (.int ln), .val (.int p1), .val (.int s1), .val (.int fl), .val (.ref x1), .val (.ref t4), .val (.ref o20), .val (.int b1), .val (.int b2), .val (.int b3), .val (.ref a28), .val (.ref r53), .val (.int ((1 : Int32))), .val (.int ((1 : Int32))), .unset]) rfl (pc' := 195) rfl ?_
      refine own_aload X90.here hx (hb hby at_195) rfl rfl (pc' := 197) rfl ?_
      obtain ⟨cq93, kq93, qa93, qb93, qc93⟩ := isOf J66.1 E90 f58
      obtain ⟨_, _, ⟨T93, L93, k93, n93⟩, -, X93, ⟨Lc93, hQ93, l93, y93, z93⟩, st93⟩ := X90.virtualBack hx (y := (⟨"com/example/cladistic/cladistic/model/ColumnDef", "nullable", "()Z"⟩ : MethodName)) (z := (⟨"com/example/cladistic/cladistic/model/ColumnDef", "nullable", "()Z"⟩ : MethodName)) J66.2.1 (mvT J66.1 (hw _ (List.mem_of_getElem? (i := 101) rfl))) (mvT J66.1 (hw _ (List.mem_of_getElem? (i := 102) rfl))) (notFace_of_selects (args := #[]) (mvT J66.1 (hw _ (List.mem_of_getElem? (i := 104) rfl)))) (mvT J66.1 (hw _ (List.mem_of_getElem? (i := 104) rfl))) (mvT J66.1 (hw _ (List.mem_of_getElem? (i := 103) rfl))) (by decide) (backOf (W := 0) (rmG4 l Z a0 hw a28 b1 T53.heap z1 f63) J66.1 (hw _ (List.mem_of_getElem? (i := 105) rfl)) (hw _ (List.mem_of_getElem? (i := 40) rfl)) (by decide) (by decide)) qa93 qc93 (g := (mkF m 197 #[.val (.int a), .val (.int k), .val (.int ln), .val (.int p1), .val (.int s1), .val (.int fl), .val (.ref x1), .val (.ref t4), .val (.ref o20), .val (.int b1), .val (.int b2), .val (.int b3), .val (.ref a28), .val (.ref r53), .val (.int ((1 : Int32))), .val (.int ((1 : Int32))), .unset] [(.ref a28)])) rfl (by rw [hml]; rfl) (Steps.refl _) (argsL := []) (rest := []) (lenOf pdG6 rfl) rfl (by show 2 * 0 + _ ≤ _; exact Nat.le_of_eq rfl) (hb hby at_197) (fun _ _ => ⟨rfl, E90, (Nat.le_of_ble_eq_true rfl), (Nat.le_of_ble_eq_true rfl)⟩)
      dsimp only [Pt.U, Pt.locs, Pt.cells, Pt.slots] at X93 l93 y93 z93 st93 hQ93
      subst l93 y93 z93
      obtain ⟨rfl, N93, E93⟩ := hQ93
      refine own_to st93 ?_
      show own_Go p e below F (T93.setTop (mkF m 200 #[.val (.int a), .val (.int k), .val (.int ln), .val (.int p1), .val (.int s1), .val (.int fl), .val (.ref x1), .val (.ref t4), .val (.ref o20), .val (.int b1), .val (.int b2), .val (.int b3), .val (.ref a28), .val (.ref r53), .val (.int ((1 : Int32))), .val (.int ((1 : Int32))), .unset] [(.int b1)]))
      have N94 := Fr.app N91 N93
      refine own_iload X93.here hx (hb hby at_200) rfl (pc' := 202) rfl ?_
      refine own_icmpne X93.here hx (hb hby at_202) (by decide) (pc' := 229) (by decide) (pc2 := 205) rfl (fun q => absurd rfl q) (fun q95 => ?_)
      refine own_aload X93.here hx (hb hby at_205) rfl rfl (pc' := 207) rfl ?_
      obtain ⟨cq96, kq96, qa96, qb96, qc96⟩ := isOf J66.1 E93 f58
      obtain ⟨_, _, ⟨T96, L96, k96, n96⟩, -, X96, ⟨Lc96, hQ96, l96, y96, z96⟩, st96⟩ := X93.virtualBack hx (y := (⟨"com/example/cladistic/cladistic/model/ColumnDef", "primaryKey", "()Z"⟩ : MethodName)) (z := (⟨"com/example/cladistic/cladistic/model/ColumnDef", "primaryKey", "()Z"⟩ : MethodName)) J66.2.1 (mvT J66.1 (hw _ (List.mem_of_getElem? (i := 106) rfl))) (mvT J66.1 (hw _ (List.mem_of_getElem? (i := 107) rfl))) (notFace_of_selects (args := #[]) (mvT J66.1 (hw _ (List.mem_of_getElem? (i := 109) rfl)))) (mvT J66.1 (hw _ (List.mem_of_getElem? (i := 109) rfl))) (mvT J66.1 (hw _ (List.mem_of_getElem? (i := 108) rfl))) (by decide) (backOf (W := 0) (rmG5 l Z a0 hw a28 b2 T53.heap z2 f64) J66.1 (hw _ (List.mem_of_getElem? (i := 110) rfl)) (hw _ (List.mem_of_getElem? (i := 40) rfl)) (by decide) (by decide)) qa96 qc96 (g := (mkF m 207 #[.val (.int a), .val (.int k), .val (.int ln), .val (.int p1), .val (.int s1), .val (.int fl), .val (.ref x1), .val (.ref t4), .val (.ref o20), .val (.int b1), .val (.int b2), .val (.int b3), .val (.ref a28), .val (.ref r53), .val (.int ((1 : Int32))), .val (.int ((1 : Int32))), .unset] [(.ref a28)])) rfl (by rw [hml]; rfl) (Steps.refl _) (argsL := []) (rest := []) (lenOf pdG6 rfl) rfl (by show 2 * 0 + _ ≤ _; exact Nat.le_of_eq rfl) (hb hby at_207) (fun _ _ => ⟨rfl, E93, (Nat.le_of_ble_eq_true rfl), (Nat.le_of_ble_eq_true rfl)⟩)
      dsimp only [Pt.U, Pt.locs, Pt.cells, Pt.slots] at X96 l96 y96 z96 st96 hQ96
      subst l96 y96 z96
      obtain ⟨rfl, N96, E96⟩ := hQ96
      refine own_to st96 ?_
      show own_Go p e below F (T96.setTop (mkF m 210 #[.val (.int a), .val (.int k), .val (.int ln), .val (.int p1), .val (.int s1), .val (.int fl), .val (.ref x1), .val (.ref t4), .val (.ref o20), .val (.int b1), .val (.int b2), .val (.int b3), .val (.ref a28), .val (.ref r53), .val (.int ((1 : Int32))), .val (.int ((1 : Int32))), .unset] [(.int b2)]))
      have N97 := Fr.app N94 N96
      refine own_iload X96.here hx (hb hby at_210) rfl (pc' := 212) rfl ?_
      refine own_icmpne X96.here hx (hb hby at_212) (by decide) (pc' := 229) (by decide) (pc2 := 215) rfl (fun q => absurd rfl q) (fun q98 => ?_)
      refine own_aload X96.here hx (hb hby at_215) rfl rfl (pc' := 217) rfl ?_
      obtain ⟨cq99, kq99, qa99, qb99, qc99⟩ := isOf J66.1 E96 f58
      obtain ⟨_, _, ⟨T99, L99, k99, n99⟩, -, X99, ⟨Lc99, hQ99, l99, y99, z99⟩, st99⟩ := X96.virtualBack hx (y := (⟨"com/example/cladistic/cladistic/model/ColumnDef", "generated", "()Z"⟩ : MethodName)) (z := (⟨"com/example/cladistic/cladistic/model/ColumnDef", "generated", "()Z"⟩ : MethodName)) J66.2.1 (mvT J66.1 (hw _ (List.mem_of_getElem? (i := 111) rfl))) (mvT J66.1 (hw _ (List.mem_of_getElem? (i := 112) rfl))) (notFace_of_selects (args := #[]) (mvT J66.1 (hw _ (List.mem_of_getElem? (i := 114) rfl)))) (mvT J66.1 (hw _ (List.mem_of_getElem? (i := 114) rfl))) (mvT J66.1 (hw _ (List.mem_of_getElem? (i := 113) rfl))) (by decide) (backOf (W := 0) (rmG6 l Z a0 hw a28 b3 T53.heap z3 f65) J66.1 (hw _ (List.mem_of_getElem? (i := 115) rfl)) (hw _ (List.mem_of_getElem? (i := 40) rfl)) (by decide) (by decide)) qa99 qc99 (g := (mkF m 217 #[.val (.int a), .val (.int k), .val (.int ln), .val (.int p1), .val (.int s1), .val (.int fl), .val (.ref x1), .val (.ref t4), .val (.ref o20), .val (.int b1), .val (.int b2), .val (.int b3), .val (.ref a28), .val (.ref r53), .val (.int ((1 : Int32))), .val (.int ((1 : Int32))), .unset] [(.ref a28)])) rfl (by rw [hml]; rfl) (Steps.refl _) (argsL := []) (rest := []) (lenOf pdG6 rfl) rfl (by show 2 * 0 + _ ≤ _; exact Nat.le_of_eq rfl) (hb hby at_217) (fun _ _ => ⟨rfl, E96, (Nat.le_of_ble_eq_true rfl), (Nat.le_of_ble_eq_true rfl)⟩)
      dsimp only [Pt.U, Pt.locs, Pt.cells, Pt.slots] at X99 l99 y99 z99 st99 hQ99
      subst l99 y99 z99
      obtain ⟨rfl, N99, E99⟩ := hQ99
      refine own_to st99 ?_
      show own_Go p e below F (T99.setTop (mkF m 220 #[.val (.int a), .val (.int k), .val (.int ln), .val (.int p1), .val (.int s1), .val (.int fl), .val (.ref x1), .val (.ref t4), .val (.ref o20), .val (.int b1), .val (.int b2), .val (.int b3), .val (.ref a28), .val (.ref r53), .val (.int ((1 : Int32))), .val (.int ((1 : Int32))), .unset] [(.int b3)]))
      have N100 := Fr.app N97 N99
      refine own_iload X99.here hx (hb hby at_220) rfl (pc' := 222) rfl ?_
      refine own_icmpne X99.here hx (hb hby at_222) (by decide) (pc' := 229) (by decide) (pc2 := 225) rfl (fun q => absurd rfl q) (fun q101 => ?_)
      refine own_iconst X99.here hx (hb hby at_225) (v := 1) rfl (pc' := 226) rfl ?_
      refine own_goto X99.here hx (hb hby at_226) (by decide) (pc' := 230) (by decide) ?_
      refine own_istore X99.here hx (hb hby at_230) (L' := #[.val (.int a), .val (.int k), .val (.int ln), .val (.int p1), .val (.int s1), .val (.int fl), .val (.ref x1), .val (.ref t4), .val (.ref o20), .val (.int b1), .val (.int b2), .val (.int b3), .val (.ref a28), .val (.ref r53), .val (.int ((1 : Int32))), .val (.int ((1 : Int32))), .val (.int ((1 : Int32)))]) rfl (pc' := 232) rfl ?_
      refine own_iload X99.here hx (hb hby at_232) rfl (pc' := 234) rfl ?_
      refine own_ifeq X99.here hx (hb hby at_234) (by decide) (pc' := 251) (by decide) (pc2 := 237) rfl (fun q => absurd q (by decide)) (fun q102 => ?_)
      refine own_iload X99.here hx (hb hby at_237) rfl (pc' := 239) rfl ?_
      refine own_ifeq X99.here hx (hb hby at_239) (by decide) (pc' := 251) (by decide) (pc2 := 242) rfl (fun q => absurd q (by decide)) (fun q103 => ?_)
      refine own_iload X99.here hx (hb hby at_242) rfl (pc' := 244) rfl ?_
      refine own_ifeq X99.here hx (hb hby at_244) (by decide) (pc' := 251) (by decide) (pc2 := 247) rfl (fun q => absurd q (by decide)) (fun q104 => ?_)
      refine own_iconst X99.here hx (hb hby at_247) (v := 1) rfl (pc' := 248) rfl ?_
      refine own_goto X99.here hx (hb hby at_248) (by decide) (pc' := 252) (by decide) ?_
      exact own_retZW X99 hx hlk hEL J66 E99 (by decide) hret (hb hby at_252) (fun t ht hC hE => hF t _ _ _ _ (by rw [ht]; exact ⟨rfl, (by simpa using N100)⟩) hC hE (by decide) (by decide))
    have J67 : ∀ (b1 b2 : Int32), (b1 = 0 ∨ b1 = 1) → (b2 = 0 ∨ b2 = 1) → own_Go p e below F (T20.setTop (mkF m 67 #[.val (.int a), .val (.int k), .val (.int ln), .val (.int p1), .val (.int s1), .val (.int fl), .val (.ref x1), .val (.ref t4), .val (.ref o20), .val (.int b1), .unset, .unset, .unset, .unset, .unset, .unset, .unset] [(.int b2)])) := by
      intro b1 b2 z1 z2
      refine own_istore X20.here hx (hb hby at_67) (L' := #[.val (.int a), .val (.int k), .val (.int ln), .val (.int p1), .val (.int s1), .val (.int fl), .val (.ref x1), .val (.ref t4), .val (.ref o20), .val (.int b1), .val (.int b2), .unset, .unset, .unset, .unset, .unset, .unset]) rfl (pc' := 69) rfl ?_
      refine own_iload X20.here hx (hb hby at_69) rfl (pc' := 71) rfl ?_
      refine own_iconst X20.here hx (hb hby at_71) (v := 4) rfl (pc' := 72) rfl ?_
      refine own_iand X20.here hx (hb hby at_72) (pc' := 73) rfl ?_
      refine own_ifeq X20.here hx (hb hby at_73) (by decide) (pc' := 80) (by decide) (pc2 := 76) rfl (fun q105 => ?_) (fun q105 => ?_)
      · refine own_iconst X20.here hx (hb hby at_80) (v := 0) rfl (pc' := 81) rfl ?_
        exact J81 b1 b2 (0 : Int32) z1 z2 (by decide)
      · refine own_iconst X20.here hx (hb hby at_76) (v := 1) rfl (pc' := 77) rfl ?_
        refine own_goto X20.here hx (hb hby at_77) (by decide) (pc' := 81) (by decide) ?_
        exact J81 b1 b2 (1 : Int32) z1 z2 (by decide)
    have J53 : ∀ (b1 : Int32), (b1 = 0 ∨ b1 = 1) → own_Go p e below F (T20.setTop (mkF m 53 #[.val (.int a), .val (.int k), .val (.int ln), .val (.int p1), .val (.int s1), .val (.int fl), .val (.ref x1), .val (.ref t4), .val (.ref o20), .unset, .unset, .unset, .unset, .unset, .unset, .unset, .unset] [(.int b1)])) := by
      intro b1 z1
      refine own_istore X20.here hx (hb hby at_53) (L' := #[.val (.int a), .val (.int k), .val (.int ln), .val (.int p1), .val (.int s1), .val (.int fl), .val (.ref x1), .val (.ref t4), .val (.ref o20), .val (.int b1), .unset, .unset, .unset, .unset, .unset, .unset, .unset]) rfl (pc' := 55) rfl ?_
      refine own_iload X20.here hx (hb hby at_55) rfl (pc' := 57) rfl ?_
      refine own_iconst X20.here hx (hb hby at_57) (v := 2) rfl (pc' := 58) rfl ?_
      refine own_iand X20.here hx (hb hby at_58) (pc' := 59) rfl ?_
      refine own_ifeq X20.here hx (hb hby at_59) (by decide) (pc' := 66) (by decide) (pc2 := 62) rfl (fun q106 => ?_) (fun q106 => ?_)
      · refine own_iconst X20.here hx (hb hby at_66) (v := 0) rfl (pc' := 67) rfl ?_
        exact J67 b1 (0 : Int32) z1 (by decide)
      · refine own_iconst X20.here hx (hb hby at_62) (v := 1) rfl (pc' := 63) rfl ?_
        refine own_goto X20.here hx (hb hby at_63) (by decide) (pc' := 67) (by decide) ?_
        exact J67 b1 (1 : Int32) z1 (by decide)
    refine own_iload X20.here hx (hb hby at_41) rfl (pc' := 43) rfl ?_
    refine own_iconst X20.here hx (hb hby at_43) (v := 1) rfl (pc' := 44) rfl ?_
    refine own_iand X20.here hx (hb hby at_44) (pc' := 45) rfl ?_
    refine own_ifeq X20.here hx (hb hby at_45) (by decide) (pc' := 52) (by decide) (pc2 := 48) rfl (fun q107 => ?_) (fun q107 => ?_)
    · refine own_iconst X20.here hx (hb hby at_52) (v := 0) rfl (pc' := 53) rfl ?_
      exact J53 (0 : Int32) (by decide)
    · refine own_iconst X20.here hx (hb hby at_48) (v := 1) rfl (pc' := 49) rfl ?_
      refine own_goto X20.here hx (hb hby at_49) (by decide) (pc' := 53) (by decide) ?_
      exact J53 (1 : Int32) (by decide)
set_option maxRecDepth 65536 in
set_option maxHeartbeats 40000000 in
theorem comes_1 {Post : Tables → Env → Array Value → State → Outcome → State → Prop} (hpost : ∀ tb e args s v u, (limb_1_1.after args s (.returned v) u = true ∧ limb_1_2.after args s (.returned v) u = true ∧ True) → FramedW s (.returned v) u (Jvm.fieldLocs frame_1_writes args s ++ Jvm.arrayLocs frame_1_arrays args s ++ Jvm.staticLocs frame_1_statics s) 24 1152 → Post tb e args s (.returned v) u) :
    ArmFor flags0 classFile x code maxLocals ret World_1 tables_1 room_1 Calls_1 rest_1 Pre_1 Post := by
  intro l hfl _ _ p e ha hc hk s m args below hf hA hF happ hP
  obtain ⟨hcalls, hrest, hpre⟩ := hP
  obtain ⟨-, -, -, hnamed, -, -, -, hat⟩ := (Spec.applies_iff hf).mp happ
  obtain ⟨hg, hn⟩ := and_e (Cond.before_iff.mp (show (Jvm.Cond.and given_1 narrow_1).before args s = true from hpre))
  obtain ⟨g1, g2⟩ := and_e hg
  obtain ⟨w0, w1, w2, w3, w4, w5, rfl⟩ : ∃ w0 w1 w2 w3 w4 w5 : Value, args = #[w0, w1, w2, w3, w4, w5] := by
    have hs : args.size = 6 := by simpa [Cond.value, given_1] using g1
    obtain ⟨L⟩ := args
    match L, hs with
    | [w0, w1, w2, w3, w4, w5], _ => exact ⟨w0, w1, w2, w3, w4, w5, rfl⟩
  have hw := fun d (hd : d ∈ tables_1) => atoms_spec (ws := Jvm.Cond.code x code maxLocals ret :: tables_1) hat d (List.mem_cons_of_mem _ hd)
  have hfit : Fit s := fun {y c} hc i hi => by
    obtain ⟨ha, rfl⟩ := Array.getElem?_eq_some_iff.mp hc
    have q := List.all_eq_true.mp ((Array.all_eq_true_iff_forall_mem.mp hF) _ (Array.getElem_mem ha)) i (List.mem_range.mpr hi)
    simpa [Array.getElem?_eq_getElem hi] using q
  obtain ⟨a0, g3⟩ := and_e g2
  obtain ⟨i0, b0⟩ := is_v a0
  obtain rfl : w0 = (.int i0) := Option.some.inj b0
  obtain ⟨a1, g4⟩ := and_e g3
  obtain ⟨i1, b1⟩ := is_v a1
  obtain rfl : w1 = (.int i1) := Option.some.inj b1
  obtain ⟨a2, g5⟩ := and_e g4
  obtain ⟨i2, b2⟩ := is_v a2
  obtain rfl : w2 = (.int i2) := Option.some.inj b2
  obtain ⟨a3, g6⟩ := and_e g5
  obtain ⟨i3, b3⟩ := is_v a3
  obtain rfl : w3 = (.int i3) := Option.some.inj b3
  obtain ⟨a4, g7⟩ := and_e g6
  obtain ⟨i4, b4⟩ := is_v a4
  obtain rfl : w4 = (.int i4) := Option.some.inj b4
  obtain ⟨i5, b5⟩ := is_v g7
  obtain rfl : w5 = (.int i5) := Option.some.inj b5
  obtain ⟨hsets, -⟩ := atoms_of _ (rest_1_c_eq ▸ (show rest_1_c.before _ s = true from hrest))
  have hz0 := not_v (Cond.before_iff.mp (hsets _ (List.mem_of_getElem? (i := 6) rfl)))
  obtain ⟨z0, ez0⟩ := is_v (Cond.before_iff.mp (hsets _ (List.mem_of_getElem? (i := 5) rfl)))
  have O1 : Sta s s.heap "java/lang/String" "COMPACT_STRINGS" "Z" (.int z0) := Sta.start ez0 (Or.inl (hsets _ (List.mem_of_getElem? (i := 4) rfl)))
  have P5 : ¬ (z0 = (0 : Int32)) := gotF (Cond.eq_ints ez0 (Term.int_eval (0))) hz0
  have hEL : EW s _ EL := EW.cons (hw _ (List.mem_of_getElem? (i := 18) rfl)) (by decide) EW.nil
  have hcw : Jvm.Lit.compactW.before _ s = true := hsets _ (List.mem_of_getElem? (i := 6) rfl)
  have hC : CHv s EL s.vm s.heap := CHv.start hEL (fun q hq => by
    simp only [EL, List.mem_cons, List.not_mem_nil, or_false] at hq
    exact hcalls.1 q (by subst hq; simp [consts_1])) hcw (hw _ (by decide +kernel)) (hw _ own_wiS)
  obtain ⟨eo, _, _, _, vE, -⟩ := Cond.exactly_spec (hsets _ (List.mem_of_getElem? (i := 2) rfl))
  have OE : Sta s s.heap "java/util/Optional" "EMPTY" "Ljava/util/Optional;" (.ref eo) := Sta.start vE (Or.inl (hsets _ (List.mem_of_getElem? (i := 1) rfl)))
  have AE : Exa s s.heap eo "java/util/Optional" := Exa.start vE (Cond.before_iff.mp (hsets _ (List.mem_of_getElem? (i := 2) rfl)))
  obtain ⟨y0, r0⟩ := and_e hn
  obtain ⟨v3, _, _, _, u3, -⟩ := Cond.exactly_spec (Cond.before_iff.mpr y0)
  obtain ⟨y1, r1⟩ := and_e r0
  obtain ⟨v10, _, _, _, u10, -⟩ := Cond.exactly_spec (Cond.before_iff.mpr y1)
  obtain ⟨y2, r2⟩ := and_e r1
  obtain ⟨v4, _, _, _, u4, -⟩ := Cond.exactly_spec (Cond.before_iff.mpr y2)
  obtain ⟨y3, r3⟩ := and_e r2
  obtain ⟨v2, _, _, _, u2, -⟩ := Cond.exactly_spec (Cond.before_iff.mpr y3)
  obtain ⟨y4, r4⟩ := and_e r3
  obtain ⟨v1, _, _, _, u1, -⟩ := Cond.exactly_spec (Cond.before_iff.mpr y4)
  obtain ⟨y5, r5⟩ := and_e r4
  obtain ⟨v6, _, _, _, u6, -⟩ := Cond.exactly_spec (Cond.before_iff.mpr y5)
  obtain ⟨y6, r6⟩ := and_e r5
  obtain ⟨v5, _, _, _, u5, -⟩ := Cond.exactly_spec (Cond.before_iff.mpr y6)
  obtain ⟨y7, r7⟩ := and_e r6
  obtain ⟨v7, _, _, _, u7, -⟩ := Cond.exactly_spec (Cond.before_iff.mpr y7)
  obtain ⟨y8, r8⟩ := and_e r7
  obtain ⟨v8, _, _, _, u8, -⟩ := Cond.exactly_spec (Cond.before_iff.mpr y8)
  obtain ⟨y9, r9⟩ := and_e r8
  obtain ⟨v0, _, _, _, u0, -⟩ := Cond.exactly_spec (Cond.before_iff.mpr y9)
  obtain ⟨v9, _, _, _, u9, -⟩ := Cond.exactly_spec (Cond.before_iff.mpr r9)
  obtain ⟨n, o, h1, h2, h3, _, L, rfl, ⟨rfl, N⟩, -, hq⟩ := rmL l s _ hw hEL i0 i1 i2 i3 i4 i5 s.heap (own_ext_refl _) z0 O1 P5 v0 (Sta.start u0 (Or.inr ⟨(hw _ (List.mem_of_getElem? (i := 31) rfl)), (hw _ (List.mem_of_getElem? (i := 171) rfl))⟩)) v1 (Sta.start u1 (Or.inr ⟨(hw _ (List.mem_of_getElem? (i := 31) rfl)), (hw _ (List.mem_of_getElem? (i := 161) rfl))⟩)) v2 (Sta.start u2 (Or.inr ⟨(hw _ (List.mem_of_getElem? (i := 31) rfl)), (hw _ (List.mem_of_getElem? (i := 148) rfl))⟩)) v3 (Sta.start u3 (Or.inr ⟨(hw _ (List.mem_of_getElem? (i := 31) rfl)), (hw _ (List.mem_of_getElem? (i := 32) rfl))⟩)) v4 (Sta.start u4 (Or.inr ⟨(hw _ (List.mem_of_getElem? (i := 31) rfl)), (hw _ (List.mem_of_getElem? (i := 119) rfl))⟩)) v5 (Sta.start u5 (Or.inr ⟨(hw _ (List.mem_of_getElem? (i := 31) rfl)), (hw _ (List.mem_of_getElem? (i := 165) rfl))⟩)) v6 (Sta.start u6 (Or.inr ⟨(hw _ (List.mem_of_getElem? (i := 31) rfl)), (hw _ (List.mem_of_getElem? (i := 163) rfl))⟩)) v7 (Sta.start u7 (Or.inr ⟨(hw _ (List.mem_of_getElem? (i := 31) rfl)), (hw _ (List.mem_of_getElem? (i := 167) rfl))⟩)) v8 (Sta.start u8 (Or.inr ⟨(hw _ (List.mem_of_getElem? (i := 31) rfl)), (hw _ (List.mem_of_getElem? (i := 169) rfl))⟩)) v9 (Sta.start u9 (Or.inr ⟨(hw _ (List.mem_of_getElem? (i := 31) rfl)), (hw _ (List.mem_of_getElem? (i := 173) rfl))⟩)) v10 (Sta.start u10 (Or.inr ⟨(hw _ (List.mem_of_getElem? (i := 31) rfl)), (hw _ (List.mem_of_getElem? (i := 117) rfl))⟩)) eo OE AE p e ha hc hk s m _ below hf ((Spec.applies_iff_loose hf).mp happ).1 ⟨rfl, State.Warmed39.refl s, rfl, hC, fun _ q => nomatch q⟩ trivial
  refine ⟨n, _, h1, h2, h3, hpost _ _ _ _ _ _ ⟨Cond.after_iff.mpr rfl, Cond.after_iff.mpr (eq_i res_at (Term.int_eval (1)) rfl), trivial⟩ ⟨hq.1, hq.2.1, hq.2.2.1, hq.2.2.2.sift fun y hy => Or.inr (N y hy)⟩⟩
theorem main_1_1 : Claimed_1_1 := comes_1 fun _ _ _ _ _ _ h hF => ⟨h.1, hF⟩
theorem main_1_2 : Claimed_1_2 := comes_1 fun _ _ _ _ _ _ h hF => ⟨h.2.1, hF⟩
end Jvm.Pilot.@@N@@
namespace Jvm.Pilot.@@N@@
open Jvm Jvm.ClassFile Sem Op Lib Jvm.Free Jvm.Stand Jvm.Pilot.@@N@@.Jvm.D
/-! MADE BY PROGRAM (witnessworld.py) out of the Statement's table words and the real class files: 26 classes; the members and pool entries that the words name. The judged class is class 1, her method 1. -/
namespace start1
open Jvm.ClassFile
def u (s : String) : CpInfo := .utf8 (stringToUtf16 s)
/-- a pool by its gaps: so many unusable entries, then the entry; so many at the end -/
def gap : Nat → List CpInfo → List CpInfo
  | 0, r => r
  | n + 1, r => .unusable :: gap n r
def poolList (es : List (Nat × CpInfo)) (last : Nat) : List CpInfo := es.foldr (fun e r => gap e.1 (e.2 :: r)) (gap last [])
def pool (es : List (Nat × CpInfo)) (last : Nat) : Array CpInfo := ⟨poolList es last⟩
def fileOf (pool : Array CpInfo) (this : Nat) (attrs : Array Attribute := #[]) (ms : Array MethodInfo := #[]) (fl : Nat := 33) (sup : Nat := 0) (ifs : Array Nat := #[]) (fds : Array FieldInfo := #[]) : ClassFile where
  minorVersion := 0
  majorVersion := 65
  constantPool := pool
  accessFlags := fl
  thisClass := this
  superClass := sup
  interfaces := ifs
  fields := fds
  methods := ms
  attributes := attrs
def plain (name : String) (sup : Option ClassId) : Class where
  name := name
  kind := .ordinary
  loader := none
  accessFlags := 33
  super := sup
  interfaces := #[]
  cf := none
  fields := #[]
  methods := #[]
  instanceTypes := #[]
  staticTypes := #[]
  resolved := #[]
  callSites := []
  init := .initialized
  statics := none
  mirror := none

def pool0 : Array CpInfo := pool [(5, u "<init>"), (0, u "()V"), (1, .class_ 10), (1, u "java/lang/Object")] 113

def k0c0 : Code := { maxStack := 0, maxLocals := 1, code := object_method_1_code, exceptionTable := #[], attributes := #[] }
def k0m0 : Method := { name := "<init>", desc := "()V", sig := { parameters := [], returnType := none }, accessFlags := 1, code := some k0c0 }
/-- java/lang/Object -/
def k0 : Class := { plain "java/lang/Object" none with
  accessFlags := 33
  interfaces := #[]
  cf := some (fileOf pool0 8 #[] #[{ accessFlags := 1, nameIndex := 5, descriptorIndex := 6, attributes := #[] }] 33 0 #[] #[])
  fields := #[]
  methods := #[k0m0]
  instanceTypes := #[]
  staticTypes := #[]
  resolved := Array.replicate 124 none
  statics := none }

def pool1 : Array CpInfo := pool [(2, .class_ 4), (1, u "java/lang/Object"), (0, u "<init>"), (0, u "()V"), (0, .methodref 8 9), (0, .class_ 10), (0, .nameAndType 11 12), (0, u "com/example/cladistic/cladistic/model/ColumnDefAsNullablePinLaw"), (0, u "name"), (0, u "(I)Ljava/lang/String;"), (0, .methodref 8 14), (0, .nameAndType 15 16), (0, u "type"), (0, u "(I)Lcom/example/cladistic/cladistic/model/ValueType;"), (0, .class_ 18), (0, u "com/example/cladistic/cladistic/model/DecimalSize"), (0, .methodref 17 20), (0, .nameAndType 5 21), (0, u "(II)V"), (0, .methodref 23 24), (0, .class_ 25), (0, .nameAndType 26 27), (0, u "java/util/Optional"), (0, u "of"), (0, u "(Ljava/lang/Object;)Ljava/util/Optional;"), (0, .methodref 23 29), (0, .nameAndType 30 31), (0, u "empty"), (0, u "()Ljava/util/Optional;"), (0, .class_ 33), (0, u "com/example/cladistic/cladistic/model/ColumnDef"), (0, .methodref 32 35), (0, .nameAndType 5 36), (0, u "(Ljava/lang/String;Lcom/example/cladistic/cladistic/model/ValueType;ILjava/util/Optional;ZZZ)V"), (0, .methodref 32 38), (0, .nameAndType 39 40), (0, u "asNullable"), (0, u "()Lcom/example/cladistic/cladistic/model/ColumnDef;"), (0, .methodref 32 42), (0, .nameAndType 11 43), (0, u "()Ljava/lang/String;"), (0, .methodref 45 46), (0, .class_ 47), (0, .nameAndType 48 49), (0, u "java/lang/String"), (0, u "equals"), (0, u "(Ljava/lang/Object;)Z"), (0, .methodref 32 51), (0, .nameAndType 15 52), (0, u "()Lcom/example/cladistic/cladistic/model/ValueType;"), (0, .methodref 32 54), (0, .nameAndType 55 56), (0, u "length"), (0, u "()I"), (0, .methodref 32 58), (0, .nameAndType 59 31), (0, u "decimal"), (0, .methodref 23 46), (0, .methodref 32 62), (0, .nameAndType 63 64), (0, u "nullable"), (0, u "()Z"), (0, .methodref 32 66), (0, .nameAndType 67 64), (0, u "primaryKey"), (0, .methodref 32 69), (0, .nameAndType 70 64), (0, u "generated"), (0, .methodref 45 72), (0, .nameAndType 5 73), (0, u "([C)V"), (0, .integer 2147483647), (0, .fieldref 76 77), (0, .class_ 78), (0, .nameAndType 79 80), (0, u "com/example/cladistic/cladistic/model/ValueType"), (0, u "STRING"), (0, u "Lcom/example/cladistic/cladistic/model/ValueType;"), (0, .fieldref 76 82), (0, .nameAndType 83 80), (0, u "BOOLEAN"), (0, .fieldref 76 85), (0, .nameAndType 86 80), (0, u "INT"), (0, .fieldref 76 88), (0, .nameAndType 89 80), (0, u "LONG"), (0, .fieldref 76 91), (0, .nameAndType 92 80), (0, u "DOUBLE"), (0, .fieldref 76 94), (0, .nameAndType 95 80), (0, u "DECIMAL"), (0, .fieldref 76 97), (0, .nameAndType 98 80), (0, u "DATE"), (0, .fieldref 76 100), (0, .nameAndType 101 80), (0, u "TIMESTAMP"), (0, .fieldref 76 103), (0, .nameAndType 104 80), (0, u "UUID"), (0, .fieldref 76 106), (0, .nameAndType 107 80), (0, u "ENUM"), (0, .fieldref 76 109), (0, .nameAndType 110 80), (0, u "CHAR"), (2, u "law"), (0, u "(IIIIII)Z")] 3

def k1m0 : Method := { name := "<init>", desc := "()V", sig := { parameters := [], returnType := none }, accessFlags := 1, code := none }
def k1c1 : Code := { maxStack := 9, maxLocals := 17, code := code, exceptionTable := #[], attributes := #[] }
def k1m1 : Method := { name := "law", desc := "(IIIIII)Z", sig := { parameters := [.int, .int, .int, .int, .int, .int], returnType := some .boolean }, accessFlags := 9, code := some k1c1 }
def k1c2 : Code := { maxStack := 6, maxLocals := 5, code := method_3_code, exceptionTable := #[], attributes := #[] }
def k1m2 : Method := { name := "name", desc := "(I)Ljava/lang/String;", sig := { parameters := [.int], returnType := some (.object "java/lang/String") }, accessFlags := 10, code := some k1c2 }
def k1c3 : Code := { maxStack := 2, maxLocals := 2, code := method_4_code, exceptionTable := #[], attributes := #[] }
def k1m3 : Method := { name := "type", desc := "(I)Lcom/example/cladistic/cladistic/model/ValueType;", sig := { parameters := [.int], returnType := some (.object "com/example/cladistic/cladistic/model/ValueType") }, accessFlags := 10, code := some k1c3 }
/-- com/example/cladistic/cladistic/model/ColumnDefAsNullablePinLaw -/
def k1 : Class := { plain "com/example/cladistic/cladistic/model/ColumnDefAsNullablePinLaw" (some 0) with
  accessFlags := 49
  interfaces := #[]
  cf := some (fileOf pool1 8 #[] #[{ accessFlags := 1, nameIndex := 5, descriptorIndex := 6, attributes := #[] }, { accessFlags := 9, nameIndex := 113, descriptorIndex := 114, attributes := #[] }, { accessFlags := 10, nameIndex := 11, descriptorIndex := 12, attributes := #[] }, { accessFlags := 10, nameIndex := 15, descriptorIndex := 16, attributes := #[] }] 49 2 #[] #[])
  fields := #[]
  methods := #[k1m0, k1m1, k1m2, k1m3]
  instanceTypes := #[]
  staticTypes := #[]
  resolved := Array.replicate 118 none
  statics := none }

def pool2 : Array CpInfo := pool [(1, .class_ 2), (0, u "java/io/Serializable"), (0, .class_ 4), (0, u "java/lang/Object")] 2

/-- java/io/Serializable -/
def k2 : Class := { plain "java/io/Serializable" (some 0) with
  accessFlags := 1537
  interfaces := #[]
  cf := some (fileOf pool2 1 #[] #[] 1537 3 #[] #[])
  fields := #[]
  methods := #[]
  instanceTypes := #[]
  staticTypes := #[]
  resolved := Array.replicate 7 none
  statics := none }

def pool3 : Array CpInfo := pool [(1, .class_ 2), (0, u "java/lang/Comparable"), (0, .class_ 4), (0, u "java/lang/Object")] 7

/-- java/lang/Comparable -/
def k3 : Class := { plain "java/lang/Comparable" (some 0) with
  accessFlags := 1537
  interfaces := #[]
  cf := some (fileOf pool3 1 #[] #[] 1537 3 #[] #[])
  fields := #[]
  methods := #[]
  instanceTypes := #[]
  staticTypes := #[]
  resolved := Array.replicate 12 none
  statics := none }

def pool4 : Array CpInfo := pool [(2, .class_ 4), (1, u "java/lang/CharSequence"), (42, .class_ 48), (0, u "java/lang/CharSequence$1CodePointIterator"), (10, .class_ 60), (0, u "java/lang/CharSequence$1CharIterator"), (5, .class_ 67), (0, u "java/lang/Object")] 63

/-- java/lang/CharSequence -/
def k4 : Class := { plain "java/lang/CharSequence" (some 0) with
  accessFlags := 1537
  interfaces := #[]
  cf := some (fileOf pool4 2 #[.nestMembers #[47, 59]] #[] 1537 66 #[] #[])
  fields := #[]
  methods := #[]
  instanceTypes := #[]
  staticTypes := #[]
  resolved := Array.replicate 131 none
  statics := none }

def pool5 : Array CpInfo := pool [(1, .class_ 2), (0, u "java/lang/constant/Constable"), (0, .class_ 4), (0, u "java/lang/Object")] 6

/-- java/lang/constant/Constable -/
def k5 : Class := { plain "java/lang/constant/Constable" (some 0) with
  accessFlags := 1537
  interfaces := #[]
  cf := some (fileOf pool5 1 #[] #[] 1537 3 #[] #[])
  fields := #[]
  methods := #[]
  instanceTypes := #[]
  staticTypes := #[]
  resolved := Array.replicate 11 none
  statics := none }

def pool6 : Array CpInfo := pool [(1, .class_ 2), (0, u "java/lang/constant/ConstantDesc"), (0, .class_ 4), (0, u "java/lang/Object")] 32

/-- java/lang/constant/ConstantDesc -/
def k6 : Class := { plain "java/lang/constant/ConstantDesc" (some 0) with
  accessFlags := 1537
  interfaces := #[]
  cf := some (fileOf pool6 1 #[] #[] 1537 3 #[] #[])
  fields := #[]
  methods := #[]
  instanceTypes := #[]
  staticTypes := #[]
  resolved := Array.replicate 37 none
  statics := none }

def pool7 : Array CpInfo := pool [(1, .methodref 2 3), (0, .class_ 4), (0, .nameAndType 5 6), (0, u "java/lang/Object"), (0, u "<init>"), (0, u "()V"), (0, .string 8), (0, u ""), (0, .fieldref 10 11), (0, .class_ 12), (0, .nameAndType 13 14), (0, u "java/lang/String"), (0, u "value"), (0, u "[B"), (0, .fieldref 10 16), (0, .nameAndType 17 18), (0, u "coder"), (0, u "B"), (2, u "hash"), (0, u "I"), (2, u "hashIsZero"), (0, u "Z"), (0, .methodref 10 28), (0, .nameAndType 5 29), (0, u "([CIILjava/lang/Void;)V"), (8, .fieldref 10 39), (0, .nameAndType 40 26), (0, u "COMPACT_STRINGS"), (1, .class_ 44), (1, u "java/lang/StringUTF16"), (0, u "compress"), (1, .methodref 42 48), (0, .nameAndType 49 50), (0, u "coderFromArrayLen"), (0, u "([BI)B"), (126, .methodref 42 178), (0, .nameAndType 45 179), (0, u "([CII)[B"), (363, u "equals"), (29, u "(Ljava/lang/Object;)Z"), (1, .class_ 576), (0, u "java/lang/CharSequence"), (22, u "CASE_INSENSITIVE_ORDER"), (0, u "Ljava/util/Comparator;"), (409, u "([C)V"), (90, u "serialPersistentFields"), (0, u "[Ljava/io/ObjectStreamField;"), (0, .class_ 1104), (0, u "java/lang/String$CaseInsensitiveComparator"), (1, .class_ 1107), (0, u "java/io/Serializable"), (0, .class_ 1109), (0, u "java/lang/Comparable"), (0, .class_ 1111), (0, u "java/lang/constant/Constable"), (0, .class_ 1113), (0, u "java/lang/constant/ConstantDesc"), (2, u "serialVersionUID"), (0, u "J"), (3, u "REPL"), (0, u "C"), (2, u "LATIN1"), (1, u "UTF16")] 323

def k7m0 : Method := { name := "<init>", desc := "()V", sig := { parameters := [], returnType := none }, accessFlags := 1, code := none }
def k7c1 : Code := { maxStack := 5, maxLocals := 2, code := jdk_42_method_3_code, exceptionTable := #[], attributes := #[] }
def k7m1 : Method := { name := "<init>", desc := "([C)V", sig := { parameters := [(.array .char)], returnType := none }, accessFlags := 1, code := some k7c1 }
def k7c2 : Code := { maxStack := 2, maxLocals := 3, code := jdk_42_method_66_code, exceptionTable := #[], attributes := #[] }
def k7m2 : Method := { name := "equals", desc := "(Ljava/lang/Object;)Z", sig := { parameters := [(.object "java/lang/Object")], returnType := some .boolean }, accessFlags := 1, code := some k7c2 }
def k7c3 : Code := { maxStack := 4, maxLocals := 6, code := jdk_42_method_149_code, exceptionTable := #[], attributes := #[] }
def k7m3 : Method := { name := "<init>", desc := "([CIILjava/lang/Void;)V", sig := { parameters := [(.array .char), .int, .int, (.object "java/lang/Void")], returnType := none }, accessFlags := 2, code := some k7c3 }
/-- java/lang/String -/
def k7 : Class := { plain "java/lang/String" (some 0) with
  accessFlags := 49
  interfaces := #[2, 3, 4, 5, 6]
  cf := some (fileOf pool7 10 #[.nestMembers #[1103]] #[{ accessFlags := 1, nameIndex := 5, descriptorIndex := 6, attributes := #[] }, { accessFlags := 1, nameIndex := 5, descriptorIndex := 1010, attributes := #[] }, { accessFlags := 1, nameIndex := 543, descriptorIndex := 573, attributes := #[] }, { accessFlags := 2, nameIndex := 5, descriptorIndex := 29, attributes := #[] }] 49 2 #[1106, 1108, 575, 1110, 1112] #[{ accessFlags := 18, nameIndex := 13, descriptorIndex := 14, attributes := #[] }, { accessFlags := 18, nameIndex := 17, descriptorIndex := 18, attributes := #[] }, { accessFlags := 2, nameIndex := 21, descriptorIndex := 22, attributes := #[] }, { accessFlags := 2, nameIndex := 25, descriptorIndex := 26, attributes := #[] }, { accessFlags := 26, nameIndex := 1116, descriptorIndex := 1117, attributes := #[] }, { accessFlags := 24, nameIndex := 40, descriptorIndex := 26, attributes := #[] }, { accessFlags := 26, nameIndex := 1101, descriptorIndex := 1102, attributes := #[] }, { accessFlags := 26, nameIndex := 1121, descriptorIndex := 1122, attributes := #[] }, { accessFlags := 25, nameIndex := 599, descriptorIndex := 600, attributes := #[] }, { accessFlags := 24, nameIndex := 1125, descriptorIndex := 18, attributes := #[] }, { accessFlags := 24, nameIndex := 1127, descriptorIndex := 18, attributes := #[] }])
  fields := #[{ name := "value", type := (.array .byte), accessFlags := 18, slot := 0, constantValue := 0 }, { name := "coder", type := .byte, accessFlags := 18, slot := 1, constantValue := 0 }, { name := "hash", type := .int, accessFlags := 2, slot := 2, constantValue := 0 }, { name := "hashIsZero", type := .boolean, accessFlags := 2, slot := 3, constantValue := 0 }, { name := "serialVersionUID", type := .long, accessFlags := 26, slot := 0, constantValue := 0 }, { name := "COMPACT_STRINGS", type := .boolean, accessFlags := 24, slot := 1, constantValue := 0 }, { name := "serialPersistentFields", type := (.array (.object "java/io/ObjectStreamField")), accessFlags := 26, slot := 2, constantValue := 0 }, { name := "REPL", type := .char, accessFlags := 26, slot := 3, constantValue := 0 }, { name := "CASE_INSENSITIVE_ORDER", type := (.object "java/util/Comparator"), accessFlags := 25, slot := 4, constantValue := 0 }, { name := "LATIN1", type := .byte, accessFlags := 24, slot := 5, constantValue := 0 }, { name := "UTF16", type := .byte, accessFlags := 24, slot := 6, constantValue := 0 }]
  methods := #[k7m0, k7m1, k7m2, k7m3]
  instanceTypes := #[(.array .byte), .byte, .int, .boolean]
  staticTypes := #[.long, .boolean, (.array (.object "java/io/ObjectStreamField")), .char, (.object "java/util/Comparator"), .byte, .byte]
  resolved := Array.replicate 1451 none
  statics := some 0 }

def pool8 : Array CpInfo := pool [(2, .class_ 4), (1, u "java/lang/Enum"), (0, u "name"), (0, u "Ljava/lang/String;"), (2, u "ordinal"), (0, u "I"), (1, .class_ 14), (1, u "java/lang/Object"), (4, u "hash"), (86, .class_ 108), (1, u "java/lang/Enum$EnumDesc"), (2, .class_ 112), (0, u "java/lang/constant/Constable"), (0, .class_ 114), (0, u "java/lang/Comparable"), (0, .class_ 116), (0, u "java/io/Serializable")] 87

/-- java/lang/Enum -/
def k8 : Class := { plain "java/lang/Enum" (some 0) with
  accessFlags := 1057
  interfaces := #[5, 3, 2]
  cf := some (fileOf pool8 2 #[.nestMembers #[106]] #[] 1057 12 #[111, 113, 115] #[{ accessFlags := 18, nameIndex := 5, descriptorIndex := 6, attributes := #[] }, { accessFlags := 18, nameIndex := 9, descriptorIndex := 10, attributes := #[] }, { accessFlags := 2, nameIndex := 19, descriptorIndex := 10, attributes := #[] }])
  fields := #[{ name := "name", type := (.object "java/lang/String"), accessFlags := 18, slot := 0, constantValue := 0 }, { name := "ordinal", type := .int, accessFlags := 18, slot := 1, constantValue := 0 }, { name := "hash", type := .int, accessFlags := 2, slot := 2, constantValue := 0 }]
  methods := #[]
  instanceTypes := #[(.object "java/lang/String"), .int, .int]
  staticTypes := #[]
  resolved := Array.replicate 204 none
  statics := none }

def pool9 : Array CpInfo := pool [(1, .class_ 2), (0, u "com/example/cladistic/cladistic/model/ValueType"), (2, u "STRING"), (0, u "Lcom/example/cladistic/cladistic/model/ValueType;"), (2, u "BOOLEAN"), (2, u "INT"), (2, u "LONG"), (2, u "DOUBLE"), (2, u "DECIMAL"), (2, u "DATE"), (2, u "TIMESTAMP"), (2, u "UUID"), (2, u "ENUM"), (2, u "CHAR"), (2, u "$VALUES"), (0, u "[Lcom/example/cladistic/cladistic/model/ValueType;"), (6, .class_ 49), (1, u "java/lang/Enum"), (20, u "BY_CLASS"), (0, u "Ljava/util/Map;")] 77

/-- com/example/cladistic/cladistic/model/ValueType -/
def k9 : Class := { plain "com/example/cladistic/cladistic/model/ValueType" (some 8) with
  accessFlags := 16433
  interfaces := #[]
  cf := some (fileOf pool9 1 #[] #[] 16433 47 #[] #[{ accessFlags := 16409, nameIndex := 5, descriptorIndex := 6, attributes := #[] }, { accessFlags := 16409, nameIndex := 9, descriptorIndex := 6, attributes := #[] }, { accessFlags := 16409, nameIndex := 12, descriptorIndex := 6, attributes := #[] }, { accessFlags := 16409, nameIndex := 15, descriptorIndex := 6, attributes := #[] }, { accessFlags := 16409, nameIndex := 18, descriptorIndex := 6, attributes := #[] }, { accessFlags := 16409, nameIndex := 21, descriptorIndex := 6, attributes := #[] }, { accessFlags := 16409, nameIndex := 24, descriptorIndex := 6, attributes := #[] }, { accessFlags := 16409, nameIndex := 27, descriptorIndex := 6, attributes := #[] }, { accessFlags := 16409, nameIndex := 30, descriptorIndex := 6, attributes := #[] }, { accessFlags := 16409, nameIndex := 33, descriptorIndex := 6, attributes := #[] }, { accessFlags := 16409, nameIndex := 36, descriptorIndex := 6, attributes := #[] }, { accessFlags := 26, nameIndex := 70, descriptorIndex := 71, attributes := #[] }, { accessFlags := 4122, nameIndex := 39, descriptorIndex := 40, attributes := #[] }])
  fields := #[{ name := "STRING", type := (.object "com/example/cladistic/cladistic/model/ValueType"), accessFlags := 16409, slot := 0, constantValue := 0 }, { name := "BOOLEAN", type := (.object "com/example/cladistic/cladistic/model/ValueType"), accessFlags := 16409, slot := 1, constantValue := 0 }, { name := "INT", type := (.object "com/example/cladistic/cladistic/model/ValueType"), accessFlags := 16409, slot := 2, constantValue := 0 }, { name := "LONG", type := (.object "com/example/cladistic/cladistic/model/ValueType"), accessFlags := 16409, slot := 3, constantValue := 0 }, { name := "DOUBLE", type := (.object "com/example/cladistic/cladistic/model/ValueType"), accessFlags := 16409, slot := 4, constantValue := 0 }, { name := "DECIMAL", type := (.object "com/example/cladistic/cladistic/model/ValueType"), accessFlags := 16409, slot := 5, constantValue := 0 }, { name := "DATE", type := (.object "com/example/cladistic/cladistic/model/ValueType"), accessFlags := 16409, slot := 6, constantValue := 0 }, { name := "TIMESTAMP", type := (.object "com/example/cladistic/cladistic/model/ValueType"), accessFlags := 16409, slot := 7, constantValue := 0 }, { name := "UUID", type := (.object "com/example/cladistic/cladistic/model/ValueType"), accessFlags := 16409, slot := 8, constantValue := 0 }, { name := "ENUM", type := (.object "com/example/cladistic/cladistic/model/ValueType"), accessFlags := 16409, slot := 9, constantValue := 0 }, { name := "CHAR", type := (.object "com/example/cladistic/cladistic/model/ValueType"), accessFlags := 16409, slot := 10, constantValue := 0 }, { name := "BY_CLASS", type := (.object "java/util/Map"), accessFlags := 26, slot := 11, constantValue := 0 }, { name := "$VALUES", type := (.array (.object "com/example/cladistic/cladistic/model/ValueType")), accessFlags := 4122, slot := 12, constantValue := 0 }]
  methods := #[]
  instanceTypes := #[(.object "java/lang/String"), .int, .int]
  staticTypes := #[(.object "com/example/cladistic/cladistic/model/ValueType"), (.object "com/example/cladistic/cladistic/model/ValueType"), (.object "com/example/cladistic/cladistic/model/ValueType"), (.object "com/example/cladistic/cladistic/model/ValueType"), (.object "com/example/cladistic/cladistic/model/ValueType"), (.object "com/example/cladistic/cladistic/model/ValueType"), (.object "com/example/cladistic/cladistic/model/ValueType"), (.object "com/example/cladistic/cladistic/model/ValueType"), (.object "com/example/cladistic/cladistic/model/ValueType"), (.object "com/example/cladistic/cladistic/model/ValueType"), (.object "com/example/cladistic/cladistic/model/ValueType"), (.object "java/util/Map"), (.array (.object "com/example/cladistic/cladistic/model/ValueType"))]
  resolved := Array.replicate 149 none
  statics := some 1 }

def pool10 : Array CpInfo := pool [(1, .fieldref 2 3), (0, .class_ 4), (0, .nameAndType 5 6), (0, u "java/util/Optional"), (0, u "EMPTY"), (0, u "Ljava/util/Optional;"), (0, .methodref 8 9), (0, .class_ 10), (0, .nameAndType 11 12), (0, u "java/lang/Object"), (0, u "<init>"), (0, u "()V"), (0, .fieldref 2 14), (0, .nameAndType 15 16), (0, u "value"), (0, u "Ljava/lang/Object;"), (0, .methodref 18 19), (0, .class_ 20), (0, .nameAndType 21 22), (0, u "java/util/Objects"), (0, u "requireNonNull"), (0, u "(Ljava/lang/Object;)Ljava/lang/Object;"), (0, .methodref 2 24), (0, .nameAndType 11 25), (0, u "(Ljava/lang/Object;)V"), (26, u "(Ljava/lang/Object;)Z"), (2, u "empty"), (0, u "()Ljava/util/Optional;"), (8, u "(Ljava/lang/Object;)Ljava/util/Optional;"), (16, u "of"), (5, u "equals")] 98

def k10c0 : Code := { maxStack := 1, maxLocals := 1, code := jdk_32_method_1_code, exceptionTable := #[], attributes := #[] }
def k10m0 : Method := { name := "empty", desc := "()Ljava/util/Optional;", sig := { parameters := [], returnType := some (.object "java/util/Optional") }, accessFlags := 9, code := some k10c0 }
def k10c1 : Code := { maxStack := 2, maxLocals := 2, code := jdk_32_method_2_code, exceptionTable := #[], attributes := #[] }
def k10m1 : Method := { name := "<init>", desc := "(Ljava/lang/Object;)V", sig := { parameters := [(.object "java/lang/Object")], returnType := none }, accessFlags := 2, code := some k10c1 }
def k10c2 : Code := { maxStack := 3, maxLocals := 1, code := jdk_32_method_3_code, exceptionTable := #[], attributes := #[] }
def k10m2 : Method := { name := "of", desc := "(Ljava/lang/Object;)Ljava/util/Optional;", sig := { parameters := [(.object "java/lang/Object")], returnType := some (.object "java/util/Optional") }, accessFlags := 9, code := some k10c2 }
def k10c3 : Code := { maxStack := 2, maxLocals := 3, code := jdk_32_method_19_code, exceptionTable := #[], attributes := #[] }
def k10m3 : Method := { name := "equals", desc := "(Ljava/lang/Object;)Z", sig := { parameters := [(.object "java/lang/Object")], returnType := some .boolean }, accessFlags := 1, code := some k10c3 }
/-- java/util/Optional -/
def k10 : Class := { plain "java/util/Optional" (some 0) with
  accessFlags := 49
  interfaces := #[]
  cf := some (fileOf pool10 2 #[] #[{ accessFlags := 9, nameIndex := 55, descriptorIndex := 56, attributes := #[] }, { accessFlags := 2, nameIndex := 11, descriptorIndex := 25, attributes := #[] }, { accessFlags := 9, nameIndex := 82, descriptorIndex := 65, attributes := #[] }, { accessFlags := 1, nameIndex := 88, descriptorIndex := 52, attributes := #[] }] 49 8 #[] #[{ accessFlags := 26, nameIndex := 5, descriptorIndex := 6, attributes := #[] }, { accessFlags := 18, nameIndex := 15, descriptorIndex := 16, attributes := #[] }])
  fields := #[{ name := "EMPTY", type := (.object "java/util/Optional"), accessFlags := 26, slot := 0, constantValue := 0 }, { name := "value", type := (.object "java/lang/Object"), accessFlags := 18, slot := 0, constantValue := 0 }]
  methods := #[k10m0, k10m1, k10m2, k10m3]
  instanceTypes := #[(.object "java/lang/Object")]
  staticTypes := #[(.object "java/util/Optional")]
  resolved := Array.replicate 187 none
  statics := some 2 }

def pool11 : Array CpInfo := pool [(1, .methodref 2 3), (0, .class_ 4), (0, .nameAndType 5 6), (0, u "java/lang/Object"), (0, u "<init>"), (0, u "()V"), (0, .class_ 8), (0, u "java/lang/Record")] 13

def k11c0 : Code := { maxStack := 1, maxLocals := 1, code := jdk_30_method_1_code, exceptionTable := #[], attributes := #[] }
def k11m0 : Method := { name := "<init>", desc := "()V", sig := { parameters := [], returnType := none }, accessFlags := 4, code := some k11c0 }
/-- java/lang/Record -/
def k11 : Class := { plain "java/lang/Record" (some 0) with
  accessFlags := 1057
  interfaces := #[]
  cf := some (fileOf pool11 7 #[] #[{ accessFlags := 4, nameIndex := 5, descriptorIndex := 6, attributes := #[] }] 1057 2 #[] #[])
  fields := #[]
  methods := #[k11m0]
  instanceTypes := #[]
  staticTypes := #[]
  resolved := Array.replicate 22 none
  statics := none }

def pool12 : Array CpInfo := pool [(1, .methodref 2 3), (0, .class_ 4), (0, .nameAndType 5 6), (0, u "java/lang/Record"), (0, u "<init>"), (0, u "()V"), (0, .fieldref 8 9), (0, .class_ 10), (0, .nameAndType 11 12), (0, u "com/example/cladistic/cladistic/model/ColumnDef"), (0, u "name"), (0, u "Ljava/lang/String;"), (0, .fieldref 8 14), (0, .nameAndType 15 16), (0, u "type"), (0, u "Lcom/example/cladistic/cladistic/model/ValueType;"), (0, .fieldref 8 18), (0, .nameAndType 19 20), (0, u "length"), (0, u "I"), (0, .fieldref 8 22), (0, .nameAndType 23 24), (0, u "decimal"), (0, u "Ljava/util/Optional;"), (0, .fieldref 8 26), (0, .nameAndType 27 28), (0, u "nullable"), (0, u "Z"), (0, .fieldref 8 30), (0, .nameAndType 31 28), (0, u "primaryKey"), (0, .fieldref 8 33), (0, .nameAndType 34 28), (0, u "generated"), (5, u "()Ljava/lang/String;"), (2, u "()Lcom/example/cladistic/cladistic/model/ValueType;"), (2, u "()I"), (2, u "()Ljava/util/Optional;"), (2, u "()Z"), (0, .methodref 8 54), (0, .nameAndType 5 55), (0, u "(Ljava/lang/String;Lcom/example/cladistic/cladistic/model/ValueType;ILjava/util/Optional;ZZZ)V"), (22, u "asNullable"), (0, u "()Lcom/example/cladistic/cladistic/model/ColumnDef;")] 28

def k12c0 : Code := { maxStack := 2, maxLocals := 8, code := prog_166_method_1_code, exceptionTable := #[], attributes := #[] }
def k12m0 : Method := { name := "<init>", desc := "(Ljava/lang/String;Lcom/example/cladistic/cladistic/model/ValueType;ILjava/util/Optional;ZZZ)V", sig := { parameters := [(.object "java/lang/String"), (.object "com/example/cladistic/cladistic/model/ValueType"), .int, (.object "java/util/Optional"), .boolean, .boolean, .boolean], returnType := none }, accessFlags := 1, code := some k12c0 }
def k12c1 : Code := { maxStack := 9, maxLocals := 1, code := prog_166_method_4_code, exceptionTable := #[], attributes := #[] }
def k12m1 : Method := { name := "asNullable", desc := "()Lcom/example/cladistic/cladistic/model/ColumnDef;", sig := { parameters := [], returnType := some (.object "com/example/cladistic/cladistic/model/ColumnDef") }, accessFlags := 1, code := some k12c1 }
def k12c2 : Code := { maxStack := 1, maxLocals := 1, code := prog_166_method_8_code, exceptionTable := #[], attributes := #[] }
def k12m2 : Method := { name := "name", desc := "()Ljava/lang/String;", sig := { parameters := [], returnType := some (.object "java/lang/String") }, accessFlags := 1, code := some k12c2 }
def k12c3 : Code := { maxStack := 1, maxLocals := 1, code := prog_166_method_9_code, exceptionTable := #[], attributes := #[] }
def k12m3 : Method := { name := "type", desc := "()Lcom/example/cladistic/cladistic/model/ValueType;", sig := { parameters := [], returnType := some (.object "com/example/cladistic/cladistic/model/ValueType") }, accessFlags := 1, code := some k12c3 }
def k12c4 : Code := { maxStack := 1, maxLocals := 1, code := prog_166_method_10_code, exceptionTable := #[], attributes := #[] }
def k12m4 : Method := { name := "length", desc := "()I", sig := { parameters := [], returnType := some .int }, accessFlags := 1, code := some k12c4 }
def k12c5 : Code := { maxStack := 1, maxLocals := 1, code := prog_166_method_11_code, exceptionTable := #[], attributes := #[] }
def k12m5 : Method := { name := "decimal", desc := "()Ljava/util/Optional;", sig := { parameters := [], returnType := some (.object "java/util/Optional") }, accessFlags := 1, code := some k12c5 }
def k12c6 : Code := { maxStack := 1, maxLocals := 1, code := prog_166_method_12_code, exceptionTable := #[], attributes := #[] }
def k12m6 : Method := { name := "nullable", desc := "()Z", sig := { parameters := [], returnType := some .boolean }, accessFlags := 1, code := some k12c6 }
def k12c7 : Code := { maxStack := 1, maxLocals := 1, code := prog_166_method_13_code, exceptionTable := #[], attributes := #[] }
def k12m7 : Method := { name := "primaryKey", desc := "()Z", sig := { parameters := [], returnType := some .boolean }, accessFlags := 1, code := some k12c7 }
def k12c8 : Code := { maxStack := 1, maxLocals := 1, code := prog_166_method_14_code, exceptionTable := #[], attributes := #[] }
def k12m8 : Method := { name := "generated", desc := "()Z", sig := { parameters := [], returnType := some .boolean }, accessFlags := 1, code := some k12c8 }
/-- com/example/cladistic/cladistic/model/ColumnDef -/
def k12 : Class := { plain "com/example/cladistic/cladistic/model/ColumnDef" (some 11) with
  accessFlags := 49
  interfaces := #[]
  cf := some (fileOf pool12 8 #[] #[{ accessFlags := 1, nameIndex := 5, descriptorIndex := 55, attributes := #[] }, { accessFlags := 1, nameIndex := 78, descriptorIndex := 79, attributes := #[] }, { accessFlags := 1, nameIndex := 11, descriptorIndex := 40, attributes := #[] }, { accessFlags := 1, nameIndex := 15, descriptorIndex := 43, attributes := #[] }, { accessFlags := 1, nameIndex := 19, descriptorIndex := 46, attributes := #[] }, { accessFlags := 1, nameIndex := 23, descriptorIndex := 49, attributes := #[] }, { accessFlags := 1, nameIndex := 27, descriptorIndex := 52, attributes := #[] }, { accessFlags := 1, nameIndex := 31, descriptorIndex := 52, attributes := #[] }, { accessFlags := 1, nameIndex := 34, descriptorIndex := 52, attributes := #[] }] 49 2 #[] #[{ accessFlags := 18, nameIndex := 11, descriptorIndex := 12, attributes := #[] }, { accessFlags := 18, nameIndex := 15, descriptorIndex := 16, attributes := #[] }, { accessFlags := 18, nameIndex := 19, descriptorIndex := 20, attributes := #[] }, { accessFlags := 18, nameIndex := 23, descriptorIndex := 24, attributes := #[] }, { accessFlags := 18, nameIndex := 27, descriptorIndex := 28, attributes := #[] }, { accessFlags := 18, nameIndex := 31, descriptorIndex := 28, attributes := #[] }, { accessFlags := 18, nameIndex := 34, descriptorIndex := 28, attributes := #[] }])
  fields := #[{ name := "name", type := (.object "java/lang/String"), accessFlags := 18, slot := 0, constantValue := 0 }, { name := "type", type := (.object "com/example/cladistic/cladistic/model/ValueType"), accessFlags := 18, slot := 1, constantValue := 0 }, { name := "length", type := .int, accessFlags := 18, slot := 2, constantValue := 0 }, { name := "decimal", type := (.object "java/util/Optional"), accessFlags := 18, slot := 3, constantValue := 0 }, { name := "nullable", type := .boolean, accessFlags := 18, slot := 4, constantValue := 0 }, { name := "primaryKey", type := .boolean, accessFlags := 18, slot := 5, constantValue := 0 }, { name := "generated", type := .boolean, accessFlags := 18, slot := 6, constantValue := 0 }]
  methods := #[k12m0, k12m1, k12m2, k12m3, k12m4, k12m5, k12m6, k12m7, k12m8]
  instanceTypes := #[(.object "java/lang/String"), (.object "com/example/cladistic/cladistic/model/ValueType"), .int, (.object "java/util/Optional"), .boolean, .boolean, .boolean]
  staticTypes := #[]
  resolved := Array.replicate 108 none
  statics := none }

def pool13 : Array CpInfo := pool [(1, .methodref 2 3), (0, .class_ 4), (0, .nameAndType 5 6), (0, u "java/lang/Record"), (0, u "<init>"), (0, u "()V"), (0, .fieldref 8 9), (0, .class_ 10), (0, .nameAndType 11 12), (0, u "com/example/cladistic/cladistic/model/DecimalSize"), (0, u "precision"), (0, u "I"), (0, .fieldref 8 14), (0, .nameAndType 15 12), (0, u "scale"), (12, u "(II)V")] 27

def k13c0 : Code := { maxStack := 2, maxLocals := 3, code := prog_171_method_1_code, exceptionTable := #[], attributes := #[] }
def k13m0 : Method := { name := "<init>", desc := "(II)V", sig := { parameters := [.int, .int], returnType := none }, accessFlags := 1, code := some k13c0 }
/-- com/example/cladistic/cladistic/model/DecimalSize -/
def k13 : Class := { plain "com/example/cladistic/cladistic/model/DecimalSize" (some 11) with
  accessFlags := 49
  interfaces := #[]
  cf := some (fileOf pool13 8 #[] #[{ accessFlags := 1, nameIndex := 5, descriptorIndex := 28, attributes := #[] }] 49 2 #[] #[{ accessFlags := 18, nameIndex := 11, descriptorIndex := 12, attributes := #[] }, { accessFlags := 18, nameIndex := 15, descriptorIndex := 12, attributes := #[] }])
  fields := #[{ name := "precision", type := .int, accessFlags := 18, slot := 0, constantValue := 0 }, { name := "scale", type := .int, accessFlags := 18, slot := 1, constantValue := 0 }]
  methods := #[k13m0]
  instanceTypes := #[.int, .int]
  staticTypes := #[]
  resolved := Array.replicate 56 none
  statics := none }

def pool14 : Array CpInfo := pool [(2, .class_ 4), (1, u "java/lang/Object"), (0, u "<init>"), (0, u "()V"), (35, .class_ 44), (1, u "java/util/Objects"), (0, u "requireNonNull"), (0, u "(Ljava/lang/Object;)Ljava/lang/Object;")] 137

def k14m0 : Method := { name := "<init>", desc := "()V", sig := { parameters := [], returnType := none }, accessFlags := 2, code := none }
def k14c1 : Code := { maxStack := 2, maxLocals := 1, code := jdk_31_method_10_code, exceptionTable := #[], attributes := #[] }
def k14m1 : Method := { name := "requireNonNull", desc := "(Ljava/lang/Object;)Ljava/lang/Object;", sig := { parameters := [(.object "java/lang/Object")], returnType := some (.object "java/lang/Object") }, accessFlags := 9, code := some k14c1 }
/-- java/util/Objects -/
def k14 : Class := { plain "java/util/Objects" (some 0) with
  accessFlags := 49
  interfaces := #[]
  cf := some (fileOf pool14 42 #[] #[{ accessFlags := 2, nameIndex := 5, descriptorIndex := 6, attributes := #[] }, { accessFlags := 9, nameIndex := 45, descriptorIndex := 46, attributes := #[] }] 49 2 #[] #[])
  fields := #[]
  methods := #[k14m0, k14m1]
  instanceTypes := #[]
  staticTypes := #[]
  resolved := Array.replicate 184 none
  statics := none }

def pool15 : Array CpInfo := pool [(6, .class_ 8), (1, u "java/lang/Object"), (0, u "<init>"), (0, u "()V"), (1, .class_ 14), (1, u "java/lang/StringUTF16"), (31, u "$assertionsDisabled"), (0, u "Z"), (13, u "HI_BYTE_SHIFT"), (0, u "I"), (2, u "LO_BYTE_SHIFT"), (49, .methodref 12 116), (0, .nameAndType 117 118), (0, u "compress"), (0, u "([CI[BII)I"), (3, u "([CII)[B"), (138, u "coderFromArrayLen"), (0, u "([BI)B"), (106, .class_ 371), (1, u "java/lang/StringUTF16$LinesSpliterator"), (58, u "MAX_LENGTH"), (196, .class_ 628), (0, u "java/lang/StringUTF16$CodePointsSpliterator"), (0, .class_ 630), (0, u "java/lang/StringUTF16$CharsSpliterator")] 4

def k15m0 : Method := { name := "<init>", desc := "()V", sig := { parameters := [], returnType := none }, accessFlags := 0, code := none }
def k15c1 : Code := { maxStack := 2, maxLocals := 2, code := jdk_52_method_15_code, exceptionTable := #[], attributes := #[] }
def k15m1 : Method := { name := "coderFromArrayLen", desc := "([BI)B", sig := { parameters := [(.array .byte), .int], returnType := some .byte }, accessFlags := 8, code := some k15c1 }
def k15c2 : Code := { maxStack := 5, maxLocals := 6, code := jdk_52_method_16_code, exceptionTable := #[], attributes := #[] }
def k15m2 : Method := { name := "compress", desc := "([CII)[B", sig := { parameters := [(.array .char), .int, .int], returnType := some (.array .byte) }, accessFlags := 9, code := some k15c2 }
def k15c3 : Code := { maxStack := 3, maxLocals := 7, code := jdk_52_method_21_code, exceptionTable := #[], attributes := #[] }
def k15m3 : Method := { name := "compress", desc := "([CI[BII)I", sig := { parameters := [(.array .char), .int, (.array .byte), .int, .int], returnType := some .int }, accessFlags := 9, code := some k15c3 }
/-- java/lang/StringUTF16 -/
def k15 : Class := { plain "java/lang/StringUTF16" (some 0) with
  accessFlags := 48
  interfaces := #[]
  cf := some (fileOf pool15 12 #[.nestMembers #[627, 629, 369]] #[{ accessFlags := 0, nameIndex := 9, descriptorIndex := 10, attributes := #[] }, { accessFlags := 8, nameIndex := 261, descriptorIndex := 262, attributes := #[] }, { accessFlags := 9, nameIndex := 117, descriptorIndex := 122, attributes := #[] }, { accessFlags := 9, nameIndex := 117, descriptorIndex := 118, attributes := #[] }] 48 6 #[] #[{ accessFlags := 26, nameIndex := 61, descriptorIndex := 62, attributes := #[] }, { accessFlags := 26, nameIndex := 65, descriptorIndex := 62, attributes := #[] }, { accessFlags := 24, nameIndex := 430, descriptorIndex := 62, attributes := #[] }, { accessFlags := 4120, nameIndex := 46, descriptorIndex := 47, attributes := #[] }])
  fields := #[{ name := "HI_BYTE_SHIFT", type := .int, accessFlags := 26, slot := 0, constantValue := 0 }, { name := "LO_BYTE_SHIFT", type := .int, accessFlags := 26, slot := 1, constantValue := 0 }, { name := "MAX_LENGTH", type := .int, accessFlags := 24, slot := 2, constantValue := 0 }, { name := "$assertionsDisabled", type := .boolean, accessFlags := 4120, slot := 3, constantValue := 0 }]
  methods := #[k15m0, k15m1, k15m2, k15m3]
  instanceTypes := #[]
  staticTypes := #[.int, .int, .int, .boolean]
  resolved := Array.replicate 635 none
  statics := none }

def pool16 : Array CpInfo := pool [(4, .class_ 6), (1, u "java/lang/Object"), (0, u "<init>"), (0, u "()V"), (5, .class_ 16), (1, u "java/lang/StringLatin1"), (104, u "$assertionsDisabled"), (0, u "Z"), (98, .class_ 223), (1, u "java/lang/StringLatin1$LinesSpliterator"), (166, .class_ 391), (0, u "java/lang/StringLatin1$CharsSpliterator")] 3

def k16m0 : Method := { name := "<init>", desc := "()V", sig := { parameters := [], returnType := none }, accessFlags := 0, code := none }
/-- java/lang/StringLatin1 -/
def k16 : Class := { plain "java/lang/StringLatin1" (some 0) with
  accessFlags := 48
  interfaces := #[]
  cf := some (fileOf pool16 14 #[.nestMembers #[390, 221]] #[{ accessFlags := 0, nameIndex := 7, descriptorIndex := 8, attributes := #[] }] 48 4 #[] #[{ accessFlags := 4120, nameIndex := 121, descriptorIndex := 122, attributes := #[] }])
  fields := #[{ name := "$assertionsDisabled", type := .boolean, accessFlags := 4120, slot := 0, constantValue := 0 }]
  methods := #[k16m0]
  instanceTypes := #[]
  staticTypes := #[.boolean]
  resolved := Array.replicate 395 none
  statics := none }

def pool17 : Array CpInfo := pool [(2, .class_ 4), (1, u "java/lang/Object"), (0, u "<init>"), (0, u "()V"), (17, .class_ 26), (1, u "jdk/internal/util/Preconditions"), (28, .class_ 56), (0, u "jdk/internal/util/Preconditions$4"), (57, .class_ 115), (0, u "jdk/internal/util/Preconditions$1"), (7, u "SIOOBE_FORMATTER"), (0, u "Ljava/util/function/BiFunction;"), (0, .class_ 126), (0, u "jdk/internal/util/Preconditions$2"), (3, u "AIOOBE_FORMATTER"), (0, .class_ 132), (0, u "jdk/internal/util/Preconditions$3"), (3, u "IOOBE_FORMATTER")] 57

def k17m0 : Method := { name := "<init>", desc := "()V", sig := { parameters := [], returnType := none }, accessFlags := 1, code := none }
/-- jdk/internal/util/Preconditions -/
def k17 : Class := { plain "jdk/internal/util/Preconditions" (some 0) with
  accessFlags := 33
  interfaces := #[]
  cf := some (fileOf pool17 24 #[.nestMembers #[55, 131, 125, 114]] #[{ accessFlags := 1, nameIndex := 5, descriptorIndex := 6, attributes := #[] }] 33 2 #[] #[{ accessFlags := 25, nameIndex := 123, descriptorIndex := 124, attributes := #[] }, { accessFlags := 25, nameIndex := 130, descriptorIndex := 124, attributes := #[] }, { accessFlags := 25, nameIndex := 136, descriptorIndex := 124, attributes := #[] }])
  fields := #[{ name := "SIOOBE_FORMATTER", type := (.object "java/util/function/BiFunction"), accessFlags := 25, slot := 0, constantValue := 0 }, { name := "AIOOBE_FORMATTER", type := (.object "java/util/function/BiFunction"), accessFlags := 25, slot := 1, constantValue := 0 }, { name := "IOOBE_FORMATTER", type := (.object "java/util/function/BiFunction"), accessFlags := 25, slot := 2, constantValue := 0 }]
  methods := #[k17m0]
  instanceTypes := #[]
  staticTypes := #[(.object "java/util/function/BiFunction"), (.object "java/util/function/BiFunction"), (.object "java/util/function/BiFunction")]
  resolved := Array.replicate 194 none
  statics := some 3 }

def pool18 : Array CpInfo := pool [(9, u "<init>"), (6, .class_ 18), (1, u "java/lang/Object"), (0, u "()V"), (1, .class_ 23), (1, u "jdk/internal/util/ArraysSupport"), (0, u "LOG2_ARRAY_LONG_INDEX_SCALE"), (0, u "I"), (2, u "U"), (0, u "Ljdk/internal/misc/Unsafe;"), (8, u "BIG_ENDIAN"), (0, u "Z"), (8, u "LOG2_BYTE_BIT_SIZE"), (4, u "LOG2_ARRAY_INT_INDEX_SCALE"), (54, u "JLA"), (0, u "Ljdk/internal/access/JavaLangAccess;"), (11, u "LOG2_ARRAY_BOOLEAN_INDEX_SCALE"), (9, u "LOG2_ARRAY_BYTE_INDEX_SCALE"), (5, u "LOG2_ARRAY_CHAR_INDEX_SCALE"), (5, u "LOG2_ARRAY_SHORT_INDEX_SCALE"), (18, u "LOG2_ARRAY_FLOAT_INDEX_SCALE"), (24, u "LOG2_ARRAY_DOUBLE_INDEX_SCALE"), (89, u "T_BOOLEAN"), (2, u "T_CHAR"), (1, u "T_FLOAT"), (1, u "T_DOUBLE"), (1, u "T_BYTE"), (1, u "T_SHORT"), (1, u "T_INT"), (1, u "T_LONG"), (1, u "SOFT_MAX_ARRAY_LENGTH")] 83

def k18m0 : Method := { name := "<init>", desc := "()V", sig := { parameters := [], returnType := none }, accessFlags := 2, code := none }
/-- jdk/internal/util/ArraysSupport -/
def k18 : Class := { plain "jdk/internal/util/ArraysSupport" (some 0) with
  accessFlags := 33
  interfaces := #[]
  cf := some (fileOf pool18 21 #[] #[{ accessFlags := 2, nameIndex := 9, descriptorIndex := 19, attributes := #[] }] 33 16 #[] #[{ accessFlags := 24, nameIndex := 28, descriptorIndex := 29, attributes := #[] }, { accessFlags := 26, nameIndex := 38, descriptorIndex := 39, attributes := #[] }, { accessFlags := 25, nameIndex := 121, descriptorIndex := 25, attributes := #[] }, { accessFlags := 25, nameIndex := 131, descriptorIndex := 25, attributes := #[] }, { accessFlags := 25, nameIndex := 137, descriptorIndex := 25, attributes := #[] }, { accessFlags := 25, nameIndex := 143, descriptorIndex := 25, attributes := #[] }, { accessFlags := 25, nameIndex := 53, descriptorIndex := 25, attributes := #[] }, { accessFlags := 25, nameIndex := 24, descriptorIndex := 25, attributes := #[] }, { accessFlags := 25, nameIndex := 162, descriptorIndex := 25, attributes := #[] }, { accessFlags := 25, nameIndex := 187, descriptorIndex := 25, attributes := #[] }, { accessFlags := 26, nameIndex := 48, descriptorIndex := 25, attributes := #[] }, { accessFlags := 25, nameIndex := 277, descriptorIndex := 25, attributes := #[] }, { accessFlags := 25, nameIndex := 280, descriptorIndex := 25, attributes := #[] }, { accessFlags := 25, nameIndex := 282, descriptorIndex := 25, attributes := #[] }, { accessFlags := 25, nameIndex := 284, descriptorIndex := 25, attributes := #[] }, { accessFlags := 25, nameIndex := 286, descriptorIndex := 25, attributes := #[] }, { accessFlags := 25, nameIndex := 288, descriptorIndex := 25, attributes := #[] }, { accessFlags := 25, nameIndex := 290, descriptorIndex := 25, attributes := #[] }, { accessFlags := 25, nameIndex := 292, descriptorIndex := 25, attributes := #[] }, { accessFlags := 26, nameIndex := 108, descriptorIndex := 109, attributes := #[] }, { accessFlags := 25, nameIndex := 294, descriptorIndex := 25, attributes := #[] }])
  fields := #[{ name := "U", type := (.object "jdk/internal/misc/Unsafe"), accessFlags := 24, slot := 0, constantValue := 0 }, { name := "BIG_ENDIAN", type := .boolean, accessFlags := 26, slot := 1, constantValue := 0 }, { name := "LOG2_ARRAY_BOOLEAN_INDEX_SCALE", type := .int, accessFlags := 25, slot := 2, constantValue := 0 }, { name := "LOG2_ARRAY_BYTE_INDEX_SCALE", type := .int, accessFlags := 25, slot := 3, constantValue := 0 }, { name := "LOG2_ARRAY_CHAR_INDEX_SCALE", type := .int, accessFlags := 25, slot := 4, constantValue := 0 }, { name := "LOG2_ARRAY_SHORT_INDEX_SCALE", type := .int, accessFlags := 25, slot := 5, constantValue := 0 }, { name := "LOG2_ARRAY_INT_INDEX_SCALE", type := .int, accessFlags := 25, slot := 6, constantValue := 0 }, { name := "LOG2_ARRAY_LONG_INDEX_SCALE", type := .int, accessFlags := 25, slot := 7, constantValue := 0 }, { name := "LOG2_ARRAY_FLOAT_INDEX_SCALE", type := .int, accessFlags := 25, slot := 8, constantValue := 0 }, { name := "LOG2_ARRAY_DOUBLE_INDEX_SCALE", type := .int, accessFlags := 25, slot := 9, constantValue := 0 }, { name := "LOG2_BYTE_BIT_SIZE", type := .int, accessFlags := 26, slot := 10, constantValue := 0 }, { name := "T_BOOLEAN", type := .int, accessFlags := 25, slot := 11, constantValue := 0 }, { name := "T_CHAR", type := .int, accessFlags := 25, slot := 12, constantValue := 0 }, { name := "T_FLOAT", type := .int, accessFlags := 25, slot := 13, constantValue := 0 }, { name := "T_DOUBLE", type := .int, accessFlags := 25, slot := 14, constantValue := 0 }, { name := "T_BYTE", type := .int, accessFlags := 25, slot := 15, constantValue := 0 }, { name := "T_SHORT", type := .int, accessFlags := 25, slot := 16, constantValue := 0 }, { name := "T_INT", type := .int, accessFlags := 25, slot := 17, constantValue := 0 }, { name := "T_LONG", type := .int, accessFlags := 25, slot := 18, constantValue := 0 }, { name := "JLA", type := (.object "jdk/internal/access/JavaLangAccess"), accessFlags := 26, slot := 19, constantValue := 0 }, { name := "SOFT_MAX_ARRAY_LENGTH", type := .int, accessFlags := 25, slot := 20, constantValue := 0 }]
  methods := #[k18m0]
  instanceTypes := #[]
  staticTypes := #[(.object "jdk/internal/misc/Unsafe"), .boolean, .int, .int, .int, .int, .int, .int, .int, .int, .int, .int, .int, .int, .int, .int, .int, .int, .int, (.object "jdk/internal/access/JavaLangAccess"), .int]
  resolved := Array.replicate 378 none
  statics := none }

def pool19 : Array CpInfo := pool [(1, u "java/lang/Cloneable"), (0, .class_ 1), (0, u "java/lang/Object"), (0, .class_ 3)] 3

/-- java/lang/Cloneable -/
def k19 : Class := { plain "java/lang/Cloneable" (some 0) with
  accessFlags := 1537
  interfaces := #[]
  cf := some (fileOf pool19 2 #[] #[] 1537 4 #[] #[])
  fields := #[]
  methods := #[]
  instanceTypes := #[]
  staticTypes := #[]
  resolved := Array.replicate 8 none
  statics := none }

/-- the primitive byte -/
def k20 : Class := { plain "byte" none with kind := .primitive 'B', accessFlags := 0x411 }
/-- [B -/
def k21 : Class := { plain "[B" (some 0) with kind := .array 20 .byte, interfaces := #[19, 2], accessFlags := 1041 }

/-- the primitive char -/
def k22 : Class := { plain "char" none with kind := .primitive 'C', accessFlags := 0x411 }
/-- [C -/
def k23 : Class := { plain "[C" (some 0) with kind := .array 22 .char, interfaces := #[19, 2], accessFlags := 1041 }

/-- the primitive int -/
def k24 : Class := { plain "int" none with kind := .primitive 'I', accessFlags := 0x411 }
/-- [I -/
def k25 : Class := { plain "[I" (some 0) with kind := .array 24 .int, interfaces := #[19, 2], accessFlags := 1041 }

def heap : Heap := #[{ cls := 7, slots := #[.long 0, .int 1, .null, .int 0, .null, .int 0, .int 0], vm := .statics 7 },
  { cls := 9, slots := #[.ref 4, .ref 5, .ref 6, .ref 7, .ref 8, .ref 9, .ref 10, .ref 11, .ref 12, .ref 13, .ref 14, .null, .null], vm := .statics 9 },
  { cls := 10, slots := #[.ref 15], vm := .statics 10 },
  { cls := 17, slots := #[.null, .null, .null], vm := .statics 17 },
  { cls := 9, slots := #[.null, .int 0, .int 0], vm := .none },
  { cls := 9, slots := #[.null, .int 0, .int 0], vm := .none },
  { cls := 9, slots := #[.null, .int 0, .int 0], vm := .none },
  { cls := 9, slots := #[.null, .int 0, .int 0], vm := .none },
  { cls := 9, slots := #[.null, .int 0, .int 0], vm := .none },
  { cls := 9, slots := #[.null, .int 0, .int 0], vm := .none },
  { cls := 9, slots := #[.null, .int 0, .int 0], vm := .none },
  { cls := 9, slots := #[.null, .int 0, .int 0], vm := .none },
  { cls := 9, slots := #[.null, .int 0, .int 0], vm := .none },
  { cls := 9, slots := #[.null, .int 0, .int 0], vm := .none },
  { cls := 9, slots := #[.null, .int 0, .int 0], vm := .none },
  { cls := 10, slots := #[.null], vm := .none }]
def classes : Array Class := #[k0, k1, k2, k3, k4, k5, k6, k7, k8, k9, k10, k11, k12, k13, k14, k15, k16, k17, k18, k19, k20, k21, k22, k23, k24, k25]
def interned : List (Array UInt16 × Addr) := []
def slotsUsed : Nat := 58
def theMethod : MethodId := ⟨1, 1⟩
def args0 : Array Value := #[.int 20000001, .int 5, .int 6, .int 7, .int 8, .int 9]
def aboutOver (below : List Frame) : State where
  vm := { classes := classes, interned := interned.toArray }
  heap := heap
  slotsUsed := slotsUsed
  threads := #[{ frames := .invoking theMethod args0 :: below }]
def below0 : List Frame := [.native { method := ⟨0, 0⟩, args := #[] }]
def about1 : State := aboutOver below0
def p0 : Program := .bare "" "" ""
def e0 : Env := launch0.env 0 0 0
theorem w_frames : about1.frames = Frame.invoking theMethod args0 :: below0 := rfl
set_option maxRecDepth 65536 in
theorem w_args : argsFit about1.vm theMethod args0 = true := by decide +kernel
set_option maxRecDepth 65536 in
theorem w_heap : heapFits about1 = true := by decide +kernel
set_option maxRecDepth 65536 in
theorem w_runnable : about1.curStatus? = some .runnable := by decide +kernel
set_option maxRecDepth 65536 in
theorem w_alone : about1.alone = true := by decide +kernel
set_option maxRecDepth 65536 in
theorem w_named : about1.methodNamed? x = some theMethod := by decide +kernel
set_option maxRecDepth 65536 in
theorem w_hears : about1.hears theMethod below0 = true := by decide +kernel
set_option maxRecDepth 65536 in
theorem w_ripe : about1.ripe theMethod args0 below0 = true := by decide +kernel
theorem w_running : about1.status = .running := rfl
set_option maxRecDepth 65536 in
theorem w_room : about1.hasRoom e0.platform room_1 = true :=
  launch0.hasRoom_least _ room_1 (by decide +kernel) (by decide +kernel) (by decide +kernel) (by decide +kernel) (by decide +kernel) (by decide +kernel)
theorem allAtoms_all (ts : List Jvm.Cond) (a : Array Jvm.Value) (st : Jvm.State) : (allAtoms ts).before a st = ts.all (fun c => c.before a st) := by
  induction ts with
  | nil => rfl
  | cons c t ih =>
    show (Jvm.Cond.and c (allAtoms t)).before a st = _
    rw [Jvm.Cond.before_and, ih, List.all_cons]
def words1 : List Jvm.Cond := Jvm.Cond.code x code maxLocals ret :: tables_1
/-- a 'code' word, met by the world's own term for the bytes: nothing is compared byte by byte -/
theorem code_word {y : MethodName} {bytes : ByteArray} {mx : Nat} {rt : Option FieldType} {a : Array Value} {s : State} {m : MethodId} {meth : Method} {c : Code} (h1 : s.methodNamed? y = some m) (h2 : s.vm.method? m = some meth) (h3 : meth.code = some c) (h4 : c.code = bytes)
    (h5 : (c.maxLocals == mx && c.exceptionTable.isEmpty && decide (c.maxStack ≤ mostOperands) && decide (meth.sig.returnType = rt) && !meth.locks && decide (parseMethodDescriptor y.desc = some meth.sig)) = true) : (Jvm.Cond.code y bytes mx rt).before a s = true := by
  simp only [Bool.and_eq_true, beq_iff_eq, Bool.not_eq_true', decide_eq_true_eq] at h5
  obtain ⟨⟨⟨⟨⟨g1, g2⟩, g3⟩, g4⟩, g5⟩, g6⟩ := h5
  simp [Cond.before, Cond.holds, Cond.value, h1, h2, h3, h4, g1, g2, g3, g4, g5, g6]
def isCode : Jvm.Cond → Bool
  | .code _ _ _ _ => true
  | _ => false
theorem all_split {L : List Jvm.Cond} {P : Jvm.Cond → Bool} (h1 : L.all (fun c => isCode c || P c) = true) (h2 : ∀ c ∈ L.filter isCode, P c = true) : L.all P = true := by
  refine List.all_eq_true.mpr fun c hc => ?_
  have h := List.all_eq_true.mp h1 c hc
  rcases Bool.eq_false_or_eq_true (isCode c) with hi | hi
  · exact h2 c (List.mem_filter.mpr ⟨hc, hi⟩)
  · simpa [hi] using h
set_option maxRecDepth 65536 in
theorem w_c0 : (Jvm.Cond.code x code maxLocals ret).before args0 about1 = true := code_word (m := ⟨1, 1⟩) (meth := k1m1) (c := k1c1) (by decide +kernel) rfl rfl rfl (by decide +kernel)
set_option maxRecDepth 65536 in
theorem w_c1 : (Jvm.Cond.code ({ cls := "com/example/cladistic/cladistic/model/ColumnDefAsNullablePinLaw", name := "name", desc := "(I)Ljava/lang/String;" } : Jvm.MethodName) method_3_code (5 : Nat) (Option.some (Jvm.ClassFile.FieldType.object "java/lang/String"))).before args0 about1 = true := code_word (m := ⟨1, 2⟩) (meth := k1m2) (c := k1c2) (by decide +kernel) rfl rfl rfl (by decide +kernel)
set_option maxRecDepth 65536 in
theorem w_c2 : (Jvm.Cond.code ({ cls := "java/lang/String", name := "<init>", desc := "([C)V" } : Jvm.MethodName) jdk_42_method_3_code (2 : Nat) (Option.none : Option Jvm.ClassFile.FieldType)).before args0 about1 = true := code_word (m := ⟨7, 1⟩) (meth := k7m1) (c := k7c1) (by decide +kernel) rfl rfl rfl (by decide +kernel)
set_option maxRecDepth 65536 in
theorem w_c3 : (Jvm.Cond.code ({ cls := "java/lang/String", name := "<init>", desc := "([CIILjava/lang/Void;)V" } : Jvm.MethodName) jdk_42_method_149_code (6 : Nat) (Option.none : Option Jvm.ClassFile.FieldType)).before args0 about1 = true := code_word (m := ⟨7, 3⟩) (meth := k7m3) (c := k7c3) (by decide +kernel) rfl rfl rfl (by decide +kernel)
set_option maxRecDepth 65536 in
theorem w_c4 : (Jvm.Cond.code ({ cls := "java/lang/Object", name := "<init>", desc := "()V" } : Jvm.MethodName) object_method_1_code (1 : Nat) (Option.none : Option Jvm.ClassFile.FieldType)).before args0 about1 = true := code_word (m := ⟨0, 0⟩) (meth := k0m0) (c := k0c0) (by decide +kernel) rfl rfl rfl (by decide +kernel)
set_option maxRecDepth 65536 in
theorem w_c5 : (Jvm.Cond.code ({ cls := "com/example/cladistic/cladistic/model/ColumnDefAsNullablePinLaw", name := "type", desc := "(I)Lcom/example/cladistic/cladistic/model/ValueType;" } : Jvm.MethodName) method_4_code (2 : Nat) (Option.some (Jvm.ClassFile.FieldType.object "com/example/cladistic/cladistic/model/ValueType"))).before args0 about1 = true := code_word (m := ⟨1, 3⟩) (meth := k1m3) (c := k1c3) (by decide +kernel) rfl rfl rfl (by decide +kernel)
set_option maxRecDepth 65536 in
theorem w_c6 : (Jvm.Cond.code ({ cls := "java/util/Optional", name := "empty", desc := "()Ljava/util/Optional;" } : Jvm.MethodName) jdk_32_method_1_code (1 : Nat) (Option.some (Jvm.ClassFile.FieldType.object "java/util/Optional"))).before args0 about1 = true := code_word (m := ⟨10, 0⟩) (meth := k10m0) (c := k10c0) (by decide +kernel) rfl rfl rfl (by decide +kernel)
set_option maxRecDepth 65536 in
theorem w_c7 : (Jvm.Cond.code ({ cls := "com/example/cladistic/cladistic/model/ColumnDef", name := "<init>", desc := "(Ljava/lang/String;Lcom/example/cladistic/cladistic/model/ValueType;ILjava/util/Optional;ZZZ)V" } : Jvm.MethodName) prog_166_method_1_code (8 : Nat) (Option.none : Option Jvm.ClassFile.FieldType)).before args0 about1 = true := code_word (m := ⟨12, 0⟩) (meth := k12m0) (c := k12c0) (by decide +kernel) rfl rfl rfl (by decide +kernel)
set_option maxRecDepth 65536 in
theorem w_c8 : (Jvm.Cond.code ({ cls := "java/lang/Record", name := "<init>", desc := "()V" } : Jvm.MethodName) jdk_30_method_1_code (1 : Nat) (Option.none : Option Jvm.ClassFile.FieldType)).before args0 about1 = true := code_word (m := ⟨11, 0⟩) (meth := k11m0) (c := k11c0) (by decide +kernel) rfl rfl rfl (by decide +kernel)
set_option maxRecDepth 65536 in
theorem w_c9 : (Jvm.Cond.code ({ cls := "com/example/cladistic/cladistic/model/ColumnDef", name := "asNullable", desc := "()Lcom/example/cladistic/cladistic/model/ColumnDef;" } : Jvm.MethodName) prog_166_method_4_code (1 : Nat) (Option.some (Jvm.ClassFile.FieldType.object "com/example/cladistic/cladistic/model/ColumnDef"))).before args0 about1 = true := code_word (m := ⟨12, 1⟩) (meth := k12m1) (c := k12c1) (by decide +kernel) rfl rfl rfl (by decide +kernel)
set_option maxRecDepth 65536 in
theorem w_c10 : (Jvm.Cond.code ({ cls := "com/example/cladistic/cladistic/model/ColumnDef", name := "name", desc := "()Ljava/lang/String;" } : Jvm.MethodName) prog_166_method_8_code (1 : Nat) (Option.some (Jvm.ClassFile.FieldType.object "java/lang/String"))).before args0 about1 = true := code_word (m := ⟨12, 2⟩) (meth := k12m2) (c := k12c2) (by decide +kernel) rfl rfl rfl (by decide +kernel)
set_option maxRecDepth 65536 in
theorem w_c11 : (Jvm.Cond.code ({ cls := "java/lang/String", name := "equals", desc := "(Ljava/lang/Object;)Z" } : Jvm.MethodName) jdk_42_method_66_code (3 : Nat) (Option.some Jvm.ClassFile.FieldType.boolean)).before args0 about1 = true := code_word (m := ⟨7, 2⟩) (meth := k7m2) (c := k7c2) (by decide +kernel) rfl rfl rfl (by decide +kernel)
set_option maxRecDepth 65536 in
theorem w_c12 : (Jvm.Cond.code ({ cls := "com/example/cladistic/cladistic/model/ColumnDef", name := "type", desc := "()Lcom/example/cladistic/cladistic/model/ValueType;" } : Jvm.MethodName) prog_166_method_9_code (1 : Nat) (Option.some (Jvm.ClassFile.FieldType.object "com/example/cladistic/cladistic/model/ValueType"))).before args0 about1 = true := code_word (m := ⟨12, 3⟩) (meth := k12m3) (c := k12c3) (by decide +kernel) rfl rfl rfl (by decide +kernel)
set_option maxRecDepth 65536 in
theorem w_c13 : (Jvm.Cond.code ({ cls := "com/example/cladistic/cladistic/model/ColumnDef", name := "length", desc := "()I" } : Jvm.MethodName) prog_166_method_10_code (1 : Nat) (Option.some Jvm.ClassFile.FieldType.int)).before args0 about1 = true := code_word (m := ⟨12, 4⟩) (meth := k12m4) (c := k12c4) (by decide +kernel) rfl rfl rfl (by decide +kernel)
set_option maxRecDepth 65536 in
theorem w_c14 : (Jvm.Cond.code ({ cls := "com/example/cladistic/cladistic/model/ColumnDef", name := "decimal", desc := "()Ljava/util/Optional;" } : Jvm.MethodName) prog_166_method_11_code (1 : Nat) (Option.some (Jvm.ClassFile.FieldType.object "java/util/Optional"))).before args0 about1 = true := code_word (m := ⟨12, 5⟩) (meth := k12m5) (c := k12c5) (by decide +kernel) rfl rfl rfl (by decide +kernel)
set_option maxRecDepth 65536 in
theorem w_c15 : (Jvm.Cond.code ({ cls := "java/util/Optional", name := "equals", desc := "(Ljava/lang/Object;)Z" } : Jvm.MethodName) jdk_32_method_19_code (3 : Nat) (Option.some Jvm.ClassFile.FieldType.boolean)).before args0 about1 = true := code_word (m := ⟨10, 3⟩) (meth := k10m3) (c := k10c3) (by decide +kernel) rfl rfl rfl (by decide +kernel)
set_option maxRecDepth 65536 in
theorem w_c16 : (Jvm.Cond.code ({ cls := "com/example/cladistic/cladistic/model/ColumnDef", name := "nullable", desc := "()Z" } : Jvm.MethodName) prog_166_method_12_code (1 : Nat) (Option.some Jvm.ClassFile.FieldType.boolean)).before args0 about1 = true := code_word (m := ⟨12, 6⟩) (meth := k12m6) (c := k12c6) (by decide +kernel) rfl rfl rfl (by decide +kernel)
set_option maxRecDepth 65536 in
theorem w_c17 : (Jvm.Cond.code ({ cls := "com/example/cladistic/cladistic/model/ColumnDef", name := "primaryKey", desc := "()Z" } : Jvm.MethodName) prog_166_method_13_code (1 : Nat) (Option.some Jvm.ClassFile.FieldType.boolean)).before args0 about1 = true := code_word (m := ⟨12, 7⟩) (meth := k12m7) (c := k12c7) (by decide +kernel) rfl rfl rfl (by decide +kernel)
set_option maxRecDepth 65536 in
theorem w_c18 : (Jvm.Cond.code ({ cls := "com/example/cladistic/cladistic/model/ColumnDef", name := "generated", desc := "()Z" } : Jvm.MethodName) prog_166_method_14_code (1 : Nat) (Option.some Jvm.ClassFile.FieldType.boolean)).before args0 about1 = true := code_word (m := ⟨12, 8⟩) (meth := k12m8) (c := k12c8) (by decide +kernel) rfl rfl rfl (by decide +kernel)
set_option maxRecDepth 65536 in
theorem w_c19 : (Jvm.Cond.code ({ cls := "com/example/cladistic/cladistic/model/DecimalSize", name := "<init>", desc := "(II)V" } : Jvm.MethodName) prog_171_method_1_code (3 : Nat) (Option.none : Option Jvm.ClassFile.FieldType)).before args0 about1 = true := code_word (m := ⟨13, 0⟩) (meth := k13m0) (c := k13c0) (by decide +kernel) rfl rfl rfl (by decide +kernel)
set_option maxRecDepth 65536 in
theorem w_c20 : (Jvm.Cond.code ({ cls := "java/util/Optional", name := "of", desc := "(Ljava/lang/Object;)Ljava/util/Optional;" } : Jvm.MethodName) jdk_32_method_3_code (1 : Nat) (Option.some (Jvm.ClassFile.FieldType.object "java/util/Optional"))).before args0 about1 = true := code_word (m := ⟨10, 2⟩) (meth := k10m2) (c := k10c2) (by decide +kernel) rfl rfl rfl (by decide +kernel)
set_option maxRecDepth 65536 in
theorem w_c21 : (Jvm.Cond.code ({ cls := "java/util/Objects", name := "requireNonNull", desc := "(Ljava/lang/Object;)Ljava/lang/Object;" } : Jvm.MethodName) jdk_31_method_10_code (1 : Nat) (Option.some (Jvm.ClassFile.FieldType.object "java/lang/Object"))).before args0 about1 = true := code_word (m := ⟨14, 1⟩) (meth := k14m1) (c := k14c1) (by decide +kernel) rfl rfl rfl (by decide +kernel)
set_option maxRecDepth 65536 in
theorem w_c22 : (Jvm.Cond.code ({ cls := "java/util/Optional", name := "<init>", desc := "(Ljava/lang/Object;)V" } : Jvm.MethodName) jdk_32_method_2_code (2 : Nat) (Option.none : Option Jvm.ClassFile.FieldType)).before args0 about1 = true := code_word (m := ⟨10, 1⟩) (meth := k10m1) (c := k10c1) (by decide +kernel) rfl rfl rfl (by decide +kernel)
set_option maxRecDepth 65536 in
theorem w_c23 : (Jvm.Cond.code ({ cls := "java/lang/StringUTF16", name := "compress", desc := "([CII)[B" } : Jvm.MethodName) jdk_52_method_16_code (6 : Nat) (Option.some (Jvm.ClassFile.FieldType.array Jvm.ClassFile.FieldType.byte))).before args0 about1 = true := code_word (m := ⟨15, 2⟩) (meth := k15m2) (c := k15c2) (by decide +kernel) rfl rfl rfl (by decide +kernel)
set_option maxRecDepth 65536 in
theorem w_c24 : (Jvm.Cond.code ({ cls := "java/lang/StringUTF16", name := "compress", desc := "([CI[BII)I" } : Jvm.MethodName) jdk_52_method_21_code (7 : Nat) (Option.some Jvm.ClassFile.FieldType.int)).before args0 about1 = true := code_word (m := ⟨15, 3⟩) (meth := k15m3) (c := k15c3) (by decide +kernel) rfl rfl rfl (by decide +kernel)
set_option maxRecDepth 65536 in
theorem w_c25 : (Jvm.Cond.code ({ cls := "java/lang/StringUTF16", name := "coderFromArrayLen", desc := "([BI)B" } : Jvm.MethodName) jdk_52_method_15_code (2 : Nat) (Option.some Jvm.ClassFile.FieldType.byte)).before args0 about1 = true := code_word (m := ⟨15, 1⟩) (meth := k15m1) (c := k15c1) (by decide +kernel) rfl rfl rfl (by decide +kernel)
def codes1 : List Jvm.Cond := [Jvm.Cond.code x code maxLocals ret, Jvm.Cond.code ({ cls := "com/example/cladistic/cladistic/model/ColumnDefAsNullablePinLaw", name := "name", desc := "(I)Ljava/lang/String;" } : Jvm.MethodName) method_3_code (5 : Nat) (Option.some (Jvm.ClassFile.FieldType.object "java/lang/String")), Jvm.Cond.code ({ cls := "java/lang/String", name := "<init>", desc := "([C)V" } : Jvm.MethodName) jdk_42_method_3_code (2 : Nat) (Option.none : Option Jvm.ClassFile.FieldType), Jvm.Cond.code ({ cls := "java/lang/String", name := "<init>", desc := "([CIILjava/lang/Void;)V" } : Jvm.MethodName) jdk_42_method_149_code (6 : Nat) (Option.none : Option Jvm.ClassFile.FieldType), Jvm.Cond.code ({ cls := "java/lang/Object", name := "<init>", desc := "()V" } : Jvm.MethodName) object_method_1_code (1 : Nat) (Option.none : Option Jvm.ClassFile.FieldType), Jvm.Cond.code ({ cls := "com/example/cladistic/cladistic/model/ColumnDefAsNullablePinLaw", name := "type", desc := "(I)Lcom/example/cladistic/cladistic/model/ValueType;" } : Jvm.MethodName) method_4_code (2 : Nat) (Option.some (Jvm.ClassFile.FieldType.object "com/example/cladistic/cladistic/model/ValueType")), Jvm.Cond.code ({ cls := "java/util/Optional", name := "empty", desc := "()Ljava/util/Optional;" } : Jvm.MethodName) jdk_32_method_1_code (1 : Nat) (Option.some (Jvm.ClassFile.FieldType.object "java/util/Optional")), Jvm.Cond.code ({ cls := "com/example/cladistic/cladistic/model/ColumnDef", name := "<init>", desc := "(Ljava/lang/String;Lcom/example/cladistic/cladistic/model/ValueType;ILjava/util/Optional;ZZZ)V" } : Jvm.MethodName) prog_166_method_1_code (8 : Nat) (Option.none : Option Jvm.ClassFile.FieldType), Jvm.Cond.code ({ cls := "java/lang/Record", name := "<init>", desc := "()V" } : Jvm.MethodName) jdk_30_method_1_code (1 : Nat) (Option.none : Option Jvm.ClassFile.FieldType), Jvm.Cond.code ({ cls := "com/example/cladistic/cladistic/model/ColumnDef", name := "asNullable", desc := "()Lcom/example/cladistic/cladistic/model/ColumnDef;" } : Jvm.MethodName) prog_166_method_4_code (1 : Nat) (Option.some (Jvm.ClassFile.FieldType.object "com/example/cladistic/cladistic/model/ColumnDef")), Jvm.Cond.code ({ cls := "com/example/cladistic/cladistic/model/ColumnDef", name := "name", desc := "()Ljava/lang/String;" } : Jvm.MethodName) prog_166_method_8_code (1 : Nat) (Option.some (Jvm.ClassFile.FieldType.object "java/lang/String")), Jvm.Cond.code ({ cls := "java/lang/String", name := "equals", desc := "(Ljava/lang/Object;)Z" } : Jvm.MethodName) jdk_42_method_66_code (3 : Nat) (Option.some Jvm.ClassFile.FieldType.boolean), Jvm.Cond.code ({ cls := "com/example/cladistic/cladistic/model/ColumnDef", name := "type", desc := "()Lcom/example/cladistic/cladistic/model/ValueType;" } : Jvm.MethodName) prog_166_method_9_code (1 : Nat) (Option.some (Jvm.ClassFile.FieldType.object "com/example/cladistic/cladistic/model/ValueType")), Jvm.Cond.code ({ cls := "com/example/cladistic/cladistic/model/ColumnDef", name := "length", desc := "()I" } : Jvm.MethodName) prog_166_method_10_code (1 : Nat) (Option.some Jvm.ClassFile.FieldType.int), Jvm.Cond.code ({ cls := "com/example/cladistic/cladistic/model/ColumnDef", name := "decimal", desc := "()Ljava/util/Optional;" } : Jvm.MethodName) prog_166_method_11_code (1 : Nat) (Option.some (Jvm.ClassFile.FieldType.object "java/util/Optional")), Jvm.Cond.code ({ cls := "java/util/Optional", name := "equals", desc := "(Ljava/lang/Object;)Z" } : Jvm.MethodName) jdk_32_method_19_code (3 : Nat) (Option.some Jvm.ClassFile.FieldType.boolean), Jvm.Cond.code ({ cls := "com/example/cladistic/cladistic/model/ColumnDef", name := "nullable", desc := "()Z" } : Jvm.MethodName) prog_166_method_12_code (1 : Nat) (Option.some Jvm.ClassFile.FieldType.boolean), Jvm.Cond.code ({ cls := "com/example/cladistic/cladistic/model/ColumnDef", name := "primaryKey", desc := "()Z" } : Jvm.MethodName) prog_166_method_13_code (1 : Nat) (Option.some Jvm.ClassFile.FieldType.boolean), Jvm.Cond.code ({ cls := "com/example/cladistic/cladistic/model/ColumnDef", name := "generated", desc := "()Z" } : Jvm.MethodName) prog_166_method_14_code (1 : Nat) (Option.some Jvm.ClassFile.FieldType.boolean), Jvm.Cond.code ({ cls := "com/example/cladistic/cladistic/model/DecimalSize", name := "<init>", desc := "(II)V" } : Jvm.MethodName) prog_171_method_1_code (3 : Nat) (Option.none : Option Jvm.ClassFile.FieldType), Jvm.Cond.code ({ cls := "java/util/Optional", name := "of", desc := "(Ljava/lang/Object;)Ljava/util/Optional;" } : Jvm.MethodName) jdk_32_method_3_code (1 : Nat) (Option.some (Jvm.ClassFile.FieldType.object "java/util/Optional")), Jvm.Cond.code ({ cls := "java/util/Objects", name := "requireNonNull", desc := "(Ljava/lang/Object;)Ljava/lang/Object;" } : Jvm.MethodName) jdk_31_method_10_code (1 : Nat) (Option.some (Jvm.ClassFile.FieldType.object "java/lang/Object")), Jvm.Cond.code ({ cls := "java/util/Optional", name := "<init>", desc := "(Ljava/lang/Object;)V" } : Jvm.MethodName) jdk_32_method_2_code (2 : Nat) (Option.none : Option Jvm.ClassFile.FieldType), Jvm.Cond.code ({ cls := "java/lang/StringUTF16", name := "compress", desc := "([CII)[B" } : Jvm.MethodName) jdk_52_method_16_code (6 : Nat) (Option.some (Jvm.ClassFile.FieldType.array Jvm.ClassFile.FieldType.byte)), Jvm.Cond.code ({ cls := "java/lang/StringUTF16", name := "compress", desc := "([CI[BII)I" } : Jvm.MethodName) jdk_52_method_21_code (7 : Nat) (Option.some Jvm.ClassFile.FieldType.int), Jvm.Cond.code ({ cls := "java/lang/StringUTF16", name := "coderFromArrayLen", desc := "([BI)B" } : Jvm.MethodName) jdk_52_method_15_code (2 : Nat) (Option.some Jvm.ClassFile.FieldType.byte)]
set_option maxRecDepth 65536 in
theorem codes_eq : words1.filter isCode = codes1 := rfl
theorem w_codes : ∀ c ∈ words1.filter isCode, c.before args0 about1 = true := by
  rw [codes_eq]
  intro c hc
  simp only [codes1, List.mem_cons, List.not_mem_nil, or_false] at hc
  rcases hc with rfl | rfl | rfl | rfl | rfl | rfl | rfl | rfl | rfl | rfl | rfl | rfl | rfl | rfl | rfl | rfl | rfl | rfl | rfl | rfl | rfl | rfl | rfl | rfl | rfl | rfl
  · exact w_c0
  · exact w_c1
  · exact w_c2
  · exact w_c3
  · exact w_c4
  · exact w_c5
  · exact w_c6
  · exact w_c7
  · exact w_c8
  · exact w_c9
  · exact w_c10
  · exact w_c11
  · exact w_c12
  · exact w_c13
  · exact w_c14
  · exact w_c15
  · exact w_c16
  · exact w_c17
  · exact w_c18
  · exact w_c19
  · exact w_c20
  · exact w_c21
  · exact w_c22
  · exact w_c23
  · exact w_c24
  · exact w_c25
set_option maxRecDepth 65536 in
theorem w_t1 : (words1.take 24).all (fun c => isCode c || c.before args0 about1) = true := by decide +kernel
set_option maxRecDepth 65536 in
theorem w_t2 : ((words1.drop 24).take 24).all (fun c => isCode c || c.before args0 about1) = true := by decide +kernel
set_option maxRecDepth 65536 in
theorem w_t3 : (((words1.drop 24).drop 24).take 24).all (fun c => isCode c || c.before args0 about1) = true := by decide +kernel
set_option maxRecDepth 65536 in
theorem w_t4 : ((((words1.drop 24).drop 24).drop 24).take 24).all (fun c => isCode c || c.before args0 about1) = true := by decide +kernel
set_option maxRecDepth 65536 in
theorem w_t5 : (((((words1.drop 24).drop 24).drop 24).drop 24).take 24).all (fun c => isCode c || c.before args0 about1) = true := by decide +kernel
set_option maxRecDepth 65536 in
theorem w_t6 : ((((((words1.drop 24).drop 24).drop 24).drop 24).drop 24).take 24).all (fun c => isCode c || c.before args0 about1) = true := by decide +kernel
set_option maxRecDepth 65536 in
theorem w_t7 : (((((((words1.drop 24).drop 24).drop 24).drop 24).drop 24).drop 24).take 24).all (fun c => isCode c || c.before args0 about1) = true := by decide +kernel
set_option maxRecDepth 65536 in
theorem w_t8 : (((((((words1.drop 24).drop 24).drop 24).drop 24).drop 24).drop 24).drop 24).all (fun c => isCode c || c.before args0 about1) = true := by decide +kernel
theorem w_tables : (allAtoms (Jvm.Cond.code x code maxLocals ret :: tables_1)).before args0 about1 = true := by
  rw [allAtoms_all]
  show words1.all (fun c => c.before args0 about1) = true
  refine all_split ?_ w_codes
  rw [← List.take_append_drop 24 words1, List.all_append, w_t1, ← List.take_append_drop 24 (words1.drop 24), List.all_append, w_t2, ← List.take_append_drop 24 ((words1.drop 24).drop 24), List.all_append, w_t3, ← List.take_append_drop 24 (((words1.drop 24).drop 24).drop 24), List.all_append, w_t4, ← List.take_append_drop 24 ((((words1.drop 24).drop 24).drop 24).drop 24), List.all_append, w_t5, ← List.take_append_drop 24 (((((words1.drop 24).drop 24).drop 24).drop 24).drop 24), List.all_append, w_t6, ← List.take_append_drop 24 ((((((words1.drop 24).drop 24).drop 24).drop 24).drop 24).drop 24), List.all_append, w_t7, w_t8]
  rfl
set_option maxRecDepth 65536 in
theorem w_rest : rest_1_c.before args0 about1 = true := by decide +kernel
set_option maxRecDepth 65536 in
theorem w_case : (Jvm.Cond.and given_1 narrow_1).before args0 about1 = true := by decide +kernel
set_option maxRecDepth 65536 in
theorem w_consts : constsHeld consts_1 about1 := Jvm.Lit.constsHeldB_iff.mp (by decide +kernel)
theorem w_applies : (headSpec (Jvm.Cond.code x code maxLocals ret :: tables_1) room_1).applies x e0.platform about1 = true :=
  (Spec.applies_iff w_frames).mpr ⟨w_running, w_runnable, w_alone, w_named, w_hears, w_ripe, w_room, w_tables⟩
theorem atStart : AtStart classFile x code maxLocals ret World_1 tables_1 room_1 Calls_1 rest_1 Pre_1 launch0 p0 e0 about1 theMethod args0 below0 :=
  ⟨lists_1, trivial, launch0.admits_env _ _ _, launch0.least_env, fairChoices_fair.cas, fairChoices_fair.clock, w_frames, w_args, w_heap, w_applies, ⟨w_consts, trivial⟩, w_rest, w_case⟩
end start1
theorem witness_1 : WitnessClaimed_1 := ⟨start1.p0, start1.e0, start1.about1, start1.theMethod, start1.args0, start1.below0, start1.atStart⟩
end Jvm.Pilot.@@N@@
