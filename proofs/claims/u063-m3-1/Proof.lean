import JvmDerived
import JvmDerived.Pilot.@@N@@Statement
import JvmDerived.Pilot.@@N@@Code
set_option linter.unusedVariables false
set_option linter.unusedSimpArgs false
/- laws to paste: Road.backV, Road.lenW, Road.empW, Road.codOf, pair_says (cut by pick.py; bodies as the Statement names them) -/
namespace Jvm.Pilot.@@N@@
namespace StrChars
open Jvm Sem ClassFile Op Lib Jvm.Stand Jvm.Free.XT Jvm.Free.ALB Jvm.Free.JM Jvm.Free
open Jvm.Lib.Cold (StaticIs)
/-- a char array whose places are chars -/
def Ch (a : Addr) (A : Cell) (U : State) : Prop := Arr .char a A U ∧ Typed .char A
theorem Ch.mv {a : Addr} {A : Cell} {U U' : State} (h : Ch a A U) (hal : U.vm.Alike U'.vm) (hh : U'.heap = U.heap) : Ch a A U' := ⟨h.1.mv hal hh, h.2⟩
theorem Ch.keep {a : Addr} {A : Cell} {U U' : State} (h : Ch a A U) (hal : U.vm.Alike U'.vm) (hk : U'.heap[a]? = some A) : Ch a A U' := ⟨h.1.keep hal hk, h.2⟩
/-- what place i of a char[]'s cell holds -/
def cv (A : Cell) (i : Nat) : Int32 := match A.slots[i]? with | some (.int x) => x | _ => 0
theorem Ch.get {a : Addr} {A : Cell} {U : State} (h : Ch a A U) {i : Nat} (hi : i < A.slots.size) : A.slots[i]? = some (.int (cv A i)) := by
  have e := Array.getElem?_eq_getElem hi
  have f := h.2 i _ e
  unfold cv; rw [e]
  generalize A.slots[i] = v at f
  cases v <;> simp [fits] at f ⊢
/-- the byte that i2b leaves of a char -/
def lo8 (x : Int32) : Int32 := x.toInt8.toInt32
theorem fits_lo8 (y : Int32) : fits .byte (.int (lo8 y)) = true := by
  have h1 := y.toInt8.le_toInt
  have h2 := y.toInt8.toInt_lt
  simp only [lo8, fits, Bool.and_eq_true, decide_eq_true_eq, Int32.le_iff_toInt_le, Int8.toInt_toInt32, show (-128 : Int32).toInt = -128 from by decide, show (127 : Int32).toInt = 127 from by decide]
  omega
/-- A' is A but that each place j of lo .. hi - 1 holds f j -/
def Laid (A A' : Cell) (lo hi : Nat) (f : Nat → Value) : Prop := A'.cls = A.cls ∧ A'.vm = A.vm ∧ A'.slots.size = A.slots.size ∧ ∀ i, A'.slots[i]? = if lo ≤ i ∧ i < hi then some (f i) else A.slots[i]?
theorem Laid.zero (A : Cell) (lo : Nat) (f : Nat → Value) : Laid A A lo (lo + 0) f := ⟨rfl, rfl, rfl, fun i => by rw [if_neg (by omega)]⟩
theorem Laid.step {A Ak : Cell} {lo k : Nat} {f : Nat → Value} {v : Value} (h : Laid A Ak lo k f) (hlo : lo ≤ k) (hk : k < Ak.slots.size) (hv : v = f k) : Laid A (Ak.setSlot k v) lo (k + 1) f := by
  refine ⟨h.1, h.2.1, by simpa [Cell.setSlot] using h.2.2.1, fun i => ?_⟩
  by_cases e : k = i
  · subst e; rw [Cell.slots_setSlot_self v hk, if_pos (by omega), hv]
  · rw [Cell.slots_setSlot_ne v e, h.2.2.2 i]
    by_cases q : lo ≤ i ∧ i < k
    · rw [if_pos q, if_pos (by omega)]
    · rw [if_neg q, if_neg (by omega)]
def U16 : String := "java/lang/StringUTF16"
namespace Cmp5
def yN : MethodName := ⟨"java/lang/StringUTF16", "compress", "([CI[BII)I"⟩
abbrev yB : ByteArray := jdk_52_method_21_code
theorem d0 : decode yB 0 = .ok (.iconst 0, 1) := by decide +kernel
theorem d1 : decode yB 1 = .ok (.istore 5, 2) := by decide +kernel
theorem d3 : decode yB 3 = .ok (.iload 5, 2) := by decide +kernel
theorem d5 : decode yB 5 = .ok (.iload 4, 2) := by decide +kernel
theorem d7 : decode yB 7 = .ok (.if_icmp (.ge) 37, 3) := by decide +kernel
theorem d10 : decode yB 10 = .ok (.aload_n 0, 1) := by decide +kernel
theorem d11 : decode yB 11 = .ok (.iload_n 1, 1) := by decide +kernel
theorem d12 : decode yB 12 = .ok (.caload, 1) := by decide +kernel
theorem d13 : decode yB 13 = .ok (.istore 6, 2) := by decide +kernel
theorem d15 : decode yB 15 = .ok (.iload 6, 2) := by decide +kernel
theorem d17 : decode yB 17 = .ok (.sipush 255, 3) := by decide +kernel
theorem d20 : decode yB 20 = .ok (.if_icmp (.le) 6, 3) := by decide +kernel
theorem d26 : decode yB 26 = .ok (.aload_n 2, 1) := by decide +kernel
theorem d27 : decode yB 27 = .ok (.iload_n 3, 1) := by decide +kernel
theorem d28 : decode yB 28 = .ok (.iload 6, 2) := by decide +kernel
theorem d30 : decode yB 30 = .ok (.i2b, 1) := by decide +kernel
theorem d31 : decode yB 31 = .ok (.bastore, 1) := by decide +kernel
theorem d32 : decode yB 32 = .ok (.iinc 1 1, 3) := by decide +kernel
theorem d35 : decode yB 35 = .ok (.iinc 3 1, 3) := by decide +kernel
theorem d38 : decode yB 38 = .ok (.iinc 5 1, 3) := by decide +kernel
theorem d41 : decode yB 41 = .ok (.goto (-38), 3) := by decide +kernel
theorem d44 : decode yB 44 = .ok (.iload 4, 2) := by decide +kernel
theorem d46 : decode yB 46 = .ok (.ireturn, 1) := by decide +kernel
def site : List Cond := []
def tab : Cond := tabOf yN yB 7 (some .int) site
def P (b : Addr) (A : Cell) (d : Addr) (B : Cell) (o q len : Nat) (args : Array Value) (s : State) : Prop := args = #[.ref b, .int (Int32.ofNat o), .ref d, .int (Int32.ofNat q), .int (Int32.ofNat len)] ∧ Ch b A s ∧ Arr .byte d B s ∧ b ≠ d ∧ o + len ≤ A.slots.size ∧ q + len ≤ B.slots.size ∧ ∀ i, i < len → ¬ 255 < cv A (o + i)
def E (b : Addr) (A : Cell) (d : Addr) (B : Cell) (o q len : Nat) (r : Option Value) (s u : State) : Prop := r = some (.int (Int32.ofNat len)) ∧ ∃ B', Put d B' s u ∧ Laid B B' q (q + len) (fun j => Value.int (lo8 (cv A (o + (j - q)))))
/-- no char of the range above 255: len; the places written hold each char's low byte -/
theorem law (l : Launch) (b : Addr) (A : Cell) (d : Addr) (B : Cell) (o q len : Nat) : Law l yN 5 5 0 0 yB 7 (some .int) site (P b A d B o q len) (E b A d B o q len) (copyLocs d q len) 0 0 := by
  refine Law.of_walk (plainFor_of_name (by decide +kernel)) (by decide +kernel) (by decide +kernel) (by decide) (fun _ _ h => by rw [h.1]; rfl) (fun _ U U' hal hh h => ⟨h.1, h.2.1.mv hal hh, h.2.2.1.mv hal hh, h.2.2.2⟩) (fun r U U' V V' h1 hal h2 h => ⟨h.1, h.2.elim fun B' q => ⟨B', q.1.mv h1 h2, q.2⟩⟩) ?_
  intro p e s m args below meth c s₁ X0 hexec hbytes hml hret hlk hnm hown hh0 W hP
  obtain ⟨rfl, hA, hB, hne, l1, l2, hp⟩ := hP
  have c1 : Steps p.tables e below (s₁.setTop (entryFrame m #[.ref b, .int (Int32.ofNat o), .ref d, .int (Int32.ofNat q), .int (Int32.ofNat len)] 7)) (s₁.setTop (mkF m 0 #[.val (.ref b), .val (.int (Int32.ofNat o)), .val (.ref d), .val (.int (Int32.ofNat q)), .val (.int (Int32.ofNat len)), .unset, .unset] [])) := entry rfl
  have hA0 := hA.1.mv X0.warmed.alike hh0
  have hB0 := hB.mv X0.warmed.alike hh0
  have a31 := hA.1.2.2.2
  have c2 : Steps p.tables e below (s₁.setTop (entryFrame m #[.ref b, .int (Int32.ofNat o), .ref d, .int (Int32.ofNat q), .int (Int32.ofNat len)] 7)) (s₁.setTop (mkF m 3 #[.val (.ref b), .val (.int (Int32.ofNat o)), .val (.ref d), .val (.int (Int32.ofNat q)), .val (.int (Int32.ofNat len)), .val (.int 0), .unset] [])) := c1.trans (by
    refine iconstV X0.here hexec rfl 0 (hb hbytes d0) (by decide) ?_
    refine XS.istore X0.here hexec rfl (hb hbytes d1) rfl rfl ?_
    exact Steps.refl _)
  have loop : ∀ (r i : Nat), i + r = len → ∀ (z : Slot), (z = .unset ∨ ∃ w, z = .val w ∧ w.category = 1) → ∀ (Tl : State) (Bk : Cell), Stand p l e { frames := 0, locals := 0, cells := 0, slots := 0 } s m #[.ref b, .int (Int32.ofNat o), .ref d, .int (Int32.ofNat q), .int (Int32.ofNat len)] below meth c Tl ([] ++ copyLocs d q i) 0 0 → Put d Bk s₁ Tl → Laid B Bk q (q + i) (fun j => Value.int (lo8 (cv A (o + (j - q))))) →
      Steps p.tables e below (s₁.setTop (entryFrame m #[.ref b, .int (Int32.ofNat o), .ref d, .int (Int32.ofNat q), .int (Int32.ofNat len)] 7)) (Tl.setTop (mkF m 3 #[.val (.ref b), .val (.int (Int32.ofNat (o + i))), .val (.ref d), .val (.int (Int32.ofNat (q + i))), .val (.int (Int32.ofNat len)), .val (.int (Int32.ofNat i)), z] [])) → ∃ (T' : State) (B' : Cell) (z' : Slot), Stand p l e { frames := 0, locals := 0, cells := 0, slots := 0 } s m #[.ref b, .int (Int32.ofNat o), .ref d, .int (Int32.ofNat q), .int (Int32.ofNat len)] below meth c T' ([] ++ copyLocs d q len) 0 0 ∧ Put d B' s₁ T' ∧ Laid B B' q (q + len) (fun j => Value.int (lo8 (cv A (o + (j - q))))) ∧
      Steps p.tables e below (s₁.setTop (entryFrame m #[.ref b, .int (Int32.ofNat o), .ref d, .int (Int32.ofNat q), .int (Int32.ofNat len)] 7)) (T'.setTop (mkF m 3 #[.val (.ref b), .val (.int (Int32.ofNat (o + len))), .val (.ref d), .val (.int (Int32.ofNat (q + len))), .val (.int (Int32.ofNat len)), .val (.int (Int32.ofNat len)), z'] [])) := by
    intro r
    induction r with
    | zero =>
      intro i hi z hz Tl Bk Xl pl fl cl
      have hil : i = len := by omega
      rw [hil] at Xl fl cl
      exact ⟨Tl, Bk, z, Xl, pl, fl, cl⟩
    | succ r ih =>
      intro i hi z hz Tl Bk Xl pl fl cl
      have all := X0.warmed.alike.symm.trans Xl.warmed.alike
      have hAl := hA0.keep all (pl.other hne hA0.1)
      have hBk := hB0.like all pl.1 fl.1 fl.2.1 fl.2.2.1
      have hlt : q + i < Bk.slots.size := by rw [fl.2.2.1]; omega
      have c3 : Steps p.tables e below (s₁.setTop (entryFrame m #[.ref b, .int (Int32.ofNat o), .ref d, .int (Int32.ofNat q), .int (Int32.ofNat len)] 7)) (Tl.setTop (mkF m 12 #[.val (.ref b), .val (.int (Int32.ofNat (o + i))), .val (.ref d), .val (.int (Int32.ofNat (q + i))), .val (.int (Int32.ofNat len)), .val (.int (Int32.ofNat i)), z] [.int (Int32.ofNat (o + i)), .ref b])) := cl.trans (by
        refine XS.iload Xl.here hexec rfl (hb hbytes d3) rfl ?_
        refine XS.iload Xl.here hexec rfl (hb hbytes d5) rfl ?_
        refine XS.icmpNo Xl.here hexec rfl (hb hbytes d7) rfl (ii_ge_f (lt32 (by omega) (by omega))) ?_
        refine XS.aloadN Xl.here hexec rfl (hb hbytes d10) rfl rfl ?_
        refine XS.iloadN Xl.here hexec rfl (hb hbytes d11) rfl ?_
        exact Steps.refl _)
      have c4 : Steps p.tables e below (s₁.setTop (entryFrame m #[.ref b, .int (Int32.ofNat o), .ref d, .int (Int32.ofNat q), .int (Int32.ofNat len)] 7)) (Tl.setTop (mkF m 13 #[.val (.ref b), .val (.int (Int32.ofNat (o + i))), .val (.ref d), .val (.int (Int32.ofNat (q + i))), .val (.int (Int32.ofNat len)), .val (.int (Int32.ofNat i)), z] [.int (cv A (o + i))])) := c3.trans (by
        refine Xl.aget hexec hAl rfl (hA.get (i := o + i) (by omega)) rfl rfl (hb hbytes d12) ?_
        exact Steps.refl _)
      have c5 : Steps p.tables e below (s₁.setTop (entryFrame m #[.ref b, .int (Int32.ofNat o), .ref d, .int (Int32.ofNat q), .int (Int32.ofNat len)] 7)) (Tl.setTop (mkF m 15 #[.val (.ref b), .val (.int (Int32.ofNat (o + i))), .val (.ref d), .val (.int (Int32.ofNat (q + i))), .val (.int (Int32.ofNat len)), .val (.int (Int32.ofNat i)), .val (.int (cv A (o + i)))] [])) := c4.trans (by
        refine XS.istoreS Xl.here hexec rfl (hb hbytes d13) rfl rfl hz ?_
        exact Steps.refl _)
      have c6 : Steps p.tables e below (s₁.setTop (entryFrame m #[.ref b, .int (Int32.ofNat o), .ref d, .int (Int32.ofNat q), .int (Int32.ofNat len)] 7)) (Tl.setTop (mkF m 31 #[.val (.ref b), .val (.int (Int32.ofNat (o + i))), .val (.ref d), .val (.int (Int32.ofNat (q + i))), .val (.int (Int32.ofNat len)), .val (.int (Int32.ofNat i)), .val (.int (cv A (o + i)))] [.int (lo8 (cv A (o + i))), .int (Int32.ofNat (q + i)), .ref d])) := c5.trans (by
        refine XS.iload Xl.here hexec rfl (hb hbytes d15) rfl ?_
        refine sipushV Xl.here hexec rfl 255 (hb hbytes d17) (by decide) ?_
        refine XS.icmpYes Xl.here hexec rfl (pc0 := 20) rfl (hb hbytes d20) rfl (ii_le_t (hp i (by omega))) (by decide) rfl ?_
        refine XS.aloadN Xl.here hexec rfl (hb hbytes d26) rfl rfl ?_
        refine XS.iloadN Xl.here hexec rfl (hb hbytes d27) rfl ?_
        refine XS.iload Xl.here hexec rfl (hb hbytes d28) rfl ?_
        refine i2b Xl.here hexec rfl (hb hbytes d30) rfl ?_
        exact Steps.refl _)
      obtain ⟨T7, X7, p7, st7⟩ := Xl.aput hexec hBk rfl hlt rfl (fits_lo8 (cv A (o + i))) (g := (mkF m 31 #[.val (.ref b), .val (.int (Int32.ofNat (o + i))), .val (.ref d), .val (.int (Int32.ofNat (q + i))), .val (.int (Int32.ofNat len)), .val (.int (Int32.ofNat i)), .val (.int (cv A (o + i)))] [.int (lo8 (cv A (o + i))), .int (Int32.ofNat (q + i)), .ref d])) rfl (rest := []) rfl (hb hbytes d31)
      have c8 : Steps p.tables e below (s₁.setTop (entryFrame m #[.ref b, .int (Int32.ofNat o), .ref d, .int (Int32.ofNat q), .int (Int32.ofNat len)] 7)) (T7.setTop (mkF m 32 #[.val (.ref b), .val (.int (Int32.ofNat (o + i))), .val (.ref d), .val (.int (Int32.ofNat (q + i))), .val (.int (Int32.ofNat len)), .val (.int (Int32.ofNat i)), .val (.int (cv A (o + i)))] [])) := c6.trans (st7 _ (Steps.refl _))
      have c9 : Steps p.tables e below (s₁.setTop (entryFrame m #[.ref b, .int (Int32.ofNat o), .ref d, .int (Int32.ofNat q), .int (Int32.ofNat len)] 7)) (T7.setTop (mkF m 3 #[.val (.ref b), .val (.int (Int32.ofNat (o + i) + 1)), .val (.ref d), .val (.int (Int32.ofNat (q + i) + 1)), .val (.int (Int32.ofNat len)), .val (.int (Int32.ofNat i + 1)), .val (.int (cv A (o + i)))] [])) := c8.trans (by
        refine iincV X7.here hexec rfl 1 (hb hbytes d32) (by decide) rfl rfl ?_
        refine iincV X7.here hexec rfl 1 (hb hbytes d35) (by decide) rfl rfl ?_
        refine iincV X7.here hexec rfl 1 (hb hbytes d38) (by decide) rfl rfl ?_
        refine XS.goto X7.here hexec rfl (pc0 := 41) rfl (hb hbytes d41) (by decide) rfl ?_
        exact Steps.refl _)
      have c10 : Steps p.tables e below (s₁.setTop (entryFrame m #[.ref b, .int (Int32.ofNat o), .ref d, .int (Int32.ofNat q), .int (Int32.ofNat len)] 7)) (T7.setTop (mkF m 3 #[.val (.ref b), .val (.int (Int32.ofNat (o + (i + 1)))), .val (.ref d), .val (.int (Int32.ofNat (q + (i + 1)))), .val (.int (Int32.ofNat len)), .val (.int (Int32.ofNat (i + 1))), .val (.int (cv A (o + i)))] [])) := by
        have := c9
        rw [succ32, succ32, succ32] at this
        exact this
      exact ih (i + 1) (by omega) _ (Or.inr ⟨_, rfl, rfl⟩) T7 _ (by rw [copyLocs_step, ← List.append_assoc]; exact X7) (pl.trans p7) (fl.step (by omega) hlt (by simp)) c10
  obtain ⟨T9, B9, z9, X9, p9, f9, g9⟩ := loop len 0 (by omega) .unset (Or.inl rfl) s₁ B (by simpa [copyLocs] using X0) ⟨hB0.1, fun _ _ => rfl, rfl⟩ (Laid.zero _ _ _) c2
  have c11 : Steps p.tables e below (s₁.setTop (entryFrame m #[.ref b, .int (Int32.ofNat o), .ref d, .int (Int32.ofNat q), .int (Int32.ofNat len)] 7)) (T9.setTop (mkF m 46 #[.val (.ref b), .val (.int (Int32.ofNat (o + len))), .val (.ref d), .val (.int (Int32.ofNat (q + len))), .val (.int (Int32.ofNat len)), .val (.int (Int32.ofNat len)), z9] [.int (Int32.ofNat len)])) := g9.trans (by
    refine XS.iload X9.here hexec rfl (hb hbytes d3) rfl ?_
    refine XS.iload X9.here hexec rfl (hb hbytes d5) rfl ?_
    refine XS.icmpYes X9.here hexec rfl (pc0 := 7) rfl (hb hbytes d7) rfl (ii_ge_t (nlt32 (by omega) (Nat.le_refl _))) (by decide) rfl ?_
    refine XS.iload X9.here hexec rfl (hb hbytes d44) rfl ?_
    exact Steps.refl _)
  exact ⟨T9, some (.int (Int32.ofNat len)), _, _, _, X9, by simp, rfl, rfl, (fun h => by cases h), ⟨rfl, B9, p9.from hh0, f9⟩, fun fs hl => c11.trans (X9.ireturnOut hexec hret rfl (Or.inl rfl) (hb hbytes d46) hl)⟩
end Cmp5
namespace Cmp3
def yN : MethodName := ⟨"java/lang/StringUTF16", "compress", "([CII)[B"⟩
abbrev yB : ByteArray := jdk_52_method_16_code
theorem d0 : decode yB 0 = .ok (.iload_n 2, 1) := by decide +kernel
theorem d1 : decode yB 1 = .ok (.newarray .byte, 2) := by decide +kernel
theorem d3 : decode yB 3 = .ok (.astore_n 3, 1) := by decide +kernel
theorem d4 : decode yB 4 = .ok (.aload_n 0, 1) := by decide +kernel
theorem d5 : decode yB 5 = .ok (.iload_n 1, 1) := by decide +kernel
theorem d6 : decode yB 6 = .ok (.aload_n 3, 1) := by decide +kernel
theorem d7 : decode yB 7 = .ok (.iconst 0, 1) := by decide +kernel
theorem d8 : decode yB 8 = .ok (.iload_n 2, 1) := by decide +kernel
theorem d9 : decode yB 9 = .ok (.invokestatic 115, 3) := by decide +kernel
theorem d12 : decode yB 12 = .ok (.istore 4, 2) := by decide +kernel
theorem d14 : decode yB 14 = .ok (.iload 4, 2) := by decide +kernel
theorem d16 : decode yB 16 = .ok (.iload_n 2, 1) := by decide +kernel
theorem d17 : decode yB 17 = .ok (.if_icmp (.eq) 40, 3) := by decide +kernel
theorem d57 : decode yB 57 = .ok (.aload_n 3, 1) := by decide +kernel
theorem d58 : decode yB 58 = .ok (.areturn, 1) := by decide +kernel
def site : List Cond := [.arrayClass .byte, Cmp5.tab] ++ staticW U16 115 Cmp5.yN
def tab : Cond := tabOf yN yB 6 (some (.array .byte)) site
def P (b : Addr) (A : Cell) (o len : Nat) (args : Array Value) (s : State) : Prop := args = #[.ref b, .int (Int32.ofNat o), .int (Int32.ofNat len)] ∧ Ch b A s ∧ o + len ≤ A.slots.size ∧ len ≤ 536870912 ∧ ∀ i, i < len → ¬ 255 < cv A (o + i)
def E (b : Addr) (A : Cell) (o len : Nat) (r : Option Value) (s u : State) : Prop := NewArr .byte "[B" len (fun j => .int (lo8 (cv A (o + j)))) r s u ∧ u.heap.size = s.heap.size + 1
/-- no char of the range above 255: a new byte[] of their low bytes -/
theorem law (l : Launch) (b : Addr) (A : Cell) (o len : Nat) : Law l yN 3 3 1 18 yB 6 (some (.array .byte)) site (P b A o len) (E b A o len) [] 1 len := by
  refine Law.of_walk (plainFor_of_name (by decide +kernel)) (by decide +kernel) (by decide +kernel) (by decide) (fun _ _ h => by rw [h.1]; rfl) (fun _ U U' hal hh h => ⟨h.1, h.2.1.mv hal hh, h.2.2⟩) (fun r U U' V V' h1 hal h2 h => ⟨NewArr.mv r U U' V V' h1 hal h2 h.1, by rw [h1, h2]; exact h.2⟩) ?_
  intro p e s m args below meth c s₁ X0 hexec hbytes hml hret hlk hnm hown hh0 W hP
  obtain ⟨rfl, hA, l1, l2, hp⟩ := hP
  have a31 := hA.1.2.2.2
  have c1 : Steps p.tables e below (s₁.setTop (entryFrame m #[.ref b, .int (Int32.ofNat o), .int (Int32.ofNat len)] 6)) (s₁.setTop (mkF m 0 #[.val (.ref b), .val (.int (Int32.ofNat o)), .val (.int (Int32.ofNat len)), .unset, .unset, .unset] [])) := entry rfl
  have c2 : Steps p.tables e below (s₁.setTop (entryFrame m #[.ref b, .int (Int32.ofNat o), .int (Int32.ofNat len)] 6)) (s₁.setTop (mkF m 1 #[.val (.ref b), .val (.int (Int32.ofNat o)), .val (.int (Int32.ofNat len)), .unset, .unset, .unset] [.int (Int32.ofNat len)])) := c1.trans (by
    refine XS.iloadN X0.here hexec rfl (hb hbytes d0) rfl ?_
    exact Steps.refl _)
  obtain ⟨T3, B3, X3, ba3, bs3, bv3, bh3, bf3, st3⟩ := X0.anew hexec (atype := .byte) (wk W (.arrayClass .byte)) rfl (by show len * 1 ≤ _; omega) (by omega) (g := (mkF m 1 #[.val (.ref b), .val (.int (Int32.ofNat o)), .val (.int (Int32.ofNat len)), .unset, .unset, .unset] [.int (Int32.ofNat len)])) rfl (hb hbytes d1) (rest := []) rfl (Nat.le_refl _) (by show 0 + len ≤ len; omega)
  rw [hh0] at ba3 st3
  have kp3 : XT.Kept s T3 := (XT.Kept.of_eq hh0).push bh3
  have hA3 := hA.keep X3.warmed.alike (kp3 _ _ hA.1.1)
  have hne : b ≠ s.heap.size := hA.1.ne
  have c4 : Steps p.tables e below (s₁.setTop (entryFrame m #[.ref b, .int (Int32.ofNat o), .int (Int32.ofNat len)] 6)) (T3.setTop (mkF m 3 #[.val (.ref b), .val (.int (Int32.ofNat o)), .val (.int (Int32.ofNat len)), .unset, .unset, .unset] [.ref s.heap.size])) := c2.trans (st3 _ (Steps.refl _))
  have c5 : Steps p.tables e below (s₁.setTop (entryFrame m #[.ref b, .int (Int32.ofNat o), .int (Int32.ofNat len)] 6)) (T3.setTop (mkF m 9 #[.val (.ref b), .val (.int (Int32.ofNat o)), .val (.int (Int32.ofNat len)), .val (.ref s.heap.size), .unset, .unset] [.int (Int32.ofNat len), .int 0, .ref s.heap.size, .int (Int32.ofNat o), .ref b])) := c4.trans (by
    refine XS.astoreN X3.here hexec rfl (hb hbytes d3) rfl rfl rfl ?_
    refine XS.aloadN X3.here hexec rfl (hb hbytes d4) rfl rfl ?_
    refine XS.iloadN X3.here hexec rfl (hb hbytes d5) rfl ?_
    refine XS.aloadN X3.here hexec rfl (hb hbytes d6) rfl rfl ?_
    refine iconstV X3.here hexec rfl 0 (hb hbytes d7) (by decide) ?_
    refine XS.iloadN X3.here hexec rfl (hb hbytes d8) rfl ?_
    exact Steps.refl _)
  obtain ⟨v6, T6, X6, E6, g6⟩ := X3.callS hexec (Cmp5.law l b A s.heap.size B3 o 0 len) hown (wks W (staticW U16 115 Cmp5.yN)) (wk W Cmp5.tab) (W := 0) (Nat.le_of_ble_eq_true rfl) (Nat.le_of_ble_eq_true rfl) (Nat.le_refl _) (by show 0 + len + 0 ≤ len; omega) (g := (mkF m 9 #[.val (.ref b), .val (.int (Int32.ofNat o)), .val (.int (Int32.ofNat len)), .val (.ref s.heap.size), .unset, .unset] [.int (Int32.ofNat len), .int (Int32.ofNat 0), .ref s.heap.size, .int (Int32.ofNat o), .ref b])) rfl (by rw [hml]; rfl) c5 (argsL := [.ref b, .int (Int32.ofNat o), .ref s.heap.size, .int (Int32.ofNat 0), .int (Int32.ofNat len)]) (rest := []) rfl rfl (by show 2 * 0 + 0 ≤ _; decide) (hb hbytes d9) (⟨rfl, hA3, ba3, hne, l1, by rw [bs3]; simp, hp⟩)
  obtain ⟨rfl, B6, p6, f6⟩ := E6
  have c7 : Steps p.tables e below (s₁.setTop (entryFrame m #[.ref b, .int (Int32.ofNat o), .int (Int32.ofNat len)] 6)) (T6.setTop (mkF m 12 #[.val (.ref b), .val (.int (Int32.ofNat o)), .val (.int (Int32.ofNat len)), .val (.ref s.heap.size), .unset, .unset] [.int (Int32.ofNat len)])) := g6
  have c8 : Steps p.tables e below (s₁.setTop (entryFrame m #[.ref b, .int (Int32.ofNat o), .int (Int32.ofNat len)] 6)) (T6.setTop (mkF m 58 #[.val (.ref b), .val (.int (Int32.ofNat o)), .val (.int (Int32.ofNat len)), .val (.ref s.heap.size), .val (.int (Int32.ofNat len)), .unset] [.ref s.heap.size])) := c7.trans (by
    refine XS.istore X6.here hexec rfl (hb hbytes d12) rfl rfl ?_
    refine XS.iload X6.here hexec rfl (hb hbytes d14) rfl ?_
    refine XS.iloadN X6.here hexec rfl (hb hbytes d16) rfl ?_
    refine XS.icmpYes X6.here hexec rfl (pc0 := 17) rfl (hb hbytes d17) rfl (ii_eq_t rfl) (by decide) rfl ?_
    refine XS.aloadN X6.here hexec rfl (hb hbytes d57) rfl rfl ?_
    exact Steps.refl _)
  have X8 := X6.wide (L' := []) (cells' := 1) (slots' := len) (fun x hx hlt => by
    simp only [List.nil_append, copyLocs, List.mem_map, List.mem_range] at hx
    obtain ⟨i, -, rfl⟩ := hx
    exact absurd hlt (Nat.lt_irrefl _)) (Nat.le_refl _) (by omega)
  exact ⟨T6, some (.ref s.heap.size), _, _, _, X8, rfl, rfl, rfl, (fun h => by cases h), ⟨⟨rfl, B6, ba3.like (X3.warmed.alike.symm.trans X6.warmed.alike) p6.1 f6.1 f6.2.1 f6.2.2.1, f6.2.1.trans bv3, by rw [X6.warmed.alike.findClass, f6.1]; exact bf3, by rw [f6.2.2.1, bs3]; simp, fun j hj => by rw [f6.2.2.2 j, if_pos (by omega)]; rfl, kp3.put p6 (Nat.le_refl _)⟩, by rw [p6.2.2, bh3, hh0]; simp⟩, fun fs hl => c8.trans (X8.areturnOut hexec rfl hret rfl (hb hbytes d58) hl)⟩
end Cmp3
namespace CodL
def yN : MethodName := ⟨"java/lang/StringUTF16", "coderFromArrayLen", "([BI)B"⟩
abbrev yB : ByteArray := jdk_52_method_15_code
theorem d0 : decode yB 0 = .ok (.iload_n 1, 1) := by decide +kernel
theorem d1 : decode yB 1 = .ok (.aload_n 0, 1) := by decide +kernel
theorem d2 : decode yB 2 = .ok (.arraylength, 1) := by decide +kernel
theorem d3 : decode yB 3 = .ok (.isub, 1) := by decide +kernel
theorem d4 : decode yB 4 = .ok (.bipush 31, 2) := by decide +kernel
theorem d6 : decode yB 6 = .ok (.iushr, 1) := by decide +kernel
theorem d7 : decode yB 7 = .ok (.i2b, 1) := by decide +kernel
theorem d8 : decode yB 8 = .ok (.ireturn, 1) := by decide +kernel
def site : List Cond := []
def tab : Cond := tabOf yN yB 2 (some .byte) site
def P (d : Addr) (B : Cell) (args : Array Value) (s : State) : Prop := args = #[.ref d, .int (Int32.ofNat B.slots.size)] ∧ Arr .byte d B s
def E (r : Option Value) (s u : State) : Prop := XT.PureE (some (.int 0)) r s u
/-- an array as long as the number of chars: LATIN1 -/
theorem law (l : Launch) (d : Addr) (B : Cell) : Law l yN 2 2 0 0 yB 2 (some .byte) site (P d B) E [] 0 0 := by
  refine Law.of_walk (plainFor_of_name (by decide +kernel)) (by decide +kernel) (by decide +kernel) (by decide) (fun _ _ h => by rw [h.1]; rfl) (fun _ U U' hal hh h => ⟨h.1, h.2.mv hal hh⟩) (fun r U U' V V' h1 hal h2 h => XT.PureE.mv r U U' V V' h1 hal h2 h) ?_
  intro p e s m args below meth c s₁ X0 hexec hbytes hml hret hlk hnm hown hh0 W hP
  obtain ⟨rfl, hB⟩ := hP
  have hB0 := hB.mv X0.warmed.alike hh0
  have c1 : Steps p.tables e below (s₁.setTop (entryFrame m #[.ref d, .int (Int32.ofNat B.slots.size)] 2)) (s₁.setTop (mkF m 0 #[.val (.ref d), .val (.int (Int32.ofNat B.slots.size))] [])) := entry rfl
  have c2 : Steps p.tables e below (s₁.setTop (entryFrame m #[.ref d, .int (Int32.ofNat B.slots.size)] 2)) (s₁.setTop (mkF m 2 #[.val (.ref d), .val (.int (Int32.ofNat B.slots.size))] [.ref d, .int (Int32.ofNat B.slots.size)])) := c1.trans (by
    refine XS.iloadN X0.here hexec rfl (hb hbytes d0) rfl ?_
    refine XS.aloadN X0.here hexec rfl (hb hbytes d1) rfl rfl ?_
    exact Steps.refl _)
  have c3 : Steps p.tables e below (s₁.setTop (entryFrame m #[.ref d, .int (Int32.ofNat B.slots.size)] 2)) (s₁.setTop (mkF m 8 #[.val (.ref d), .val (.int (Int32.ofNat B.slots.size))] [.int (lo8 (ushr (Int32.ofNat B.slots.size - Int32.ofNat B.slots.size) 31))])) := c2.trans (by
    refine X0.alen hexec hB0 rfl rfl (hb hbytes d2) ?_
    refine XS.isub X0.here hexec rfl (hb hbytes d3) rfl ?_
    refine bipushV X0.here hexec rfl 31 (hb hbytes d4) (by decide) ?_
    refine iushr X0.here hexec rfl (hb hbytes d6) rfl ?_
    refine i2b X0.here hexec rfl (hb hbytes d7) rfl ?_
    exact Steps.refl _)
  have e0 : lo8 (ushr (Int32.ofNat B.slots.size - Int32.ofNat B.slots.size) 31) = 0 := by rw [Int32.sub_self]; decide
  rw [e0] at c3
  exact ⟨s₁, some (.int 0), _, _, _, X0, rfl, rfl, rfl, (fun h => by cases h), ⟨rfl, hh0⟩, fun fs hl => c3.trans (X0.ireturnOut hexec hret rfl (Or.inr (Or.inr (Or.inl rfl))) (hb hbytes d8) hl)⟩
end CodL
/-- the String at a is Latin-1 over a new byte[] (the heap's one new cell): the low bytes of the len chars of A from o on; every cell but a is kept -/
def Got (a : Addr) (D : Cell) (fV fC : Field) (A : Cell) (o len : Nat) (r : Option Value) (s u : State) : Prop := r = none ∧ ∃ D' V : Cell, Blank "java/lang/String" a D' u ∧ Same D D' [fV.slot, fC.slot] ∧ D'.slots[fV.slot]? = some (.ref s.heap.size) ∧ D'.slots[fC.slot]? = some (.int 0) ∧ Arr .byte s.heap.size V u ∧ V.vm = .none ∧ u.vm.findClass "[B" = some V.cls ∧ V.slots.size = len ∧ (∀ j, j < len → V.slots[j]? = some (.int (lo8 (cv A (o + j))))) ∧ (∀ (y : Addr) (c : Cell), y ≠ a → s.heap[y]? = some c → u.heap[y]? = some c) ∧ u.heap.size = s.heap.size + 1
theorem Got.mv {a : Addr} {D A : Cell} {fV fC : Field} {o len : Nat} : ∀ r (U U' V V' : State), U'.heap = U.heap → V.vm.Alike V'.vm → V'.heap = V.heap → Got a D fV fC A o len r U V → Got a D fV fC A o len r U' V' :=
  fun r U U' V V' h1 hal h2 ⟨e0, D', X, a1, a2, a3, a4, a5, a6, a7, a8, a9, a10, a11⟩ => ⟨e0, D', X, a1.mv hal h2, a2, by rw [h1]; exact a3, a4, by rw [h1]; exact a5.mv hal h2, a6, by rw [hal.findClass]; exact a7, a8, a9, by rw [h1, h2]; exact a10, by rw [h1, h2]; exact a11⟩
namespace New4
def yN : MethodName := ⟨"java/lang/String", "<init>", "([CIILjava/lang/Void;)V"⟩
abbrev yB : ByteArray := jdk_42_method_149_code
theorem d0 : decode yB 0 = .ok (.aload_n 0, 1) := by decide +kernel
theorem d1 : decode yB 1 = .ok (.invokespecial 1, 3) := by decide +kernel
theorem d4 : decode yB 4 = .ok (.iload_n 3, 1) := by decide +kernel
theorem d5 : decode yB 5 = .ok (.ifCond (.ne) 22, 3) := by decide +kernel
theorem d27 : decode yB 27 = .ok (.getstatic 38, 3) := by decide +kernel
theorem d30 : decode yB 30 = .ok (.ifCond (.eq) 28, 3) := by decide +kernel
theorem d33 : decode yB 33 = .ok (.aload_n 1, 1) := by decide +kernel
theorem d34 : decode yB 34 = .ok (.iload_n 2, 1) := by decide +kernel
theorem d35 : decode yB 35 = .ok (.iload_n 3, 1) := by decide +kernel
theorem d36 : decode yB 36 = .ok (.invokestatic 177, 3) := by decide +kernel
theorem d39 : decode yB 39 = .ok (.astore 5, 2) := by decide +kernel
theorem d41 : decode yB 41 = .ok (.aload_n 0, 1) := by decide +kernel
theorem d42 : decode yB 42 = .ok (.aload 5, 2) := by decide +kernel
theorem d44 : decode yB 44 = .ok (.iload_n 3, 1) := by decide +kernel
theorem d45 : decode yB 45 = .ok (.invokestatic 47, 3) := by decide +kernel
theorem d48 : decode yB 48 = .ok (.putfield 15, 3) := by decide +kernel
theorem d51 : decode yB 51 = .ok (.aload_n 0, 1) := by decide +kernel
theorem d52 : decode yB 52 = .ok (.aload 5, 2) := by decide +kernel
theorem d54 : decode yB 54 = .ok (.putfield 9, 3) := by decide +kernel
theorem d57 : decode yB 57 = .ok (.return_, 1) := by decide +kernel
def site : List Cond := [.fieldLink "java/lang/String" 38 "java/lang/String" "COMPACT_STRINGS" "Z", Cmp3.tab, CodL.tab, .laysFinal "java/lang/String" "java/lang/String" "value" "[B", .fieldLink "java/lang/String" 9 "java/lang/String" "value" "[B", .laysFinal "java/lang/String" "java/lang/String" "coder" "B", .fieldLink "java/lang/String" 15 "java/lang/String" "coder" "B"] ++ objW "java/lang/String" 1 ++ staticW "java/lang/String" 177 Cmp3.yN ++ staticW "java/lang/String" 47 CodL.yN
def tab : Cond := tabOf yN yB 6 none site
def P (a : Addr) (D : Cell) (fV fC : Field) (b : Addr) (A : Cell) (z : Int32) (o len : Nat) (args : Array Value) (s : State) : Prop := args = #[.ref a, .ref b, .int (Int32.ofNat o), .int (Int32.ofNat len), .null] ∧ Blank "java/lang/String" a D s ∧ Found "java/lang/String" "value" "[B" fV s ∧ Found "java/lang/String" "coder" "B" fC s ∧ Ch b A s ∧ StaticIs s "java/lang/String" "COMPACT_STRINGS" "Z" (.int z) ∧ ¬ z = 0 ∧ 0 < len ∧ o + len ≤ A.slots.size ∧ len ≤ 536870912 ∧ ∀ i, i < len → ¬ 255 < cv A (o + i)
def E (a : Addr) (D : Cell) (fV fC : Field) (A : Cell) (o len : Nat) (r : Option Value) (s u : State) : Prop := Got a D fV fC A o len r s u
/-- len > 0, no char of the range above 255: a Latin-1 String of their low bytes -/
theorem law (l : Launch) (a : Addr) (D : Cell) (fV fC : Field) (b : Addr) (A : Cell) (z : Int32) (o len : Nat) : Law l yN 5 4 2 35 yB 6 none site (P a D fV fC b A z o len) (E a D fV fC A o len) [⟨a, fC.slot⟩, ⟨a, fV.slot⟩] 1 len := by
  refine Law.of_walk (plainFor_of_name (by decide +kernel)) (by decide +kernel) (by decide +kernel) (by decide) (fun _ _ h => by rw [h.1]; rfl) (fun _ U U' hal hh h => ⟨h.1, h.2.1.mv hal hh, h.2.2.1.al hal, h.2.2.2.1.al hal, h.2.2.2.2.1.mv hal hh, h.2.2.2.2.2.1.there hal hh, h.2.2.2.2.2.2⟩) (fun r U U' V V' h1 hal h2 h => Got.mv r U U' V V' h1 hal h2 h) ?_
  intro p e s m args below meth c s₁ X0 hexec hbytes hml hret hlk hnm hown hh0 W hP
  obtain ⟨rfl, hB, f1, f2, hA, s1, hz, l0, l1, l2, hp⟩ := hP
  have a31 := hA.1.2.2.2
  have c1 : Steps p.tables e below (s₁.setTop (entryFrame m #[.ref a, .ref b, .int (Int32.ofNat o), .int (Int32.ofNat len), .null] 6)) (s₁.setTop (mkF m 0 #[.val (.ref a), .val (.ref b), .val (.int (Int32.ofNat o)), .val (.int (Int32.ofNat len)), .val .null, .unset] [])) := entry rfl
  have c2 : Steps p.tables e below (s₁.setTop (entryFrame m #[.ref a, .ref b, .int (Int32.ofNat o), .int (Int32.ofNat len), .null] 6)) (s₁.setTop (mkF m 1 #[.val (.ref a), .val (.ref b), .val (.int (Int32.ofNat o)), .val (.int (Int32.ofNat len)), .val .null, .unset] [.ref a])) := c1.trans (by
    refine XS.aloadN X0.here hexec rfl (hb hbytes d0) rfl rfl ?_
    exact Steps.refl _)
  obtain ⟨T3, X3, q3, st3⟩ := X0.oinit hexec hown (wks W (objW "java/lang/String" 1)) (g := (mkF m 1 #[.val (.ref a), .val (.ref b), .val (.int (Int32.ofNat o)), .val (.int (Int32.ofNat len)), .val .null, .unset] [.ref a])) rfl (by rw [hml]; rfl) (rest := []) rfl (hb hbytes d1) (W := 0) (by show 2 * 0 + 0 ≤ _; decide) (Nat.le_of_ble_eq_true rfl) (Nat.le_of_ble_eq_true rfl)
  have hh3 := q3.trans hh0
  have c4 : Steps p.tables e below (s₁.setTop (entryFrame m #[.ref a, .ref b, .int (Int32.ofNat o), .int (Int32.ofNat len), .null] 6)) (T3.setTop (mkF m 27 #[.val (.ref a), .val (.ref b), .val (.int (Int32.ofNat o)), .val (.int (Int32.ofNat len)), .val .null, .unset] [])) := (c2.trans (st3 _ (Steps.refl _))).trans (by
    refine XS.iloadN X3.here hexec rfl (hb hbytes d4) rfl ?_
    refine XS.ifYes X3.here hexec rfl (pc0 := 5) rfl (hb hbytes d5) rfl (i0_ne_t (nz32 (by omega) l0)) (by decide) rfl ?_
    exact Steps.refl _)
  obtain ⟨T5, X5, q5, st5⟩ := X3.sget hexec hown (wk W (.fieldLink "java/lang/String" 38 "java/lang/String" "COMPACT_STRINGS" "Z")) s1 (fun _ _ h => by rw [hh3]; exact h) (g := (mkF m 27 #[.val (.ref a), .val (.ref b), .val (.int (Int32.ofNat o)), .val (.int (Int32.ofNat len)), .val .null, .unset] [])) rfl (hb hbytes d27)
  have hh5 := q5.trans hh3
  have c6 : Steps p.tables e below (s₁.setTop (entryFrame m #[.ref a, .ref b, .int (Int32.ofNat o), .int (Int32.ofNat len), .null] 6)) (T5.setTop (mkF m 30 #[.val (.ref a), .val (.ref b), .val (.int (Int32.ofNat o)), .val (.int (Int32.ofNat len)), .val .null, .unset] [.int z])) := c4.trans (st5 _ (Steps.refl _))
  have c7 : Steps p.tables e below (s₁.setTop (entryFrame m #[.ref a, .ref b, .int (Int32.ofNat o), .int (Int32.ofNat len), .null] 6)) (T5.setTop (mkF m 36 #[.val (.ref a), .val (.ref b), .val (.int (Int32.ofNat o)), .val (.int (Int32.ofNat len)), .val .null, .unset] [.int (Int32.ofNat len), .int (Int32.ofNat o), .ref b])) := c6.trans (by
    refine XS.ifNo X5.here hexec rfl (hb hbytes d30) rfl (i0_eq_f hz) ?_
    refine XS.aloadN X5.here hexec rfl (hb hbytes d33) rfl rfl ?_
    refine XS.iloadN X5.here hexec rfl (hb hbytes d34) rfl ?_
    refine XS.iloadN X5.here hexec rfl (hb hbytes d35) rfl ?_
    exact Steps.refl _)
  obtain ⟨v8, T8, X8, E8, g8⟩ := X5.callS hexec (Cmp3.law l b A o len) hown (wks W (staticW "java/lang/String" 177 Cmp3.yN)) (wk W Cmp3.tab) (W := 0) (Nat.le_of_ble_eq_true rfl) (Nat.le_of_ble_eq_true rfl) (Nat.le_refl _) (by show 0 + len ≤ len; omega) (g := (mkF m 36 #[.val (.ref a), .val (.ref b), .val (.int (Int32.ofNat o)), .val (.int (Int32.ofNat len)), .val .null, .unset] [.int (Int32.ofNat len), .int (Int32.ofNat o), .ref b])) rfl (by rw [hml]; rfl) c7 (argsL := [.ref b, .int (Int32.ofNat o), .int (Int32.ofNat len)]) (rest := []) rfl rfl (by show 2 * 0 + 0 ≤ _; decide) (hb hbytes d36) (⟨rfl, hA.mv X5.warmed.alike hh5, l1, l2, hp⟩)
  obtain ⟨e8, z8⟩ := E8
  obtain ⟨rfl, N, n1, n2, n3, n4, n5, n6⟩ := NewArr.mv _ T5 s _ _ hh5.symm (Vm.Alike.refl _) rfl e8
  rw [hh5] at z8
  have hB1 := hB.keep X8.warmed.alike (n6 _ _ hB.1)
  have hne : s.heap.size ≠ a := (Nat.ne_of_lt (Array.getElem?_eq_some_iff.mp hB.1).1).symm
  have c9 : Steps p.tables e below (s₁.setTop (entryFrame m #[.ref a, .ref b, .int (Int32.ofNat o), .int (Int32.ofNat len), .null] 6)) (T8.setTop (mkF m 39 #[.val (.ref a), .val (.ref b), .val (.int (Int32.ofNat o)), .val (.int (Int32.ofNat len)), .val .null, .unset] [.ref s.heap.size])) := g8
  have c10 : Steps p.tables e below (s₁.setTop (entryFrame m #[.ref a, .ref b, .int (Int32.ofNat o), .int (Int32.ofNat len), .null] 6)) (T8.setTop (mkF m 45 #[.val (.ref a), .val (.ref b), .val (.int (Int32.ofNat o)), .val (.int (Int32.ofNat len)), .val .null, .val (.ref s.heap.size)] [.int (Int32.ofNat N.slots.size), .ref s.heap.size, .ref a])) := by
    have hc : Steps p.tables e below (s₁.setTop (entryFrame m #[.ref a, .ref b, .int (Int32.ofNat o), .int (Int32.ofNat len), .null] 6)) (T8.setTop (mkF m 45 #[.val (.ref a), .val (.ref b), .val (.int (Int32.ofNat o)), .val (.int (Int32.ofNat len)), .val .null, .val (.ref s.heap.size)] [.int (Int32.ofNat len), .ref s.heap.size, .ref a])) := c9.trans (by
      refine XS.astore X8.here hexec rfl (hb hbytes d39) rfl rfl rfl ?_
      refine XS.aloadN X8.here hexec rfl (hb hbytes d41) rfl rfl ?_
      refine XS.aload X8.here hexec rfl (hb hbytes d42) rfl rfl ?_
      refine XS.iloadN X8.here hexec rfl (hb hbytes d44) rfl ?_
      exact Steps.refl _)
    rw [n4]; exact hc
  obtain ⟨v11, T11, X11, E11, g11⟩ := X8.callS hexec (CodL.law l s.heap.size N) hown (wks W (staticW "java/lang/String" 47 CodL.yN)) (wk W CodL.tab) (W := 1) (Nat.le_of_ble_eq_true rfl) (Nat.le_of_ble_eq_true rfl) (Nat.le_refl _) (by show 0 + len + 0 ≤ len; omega) (g := (mkF m 45 #[.val (.ref a), .val (.ref b), .val (.int (Int32.ofNat o)), .val (.int (Int32.ofNat len)), .val .null, .val (.ref s.heap.size)] [.int (Int32.ofNat N.slots.size), .ref s.heap.size, .ref a])) rfl (by rw [hml]; rfl) c10 (argsL := [.ref s.heap.size, .int (Int32.ofNat N.slots.size)]) (rest := [.ref a]) rfl rfl (by show 2 * 0 + (1 + 0) ≤ _; decide) (hb hbytes d45) (⟨rfl, n1⟩)
  obtain ⟨rfl, q11⟩ := E11
  have hB11 := hB1.mv (X8.warmed.alike.symm.trans X11.warmed.alike) q11
  have c12 : Steps p.tables e below (s₁.setTop (entryFrame m #[.ref a, .ref b, .int (Int32.ofNat o), .int (Int32.ofNat len), .null] 6)) (T11.setTop (mkF m 48 #[.val (.ref a), .val (.ref b), .val (.int (Int32.ofNat o)), .val (.int (Int32.ofNat len)), .val .null, .val (.ref s.heap.size)] [.int 0, .ref a])) := g11
  obtain ⟨T13, X13, p13, bl13, sl13, st13⟩ := X11.finit hexec hown (wk W (.fieldLink "java/lang/String" 15 "java/lang/String" "coder" "B")) (Or.inr ⟨_, (wk W (.laysFinal "java/lang/String" "java/lang/String" "coder" "B"))⟩) (Or.inl ⟨rfl, hnm⟩) f2 (Or.inl rfl) hB11 (t := .byte) (by decide +kernel) rfl (g := (mkF m 48 #[.val (.ref a), .val (.ref b), .val (.int (Int32.ofNat o)), .val (.int (Int32.ofNat len)), .val .null, .val (.ref s.heap.size)] [.int 0, .ref a])) rfl (rest := []) rfl (hb hbytes d48)
  have c14 : Steps p.tables e below (s₁.setTop (entryFrame m #[.ref a, .ref b, .int (Int32.ofNat o), .int (Int32.ofNat len), .null] 6)) (T13.setTop (mkF m 54 #[.val (.ref a), .val (.ref b), .val (.int (Int32.ofNat o)), .val (.int (Int32.ofNat len)), .val .null, .val (.ref s.heap.size)] [.ref s.heap.size, .ref a])) := (c12.trans (st13 _ (Steps.refl _))).trans (by
    refine XS.aloadN X13.here hexec rfl (hb hbytes d51) rfl rfl ?_
    refine XS.aload X13.here hexec rfl (hb hbytes d52) rfl rfl ?_
    exact Steps.refl _)
  obtain ⟨T15, X15, p15, bl15, sl15, st15⟩ := X13.finit hexec hown (wk W (.fieldLink "java/lang/String" 9 "java/lang/String" "value" "[B")) (Or.inr ⟨_, (wk W (.laysFinal "java/lang/String" "java/lang/String" "value" "[B"))⟩) (Or.inl ⟨rfl, hnm⟩) f1 (Or.inl rfl) bl13 (t := (.array .byte)) (by decide +kernel) rfl (g := (mkF m 54 #[.val (.ref a), .val (.ref b), .val (.int (Int32.ofNat o)), .val (.int (Int32.ofNat len)), .val .null, .val (.ref s.heap.size)] [.ref s.heap.size, .ref a])) rfl (rest := []) rfl (hb hbytes d54)
  have c16 : Steps p.tables e below (s₁.setTop (entryFrame m #[.ref a, .ref b, .int (Int32.ofNat o), .int (Int32.ofNat len), .null] 6)) (T15.setTop (mkF m 57 #[.val (.ref a), .val (.ref b), .val (.int (Int32.ofNat o)), .val (.int (Int32.ofNat len)), .val .null, .val (.ref s.heap.size)] [])) := c14.trans (st15 _ (Steps.refl _))
  have ap := apart (Or.inr ⟨_, (wk W (.laysFinal "java/lang/String" "java/lang/String" "value" "[B"))⟩) (Or.inr ⟨_, (wk W (.laysFinal "java/lang/String" "java/lang/String" "coder" "B"))⟩) f1 f2 (t₁ := .array .byte) (t₂ := .byte) (by decide +kernel) (by decide +kernel) (by decide)
  have al := X8.warmed.alike.symm.trans X15.warmed.alike
  have n7 : T11.heap[s.heap.size]? = some N := by rw [q11]; exact n1.1
  exact ⟨T15, none, _, _, _, X15, by simp, rfl, by omega, (fun _ => rfl), ⟨rfl, _, N, bl15, ((Same.refl D _).set _ (by simp)).set _ (by simp), sl15, (Cell.slots_setSlot_ne _ ap).trans sl13, n1.keep al (p15.other hne (p13.other hne n7)), n2, by rw [al.findClass]; exact n3, n4, n5, fun y c h1 h2 => p15.other h1 (p13.other h1 (by rw [q11]; exact n6 y c h2)), by rw [p15.2.2, p13.2.2, q11]; exact z8⟩, fun fs hl => c16.trans (X15.returnOut hexec hret (hb hbytes d57) hl)⟩
end New4
namespace New1
def yN : MethodName := ⟨"java/lang/String", "<init>", "([C)V"⟩
abbrev yB : ByteArray := jdk_42_method_3_code
theorem d0 : decode yB 0 = .ok (.aload_n 0, 1) := by decide +kernel
theorem d1 : decode yB 1 = .ok (.aload_n 1, 1) := by decide +kernel
theorem d2 : decode yB 2 = .ok (.iconst 0, 1) := by decide +kernel
theorem d3 : decode yB 3 = .ok (.aload_n 1, 1) := by decide +kernel
theorem d4 : decode yB 4 = .ok (.arraylength, 1) := by decide +kernel
theorem d5 : decode yB 5 = .ok (.aconst_null, 1) := by decide +kernel
theorem d6 : decode yB 6 = .ok (.invokespecial 27, 3) := by decide +kernel
theorem d9 : decode yB 9 = .ok (.return_, 1) := by decide +kernel
def site : List Cond := [New4.tab] ++ initW "java/lang/String" 27 New4.yN
def tab : Cond := tabOf yN yB 2 none site
def P (a : Addr) (D : Cell) (fV fC : Field) (b : Addr) (A : Cell) (z : Int32) (args : Array Value) (s : State) : Prop := args = #[.ref a, .ref b] ∧ Blank "java/lang/String" a D s ∧ Found "java/lang/String" "value" "[B" fV s ∧ Found "java/lang/String" "coder" "B" fC s ∧ Ch b A s ∧ StaticIs s "java/lang/String" "COMPACT_STRINGS" "Z" (.int z) ∧ ¬ z = 0 ∧ 0 < A.slots.size ∧ A.slots.size ≤ 536870912 ∧ ∀ i, i < A.slots.size → ¬ 255 < cv A i
def E (a : Addr) (D : Cell) (fV fC : Field) (A : Cell) (r : Option Value) (s u : State) : Prop := Got a D fV fC A 0 A.slots.size r s u
/-- new String(chars), not empty, no char above 255: a Latin-1 String of their low bytes -/
theorem law (l : Launch) (a : Addr) (D : Cell) (fV fC : Field) (b : Addr) (A : Cell) (z : Int32) : Law l yN 2 1 3 52 yB 2 none site (P a D fV fC b A z) (E a D fV fC A) [⟨a, fC.slot⟩, ⟨a, fV.slot⟩] 1 A.slots.size := by
  refine Law.of_walk (plainFor_of_name (by decide +kernel)) (by decide +kernel) (by decide +kernel) (by decide) (fun _ _ h => by rw [h.1]; rfl) (fun _ U U' hal hh h => ⟨h.1, h.2.1.mv hal hh, h.2.2.1.al hal, h.2.2.2.1.al hal, h.2.2.2.2.1.mv hal hh, h.2.2.2.2.2.1.there hal hh, h.2.2.2.2.2.2⟩) (fun r U U' V V' h1 hal h2 h => Got.mv r U U' V V' h1 hal h2 h) ?_
  intro p e s m args below meth c s₁ X0 hexec hbytes hml hret hlk hnm hown hh0 W hP
  obtain ⟨rfl, hB, f1, f2, hA, s1, hz, l0, l2, hp⟩ := hP
  have c1 : Steps p.tables e below (s₁.setTop (entryFrame m #[.ref a, .ref b] 2)) (s₁.setTop (mkF m 0 #[.val (.ref a), .val (.ref b)] [])) := entry rfl
  have c2 : Steps p.tables e below (s₁.setTop (entryFrame m #[.ref a, .ref b] 2)) (s₁.setTop (mkF m 6 #[.val (.ref a), .val (.ref b)] [.null, .int (Int32.ofNat A.slots.size), .int 0, .ref b, .ref a])) := c1.trans (by
    refine XS.aloadN X0.here hexec rfl (hb hbytes d0) rfl rfl ?_
    refine XS.aloadN X0.here hexec rfl (hb hbytes d1) rfl rfl ?_
    refine iconstV X0.here hexec rfl 0 (hb hbytes d2) (by decide) ?_
    refine XS.aloadN X0.here hexec rfl (hb hbytes d3) rfl rfl ?_
    refine X0.alen hexec (hA.1.mv X0.warmed.alike hh0) rfl rfl (hb hbytes d4) ?_
    refine XS.aconstNull X0.here hexec rfl (hb hbytes d5) ?_
    exact Steps.refl _)
  obtain ⟨v3, T3, X3, E3, g3⟩ := X0.callN hexec (New4.law l a D fV fC b A z 0 A.slots.size) rfl hown (wks W (initW "java/lang/String" 27 New4.yN)) (W New4.tab (by simp only [site, List.mem_cons, List.mem_append, true_or, or_true])) (W := 0) (Nat.le_of_ble_eq_true rfl) (Nat.le_of_ble_eq_true rfl) (Nat.le_refl _) (by show 0 + A.slots.size ≤ A.slots.size; omega) (g := (mkF m 6 #[.val (.ref a), .val (.ref b)] [.null, .int (Int32.ofNat A.slots.size), .int (Int32.ofNat 0), .ref b, .ref a])) rfl (by rw [hml]; rfl) c2 (argsL := [.ref b, .int (Int32.ofNat 0), .int (Int32.ofNat A.slots.size), .null]) (rest := []) rfl rfl (by show 2 * 0 + 0 ≤ _; decide) (hb hbytes d6) (⟨rfl, hB.mv X0.warmed.alike hh0, f1.al X0.warmed.alike, f2.al X0.warmed.alike, hA.mv X0.warmed.alike hh0, s1.there X0.warmed.alike hh0, hz, l0, by omega, l2, fun i hi => by rw [Nat.zero_add]; exact hp i hi⟩)
  have e0 := Got.mv _ s₁ s _ _ hh0.symm (Vm.Alike.refl _) rfl E3
  obtain rfl := e0.1
  have c4 : Steps p.tables e below (s₁.setTop (entryFrame m #[.ref a, .ref b] 2)) (T3.setTop (mkF m 9 #[.val (.ref a), .val (.ref b)] [])) := g3
  exact ⟨T3, none, _, _, _, X3, by simp, rfl, by omega, (fun _ => rfl), e0, fun fs hl => c4.trans (X3.returnOut hexec hret (hb hbytes d9) hl)⟩
theorem pays {l : Launch} {R : Room} {p : Program} {e : Env} {below : List Frame} {s : State} {sargs : Array Value} {len W : Nat} (a : Addr) (D : Cell) (fV fC : Field) (b : Addr) (A : Cell) (z : Int32) (htab : tab.before sargs s = true) (hfr : 4 ≤ R.frames) (hlo : W + 65 ≤ R.locals) :
    Back l R p e below s sargs yN len W (fun A₁ a₁ => A₁.cells + 1 ≤ R.cells ∧ A₁.slots + A.slots.size ≤ R.slots ∧ P a D fV fC b A z a₁ A₁.U) (fun A₁ _ v₁ B₁ => E a D fV fC A v₁ A₁.U B₁.U ∧ B₁.locs = A₁.locs ++ [⟨a, fC.slot⟩, ⟨a, fV.slot⟩] ∧ B₁.cells = A₁.cells + 1 ∧ B₁.slots = A₁.slots + A.slots.size) :=
  (law l a D fV fC b A z).pays htab hfr (by omega)
end New1
end StrChars
namespace StrChars.Road
open Jvm Sem ClassFile Op Lib Jvm.Stand Jvm.Free Jvm.Free.XT
open Jvm.Lib.Cold (StaticIs)
abbrev ST : String := "java/lang/String"
/-- every table word that New1's law asks, flat -/
abbrev words : List Jvm.Cond := [.code New1.yN New1.yB 2 none, .initialized ST, .methodLink ST 27 New4.yN, .instanceMethod New4.yN,
  .code New4.yN New4.yB 6 none, .fieldLink ST 38 ST "COMPACT_STRINGS" "Z", .laysFinal ST ST "value" "[B", .fieldLink ST 9 ST "value" "[B", .laysFinal ST ST "coder" "B", .fieldLink ST 15 ST "coder" "B",
  .methodLink ST 1 Lib.objectInit, .instanceMethod Lib.objectInit, .code Lib.objectInit ⟨#[0xb1]⟩ 1 none, .methodLink ST 177 Cmp3.yN, .static Cmp3.yN, .methodLink ST 47 CodL.yN, .static CodL.yN,
  .code Cmp3.yN Cmp3.yB 6 (some (.array .byte)), .initialized U16, .arrayClass .byte, .methodLink U16 115 Cmp5.yN, .static Cmp5.yN, .code Cmp5.yN Cmp5.yB 7 (some .int), .code CodL.yN CodL.yB 2 (some .byte)]
theorem tab_of {a : Array Value} {s : State} (h : ∀ w ∈ words, w.before a s = true) : New1.tab.before a s = true := by
  have h5 : Cmp5.tab.before a s = true := unparts (wk h (.code Cmp5.yN Cmp5.yB 7 (some .int))) (wks h (.initialized Cmp5.yN.cls :: Cmp5.site))
  have hc : CodL.tab.before a s = true := unparts (wk h (.code CodL.yN CodL.yB 2 (some .byte))) (wks h (.initialized CodL.yN.cls :: CodL.site))
  have q5 : ∀ w ∈ Cmp5.tab :: words, w.before a s = true := fun w hw => (List.mem_cons.mp hw).elim (fun e => e ▸ h5) (h w)
  have h3 : Cmp3.tab.before a s = true := unparts (wk q5 (.code Cmp3.yN Cmp3.yB 6 (some (.array .byte)))) (wks q5 (.initialized Cmp3.yN.cls :: Cmp3.site))
  have q3 : ∀ w ∈ Cmp3.tab :: CodL.tab :: words, w.before a s = true := fun w hw => (List.mem_cons.mp hw).elim (fun e => e ▸ h3) fun hw => (List.mem_cons.mp hw).elim (fun e => e ▸ hc) (h w)
  have h4 : New4.tab.before a s = true := unparts (wk q3 (.code New4.yN New4.yB 6 none)) (wks q3 (.initialized New4.yN.cls :: New4.site))
  have q4 : ∀ w ∈ New4.tab :: words, w.before a s = true := fun w hw => (List.mem_cons.mp hw).elim (fun e => e ▸ h4) (h w)
  exact unparts (wk q4 (.code New1.yN New1.yB 2 none)) (wks q4 (.initialized New1.yN.cls :: New1.site))
/-- the words ride from the start Z to the walk's own state -/
theorem moved {Z s : State} {a0 args : Array Value} (hZ : Z.Warmed39 s.vm) (hw : ∀ d ∈ words, d.before a0 Z = true) : ∀ d ∈ words, d.before args s = true := fun d hd => by
  have q := hw d hd
  have t : ∀ d ∈ words, d = .arrayClass .byte ∨ (d.onTables && d.keepsFace) = true := by decide +kernel
  rcases t d hd with rfl | t
  · exact RoadKit.mvA hZ q
  · exact RoadKit.mv hZ q t
/-- WHAT COMES BACK, over the tables of the start Z: h the heap at the call, h' behind it -/
def Q (Z : State) (x : Addr) (A : Cell) (h : Heap) (v : Option Value) (h' : Heap) (L : List Loc) : Prop := v = none ∧ (∀ y ∈ L, y.base = x) ∧ RoadKit.Keep h h' [x] ∧ h'.size = h.size + 1 ∧ RoadKit.Exa Z h' x ST ∧ RoadKit.Fld Z h' x ST "value" "[B" (.ref h.size) ∧ RoadKit.Fld Z h' x ST "coder" "B" (.int 0) ∧
  (∃ V : Cell, RoadKit.Arr Z h' h.size V .byte ∧ V.vm = .none ∧ Z.vm.findClass "[B" = some V.cls ∧ V.slots.size = A.slots.size ∧ ∀ j, j < A.slots.size → V.slots[j]? = some (.int (lo8 (cv A j)))) ∧
  ∀ (O n d : String) (w : Value), RoadKit.Fld Z h x O n d w → RoadKit.slotOf Z O n d ≠ RoadKit.slotOf Z ST "value" "[B" → RoadKit.slotOf Z O n d ≠ RoadKit.slotOf Z ST "coder" "B" → RoadKit.Fld Z h' x O n d w
/-- **new String(chars) AT A CALL, IN THE ROAD'S FORM**: for specialBack behind newO: x the fresh String, b the char[] with the cell A -/
theorem back {p : Program} {l : Launch} {e : Env} {R : Room} {s : State} {args : Array Value} {below : List Frame} {len W : Nat} {Z : State} {a0 : Array Value} {h : Heap} (hZ : Z.Warmed39 s.vm) (hw : ∀ d ∈ words, d.before a0 Z = true) {kI : Nat} (wi : (Jvm.Cond.instantiable ST kI).before a0 Z = true)
    {x b : Addr} {A : Cell} {z : Int32} {v0 c0 : Value} (E : RoadKit.Exa Z h x ST) (V : RoadKit.Fld Z h x ST "value" "[B" v0) (C : RoadKit.Fld Z h x ST "coder" "B" c0) (K : RoadKit.Arr Z h b A .char) (hty : Typed .char A) (S : RoadKit.Sta Z h ST "COMPACT_STRINGS" "Z" (.int z)) (hz : ¬ z = 0)
    (l0 : 0 < A.slots.size) (l2 : A.slots.size ≤ 536870912) (hp : ∀ i, i < A.slots.size → ¬ 255 < cv A i) (hfr : 4 ≤ R.frames) (hlo : W + 65 ≤ R.locals) :
    Back l R p e below s args New1.yN len W (fun P a => a = #[.ref x, .ref b] ∧ P.U.heap = h ∧ P.cells + 1 ≤ R.cells ∧ P.slots + A.slots.size ≤ R.slots)
      (fun P _ v B => ∃ L, Q Z x A h v B.U.heap L ∧ B.locs = P.locs ++ L ∧ B.cells = P.cells + 1 ∧ B.slots = P.slots + A.slots.size) := by
  intro m meth c P g ig mk a X hg hsize hdg hW hn hp'
  obtain ⟨rfl, rfl, r1, r2⟩ := hp'
  have al : Z.vm.Alike P.U.vm := hZ.alike.trans X.warmed.alike
  obtain ⟨D, cfV, kV, iV, fV, hD, gV, stV, knV, obV, asV, slV⟩ := id V
  obtain ⟨D', cfC, kC, iC, fC, hD', gC, stC, -, -, asC, slC⟩ := id C
  cases hD.symm.trans hD'
  obtain ⟨D2, kD, e1, e2, e3, e4, e5⟩ := id E
  cases hD.symm.trans e1
  obtain ⟨c2, k2, i1, i2, i3, -⟩ := Cond.instantiable_spec wi
  cases e2.symm.trans i1
  cases e3.symm.trans i2
  obtain ⟨kU, u1, u2⟩ := al.2.2 _ _ e3
  have hB : Blank ST x D P.U := ⟨hD, ⟨knV, fun q hq => by rw [hq] at obV; cases obV⟩, by rw [al.findClass]; exact e2, kU, u1, by rw [u2]; exact i3, by rw [u2]; exact e5 i3⟩
  have F1 : Found ST "value" "[B" fV P.U := ⟨SBG.found_only al ⟨cfV, kV, iV, gV⟩, stV⟩
  have F2 : Found ST "coder" "B" fC P.U := ⟨SBG.found_only al ⟨cfC, kC, iC, gC⟩, stC⟩
  have hA : Ch b A P.U := ⟨⟨K.1, State.isArrayOf_alike al K.2.1, K.2.2, by omega⟩, hty⟩
  have hS : StaticIs P.U ST "COMPACT_STRINGS" "Z" (.int z) := by
    obtain ⟨cfS, iS, kS, fS, st, cS, t1, t2, t3, t4, t5, t6, t7⟩ := S
    exact StaticIs.there (s := { Z with heap := P.U.heap }) ⟨cfS, iS, kS, fS, st, cS, t1, t2, t3, t4, t5, (fun q => by rw [q] at t6; cases t6), t7⟩ al rfl
  obtain ⟨v, B, X', ⟨⟨hv, E', V', q1, q2, q3, q4, q5, q6, q7, q8, q9, q10, q11⟩, hl, hc, hs⟩, st⟩ := New1.pays x D fV fC b A z (tab_of (moved hZ hw)) hfr hlo m meth c P g ig mk _ X hg hsize hdg hW hn ⟨r1, r2, rfl, hB, F1, F2, hA, hS, hz, l0, l2, hp⟩
  have al' : Z.vm.Alike B.U.vm := hZ.alike.trans X'.warmed.alike
  have hsz : E'.slots.size = D.slots.size := by
    obtain ⟨-, -, -, kB, w1, w2, w3⟩ := q1
    obtain ⟨kB', y1, y2⟩ := al'.2.2 _ _ e3
    rw [q2.2.1] at w1
    cases w1.symm.trans y1
    rw [w3, e5 i3, y2]
  refine ⟨v, B, X', ⟨_, ⟨hv, ?_, ⟨by omega, fun y cy hy hn' => q10 y cy (by simpa using hn') hy, fun y cy hy => ?_⟩, q11, ⟨E', _, q1.1, by rw [q2.2.1]; exact e2, by rw [q2.2.1]; exact e3, by rw [q2.1]; exact obV, fun _ => by rw [hsz]; exact e5 i3⟩,
    ⟨E', cfV, kV, iV, fV, q1.1, gV, stV, by rw [q2.1]; exact knV, by rw [q2.1]; exact obV, by rw [q2.2.1]; exact asV, q3⟩, ⟨E', cfC, kC, iC, fC, q1.1, gC, stC, by rw [q2.1]; exact knV, by rw [q2.1]; exact obV, by rw [q2.2.1]; exact asC, q4⟩,
    ⟨V', ⟨q5.1, State.isArrayOf_alike al'.symm q5.2.1, q5.2.2.1⟩, q6, by rw [← al'.findClass]; exact q7, q8, fun j hj => by have := q9 j hj; rwa [Nat.zero_add] at this⟩, fun O n d w F n1 n2 => ?_⟩, hl, hc, hs⟩, st⟩
  · intro y hy
    simp only [List.mem_cons, List.not_mem_nil, or_false] at hy
    rcases hy with rfl | rfl <;> rfl
  · by_cases q : y = x
    · subst q
      cases hD.symm.trans hy
      exact ⟨E', q1.1, q2.2.1, q2.1, hsz⟩
    · exact ⟨cy, q10 y cy q hy, rfl, rfl, rfl⟩
  · obtain ⟨D3, cf, k, i, f, g1, g2, g3, g4, g5, g6, g7⟩ := F
    cases hD.symm.trans g1
    simp only [RoadKit.slotOf, g2, gV, gC, Option.map_some, Option.getD_some] at n1 n2
    exact ⟨E', cf, k, i, f, q1.1, g2, g3, by rw [q2.1]; exact g4, by rw [q2.1]; exact g5, by rw [q2.2.1]; exact g6, by rw [q2.2.2 f.slot (by simp [n1, n2])]; exact g7⟩
end StrChars.Road
namespace StrChars.Road
open Jvm Sem ClassFile Op Lib Jvm.Stand Jvm.Free Jvm.Free.XT
/-- WHAT COMES BACK, the byte[] as a list of values -/
def QA (Z : State) (x : Addr) (zn : Int32) (cs : List Int32) (h : Heap) (v : Option Value) (h' : Heap) (L : List Loc) : Prop := v = none ∧ (∀ y ∈ L, y.base = x) ∧ RoadKit.Keep h h' [x] ∧ h'.size = h.size + 1 ∧ RoadKit.Exa Z h' x ST ∧ RoadKit.Fld Z h' x ST "value" "[B" (.ref h.size) ∧ RoadKit.Fld Z h' x ST "coder" "B" (.int 0) ∧
  (∃ kb, Z.vm.findClass "[B" = some kb ∧ RoadKit.Arv Z h' h.size kb .byte zn (cs.map fun c => .int (lo8 c)) (.int 0)) ∧
  ∀ (O n d : String) (w : Value), RoadKit.Fld Z h x O n d w → RoadKit.slotOf Z O n d ≠ RoadKit.slotOf Z ST "value" "[B" → RoadKit.slotOf Z O n d ≠ RoadKit.slotOf Z ST "coder" "B" → RoadKit.Fld Z h' x O n d w
/-- **new String(chars) AT A CALL, THE ARRAYS AS LISTS**: the char[] at b holds cs, not empty, no char above 255 -/
theorem backArv {p : Program} {l : Launch} {e : Env} {R : Room} {s : State} {args : Array Value} {below : List Frame} {len W : Nat} {Z : State} {a0 : Array Value} {h : Heap} (hZ : Z.Warmed39 s.vm) (hw : ∀ d ∈ words, d.before a0 Z = true) {kI : Nat} (wi : (Jvm.Cond.instantiable ST kI).before a0 Z = true)
    {x b : Addr} {k : ClassId} {zn z : Int32} {cs : List Int32} {dv v0 c0 : Value} (E : RoadKit.Exa Z h x ST) (V : RoadKit.Fld Z h x ST "value" "[B" v0) (C : RoadKit.Fld Z h x ST "coder" "B" c0) (K : RoadKit.Arv Z h b k .char zn (cs.map Value.int) dv) (S : RoadKit.Sta Z h ST "COMPACT_STRINGS" "Z" (.int z)) (hz : ¬ z = 0)
    (hlen : zn.toNatClampNeg = cs.length) (h0 : 0 < cs.length) (hbig : cs.length ≤ 536870912) (hall : ∀ c ∈ cs, ¬ 255 < c) (hfr : 4 ≤ R.frames) (hlo : W + 65 ≤ R.locals) :
    Back l R p e below s args New1.yN len W (fun P a => a = #[.ref x, .ref b] ∧ P.U.heap = h ∧ P.cells + 1 ≤ R.cells ∧ P.slots + cs.length ≤ R.slots)
      (fun P _ v B => ∃ L, QA Z x zn cs h v B.U.heap L ∧ B.locs = P.locs ++ L ∧ B.cells = P.cells + 1 ∧ B.slots = P.slots + cs.length) := by
  obtain ⟨A, K1, K2, K3, K4, K5, K6⟩ := K
  have e : A.slots.size = cs.length := K3.trans hlen
  have hat : ∀ (i : Nat) (hi : i < cs.length), A.slots[i]? = some (.int cs[i]) := fun i hi => by rw [K5 i (by omega)]; simp [List.getD_eq_getElem?_getD, hi]
  have hcv : ∀ (i : Nat) (hi : i < cs.length), cv A i = cs[i] := fun i hi => by unfold cv; rw [hat i hi]
  have hty : Typed .char A := fun i v hv => by
    have hi : i < A.slots.size := (Array.getElem?_eq_some_iff.mp hv).1
    have q := K5 i hi
    rw [hv] at q
    rw [Option.some.inj q]
    exact K6 i hi
  refine Back.mono (back hZ hw wi E V C K1 hty S hz (by omega) (by omega) (fun i hi => by rw [hcv i (by omega)]; exact hall _ (List.getElem_mem _)) hfr hlo) (fun P a hp => ⟨hp.1, hp.2.1, hp.2.2.1, by rw [e]; exact hp.2.2.2⟩) (fun P a v B hp hq => ?_)
  obtain ⟨L, ⟨q1, q2, q3, q4, q5, q6, q7, ⟨V', v1, v2, v3, v4, v5⟩, q9⟩, hl, hc, hs⟩ := hq
  refine ⟨L, ⟨q1, q2, q3, q4, q5, q6, q7, ⟨V'.cls, v3, V', v1, rfl, by rw [v4, e, hlen], K4, fun i hi => ?_, fun i hi => ?_⟩, q9⟩, hl, hc, by rw [hs, e]⟩
  · have hi' : i < cs.length := by omega
    rw [v5 i (by omega), hcv i hi']; simp [List.getD_eq_getElem?_getD, hi']
  · have hi' : i < cs.length := by omega
    simp only [List.getD_eq_getElem?_getD, List.getElem?_map, List.getElem?_eq_getElem hi', Option.map_some, Option.getD_some]
    exact fits_lo8 _
end StrChars.Road
namespace StrChars.Road
open Jvm Sem ClassFile Op Lib Jvm.Stand Jvm.Free Jvm.Free.XT
/-- WHAT COMES BACK, in the writer's own shape -/
def QV (Z : State) (x : Addr) (N : Int32) (bs : List Int32) (h : Heap) (n0 : Nat) (v : Option Value) (h' : Heap) (L : List Loc) : Prop := v = none ∧ RoadKit.Fr n0 L ∧ RoadKit.Keep h h' [x] ∧ RoadKit.Exa Z h' x ST ∧ RoadKit.Fld Z h' x ST "coder" "B" (.int 0) ∧
  ∃ (t : Addr) (kb : ClassId), n0 ≤ t ∧ h.size ≤ t ∧ ¬ t = x ∧ RoadKit.Fld Z h' x ST "value" "[B" (.ref t) ∧ RoadKit.Arv Z h' t kb .byte N (bs.map Value.int) (.int 0)
/-- **new String(chars) AT A CALL, FOR THE WRITER**: a char[] of n known ints, each 0 to 255 -/
theorem backV {p : Program} {l : Launch} {e : Env} {R : Room} {s : State} {args : Array Value} {below : List Frame} {len W : Nat} {Z : State} {a0 : Array Value} {h : Heap} (hZ : Z.Warmed39 s.vm) (hw : ∀ d ∈ words, d.before a0 Z = true) {kI : Nat} (wi : (Jvm.Cond.instantiable ST kI).before a0 Z = true)
    {x b : Addr} {kC : ClassId} {cs bs : List Int32} {d v0 c0 : Value} {z N : Int32} {n n0 : Nat} (hx0 : n0 ≤ x) (hh0 : n0 ≤ h.size) (E : RoadKit.Exa Z h x ST) (V : RoadKit.Fld Z h x ST "value" "[B" v0) (C : RoadKit.Fld Z h x ST "coder" "B" c0) (K : RoadKit.Arv Z h b kC .char N (cs.map Value.int) d) (S : RoadKit.Sta Z h ST "COMPACT_STRINGS" "Z" (.int z)) (hz : ¬ z = 0)
    (hn : cs.length = n) (hN : N = Int32.ofNat n) (l0 : 0 < n) (l2 : n ≤ 4000) (hp : ∀ c ∈ cs, ¬ c < 0 ∧ ¬ (255 : Int32) < c) (hb : bs = cs.map (fun c => c.toInt8.toInt32)) (hfr : 4 ≤ R.frames) (hlo : W + 65 ≤ R.locals) :
    Back l R p e below s args (⟨"java/lang/String", "<init>", "([C)V"⟩ : MethodName) len W (fun P a => a = #[.ref x, .ref b] ∧ P.U.heap = h ∧ P.cells + 1 ≤ R.cells ∧ P.slots + n ≤ R.slots)
      (fun P _ v B => ∃ L, QV Z x N bs h n0 v B.U.heap L ∧ B.locs = P.locs ++ L ∧ B.cells = P.cells + 1 ∧ B.slots = P.slots + n) := by
  subst hn hN hb
  refine Back.mono (backArv hZ hw wi E V C K S hz (n32 (by omega)) l0 (by omega) (fun c hc => (hp c hc).2) hfr hlo) (fun P a hp => hp) (fun P a v B hp hq => ?_)
  obtain ⟨L, ⟨q1, q2, q3, q4, q5, q6, q7, ⟨kb, v1, v2⟩, q9⟩, hl, hc, hs⟩ := hq
  exact ⟨L, ⟨q1, fun y hy => by rw [q2 y hy]; exact hx0, q3, q5, q7, h.size, kb, hh0, Nat.le_refl _, Nat.ne_of_gt E.lt, q6, by rw [List.map_map]; exact v2⟩, hl, hc, hs⟩
end StrChars.Road
namespace StrChars
open Jvm Sem ClassFile Op Lib Jvm.Stand Jvm.Free.XT Jvm.Free.ALB Jvm.Free.JM Jvm.Free
open Jvm.Lib.Cold (StaticIs)
def hi8 (x : Int32) : Int32 := lo8 (x >>> ((8 : Int32) &&& 31))
/-- what StringUTF16.getChar makes of two bytes -/
def pairCh (u v : Int32) : Int32 := (((u &&& 255) <<< ((0 : Int32) &&& 31)) ||| ((v &&& 255) <<< ((8 : Int32) &&& 31))).toUInt32.toUInt16.toUInt32.toInt32
theorem shr0 (c : Int32) : c >>> ((0 : Int32) &&& 31) = c := by
  have e : ((0 : Int32) &&& 31) = 0 := by decide
  rw [e]
  apply Int32.toBitVec_inj.mp
  rw [Int32.toBitVec_shiftRight]
  have e1 : ((0 : Int32).toBitVec.smod 32) = 0#32 := by decide
  rw [e1, BitVec.sshiftRight_eq']
  exact BitVec.sshiftRight_zero
theorem lo8_and (x : Int32) : (lo8 x &&& 255).toBitVec.toNat = x.toBitVec.toNat % 256 := by
  have h : (lo8 x).toBitVec = (x.toBitVec.signExtend 8).signExtend 32 := by rw [lo8, Int8.toBitVec_toInt32, Int32.toBitVec_toInt8]
  rw [Int32.toBitVec_and, BitVec.toNat_and, h]
  have e : ((x.toBitVec.signExtend 8).signExtend 32).toNat % 256 = x.toBitVec.toNat % 256 := by
    rw [BitVec.toNat_signExtend]
    have hlt := x.toBitVec.isLt
    simp only [BitVec.toNat_setWidth, BitVec.toNat_signExtend]
    split <;> split <;> omega
  rw [← e]
  exact Nat.and_two_pow_sub_one_eq_mod _ 8
theorem pair_says {c : Int32} (h0 : ¬ c < 0) (h1 : ¬ 65535 < c) : pairCh (lo8 c) (hi8 c) = c := by
  rw [Int32.lt_iff_toInt_lt] at h0 h1
  have e0 : (0 : Int32).toInt = 0 := rfl
  have e1 : (65535 : Int32).toInt = 65535 := rfl
  have hc : c.toInt = c.toBitVec.toNat := by
    have := c.toBitVec.isLt
    have e : c.toInt = c.toBitVec.toInt := rfl
    rw [e] at h0 h1
    rw [e]
    rw [BitVec.toInt_eq_toNat_cond] at h0 h1 ⊢
    split at h0 <;> split <;> omega
  have hn : c.toBitVec.toNat < 65536 := by omega
  have a1 := lo8_and c
  have a2 : (hi8 c &&& 255).toBitVec.toNat = c.toBitVec.toNat / 256 := by
    rw [hi8, lo8_and]
    have e : ((8 : Int32) &&& 31) = 8 := by decide
    rw [e, Int32.toBitVec_shiftRight]
    have e2 : ((8 : Int32).toBitVec.smod 32) = 8#32 := by decide
    rw [e2, BitVec.sshiftRight_eq', BitVec.toNat_sshiftRight_of_msb_false (by rw [BitVec.msb_eq_false_iff_two_mul_lt]; omega)]
    show c.toBitVec.toNat >>> 8 % 256 = _
    rw [Nat.shiftRight_eq_div_pow]
    omega
  unfold pairCh
  apply Int32.toBitVec_inj.mp
  apply BitVec.eq_of_toNat_eq
  have f0 : ((0 : Int32) &&& 31) = 0 := by decide
  have f8 : ((8 : Int32) &&& 31) = 8 := by decide
  rw [f0, f8]
  have g : (((lo8 c &&& 255) <<< (0 : Int32)) ||| ((hi8 c &&& 255) <<< (8 : Int32))).toBitVec.toNat = c.toBitVec.toNat := by
    rw [Int32.toBitVec_or, Int32.toBitVec_shiftLeft, Int32.toBitVec_shiftLeft]
    have s0 : ((0 : Int32).toBitVec.smod 32) = 0#32 := by decide
    have s8 : ((8 : Int32).toBitVec.smod 32) = 8#32 := by decide
    rw [s0, s8, BitVec.toNat_or]
    simp only [BitVec.shiftLeft_eq', BitVec.toNat_shiftLeft, a1, a2]
    show (c.toBitVec.toNat % 256) <<< 0 % 2 ^ 32 ||| (c.toBitVec.toNat / 256) <<< 8 % 2 ^ 32 = _
    rw [Nat.shiftLeft_zero, Nat.mod_eq_of_lt (show c.toBitVec.toNat % 256 < 2 ^ 32 by omega), Nat.mod_eq_of_lt (show (c.toBitVec.toNat / 256) <<< 8 < 2 ^ 32 by rw [Nat.shiftLeft_eq]; omega), Nat.or_comm, ← Nat.shiftLeft_add_eq_or_of_lt (by omega), Nat.shiftLeft_eq]
    omega
  show BitVec.toNat (((((lo8 c &&& 255) <<< (0 : Int32)) ||| ((hi8 c &&& 255) <<< (8 : Int32))).toBitVec.setWidth 16).setWidth 32) = _
  rw [BitVec.toNat_setWidth, BitVec.toNat_setWidth, g]
  omega
end StrChars
namespace StrChars
open Jvm Sem ClassFile Op Lib Jvm.Stand Jvm.Free.XT Jvm.Free.ALB Jvm.Free.JM Jvm.Free
open Jvm.Lib.Cold (StaticIs)
theorem shr1 {n : Nat} (h : 2 * n < 2 ^ 31) : Int32.ofNat (2 * n) >>> ((1 : Int32) &&& 31) = Int32.ofNat n := by
  have e : ((1 : Int32) &&& 31) = 1 := by decide
  rw [e]
  apply Int32.toBitVec_inj.mp
  rw [Int32.toBitVec_shiftRight]
  have e1 : ((1 : Int32).toBitVec.smod 32) = 1#32 := by decide
  have hm : (BitVec.ofNat 32 (2 * n)).toNat = 2 * n := by rw [BitVec.toNat_ofNat, Nat.mod_eq_of_lt (by omega)]
  rw [e1, BitVec.sshiftRight_eq']
  apply BitVec.eq_of_toNat_eq
  show ((BitVec.ofNat 32 (2 * n)).sshiftRight 1).toNat = (BitVec.ofNat 32 n).toNat
  rw [BitVec.toNat_sshiftRight_of_msb_false (by rw [BitVec.msb_eq_false_iff_two_mul_lt, hm]; omega), hm, BitVec.toNat_ofNat, Nat.shiftRight_eq_div_pow]
  omega
/-- the array's cell V codes the n chars f 0 .. f (n - 1) by the coder cd, as the JDK does: coder 1 just where some char is above 255 -/
def Cod (cd : Int32) (n : Nat) (f : Nat → Int32) (V : Cell) : Prop := (cd = 0 ∧ V.slots.size = n ∧ ∀ j, j < n → V.slots[j]? = some (.int (lo8 (f j))) ∧ ¬ 255 < f j) ∨ (cd = 1 ∧ V.slots.size = 2 * n ∧ (∀ j, j < n → V.slots[2 * j]? = some (.int (lo8 (f j))) ∧ V.slots[2 * j + 1]? = some (.int (hi8 (f j)))) ∧ ∃ j, j < n ∧ 255 < f j)
theorem Cod.cd {cd : Int32} {n : Nat} {f : Nat → Int32} {V : Cell} (h : Cod cd n f V) : cd = 0 ∨ cd = 1 := h.imp (fun q => q.1) fun q => q.1
theorem Cod.len {cd : Int32} {n : Nat} {f : Nat → Int32} {V : Cell} (h : Cod cd n f V) (hs : V.slots.size < 2 ^ 31) : Int32.ofNat V.slots.size >>> (cd &&& 31) = Int32.ofNat n := by
  rcases h with ⟨rfl, h, -⟩ | ⟨rfl, h, -⟩
  · rw [shr0, h]
  · rw [h, shr1 (by omega)]
/-- **x is a String of the n chars f 0 .. f (n - 1)**, Latin-1 or UTF-16; its array at t has the cell V -/
def Txt (x t : Addr) (V : Cell) (cd : Int32) (n : Nat) (f : Nat → Int32) (U : State) : Prop := Exact "java/lang/String" x U ∧ Has x "java/lang/String" "value" "[B" (.ref t) U ∧ Has x "java/lang/String" "coder" "B" (.int cd) U ∧ XT.Arr .byte t V U ∧ Cod cd n f V ∧ ∀ j, j < n → ¬ f j < 0 ∧ ¬ 65535 < f j
theorem Txt.mv {x t : Addr} {V : Cell} {cd : Int32} {n : Nat} {f : Nat → Int32} {U U' : State} (h : Txt x t V cd n f U) (hal : U.vm.Alike U'.vm) (hh : U'.heap = U.heap) : Txt x t V cd n f U' := ⟨h.1.mv hal hh, h.2.1.mv hal hh, h.2.2.1.mv hal hh, h.2.2.2.1.mv hal hh, h.2.2.2.2⟩
namespace Cdr
def yN : MethodName := ⟨"java/lang/String", "coder", "()B"⟩
abbrev yB : ByteArray := jdk_42_method_152_code
theorem d0 : decode yB 0 = .ok (.getstatic 38, 3) := by decide +kernel
theorem d3 : decode yB 3 = .ok (.ifCond (.eq) 10, 3) := by decide +kernel
theorem d6 : decode yB 6 = .ok (.aload_n 0, 1) := by decide +kernel
theorem d7 : decode yB 7 = .ok (.getfield 15, 3) := by decide +kernel
theorem d10 : decode yB 10 = .ok (.goto 4, 3) := by decide +kernel
theorem d14 : decode yB 14 = .ok (.ireturn, 1) := by decide +kernel
def site : List Cond := [.fieldLink "java/lang/String" 38 "java/lang/String" "COMPACT_STRINGS" "Z", .fieldLink "java/lang/String" 15 "java/lang/String" "coder" "B"]
def tab : Cond := tabOf yN yB 1 (some .byte) site
def P (x : Addr) (cd z : Int32) (args : Array Value) (s : State) : Prop := args = #[.ref x] ∧ Has x "java/lang/String" "coder" "B" (.int cd) s ∧ (cd = 0 ∨ cd = 1) ∧ StaticIs s "java/lang/String" "COMPACT_STRINGS" "Z" (.int z) ∧ ¬ z = 0
def E (cd : Int32) (r : Option Value) (s u : State) : Prop := XT.PureE (some (.int cd)) r s u
theorem law (l : Launch) (x : Addr) (cd z : Int32) : Law l yN 1 0 0 0 yB 1 (some .byte) site (P x cd z) (E cd) [] 0 0 := by
  refine Law.of_walk (plainFor_of_name (by decide +kernel)) (by decide +kernel) (by decide +kernel) (by decide) (fun _ _ h => by rw [h.1]; rfl) (fun _ U U' hal hh h => ⟨h.1, h.2.1.mv hal hh, h.2.2.1, h.2.2.2.1.there hal hh, h.2.2.2.2⟩) (fun r U U' V V' h1 hal h2 h => XT.PureE.mv r U U' V V' h1 hal h2 h) ?_
  intro p e s m args below meth c s₁ X0 hexec hbytes hml hret hlk hnm hown hh0 W hP
  obtain ⟨rfl, hx, hc, s1, hz⟩ := hP
  have c1 : Steps p.tables e below (s₁.setTop (entryFrame m #[.ref x] 1)) (s₁.setTop (mkF m 0 #[.val (.ref x)] [])) := entry rfl
  obtain ⟨T2, X2, q2, st2⟩ := X0.sget hexec hown (wk W (.fieldLink "java/lang/String" 38 "java/lang/String" "COMPACT_STRINGS" "Z")) s1 (fun _ _ h => by rw [hh0]; exact h) (g := (mkF m 0 #[.val (.ref x)] [])) rfl (hb hbytes d0)
  have hh2 := q2.trans hh0
  have c3 : Steps p.tables e below (s₁.setTop (entryFrame m #[.ref x] 1)) (T2.setTop (mkF m 7 #[.val (.ref x)] [.ref x])) := (c1.trans (st2 _ (Steps.refl _))).trans (by
    refine XS.ifNo X2.here hexec rfl (hb hbytes d3) rfl (i0_eq_f hz) ?_
    refine XS.aloadN X2.here hexec rfl (hb hbytes d6) rfl rfl ?_
    exact Steps.refl _)
  obtain ⟨T4, X4, q4, st4⟩ := X2.hget hexec hown (wk W (.fieldLink "java/lang/String" 15 "java/lang/String" "coder" "B")) (hx.mv X2.warmed.alike hh2) (g := (mkF m 7 #[.val (.ref x)] [.ref x])) rfl (rest := []) rfl (hb hbytes d7)
  have c5 : Steps p.tables e below (s₁.setTop (entryFrame m #[.ref x] 1)) (T4.setTop (mkF m 14 #[.val (.ref x)] [.int cd])) := (c3.trans (st4 _ (Steps.refl _))).trans (by
    refine XS.goto X4.here hexec rfl (pc0 := 10) rfl (hb hbytes d10) (by decide) rfl ?_
    exact Steps.refl _)
  exact ⟨T4, some (.int cd), _, _, _, X4, rfl, rfl, rfl, (fun h => by cases h), ⟨rfl, q4.trans hh2⟩, fun fs hl => c5.trans (X4.ireturnOut hexec hret (by rcases hc with rfl | rfl <;> rfl) (Or.inr (Or.inr (Or.inl rfl))) (hb hbytes d14) hl)⟩
end Cdr
namespace Len
def yN : MethodName := ⟨"java/lang/String", "length", "()I"⟩
abbrev yB : ByteArray := jdk_42_method_54_code
theorem d0 : decode yB 0 = .ok (.aload_n 0, 1) := by decide +kernel
theorem d1 : decode yB 1 = .ok (.getfield 9, 3) := by decide +kernel
theorem d4 : decode yB 4 = .ok (.arraylength, 1) := by decide +kernel
theorem d5 : decode yB 5 = .ok (.aload_n 0, 1) := by decide +kernel
theorem d6 : decode yB 6 = .ok (.invokevirtual 335, 3) := by decide +kernel
theorem d9 : decode yB 9 = .ok (.ishr, 1) := by decide +kernel
theorem d10 : decode yB 10 = .ok (.ireturn, 1) := by decide +kernel
def site : List Cond := [.fieldLink "java/lang/String" 9 "java/lang/String" "value" "[B", Cdr.tab] ++ virtW "java/lang/String" 335 "java/lang/String" Cdr.yN Cdr.yN
def tab : Cond := tabOf yN yB 1 (some .int) site
def P (x t : Addr) (V : Cell) (cd : Int32) (n : Nat) (f : Nat → Int32) (z : Int32) (args : Array Value) (s : State) : Prop := args = #[.ref x] ∧ Txt x t V cd n f s ∧ StaticIs s "java/lang/String" "COMPACT_STRINGS" "Z" (.int z) ∧ ¬ z = 0
def E (n : Nat) (r : Option Value) (s u : State) : Prop := XT.PureE (some (.int (Int32.ofNat n))) r s u
/-- length() of a String of n chars, in either coding -/
theorem law (l : Launch) (x t : Addr) (V : Cell) (cd : Int32) (n : Nat) (f : Nat → Int32) (z : Int32) : Law l yN 1 0 1 13 yB 1 (some .int) site (P x t V cd n f z) (E n) [] 0 0 := by
  refine Law.of_walk (plainFor_of_name (by decide +kernel)) (by decide +kernel) (by decide +kernel) (by decide) (fun _ _ h => by rw [h.1]; rfl) (fun _ U U' hal hh h => ⟨h.1, h.2.1.mv hal hh, h.2.2.1.there hal hh, h.2.2.2⟩) (fun r U U' V V' h1 hal h2 h => XT.PureE.mv r U U' V V' h1 hal h2 h) ?_
  intro p e s m args below meth c s₁ X0 hexec hbytes hml hret hlk hnm hown hh0 W hP
  obtain ⟨rfl, hx, s1, hz⟩ := hP
  have v31 := hx.2.2.2.1.2.2.2
  have c1 : Steps p.tables e below (s₁.setTop (entryFrame m #[.ref x] 1)) (s₁.setTop (mkF m 1 #[.val (.ref x)] [.ref x])) := Steps.trans (entry rfl) (by
    show Steps p.tables e below (s₁.setTop (mkF m 0 #[.val (.ref x)] [])) _
    refine XS.aloadN X0.here hexec rfl (hb hbytes d0) rfl rfl ?_
    exact Steps.refl _)
  obtain ⟨T2, X2, q2, st2⟩ := X0.hget hexec hown (wk W (.fieldLink "java/lang/String" 9 "java/lang/String" "value" "[B")) (hx.mv X0.warmed.alike hh0).2.1 (g := (mkF m 1 #[.val (.ref x)] [.ref x])) rfl (rest := []) rfl (hb hbytes d1)
  have hh2 := q2.trans hh0
  have hx2 := hx.mv X2.warmed.alike hh2
  have c3 : Steps p.tables e below (s₁.setTop (entryFrame m #[.ref x] 1)) (T2.setTop (mkF m 6 #[.val (.ref x)] [.ref x, .int (Int32.ofNat V.slots.size)])) := (c1.trans (st2 _ (Steps.refl _))).trans (by
    refine X2.alen hexec hx2.2.2.2.1 rfl rfl (hb hbytes d4) ?_
    refine XS.aloadN X2.here hexec rfl (hb hbytes d5) rfl rfl ?_
    exact Steps.refl _)
  obtain ⟨v4, T4, X4, E4, g4⟩ := X2.callV hexec (Cdr.law l x cd z) hown (wks W (virtW "java/lang/String" 335 "java/lang/String" Cdr.yN Cdr.yN)) rfl (by decide) (wk W Cdr.tab) (W := 1) (Nat.le_of_ble_eq_true rfl) (Nat.le_of_ble_eq_true rfl) (Nat.le_refl _) (Nat.le_refl _) (hx2.1.fc X2.warmed.alike) hx2.1.is (g := (mkF m 6 #[.val (.ref x)] [.ref x, .int (Int32.ofNat V.slots.size)])) rfl (by rw [hml]; rfl) c3 (argsL := []) (rest := [.int (Int32.ofNat V.slots.size)]) rfl rfl (by show 2 * 0 + (1 + 0) ≤ _; decide) (hb hbytes d6) (⟨rfl, hx2.2.2.1, hx.2.2.2.2.1.cd, s1.there X2.warmed.alike hh2, hz⟩)
  obtain ⟨rfl, q4⟩ := E4
  have c5 : Steps p.tables e below (s₁.setTop (entryFrame m #[.ref x] 1)) (T4.setTop (mkF m 10 #[.val (.ref x)] [.int (Int32.ofNat V.slots.size >>> (cd &&& 31))])) := Steps.trans g4 (by
    refine ishr X4.here hexec rfl (hb hbytes d9) rfl ?_
    exact Steps.refl _)
  rw [hx.2.2.2.2.1.len v31] at c5
  exact ⟨T4, some (.int (Int32.ofNat n)), _, _, _, X4, rfl, rfl, rfl, (fun h => by cases h), ⟨rfl, q4.trans hh2⟩, fun fs hl => c5.trans (X4.ireturnOut hexec hret rfl (Or.inl rfl) (hb hbytes d10) hl)⟩
theorem pays {l : Launch} {R : Room} {p : Program} {e : Env} {below : List Frame} {s : State} {sargs : Array Value} {len W : Nat} (x t : Addr) (V : Cell) (cd : Int32) (n : Nat) (f : Nat → Int32) (z : Int32) (htab : tab.before sargs s = true) (hfr : 2 ≤ R.frames) (hlo : W + 25 ≤ R.locals) :
    Back l R p e below s sargs yN len W (fun A₁ a₁ => A₁.cells + 0 ≤ R.cells ∧ A₁.slots + 0 ≤ R.slots ∧ P x t V cd n f z a₁ A₁.U) (fun A₁ _ v₁ B₁ => E n v₁ A₁.U B₁.U ∧ B₁.locs = A₁.locs ++ [] ∧ B₁.cells = A₁.cells + 0 ∧ B₁.slots = A₁.slots + 0) :=
  (law l x t V cd n f z).pays htab hfr (by omega)
end Len
end StrChars
namespace StrChars.Road
open Jvm Sem ClassFile Op Lib Jvm.Stand Jvm.Free Jvm.Free.XT
open Jvm.Lib.Cold (StaticIs)
theorem consq {a : Array Value} {s : State} {c : Jvm.Cond} {L : List Jvm.Cond} (h0 : c.before a s = true) (h : ∀ w ∈ L, w.before a s = true) : ∀ w ∈ c :: L, w.before a s = true := fun w hw => (List.mem_cons.mp hw).elim (fun e => e ▸ h0) (h w)
/-- the words of String.length(), either coding -/
abbrev wordsLen : List Jvm.Cond := [.code Len.yN Len.yB 1 (some .int), .initialized ST, .fieldLink ST 9 ST "value" "[B", .fieldLink ST 38 ST "COMPACT_STRINGS" "Z", .fieldLink ST 15 ST "coder" "B", .code Cdr.yN Cdr.yB 1 (some .byte), .methodLink ST 335 Cdr.yN, .declares Cdr.yN, .selects ST Cdr.yN Cdr.yN, .instanceMethod Cdr.yN]
theorem tabLen_of {a : Array Value} {s : State} (h : ∀ w ∈ wordsLen, w.before a s = true) : Len.tab.before a s = true := by
  have hc : Cdr.tab.before a s = true := unparts (wk h (.code Cdr.yN Cdr.yB 1 (some .byte))) (wks h (.initialized Cdr.yN.cls :: Cdr.site))
  have q := consq hc h
  exact unparts (wk q (.code Len.yN Len.yB 1 (some .int))) (wks q (.initialized Len.yN.cls :: Len.site))
theorem movedLen {Z s : State} {a0 args : Array Value} (hZ : Z.Warmed39 s.vm) (hw : ∀ d ∈ wordsLen, d.before a0 Z = true) : ∀ d ∈ wordsLen, d.before args s = true := fun d hd => by
  have q := hw d hd
  have t : ∀ d ∈ wordsLen, d = .arrayClass .byte ∨ (d.onTables && d.keepsFace) = true := by decide +kernel
  rcases t d hd with rfl | t
  · exact RoadKit.mvA hZ q
  · exact RoadKit.mv hZ q t
/-- the bytes of the chars cs, low before high -/
def wideBytes : List Int32 → List Value
  | [] => []
  | c :: cs => .int (lo8 c) :: .int (hi8 c) :: wideBytes cs
theorem wide_lo (d : Value) : ∀ (cs : List Int32) (j : Nat), j < cs.length → (wideBytes cs).getD (2 * j) d = .int (lo8 (cs.getD j 0))
  | [], j, h => absurd h (Nat.not_lt_zero j)
  | c :: cs, 0, _ => rfl
  | c :: cs, j + 1, h => by
    have q := wide_lo d cs j (by simpa using h)
    rw [show 2 * (j + 1) = 2 * j + 1 + 1 from by omega]
    simpa [wideBytes] using q
theorem wide_hi (d : Value) : ∀ (cs : List Int32) (j : Nat), j < cs.length → (wideBytes cs).getD (2 * j + 1) d = .int (hi8 (cs.getD j 0))
  | [], j, h => absurd h (Nat.not_lt_zero j)
  | c :: cs, 0, _ => rfl
  | c :: cs, j + 1, h => by
    have q := wide_hi d cs j (by simpa using h)
    rw [show 2 * (j + 1) + 1 = 2 * j + 1 + 1 + 1 from by omega]
    simpa [wideBytes] using q
theorem low_at (d : Value) (cs : List Int32) (j : Nat) (h : j < cs.length) : (cs.map fun c => Value.int (lo8 c)).getD j d = .int (lo8 (cs.getD j 0)) := by
  simp [List.getD_eq_getElem?_getD, h]
/-- an array of N2 bytes vs codes the chars cs by the coder cd -/
def CodA (cs : List Int32) (cd N2 : Int32) (vs : List Value) : Prop := (cd = 0 ∧ N2 = Int32.ofNat cs.length ∧ vs = (cs.map fun c => Value.int (lo8 c)) ∧ ∀ c ∈ cs, ¬ 255 < c) ∨ (cd = 1 ∧ N2 = Int32.ofNat (2 * cs.length) ∧ vs = wideBytes cs ∧ ∃ c ∈ cs, 255 < c)
theorem CodA.cod {cs : List Int32} {cd N2 : Int32} {vs : List Value} {V : Cell} (h : CodA cs cd N2 vs) (hn : 2 * cs.length < 2 ^ 31) (hs : V.slots.size = N2.toNatClampNeg) (hv : RoadKit.Has V vs (.int 0)) : Cod cd cs.length (fun j => cs.getD j 0) V := by
  rcases h with ⟨rfl, rfl, rfl, h⟩ | ⟨rfl, rfl, rfl, c, hc, hw⟩
  · rw [n32 (by omega)] at hs
    exact Or.inl ⟨rfl, hs, fun j hj => ⟨by rw [hv j (by omega), low_at _ _ _ hj], by
      have e : cs.getD j 0 = cs[j] := by simp [List.getD_eq_getElem?_getD, hj]
      show ¬ 255 < cs.getD j 0
      rw [e]; exact h _ (List.getElem_mem _)⟩⟩
  · rw [n32 (by omega)] at hs
    obtain ⟨j, hj, rfl⟩ := List.getElem_of_mem hc
    exact Or.inr ⟨rfl, hs, fun j hj => ⟨by rw [hv _ (by omega), wide_lo _ _ _ hj], by rw [hv _ (by omega), wide_hi _ _ _ hj]⟩, j, hj, by
      have e : cs.getD j 0 = cs[j] := by simp [List.getD_eq_getElem?_getD, hj]
      show 255 < cs.getD j 0
      rw [e]; exact hw⟩
/-- an object of exactly java/lang/String, its two fields found: as the laws ask it -/
theorem strObj {Z U : State} {a0 : Array Value} {kI : Nat} (wi : (Jvm.Cond.instantiable ST kI).before a0 Z = true) (al : Z.vm.Alike U.vm) {x : Addr} {v0 c0 : Value} (E : RoadKit.Exa Z U.heap x ST) (V : RoadKit.Fld Z U.heap x ST "value" "[B" v0) (C : RoadKit.Fld Z U.heap x ST "coder" "B" c0) :
    ∃ (D : Cell) (fV fC : Field), Blank ST x D U ∧ Found ST "value" "[B" fV U ∧ Found ST "coder" "B" fC U ∧ D.slots[fV.slot]? = some v0 ∧ D.slots[fC.slot]? = some c0 ∧ RoadKit.slotOf Z ST "value" "[B" = fV.slot ∧ RoadKit.slotOf Z ST "coder" "B" = fC.slot := by
  obtain ⟨D, cfV, kV, iV, fV, hD, gV, stV, knV, obV, asV, slV⟩ := V
  obtain ⟨D', cfC, kC, iC, fC, hD', gC, stC, -, -, asC, slC⟩ := C
  cases hD.symm.trans hD'
  obtain ⟨D2, kD, e1, e2, e3, e4, e5⟩ := E
  cases hD.symm.trans e1
  obtain ⟨c2, k2, i1, i2, i3, -⟩ := Cond.instantiable_spec wi
  cases e2.symm.trans i1
  cases e3.symm.trans i2
  obtain ⟨kU, u1, u2⟩ := al.2.2 _ _ e3
  exact ⟨D, fV, fC, ⟨hD, ⟨knV, fun q hq => by rw [hq] at obV; cases obV⟩, by rw [al.findClass]; exact e2, kU, u1, by rw [u2]; exact i3, by rw [u2]; exact e5 i3⟩, ⟨SBG.found_only al ⟨cfV, kV, iV, gV⟩, stV⟩, ⟨SBG.found_only al ⟨cfC, kC, iC, gC⟩, stC⟩, slV, slC, by simp [RoadKit.slotOf, gV], by simp [RoadKit.slotOf, gC]⟩
theorem sta_is {Z U : State} (al : Z.vm.Alike U.vm) {C n d : String} {v : Value} (S : RoadKit.Sta Z U.heap C n d v) : StaticIs U C n d v := by
  obtain ⟨cfS, iS, kS, fS, st, cS, t1, t2, t3, t4, t5, t6, t7⟩ := S
  exact StaticIs.there (s := { Z with heap := U.heap }) ⟨cfS, iS, kS, fS, st, cS, t1, t2, t3, t4, t5, (fun q => by rw [q] at t6; cases t6), t7⟩ al rfl
/-- **length() OF SUCH A STRING** -/
theorem lenW {p : Program} {l : Launch} {e : Env} {R : Room} {s : State} {args : Array Value} {below : List Frame} {len W : Nat} {Z : State} {a0 : Array Value} {h : Heap} (hZ : Z.Warmed39 s.vm) (hw : ∀ d ∈ wordsLen, d.before a0 Z = true) {kI : Nat} (wi : (Jvm.Cond.instantiable ST kI).before a0 Z = true)
    {x t : Addr} {kb : ClassId} {cs : List Int32} {cd N2 z : Int32} {vs : List Value} (E : RoadKit.Exa Z h x ST) (V : RoadKit.Fld Z h x ST "value" "[B" (.ref t)) (C : RoadKit.Fld Z h x ST "coder" "B" (.int cd)) (K : RoadKit.Arv Z h t kb .byte N2 vs (.int 0)) (hc : CodA cs cd N2 vs) (hb : ∀ c ∈ cs, ¬ c < 0 ∧ ¬ (65535 : Int32) < c)
    (S : RoadKit.Sta Z h ST "COMPACT_STRINGS" "Z" (.int z)) (hz : ¬ z = 0) (l2 : cs.length ≤ 4000) (hfr : 2 ≤ R.frames) (hlo : W + 25 ≤ R.locals) :
    Back l R p e below s args (⟨"java/lang/String", "length", "()I"⟩ : MethodName) len W (fun P a => a = #[.ref x] ∧ P.U.heap = h ∧ P.cells + 0 ≤ R.cells ∧ P.slots + 0 ≤ R.slots)
      (fun P _ v B => ∃ L, (v = some (.int (Int32.ofNat cs.length)) ∧ L = [] ∧ B.U.heap = h) ∧ B.locs = P.locs ++ L ∧ B.cells = P.cells + 0 ∧ B.slots = P.slots + 0) := by
  obtain ⟨A, K1, K2, K3, K4, K5, K6⟩ := K
  have hcod := hc.cod (by omega) K3 K5
  intro m meth c P g ig mk a X hg hsize hdg hW hn hp'
  obtain ⟨rfl, rfl, r1, r2⟩ := hp'
  have al : Z.vm.Alike P.U.vm := hZ.alike.trans X.warmed.alike
  obtain ⟨D, fV, fC, hB, F1, F2, g1, g2, -, -⟩ := strObj wi al E V C
  have hx : Txt x t A cd cs.length (fun j => cs.getD j 0) P.U := ⟨⟨_, hB.2.2.1, D, hB.1, rfl, by cases q : D.vm <;> first | rfl | exact absurd q (hB.2.1.2 _)⟩, Has.of hB F1 g1, Has.of hB F2 g2, ⟨K1.1, State.isArrayOf_alike al K1.2.1, K1.2.2, by rcases hcod with ⟨-, q, -⟩ | ⟨-, q, -⟩ <;> omega⟩, hcod, fun j hj => by
    have e : cs.getD j 0 = cs[j] := by simp [List.getD_eq_getElem?_getD, hj]
    show ¬ cs.getD j 0 < 0 ∧ ¬ 65535 < cs.getD j 0
    rw [e]; exact hb _ (List.getElem_mem _)⟩
  obtain ⟨v, B, X', ⟨⟨hv, hh⟩, hl, hk, hs⟩, st⟩ := Len.pays x t A cd cs.length (fun j => cs.getD j 0) z (tabLen_of (movedLen hZ hw)) hfr hlo m meth c P g ig mk _ X hg hsize hdg hW hn ⟨r1, r2, rfl, hx, sta_is al S, hz⟩
  exact ⟨v, B, X', ⟨[], ⟨hv, rfl, hh⟩, hl, hk, hs⟩, st⟩
end StrChars.Road
namespace StrChars
open Jvm Sem ClassFile Op Lib Jvm.Stand Jvm.Free.XT Jvm.Free.ALB Jvm.Free.JM Jvm.Free
open Jvm.Lib.Cold (StaticIs)
namespace Emp
def yN : MethodName := ⟨"java/lang/String", "isEmpty", "()Z"⟩
abbrev yB : ByteArray := jdk_42_method_55_code
theorem d0 : decode yB 0 = .ok (.aload_n 0, 1) := by decide +kernel
theorem d1 : decode yB 1 = .ok (.getfield 9, 3) := by decide +kernel
theorem d4 : decode yB 4 = .ok (.arraylength, 1) := by decide +kernel
theorem d5 : decode yB 5 = .ok (.ifCond (.ne) 7, 3) := by decide +kernel
theorem d8 : decode yB 8 = .ok (.iconst 1, 1) := by decide +kernel
theorem d9 : decode yB 9 = .ok (.goto 4, 3) := by decide +kernel
theorem d12 : decode yB 12 = .ok (.iconst 0, 1) := by decide +kernel
theorem d13 : decode yB 13 = .ok (.ireturn, 1) := by decide +kernel
def site : List Cond := [.fieldLink "java/lang/String" 9 "java/lang/String" "value" "[B"]
def tab : Cond := tabOf yN yB 1 (some .boolean) site
def P (x t : Addr) (V : Cell) (cd : Int32) (n : Nat) (f : Nat → Int32) (args : Array Value) (s : State) : Prop := args = #[.ref x] ∧ Txt x t V cd n f s
def E (n : Nat) (r : Option Value) (s u : State) : Prop := XT.PureE (some (.int (if n = 0 then 1 else 0))) r s u
/-- isEmpty() of a String of n chars -/
theorem law (l : Launch) (x t : Addr) (V : Cell) (cd : Int32) (n : Nat) (f : Nat → Int32) : Law l yN 1 0 0 0 yB 1 (some .boolean) site (P x t V cd n f) (E n) [] 0 0 := by
  refine Law.of_walk (plainFor_of_name (by decide +kernel)) (by decide +kernel) (by decide +kernel) (by decide) (fun _ _ h => by rw [h.1]; rfl) (fun _ U U' hal hh h => ⟨h.1, h.2.mv hal hh⟩) (fun r U U' V V' h1 hal h2 h => XT.PureE.mv r U U' V V' h1 hal h2 h) ?_
  intro p e s m args below meth c s₁ X0 hexec hbytes hml hret hlk hnm hown hh0 W hP
  obtain ⟨rfl, hx⟩ := hP
  have v31 := hx.2.2.2.1.2.2.2
  have c1 : Steps p.tables e below (s₁.setTop (entryFrame m #[.ref x] 1)) (s₁.setTop (mkF m 1 #[.val (.ref x)] [.ref x])) := Steps.trans (entry rfl) (by
    show Steps p.tables e below (s₁.setTop (mkF m 0 #[.val (.ref x)] [])) _
    refine XS.aloadN X0.here hexec rfl (hb hbytes d0) rfl rfl ?_
    exact Steps.refl _)
  obtain ⟨T2, X2, q2, st2⟩ := X0.hget hexec hown (wk W (.fieldLink "java/lang/String" 9 "java/lang/String" "value" "[B")) (hx.mv X0.warmed.alike hh0).2.1 (g := (mkF m 1 #[.val (.ref x)] [.ref x])) rfl (rest := []) rfl (hb hbytes d1)
  have hh2 := q2.trans hh0
  have hx2 := hx.mv X2.warmed.alike hh2
  have c3 : Steps p.tables e below (s₁.setTop (entryFrame m #[.ref x] 1)) (T2.setTop (mkF m 5 #[.val (.ref x)] [.int (Int32.ofNat V.slots.size)])) := (c1.trans (st2 _ (Steps.refl _))).trans (by
    refine X2.alen hexec hx2.2.2.2.1 rfl rfl (hb hbytes d4) ?_
    exact Steps.refl _)
  have hz : V.slots.size = 0 ↔ n = 0 := by
    rcases hx.2.2.2.2.1 with ⟨-, q, -⟩ | ⟨-, q, -⟩ <;> omega
  by_cases h0 : n = 0
  · have c4 : Steps p.tables e below (s₁.setTop (entryFrame m #[.ref x] 1)) (T2.setTop (mkF m 13 #[.val (.ref x)] [.int 1])) := c3.trans (by
      refine XS.ifNo X2.here hexec rfl (hb hbytes d5) rfl (i0_ne_f (by rw [hz.mpr h0]; rfl)) ?_
      refine iconstV X2.here hexec rfl 1 (hb hbytes d8) (by decide) ?_
      refine XS.goto X2.here hexec rfl (pc0 := 9) rfl (hb hbytes d9) (by decide) rfl ?_
      exact Steps.refl _)
    exact ⟨T2, some (.int 1), _, _, _, X2, rfl, rfl, rfl, (fun h => by cases h), ⟨by rw [if_pos h0], hh2⟩, fun fs hl => c4.trans (X2.ireturnOut hexec hret rfl (Or.inr (Or.inl rfl)) (hb hbytes d13) hl)⟩
  · have c4 : Steps p.tables e below (s₁.setTop (entryFrame m #[.ref x] 1)) (T2.setTop (mkF m 13 #[.val (.ref x)] [.int 0])) := c3.trans (by
      refine XS.ifYes X2.here hexec rfl (pc0 := 5) rfl (hb hbytes d5) rfl (i0_ne_t (nz32 v31 (by omega))) (by decide) rfl ?_
      refine iconstV X2.here hexec rfl 0 (hb hbytes d12) (by decide) ?_
      exact Steps.refl _)
    exact ⟨T2, some (.int 0), _, _, _, X2, rfl, rfl, rfl, (fun h => by cases h), ⟨by rw [if_neg h0], hh2⟩, fun fs hl => c4.trans (X2.ireturnOut hexec hret rfl (Or.inr (Or.inl rfl)) (hb hbytes d13) hl)⟩
theorem pays {l : Launch} {R : Room} {p : Program} {e : Env} {below : List Frame} {s : State} {sargs : Array Value} {len W : Nat} (x t : Addr) (V : Cell) (cd : Int32) (n : Nat) (f : Nat → Int32) (htab : tab.before sargs s = true) (hfr : 1 ≤ R.frames) (hlo : W + 12 ≤ R.locals) :
    Back l R p e below s sargs yN len W (fun A₁ a₁ => A₁.cells + 0 ≤ R.cells ∧ A₁.slots + 0 ≤ R.slots ∧ P x t V cd n f a₁ A₁.U) (fun A₁ _ v₁ B₁ => E n v₁ A₁.U B₁.U ∧ B₁.locs = A₁.locs ++ [] ∧ B₁.cells = A₁.cells + 0 ∧ B₁.slots = A₁.slots + 0) :=
  (law l x t V cd n f).pays htab hfr (by omega)
end Emp
end StrChars
namespace StrChars.Road
open Jvm Sem ClassFile Op Lib Jvm.Stand Jvm.Free Jvm.Free.XT
open Jvm.Lib.Cold (StaticIs)
/-- the words of String.isEmpty() -/
abbrev wordsEmp : List Jvm.Cond := [.code Emp.yN Emp.yB 1 (some .boolean), .initialized ST, .fieldLink ST 9 ST "value" "[B"]
theorem tabEmp_of {a : Array Value} {s : State} (h : ∀ w ∈ wordsEmp, w.before a s = true) : Emp.tab.before a s = true := unparts (wk h (.code Emp.yN Emp.yB 1 (some .boolean))) (wks h (.initialized Emp.yN.cls :: Emp.site))
theorem movedEmp {Z s : State} {a0 args : Array Value} (hZ : Z.Warmed39 s.vm) (hw : ∀ d ∈ wordsEmp, d.before a0 Z = true) : ∀ d ∈ wordsEmp, d.before args s = true := fun d hd => by
  have t : ∀ d ∈ wordsEmp, (d.onTables && d.keepsFace) = true := by decide +kernel
  exact RoadKit.mv hZ (hw d hd) (t d hd)
/-- the road's facts of a String, as the laws ask it -/
theorem txt_of {Z U : State} {a0 : Array Value} {kI : Nat} (wi : (Jvm.Cond.instantiable ST kI).before a0 Z = true) (al : Z.vm.Alike U.vm) {x t : Addr} {kb : ClassId} {cs : List Int32} {cd N2 : Int32} {vs : List Value} (E : RoadKit.Exa Z U.heap x ST) (V : RoadKit.Fld Z U.heap x ST "value" "[B" (.ref t)) (C : RoadKit.Fld Z U.heap x ST "coder" "B" (.int cd)) (K : RoadKit.Arv Z U.heap t kb .byte N2 vs (.int 0)) (hc : CodA cs cd N2 vs) (hb : ∀ c ∈ cs, ¬ c < 0 ∧ ¬ (65535 : Int32) < c) (l2 : cs.length ≤ 4000) :
    ∃ A, Txt x t A cd cs.length (fun j => cs.getD j 0) U := by
  obtain ⟨A, K1, K2, K3, K4, K5, K6⟩ := K
  have hcod := hc.cod (by omega) K3 K5
  obtain ⟨D, fV, fC, hB, F1, F2, g1, g2, -, -⟩ := strObj wi al E V C
  exact ⟨A, ⟨_, hB.2.2.1, D, hB.1, rfl, by cases q : D.vm <;> first | rfl | exact absurd q (hB.2.1.2 _)⟩, Has.of hB F1 g1, Has.of hB F2 g2, ⟨K1.1, State.isArrayOf_alike al K1.2.1, K1.2.2, by rcases hcod with ⟨-, q, -⟩ | ⟨-, q, -⟩ <;> omega⟩, hcod, fun j hj => by
    have e : cs.getD j 0 = cs[j] := by simp [List.getD_eq_getElem?_getD, hj]
    show ¬ cs.getD j 0 < 0 ∧ ¬ 65535 < cs.getD j 0
    rw [e]; exact hb _ (List.getElem_mem _)⟩
/-- **isEmpty() OF SUCH A STRING** -/
theorem empW {p : Program} {l : Launch} {e : Env} {R : Room} {s : State} {args : Array Value} {below : List Frame} {len W : Nat} {Z : State} {a0 : Array Value} {h : Heap} (hZ : Z.Warmed39 s.vm) (hw : ∀ d ∈ wordsEmp, d.before a0 Z = true) {kI : Nat} (wi : (Jvm.Cond.instantiable ST kI).before a0 Z = true)
    {x t : Addr} {kb : ClassId} {cs : List Int32} {cd N2 : Int32} {vs : List Value} (E : RoadKit.Exa Z h x ST) (V : RoadKit.Fld Z h x ST "value" "[B" (.ref t)) (C : RoadKit.Fld Z h x ST "coder" "B" (.int cd)) (K : RoadKit.Arv Z h t kb .byte N2 vs (.int 0)) (hc : CodA cs cd N2 vs) (hb : ∀ c ∈ cs, ¬ c < 0 ∧ ¬ (65535 : Int32) < c) (l2 : cs.length ≤ 4000) (hfr : 1 ≤ R.frames) (hlo : W + 12 ≤ R.locals) :
    Back l R p e below s args (⟨"java/lang/String", "isEmpty", "()Z"⟩ : MethodName) len W (fun P a => a = #[.ref x] ∧ P.U.heap = h ∧ P.cells + 0 ≤ R.cells ∧ P.slots + 0 ≤ R.slots)
      (fun P _ v B => ∃ L, (v = some (.int (if cs.length = 0 then 1 else 0)) ∧ L = [] ∧ B.U.heap = h) ∧ B.locs = P.locs ++ L ∧ B.cells = P.cells + 0 ∧ B.slots = P.slots + 0) := by
  intro m meth c P g ig mk a X hg hsize hdg hW hn hp'
  obtain ⟨rfl, rfl, r1, r2⟩ := hp'
  have al : Z.vm.Alike P.U.vm := hZ.alike.trans X.warmed.alike
  obtain ⟨A, hx⟩ := txt_of wi al E V C K hc hb l2
  obtain ⟨v, B, X', ⟨⟨hv, hh⟩, hl, hk, hs⟩, st⟩ := Emp.pays x t A cd cs.length (fun j => cs.getD j 0) (tabEmp_of (movedEmp hZ hw)) hfr hlo m meth c P g ig mk _ X hg hsize hdg hW hn ⟨r1, r2, rfl, hx⟩
  exact ⟨v, B, X', ⟨[], ⟨hv, rfl, hh⟩, hl, hk, hs⟩, st⟩
end StrChars.Road
namespace StrChars.Road
open Jvm Sem ClassFile Op Lib Jvm.Stand Jvm.Free Jvm.Free.XT
open Jvm.Lib.Cold (StaticIs)
/-- what backV says of its String, as the contracts of this text ask it: cs's low bytes, coder 0 -/
theorem codOf {cs : List Int32} {n : Nat} (hn : cs.length = n) (hb : ∀ c ∈ cs, ¬ 255 < c) : CodA cs 0 (Int32.ofNat n) ((cs.map lo8).map Value.int) := Or.inl ⟨rfl, by rw [hn], by simp [List.map_map, Function.comp_def], hb⟩
end StrChars.Road
end Jvm.Pilot.@@N@@
namespace Jvm.Pilot.@@N@@
open Jvm Jvm.ClassFile Sem Op Lib Jvm.Free Jvm.Stand Jvm.LawKit Jvm.RoadKit Bundle Jvm.Pilot.@@N@@.Jvm.D
section OwnGo
variable {p : Program} {e : Env} {below : List Frame} {F : State → Outcome → Prop} {m : MethodId} {c : Code} {T U V : State} {pc pc' pc2 : Nat} {Ls L' : Array Slot} {st : List Value}
/-- from here the walk comes to an end that F takes -/
def own_Go (p : Program) (e : Env) (below : List Frame) (F : State → Outcome → Prop) (U : State) : Prop := ∃ (t : State) (o : Outcome), Steps p.tables e below U t ∧ t.status = .running ∧ Ended t below o ∧ F t o
theorem own_on (h : ∀ t, Steps p.tables e below V t → Steps p.tables e below U t) (g : own_Go p e below F V) : own_Go p e below F U := by
  obtain ⟨t, o, h1, r⟩ := g; exact ⟨t, o, h t h1, r⟩
theorem own_to (h : Steps p.tables e below U V) (g : own_Go p e below F V) : own_Go p e below F U := by
  obtain ⟨t, o, h1, r⟩ := g; exact ⟨t, o, h.trans h1, r⟩
theorem own_aload_n (h : At T m c below) (hx : p.tables.exec = Jvm.exec) {k : Fin 4} {v : Value} (hd : decode c.code pc = .ok (.aload_n k, 1)) (hl : Ls[k.val]? = some (.val v)) (hv : v.isRef = true) (hp : pc + 1 = pc') (K : own_Go p e below F (T.setTop (mkF m pc' Ls (v :: st)))) : own_Go p e below F (T.setTop (mkF m pc Ls st)) := by
  subst hp; exact own_on (fun _ => XS.aloadN h hx rfl hd hl hv) K
theorem own_aload (h : At T m c below) (hx : p.tables.exec = Jvm.exec) {k : Nat} {v : Value} (hd : decode c.code pc = .ok (.aload k, 2)) (hl : Ls[k]? = some (.val v)) (hv : v.isRef = true) (hp : pc + 2 = pc') (K : own_Go p e below F (T.setTop (mkF m pc' Ls (v :: st)))) : own_Go p e below F (T.setTop (mkF m pc Ls st)) := by
  subst hp; exact own_on (fun _ => XS.aload h hx rfl hd hl hv) K
theorem own_iload_n (h : At T m c below) (hx : p.tables.exec = Jvm.exec) {k : Fin 4} {v : Int32} (hd : decode c.code pc = .ok (.iload_n k, 1)) (hl : Ls[k.val]? = some (.val (.int v))) (hp : pc + 1 = pc') (K : own_Go p e below F (T.setTop (mkF m pc' Ls (.int v :: st)))) : own_Go p e below F (T.setTop (mkF m pc Ls st)) := by
  subst hp; exact own_on (fun _ => XS.iloadN h hx rfl hd hl) K
theorem own_iload (h : At T m c below) (hx : p.tables.exec = Jvm.exec) {k : Nat} {v : Int32} (hd : decode c.code pc = .ok (.iload k, 2)) (hl : Ls[k]? = some (.val (.int v))) (hp : pc + 2 = pc') (K : own_Go p e below F (T.setTop (mkF m pc' Ls (.int v :: st)))) : own_Go p e below F (T.setTop (mkF m pc Ls st)) := by
  subst hp; exact own_on (fun _ => XS.iload h hx rfl hd hl) K
theorem own_lload_n (h : At T m c below) (hx : p.tables.exec = Jvm.exec) {k : Fin 4} {v : Int64} (hd : decode c.code pc = .ok (.lload_n k, 1)) (hl : Ls[k.val]? = some (.val (.long v))) (hp : pc + 1 = pc') (K : own_Go p e below F (T.setTop (mkF m pc' Ls (.long v :: st)))) : own_Go p e below F (T.setTop (mkF m pc Ls st)) := by
  subst hp; exact own_on (fun _ => XT.lloadN h hx rfl hd hl) K
theorem own_lload (h : At T m c below) (hx : p.tables.exec = Jvm.exec) {k : Nat} {v : Int64} (hd : decode c.code pc = .ok (.lload k, 2)) (hl : Ls[k]? = some (.val (.long v))) (hp : pc + 2 = pc') (K : own_Go p e below F (T.setTop (mkF m pc' Ls (.long v :: st)))) : own_Go p e below F (T.setTop (mkF m pc Ls st)) := by
  subst hp; exact own_on (fun _ => XT.lload h hx rfl hd hl) K
theorem own_dload_n (h : At T m c below) (hx : p.tables.exec = Jvm.exec) {k : Fin 4} {v : UInt64} (hd : decode c.code pc = .ok (.dload_n k, 1)) (hl : Ls[k.val]? = some (.val (.double v))) (hp : pc + 1 = pc') (K : own_Go p e below F (T.setTop (mkF m pc' Ls (.double v :: st)))) : own_Go p e below F (T.setTop (mkF m pc Ls st)) := by
  subst hp; exact own_on (fun _ => XS.dloadN h hx rfl hd hl) K
theorem own_dload (h : At T m c below) (hx : p.tables.exec = Jvm.exec) {k : Nat} {v : UInt64} (hd : decode c.code pc = .ok (.dload k, 2)) (hl : Ls[k]? = some (.val (.double v))) (hp : pc + 2 = pc') (K : own_Go p e below F (T.setTop (mkF m pc' Ls (.double v :: st)))) : own_Go p e below F (T.setTop (mkF m pc Ls st)) := by
  subst hp; exact own_on (fun _ => XS.dload h hx rfl hd hl) K
theorem own_iconst (h : At T m c below) (hx : p.tables.exec = Jvm.exec) {i : Int} {v : Int32} (hd : decode c.code pc = .ok (.iconst i, 1)) (hv : Int32.ofInt i = v) (hp : pc + 1 = pc') (K : own_Go p e below F (T.setTop (mkF m pc' Ls (.int v :: st)))) : own_Go p e below F (T.setTop (mkF m pc Ls st)) := by
  subst hp hv; exact own_on (fun _ => XS.iconst h hx rfl hd) K
theorem own_bipush (h : At T m c below) (hx : p.tables.exec = Jvm.exec) {i : Int} {v : Int32} (hd : decode c.code pc = .ok (.bipush i, 2)) (hv : (Int8.ofInt i).toInt32 = v) (hp : pc + 2 = pc') (K : own_Go p e below F (T.setTop (mkF m pc' Ls (.int v :: st)))) : own_Go p e below F (T.setTop (mkF m pc Ls st)) := by
  subst hp hv; exact own_on (fun _ => XS.bipush h hx rfl hd) K
theorem own_sipush (h : At T m c below) (hx : p.tables.exec = Jvm.exec) {i : Int} {v : Int32} (hd : decode c.code pc = .ok (.sipush i, 3)) (hv : (Int16.ofInt i).toInt32 = v) (hp : pc + 3 = pc') (K : own_Go p e below F (T.setTop (mkF m pc' Ls (.int v :: st)))) : own_Go p e below F (T.setTop (mkF m pc Ls st)) := by
  subst hp hv; exact own_on (fun _ => XS.sipush h hx rfl hd) K
theorem own_lconst (h : At T m c below) (hx : p.tables.exec = Jvm.exec) {k : Fin 2} {v : Int64} (hd : decode c.code pc = .ok (.lconst k, 1)) (hv : Int64.ofNat k = v) (hp : pc + 1 = pc') (K : own_Go p e below F (T.setTop (mkF m pc' Ls (.long v :: st)))) : own_Go p e below F (T.setTop (mkF m pc Ls st)) := by
  subst hp hv; exact own_on (fun _ => XT.lconst h hx rfl hd) K
theorem own_aconst_null (h : At T m c below) (hx : p.tables.exec = Jvm.exec) (hd : decode c.code pc = .ok (.aconst_null, 1)) (hp : pc + 1 = pc') (K : own_Go p e below F (T.setTop (mkF m pc' Ls (.null :: st)))) : own_Go p e below F (T.setTop (mkF m pc Ls st)) := by
  subst hp; exact own_on (fun _ => XS.aconstNull h hx rfl hd) K
theorem own_iadd (h : At T m c below) (hx : p.tables.exec = Jvm.exec) {x y : Int32} (hd : decode c.code pc = .ok (.iadd, 1)) (hp : pc + 1 = pc') (K : own_Go p e below F (T.setTop (mkF m pc' Ls (.int (x + y) :: st)))) : own_Go p e below F (T.setTop (mkF m pc Ls (.int y :: .int x :: st))) := by
  subst hp; exact own_on (fun _ => XS.iadd h hx rfl hd rfl) K
theorem own_isub (h : At T m c below) (hx : p.tables.exec = Jvm.exec) {x y : Int32} (hd : decode c.code pc = .ok (.isub, 1)) (hp : pc + 1 = pc') (K : own_Go p e below F (T.setTop (mkF m pc' Ls (.int (x - y) :: st)))) : own_Go p e below F (T.setTop (mkF m pc Ls (.int y :: .int x :: st))) := by
  subst hp; exact own_on (fun _ => XS.isub h hx rfl hd rfl) K
theorem own_imul (h : At T m c below) (hx : p.tables.exec = Jvm.exec) {x y : Int32} (hd : decode c.code pc = .ok (.imul, 1)) (hp : pc + 1 = pc') (K : own_Go p e below F (T.setTop (mkF m pc' Ls (.int (x * y) :: st)))) : own_Go p e below F (T.setTop (mkF m pc Ls (.int y :: .int x :: st))) := by
  subst hp; exact own_on (fun _ => XS.imul h hx rfl hd rfl) K
theorem own_irem (h : At T m c below) (hx : p.tables.exec = Jvm.exec) {x y : Int32} (hd : decode c.code pc = .ok (.irem, 1)) (hy : y ≠ 0) (hp : pc + 1 = pc') (K : own_Go p e below F (T.setTop (mkF m pc' Ls (.int (x % y) :: st)))) : own_Go p e below F (T.setTop (mkF m pc Ls (.int y :: .int x :: st))) := by
  subst hp; exact own_on (fun _ hr => XS.irem h hx rfl hd rfl hy (by rw [show x - x / y * y = x % y from irem_eq_mod x y]; exact hr)) K
theorem own_iand (h : At T m c below) (hx : p.tables.exec = Jvm.exec) {x y : Int32} (hd : decode c.code pc = .ok (.iand, 1)) (hp : pc + 1 = pc') (K : own_Go p e below F (T.setTop (mkF m pc' Ls (.int (x &&& y) :: st)))) : own_Go p e below F (T.setTop (mkF m pc Ls (.int y :: .int x :: st))) := by
  subst hp; exact own_on (fun _ => XS.iand h hx rfl hd rfl) K
theorem own_ior (h : At T m c below) (hx : p.tables.exec = Jvm.exec) {x y : Int32} (hd : decode c.code pc = .ok (.ior, 1)) (hp : pc + 1 = pc') (K : own_Go p e below F (T.setTop (mkF m pc' Ls (.int (x ||| y) :: st)))) : own_Go p e below F (T.setTop (mkF m pc Ls (.int y :: .int x :: st))) := by
  subst hp; exact own_on (fun _ => XT.ior h hx rfl hd rfl) K
theorem own_ishl (h : At T m c below) (hx : p.tables.exec = Jvm.exec) {x y : Int32} (hd : decode c.code pc = .ok (.ishl, 1)) (hp : pc + 1 = pc') (K : own_Go p e below F (T.setTop (mkF m pc' Ls (.int (x <<< (y &&& 31)) :: st)))) : own_Go p e below F (T.setTop (mkF m pc Ls (.int y :: .int x :: st))) := by
  subst hp; exact own_on (fun _ => XT.ishl h hx rfl hd rfl) K
theorem own_ishr (h : At T m c below) (hx : p.tables.exec = Jvm.exec) {x y : Int32} (hd : decode c.code pc = .ok (.ishr, 1)) (hp : pc + 1 = pc') (K : own_Go p e below F (T.setTop (mkF m pc' Ls (.int (x >>> (y &&& 31)) :: st)))) : own_Go p e below F (T.setTop (mkF m pc Ls (.int y :: .int x :: st))) := by
  subst hp; exact own_on (fun _ => XT.ishr h hx rfl hd rfl) K
theorem own_iushr (h : At T m c below) (hx : p.tables.exec = Jvm.exec) {x y : Int32} (hd : decode c.code pc = .ok (.iushr, 1)) (hp : pc + 1 = pc') (K : own_Go p e below F (T.setTop (mkF m pc' Ls (.int (XT.ushr x y) :: st)))) : own_Go p e below F (T.setTop (mkF m pc Ls (.int y :: .int x :: st))) := by
  subst hp; exact own_on (fun _ => XT.iushr h hx rfl hd rfl) K
theorem own_i2l (h : At T m c below) (hx : p.tables.exec = Jvm.exec) {x : Int32} (hd : decode c.code pc = .ok (.i2l, 1)) (hp : pc + 1 = pc') (K : own_Go p e below F (T.setTop (mkF m pc' Ls (.long x.toInt64 :: st)))) : own_Go p e below F (T.setTop (mkF m pc Ls (.int x :: st))) := by
  subst hp; exact own_on (fun _ => XT.i2l h hx rfl hd rfl) K
theorem own_l2i (h : At T m c below) (hx : p.tables.exec = Jvm.exec) {x : Int64} (hd : decode c.code pc = .ok (.l2i, 1)) (hp : pc + 1 = pc') (K : own_Go p e below F (T.setTop (mkF m pc' Ls (.int x.toInt32 :: st)))) : own_Go p e below F (T.setTop (mkF m pc Ls (.long x :: st))) := by
  subst hp; exact own_on (fun _ => XT.l2i h hx rfl hd rfl) K
/-- (char) x -/
def own_c (x : Int32) : Int32 := x.toUInt32.toUInt16.toUInt32.toInt32
theorem own_i2c (h : At T m c below) (hx : p.tables.exec = Jvm.exec) {x : Int32} (hd : decode c.code pc = .ok (.i2c, 1)) (hp : pc + 1 = pc') (K : own_Go p e below F (T.setTop (mkF m pc' Ls (.int (own_c x) :: st)))) : own_Go p e below F (T.setTop (mkF m pc Ls (.int x :: st))) := by
  subst hp; exact own_on (fun _ => XT.i2c h hx rfl hd rfl) K
theorem own_i2b (h : At T m c below) (hx : p.tables.exec = Jvm.exec) {x : Int32} (hd : decode c.code pc = .ok (.i2b, 1)) (hp : pc + 1 = pc') (K : own_Go p e below F (T.setTop (mkF m pc' Ls (.int x.toInt8.toInt32 :: st)))) : own_Go p e below F (T.setTop (mkF m pc Ls (.int x :: st))) := by
  subst hp; exact own_on (fun _ => XT.i2b h hx rfl hd rfl) K
theorem own_i2d (h : At T m c below) (hx : p.tables.exec = Jvm.exec) {x : Int32} (hd : decode c.code pc = .ok (.i2d, 1)) (hp : pc + 1 = pc') (K : own_Go p e below F (T.setTop (mkF m pc' Ls (.double (FP.i2d x) :: st)))) : own_Go p e below F (T.setTop (mkF m pc Ls (.int x :: st))) := by
  subst hp; exact own_on (fun _ => XS.i2dS h hx rfl hd rfl rfl) K
theorem own_l2d (h : At T m c below) (hx : p.tables.exec = Jvm.exec) {x : Int64} (hd : decode c.code pc = .ok (.l2d, 1)) (hp : pc + 1 = pc') (K : own_Go p e below F (T.setTop (mkF m pc' Ls (.double (FP.l2d x) :: st)))) : own_Go p e below F (T.setTop (mkF m pc Ls (.long x :: st))) := by
  subst hp; exact own_on (fun _ => XS.l2dS h hx rfl hd rfl rfl) K
theorem own_dneg (h : At T m c below) (hx : p.tables.exec = Jvm.exec) {x : UInt64} (hd : decode c.code pc = .ok (.dneg, 1)) (hp : pc + 1 = pc') (K : own_Go p e below F (T.setTop (mkF m pc' Ls (.double (FP.dneg x) :: st)))) : own_Go p e below F (T.setTop (mkF m pc Ls (.double x :: st))) := by
  subst hp; exact own_on (fun _ => XS.dnegS h hx rfl hd rfl rfl) K
theorem own_dcmp (h : At T m c below) (hx : p.tables.exec = Jvm.exec) {o : CmpOp} {x y : UInt64} {v : Int32} (hd : decode c.code pc = .ok (.dcmp o, 1)) (hv : cmpValue (FP.dcmp x y) o = v) (hp : pc + 1 = pc') (K : own_Go p e below F (T.setTop (mkF m pc' Ls (.int v :: st)))) : own_Go p e below F (T.setTop (mkF m pc Ls (.double y :: .double x :: st))) := by
  subst hp; exact own_on (fun _ => XS.dcmpS h hx rfl hd rfl hv) K
theorem own_dmul (h : At T m c below) (hx : p.tables.exec = Jvm.exec) {x y : UInt64} (hd : decode c.code pc = .ok (.dmul, 1)) (hn : Jvm.Free.Fl.NoNaN64 (FP.dmul x y)) (hp : pc + 1 = pc') (K : own_Go p e below F (T.setTop (mkF m pc' Ls (.double (FP.dmul x y) :: st)))) : own_Go p e below F (T.setTop (mkF m pc Ls (.double y :: .double x :: st))) := by
  subst hp; exact own_on (fun _ => XS.dmulS h hx rfl hd rfl hn rfl) K
theorem own_ddiv (h : At T m c below) (hx : p.tables.exec = Jvm.exec) {x y : UInt64} (hd : decode c.code pc = .ok (.ddiv, 1)) (hn : Jvm.Free.Fl.NoNaN64 (FP.ddiv x y)) (hp : pc + 1 = pc') (K : own_Go p e below F (T.setTop (mkF m pc' Ls (.double (FP.ddiv x y) :: st)))) : own_Go p e below F (T.setTop (mkF m pc Ls (.double y :: .double x :: st))) := by
  subst hp; exact own_on (fun _ => XS.ddivS h hx rfl hd rfl hn rfl) K
theorem own_ladd (h : At T m c below) (hx : p.tables.exec = Jvm.exec) {x y : Int64} (hd : decode c.code pc = .ok (.ladd, 1)) (hp : pc + 1 = pc') (K : own_Go p e below F (T.setTop (mkF m pc' Ls (.long (x + y) :: st)))) : own_Go p e below F (T.setTop (mkF m pc Ls (.long y :: .long x :: st))) := by
  subst hp; exact own_on (fun _ => XT.ladd h hx rfl hd rfl) K
theorem own_lsub (h : At T m c below) (hx : p.tables.exec = Jvm.exec) {x y : Int64} (hd : decode c.code pc = .ok (.lsub, 1)) (hp : pc + 1 = pc') (K : own_Go p e below F (T.setTop (mkF m pc' Ls (.long (x - y) :: st)))) : own_Go p e below F (T.setTop (mkF m pc Ls (.long y :: .long x :: st))) := by
  subst hp; exact own_on (fun _ => XT.lsub h hx rfl hd rfl) K
theorem own_lmul (h : At T m c below) (hx : p.tables.exec = Jvm.exec) {x y : Int64} (hd : decode c.code pc = .ok (.lmul, 1)) (hp : pc + 1 = pc') (K : own_Go p e below F (T.setTop (mkF m pc' Ls (.long (x * y) :: st)))) : own_Go p e below F (T.setTop (mkF m pc Ls (.long y :: .long x :: st))) := by
  subst hp; exact own_on (fun _ => XT.lmul h hx rfl hd rfl) K
theorem own_land (h : At T m c below) (hx : p.tables.exec = Jvm.exec) {x y : Int64} (hd : decode c.code pc = .ok (.land, 1)) (hp : pc + 1 = pc') (K : own_Go p e below F (T.setTop (mkF m pc' Ls (.long (x &&& y) :: st)))) : own_Go p e below F (T.setTop (mkF m pc Ls (.long y :: .long x :: st))) := by
  subst hp; exact own_on (fun _ => XT.land h hx rfl hd rfl) K
theorem own_lneg (h : At T m c below) (hx : p.tables.exec = Jvm.exec) {x : Int64} (hd : decode c.code pc = .ok (.lneg, 1)) (hp : pc + 1 = pc') (K : own_Go p e below F (T.setTop (mkF m pc' Ls (.long (-x) :: st)))) : own_Go p e below F (T.setTop (mkF m pc Ls (.long x :: st))) := by
  subst hp; exact own_on (fun _ => XT.lneg h hx rfl hd rfl) K
theorem own_lushr (h : At T m c below) (hx : p.tables.exec = Jvm.exec) {x : Int64} {y : Int32} (hd : decode c.code pc = .ok (.lushr, 1)) (hp : pc + 1 = pc') (K : own_Go p e below F (T.setTop (mkF m pc' Ls (.long (XT.ushrL x y) :: st)))) : own_Go p e below F (T.setTop (mkF m pc Ls (.int y :: .long x :: st))) := by
  subst hp; exact own_on (fun _ => XT.lushr h hx rfl hd rfl) K
theorem own_lcmp (h : At T m c below) (hx : p.tables.exec = Jvm.exec) {x y : Int64} (hd : decode c.code pc = .ok (.lcmp, 1)) (hp : pc + 1 = pc') (K : own_Go p e below F (T.setTop (mkF m pc' Ls (.int (XT.cmpL x y) :: st)))) : own_Go p e below F (T.setTop (mkF m pc Ls (.long y :: .long x :: st))) := by
  subst hp; exact own_on (fun _ => XT.lcmp h hx rfl hd rfl) K
theorem own_dup (h : At T m c below) (hx : p.tables.exec = Jvm.exec) {x : Value} (hd : decode c.code pc = .ok (.dup, 1)) (hc : x.category = 1) (hp : pc + 1 = pc') (K : own_Go p e below F (T.setTop (mkF m pc' Ls (x :: x :: st)))) : own_Go p e below F (T.setTop (mkF m pc Ls (x :: st))) := by
  subst hp; exact own_on (fun _ => XS.dup h hx rfl hd rfl hc) K
theorem own_pop (h : At T m c below) (hx : p.tables.exec = Jvm.exec) {x : Value} (hd : decode c.code pc = .ok (.pop, 1)) (hc : x.category = 1) (hp : pc + 1 = pc') (K : own_Go p e below F (T.setTop (mkF m pc' Ls st))) : own_Go p e below F (T.setTop (mkF m pc Ls (x :: st))) := by
  subst hp; exact own_on (fun _ => XT.pop h hx rfl hd rfl hc) K
theorem own_istore_n (h : At T m c below) (hx : p.tables.exec = Jvm.exec) {k : Fin 4} {x : Int32} (hd : decode c.code pc = .ok (.istore_n k, 1)) (hl : storeLocals Ls k.val (.int x) = some L') (hp : pc + 1 = pc') (K : own_Go p e below F (T.setTop (mkF m pc' L' st))) : own_Go p e below F (T.setTop (mkF m pc Ls (.int x :: st))) := by
  subst hp; exact own_on (fun _ => XS.istoreN h hx rfl hd rfl hl) K
theorem own_istore (h : At T m c below) (hx : p.tables.exec = Jvm.exec) {k : Nat} {x : Int32} (hd : decode c.code pc = .ok (.istore k, 2)) (hl : storeLocals Ls k (.int x) = some L') (hp : pc + 2 = pc') (K : own_Go p e below F (T.setTop (mkF m pc' L' st))) : own_Go p e below F (T.setTop (mkF m pc Ls (.int x :: st))) := by
  subst hp; exact own_on (fun _ => XS.istore h hx rfl hd rfl hl) K
theorem own_astore_n (h : At T m c below) (hx : p.tables.exec = Jvm.exec) {k : Fin 4} {x : Value} (hd : decode c.code pc = .ok (.astore_n k, 1)) (hv : x.isRef = true) (hl : storeLocals Ls k.val x = some L') (hp : pc + 1 = pc') (K : own_Go p e below F (T.setTop (mkF m pc' L' st))) : own_Go p e below F (T.setTop (mkF m pc Ls (x :: st))) := by
  subst hp; exact own_on (fun _ => XS.astoreN h hx rfl hd rfl hv hl) K
theorem own_astore (h : At T m c below) (hx : p.tables.exec = Jvm.exec) {k : Nat} {x : Value} (hd : decode c.code pc = .ok (.astore k, 2)) (hv : x.isRef = true) (hl : storeLocals Ls k x = some L') (hp : pc + 2 = pc') (K : own_Go p e below F (T.setTop (mkF m pc' L' st))) : own_Go p e below F (T.setTop (mkF m pc Ls (x :: st))) := by
  subst hp; exact own_on (fun _ => XS.astore h hx rfl hd rfl hv hl) K
theorem own_lstore_n (h : At T m c below) (hx : p.tables.exec = Jvm.exec) {k : Fin 4} {x : Int64} (hd : decode c.code pc = .ok (.lstore_n k, 1)) (hl : storeLocals Ls k.val (.long x) = some L') (hp : pc + 1 = pc') (K : own_Go p e below F (T.setTop (mkF m pc' L' st))) : own_Go p e below F (T.setTop (mkF m pc Ls (.long x :: st))) := by
  subst hp; exact own_on (fun _ => XT.lstoreN h hx rfl hd rfl hl) K
theorem own_lstore (h : At T m c below) (hx : p.tables.exec = Jvm.exec) {k : Nat} {x : Int64} (hd : decode c.code pc = .ok (.lstore k, 2)) (hl : storeLocals Ls k (.long x) = some L') (hp : pc + 2 = pc') (K : own_Go p e below F (T.setTop (mkF m pc' L' st))) : own_Go p e below F (T.setTop (mkF m pc Ls (.long x :: st))) := by
  subst hp; exact own_on (fun _ => XT.lstore h hx rfl hd rfl hl) K
theorem own_dstore (h : At T m c below) (hx : p.tables.exec = Jvm.exec) {k : Nat} {x : UInt64} (hd : decode c.code pc = .ok (.dstore k, 2)) (hl : storeLocals Ls k (.double x) = some L') (hp : pc + 2 = pc') (K : own_Go p e below F (T.setTop (mkF m pc' L' st))) : own_Go p e below F (T.setTop (mkF m pc Ls (.double x :: st))) := by
  subst hp; exact own_on (fun _ => XS.dstore h hx rfl hd rfl hl) K
theorem own_iinc (h : At T m c below) (hx : p.tables.exec = Jvm.exec) {k : Nat} {i : Int} {x y : Int32} (hd : decode c.code pc = .ok (.iinc k i, 3)) (hl : Ls[k]? = some (.val (.int x))) (hy : x + Int32.ofInt i = y) (hl' : storeLocals Ls k (.int y) = some L') (hp : pc + 3 = pc') (K : own_Go p e below F (T.setTop (mkF m pc' L' st))) : own_Go p e below F (T.setTop (mkF m pc Ls st)) := by
  subst hp hy; exact own_on (fun _ => XS.iinc h hx rfl hd hl hl') K
theorem own_goto (h : At T m c below) (hx : p.tables.exec = Jvm.exec) {o : Int} (hd : decode c.code pc = .ok (.goto o, 3)) (ho : 0 ≤ (pc : Int) + o) (hp : ((pc : Int) + o).toNat = pc') (K : own_Go p e below F (T.setTop (mkF m pc' Ls st))) : own_Go p e below F (T.setTop (mkF m pc Ls st)) :=
  own_on (fun _ => XS.goto h hx rfl rfl hd ho hp) K
theorem own_if (h : At T m c below) (hx : p.tables.exec = Jvm.exec) {cd : ClassFile.Cond} {x : Int32} {o : Int} (hd : decode c.code pc = .ok (.ifCond cd o, 3)) (ho : 0 ≤ (pc : Int) + o) (hp : ((pc : Int) + o).toNat = pc') (hp2 : pc + 3 = pc2)
    (Y : ifCond.holds cd x = true → own_Go p e below F (T.setTop (mkF m pc' Ls st))) (N : ifCond.holds cd x = false → own_Go p e below F (T.setTop (mkF m pc2 Ls st))) : own_Go p e below F (T.setTop (mkF m pc Ls (.int x :: st))) := by
  subst hp2
  cases hc : ifCond.holds cd x with
  | true => exact own_on (fun _ => XS.ifYes h hx rfl rfl hd rfl hc ho hp) (Y hc)
  | false => exact own_on (fun _ => XS.ifNo h hx rfl hd rfl hc) (N hc)
theorem own_icmp (h : At T m c below) (hx : p.tables.exec = Jvm.exec) {cd : ClassFile.Cond} {x y : Int32} {o : Int} (hd : decode c.code pc = .ok (.if_icmp cd o, 3)) (ho : 0 ≤ (pc : Int) + o) (hp : ((pc : Int) + o).toNat = pc') (hp2 : pc + 3 = pc2)
    (Y : if_icmp.holds cd x y = true → own_Go p e below F (T.setTop (mkF m pc' Ls st))) (N : if_icmp.holds cd x y = false → own_Go p e below F (T.setTop (mkF m pc2 Ls st))) : own_Go p e below F (T.setTop (mkF m pc Ls (.int y :: .int x :: st))) := by
  subst hp2
  cases hc : if_icmp.holds cd x y with
  | true => exact own_on (fun _ => XS.icmpYes h hx rfl rfl hd rfl hc ho hp) (Y hc)
  | false => exact own_on (fun _ => XS.icmpNo h hx rfl hd rfl hc) (N hc)
theorem own_ifeq (h : At T m c below) (hx : p.tables.exec = Jvm.exec) {x : Int32} {o : Int} (hd : decode c.code pc = .ok (.ifCond .eq o, 3)) (ho : 0 ≤ (pc : Int) + o) (hp : ((pc : Int) + o).toNat = pc') (hp2 : pc + 3 = pc2)
    (Y : x = 0 → own_Go p e below F (T.setTop (mkF m pc' Ls st))) (N : ¬ x = 0 → own_Go p e below F (T.setTop (mkF m pc2 Ls st))) : own_Go p e below F (T.setTop (mkF m pc Ls (.int x :: st))) :=
  own_if h hx hd ho hp hp2 (fun q => Y (by simpa [ifCond.holds] using q)) (fun q => N (by simpa [ifCond.holds] using q))
theorem own_ifne (h : At T m c below) (hx : p.tables.exec = Jvm.exec) {x : Int32} {o : Int} (hd : decode c.code pc = .ok (.ifCond .ne o, 3)) (ho : 0 ≤ (pc : Int) + o) (hp : ((pc : Int) + o).toNat = pc') (hp2 : pc + 3 = pc2)
    (Y : ¬ x = 0 → own_Go p e below F (T.setTop (mkF m pc' Ls st))) (N : x = 0 → own_Go p e below F (T.setTop (mkF m pc2 Ls st))) : own_Go p e below F (T.setTop (mkF m pc Ls (.int x :: st))) :=
  own_if h hx hd ho hp hp2 (fun q => Y (by simpa [ifCond.holds] using q)) (fun q => N (by simpa [ifCond.holds] using q))
theorem own_iflt (h : At T m c below) (hx : p.tables.exec = Jvm.exec) {x : Int32} {o : Int} (hd : decode c.code pc = .ok (.ifCond .lt o, 3)) (ho : 0 ≤ (pc : Int) + o) (hp : ((pc : Int) + o).toNat = pc') (hp2 : pc + 3 = pc2)
    (Y : x < 0 → own_Go p e below F (T.setTop (mkF m pc' Ls st))) (N : ¬ x < 0 → own_Go p e below F (T.setTop (mkF m pc2 Ls st))) : own_Go p e below F (T.setTop (mkF m pc Ls (.int x :: st))) :=
  own_if h hx hd ho hp hp2 (fun q => Y (of_decide_eq_true q)) (fun q => N (of_decide_eq_false q))
theorem own_ifge (h : At T m c below) (hx : p.tables.exec = Jvm.exec) {x : Int32} {o : Int} (hd : decode c.code pc = .ok (.ifCond .ge o, 3)) (ho : 0 ≤ (pc : Int) + o) (hp : ((pc : Int) + o).toNat = pc') (hp2 : pc + 3 = pc2)
    (Y : ¬ x < 0 → own_Go p e below F (T.setTop (mkF m pc' Ls st))) (N : x < 0 → own_Go p e below F (T.setTop (mkF m pc2 Ls st))) : own_Go p e below F (T.setTop (mkF m pc Ls (.int x :: st))) :=
  own_if h hx hd ho hp hp2 (fun q => Y (Int32.not_lt.mpr (of_decide_eq_true q))) (fun q => N (Int32.not_le.mp (of_decide_eq_false q)))
theorem own_ifgt (h : At T m c below) (hx : p.tables.exec = Jvm.exec) {x : Int32} {o : Int} (hd : decode c.code pc = .ok (.ifCond .gt o, 3)) (ho : 0 ≤ (pc : Int) + o) (hp : ((pc : Int) + o).toNat = pc') (hp2 : pc + 3 = pc2)
    (Y : 0 < x → own_Go p e below F (T.setTop (mkF m pc' Ls st))) (N : ¬ 0 < x → own_Go p e below F (T.setTop (mkF m pc2 Ls st))) : own_Go p e below F (T.setTop (mkF m pc Ls (.int x :: st))) :=
  own_if h hx hd ho hp hp2 (fun q => Y (of_decide_eq_true q)) (fun q => N (of_decide_eq_false q))
theorem own_ifle (h : At T m c below) (hx : p.tables.exec = Jvm.exec) {x : Int32} {o : Int} (hd : decode c.code pc = .ok (.ifCond .le o, 3)) (ho : 0 ≤ (pc : Int) + o) (hp : ((pc : Int) + o).toNat = pc') (hp2 : pc + 3 = pc2)
    (Y : ¬ 0 < x → own_Go p e below F (T.setTop (mkF m pc' Ls st))) (N : 0 < x → own_Go p e below F (T.setTop (mkF m pc2 Ls st))) : own_Go p e below F (T.setTop (mkF m pc Ls (.int x :: st))) :=
  own_if h hx hd ho hp hp2 (fun q => Y (Int32.not_lt.mpr (of_decide_eq_true q))) (fun q => N (Int32.not_le.mp (of_decide_eq_false q)))
theorem own_icmpeq (h : At T m c below) (hx : p.tables.exec = Jvm.exec) {x y : Int32} {o : Int} (hd : decode c.code pc = .ok (.if_icmp .eq o, 3)) (ho : 0 ≤ (pc : Int) + o) (hp : ((pc : Int) + o).toNat = pc') (hp2 : pc + 3 = pc2)
    (Y : x = y → own_Go p e below F (T.setTop (mkF m pc' Ls st))) (N : ¬ x = y → own_Go p e below F (T.setTop (mkF m pc2 Ls st))) : own_Go p e below F (T.setTop (mkF m pc Ls (.int y :: .int x :: st))) :=
  own_icmp h hx hd ho hp hp2 (fun q => Y (by simpa [if_icmp.holds] using q)) (fun q => N (by simpa [if_icmp.holds] using q))
theorem own_icmpne (h : At T m c below) (hx : p.tables.exec = Jvm.exec) {x y : Int32} {o : Int} (hd : decode c.code pc = .ok (.if_icmp .ne o, 3)) (ho : 0 ≤ (pc : Int) + o) (hp : ((pc : Int) + o).toNat = pc') (hp2 : pc + 3 = pc2)
    (Y : ¬ x = y → own_Go p e below F (T.setTop (mkF m pc' Ls st))) (N : x = y → own_Go p e below F (T.setTop (mkF m pc2 Ls st))) : own_Go p e below F (T.setTop (mkF m pc Ls (.int y :: .int x :: st))) :=
  own_icmp h hx hd ho hp hp2 (fun q => Y (by simpa [if_icmp.holds] using q)) (fun q => N (by simpa [if_icmp.holds] using q))
theorem own_icmplt (h : At T m c below) (hx : p.tables.exec = Jvm.exec) {x y : Int32} {o : Int} (hd : decode c.code pc = .ok (.if_icmp .lt o, 3)) (ho : 0 ≤ (pc : Int) + o) (hp : ((pc : Int) + o).toNat = pc') (hp2 : pc + 3 = pc2)
    (Y : x < y → own_Go p e below F (T.setTop (mkF m pc' Ls st))) (N : ¬ x < y → own_Go p e below F (T.setTop (mkF m pc2 Ls st))) : own_Go p e below F (T.setTop (mkF m pc Ls (.int y :: .int x :: st))) :=
  own_icmp h hx hd ho hp hp2 (fun q => Y (of_decide_eq_true q)) (fun q => N (of_decide_eq_false q))
theorem own_icmpge (h : At T m c below) (hx : p.tables.exec = Jvm.exec) {x y : Int32} {o : Int} (hd : decode c.code pc = .ok (.if_icmp .ge o, 3)) (ho : 0 ≤ (pc : Int) + o) (hp : ((pc : Int) + o).toNat = pc') (hp2 : pc + 3 = pc2)
    (Y : ¬ x < y → own_Go p e below F (T.setTop (mkF m pc' Ls st))) (N : x < y → own_Go p e below F (T.setTop (mkF m pc2 Ls st))) : own_Go p e below F (T.setTop (mkF m pc Ls (.int y :: .int x :: st))) :=
  own_icmp h hx hd ho hp hp2 (fun q => Y (Int32.not_lt.mpr (of_decide_eq_true q))) (fun q => N (Int32.not_le.mp (of_decide_eq_false q)))
theorem own_icmpgt (h : At T m c below) (hx : p.tables.exec = Jvm.exec) {x y : Int32} {o : Int} (hd : decode c.code pc = .ok (.if_icmp .gt o, 3)) (ho : 0 ≤ (pc : Int) + o) (hp : ((pc : Int) + o).toNat = pc') (hp2 : pc + 3 = pc2)
    (Y : y < x → own_Go p e below F (T.setTop (mkF m pc' Ls st))) (N : ¬ y < x → own_Go p e below F (T.setTop (mkF m pc2 Ls st))) : own_Go p e below F (T.setTop (mkF m pc Ls (.int y :: .int x :: st))) :=
  own_icmp h hx hd ho hp hp2 (fun q => Y (of_decide_eq_true q)) (fun q => N (of_decide_eq_false q))
theorem own_icmple (h : At T m c below) (hx : p.tables.exec = Jvm.exec) {x y : Int32} {o : Int} (hd : decode c.code pc = .ok (.if_icmp .le o, 3)) (ho : 0 ≤ (pc : Int) + o) (hp : ((pc : Int) + o).toNat = pc') (hp2 : pc + 3 = pc2)
    (Y : ¬ y < x → own_Go p e below F (T.setTop (mkF m pc' Ls st))) (N : y < x → own_Go p e below F (T.setTop (mkF m pc2 Ls st))) : own_Go p e below F (T.setTop (mkF m pc Ls (.int y :: .int x :: st))) :=
  own_icmp h hx hd ho hp hp2 (fun q => Y (Int32.not_lt.mpr (of_decide_eq_true q))) (fun q => N (Int32.not_le.mp (of_decide_eq_false q)))
theorem own_ifnonnull (h : At T m c below) (hx : p.tables.exec = Jvm.exec) {x : Value} (hr : x.isRef = true) {o : Int} (hd : decode c.code pc = .ok (.ifnonnull o, 3)) (ho : 0 ≤ (pc : Int) + o) (hp : ((pc : Int) + o).toNat = pc') (hp2 : pc + 3 = pc2)
    (Y : ¬ x = .null → own_Go p e below F (T.setTop (mkF m pc' Ls st))) (N : x = .null → own_Go p e below F (T.setTop (mkF m pc2 Ls st))) : own_Go p e below F (T.setTop (mkF m pc Ls (x :: st))) := by
  subst hp2
  rcases ref_cases hr with rfl | ⟨a, rfl⟩
  · exact own_on (fun _ => XT.ifnonnullNo h hx rfl hd rfl) (N rfl)
  · exact own_on (fun _ => XT.ifnonnullYes h hx rfl rfl hd rfl ho hp) (Y (fun q => nomatch q))
theorem own_ifnull (h : At T m c below) (hx : p.tables.exec = Jvm.exec) {x : Value} (hr : x.isRef = true) {o : Int} (hd : decode c.code pc = .ok (.ifnull o, 3)) (ho : 0 ≤ (pc : Int) + o) (hp : ((pc : Int) + o).toNat = pc') (hp2 : pc + 3 = pc2)
    (Y : x = .null → own_Go p e below F (T.setTop (mkF m pc' Ls st))) (N : ¬ x = .null → own_Go p e below F (T.setTop (mkF m pc2 Ls st))) : own_Go p e below F (T.setTop (mkF m pc Ls (x :: st))) := by
  subst hp2
  rcases ref_cases hr with rfl | ⟨a, rfl⟩
  · exact own_on (fun _ => XS.ifnullYes h hx rfl rfl hd rfl ho hp) (Y rfl)
  · exact own_on (fun _ => XS.ifnullNo h hx rfl hd rfl) (N (fun q => nomatch q))
theorem own_acmpeq (h : At T m c below) (hx : p.tables.exec = Jvm.exec) {x y : Value} (hr : x.isRef = true) (hr' : y.isRef = true) {o : Int} (hd : decode c.code pc = .ok (.if_acmp .eq o, 3)) (ho : 0 ≤ (pc : Int) + o) (hp : ((pc : Int) + o).toNat = pc') (hp2 : pc + 3 = pc2)
    (Y : x = y → own_Go p e below F (T.setTop (mkF m pc' Ls st))) (N : ¬ x = y → own_Go p e below F (T.setTop (mkF m pc2 Ls st))) : own_Go p e below F (T.setTop (mkF m pc Ls (y :: x :: st))) := by
  subst hp2
  by_cases q : x = y
  · exact own_on (fun _ => XT.acmpYes h hx rfl rfl hd rfl hr hr' (by simp [XT.acmp, q]) ho hp) (Y q)
  · exact own_on (fun _ => XT.acmpNo h hx rfl hd rfl hr hr' (by simp [XT.acmp, q])) (N q)
theorem own_acmpne (h : At T m c below) (hx : p.tables.exec = Jvm.exec) {x y : Value} (hr : x.isRef = true) (hr' : y.isRef = true) {o : Int} (hd : decode c.code pc = .ok (.if_acmp .ne o, 3)) (ho : 0 ≤ (pc : Int) + o) (hp : ((pc : Int) + o).toNat = pc') (hp2 : pc + 3 = pc2)
    (Y : ¬ x = y → own_Go p e below F (T.setTop (mkF m pc' Ls st))) (N : x = y → own_Go p e below F (T.setTop (mkF m pc2 Ls st))) : own_Go p e below F (T.setTop (mkF m pc Ls (y :: x :: st))) := by
  subst hp2
  by_cases q : x = y
  · exact own_on (fun _ => XT.acmpNo h hx rfl hd rfl hr hr' (by simp [XT.acmp, q])) (N q)
  · exact own_on (fun _ => XT.acmpYes h hx rfl rfl hd rfl hr hr' (by simp [XT.acmp, q]) ho hp) (Y q)
end OwnGo
section OwnEnd
variable {p : Program} {l : Launch} {e : Env} {R : Room} {s : State} {m : MethodId} {args : Array Value} {below : List Frame} {meth : Method} {c : Code} {T : State} {locs : List Loc} {cells slots : Nat} {F : State → Outcome → Prop} {pc : Nat} {Ls : Array Slot} {st : List Value}
/-- a narrow contract's walk begins -/
theorem own_enter {Q : Option Value → Heap → List Loc → Prop} {U : State} {cz sz : Nat}
    (K : ∀ F : State → Outcome → Prop, (∀ (t : State) (v : Option Value) (L : List Loc) (k n : Nat), Q v t.heap L → FrameEnd s (.returned v) t L k n → k ≤ cz → n ≤ sz → F t (.returned v)) → own_Go p e below F U) :
    ∃ (s₂ : State) (o : Outcome), Steps p.tables e below U s₂ ∧ s₂.status = .running ∧ Ended s₂ below o ∧ ∃ (v : Option Value) (L : List Loc), o = .returned v ∧ Q v s₂.heap L ∧ FrameEnd s o s₂ L cz sz := by
  obtain ⟨t, o, h1, h2, h3, v, L, k, n, rfl, hq, hf, hk, hn⟩ := K (fun t o => ∃ v L k n, o = .returned v ∧ Q v t.heap L ∧ FrameEnd s (.returned v) t L k n ∧ k ≤ cz ∧ n ≤ sz) (fun t v L k n a b c d => ⟨v, L, k, n, rfl, a, b, c, d⟩)
  exact ⟨t, _, h1, h2, h3, v, L, rfl, hq, hf.1, hf.2.1, hf.2.2.mono hk hn⟩
theorem own_ret (X : Stand p l e R s m args below meth c T locs cells slots) (hx : p.tables.exec = Jvm.exec) (hlk : meth.locks = false) {w : Value} {t : FieldType} {i : Instr} (hret : meth.sig.returnType = some t) (hn : narrow t w = w)
    (hi : (i = .ireturn ∧ (t = .int ∨ t = .boolean ∨ t = .byte ∨ t = .char ∨ t = .short) ∧ ∃ z, w = .int z) ∨ (i = .lreturn ∧ t = .long ∧ ∃ z, w = .long z) ∨ (i = .dreturn ∧ t = .double ∧ ∃ z, w = .double z) ∨ (i = .freturn ∧ t = .float ∧ ∃ z, w = .float z) ∨ (i = .areturn ∧ t.isReference = true ∧ w.isRef = true))
    (hd : decode c.code pc = .ok (i, 1)) (K : ∀ t : State, t.heap = T.heap → FrameEnd s (.returned (some w)) t locs cells slots → F t (.returned (some w))) : own_Go p e below F (T.setTop (mkF m pc Ls (w :: st))) := by
  obtain ⟨fs, hr, hrun, hended, hW, hsame⟩ := X.leave (v := some w) (fun h => by rw [hret] at h; cases h) hlk
  exact ⟨_, _, retOut X hx hret hn hi hd hr, hrun, hended, K _ rfl ⟨⟨_, rfl⟩, hW, hsame⟩⟩
theorem own_retI (X : Stand p l e R s m args below meth c T locs cells slots) (hx : p.tables.exec = Jvm.exec) (hlk : meth.locks = false) {z : Int32} (hret : meth.sig.returnType = some .int) (hd : decode c.code pc = .ok (.ireturn, 1)) (K : ∀ t : State, t.heap = T.heap → FrameEnd s (.returned (some (.int z))) t locs cells slots → F t (.returned (some (.int z)))) : own_Go p e below F (T.setTop (mkF m pc Ls (.int z :: st))) :=
  own_ret X hx hlk hret rfl (Or.inl ⟨rfl, Or.inl rfl, _, rfl⟩) hd K
theorem own_retZ (X : Stand p l e R s m args below meth c T locs cells slots) (hx : p.tables.exec = Jvm.exec) (hlk : meth.locks = false) {z : Int32} (hz : z = 0 ∨ z = 1) (hret : meth.sig.returnType = some .boolean) (hd : decode c.code pc = .ok (.ireturn, 1)) (K : ∀ t : State, t.heap = T.heap → FrameEnd s (.returned (some (.int z))) t locs cells slots → F t (.returned (some (.int z)))) : own_Go p e below F (T.setTop (mkF m pc Ls (.int z :: st))) :=
  own_ret X hx hlk hret (by rcases hz with rfl | rfl <;> rfl) (Or.inl ⟨rfl, Or.inr (Or.inl rfl), _, rfl⟩) hd K
theorem own_retC (X : Stand p l e R s m args below meth c T locs cells slots) (hx : p.tables.exec = Jvm.exec) (hlk : meth.locks = false) {z : Int32} (hz : narrow .char (.int z) = .int z) (hret : meth.sig.returnType = some .char) (hd : decode c.code pc = .ok (.ireturn, 1)) (K : ∀ t : State, t.heap = T.heap → FrameEnd s (.returned (some (.int z))) t locs cells slots → F t (.returned (some (.int z)))) : own_Go p e below F (T.setTop (mkF m pc Ls (.int z :: st))) :=
  own_ret X hx hlk hret hz (Or.inl ⟨rfl, Or.inr (Or.inr (Or.inr (Or.inl rfl))), _, rfl⟩) hd K
theorem own_retA (X : Stand p l e R s m args below meth c T locs cells slots) (hx : p.tables.exec = Jvm.exec) (hlk : meth.locks = false) {w : Value} {t : FieldType} (hret : meth.sig.returnType = some t) (ht : t.isReference = true) (hw : w.isRef = true) (hd : decode c.code pc = .ok (.areturn, 1)) (K : ∀ t : State, t.heap = T.heap → FrameEnd s (.returned (some w)) t locs cells slots → F t (.returned (some w))) : own_Go p e below F (T.setTop (mkF m pc Ls (w :: st))) :=
  own_ret X hx hlk hret (by rcases ref_cases hw with rfl | ⟨a, rfl⟩ <;> cases t <;> first | rfl | (cases ht; done)) (Or.inr (Or.inr (Or.inr (Or.inr ⟨rfl, ht, hw⟩)))) hd K
theorem own_retV (X : Stand p l e R s m args below meth c T locs cells slots) (hx : p.tables.exec = Jvm.exec) (hlk : meth.locks = false) (hret : meth.sig.returnType = none) (hd : decode c.code pc = .ok (.return_, 1)) (K : ∀ t : State, t.heap = T.heap → FrameEnd s (.returned none) t locs cells slots → F t (.returned none)) : own_Go p e below F (T.setTop (mkF m pc Ls [])) := by
  obtain ⟨fs, hr, hrun, hended, hW, hsame⟩ := X.leave (v := none) (fun _ => rfl) hlk
  exact ⟨_, _, X.returnOut hx hret hd hr, hrun, hended, K _ rfl ⟨⟨_, rfl⟩, hW, hsame⟩⟩
end OwnEnd
end Jvm.Pilot.@@N@@
namespace Jvm.Pilot.@@N@@
open Jvm Jvm.ClassFile Sem Op Lib Jvm.Free Jvm.Stand Jvm.LawKit Jvm.RoadKit Bundle Jvm.Pilot.@@N@@.Jvm.D
/-- a narrow contract, from its walk -/
theorem own_walkP {l : Launch} {y : MethodName} {bytes : ByteArray} {maxL : Nat} {ret : Option FieldType} {ws : List Jvm.Cond} {rm : Room} {Z : State} {as' : Array Value} {h : Heap} {Q : Option Value → Heap → List Loc → Prop} (hpl : plainFor y = true)
    (K : ∀ (p : Program) (e : Env) (s : State) (m : MethodId) (below : List Frame) (meth : Method) (c : Code) (T : State), Stand p l e rm s m as' below meth c T [] 0 0 → p.tables.exec = Jvm.exec → c.code = bytes → c.maxLocals = maxL → meth.sig.returnType = ret → meth.locks = false → meth.name = y.name → s.vm.findClass y.cls = some m.cls → Z.Warmed39 s.vm → T.heap = h → s.heap = h →
      ∀ F : State → Outcome → Prop, (∀ (t : State) (v : Option Value) (L : List Loc) (k n : Nat), Q v t.heap L → FrameEnd s (.returned v) t L k n → k ≤ rm.cells → n ≤ rm.slots → F t (.returned v)) → own_Go p e below F (T.setTop (entryFrame m as' maxL))) :
    MetFree l y (head1 (Jvm.Cond.code y bytes maxL ret :: ws) rm) (fun a U => a = as' ∧ Z.Warmed39 U.vm ∧ U.heap = h) (fun _ _ _ _ _ => True) (fun _ U o U' => ∃ v L, o = .returned v ∧ Q v U'.heap L ∧ FrameEnd U o U' L rm.cells rm.slots) := by
  refine MetFree.of_bodySF (hpl) hisR ?_
  intro p e s m args below meth c s₁ Bd hml0 hP hK
  obtain ⟨rfl, hZ, hh⟩ := hP
  exact own_enter (fun F hF => K p e s m below meth c s₁ (Stand.of_body Bd) Bd.exec Bd.bytes hml0 Bd.returns (BodyLoose.notSynchronized Bd) (name_of_methodNamed Bd.named Bd.method).1 (findClass_of_methodNamed Bd.named) hZ (by rw [← hh, Bd.state]; rfl) hh F hF)
theorem own_walkN {l : Launch} {y : MethodName} {bytes : ByteArray} {maxL : Nat} {ret : Option FieldType} {ws : List Jvm.Cond} {rm : Room} {Z : State} {as' : Array Value} {h : Heap} {Q : Option Value → Heap → List Loc → Prop} (hpl : plainName y.cls = true)
    (K : ∀ (p : Program) (e : Env) (s : State) (m : MethodId) (below : List Frame) (meth : Method) (c : Code) (T : State), Stand p l e rm s m as' below meth c T [] 0 0 → p.tables.exec = Jvm.exec → c.code = bytes → c.maxLocals = maxL → meth.sig.returnType = ret → meth.locks = false → meth.name = y.name → s.vm.findClass y.cls = some m.cls → Z.Warmed39 s.vm → T.heap = h → s.heap = h →
      ∀ F : State → Outcome → Prop, (∀ (t : State) (v : Option Value) (L : List Loc) (k n : Nat), Q v t.heap L → FrameEnd s (.returned v) t L k n → k ≤ rm.cells → n ≤ rm.slots → F t (.returned v)) → own_Go p e below F (T.setTop (entryFrame m as' maxL))) :
    MetFree l y (head1 (Jvm.Cond.code y bytes maxL ret :: ws) rm) (fun a U => a = as' ∧ Z.Warmed39 U.vm ∧ U.heap = h) (fun _ _ _ _ _ => True) (fun _ U o U' => ∃ v L, o = .returned v ∧ Q v U'.heap L ∧ FrameEnd U o U' L rm.cells rm.slots) :=
  own_walkP (plainFor_of_name hpl) K
end Jvm.Pilot.@@N@@
namespace Jvm.Pilot.@@N@@
open Jvm Jvm.ClassFile Sem Op Lib Jvm.Free Jvm.Stand Jvm.LawKit Jvm.RoadKit Bundle Jvm.Pilot.@@N@@.Jvm.D
/-- getstatic through a nest-mate's entry -/
theorem own_getSN {p : Program} {l : Launch} {e : Env} {R : Room} {s : State} {m : MethodId} {args : Array Value} {below : List Frame} {meth : Method} {c : Code} {T : State} {locs : List Loc} {cells slots : Nat} {Z : State} {a0 : Array Value} {h : Heap}
    (X : Stand p l e R s m args below meth c T locs cells slots) (hx : p.tables.exec = Jvm.exec) (hZ : Z.Warmed39 s.vm) {own O n d host : String} {index : Nat} (hown : s.vm.findClass own = some m.cls) (w : (Jvm.Cond.fieldLinkNest own index O n d host).before a0 Z = true)
    (eT : T.heap = h) {v : Value} (F : Sta Z h O n d v) {g : JFrame} (hg : g.method = m) (hd : decode c.code g.pc = .ok (.getstatic index, 3)) : ∃ T', Stand p l e R s m args below meth c T' locs cells slots ∧ T'.heap = h ∧ ∀ target, Steps p.tables e below (T'.setTop { g with pc := g.pc + 3, stack := v :: g.stack }) target → Steps p.tables e below (T.setTop g) target := by
  obtain ⟨cf, i, k, f, st, cell, h1, h2, h3, h4, h5, h6, h7⟩ := F
  obtain ⟨k', hi, ek⟩ := State.fieldFound?_setVm (s := Z) hZ.alike h1
  obtain ⟨vm', X', stp⟩ := X.getstaticNest hx hown (mvN hZ w) hi h2 (by rw [ek]; exact h3) (a₁ := st) (by rw [ek]; exact h4) (by rw [eT]; exact h5) (fun q => by rw [q] at h6; cases h6) h7 hg hd
  exact ⟨_, X', eT, stp⟩
end Jvm.Pilot.@@N@@
namespace Jvm.Pilot.@@N@@
open Jvm Jvm.ClassFile Sem Op Lib Jvm.Free Jvm.Stand Jvm.LawKit Jvm.RoadKit Bundle Jvm.Pilot.@@N@@.Jvm.D
theorem own_fldnull {Z : State} {args : Array Value} {t : Term} {C n d : String} {a : Addr} (ev : t.eval args Z none [] Z = some (.ref a)) (h : (Jvm.Cond.eq (.field t C n d) .null).value args Z none Z [] = some true) : Fld Z Z.heap a C n d .null := by
  cases hf : Z.fieldOf? a C n d with
  | none => simp [Cond.value, Term.eval, ev, hf] at h
  | some v =>
    cases v <;> simp [Cond.value, Term.eval, ev, hf] at h
    exact Fld.start hf
end Jvm.Pilot.@@N@@
namespace Jvm.Pilot.@@N@@
theorem own_cat1 {v : Jvm.Value} (h : v.isRef = true) : v.category = 1 := by cases v <;> first | rfl | (cases h; done)
end Jvm.Pilot.@@N@@
namespace Jvm.Pilot.@@N@@
open Jvm Jvm.ClassFile Sem Op Lib Jvm.Free Jvm.Stand Jvm.LawKit Jvm.RoadKit Bundle Jvm.Pilot.@@N@@.Jvm.D
section OwnWide
variable {p : Program} {l : Launch} {e : Env} {R : Room} {s : State} {m : MethodId} {args : Array Value} {below : List Frame} {meth : Method} {c : Code} {T : State} {locs : List Loc} {cells slots : Nat} {F : State → Outcome → Prop} {pc : Nat} {Ls : Array Slot} {st : List Value}
  {Z : State} {a0 : Array Value} {EL : List (String × Nat)} {vm vm0 vm1 : Vm} {h h' h2 : Heap} {own : String} {ws : List Addr} {a : Addr} {sl : Nat} {v : Value}
theorem own_ext_refl (h : Heap) : Ext h h := ⟨Nat.le_refl _, fun _ _ q => q⟩
theorem own_ext_trans (A : Ext h h') (B : Ext h' h2) : Ext h h2 := ⟨Nat.le_trans A.1 B.1, fun x c q => B.2 x c (A.2 x c q)⟩
theorem own_ext_keep (A : Ext h h') (K : Keep h' h2 ws) (q : ∀ x ∈ ws, h.size ≤ x) : Ext h h2 :=
  ⟨Nat.le_trans A.1 K.1, fun x c r => K.2.1 x c (A.2 x c r) fun z => absurd (Array.getElem?_eq_some_iff.mp r).1 (Nat.not_lt.mpr (q x z))⟩
theorem own_ext_wr (A : Ext h h') (W : Wr h' h2 a sl v) (q : h.size ≤ a) : Ext h h2 := own_ext_keep A (Keep.of_wr W) fun x hx => by cases List.mem_singleton.mp hx; exact q
theorem own_keep_ext (E : Ext h h') : Keep h h' ws := ⟨E.1, fun x c q _ => E.2 x c q, fun x c q => ⟨c, E.2 x c q, rfl, rfl, rfl⟩⟩
theorem own_since0 (s : State) : s.Since s.vm 0 := (State.WarmedH.refl s).since 0
/-- what a walk that may intern bears: the tables vm since s, the heap h -/
def own_I (s Z : State) (EL : List (String × Nat)) (vm : Vm) (h : Heap) (own : String) (m : MethodId) : Prop :=
  Z.Warmed39 vm ∧ vm.findClass own = some m.cls ∧ (∃ k0, s.Since vm k0 ∧ k0 ≤ h.size) ∧ CHr Z EL s.vm s.heap vm h
theorem own_I.ext (I : own_I s Z EL vm h own m) (E : Ext h h') : own_I s Z EL vm h' own m := by
  obtain ⟨i1, i2, ⟨k, i3, i4⟩, i5⟩ := I
  exact ⟨i1, i2, ⟨k, i3, Nat.le_trans i4 E.1⟩, i5.trans (CHr.ext E i5.1)⟩
theorem own_I.wr (I : own_I s Z EL vm h own m) (W : Wr h h' a sl v) (S : Safe Z EL vm h a) : own_I s Z EL vm h' own m := by
  obtain ⟨i1, i2, ⟨k, i3, i4⟩, i5⟩ := I
  exact ⟨i1, i2, ⟨k, i3, by rw [W.size]; exact i4⟩, i5.trans (CHr.wr W S i5.1)⟩
theorem own_I.keep (I : own_I s Z EL vm h own m) (K : Keep h h' ws) (S : ∀ x ∈ ws, Safe Z EL vm h x) : own_I s Z EL vm h' own m := by
  obtain ⟨i1, i2, ⟨k, i3, i4⟩, i5⟩ := I
  exact ⟨i1, i2, ⟨k, i3, Nat.le_trans i4 K.1⟩, i5.trans (CHr.keep K S i5.1)⟩
theorem own_I.later (I : own_I s Z EL vm0 h own m) {n : Nat} (S : (s.setVm vm0).Since vm1 n) (hn : n ≤ h'.size) (hg : h.size ≤ n) (C : CHr Z EL vm0 h vm1 h') : own_I s Z EL vm1 h' own m := by
  obtain ⟨i1, i2, ⟨k, i3, i4⟩, i5⟩ := I
  exact ⟨State.Warmed39.trans (t := s.setVm vm0) i1 S.1, (S.1.alike.findClass _ _).trans i2, ⟨n, i3.trans S (Nat.le_trans i4 hg), hn⟩, i5.trans C⟩
theorem own_I.safe (I : own_I s Z EL vm h own m) {x : Addr} (hx : x < s.heap.size) (S : Safe Z EL s.vm s.heap x) : Safe Z EL vm h x := I.2.2.2.safe hx S
theorem own_I.ch (I : own_I s Z EL vm h own m) : CHv Z EL vm h := I.2.2.2.1
/-- a wide contract's use -/
theorem own_backW {y : MethodName} {bytes : ByteArray} {maxL : Nat} {ret : Option FieldType} {rm : Room} {len W : Nat} {as' : Array Value} {sf : List Addr} {Q : Option Value → Heap → List Loc → Prop}
    (hM : MetFree l y (head1 [Jvm.Cond.code y bytes maxL ret] rm) (fun a U => a = as' ∧ Z.Warmed39 U.vm ∧ U.heap = h ∧ CHv Z EL U.vm h ∧ ∀ x ∈ sf, Safe Z EL U.vm h x) (fun _ _ _ _ _ => True) (fun _ U o U' => ∃ v L, o = .returned v ∧ Q v U'.heap L ∧ CHr Z EL U.vm U.heap U'.vm U'.heap ∧ ReturnedEndW U o U' L rm.cells rm.slots))
    (hZ : Z.Warmed39 vm0) (wc : (Jvm.Cond.code y bytes maxL ret).before a0 Z = true) (wz : (Jvm.Cond.initialized y.cls).before a0 Z = true) (hf : rm.frames + 1 ≤ R.frames) (hl : W + (maxL + 11) + rm.locals ≤ R.locals) (hEL : EW Z a0 EL) (H : CHv Z EL vm0 h) (HS : ∀ x ∈ sf, x < h.size ∧ Safe Z EL vm0 h x) :
    BackS l R p e below (s.setVm vm0) args y len W (fun A a => a = as' ∧ A.U.heap = h ∧ A.cells + rm.cells ≤ R.cells ∧ A.slots + rm.slots ≤ R.slots)
      (fun A _ v B => ∃ L, Q v B.U.heap L ∧ B.locs = A.locs ++ L ∧ B.cells = A.cells + rm.cells ∧ B.slots = A.slots + rm.slots ∧ CHr Z EL vm0 h B.U.vm B.U.heap) :=
  BackS.of_freeW (bytes := bytes) (maxL := maxL) (ret := ret) (E := fun _ first o t L k n => k = rm.cells ∧ n = rm.slots ∧ (∃ v, o = .returned v ∧ Q v t.heap L) ∧ CHr Z EL first.vm first.heap t.vm t.heap) hM hf hl
    (fun m meth c A a Y hp => have hU : Z.Warmed39 A.U.vm := wtrans (s := s.setVm vm0) hZ Y.warmed
      ⟨by show (Jvm.Cond.and _ .tt).before a A.U = true; rw [Cond.before_and, mv hU wc]; rfl, mv hU wc, mv hU wz, hp.2.2.1, hp.2.2.2⟩)
    (fun m meth c A a g mk Y hp => ⟨hp.1, wtrans (s := s.setVm vm0) hZ Y.warmed, hp.2.1, (CHv.at Y hZ hEL H).1, fun x hx => (CHv.at Y hZ hEL H).safe (HS x hx).1 (HS x hx).2⟩) (fun _ _ _ _ _ _ _ _ _ => trivial)
    (fun _ _ _ _ ⟨v, L, h1, h2, h3, h4⟩ => ⟨L, _, _, h4, rfl, rfl, ⟨v, h1, h2⟩, h3⟩)
    (fun m meth c A a g mk v t L k n Y hp _ _ ⟨e1, e2, ⟨v', e3, e4⟩, e5⟩ => by
      cases e3; subst e1 e2
      refine ⟨L, e4, rfl, rfl, rfl, (CHv.at Y hZ hEL H).trans ?_⟩
      rw [← hp.2.1]; exact e5)
theorem own_enterW {Q : Option Value → Heap → List Loc → Prop} {U : State} {cz sz : Nat}
    (K : ∀ F : State → Outcome → Prop, (∀ (t : State) (v : Option Value) (L : List Loc) (k n : Nat), Q v t.heap L → CHr Z EL s.vm s.heap t.vm t.heap → ReturnedEndW s (.returned v) t L k n → k ≤ cz → n ≤ sz → F t (.returned v)) → own_Go p e below F U) :
    ∃ (s₂ : State) (o : Outcome), Steps p.tables e below U s₂ ∧ s₂.status = .running ∧ Ended s₂ below o ∧ ∃ (v : Option Value) (L : List Loc), o = .returned v ∧ Q v s₂.heap L ∧ CHr Z EL s.vm s.heap s₂.vm s₂.heap ∧ ReturnedEndW s o s₂ L cz sz := by
  obtain ⟨t, o, h1, h2, h3, v, L, k, n, rfl, hq, hc, hf, hk, hn⟩ := K (fun t o => ∃ v L k n, o = .returned v ∧ Q v t.heap L ∧ CHr Z EL s.vm s.heap t.vm t.heap ∧ ReturnedEndW s (.returned v) t L k n ∧ k ≤ cz ∧ n ≤ sz) (fun t v L k n a b c d f => ⟨v, L, k, n, rfl, a, b, c, d, f⟩)
  exact ⟨t, _, h1, h2, h3, v, L, rfl, hq, hc, hf.1, hf.2.1, hf.2.2.1, hf.2.2.2.mono hk hn⟩
/-- a wide contract, from its walk -/
theorem own_walkW {y : MethodName} {bytes : ByteArray} {maxL : Nat} {ret : Option FieldType} {wl : List Jvm.Cond} {rm : Room} {as' : Array Value} {sf : List Addr} {Q : Option Value → Heap → List Loc → Prop} (hpl : plainName y.cls = true)
    (K : ∀ (p : Program) (e : Env) (s : State) (m : MethodId) (below : List Frame) (meth : Method) (c : Code) (T : State), Stand p l e rm (s.setVm s.vm) m as' below meth c T [] 0 0 → p.tables.exec = Jvm.exec → c.code = bytes → c.maxLocals = maxL → meth.sig.returnType = ret → meth.locks = false → meth.name = y.name → s.heap = h → T.heap = h → own_I s Z EL s.vm h y.cls m → (∀ x ∈ sf, Safe Z EL s.vm h x) →
      ∀ F : State → Outcome → Prop, (∀ (t : State) (v : Option Value) (L : List Loc) (k n : Nat), Q v t.heap L → CHr Z EL s.vm s.heap t.vm t.heap → ReturnedEndW s (.returned v) t L k n → k ≤ rm.cells → n ≤ rm.slots → F t (.returned v)) → own_Go p e below F (T.setTop (entryFrame m as' maxL))) :
    MetFree l y (head1 (Jvm.Cond.code y bytes maxL ret :: wl) rm) (fun a U => a = as' ∧ Z.Warmed39 U.vm ∧ U.heap = h ∧ CHv Z EL U.vm h ∧ ∀ x ∈ sf, Safe Z EL U.vm h x) (fun _ _ _ _ _ => True) (fun _ U o U' => ∃ v L, o = .returned v ∧ Q v U'.heap L ∧ CHr Z EL U.vm U.heap U'.vm U'.heap ∧ ReturnedEndW U o U' L rm.cells rm.slots) := by
  refine MetFree.of_bodySF (plainFor_of_name hpl) hisR ?_
  intro p e s m args below meth c s₁ Bd hml0 hP hK
  obtain ⟨rfl, hZ, hh, hC, hsf⟩ := hP
  have X0 : Stand p l e rm s m args below meth c s₁ [] 0 0 := Stand.of_body Bd
  refine own_enterW (fun F hF => K p e s m below meth c s₁ X0 Bd.exec Bd.bytes hml0 Bd.returns (BodyLoose.notSynchronized Bd) (name_of_methodNamed Bd.named Bd.method).1 hh (by rw [← hh, Bd.state]; rfl) ⟨hZ, findClass_of_methodNamed Bd.named, ⟨0, own_since0 s, Nat.zero_le _⟩, ?_⟩ hsf F hF)
  rw [hh]; exact CHr.refl hC
theorem own_retW (X : Stand p l e R (s.setVm vm) m args below meth c T locs cells slots) (hx : p.tables.exec = Jvm.exec) (hlk : meth.locks = false) (hEL : EW Z a0 EL) (I : own_I s Z EL vm h own m) (eT : T.heap = h) {w : Value} {t : FieldType} {i : Instr} (hret : meth.sig.returnType = some t) (hn : narrow t w = w)
    (hi : (i = .ireturn ∧ (t = .int ∨ t = .boolean ∨ t = .byte ∨ t = .char ∨ t = .short) ∧ ∃ z, w = .int z) ∨ (i = .lreturn ∧ t = .long ∧ ∃ z, w = .long z) ∨ (i = .dreturn ∧ t = .double ∧ ∃ z, w = .double z) ∨ (i = .freturn ∧ t = .float ∧ ∃ z, w = .float z) ∨ (i = .areturn ∧ t.isReference = true ∧ w.isRef = true))
    (hd : decode c.code pc = .ok (i, 1)) (K : ∀ t : State, t.heap = h → CHr Z EL s.vm s.heap t.vm t.heap → ReturnedEndW s (.returned (some w)) t locs cells slots → F t (.returned (some w))) : own_Go p e below F (T.setTop (mkF m pc Ls (w :: st))) := by
  obtain ⟨i1, i2, ⟨k, i3, i4⟩, i5⟩ := I
  obtain ⟨fs, hr, hrun, hended, hE⟩ := X.leaveW i3 (by rw [eT]; exact i4) (v := some w) (fun h => by rw [hret] at h; cases h) hlk
  refine ⟨_, _, retOut X hx hret hn hi hd hr, hrun, hended, K _ eT ?_ hE⟩
  show CHr Z EL s.vm s.heap T.vm T.heap
  rw [eT]; exact i5.trans (CHv.at X i1 hEL i5.1)
theorem own_retVW (X : Stand p l e R (s.setVm vm) m args below meth c T locs cells slots) (hx : p.tables.exec = Jvm.exec) (hlk : meth.locks = false) (hEL : EW Z a0 EL) (I : own_I s Z EL vm h own m) (eT : T.heap = h) (hret : meth.sig.returnType = none)
    (hd : decode c.code pc = .ok (.return_, 1)) (K : ∀ t : State, t.heap = h → CHr Z EL s.vm s.heap t.vm t.heap → ReturnedEndW s (.returned none) t locs cells slots → F t (.returned none)) : own_Go p e below F (T.setTop (mkF m pc Ls [])) := by
  obtain ⟨i1, i2, ⟨k, i3, i4⟩, i5⟩ := I
  obtain ⟨fs, hr, hrun, hended, hE⟩ := X.leaveW i3 (by rw [eT]; exact i4) (v := none) (fun _ => rfl) hlk
  refine ⟨_, _, X.returnOut hx hret hd hr, hrun, hended, K _ eT ?_ hE⟩
  show CHr Z EL s.vm s.heap T.vm T.heap
  rw [eT]; exact i5.trans (CHv.at X i1 hEL i5.1)
theorem own_retAW (X : Stand p l e R (s.setVm vm) m args below meth c T locs cells slots) (hx : p.tables.exec = Jvm.exec) (hlk : meth.locks = false) (hEL : EW Z a0 EL) (I : own_I s Z EL vm h own m) (eT : T.heap = h) {w : Value} {t : FieldType} (hret : meth.sig.returnType = some t) (ht : t.isReference = true) (hw : w.isRef = true)
    (hd : decode c.code pc = .ok (.areturn, 1)) (K : ∀ t : State, t.heap = h → CHr Z EL s.vm s.heap t.vm t.heap → ReturnedEndW s (.returned (some w)) t locs cells slots → F t (.returned (some w))) : own_Go p e below F (T.setTop (mkF m pc Ls (w :: st))) :=
  own_retW X hx hlk hEL I eT hret (by rcases ref_cases hw with rfl | ⟨a, rfl⟩ <;> cases t <;> first | rfl | (cases ht; done)) (Or.inr (Or.inr (Or.inr (Or.inr ⟨rfl, ht, hw⟩)))) hd K
theorem own_retIW (X : Stand p l e R (s.setVm vm) m args below meth c T locs cells slots) (hx : p.tables.exec = Jvm.exec) (hlk : meth.locks = false) (hEL : EW Z a0 EL) (I : own_I s Z EL vm h own m) (eT : T.heap = h) {z : Int32} (hret : meth.sig.returnType = some .int)
    (hd : decode c.code pc = .ok (.ireturn, 1)) (K : ∀ t : State, t.heap = h → CHr Z EL s.vm s.heap t.vm t.heap → ReturnedEndW s (.returned (some (.int z))) t locs cells slots → F t (.returned (some (.int z)))) : own_Go p e below F (T.setTop (mkF m pc Ls (.int z :: st))) :=
  own_retW X hx hlk hEL I eT hret rfl (Or.inl ⟨rfl, Or.inl rfl, _, rfl⟩) hd K
theorem own_retZW (X : Stand p l e R (s.setVm vm) m args below meth c T locs cells slots) (hx : p.tables.exec = Jvm.exec) (hlk : meth.locks = false) (hEL : EW Z a0 EL) (I : own_I s Z EL vm h own m) (eT : T.heap = h) {z : Int32} (hz : z = 0 ∨ z = 1) (hret : meth.sig.returnType = some .boolean)
    (hd : decode c.code pc = .ok (.ireturn, 1)) (K : ∀ t : State, t.heap = h → CHr Z EL s.vm s.heap t.vm t.heap → ReturnedEndW s (.returned (some (.int z))) t locs cells slots → F t (.returned (some (.int z)))) : own_Go p e below F (T.setTop (mkF m pc Ls (.int z :: st))) :=
  own_retW X hx hlk hEL I eT hret (by rcases hz with rfl | rfl <;> rfl) (Or.inl ⟨rfl, Or.inr (Or.inl rfl), _, rfl⟩) hd K
/-- ldc of a String constant, its text unread -/
theorem own_ldcO (X : Stand p l e R (s.setVm vm0) m args below meth c T locs cells slots) (hx : p.tables.exec = Jvm.exec) (I : own_I s Z EL vm0 h own m) {text : String} {index : Nat} (w : (Jvm.Cond.stringLink own index text).before a0 Z = true) (wS : ∀ a ∈ Bundle.stringAtoms, a.before a0 Z = true)
    (eT : T.heap = h) (hEL : EW Z a0 EL) {g : JFrame} (hg : g.method = m) (hd : decode c.code g.pc = .ok (.ldc index, 2)) {n : Nat} (hn : 4 * text.toList.length ≤ n) (hbig : n ≤ 536870912) (hc : cells + 2 ≤ R.cells) (hl : slots + (n + 4) ≤ R.slots) :
    ∃ (a : Addr) (T' : State), Stand p l e R (s.setVm T'.vm) m args below meth c T' locs (cells + 2) (slots + (n + 4)) ∧ Ext h T'.heap ∧ own_I s Z EL T'.vm T'.heap own m ∧ CHr Z EL vm0 h T'.vm T'.heap ∧
      ∀ target, Steps p.tables e below (T'.setTop { g with pc := g.pc + 2, stack := .ref a :: g.stack }) target → Steps p.tables e below (T.setTop g) target := by
  obtain ⟨i1, i2, ⟨k, i3, i4⟩, i5⟩ := I
  obtain ⟨a, T', h', k1, X', rfl, E, hS, hk, hW, hf, hC, -, st⟩ := ldcOH X hx i1 i2 w wS eT i3 i4 hEL i5.1 hg hd hn hbig hc hl
  exact ⟨a, T', X', E, ⟨hW, hf, ⟨k1, hS, hk⟩, i5.trans hC⟩, hC, st⟩
end OwnWide
end Jvm.Pilot.@@N@@
namespace Jvm.Pilot.@@N@@
open Jvm Jvm.ClassFile Sem Op Lib Jvm.Free Jvm.Stand Jvm.LawKit Jvm.RoadKit Bundle Jvm.Pilot.@@N@@.Jvm.D
/-- ldc of a String constant of EL, its text read -/
theorem own_ldcT {p : Program} {l : Launch} {e : Env} {R : Room} {s : State} {m : MethodId} {args : Array Value} {below : List Frame} {meth : Method} {c : Code} {T : State} {locs : List Loc} {cells slots : Nat} {Z : State} {a0 : Array Value} {EL : List (String × Nat)} {vm0 : Vm} {h : Heap} {own : String}
    (X : Stand p l e R (s.setVm vm0) m args below meth c T locs cells slots) (hx : p.tables.exec = Jvm.exec) (I : own_I s Z EL vm0 h own m) {text : String} {index : Nat} (w : (Jvm.Cond.stringLink own index text).before a0 Z = true) (wS : ∀ a ∈ Bundle.stringAtoms, a.before a0 Z = true)
    (eT : T.heap = h) (hEL : EW Z a0 EL) (hmem : (own, index) ∈ EL) {vs : List Value} {z : Int32} (ht : (∀ c ∈ text.toList, c.toNat < 256) ∧ text.toList.map (fun c => Value.int (Jvm.Lit.byteI c.toNat.toUInt16)) = vs) (hz : ¬ z < 0) (hl : z.toNatClampNeg = vs.length)
    {g : JFrame} (hg : g.method = m) (hd : decode c.code g.pc = .ok (.ldc index, 2)) {n : Nat} (hn : 4 * text.toList.length ≤ n) (hbig : n ≤ 536870912) (hc : cells + 2 ≤ R.cells) (hl' : slots + (n + 4) ≤ R.slots) :
    ∃ (a : Addr) (T' : State) (b : Addr) (k : ClassId), Stand p l e R (s.setVm T'.vm) m args below meth c T' locs (cells + 2) (slots + (n + 4)) ∧ Ext h T'.heap ∧ own_I s Z EL T'.vm T'.heap own m ∧ CHr Z EL vm0 h T'.vm T'.heap ∧
      Exa Z T'.heap a "java/lang/String" ∧ Fld Z T'.heap a "java/lang/String" "coder" "B" (.int 0) ∧ Fld Z T'.heap a "java/lang/String" "value" "[B" (.ref b) ∧ Arv Z T'.heap b k .byte z vs (.int 0) ∧ (∀ x, Safe Z EL T'.vm T'.heap x → x ≠ a ∧ x ≠ b) ∧
      ∀ target, Steps p.tables e below (T'.setTop { g with pc := g.pc + 2, stack := .ref a :: g.stack }) target → Steps p.tables e below (T.setTop g) target := by
  obtain ⟨i1, i2, ⟨k, i3, i4⟩, i5⟩ := I
  obtain ⟨a, T', h', k1, b, kb, X', rfl, E, hS, hk, hW, hf, q1, q2, q3, q4, -, -, hC, -, hne, st⟩ := ldcCH X hx i1 i2 w wS eT i3 i4 hEL hmem i5.1 ht hz hl hg hd hn hbig hc hl'
  exact ⟨a, T', b, kb, X', E, ⟨hW, hf, ⟨k1, hS, hk⟩, i5.trans hC⟩, hC, q1, q2, q3, q4, hne, st⟩
theorem own_strW {Z : State} {a0 : Array Value} (hw : ∀ d ∈ tables_1, d.before a0 Z = true) : ∀ a ∈ Bundle.stringAtoms, a.before a0 Z = true := fun d hd => hw d ((by decide +kernel : ∀ d ∈ Bundle.stringAtoms, d ∈ tables_1) d hd)
end Jvm.Pilot.@@N@@
namespace Jvm.Pilot.@@N@@
open Jvm Jvm.ClassFile Sem Op Lib Jvm.Free Jvm.Stand Jvm.LawKit Jvm.RoadKit Bundle Jvm.Pilot.@@N@@.Jvm.D
section OwnArr
variable {p : Program} {l : Launch} {e : Env} {R : Room} {s : State} {m : MethodId} {args : Array Value} {below : List Frame} {meth : Method} {c : Code} {T : State} {locs : List Loc} {cells slots : Nat} {F : State → Outcome → Prop} {pc pc' : Nat} {Ls : Array Slot} {st : List Value}
  {Z : State} {a0 : Array Value} {h h' : Heap} {a : Addr} {k : ClassId} {ty : FieldType} {z j : Int32} {vs : List Value} {dv : Value}
theorem own_alen (X : Stand p l e R s m args below meth c T locs cells slots) (hx : p.tables.exec = Jvm.exec) (hZ : Z.Warmed39 s.vm) (eT : T.heap = h) (V : Arv Z h a k ty z vs dv) (hd : decode c.code pc = .ok (.arraylength, 1)) (hp : pc + 1 = pc') (K : own_Go p e below F (T.setTop (mkF m pc' Ls (.int z :: st)))) : own_Go p e below F (T.setTop (mkF m pc Ls (.ref a :: st))) := by
  subst hp
  obtain ⟨cl, A, -, S, q, -⟩ := V
  refine own_on (fun t => X.arraylength hx (cell := cl) (by rw [eT]; exact A.1) (State.isArrayOf_alike hZ.alike A.2.1) (g := mkF m pc Ls (.ref a :: st)) rfl (rest := st) rfl hd t) ?_
  rw [len_of S q]; exact K
theorem own_caload (X : Stand p l e R s m args below meth c T locs cells slots) (hx : p.tables.exec = Jvm.exec) (hZ : Z.Warmed39 s.vm) (eT : T.heap = h) (V : Arv Z h a k .char z vs dv) {w : Int32} (hin : ¬ j < 0 ∧ j < z) (hw : vs.getD j.toNatClampNeg dv = .int w) (hd : decode c.code pc = .ok (.caload, 1)) (hp : pc + 1 = pc') (K : own_Go p e below F (T.setTop (mkF m pc' Ls (.int w :: st)))) : own_Go p e below F (T.setTop (mkF m pc Ls (.int j :: .ref a :: st))) := by
  subst hp
  obtain ⟨cl, A, -, S, q, H, -⟩ := V
  have hb := inb_of S hin
  have hat : cl.slots[j.toNatClampNeg]? = some (.int w) := by rw [H _ (Nat.lt_of_not_le fun y => hb (Or.inr y)), hw]
  exact own_on (fun t => X.caload hx (j := j) (v := .int w) (by rw [eT]; exact A.1) (State.isArrayOf_alike hZ.alike A.2.1) A.2.2 hb hat (g := mkF m pc Ls (.int j :: .ref a :: st)) rfl rfl hd t) K
theorem own_baload (X : Stand p l e R s m args below meth c T locs cells slots) (hx : p.tables.exec = Jvm.exec) (hZ : Z.Warmed39 s.vm) (eT : T.heap = h) (V : Arv Z h a k .byte z vs dv) {w : Int32} (hin : ¬ j < 0 ∧ j < z) (hw : vs.getD j.toNatClampNeg dv = .int w) (hd : decode c.code pc = .ok (.baload, 1)) (hp : pc + 1 = pc') (K : own_Go p e below F (T.setTop (mkF m pc' Ls (.int w :: st)))) : own_Go p e below F (T.setTop (mkF m pc Ls (.int j :: .ref a :: st))) := by
  subst hp
  obtain ⟨cl, A, -, S, q, H, -⟩ := V
  have hb := inb_of S hin
  have hat : cl.slots[j.toNatClampNeg]? = some (.int w) := by rw [H _ (Nat.lt_of_not_le fun y => hb (Or.inr y)), hw]
  exact own_on (fun t => X.baloadBytes hx (j := j) (v := .int w) (by rw [eT]; exact A.1) (State.isArrayOf_alike hZ.alike A.2.1) A.2.2 hb hat (g := mkF m pc Ls (.int j :: .ref a :: st)) rfl rfl hd t) K
theorem own_cast (X : Stand p l e R s m args below meth c T locs cells slots) (hx : p.tables.exec = Jvm.exec) (hZ : Z.Warmed39 s.vm) (eT : T.heap = h) (V : Arv Z h a k .char z vs dv) {i : Nat} {w : Int32} (hj : j.toNatClampNeg = i) (hi : i < vs.length) (hin : ¬ j < 0 ∧ j < z) (hw : nar .char w = w)
    {g : JFrame} (hg : g.method = m) {rest : List Value} (hs : g.stack = .int w :: .int j :: .ref a :: rest) (hd : decode c.code g.pc = .ok (.castore, 1)) :
    ∃ T' h', Stand p l e R s m args below meth c T' (locs ++ [⟨a, j.toNatClampNeg⟩]) cells slots ∧ T'.heap = h' ∧ Wr h h' a j.toNatClampNeg (.int w) ∧ Arv Z h' a k .char z (vs.set i (.int w)) dv ∧ ∀ target, Steps p.tables e below (T'.setTop { g with pc := g.pc + 1, stack := rest }) target → Steps p.tables e below (T.setTop g) target := by
  obtain ⟨cl, A, q1, S, q3, H, G⟩ := V
  obtain ⟨T', h', X', e', W, st⟩ := stC X hx hZ eT A (inb_of S hin) hg hs hd
  rw [hw] at W
  exact ⟨T', h', X', e', W, Arv.set A q1 S q3 H G (by rw [← hw]; exact fits_nar_char _) W i hj hi, st⟩
theorem own_Fr_snoc {n0 : Nat} {L : List Loc} {sl : Nat} (N : Fr n0 L) (q : n0 ≤ a) : Fr n0 (L ++ [⟨a, sl⟩]) := N.app fun y hy => by cases List.mem_singleton.mp hy; exact q
end OwnArr
theorem own_nar (x : Int32) : nar .char (own_c x) = own_c x := by
  have h : (own_c x).toUInt32.toUInt16 = x.toUInt32.toUInt16 := by
    show (x.toUInt32.toUInt16.toUInt32).toUInt16 = _
    generalize x.toUInt32.toUInt16 = w
    simp
  exact congrArg (fun u : UInt16 => u.toUInt32.toInt32) h
theorem own_and255 (x : Int32) : ¬ own_c (x &&& (255 : Int32)) < 0 ∧ ¬ (255 : Int32) < own_c (x &&& (255 : Int32)) := by
  have t : ∀ k : Fin 256, ¬ own_c (Int32.ofNat k.val) < 0 ∧ ¬ (255 : Int32) < own_c (Int32.ofNat k.val) := by decide +kernel
  have h : (x &&& 255).toBitVec.toNat < 256 := by
    simp only [Int32.toBitVec_and, BitVec.toNat_and]
    exact Nat.lt_succ_of_le Nat.and_le_right
  have e : (x &&& 255) = Int32.ofNat (x &&& 255).toBitVec.toNat := by
    apply Int32.toBitVec_inj.mp
    show _ = BitVec.ofNat 32 _
    rw [BitVec.ofNat_toNat]; simp
  rw [e]
  exact t ⟨_, h⟩
/-- x & 3 is one of four -/
theorem own_and3c (x : Int32) : x &&& 3 = 0 ∨ x &&& 3 = 1 ∨ x &&& 3 = 2 ∨ x &&& 3 = 3 := by
  have h : (x &&& 3).toBitVec.toNat ≤ 3 := by
    simp only [Int32.toBitVec_and, BitVec.toNat_and]
    exact Nat.and_le_right
  have e : (x &&& 3) = Int32.ofNat (x &&& 3).toBitVec.toNat := by
    apply Int32.toBitVec_inj.mp
    show _ = BitVec.ofNat 32 _
    rw [BitVec.ofNat_toNat]; simp
  rw [e]
  generalize (x &&& 3).toBitVec.toNat = n at h
  have : n = 0 ∨ n = 1 ∨ n = 2 ∨ n = 3 := by omega
  rcases this with rfl | rfl | rfl | rfl <;> decide
theorem own_up (cs : List Int32) (h : ∀ c ∈ cs, ¬ c < 0 ∧ ¬ (255 : Int32) < c) : ∀ c ∈ cs, ¬ c < 0 ∧ ¬ (65535 : Int32) < c := fun c hc => ⟨(h c hc).1, fun q => (h c hc).2 (by rw [Int32.lt_iff_toInt_lt] at q ⊢; have e1 : (65535 : Int32).toInt = 65535 := rfl; have e2 : (255 : Int32).toInt = 255 := rfl; omega)⟩
/-- x is a Latin-1 String of the chars cs -/
def own_Str (Z : State) (h : Heap) (x : Addr) (cs : List Int32) : Prop := ∃ (t : Addr) (kb : ClassId), Exa Z h x "java/lang/String" ∧ Fld Z h x "java/lang/String" "value" "[B" (.ref t) ∧ Fld Z h x "java/lang/String" "coder" "B" (.int 0) ∧ Arv Z h t kb .byte (Int32.ofNat cs.length) ((cs.map fun c => c.toInt8.toInt32).map Value.int) (.int 0) ∧ (∀ c ∈ cs, ¬ c < 0 ∧ ¬ (255 : Int32) < c) ∧ cs.length ≤ 4000
theorem own_Str.ext {Z : State} {h h' : Heap} {x : Addr} {cs : List Int32} (S : own_Str Z h x cs) (E : Ext h h') : own_Str Z h' x cs := by
  obtain ⟨t, kb, s1, s2, s3, s4, r⟩ := S; exact ⟨t, kb, s1.ext E, s2.ext E, s3.ext E, s4.ext E, r⟩
theorem own_Str.exa {Z : State} {h : Heap} {x : Addr} {cs : List Int32} (S : own_Str Z h x cs) : Exa Z h x "java/lang/String" := by obtain ⟨_, _, q, -⟩ := S; exact q
theorem own_wiS : Jvm.Cond.instantiable "java/lang/String" 4 ∈ tables_1 := by decide +kernel
end Jvm.Pilot.@@N@@
namespace Jvm.Pilot.@@N@@
open Jvm Jvm.ClassFile Sem Op Lib Jvm.Free Jvm.Stand Jvm.LawKit Jvm.RoadKit Bundle Jvm.Pilot.@@N@@.Jvm.D
theorem own_toInt {k : Nat} (h : k ≤ 100000) : (Int32.ofNat k).toInt = k := Int32.toInt_ofNat_of_lt (by omega)
theorem own_nn {k : Nat} (h : k ≤ 100000) : ¬ Int32.ofNat k < 0 := by
  rw [Int32.lt_iff_toInt_lt, own_toInt h]; have : (0 : Int32).toInt = 0 := rfl; omega
theorem own_tn {k : Nat} (h : k ≤ 100000) : (Int32.ofNat k).toNatClampNeg = k := by
  simp only [Int32.toNatClampNeg, own_toInt h]; omega
theorem own_ltN {j k : Nat} (h : j < k) (hk : k ≤ 100000) : Int32.ofNat j < Int32.ofNat k := by
  rw [Int32.lt_iff_toInt_lt, own_toInt hk, own_toInt (by omega)]; omega
theorem own_nltN {j k : Nat} (h : j ≤ k) (hk : k ≤ 100000) : ¬ Int32.ofNat k < Int32.ofNat j := by
  rw [Int32.lt_iff_toInt_lt, own_toInt hk, own_toInt (by omega)]; omega
theorem own_inj {j k : Nat} (hj : j ≤ 100000) (hk : k ≤ 100000) (h : Int32.ofNat j = Int32.ofNat k) : j = k := by
  have := congrArg Int32.toInt h; rw [own_toInt hj, own_toInt hk] at this; omega
theorem own_pred (k : Nat) : Int32.ofNat (k + 1) - 1 = Int32.ofNat k := by
  rw [Int32.ofNat_add]; exact Int32.add_sub_cancel _ _
theorem own_dec (x : Int32) : x + Int32.ofInt (-1) = x - 1 := by
  rw [Int32.sub_eq_add_neg]; rfl
theorem own_inc (k : Nat) : Int32.ofNat k + (1 : Int32) = Int32.ofNat (k + 1) := by rw [Int32.ofNat_add]; rfl
theorem own_bget (cs : List Int32) {k : Nat} (h : k < cs.length) : ((cs.map fun c => c.toInt8.toInt32).map Value.int).getD k (.int 0) = .int ((cs.getD k 0).toInt8.toInt32) := by
  simp [List.getD_eq_getElem?_getD, h]
theorem own_b {c d : Int32} (h0 : ¬ c < 0) (h1 : ¬ (255 : Int32) < c) (g0 : ¬ d < 0) (g1 : ¬ (255 : Int32) < d) (h : c.toInt8.toInt32 = d.toInt8.toInt32) : c = d := by
  have e : ∀ x : Int32, ¬ x < 0 → ¬ (255 : Int32) < x → ∃ k : Fin 256, x = Int32.ofNat k.val := fun x a b => by
    rw [Int32.lt_iff_toInt_lt] at a b
    have z0 : (0 : Int32).toInt = 0 := rfl
    have z1 : (255 : Int32).toInt = 255 := rfl
    refine ⟨⟨x.toInt.toNat, by omega⟩, ?_⟩
    apply Int32.toInt_inj.mp
    rw [own_toInt (by show x.toInt.toNat ≤ 100000; omega)]; show _ = ((x.toInt.toNat : Nat) : Int); omega
  obtain ⟨i, rfl⟩ := e c h0 h1
  obtain ⟨j, rfl⟩ := e d g0 g1
  have t : ∀ i : Fin 256, (Int32.ofNat i.val).toInt8.toUInt8.toNat = i.val := by decide +kernel
  have h8 : (Int32.ofNat i.val).toInt8 = (Int32.ofNat j.val).toInt8 := by
    have := congrArg Int32.toInt8 h; simpa using this
  have h9 : i.val = j.val := by rw [← t i, ← t j, h8]
  rw [h9]
theorem own_mem {cs : List Int32} {k : Nat} (h : k < cs.length) : cs.getD k 0 ∈ cs := by
  rw [List.getD_eq_getElem?_getD, List.getElem?_eq_getElem h]; exact List.getElem_mem h
theorem own_takeB (cs : List Int32) {e : Nat} (h : e ≤ cs.length) : (List.range e).map (fun i => ((cs.map fun c => c.toInt8.toInt32).map Value.int).getD (0 + i) (.int 0)) = ((cs.take e).map fun c => c.toInt8.toInt32).map Value.int := by
  apply List.ext_getElem
  · simp; omega
  · intro i h1 h2
    have hi : i < e := by simpa using h1
    have hj : i < cs.length := by omega
    simp [List.getD_eq_getElem?_getD, hj]
end Jvm.Pilot.@@N@@
namespace Jvm.Pilot.@@N@@
open Jvm Jvm.ClassFile Sem Op Lib Jvm.Free Jvm.Stand Jvm.LawKit Jvm.RoadKit Bundle Jvm.Pilot.@@N@@.Jvm.D
open StrChars StrChars.Road
theorem own_nch {c : Int32} (h : nar .char c = c) : narrow .char (.int c) = .int c := by show Value.int (nar .char c) = _; rw [h]
theorem own_shl0 (x : Int32) : x <<< ((0 : Int32) &&& 31) = x := by
  apply Int32.toBitVec_inj.mp; simp
theorem own_shr0 (x : Int32) : x >>> ((0 : Int32) &&& 31) = x := by
  apply Int32.toBitVec_inj.mp; simp
theorem own_ofadd (j k : Nat) : Int32.ofNat j + Int32.ofNat k = Int32.ofNat (j + k) := (Int32.ofNat_add j k).symm
theorem own_shl1 {k : Nat} (h : k ≤ 10000) : Int32.ofNat k <<< ((1 : Int32) &&& 31) = Int32.ofNat (2 * k) := by
  apply Int32.toBitVec_inj.mp
  apply BitVec.eq_of_toNat_eq
  show ((BitVec.ofNat 32 k) <<< (1 : BitVec 32)).toNat = (BitVec.ofNat 32 (2 * k)).toNat
  simp only [BitVec.shiftLeft_eq', BitVec.toNat_shiftLeft, BitVec.toNat_ofNat]
  rw [Nat.mod_eq_of_lt (show k < 2 ^ 32 by omega), show (1 : BitVec 32).toNat = 1 from rfl, Nat.shiftLeft_eq]
  omega
theorem own_shr1 {k : Nat} (h : k ≤ 10000) : Int32.ofNat (2 * k) >>> ((1 : Int32) &&& 31) = Int32.ofNat k := by
  have := Int32.toInt_inj (x := Int32.ofNat (2 * k) >>> ((1 : Int32) &&& 31)) (y := Int32.ofNat k)
  apply this.mp
  rw [own_toInt (by omega)]
  have e : ((1 : Int32) &&& 31) = 1 := by decide
  rw [e]
  show ((Int32.ofNat (2 * k)).toBitVec.sshiftRight' (1 : BitVec 32).toNat |>.toInt) = _
  rw [BitVec.toInt_sshiftRight', show ((1 : BitVec 32).toNat) = 1 from rfl]
  show (Int32.ofNat (2 * k)).toInt >>> 1 = _
  rw [own_toInt (by omega), Int.shiftRight_eq_div_pow]; omega
theorem own_c0 (x : Int32) : ¬ own_c x < 0 ∧ ¬ (65535 : Int32) < own_c x := by
  have h : (own_c x).toInt = (x.toUInt32.toUInt16.toNat : Int) := by
    show (x.toUInt32.toUInt16.toUInt32.toInt32).toInt = _
    generalize x.toUInt32.toUInt16 = w
    have hw : w.toNat < 65536 := w.toNat_lt
    have e : w.toUInt32.toInt32 = Int32.ofNat w.toNat := by
      apply Int32.toBitVec_inj.mp
      apply BitVec.eq_of_toNat_eq
      show w.toUInt32.toBitVec.toNat = (BitVec.ofNat 32 w.toNat).toNat
      rw [BitVec.toNat_ofNat, Nat.mod_eq_of_lt (by omega)]; simp
    rw [e]; exact Int32.toInt_ofNat_of_lt (by omega)
  have hw : x.toUInt32.toUInt16.toNat < 65536 := x.toUInt32.toUInt16.toNat_lt
  have z0 : (0 : Int32).toInt = 0 := rfl
  have z1 : (65535 : Int32).toInt = 65535 := rfl
  simp only [Int32.lt_iff_toInt_lt]; omega
section OwnUtf
variable {p : Program} {l : Launch} {e : Env} {R : Room} {s : State} {m : MethodId} {args : Array Value} {below : List Frame} {meth : Method} {c : Code} {T : State} {locs : List Loc} {cells slots : Nat} {Z : State} {h h' : Heap} {a x t : Addr} {k kb : ClassId} {z j : Int32} {vs : List Value} {dv : Value} {F : State → Outcome → Prop} {pc pc' : Nat} {Ls : Array Slot} {st : List Value} {cs : List Int32} {ws : List Addr}
theorem own_bast (X : Stand p l e R s m args below meth c T locs cells slots) (hx : p.tables.exec = Jvm.exec) (hZ : Z.Warmed39 s.vm) (eT : T.heap = h) (V : Arv Z h a k .byte z vs dv) {i : Nat} {w : Int32} (hj : j.toNatClampNeg = i) (hi : i < vs.length) (hin : ¬ j < 0 ∧ j < z)
    {g : JFrame} (hg : g.method = m) {rest : List Value} (hs : g.stack = .int w.toInt8.toInt32 :: .int j :: .ref a :: rest) (hd : decode c.code g.pc = .ok (.bastore, 1)) :
    ∃ T' h', Stand p l e R s m args below meth c T' (locs ++ [⟨a, j.toNatClampNeg⟩]) cells slots ∧ T'.heap = h' ∧ Wr h h' a j.toNatClampNeg (.int w.toInt8.toInt32) ∧ Arv Z h' a k .byte z (vs.set i (.int w.toInt8.toInt32)) dv ∧ ∀ target, Steps p.tables e below (T'.setTop { g with pc := g.pc + 1, stack := rest }) target → Steps p.tables e below (T.setTop g) target := by
  obtain ⟨cl, A, q1, S, q3, H, G⟩ := V
  obtain ⟨T', h', X', e', W, st⟩ := stB X hx hZ eT A (inb_of S hin) hg hs hd
  have en : nar .byte w.toInt8.toInt32 = w.toInt8.toInt32 := by show w.toInt8.toInt32.toInt8.toInt32 = _; simp
  rw [en] at W
  exact ⟨T', h', X', e', W, Arv.set A q1 S q3 H G (fits_lo8 w) W i hj hi, st⟩
/-- x is a String of the chars cs, Latin-1 or UTF-16 -/
def own_S (Z : State) (h : Heap) (x : Addr) (cs : List Int32) : Prop := ∃ (t : Addr) (kb : ClassId) (cd N2 : Int32) (vs : List Value), Exa Z h x "java/lang/String" ∧ Fld Z h x "java/lang/String" "value" "[B" (.ref t) ∧ Fld Z h x "java/lang/String" "coder" "B" (.int cd) ∧ Arv Z h t kb .byte N2 vs (.int 0) ∧ CodA cs cd N2 vs ∧ (∀ c ∈ cs, ¬ c < 0 ∧ ¬ (65535 : Int32) < c) ∧ cs.length ≤ 4000
theorem own_S.ext (S : own_S Z h x cs) (E : Ext h h') : own_S Z h' x cs := by
  obtain ⟨t, kb, cd, N2, vs, s1, s2, s3, s4, r⟩ := S; exact ⟨t, kb, cd, N2, vs, s1.ext E, s2.ext E, s3.ext E, s4.ext E, r⟩
theorem own_S.exa (S : own_S Z h x cs) : Exa Z h x "java/lang/String" := by obtain ⟨_, _, _, _, _, q, -⟩ := S; exact q
theorem own_S.ok (S : own_S Z h x cs) : (∀ c ∈ cs, ¬ c < 0 ∧ ¬ (65535 : Int32) < c) ∧ cs.length ≤ 4000 := by obtain ⟨_, _, _, _, _, -, -, -, -, -, q⟩ := S; exact q
theorem own_Str.S (S : own_Str Z h x cs) : own_S Z h x cs := by
  obtain ⟨t, kb, s1, s2, s3, s4, hp, hl⟩ := S
  exact ⟨t, kb, 0, _, _, s1, s2, s3, s4, codOf rfl (fun c hc => (hp c hc).2), own_up _ hp, hl⟩
theorem own_lenS {a0 : Array Value} {len W : Nat} (hZ : Z.Warmed39 s.vm) (hw : ∀ d ∈ tables_1, d.before a0 Z = true) {z : Int32} (S : own_S Z h x cs)
    (O : Sta Z h "java/lang/String" "COMPACT_STRINGS" "Z" (.int z)) (hz : ¬ z = 0) (hfr : 2 ≤ R.frames) (hlo : W + 25 ≤ R.locals) :
    Back l R p e below s args (⟨"java/lang/String", "length", "()I"⟩ : MethodName) len W (fun P a => a = #[.ref x] ∧ P.U.heap = h ∧ P.cells + 0 ≤ R.cells ∧ P.slots + 0 ≤ R.slots)
      (fun P _ v B => ∃ L, (v = some (.int (Int32.ofNat cs.length)) ∧ L = [] ∧ B.U.heap = h) ∧ B.locs = P.locs ++ L ∧ B.cells = P.cells + 0 ∧ B.slots = P.slots + 0) := by
  obtain ⟨t, kb, cd, N2, vs, E, V, C, K, hc, hp, hl⟩ := S
  exact StrChars.Road.lenW hZ (fun d hd => hw d ((by decide +kernel : ∀ d ∈ StrChars.Road.wordsLen, d ∈ tables_1) d hd)) (kI := 4) (hw _ own_wiS) E V C K hc hp O hz hl hfr hlo
end OwnUtf
/-- the low bytes so far of the n to be made -/
def own_lo (cs : List Int32) (n i : Nat) : List Value := ((cs.take i).map fun c => Value.int c.toInt8.toInt32) ++ List.replicate (n - i) (.int 0)
theorem own_lo_len {cs : List Int32} {n i : Nat} (h : i ≤ n) (hc : n ≤ cs.length) : (own_lo cs n i).length = n := by simp [own_lo]; omega
theorem own_lo_set {cs : List Int32} {n i : Nat} (h : i < n) (hc : n ≤ cs.length) : (own_lo cs n i).set i (.int (cs.getD i 0).toInt8.toInt32) = own_lo cs n (i + 1) := by
  have hi : i < cs.length := by omega
  have e1 : n - i = (n - (i + 1)) + 1 := by omega
  have e3 : (cs.take (i + 1)).map (fun c => Value.int c.toInt8.toInt32) = (cs.take i).map (fun c => Value.int c.toInt8.toInt32) ++ [.int (cs.getD i 0).toInt8.toInt32] := by
    rw [List.take_add_one, List.getElem?_eq_getElem hi, List.map_append]
    simp [List.getD_eq_getElem?_getD, hi]
  have e2 : i - ((cs.take i).map fun c => Value.int c.toInt8.toInt32).length = 0 := by simp; omega
  unfold own_lo
  rw [e1, e3, List.replicate_succ, List.set_append_right _ _ (by simp; omega), e2, List.set_cons_zero, List.append_assoc]
  rfl
theorem own_wb_app (as bs : List Int32) : wideBytes (as ++ bs) = wideBytes as ++ wideBytes bs := by
  induction as with
  | nil => rfl
  | cons a as ih => simp [wideBytes, ih]
theorem own_wb_len (as : List Int32) : (wideBytes as).length = 2 * as.length := by
  induction as with
  | nil => rfl
  | cons a as ih => simp [wideBytes, ih]; omega
/-- the bytes so far of the 2n to be made -/
def own_wi (cs : List Int32) (n i : Nat) : List Value := wideBytes (cs.take i) ++ List.replicate (2 * (n - i)) (.int 0)
theorem own_wi_len {cs : List Int32} {n i : Nat} (h : i ≤ n) (hc : n ≤ cs.length) : (own_wi cs n i).length = 2 * n := by simp [own_wi, own_wb_len]; omega
theorem own_wi_set {cs : List Int32} {n i : Nat} (h : i < n) (hc : n ≤ cs.length) : ((own_wi cs n i).set (2 * i) (.int (cs.getD i 0).toInt8.toInt32)).set (2 * i + 1) (.int (hi8 (cs.getD i 0))) = own_wi cs n (i + 1) := by
  have hi : i < cs.length := by omega
  have e1 : 2 * (n - i) = (2 * (n - (i + 1))) + 1 + 1 := by omega
  have hl : (wideBytes (cs.take i)).length = 2 * i := by rw [own_wb_len]; simp; omega
  have e3 : wideBytes (cs.take (i + 1)) = wideBytes (cs.take i) ++ [.int (cs.getD i 0).toInt8.toInt32, .int (hi8 (cs.getD i 0))] := by
    rw [List.take_add_one, List.getElem?_eq_getElem hi, own_wb_app]
    simp [List.getD_eq_getElem?_getD, hi, wideBytes, lo8]
  unfold own_wi
  rw [e1, e3, List.replicate_succ, List.replicate_succ, List.set_append_right _ _ (by omega), hl, Nat.sub_self, List.set_cons_zero, List.set_append_right _ _ (by omega), hl, show 2 * i + 1 - 2 * i = 1 by omega]
  simp
/-- the first sign above 255 from i on -/
theorem own_cases (cs : List Int32) (n : Nat) (hn : n ≤ cs.length) : (∀ j, j < n → ¬ (255 : Int32) < cs.getD j 0) ∨ ∃ k, k < n ∧ (255 : Int32) < cs.getD k 0 ∧ ∀ j, j < k → ¬ (255 : Int32) < cs.getD j 0 := by
  induction n with
  | zero => exact Or.inl fun j hj => absurd hj (Nat.not_lt_zero _)
  | succ n ih =>
    rcases ih (by omega) with q | ⟨k, k1, k2, k3⟩
    · by_cases g : (255 : Int32) < cs.getD n 0
      · exact Or.inr ⟨n, Nat.lt_succ_self _, g, q⟩
      · refine Or.inl fun j hj => ?_
        rcases Nat.lt_or_ge j n with u | u
        · exact q j u
        · have : j = n := by omega
          subst this; exact g
    · exact Or.inr ⟨k, by omega, k2, k3⟩
theorem own_codL {cs : List Int32} {n : Nat} (hn : n ≤ cs.length) (h : ∀ j, j < n → ¬ (255 : Int32) < cs.getD j 0) : CodA (cs.take n) 0 (Int32.ofNat n) (own_lo cs n n) := by
  refine Or.inl ⟨rfl, by rw [List.length_take, Nat.min_eq_left hn], by simp [own_lo, lo8], fun c hc => ?_⟩
  obtain ⟨j, hj, rfl⟩ := List.getElem_of_mem hc
  have h1 : j < n := by simp at hj; omega
  have h2 : j < cs.length := by omega
  have := h j h1
  simpa [List.getD_eq_getElem?_getD, h2] using this
theorem own_codW {cs : List Int32} {n k : Nat} (hn : n ≤ cs.length) (hk : k < n) (h : (255 : Int32) < cs.getD k 0) : CodA (cs.take n) 1 (Int32.ofNat (2 * n)) (own_wi cs n n) := by
  refine Or.inr ⟨rfl, by rw [List.length_take, Nat.min_eq_left hn], by simp [own_wi], cs.getD k 0, ?_, h⟩
  have h2 : k < cs.length := by omega
  have : (cs.take n)[k]'(by simp; omega) = cs.getD k 0 := by simp [List.getD_eq_getElem?_getD, h2]
  rw [← this]; exact List.getElem_mem _
theorem own_take_get {cs : List Int32} {n j : Nat} (hj : j < n) : (cs.take n).getD j 0 = cs.getD j 0 := by
  simp [List.getD_eq_getElem?_getD, hj]
theorem own_mapget {cs : List Int32} {d : Value} {i : Nat} (hi : i < cs.length) : (cs.map Value.int).getD i d = .int (cs.getD i 0) := by
  simp [List.getD_eq_getElem?_getD, hi]
theorem own_coder1 {n : Nat} (h0 : 0 < n) (h : n ≤ 4000) : (XT.ushr (Int32.ofNat n - Int32.ofNat (2 * n)) 31).toInt8.toInt32 = 1 := by
  have u : XT.ushr (Int32.ofNat n - Int32.ofNat (2 * n)) 31 = 1 := by
    apply Int32.toBitVec_inj.mp
    apply BitVec.eq_of_toNat_eq
    show ((BitVec.ofNat 32 n - BitVec.ofNat 32 (2 * n)) >>> (31 : BitVec 32)).toNat = (1 : BitVec 32).toNat
    simp only [BitVec.ushiftRight_eq', BitVec.toNat_ushiftRight, BitVec.toNat_sub, BitVec.toNat_ofNat, Nat.shiftRight_eq_div_pow]
    rw [Nat.mod_eq_of_lt (show n < 2 ^ 32 by omega), Nat.mod_eq_of_lt (show 2 * n < 2 ^ 32 by omega), show (31 : BitVec 32).toNat = 31 from rfl, show (1 : BitVec 32).toNat = 1 from rfl]
    omega
  rw [u]; decide
theorem own_coder0 (x : Int32) : (XT.ushr (x - x) 31).toInt8.toInt32 = 0 := by rw [Int32.sub_self]; decide
end Jvm.Pilot.@@N@@
namespace Jvm.Pilot.@@N@@
open Jvm Jvm.ClassFile Sem Op Lib Jvm.Free Jvm.Stand Jvm.LawKit Jvm.RoadKit Bundle Jvm.Pilot.@@N@@.Jvm.D
theorem own_bc {c : Int32} (h0 : ¬ c < 0) (h1 : ¬ (255 : Int32) < c) : c.toInt8.toInt32 &&& 255 = c ∧ own_c (c.toInt8.toInt32 &&& 255) = c := by
  rw [Int32.lt_iff_toInt_lt] at h0 h1
  have z0 : (0 : Int32).toInt = 0 := rfl
  have z1 : (255 : Int32).toInt = 255 := rfl
  have e : c = Int32.ofNat c.toInt.toNat := by
    apply Int32.toInt_inj.mp
    rw [own_toInt (by omega)]; omega
  have t : ∀ i : Fin 256, (Int32.ofNat i.val).toInt8.toInt32 &&& 255 = Int32.ofNat i.val ∧ own_c ((Int32.ofNat i.val).toInt8.toInt32 &&& 255) = Int32.ofNat i.val := by decide +kernel
  rw [e]; exact t ⟨c.toInt.toNat, by omega⟩
theorem own_narc {c : Int32} (h0 : ¬ c < 0) (h1 : ¬ (65535 : Int32) < c) : nar .char c = c := by
  rw [Int32.lt_iff_toInt_lt] at h0 h1
  have z0 : (0 : Int32).toInt = 0 := rfl
  have z1 : (65535 : Int32).toInt = 65535 := rfl
  have e : c = Int32.ofNat c.toInt.toNat := by
    apply Int32.toInt_inj.mp
    rw [own_toInt (by omega)]; omega
  have hk : c.toInt.toNat < 65536 := by omega
  rw [e]
  generalize c.toInt.toNat = k at hk
  show (Int32.ofNat k).toUInt32.toUInt16.toUInt32.toInt32 = _
  apply Int32.toBitVec_inj.mp
  apply BitVec.eq_of_toNat_eq
  show ((BitVec.ofNat 32 k).setWidth 16 |>.setWidth 32).toNat = (BitVec.ofNat 32 k).toNat
  simp only [BitVec.toNat_setWidth, BitVec.toNat_ofNat]; omega
end Jvm.Pilot.@@N@@
namespace Jvm.Pilot.@@N@@
open Jvm Jvm.ClassFile Sem Op Lib Jvm.Free Jvm.Stand Jvm.LawKit Jvm.RoadKit Bundle Jvm.Pilot.@@N@@.Jvm.D
/-- the char array so far -/
def own_fl (D : List Int32) (n k : Nat) : List Value := (D.take k).map Value.int ++ List.replicate (n - k) (.int 0)
theorem own_fl_len {D : List Int32} {n k : Nat} (h : k ≤ n) (hc : n ≤ D.length) : (own_fl D n k).length = n := by simp [own_fl]; omega
theorem own_fl_set {D : List Int32} {n k : Nat} (h : k < n) (hc : n ≤ D.length) : (own_fl D n k).set k (.int (D.getD k 0)) = own_fl D n (k + 1) := by
  have hi : k < D.length := by omega
  have e1 : n - k = (n - (k + 1)) + 1 := by omega
  have e3 : (D.take (k + 1)).map Value.int = (D.take k).map Value.int ++ [.int (D.getD k 0)] := by
    rw [List.take_add_one, List.getElem?_eq_getElem hi, List.map_append]
    simp [List.getD_eq_getElem?_getD, hi]
  have e2 : k - ((D.take k).map Value.int).length = 0 := by simp; omega
  unfold own_fl
  rw [e1, e3, List.replicate_succ, List.set_append_right _ _ (by simp; omega), e2, List.set_cons_zero, List.append_assoc]
  rfl
theorem own_flF {D : List Int32} {n : Nat} (h : D.length = n) : own_fl D n n = D.map Value.int := by subst h; simp [own_fl]
/-- what stands while an array at ar is filled with D beside a new String at x -/
def own_Fi (s Z : State) (EL : List (String × Nat)) (vm : Vm) (own : String) (m : MethodId) (h0 : Heap) (x ar : Addr) (ka : ClassId) (D : List Int32) (n k : Nat) (h : Heap) (L : List Loc) : Prop :=
  own_I s Z EL vm h own m ∧ Ext h0 h ∧ h0.size ≤ ar ∧ Z.heap.size ≤ ar ∧ x ≠ ar ∧ Exa Z h x "java/lang/String" ∧ Fld Z h x "java/lang/String" "value" "[B" .null ∧ Fld Z h x "java/lang/String" "coder" "B" (.int 0) ∧ Safe Z EL vm h x ∧ Fr Z.heap.size L ∧ Arv Z h ar ka .char (Int32.ofNat n) (own_fl D n k) (.int 0)
theorem own_fillK {p : Program} {l : Launch} {e : Env} {R : Room} {s : State} {m : MethodId} {args : Array Value} {below : List Frame} {meth : Method} {c : Code} {T : State} {L : List Loc} {cells slots : Nat} {F : State → Outcome → Prop} {pc pc1 pc2 pc3 pc4 : Nat} {Ls : Array Slot} {st : List Value}
    {Z : State} {EL : List (String × Nat)} {vm : Vm} {own : String} {h0 h : Heap} {x ar : Addr} {ka : ClassId} {D : List Int32} {n k : Nat} {j v : Int32}
    (X : Stand p l e R (s.setVm vm) m args below meth c T L cells slots) (hx : p.tables.exec = Jvm.exec) (eT : T.heap = h) (G : own_Fi s Z EL vm own m h0 x ar ka D n k h L)
    (hdup : decode c.code pc = .ok (.dup, 1)) (h1 : pc + 1 = pc1) (hj : j = Int32.ofNat k)
    (i1 : ∀ st, own_Go p e below F (T.setTop (mkF m pc2 Ls (.int j :: st))) → own_Go p e below F (T.setTop (mkF m pc1 Ls st)))
    (i2 : ∀ st, own_Go p e below F (T.setTop (mkF m pc3 Ls (.int v :: st))) → own_Go p e below F (T.setTop (mkF m pc2 Ls st)))
    (hst : decode c.code pc3 = .ok (.castore, 1)) (h4 : pc3 + 1 = pc4) (hk : k < n) (hn : n ≤ D.length) (hn2 : n ≤ 1000) (hv : D.getD k 0 = v) (hnar : nar .char v = v)
    (K : ∀ (T' : State) (h' : Heap) (L' : List Loc), Stand p l e R (s.setVm vm) m args below meth c T' L' cells slots → T'.heap = h' → own_Fi s Z EL vm own m h0 x ar ka D n (k + 1) h' L' → own_Go p e below F (T'.setTop (mkF m pc4 Ls (.ref ar :: st)))) :
    own_Go p e below F (T.setTop (mkF m pc Ls (.ref ar :: st))) := by
  subst hj h4
  obtain ⟨I, M, g1, g2, ne, E, F1, F2, S, N, V⟩ := G
  refine own_dup X.here hx hdup rfl h1 (i1 _ (i2 _ ?_))
  obtain ⟨T', h', X', e', W, V', stp⟩ := own_cast X hx I.1 eT V (i := k) (own_tn (by omega)) (by rw [own_fl_len (by omega) hn]; exact hk) ⟨own_nn (by omega), own_ltN hk (by omega)⟩ hnar (g := mkF m pc3 Ls (.int v :: .int (Int32.ofNat k) :: .ref ar :: .ref ar :: st)) rfl rfl hst
  rw [← hv, own_fl_set hk hn] at V'
  have sa : Safe Z EL vm h ar := Safe.arv I.1.alike V (by decide)
  exact own_on stp (K T' h' _ X' e' ⟨I.wr W sa, own_ext_wr M W g1, g1, g2, ne, E.wr W, F1.other W (Or.inl ne), F2.other W (Or.inl ne), Safe.wr W sa I.ch S, own_Fr_snoc N g2, V'⟩)
end Jvm.Pilot.@@N@@
namespace Jvm.Pilot.@@N@@
open Jvm Jvm.ClassFile Sem Op Lib Jvm.Free Jvm.Stand Jvm.LawKit Jvm.RoadKit Bundle Jvm.Pilot.@@N@@.Jvm.D
abbrev EL : List (String × Nat) := [("java/lang/String", 7)]
theorem own_hwsL {Z : State} {a0 : Array Value} (hw : ∀ d ∈ tables_1, d.before a0 Z = true) : ∀ d ∈ StrChars.Road.words, d.before a0 Z = true := fun d hd => hw d ((by decide +kernel : ∀ d ∈ StrChars.Road.words, d ∈ tables_1) d hd)
theorem dE4_0 : decode jdk_42_method_149_code 0 = .ok (.aload_n 0, 1) := by decide +kernel
theorem dE4_1 : decode jdk_42_method_149_code 1 = .ok (.invokespecial 1, 3) := by decide +kernel
theorem dE4_4 : decode jdk_42_method_149_code 4 = .ok (.iload_n 3, 1) := by decide +kernel
theorem dE4_5 : decode jdk_42_method_149_code 5 = .ok (.ifCond .ne 22, 3) := by decide +kernel
theorem dE4_8 : decode jdk_42_method_149_code 8 = .ok (.aload_n 0, 1) := by decide +kernel
theorem dE4_9 : decode jdk_42_method_149_code 9 = .ok (.ldc 7, 2) := by decide +kernel
theorem dE4_11 : decode jdk_42_method_149_code 11 = .ok (.getfield 9, 3) := by decide +kernel
theorem dE4_14 : decode jdk_42_method_149_code 14 = .ok (.putfield 9, 3) := by decide +kernel
theorem dE4_17 : decode jdk_42_method_149_code 17 = .ok (.aload_n 0, 1) := by decide +kernel
theorem dE4_18 : decode jdk_42_method_149_code 18 = .ok (.ldc 7, 2) := by decide +kernel
theorem dE4_20 : decode jdk_42_method_149_code 20 = .ok (.getfield 15, 3) := by decide +kernel
theorem dE4_23 : decode jdk_42_method_149_code 23 = .ok (.putfield 15, 3) := by decide +kernel
theorem dE4_26 : decode jdk_42_method_149_code 26 = .ok (.return_, 1) := by decide +kernel
theorem dE4_27 : decode jdk_42_method_149_code 27 = .ok (.getstatic 38, 3) := by decide +kernel
theorem dE4_30 : decode jdk_42_method_149_code 30 = .ok (.ifCond .eq 28, 3) := by decide +kernel
theorem dE4_33 : decode jdk_42_method_149_code 33 = .ok (.aload_n 1, 1) := by decide +kernel
theorem dE4_34 : decode jdk_42_method_149_code 34 = .ok (.iload_n 2, 1) := by decide +kernel
theorem dE4_35 : decode jdk_42_method_149_code 35 = .ok (.iload_n 3, 1) := by decide +kernel
theorem dE4_36 : decode jdk_42_method_149_code 36 = .ok (.invokestatic 177, 3) := by decide +kernel
theorem dE4_39 : decode jdk_42_method_149_code 39 = .ok (.astore 5, 2) := by decide +kernel
theorem dE4_41 : decode jdk_42_method_149_code 41 = .ok (.aload_n 0, 1) := by decide +kernel
theorem dE4_42 : decode jdk_42_method_149_code 42 = .ok (.aload 5, 2) := by decide +kernel
theorem dE4_44 : decode jdk_42_method_149_code 44 = .ok (.iload_n 3, 1) := by decide +kernel
theorem dE4_45 : decode jdk_42_method_149_code 45 = .ok (.invokestatic 47, 3) := by decide +kernel
theorem dE4_48 : decode jdk_42_method_149_code 48 = .ok (.putfield 15, 3) := by decide +kernel
theorem dE4_51 : decode jdk_42_method_149_code 51 = .ok (.aload_n 0, 1) := by decide +kernel
theorem dE4_52 : decode jdk_42_method_149_code 52 = .ok (.aload 5, 2) := by decide +kernel
theorem dE4_54 : decode jdk_42_method_149_code 54 = .ok (.putfield 9, 3) := by decide +kernel
theorem dE4_57 : decode jdk_42_method_149_code 57 = .ok (.return_, 1) := by decide +kernel
theorem dE4_58 : decode jdk_42_method_149_code 58 = .ok (.aload_n 0, 1) := by decide +kernel
theorem dE4_59 : decode jdk_42_method_149_code 59 = .ok (.iconst 1, 1) := by decide +kernel
theorem dE4_60 : decode jdk_42_method_149_code 60 = .ok (.putfield 15, 3) := by decide +kernel
theorem dE4_63 : decode jdk_42_method_149_code 63 = .ok (.aload_n 0, 1) := by decide +kernel
theorem dE4_64 : decode jdk_42_method_149_code 64 = .ok (.aload_n 1, 1) := by decide +kernel
theorem dE4_65 : decode jdk_42_method_149_code 65 = .ok (.iload_n 2, 1) := by decide +kernel
theorem dE4_66 : decode jdk_42_method_149_code 66 = .ok (.iload_n 3, 1) := by decide +kernel
theorem dE4_67 : decode jdk_42_method_149_code 67 = .ok (.invokestatic 180, 3) := by decide +kernel
theorem dE4_70 : decode jdk_42_method_149_code 70 = .ok (.putfield 9, 3) := by decide +kernel
theorem dE4_73 : decode jdk_42_method_149_code 73 = .ok (.return_, 1) := by decide +kernel
theorem dE1_0 : decode jdk_42_method_3_code 0 = .ok (.aload_n 0, 1) := by decide +kernel
theorem dE1_1 : decode jdk_42_method_3_code 1 = .ok (.aload_n 1, 1) := by decide +kernel
theorem dE1_2 : decode jdk_42_method_3_code 2 = .ok (.iconst 0, 1) := by decide +kernel
theorem dE1_3 : decode jdk_42_method_3_code 3 = .ok (.aload_n 1, 1) := by decide +kernel
theorem dE1_4 : decode jdk_42_method_3_code 4 = .ok (.arraylength, 1) := by decide +kernel
theorem dE1_5 : decode jdk_42_method_3_code 5 = .ok (.aconst_null, 1) := by decide +kernel
theorem dE1_6 : decode jdk_42_method_3_code 6 = .ok (.invokespecial 27, 3) := by decide +kernel
theorem dE1_9 : decode jdk_42_method_3_code 9 = .ok (.return_, 1) := by decide +kernel
theorem pnS : plainName "java/lang/String" = true := by first | (simp [plainName, overriddenIn]; done) | decide +kernel
theorem pdE4 : parseMethodDescriptor "([CIILjava/lang/Void;)V" = some ⟨[.array .char, .int, .int, .object "java/lang/Void"], none⟩ := by decide +kernel
theorem pdE1 : parseMethodDescriptor "([C)V" = some ⟨[.array .char], none⟩ := by decide +kernel
theorem efE4 (m : MethodId) (x0 : Addr) (x1 : Addr) (x2 : Int32) (x3 : Int32) : entryFrame m #[(.ref x0), (.ref x1), (.int x2), (.int x3), .null] 6 = mkF m 0 #[.val (.ref x0), .val (.ref x1), .val (.int x2), .val (.int x3), .val .null, .unset] [] := by first | (simp [entryFrame, mkF, argsToLocals, Value.category]; done) | rfl
def Q_rmE4 (Z : State) (x b : Addr) (h0 : Heap) (v : Option Value) (h : Heap) (L : List Loc) : Prop := v = none ∧ Fr Z.heap.size L ∧ Keep h0 h [x] ∧ own_Str Z h x []
set_option maxRecDepth 65536 in
set_option maxHeartbeats 40000000 in
theorem rmE4 (l : Launch) (Z : State) (a0 : Array Value) (hw : ∀ d ∈ tables_1, d.before a0 Z = true) (hEL : EW Z a0 EL) (x b : Addr) (h0 : Heap) (ga : Z.heap.size ≤ x) (A0 : Exa Z h0 x "java/lang/String") (Fv : Fld Z h0 x "java/lang/String" "value" "[B" .null) (Fc : Fld Z h0 x "java/lang/String" "coder" "B" (.int (0 : Int32))) :
    MetFree l (⟨"java/lang/String", "<init>", "([CIILjava/lang/Void;)V"⟩ : MethodName) (head1 (Jvm.Cond.code (⟨"java/lang/String", "<init>", "([CIILjava/lang/Void;)V"⟩ : MethodName) jdk_42_method_149_code 6 (Option.none : Option FieldType) :: []) ({ frames := 1, cells := 4, slots := 8, locals := 12 } : Room)) (fun aa U => aa = #[(.ref x), (.ref b), (.int (0 : Int32)), (.int (0 : Int32)), .null] ∧ Z.Warmed39 U.vm ∧ U.heap = h0 ∧ CHv Z EL U.vm h0 ∧ ∀ yy ∈ ([x] : List Addr), Safe Z EL U.vm h0 yy) (fun _ _ _ _ _ => True) (fun _ U o U' => ∃ v L, o = .returned v ∧ (Q_rmE4 Z x b h0) v U'.heap L ∧ CHr Z EL U.vm U.heap U'.vm U'.heap ∧ ReturnedEndW U o U' L ({ frames := 1, cells := 4, slots := 8, locals := 12 } : Room).cells ({ frames := 1, cells := 4, slots := 8, locals := 12 } : Room).slots) := by
  refine own_walkW (by exact pnS) ?_
  intro p e s m below meth c T0 X0 hx hby hml hret hlk hnm hs0 e0 I0 hsf F hF
  refine own_on (fun _ => castTop (efE4 m x b 0 0)) ?_
  have N0 := Fr.nil Z.heap.size
  have Q0 := Keep.refl h0 [x]
  have S0 := hsf x (by simp)
  refine own_aload_n X0.here hx (hb hby dE4_0) rfl rfl (pc' := 1) rfl ?_
  obtain ⟨T1, X1, e1, st1⟩ := initO X0 hx I0.1 I0.2.1 (hw _ (List.mem_of_getElem? (i := 19) rfl)) (hw _ (List.mem_of_getElem? (i := 20) rfl)) (hw _ (List.mem_of_getElem? (i := 21) rfl)) e0 (g := (mkF m 1 #[.val (.ref x), .val (.ref b), .val (.int ((0 : Int32))), .val (.int ((0 : Int32))), .val .null, .unset] [(.ref x)])) rfl (by rw [hml]; rfl) rfl (hb hby dE4_1) (by decide) (W := 0) (by show 2 * 0 + _ ≤ _; exact Nat.le_of_eq rfl) (by decide)
  refine own_on st1 ?_
  show own_Go p e below F (T1.setTop (mkF m 4 #[.val (.ref x), .val (.ref b), .val (.int ((0 : Int32))), .val (.int ((0 : Int32))), .val .null, .unset] []))
  refine own_iload_n X1.here hx (hb hby dE4_4) rfl (pc' := 5) rfl ?_
  refine own_ifne X1.here hx (hb hby dE4_5) (by decide) (pc' := 27) (by decide) (pc2 := 8) rfl (fun q => absurd rfl q) (fun q2 => ?_)
  refine own_aload_n X1.here hx (hb hby dE4_8) rfl rfl (pc' := 9) rfl ?_
  obtain ⟨b3, T3, t3, kb3, X3, E3, I3, C3, A3, Fc3, Fv3, V3, hn3, st3⟩ := own_ldcT X1 hx I0 (hw _ (List.mem_of_getElem? (i := 22) rfl)) (own_strW hw) e1 hEL (by simp [EL]) (vs := []) (z := 0) (by decide) (by decide) (by decide) (g := (mkF m 9 #[.val (.ref x), .val (.ref b), .val (.int ((0 : Int32))), .val (.int ((0 : Int32))), .val .null, .unset] [(.ref x)])) rfl (hb hby dE4_9) (n := 0) (by decide) (by decide) (by decide) (by decide)
  have f4 := Q0.ext E3
  have f5 := A0.ext E3
  have f6 := Fv.ext E3
  have f7 := Fc.ext E3
  have f8 := C3.safe A0.lt S0
  have ne9 := hn3 x f8
  refine own_on st3 ?_
  show own_Go p e below F (T3.setTop (mkF m 11 #[.val (.ref x), .val (.ref b), .val (.int ((0 : Int32))), .val (.int ((0 : Int32))), .val .null, .unset] [(.ref b3), (.ref x)]))
  obtain ⟨T10, X10, e10, st10⟩ := getF X3 hx I3.1 I3.2.1 (host := "") (Or.inl (hw _ (List.mem_of_getElem? (i := 28) rfl))) Via.refl rfl Fv3 (g := (mkF m 11 #[.val (.ref x), .val (.ref b), .val (.int ((0 : Int32))), .val (.int ((0 : Int32))), .val .null, .unset] [(.ref b3), (.ref x)])) rfl rfl (hb hby dE4_11)
  refine own_on st10 ?_
  show own_Go p e below F (T10.setTop (mkF m 14 #[.val (.ref x), .val (.ref b), .val (.int ((0 : Int32))), .val (.int ((0 : Int32))), .val .null, .unset] [(.ref t3), (.ref x)]))
  obtain ⟨T11, h11, X11, e11, W11, st11⟩ := putF X10 hx I3.1 I3.2.1 (host := "") (Or.inl (hw _ (List.mem_of_getElem? (i := 28) rfl))) Via.refl e10 f6 f5 (Or.inr ⟨(hw _ (List.mem_of_getElem? (i := 24) rfl)), rfl, hnm⟩) (hw _ (List.mem_of_getElem? (i := 9) rfl)) (ty := .array .byte) (by decide) rfl rfl (g := (mkF m 14 #[.val (.ref x), .val (.ref b), .val (.int ((0 : Int32))), .val (.int ((0 : Int32))), .val .null, .unset] [(.ref t3), (.ref x)])) rfl rfl (hb hby dE4_14)
  have f12 := f5.wr W11
  have f13 := f6.same W11
  have f14 := f7.other W11 (Or.inr (slot_ne (Or.inr (hw _ (List.mem_of_getElem? (i := 25) rfl))) (Or.inr (hw _ (List.mem_of_getElem? (i := 24) rfl))) (by decide) (t := .byte) (by decide) (t' := .array .byte) (by decide)))
  have f15 := Safe.wr W11 f8 I3.ch f8
  have f16 := A3.wr W11
  have f17 := Fc3.other W11 (Or.inl (Ne.symm ne9.1))
  have f18 := Fv3.other W11 (Or.inl (Ne.symm ne9.1))
  have f19 := V3.other W11 (Ne.symm ne9.2)
  have J20 := I3.wr W11 f8
  have f21 := f4.wr W11 (Or.inl (by simp))
  have N22 := own_Fr_snoc (sl := Jvm.RoadKit.slotOf Z "java/lang/String" "value" "[B") N0 ga
  refine own_on st11 ?_
  show own_Go p e below F (T11.setTop (mkF m 17 #[.val (.ref x), .val (.ref b), .val (.int ((0 : Int32))), .val (.int ((0 : Int32))), .val .null, .unset] []))
  refine own_aload_n X11.here hx (hb hby dE4_17) rfl rfl (pc' := 18) rfl ?_
  obtain ⟨b23, T23, t23, kb23, X23, E23, I23, C23, A23, Fc23, Fv23, V23, hn23, st23⟩ := own_ldcT X11 hx J20 (hw _ (List.mem_of_getElem? (i := 22) rfl)) (own_strW hw) e11 hEL (by simp [EL]) (vs := []) (z := 0) (by decide) (by decide) (by decide) (g := (mkF m 18 #[.val (.ref x), .val (.ref b), .val (.int ((0 : Int32))), .val (.int ((0 : Int32))), .val .null, .unset] [(.ref x)])) rfl (hb hby dE4_18) (n := 0) (by decide) (by decide) (by decide) (by decide)
  have f24 := f12.ext E23
  have f25 := f13.ext E23
  have f26 := f14.ext E23
  have f27 := C23.safe (f12).lt f15
  have f28 := f19.ext E23
  have f29 := f21.ext E23
  have ne30 := hn23 x f27
  refine own_on st23 ?_
  show own_Go p e below F (T23.setTop (mkF m 20 #[.val (.ref x), .val (.ref b), .val (.int ((0 : Int32))), .val (.int ((0 : Int32))), .val .null, .unset] [(.ref b23), (.ref x)]))
  obtain ⟨T31, X31, e31, st31⟩ := getF X23 hx I23.1 I23.2.1 (host := "") (Or.inl (hw _ (List.mem_of_getElem? (i := 29) rfl))) Via.refl rfl Fc23 (g := (mkF m 20 #[.val (.ref x), .val (.ref b), .val (.int ((0 : Int32))), .val (.int ((0 : Int32))), .val .null, .unset] [(.ref b23), (.ref x)])) rfl rfl (hb hby dE4_20)
  refine own_on st31 ?_
  show own_Go p e below F (T31.setTop (mkF m 23 #[.val (.ref x), .val (.ref b), .val (.int ((0 : Int32))), .val (.int ((0 : Int32))), .val .null, .unset] [(.int ((0 : Int32))), (.ref x)]))
  obtain ⟨T32, h32, X32, e32, W32, st32⟩ := putF X31 hx I23.1 I23.2.1 (host := "") (Or.inl (hw _ (List.mem_of_getElem? (i := 29) rfl))) Via.refl e31 f26 f24 (Or.inr ⟨(hw _ (List.mem_of_getElem? (i := 25) rfl)), rfl, hnm⟩) (hw _ (List.mem_of_getElem? (i := 9) rfl)) (ty := .byte) (by decide) rfl rfl (g := (mkF m 23 #[.val (.ref x), .val (.ref b), .val (.int ((0 : Int32))), .val (.int ((0 : Int32))), .val .null, .unset] [(.int ((0 : Int32))), (.ref x)])) rfl rfl (hb hby dE4_23)
  have f33 := f24.wr W32
  have f34 := f25.other W32 (Or.inr (slot_ne (Or.inr (hw _ (List.mem_of_getElem? (i := 24) rfl))) (Or.inr (hw _ (List.mem_of_getElem? (i := 25) rfl))) (by decide) (t := .array .byte) (by decide) (t' := .byte) (by decide)))
  have f35 := f26.same W32
  have f36 := Safe.wr W32 f27 I23.ch f27
  have f37 := f28.other W32 (Ne.symm ne9.2)
  have f38 := A23.wr W32
  have f39 := Fc23.other W32 (Or.inl (Ne.symm ne30.1))
  have f40 := Fv23.other W32 (Or.inl (Ne.symm ne30.1))
  have f41 := V23.other W32 (Ne.symm ne30.2)
  have J42 := I23.wr W32 f27
  have f43 := f29.wr W32 (Or.inl (by simp))
  have N44 := own_Fr_snoc (sl := Jvm.RoadKit.slotOf Z "java/lang/String" "coder" "B") N22 ga
  refine own_on st32 ?_
  show own_Go p e below F (T32.setTop (mkF m 26 #[.val (.ref x), .val (.ref b), .val (.int ((0 : Int32))), .val (.int ((0 : Int32))), .val .null, .unset] []))
  exact own_retVW X32 hx hlk hEL J42 e32 hret (hb hby dE4_26) (fun t ht hC hE => hF t _ _ _ _ (by rw [ht]; exact ⟨rfl, N44, f43, t3, kb3, f33, f34, f35, f37, (fun _ q => nomatch q), (by decide)⟩) hC hE (by decide) (by decide))
theorem efE1 (m : MethodId) (x0 : Addr) (x1 : Addr) : entryFrame m #[(.ref x0), (.ref x1)] 2 = mkF m 0 #[.val (.ref x0), .val (.ref x1)] [] := by first | (simp [entryFrame, mkF, argsToLocals, Value.category]; done) | rfl
def Q_rmE1 (Z : State) (x b : Addr) (kc : ClassId) (dv : Value) (h0 : Heap) (v : Option Value) (h : Heap) (L : List Loc) : Prop := v = none ∧ Fr Z.heap.size L ∧ Keep h0 h [x] ∧ own_Str Z h x []
set_option maxRecDepth 65536 in
set_option maxHeartbeats 40000000 in
theorem rmE1 (l : Launch) (Z : State) (a0 : Array Value) (hw : ∀ d ∈ tables_1, d.before a0 Z = true) (hEL : EW Z a0 EL) (x b : Addr) (kc : ClassId) (dv : Value) (h0 : Heap) (ga : Z.heap.size ≤ x) (A0 : Exa Z h0 x "java/lang/String") (Fv : Fld Z h0 x "java/lang/String" "value" "[B" .null) (Fc : Fld Z h0 x "java/lang/String" "coder" "B" (.int (0 : Int32))) (V0 : Arv Z h0 b kc .char (0 : Int32) [] dv) :
    MetFree l (⟨"java/lang/String", "<init>", "([C)V"⟩ : MethodName) (head1 (Jvm.Cond.code (⟨"java/lang/String", "<init>", "([C)V"⟩ : MethodName) jdk_42_method_3_code 2 (Option.none : Option FieldType) :: []) ({ frames := 2, cells := 4, slots := 8, locals := 29 } : Room)) (fun aa U => aa = #[(.ref x), (.ref b)] ∧ Z.Warmed39 U.vm ∧ U.heap = h0 ∧ CHv Z EL U.vm h0 ∧ ∀ yy ∈ ([x] : List Addr), Safe Z EL U.vm h0 yy) (fun _ _ _ _ _ => True) (fun _ U o U' => ∃ v L, o = .returned v ∧ (Q_rmE1 Z x b kc dv h0) v U'.heap L ∧ CHr Z EL U.vm U.heap U'.vm U'.heap ∧ ReturnedEndW U o U' L ({ frames := 2, cells := 4, slots := 8, locals := 29 } : Room).cells ({ frames := 2, cells := 4, slots := 8, locals := 29 } : Room).slots) := by
  refine own_walkW (by exact pnS) ?_
  intro p e s m below meth c T0 X0 hx hby hml hret hlk hnm hs0 e0 I0 hsf F hF
  refine own_on (fun _ => castTop (efE1 m x b)) ?_
  have N0 := Fr.nil Z.heap.size
  have Q0 := Keep.refl h0 [x]
  refine own_aload_n X0.here hx (hb hby dE1_0) rfl rfl (pc' := 1) rfl ?_
  refine own_aload_n X0.here hx (hb hby dE1_1) rfl rfl (pc' := 2) rfl ?_
  refine own_iconst X0.here hx (hb hby dE1_2) (v := 0) rfl (pc' := 3) rfl ?_
  refine own_aload_n X0.here hx (hb hby dE1_3) rfl rfl (pc' := 4) rfl ?_
  refine own_alen X0 hx I0.1 e0 V0 (hb hby dE1_4) (pc' := 5) rfl ?_
  refine own_aconst_null X0.here hx (hb hby dE1_5) (pc' := 6) rfl ?_
  obtain ⟨_, _, ⟨T1, L1, k1, n1⟩, -, X1, hS1, hG1, ⟨Lc1, hQ1, l1, y1, z1, C1⟩, st1⟩ := X0.specialBackS hx (y := (⟨"java/lang/String", "<init>", "([CIILjava/lang/Void;)V"⟩ : MethodName)) rfl I0.2.1 (mvT I0.1 (hw _ (List.mem_of_getElem? (i := 15) rfl))) (mvT I0.1 (hw _ (List.mem_of_getElem? (i := 16) rfl))) (mvT I0.1 (hw _ (List.mem_of_getElem? (i := 18) rfl))) (by decide) (own_backW (W := 0) (rmE4 l Z a0 hw hEL x b h0 ga A0 Fv Fc) I0.1 (hw _ (List.mem_of_getElem? (i := 18) rfl)) (hw _ (List.mem_of_getElem? (i := 10) rfl)) (by decide) (by decide) hEL I0.ch (fun y hy => by simp only [List.mem_cons, List.not_mem_nil, or_false] at hy; subst hy; exact ⟨A0.lt, hsf _ (by simp)⟩)) (g := (mkF m 6 #[.val (.ref x), .val (.ref b)] [.null, (.int ((0 : Int32))), (.int ((0 : Int32))), (.ref b), (.ref x)])) rfl (by rw [hml]; rfl) (Steps.refl _) (a := x) (argsL := [(.ref b), (.int ((0 : Int32))), (.int ((0 : Int32))), .null]) (rest := []) (lenOf pdE4 rfl) rfl (by show 2 * 0 + _ ≤ _; exact Nat.le_of_eq rfl) (hb hby dE1_6) (fun _ _ => ⟨rfl, e0, (Nat.le_of_ble_eq_true rfl), (Nat.le_of_ble_eq_true rfl)⟩)
  dsimp only [Pt.U, Pt.locs, Pt.cells, Pt.slots] at X1 hS1 hG1 l1 y1 z1 C1 st1 hQ1
  subst l1 y1 z1
  replace X1 := (show Stand _ _ _ _ (s.setVm T1.vm) _ _ _ _ _ _ _ _ _ from X1)
  have I1 := I0.later hS1 (Nat.le_refl _) (by have q := hG1; rw [(e0 : _ = h0)] at q; exact q) C1
  obtain ⟨rfl, N1, K1, S1⟩ := hQ1
  refine own_to st1 ?_
  show own_Go p e below F (T1.setTop (mkF m 9 #[.val (.ref x), .val (.ref b)] []))
  have f2 := Q0.trans K1 (fun y hy => by simp only [List.mem_cons, List.not_mem_nil, or_false] at hy; rcases hy with rfl <;> first | exact Or.inl (by simp) | exact Or.inr (by assumption))
  have N3 := Fr.app N0 N1
  exact own_retVW X1 hx hlk hEL I1 rfl hret (hb hby dE1_9) (fun t ht hC hE => hF t _ _ _ _ (by rw [ht]; exact ⟨rfl, N3, f2, S1⟩) hC hE (by decide) (by decide))
theorem pnL : plainName "com/example/cladistic/cladistic/NamesIsPlainIdentifierPinLaw" = true := by first | (simp [plainName, overriddenIn]; done) | decide +kernel
theorem pnNM : plainName "com/example/cladistic/cladistic/Names" = true := by first | (simp [plainName, overriddenIn]; done) | decide +kernel
theorem efR (m : MethodId) (x0 : Addr) : entryFrame m #[(.ref x0)] 1 = mkF m 0 #[.val (.ref x0)] [] := by first | (simp [entryFrame, mkF, argsToLocals, Value.category]; done) | rfl
theorem pdx2 : parseMethodDescriptor "(I)I" = some ⟨[.int], some .int⟩ := by decide +kernel
theorem pdx3 : parseMethodDescriptor "(I)[B" = some ⟨[.int], some (.array .byte)⟩ := by decide +kernel
theorem pdx4 : parseMethodDescriptor "([BII)V" = some ⟨[.array .byte, .int, .int], none⟩ := by decide +kernel
theorem pdx5 : parseMethodDescriptor "([CII)[B" = some ⟨[.array .char, .int, .int], some (.array .byte)⟩ := by decide +kernel
theorem pdx6 : parseMethodDescriptor "([BI)C" = some ⟨[.array .byte, .int], some .char⟩ := by decide +kernel
theorem pdx7 : parseMethodDescriptor "([CI[BII)I" = some ⟨[.array .char, .int, .array .byte, .int, .int], some .int⟩ := by decide +kernel
theorem pdx8 : parseMethodDescriptor "([BI)B" = some ⟨[.array .byte, .int], some .byte⟩ := by decide +kernel
theorem pnU : plainName "java/lang/StringUTF16" = true := by first | (simp [plainName, overriddenIn]; done) | decide +kernel
theorem dNL_0 : decode jdk_52_method_3_code 0 = .ok (.iload_n 0, 1) := by decide +kernel
theorem dNL_1 : decode jdk_52_method_3_code 1 = .ok (.ifCond .ge 11, 3) := by decide +kernel
theorem dNL_4 : decode jdk_52_method_3_code 4 = .ok (.new 17, 3) := by decide +kernel
theorem dNL_7 : decode jdk_52_method_3_code 7 = .ok (.dup, 1) := by decide +kernel
theorem dNL_8 : decode jdk_52_method_3_code 8 = .ok (.invokespecial 19, 3) := by decide +kernel
theorem dNL_11 : decode jdk_52_method_3_code 11 = .ok (.athrow, 1) := by decide +kernel
theorem dNL_12 : decode jdk_52_method_3_code 12 = .ok (.iload_n 0, 1) := by decide +kernel
theorem dNL_13 : decode jdk_52_method_3_code 13 = .ok (.ldc 20, 2) := by decide +kernel
theorem dNL_15 : decode jdk_52_method_3_code 15 = .ok (.if_icmp .lt 40, 3) := by decide +kernel
theorem dNL_18 : decode jdk_52_method_3_code 18 = .ok (.new 21, 3) := by decide +kernel
theorem dNL_21 : decode jdk_52_method_3_code 21 = .ok (.dup, 1) := by decide +kernel
theorem dNL_22 : decode jdk_52_method_3_code 22 = .ok (.new 23, 3) := by decide +kernel
theorem dNL_25 : decode jdk_52_method_3_code 25 = .ok (.dup, 1) := by decide +kernel
theorem dNL_26 : decode jdk_52_method_3_code 26 = .ok (.invokespecial 25, 3) := by decide +kernel
theorem dNL_29 : decode jdk_52_method_3_code 29 = .ok (.ldc 26, 2) := by decide +kernel
theorem dNL_31 : decode jdk_52_method_3_code 31 = .ok (.invokevirtual 28, 3) := by decide +kernel
theorem dNL_34 : decode jdk_52_method_3_code 34 = .ok (.iload_n 0, 1) := by decide +kernel
theorem dNL_35 : decode jdk_52_method_3_code 35 = .ok (.invokevirtual 32, 3) := by decide +kernel
theorem dNL_38 : decode jdk_52_method_3_code 38 = .ok (.ldc 35, 2) := by decide +kernel
theorem dNL_40 : decode jdk_52_method_3_code 40 = .ok (.invokevirtual 28, 3) := by decide +kernel
theorem dNL_43 : decode jdk_52_method_3_code 43 = .ok (.ldc 20, 2) := by decide +kernel
theorem dNL_45 : decode jdk_52_method_3_code 45 = .ok (.invokevirtual 32, 3) := by decide +kernel
theorem dNL_48 : decode jdk_52_method_3_code 48 = .ok (.invokevirtual 37, 3) := by decide +kernel
theorem dNL_51 : decode jdk_52_method_3_code 51 = .ok (.invokespecial 41, 3) := by decide +kernel
theorem dNL_54 : decode jdk_52_method_3_code 54 = .ok (.athrow, 1) := by decide +kernel
theorem dNL_55 : decode jdk_52_method_3_code 55 = .ok (.iload_n 0, 1) := by decide +kernel
theorem dNL_56 : decode jdk_52_method_3_code 56 = .ok (.iconst 1, 1) := by decide +kernel
theorem dNL_57 : decode jdk_52_method_3_code 57 = .ok (.ishl, 1) := by decide +kernel
theorem dNL_58 : decode jdk_52_method_3_code 58 = .ok (.ireturn, 1) := by decide +kernel
theorem efI1 (m : MethodId) (x0 : Int32) : entryFrame m #[(.int x0)] 1 = mkF m 0 #[.val (.int x0)] [] := by first | (simp [entryFrame, mkF, argsToLocals, Value.category]; done) | rfl
def Q_rmNL (Z : State) (n : Nat) (h0 : Heap) (v : Option Value) (h : Heap) (L : List Loc) : Prop := v = some (.int (Int32.ofNat (2 * n))) ∧ Fr Z.heap.size L ∧ h = h0
set_option maxRecDepth 65536 in
set_option maxHeartbeats 40000000 in
theorem rmNL (l : Launch) (Z : State) (a0 : Array Value) (hw : ∀ d ∈ tables_1, d.before a0 Z = true) (n : Nat) (h0 : Heap) (hn : n ≤ 4000) :
    MetFree l (⟨"java/lang/StringUTF16", "newBytesLength", "(I)I"⟩ : MethodName) (head1 (Jvm.Cond.code (⟨"java/lang/StringUTF16", "newBytesLength", "(I)I"⟩ : MethodName) jdk_52_method_3_code 1 (Option.some FieldType.int) :: []) ({ frames := 0, cells := 0, slots := 0, locals := 0 } : Room)) (fun aa U => aa = #[(.int (Int32.ofNat n))] ∧ Z.Warmed39 U.vm ∧ U.heap = h0) (fun _ _ _ _ _ => True) (fun _ U o U' => ∃ v L, o = .returned v ∧ (Q_rmNL Z n h0) v U'.heap L ∧ FrameEnd U o U' L ({ frames := 0, cells := 0, slots := 0, locals := 0 } : Room).cells ({ frames := 0, cells := 0, slots := 0, locals := 0 } : Room).slots) := by
  refine own_walkN (by exact pnU) ?_
  intro p e s m below meth c T0 X0 hx hby hml hret hlk hnm hown hZ e0 es0 F hF
  refine own_on (fun _ => castTop (efI1 m _)) ?_
  have N0 := Fr.nil Z.heap.size
  refine own_iload_n X0.here hx (hb hby dNL_0) rfl (pc' := 1) rfl ?_
  refine own_ifge X0.here hx (hb hby dNL_1) (by decide) (pc' := 12) (by decide) (pc2 := 4) rfl (fun q1 => ?_) (fun q => absurd q (own_nn (by omega)))
  refine own_iload_n X0.here hx (hb hby dNL_12) rfl (pc' := 13) rfl ?_
  refine own_on (fun _ => X0.ldcI hx hown (mv hZ (hw _ (List.mem_of_getElem? (i := 100) rfl))) (g := (mkF m 13 #[.val (.int (Int32.ofNat n))] [(.int (Int32.ofNat n))])) rfl (hb hby dNL_13)) ?_
  show own_Go p e below F (T0.setTop (mkF m 15 #[.val (.int (Int32.ofNat n))] [(.int ((1073741823 : Int32))), (.int (Int32.ofNat n))]))
  refine own_icmplt X0.here hx (hb hby dNL_15) (by decide) (pc' := 55) (by decide) (pc2 := 18) rfl (fun q2 => ?_) (fun q => absurd (show Int32.ofNat n < 1073741823 by rw [Int32.lt_iff_toInt_lt, own_toInt (by omega)]; show (n : Int) < 1073741823; omega) q)
  refine own_iload_n X0.here hx (hb hby dNL_55) rfl (pc' := 56) rfl ?_
  refine own_iconst X0.here hx (hb hby dNL_56) (v := 1) rfl (pc' := 57) rfl ?_
  refine own_ishl X0.here hx (hb hby dNL_57) (pc' := 58) rfl ?_
  rw [own_shl1 (by omega)]
  show own_Go p e below F (T0.setTop (mkF m 58 #[.val (.int (Int32.ofNat n))] [(.int (Int32.ofNat (2 * n)))]))
  exact own_retI X0 hx hlk hret (hb hby dNL_58) (fun t ht hE => hF t _ _ _ _ (by rw [ht, (e0 : _ = h0)]; exact ⟨rfl, Fr.nil _, rfl⟩) hE (by decide) (by decide))
theorem dNF_0 : decode jdk_52_method_2_code 0 = .ok (.iload_n 0, 1) := by decide +kernel
theorem dNF_1 : decode jdk_52_method_2_code 1 = .ok (.invokestatic 11, 3) := by decide +kernel
theorem dNF_4 : decode jdk_52_method_2_code 4 = .ok (.newarray .byte, 2) := by decide +kernel
theorem dNF_6 : decode jdk_52_method_2_code 6 = .ok (.areturn, 1) := by decide +kernel
def Q_rmNF (Z : State) (n : Nat) (h0 : Heap) (v : Option Value) (h : Heap) (L : List Loc) : Prop := ∃ t kt, v = some (.ref t) ∧ Ext h0 h ∧ Fr Z.heap.size L ∧ h0.size ≤ t ∧ Arv Z h t kt .byte (Int32.ofNat (2 * n)) (List.replicate (2 * n) (.int 0)) (.int 0)
set_option maxRecDepth 65536 in
set_option maxHeartbeats 40000000 in
theorem rmNF (l : Launch) (Z : State) (a0 : Array Value) (hw : ∀ d ∈ tables_1, d.before a0 Z = true) (n : Nat) (h0 : Heap) (hn : n ≤ 64) :
    MetFree l (⟨"java/lang/StringUTF16", "newBytesFor", "(I)[B"⟩ : MethodName) (head1 (Jvm.Cond.code (⟨"java/lang/StringUTF16", "newBytesFor", "(I)[B"⟩ : MethodName) jdk_52_method_2_code 1 (Option.some (FieldType.array FieldType.byte)) :: []) ({ frames := 1, cells := 1, slots := 128, locals := 12 } : Room)) (fun aa U => aa = #[(.int (Int32.ofNat n))] ∧ Z.Warmed39 U.vm ∧ U.heap = h0) (fun _ _ _ _ _ => True) (fun _ U o U' => ∃ v L, o = .returned v ∧ (Q_rmNF Z n h0) v U'.heap L ∧ FrameEnd U o U' L ({ frames := 1, cells := 1, slots := 128, locals := 12 } : Room).cells ({ frames := 1, cells := 1, slots := 128, locals := 12 } : Room).slots) := by
  refine own_walkN (by exact pnU) ?_
  intro p e s m below meth c T0 X0 hx hby hml hret hlk hnm hown hZ e0 es0 F hF
  refine own_on (fun _ => castTop (efI1 m _)) ?_
  have M0 := own_ext_refl h0
  have N0 := Fr.nil Z.heap.size
  refine own_iload_n X0.here hx (hb hby dNF_0) rfl (pc' := 1) rfl ?_
  obtain ⟨_, _, ⟨T1, L1, k1, n1⟩, -, X1, ⟨Lc1, hQ1, l1, y1, z1⟩, st1⟩ := Jvm.LawKit.callS X0 hx (y := (⟨"java/lang/StringUTF16", "newBytesLength", "(I)I"⟩ : MethodName)) hown (mvT hZ (hw _ (List.mem_of_getElem? (i := 97) rfl))) (mvT hZ (hw _ (List.mem_of_getElem? (i := 98) rfl))) (mvT hZ (hw _ (List.mem_of_getElem? (i := 42) rfl))) (mvT hZ (hw _ (List.mem_of_getElem? (i := 99) rfl))) (by decide) (backOf (W := 0) (rmNL l Z a0 hw n h0 (by omega)) hZ (hw _ (List.mem_of_getElem? (i := 99) rfl)) (hw _ (List.mem_of_getElem? (i := 42) rfl)) (by decide) (by decide)) (g := (mkF m 1 #[.val (.int (Int32.ofNat n))] [(.int (Int32.ofNat n))])) rfl (by rw [hml]; rfl) (argsL := [(.int (Int32.ofNat n))]) (rest := []) (lenOf pdx2 rfl) rfl (by show 2 * 0 + _ ≤ _; exact Nat.le_of_eq rfl) (hb hby dNF_1) (fun _ _ => ⟨rfl, e0, (Nat.le_of_ble_eq_true rfl), (Nat.le_of_ble_eq_true rfl)⟩)
  dsimp only [Pt.U, Pt.locs, Pt.cells, Pt.slots] at X1 l1 y1 z1 st1 hQ1
  subst l1 y1 z1
  obtain ⟨rfl, N1, E1⟩ := hQ1
  refine own_on (st1) ?_
  show own_Go p e below F (T1.setTop (mkF m 4 #[.val (.int (Int32.ofNat n))] [(.int (Int32.ofNat (2 * n)))]))
  have N2 := Fr.app N0 N1
  obtain ⟨T3, h3, k3, X3, e3, E3, A3, st3⟩ := newP X1 hx hZ (hw _ (List.mem_of_getElem? (i := 23) rfl)) E1 (g := (mkF m 4 #[.val (.int (Int32.ofNat n))] [(.int (Int32.ofNat (2 * n)))])) rfl (hb hby dNF_4) rfl (own_nn (by omega)) (cap := 128) (by rw [own_tn (by omega)]; omega) (by decide) (by decide) (by decide)
  obtain ⟨a3, g3⟩ : ∃ z, z = h0.size := ⟨_, rfl⟩
  rw [← g3] at A3 st3
  have ge4 : h0.size ≤ a3 := by rw [g3]; exact M0.1
  have f5 := own_ext_trans M0 E3
  have V3 := (Arv.new A3 (own_nn (by omega))).pad (pad_rep [] (defaultValue (newarray.typeOf .byte)) (Int32.ofNat (2 * n)).toNatClampNeg)
  refine own_on st3 ?_
  show own_Go p e below F (T3.setTop (mkF m 6 #[.val (.int (Int32.ofNat n))] [(.ref a3)]))
  have V9 : Arv Z h3 a3 k3 .byte (Int32.ofNat (2 * n)) (List.replicate (2 * n) (.int 0)) (.int 0) := by have q := V3; rw [own_tn (by omega), List.nil_append] at q; exact q
  exact own_retA X3 hx hlk hret rfl rfl (hb hby dNF_6) (fun t ht hE => hF t _ _ _ _ (by rw [ht, (e3 : _ = h3)]; exact ⟨_, _, rfl, f5, N2, ge4, V9⟩) hE (by decide) (by decide))
theorem dPu_0 : decode jdk_52_method_4_code 0 = .ok (.getstatic 44, 3) := by decide +kernel
theorem dPu_3 : decode jdk_52_method_4_code 3 = .ok (.ifCond .ne 25, 3) := by decide +kernel
theorem dPu_6 : decode jdk_52_method_4_code 6 = .ok (.iload_n 1, 1) := by decide +kernel
theorem dPu_7 : decode jdk_52_method_4_code 7 = .ok (.ifCond .lt 11, 3) := by decide +kernel
theorem dPu_10 : decode jdk_52_method_4_code 10 = .ok (.iload_n 1, 1) := by decide +kernel
theorem dPu_11 : decode jdk_52_method_4_code 11 = .ok (.aload_n 0, 1) := by decide +kernel
theorem dPu_12 : decode jdk_52_method_4_code 12 = .ok (.invokestatic 48, 3) := by decide +kernel
theorem dPu_15 : decode jdk_52_method_4_code 15 = .ok (.if_icmp .lt 13, 3) := by decide +kernel
theorem dPu_18 : decode jdk_52_method_4_code 18 = .ok (.new 52, 3) := by decide +kernel
theorem dPu_21 : decode jdk_52_method_4_code 21 = .ok (.dup, 1) := by decide +kernel
theorem dPu_22 : decode jdk_52_method_4_code 22 = .ok (.ldc 54, 2) := by decide +kernel
theorem dPu_24 : decode jdk_52_method_4_code 24 = .ok (.invokespecial 56, 3) := by decide +kernel
theorem dPu_27 : decode jdk_52_method_4_code 27 = .ok (.athrow, 1) := by decide +kernel
theorem dPu_28 : decode jdk_52_method_4_code 28 = .ok (.iload_n 1, 1) := by decide +kernel
theorem dPu_29 : decode jdk_52_method_4_code 29 = .ok (.iconst 1, 1) := by decide +kernel
theorem dPu_30 : decode jdk_52_method_4_code 30 = .ok (.ishl, 1) := by decide +kernel
theorem dPu_31 : decode jdk_52_method_4_code 31 = .ok (.istore_n 1, 1) := by decide +kernel
theorem dPu_32 : decode jdk_52_method_4_code 32 = .ok (.aload_n 0, 1) := by decide +kernel
theorem dPu_33 : decode jdk_52_method_4_code 33 = .ok (.iload_n 1, 1) := by decide +kernel
theorem dPu_34 : decode jdk_52_method_4_code 34 = .ok (.iinc 1 1, 3) := by decide +kernel
theorem dPu_37 : decode jdk_52_method_4_code 37 = .ok (.iload_n 2, 1) := by decide +kernel
theorem dPu_38 : decode jdk_52_method_4_code 38 = .ok (.getstatic 59, 3) := by decide +kernel
theorem dPu_41 : decode jdk_52_method_4_code 41 = .ok (.ishr, 1) := by decide +kernel
theorem dPu_42 : decode jdk_52_method_4_code 42 = .ok (.i2b, 1) := by decide +kernel
theorem dPu_43 : decode jdk_52_method_4_code 43 = .ok (.bastore, 1) := by decide +kernel
theorem dPu_44 : decode jdk_52_method_4_code 44 = .ok (.aload_n 0, 1) := by decide +kernel
theorem dPu_45 : decode jdk_52_method_4_code 45 = .ok (.iload_n 1, 1) := by decide +kernel
theorem dPu_46 : decode jdk_52_method_4_code 46 = .ok (.iload_n 2, 1) := by decide +kernel
theorem dPu_47 : decode jdk_52_method_4_code 47 = .ok (.getstatic 63, 3) := by decide +kernel
theorem dPu_50 : decode jdk_52_method_4_code 50 = .ok (.ishr, 1) := by decide +kernel
theorem dPu_51 : decode jdk_52_method_4_code 51 = .ok (.i2b, 1) := by decide +kernel
theorem dPu_52 : decode jdk_52_method_4_code 52 = .ok (.bastore, 1) := by decide +kernel
theorem dPu_53 : decode jdk_52_method_4_code 53 = .ok (.return_, 1) := by decide +kernel
theorem efPu (m : MethodId) (x0 : Addr) (x1 : Int32) (x2 : Int32) : entryFrame m #[(.ref x0), (.int x1), (.int x2)] 3 = mkF m 0 #[.val (.ref x0), .val (.int x1), .val (.int x2)] [] := by first | (simp [entryFrame, mkF, argsToLocals, Value.category]; done) | rfl
def Q_rmPu (Z : State) (t : Addr) (kt : ClassId) (vs : List Value) (n i : Nat) (c0 : Int32) (h0 : Heap) (v : Option Value) (h : Heap) (L : List Loc) : Prop := v = none ∧ Fr Z.heap.size L ∧ Keep h0 h [t] ∧ Arv Z h t kt .byte (Int32.ofNat (2 * n)) ((vs.set (2 * i) (.int c0.toInt8.toInt32)).set (2 * i + 1) (.int (StrChars.hi8 c0))) (.int 0)
set_option maxRecDepth 65536 in
set_option maxHeartbeats 40000000 in
theorem rmPu (l : Launch) (Z : State) (a0 : Array Value) (hw : ∀ d ∈ tables_1, d.before a0 Z = true) (t : Addr) (kt : ClassId) (vs : List Value) (n i : Nat) (c0 : Int32) (h0 : Heap) (EZ : Ext Z.heap h0) (O3 : Sta Z Z.heap "java/lang/StringUTF16" "$assertionsDisabled" "Z" (.int 1)) (O4 : Sta Z Z.heap "java/lang/StringUTF16" "HI_BYTE_SHIFT" "I" (.int 0)) (O5 : Sta Z Z.heap "java/lang/StringUTF16" "LO_BYTE_SHIFT" "I" (.int 8)) (gt : Z.heap.size ≤ t) (A0 : Arv Z h0 t kt .byte (Int32.ofNat (2 * n)) vs (.int 0)) (hv : vs.length = 2 * n) (hi : i < n) (hn : n ≤ 4000) :
    MetFree l (⟨"java/lang/StringUTF16", "putChar", "([BII)V"⟩ : MethodName) (head1 (Jvm.Cond.code (⟨"java/lang/StringUTF16", "putChar", "([BII)V"⟩ : MethodName) jdk_52_method_4_code 3 (Option.none : Option FieldType) :: []) ({ frames := 0, cells := 0, slots := 0, locals := 0 } : Room)) (fun aa U => aa = #[(.ref t), (.int (Int32.ofNat i)), (.int c0)] ∧ Z.Warmed39 U.vm ∧ U.heap = h0) (fun _ _ _ _ _ => True) (fun _ U o U' => ∃ v L, o = .returned v ∧ (Q_rmPu Z t kt vs n i c0 h0) v U'.heap L ∧ FrameEnd U o U' L ({ frames := 0, cells := 0, slots := 0, locals := 0 } : Room).cells ({ frames := 0, cells := 0, slots := 0, locals := 0 } : Room).slots) := by
  refine own_walkN (by exact pnU) ?_
  intro p e s m below meth c T0 X0 hx hby hml hret hlk hnm hown hZ e0 es0 F hF
  refine own_on (fun _ => castTop (efPu m t _ c0)) ?_
  have N0 := Fr.nil Z.heap.size
  have Q0 := Keep.refl h0 [t]
  have M0 := own_ext_refl h0
  obtain ⟨T1, X1, e1, st1⟩ := getS (host := "") X0 hx hZ hown (hw _ (List.mem_of_getElem? (i := 104) rfl)) Via.refl e0 (O3.ext EZ) (g := (mkF m 0 #[.val (.ref t), .val (.int (Int32.ofNat i)), .val (.int c0)] [])) rfl (hb hby dPu_0)
  refine own_on st1 ?_
  show own_Go p e below F (T1.setTop (mkF m 3 #[.val (.ref t), .val (.int (Int32.ofNat i)), .val (.int c0)] [(.int ((1 : Int32)))]))
  refine own_ifne X1.here hx (hb hby dPu_3) (by decide) (pc' := 28) (by decide) (pc2 := 6) rfl (fun q2 => ?_) (fun q => absurd q (by decide))
  refine own_iload_n X1.here hx (hb hby dPu_28) rfl (pc' := 29) rfl ?_
  refine own_iconst X1.here hx (hb hby dPu_29) (v := 1) rfl (pc' := 30) rfl ?_
  refine own_ishl X1.here hx (hb hby dPu_30) (pc' := 31) rfl ?_
  rw [own_shl1 (by omega)]
  show own_Go p e below F (T1.setTop (mkF m 31 #[.val (.ref t), .val (.int (Int32.ofNat i)), .val (.int c0)] [(.int (Int32.ofNat (2 * i)))]))
  refine own_istore_n X1.here hx (hb hby dPu_31) (L' := #[.val (.ref t), .val (.int (Int32.ofNat (2 * i))), .val (.int c0)]) rfl (pc' := 32) rfl ?_
  refine own_aload_n X1.here hx (hb hby dPu_32) rfl rfl (pc' := 33) rfl ?_
  refine own_iload_n X1.here hx (hb hby dPu_33) rfl (pc' := 34) rfl ?_
  refine own_iinc X1.here hx (hb hby dPu_34) rfl (y := Int32.ofNat (2 * i + 1)) (own_inc _) (L' := #[.val (.ref t), .val (.int (Int32.ofNat (2 * i + 1))), .val (.int c0)]) rfl (pc' := 37) rfl ?_
  refine own_iload_n X1.here hx (hb hby dPu_37) rfl (pc' := 38) rfl ?_
  obtain ⟨T3, X3, e3, st3⟩ := getS (host := "") X1 hx hZ hown (hw _ (List.mem_of_getElem? (i := 105) rfl)) Via.refl e1 (O4.ext EZ) (g := (mkF m 38 #[.val (.ref t), .val (.int (Int32.ofNat (2 * i + 1))), .val (.int c0)] [(.int c0), (.int (Int32.ofNat (2 * i))), (.ref t)])) rfl (hb hby dPu_38)
  refine own_on st3 ?_
  show own_Go p e below F (T3.setTop (mkF m 41 #[.val (.ref t), .val (.int (Int32.ofNat (2 * i + 1))), .val (.int c0)] [(.int ((0 : Int32))), (.int c0), (.int (Int32.ofNat (2 * i))), (.ref t)]))
  refine own_ishr X3.here hx (hb hby dPu_41) (pc' := 42) rfl ?_
  rw [own_shr0]
  show own_Go p e below F (T3.setTop (mkF m 42 #[.val (.ref t), .val (.int (Int32.ofNat (2 * i + 1))), .val (.int c0)] [(.int c0), (.int (Int32.ofNat (2 * i))), (.ref t)]))
  refine own_i2b X3.here hx (hb hby dPu_42) (pc' := 43) rfl ?_
  obtain ⟨T4, h4, X4, e4, W4, V4, st4⟩ := own_bast X3 hx hZ e3 A0 (i := 2 * i) (own_tn (by omega)) (by omega) ⟨own_nn (by omega), own_ltN (by omega) (by omega)⟩  (g := (mkF m 43 #[.val (.ref t), .val (.int (Int32.ofNat (2 * i + 1))), .val (.int c0)] [(.int c0.toInt8.toInt32), (.int (Int32.ofNat (2 * i))), (.ref t)])) rfl rfl (hb hby dPu_43)
  have f5 := Q0.wr W4 (Or.inl (by simp))
  have N6 := own_Fr_snoc (sl := (Int32.ofNat (2 * i)).toNatClampNeg) N0 gt
  refine own_on st4 ?_
  show own_Go p e below F (T4.setTop (mkF m 44 #[.val (.ref t), .val (.int (Int32.ofNat (2 * i + 1))), .val (.int c0)] []))
  have EZ1 : Ext Z.heap h4 := own_ext_keep EZ f5 (fun y hy => by simp only [List.mem_cons, List.not_mem_nil, or_false] at hy; subst hy; exact gt)
  refine own_aload_n X4.here hx (hb hby dPu_44) rfl rfl (pc' := 45) rfl ?_
  refine own_iload_n X4.here hx (hb hby dPu_45) rfl (pc' := 46) rfl ?_
  refine own_iload_n X4.here hx (hb hby dPu_46) rfl (pc' := 47) rfl ?_
  obtain ⟨T7, X7, e7, st7⟩ := getS (host := "") X4 hx hZ hown (hw _ (List.mem_of_getElem? (i := 106) rfl)) Via.refl e4 (O5.ext EZ1) (g := (mkF m 47 #[.val (.ref t), .val (.int (Int32.ofNat (2 * i + 1))), .val (.int c0)] [(.int c0), (.int (Int32.ofNat (2 * i + 1))), (.ref t)])) rfl (hb hby dPu_47)
  refine own_on st7 ?_
  show own_Go p e below F (T7.setTop (mkF m 50 #[.val (.ref t), .val (.int (Int32.ofNat (2 * i + 1))), .val (.int c0)] [(.int ((8 : Int32))), (.int c0), (.int (Int32.ofNat (2 * i + 1))), (.ref t)]))
  refine own_ishr X7.here hx (hb hby dPu_50) (pc' := 51) rfl ?_
  refine own_i2b X7.here hx (hb hby dPu_51) (pc' := 52) rfl ?_
  obtain ⟨T8, h8, X8, e8, W8, V8, st8⟩ := own_bast X7 hx hZ e7 V4 (i := 2 * i + 1) (own_tn (by omega)) (by rw [List.length_set]; omega) ⟨own_nn (by omega), own_ltN (by omega) (by omega)⟩  (g := (mkF m 52 #[.val (.ref t), .val (.int (Int32.ofNat (2 * i + 1))), .val (.int c0)] [(.int ((c0 >>> ((8 : Int32) &&& 31)).toInt8.toInt32)), (.int (Int32.ofNat (2 * i + 1))), (.ref t)])) rfl rfl (hb hby dPu_52)
  have f9 := f5.wr W8 (Or.inl (by simp))
  have N10 := own_Fr_snoc (sl := (Int32.ofNat (2 * i + 1)).toNatClampNeg) N6 gt
  refine own_on st8 ?_
  show own_Go p e below F (T8.setTop (mkF m 53 #[.val (.ref t), .val (.int (Int32.ofNat (2 * i + 1))), .val (.int c0)] []))
  exact own_retV X8 hx hlk hret (hb hby dPu_53) (fun t ht hE => hF t _ _ _ _ (by rw [ht, (e8 : _ = h8)]; exact ⟨rfl, N10, f9, V8⟩) hE (by decide) (by decide))
theorem dTB_0 : decode jdk_52_method_14_code 0 = .ok (.iload_n 2, 1) := by decide +kernel
theorem dTB_1 : decode jdk_52_method_14_code 1 = .ok (.invokestatic 107, 3) := by decide +kernel
theorem dTB_4 : decode jdk_52_method_14_code 4 = .ok (.astore_n 3, 1) := by decide +kernel
theorem dTB_5 : decode jdk_52_method_14_code 5 = .ok (.iconst 0, 1) := by decide +kernel
theorem dTB_6 : decode jdk_52_method_14_code 6 = .ok (.istore 4, 2) := by decide +kernel
theorem dTB_8 : decode jdk_52_method_14_code 8 = .ok (.iload 4, 2) := by decide +kernel
theorem dTB_10 : decode jdk_52_method_14_code 10 = .ok (.iload_n 2, 1) := by decide +kernel
theorem dTB_11 : decode jdk_52_method_14_code 11 = .ok (.if_icmp .ge 21, 3) := by decide +kernel
theorem dTB_14 : decode jdk_52_method_14_code 14 = .ok (.aload_n 3, 1) := by decide +kernel
theorem dTB_15 : decode jdk_52_method_14_code 15 = .ok (.iload 4, 2) := by decide +kernel
theorem dTB_17 : decode jdk_52_method_14_code 17 = .ok (.aload_n 0, 1) := by decide +kernel
theorem dTB_18 : decode jdk_52_method_14_code 18 = .ok (.iload_n 1, 1) := by decide +kernel
theorem dTB_19 : decode jdk_52_method_14_code 19 = .ok (.caload, 1) := by decide +kernel
theorem dTB_20 : decode jdk_52_method_14_code 20 = .ok (.invokestatic 111, 3) := by decide +kernel
theorem dTB_23 : decode jdk_52_method_14_code 23 = .ok (.iinc 1 1, 3) := by decide +kernel
theorem dTB_26 : decode jdk_52_method_14_code 26 = .ok (.iinc 4 1, 3) := by decide +kernel
theorem dTB_29 : decode jdk_52_method_14_code 29 = .ok (.goto (-21), 3) := by decide +kernel
theorem dTB_32 : decode jdk_52_method_14_code 32 = .ok (.aload_n 3, 1) := by decide +kernel
theorem dTB_33 : decode jdk_52_method_14_code 33 = .ok (.areturn, 1) := by decide +kernel
theorem efTB (m : MethodId) (x0 : Addr) (x1 : Int32) (x2 : Int32) : entryFrame m #[(.ref x0), (.int x1), (.int x2)] 5 = mkF m 0 #[.val (.ref x0), .val (.int x1), .val (.int x2), .unset, .unset] [] := by first | (simp [entryFrame, mkF, argsToLocals, Value.category]; done) | rfl
def Q_rmTB (Z : State) (ar : Addr) (ka : ClassId) (cs : List Int32) (N : Int32) (d0 : Value) (n : Nat) (h0 : Heap) (v : Option Value) (h : Heap) (L : List Loc) : Prop := ∃ t kt, v = some (.ref t) ∧ Ext h0 h ∧ Fr Z.heap.size L ∧ h0.size ≤ t ∧ Arv Z h t kt .byte (Int32.ofNat (2 * n)) (own_wi cs n n) (.int 0)
set_option maxRecDepth 65536 in
set_option maxHeartbeats 40000000 in
theorem rmTB (l : Launch) (Z : State) (a0 : Array Value) (hw : ∀ d ∈ tables_1, d.before a0 Z = true) (ar : Addr) (ka : ClassId) (cs : List Int32) (N : Int32) (d0 : Value) (n : Nat) (h0 : Heap) (EZ : Ext Z.heap h0) (O3 : Sta Z Z.heap "java/lang/StringUTF16" "$assertionsDisabled" "Z" (.int 1)) (O4 : Sta Z Z.heap "java/lang/StringUTF16" "HI_BYTE_SHIFT" "I" (.int 0)) (O5 : Sta Z Z.heap "java/lang/StringUTF16" "LO_BYTE_SHIFT" "I" (.int 8)) (A0 : Arv Z h0 ar ka .char N (cs.map Value.int) d0) (hN : N = Int32.ofNat cs.length) (hc : n ≤ cs.length) (hl : cs.length ≤ 4000) (hn : n ≤ 64) :
    MetFree l (⟨"java/lang/StringUTF16", "toBytes", "([CII)[B"⟩ : MethodName) (head1 (Jvm.Cond.code (⟨"java/lang/StringUTF16", "toBytes", "([CII)[B"⟩ : MethodName) jdk_52_method_14_code 5 (Option.some (FieldType.array FieldType.byte)) :: []) ({ frames := 2, cells := 1, slots := 128, locals := 24 } : Room)) (fun aa U => aa = #[(.ref ar), (.int (0 : Int32)), (.int (Int32.ofNat n))] ∧ Z.Warmed39 U.vm ∧ U.heap = h0) (fun _ _ _ _ _ => True) (fun _ U o U' => ∃ v L, o = .returned v ∧ (Q_rmTB Z ar ka cs N d0 n h0) v U'.heap L ∧ FrameEnd U o U' L ({ frames := 2, cells := 1, slots := 128, locals := 24 } : Room).cells ({ frames := 2, cells := 1, slots := 128, locals := 24 } : Room).slots) := by
  refine own_walkN (by exact pnU) ?_
  intro p e s m below meth c T0 X0 hx hby hml hret hlk hnm hown hZ e0 es0 F hF
  refine own_on (fun _ => castTop (efTB m ar 0 _)) ?_
  have M0 := own_ext_refl h0
  have N0 := Fr.nil Z.heap.size
  refine own_iload_n X0.here hx (hb hby dTB_0) rfl (pc' := 1) rfl ?_
  obtain ⟨_, _, ⟨T1, L1, k1, n1⟩, -, X1, ⟨Lc1, hQ1, l1, y1, z1⟩, st1⟩ := Jvm.LawKit.callS X0 hx (y := (⟨"java/lang/StringUTF16", "newBytesFor", "(I)[B"⟩ : MethodName)) hown (mvT hZ (hw _ (List.mem_of_getElem? (i := 94) rfl))) (mvT hZ (hw _ (List.mem_of_getElem? (i := 95) rfl))) (mvT hZ (hw _ (List.mem_of_getElem? (i := 42) rfl))) (mvT hZ (hw _ (List.mem_of_getElem? (i := 96) rfl))) (by decide) (backOf (W := 0) (rmNF l Z a0 hw n h0 hn) hZ (hw _ (List.mem_of_getElem? (i := 96) rfl)) (hw _ (List.mem_of_getElem? (i := 42) rfl)) (by decide) (by decide)) (g := (mkF m 1 #[.val (.ref ar), .val (.int ((0 : Int32))), .val (.int (Int32.ofNat n)), .unset, .unset] [(.int (Int32.ofNat n))])) rfl (by rw [hml]; rfl) (argsL := [(.int (Int32.ofNat n))]) (rest := []) (lenOf pdx3 rfl) rfl (by show 2 * 0 + _ ≤ _; exact Nat.le_of_eq rfl) (hb hby dTB_1) (fun _ _ => ⟨rfl, e0, (Nat.le_of_ble_eq_true rfl), (Nat.le_of_ble_eq_true rfl)⟩)
  dsimp only [Pt.U, Pt.locs, Pt.cells, Pt.slots] at X1 l1 y1 z1 st1 hQ1
  subst l1 y1 z1
  obtain ⟨t1, k1t, rfl, E1, N1, g1, V1⟩ := hQ1
  refine own_on (st1) ?_
  show own_Go p e below F (T1.setTop (mkF m 4 #[.val (.ref ar), .val (.int ((0 : Int32))), .val (.int (Int32.ofNat n)), .unset, .unset] [(.ref t1)]))
  have f2 := own_ext_trans M0 E1
  have f3 := A0.ext E1
  have N4 := Fr.app N0 N1
  have hne : ar ≠ t1 := Nat.ne_of_lt (Nat.lt_of_lt_of_le A0.lt g1)
  have gt : Z.heap.size ≤ t1 := Nat.le_trans EZ.1 g1
  have gh : h0.size ≤ t1 := g1
  refine own_astore_n X1.here hx (hb hby dTB_4) rfl (L' := #[.val (.ref ar), .val (.int ((0 : Int32))), .val (.int (Int32.ofNat n)), .val (.ref t1), .unset]) rfl (pc' := 5) rfl ?_
  refine own_iconst X1.here hx (hb hby dTB_5) (v := 0) rfl (pc' := 6) rfl ?_
  refine own_istore X1.here hx (hb hby dTB_6) (L' := #[.val (.ref ar), .val (.int ((0 : Int32))), .val (.int (Int32.ofNat n)), .val (.ref t1), .val (.int ((0 : Int32)))]) rfl (pc' := 8) rfl ?_
  have J : ∀ (d i : Nat) (_ : i + d = n) (TJ : State) (hJ : Heap) (LJ : List Loc), Stand p l e ({ frames := 2, cells := 1, slots := 128, locals := 24 } : Room) s m #[(.ref ar), (.int (0 : Int32)), (.int (Int32.ofNat n))] below meth c TJ LJ 1 128 → TJ.heap = hJ → Fr Z.heap.size LJ → Ext h0 hJ → Arv Z hJ ar ka .char N (cs.map Value.int) d0 → Arv Z hJ t1 k1t .byte (Int32.ofNat (2 * n)) (own_wi cs n i) (.int 0) → own_Go p e below F (TJ.setTop (mkF m 8 #[.val (.ref ar), .val (.int (Int32.ofNat i)), .val (.int (Int32.ofNat n)), .val (.ref t1), .val (.int (Int32.ofNat i))] [])) := by
    intro d
    induction d with
    | zero =>
      intro i hi TJ hJ LJ XJ eJ NJ fM fA fV
      obtain rfl : i = n := by omega
      refine own_iload XJ.here hx (hb hby dTB_8) rfl (pc' := 10) rfl ?_
      refine own_iload_n XJ.here hx (hb hby dTB_10) rfl (pc' := 11) rfl ?_
      refine own_icmpge XJ.here hx (hb hby dTB_11) (by decide) (pc' := 32) (by decide) (pc2 := 14) rfl (fun q5 => ?_) (fun q => absurd q (own_nltN (Nat.le_refl _) (by omega)))
      refine own_aload_n XJ.here hx (hb hby dTB_32) rfl rfl (pc' := 33) rfl ?_
      exact own_retA XJ hx hlk hret rfl rfl (hb hby dTB_33) (fun t ht hE => hF t _ _ _ _ (by rw [ht, (eJ : _ = hJ)]; exact ⟨t1, k1t, rfl, fM, NJ, gh, fV⟩) hE (by decide) (by decide))
    | succ d ih =>
      intro i hi TJ hJ LJ XJ eJ NJ fM fA fV
      refine own_iload XJ.here hx (hb hby dTB_8) rfl (pc' := 10) rfl ?_
      refine own_iload_n XJ.here hx (hb hby dTB_10) rfl (pc' := 11) rfl ?_
      refine own_icmpge XJ.here hx (hb hby dTB_11) (by decide) (pc' := 32) (by decide) (pc2 := 14) rfl (fun q => absurd (own_ltN (by omega) (by omega)) q) (fun q6 => ?_)
      refine own_aload_n XJ.here hx (hb hby dTB_14) rfl rfl (pc' := 15) rfl ?_
      refine own_iload XJ.here hx (hb hby dTB_15) rfl (pc' := 17) rfl ?_
      refine own_aload_n XJ.here hx (hb hby dTB_17) rfl rfl (pc' := 18) rfl ?_
      refine own_iload_n XJ.here hx (hb hby dTB_18) rfl (pc' := 19) rfl ?_
      refine own_caload XJ hx hZ eJ fA (w := cs.getD i 0) ⟨own_nn (by omega), by rw [hN]; exact own_ltN (by omega) (by omega)⟩ (by rw [own_tn (by omega)]; exact own_mapget (by omega)) (hb hby dTB_19) (pc' := 20) rfl ?_
      obtain ⟨_, _, ⟨T7, L7, k7, n7⟩, -, X7, ⟨Lc7, hQ7, l7, y7, z7⟩, st7⟩ := Jvm.LawKit.callS XJ hx (y := (⟨"java/lang/StringUTF16", "putChar", "([BII)V"⟩ : MethodName)) hown (mvT hZ (hw _ (List.mem_of_getElem? (i := 101) rfl))) (mvT hZ (hw _ (List.mem_of_getElem? (i := 102) rfl))) (mvT hZ (hw _ (List.mem_of_getElem? (i := 42) rfl))) (mvT hZ (hw _ (List.mem_of_getElem? (i := 103) rfl))) (by decide) (backOf (W := 0) (rmPu l Z a0 hw t1 k1t (own_wi cs n i) n i (cs.getD i 0) hJ (own_ext_trans EZ fM) O3 O4 O5 gt fV (own_wi_len (by omega) hc) (by omega) (by omega)) hZ (hw _ (List.mem_of_getElem? (i := 103) rfl)) (hw _ (List.mem_of_getElem? (i := 42) rfl)) (by decide) (by decide)) (g := (mkF m 20 #[.val (.ref ar), .val (.int (Int32.ofNat i)), .val (.int (Int32.ofNat n)), .val (.ref t1), .val (.int (Int32.ofNat i))] [(.int (cs.getD i 0)), (.int (Int32.ofNat i)), (.ref t1)])) rfl (by rw [hml]; rfl) (argsL := [(.ref t1), (.int (Int32.ofNat i)), (.int (cs.getD i 0))]) (rest := []) (lenOf pdx4 rfl) rfl (by show 2 * 0 + _ ≤ _; exact Nat.le_of_eq rfl) (hb hby dTB_20) (fun _ _ => ⟨rfl, eJ, (Nat.le_of_ble_eq_true rfl), (Nat.le_of_ble_eq_true rfl)⟩)
      dsimp only [Pt.U, Pt.locs, Pt.cells, Pt.slots] at X7 l7 y7 z7 st7 hQ7
      subst l7 y7 z7
      obtain ⟨rfl, N7, K7, V7⟩ := hQ7
      refine own_on (st7) ?_
      show own_Go p e below F (T7.setTop (mkF m 23 #[.val (.ref ar), .val (.int (Int32.ofNat i)), .val (.int (Int32.ofNat n)), .val (.ref t1), .val (.int (Int32.ofNat i))] []))
      have f8 := own_ext_keep fM K7 (fun y hy => by simp only [List.mem_cons, List.not_mem_nil, or_false] at hy; rcases hy with rfl <;> assumption)
      have f9 := fA.keep K7 (by simp only [List.mem_cons, List.not_mem_nil, or_false, not_or]; exact hne)
      have N11 := Fr.app NJ N7
      rw [own_wi_set (by omega) hc] at V7
      refine own_iinc X7.here hx (hb hby dTB_23) rfl (y := Int32.ofNat (i + 1)) (own_inc _) (L' := #[.val (.ref ar), .val (.int (Int32.ofNat (i + 1))), .val (.int (Int32.ofNat n)), .val (.ref t1), .val (.int (Int32.ofNat i))]) rfl (pc' := 26) rfl ?_
      refine own_iinc X7.here hx (hb hby dTB_26) rfl (y := Int32.ofNat (i + 1)) (own_inc _) (L' := #[.val (.ref ar), .val (.int (Int32.ofNat (i + 1))), .val (.int (Int32.ofNat n)), .val (.ref t1), .val (.int (Int32.ofNat (i + 1)))]) rfl (pc' := 29) rfl ?_
      refine own_goto X7.here hx (hb hby dTB_29) (by decide) (pc' := 8) (by decide) ?_
      exact ih (i + 1) (by omega) _ _ _ X7 rfl N11 f8 f9 V7
  exact J n 0 (by omega) _ _ _ X1 rfl N4 f2 f3 (by have q := V1; rw [show own_wi cs n 0 = List.replicate (2 * n) (.int 0) by simp [own_wi, StrChars.Road.wideBytes]]; exact q)
theorem dGC_0 : decode jdk_52_method_5_code 0 = .ok (.getstatic 44, 3) := by decide +kernel
theorem dGC_3 : decode jdk_52_method_5_code 3 = .ok (.ifCond .ne 25, 3) := by decide +kernel
theorem dGC_6 : decode jdk_52_method_5_code 6 = .ok (.iload_n 1, 1) := by decide +kernel
theorem dGC_7 : decode jdk_52_method_5_code 7 = .ok (.ifCond .lt 11, 3) := by decide +kernel
theorem dGC_10 : decode jdk_52_method_5_code 10 = .ok (.iload_n 1, 1) := by decide +kernel
theorem dGC_11 : decode jdk_52_method_5_code 11 = .ok (.aload_n 0, 1) := by decide +kernel
theorem dGC_12 : decode jdk_52_method_5_code 12 = .ok (.invokestatic 48, 3) := by decide +kernel
theorem dGC_15 : decode jdk_52_method_5_code 15 = .ok (.if_icmp .lt 13, 3) := by decide +kernel
theorem dGC_18 : decode jdk_52_method_5_code 18 = .ok (.new 52, 3) := by decide +kernel
theorem dGC_21 : decode jdk_52_method_5_code 21 = .ok (.dup, 1) := by decide +kernel
theorem dGC_22 : decode jdk_52_method_5_code 22 = .ok (.ldc 54, 2) := by decide +kernel
theorem dGC_24 : decode jdk_52_method_5_code 24 = .ok (.invokespecial 56, 3) := by decide +kernel
theorem dGC_27 : decode jdk_52_method_5_code 27 = .ok (.athrow, 1) := by decide +kernel
theorem dGC_28 : decode jdk_52_method_5_code 28 = .ok (.iload_n 1, 1) := by decide +kernel
theorem dGC_29 : decode jdk_52_method_5_code 29 = .ok (.iconst 1, 1) := by decide +kernel
theorem dGC_30 : decode jdk_52_method_5_code 30 = .ok (.ishl, 1) := by decide +kernel
theorem dGC_31 : decode jdk_52_method_5_code 31 = .ok (.istore_n 1, 1) := by decide +kernel
theorem dGC_32 : decode jdk_52_method_5_code 32 = .ok (.aload_n 0, 1) := by decide +kernel
theorem dGC_33 : decode jdk_52_method_5_code 33 = .ok (.iload_n 1, 1) := by decide +kernel
theorem dGC_34 : decode jdk_52_method_5_code 34 = .ok (.iinc 1 1, 3) := by decide +kernel
theorem dGC_37 : decode jdk_52_method_5_code 37 = .ok (.baload, 1) := by decide +kernel
theorem dGC_38 : decode jdk_52_method_5_code 38 = .ok (.sipush 255, 3) := by decide +kernel
theorem dGC_41 : decode jdk_52_method_5_code 41 = .ok (.iand, 1) := by decide +kernel
theorem dGC_42 : decode jdk_52_method_5_code 42 = .ok (.getstatic 59, 3) := by decide +kernel
theorem dGC_45 : decode jdk_52_method_5_code 45 = .ok (.ishl, 1) := by decide +kernel
theorem dGC_46 : decode jdk_52_method_5_code 46 = .ok (.aload_n 0, 1) := by decide +kernel
theorem dGC_47 : decode jdk_52_method_5_code 47 = .ok (.iload_n 1, 1) := by decide +kernel
theorem dGC_48 : decode jdk_52_method_5_code 48 = .ok (.baload, 1) := by decide +kernel
theorem dGC_49 : decode jdk_52_method_5_code 49 = .ok (.sipush 255, 3) := by decide +kernel
theorem dGC_52 : decode jdk_52_method_5_code 52 = .ok (.iand, 1) := by decide +kernel
theorem dGC_53 : decode jdk_52_method_5_code 53 = .ok (.getstatic 63, 3) := by decide +kernel
theorem dGC_56 : decode jdk_52_method_5_code 56 = .ok (.ishl, 1) := by decide +kernel
theorem dGC_57 : decode jdk_52_method_5_code 57 = .ok (.ior, 1) := by decide +kernel
theorem dGC_58 : decode jdk_52_method_5_code 58 = .ok (.i2c, 1) := by decide +kernel
theorem dGC_59 : decode jdk_52_method_5_code 59 = .ok (.ireturn, 1) := by decide +kernel
theorem efGC (m : MethodId) (x0 : Addr) (x1 : Int32) : entryFrame m #[(.ref x0), (.int x1)] 2 = mkF m 0 #[.val (.ref x0), .val (.int x1)] [] := by first | (simp [entryFrame, mkF, argsToLocals, Value.category]; done) | rfl
def Q_rmGC (Z : State) (t : Addr) (kt : ClassId) (cs : List Int32) (i : Nat) (h0 : Heap) (v : Option Value) (h : Heap) (L : List Loc) : Prop := v = some (.int (cs.getD i 0)) ∧ Fr Z.heap.size L ∧ h = h0
set_option maxRecDepth 65536 in
set_option maxHeartbeats 40000000 in
theorem rmGC (l : Launch) (Z : State) (a0 : Array Value) (hw : ∀ d ∈ tables_1, d.before a0 Z = true) (t : Addr) (kt : ClassId) (cs : List Int32) (i : Nat) (h0 : Heap) (EZ : Ext Z.heap h0) (O3 : Sta Z Z.heap "java/lang/StringUTF16" "$assertionsDisabled" "Z" (.int 1)) (O4 : Sta Z Z.heap "java/lang/StringUTF16" "HI_BYTE_SHIFT" "I" (.int 0)) (O5 : Sta Z Z.heap "java/lang/StringUTF16" "LO_BYTE_SHIFT" "I" (.int 8)) (A0 : Arv Z h0 t kt .byte (Int32.ofNat (2 * cs.length)) (StrChars.Road.wideBytes cs) (.int 0)) (hp : ∀ c ∈ cs, ¬ c < 0 ∧ ¬ (65535 : Int32) < c) (hl : cs.length ≤ 4000) (hi : i < cs.length) :
    MetFree l (⟨"java/lang/StringUTF16", "getChar", "([BI)C"⟩ : MethodName) (head1 (Jvm.Cond.code (⟨"java/lang/StringUTF16", "getChar", "([BI)C"⟩ : MethodName) jdk_52_method_5_code 2 (Option.some FieldType.char) :: []) ({ frames := 0, cells := 0, slots := 0, locals := 0 } : Room)) (fun aa U => aa = #[(.ref t), (.int (Int32.ofNat i))] ∧ Z.Warmed39 U.vm ∧ U.heap = h0) (fun _ _ _ _ _ => True) (fun _ U o U' => ∃ v L, o = .returned v ∧ (Q_rmGC Z t kt cs i h0) v U'.heap L ∧ FrameEnd U o U' L ({ frames := 0, cells := 0, slots := 0, locals := 0 } : Room).cells ({ frames := 0, cells := 0, slots := 0, locals := 0 } : Room).slots) := by
  refine own_walkN (by exact pnU) ?_
  intro p e s m below meth c T0 X0 hx hby hml hret hlk hnm hown hZ e0 es0 F hF
  refine own_on (fun _ => castTop (efGC m t _)) ?_
  have N0 := Fr.nil Z.heap.size
  have hpc := StrChars.pair_says (hp _ (own_mem hi)).1 (hp _ (own_mem hi)).2
  obtain ⟨T1, X1, e1, st1⟩ := getS (host := "") X0 hx hZ hown (hw _ (List.mem_of_getElem? (i := 104) rfl)) Via.refl e0 (O3.ext EZ) (g := (mkF m 0 #[.val (.ref t), .val (.int (Int32.ofNat i))] [])) rfl (hb hby dGC_0)
  refine own_on st1 ?_
  show own_Go p e below F (T1.setTop (mkF m 3 #[.val (.ref t), .val (.int (Int32.ofNat i))] [(.int ((1 : Int32)))]))
  refine own_ifne X1.here hx (hb hby dGC_3) (by decide) (pc' := 28) (by decide) (pc2 := 6) rfl (fun q2 => ?_) (fun q => absurd q (by decide))
  refine own_iload_n X1.here hx (hb hby dGC_28) rfl (pc' := 29) rfl ?_
  refine own_iconst X1.here hx (hb hby dGC_29) (v := 1) rfl (pc' := 30) rfl ?_
  refine own_ishl X1.here hx (hb hby dGC_30) (pc' := 31) rfl ?_
  rw [own_shl1 (by omega)]
  show own_Go p e below F (T1.setTop (mkF m 31 #[.val (.ref t), .val (.int (Int32.ofNat i))] [(.int (Int32.ofNat (2 * i)))]))
  refine own_istore_n X1.here hx (hb hby dGC_31) (L' := #[.val (.ref t), .val (.int (Int32.ofNat (2 * i)))]) rfl (pc' := 32) rfl ?_
  refine own_aload_n X1.here hx (hb hby dGC_32) rfl rfl (pc' := 33) rfl ?_
  refine own_iload_n X1.here hx (hb hby dGC_33) rfl (pc' := 34) rfl ?_
  refine own_iinc X1.here hx (hb hby dGC_34) rfl (y := Int32.ofNat (2 * i + 1)) (own_inc _) (L' := #[.val (.ref t), .val (.int (Int32.ofNat (2 * i + 1)))]) rfl (pc' := 37) rfl ?_
  refine own_baload X1 hx hZ e1 A0 (w := StrChars.lo8 (cs.getD i 0)) ⟨own_nn (by omega), own_ltN (by omega) (by omega)⟩ (by rw [own_tn (by omega)]; exact StrChars.Road.wide_lo _ cs i hi) (hb hby dGC_37) (pc' := 38) rfl ?_
  refine own_sipush X1.here hx (hb hby dGC_38) (v := 255) rfl (pc' := 41) rfl ?_
  refine own_iand X1.here hx (hb hby dGC_41) (pc' := 42) rfl ?_
  obtain ⟨T3, X3, e3, st3⟩ := getS (host := "") X1 hx hZ hown (hw _ (List.mem_of_getElem? (i := 105) rfl)) Via.refl e1 (O4.ext EZ) (g := (mkF m 42 #[.val (.ref t), .val (.int (Int32.ofNat (2 * i + 1)))] [(.int ((StrChars.lo8 (cs.getD i 0)) &&& (255 : Int32)))])) rfl (hb hby dGC_42)
  refine own_on st3 ?_
  show own_Go p e below F (T3.setTop (mkF m 45 #[.val (.ref t), .val (.int (Int32.ofNat (2 * i + 1)))] [(.int ((0 : Int32))), (.int ((StrChars.lo8 (cs.getD i 0)) &&& (255 : Int32)))]))
  refine own_ishl X3.here hx (hb hby dGC_45) (pc' := 46) rfl ?_
  refine own_aload_n X3.here hx (hb hby dGC_46) rfl rfl (pc' := 47) rfl ?_
  refine own_iload_n X3.here hx (hb hby dGC_47) rfl (pc' := 48) rfl ?_
  refine own_baload X3 hx hZ e3 A0 (w := StrChars.hi8 (cs.getD i 0)) ⟨own_nn (by omega), own_ltN (by omega) (by omega)⟩ (by rw [own_tn (by omega)]; exact StrChars.Road.wide_hi _ cs i hi) (hb hby dGC_48) (pc' := 49) rfl ?_
  refine own_sipush X3.here hx (hb hby dGC_49) (v := 255) rfl (pc' := 52) rfl ?_
  refine own_iand X3.here hx (hb hby dGC_52) (pc' := 53) rfl ?_
  obtain ⟨T4, X4, e4, st4⟩ := getS (host := "") X3 hx hZ hown (hw _ (List.mem_of_getElem? (i := 106) rfl)) Via.refl e3 (O5.ext EZ) (g := (mkF m 53 #[.val (.ref t), .val (.int (Int32.ofNat (2 * i + 1)))] [(.int ((StrChars.hi8 (cs.getD i 0)) &&& (255 : Int32))), (.int (((StrChars.lo8 (cs.getD i 0)) &&& (255 : Int32)) <<< ((0 : Int32) &&& 31)))])) rfl (hb hby dGC_53)
  refine own_on st4 ?_
  show own_Go p e below F (T4.setTop (mkF m 56 #[.val (.ref t), .val (.int (Int32.ofNat (2 * i + 1)))] [(.int ((8 : Int32))), (.int ((StrChars.hi8 (cs.getD i 0)) &&& (255 : Int32))), (.int (((StrChars.lo8 (cs.getD i 0)) &&& (255 : Int32)) <<< ((0 : Int32) &&& 31)))]))
  refine own_ishl X4.here hx (hb hby dGC_56) (pc' := 57) rfl ?_
  refine own_ior X4.here hx (hb hby dGC_57) (pc' := 58) rfl ?_
  refine own_i2c X4.here hx (hb hby dGC_58) (pc' := 59) rfl ?_
  have hpq : own_c ((((StrChars.lo8 (cs.getD i 0)) &&& (255 : Int32)) <<< ((0 : Int32) &&& 31)) ||| (((StrChars.hi8 (cs.getD i 0)) &&& (255 : Int32)) <<< ((8 : Int32) &&& 31))) = cs.getD i 0 := hpc
  have hnar : nar .char (cs.getD i 0) = cs.getD i 0 := by rw [← hpq]; exact own_nar _
  rw [hpq]
  show own_Go p e below F (T4.setTop (mkF m 59 #[.val (.ref t), .val (.int (Int32.ofNat (2 * i + 1)))] [(.int (cs.getD i 0))]))
  exact own_retC X4 hx hlk (own_nch hnar) hret (hb hby dGC_59) (fun t ht hE => hF t _ _ _ _ (by rw [ht, (e4 : _ = h0)]; exact ⟨rfl, Fr.nil _, rfl⟩) hE (by decide) (by decide))
theorem dC2_0 : decode jdk_52_method_21_code 0 = .ok (.iconst 0, 1) := by decide +kernel
theorem dC2_1 : decode jdk_52_method_21_code 1 = .ok (.istore 5, 2) := by decide +kernel
theorem dC2_3 : decode jdk_52_method_21_code 3 = .ok (.iload 5, 2) := by decide +kernel
theorem dC2_5 : decode jdk_52_method_21_code 5 = .ok (.iload 4, 2) := by decide +kernel
theorem dC2_7 : decode jdk_52_method_21_code 7 = .ok (.if_icmp .ge 37, 3) := by decide +kernel
theorem dC2_10 : decode jdk_52_method_21_code 10 = .ok (.aload_n 0, 1) := by decide +kernel
theorem dC2_11 : decode jdk_52_method_21_code 11 = .ok (.iload_n 1, 1) := by decide +kernel
theorem dC2_12 : decode jdk_52_method_21_code 12 = .ok (.caload, 1) := by decide +kernel
theorem dC2_13 : decode jdk_52_method_21_code 13 = .ok (.istore 6, 2) := by decide +kernel
theorem dC2_15 : decode jdk_52_method_21_code 15 = .ok (.iload 6, 2) := by decide +kernel
theorem dC2_17 : decode jdk_52_method_21_code 17 = .ok (.sipush 255, 3) := by decide +kernel
theorem dC2_20 : decode jdk_52_method_21_code 20 = .ok (.if_icmp .le 6, 3) := by decide +kernel
theorem dC2_23 : decode jdk_52_method_21_code 23 = .ok (.iload 5, 2) := by decide +kernel
theorem dC2_25 : decode jdk_52_method_21_code 25 = .ok (.ireturn, 1) := by decide +kernel
theorem dC2_26 : decode jdk_52_method_21_code 26 = .ok (.aload_n 2, 1) := by decide +kernel
theorem dC2_27 : decode jdk_52_method_21_code 27 = .ok (.iload_n 3, 1) := by decide +kernel
theorem dC2_28 : decode jdk_52_method_21_code 28 = .ok (.iload 6, 2) := by decide +kernel
theorem dC2_30 : decode jdk_52_method_21_code 30 = .ok (.i2b, 1) := by decide +kernel
theorem dC2_31 : decode jdk_52_method_21_code 31 = .ok (.bastore, 1) := by decide +kernel
theorem dC2_32 : decode jdk_52_method_21_code 32 = .ok (.iinc 1 1, 3) := by decide +kernel
theorem dC2_35 : decode jdk_52_method_21_code 35 = .ok (.iinc 3 1, 3) := by decide +kernel
theorem dC2_38 : decode jdk_52_method_21_code 38 = .ok (.iinc 5 1, 3) := by decide +kernel
theorem dC2_41 : decode jdk_52_method_21_code 41 = .ok (.goto (-38), 3) := by decide +kernel
theorem dC2_44 : decode jdk_52_method_21_code 44 = .ok (.iload 4, 2) := by decide +kernel
theorem dC2_46 : decode jdk_52_method_21_code 46 = .ok (.ireturn, 1) := by decide +kernel
theorem efC2 (m : MethodId) (x0 : Addr) (x1 : Int32) (x2 : Addr) (x3 : Int32) (x4 : Int32) : entryFrame m #[(.ref x0), (.int x1), (.ref x2), (.int x3), (.int x4)] 7 = mkF m 0 #[.val (.ref x0), .val (.int x1), .val (.ref x2), .val (.int x3), .val (.int x4), .unset, .unset] [] := by first | (simp [entryFrame, mkF, argsToLocals, Value.category]; done) | rfl
def Q_rmC2 (Z : State) (dt : Addr) (kd : ClassId) (ar : Addr) (ka : ClassId) (cs : List Int32) (N : Int32) (d0 : Value) (n : Nat) (h0 : Heap) (v : Option Value) (h : Heap) (L : List Loc) : Prop := v = some (.int (Int32.ofNat n)) ∧ Fr Z.heap.size L ∧ Keep h0 h [dt] ∧ Arv Z h dt kd .byte (Int32.ofNat n) (own_lo cs n n) (.int 0)
set_option maxRecDepth 65536 in
set_option maxHeartbeats 40000000 in
theorem rmC2 (l : Launch) (Z : State) (a0 : Array Value) (hw : ∀ d ∈ tables_1, d.before a0 Z = true) (dt : Addr) (kd : ClassId) (ar : Addr) (ka : ClassId) (cs : List Int32) (N : Int32) (d0 : Value) (n : Nat) (h0 : Heap) (EZ : Ext Z.heap h0) (A0 : Arv Z h0 ar ka .char N (cs.map Value.int) d0) (hN : N = Int32.ofNat cs.length) (hc : n ≤ cs.length) (hl : cs.length ≤ 4000) (gd : Z.heap.size ≤ dt) (hne : ar ≠ dt) (D0 : Arv Z h0 dt kd .byte (Int32.ofNat n) (own_lo cs n 0) (.int 0)) (hq : ∀ j, j < n → ¬ (255 : Int32) < cs.getD j 0) :
    MetFree l (⟨"java/lang/StringUTF16", "compress", "([CI[BII)I"⟩ : MethodName) (head1 (Jvm.Cond.code (⟨"java/lang/StringUTF16", "compress", "([CI[BII)I"⟩ : MethodName) jdk_52_method_21_code 7 (Option.some FieldType.int) :: []) ({ frames := 0, cells := 0, slots := 0, locals := 0 } : Room)) (fun aa U => aa = #[(.ref ar), (.int (0 : Int32)), (.ref dt), (.int (0 : Int32)), (.int (Int32.ofNat n))] ∧ Z.Warmed39 U.vm ∧ U.heap = h0) (fun _ _ _ _ _ => True) (fun _ U o U' => ∃ v L, o = .returned v ∧ (Q_rmC2 Z dt kd ar ka cs N d0 n h0) v U'.heap L ∧ FrameEnd U o U' L ({ frames := 0, cells := 0, slots := 0, locals := 0 } : Room).cells ({ frames := 0, cells := 0, slots := 0, locals := 0 } : Room).slots) := by
  refine own_walkN (by exact pnU) ?_
  intro p e s m below meth c T0 X0 hx hby hml hret hlk hnm hown hZ e0 es0 F hF
  refine own_on (fun _ => castTop (efC2 m ar 0 dt 0 _)) ?_
  have N0 := Fr.nil Z.heap.size
  refine own_iconst X0.here hx (hb hby dC2_0) (v := 0) rfl (pc' := 1) rfl ?_
  refine own_istore X0.here hx (hb hby dC2_1) (L' := #[.val (.ref ar), .val (.int ((0 : Int32))), .val (.ref dt), .val (.int ((0 : Int32))), .val (.int (Int32.ofNat n)), .val (.int ((0 : Int32))), .unset]) rfl (pc' := 3) rfl ?_
  have J : ∀ (d i : Nat) (_ : i + d = n) (sl : Slot) (_ : sl = .unset ∨ ∃ cc : Int32, sl = .val (.int cc)) (TJ : State) (hJ : Heap) (LJ : List Loc), Stand p l e ({ frames := 0, cells := 0, slots := 0, locals := 0 } : Room) s m #[(.ref ar), (.int (0 : Int32)), (.ref dt), (.int (0 : Int32)), (.int (Int32.ofNat n))] below meth c TJ LJ 0 0 → TJ.heap = hJ → Fr Z.heap.size LJ → Keep h0 hJ [dt] → Arv Z hJ ar ka .char N (cs.map Value.int) d0 → Arv Z hJ dt kd .byte (Int32.ofNat n) (own_lo cs n i) (.int 0) → own_Go p e below F (TJ.setTop (mkF m 3 #[.val (.ref ar), .val (.int (Int32.ofNat i)), .val (.ref dt), .val (.int (Int32.ofNat i)), .val (.int (Int32.ofNat n)), .val (.int (Int32.ofNat i)), sl] [])) := by
    intro d
    induction d with
    | zero =>
      intro i hi sl hsl TJ hJ LJ XJ eJ NJ fQ fA fV
      obtain rfl : i = n := by omega
      rcases hsl with rfl | ⟨cc, rfl⟩
      · refine own_iload XJ.here hx (hb hby dC2_3) rfl (pc' := 5) rfl ?_
        refine own_iload XJ.here hx (hb hby dC2_5) rfl (pc' := 7) rfl ?_
        refine own_icmpge XJ.here hx (hb hby dC2_7) (by decide) (pc' := 44) (by decide) (pc2 := 10) rfl (fun q1 => ?_) (fun q => absurd q (own_nltN (Nat.le_refl _) (by omega)))
        refine own_iload XJ.here hx (hb hby dC2_44) rfl (pc' := 46) rfl ?_
        exact own_retI XJ hx hlk hret (hb hby dC2_46) (fun t ht hE => hF t _ _ _ _ (by rw [ht, (eJ : _ = hJ)]; exact ⟨rfl, NJ, fQ, fV⟩) hE (by decide) (by decide))
      · refine own_iload XJ.here hx (hb hby dC2_3) rfl (pc' := 5) rfl ?_
        refine own_iload XJ.here hx (hb hby dC2_5) rfl (pc' := 7) rfl ?_
        refine own_icmpge XJ.here hx (hb hby dC2_7) (by decide) (pc' := 44) (by decide) (pc2 := 10) rfl (fun q2 => ?_) (fun q => absurd q (own_nltN (Nat.le_refl _) (by omega)))
        refine own_iload XJ.here hx (hb hby dC2_44) rfl (pc' := 46) rfl ?_
        exact own_retI XJ hx hlk hret (hb hby dC2_46) (fun t ht hE => hF t _ _ _ _ (by rw [ht, (eJ : _ = hJ)]; exact ⟨rfl, NJ, fQ, fV⟩) hE (by decide) (by decide))
    | succ d ih =>
      intro i hi sl hsl TJ hJ LJ XJ eJ NJ fQ fA fV
      rcases hsl with rfl | ⟨cc, rfl⟩
      · refine own_iload XJ.here hx (hb hby dC2_3) rfl (pc' := 5) rfl ?_
        refine own_iload XJ.here hx (hb hby dC2_5) rfl (pc' := 7) rfl ?_
        refine own_icmpge XJ.here hx (hb hby dC2_7) (by decide) (pc' := 44) (by decide) (pc2 := 10) rfl (fun q => absurd (own_ltN (by omega) (by omega)) q) (fun q3 => ?_)
        refine own_aload_n XJ.here hx (hb hby dC2_10) rfl rfl (pc' := 11) rfl ?_
        refine own_iload_n XJ.here hx (hb hby dC2_11) rfl (pc' := 12) rfl ?_
        refine own_caload XJ hx hZ eJ fA (w := cs.getD i 0) ⟨own_nn (by omega), by rw [hN]; exact own_ltN (by omega) (by omega)⟩ (by rw [own_tn (by omega)]; exact own_mapget (by omega)) (hb hby dC2_12) (pc' := 13) rfl ?_
        refine own_istore XJ.here hx (hb hby dC2_13) (L' := #[.val (.ref ar), .val (.int (Int32.ofNat i)), .val (.ref dt), .val (.int (Int32.ofNat i)), .val (.int (Int32.ofNat n)), .val (.int (Int32.ofNat i)), .val (.int (cs.getD i 0))]) rfl (pc' := 15) rfl ?_
        refine own_iload XJ.here hx (hb hby dC2_15) rfl (pc' := 17) rfl ?_
        refine own_sipush XJ.here hx (hb hby dC2_17) (v := 255) rfl (pc' := 20) rfl ?_
        refine own_icmple XJ.here hx (hb hby dC2_20) (by decide) (pc' := 26) (by decide) (pc2 := 23) rfl (fun q4 => ?_) (fun q => absurd q (hq i (by omega)))
        refine own_aload_n XJ.here hx (hb hby dC2_26) rfl rfl (pc' := 27) rfl ?_
        refine own_iload_n XJ.here hx (hb hby dC2_27) rfl (pc' := 28) rfl ?_
        refine own_iload XJ.here hx (hb hby dC2_28) rfl (pc' := 30) rfl ?_
        refine own_i2b XJ.here hx (hb hby dC2_30) (pc' := 31) rfl ?_
        obtain ⟨T5, h5, X5, e5, W5, V5, st5⟩ := own_bast XJ hx hZ eJ fV (i := i) (own_tn (by omega)) (by rw [own_lo_len (by omega) hc]; omega) ⟨own_nn (by omega), own_ltN (by omega) (by omega)⟩  (g := (mkF m 31 #[.val (.ref ar), .val (.int (Int32.ofNat i)), .val (.ref dt), .val (.int (Int32.ofNat i)), .val (.int (Int32.ofNat n)), .val (.int (Int32.ofNat i)), .val (.int (cs.getD i 0))] [(.int ((cs.getD i 0).toInt8.toInt32)), (.int (Int32.ofNat i)), (.ref dt)])) rfl rfl (hb hby dC2_31)
        have f6 := fA.other W5 hne
        have f7 := fQ.wr W5 (Or.inl (by simp))
        have N8 := own_Fr_snoc (sl := (Int32.ofNat i).toNatClampNeg) NJ gd
        refine own_on st5 ?_
        show own_Go p e below F (T5.setTop (mkF m 32 #[.val (.ref ar), .val (.int (Int32.ofNat i)), .val (.ref dt), .val (.int (Int32.ofNat i)), .val (.int (Int32.ofNat n)), .val (.int (Int32.ofNat i)), .val (.int (cs.getD i 0))] []))
        rw [own_lo_set (by omega) hc] at V5
        refine own_iinc X5.here hx (hb hby dC2_32) rfl (y := Int32.ofNat (i + 1)) (own_inc _) (L' := #[.val (.ref ar), .val (.int (Int32.ofNat (i + 1))), .val (.ref dt), .val (.int (Int32.ofNat i)), .val (.int (Int32.ofNat n)), .val (.int (Int32.ofNat i)), .val (.int (cs.getD i 0))]) rfl (pc' := 35) rfl ?_
        refine own_iinc X5.here hx (hb hby dC2_35) rfl (y := Int32.ofNat (i + 1)) (own_inc _) (L' := #[.val (.ref ar), .val (.int (Int32.ofNat (i + 1))), .val (.ref dt), .val (.int (Int32.ofNat (i + 1))), .val (.int (Int32.ofNat n)), .val (.int (Int32.ofNat i)), .val (.int (cs.getD i 0))]) rfl (pc' := 38) rfl ?_
        refine own_iinc X5.here hx (hb hby dC2_38) rfl (y := Int32.ofNat (i + 1)) (own_inc _) (L' := #[.val (.ref ar), .val (.int (Int32.ofNat (i + 1))), .val (.ref dt), .val (.int (Int32.ofNat (i + 1))), .val (.int (Int32.ofNat n)), .val (.int (Int32.ofNat (i + 1))), .val (.int (cs.getD i 0))]) rfl (pc' := 41) rfl ?_
        refine own_goto X5.here hx (hb hby dC2_41) (by decide) (pc' := 3) (by decide) ?_
        exact ih (i + 1) (by omega) _ (Or.inr ⟨_, rfl⟩) _ _ _ X5 e5 N8 f7 f6 V5
      · refine own_iload XJ.here hx (hb hby dC2_3) rfl (pc' := 5) rfl ?_
        refine own_iload XJ.here hx (hb hby dC2_5) rfl (pc' := 7) rfl ?_
        refine own_icmpge XJ.here hx (hb hby dC2_7) (by decide) (pc' := 44) (by decide) (pc2 := 10) rfl (fun q => absurd (own_ltN (by omega) (by omega)) q) (fun q9 => ?_)
        refine own_aload_n XJ.here hx (hb hby dC2_10) rfl rfl (pc' := 11) rfl ?_
        refine own_iload_n XJ.here hx (hb hby dC2_11) rfl (pc' := 12) rfl ?_
        refine own_caload XJ hx hZ eJ fA (w := cs.getD i 0) ⟨own_nn (by omega), by rw [hN]; exact own_ltN (by omega) (by omega)⟩ (by rw [own_tn (by omega)]; exact own_mapget (by omega)) (hb hby dC2_12) (pc' := 13) rfl ?_
        refine own_istore XJ.here hx (hb hby dC2_13) (L' := #[.val (.ref ar), .val (.int (Int32.ofNat i)), .val (.ref dt), .val (.int (Int32.ofNat i)), .val (.int (Int32.ofNat n)), .val (.int (Int32.ofNat i)), .val (.int (cs.getD i 0))]) rfl (pc' := 15) rfl ?_
        refine own_iload XJ.here hx (hb hby dC2_15) rfl (pc' := 17) rfl ?_
        refine own_sipush XJ.here hx (hb hby dC2_17) (v := 255) rfl (pc' := 20) rfl ?_
        refine own_icmple XJ.here hx (hb hby dC2_20) (by decide) (pc' := 26) (by decide) (pc2 := 23) rfl (fun q10 => ?_) (fun q => absurd q (hq i (by omega)))
        refine own_aload_n XJ.here hx (hb hby dC2_26) rfl rfl (pc' := 27) rfl ?_
        refine own_iload_n XJ.here hx (hb hby dC2_27) rfl (pc' := 28) rfl ?_
        refine own_iload XJ.here hx (hb hby dC2_28) rfl (pc' := 30) rfl ?_
        refine own_i2b XJ.here hx (hb hby dC2_30) (pc' := 31) rfl ?_
        obtain ⟨T11, h11, X11, e11, W11, V11, st11⟩ := own_bast XJ hx hZ eJ fV (i := i) (own_tn (by omega)) (by rw [own_lo_len (by omega) hc]; omega) ⟨own_nn (by omega), own_ltN (by omega) (by omega)⟩  (g := (mkF m 31 #[.val (.ref ar), .val (.int (Int32.ofNat i)), .val (.ref dt), .val (.int (Int32.ofNat i)), .val (.int (Int32.ofNat n)), .val (.int (Int32.ofNat i)), .val (.int (cs.getD i 0))] [(.int ((cs.getD i 0).toInt8.toInt32)), (.int (Int32.ofNat i)), (.ref dt)])) rfl rfl (hb hby dC2_31)
        have f12 := fA.other W11 hne
        have f13 := fQ.wr W11 (Or.inl (by simp))
        have N14 := own_Fr_snoc (sl := (Int32.ofNat i).toNatClampNeg) NJ gd
        refine own_on st11 ?_
        show own_Go p e below F (T11.setTop (mkF m 32 #[.val (.ref ar), .val (.int (Int32.ofNat i)), .val (.ref dt), .val (.int (Int32.ofNat i)), .val (.int (Int32.ofNat n)), .val (.int (Int32.ofNat i)), .val (.int (cs.getD i 0))] []))
        rw [own_lo_set (by omega) hc] at V11
        refine own_iinc X11.here hx (hb hby dC2_32) rfl (y := Int32.ofNat (i + 1)) (own_inc _) (L' := #[.val (.ref ar), .val (.int (Int32.ofNat (i + 1))), .val (.ref dt), .val (.int (Int32.ofNat i)), .val (.int (Int32.ofNat n)), .val (.int (Int32.ofNat i)), .val (.int (cs.getD i 0))]) rfl (pc' := 35) rfl ?_
        refine own_iinc X11.here hx (hb hby dC2_35) rfl (y := Int32.ofNat (i + 1)) (own_inc _) (L' := #[.val (.ref ar), .val (.int (Int32.ofNat (i + 1))), .val (.ref dt), .val (.int (Int32.ofNat (i + 1))), .val (.int (Int32.ofNat n)), .val (.int (Int32.ofNat i)), .val (.int (cs.getD i 0))]) rfl (pc' := 38) rfl ?_
        refine own_iinc X11.here hx (hb hby dC2_38) rfl (y := Int32.ofNat (i + 1)) (own_inc _) (L' := #[.val (.ref ar), .val (.int (Int32.ofNat (i + 1))), .val (.ref dt), .val (.int (Int32.ofNat (i + 1))), .val (.int (Int32.ofNat n)), .val (.int (Int32.ofNat (i + 1))), .val (.int (cs.getD i 0))]) rfl (pc' := 41) rfl ?_
        refine own_goto X11.here hx (hb hby dC2_41) (by decide) (pc' := 3) (by decide) ?_
        exact ih (i + 1) (by omega) _ (Or.inr ⟨_, rfl⟩) _ _ _ X11 e11 N14 f13 f12 V11
  exact J n 0 (by omega) _ (Or.inl rfl) _ _ _ X0 e0 N0 (Keep.refl h0 [dt]) A0 D0
def Q_rmC3 (Z : State) (dt : Addr) (kd : ClassId) (ar : Addr) (ka : ClassId) (cs : List Int32) (N : Int32) (d0 : Value) (n : Nat) (h0 : Heap) (k0 : Nat) (v : Option Value) (h : Heap) (L : List Loc) : Prop := v = some (.int (Int32.ofNat k0)) ∧ Fr Z.heap.size L ∧ Keep h0 h [dt] ∧ Arv Z h dt kd .byte (Int32.ofNat n) (own_lo cs n k0) (.int 0)
set_option maxRecDepth 65536 in
set_option maxHeartbeats 40000000 in
theorem rmC3 (l : Launch) (Z : State) (a0 : Array Value) (hw : ∀ d ∈ tables_1, d.before a0 Z = true) (dt : Addr) (kd : ClassId) (ar : Addr) (ka : ClassId) (cs : List Int32) (N : Int32) (d0 : Value) (n : Nat) (h0 : Heap) (EZ : Ext Z.heap h0) (A0 : Arv Z h0 ar ka .char N (cs.map Value.int) d0) (hN : N = Int32.ofNat cs.length) (hc : n ≤ cs.length) (hl : cs.length ≤ 4000) (gd : Z.heap.size ≤ dt) (hne : ar ≠ dt) (D0 : Arv Z h0 dt kd .byte (Int32.ofNat n) (own_lo cs n 0) (.int 0)) (k0 : Nat) (hk : k0 < n) (hk1 : (255 : Int32) < cs.getD k0 0) (hq : ∀ j, j < k0 → ¬ (255 : Int32) < cs.getD j 0) :
    MetFree l (⟨"java/lang/StringUTF16", "compress", "([CI[BII)I"⟩ : MethodName) (head1 (Jvm.Cond.code (⟨"java/lang/StringUTF16", "compress", "([CI[BII)I"⟩ : MethodName) jdk_52_method_21_code 7 (Option.some FieldType.int) :: []) ({ frames := 0, cells := 0, slots := 0, locals := 0 } : Room)) (fun aa U => aa = #[(.ref ar), (.int (0 : Int32)), (.ref dt), (.int (0 : Int32)), (.int (Int32.ofNat n))] ∧ Z.Warmed39 U.vm ∧ U.heap = h0) (fun _ _ _ _ _ => True) (fun _ U o U' => ∃ v L, o = .returned v ∧ (Q_rmC3 Z dt kd ar ka cs N d0 n h0 k0) v U'.heap L ∧ FrameEnd U o U' L ({ frames := 0, cells := 0, slots := 0, locals := 0 } : Room).cells ({ frames := 0, cells := 0, slots := 0, locals := 0 } : Room).slots) := by
  refine own_walkN (by exact pnU) ?_
  intro p e s m below meth c T0 X0 hx hby hml hret hlk hnm hown hZ e0 es0 F hF
  refine own_on (fun _ => castTop (efC2 m ar 0 dt 0 _)) ?_
  have N0 := Fr.nil Z.heap.size
  refine own_iconst X0.here hx (hb hby dC2_0) (v := 0) rfl (pc' := 1) rfl ?_
  refine own_istore X0.here hx (hb hby dC2_1) (L' := #[.val (.ref ar), .val (.int ((0 : Int32))), .val (.ref dt), .val (.int ((0 : Int32))), .val (.int (Int32.ofNat n)), .val (.int ((0 : Int32))), .unset]) rfl (pc' := 3) rfl ?_
  have J : ∀ (d i : Nat) (_ : i + d = k0) (sl : Slot) (_ : sl = .unset ∨ ∃ cc : Int32, sl = .val (.int cc)) (TJ : State) (hJ : Heap) (LJ : List Loc), Stand p l e ({ frames := 0, cells := 0, slots := 0, locals := 0 } : Room) s m #[(.ref ar), (.int (0 : Int32)), (.ref dt), (.int (0 : Int32)), (.int (Int32.ofNat n))] below meth c TJ LJ 0 0 → TJ.heap = hJ → Fr Z.heap.size LJ → Keep h0 hJ [dt] → Arv Z hJ ar ka .char N (cs.map Value.int) d0 → Arv Z hJ dt kd .byte (Int32.ofNat n) (own_lo cs n i) (.int 0) → own_Go p e below F (TJ.setTop (mkF m 3 #[.val (.ref ar), .val (.int (Int32.ofNat i)), .val (.ref dt), .val (.int (Int32.ofNat i)), .val (.int (Int32.ofNat n)), .val (.int (Int32.ofNat i)), sl] [])) := by
    intro d
    induction d with
    | zero =>
      intro i hi sl hsl TJ hJ LJ XJ eJ NJ fQ fA fV
      obtain rfl : i = k0 := by omega
      rcases hsl with rfl | ⟨cc, rfl⟩
      · refine own_iload XJ.here hx (hb hby dC2_3) rfl (pc' := 5) rfl ?_
        refine own_iload XJ.here hx (hb hby dC2_5) rfl (pc' := 7) rfl ?_
        refine own_icmpge XJ.here hx (hb hby dC2_7) (by decide) (pc' := 44) (by decide) (pc2 := 10) rfl (fun q => absurd (own_ltN (by omega) (by omega)) q) (fun q1 => ?_)
        refine own_aload_n XJ.here hx (hb hby dC2_10) rfl rfl (pc' := 11) rfl ?_
        refine own_iload_n XJ.here hx (hb hby dC2_11) rfl (pc' := 12) rfl ?_
        refine own_caload XJ hx hZ eJ fA (w := cs.getD i 0) ⟨own_nn (by omega), by rw [hN]; exact own_ltN (by omega) (by omega)⟩ (by rw [own_tn (by omega)]; exact own_mapget (by omega)) (hb hby dC2_12) (pc' := 13) rfl ?_
        refine own_istore XJ.here hx (hb hby dC2_13) (L' := #[.val (.ref ar), .val (.int (Int32.ofNat i)), .val (.ref dt), .val (.int (Int32.ofNat i)), .val (.int (Int32.ofNat n)), .val (.int (Int32.ofNat i)), .val (.int (cs.getD i 0))]) rfl (pc' := 15) rfl ?_
        refine own_iload XJ.here hx (hb hby dC2_15) rfl (pc' := 17) rfl ?_
        refine own_sipush XJ.here hx (hb hby dC2_17) (v := 255) rfl (pc' := 20) rfl ?_
        refine own_icmple XJ.here hx (hb hby dC2_20) (by decide) (pc' := 26) (by decide) (pc2 := 23) rfl (fun q => absurd hk1 q) (fun q2 => ?_)
        refine own_iload XJ.here hx (hb hby dC2_23) rfl (pc' := 25) rfl ?_
        exact own_retI XJ hx hlk hret (hb hby dC2_25) (fun t ht hE => hF t _ _ _ _ (by rw [ht, (eJ : _ = hJ)]; exact ⟨rfl, NJ, fQ, fV⟩) hE (by decide) (by decide))
      · refine own_iload XJ.here hx (hb hby dC2_3) rfl (pc' := 5) rfl ?_
        refine own_iload XJ.here hx (hb hby dC2_5) rfl (pc' := 7) rfl ?_
        refine own_icmpge XJ.here hx (hb hby dC2_7) (by decide) (pc' := 44) (by decide) (pc2 := 10) rfl (fun q => absurd (own_ltN (by omega) (by omega)) q) (fun q3 => ?_)
        refine own_aload_n XJ.here hx (hb hby dC2_10) rfl rfl (pc' := 11) rfl ?_
        refine own_iload_n XJ.here hx (hb hby dC2_11) rfl (pc' := 12) rfl ?_
        refine own_caload XJ hx hZ eJ fA (w := cs.getD i 0) ⟨own_nn (by omega), by rw [hN]; exact own_ltN (by omega) (by omega)⟩ (by rw [own_tn (by omega)]; exact own_mapget (by omega)) (hb hby dC2_12) (pc' := 13) rfl ?_
        refine own_istore XJ.here hx (hb hby dC2_13) (L' := #[.val (.ref ar), .val (.int (Int32.ofNat i)), .val (.ref dt), .val (.int (Int32.ofNat i)), .val (.int (Int32.ofNat n)), .val (.int (Int32.ofNat i)), .val (.int (cs.getD i 0))]) rfl (pc' := 15) rfl ?_
        refine own_iload XJ.here hx (hb hby dC2_15) rfl (pc' := 17) rfl ?_
        refine own_sipush XJ.here hx (hb hby dC2_17) (v := 255) rfl (pc' := 20) rfl ?_
        refine own_icmple XJ.here hx (hb hby dC2_20) (by decide) (pc' := 26) (by decide) (pc2 := 23) rfl (fun q => absurd hk1 q) (fun q4 => ?_)
        refine own_iload XJ.here hx (hb hby dC2_23) rfl (pc' := 25) rfl ?_
        exact own_retI XJ hx hlk hret (hb hby dC2_25) (fun t ht hE => hF t _ _ _ _ (by rw [ht, (eJ : _ = hJ)]; exact ⟨rfl, NJ, fQ, fV⟩) hE (by decide) (by decide))
    | succ d ih =>
      intro i hi sl hsl TJ hJ LJ XJ eJ NJ fQ fA fV
      rcases hsl with rfl | ⟨cc, rfl⟩
      · refine own_iload XJ.here hx (hb hby dC2_3) rfl (pc' := 5) rfl ?_
        refine own_iload XJ.here hx (hb hby dC2_5) rfl (pc' := 7) rfl ?_
        refine own_icmpge XJ.here hx (hb hby dC2_7) (by decide) (pc' := 44) (by decide) (pc2 := 10) rfl (fun q => absurd (own_ltN (by omega) (by omega)) q) (fun q5 => ?_)
        refine own_aload_n XJ.here hx (hb hby dC2_10) rfl rfl (pc' := 11) rfl ?_
        refine own_iload_n XJ.here hx (hb hby dC2_11) rfl (pc' := 12) rfl ?_
        refine own_caload XJ hx hZ eJ fA (w := cs.getD i 0) ⟨own_nn (by omega), by rw [hN]; exact own_ltN (by omega) (by omega)⟩ (by rw [own_tn (by omega)]; exact own_mapget (by omega)) (hb hby dC2_12) (pc' := 13) rfl ?_
        refine own_istore XJ.here hx (hb hby dC2_13) (L' := #[.val (.ref ar), .val (.int (Int32.ofNat i)), .val (.ref dt), .val (.int (Int32.ofNat i)), .val (.int (Int32.ofNat n)), .val (.int (Int32.ofNat i)), .val (.int (cs.getD i 0))]) rfl (pc' := 15) rfl ?_
        refine own_iload XJ.here hx (hb hby dC2_15) rfl (pc' := 17) rfl ?_
        refine own_sipush XJ.here hx (hb hby dC2_17) (v := 255) rfl (pc' := 20) rfl ?_
        refine own_icmple XJ.here hx (hb hby dC2_20) (by decide) (pc' := 26) (by decide) (pc2 := 23) rfl (fun q6 => ?_) (fun q => absurd q (hq i (by omega)))
        refine own_aload_n XJ.here hx (hb hby dC2_26) rfl rfl (pc' := 27) rfl ?_
        refine own_iload_n XJ.here hx (hb hby dC2_27) rfl (pc' := 28) rfl ?_
        refine own_iload XJ.here hx (hb hby dC2_28) rfl (pc' := 30) rfl ?_
        refine own_i2b XJ.here hx (hb hby dC2_30) (pc' := 31) rfl ?_
        obtain ⟨T7, h7, X7, e7, W7, V7, st7⟩ := own_bast XJ hx hZ eJ fV (i := i) (own_tn (by omega)) (by rw [own_lo_len (by omega) hc]; omega) ⟨own_nn (by omega), own_ltN (by omega) (by omega)⟩  (g := (mkF m 31 #[.val (.ref ar), .val (.int (Int32.ofNat i)), .val (.ref dt), .val (.int (Int32.ofNat i)), .val (.int (Int32.ofNat n)), .val (.int (Int32.ofNat i)), .val (.int (cs.getD i 0))] [(.int ((cs.getD i 0).toInt8.toInt32)), (.int (Int32.ofNat i)), (.ref dt)])) rfl rfl (hb hby dC2_31)
        have f8 := fA.other W7 hne
        have f9 := fQ.wr W7 (Or.inl (by simp))
        have N10 := own_Fr_snoc (sl := (Int32.ofNat i).toNatClampNeg) NJ gd
        refine own_on st7 ?_
        show own_Go p e below F (T7.setTop (mkF m 32 #[.val (.ref ar), .val (.int (Int32.ofNat i)), .val (.ref dt), .val (.int (Int32.ofNat i)), .val (.int (Int32.ofNat n)), .val (.int (Int32.ofNat i)), .val (.int (cs.getD i 0))] []))
        rw [own_lo_set (by omega) hc] at V7
        refine own_iinc X7.here hx (hb hby dC2_32) rfl (y := Int32.ofNat (i + 1)) (own_inc _) (L' := #[.val (.ref ar), .val (.int (Int32.ofNat (i + 1))), .val (.ref dt), .val (.int (Int32.ofNat i)), .val (.int (Int32.ofNat n)), .val (.int (Int32.ofNat i)), .val (.int (cs.getD i 0))]) rfl (pc' := 35) rfl ?_
        refine own_iinc X7.here hx (hb hby dC2_35) rfl (y := Int32.ofNat (i + 1)) (own_inc _) (L' := #[.val (.ref ar), .val (.int (Int32.ofNat (i + 1))), .val (.ref dt), .val (.int (Int32.ofNat (i + 1))), .val (.int (Int32.ofNat n)), .val (.int (Int32.ofNat i)), .val (.int (cs.getD i 0))]) rfl (pc' := 38) rfl ?_
        refine own_iinc X7.here hx (hb hby dC2_38) rfl (y := Int32.ofNat (i + 1)) (own_inc _) (L' := #[.val (.ref ar), .val (.int (Int32.ofNat (i + 1))), .val (.ref dt), .val (.int (Int32.ofNat (i + 1))), .val (.int (Int32.ofNat n)), .val (.int (Int32.ofNat (i + 1))), .val (.int (cs.getD i 0))]) rfl (pc' := 41) rfl ?_
        refine own_goto X7.here hx (hb hby dC2_41) (by decide) (pc' := 3) (by decide) ?_
        exact ih (i + 1) (by omega) _ (Or.inr ⟨_, rfl⟩) _ _ _ X7 e7 N10 f9 f8 V7
      · refine own_iload XJ.here hx (hb hby dC2_3) rfl (pc' := 5) rfl ?_
        refine own_iload XJ.here hx (hb hby dC2_5) rfl (pc' := 7) rfl ?_
        refine own_icmpge XJ.here hx (hb hby dC2_7) (by decide) (pc' := 44) (by decide) (pc2 := 10) rfl (fun q => absurd (own_ltN (by omega) (by omega)) q) (fun q11 => ?_)
        refine own_aload_n XJ.here hx (hb hby dC2_10) rfl rfl (pc' := 11) rfl ?_
        refine own_iload_n XJ.here hx (hb hby dC2_11) rfl (pc' := 12) rfl ?_
        refine own_caload XJ hx hZ eJ fA (w := cs.getD i 0) ⟨own_nn (by omega), by rw [hN]; exact own_ltN (by omega) (by omega)⟩ (by rw [own_tn (by omega)]; exact own_mapget (by omega)) (hb hby dC2_12) (pc' := 13) rfl ?_
        refine own_istore XJ.here hx (hb hby dC2_13) (L' := #[.val (.ref ar), .val (.int (Int32.ofNat i)), .val (.ref dt), .val (.int (Int32.ofNat i)), .val (.int (Int32.ofNat n)), .val (.int (Int32.ofNat i)), .val (.int (cs.getD i 0))]) rfl (pc' := 15) rfl ?_
        refine own_iload XJ.here hx (hb hby dC2_15) rfl (pc' := 17) rfl ?_
        refine own_sipush XJ.here hx (hb hby dC2_17) (v := 255) rfl (pc' := 20) rfl ?_
        refine own_icmple XJ.here hx (hb hby dC2_20) (by decide) (pc' := 26) (by decide) (pc2 := 23) rfl (fun q12 => ?_) (fun q => absurd q (hq i (by omega)))
        refine own_aload_n XJ.here hx (hb hby dC2_26) rfl rfl (pc' := 27) rfl ?_
        refine own_iload_n XJ.here hx (hb hby dC2_27) rfl (pc' := 28) rfl ?_
        refine own_iload XJ.here hx (hb hby dC2_28) rfl (pc' := 30) rfl ?_
        refine own_i2b XJ.here hx (hb hby dC2_30) (pc' := 31) rfl ?_
        obtain ⟨T13, h13, X13, e13, W13, V13, st13⟩ := own_bast XJ hx hZ eJ fV (i := i) (own_tn (by omega)) (by rw [own_lo_len (by omega) hc]; omega) ⟨own_nn (by omega), own_ltN (by omega) (by omega)⟩  (g := (mkF m 31 #[.val (.ref ar), .val (.int (Int32.ofNat i)), .val (.ref dt), .val (.int (Int32.ofNat i)), .val (.int (Int32.ofNat n)), .val (.int (Int32.ofNat i)), .val (.int (cs.getD i 0))] [(.int ((cs.getD i 0).toInt8.toInt32)), (.int (Int32.ofNat i)), (.ref dt)])) rfl rfl (hb hby dC2_31)
        have f14 := fA.other W13 hne
        have f15 := fQ.wr W13 (Or.inl (by simp))
        have N16 := own_Fr_snoc (sl := (Int32.ofNat i).toNatClampNeg) NJ gd
        refine own_on st13 ?_
        show own_Go p e below F (T13.setTop (mkF m 32 #[.val (.ref ar), .val (.int (Int32.ofNat i)), .val (.ref dt), .val (.int (Int32.ofNat i)), .val (.int (Int32.ofNat n)), .val (.int (Int32.ofNat i)), .val (.int (cs.getD i 0))] []))
        rw [own_lo_set (by omega) hc] at V13
        refine own_iinc X13.here hx (hb hby dC2_32) rfl (y := Int32.ofNat (i + 1)) (own_inc _) (L' := #[.val (.ref ar), .val (.int (Int32.ofNat (i + 1))), .val (.ref dt), .val (.int (Int32.ofNat i)), .val (.int (Int32.ofNat n)), .val (.int (Int32.ofNat i)), .val (.int (cs.getD i 0))]) rfl (pc' := 35) rfl ?_
        refine own_iinc X13.here hx (hb hby dC2_35) rfl (y := Int32.ofNat (i + 1)) (own_inc _) (L' := #[.val (.ref ar), .val (.int (Int32.ofNat (i + 1))), .val (.ref dt), .val (.int (Int32.ofNat (i + 1))), .val (.int (Int32.ofNat n)), .val (.int (Int32.ofNat i)), .val (.int (cs.getD i 0))]) rfl (pc' := 38) rfl ?_
        refine own_iinc X13.here hx (hb hby dC2_38) rfl (y := Int32.ofNat (i + 1)) (own_inc _) (L' := #[.val (.ref ar), .val (.int (Int32.ofNat (i + 1))), .val (.ref dt), .val (.int (Int32.ofNat (i + 1))), .val (.int (Int32.ofNat n)), .val (.int (Int32.ofNat (i + 1))), .val (.int (cs.getD i 0))]) rfl (pc' := 41) rfl ?_
        refine own_goto X13.here hx (hb hby dC2_41) (by decide) (pc' := 3) (by decide) ?_
        exact ih (i + 1) (by omega) _ (Or.inr ⟨_, rfl⟩) _ _ _ X13 e13 N16 f15 f14 V13
  exact J k0 0 (by omega) _ (Or.inl rfl) _ _ _ X0 e0 N0 (Keep.refl h0 [dt]) A0 D0
theorem dC1_0 : decode jdk_52_method_16_code 0 = .ok (.iload_n 2, 1) := by decide +kernel
theorem dC1_1 : decode jdk_52_method_16_code 1 = .ok (.newarray .byte, 2) := by decide +kernel
theorem dC1_3 : decode jdk_52_method_16_code 3 = .ok (.astore_n 3, 1) := by decide +kernel
theorem dC1_4 : decode jdk_52_method_16_code 4 = .ok (.aload_n 0, 1) := by decide +kernel
theorem dC1_5 : decode jdk_52_method_16_code 5 = .ok (.iload_n 1, 1) := by decide +kernel
theorem dC1_6 : decode jdk_52_method_16_code 6 = .ok (.aload_n 3, 1) := by decide +kernel
theorem dC1_7 : decode jdk_52_method_16_code 7 = .ok (.iconst 0, 1) := by decide +kernel
theorem dC1_8 : decode jdk_52_method_16_code 8 = .ok (.iload_n 2, 1) := by decide +kernel
theorem dC1_9 : decode jdk_52_method_16_code 9 = .ok (.invokestatic 115, 3) := by decide +kernel
theorem dC1_12 : decode jdk_52_method_16_code 12 = .ok (.istore 4, 2) := by decide +kernel
theorem dC1_14 : decode jdk_52_method_16_code 14 = .ok (.iload 4, 2) := by decide +kernel
theorem dC1_16 : decode jdk_52_method_16_code 16 = .ok (.iload_n 2, 1) := by decide +kernel
theorem dC1_17 : decode jdk_52_method_16_code 17 = .ok (.if_icmp .eq 40, 3) := by decide +kernel
theorem dC1_20 : decode jdk_52_method_16_code 20 = .ok (.aload_n 0, 1) := by decide +kernel
theorem dC1_21 : decode jdk_52_method_16_code 21 = .ok (.iload_n 1, 1) := by decide +kernel
theorem dC1_22 : decode jdk_52_method_16_code 22 = .ok (.iload_n 2, 1) := by decide +kernel
theorem dC1_23 : decode jdk_52_method_16_code 23 = .ok (.invokestatic 119, 3) := by decide +kernel
theorem dC1_26 : decode jdk_52_method_16_code 26 = .ok (.astore 5, 2) := by decide +kernel
theorem dC1_28 : decode jdk_52_method_16_code 28 = .ok (.aload 5, 2) := by decide +kernel
theorem dC1_30 : decode jdk_52_method_16_code 30 = .ok (.iload 4, 2) := by decide +kernel
theorem dC1_32 : decode jdk_52_method_16_code 32 = .ok (.invokestatic 71, 3) := by decide +kernel
theorem dC1_35 : decode jdk_52_method_16_code 35 = .ok (.sipush 255, 3) := by decide +kernel
theorem dC1_38 : decode jdk_52_method_16_code 38 = .ok (.if_icmp .gt 16, 3) := by decide +kernel
theorem dC1_41 : decode jdk_52_method_16_code 41 = .ok (.aload 5, 2) := by decide +kernel
theorem dC1_43 : decode jdk_52_method_16_code 43 = .ok (.iconst 0, 1) := by decide +kernel
theorem dC1_44 : decode jdk_52_method_16_code 44 = .ok (.aload_n 3, 1) := by decide +kernel
theorem dC1_45 : decode jdk_52_method_16_code 45 = .ok (.iconst 0, 1) := by decide +kernel
theorem dC1_46 : decode jdk_52_method_16_code 46 = .ok (.iload_n 2, 1) := by decide +kernel
theorem dC1_47 : decode jdk_52_method_16_code 47 = .ok (.invokestatic 123, 3) := by decide +kernel
theorem dC1_50 : decode jdk_52_method_16_code 50 = .ok (.iload_n 2, 1) := by decide +kernel
theorem dC1_51 : decode jdk_52_method_16_code 51 = .ok (.if_icmp .eq 6, 3) := by decide +kernel
theorem dC1_54 : decode jdk_52_method_16_code 54 = .ok (.aload 5, 2) := by decide +kernel
theorem dC1_56 : decode jdk_52_method_16_code 56 = .ok (.areturn, 1) := by decide +kernel
theorem dC1_57 : decode jdk_52_method_16_code 57 = .ok (.aload_n 3, 1) := by decide +kernel
theorem dC1_58 : decode jdk_52_method_16_code 58 = .ok (.areturn, 1) := by decide +kernel
theorem efC1 (m : MethodId) (x0 : Addr) (x1 : Int32) (x2 : Int32) : entryFrame m #[(.ref x0), (.int x1), (.int x2)] 6 = mkF m 0 #[.val (.ref x0), .val (.int x1), .val (.int x2), .unset, .unset, .unset] [] := by first | (simp [entryFrame, mkF, argsToLocals, Value.category]; done) | rfl
def Q_rmC1 (Z : State) (ar : Addr) (ka : ClassId) (cs : List Int32) (N : Int32) (d0 : Value) (n : Nat) (h0 : Heap) (v : Option Value) (h : Heap) (L : List Loc) : Prop := ∃ t kt cd N2 vs, v = some (.ref t) ∧ Ext h0 h ∧ Fr Z.heap.size L ∧ h0.size ≤ t ∧ Arv Z h t kt .byte N2 vs (.int 0) ∧ StrChars.Road.CodA (cs.take n) cd N2 vs
set_option maxRecDepth 65536 in
set_option maxHeartbeats 40000000 in
theorem rmC1 (l : Launch) (Z : State) (a0 : Array Value) (hw : ∀ d ∈ tables_1, d.before a0 Z = true) (ar : Addr) (ka : ClassId) (cs : List Int32) (N : Int32) (d0 : Value) (n : Nat) (h0 : Heap) (EZ : Ext Z.heap h0) (O3 : Sta Z Z.heap "java/lang/StringUTF16" "$assertionsDisabled" "Z" (.int 1)) (O4 : Sta Z Z.heap "java/lang/StringUTF16" "HI_BYTE_SHIFT" "I" (.int 0)) (O5 : Sta Z Z.heap "java/lang/StringUTF16" "LO_BYTE_SHIFT" "I" (.int 8)) (A0 : Arv Z h0 ar ka .char N (cs.map Value.int) d0) (hN : N = Int32.ofNat cs.length) (hc : n ≤ cs.length) (hl : cs.length ≤ 4000) (hp : ∀ c ∈ cs, ¬ c < 0 ∧ ¬ (65535 : Int32) < c) (hn : n ≤ 64) :
    MetFree l (⟨"java/lang/StringUTF16", "compress", "([CII)[B"⟩ : MethodName) (head1 (Jvm.Cond.code (⟨"java/lang/StringUTF16", "compress", "([CII)[B"⟩ : MethodName) jdk_52_method_16_code 6 (Option.some (FieldType.array FieldType.byte)) :: []) ({ frames := 3, cells := 2, slots := 192, locals := 40 } : Room)) (fun aa U => aa = #[(.ref ar), (.int (0 : Int32)), (.int (Int32.ofNat n))] ∧ Z.Warmed39 U.vm ∧ U.heap = h0) (fun _ _ _ _ _ => True) (fun _ U o U' => ∃ v L, o = .returned v ∧ (Q_rmC1 Z ar ka cs N d0 n h0) v U'.heap L ∧ FrameEnd U o U' L ({ frames := 3, cells := 2, slots := 192, locals := 40 } : Room).cells ({ frames := 3, cells := 2, slots := 192, locals := 40 } : Room).slots) := by
  refine own_walkN (by exact pnU) ?_
  intro p e s m below meth c T0 X0 hx hby hml hret hlk hnm hown hZ e0 es0 F hF
  refine own_on (fun _ => castTop (efC1 m ar 0 _)) ?_
  have M0 := own_ext_refl h0
  have N0 := Fr.nil Z.heap.size
  refine own_iload_n X0.here hx (hb hby dC1_0) rfl (pc' := 1) rfl ?_
  obtain ⟨T1, h1, k1, X1, e1, E1, A1, st1⟩ := newP X0 hx hZ (hw _ (List.mem_of_getElem? (i := 23) rfl)) e0 (g := (mkF m 1 #[.val (.ref ar), .val (.int ((0 : Int32))), .val (.int (Int32.ofNat n)), .unset, .unset, .unset] [(.int (Int32.ofNat n))])) rfl (hb hby dC1_1) rfl (own_nn (by omega)) (cap := 64) (by rw [own_tn (by omega)]; omega) (by decide) (by decide) (by decide)
  obtain ⟨a1, g1⟩ : ∃ z, z = h0.size := ⟨_, rfl⟩
  rw [← g1] at A1 st1
  have ne2 : ar ≠ a1 := Nat.ne_of_lt (by rw [g1]; exact A0.lt)
  have ge3 : h0.size ≤ a1 := by rw [g1]; exact M0.1
  have f4 := own_ext_trans M0 E1
  have f5 := A0.ext E1
  have V1 := (Arv.new A1 (own_nn (by omega))).pad (pad_rep [] (defaultValue (newarray.typeOf .byte)) (Int32.ofNat n).toNatClampNeg)
  refine own_on st1 ?_
  show own_Go p e below F (T1.setTop (mkF m 3 #[.val (.ref ar), .val (.int ((0 : Int32))), .val (.int (Int32.ofNat n)), .unset, .unset, .unset] [(.ref a1)]))
  have gz_a1 : Z.heap.size ≤ a1 := Nat.le_trans EZ.1 ge3
  have D0 : Arv Z h1 a1 k1 .byte (Int32.ofNat n) (own_lo cs n 0) (.int 0) := by have q := V1; rw [own_tn (by omega)] at q; rw [show own_lo cs n 0 = [] ++ List.replicate n (.int 0) by simp [own_lo]]; exact q
  refine own_astore_n X1.here hx (hb hby dC1_3) rfl (L' := #[.val (.ref ar), .val (.int ((0 : Int32))), .val (.int (Int32.ofNat n)), .val (.ref a1), .unset, .unset]) rfl (pc' := 4) rfl ?_
  refine own_aload_n X1.here hx (hb hby dC1_4) rfl rfl (pc' := 5) rfl ?_
  refine own_iload_n X1.here hx (hb hby dC1_5) rfl (pc' := 6) rfl ?_
  refine own_aload_n X1.here hx (hb hby dC1_6) rfl rfl (pc' := 7) rfl ?_
  refine own_iconst X1.here hx (hb hby dC1_7) (v := 0) rfl (pc' := 8) rfl ?_
  refine own_iload_n X1.here hx (hb hby dC1_8) rfl (pc' := 9) rfl ?_
  rcases own_cases cs n hc with hq | ⟨k0, hk, hk1, hq⟩
  · obtain ⟨_, _, ⟨T6, L6, k6, n6⟩, -, X6, ⟨Lc6, hQ6, l6, y6, z6⟩, st6⟩ := Jvm.LawKit.callS X1 hx (y := (⟨"java/lang/StringUTF16", "compress", "([CI[BII)I"⟩ : MethodName)) hown (mvT hZ (hw _ (List.mem_of_getElem? (i := 44) rfl))) (mvT hZ (hw _ (List.mem_of_getElem? (i := 45) rfl))) (mvT hZ (hw _ (List.mem_of_getElem? (i := 42) rfl))) (mvT hZ (hw _ (List.mem_of_getElem? (i := 46) rfl))) (by decide) (backOf (W := 0) (rmC2 l Z a0 hw a1 k1 ar ka cs N d0 n h1 (own_ext_trans EZ f4) f5 hN hc hl gz_a1 ne2 D0 hq) hZ (hw _ (List.mem_of_getElem? (i := 46) rfl)) (hw _ (List.mem_of_getElem? (i := 42) rfl)) (by decide) (by decide)) (g := (mkF m 9 #[.val (.ref ar), .val (.int ((0 : Int32))), .val (.int (Int32.ofNat n)), .val (.ref a1), .unset, .unset] [(.int (Int32.ofNat n)), (.int ((0 : Int32))), (.ref a1), (.int ((0 : Int32))), (.ref ar)])) rfl (by rw [hml]; rfl) (argsL := [(.ref ar), (.int ((0 : Int32))), (.ref a1), (.int ((0 : Int32))), (.int (Int32.ofNat n))]) (rest := []) (lenOf pdx7 rfl) rfl (by show 2 * 0 + _ ≤ _; exact Nat.le_of_eq rfl) (hb hby dC1_9) (fun _ _ => ⟨rfl, e1, (Nat.le_of_ble_eq_true rfl), (Nat.le_of_ble_eq_true rfl)⟩)
    dsimp only [Pt.U, Pt.locs, Pt.cells, Pt.slots] at X6 l6 y6 z6 st6 hQ6
    subst l6 y6 z6
    obtain ⟨rfl, N6, K6, V6⟩ := hQ6
    refine own_on (st6) ?_
    show own_Go p e below F (T6.setTop (mkF m 12 #[.val (.ref ar), .val (.int ((0 : Int32))), .val (.int (Int32.ofNat n)), .val (.ref a1), .unset, .unset] [(.int (Int32.ofNat n))]))
    have f7 := own_ext_keep f4 K6 (fun y hy => by simp only [List.mem_cons, List.not_mem_nil, or_false] at hy; rcases hy with rfl <;> assumption)
    have f8 := f5.keep K6 (by simp only [List.mem_cons, List.not_mem_nil, or_false, not_or]; exact ne2)
    have N10 := Fr.app N0 N6
    refine own_istore X6.here hx (hb hby dC1_12) (L' := #[.val (.ref ar), .val (.int ((0 : Int32))), .val (.int (Int32.ofNat n)), .val (.ref a1), .val (.int (Int32.ofNat n)), .unset]) rfl (pc' := 14) rfl ?_
    refine own_iload X6.here hx (hb hby dC1_14) rfl (pc' := 16) rfl ?_
    refine own_iload_n X6.here hx (hb hby dC1_16) rfl (pc' := 17) rfl ?_
    refine own_icmpeq X6.here hx (hb hby dC1_17) (by decide) (pc' := 57) (by decide) (pc2 := 20) rfl (fun q11 => ?_) (fun q => absurd rfl q)
    refine own_aload_n X6.here hx (hb hby dC1_57) rfl rfl (pc' := 58) rfl ?_
    exact own_retA X6 hx hlk hret rfl rfl (hb hby dC1_58) (fun t ht hE => hF t _ _ _ _ (by rw [ht, (rfl : _ = T6.heap)]; exact ⟨a1, k1, 0, _, _, rfl, f7, N10, ge3, V6, own_codL hc hq⟩) hE (by decide) (by decide))
  · obtain ⟨_, _, ⟨T12, L12, k12, n12⟩, -, X12, ⟨Lc12, hQ12, l12, y12, z12⟩, st12⟩ := Jvm.LawKit.callS X1 hx (y := (⟨"java/lang/StringUTF16", "compress", "([CI[BII)I"⟩ : MethodName)) hown (mvT hZ (hw _ (List.mem_of_getElem? (i := 44) rfl))) (mvT hZ (hw _ (List.mem_of_getElem? (i := 45) rfl))) (mvT hZ (hw _ (List.mem_of_getElem? (i := 42) rfl))) (mvT hZ (hw _ (List.mem_of_getElem? (i := 46) rfl))) (by decide) (backOf (W := 0) (rmC3 l Z a0 hw a1 k1 ar ka cs N d0 n h1 (own_ext_trans EZ f4) f5 hN hc hl gz_a1 ne2 D0 k0 hk hk1 hq) hZ (hw _ (List.mem_of_getElem? (i := 46) rfl)) (hw _ (List.mem_of_getElem? (i := 42) rfl)) (by decide) (by decide)) (g := (mkF m 9 #[.val (.ref ar), .val (.int ((0 : Int32))), .val (.int (Int32.ofNat n)), .val (.ref a1), .unset, .unset] [(.int (Int32.ofNat n)), (.int ((0 : Int32))), (.ref a1), (.int ((0 : Int32))), (.ref ar)])) rfl (by rw [hml]; rfl) (argsL := [(.ref ar), (.int ((0 : Int32))), (.ref a1), (.int ((0 : Int32))), (.int (Int32.ofNat n))]) (rest := []) (lenOf pdx7 rfl) rfl (by show 2 * 0 + _ ≤ _; exact Nat.le_of_eq rfl) (hb hby dC1_9) (fun _ _ => ⟨rfl, e1, (Nat.le_of_ble_eq_true rfl), (Nat.le_of_ble_eq_true rfl)⟩)
    dsimp only [Pt.U, Pt.locs, Pt.cells, Pt.slots] at X12 l12 y12 z12 st12 hQ12
    subst l12 y12 z12
    obtain ⟨rfl, N12, K12, V12⟩ := hQ12
    refine own_on (st12) ?_
    show own_Go p e below F (T12.setTop (mkF m 12 #[.val (.ref ar), .val (.int ((0 : Int32))), .val (.int (Int32.ofNat n)), .val (.ref a1), .unset, .unset] [(.int (Int32.ofNat k0))]))
    have f13 := own_ext_keep f4 K12 (fun y hy => by simp only [List.mem_cons, List.not_mem_nil, or_false] at hy; rcases hy with rfl <;> assumption)
    have f14 := f5.keep K12 (by simp only [List.mem_cons, List.not_mem_nil, or_false, not_or]; exact ne2)
    have N16 := Fr.app N0 N12
    refine own_istore X12.here hx (hb hby dC1_12) (L' := #[.val (.ref ar), .val (.int ((0 : Int32))), .val (.int (Int32.ofNat n)), .val (.ref a1), .val (.int (Int32.ofNat k0)), .unset]) rfl (pc' := 14) rfl ?_
    refine own_iload X12.here hx (hb hby dC1_14) rfl (pc' := 16) rfl ?_
    refine own_iload_n X12.here hx (hb hby dC1_16) rfl (pc' := 17) rfl ?_
    refine own_icmpeq X12.here hx (hb hby dC1_17) (by decide) (pc' := 57) (by decide) (pc2 := 20) rfl (fun q => absurd (own_inj (by omega) (by omega) q) (by omega)) (fun q17 => ?_)
    refine own_aload_n X12.here hx (hb hby dC1_20) rfl rfl (pc' := 21) rfl ?_
    refine own_iload_n X12.here hx (hb hby dC1_21) rfl (pc' := 22) rfl ?_
    refine own_iload_n X12.here hx (hb hby dC1_22) rfl (pc' := 23) rfl ?_
    obtain ⟨_, _, ⟨T18, L18, k18, n18⟩, -, X18, ⟨Lc18, hQ18, l18, y18, z18⟩, st18⟩ := Jvm.LawKit.callS X12 hx (y := (⟨"java/lang/StringUTF16", "toBytes", "([CII)[B"⟩ : MethodName)) hown (mvT hZ (hw _ (List.mem_of_getElem? (i := 91) rfl))) (mvT hZ (hw _ (List.mem_of_getElem? (i := 92) rfl))) (mvT hZ (hw _ (List.mem_of_getElem? (i := 42) rfl))) (mvT hZ (hw _ (List.mem_of_getElem? (i := 93) rfl))) (by decide) (backOf (W := 0) (rmTB l Z a0 hw ar ka cs N d0 n T12.heap (own_ext_trans EZ f13) O3 O4 O5 f14 hN hc hl hn) hZ (hw _ (List.mem_of_getElem? (i := 93) rfl)) (hw _ (List.mem_of_getElem? (i := 42) rfl)) (by decide) (by decide)) (g := (mkF m 23 #[.val (.ref ar), .val (.int ((0 : Int32))), .val (.int (Int32.ofNat n)), .val (.ref a1), .val (.int (Int32.ofNat k0)), .unset] [(.int (Int32.ofNat n)), (.int ((0 : Int32))), (.ref ar)])) rfl (by rw [hml]; rfl) (argsL := [(.ref ar), (.int ((0 : Int32))), (.int (Int32.ofNat n))]) (rest := []) (lenOf pdx5 rfl) rfl (by show 2 * 0 + _ ≤ _; exact Nat.le_of_eq rfl) (hb hby dC1_23) (fun _ _ => ⟨rfl, rfl, (Nat.le_of_ble_eq_true rfl), (Nat.le_of_ble_eq_true rfl)⟩)
    dsimp only [Pt.U, Pt.locs, Pt.cells, Pt.slots] at X18 l18 y18 z18 st18 hQ18
    subst l18 y18 z18
    obtain ⟨t18, k18t, rfl, E18, N18, g18, V18⟩ := hQ18
    refine own_on (st18) ?_
    show own_Go p e below F (T18.setTop (mkF m 26 #[.val (.ref ar), .val (.int ((0 : Int32))), .val (.int (Int32.ofNat n)), .val (.ref a1), .val (.int (Int32.ofNat k0)), .unset] [(.ref t18)]))
    have f19 := own_ext_trans f13 E18
    have f20 := f14.ext E18
    have N21 := Fr.app N16 N18
    have hgl : h0.size ≤ t18 := Nat.le_trans f13.1 g18
    have hln : (cs.take n).length = n := by rw [List.length_take, Nat.min_eq_left hc]
    refine own_astore X18.here hx (hb hby dC1_26) rfl (L' := #[.val (.ref ar), .val (.int ((0 : Int32))), .val (.int (Int32.ofNat n)), .val (.ref a1), .val (.int (Int32.ofNat k0)), .val (.ref t18)]) rfl (pc' := 28) rfl ?_
    refine own_aload X18.here hx (hb hby dC1_28) rfl rfl (pc' := 30) rfl ?_
    refine own_iload X18.here hx (hb hby dC1_30) rfl (pc' := 32) rfl ?_
    obtain ⟨_, _, ⟨T22, L22, k22, n22⟩, -, X22, ⟨Lc22, hQ22, l22, y22, z22⟩, st22⟩ := Jvm.LawKit.callS X18 hx (y := (⟨"java/lang/StringUTF16", "getChar", "([BI)C"⟩ : MethodName)) hown (mvT hZ (hw _ (List.mem_of_getElem? (i := 107) rfl))) (mvT hZ (hw _ (List.mem_of_getElem? (i := 108) rfl))) (mvT hZ (hw _ (List.mem_of_getElem? (i := 42) rfl))) (mvT hZ (hw _ (List.mem_of_getElem? (i := 109) rfl))) (by decide) (backOf (W := 0) (rmGC l Z a0 hw t18 k18t (cs.take n) k0 T18.heap (own_ext_trans EZ f19) O3 O4 O5 (by rw [hln]; have q := V18; rw [show own_wi cs n n = StrChars.Road.wideBytes (cs.take n) by simp [own_wi]] at q; exact q) (fun c hc => hp c (List.mem_of_mem_take hc)) (by omega) (by omega)) hZ (hw _ (List.mem_of_getElem? (i := 109) rfl)) (hw _ (List.mem_of_getElem? (i := 42) rfl)) (by decide) (by decide)) (g := (mkF m 32 #[.val (.ref ar), .val (.int ((0 : Int32))), .val (.int (Int32.ofNat n)), .val (.ref a1), .val (.int (Int32.ofNat k0)), .val (.ref t18)] [(.int (Int32.ofNat k0)), (.ref t18)])) rfl (by rw [hml]; rfl) (argsL := [(.ref t18), (.int (Int32.ofNat k0))]) (rest := []) (lenOf pdx6 rfl) rfl (by show 2 * 0 + _ ≤ _; exact Nat.le_of_eq rfl) (hb hby dC1_32) (fun _ _ => ⟨rfl, rfl, (Nat.le_of_ble_eq_true rfl), (Nat.le_of_ble_eq_true rfl)⟩)
    dsimp only [Pt.U, Pt.locs, Pt.cells, Pt.slots] at X22 l22 y22 z22 st22 hQ22
    subst l22 y22 z22
    obtain ⟨rfl, N22, E22⟩ := hQ22
    refine own_on (st22) ?_
    show own_Go p e below F (T22.setTop (mkF m 35 #[.val (.ref ar), .val (.int ((0 : Int32))), .val (.int (Int32.ofNat n)), .val (.ref a1), .val (.int (Int32.ofNat k0)), .val (.ref t18)] [(.int ((cs.take n).getD k0 0))]))
    have N23 := Fr.app N21 N22
    rw [own_take_get hk]
    show own_Go p e below F (T22.setTop (mkF m 35 #[.val (.ref ar), .val (.int ((0 : Int32))), .val (.int (Int32.ofNat n)), .val (.ref a1), .val (.int (Int32.ofNat k0)), .val (.ref t18)] [(.int (cs.getD k0 0))]))
    refine own_sipush X22.here hx (hb hby dC1_35) (v := 255) rfl (pc' := 38) rfl ?_
    refine own_icmpgt X22.here hx (hb hby dC1_38) (by decide) (pc' := 54) (by decide) (pc2 := 41) rfl (fun q24 => ?_) (fun q => absurd hk1 q)
    refine own_aload X22.here hx (hb hby dC1_54) rfl rfl (pc' := 56) rfl ?_
    exact own_retA X22 hx hlk hret rfl rfl (hb hby dC1_56) (fun t ht hE => hF t _ _ _ _ (by rw [ht, (E22 : _ = T18.heap)]; exact ⟨t18, k18t, 1, _, _, rfl, f19, N23, hgl, V18, own_codW hc hk hk1⟩) hE (by decide) (by decide))
theorem dCF_0 : decode jdk_52_method_15_code 0 = .ok (.iload_n 1, 1) := by decide +kernel
theorem dCF_1 : decode jdk_52_method_15_code 1 = .ok (.aload_n 0, 1) := by decide +kernel
theorem dCF_2 : decode jdk_52_method_15_code 2 = .ok (.arraylength, 1) := by decide +kernel
theorem dCF_3 : decode jdk_52_method_15_code 3 = .ok (.isub, 1) := by decide +kernel
theorem dCF_4 : decode jdk_52_method_15_code 4 = .ok (.bipush 31, 2) := by decide +kernel
theorem dCF_6 : decode jdk_52_method_15_code 6 = .ok (.iushr, 1) := by decide +kernel
theorem dCF_7 : decode jdk_52_method_15_code 7 = .ok (.i2b, 1) := by decide +kernel
theorem dCF_8 : decode jdk_52_method_15_code 8 = .ok (.ireturn, 1) := by decide +kernel
def Q_rmCF (Z : State) (t : Addr) (kt : ClassId) (cs : List Int32) (cd N2 : Int32) (vs : List Value) (h0 : Heap) (v : Option Value) (h : Heap) (L : List Loc) : Prop := v = some (.int cd) ∧ Fr Z.heap.size L ∧ h = h0
set_option maxRecDepth 65536 in
set_option maxHeartbeats 40000000 in
theorem rmCF (l : Launch) (Z : State) (a0 : Array Value) (hw : ∀ d ∈ tables_1, d.before a0 Z = true) (t : Addr) (kt : ClassId) (cs : List Int32) (cd N2 : Int32) (vs : List Value) (h0 : Heap) (A0 : Arv Z h0 t kt .byte N2 vs (.int 0)) (hcd : StrChars.Road.CodA cs cd N2 vs) (hl0 : 0 < cs.length) (hl : cs.length ≤ 4000) :
    MetFree l (⟨"java/lang/StringUTF16", "coderFromArrayLen", "([BI)B"⟩ : MethodName) (head1 (Jvm.Cond.code (⟨"java/lang/StringUTF16", "coderFromArrayLen", "([BI)B"⟩ : MethodName) jdk_52_method_15_code 2 (Option.some FieldType.byte) :: []) ({ frames := 0, cells := 0, slots := 0, locals := 0 } : Room)) (fun aa U => aa = #[(.ref t), (.int (Int32.ofNat cs.length))] ∧ Z.Warmed39 U.vm ∧ U.heap = h0) (fun _ _ _ _ _ => True) (fun _ U o U' => ∃ v L, o = .returned v ∧ (Q_rmCF Z t kt cs cd N2 vs h0) v U'.heap L ∧ FrameEnd U o U' L ({ frames := 0, cells := 0, slots := 0, locals := 0 } : Room).cells ({ frames := 0, cells := 0, slots := 0, locals := 0 } : Room).slots) := by
  refine own_walkN (by exact pnU) ?_
  intro p e s m below meth c T0 X0 hx hby hml hret hlk hnm hown hZ e0 es0 F hF
  refine own_on (fun _ => castTop (efGC m t _)) ?_
  have N0 := Fr.nil Z.heap.size
  refine own_iload_n X0.here hx (hb hby dCF_0) rfl (pc' := 1) rfl ?_
  refine own_aload_n X0.here hx (hb hby dCF_1) rfl rfl (pc' := 2) rfl ?_
  refine own_alen X0 hx hZ e0 A0 (hb hby dCF_2) (pc' := 3) rfl ?_
  refine own_isub X0.here hx (hb hby dCF_3) (pc' := 4) rfl ?_
  refine own_bipush X0.here hx (hb hby dCF_4) (v := 31) rfl (pc' := 6) rfl ?_
  refine own_iushr X0.here hx (hb hby dCF_6) (pc' := 7) rfl ?_
  refine own_i2b X0.here hx (hb hby dCF_7) (pc' := 8) rfl ?_
  have hv : (XT.ushr ((Int32.ofNat cs.length) - N2) (31 : Int32)).toInt8.toInt32 = cd ∧ (cd = 0 ∨ cd = 1) := by
    rcases hcd with ⟨rfl, rfl, -, -⟩ | ⟨rfl, rfl, -, -⟩
    · exact ⟨own_coder0 _, Or.inl rfl⟩
    · exact ⟨own_coder1 hl0 hl, Or.inr rfl⟩
  rw [hv.1]
  show own_Go p e below F (T0.setTop (mkF m 8 #[.val (.ref t), .val (.int (Int32.ofNat cs.length))] [(.int cd)]))
  exact own_ret X0 hx hlk hret (by rcases hv.2 with rfl | rfl <;> rfl) (Or.inl ⟨rfl, Or.inr (Or.inr (Or.inl rfl)), _, rfl⟩) (hb hby dCF_8) (fun t ht hE => hF t _ _ _ _ (by rw [ht, (e0 : _ = h0)]; exact ⟨rfl, Fr.nil _, rfl⟩) hE (by decide) (by decide))
def Q_rmI4 (Z : State) (x ar : Addr) (ka : ClassId) (cs : List Int32) (N : Int32) (d0 : Value) (n : Nat) (h0 : Heap) (z0 : Int32) (v : Option Value) (h : Heap) (L : List Loc) : Prop := v = none ∧ Fr Z.heap.size L ∧ Keep h0 h [x] ∧ own_S Z h x (cs.take n)
set_option maxRecDepth 65536 in
set_option maxHeartbeats 40000000 in
theorem rmI4 (l : Launch) (Z : State) (a0 : Array Value) (hw : ∀ d ∈ tables_1, d.before a0 Z = true) (x ar : Addr) (ka : ClassId) (cs : List Int32) (N : Int32) (d0 : Value) (n : Nat) (h0 : Heap) (EZ : Ext Z.heap h0) (z0 : Int32) (O1 : Sta Z Z.heap "java/lang/String" "COMPACT_STRINGS" "Z" (.int z0)) (P5 : ¬ z0 = 0) (O3 : Sta Z Z.heap "java/lang/StringUTF16" "$assertionsDisabled" "Z" (.int 1)) (O4 : Sta Z Z.heap "java/lang/StringUTF16" "HI_BYTE_SHIFT" "I" (.int 0)) (O5 : Sta Z Z.heap "java/lang/StringUTF16" "LO_BYTE_SHIFT" "I" (.int 8)) (gx : Z.heap.size ≤ x) (hxa : ar ≠ x) (E0 : Exa Z h0 x "java/lang/String") (Fv : Fld Z h0 x "java/lang/String" "value" "[B" .null) (Fc : Fld Z h0 x "java/lang/String" "coder" "B" (.int (0 : Int32))) (A0 : Arv Z h0 ar ka .char N (cs.map Value.int) d0) (hN : N = Int32.ofNat cs.length) (hl : cs.length ≤ 4000) (hp : ∀ c ∈ cs, ¬ c < 0 ∧ ¬ (65535 : Int32) < c) (hc : n ≤ cs.length) (hn : n ≤ 64) (hn0 : 0 < n) :
    MetFree l (⟨"java/lang/String", "<init>", "([CIILjava/lang/Void;)V"⟩ : MethodName) (head1 (Jvm.Cond.code (⟨"java/lang/String", "<init>", "([CIILjava/lang/Void;)V"⟩ : MethodName) jdk_42_method_149_code 6 (Option.none : Option FieldType) :: []) ({ frames := 4, cells := 2, slots := 192, locals := 57 } : Room)) (fun aa U => aa = #[(.ref x), (.ref ar), (.int (0 : Int32)), (.int (Int32.ofNat n)), .null] ∧ Z.Warmed39 U.vm ∧ U.heap = h0) (fun _ _ _ _ _ => True) (fun _ U o U' => ∃ v L, o = .returned v ∧ (Q_rmI4 Z x ar ka cs N d0 n h0 z0) v U'.heap L ∧ FrameEnd U o U' L ({ frames := 4, cells := 2, slots := 192, locals := 57 } : Room).cells ({ frames := 4, cells := 2, slots := 192, locals := 57 } : Room).slots) := by
  refine own_walkN (by exact pnS) ?_
  intro p e s m below meth c T0 X0 hx hby hml hret hlk hnm hown hZ e0 es0 F hF
  refine own_on (fun _ => castTop (efE4 m x ar 0 _)) ?_
  have N0 := Fr.nil Z.heap.size
  have Q0 := Keep.refl h0 [x]
  have hln : (cs.take n).length = n := by rw [List.length_take, Nat.min_eq_left hc]
  refine own_aload_n X0.here hx (hb hby dE4_0) rfl rfl (pc' := 1) rfl ?_
  obtain ⟨T1, X1, e1, st1⟩ := initO X0 hx hZ hown (hw _ (List.mem_of_getElem? (i := 19) rfl)) (hw _ (List.mem_of_getElem? (i := 20) rfl)) (hw _ (List.mem_of_getElem? (i := 21) rfl)) e0 (g := (mkF m 1 #[.val (.ref x), .val (.ref ar), .val (.int ((0 : Int32))), .val (.int (Int32.ofNat n)), .val .null, .unset] [(.ref x)])) rfl (by rw [hml]; rfl) rfl (hb hby dE4_1) (by decide) (W := 0) (by show 2 * 0 + _ ≤ _; exact Nat.le_of_eq rfl) (by decide)
  refine own_on st1 ?_
  show own_Go p e below F (T1.setTop (mkF m 4 #[.val (.ref x), .val (.ref ar), .val (.int ((0 : Int32))), .val (.int (Int32.ofNat n)), .val .null, .unset] []))
  refine own_iload_n X1.here hx (hb hby dE4_4) rfl (pc' := 5) rfl ?_
  refine own_ifne X1.here hx (hb hby dE4_5) (by decide) (pc' := 27) (by decide) (pc2 := 8) rfl (fun q2 => ?_) (fun q => absurd (own_inj (k := 0) (by omega) (by omega) q) (by omega))
  obtain ⟨T3, X3, e3, st3⟩ := getS (host := "") X1 hx hZ hown (hw _ (List.mem_of_getElem? (i := 39) rfl)) Via.refl e1 (O1.ext EZ) (g := (mkF m 27 #[.val (.ref x), .val (.ref ar), .val (.int ((0 : Int32))), .val (.int (Int32.ofNat n)), .val .null, .unset] [])) rfl (hb hby dE4_27)
  refine own_on st3 ?_
  show own_Go p e below F (T3.setTop (mkF m 30 #[.val (.ref x), .val (.ref ar), .val (.int ((0 : Int32))), .val (.int (Int32.ofNat n)), .val .null, .unset] [(.int z0)]))
  refine own_ifeq X3.here hx (hb hby dE4_30) (by decide) (pc' := 58) (by decide) (pc2 := 33) rfl (fun q => absurd q P5) (fun q4 => ?_)
  refine own_aload_n X3.here hx (hb hby dE4_33) rfl rfl (pc' := 34) rfl ?_
  refine own_iload_n X3.here hx (hb hby dE4_34) rfl (pc' := 35) rfl ?_
  refine own_iload_n X3.here hx (hb hby dE4_35) rfl (pc' := 36) rfl ?_
  obtain ⟨_, _, ⟨T5, L5, k5, n5⟩, -, X5, ⟨Lc5, hQ5, l5, y5, z5⟩, st5⟩ := Jvm.LawKit.callS X3 hx (y := (⟨"java/lang/StringUTF16", "compress", "([CII)[B"⟩ : MethodName)) hown (mvT hZ (hw _ (List.mem_of_getElem? (i := 40) rfl))) (mvT hZ (hw _ (List.mem_of_getElem? (i := 41) rfl))) (mvT hZ (hw _ (List.mem_of_getElem? (i := 42) rfl))) (mvT hZ (hw _ (List.mem_of_getElem? (i := 43) rfl))) (by decide) (backOf (W := 0) (rmC1 l Z a0 hw ar ka cs N d0 n h0 EZ O3 O4 O5 A0 hN hc hl hp hn) hZ (hw _ (List.mem_of_getElem? (i := 43) rfl)) (hw _ (List.mem_of_getElem? (i := 42) rfl)) (by decide) (by decide)) (g := (mkF m 36 #[.val (.ref x), .val (.ref ar), .val (.int ((0 : Int32))), .val (.int (Int32.ofNat n)), .val .null, .unset] [(.int (Int32.ofNat n)), (.int ((0 : Int32))), (.ref ar)])) rfl (by rw [hml]; rfl) (argsL := [(.ref ar), (.int ((0 : Int32))), (.int (Int32.ofNat n))]) (rest := []) (lenOf pdx5 rfl) rfl (by show 2 * 0 + _ ≤ _; exact Nat.le_of_eq rfl) (hb hby dE4_36) (fun _ _ => ⟨rfl, e3, (Nat.le_of_ble_eq_true rfl), (Nat.le_of_ble_eq_true rfl)⟩)
  dsimp only [Pt.U, Pt.locs, Pt.cells, Pt.slots] at X5 l5 y5 z5 st5 hQ5
  subst l5 y5 z5
  obtain ⟨t5, k5t, cd, N2, vs, rfl, E5, N5, g5, V5, hcd⟩ := hQ5
  refine own_on (st5) ?_
  show own_Go p e below F (T5.setTop (mkF m 39 #[.val (.ref x), .val (.ref ar), .val (.int ((0 : Int32))), .val (.int (Int32.ofNat n)), .val .null, .unset] [(.ref t5)]))
  have f6 := Q0.ext E5
  have f7 := E0.ext E5
  have f8 := Fv.ext E5
  have f9 := Fc.ext E5
  have N10 := Fr.app N0 N5
  have hxt : x ≠ t5 := Nat.ne_of_lt (Nat.lt_of_lt_of_le E0.lt g5)
  refine own_astore X5.here hx (hb hby dE4_39) rfl (L' := #[.val (.ref x), .val (.ref ar), .val (.int ((0 : Int32))), .val (.int (Int32.ofNat n)), .val .null, .val (.ref t5)]) rfl (pc' := 41) rfl ?_
  refine own_aload_n X5.here hx (hb hby dE4_41) rfl rfl (pc' := 42) rfl ?_
  refine own_aload X5.here hx (hb hby dE4_42) rfl rfl (pc' := 44) rfl ?_
  refine own_iload_n X5.here hx (hb hby dE4_44) rfl (pc' := 45) rfl ?_
  have hcf := rmCF l Z a0 hw t5 k5t (cs.take n) cd N2 vs T5.heap V5 hcd (by omega) (by omega)
  rw [hln] at hcf
  obtain ⟨_, _, ⟨T11, L11, k11, n11⟩, -, X11, ⟨Lc11, hQ11, l11, y11, z11⟩, st11⟩ := Jvm.LawKit.callS X5 hx (y := (⟨"java/lang/StringUTF16", "coderFromArrayLen", "([BI)B"⟩ : MethodName)) hown (mvT hZ (hw _ (List.mem_of_getElem? (i := 47) rfl))) (mvT hZ (hw _ (List.mem_of_getElem? (i := 48) rfl))) (mvT hZ (hw _ (List.mem_of_getElem? (i := 42) rfl))) (mvT hZ (hw _ (List.mem_of_getElem? (i := 49) rfl))) (by decide) (backOf (W := 1) (hcf) hZ (hw _ (List.mem_of_getElem? (i := 49) rfl)) (hw _ (List.mem_of_getElem? (i := 42) rfl)) (by decide) (by decide)) (g := (mkF m 45 #[.val (.ref x), .val (.ref ar), .val (.int ((0 : Int32))), .val (.int (Int32.ofNat n)), .val .null, .val (.ref t5)] [(.int (Int32.ofNat n)), (.ref t5), (.ref x)])) rfl (by rw [hml]; rfl) (argsL := [(.ref t5), (.int (Int32.ofNat n))]) (rest := [(.ref x)]) (lenOf pdx8 rfl) rfl (by show 2 * 0 + _ ≤ _; exact Nat.le_of_eq rfl) (hb hby dE4_45) (fun _ _ => ⟨rfl, rfl, (Nat.le_of_ble_eq_true rfl), (Nat.le_of_ble_eq_true rfl)⟩)
  dsimp only [Pt.U, Pt.locs, Pt.cells, Pt.slots] at X11 l11 y11 z11 st11 hQ11
  subst l11 y11 z11
  obtain ⟨rfl, N11, E11⟩ := hQ11
  refine own_on (st11) ?_
  show own_Go p e below F (T11.setTop (mkF m 48 #[.val (.ref x), .val (.ref ar), .val (.int ((0 : Int32))), .val (.int (Int32.ofNat n)), .val .null, .val (.ref t5)] [(.int cd), (.ref x)]))
  have N12 := Fr.app N10 N11
  obtain ⟨T13, h13, X13, e13, W13, st13⟩ := putF X11 hx hZ hown (host := "") (Or.inl (hw _ (List.mem_of_getElem? (i := 29) rfl))) Via.refl E11 f9 f7 (Or.inr ⟨(hw _ (List.mem_of_getElem? (i := 25) rfl)), rfl, hnm⟩) (hw _ (List.mem_of_getElem? (i := 9) rfl)) (ty := .byte) (by decide) (by rcases hcd with ⟨rfl, -⟩ | ⟨rfl, -⟩ <;> rfl) (by rcases hcd with ⟨rfl, -⟩ | ⟨rfl, -⟩ <;> rfl) (g := (mkF m 48 #[.val (.ref x), .val (.ref ar), .val (.int ((0 : Int32))), .val (.int (Int32.ofNat n)), .val .null, .val (.ref t5)] [(.int cd), (.ref x)])) rfl rfl (hb hby dE4_48)
  have f14 := f7.wr W13
  have f15 := f8.other W13 (Or.inr (slot_ne (Or.inr (hw _ (List.mem_of_getElem? (i := 24) rfl))) (Or.inr (hw _ (List.mem_of_getElem? (i := 25) rfl))) (by decide) (t := .array .byte) (by decide) (t' := .byte) (by decide)))
  have f16 := f9.same W13
  have f17 := V5.other W13 (Ne.symm hxt)
  have f18 := f6.wr W13 (Or.inl (by simp))
  have N19 := own_Fr_snoc (sl := Jvm.RoadKit.slotOf Z "java/lang/String" "coder" "B") N12 gx
  refine own_on st13 ?_
  show own_Go p e below F (T13.setTop (mkF m 51 #[.val (.ref x), .val (.ref ar), .val (.int ((0 : Int32))), .val (.int (Int32.ofNat n)), .val .null, .val (.ref t5)] []))
  refine own_aload_n X13.here hx (hb hby dE4_51) rfl rfl (pc' := 52) rfl ?_
  refine own_aload X13.here hx (hb hby dE4_52) rfl rfl (pc' := 54) rfl ?_
  obtain ⟨T20, h20, X20, e20, W20, st20⟩ := putF X13 hx hZ hown (host := "") (Or.inl (hw _ (List.mem_of_getElem? (i := 28) rfl))) Via.refl e13 f15 f14 (Or.inr ⟨(hw _ (List.mem_of_getElem? (i := 24) rfl)), rfl, hnm⟩) (hw _ (List.mem_of_getElem? (i := 9) rfl)) (ty := .array .byte) (by decide) rfl rfl (g := (mkF m 54 #[.val (.ref x), .val (.ref ar), .val (.int ((0 : Int32))), .val (.int (Int32.ofNat n)), .val .null, .val (.ref t5)] [(.ref t5), (.ref x)])) rfl rfl (hb hby dE4_54)
  have f21 := f14.wr W20
  have f22 := f15.same W20
  have f23 := f16.other W20 (Or.inr (slot_ne (Or.inr (hw _ (List.mem_of_getElem? (i := 25) rfl))) (Or.inr (hw _ (List.mem_of_getElem? (i := 24) rfl))) (by decide) (t := .byte) (by decide) (t' := .array .byte) (by decide)))
  have f24 := f17.other W20 (Ne.symm hxt)
  have f25 := f18.wr W20 (Or.inl (by simp))
  have N26 := own_Fr_snoc (sl := Jvm.RoadKit.slotOf Z "java/lang/String" "value" "[B") N19 gx
  refine own_on st20 ?_
  show own_Go p e below F (T20.setTop (mkF m 57 #[.val (.ref x), .val (.ref ar), .val (.int ((0 : Int32))), .val (.int (Int32.ofNat n)), .val .null, .val (.ref t5)] []))
  exact own_retV X20 hx hlk hret (hb hby dE4_57) (fun t ht hE => hF t _ _ _ _ (by rw [ht, (e20 : _ = h20)]; exact ⟨rfl, N26, f25, t5, k5t, cd, N2, vs, f21, f22, f23, f24, hcd, (fun c hc => hp c (List.mem_of_mem_take hc)), (by omega)⟩) hE (by decide) (by decide))
def Q_rmI1 (Z : State) (x ar : Addr) (ka : ClassId) (cs : List Int32) (N : Int32) (d0 : Value) (h0 : Heap) (z0 : Int32) (v : Option Value) (h : Heap) (L : List Loc) : Prop := v = none ∧ Fr Z.heap.size L ∧ Keep h0 h [x] ∧ own_S Z h x cs
set_option maxRecDepth 65536 in
set_option maxHeartbeats 40000000 in
theorem rmI1 (l : Launch) (Z : State) (a0 : Array Value) (hw : ∀ d ∈ tables_1, d.before a0 Z = true) (x ar : Addr) (ka : ClassId) (cs : List Int32) (N : Int32) (d0 : Value) (h0 : Heap) (EZ : Ext Z.heap h0) (z0 : Int32) (O1 : Sta Z Z.heap "java/lang/String" "COMPACT_STRINGS" "Z" (.int z0)) (P5 : ¬ z0 = 0) (O3 : Sta Z Z.heap "java/lang/StringUTF16" "$assertionsDisabled" "Z" (.int 1)) (O4 : Sta Z Z.heap "java/lang/StringUTF16" "HI_BYTE_SHIFT" "I" (.int 0)) (O5 : Sta Z Z.heap "java/lang/StringUTF16" "LO_BYTE_SHIFT" "I" (.int 8)) (gx : Z.heap.size ≤ x) (hxa : ar ≠ x) (E0 : Exa Z h0 x "java/lang/String") (Fv : Fld Z h0 x "java/lang/String" "value" "[B" .null) (Fc : Fld Z h0 x "java/lang/String" "coder" "B" (.int (0 : Int32))) (A0 : Arv Z h0 ar ka .char N (cs.map Value.int) d0) (hN : N = Int32.ofNat cs.length) (hl : cs.length ≤ 4000) (hp : ∀ c ∈ cs, ¬ c < 0 ∧ ¬ (65535 : Int32) < c) (hn : cs.length ≤ 64) (hn0 : 0 < cs.length) :
    MetFree l (⟨"java/lang/String", "<init>", "([C)V"⟩ : MethodName) (head1 (Jvm.Cond.code (⟨"java/lang/String", "<init>", "([C)V"⟩ : MethodName) jdk_42_method_3_code 2 (Option.none : Option FieldType) :: []) ({ frames := 5, cells := 2, slots := 192, locals := 74 } : Room)) (fun aa U => aa = #[(.ref x), (.ref ar)] ∧ Z.Warmed39 U.vm ∧ U.heap = h0) (fun _ _ _ _ _ => True) (fun _ U o U' => ∃ v L, o = .returned v ∧ (Q_rmI1 Z x ar ka cs N d0 h0 z0) v U'.heap L ∧ FrameEnd U o U' L ({ frames := 5, cells := 2, slots := 192, locals := 74 } : Room).cells ({ frames := 5, cells := 2, slots := 192, locals := 74 } : Room).slots) := by
  subst hN
  refine own_walkN (by exact pnS) ?_
  intro p e s m below meth c T0 X0 hx hby hml hret hlk hnm hown hZ e0 es0 F hF
  refine own_on (fun _ => castTop (efE1 m x ar)) ?_
  have N0 := Fr.nil Z.heap.size
  refine own_aload_n X0.here hx (hb hby dE1_0) rfl rfl (pc' := 1) rfl ?_
  refine own_aload_n X0.here hx (hb hby dE1_1) rfl rfl (pc' := 2) rfl ?_
  refine own_iconst X0.here hx (hb hby dE1_2) (v := 0) rfl (pc' := 3) rfl ?_
  refine own_aload_n X0.here hx (hb hby dE1_3) rfl rfl (pc' := 4) rfl ?_
  refine own_alen X0 hx hZ e0 A0 (hb hby dE1_4) (pc' := 5) rfl ?_
  refine own_aconst_null X0.here hx (hb hby dE1_5) (pc' := 6) rfl ?_
  obtain ⟨_, _, ⟨T1, L1, k1, n1⟩, -, X1, ⟨Lc1, hQ1, l1, y1, z1⟩, st1⟩ := X0.specialBack hx (y := (⟨"java/lang/String", "<init>", "([CIILjava/lang/Void;)V"⟩ : MethodName)) rfl hown (mvT hZ (hw _ (List.mem_of_getElem? (i := 15) rfl))) (mvT hZ (hw _ (List.mem_of_getElem? (i := 16) rfl))) (mvT hZ (hw _ (List.mem_of_getElem? (i := 18) rfl))) (by decide) (backOf (W := 0) (rmI4 l Z a0 hw x ar ka cs _ d0 cs.length h0 EZ z0 O1 P5 O3 O4 O5 gx hxa E0 Fv Fc A0 rfl hl hp (Nat.le_refl _) hn hn0) hZ (hw _ (List.mem_of_getElem? (i := 18) rfl)) (hw _ (List.mem_of_getElem? (i := 10) rfl)) (by decide) (by decide)) (g := (mkF m 6 #[.val (.ref x), .val (.ref ar)] [.null, (.int (Int32.ofNat cs.length)), (.int ((0 : Int32))), (.ref ar), (.ref x)])) rfl (by rw [hml]; rfl) (Steps.refl _) (a := x) (argsL := [(.ref ar), (.int ((0 : Int32))), (.int (Int32.ofNat cs.length)), .null]) (rest := []) (lenOf pdE4 rfl) rfl (by show 2 * 0 + _ ≤ _; exact Nat.le_of_eq rfl) (hb hby dE1_6) (fun _ _ => ⟨rfl, e0, (Nat.le_of_ble_eq_true rfl), (Nat.le_of_ble_eq_true rfl)⟩)
  dsimp only [Pt.U, Pt.locs, Pt.cells, Pt.slots] at X1 l1 y1 z1 st1 hQ1
  subst l1 y1 z1
  obtain ⟨rfl, N1, K1, S1⟩ := hQ1
  refine own_to st1 ?_
  show own_Go p e below F (T1.setTop (mkF m 9 #[.val (.ref x), .val (.ref ar)] []))
  have N2 := Fr.app N0 N1
  rw [List.take_length] at S1
  exact own_retV X1 hx hlk hret (hb hby dE1_9) (fun t ht hE => hF t _ _ _ _ (by rw [ht, (rfl : _ = T1.heap)]; exact ⟨rfl, N2, K1, S1⟩) hE (by decide) (by decide))
theorem pdx9 : parseMethodDescriptor "(II)V" = some ⟨[.int, .int], none⟩ := by decide +kernel
theorem pdx10 : parseMethodDescriptor "(IILjava/util/function/BiFunction;)I" = some ⟨[.int, .int, .object "java/util/function/BiFunction"], some .int⟩ := by decide +kernel
theorem pnPC : plainName "jdk/internal/util/Preconditions" = true := by first | (simp [plainName, overriddenIn]; done) | decide +kernel
theorem dCk_0 : decode jdk_41_method_11_code 0 = .ok (.iload_n 0, 1) := by decide +kernel
theorem dCk_1 : decode jdk_41_method_11_code 1 = .ok (.ifCond .lt 8, 3) := by decide +kernel
theorem dCk_4 : decode jdk_41_method_11_code 4 = .ok (.iload_n 0, 1) := by decide +kernel
theorem dCk_5 : decode jdk_41_method_11_code 5 = .ok (.iload_n 1, 1) := by decide +kernel
theorem dCk_6 : decode jdk_41_method_11_code 6 = .ok (.if_icmp .lt 10, 3) := by decide +kernel
theorem dCk_9 : decode jdk_41_method_11_code 9 = .ok (.aload_n 2, 1) := by decide +kernel
theorem dCk_10 : decode jdk_41_method_11_code 10 = .ok (.iload_n 0, 1) := by decide +kernel
theorem dCk_11 : decode jdk_41_method_11_code 11 = .ok (.iload_n 1, 1) := by decide +kernel
theorem dCk_12 : decode jdk_41_method_11_code 12 = .ok (.invokestatic 95, 3) := by decide +kernel
theorem dCk_15 : decode jdk_41_method_11_code 15 = .ok (.athrow, 1) := by decide +kernel
theorem dCk_16 : decode jdk_41_method_11_code 16 = .ok (.iload_n 0, 1) := by decide +kernel
theorem dCk_17 : decode jdk_41_method_11_code 17 = .ok (.ireturn, 1) := by decide +kernel
theorem efCk (m : MethodId) (x0 : Int32) (x1 : Int32) (x2 : Value) (hc : x2.isRef = true) : entryFrame m #[(.int x0), (.int x1), x2] 3 = mkF m 0 #[.val (.int x0), .val (.int x1), .val x2] [] := by cases x2 <;> first | (cases hc; done) | (simp [entryFrame, mkF, argsToLocals, Value.category]; done) | rfl
def Q_rmCk (Z : State) (i0 n0 : Int32) (h0 : Heap) (fm : Value) (v : Option Value) (h : Heap) (L : List Loc) : Prop := v = some (.int i0) ∧ Fr Z.heap.size L ∧ h = h0
set_option maxRecDepth 65536 in
set_option maxHeartbeats 40000000 in
theorem rmCk (l : Launch) (Z : State) (a0 : Array Value) (hw : ∀ d ∈ tables_1, d.before a0 Z = true) (i0 n0 : Int32) (h0 : Heap) (fm : Value) (hc : fm.isRef = true) (hq1 : ¬ i0 < 0) (hq2 : i0 < n0) :
    MetFree l (⟨"jdk/internal/util/Preconditions", "checkIndex", "(IILjava/util/function/BiFunction;)I"⟩ : MethodName) (head1 (Jvm.Cond.code (⟨"jdk/internal/util/Preconditions", "checkIndex", "(IILjava/util/function/BiFunction;)I"⟩ : MethodName) jdk_41_method_11_code 3 (Option.some FieldType.int) :: []) ({ frames := 0, cells := 0, slots := 0, locals := 0 } : Room)) (fun aa U => aa = #[(.int i0), (.int n0), fm] ∧ Z.Warmed39 U.vm ∧ U.heap = h0) (fun _ _ _ _ _ => True) (fun _ U o U' => ∃ v L, o = .returned v ∧ (Q_rmCk Z i0 n0 h0 fm) v U'.heap L ∧ FrameEnd U o U' L ({ frames := 0, cells := 0, slots := 0, locals := 0 } : Room).cells ({ frames := 0, cells := 0, slots := 0, locals := 0 } : Room).slots) := by
  refine own_walkN (by exact pnPC) ?_
  intro p e s m below meth c T0 X0 hx hby hml hret hlk hnm hown hZ e0 es0 F hF
  refine own_on (fun _ => castTop (efCk m i0 n0 fm hc)) ?_
  refine own_iload_n X0.here hx (hb hby dCk_0) rfl (pc' := 1) rfl ?_
  refine own_iflt X0.here hx (hb hby dCk_1) (by decide) (pc' := 9) (by decide) (pc2 := 4) rfl (fun q => absurd q hq1) (fun q1 => ?_)
  refine own_iload_n X0.here hx (hb hby dCk_4) rfl (pc' := 5) rfl ?_
  refine own_iload_n X0.here hx (hb hby dCk_5) rfl (pc' := 6) rfl ?_
  refine own_icmplt X0.here hx (hb hby dCk_6) (by decide) (pc' := 16) (by decide) (pc2 := 9) rfl (fun q2 => ?_) (fun q => absurd hq2 q)
  refine own_iload_n X0.here hx (hb hby dCk_16) rfl (pc' := 17) rfl ?_
  exact own_retI X0 hx hlk hret (hb hby dCk_17) (fun t ht hE => hF t _ _ _ _ (by rw [ht, (e0 : _ = h0)]; exact ⟨rfl, Fr.nil _, rfl⟩) hE (by decide) (by decide))
theorem dCi_0 : decode jdk_42_method_155_code 0 = .ok (.iload_n 0, 1) := by decide +kernel
theorem dCi_1 : decode jdk_42_method_155_code 1 = .ok (.iload_n 1, 1) := by decide +kernel
theorem dCi_2 : decode jdk_42_method_155_code 2 = .ok (.getstatic 1053, 3) := by decide +kernel
theorem dCi_5 : decode jdk_42_method_155_code 5 = .ok (.invokestatic 1059, 3) := by decide +kernel
theorem dCi_8 : decode jdk_42_method_155_code 8 = .ok (.pop, 1) := by decide +kernel
theorem dCi_9 : decode jdk_42_method_155_code 9 = .ok (.return_, 1) := by decide +kernel
theorem efII (m : MethodId) (x0 : Int32) (x1 : Int32) : entryFrame m #[(.int x0), (.int x1)] 2 = mkF m 0 #[.val (.int x0), .val (.int x1)] [] := by first | (simp [entryFrame, mkF, argsToLocals, Value.category]; done) | rfl
def Q_rmCi (Z : State) (i0 n0 : Int32) (h0 : Heap) (fm : Value) (v : Option Value) (h : Heap) (L : List Loc) : Prop := v = none ∧ Fr Z.heap.size L ∧ h = h0
set_option maxRecDepth 65536 in
set_option maxHeartbeats 40000000 in
theorem rmCi (l : Launch) (Z : State) (a0 : Array Value) (hw : ∀ d ∈ tables_1, d.before a0 Z = true) (i0 n0 : Int32) (h0 : Heap) (EZ : Ext Z.heap h0) (fm : Value) (O2 : Sta Z Z.heap "jdk/internal/util/Preconditions" "SIOOBE_FORMATTER" "Ljava/util/function/BiFunction;" fm) (rf : fm.isRef = true) (hq1 : ¬ i0 < 0) (hq2 : i0 < n0) :
    MetFree l (⟨"java/lang/String", "checkIndex", "(II)V"⟩ : MethodName) (head1 (Jvm.Cond.code (⟨"java/lang/String", "checkIndex", "(II)V"⟩ : MethodName) jdk_42_method_155_code 2 (Option.none : Option FieldType) :: []) ({ frames := 1, cells := 0, slots := 0, locals := 14 } : Room)) (fun aa U => aa = #[(.int i0), (.int n0)] ∧ Z.Warmed39 U.vm ∧ U.heap = h0) (fun _ _ _ _ _ => True) (fun _ U o U' => ∃ v L, o = .returned v ∧ (Q_rmCi Z i0 n0 h0 fm) v U'.heap L ∧ FrameEnd U o U' L ({ frames := 1, cells := 0, slots := 0, locals := 14 } : Room).cells ({ frames := 1, cells := 0, slots := 0, locals := 14 } : Room).slots) := by
  refine own_walkN (by exact pnS) ?_
  intro p e s m below meth c T0 X0 hx hby hml hret hlk hnm hown hZ e0 es0 F hF
  refine own_on (fun _ => castTop (efII m i0 n0)) ?_
  have N0 := Fr.nil Z.heap.size
  refine own_iload_n X0.here hx (hb hby dCi_0) rfl (pc' := 1) rfl ?_
  refine own_iload_n X0.here hx (hb hby dCi_1) rfl (pc' := 2) rfl ?_
  obtain ⟨T1, X1, e1, st1⟩ := getS (host := "") X0 hx hZ hown (hw _ (List.mem_of_getElem? (i := 83) rfl)) Via.refl e0 (O2.ext EZ) (g := (mkF m 2 #[.val (.int i0), .val (.int n0)] [(.int n0), (.int i0)])) rfl (hb hby dCi_2)
  refine own_on st1 ?_
  show own_Go p e below F (T1.setTop (mkF m 5 #[.val (.int i0), .val (.int n0)] [fm, (.int n0), (.int i0)]))
  obtain ⟨_, _, ⟨T2, L2, k2, n2⟩, -, X2, ⟨Lc2, hQ2, l2, y2, z2⟩, st2⟩ := Jvm.LawKit.callS X1 hx (y := (⟨"jdk/internal/util/Preconditions", "checkIndex", "(IILjava/util/function/BiFunction;)I"⟩ : MethodName)) hown (mvT hZ (hw _ (List.mem_of_getElem? (i := 85) rfl))) (mvT hZ (hw _ (List.mem_of_getElem? (i := 86) rfl))) (mvT hZ (hw _ (List.mem_of_getElem? (i := 84) rfl))) (mvT hZ (hw _ (List.mem_of_getElem? (i := 87) rfl))) (by decide) (backOf (W := 0) (rmCk l Z a0 hw i0 n0 h0 fm rf hq1 hq2) hZ (hw _ (List.mem_of_getElem? (i := 87) rfl)) (hw _ (List.mem_of_getElem? (i := 84) rfl)) (by decide) (by decide)) (g := (mkF m 5 #[.val (.int i0), .val (.int n0)] [fm, (.int n0), (.int i0)])) rfl (by rw [hml]; rfl) (argsL := [(.int i0), (.int n0), fm]) (rest := []) (lenOf pdx10 rfl) rfl (by show 2 * 0 + _ ≤ _; exact Nat.le_of_eq rfl) (hb hby dCi_5) (fun _ _ => ⟨rfl, e1, (Nat.le_of_ble_eq_true rfl), (Nat.le_of_ble_eq_true rfl)⟩)
  dsimp only [Pt.U, Pt.locs, Pt.cells, Pt.slots] at X2 l2 y2 z2 st2 hQ2
  subst l2 y2 z2
  obtain ⟨rfl, N2, E2⟩ := hQ2
  refine own_on (st2) ?_
  show own_Go p e below F (T2.setTop (mkF m 8 #[.val (.int i0), .val (.int n0)] [(.int i0)]))
  have N3 := Fr.app N0 N2
  refine own_pop X2.here hx (hb hby dCi_8) rfl (pc' := 9) rfl ?_
  exact own_retV X2 hx hlk hret (hb hby dCi_9) (fun t ht hE => hF t _ _ _ _ (by rw [ht, (E2 : _ = h0)]; exact ⟨rfl, N3, rfl⟩) hE (by decide) (by decide))
theorem pdx11 : parseMethodDescriptor "()Z" = some ⟨[], some .boolean⟩ := by decide +kernel
theorem dIL_0 : decode jdk_42_method_154_code 0 = .ok (.getstatic 38, 3) := by decide +kernel
theorem dIL_3 : decode jdk_42_method_154_code 3 = .ok (.ifCond .eq 14, 3) := by decide +kernel
theorem dIL_6 : decode jdk_42_method_154_code 6 = .ok (.aload_n 0, 1) := by decide +kernel
theorem dIL_7 : decode jdk_42_method_154_code 7 = .ok (.getfield 15, 3) := by decide +kernel
theorem dIL_10 : decode jdk_42_method_154_code 10 = .ok (.ifCond .ne 7, 3) := by decide +kernel
theorem dIL_13 : decode jdk_42_method_154_code 13 = .ok (.iconst 1, 1) := by decide +kernel
theorem dIL_14 : decode jdk_42_method_154_code 14 = .ok (.goto 4, 3) := by decide +kernel
theorem dIL_17 : decode jdk_42_method_154_code 17 = .ok (.iconst 0, 1) := by decide +kernel
theorem dIL_18 : decode jdk_42_method_154_code 18 = .ok (.ireturn, 1) := by decide +kernel
def Q_rmIL (Z : State) (x : Addr) (cd : Int32) (h0 : Heap) (z0 : Int32) (v : Option Value) (h : Heap) (L : List Loc) : Prop := v = some (.int (if cd = 0 then (1 : Int32) else 0)) ∧ Fr Z.heap.size L ∧ h = h0
set_option maxRecDepth 65536 in
set_option maxHeartbeats 40000000 in
theorem rmIL (l : Launch) (Z : State) (a0 : Array Value) (hw : ∀ d ∈ tables_1, d.before a0 Z = true) (x : Addr) (cd : Int32) (h0 : Heap) (EZ : Ext Z.heap h0) (z0 : Int32) (O1 : Sta Z Z.heap "java/lang/String" "COMPACT_STRINGS" "Z" (.int z0)) (P5 : ¬ z0 = 0) (sC : Fld Z h0 x "java/lang/String" "coder" "B" (.int cd)) :
    MetFree l (⟨"java/lang/String", "isLatin1", "()Z"⟩ : MethodName) (head1 (Jvm.Cond.code (⟨"java/lang/String", "isLatin1", "()Z"⟩ : MethodName) jdk_42_method_154_code 1 (Option.some FieldType.boolean) :: []) ({ frames := 0, cells := 0, slots := 0, locals := 0 } : Room)) (fun aa U => aa = #[(.ref x)] ∧ Z.Warmed39 U.vm ∧ U.heap = h0) (fun _ _ _ _ _ => True) (fun _ U o U' => ∃ v L, o = .returned v ∧ (Q_rmIL Z x cd h0 z0) v U'.heap L ∧ FrameEnd U o U' L ({ frames := 0, cells := 0, slots := 0, locals := 0 } : Room).cells ({ frames := 0, cells := 0, slots := 0, locals := 0 } : Room).slots) := by
  refine own_walkN (by exact pnS) ?_
  intro p e s m below meth c T0 X0 hx hby hml hret hlk hnm hown hZ e0 es0 F hF
  refine own_on (fun _ => castTop (efR m x)) ?_
  obtain ⟨T1, X1, e1, st1⟩ := getS (host := "") X0 hx hZ hown (hw _ (List.mem_of_getElem? (i := 39) rfl)) Via.refl e0 (O1.ext EZ) (g := (mkF m 0 #[.val (.ref x)] [])) rfl (hb hby dIL_0)
  refine own_on st1 ?_
  show own_Go p e below F (T1.setTop (mkF m 3 #[.val (.ref x)] [(.int z0)]))
  refine own_ifeq X1.here hx (hb hby dIL_3) (by decide) (pc' := 17) (by decide) (pc2 := 6) rfl (fun q => absurd q P5) (fun q2 => ?_)
  refine own_aload_n X1.here hx (hb hby dIL_6) rfl rfl (pc' := 7) rfl ?_
  obtain ⟨T3, X3, e3, st3⟩ := getF X1 hx hZ hown (host := "") (Or.inl (hw _ (List.mem_of_getElem? (i := 29) rfl))) Via.refl e1 sC (g := (mkF m 7 #[.val (.ref x)] [(.ref x)])) rfl rfl (hb hby dIL_7)
  refine own_on st3 ?_
  show own_Go p e below F (T3.setTop (mkF m 10 #[.val (.ref x)] [(.int cd)]))
  refine own_ifne X3.here hx (hb hby dIL_10) (by decide) (pc' := 17) (by decide) (pc2 := 13) rfl (fun q1 => ?_) (fun q1 => ?_)
  · refine own_iconst X3.here hx (hb hby dIL_17) (v := 0) rfl (pc' := 18) rfl ?_
    exact own_retZ X3 hx hlk (by decide) hret (hb hby dIL_18) (fun t ht hE => hF t _ _ _ _ (by rw [ht, (e3 : _ = h0)]; exact ⟨by rw [if_neg q1], Fr.nil _, rfl⟩) hE (by decide) (by decide))
  · refine own_iconst X3.here hx (hb hby dIL_13) (v := 1) rfl (pc' := 14) rfl ?_
    refine own_goto X3.here hx (hb hby dIL_14) (by decide) (pc' := 18) (by decide) ?_
    exact own_retZ X3 hx hlk (by decide) hret (hb hby dIL_18) (fun t ht hE => hF t _ _ _ _ (by rw [ht, (e3 : _ = h0)]; exact ⟨by rw [if_pos q1], Fr.nil _, rfl⟩) hE (by decide) (by decide))
theorem pdx12 : parseMethodDescriptor "(I[B)V" = some ⟨[.int, .array .byte], none⟩ := by decide +kernel
theorem pdx13 : parseMethodDescriptor "([B)I" = some ⟨[.array .byte], some .int⟩ := by decide +kernel
theorem pdx14 : parseMethodDescriptor "(I)C" = some ⟨[.int], some .char⟩ := by decide +kernel
theorem pnSL : plainName "java/lang/StringLatin1" = true := by first | (simp [plainName, overriddenIn]; done) | decide +kernel
theorem dLC_0 : decode jdk_43_method_2_code 0 = .ok (.iload_n 1, 1) := by decide +kernel
theorem dLC_1 : decode jdk_43_method_2_code 1 = .ok (.aload_n 0, 1) := by decide +kernel
theorem dLC_2 : decode jdk_43_method_2_code 2 = .ok (.arraylength, 1) := by decide +kernel
theorem dLC_3 : decode jdk_43_method_2_code 3 = .ok (.invokestatic 9, 3) := by decide +kernel
theorem dLC_6 : decode jdk_43_method_2_code 6 = .ok (.aload_n 0, 1) := by decide +kernel
theorem dLC_7 : decode jdk_43_method_2_code 7 = .ok (.iload_n 1, 1) := by decide +kernel
theorem dLC_8 : decode jdk_43_method_2_code 8 = .ok (.baload, 1) := by decide +kernel
theorem dLC_9 : decode jdk_43_method_2_code 9 = .ok (.sipush 255, 3) := by decide +kernel
theorem dLC_12 : decode jdk_43_method_2_code 12 = .ok (.iand, 1) := by decide +kernel
theorem dLC_13 : decode jdk_43_method_2_code 13 = .ok (.i2c, 1) := by decide +kernel
theorem dLC_14 : decode jdk_43_method_2_code 14 = .ok (.ireturn, 1) := by decide +kernel
def Q_rmLC (Z : State) (t : Addr) (kt : ClassId) (cs : List Int32) (i : Nat) (h0 : Heap) (fm : Value) (v : Option Value) (h : Heap) (L : List Loc) : Prop := v = some (.int (cs.getD i 0)) ∧ Fr Z.heap.size L ∧ h = h0
set_option maxRecDepth 65536 in
set_option maxHeartbeats 40000000 in
theorem rmLC (l : Launch) (Z : State) (a0 : Array Value) (hw : ∀ d ∈ tables_1, d.before a0 Z = true) (t : Addr) (kt : ClassId) (cs : List Int32) (i : Nat) (h0 : Heap) (EZ : Ext Z.heap h0) (fm : Value) (O2 : Sta Z Z.heap "jdk/internal/util/Preconditions" "SIOOBE_FORMATTER" "Ljava/util/function/BiFunction;" fm) (rf : fm.isRef = true) (A0 : Arv Z h0 t kt .byte (Int32.ofNat cs.length) (cs.map fun c => Value.int (StrChars.lo8 c)) (.int 0)) (hp : ∀ c ∈ cs, ¬ c < 0 ∧ ¬ (255 : Int32) < c) (hl : cs.length ≤ 4000) (hi : i < cs.length) :
    MetFree l (⟨"java/lang/StringLatin1", "charAt", "([BI)C"⟩ : MethodName) (head1 (Jvm.Cond.code (⟨"java/lang/StringLatin1", "charAt", "([BI)C"⟩ : MethodName) jdk_43_method_2_code 2 (Option.some FieldType.char) :: []) ({ frames := 2, cells := 0, slots := 0, locals := 27 } : Room)) (fun aa U => aa = #[(.ref t), (.int (Int32.ofNat i))] ∧ Z.Warmed39 U.vm ∧ U.heap = h0) (fun _ _ _ _ _ => True) (fun _ U o U' => ∃ v L, o = .returned v ∧ (Q_rmLC Z t kt cs i h0 fm) v U'.heap L ∧ FrameEnd U o U' L ({ frames := 2, cells := 0, slots := 0, locals := 27 } : Room).cells ({ frames := 2, cells := 0, slots := 0, locals := 27 } : Room).slots) := by
  have hbv := own_bc (hp _ (own_mem hi)).1 (hp _ (own_mem hi)).2
  refine own_walkN (by exact pnSL) ?_
  intro p e s m below meth c T0 X0 hx hby hml hret hlk hnm hown hZ e0 es0 F hF
  refine own_on (fun _ => castTop (efGC m t _)) ?_
  have N0 := Fr.nil Z.heap.size
  refine own_iload_n X0.here hx (hb hby dLC_0) rfl (pc' := 1) rfl ?_
  refine own_aload_n X0.here hx (hb hby dLC_1) rfl rfl (pc' := 2) rfl ?_
  refine own_alen X0 hx hZ e0 A0 (hb hby dLC_2) (pc' := 3) rfl ?_
  obtain ⟨_, _, ⟨T1, L1, k1, n1⟩, -, X1, ⟨Lc1, hQ1, l1, y1, z1⟩, st1⟩ := Jvm.LawKit.callS X0 hx (y := (⟨"java/lang/String", "checkIndex", "(II)V"⟩ : MethodName)) hown (mvT hZ (hw _ (List.mem_of_getElem? (i := 80) rfl))) (mvT hZ (hw _ (List.mem_of_getElem? (i := 81) rfl))) (mvT hZ (hw _ (List.mem_of_getElem? (i := 10) rfl))) (mvT hZ (hw _ (List.mem_of_getElem? (i := 82) rfl))) (by decide) (backOf (W := 0) (rmCi l Z a0 hw (Int32.ofNat i) (Int32.ofNat cs.length) h0 EZ fm O2 rf (own_nn (by omega)) (own_ltN hi (by omega))) hZ (hw _ (List.mem_of_getElem? (i := 82) rfl)) (hw _ (List.mem_of_getElem? (i := 10) rfl)) (by decide) (by decide)) (g := (mkF m 3 #[.val (.ref t), .val (.int (Int32.ofNat i))] [(.int (Int32.ofNat cs.length)), (.int (Int32.ofNat i))])) rfl (by rw [hml]; rfl) (argsL := [(.int (Int32.ofNat i)), (.int (Int32.ofNat cs.length))]) (rest := []) (lenOf pdx9 rfl) rfl (by show 2 * 0 + _ ≤ _; exact Nat.le_of_eq rfl) (hb hby dLC_3) (fun _ _ => ⟨rfl, e0, (Nat.le_of_ble_eq_true rfl), (Nat.le_of_ble_eq_true rfl)⟩)
  dsimp only [Pt.U, Pt.locs, Pt.cells, Pt.slots] at X1 l1 y1 z1 st1 hQ1
  subst l1 y1 z1
  obtain ⟨rfl, N1, E1⟩ := hQ1
  refine own_on (st1) ?_
  show own_Go p e below F (T1.setTop (mkF m 6 #[.val (.ref t), .val (.int (Int32.ofNat i))] []))
  have N2 := Fr.app N0 N1
  refine own_aload_n X1.here hx (hb hby dLC_6) rfl rfl (pc' := 7) rfl ?_
  refine own_iload_n X1.here hx (hb hby dLC_7) rfl (pc' := 8) rfl ?_
  refine own_baload X1 hx hZ E1 A0 (w := StrChars.lo8 (cs.getD i 0)) ⟨own_nn (by omega), own_ltN (by omega) (by omega)⟩ (by rw [own_tn (by omega)]; exact StrChars.Road.low_at _ cs i hi) (hb hby dLC_8) (pc' := 9) rfl ?_
  refine own_sipush X1.here hx (hb hby dLC_9) (v := 255) rfl (pc' := 12) rfl ?_
  refine own_iand X1.here hx (hb hby dLC_12) (pc' := 13) rfl ?_
  refine own_i2c X1.here hx (hb hby dLC_13) (pc' := 14) rfl ?_
  have hv : own_c ((StrChars.lo8 (cs.getD i 0)) &&& (255 : Int32)) = cs.getD i 0 := hbv.2
  have hnar : nar .char (cs.getD i 0) = cs.getD i 0 := by rw [← hv]; exact own_nar _
  rw [hv]
  show own_Go p e below F (T1.setTop (mkF m 14 #[.val (.ref t), .val (.int (Int32.ofNat i))] [(.int (cs.getD i 0))]))
  exact own_retC X1 hx hlk (own_nch hnar) hret (hb hby dLC_14) (fun t ht hE => hF t _ _ _ _ (by rw [ht, (E1 : _ = h0)]; exact ⟨rfl, N2, rfl⟩) hE (by decide) (by decide))
theorem dUL_0 : decode jdk_52_method_6_code 0 = .ok (.aload_n 0, 1) := by decide +kernel
theorem dUL_1 : decode jdk_52_method_6_code 1 = .ok (.arraylength, 1) := by decide +kernel
theorem dUL_2 : decode jdk_52_method_6_code 2 = .ok (.iconst 1, 1) := by decide +kernel
theorem dUL_3 : decode jdk_52_method_6_code 3 = .ok (.ishr, 1) := by decide +kernel
theorem dUL_4 : decode jdk_52_method_6_code 4 = .ok (.ireturn, 1) := by decide +kernel
def Q_rmUL (Z : State) (t : Addr) (kt : ClassId) (vs : List Value) (n : Nat) (h0 : Heap) (v : Option Value) (h : Heap) (L : List Loc) : Prop := v = some (.int (Int32.ofNat n)) ∧ Fr Z.heap.size L ∧ h = h0
set_option maxRecDepth 65536 in
set_option maxHeartbeats 40000000 in
theorem rmUL (l : Launch) (Z : State) (a0 : Array Value) (hw : ∀ d ∈ tables_1, d.before a0 Z = true) (t : Addr) (kt : ClassId) (vs : List Value) (n : Nat) (h0 : Heap) (A0 : Arv Z h0 t kt .byte (Int32.ofNat (2 * n)) vs (.int 0)) (hn : n ≤ 4000) :
    MetFree l (⟨"java/lang/StringUTF16", "length", "([B)I"⟩ : MethodName) (head1 (Jvm.Cond.code (⟨"java/lang/StringUTF16", "length", "([B)I"⟩ : MethodName) jdk_52_method_6_code 1 (Option.some FieldType.int) :: []) ({ frames := 0, cells := 0, slots := 0, locals := 0 } : Room)) (fun aa U => aa = #[(.ref t)] ∧ Z.Warmed39 U.vm ∧ U.heap = h0) (fun _ _ _ _ _ => True) (fun _ U o U' => ∃ v L, o = .returned v ∧ (Q_rmUL Z t kt vs n h0) v U'.heap L ∧ FrameEnd U o U' L ({ frames := 0, cells := 0, slots := 0, locals := 0 } : Room).cells ({ frames := 0, cells := 0, slots := 0, locals := 0 } : Room).slots) := by
  refine own_walkN (by exact pnU) ?_
  intro p e s m below meth c T0 X0 hx hby hml hret hlk hnm hown hZ e0 es0 F hF
  refine own_on (fun _ => castTop (efR m t)) ?_
  have N0 := Fr.nil Z.heap.size
  refine own_aload_n X0.here hx (hb hby dUL_0) rfl rfl (pc' := 1) rfl ?_
  refine own_alen X0 hx hZ e0 A0 (hb hby dUL_1) (pc' := 2) rfl ?_
  refine own_iconst X0.here hx (hb hby dUL_2) (v := 1) rfl (pc' := 3) rfl ?_
  refine own_ishr X0.here hx (hb hby dUL_3) (pc' := 4) rfl ?_
  rw [own_shr1 (by omega)]
  show own_Go p e below F (T0.setTop (mkF m 4 #[.val (.ref t)] [(.int (Int32.ofNat n))]))
  exact own_retI X0 hx hlk hret (hb hby dUL_4) (fun t ht hE => hF t _ _ _ _ (by rw [ht, (e0 : _ = h0)]; exact ⟨rfl, Fr.nil _, rfl⟩) hE (by decide) (by decide))
theorem dUI_0 : decode jdk_52_method_91_code 0 = .ok (.iload_n 0, 1) := by decide +kernel
theorem dUI_1 : decode jdk_52_method_91_code 1 = .ok (.aload_n 1, 1) := by decide +kernel
theorem dUI_2 : decode jdk_52_method_91_code 2 = .ok (.invokestatic 48, 3) := by decide +kernel
theorem dUI_5 : decode jdk_52_method_91_code 5 = .ok (.invokestatic 414, 3) := by decide +kernel
theorem dUI_8 : decode jdk_52_method_91_code 8 = .ok (.return_, 1) := by decide +kernel
theorem efUI (m : MethodId) (x0 : Int32) (x1 : Addr) : entryFrame m #[(.int x0), (.ref x1)] 2 = mkF m 0 #[.val (.int x0), .val (.ref x1)] [] := by first | (simp [entryFrame, mkF, argsToLocals, Value.category]; done) | rfl
def Q_rmUI (Z : State) (t : Addr) (kt : ClassId) (cs : List Int32) (i : Nat) (h0 : Heap) (fm : Value) (v : Option Value) (h : Heap) (L : List Loc) : Prop := v = none ∧ Fr Z.heap.size L ∧ h = h0
set_option maxRecDepth 65536 in
set_option maxHeartbeats 40000000 in
theorem rmUI (l : Launch) (Z : State) (a0 : Array Value) (hw : ∀ d ∈ tables_1, d.before a0 Z = true) (t : Addr) (kt : ClassId) (cs : List Int32) (i : Nat) (h0 : Heap) (EZ : Ext Z.heap h0) (fm : Value) (O2 : Sta Z Z.heap "jdk/internal/util/Preconditions" "SIOOBE_FORMATTER" "Ljava/util/function/BiFunction;" fm) (rf : fm.isRef = true) (A0 : Arv Z h0 t kt .byte (Int32.ofNat (2 * cs.length)) (StrChars.Road.wideBytes cs) (.int 0)) (hl : cs.length ≤ 4000) (hi : i < cs.length) :
    MetFree l (⟨"java/lang/StringUTF16", "checkIndex", "(I[B)V"⟩ : MethodName) (head1 (Jvm.Cond.code (⟨"java/lang/StringUTF16", "checkIndex", "(I[B)V"⟩ : MethodName) jdk_52_method_91_code 2 (Option.none : Option FieldType) :: []) ({ frames := 2, cells := 0, slots := 0, locals := 27 } : Room)) (fun aa U => aa = #[(.int (Int32.ofNat i)), (.ref t)] ∧ Z.Warmed39 U.vm ∧ U.heap = h0) (fun _ _ _ _ _ => True) (fun _ U o U' => ∃ v L, o = .returned v ∧ (Q_rmUI Z t kt cs i h0 fm) v U'.heap L ∧ FrameEnd U o U' L ({ frames := 2, cells := 0, slots := 0, locals := 27 } : Room).cells ({ frames := 2, cells := 0, slots := 0, locals := 27 } : Room).slots) := by
  refine own_walkN (by exact pnU) ?_
  intro p e s m below meth c T0 X0 hx hby hml hret hlk hnm hown hZ e0 es0 F hF
  refine own_on (fun _ => castTop (efUI m _ t)) ?_
  have N0 := Fr.nil Z.heap.size
  refine own_iload_n X0.here hx (hb hby dUI_0) rfl (pc' := 1) rfl ?_
  refine own_aload_n X0.here hx (hb hby dUI_1) rfl rfl (pc' := 2) rfl ?_
  obtain ⟨_, _, ⟨T1, L1, k1, n1⟩, -, X1, ⟨Lc1, hQ1, l1, y1, z1⟩, st1⟩ := Jvm.LawKit.callS X0 hx (y := (⟨"java/lang/StringUTF16", "length", "([B)I"⟩ : MethodName)) hown (mvT hZ (hw _ (List.mem_of_getElem? (i := 116) rfl))) (mvT hZ (hw _ (List.mem_of_getElem? (i := 117) rfl))) (mvT hZ (hw _ (List.mem_of_getElem? (i := 42) rfl))) (mvT hZ (hw _ (List.mem_of_getElem? (i := 118) rfl))) (by decide) (backOf (W := 1) (rmUL l Z a0 hw t kt _ cs.length h0 A0 hl) hZ (hw _ (List.mem_of_getElem? (i := 118) rfl)) (hw _ (List.mem_of_getElem? (i := 42) rfl)) (by decide) (by decide)) (g := (mkF m 2 #[.val (.int (Int32.ofNat i)), .val (.ref t)] [(.ref t), (.int (Int32.ofNat i))])) rfl (by rw [hml]; rfl) (argsL := [(.ref t)]) (rest := [(.int (Int32.ofNat i))]) (lenOf pdx13 rfl) rfl (by show 2 * 0 + _ ≤ _; exact Nat.le_of_eq rfl) (hb hby dUI_2) (fun _ _ => ⟨rfl, e0, (Nat.le_of_ble_eq_true rfl), (Nat.le_of_ble_eq_true rfl)⟩)
  dsimp only [Pt.U, Pt.locs, Pt.cells, Pt.slots] at X1 l1 y1 z1 st1 hQ1
  subst l1 y1 z1
  obtain ⟨rfl, N1, E1⟩ := hQ1
  refine own_on (st1) ?_
  show own_Go p e below F (T1.setTop (mkF m 5 #[.val (.int (Int32.ofNat i)), .val (.ref t)] [(.int (Int32.ofNat cs.length)), (.int (Int32.ofNat i))]))
  have N2 := Fr.app N0 N1
  obtain ⟨_, _, ⟨T3, L3, k3, n3⟩, -, X3, ⟨Lc3, hQ3, l3, y3, z3⟩, st3⟩ := Jvm.LawKit.callS X1 hx (y := (⟨"java/lang/String", "checkIndex", "(II)V"⟩ : MethodName)) hown (mvT hZ (hw _ (List.mem_of_getElem? (i := 119) rfl))) (mvT hZ (hw _ (List.mem_of_getElem? (i := 81) rfl))) (mvT hZ (hw _ (List.mem_of_getElem? (i := 10) rfl))) (mvT hZ (hw _ (List.mem_of_getElem? (i := 82) rfl))) (by decide) (backOf (W := 0) (rmCi l Z a0 hw (Int32.ofNat i) (Int32.ofNat cs.length) h0 EZ fm O2 rf (own_nn (by omega)) (own_ltN hi (by omega))) hZ (hw _ (List.mem_of_getElem? (i := 82) rfl)) (hw _ (List.mem_of_getElem? (i := 10) rfl)) (by decide) (by decide)) (g := (mkF m 5 #[.val (.int (Int32.ofNat i)), .val (.ref t)] [(.int (Int32.ofNat cs.length)), (.int (Int32.ofNat i))])) rfl (by rw [hml]; rfl) (argsL := [(.int (Int32.ofNat i)), (.int (Int32.ofNat cs.length))]) (rest := []) (lenOf pdx9 rfl) rfl (by show 2 * 0 + _ ≤ _; exact Nat.le_of_eq rfl) (hb hby dUI_5) (fun _ _ => ⟨rfl, E1, (Nat.le_of_ble_eq_true rfl), (Nat.le_of_ble_eq_true rfl)⟩)
  dsimp only [Pt.U, Pt.locs, Pt.cells, Pt.slots] at X3 l3 y3 z3 st3 hQ3
  subst l3 y3 z3
  obtain ⟨rfl, N3, E3⟩ := hQ3
  refine own_on (st3) ?_
  show own_Go p e below F (T3.setTop (mkF m 8 #[.val (.int (Int32.ofNat i)), .val (.ref t)] []))
  have N4 := Fr.app N2 N3
  exact own_retV X3 hx hlk hret (hb hby dUI_8) (fun t ht hE => hF t _ _ _ _ (by rw [ht, (E3 : _ = h0)]; exact ⟨rfl, N4, rfl⟩) hE (by decide) (by decide))
theorem dUC_0 : decode jdk_52_method_83_code 0 = .ok (.iload_n 1, 1) := by decide +kernel
theorem dUC_1 : decode jdk_52_method_83_code 1 = .ok (.aload_n 0, 1) := by decide +kernel
theorem dUC_2 : decode jdk_52_method_83_code 2 = .ok (.invokestatic 67, 3) := by decide +kernel
theorem dUC_5 : decode jdk_52_method_83_code 5 = .ok (.aload_n 0, 1) := by decide +kernel
theorem dUC_6 : decode jdk_52_method_83_code 6 = .ok (.iload_n 1, 1) := by decide +kernel
theorem dUC_7 : decode jdk_52_method_83_code 7 = .ok (.invokestatic 71, 3) := by decide +kernel
theorem dUC_10 : decode jdk_52_method_83_code 10 = .ok (.ireturn, 1) := by decide +kernel
def Q_rmUC (Z : State) (t : Addr) (kt : ClassId) (cs : List Int32) (i : Nat) (h0 : Heap) (fm : Value) (v : Option Value) (h : Heap) (L : List Loc) : Prop := v = some (.int (cs.getD i 0)) ∧ Fr Z.heap.size L ∧ h = h0
set_option maxRecDepth 65536 in
set_option maxHeartbeats 40000000 in
theorem rmUC (l : Launch) (Z : State) (a0 : Array Value) (hw : ∀ d ∈ tables_1, d.before a0 Z = true) (t : Addr) (kt : ClassId) (cs : List Int32) (i : Nat) (h0 : Heap) (EZ : Ext Z.heap h0) (fm : Value) (O2 : Sta Z Z.heap "jdk/internal/util/Preconditions" "SIOOBE_FORMATTER" "Ljava/util/function/BiFunction;" fm) (rf : fm.isRef = true) (O3 : Sta Z Z.heap "java/lang/StringUTF16" "$assertionsDisabled" "Z" (.int 1)) (O4 : Sta Z Z.heap "java/lang/StringUTF16" "HI_BYTE_SHIFT" "I" (.int 0)) (O5 : Sta Z Z.heap "java/lang/StringUTF16" "LO_BYTE_SHIFT" "I" (.int 8)) (A0 : Arv Z h0 t kt .byte (Int32.ofNat (2 * cs.length)) (StrChars.Road.wideBytes cs) (.int 0)) (hp : ∀ c ∈ cs, ¬ c < 0 ∧ ¬ (65535 : Int32) < c) (hnar : nar .char (cs.getD i 0) = cs.getD i 0) (hl : cs.length ≤ 4000) (hi : i < cs.length) :
    MetFree l (⟨"java/lang/StringUTF16", "charAt", "([BI)C"⟩ : MethodName) (head1 (Jvm.Cond.code (⟨"java/lang/StringUTF16", "charAt", "([BI)C"⟩ : MethodName) jdk_52_method_83_code 2 (Option.some FieldType.char) :: []) ({ frames := 3, cells := 0, slots := 0, locals := 40 } : Room)) (fun aa U => aa = #[(.ref t), (.int (Int32.ofNat i))] ∧ Z.Warmed39 U.vm ∧ U.heap = h0) (fun _ _ _ _ _ => True) (fun _ U o U' => ∃ v L, o = .returned v ∧ (Q_rmUC Z t kt cs i h0 fm) v U'.heap L ∧ FrameEnd U o U' L ({ frames := 3, cells := 0, slots := 0, locals := 40 } : Room).cells ({ frames := 3, cells := 0, slots := 0, locals := 40 } : Room).slots) := by
  refine own_walkN (by exact pnU) ?_
  intro p e s m below meth c T0 X0 hx hby hml hret hlk hnm hown hZ e0 es0 F hF
  refine own_on (fun _ => castTop (efGC m t _)) ?_
  have N0 := Fr.nil Z.heap.size
  refine own_iload_n X0.here hx (hb hby dUC_0) rfl (pc' := 1) rfl ?_
  refine own_aload_n X0.here hx (hb hby dUC_1) rfl rfl (pc' := 2) rfl ?_
  obtain ⟨_, _, ⟨T1, L1, k1, n1⟩, -, X1, ⟨Lc1, hQ1, l1, y1, z1⟩, st1⟩ := Jvm.LawKit.callS X0 hx (y := (⟨"java/lang/StringUTF16", "checkIndex", "(I[B)V"⟩ : MethodName)) hown (mvT hZ (hw _ (List.mem_of_getElem? (i := 113) rfl))) (mvT hZ (hw _ (List.mem_of_getElem? (i := 114) rfl))) (mvT hZ (hw _ (List.mem_of_getElem? (i := 42) rfl))) (mvT hZ (hw _ (List.mem_of_getElem? (i := 115) rfl))) (by decide) (backOf (W := 0) (rmUI l Z a0 hw t kt cs i h0 EZ fm O2 rf A0 hl hi) hZ (hw _ (List.mem_of_getElem? (i := 115) rfl)) (hw _ (List.mem_of_getElem? (i := 42) rfl)) (by decide) (by decide)) (g := (mkF m 2 #[.val (.ref t), .val (.int (Int32.ofNat i))] [(.ref t), (.int (Int32.ofNat i))])) rfl (by rw [hml]; rfl) (argsL := [(.int (Int32.ofNat i)), (.ref t)]) (rest := []) (lenOf pdx12 rfl) rfl (by show 2 * 0 + _ ≤ _; exact Nat.le_of_eq rfl) (hb hby dUC_2) (fun _ _ => ⟨rfl, e0, (Nat.le_of_ble_eq_true rfl), (Nat.le_of_ble_eq_true rfl)⟩)
  dsimp only [Pt.U, Pt.locs, Pt.cells, Pt.slots] at X1 l1 y1 z1 st1 hQ1
  subst l1 y1 z1
  obtain ⟨rfl, N1, E1⟩ := hQ1
  refine own_on (st1) ?_
  show own_Go p e below F (T1.setTop (mkF m 5 #[.val (.ref t), .val (.int (Int32.ofNat i))] []))
  have N2 := Fr.app N0 N1
  refine own_aload_n X1.here hx (hb hby dUC_5) rfl rfl (pc' := 6) rfl ?_
  refine own_iload_n X1.here hx (hb hby dUC_6) rfl (pc' := 7) rfl ?_
  obtain ⟨_, _, ⟨T3, L3, k3, n3⟩, -, X3, ⟨Lc3, hQ3, l3, y3, z3⟩, st3⟩ := Jvm.LawKit.callS X1 hx (y := (⟨"java/lang/StringUTF16", "getChar", "([BI)C"⟩ : MethodName)) hown (mvT hZ (hw _ (List.mem_of_getElem? (i := 107) rfl))) (mvT hZ (hw _ (List.mem_of_getElem? (i := 108) rfl))) (mvT hZ (hw _ (List.mem_of_getElem? (i := 42) rfl))) (mvT hZ (hw _ (List.mem_of_getElem? (i := 109) rfl))) (by decide) (backOf (W := 0) (rmGC l Z a0 hw t kt cs i h0 EZ O3 O4 O5 A0 hp hl hi) hZ (hw _ (List.mem_of_getElem? (i := 109) rfl)) (hw _ (List.mem_of_getElem? (i := 42) rfl)) (by decide) (by decide)) (g := (mkF m 7 #[.val (.ref t), .val (.int (Int32.ofNat i))] [(.int (Int32.ofNat i)), (.ref t)])) rfl (by rw [hml]; rfl) (argsL := [(.ref t), (.int (Int32.ofNat i))]) (rest := []) (lenOf pdx6 rfl) rfl (by show 2 * 0 + _ ≤ _; exact Nat.le_of_eq rfl) (hb hby dUC_7) (fun _ _ => ⟨rfl, E1, (Nat.le_of_ble_eq_true rfl), (Nat.le_of_ble_eq_true rfl)⟩)
  dsimp only [Pt.U, Pt.locs, Pt.cells, Pt.slots] at X3 l3 y3 z3 st3 hQ3
  subst l3 y3 z3
  obtain ⟨rfl, N3, E3⟩ := hQ3
  refine own_on (st3) ?_
  show own_Go p e below F (T3.setTop (mkF m 10 #[.val (.ref t), .val (.int (Int32.ofNat i))] [(.int (cs.getD i 0))]))
  have N4 := Fr.app N2 N3
  exact own_retC X3 hx hlk (own_nch hnar) hret (hb hby dUC_10) (fun t ht hE => hF t _ _ _ _ (by rw [ht, (E3 : _ = h0)]; exact ⟨rfl, N4, rfl⟩) hE (by decide) (by decide))
theorem dCA_0 : decode jdk_42_method_56_code 0 = .ok (.aload_n 0, 1) := by decide +kernel
theorem dCA_1 : decode jdk_42_method_56_code 1 = .ok (.invokevirtual 492, 3) := by decide +kernel
theorem dCA_4 : decode jdk_42_method_56_code 4 = .ok (.ifCond .eq 12, 3) := by decide +kernel
theorem dCA_7 : decode jdk_42_method_56_code 7 = .ok (.aload_n 0, 1) := by decide +kernel
theorem dCA_8 : decode jdk_42_method_56_code 8 = .ok (.getfield 9, 3) := by decide +kernel
theorem dCA_11 : decode jdk_42_method_56_code 11 = .ok (.iload_n 1, 1) := by decide +kernel
theorem dCA_12 : decode jdk_42_method_56_code 12 = .ok (.invokestatic 495, 3) := by decide +kernel
theorem dCA_15 : decode jdk_42_method_56_code 15 = .ok (.ireturn, 1) := by decide +kernel
theorem dCA_16 : decode jdk_42_method_56_code 16 = .ok (.aload_n 0, 1) := by decide +kernel
theorem dCA_17 : decode jdk_42_method_56_code 17 = .ok (.getfield 9, 3) := by decide +kernel
theorem dCA_20 : decode jdk_42_method_56_code 20 = .ok (.iload_n 1, 1) := by decide +kernel
theorem dCA_21 : decode jdk_42_method_56_code 21 = .ok (.invokestatic 498, 3) := by decide +kernel
theorem dCA_24 : decode jdk_42_method_56_code 24 = .ok (.ireturn, 1) := by decide +kernel
def Q_rmCA (Z : State) (x : Addr) (cs : List Int32) (i : Nat) (h0 : Heap) (z0 : Int32) (fm : Value) (v : Option Value) (h : Heap) (L : List Loc) : Prop := v = some (.int (cs.getD i 0)) ∧ Fr Z.heap.size L ∧ h = h0
set_option maxRecDepth 65536 in
set_option maxHeartbeats 40000000 in
theorem rmCA (l : Launch) (Z : State) (a0 : Array Value) (hw : ∀ d ∈ tables_1, d.before a0 Z = true) (x : Addr) (cs : List Int32) (i : Nat) (h0 : Heap) (EZ : Ext Z.heap h0) (z0 : Int32) (O1 : Sta Z Z.heap "java/lang/String" "COMPACT_STRINGS" "Z" (.int z0)) (P5 : ¬ z0 = 0) (fm : Value) (O2 : Sta Z Z.heap "jdk/internal/util/Preconditions" "SIOOBE_FORMATTER" "Ljava/util/function/BiFunction;" fm) (rf : fm.isRef = true) (O3 : Sta Z Z.heap "java/lang/StringUTF16" "$assertionsDisabled" "Z" (.int 1)) (O4 : Sta Z Z.heap "java/lang/StringUTF16" "HI_BYTE_SHIFT" "I" (.int 0)) (O5 : Sta Z Z.heap "java/lang/StringUTF16" "LO_BYTE_SHIFT" "I" (.int 8)) (S : own_S Z h0 x cs) (hi : i < cs.length) :
    MetFree l (⟨"java/lang/String", "charAt", "(I)C"⟩ : MethodName) (head1 (Jvm.Cond.code (⟨"java/lang/String", "charAt", "(I)C"⟩ : MethodName) jdk_42_method_56_code 2 (Option.some FieldType.char) :: []) ({ frames := 4, cells := 0, slots := 0, locals := 53 } : Room)) (fun aa U => aa = #[(.ref x), (.int (Int32.ofNat i))] ∧ Z.Warmed39 U.vm ∧ U.heap = h0) (fun _ _ _ _ _ => True) (fun _ U o U' => ∃ v L, o = .returned v ∧ (Q_rmCA Z x cs i h0 z0 fm) v U'.heap L ∧ FrameEnd U o U' L ({ frames := 4, cells := 0, slots := 0, locals := 53 } : Room).cells ({ frames := 4, cells := 0, slots := 0, locals := 53 } : Room).slots) := by
  obtain ⟨t, kt, cd, N2, vs, sE, sV, sC, sA, hcd, hp, hl⟩ := S
  have hnar : nar .char (cs.getD i 0) = cs.getD i 0 := own_narc (hp _ (own_mem hi)).1 (hp _ (own_mem hi)).2
  refine own_walkN (by exact pnS) ?_
  intro p e s m below meth c T0 X0 hx hby hml hret hlk hnm hown hZ e0 es0 F hF
  refine own_on (fun _ => castTop (efGC m x _)) ?_
  have N0 := Fr.nil Z.heap.size
  refine own_aload_n X0.here hx (hb hby dCA_0) rfl rfl (pc' := 1) rfl ?_
  obtain ⟨cq1, kq1, qa1, qb1, qc1⟩ := isOf hZ e0 sE
  obtain ⟨_, _, ⟨T1, L1, k1, n1⟩, -, X1, ⟨Lc1, hQ1, l1, y1, z1⟩, st1⟩ := X0.virtualBack hx (y := (⟨"java/lang/String", "isLatin1", "()Z"⟩ : MethodName)) (z := (⟨"java/lang/String", "isLatin1", "()Z"⟩ : MethodName)) hown (mvT hZ (hw _ (List.mem_of_getElem? (i := 71) rfl))) (mvT hZ (hw _ (List.mem_of_getElem? (i := 72) rfl))) (notFace_of_selects (args := #[]) (mvT hZ (hw _ (List.mem_of_getElem? (i := 74) rfl)))) (mvT hZ (hw _ (List.mem_of_getElem? (i := 74) rfl))) (mvT hZ (hw _ (List.mem_of_getElem? (i := 73) rfl))) (by decide) (backOf (W := 0) (rmIL l Z a0 hw x cd h0 EZ z0 O1 P5 sC) hZ (hw _ (List.mem_of_getElem? (i := 75) rfl)) (hw _ (List.mem_of_getElem? (i := 10) rfl)) (by decide) (by decide)) qa1 qc1 (g := (mkF m 1 #[.val (.ref x), .val (.int (Int32.ofNat i))] [(.ref x)])) rfl (by rw [hml]; rfl) (Steps.refl _) (argsL := []) (rest := []) (lenOf pdx11 rfl) rfl (by show 2 * 0 + _ ≤ _; exact Nat.le_of_eq rfl) (hb hby dCA_1) (fun _ _ => ⟨rfl, e0, (Nat.le_of_ble_eq_true rfl), (Nat.le_of_ble_eq_true rfl)⟩)
  dsimp only [Pt.U, Pt.locs, Pt.cells, Pt.slots] at X1 l1 y1 z1 st1 hQ1
  subst l1 y1 z1
  obtain ⟨rfl, N1, E1⟩ := hQ1
  refine own_to st1 ?_
  show own_Go p e below F (T1.setTop (mkF m 4 #[.val (.ref x), .val (.int (Int32.ofNat i))] [(.int ((if cd = 0 then (1 : Int32) else 0)))]))
  have N2 := Fr.app N0 N1
  rcases hcd with ⟨rfl, rfl, rfl, hq⟩ | ⟨rfl, rfl, rfl, hq⟩
  · rw [if_pos rfl]
    show own_Go p e below F (T1.setTop (mkF m 4 #[.val (.ref x), .val (.int (Int32.ofNat i))] [(.int ((1 : Int32)))]))
    refine own_ifeq X1.here hx (hb hby dCA_4) (by decide) (pc' := 16) (by decide) (pc2 := 7) rfl (fun q => absurd q (by decide)) (fun q3 => ?_)
    refine own_aload_n X1.here hx (hb hby dCA_7) rfl rfl (pc' := 8) rfl ?_
    obtain ⟨T4, X4, e4, st4⟩ := getF X1 hx hZ hown (host := "") (Or.inl (hw _ (List.mem_of_getElem? (i := 28) rfl))) Via.refl E1 sV (g := (mkF m 8 #[.val (.ref x), .val (.int (Int32.ofNat i))] [(.ref x)])) rfl rfl (hb hby dCA_8)
    refine own_on st4 ?_
    show own_Go p e below F (T4.setTop (mkF m 11 #[.val (.ref x), .val (.int (Int32.ofNat i))] [(.ref t)]))
    refine own_iload_n X4.here hx (hb hby dCA_11) rfl (pc' := 12) rfl ?_
    obtain ⟨_, _, ⟨T5, L5, k5, n5⟩, -, X5, ⟨Lc5, hQ5, l5, y5, z5⟩, st5⟩ := Jvm.LawKit.callS X4 hx (y := (⟨"java/lang/StringLatin1", "charAt", "([BI)C"⟩ : MethodName)) hown (mvT hZ (hw _ (List.mem_of_getElem? (i := 76) rfl))) (mvT hZ (hw _ (List.mem_of_getElem? (i := 77) rfl))) (mvT hZ (hw _ (List.mem_of_getElem? (i := 78) rfl))) (mvT hZ (hw _ (List.mem_of_getElem? (i := 79) rfl))) (by decide) (backOf (W := 0) (rmLC l Z a0 hw t kt cs i h0 EZ fm O2 rf sA (fun c hc => ⟨(hp c hc).1, hq c hc⟩) hl hi) hZ (hw _ (List.mem_of_getElem? (i := 79) rfl)) (hw _ (List.mem_of_getElem? (i := 78) rfl)) (by decide) (by decide)) (g := (mkF m 12 #[.val (.ref x), .val (.int (Int32.ofNat i))] [(.int (Int32.ofNat i)), (.ref t)])) rfl (by rw [hml]; rfl) (argsL := [(.ref t), (.int (Int32.ofNat i))]) (rest := []) (lenOf pdx6 rfl) rfl (by show 2 * 0 + _ ≤ _; exact Nat.le_of_eq rfl) (hb hby dCA_12) (fun _ _ => ⟨rfl, e4, (Nat.le_of_ble_eq_true rfl), (Nat.le_of_ble_eq_true rfl)⟩)
    dsimp only [Pt.U, Pt.locs, Pt.cells, Pt.slots] at X5 l5 y5 z5 st5 hQ5
    subst l5 y5 z5
    obtain ⟨rfl, N5, E5⟩ := hQ5
    refine own_on (st5) ?_
    show own_Go p e below F (T5.setTop (mkF m 15 #[.val (.ref x), .val (.int (Int32.ofNat i))] [(.int (cs.getD i 0))]))
    have N6 := Fr.app N2 N5
    exact own_retC X5 hx hlk (own_nch hnar) hret (hb hby dCA_15) (fun t ht hE => hF t _ _ _ _ (by rw [ht, (E5 : _ = h0)]; exact ⟨rfl, N6, rfl⟩) hE (by decide) (by decide))
  · rw [if_neg (by decide)]
    show own_Go p e below F (T1.setTop (mkF m 4 #[.val (.ref x), .val (.int (Int32.ofNat i))] [(.int ((0 : Int32)))]))
    refine own_ifeq X1.here hx (hb hby dCA_4) (by decide) (pc' := 16) (by decide) (pc2 := 7) rfl (fun q7 => ?_) (fun q => absurd rfl q)
    refine own_aload_n X1.here hx (hb hby dCA_16) rfl rfl (pc' := 17) rfl ?_
    obtain ⟨T8, X8, e8, st8⟩ := getF X1 hx hZ hown (host := "") (Or.inl (hw _ (List.mem_of_getElem? (i := 28) rfl))) Via.refl E1 sV (g := (mkF m 17 #[.val (.ref x), .val (.int (Int32.ofNat i))] [(.ref x)])) rfl rfl (hb hby dCA_17)
    refine own_on st8 ?_
    show own_Go p e below F (T8.setTop (mkF m 20 #[.val (.ref x), .val (.int (Int32.ofNat i))] [(.ref t)]))
    refine own_iload_n X8.here hx (hb hby dCA_20) rfl (pc' := 21) rfl ?_
    obtain ⟨_, _, ⟨T9, L9, k9, n9⟩, -, X9, ⟨Lc9, hQ9, l9, y9, z9⟩, st9⟩ := Jvm.LawKit.callS X8 hx (y := (⟨"java/lang/StringUTF16", "charAt", "([BI)C"⟩ : MethodName)) hown (mvT hZ (hw _ (List.mem_of_getElem? (i := 110) rfl))) (mvT hZ (hw _ (List.mem_of_getElem? (i := 111) rfl))) (mvT hZ (hw _ (List.mem_of_getElem? (i := 42) rfl))) (mvT hZ (hw _ (List.mem_of_getElem? (i := 112) rfl))) (by decide) (backOf (W := 0) (rmUC l Z a0 hw t kt cs i h0 EZ fm O2 rf O3 O4 O5 sA hp hnar hl hi) hZ (hw _ (List.mem_of_getElem? (i := 112) rfl)) (hw _ (List.mem_of_getElem? (i := 42) rfl)) (by decide) (by decide)) (g := (mkF m 21 #[.val (.ref x), .val (.int (Int32.ofNat i))] [(.int (Int32.ofNat i)), (.ref t)])) rfl (by rw [hml]; rfl) (argsL := [(.ref t), (.int (Int32.ofNat i))]) (rest := []) (lenOf pdx6 rfl) rfl (by show 2 * 0 + _ ≤ _; exact Nat.le_of_eq rfl) (hb hby dCA_21) (fun _ _ => ⟨rfl, e8, (Nat.le_of_ble_eq_true rfl), (Nat.le_of_ble_eq_true rfl)⟩)
    dsimp only [Pt.U, Pt.locs, Pt.cells, Pt.slots] at X9 l9 y9 z9 st9 hQ9
    subst l9 y9 z9
    obtain ⟨rfl, N9, E9⟩ := hQ9
    refine own_on (st9) ?_
    show own_Go p e below F (T9.setTop (mkF m 24 #[.val (.ref x), .val (.int (Int32.ofNat i))] [(.int (cs.getD i 0))]))
    have N10 := Fr.app N2 N9
    exact own_retC X9 hx hlk (own_nch hnar) hret (hb hby dCA_24) (fun t ht hE => hF t _ _ _ _ (by rw [ht, (E9 : _ = h0)]; exact ⟨rfl, N10, rfl⟩) hE (by decide) (by decide))
theorem pdx15 : parseMethodDescriptor "(C)Z" = some ⟨[.char], some .boolean⟩ := by decide +kernel
theorem pdx16 : parseMethodDescriptor "(Ljava/lang/String;)Z" = some ⟨[.object "java/lang/String"], some .boolean⟩ := by decide +kernel
theorem pdx17 : parseMethodDescriptor "()I" = some ⟨[], some .int⟩ := by decide +kernel
theorem pdx18 : parseMethodDescriptor "(ICCCC)Ljava/lang/String;" = some ⟨[.int, .char, .char, .char, .char], some (.object "java/lang/String")⟩ := by decide +kernel
theorem own_empS {p : Program} {l : Launch} {e : Env} {R : Room} {s : State} {args : Array Value} {below : List Frame} {len W : Nat} {Z : State} {a0 : Array Value} {h : Heap} (hZ : Z.Warmed39 s.vm) (hw : ∀ d ∈ tables_1, d.before a0 Z = true) {x : Addr} {cs : List Int32} (S : own_S Z h x cs) (hfr : 1 ≤ R.frames) (hlo : W + 12 ≤ R.locals) :
    Back l R p e below s args (⟨"java/lang/String", "isEmpty", "()Z"⟩ : MethodName) len W (fun P a => a = #[.ref x] ∧ P.U.heap = h ∧ P.cells + 0 ≤ R.cells ∧ P.slots + 0 ≤ R.slots)
      (fun P _ v B => ∃ L, (v = some (.int (if cs.length = 0 then 1 else 0)) ∧ L = [] ∧ B.U.heap = h) ∧ B.locs = P.locs ++ L ∧ B.cells = P.cells + 0 ∧ B.slots = P.slots + 0) := by
  obtain ⟨t, kb, cd, N2, vs, E, V, C, K, hc, hp, hl⟩ := S
  exact StrChars.Road.empW hZ (fun d hd => hw d ((by decide +kernel : ∀ d ∈ StrChars.Road.wordsEmp, d ∈ tables_1) d hd)) (kI := 4) (hw _ own_wiS) E V C K hc hp hl hfr hlo
def own_dg (c : Int32) : Bool := !decide (c < 48) && !decide (57 < c)
def own_ok (c : Int32) : Bool := own_dg c || decide (c = 95) || (!decide (c < 97) && !decide (122 < c)) || (!decide (c < 65) && !decide (90 < c))
def own_pi (cs : List Int32) : Int32 := if cs.length = 0 ∨ 63 < cs.length ∨ own_dg (cs.getD 0 0) = true then 0 else if cs.all own_ok then 1 else 0
theorem own_pi_yes {cs : List Int32} (h0 : ¬ cs.length = 0) (h1 : ¬ 63 < cs.length) (h2 : own_dg (cs.getD 0 0) = false) (h : ∀ j, j < cs.length → own_ok (cs.getD j 0) = true) : own_pi cs = 1 := by
  have ha : cs.all own_ok = true := List.all_eq_true.mpr fun c hc => by
    obtain ⟨j, hj, rfl⟩ := List.getElem_of_mem hc
    have := h j hj
    simpa [List.getD_eq_getElem?_getD, hj] using this
  rw [own_pi, if_neg (by simp only [h2]; rintro (q | q | q); exact h0 q; exact h1 q; exact Bool.noConfusion q), if_pos ha]
theorem own_pi_no {cs : List Int32} {j : Nat} (hj : j < cs.length) (h : own_ok (cs.getD j 0) = false) : own_pi cs = 0 := by
  have ha : ¬ cs.all own_ok = true := fun q => by
    have := List.all_eq_true.mp q (cs.getD j 0) (own_mem hj)
    rw [h] at this; exact Bool.noConfusion this
  rw [own_pi]; split
  · rfl
  · first | rfl | rw [if_neg ha]
def own_D (a b : Int32) (n : Nat) : List Int32 := a :: (List.replicate (n - 2) 97 ++ [b])
theorem own_DL (a b : Int32) {n : Nat} (h : 2 ≤ n) : (own_D a b n).length = n := by simp [own_D]; omega
theorem own_piD (a b : Int32) : own_pi (own_D a b 63) = if own_dg a = true then 0 else if own_ok a && own_ok b then 1 else 0 := by
  have e : own_ok 97 = true := by decide
  have ea : (own_D a b 63).all own_ok = (own_ok a && own_ok b) := by
    simp only [own_D, List.all_cons, List.all_append, List.all_replicate, e, List.all_nil, Bool.and_true]; simp
  rw [own_pi, own_DL a b (by decide), ea]
  have e0 : (own_D a b 63).getD 0 0 = a := rfl
  rw [e0]; simp
theorem own_piD64 (a b : Int32) : own_pi (own_D a b 64) = 0 := by
  rw [own_pi, own_DL a b (by decide), if_pos (Or.inr (Or.inl (by decide)))]
theorem own_Dp {a b : Int32} {n : Nat} (ha : ¬ a < 0 ∧ ¬ (65535 : Int32) < a) (hb : ¬ b < 0 ∧ ¬ (65535 : Int32) < b) : ∀ c ∈ own_D a b n, ¬ c < 0 ∧ ¬ (65535 : Int32) < c := fun c hc => by
  simp only [own_D, List.mem_cons, List.mem_append, List.mem_replicate, List.not_mem_nil, or_false] at hc
  rcases hc with rfl | ⟨-, rfl⟩ | rfl
  · exact ha
  · decide
  · exact hb
def own_dr (x : Int32) : Int32 := if x &&& 65536 = 0 then own_c x else own_c (x &&& 127)
theorem own_drp (x : Int32) : nar .char (own_dr x) = own_dr x ∧ ¬ own_dr x < 0 ∧ ¬ (65535 : Int32) < own_dr x := by
  unfold own_dr; split <;> exact ⟨own_nar _, own_c0 _⟩
theorem own_and7c (x : Int32) : x &&& 7 = 0 ∨ x &&& 7 = 1 ∨ x &&& 7 = 2 ∨ x &&& 7 = 3 ∨ x &&& 7 = 4 ∨ x &&& 7 = 5 ∨ x &&& 7 = 6 ∨ x &&& 7 = 7 := by
  have h : (x &&& 7).toBitVec.toNat ≤ 7 := by
    simp only [Int32.toBitVec_and, BitVec.toNat_and]
    exact Nat.and_le_right
  have e : (x &&& 7) = Int32.ofNat (x &&& 7).toBitVec.toNat := by
    apply Int32.toBitVec_inj.mp
    show _ = BitVec.ofNat 32 _
    rw [BitVec.ofNat_toNat]; simp
  rw [e]
  generalize (x &&& 7).toBitVec.toNat = n at h
  have : n = 0 ∨ n = 1 ∨ n = 2 ∨ n = 3 ∨ n = 4 ∨ n = 5 ∨ n = 6 ∨ n = 7 := by omega
  rcases this with rfl | rfl | rfl | rfl | rfl | rfl | rfl | rfl <;> decide
theorem dDa_0 : decode method_3_code 0 = .ok (.iload_n 0, 1) := by decide +kernel
theorem dDa_1 : decode method_3_code 1 = .ok (.bipush 48, 2) := by decide +kernel
theorem dDa_3 : decode method_3_code 3 = .ok (.if_icmp .lt 13, 3) := by decide +kernel
theorem dDa_6 : decode method_3_code 6 = .ok (.iload_n 0, 1) := by decide +kernel
theorem dDa_7 : decode method_3_code 7 = .ok (.bipush 57, 2) := by decide +kernel
theorem dDa_9 : decode method_3_code 9 = .ok (.if_icmp .gt 7, 3) := by decide +kernel
theorem dDa_12 : decode method_3_code 12 = .ok (.iconst 1, 1) := by decide +kernel
theorem dDa_13 : decode method_3_code 13 = .ok (.goto 4, 3) := by decide +kernel
theorem dDa_16 : decode method_3_code 16 = .ok (.iconst 0, 1) := by decide +kernel
theorem dDa_17 : decode method_3_code 17 = .ok (.ireturn, 1) := by decide +kernel
def Q_rmDa (Z : State) (c0 : Int32) (h0 : Heap) (v : Option Value) (h : Heap) (L : List Loc) : Prop := v = some (.int (if own_dg c0 = true then (1 : Int32) else 0)) ∧ Fr Z.heap.size L ∧ h = h0
set_option maxRecDepth 65536 in
set_option maxHeartbeats 40000000 in
theorem rmDa (l : Launch) (Z : State) (a0 : Array Value) (hw : ∀ d ∈ tables_1, d.before a0 Z = true) (c0 : Int32) (h0 : Heap) :
    MetFree l (⟨"com/example/cladistic/cladistic/NamesIsPlainIdentifierPinLaw", "digit", "(C)Z"⟩ : MethodName) (head1 (Jvm.Cond.code (⟨"com/example/cladistic/cladistic/NamesIsPlainIdentifierPinLaw", "digit", "(C)Z"⟩ : MethodName) method_3_code 1 (Option.some FieldType.boolean) :: []) ({ frames := 0, cells := 0, slots := 0, locals := 0 } : Room)) (fun aa U => aa = #[(.int c0)] ∧ Z.Warmed39 U.vm ∧ U.heap = h0) (fun _ _ _ _ _ => True) (fun _ U o U' => ∃ v L, o = .returned v ∧ (Q_rmDa Z c0 h0) v U'.heap L ∧ FrameEnd U o U' L ({ frames := 0, cells := 0, slots := 0, locals := 0 } : Room).cells ({ frames := 0, cells := 0, slots := 0, locals := 0 } : Room).slots) := by
  refine own_walkN (by exact pnL) ?_
  intro p e s m below meth c T0 X0 hx hby hml hret hlk hnm hown hZ e0 es0 F hF
  refine own_on (fun _ => castTop (efI1 m c0)) ?_
  refine own_iload_n X0.here hx (hb hby dDa_0) rfl (pc' := 1) rfl ?_
  refine own_bipush X0.here hx (hb hby dDa_1) (v := 48) rfl (pc' := 3) rfl ?_
  refine own_icmplt X0.here hx (hb hby dDa_3) (by decide) (pc' := 16) (by decide) (pc2 := 6) rfl (fun q1 => ?_) (fun q1 => ?_)
  · refine own_iconst X0.here hx (hb hby dDa_16) (v := 0) rfl (pc' := 17) rfl ?_
    exact own_retZ X0 hx hlk (by decide) hret (hb hby dDa_17) (fun t ht hE => hF t _ _ _ _ (by rw [ht, (e0 : _ = h0)]; exact ⟨by rw [if_neg (by simp [own_dg, q1])], Fr.nil _, rfl⟩) hE (by decide) (by decide))
  · refine own_iload_n X0.here hx (hb hby dDa_6) rfl (pc' := 7) rfl ?_
    refine own_bipush X0.here hx (hb hby dDa_7) (v := 57) rfl (pc' := 9) rfl ?_
    refine own_icmpgt X0.here hx (hb hby dDa_9) (by decide) (pc' := 16) (by decide) (pc2 := 12) rfl (fun q2 => ?_) (fun q2 => ?_)
    · refine own_iconst X0.here hx (hb hby dDa_16) (v := 0) rfl (pc' := 17) rfl ?_
      exact own_retZ X0 hx hlk (by decide) hret (hb hby dDa_17) (fun t ht hE => hF t _ _ _ _ (by rw [ht, (e0 : _ = h0)]; exact ⟨by rw [if_neg (by simp [own_dg, q2])], Fr.nil _, rfl⟩) hE (by decide) (by decide))
    · refine own_iconst X0.here hx (hb hby dDa_12) (v := 1) rfl (pc' := 13) rfl ?_
      refine own_goto X0.here hx (hb hby dDa_13) (by decide) (pc' := 17) (by decide) ?_
      exact own_retZ X0 hx hlk (by decide) hret (hb hby dDa_17) (fun t ht hE => hF t _ _ _ _ (by rw [ht, (e0 : _ = h0)]; exact ⟨by rw [if_pos (by simp [own_dg, q1, q2])], Fr.nil _, rfl⟩) hE (by decide) (by decide))
theorem dDb_0 : decode prog_145_method_6_code 0 = .ok (.iload_n 0, 1) := by decide +kernel
theorem dDb_1 : decode prog_145_method_6_code 1 = .ok (.bipush 48, 2) := by decide +kernel
theorem dDb_3 : decode prog_145_method_6_code 3 = .ok (.if_icmp .lt 13, 3) := by decide +kernel
theorem dDb_6 : decode prog_145_method_6_code 6 = .ok (.iload_n 0, 1) := by decide +kernel
theorem dDb_7 : decode prog_145_method_6_code 7 = .ok (.bipush 57, 2) := by decide +kernel
theorem dDb_9 : decode prog_145_method_6_code 9 = .ok (.if_icmp .gt 7, 3) := by decide +kernel
theorem dDb_12 : decode prog_145_method_6_code 12 = .ok (.iconst 1, 1) := by decide +kernel
theorem dDb_13 : decode prog_145_method_6_code 13 = .ok (.goto 4, 3) := by decide +kernel
theorem dDb_16 : decode prog_145_method_6_code 16 = .ok (.iconst 0, 1) := by decide +kernel
theorem dDb_17 : decode prog_145_method_6_code 17 = .ok (.ireturn, 1) := by decide +kernel
def Q_rmDb (Z : State) (c0 : Int32) (h0 : Heap) (v : Option Value) (h : Heap) (L : List Loc) : Prop := v = some (.int (if own_dg c0 = true then (1 : Int32) else 0)) ∧ Fr Z.heap.size L ∧ h = h0
set_option maxRecDepth 65536 in
set_option maxHeartbeats 40000000 in
theorem rmDb (l : Launch) (Z : State) (a0 : Array Value) (hw : ∀ d ∈ tables_1, d.before a0 Z = true) (c0 : Int32) (h0 : Heap) :
    MetFree l (⟨"com/example/cladistic/cladistic/Names", "isDigit", "(C)Z"⟩ : MethodName) (head1 (Jvm.Cond.code (⟨"com/example/cladistic/cladistic/Names", "isDigit", "(C)Z"⟩ : MethodName) prog_145_method_6_code 1 (Option.some FieldType.boolean) :: []) ({ frames := 0, cells := 0, slots := 0, locals := 0 } : Room)) (fun aa U => aa = #[(.int c0)] ∧ Z.Warmed39 U.vm ∧ U.heap = h0) (fun _ _ _ _ _ => True) (fun _ U o U' => ∃ v L, o = .returned v ∧ (Q_rmDb Z c0 h0) v U'.heap L ∧ FrameEnd U o U' L ({ frames := 0, cells := 0, slots := 0, locals := 0 } : Room).cells ({ frames := 0, cells := 0, slots := 0, locals := 0 } : Room).slots) := by
  refine own_walkN (by exact pnNM) ?_
  intro p e s m below meth c T0 X0 hx hby hml hret hlk hnm hown hZ e0 es0 F hF
  refine own_on (fun _ => castTop (efI1 m c0)) ?_
  refine own_iload_n X0.here hx (hb hby dDb_0) rfl (pc' := 1) rfl ?_
  refine own_bipush X0.here hx (hb hby dDb_1) (v := 48) rfl (pc' := 3) rfl ?_
  refine own_icmplt X0.here hx (hb hby dDb_3) (by decide) (pc' := 16) (by decide) (pc2 := 6) rfl (fun q1 => ?_) (fun q1 => ?_)
  · refine own_iconst X0.here hx (hb hby dDb_16) (v := 0) rfl (pc' := 17) rfl ?_
    exact own_retZ X0 hx hlk (by decide) hret (hb hby dDb_17) (fun t ht hE => hF t _ _ _ _ (by rw [ht, (e0 : _ = h0)]; exact ⟨by rw [if_neg (by simp [own_dg, q1])], Fr.nil _, rfl⟩) hE (by decide) (by decide))
  · refine own_iload_n X0.here hx (hb hby dDb_6) rfl (pc' := 7) rfl ?_
    refine own_bipush X0.here hx (hb hby dDb_7) (v := 57) rfl (pc' := 9) rfl ?_
    refine own_icmpgt X0.here hx (hb hby dDb_9) (by decide) (pc' := 16) (by decide) (pc2 := 12) rfl (fun q2 => ?_) (fun q2 => ?_)
    · refine own_iconst X0.here hx (hb hby dDb_16) (v := 0) rfl (pc' := 17) rfl ?_
      exact own_retZ X0 hx hlk (by decide) hret (hb hby dDb_17) (fun t ht hE => hF t _ _ _ _ (by rw [ht, (e0 : _ = h0)]; exact ⟨by rw [if_neg (by simp [own_dg, q2])], Fr.nil _, rfl⟩) hE (by decide) (by decide))
    · refine own_iconst X0.here hx (hb hby dDb_12) (v := 1) rfl (pc' := 13) rfl ?_
      refine own_goto X0.here hx (hb hby dDb_13) (by decide) (pc' := 17) (by decide) ?_
      exact own_retZ X0 hx hlk (by decide) hret (hb hby dDb_17) (fun t ht hE => hF t _ _ _ _ (by rw [ht, (e0 : _ = h0)]; exact ⟨by rw [if_pos (by simp [own_dg, q1, q2])], Fr.nil _, rfl⟩) hE (by decide) (by decide))
theorem dAl_0 : decode method_4_code 0 = .ok (.iload_n 0, 1) := by decide +kernel
theorem dAl_1 : decode method_4_code 1 = .ok (.invokestatic 8, 3) := by decide +kernel
theorem dAl_4 : decode method_4_code 4 = .ok (.ifCond .eq 5, 3) := by decide +kernel
theorem dAl_7 : decode method_4_code 7 = .ok (.iconst 1, 1) := by decide +kernel
theorem dAl_8 : decode method_4_code 8 = .ok (.ireturn, 1) := by decide +kernel
theorem dAl_9 : decode method_4_code 9 = .ok (.iload_n 0, 1) := by decide +kernel
theorem dAl_10 : decode method_4_code 10 = .ok (.bipush 95, 2) := by decide +kernel
theorem dAl_12 : decode method_4_code 12 = .ok (.if_icmp .ne 5, 3) := by decide +kernel
theorem dAl_15 : decode method_4_code 15 = .ok (.iconst 1, 1) := by decide +kernel
theorem dAl_16 : decode method_4_code 16 = .ok (.ireturn, 1) := by decide +kernel
theorem dAl_17 : decode method_4_code 17 = .ok (.iload_n 0, 1) := by decide +kernel
theorem dAl_18 : decode method_4_code 18 = .ok (.bipush 97, 2) := by decide +kernel
theorem dAl_20 : decode method_4_code 20 = .ok (.if_icmp .lt 11, 3) := by decide +kernel
theorem dAl_23 : decode method_4_code 23 = .ok (.iload_n 0, 1) := by decide +kernel
theorem dAl_24 : decode method_4_code 24 = .ok (.bipush 122, 2) := by decide +kernel
theorem dAl_26 : decode method_4_code 26 = .ok (.if_icmp .gt 5, 3) := by decide +kernel
theorem dAl_29 : decode method_4_code 29 = .ok (.iconst 1, 1) := by decide +kernel
theorem dAl_30 : decode method_4_code 30 = .ok (.ireturn, 1) := by decide +kernel
theorem dAl_31 : decode method_4_code 31 = .ok (.iload_n 0, 1) := by decide +kernel
theorem dAl_32 : decode method_4_code 32 = .ok (.bipush 65, 2) := by decide +kernel
theorem dAl_34 : decode method_4_code 34 = .ok (.if_icmp .lt 13, 3) := by decide +kernel
theorem dAl_37 : decode method_4_code 37 = .ok (.iload_n 0, 1) := by decide +kernel
theorem dAl_38 : decode method_4_code 38 = .ok (.bipush 90, 2) := by decide +kernel
theorem dAl_40 : decode method_4_code 40 = .ok (.if_icmp .gt 7, 3) := by decide +kernel
theorem dAl_43 : decode method_4_code 43 = .ok (.iconst 1, 1) := by decide +kernel
theorem dAl_44 : decode method_4_code 44 = .ok (.goto 4, 3) := by decide +kernel
theorem dAl_47 : decode method_4_code 47 = .ok (.iconst 0, 1) := by decide +kernel
theorem dAl_48 : decode method_4_code 48 = .ok (.ireturn, 1) := by decide +kernel
def Q_rmAl (Z : State) (c0 : Int32) (h0 : Heap) (v : Option Value) (h : Heap) (L : List Loc) : Prop := v = some (.int (if own_ok c0 = true then (1 : Int32) else 0)) ∧ Fr Z.heap.size L ∧ h = h0
set_option maxRecDepth 65536 in
set_option maxHeartbeats 40000000 in
theorem rmAl (l : Launch) (Z : State) (a0 : Array Value) (hw : ∀ d ∈ tables_1, d.before a0 Z = true) (c0 : Int32) (h0 : Heap) :
    MetFree l (⟨"com/example/cladistic/cladistic/NamesIsPlainIdentifierPinLaw", "allowed", "(C)Z"⟩ : MethodName) (head1 (Jvm.Cond.code (⟨"com/example/cladistic/cladistic/NamesIsPlainIdentifierPinLaw", "allowed", "(C)Z"⟩ : MethodName) method_4_code 1 (Option.some FieldType.boolean) :: []) ({ frames := 1, cells := 0, slots := 0, locals := 12 } : Room)) (fun aa U => aa = #[(.int c0)] ∧ Z.Warmed39 U.vm ∧ U.heap = h0) (fun _ _ _ _ _ => True) (fun _ U o U' => ∃ v L, o = .returned v ∧ (Q_rmAl Z c0 h0) v U'.heap L ∧ FrameEnd U o U' L ({ frames := 1, cells := 0, slots := 0, locals := 12 } : Room).cells ({ frames := 1, cells := 0, slots := 0, locals := 12 } : Room).slots) := by
  refine own_walkN (by exact pnL) ?_
  intro p e s m below meth c T0 X0 hx hby hml hret hlk hnm hown hZ e0 es0 F hF
  refine own_on (fun _ => castTop (efI1 m c0)) ?_
  have N0 := Fr.nil Z.heap.size
  refine own_iload_n X0.here hx (hb hby dAl_0) rfl (pc' := 1) rfl ?_
  obtain ⟨_, _, ⟨T1, L1, k1, n1⟩, -, X1, ⟨Lc1, hQ1, l1, y1, z1⟩, st1⟩ := Jvm.LawKit.callS X0 hx (y := (⟨"com/example/cladistic/cladistic/NamesIsPlainIdentifierPinLaw", "digit", "(C)Z"⟩ : MethodName)) hown (mvT hZ (hw _ (List.mem_of_getElem? (i := 53) rfl))) (mvT hZ (hw _ (List.mem_of_getElem? (i := 54) rfl))) (mvT hZ (hw _ (List.mem_of_getElem? (i := 2) rfl))) (mvT hZ (hw _ (List.mem_of_getElem? (i := 55) rfl))) (by decide) (backOf (W := 0) (rmDa l Z a0 hw c0 h0) hZ (hw _ (List.mem_of_getElem? (i := 55) rfl)) (hw _ (List.mem_of_getElem? (i := 2) rfl)) (by decide) (by decide)) (g := (mkF m 1 #[.val (.int c0)] [(.int c0)])) rfl (by rw [hml]; rfl) (argsL := [(.int c0)]) (rest := []) (lenOf pdx15 rfl) rfl (by show 2 * 0 + _ ≤ _; exact Nat.le_of_eq rfl) (hb hby dAl_1) (fun _ _ => ⟨rfl, e0, (Nat.le_of_ble_eq_true rfl), (Nat.le_of_ble_eq_true rfl)⟩)
  dsimp only [Pt.U, Pt.locs, Pt.cells, Pt.slots] at X1 l1 y1 z1 st1 hQ1
  subst l1 y1 z1
  obtain ⟨rfl, N1, E1⟩ := hQ1
  refine own_on (st1) ?_
  show own_Go p e below F (T1.setTop (mkF m 4 #[.val (.int c0)] [(.int ((if own_dg c0 = true then (1 : Int32) else 0)))]))
  have N2 := Fr.app N0 N1
  by_cases hd : own_dg c0 = true
  · rw [if_pos hd]
    show own_Go p e below F (T1.setTop (mkF m 4 #[.val (.int c0)] [(.int ((1 : Int32)))]))
    refine own_ifeq X1.here hx (hb hby dAl_4) (by decide) (pc' := 9) (by decide) (pc2 := 7) rfl (fun q => absurd q (by decide)) (fun q3 => ?_)
    refine own_iconst X1.here hx (hb hby dAl_7) (v := 1) rfl (pc' := 8) rfl ?_
    exact own_retZ X1 hx hlk (by decide) hret (hb hby dAl_8) (fun t ht hE => hF t _ _ _ _ (by rw [ht, (E1 : _ = h0)]; exact ⟨by rw [if_pos (by simp [own_ok, hd])], N2, rfl⟩) hE (by decide) (by decide))
  · rw [if_neg hd]
    show own_Go p e below F (T1.setTop (mkF m 4 #[.val (.int c0)] [(.int ((0 : Int32)))]))
    refine own_ifeq X1.here hx (hb hby dAl_4) (by decide) (pc' := 9) (by decide) (pc2 := 7) rfl (fun q4 => ?_) (fun q => absurd rfl q)
    refine own_iload_n X1.here hx (hb hby dAl_9) rfl (pc' := 10) rfl ?_
    refine own_bipush X1.here hx (hb hby dAl_10) (v := 95) rfl (pc' := 12) rfl ?_
    refine own_icmpne X1.here hx (hb hby dAl_12) (by decide) (pc' := 17) (by decide) (pc2 := 15) rfl (fun q1 => ?_) (fun q1 => ?_)
    · refine own_iload_n X1.here hx (hb hby dAl_17) rfl (pc' := 18) rfl ?_
      refine own_bipush X1.here hx (hb hby dAl_18) (v := 97) rfl (pc' := 20) rfl ?_
      refine own_icmplt X1.here hx (hb hby dAl_20) (by decide) (pc' := 31) (by decide) (pc2 := 23) rfl (fun q2 => ?_) (fun q2 => ?_)
      · refine own_iload_n X1.here hx (hb hby dAl_31) rfl (pc' := 32) rfl ?_
        refine own_bipush X1.here hx (hb hby dAl_32) (v := 65) rfl (pc' := 34) rfl ?_
        refine own_icmplt X1.here hx (hb hby dAl_34) (by decide) (pc' := 47) (by decide) (pc2 := 37) rfl (fun q3 => ?_) (fun q3 => ?_)
        · refine own_iconst X1.here hx (hb hby dAl_47) (v := 0) rfl (pc' := 48) rfl ?_
          exact own_retZ X1 hx hlk (by decide) hret (hb hby dAl_48) (fun t ht hE => hF t _ _ _ _ (by rw [ht, (E1 : _ = h0)]; exact ⟨by rw [if_neg (by simp [own_ok, hd, q1, q2, q3])], N2, rfl⟩) hE (by decide) (by decide))
        · refine own_iload_n X1.here hx (hb hby dAl_37) rfl (pc' := 38) rfl ?_
          refine own_bipush X1.here hx (hb hby dAl_38) (v := 90) rfl (pc' := 40) rfl ?_
          refine own_icmpgt X1.here hx (hb hby dAl_40) (by decide) (pc' := 47) (by decide) (pc2 := 43) rfl (fun q4 => ?_) (fun q4 => ?_)
          · refine own_iconst X1.here hx (hb hby dAl_47) (v := 0) rfl (pc' := 48) rfl ?_
            exact own_retZ X1 hx hlk (by decide) hret (hb hby dAl_48) (fun t ht hE => hF t _ _ _ _ (by rw [ht, (E1 : _ = h0)]; exact ⟨by rw [if_neg (by simp [own_ok, hd, q1, q2, q3, q4])], N2, rfl⟩) hE (by decide) (by decide))
          · refine own_iconst X1.here hx (hb hby dAl_43) (v := 1) rfl (pc' := 44) rfl ?_
            refine own_goto X1.here hx (hb hby dAl_44) (by decide) (pc' := 48) (by decide) ?_
            exact own_retZ X1 hx hlk (by decide) hret (hb hby dAl_48) (fun t ht hE => hF t _ _ _ _ (by rw [ht, (E1 : _ = h0)]; exact ⟨by rw [if_pos (by simp [own_ok, q3, q4])], N2, rfl⟩) hE (by decide) (by decide))
      · refine own_iload_n X1.here hx (hb hby dAl_23) rfl (pc' := 24) rfl ?_
        refine own_bipush X1.here hx (hb hby dAl_24) (v := 122) rfl (pc' := 26) rfl ?_
        refine own_icmpgt X1.here hx (hb hby dAl_26) (by decide) (pc' := 31) (by decide) (pc2 := 29) rfl (fun q5 => ?_) (fun q5 => ?_)
        · refine own_iload_n X1.here hx (hb hby dAl_31) rfl (pc' := 32) rfl ?_
          refine own_bipush X1.here hx (hb hby dAl_32) (v := 65) rfl (pc' := 34) rfl ?_
          refine own_icmplt X1.here hx (hb hby dAl_34) (by decide) (pc' := 47) (by decide) (pc2 := 37) rfl (fun q3 => ?_) (fun q3 => ?_)
          · refine own_iconst X1.here hx (hb hby dAl_47) (v := 0) rfl (pc' := 48) rfl ?_
            exact own_retZ X1 hx hlk (by decide) hret (hb hby dAl_48) (fun t ht hE => hF t _ _ _ _ (by rw [ht, (E1 : _ = h0)]; exact ⟨by rw [if_neg (by simp [own_ok, hd, q1, q2, q5, q3])], N2, rfl⟩) hE (by decide) (by decide))
          · refine own_iload_n X1.here hx (hb hby dAl_37) rfl (pc' := 38) rfl ?_
            refine own_bipush X1.here hx (hb hby dAl_38) (v := 90) rfl (pc' := 40) rfl ?_
            refine own_icmpgt X1.here hx (hb hby dAl_40) (by decide) (pc' := 47) (by decide) (pc2 := 43) rfl (fun q4 => ?_) (fun q4 => ?_)
            · refine own_iconst X1.here hx (hb hby dAl_47) (v := 0) rfl (pc' := 48) rfl ?_
              exact own_retZ X1 hx hlk (by decide) hret (hb hby dAl_48) (fun t ht hE => hF t _ _ _ _ (by rw [ht, (E1 : _ = h0)]; exact ⟨by rw [if_neg (by simp [own_ok, hd, q1, q2, q5, q3, q4])], N2, rfl⟩) hE (by decide) (by decide))
            · refine own_iconst X1.here hx (hb hby dAl_43) (v := 1) rfl (pc' := 44) rfl ?_
              refine own_goto X1.here hx (hb hby dAl_44) (by decide) (pc' := 48) (by decide) ?_
              exact own_retZ X1 hx hlk (by decide) hret (hb hby dAl_48) (fun t ht hE => hF t _ _ _ _ (by rw [ht, (E1 : _ = h0)]; exact ⟨by rw [if_pos (by simp [own_ok, q3, q4])], N2, rfl⟩) hE (by decide) (by decide))
        · refine own_iconst X1.here hx (hb hby dAl_29) (v := 1) rfl (pc' := 30) rfl ?_
          exact own_retZ X1 hx hlk (by decide) hret (hb hby dAl_30) (fun t ht hE => hF t _ _ _ _ (by rw [ht, (E1 : _ = h0)]; exact ⟨by rw [if_pos (by simp [own_ok, q2, q5])], N2, rfl⟩) hE (by decide) (by decide))
    · refine own_iconst X1.here hx (hb hby dAl_15) (v := 1) rfl (pc' := 16) rfl ?_
      exact own_retZ X1 hx hlk (by decide) hret (hb hby dAl_16) (fun t ht hE => hF t _ _ _ _ (by rw [ht, (E1 : _ = h0)]; exact ⟨by rw [if_pos (by simp [own_ok, q1])], N2, rfl⟩) hE (by decide) (by decide))
theorem dDr_0 : decode method_2_code 0 = .ok (.iload_n 0, 1) := by decide +kernel
theorem dDr_1 : decode method_2_code 1 = .ok (.ldc 7, 2) := by decide +kernel
theorem dDr_3 : decode method_2_code 3 = .ok (.iand, 1) := by decide +kernel
theorem dDr_4 : decode method_2_code 4 = .ok (.ifCond .eq 9, 3) := by decide +kernel
theorem dDr_7 : decode method_2_code 7 = .ok (.iload_n 0, 1) := by decide +kernel
theorem dDr_8 : decode method_2_code 8 = .ok (.bipush 127, 2) := by decide +kernel
theorem dDr_10 : decode method_2_code 10 = .ok (.iand, 1) := by decide +kernel
theorem dDr_11 : decode method_2_code 11 = .ok (.i2c, 1) := by decide +kernel
theorem dDr_12 : decode method_2_code 12 = .ok (.ireturn, 1) := by decide +kernel
theorem dDr_13 : decode method_2_code 13 = .ok (.iload_n 0, 1) := by decide +kernel
theorem dDr_14 : decode method_2_code 14 = .ok (.i2c, 1) := by decide +kernel
theorem dDr_15 : decode method_2_code 15 = .ok (.ireturn, 1) := by decide +kernel
def Q_rmDr (Z : State) (p1 : Int32) (h0 : Heap) (v : Option Value) (h : Heap) (L : List Loc) : Prop := v = some (.int (own_dr p1)) ∧ Fr Z.heap.size L ∧ h = h0
set_option maxRecDepth 65536 in
set_option maxHeartbeats 40000000 in
theorem rmDr (l : Launch) (Z : State) (a0 : Array Value) (hw : ∀ d ∈ tables_1, d.before a0 Z = true) (p1 : Int32) (h0 : Heap) :
    MetFree l (⟨"com/example/cladistic/cladistic/NamesIsPlainIdentifierPinLaw", "draw", "(I)C"⟩ : MethodName) (head1 (Jvm.Cond.code (⟨"com/example/cladistic/cladistic/NamesIsPlainIdentifierPinLaw", "draw", "(I)C"⟩ : MethodName) method_2_code 1 (Option.some FieldType.char) :: []) ({ frames := 0, cells := 0, slots := 0, locals := 0 } : Room)) (fun aa U => aa = #[(.int p1)] ∧ Z.Warmed39 U.vm ∧ U.heap = h0) (fun _ _ _ _ _ => True) (fun _ U o U' => ∃ v L, o = .returned v ∧ (Q_rmDr Z p1 h0) v U'.heap L ∧ FrameEnd U o U' L ({ frames := 0, cells := 0, slots := 0, locals := 0 } : Room).cells ({ frames := 0, cells := 0, slots := 0, locals := 0 } : Room).slots) := by
  refine own_walkN (by exact pnL) ?_
  intro p e s m below meth c T0 X0 hx hby hml hret hlk hnm hown hZ e0 es0 F hF
  refine own_on (fun _ => castTop (efI1 m p1)) ?_
  refine own_iload_n X0.here hx (hb hby dDr_0) rfl (pc' := 1) rfl ?_
  refine own_on (fun _ => X0.ldcI hx hown (mv hZ (hw _ (List.mem_of_getElem? (i := 4) rfl))) (g := (mkF m 1 #[.val (.int p1)] [(.int p1)])) rfl (hb hby dDr_1)) ?_
  show own_Go p e below F (T0.setTop (mkF m 3 #[.val (.int p1)] [(.int ((65536 : Int32))), (.int p1)]))
  refine own_iand X0.here hx (hb hby dDr_3) (pc' := 4) rfl ?_
  refine own_ifeq X0.here hx (hb hby dDr_4) (by decide) (pc' := 13) (by decide) (pc2 := 7) rfl (fun q1 => ?_) (fun q1 => ?_)
  · refine own_iload_n X0.here hx (hb hby dDr_13) rfl (pc' := 14) rfl ?_
    refine own_i2c X0.here hx (hb hby dDr_14) (pc' := 15) rfl ?_
    have hc : own_dr p1 = own_c p1 := by simp [own_dr, q1]
    rw [← hc]
    show own_Go p e below F (T0.setTop (mkF m 15 #[.val (.int p1)] [(.int (own_dr p1))]))
    exact own_retC X0 hx hlk (own_nch (own_drp p1).1) hret (hb hby dDr_15) (fun t ht hE => hF t _ _ _ _ (by rw [ht, (e0 : _ = h0)]; exact ⟨rfl, Fr.nil _, rfl⟩) hE (by decide) (by decide))
  · refine own_iload_n X0.here hx (hb hby dDr_7) rfl (pc' := 8) rfl ?_
    refine own_bipush X0.here hx (hb hby dDr_8) (v := 127) rfl (pc' := 10) rfl ?_
    refine own_iand X0.here hx (hb hby dDr_10) (pc' := 11) rfl ?_
    refine own_i2c X0.here hx (hb hby dDr_11) (pc' := 12) rfl ?_
    have hc : own_dr p1 = own_c (p1 &&& (127 : Int32)) := by simp [own_dr, q1]
    rw [← hc]
    show own_Go p e below F (T0.setTop (mkF m 12 #[.val (.int p1)] [(.int (own_dr p1))]))
    exact own_retC X0 hx hlk (own_nch (own_drp p1).1) hret (hb hby dDr_12) (fun t ht hE => hF t _ _ _ _ (by rw [ht, (e0 : _ = h0)]; exact ⟨rfl, Fr.nil _, rfl⟩) hE (by decide) (by decide))
theorem dPI_0 : decode prog_145_method_5_code 0 = .ok (.aload_n 0, 1) := by decide +kernel
theorem dPI_1 : decode prog_145_method_5_code 1 = .ok (.invokevirtual 61, 3) := by decide +kernel
theorem dPI_4 : decode prog_145_method_5_code 4 = .ok (.ifCond .ne 23, 3) := by decide +kernel
theorem dPI_7 : decode prog_145_method_5_code 7 = .ok (.aload_n 0, 1) := by decide +kernel
theorem dPI_8 : decode prog_145_method_5_code 8 = .ok (.invokevirtual 9, 3) := by decide +kernel
theorem dPI_11 : decode prog_145_method_5_code 11 = .ok (.bipush 63, 2) := by decide +kernel
theorem dPI_13 : decode prog_145_method_5_code 13 = .ok (.if_icmp .gt 14, 3) := by decide +kernel
theorem dPI_16 : decode prog_145_method_5_code 16 = .ok (.aload_n 0, 1) := by decide +kernel
theorem dPI_17 : decode prog_145_method_5_code 17 = .ok (.iconst 0, 1) := by decide +kernel
theorem dPI_18 : decode prog_145_method_5_code 18 = .ok (.invokevirtual 18, 3) := by decide +kernel
theorem dPI_21 : decode prog_145_method_5_code 21 = .ok (.invokestatic 65, 3) := by decide +kernel
theorem dPI_24 : decode prog_145_method_5_code 24 = .ok (.ifCond .eq 5, 3) := by decide +kernel
theorem dPI_27 : decode prog_145_method_5_code 27 = .ok (.iconst 0, 1) := by decide +kernel
theorem dPI_28 : decode prog_145_method_5_code 28 = .ok (.ireturn, 1) := by decide +kernel
theorem dPI_29 : decode prog_145_method_5_code 29 = .ok (.iconst 0, 1) := by decide +kernel
theorem dPI_30 : decode prog_145_method_5_code 30 = .ok (.istore_n 1, 1) := by decide +kernel
theorem dPI_31 : decode prog_145_method_5_code 31 = .ok (.iload_n 1, 1) := by decide +kernel
theorem dPI_32 : decode prog_145_method_5_code 32 = .ok (.aload_n 0, 1) := by decide +kernel
theorem dPI_33 : decode prog_145_method_5_code 33 = .ok (.invokevirtual 9, 3) := by decide +kernel
theorem dPI_36 : decode prog_145_method_5_code 36 = .ok (.if_icmp .ge 54, 3) := by decide +kernel
theorem dPI_39 : decode prog_145_method_5_code 39 = .ok (.aload_n 0, 1) := by decide +kernel
theorem dPI_40 : decode prog_145_method_5_code 40 = .ok (.iload_n 1, 1) := by decide +kernel
theorem dPI_41 : decode prog_145_method_5_code 41 = .ok (.invokevirtual 18, 3) := by decide +kernel
theorem dPI_44 : decode prog_145_method_5_code 44 = .ok (.istore_n 2, 1) := by decide +kernel
theorem dPI_45 : decode prog_145_method_5_code 45 = .ok (.iload_n 2, 1) := by decide +kernel
theorem dPI_46 : decode prog_145_method_5_code 46 = .ok (.invokestatic 65, 3) := by decide +kernel
theorem dPI_49 : decode prog_145_method_5_code 49 = .ok (.ifCond .ne 35, 3) := by decide +kernel
theorem dPI_52 : decode prog_145_method_5_code 52 = .ok (.iload_n 2, 1) := by decide +kernel
theorem dPI_53 : decode prog_145_method_5_code 53 = .ok (.bipush 95, 2) := by decide +kernel
theorem dPI_55 : decode prog_145_method_5_code 55 = .ok (.if_icmp .eq 29, 3) := by decide +kernel
theorem dPI_58 : decode prog_145_method_5_code 58 = .ok (.iload_n 2, 1) := by decide +kernel
theorem dPI_59 : decode prog_145_method_5_code 59 = .ok (.bipush 97, 2) := by decide +kernel
theorem dPI_61 : decode prog_145_method_5_code 61 = .ok (.if_icmp .lt 9, 3) := by decide +kernel
theorem dPI_64 : decode prog_145_method_5_code 64 = .ok (.iload_n 2, 1) := by decide +kernel
theorem dPI_65 : decode prog_145_method_5_code 65 = .ok (.bipush 122, 2) := by decide +kernel
theorem dPI_67 : decode prog_145_method_5_code 67 = .ok (.if_icmp .le 17, 3) := by decide +kernel
theorem dPI_70 : decode prog_145_method_5_code 70 = .ok (.iload_n 2, 1) := by decide +kernel
theorem dPI_71 : decode prog_145_method_5_code 71 = .ok (.bipush 65, 2) := by decide +kernel
theorem dPI_73 : decode prog_145_method_5_code 73 = .ok (.if_icmp .lt 9, 3) := by decide +kernel
theorem dPI_76 : decode prog_145_method_5_code 76 = .ok (.iload_n 2, 1) := by decide +kernel
theorem dPI_77 : decode prog_145_method_5_code 77 = .ok (.bipush 90, 2) := by decide +kernel
theorem dPI_79 : decode prog_145_method_5_code 79 = .ok (.if_icmp .le 5, 3) := by decide +kernel
theorem dPI_82 : decode prog_145_method_5_code 82 = .ok (.iconst 0, 1) := by decide +kernel
theorem dPI_83 : decode prog_145_method_5_code 83 = .ok (.ireturn, 1) := by decide +kernel
theorem dPI_84 : decode prog_145_method_5_code 84 = .ok (.iinc 1 1, 3) := by decide +kernel
theorem dPI_87 : decode prog_145_method_5_code 87 = .ok (.goto (-56), 3) := by decide +kernel
theorem dPI_90 : decode prog_145_method_5_code 90 = .ok (.iconst 1, 1) := by decide +kernel
theorem dPI_91 : decode prog_145_method_5_code 91 = .ok (.ireturn, 1) := by decide +kernel
theorem efPI (m : MethodId) (x0 : Addr) : entryFrame m #[(.ref x0)] 3 = mkF m 0 #[.val (.ref x0), .unset, .unset] [] := by first | (simp [entryFrame, mkF, argsToLocals, Value.category]; done) | rfl
def Q_rmPI (Z : State) (x : Addr) (cs : List Int32) (h0 : Heap) (z0 : Int32) (fm : Value) (v : Option Value) (h : Heap) (L : List Loc) : Prop := v = some (.int (own_pi cs)) ∧ Fr Z.heap.size L ∧ h = h0
set_option maxRecDepth 65536 in
set_option maxHeartbeats 40000000 in
theorem rmPI (l : Launch) (Z : State) (a0 : Array Value) (hw : ∀ d ∈ tables_1, d.before a0 Z = true) (x : Addr) (cs : List Int32) (h0 : Heap) (EZ : Ext Z.heap h0) (z0 : Int32) (O1 : Sta Z Z.heap "java/lang/String" "COMPACT_STRINGS" "Z" (.int z0)) (P5 : ¬ z0 = 0) (fm : Value) (O2 : Sta Z Z.heap "jdk/internal/util/Preconditions" "SIOOBE_FORMATTER" "Ljava/util/function/BiFunction;" fm) (rf : fm.isRef = true) (O3 : Sta Z Z.heap "java/lang/StringUTF16" "$assertionsDisabled" "Z" (.int 1)) (O4 : Sta Z Z.heap "java/lang/StringUTF16" "HI_BYTE_SHIFT" "I" (.int 0)) (O5 : Sta Z Z.heap "java/lang/StringUTF16" "LO_BYTE_SHIFT" "I" (.int 8)) (S : own_S Z h0 x cs) :
    MetFree l (⟨"com/example/cladistic/cladistic/Names", "isPlainIdentifier", "(Ljava/lang/String;)Z"⟩ : MethodName) (head1 (Jvm.Cond.code (⟨"com/example/cladistic/cladistic/Names", "isPlainIdentifier", "(Ljava/lang/String;)Z"⟩ : MethodName) prog_145_method_5_code 3 (Option.some FieldType.boolean) :: []) ({ frames := 5, cells := 0, slots := 0, locals := 67 } : Room)) (fun aa U => aa = #[(.ref x)] ∧ Z.Warmed39 U.vm ∧ U.heap = h0) (fun _ _ _ _ _ => True) (fun _ U o U' => ∃ v L, o = .returned v ∧ (Q_rmPI Z x cs h0 z0 fm) v U'.heap L ∧ FrameEnd U o U' L ({ frames := 5, cells := 0, slots := 0, locals := 67 } : Room).cells ({ frames := 5, cells := 0, slots := 0, locals := 67 } : Room).slots) := by
  have hl := S.ok.2
  refine own_walkN (by exact pnNM) ?_
  intro p e s m below meth c T0 X0 hx hby hml hret hlk hnm hown hZ e0 es0 F hF
  refine own_on (fun _ => castTop (efPI m x)) ?_
  have N0 := Fr.nil Z.heap.size
  refine own_aload_n X0.here hx (hb hby dPI_0) rfl rfl (pc' := 1) rfl ?_
  obtain ⟨cq1, kq1, qa1, qb1, qc1⟩ := isOf hZ e0 S.exa
  obtain ⟨_, _, ⟨T1, L1, k1, n1⟩, -, X1, ⟨Lc1, hQ1, l1, y1, z1⟩, st1⟩ := X0.virtualBack hx (y := (⟨"java/lang/String", "isEmpty", "()Z"⟩ : MethodName)) (z := (⟨"java/lang/String", "isEmpty", "()Z"⟩ : MethodName)) hown (mvT hZ (hw _ (List.mem_of_getElem? (i := 34) rfl))) (mvT hZ (hw _ (List.mem_of_getElem? (i := 35) rfl))) (notFace_of_selects (args := #[]) (mvT hZ (hw _ (List.mem_of_getElem? (i := 37) rfl)))) (mvT hZ (hw _ (List.mem_of_getElem? (i := 37) rfl))) (mvT hZ (hw _ (List.mem_of_getElem? (i := 36) rfl))) (by decide) (own_empS (s := s) (W := 0) hZ hw S (by decide) (by decide)) qa1 qc1 (g := (mkF m 1 #[.val (.ref x), .unset, .unset] [(.ref x)])) rfl (by rw [hml]; rfl) (Steps.refl _) (argsL := []) (rest := []) (lenOf pdx11 rfl) rfl (by show 2 * 0 + _ ≤ _; exact Nat.le_of_eq rfl) (hb hby dPI_1) (fun _ _ => ⟨rfl, e0, (Nat.le_of_ble_eq_true rfl), (Nat.le_of_ble_eq_true rfl)⟩)
  dsimp only [Pt.U, Pt.locs, Pt.cells, Pt.slots] at X1 l1 y1 z1 st1 hQ1
  subst l1 y1 z1
  obtain ⟨rfl, rfl, E1⟩ := hQ1
  refine own_to st1 ?_
  show own_Go p e below F (T1.setTop (mkF m 4 #[.val (.ref x), .unset, .unset] [(.int ((if cs.length = 0 then (1 : Int32) else 0)))]))
  by_cases hz : cs.length = 0
  · rw [if_pos hz]
    show own_Go p e below F (T1.setTop (mkF m 4 #[.val (.ref x), .unset, .unset] [(.int ((1 : Int32)))]))
    refine own_ifne X1.here hx (hb hby dPI_4) (by decide) (pc' := 27) (by decide) (pc2 := 7) rfl (fun q2 => ?_) (fun q => absurd q (by decide))
    refine own_iconst X1.here hx (hb hby dPI_27) (v := 0) rfl (pc' := 28) rfl ?_
    exact own_retZ X1 hx hlk (by decide) hret (hb hby dPI_28) (fun t ht hE => hF t _ _ _ _ (by rw [ht, (E1 : _ = h0)]; exact ⟨by rw [own_pi, if_pos (Or.inl hz)], N0, rfl⟩) hE (by decide) (by decide))
  · rw [if_neg hz]
    show own_Go p e below F (T1.setTop (mkF m 4 #[.val (.ref x), .unset, .unset] [(.int ((0 : Int32)))]))
    refine own_ifne X1.here hx (hb hby dPI_4) (by decide) (pc' := 27) (by decide) (pc2 := 7) rfl (fun q => absurd rfl q) (fun q3 => ?_)
    refine own_aload_n X1.here hx (hb hby dPI_7) rfl rfl (pc' := 8) rfl ?_
    obtain ⟨cq4, kq4, qa4, qb4, qc4⟩ := isOf hZ E1 S.exa
    obtain ⟨_, _, ⟨T4, L4, k4, n4⟩, -, X4, ⟨Lc4, hQ4, l4, y4, z4⟩, st4⟩ := X1.virtualBack hx (y := (⟨"java/lang/String", "length", "()I"⟩ : MethodName)) (z := (⟨"java/lang/String", "length", "()I"⟩ : MethodName)) hown (mvT hZ (hw _ (List.mem_of_getElem? (i := 56) rfl))) (mvT hZ (hw _ (List.mem_of_getElem? (i := 57) rfl))) (notFace_of_selects (args := #[]) (mvT hZ (hw _ (List.mem_of_getElem? (i := 59) rfl)))) (mvT hZ (hw _ (List.mem_of_getElem? (i := 59) rfl))) (mvT hZ (hw _ (List.mem_of_getElem? (i := 58) rfl))) (by decide) (own_lenS (s := s) (W := 0) hZ hw S (O1.ext EZ) P5 (by decide) (by decide)) qa4 qc4 (g := (mkF m 8 #[.val (.ref x), .unset, .unset] [(.ref x)])) rfl (by rw [hml]; rfl) (Steps.refl _) (argsL := []) (rest := []) (lenOf pdx17 rfl) rfl (by show 2 * 0 + _ ≤ _; exact Nat.le_of_eq rfl) (hb hby dPI_8) (fun _ _ => ⟨rfl, E1, (Nat.le_of_ble_eq_true rfl), (Nat.le_of_ble_eq_true rfl)⟩)
    dsimp only [Pt.U, Pt.locs, Pt.cells, Pt.slots] at X4 l4 y4 z4 st4 hQ4
    subst l4 y4 z4
    obtain ⟨rfl, rfl, E4⟩ := hQ4
    refine own_to st4 ?_
    show own_Go p e below F (T4.setTop (mkF m 11 #[.val (.ref x), .unset, .unset] [(.int (Int32.ofNat cs.length))]))
    refine own_bipush X4.here hx (hb hby dPI_11) (v := 63) rfl (pc' := 13) rfl ?_
    refine own_icmpgt X4.here hx (hb hby dPI_13) (by decide) (pc' := 27) (by decide) (pc2 := 16) rfl (fun q1 => ?_) (fun q1 => ?_)
    · have hg : 63 < cs.length := Nat.lt_of_not_le fun z => absurd q1 (own_nltN (k := 63) z (by omega))
      refine own_iconst X4.here hx (hb hby dPI_27) (v := 0) rfl (pc' := 28) rfl ?_
      exact own_retZ X4 hx hlk (by decide) hret (hb hby dPI_28) (fun t ht hE => hF t _ _ _ _ (by rw [ht, (E4 : _ = h0)]; exact ⟨by rw [own_pi, if_pos (Or.inr (Or.inl hg))], N0, rfl⟩) hE (by decide) (by decide))
    · have hg : ¬ 63 < cs.length := fun z => q1 (own_ltN (j := 63) z (by omega))
      refine own_aload_n X4.here hx (hb hby dPI_16) rfl rfl (pc' := 17) rfl ?_
      refine own_iconst X4.here hx (hb hby dPI_17) (v := 0) rfl (pc' := 18) rfl ?_
      obtain ⟨cq5, kq5, qa5, qb5, qc5⟩ := isOf hZ E4 S.exa
      obtain ⟨_, _, ⟨T5, L5, k5, n5⟩, -, X5, ⟨Lc5, hQ5, l5, y5, z5⟩, st5⟩ := X4.virtualBack hx (y := (⟨"java/lang/String", "charAt", "(I)C"⟩ : MethodName)) (z := (⟨"java/lang/String", "charAt", "(I)C"⟩ : MethodName)) hown (mvT hZ (hw _ (List.mem_of_getElem? (i := 66) rfl))) (mvT hZ (hw _ (List.mem_of_getElem? (i := 67) rfl))) (notFace_of_selects (args := #[]) (mvT hZ (hw _ (List.mem_of_getElem? (i := 69) rfl)))) (mvT hZ (hw _ (List.mem_of_getElem? (i := 69) rfl))) (mvT hZ (hw _ (List.mem_of_getElem? (i := 68) rfl))) (by decide) (backOf (W := 0) (rmCA l Z a0 hw x cs 0 h0 EZ z0 O1 P5 fm O2 rf O3 O4 O5 S (by omega)) hZ (hw _ (List.mem_of_getElem? (i := 70) rfl)) (hw _ (List.mem_of_getElem? (i := 10) rfl)) (by decide) (by decide)) qa5 qc5 (g := (mkF m 18 #[.val (.ref x), .unset, .unset] [(.int ((0 : Int32))), (.ref x)])) rfl (by rw [hml]; rfl) (Steps.refl _) (argsL := [(.int ((0 : Int32)))]) (rest := []) (lenOf pdx14 rfl) rfl (by show 2 * 0 + _ ≤ _; exact Nat.le_of_eq rfl) (hb hby dPI_18) (fun _ _ => ⟨rfl, E4, (Nat.le_of_ble_eq_true rfl), (Nat.le_of_ble_eq_true rfl)⟩)
      dsimp only [Pt.U, Pt.locs, Pt.cells, Pt.slots] at X5 l5 y5 z5 st5 hQ5
      subst l5 y5 z5
      obtain ⟨rfl, N5, E5⟩ := hQ5
      refine own_to st5 ?_
      show own_Go p e below F (T5.setTop (mkF m 21 #[.val (.ref x), .unset, .unset] [(.int (cs.getD 0 0))]))
      have N6 := Fr.app N0 N5
      obtain ⟨_, _, ⟨T7, L7, k7, n7⟩, -, X7, ⟨Lc7, hQ7, l7, y7, z7⟩, st7⟩ := Jvm.LawKit.callS X5 hx (y := (⟨"com/example/cladistic/cladistic/Names", "isDigit", "(C)Z"⟩ : MethodName)) hown (mvT hZ (hw _ (List.mem_of_getElem? (i := 88) rfl))) (mvT hZ (hw _ (List.mem_of_getElem? (i := 89) rfl))) (mvT hZ (hw _ (List.mem_of_getElem? (i := 32) rfl))) (mvT hZ (hw _ (List.mem_of_getElem? (i := 90) rfl))) (by decide) (backOf (W := 0) (rmDb l Z a0 hw (cs.getD 0 0) h0) hZ (hw _ (List.mem_of_getElem? (i := 90) rfl)) (hw _ (List.mem_of_getElem? (i := 32) rfl)) (by decide) (by decide)) (g := (mkF m 21 #[.val (.ref x), .unset, .unset] [(.int (cs.getD 0 0))])) rfl (by rw [hml]; rfl) (argsL := [(.int (cs.getD 0 0))]) (rest := []) (lenOf pdx15 rfl) rfl (by show 2 * 0 + _ ≤ _; exact Nat.le_of_eq rfl) (hb hby dPI_21) (fun _ _ => ⟨rfl, E5, (Nat.le_of_ble_eq_true rfl), (Nat.le_of_ble_eq_true rfl)⟩)
      dsimp only [Pt.U, Pt.locs, Pt.cells, Pt.slots] at X7 l7 y7 z7 st7 hQ7
      subst l7 y7 z7
      obtain ⟨rfl, N7, E7⟩ := hQ7
      refine own_on (st7) ?_
      show own_Go p e below F (T7.setTop (mkF m 24 #[.val (.ref x), .unset, .unset] [(.int ((if own_dg (cs.getD 0 0) = true then (1 : Int32) else 0)))]))
      have N8 := Fr.app N6 N7
      by_cases hd : own_dg (cs.getD 0 0) = true
      · rw [if_pos hd]
        show own_Go p e below F (T7.setTop (mkF m 24 #[.val (.ref x), .unset, .unset] [(.int ((1 : Int32)))]))
        refine own_ifeq X7.here hx (hb hby dPI_24) (by decide) (pc' := 29) (by decide) (pc2 := 27) rfl (fun q => absurd q (by decide)) (fun q9 => ?_)
        refine own_iconst X7.here hx (hb hby dPI_27) (v := 0) rfl (pc' := 28) rfl ?_
        exact own_retZ X7 hx hlk (by decide) hret (hb hby dPI_28) (fun t ht hE => hF t _ _ _ _ (by rw [ht, (E7 : _ = h0)]; exact ⟨by rw [own_pi, if_pos (Or.inr (Or.inr hd))], N8, rfl⟩) hE (by decide) (by decide))
      · rw [if_neg hd]
        show own_Go p e below F (T7.setTop (mkF m 24 #[.val (.ref x), .unset, .unset] [(.int ((0 : Int32)))]))
        refine own_ifeq X7.here hx (hb hby dPI_24) (by decide) (pc' := 29) (by decide) (pc2 := 27) rfl (fun q10 => ?_) (fun q => absurd rfl q)
        have hd0 : own_dg (cs.getD 0 0) = false := by simpa using hd
        refine own_iconst X7.here hx (hb hby dPI_29) (v := 0) rfl (pc' := 30) rfl ?_
        refine own_istore_n X7.here hx (hb hby dPI_30) (L' := #[.val (.ref x), .val (.int ((0 : Int32))), .unset]) rfl (pc' := 31) rfl ?_
        have J : ∀ (d i : Nat) (_ : i + d = cs.length) (_ : ∀ j, j < i → own_ok (cs.getD j 0) = true) (sl : Slot) (_ : sl = .unset ∨ ∃ cc : Int32, sl = .val (.int cc)) (TJ : State) (LJ : List Loc), Stand p l e ({ frames := 5, cells := 0, slots := 0, locals := 67 } : Room) s m #[(.ref x)] below meth c TJ LJ 0 0 → TJ.heap = h0 → Fr Z.heap.size LJ → own_Go p e below F (TJ.setTop (mkF m 31 #[.val (.ref x), .val (.int (Int32.ofNat i)), sl] [])) := by
          intro d
          induction d with
          | zero =>
            intro i hi hall sl hsl TJ LJ XJ eJ NJ
            rcases hsl with rfl | ⟨cc, rfl⟩
            · refine own_iload_n XJ.here hx (hb hby dPI_31) rfl (pc' := 32) rfl ?_
              refine own_aload_n XJ.here hx (hb hby dPI_32) rfl rfl (pc' := 33) rfl ?_
              obtain ⟨cq11, kq11, qa11, qb11, qc11⟩ := isOf hZ eJ S.exa
              obtain ⟨_, _, ⟨T11, L11, k11, n11⟩, -, X11, ⟨Lc11, hQ11, l11, y11, z11⟩, st11⟩ := XJ.virtualBack hx (y := (⟨"java/lang/String", "length", "()I"⟩ : MethodName)) (z := (⟨"java/lang/String", "length", "()I"⟩ : MethodName)) hown (mvT hZ (hw _ (List.mem_of_getElem? (i := 56) rfl))) (mvT hZ (hw _ (List.mem_of_getElem? (i := 57) rfl))) (notFace_of_selects (args := #[]) (mvT hZ (hw _ (List.mem_of_getElem? (i := 59) rfl)))) (mvT hZ (hw _ (List.mem_of_getElem? (i := 59) rfl))) (mvT hZ (hw _ (List.mem_of_getElem? (i := 58) rfl))) (by decide) (own_lenS (s := s) (W := 1) hZ hw S (O1.ext EZ) P5 (by decide) (by decide)) qa11 qc11 (g := (mkF m 33 #[.val (.ref x), .val (.int (Int32.ofNat i)), .unset] [(.ref x), (.int (Int32.ofNat i))])) rfl (by rw [hml]; rfl) (Steps.refl _) (argsL := []) (rest := [(.int (Int32.ofNat i))]) (lenOf pdx17 rfl) rfl (by show 2 * 0 + _ ≤ _; exact Nat.le_of_eq rfl) (hb hby dPI_33) (fun _ _ => ⟨rfl, eJ, (Nat.le_of_ble_eq_true rfl), (Nat.le_of_ble_eq_true rfl)⟩)
              dsimp only [Pt.U, Pt.locs, Pt.cells, Pt.slots] at X11 l11 y11 z11 st11 hQ11
              subst l11 y11 z11
              obtain ⟨rfl, rfl, E11⟩ := hQ11
              refine own_to st11 ?_
              show own_Go p e below F (T11.setTop (mkF m 36 #[.val (.ref x), .val (.int (Int32.ofNat i)), .unset] [(.int (Int32.ofNat cs.length)), (.int (Int32.ofNat i))]))
              rw [show Int32.ofNat i = Int32.ofNat cs.length by rw [show i = cs.length by omega]]
              show own_Go p e below F (T11.setTop (mkF m 36 #[.val (.ref x), .val (.int (Int32.ofNat cs.length)), .unset] [(.int (Int32.ofNat cs.length)), (.int (Int32.ofNat cs.length))]))
              refine own_icmpge X11.here hx (hb hby dPI_36) (by decide) (pc' := 90) (by decide) (pc2 := 39) rfl (fun q12 => ?_) (fun q => absurd q (own_nltN (Nat.le_refl _) (by omega)))
              refine own_iconst X11.here hx (hb hby dPI_90) (v := 1) rfl (pc' := 91) rfl ?_
              exact own_retZ X11 hx hlk (by decide) hret (hb hby dPI_91) (fun t ht hE => hF t _ _ _ _ (by rw [ht, (E11 : _ = h0)]; exact ⟨by rw [own_pi_yes hz hg hd0 (fun j hj => hall j (by omega))], (by simpa using NJ), rfl⟩) hE (by decide) (by decide))
            · refine own_iload_n XJ.here hx (hb hby dPI_31) rfl (pc' := 32) rfl ?_
              refine own_aload_n XJ.here hx (hb hby dPI_32) rfl rfl (pc' := 33) rfl ?_
              obtain ⟨cq13, kq13, qa13, qb13, qc13⟩ := isOf hZ eJ S.exa
              obtain ⟨_, _, ⟨T13, L13, k13, n13⟩, -, X13, ⟨Lc13, hQ13, l13, y13, z13⟩, st13⟩ := XJ.virtualBack hx (y := (⟨"java/lang/String", "length", "()I"⟩ : MethodName)) (z := (⟨"java/lang/String", "length", "()I"⟩ : MethodName)) hown (mvT hZ (hw _ (List.mem_of_getElem? (i := 56) rfl))) (mvT hZ (hw _ (List.mem_of_getElem? (i := 57) rfl))) (notFace_of_selects (args := #[]) (mvT hZ (hw _ (List.mem_of_getElem? (i := 59) rfl)))) (mvT hZ (hw _ (List.mem_of_getElem? (i := 59) rfl))) (mvT hZ (hw _ (List.mem_of_getElem? (i := 58) rfl))) (by decide) (own_lenS (s := s) (W := 1) hZ hw S (O1.ext EZ) P5 (by decide) (by decide)) qa13 qc13 (g := (mkF m 33 #[.val (.ref x), .val (.int (Int32.ofNat i)), .val (.int cc)] [(.ref x), (.int (Int32.ofNat i))])) rfl (by rw [hml]; rfl) (Steps.refl _) (argsL := []) (rest := [(.int (Int32.ofNat i))]) (lenOf pdx17 rfl) rfl (by show 2 * 0 + _ ≤ _; exact Nat.le_of_eq rfl) (hb hby dPI_33) (fun _ _ => ⟨rfl, eJ, (Nat.le_of_ble_eq_true rfl), (Nat.le_of_ble_eq_true rfl)⟩)
              dsimp only [Pt.U, Pt.locs, Pt.cells, Pt.slots] at X13 l13 y13 z13 st13 hQ13
              subst l13 y13 z13
              obtain ⟨rfl, rfl, E13⟩ := hQ13
              refine own_to st13 ?_
              show own_Go p e below F (T13.setTop (mkF m 36 #[.val (.ref x), .val (.int (Int32.ofNat i)), .val (.int cc)] [(.int (Int32.ofNat cs.length)), (.int (Int32.ofNat i))]))
              rw [show Int32.ofNat i = Int32.ofNat cs.length by rw [show i = cs.length by omega]]
              show own_Go p e below F (T13.setTop (mkF m 36 #[.val (.ref x), .val (.int (Int32.ofNat cs.length)), .val (.int cc)] [(.int (Int32.ofNat cs.length)), (.int (Int32.ofNat cs.length))]))
              refine own_icmpge X13.here hx (hb hby dPI_36) (by decide) (pc' := 90) (by decide) (pc2 := 39) rfl (fun q14 => ?_) (fun q => absurd q (own_nltN (Nat.le_refl _) (by omega)))
              refine own_iconst X13.here hx (hb hby dPI_90) (v := 1) rfl (pc' := 91) rfl ?_
              exact own_retZ X13 hx hlk (by decide) hret (hb hby dPI_91) (fun t ht hE => hF t _ _ _ _ (by rw [ht, (E13 : _ = h0)]; exact ⟨by rw [own_pi_yes hz hg hd0 (fun j hj => hall j (by omega))], (by simpa using NJ), rfl⟩) hE (by decide) (by decide))
          | succ d ih =>
            intro i hi hall sl hsl TJ LJ XJ eJ NJ
            rcases hsl with rfl | ⟨cc, rfl⟩
            · refine own_iload_n XJ.here hx (hb hby dPI_31) rfl (pc' := 32) rfl ?_
              refine own_aload_n XJ.here hx (hb hby dPI_32) rfl rfl (pc' := 33) rfl ?_
              obtain ⟨cq15, kq15, qa15, qb15, qc15⟩ := isOf hZ eJ S.exa
              obtain ⟨_, _, ⟨T15, L15, k15, n15⟩, -, X15, ⟨Lc15, hQ15, l15, y15, z15⟩, st15⟩ := XJ.virtualBack hx (y := (⟨"java/lang/String", "length", "()I"⟩ : MethodName)) (z := (⟨"java/lang/String", "length", "()I"⟩ : MethodName)) hown (mvT hZ (hw _ (List.mem_of_getElem? (i := 56) rfl))) (mvT hZ (hw _ (List.mem_of_getElem? (i := 57) rfl))) (notFace_of_selects (args := #[]) (mvT hZ (hw _ (List.mem_of_getElem? (i := 59) rfl)))) (mvT hZ (hw _ (List.mem_of_getElem? (i := 59) rfl))) (mvT hZ (hw _ (List.mem_of_getElem? (i := 58) rfl))) (by decide) (own_lenS (s := s) (W := 1) hZ hw S (O1.ext EZ) P5 (by decide) (by decide)) qa15 qc15 (g := (mkF m 33 #[.val (.ref x), .val (.int (Int32.ofNat i)), .unset] [(.ref x), (.int (Int32.ofNat i))])) rfl (by rw [hml]; rfl) (Steps.refl _) (argsL := []) (rest := [(.int (Int32.ofNat i))]) (lenOf pdx17 rfl) rfl (by show 2 * 0 + _ ≤ _; exact Nat.le_of_eq rfl) (hb hby dPI_33) (fun _ _ => ⟨rfl, eJ, (Nat.le_of_ble_eq_true rfl), (Nat.le_of_ble_eq_true rfl)⟩)
              dsimp only [Pt.U, Pt.locs, Pt.cells, Pt.slots] at X15 l15 y15 z15 st15 hQ15
              subst l15 y15 z15
              obtain ⟨rfl, rfl, E15⟩ := hQ15
              refine own_to st15 ?_
              show own_Go p e below F (T15.setTop (mkF m 36 #[.val (.ref x), .val (.int (Int32.ofNat i)), .unset] [(.int (Int32.ofNat cs.length)), (.int (Int32.ofNat i))]))
              refine own_icmpge X15.here hx (hb hby dPI_36) (by decide) (pc' := 90) (by decide) (pc2 := 39) rfl (fun q => absurd (own_ltN (by omega) (by omega)) q) (fun q16 => ?_)
              refine own_aload_n X15.here hx (hb hby dPI_39) rfl rfl (pc' := 40) rfl ?_
              refine own_iload_n X15.here hx (hb hby dPI_40) rfl (pc' := 41) rfl ?_
              obtain ⟨cq17, kq17, qa17, qb17, qc17⟩ := isOf hZ E15 S.exa
              obtain ⟨_, _, ⟨T17, L17, k17, n17⟩, -, X17, ⟨Lc17, hQ17, l17, y17, z17⟩, st17⟩ := X15.virtualBack hx (y := (⟨"java/lang/String", "charAt", "(I)C"⟩ : MethodName)) (z := (⟨"java/lang/String", "charAt", "(I)C"⟩ : MethodName)) hown (mvT hZ (hw _ (List.mem_of_getElem? (i := 66) rfl))) (mvT hZ (hw _ (List.mem_of_getElem? (i := 67) rfl))) (notFace_of_selects (args := #[]) (mvT hZ (hw _ (List.mem_of_getElem? (i := 69) rfl)))) (mvT hZ (hw _ (List.mem_of_getElem? (i := 69) rfl))) (mvT hZ (hw _ (List.mem_of_getElem? (i := 68) rfl))) (by decide) (backOf (W := 0) (rmCA l Z a0 hw x cs i h0 EZ z0 O1 P5 fm O2 rf O3 O4 O5 S (by omega)) hZ (hw _ (List.mem_of_getElem? (i := 70) rfl)) (hw _ (List.mem_of_getElem? (i := 10) rfl)) (by decide) (by decide)) qa17 qc17 (g := (mkF m 41 #[.val (.ref x), .val (.int (Int32.ofNat i)), .unset] [(.int (Int32.ofNat i)), (.ref x)])) rfl (by rw [hml]; rfl) (Steps.refl _) (argsL := [(.int (Int32.ofNat i))]) (rest := []) (lenOf pdx14 rfl) rfl (by show 2 * 0 + _ ≤ _; exact Nat.le_of_eq rfl) (hb hby dPI_41) (fun _ _ => ⟨rfl, E15, (Nat.le_of_ble_eq_true rfl), (Nat.le_of_ble_eq_true rfl)⟩)
              dsimp only [Pt.U, Pt.locs, Pt.cells, Pt.slots] at X17 l17 y17 z17 st17 hQ17
              subst l17 y17 z17
              obtain ⟨rfl, N17, E17⟩ := hQ17
              refine own_to st17 ?_
              show own_Go p e below F (T17.setTop (mkF m 44 #[.val (.ref x), .val (.int (Int32.ofNat i)), .unset] [(.int (cs.getD i 0))]))
              have N18 := Fr.app NJ N17
              refine own_istore_n X17.here hx (hb hby dPI_44) (L' := #[.val (.ref x), .val (.int (Int32.ofNat i)), .val (.int (cs.getD i 0))]) rfl (pc' := 45) rfl ?_
              refine own_iload_n X17.here hx (hb hby dPI_45) rfl (pc' := 46) rfl ?_
              obtain ⟨_, _, ⟨T19, L19, k19, n19⟩, -, X19, ⟨Lc19, hQ19, l19, y19, z19⟩, st19⟩ := Jvm.LawKit.callS X17 hx (y := (⟨"com/example/cladistic/cladistic/Names", "isDigit", "(C)Z"⟩ : MethodName)) hown (mvT hZ (hw _ (List.mem_of_getElem? (i := 88) rfl))) (mvT hZ (hw _ (List.mem_of_getElem? (i := 89) rfl))) (mvT hZ (hw _ (List.mem_of_getElem? (i := 32) rfl))) (mvT hZ (hw _ (List.mem_of_getElem? (i := 90) rfl))) (by decide) (backOf (W := 0) (rmDb l Z a0 hw (cs.getD i 0) h0) hZ (hw _ (List.mem_of_getElem? (i := 90) rfl)) (hw _ (List.mem_of_getElem? (i := 32) rfl)) (by decide) (by decide)) (g := (mkF m 46 #[.val (.ref x), .val (.int (Int32.ofNat i)), .val (.int (cs.getD i 0))] [(.int (cs.getD i 0))])) rfl (by rw [hml]; rfl) (argsL := [(.int (cs.getD i 0))]) (rest := []) (lenOf pdx15 rfl) rfl (by show 2 * 0 + _ ≤ _; exact Nat.le_of_eq rfl) (hb hby dPI_46) (fun _ _ => ⟨rfl, E17, (Nat.le_of_ble_eq_true rfl), (Nat.le_of_ble_eq_true rfl)⟩)
              dsimp only [Pt.U, Pt.locs, Pt.cells, Pt.slots] at X19 l19 y19 z19 st19 hQ19
              subst l19 y19 z19
              obtain ⟨rfl, N19, E19⟩ := hQ19
              refine own_on (st19) ?_
              show own_Go p e below F (T19.setTop (mkF m 49 #[.val (.ref x), .val (.int (Int32.ofNat i)), .val (.int (cs.getD i 0))] [(.int ((if own_dg (cs.getD i 0) = true then (1 : Int32) else 0)))]))
              have N20 := Fr.app N18 N19
              have JO : own_ok (cs.getD i 0) = true → own_Go p e below F (T19.setTop (mkF m 84 #[.val (.ref x), .val (.int (Int32.ofNat i)), .val (.int (cs.getD i 0))] [])) := by
                intro hok
                refine own_iinc X19.here hx (hb hby dPI_84) rfl (y := Int32.ofNat (i + 1)) (own_inc _) (L' := #[.val (.ref x), .val (.int (Int32.ofNat (i + 1))), .val (.int (cs.getD i 0))]) rfl (pc' := 87) rfl ?_
                refine own_goto X19.here hx (hb hby dPI_87) (by decide) (pc' := 31) (by decide) ?_
                refine ih (i + 1) (by omega) (fun j hj => ?_) _ (Or.inr ⟨_, rfl⟩) _ _ X19 E19 (by simpa using N20)
                rcases Nat.lt_or_ge j i with z | z
                · exact hall j z
                · rw [show j = i by omega]; exact hok
              have JN : own_ok (cs.getD i 0) = false → own_Go p e below F (T19.setTop (mkF m 82 #[.val (.ref x), .val (.int (Int32.ofNat i)), .val (.int (cs.getD i 0))] [])) := by
                intro hok
                refine own_iconst X19.here hx (hb hby dPI_82) (v := 0) rfl (pc' := 83) rfl ?_
                exact own_retZ X19 hx hlk (by decide) hret (hb hby dPI_83) (fun t ht hE => hF t _ _ _ _ (by rw [ht, (E19 : _ = h0)]; exact ⟨by rw [own_pi_no (by omega) hok], (by simpa using N20), rfl⟩) hE (by decide) (by decide))
              obtain ⟨cv, hcv⟩ : ∃ cv, cv = cs.getD i 0 := ⟨_, rfl⟩
              rw [← hcv] at JO JN ⊢
              show own_Go p e below F (T19.setTop (mkF m 49 #[.val (.ref x), .val (.int (Int32.ofNat i)), .val (.int cv)] [(.int ((if own_dg cv = true then (1 : Int32) else 0)))]))
              by_cases hdv : own_dg cv = true
              · rw [if_pos hdv]
                show own_Go p e below F (T19.setTop (mkF m 49 #[.val (.ref x), .val (.int (Int32.ofNat i)), .val (.int cv)] [(.int ((1 : Int32)))]))
                refine own_ifne X19.here hx (hb hby dPI_49) (by decide) (pc' := 84) (by decide) (pc2 := 52) rfl (fun q21 => ?_) (fun q => absurd q (by decide))
                exact JO (by simp [own_ok, hdv])
              · rw [if_neg hdv]
                show own_Go p e below F (T19.setTop (mkF m 49 #[.val (.ref x), .val (.int (Int32.ofNat i)), .val (.int cv)] [(.int ((0 : Int32)))]))
                refine own_ifne X19.here hx (hb hby dPI_49) (by decide) (pc' := 84) (by decide) (pc2 := 52) rfl (fun q => absurd rfl q) (fun q22 => ?_)
                refine own_iload_n X19.here hx (hb hby dPI_52) rfl (pc' := 53) rfl ?_
                refine own_bipush X19.here hx (hb hby dPI_53) (v := 95) rfl (pc' := 55) rfl ?_
                refine own_icmpeq X19.here hx (hb hby dPI_55) (by decide) (pc' := 84) (by decide) (pc2 := 58) rfl (fun q1 => ?_) (fun q1 => ?_)
                · exact JO (by simp [own_ok, q1])
                · refine own_iload_n X19.here hx (hb hby dPI_58) rfl (pc' := 59) rfl ?_
                  refine own_bipush X19.here hx (hb hby dPI_59) (v := 97) rfl (pc' := 61) rfl ?_
                  refine own_icmplt X19.here hx (hb hby dPI_61) (by decide) (pc' := 70) (by decide) (pc2 := 64) rfl (fun q2 => ?_) (fun q2 => ?_)
                  · refine own_iload_n X19.here hx (hb hby dPI_70) rfl (pc' := 71) rfl ?_
                    refine own_bipush X19.here hx (hb hby dPI_71) (v := 65) rfl (pc' := 73) rfl ?_
                    refine own_icmplt X19.here hx (hb hby dPI_73) (by decide) (pc' := 82) (by decide) (pc2 := 76) rfl (fun q3 => ?_) (fun q3 => ?_)
                    · exact JN (by simp [own_ok, hdv, q1, q2, q3])
                    · refine own_iload_n X19.here hx (hb hby dPI_76) rfl (pc' := 77) rfl ?_
                      refine own_bipush X19.here hx (hb hby dPI_77) (v := 90) rfl (pc' := 79) rfl ?_
                      refine own_icmple X19.here hx (hb hby dPI_79) (by decide) (pc' := 84) (by decide) (pc2 := 82) rfl (fun q4 => ?_) (fun q4 => ?_)
                      · exact JO (by simp [own_ok, q3, q4])
                      · exact JN (by simp [own_ok, hdv, q1, q2, q3, q4])
                  · refine own_iload_n X19.here hx (hb hby dPI_64) rfl (pc' := 65) rfl ?_
                    refine own_bipush X19.here hx (hb hby dPI_65) (v := 122) rfl (pc' := 67) rfl ?_
                    refine own_icmple X19.here hx (hb hby dPI_67) (by decide) (pc' := 84) (by decide) (pc2 := 70) rfl (fun q5 => ?_) (fun q5 => ?_)
                    · exact JO (by simp [own_ok, q2, q5])
                    · refine own_iload_n X19.here hx (hb hby dPI_70) rfl (pc' := 71) rfl ?_
                      refine own_bipush X19.here hx (hb hby dPI_71) (v := 65) rfl (pc' := 73) rfl ?_
                      refine own_icmplt X19.here hx (hb hby dPI_73) (by decide) (pc' := 82) (by decide) (pc2 := 76) rfl (fun q3 => ?_) (fun q3 => ?_)
                      · exact JN (by simp [own_ok, hdv, q1, q2, q5, q3])
                      · refine own_iload_n X19.here hx (hb hby dPI_76) rfl (pc' := 77) rfl ?_
                        refine own_bipush X19.here hx (hb hby dPI_77) (v := 90) rfl (pc' := 79) rfl ?_
                        refine own_icmple X19.here hx (hb hby dPI_79) (by decide) (pc' := 84) (by decide) (pc2 := 82) rfl (fun q4 => ?_) (fun q4 => ?_)
                        · exact JO (by simp [own_ok, q3, q4])
                        · exact JN (by simp [own_ok, hdv, q1, q2, q5, q3, q4])
            · refine own_iload_n XJ.here hx (hb hby dPI_31) rfl (pc' := 32) rfl ?_
              refine own_aload_n XJ.here hx (hb hby dPI_32) rfl rfl (pc' := 33) rfl ?_
              obtain ⟨cq23, kq23, qa23, qb23, qc23⟩ := isOf hZ eJ S.exa
              obtain ⟨_, _, ⟨T23, L23, k23, n23⟩, -, X23, ⟨Lc23, hQ23, l23, y23, z23⟩, st23⟩ := XJ.virtualBack hx (y := (⟨"java/lang/String", "length", "()I"⟩ : MethodName)) (z := (⟨"java/lang/String", "length", "()I"⟩ : MethodName)) hown (mvT hZ (hw _ (List.mem_of_getElem? (i := 56) rfl))) (mvT hZ (hw _ (List.mem_of_getElem? (i := 57) rfl))) (notFace_of_selects (args := #[]) (mvT hZ (hw _ (List.mem_of_getElem? (i := 59) rfl)))) (mvT hZ (hw _ (List.mem_of_getElem? (i := 59) rfl))) (mvT hZ (hw _ (List.mem_of_getElem? (i := 58) rfl))) (by decide) (own_lenS (s := s) (W := 1) hZ hw S (O1.ext EZ) P5 (by decide) (by decide)) qa23 qc23 (g := (mkF m 33 #[.val (.ref x), .val (.int (Int32.ofNat i)), .val (.int cc)] [(.ref x), (.int (Int32.ofNat i))])) rfl (by rw [hml]; rfl) (Steps.refl _) (argsL := []) (rest := [(.int (Int32.ofNat i))]) (lenOf pdx17 rfl) rfl (by show 2 * 0 + _ ≤ _; exact Nat.le_of_eq rfl) (hb hby dPI_33) (fun _ _ => ⟨rfl, eJ, (Nat.le_of_ble_eq_true rfl), (Nat.le_of_ble_eq_true rfl)⟩)
              dsimp only [Pt.U, Pt.locs, Pt.cells, Pt.slots] at X23 l23 y23 z23 st23 hQ23
              subst l23 y23 z23
              obtain ⟨rfl, rfl, E23⟩ := hQ23
              refine own_to st23 ?_
              show own_Go p e below F (T23.setTop (mkF m 36 #[.val (.ref x), .val (.int (Int32.ofNat i)), .val (.int cc)] [(.int (Int32.ofNat cs.length)), (.int (Int32.ofNat i))]))
              refine own_icmpge X23.here hx (hb hby dPI_36) (by decide) (pc' := 90) (by decide) (pc2 := 39) rfl (fun q => absurd (own_ltN (by omega) (by omega)) q) (fun q24 => ?_)
              refine own_aload_n X23.here hx (hb hby dPI_39) rfl rfl (pc' := 40) rfl ?_
              refine own_iload_n X23.here hx (hb hby dPI_40) rfl (pc' := 41) rfl ?_
              obtain ⟨cq25, kq25, qa25, qb25, qc25⟩ := isOf hZ E23 S.exa
              obtain ⟨_, _, ⟨T25, L25, k25, n25⟩, -, X25, ⟨Lc25, hQ25, l25, y25, z25⟩, st25⟩ := X23.virtualBack hx (y := (⟨"java/lang/String", "charAt", "(I)C"⟩ : MethodName)) (z := (⟨"java/lang/String", "charAt", "(I)C"⟩ : MethodName)) hown (mvT hZ (hw _ (List.mem_of_getElem? (i := 66) rfl))) (mvT hZ (hw _ (List.mem_of_getElem? (i := 67) rfl))) (notFace_of_selects (args := #[]) (mvT hZ (hw _ (List.mem_of_getElem? (i := 69) rfl)))) (mvT hZ (hw _ (List.mem_of_getElem? (i := 69) rfl))) (mvT hZ (hw _ (List.mem_of_getElem? (i := 68) rfl))) (by decide) (backOf (W := 0) (rmCA l Z a0 hw x cs i h0 EZ z0 O1 P5 fm O2 rf O3 O4 O5 S (by omega)) hZ (hw _ (List.mem_of_getElem? (i := 70) rfl)) (hw _ (List.mem_of_getElem? (i := 10) rfl)) (by decide) (by decide)) qa25 qc25 (g := (mkF m 41 #[.val (.ref x), .val (.int (Int32.ofNat i)), .val (.int cc)] [(.int (Int32.ofNat i)), (.ref x)])) rfl (by rw [hml]; rfl) (Steps.refl _) (argsL := [(.int (Int32.ofNat i))]) (rest := []) (lenOf pdx14 rfl) rfl (by show 2 * 0 + _ ≤ _; exact Nat.le_of_eq rfl) (hb hby dPI_41) (fun _ _ => ⟨rfl, E23, (Nat.le_of_ble_eq_true rfl), (Nat.le_of_ble_eq_true rfl)⟩)
              dsimp only [Pt.U, Pt.locs, Pt.cells, Pt.slots] at X25 l25 y25 z25 st25 hQ25
              subst l25 y25 z25
              obtain ⟨rfl, N25, E25⟩ := hQ25
              refine own_to st25 ?_
              show own_Go p e below F (T25.setTop (mkF m 44 #[.val (.ref x), .val (.int (Int32.ofNat i)), .val (.int cc)] [(.int (cs.getD i 0))]))
              have N26 := Fr.app NJ N25
              refine own_istore_n X25.here hx (hb hby dPI_44) (L' := #[.val (.ref x), .val (.int (Int32.ofNat i)), .val (.int (cs.getD i 0))]) rfl (pc' := 45) rfl ?_
              refine own_iload_n X25.here hx (hb hby dPI_45) rfl (pc' := 46) rfl ?_
              obtain ⟨_, _, ⟨T27, L27, k27, n27⟩, -, X27, ⟨Lc27, hQ27, l27, y27, z27⟩, st27⟩ := Jvm.LawKit.callS X25 hx (y := (⟨"com/example/cladistic/cladistic/Names", "isDigit", "(C)Z"⟩ : MethodName)) hown (mvT hZ (hw _ (List.mem_of_getElem? (i := 88) rfl))) (mvT hZ (hw _ (List.mem_of_getElem? (i := 89) rfl))) (mvT hZ (hw _ (List.mem_of_getElem? (i := 32) rfl))) (mvT hZ (hw _ (List.mem_of_getElem? (i := 90) rfl))) (by decide) (backOf (W := 0) (rmDb l Z a0 hw (cs.getD i 0) h0) hZ (hw _ (List.mem_of_getElem? (i := 90) rfl)) (hw _ (List.mem_of_getElem? (i := 32) rfl)) (by decide) (by decide)) (g := (mkF m 46 #[.val (.ref x), .val (.int (Int32.ofNat i)), .val (.int (cs.getD i 0))] [(.int (cs.getD i 0))])) rfl (by rw [hml]; rfl) (argsL := [(.int (cs.getD i 0))]) (rest := []) (lenOf pdx15 rfl) rfl (by show 2 * 0 + _ ≤ _; exact Nat.le_of_eq rfl) (hb hby dPI_46) (fun _ _ => ⟨rfl, E25, (Nat.le_of_ble_eq_true rfl), (Nat.le_of_ble_eq_true rfl)⟩)
              dsimp only [Pt.U, Pt.locs, Pt.cells, Pt.slots] at X27 l27 y27 z27 st27 hQ27
              subst l27 y27 z27
              obtain ⟨rfl, N27, E27⟩ := hQ27
              refine own_on (st27) ?_
              show own_Go p e below F (T27.setTop (mkF m 49 #[.val (.ref x), .val (.int (Int32.ofNat i)), .val (.int (cs.getD i 0))] [(.int ((if own_dg (cs.getD i 0) = true then (1 : Int32) else 0)))]))
              have N28 := Fr.app N26 N27
              have JO : own_ok (cs.getD i 0) = true → own_Go p e below F (T27.setTop (mkF m 84 #[.val (.ref x), .val (.int (Int32.ofNat i)), .val (.int (cs.getD i 0))] [])) := by
                intro hok
                refine own_iinc X27.here hx (hb hby dPI_84) rfl (y := Int32.ofNat (i + 1)) (own_inc _) (L' := #[.val (.ref x), .val (.int (Int32.ofNat (i + 1))), .val (.int (cs.getD i 0))]) rfl (pc' := 87) rfl ?_
                refine own_goto X27.here hx (hb hby dPI_87) (by decide) (pc' := 31) (by decide) ?_
                refine ih (i + 1) (by omega) (fun j hj => ?_) _ (Or.inr ⟨_, rfl⟩) _ _ X27 E27 (by simpa using N28)
                rcases Nat.lt_or_ge j i with z | z
                · exact hall j z
                · rw [show j = i by omega]; exact hok
              have JN : own_ok (cs.getD i 0) = false → own_Go p e below F (T27.setTop (mkF m 82 #[.val (.ref x), .val (.int (Int32.ofNat i)), .val (.int (cs.getD i 0))] [])) := by
                intro hok
                refine own_iconst X27.here hx (hb hby dPI_82) (v := 0) rfl (pc' := 83) rfl ?_
                exact own_retZ X27 hx hlk (by decide) hret (hb hby dPI_83) (fun t ht hE => hF t _ _ _ _ (by rw [ht, (E27 : _ = h0)]; exact ⟨by rw [own_pi_no (by omega) hok], (by simpa using N28), rfl⟩) hE (by decide) (by decide))
              obtain ⟨cv, hcv⟩ : ∃ cv, cv = cs.getD i 0 := ⟨_, rfl⟩
              rw [← hcv] at JO JN ⊢
              show own_Go p e below F (T27.setTop (mkF m 49 #[.val (.ref x), .val (.int (Int32.ofNat i)), .val (.int cv)] [(.int ((if own_dg cv = true then (1 : Int32) else 0)))]))
              by_cases hdv : own_dg cv = true
              · rw [if_pos hdv]
                show own_Go p e below F (T27.setTop (mkF m 49 #[.val (.ref x), .val (.int (Int32.ofNat i)), .val (.int cv)] [(.int ((1 : Int32)))]))
                refine own_ifne X27.here hx (hb hby dPI_49) (by decide) (pc' := 84) (by decide) (pc2 := 52) rfl (fun q29 => ?_) (fun q => absurd q (by decide))
                exact JO (by simp [own_ok, hdv])
              · rw [if_neg hdv]
                show own_Go p e below F (T27.setTop (mkF m 49 #[.val (.ref x), .val (.int (Int32.ofNat i)), .val (.int cv)] [(.int ((0 : Int32)))]))
                refine own_ifne X27.here hx (hb hby dPI_49) (by decide) (pc' := 84) (by decide) (pc2 := 52) rfl (fun q => absurd rfl q) (fun q30 => ?_)
                refine own_iload_n X27.here hx (hb hby dPI_52) rfl (pc' := 53) rfl ?_
                refine own_bipush X27.here hx (hb hby dPI_53) (v := 95) rfl (pc' := 55) rfl ?_
                refine own_icmpeq X27.here hx (hb hby dPI_55) (by decide) (pc' := 84) (by decide) (pc2 := 58) rfl (fun q1 => ?_) (fun q1 => ?_)
                · exact JO (by simp [own_ok, q1])
                · refine own_iload_n X27.here hx (hb hby dPI_58) rfl (pc' := 59) rfl ?_
                  refine own_bipush X27.here hx (hb hby dPI_59) (v := 97) rfl (pc' := 61) rfl ?_
                  refine own_icmplt X27.here hx (hb hby dPI_61) (by decide) (pc' := 70) (by decide) (pc2 := 64) rfl (fun q2 => ?_) (fun q2 => ?_)
                  · refine own_iload_n X27.here hx (hb hby dPI_70) rfl (pc' := 71) rfl ?_
                    refine own_bipush X27.here hx (hb hby dPI_71) (v := 65) rfl (pc' := 73) rfl ?_
                    refine own_icmplt X27.here hx (hb hby dPI_73) (by decide) (pc' := 82) (by decide) (pc2 := 76) rfl (fun q3 => ?_) (fun q3 => ?_)
                    · exact JN (by simp [own_ok, hdv, q1, q2, q3])
                    · refine own_iload_n X27.here hx (hb hby dPI_76) rfl (pc' := 77) rfl ?_
                      refine own_bipush X27.here hx (hb hby dPI_77) (v := 90) rfl (pc' := 79) rfl ?_
                      refine own_icmple X27.here hx (hb hby dPI_79) (by decide) (pc' := 84) (by decide) (pc2 := 82) rfl (fun q4 => ?_) (fun q4 => ?_)
                      · exact JO (by simp [own_ok, q3, q4])
                      · exact JN (by simp [own_ok, hdv, q1, q2, q3, q4])
                  · refine own_iload_n X27.here hx (hb hby dPI_64) rfl (pc' := 65) rfl ?_
                    refine own_bipush X27.here hx (hb hby dPI_65) (v := 122) rfl (pc' := 67) rfl ?_
                    refine own_icmple X27.here hx (hb hby dPI_67) (by decide) (pc' := 84) (by decide) (pc2 := 70) rfl (fun q5 => ?_) (fun q5 => ?_)
                    · exact JO (by simp [own_ok, q2, q5])
                    · refine own_iload_n X27.here hx (hb hby dPI_70) rfl (pc' := 71) rfl ?_
                      refine own_bipush X27.here hx (hb hby dPI_71) (v := 65) rfl (pc' := 73) rfl ?_
                      refine own_icmplt X27.here hx (hb hby dPI_73) (by decide) (pc' := 82) (by decide) (pc2 := 76) rfl (fun q3 => ?_) (fun q3 => ?_)
                      · exact JN (by simp [own_ok, hdv, q1, q2, q5, q3])
                      · refine own_iload_n X27.here hx (hb hby dPI_76) rfl (pc' := 77) rfl ?_
                        refine own_bipush X27.here hx (hb hby dPI_77) (v := 90) rfl (pc' := 79) rfl ?_
                        refine own_icmple X27.here hx (hb hby dPI_79) (by decide) (pc' := 84) (by decide) (pc2 := 82) rfl (fun q4 => ?_) (fun q4 => ?_)
                        · exact JO (by simp [own_ok, q3, q4])
                        · exact JN (by simp [own_ok, hdv, q1, q2, q5, q3, q4])
        exact J cs.length 0 (by omega) (fun _ q => absurd q (Nat.not_lt_zero _)) _ (Or.inl rfl) _ _ X7 E7 N8
theorem dSS_0 : decode method_5_code 0 = .ok (.iload_n 0, 1) := by decide +kernel
theorem dSS_1 : decode method_5_code 1 = .ok (.ifCond .ne 14, 3) := by decide +kernel
theorem dSS_4 : decode method_5_code 4 = .ok (.new 14, 3) := by decide +kernel
theorem dSS_7 : decode method_5_code 7 = .ok (.dup, 1) := by decide +kernel
theorem dSS_8 : decode method_5_code 8 = .ok (.iconst 0, 1) := by decide +kernel
theorem dSS_9 : decode method_5_code 9 = .ok (.newarray .char, 2) := by decide +kernel
theorem dSS_11 : decode method_5_code 11 = .ok (.invokespecial 16, 3) := by decide +kernel
theorem dSS_14 : decode method_5_code 14 = .ok (.areturn, 1) := by decide +kernel
theorem dSS_15 : decode method_5_code 15 = .ok (.iload_n 0, 1) := by decide +kernel
theorem dSS_16 : decode method_5_code 16 = .ok (.iconst 1, 1) := by decide +kernel
theorem dSS_17 : decode method_5_code 17 = .ok (.if_icmp .ne 18, 3) := by decide +kernel
theorem dSS_20 : decode method_5_code 20 = .ok (.new 14, 3) := by decide +kernel
theorem dSS_23 : decode method_5_code 23 = .ok (.dup, 1) := by decide +kernel
theorem dSS_24 : decode method_5_code 24 = .ok (.iconst 1, 1) := by decide +kernel
theorem dSS_25 : decode method_5_code 25 = .ok (.newarray .char, 2) := by decide +kernel
theorem dSS_27 : decode method_5_code 27 = .ok (.dup, 1) := by decide +kernel
theorem dSS_28 : decode method_5_code 28 = .ok (.iconst 0, 1) := by decide +kernel
theorem dSS_29 : decode method_5_code 29 = .ok (.iload_n 1, 1) := by decide +kernel
theorem dSS_30 : decode method_5_code 30 = .ok (.castore, 1) := by decide +kernel
theorem dSS_31 : decode method_5_code 31 = .ok (.invokespecial 16, 3) := by decide +kernel
theorem dSS_34 : decode method_5_code 34 = .ok (.areturn, 1) := by decide +kernel
theorem dSS_35 : decode method_5_code 35 = .ok (.iload_n 0, 1) := by decide +kernel
theorem dSS_36 : decode method_5_code 36 = .ok (.iconst 2, 1) := by decide +kernel
theorem dSS_37 : decode method_5_code 37 = .ok (.if_icmp .ne 22, 3) := by decide +kernel
theorem dSS_40 : decode method_5_code 40 = .ok (.new 14, 3) := by decide +kernel
theorem dSS_43 : decode method_5_code 43 = .ok (.dup, 1) := by decide +kernel
theorem dSS_44 : decode method_5_code 44 = .ok (.iconst 2, 1) := by decide +kernel
theorem dSS_45 : decode method_5_code 45 = .ok (.newarray .char, 2) := by decide +kernel
theorem dSS_47 : decode method_5_code 47 = .ok (.dup, 1) := by decide +kernel
theorem dSS_48 : decode method_5_code 48 = .ok (.iconst 0, 1) := by decide +kernel
theorem dSS_49 : decode method_5_code 49 = .ok (.iload_n 1, 1) := by decide +kernel
theorem dSS_50 : decode method_5_code 50 = .ok (.castore, 1) := by decide +kernel
theorem dSS_51 : decode method_5_code 51 = .ok (.dup, 1) := by decide +kernel
theorem dSS_52 : decode method_5_code 52 = .ok (.iconst 1, 1) := by decide +kernel
theorem dSS_53 : decode method_5_code 53 = .ok (.iload_n 2, 1) := by decide +kernel
theorem dSS_54 : decode method_5_code 54 = .ok (.castore, 1) := by decide +kernel
theorem dSS_55 : decode method_5_code 55 = .ok (.invokespecial 16, 3) := by decide +kernel
theorem dSS_58 : decode method_5_code 58 = .ok (.areturn, 1) := by decide +kernel
theorem dSS_59 : decode method_5_code 59 = .ok (.iload_n 0, 1) := by decide +kernel
theorem dSS_60 : decode method_5_code 60 = .ok (.iconst 3, 1) := by decide +kernel
theorem dSS_61 : decode method_5_code 61 = .ok (.if_icmp .ne 26, 3) := by decide +kernel
theorem dSS_64 : decode method_5_code 64 = .ok (.new 14, 3) := by decide +kernel
theorem dSS_67 : decode method_5_code 67 = .ok (.dup, 1) := by decide +kernel
theorem dSS_68 : decode method_5_code 68 = .ok (.iconst 3, 1) := by decide +kernel
theorem dSS_69 : decode method_5_code 69 = .ok (.newarray .char, 2) := by decide +kernel
theorem dSS_71 : decode method_5_code 71 = .ok (.dup, 1) := by decide +kernel
theorem dSS_72 : decode method_5_code 72 = .ok (.iconst 0, 1) := by decide +kernel
theorem dSS_73 : decode method_5_code 73 = .ok (.iload_n 1, 1) := by decide +kernel
theorem dSS_74 : decode method_5_code 74 = .ok (.castore, 1) := by decide +kernel
theorem dSS_75 : decode method_5_code 75 = .ok (.dup, 1) := by decide +kernel
theorem dSS_76 : decode method_5_code 76 = .ok (.iconst 1, 1) := by decide +kernel
theorem dSS_77 : decode method_5_code 77 = .ok (.iload_n 2, 1) := by decide +kernel
theorem dSS_78 : decode method_5_code 78 = .ok (.castore, 1) := by decide +kernel
theorem dSS_79 : decode method_5_code 79 = .ok (.dup, 1) := by decide +kernel
theorem dSS_80 : decode method_5_code 80 = .ok (.iconst 2, 1) := by decide +kernel
theorem dSS_81 : decode method_5_code 81 = .ok (.iload_n 3, 1) := by decide +kernel
theorem dSS_82 : decode method_5_code 82 = .ok (.castore, 1) := by decide +kernel
theorem dSS_83 : decode method_5_code 83 = .ok (.invokespecial 16, 3) := by decide +kernel
theorem dSS_86 : decode method_5_code 86 = .ok (.areturn, 1) := by decide +kernel
theorem dSS_87 : decode method_5_code 87 = .ok (.new 14, 3) := by decide +kernel
theorem dSS_90 : decode method_5_code 90 = .ok (.dup, 1) := by decide +kernel
theorem dSS_91 : decode method_5_code 91 = .ok (.iconst 4, 1) := by decide +kernel
theorem dSS_92 : decode method_5_code 92 = .ok (.newarray .char, 2) := by decide +kernel
theorem dSS_94 : decode method_5_code 94 = .ok (.dup, 1) := by decide +kernel
theorem dSS_95 : decode method_5_code 95 = .ok (.iconst 0, 1) := by decide +kernel
theorem dSS_96 : decode method_5_code 96 = .ok (.iload_n 1, 1) := by decide +kernel
theorem dSS_97 : decode method_5_code 97 = .ok (.castore, 1) := by decide +kernel
theorem dSS_98 : decode method_5_code 98 = .ok (.dup, 1) := by decide +kernel
theorem dSS_99 : decode method_5_code 99 = .ok (.iconst 1, 1) := by decide +kernel
theorem dSS_100 : decode method_5_code 100 = .ok (.iload_n 2, 1) := by decide +kernel
theorem dSS_101 : decode method_5_code 101 = .ok (.castore, 1) := by decide +kernel
theorem dSS_102 : decode method_5_code 102 = .ok (.dup, 1) := by decide +kernel
theorem dSS_103 : decode method_5_code 103 = .ok (.iconst 2, 1) := by decide +kernel
theorem dSS_104 : decode method_5_code 104 = .ok (.iload_n 3, 1) := by decide +kernel
theorem dSS_105 : decode method_5_code 105 = .ok (.castore, 1) := by decide +kernel
theorem dSS_106 : decode method_5_code 106 = .ok (.dup, 1) := by decide +kernel
theorem dSS_107 : decode method_5_code 107 = .ok (.iconst 3, 1) := by decide +kernel
theorem dSS_108 : decode method_5_code 108 = .ok (.iload 4, 2) := by decide +kernel
theorem dSS_110 : decode method_5_code 110 = .ok (.castore, 1) := by decide +kernel
theorem dSS_111 : decode method_5_code 111 = .ok (.invokespecial 16, 3) := by decide +kernel
theorem dSS_114 : decode method_5_code 114 = .ok (.areturn, 1) := by decide +kernel
theorem efSS (m : MethodId) (x0 : Int32) (x1 : Int32) (x2 : Int32) (x3 : Int32) (x4 : Int32) : entryFrame m #[(.int x0), (.int x1), (.int x2), (.int x3), (.int x4)] 5 = mkF m 0 #[.val (.int x0), .val (.int x1), .val (.int x2), .val (.int x3), .val (.int x4)] [] := by first | (simp [entryFrame, mkF, argsToLocals, Value.category]; done) | rfl
def Q_rmS0 (Z : State) (y0 y1 y2 y3 : Int32) (h0 : Heap) (v : Option Value) (h : Heap) (L : List Loc) : Prop := ∃ x, v = some (.ref x) ∧ own_S Z h x [] ∧ Ext h0 h ∧ Fr Z.heap.size L
set_option maxRecDepth 65536 in
set_option maxHeartbeats 40000000 in
theorem rmS0 (l : Launch) (Z : State) (a0 : Array Value) (hw : ∀ d ∈ tables_1, d.before a0 Z = true) (hEL : EW Z a0 EL) (y0 y1 y2 y3 : Int32) (h0 : Heap) (EZ : Ext Z.heap h0) :
    MetFree l (⟨"com/example/cladistic/cladistic/NamesIsPlainIdentifierPinLaw", "shortString", "(ICCCC)Ljava/lang/String;"⟩ : MethodName) (head1 (Jvm.Cond.code (⟨"com/example/cladistic/cladistic/NamesIsPlainIdentifierPinLaw", "shortString", "(ICCCC)Ljava/lang/String;"⟩ : MethodName) method_5_code 5 (Option.some (FieldType.object "java/lang/String")) :: []) ({ frames := 6, cells := 6, slots := 200, locals := 88 } : Room)) (fun aa U => aa = #[(.int (0 : Int32)), (.int y0), (.int y1), (.int y2), (.int y3)] ∧ Z.Warmed39 U.vm ∧ U.heap = h0 ∧ CHv Z EL U.vm h0 ∧ ∀ yy ∈ ([] : List Addr), Safe Z EL U.vm h0 yy) (fun _ _ _ _ _ => True) (fun _ U o U' => ∃ v L, o = .returned v ∧ (Q_rmS0 Z y0 y1 y2 y3 h0) v U'.heap L ∧ CHr Z EL U.vm U.heap U'.vm U'.heap ∧ ReturnedEndW U o U' L ({ frames := 6, cells := 6, slots := 200, locals := 88 } : Room).cells ({ frames := 6, cells := 6, slots := 200, locals := 88 } : Room).slots) := by
  refine own_walkW (by exact pnL) ?_
  intro p e s m below meth c T0 X0 hx hby hml hret hlk hnm hs0 e0 I0 hsf F hF
  refine own_on (fun _ => castTop (efSS m 0 y0 y1 y2 y3)) ?_
  have M0 := own_ext_refl h0
  have N0 := Fr.nil Z.heap.size
  refine own_iload_n X0.here hx (hb hby dSS_0) rfl (pc' := 1) rfl ?_
  refine own_ifne X0.here hx (hb hby dSS_1) (by decide) (pc' := 15) (by decide) (pc2 := 4) rfl (fun q => absurd rfl q) (fun q1 => ?_)
  obtain ⟨T2, h2, X2, e2, E2, A2, D2, -, st2⟩ := newO X0 hx I0.1 I0.2.1 (hw _ (List.mem_of_getElem? (i := 8) rfl)) (hw _ (List.mem_of_getElem? (i := 9) rfl)) (hw _ (List.mem_of_getElem? (i := 10) rfl)) e0 (g := (mkF m 4 #[.val (.int ((0 : Int32))), .val (.int y0), .val (.int y1), .val (.int y2), .val (.int y3)] [])) rfl (hb hby dSS_4) (by decide) (by decide)
  obtain ⟨a2, g2⟩ : ∃ z, z = h0.size := ⟨_, rfl⟩
  rw [← g2] at A2 D2 st2
  have ge3 : h0.size ≤ a2 := by rw [g2]; exact M0.1
  have sf2 := Safe.ext E2 I0.ch (Safe.new (Nat.le_of_eq g2.symm))
  have f4 := own_ext_trans M0 E2
  have J5 := I0.ext E2
  have F2_0 : Fld Z h2 a2 "java/lang/String" "value" "[B" (.null) := (D2 (Or.inr (hw _ (List.mem_of_getElem? (i := 24) rfl))) (ty := .array .byte) (by decide))
  have F2_1 : Fld Z h2 a2 "java/lang/String" "coder" "B" (.int ((0 : Int32))) := (D2 (Or.inr (hw _ (List.mem_of_getElem? (i := 25) rfl))) (ty := .byte) (by decide))
  refine own_on st2 ?_
  show own_Go p e below F (T2.setTop (mkF m 7 #[.val (.int ((0 : Int32))), .val (.int y0), .val (.int y1), .val (.int y2), .val (.int y3)] [(.ref a2)]))
  have gz_a2 : Z.heap.size ≤ a2 := Nat.le_trans EZ.1 ge3
  refine own_dup X2.here hx (hb hby dSS_7) rfl (pc' := 8) rfl ?_
  refine own_iconst X2.here hx (hb hby dSS_8) (v := 0) rfl (pc' := 9) rfl ?_
  obtain ⟨T6, h6, k6, X6, e6, E6, A6, st6⟩ := newP X2 hx J5.1 (hw _ (List.mem_of_getElem? (i := 11) rfl)) e2 (g := (mkF m 9 #[.val (.int ((0 : Int32))), .val (.int y0), .val (.int y1), .val (.int y2), .val (.int y3)] [(.int ((0 : Int32))), (.ref a2), (.ref a2)])) rfl (hb hby dSS_9) rfl (by decide : ¬ ((0 : Int32) < (0 : Int32))) (cap := 0) (by decide) (by decide) (by decide) (by decide)
  obtain ⟨a6, g6⟩ : ∃ z, z = h2.size := ⟨_, rfl⟩
  rw [← g6] at A6 st6
  have ne7 : a2 ≠ a6 := Nat.ne_of_lt (by rw [g6]; exact A2.lt)
  have ge8 : h0.size ≤ a6 := by rw [g6]; exact f4.1
  have f9 := own_ext_trans f4 E6
  have f10 := A2.ext E6
  have f11 := F2_0.ext E6
  have f12 := F2_1.ext E6
  have f13 := Safe.ext E6 J5.ch sf2
  have J14 := J5.ext E6
  have V6 : Arv Z h6 a6 k6 .char (0 : Int32) [] (.int (0 : Int32)) := (Arv.new A6 (by decide)).pad (pad_rep [] (.int (0 : Int32)) 0)
  refine own_on st6 ?_
  show own_Go p e below F (T6.setTop (mkF m 11 #[.val (.int ((0 : Int32))), .val (.int y0), .val (.int y1), .val (.int y2), .val (.int y3)] [(.ref a6), (.ref a2), (.ref a2)]))
  obtain ⟨_, _, ⟨T15, L15, k15, n15⟩, -, X15, hS15, hG15, ⟨Lc15, hQ15, l15, y15, z15, C15⟩, st15⟩ := X6.specialBackS hx (y := (⟨"java/lang/String", "<init>", "([C)V"⟩ : MethodName)) rfl J14.2.1 (mvT J14.1 (hw _ (List.mem_of_getElem? (i := 12) rfl))) (mvT J14.1 (hw _ (List.mem_of_getElem? (i := 13) rfl))) (mvT J14.1 (hw _ (List.mem_of_getElem? (i := 14) rfl))) (by decide) (own_backW (W := 1) (rmE1 l Z a0 hw hEL a2 a6 k6 _ h6 gz_a2 f10 f11 f12 V6) J14.1 (hw _ (List.mem_of_getElem? (i := 14) rfl)) (hw _ (List.mem_of_getElem? (i := 10) rfl)) (by decide) (by decide) hEL J14.ch (fun y hy => by simp only [List.mem_cons, List.not_mem_nil, or_false] at hy; subst hy; exact ⟨f10.lt, f13⟩)) (g := (mkF m 11 #[.val (.int ((0 : Int32))), .val (.int y0), .val (.int y1), .val (.int y2), .val (.int y3)] [(.ref a6), (.ref a2), (.ref a2)])) rfl (by rw [hml]; rfl) (Steps.refl _) (a := a2) (argsL := [(.ref a6)]) (rest := [(.ref a2)]) (lenOf pdE1 rfl) rfl (by show 2 * 0 + _ ≤ _; exact Nat.le_of_eq rfl) (hb hby dSS_11) (fun _ _ => ⟨rfl, e6, (Nat.le_of_ble_eq_true rfl), (Nat.le_of_ble_eq_true rfl)⟩)
  dsimp only [Pt.U, Pt.locs, Pt.cells, Pt.slots] at X15 hS15 hG15 l15 y15 z15 C15 st15 hQ15
  subst l15 y15 z15
  replace X15 := (show Stand _ _ _ _ (s.setVm T15.vm) _ _ _ _ _ _ _ _ _ from X15)
  have I15 := J14.later hS15 (Nat.le_refl _) (by have q := hG15; rw [(e6 : _ = h6)] at q; exact q) C15
  obtain ⟨rfl, N15, K15, S15⟩ := hQ15
  refine own_to st15 ?_
  show own_Go p e below F (T15.setTop (mkF m 14 #[.val (.int ((0 : Int32))), .val (.int y0), .val (.int y1), .val (.int y2), .val (.int y3)] [(.ref a2)]))
  have f16 := own_ext_keep f9 K15 (fun y hy => by simp only [List.mem_cons, List.not_mem_nil, or_false] at hy; rcases hy with rfl <;> assumption)
  have N17 := Fr.app N0 N15
  exact own_retAW X15 hx hlk hEL I15 rfl hret rfl rfl (hb hby dSS_14) (fun t ht hC hE => hF t _ _ _ _ (by rw [ht]; exact ⟨_, rfl, S15.S, f16, N17⟩) hC hE (by decide) (by decide))
def Q_rmS1 (Z : State) (y0 y1 y2 y3 : Int32) (h0 : Heap) (z0 : Int32) (v : Option Value) (h : Heap) (L : List Loc) : Prop := ∃ x, v = some (.ref x) ∧ own_S Z h x [y0] ∧ Ext h0 h ∧ Fr Z.heap.size L
set_option maxRecDepth 65536 in
set_option maxHeartbeats 40000000 in
theorem rmS1 (l : Launch) (Z : State) (a0 : Array Value) (hw : ∀ d ∈ tables_1, d.before a0 Z = true) (y0 y1 y2 y3 : Int32) (h0 : Heap) (EZ : Ext Z.heap h0) (z0 : Int32) (O1 : Sta Z Z.heap "java/lang/String" "COMPACT_STRINGS" "Z" (.int z0)) (P5 : ¬ z0 = 0) (O3 : Sta Z Z.heap "java/lang/StringUTF16" "$assertionsDisabled" "Z" (.int 1)) (O4 : Sta Z Z.heap "java/lang/StringUTF16" "HI_BYTE_SHIFT" "I" (.int 0)) (O5 : Sta Z Z.heap "java/lang/StringUTF16" "LO_BYTE_SHIFT" "I" (.int 8)) (ny0 : nar .char y0 = y0) (py0 : ¬ y0 < 0 ∧ ¬ (65535 : Int32) < y0) (ny1 : nar .char y1 = y1) (py1 : ¬ y1 < 0 ∧ ¬ (65535 : Int32) < y1) (ny2 : nar .char y2 = y2) (py2 : ¬ y2 < 0 ∧ ¬ (65535 : Int32) < y2) (ny3 : nar .char y3 = y3) (py3 : ¬ y3 < 0 ∧ ¬ (65535 : Int32) < y3) :
    MetFree l (⟨"com/example/cladistic/cladistic/NamesIsPlainIdentifierPinLaw", "shortString", "(ICCCC)Ljava/lang/String;"⟩ : MethodName) (head1 (Jvm.Cond.code (⟨"com/example/cladistic/cladistic/NamesIsPlainIdentifierPinLaw", "shortString", "(ICCCC)Ljava/lang/String;"⟩ : MethodName) method_5_code 5 (Option.some (FieldType.object "java/lang/String")) :: []) ({ frames := 6, cells := 6, slots := 200, locals := 88 } : Room)) (fun aa U => aa = #[(.int (1 : Int32)), (.int y0), (.int y1), (.int y2), (.int y3)] ∧ Z.Warmed39 U.vm ∧ U.heap = h0) (fun _ _ _ _ _ => True) (fun _ U o U' => ∃ v L, o = .returned v ∧ (Q_rmS1 Z y0 y1 y2 y3 h0 z0) v U'.heap L ∧ FrameEnd U o U' L ({ frames := 6, cells := 6, slots := 200, locals := 88 } : Room).cells ({ frames := 6, cells := 6, slots := 200, locals := 88 } : Room).slots) := by
  refine own_walkN (by exact pnL) ?_
  intro p e s m below meth c T0 X0 hx hby hml hret hlk hnm hown hZ e0 es0 F hF
  refine own_on (fun _ => castTop (efSS m 1 y0 y1 y2 y3)) ?_
  have M0 := own_ext_refl h0
  have N0 := Fr.nil Z.heap.size
  refine own_iload_n X0.here hx (hb hby dSS_0) rfl (pc' := 1) rfl ?_
  refine own_ifne X0.here hx (hb hby dSS_1) (by decide) (pc' := 15) (by decide) (pc2 := 4) rfl (fun q1 => ?_) (fun q => absurd q (by decide))
  refine own_iload_n X0.here hx (hb hby dSS_15) rfl (pc' := 16) rfl ?_
  refine own_iconst X0.here hx (hb hby dSS_16) (v := 1) rfl (pc' := 17) rfl ?_
  refine own_icmpne X0.here hx (hb hby dSS_17) (by decide) (pc' := 35) (by decide) (pc2 := 20) rfl (fun q => absurd rfl q) (fun q2 => ?_)
  obtain ⟨T3, h3, X3, e3, E3, A3, D3, -, st3⟩ := newO X0 hx hZ hown (hw _ (List.mem_of_getElem? (i := 8) rfl)) (hw _ (List.mem_of_getElem? (i := 9) rfl)) (hw _ (List.mem_of_getElem? (i := 10) rfl)) e0 (g := (mkF m 20 #[.val (.int ((1 : Int32))), .val (.int y0), .val (.int y1), .val (.int y2), .val (.int y3)] [])) rfl (hb hby dSS_20) (by decide) (by decide)
  obtain ⟨a3, g3⟩ : ∃ z, z = h0.size := ⟨_, rfl⟩
  rw [← g3] at A3 D3 st3
  have ge4 : h0.size ≤ a3 := by rw [g3]; exact M0.1
  have f5 := own_ext_trans M0 E3
  have F3_0 : Fld Z h3 a3 "java/lang/String" "value" "[B" (.null) := (D3 (Or.inr (hw _ (List.mem_of_getElem? (i := 24) rfl))) (ty := .array .byte) (by decide))
  have F3_1 : Fld Z h3 a3 "java/lang/String" "coder" "B" (.int ((0 : Int32))) := (D3 (Or.inr (hw _ (List.mem_of_getElem? (i := 25) rfl))) (ty := .byte) (by decide))
  refine own_on st3 ?_
  show own_Go p e below F (T3.setTop (mkF m 23 #[.val (.int ((1 : Int32))), .val (.int y0), .val (.int y1), .val (.int y2), .val (.int y3)] [(.ref a3)]))
  have gz_a3 : Z.heap.size ≤ a3 := Nat.le_trans EZ.1 ge4
  refine own_dup X3.here hx (hb hby dSS_23) rfl (pc' := 24) rfl ?_
  refine own_iconst X3.here hx (hb hby dSS_24) (v := 1) rfl (pc' := 25) rfl ?_
  obtain ⟨T6, h6, k6, X6, e6, E6, A6, st6⟩ := newP X3 hx hZ (hw _ (List.mem_of_getElem? (i := 11) rfl)) e3 (g := (mkF m 25 #[.val (.int ((1 : Int32))), .val (.int y0), .val (.int y1), .val (.int y2), .val (.int y3)] [(.int ((1 : Int32))), (.ref a3), (.ref a3)])) rfl (hb hby dSS_25) rfl (by decide : ¬ ((1 : Int32) < (0 : Int32))) (cap := 1) (by decide) (by decide) (by decide) (by decide)
  obtain ⟨a6, g6⟩ : ∃ z, z = h3.size := ⟨_, rfl⟩
  rw [← g6] at A6 st6
  have ne7 : a3 ≠ a6 := Nat.ne_of_lt (by rw [g6]; exact A3.lt)
  have ge8 : h0.size ≤ a6 := by rw [g6]; exact f5.1
  have f9 := own_ext_trans f5 E6
  have f10 := A3.ext E6
  have f11 := F3_0.ext E6
  have f12 := F3_1.ext E6
  have V6 : Arv Z h6 a6 k6 .char (1 : Int32) [.int (0 : Int32)] (.int (0 : Int32)) := (Arv.new A6 (by decide)).pad (pad_rep [] (.int (0 : Int32)) 1)
  refine own_on st6 ?_
  show own_Go p e below F (T6.setTop (mkF m 27 #[.val (.int ((1 : Int32))), .val (.int y0), .val (.int y1), .val (.int y2), .val (.int y3)] [(.ref a6), (.ref a3), (.ref a3)]))
  have gz_a6 : Z.heap.size ≤ a6 := Nat.le_trans EZ.1 ge8
  refine own_dup X6.here hx (hb hby dSS_27) rfl (pc' := 28) rfl ?_
  refine own_iconst X6.here hx (hb hby dSS_28) (v := 0) rfl (pc' := 29) rfl ?_
  refine own_iload_n X6.here hx (hb hby dSS_29) rfl (pc' := 30) rfl ?_
  obtain ⟨T13, h13, X13, e13, W13, V13, st13⟩ := own_cast X6 hx hZ e6 V6 (i := 0) rfl (Nat.le_of_ble_eq_true rfl) (by decide) ny0 (g := (mkF m 30 #[.val (.int ((1 : Int32))), .val (.int y0), .val (.int y1), .val (.int y2), .val (.int y3)] [(.int y0), (.int ((0 : Int32))), (.ref a6), (.ref a6), (.ref a3), (.ref a3)])) rfl rfl (hb hby dSS_30)
  replace V13 : Arv Z h13 a6 k6 .char (1 : Int32) [.int y0] (.int (0 : Int32)) := V13
  have f14 := own_ext_wr f9 W13 ge8
  have f15 := f10.wr W13
  have f16 := f11.other W13 (Or.inl ne7)
  have f17 := f12.other W13 (Or.inl ne7)
  have N18 := own_Fr_snoc (sl := ((0 : Int32)).toNatClampNeg) N0 gz_a6
  refine own_on st13 ?_
  show own_Go p e below F (T13.setTop (mkF m 31 #[.val (.int ((1 : Int32))), .val (.int y0), .val (.int y1), .val (.int y2), .val (.int y3)] [(.ref a6), (.ref a3), (.ref a3)]))
  obtain ⟨_, _, ⟨T20, L20, k20, n20⟩, -, X20, ⟨Lc20, hQ20, l20, y20, z20⟩, st20⟩ := X13.specialBack hx (y := (⟨"java/lang/String", "<init>", "([C)V"⟩ : MethodName)) rfl hown (mvT hZ (hw _ (List.mem_of_getElem? (i := 12) rfl))) (mvT hZ (hw _ (List.mem_of_getElem? (i := 13) rfl))) (mvT hZ (hw _ (List.mem_of_getElem? (i := 14) rfl))) (by decide) (backOf (W := 1) (rmI1 l Z a0 hw a3 a6 k6 [y0] (1 : Int32) (.int (0 : Int32)) h13 (own_ext_trans EZ f14) z0 O1 P5 O3 O4 O5 gz_a3 (Ne.symm ne7) f15 f16 f17 V13 rfl (Nat.le_of_ble_eq_true rfl) (fun c hc => by simp only [List.mem_cons, List.not_mem_nil, or_false] at hc; rcases hc with rfl <;> assumption) (Nat.le_of_ble_eq_true rfl) (Nat.le_of_ble_eq_true rfl)) hZ (hw _ (List.mem_of_getElem? (i := 14) rfl)) (hw _ (List.mem_of_getElem? (i := 10) rfl)) (by decide) (by decide)) (g := (mkF m 31 #[.val (.int ((1 : Int32))), .val (.int y0), .val (.int y1), .val (.int y2), .val (.int y3)] [(.ref a6), (.ref a3), (.ref a3)])) rfl (by rw [hml]; rfl) (Steps.refl _) (a := a3) (argsL := [(.ref a6)]) (rest := [(.ref a3)]) (lenOf pdE1 rfl) rfl (by show 2 * 0 + _ ≤ _; exact Nat.le_of_eq rfl) (hb hby dSS_31) (fun _ _ => ⟨rfl, e13, (Nat.le_of_ble_eq_true rfl), (Nat.le_of_ble_eq_true rfl)⟩)
  dsimp only [Pt.U, Pt.locs, Pt.cells, Pt.slots] at X20 l20 y20 z20 st20 hQ20
  subst l20 y20 z20
  obtain ⟨rfl, N20, K20, S20⟩ := hQ20
  refine own_to st20 ?_
  show own_Go p e below F (T20.setTop (mkF m 34 #[.val (.int ((1 : Int32))), .val (.int y0), .val (.int y1), .val (.int y2), .val (.int y3)] [(.ref a3)]))
  have f21 := own_ext_keep f14 K20 (fun y hy => by simp only [List.mem_cons, List.not_mem_nil, or_false] at hy; rcases hy with rfl <;> assumption)
  have N22 := Fr.app N18 N20
  exact own_retA X20 hx hlk hret rfl rfl (hb hby dSS_34) (fun t ht hE => hF t _ _ _ _ (by rw [ht, (rfl : _ = T20.heap)]; exact ⟨_, rfl, S20, f21, N22⟩) hE (by decide) (by decide))
def Q_rmS2 (Z : State) (y0 y1 y2 y3 : Int32) (h0 : Heap) (z0 : Int32) (v : Option Value) (h : Heap) (L : List Loc) : Prop := ∃ x, v = some (.ref x) ∧ own_S Z h x [y0, y1] ∧ Ext h0 h ∧ Fr Z.heap.size L
set_option maxRecDepth 65536 in
set_option maxHeartbeats 40000000 in
theorem rmS2 (l : Launch) (Z : State) (a0 : Array Value) (hw : ∀ d ∈ tables_1, d.before a0 Z = true) (y0 y1 y2 y3 : Int32) (h0 : Heap) (EZ : Ext Z.heap h0) (z0 : Int32) (O1 : Sta Z Z.heap "java/lang/String" "COMPACT_STRINGS" "Z" (.int z0)) (P5 : ¬ z0 = 0) (O3 : Sta Z Z.heap "java/lang/StringUTF16" "$assertionsDisabled" "Z" (.int 1)) (O4 : Sta Z Z.heap "java/lang/StringUTF16" "HI_BYTE_SHIFT" "I" (.int 0)) (O5 : Sta Z Z.heap "java/lang/StringUTF16" "LO_BYTE_SHIFT" "I" (.int 8)) (ny0 : nar .char y0 = y0) (py0 : ¬ y0 < 0 ∧ ¬ (65535 : Int32) < y0) (ny1 : nar .char y1 = y1) (py1 : ¬ y1 < 0 ∧ ¬ (65535 : Int32) < y1) (ny2 : nar .char y2 = y2) (py2 : ¬ y2 < 0 ∧ ¬ (65535 : Int32) < y2) (ny3 : nar .char y3 = y3) (py3 : ¬ y3 < 0 ∧ ¬ (65535 : Int32) < y3) :
    MetFree l (⟨"com/example/cladistic/cladistic/NamesIsPlainIdentifierPinLaw", "shortString", "(ICCCC)Ljava/lang/String;"⟩ : MethodName) (head1 (Jvm.Cond.code (⟨"com/example/cladistic/cladistic/NamesIsPlainIdentifierPinLaw", "shortString", "(ICCCC)Ljava/lang/String;"⟩ : MethodName) method_5_code 5 (Option.some (FieldType.object "java/lang/String")) :: []) ({ frames := 6, cells := 6, slots := 200, locals := 88 } : Room)) (fun aa U => aa = #[(.int (2 : Int32)), (.int y0), (.int y1), (.int y2), (.int y3)] ∧ Z.Warmed39 U.vm ∧ U.heap = h0) (fun _ _ _ _ _ => True) (fun _ U o U' => ∃ v L, o = .returned v ∧ (Q_rmS2 Z y0 y1 y2 y3 h0 z0) v U'.heap L ∧ FrameEnd U o U' L ({ frames := 6, cells := 6, slots := 200, locals := 88 } : Room).cells ({ frames := 6, cells := 6, slots := 200, locals := 88 } : Room).slots) := by
  refine own_walkN (by exact pnL) ?_
  intro p e s m below meth c T0 X0 hx hby hml hret hlk hnm hown hZ e0 es0 F hF
  refine own_on (fun _ => castTop (efSS m 2 y0 y1 y2 y3)) ?_
  have M0 := own_ext_refl h0
  have N0 := Fr.nil Z.heap.size
  refine own_iload_n X0.here hx (hb hby dSS_0) rfl (pc' := 1) rfl ?_
  refine own_ifne X0.here hx (hb hby dSS_1) (by decide) (pc' := 15) (by decide) (pc2 := 4) rfl (fun q1 => ?_) (fun q => absurd q (by decide))
  refine own_iload_n X0.here hx (hb hby dSS_15) rfl (pc' := 16) rfl ?_
  refine own_iconst X0.here hx (hb hby dSS_16) (v := 1) rfl (pc' := 17) rfl ?_
  refine own_icmpne X0.here hx (hb hby dSS_17) (by decide) (pc' := 35) (by decide) (pc2 := 20) rfl (fun q2 => ?_) (fun q => absurd q (by decide))
  refine own_iload_n X0.here hx (hb hby dSS_35) rfl (pc' := 36) rfl ?_
  refine own_iconst X0.here hx (hb hby dSS_36) (v := 2) rfl (pc' := 37) rfl ?_
  refine own_icmpne X0.here hx (hb hby dSS_37) (by decide) (pc' := 59) (by decide) (pc2 := 40) rfl (fun q => absurd rfl q) (fun q3 => ?_)
  obtain ⟨T4, h4, X4, e4, E4, A4, D4, -, st4⟩ := newO X0 hx hZ hown (hw _ (List.mem_of_getElem? (i := 8) rfl)) (hw _ (List.mem_of_getElem? (i := 9) rfl)) (hw _ (List.mem_of_getElem? (i := 10) rfl)) e0 (g := (mkF m 40 #[.val (.int ((2 : Int32))), .val (.int y0), .val (.int y1), .val (.int y2), .val (.int y3)] [])) rfl (hb hby dSS_40) (by decide) (by decide)
  obtain ⟨a4, g4⟩ : ∃ z, z = h0.size := ⟨_, rfl⟩
  rw [← g4] at A4 D4 st4
  have ge5 : h0.size ≤ a4 := by rw [g4]; exact M0.1
  have f6 := own_ext_trans M0 E4
  have F4_0 : Fld Z h4 a4 "java/lang/String" "value" "[B" (.null) := (D4 (Or.inr (hw _ (List.mem_of_getElem? (i := 24) rfl))) (ty := .array .byte) (by decide))
  have F4_1 : Fld Z h4 a4 "java/lang/String" "coder" "B" (.int ((0 : Int32))) := (D4 (Or.inr (hw _ (List.mem_of_getElem? (i := 25) rfl))) (ty := .byte) (by decide))
  refine own_on st4 ?_
  show own_Go p e below F (T4.setTop (mkF m 43 #[.val (.int ((2 : Int32))), .val (.int y0), .val (.int y1), .val (.int y2), .val (.int y3)] [(.ref a4)]))
  have gz_a4 : Z.heap.size ≤ a4 := Nat.le_trans EZ.1 ge5
  refine own_dup X4.here hx (hb hby dSS_43) rfl (pc' := 44) rfl ?_
  refine own_iconst X4.here hx (hb hby dSS_44) (v := 2) rfl (pc' := 45) rfl ?_
  obtain ⟨T7, h7, k7, X7, e7, E7, A7, st7⟩ := newP X4 hx hZ (hw _ (List.mem_of_getElem? (i := 11) rfl)) e4 (g := (mkF m 45 #[.val (.int ((2 : Int32))), .val (.int y0), .val (.int y1), .val (.int y2), .val (.int y3)] [(.int ((2 : Int32))), (.ref a4), (.ref a4)])) rfl (hb hby dSS_45) rfl (by decide : ¬ ((2 : Int32) < (0 : Int32))) (cap := 2) (by decide) (by decide) (by decide) (by decide)
  obtain ⟨a7, g7⟩ : ∃ z, z = h4.size := ⟨_, rfl⟩
  rw [← g7] at A7 st7
  have ne8 : a4 ≠ a7 := Nat.ne_of_lt (by rw [g7]; exact A4.lt)
  have ge9 : h0.size ≤ a7 := by rw [g7]; exact f6.1
  have f10 := own_ext_trans f6 E7
  have f11 := A4.ext E7
  have f12 := F4_0.ext E7
  have f13 := F4_1.ext E7
  have V7 : Arv Z h7 a7 k7 .char (2 : Int32) [.int (0 : Int32), .int (0 : Int32)] (.int (0 : Int32)) := (Arv.new A7 (by decide)).pad (pad_rep [] (.int (0 : Int32)) 2)
  refine own_on st7 ?_
  show own_Go p e below F (T7.setTop (mkF m 47 #[.val (.int ((2 : Int32))), .val (.int y0), .val (.int y1), .val (.int y2), .val (.int y3)] [(.ref a7), (.ref a4), (.ref a4)]))
  have gz_a7 : Z.heap.size ≤ a7 := Nat.le_trans EZ.1 ge9
  refine own_dup X7.here hx (hb hby dSS_47) rfl (pc' := 48) rfl ?_
  refine own_iconst X7.here hx (hb hby dSS_48) (v := 0) rfl (pc' := 49) rfl ?_
  refine own_iload_n X7.here hx (hb hby dSS_49) rfl (pc' := 50) rfl ?_
  obtain ⟨T14, h14, X14, e14, W14, V14, st14⟩ := own_cast X7 hx hZ e7 V7 (i := 0) rfl (Nat.le_of_ble_eq_true rfl) (by decide) ny0 (g := (mkF m 50 #[.val (.int ((2 : Int32))), .val (.int y0), .val (.int y1), .val (.int y2), .val (.int y3)] [(.int y0), (.int ((0 : Int32))), (.ref a7), (.ref a7), (.ref a4), (.ref a4)])) rfl rfl (hb hby dSS_50)
  replace V14 : Arv Z h14 a7 k7 .char (2 : Int32) [.int y0, .int (0 : Int32)] (.int (0 : Int32)) := V14
  have f15 := own_ext_wr f10 W14 ge9
  have f16 := f11.wr W14
  have f17 := f12.other W14 (Or.inl ne8)
  have f18 := f13.other W14 (Or.inl ne8)
  have N19 := own_Fr_snoc (sl := ((0 : Int32)).toNatClampNeg) N0 gz_a7
  refine own_on st14 ?_
  show own_Go p e below F (T14.setTop (mkF m 51 #[.val (.int ((2 : Int32))), .val (.int y0), .val (.int y1), .val (.int y2), .val (.int y3)] [(.ref a7), (.ref a4), (.ref a4)]))
  refine own_dup X14.here hx (hb hby dSS_51) rfl (pc' := 52) rfl ?_
  refine own_iconst X14.here hx (hb hby dSS_52) (v := 1) rfl (pc' := 53) rfl ?_
  refine own_iload_n X14.here hx (hb hby dSS_53) rfl (pc' := 54) rfl ?_
  obtain ⟨T20, h20, X20, e20, W20, V20, st20⟩ := own_cast X14 hx hZ e14 V14 (i := 1) rfl (Nat.le_of_ble_eq_true rfl) (by decide) ny1 (g := (mkF m 54 #[.val (.int ((2 : Int32))), .val (.int y0), .val (.int y1), .val (.int y2), .val (.int y3)] [(.int y1), (.int ((1 : Int32))), (.ref a7), (.ref a7), (.ref a4), (.ref a4)])) rfl rfl (hb hby dSS_54)
  replace V20 : Arv Z h20 a7 k7 .char (2 : Int32) [.int y0, .int y1] (.int (0 : Int32)) := V20
  have f21 := own_ext_wr f15 W20 ge9
  have f22 := f16.wr W20
  have f23 := f17.other W20 (Or.inl ne8)
  have f24 := f18.other W20 (Or.inl ne8)
  have N25 := own_Fr_snoc (sl := ((1 : Int32)).toNatClampNeg) N19 gz_a7
  refine own_on st20 ?_
  show own_Go p e below F (T20.setTop (mkF m 55 #[.val (.int ((2 : Int32))), .val (.int y0), .val (.int y1), .val (.int y2), .val (.int y3)] [(.ref a7), (.ref a4), (.ref a4)]))
  obtain ⟨_, _, ⟨T27, L27, k27, n27⟩, -, X27, ⟨Lc27, hQ27, l27, y27, z27⟩, st27⟩ := X20.specialBack hx (y := (⟨"java/lang/String", "<init>", "([C)V"⟩ : MethodName)) rfl hown (mvT hZ (hw _ (List.mem_of_getElem? (i := 12) rfl))) (mvT hZ (hw _ (List.mem_of_getElem? (i := 13) rfl))) (mvT hZ (hw _ (List.mem_of_getElem? (i := 14) rfl))) (by decide) (backOf (W := 1) (rmI1 l Z a0 hw a4 a7 k7 [y0, y1] (2 : Int32) (.int (0 : Int32)) h20 (own_ext_trans EZ f21) z0 O1 P5 O3 O4 O5 gz_a4 (Ne.symm ne8) f22 f23 f24 V20 rfl (Nat.le_of_ble_eq_true rfl) (fun c hc => by simp only [List.mem_cons, List.not_mem_nil, or_false] at hc; rcases hc with rfl | rfl <;> assumption) (Nat.le_of_ble_eq_true rfl) (Nat.le_of_ble_eq_true rfl)) hZ (hw _ (List.mem_of_getElem? (i := 14) rfl)) (hw _ (List.mem_of_getElem? (i := 10) rfl)) (by decide) (by decide)) (g := (mkF m 55 #[.val (.int ((2 : Int32))), .val (.int y0), .val (.int y1), .val (.int y2), .val (.int y3)] [(.ref a7), (.ref a4), (.ref a4)])) rfl (by rw [hml]; rfl) (Steps.refl _) (a := a4) (argsL := [(.ref a7)]) (rest := [(.ref a4)]) (lenOf pdE1 rfl) rfl (by show 2 * 0 + _ ≤ _; exact Nat.le_of_eq rfl) (hb hby dSS_55) (fun _ _ => ⟨rfl, e20, (Nat.le_of_ble_eq_true rfl), (Nat.le_of_ble_eq_true rfl)⟩)
  dsimp only [Pt.U, Pt.locs, Pt.cells, Pt.slots] at X27 l27 y27 z27 st27 hQ27
  subst l27 y27 z27
  obtain ⟨rfl, N27, K27, S27⟩ := hQ27
  refine own_to st27 ?_
  show own_Go p e below F (T27.setTop (mkF m 58 #[.val (.int ((2 : Int32))), .val (.int y0), .val (.int y1), .val (.int y2), .val (.int y3)] [(.ref a4)]))
  have f28 := own_ext_keep f21 K27 (fun y hy => by simp only [List.mem_cons, List.not_mem_nil, or_false] at hy; rcases hy with rfl <;> assumption)
  have N29 := Fr.app N25 N27
  exact own_retA X27 hx hlk hret rfl rfl (hb hby dSS_58) (fun t ht hE => hF t _ _ _ _ (by rw [ht, (rfl : _ = T27.heap)]; exact ⟨_, rfl, S27, f28, N29⟩) hE (by decide) (by decide))
def Q_rmS3 (Z : State) (y0 y1 y2 y3 : Int32) (h0 : Heap) (z0 : Int32) (v : Option Value) (h : Heap) (L : List Loc) : Prop := ∃ x, v = some (.ref x) ∧ own_S Z h x [y0, y1, y2] ∧ Ext h0 h ∧ Fr Z.heap.size L
set_option maxRecDepth 65536 in
set_option maxHeartbeats 40000000 in
theorem rmS3 (l : Launch) (Z : State) (a0 : Array Value) (hw : ∀ d ∈ tables_1, d.before a0 Z = true) (y0 y1 y2 y3 : Int32) (h0 : Heap) (EZ : Ext Z.heap h0) (z0 : Int32) (O1 : Sta Z Z.heap "java/lang/String" "COMPACT_STRINGS" "Z" (.int z0)) (P5 : ¬ z0 = 0) (O3 : Sta Z Z.heap "java/lang/StringUTF16" "$assertionsDisabled" "Z" (.int 1)) (O4 : Sta Z Z.heap "java/lang/StringUTF16" "HI_BYTE_SHIFT" "I" (.int 0)) (O5 : Sta Z Z.heap "java/lang/StringUTF16" "LO_BYTE_SHIFT" "I" (.int 8)) (ny0 : nar .char y0 = y0) (py0 : ¬ y0 < 0 ∧ ¬ (65535 : Int32) < y0) (ny1 : nar .char y1 = y1) (py1 : ¬ y1 < 0 ∧ ¬ (65535 : Int32) < y1) (ny2 : nar .char y2 = y2) (py2 : ¬ y2 < 0 ∧ ¬ (65535 : Int32) < y2) (ny3 : nar .char y3 = y3) (py3 : ¬ y3 < 0 ∧ ¬ (65535 : Int32) < y3) :
    MetFree l (⟨"com/example/cladistic/cladistic/NamesIsPlainIdentifierPinLaw", "shortString", "(ICCCC)Ljava/lang/String;"⟩ : MethodName) (head1 (Jvm.Cond.code (⟨"com/example/cladistic/cladistic/NamesIsPlainIdentifierPinLaw", "shortString", "(ICCCC)Ljava/lang/String;"⟩ : MethodName) method_5_code 5 (Option.some (FieldType.object "java/lang/String")) :: []) ({ frames := 6, cells := 6, slots := 200, locals := 88 } : Room)) (fun aa U => aa = #[(.int (3 : Int32)), (.int y0), (.int y1), (.int y2), (.int y3)] ∧ Z.Warmed39 U.vm ∧ U.heap = h0) (fun _ _ _ _ _ => True) (fun _ U o U' => ∃ v L, o = .returned v ∧ (Q_rmS3 Z y0 y1 y2 y3 h0 z0) v U'.heap L ∧ FrameEnd U o U' L ({ frames := 6, cells := 6, slots := 200, locals := 88 } : Room).cells ({ frames := 6, cells := 6, slots := 200, locals := 88 } : Room).slots) := by
  refine own_walkN (by exact pnL) ?_
  intro p e s m below meth c T0 X0 hx hby hml hret hlk hnm hown hZ e0 es0 F hF
  refine own_on (fun _ => castTop (efSS m 3 y0 y1 y2 y3)) ?_
  have M0 := own_ext_refl h0
  have N0 := Fr.nil Z.heap.size
  refine own_iload_n X0.here hx (hb hby dSS_0) rfl (pc' := 1) rfl ?_
  refine own_ifne X0.here hx (hb hby dSS_1) (by decide) (pc' := 15) (by decide) (pc2 := 4) rfl (fun q1 => ?_) (fun q => absurd q (by decide))
  refine own_iload_n X0.here hx (hb hby dSS_15) rfl (pc' := 16) rfl ?_
  refine own_iconst X0.here hx (hb hby dSS_16) (v := 1) rfl (pc' := 17) rfl ?_
  refine own_icmpne X0.here hx (hb hby dSS_17) (by decide) (pc' := 35) (by decide) (pc2 := 20) rfl (fun q2 => ?_) (fun q => absurd q (by decide))
  refine own_iload_n X0.here hx (hb hby dSS_35) rfl (pc' := 36) rfl ?_
  refine own_iconst X0.here hx (hb hby dSS_36) (v := 2) rfl (pc' := 37) rfl ?_
  refine own_icmpne X0.here hx (hb hby dSS_37) (by decide) (pc' := 59) (by decide) (pc2 := 40) rfl (fun q3 => ?_) (fun q => absurd q (by decide))
  refine own_iload_n X0.here hx (hb hby dSS_59) rfl (pc' := 60) rfl ?_
  refine own_iconst X0.here hx (hb hby dSS_60) (v := 3) rfl (pc' := 61) rfl ?_
  refine own_icmpne X0.here hx (hb hby dSS_61) (by decide) (pc' := 87) (by decide) (pc2 := 64) rfl (fun q => absurd rfl q) (fun q4 => ?_)
  obtain ⟨T5, h5, X5, e5, E5, A5, D5, -, st5⟩ := newO X0 hx hZ hown (hw _ (List.mem_of_getElem? (i := 8) rfl)) (hw _ (List.mem_of_getElem? (i := 9) rfl)) (hw _ (List.mem_of_getElem? (i := 10) rfl)) e0 (g := (mkF m 64 #[.val (.int ((3 : Int32))), .val (.int y0), .val (.int y1), .val (.int y2), .val (.int y3)] [])) rfl (hb hby dSS_64) (by decide) (by decide)
  obtain ⟨a5, g5⟩ : ∃ z, z = h0.size := ⟨_, rfl⟩
  rw [← g5] at A5 D5 st5
  have ge6 : h0.size ≤ a5 := by rw [g5]; exact M0.1
  have f7 := own_ext_trans M0 E5
  have F5_0 : Fld Z h5 a5 "java/lang/String" "value" "[B" (.null) := (D5 (Or.inr (hw _ (List.mem_of_getElem? (i := 24) rfl))) (ty := .array .byte) (by decide))
  have F5_1 : Fld Z h5 a5 "java/lang/String" "coder" "B" (.int ((0 : Int32))) := (D5 (Or.inr (hw _ (List.mem_of_getElem? (i := 25) rfl))) (ty := .byte) (by decide))
  refine own_on st5 ?_
  show own_Go p e below F (T5.setTop (mkF m 67 #[.val (.int ((3 : Int32))), .val (.int y0), .val (.int y1), .val (.int y2), .val (.int y3)] [(.ref a5)]))
  have gz_a5 : Z.heap.size ≤ a5 := Nat.le_trans EZ.1 ge6
  refine own_dup X5.here hx (hb hby dSS_67) rfl (pc' := 68) rfl ?_
  refine own_iconst X5.here hx (hb hby dSS_68) (v := 3) rfl (pc' := 69) rfl ?_
  obtain ⟨T8, h8, k8, X8, e8, E8, A8, st8⟩ := newP X5 hx hZ (hw _ (List.mem_of_getElem? (i := 11) rfl)) e5 (g := (mkF m 69 #[.val (.int ((3 : Int32))), .val (.int y0), .val (.int y1), .val (.int y2), .val (.int y3)] [(.int ((3 : Int32))), (.ref a5), (.ref a5)])) rfl (hb hby dSS_69) rfl (by decide : ¬ ((3 : Int32) < (0 : Int32))) (cap := 3) (by decide) (by decide) (by decide) (by decide)
  obtain ⟨a8, g8⟩ : ∃ z, z = h5.size := ⟨_, rfl⟩
  rw [← g8] at A8 st8
  have ne9 : a5 ≠ a8 := Nat.ne_of_lt (by rw [g8]; exact A5.lt)
  have ge10 : h0.size ≤ a8 := by rw [g8]; exact f7.1
  have f11 := own_ext_trans f7 E8
  have f12 := A5.ext E8
  have f13 := F5_0.ext E8
  have f14 := F5_1.ext E8
  have V8 : Arv Z h8 a8 k8 .char (3 : Int32) [.int (0 : Int32), .int (0 : Int32), .int (0 : Int32)] (.int (0 : Int32)) := (Arv.new A8 (by decide)).pad (pad_rep [] (.int (0 : Int32)) 3)
  refine own_on st8 ?_
  show own_Go p e below F (T8.setTop (mkF m 71 #[.val (.int ((3 : Int32))), .val (.int y0), .val (.int y1), .val (.int y2), .val (.int y3)] [(.ref a8), (.ref a5), (.ref a5)]))
  have gz_a8 : Z.heap.size ≤ a8 := Nat.le_trans EZ.1 ge10
  refine own_dup X8.here hx (hb hby dSS_71) rfl (pc' := 72) rfl ?_
  refine own_iconst X8.here hx (hb hby dSS_72) (v := 0) rfl (pc' := 73) rfl ?_
  refine own_iload_n X8.here hx (hb hby dSS_73) rfl (pc' := 74) rfl ?_
  obtain ⟨T15, h15, X15, e15, W15, V15, st15⟩ := own_cast X8 hx hZ e8 V8 (i := 0) rfl (Nat.le_of_ble_eq_true rfl) (by decide) ny0 (g := (mkF m 74 #[.val (.int ((3 : Int32))), .val (.int y0), .val (.int y1), .val (.int y2), .val (.int y3)] [(.int y0), (.int ((0 : Int32))), (.ref a8), (.ref a8), (.ref a5), (.ref a5)])) rfl rfl (hb hby dSS_74)
  replace V15 : Arv Z h15 a8 k8 .char (3 : Int32) [.int y0, .int (0 : Int32), .int (0 : Int32)] (.int (0 : Int32)) := V15
  have f16 := own_ext_wr f11 W15 ge10
  have f17 := f12.wr W15
  have f18 := f13.other W15 (Or.inl ne9)
  have f19 := f14.other W15 (Or.inl ne9)
  have N20 := own_Fr_snoc (sl := ((0 : Int32)).toNatClampNeg) N0 gz_a8
  refine own_on st15 ?_
  show own_Go p e below F (T15.setTop (mkF m 75 #[.val (.int ((3 : Int32))), .val (.int y0), .val (.int y1), .val (.int y2), .val (.int y3)] [(.ref a8), (.ref a5), (.ref a5)]))
  refine own_dup X15.here hx (hb hby dSS_75) rfl (pc' := 76) rfl ?_
  refine own_iconst X15.here hx (hb hby dSS_76) (v := 1) rfl (pc' := 77) rfl ?_
  refine own_iload_n X15.here hx (hb hby dSS_77) rfl (pc' := 78) rfl ?_
  obtain ⟨T21, h21, X21, e21, W21, V21, st21⟩ := own_cast X15 hx hZ e15 V15 (i := 1) rfl (Nat.le_of_ble_eq_true rfl) (by decide) ny1 (g := (mkF m 78 #[.val (.int ((3 : Int32))), .val (.int y0), .val (.int y1), .val (.int y2), .val (.int y3)] [(.int y1), (.int ((1 : Int32))), (.ref a8), (.ref a8), (.ref a5), (.ref a5)])) rfl rfl (hb hby dSS_78)
  replace V21 : Arv Z h21 a8 k8 .char (3 : Int32) [.int y0, .int y1, .int (0 : Int32)] (.int (0 : Int32)) := V21
  have f22 := own_ext_wr f16 W21 ge10
  have f23 := f17.wr W21
  have f24 := f18.other W21 (Or.inl ne9)
  have f25 := f19.other W21 (Or.inl ne9)
  have N26 := own_Fr_snoc (sl := ((1 : Int32)).toNatClampNeg) N20 gz_a8
  refine own_on st21 ?_
  show own_Go p e below F (T21.setTop (mkF m 79 #[.val (.int ((3 : Int32))), .val (.int y0), .val (.int y1), .val (.int y2), .val (.int y3)] [(.ref a8), (.ref a5), (.ref a5)]))
  refine own_dup X21.here hx (hb hby dSS_79) rfl (pc' := 80) rfl ?_
  refine own_iconst X21.here hx (hb hby dSS_80) (v := 2) rfl (pc' := 81) rfl ?_
  refine own_iload_n X21.here hx (hb hby dSS_81) rfl (pc' := 82) rfl ?_
  obtain ⟨T27, h27, X27, e27, W27, V27, st27⟩ := own_cast X21 hx hZ e21 V21 (i := 2) rfl (Nat.le_of_ble_eq_true rfl) (by decide) ny2 (g := (mkF m 82 #[.val (.int ((3 : Int32))), .val (.int y0), .val (.int y1), .val (.int y2), .val (.int y3)] [(.int y2), (.int ((2 : Int32))), (.ref a8), (.ref a8), (.ref a5), (.ref a5)])) rfl rfl (hb hby dSS_82)
  replace V27 : Arv Z h27 a8 k8 .char (3 : Int32) [.int y0, .int y1, .int y2] (.int (0 : Int32)) := V27
  have f28 := own_ext_wr f22 W27 ge10
  have f29 := f23.wr W27
  have f30 := f24.other W27 (Or.inl ne9)
  have f31 := f25.other W27 (Or.inl ne9)
  have N32 := own_Fr_snoc (sl := ((2 : Int32)).toNatClampNeg) N26 gz_a8
  refine own_on st27 ?_
  show own_Go p e below F (T27.setTop (mkF m 83 #[.val (.int ((3 : Int32))), .val (.int y0), .val (.int y1), .val (.int y2), .val (.int y3)] [(.ref a8), (.ref a5), (.ref a5)]))
  obtain ⟨_, _, ⟨T34, L34, k34, n34⟩, -, X34, ⟨Lc34, hQ34, l34, y34, z34⟩, st34⟩ := X27.specialBack hx (y := (⟨"java/lang/String", "<init>", "([C)V"⟩ : MethodName)) rfl hown (mvT hZ (hw _ (List.mem_of_getElem? (i := 12) rfl))) (mvT hZ (hw _ (List.mem_of_getElem? (i := 13) rfl))) (mvT hZ (hw _ (List.mem_of_getElem? (i := 14) rfl))) (by decide) (backOf (W := 1) (rmI1 l Z a0 hw a5 a8 k8 [y0, y1, y2] (3 : Int32) (.int (0 : Int32)) h27 (own_ext_trans EZ f28) z0 O1 P5 O3 O4 O5 gz_a5 (Ne.symm ne9) f29 f30 f31 V27 rfl (Nat.le_of_ble_eq_true rfl) (fun c hc => by simp only [List.mem_cons, List.not_mem_nil, or_false] at hc; rcases hc with rfl | rfl | rfl <;> assumption) (Nat.le_of_ble_eq_true rfl) (Nat.le_of_ble_eq_true rfl)) hZ (hw _ (List.mem_of_getElem? (i := 14) rfl)) (hw _ (List.mem_of_getElem? (i := 10) rfl)) (by decide) (by decide)) (g := (mkF m 83 #[.val (.int ((3 : Int32))), .val (.int y0), .val (.int y1), .val (.int y2), .val (.int y3)] [(.ref a8), (.ref a5), (.ref a5)])) rfl (by rw [hml]; rfl) (Steps.refl _) (a := a5) (argsL := [(.ref a8)]) (rest := [(.ref a5)]) (lenOf pdE1 rfl) rfl (by show 2 * 0 + _ ≤ _; exact Nat.le_of_eq rfl) (hb hby dSS_83) (fun _ _ => ⟨rfl, e27, (Nat.le_of_ble_eq_true rfl), (Nat.le_of_ble_eq_true rfl)⟩)
  dsimp only [Pt.U, Pt.locs, Pt.cells, Pt.slots] at X34 l34 y34 z34 st34 hQ34
  subst l34 y34 z34
  obtain ⟨rfl, N34, K34, S34⟩ := hQ34
  refine own_to st34 ?_
  show own_Go p e below F (T34.setTop (mkF m 86 #[.val (.int ((3 : Int32))), .val (.int y0), .val (.int y1), .val (.int y2), .val (.int y3)] [(.ref a5)]))
  have f35 := own_ext_keep f28 K34 (fun y hy => by simp only [List.mem_cons, List.not_mem_nil, or_false] at hy; rcases hy with rfl <;> assumption)
  have N36 := Fr.app N32 N34
  exact own_retA X34 hx hlk hret rfl rfl (hb hby dSS_86) (fun t ht hE => hF t _ _ _ _ (by rw [ht, (rfl : _ = T34.heap)]; exact ⟨_, rfl, S34, f35, N36⟩) hE (by decide) (by decide))
def Q_rmS4 (Z : State) (y0 y1 y2 y3 : Int32) (h0 : Heap) (z0 : Int32) (v : Option Value) (h : Heap) (L : List Loc) : Prop := ∃ x, v = some (.ref x) ∧ own_S Z h x [y0, y1, y2, y3] ∧ Ext h0 h ∧ Fr Z.heap.size L
set_option maxRecDepth 65536 in
set_option maxHeartbeats 40000000 in
theorem rmS4 (l : Launch) (Z : State) (a0 : Array Value) (hw : ∀ d ∈ tables_1, d.before a0 Z = true) (y0 y1 y2 y3 : Int32) (h0 : Heap) (EZ : Ext Z.heap h0) (z0 : Int32) (O1 : Sta Z Z.heap "java/lang/String" "COMPACT_STRINGS" "Z" (.int z0)) (P5 : ¬ z0 = 0) (O3 : Sta Z Z.heap "java/lang/StringUTF16" "$assertionsDisabled" "Z" (.int 1)) (O4 : Sta Z Z.heap "java/lang/StringUTF16" "HI_BYTE_SHIFT" "I" (.int 0)) (O5 : Sta Z Z.heap "java/lang/StringUTF16" "LO_BYTE_SHIFT" "I" (.int 8)) (ny0 : nar .char y0 = y0) (py0 : ¬ y0 < 0 ∧ ¬ (65535 : Int32) < y0) (ny1 : nar .char y1 = y1) (py1 : ¬ y1 < 0 ∧ ¬ (65535 : Int32) < y1) (ny2 : nar .char y2 = y2) (py2 : ¬ y2 < 0 ∧ ¬ (65535 : Int32) < y2) (ny3 : nar .char y3 = y3) (py3 : ¬ y3 < 0 ∧ ¬ (65535 : Int32) < y3) :
    MetFree l (⟨"com/example/cladistic/cladistic/NamesIsPlainIdentifierPinLaw", "shortString", "(ICCCC)Ljava/lang/String;"⟩ : MethodName) (head1 (Jvm.Cond.code (⟨"com/example/cladistic/cladistic/NamesIsPlainIdentifierPinLaw", "shortString", "(ICCCC)Ljava/lang/String;"⟩ : MethodName) method_5_code 5 (Option.some (FieldType.object "java/lang/String")) :: []) ({ frames := 6, cells := 6, slots := 200, locals := 88 } : Room)) (fun aa U => aa = #[(.int (4 : Int32)), (.int y0), (.int y1), (.int y2), (.int y3)] ∧ Z.Warmed39 U.vm ∧ U.heap = h0) (fun _ _ _ _ _ => True) (fun _ U o U' => ∃ v L, o = .returned v ∧ (Q_rmS4 Z y0 y1 y2 y3 h0 z0) v U'.heap L ∧ FrameEnd U o U' L ({ frames := 6, cells := 6, slots := 200, locals := 88 } : Room).cells ({ frames := 6, cells := 6, slots := 200, locals := 88 } : Room).slots) := by
  refine own_walkN (by exact pnL) ?_
  intro p e s m below meth c T0 X0 hx hby hml hret hlk hnm hown hZ e0 es0 F hF
  refine own_on (fun _ => castTop (efSS m 4 y0 y1 y2 y3)) ?_
  have M0 := own_ext_refl h0
  have N0 := Fr.nil Z.heap.size
  refine own_iload_n X0.here hx (hb hby dSS_0) rfl (pc' := 1) rfl ?_
  refine own_ifne X0.here hx (hb hby dSS_1) (by decide) (pc' := 15) (by decide) (pc2 := 4) rfl (fun q1 => ?_) (fun q => absurd q (by decide))
  refine own_iload_n X0.here hx (hb hby dSS_15) rfl (pc' := 16) rfl ?_
  refine own_iconst X0.here hx (hb hby dSS_16) (v := 1) rfl (pc' := 17) rfl ?_
  refine own_icmpne X0.here hx (hb hby dSS_17) (by decide) (pc' := 35) (by decide) (pc2 := 20) rfl (fun q2 => ?_) (fun q => absurd q (by decide))
  refine own_iload_n X0.here hx (hb hby dSS_35) rfl (pc' := 36) rfl ?_
  refine own_iconst X0.here hx (hb hby dSS_36) (v := 2) rfl (pc' := 37) rfl ?_
  refine own_icmpne X0.here hx (hb hby dSS_37) (by decide) (pc' := 59) (by decide) (pc2 := 40) rfl (fun q3 => ?_) (fun q => absurd q (by decide))
  refine own_iload_n X0.here hx (hb hby dSS_59) rfl (pc' := 60) rfl ?_
  refine own_iconst X0.here hx (hb hby dSS_60) (v := 3) rfl (pc' := 61) rfl ?_
  refine own_icmpne X0.here hx (hb hby dSS_61) (by decide) (pc' := 87) (by decide) (pc2 := 64) rfl (fun q4 => ?_) (fun q => absurd q (by decide))
  obtain ⟨T5, h5, X5, e5, E5, A5, D5, -, st5⟩ := newO X0 hx hZ hown (hw _ (List.mem_of_getElem? (i := 8) rfl)) (hw _ (List.mem_of_getElem? (i := 9) rfl)) (hw _ (List.mem_of_getElem? (i := 10) rfl)) e0 (g := (mkF m 87 #[.val (.int ((4 : Int32))), .val (.int y0), .val (.int y1), .val (.int y2), .val (.int y3)] [])) rfl (hb hby dSS_87) (by decide) (by decide)
  obtain ⟨a5, g5⟩ : ∃ z, z = h0.size := ⟨_, rfl⟩
  rw [← g5] at A5 D5 st5
  have ge6 : h0.size ≤ a5 := by rw [g5]; exact M0.1
  have f7 := own_ext_trans M0 E5
  have F5_0 : Fld Z h5 a5 "java/lang/String" "value" "[B" (.null) := (D5 (Or.inr (hw _ (List.mem_of_getElem? (i := 24) rfl))) (ty := .array .byte) (by decide))
  have F5_1 : Fld Z h5 a5 "java/lang/String" "coder" "B" (.int ((0 : Int32))) := (D5 (Or.inr (hw _ (List.mem_of_getElem? (i := 25) rfl))) (ty := .byte) (by decide))
  refine own_on st5 ?_
  show own_Go p e below F (T5.setTop (mkF m 90 #[.val (.int ((4 : Int32))), .val (.int y0), .val (.int y1), .val (.int y2), .val (.int y3)] [(.ref a5)]))
  have gz_a5 : Z.heap.size ≤ a5 := Nat.le_trans EZ.1 ge6
  refine own_dup X5.here hx (hb hby dSS_90) rfl (pc' := 91) rfl ?_
  refine own_iconst X5.here hx (hb hby dSS_91) (v := 4) rfl (pc' := 92) rfl ?_
  obtain ⟨T8, h8, k8, X8, e8, E8, A8, st8⟩ := newP X5 hx hZ (hw _ (List.mem_of_getElem? (i := 11) rfl)) e5 (g := (mkF m 92 #[.val (.int ((4 : Int32))), .val (.int y0), .val (.int y1), .val (.int y2), .val (.int y3)] [(.int ((4 : Int32))), (.ref a5), (.ref a5)])) rfl (hb hby dSS_92) rfl (by decide : ¬ ((4 : Int32) < (0 : Int32))) (cap := 4) (by decide) (by decide) (by decide) (by decide)
  obtain ⟨a8, g8⟩ : ∃ z, z = h5.size := ⟨_, rfl⟩
  rw [← g8] at A8 st8
  have ne9 : a5 ≠ a8 := Nat.ne_of_lt (by rw [g8]; exact A5.lt)
  have ge10 : h0.size ≤ a8 := by rw [g8]; exact f7.1
  have f11 := own_ext_trans f7 E8
  have f12 := A5.ext E8
  have f13 := F5_0.ext E8
  have f14 := F5_1.ext E8
  have V8 : Arv Z h8 a8 k8 .char (4 : Int32) [.int (0 : Int32), .int (0 : Int32), .int (0 : Int32), .int (0 : Int32)] (.int (0 : Int32)) := (Arv.new A8 (by decide)).pad (pad_rep [] (.int (0 : Int32)) 4)
  refine own_on st8 ?_
  show own_Go p e below F (T8.setTop (mkF m 94 #[.val (.int ((4 : Int32))), .val (.int y0), .val (.int y1), .val (.int y2), .val (.int y3)] [(.ref a8), (.ref a5), (.ref a5)]))
  have gz_a8 : Z.heap.size ≤ a8 := Nat.le_trans EZ.1 ge10
  refine own_dup X8.here hx (hb hby dSS_94) rfl (pc' := 95) rfl ?_
  refine own_iconst X8.here hx (hb hby dSS_95) (v := 0) rfl (pc' := 96) rfl ?_
  refine own_iload_n X8.here hx (hb hby dSS_96) rfl (pc' := 97) rfl ?_
  obtain ⟨T15, h15, X15, e15, W15, V15, st15⟩ := own_cast X8 hx hZ e8 V8 (i := 0) rfl (Nat.le_of_ble_eq_true rfl) (by decide) ny0 (g := (mkF m 97 #[.val (.int ((4 : Int32))), .val (.int y0), .val (.int y1), .val (.int y2), .val (.int y3)] [(.int y0), (.int ((0 : Int32))), (.ref a8), (.ref a8), (.ref a5), (.ref a5)])) rfl rfl (hb hby dSS_97)
  replace V15 : Arv Z h15 a8 k8 .char (4 : Int32) [.int y0, .int (0 : Int32), .int (0 : Int32), .int (0 : Int32)] (.int (0 : Int32)) := V15
  have f16 := own_ext_wr f11 W15 ge10
  have f17 := f12.wr W15
  have f18 := f13.other W15 (Or.inl ne9)
  have f19 := f14.other W15 (Or.inl ne9)
  have N20 := own_Fr_snoc (sl := ((0 : Int32)).toNatClampNeg) N0 gz_a8
  refine own_on st15 ?_
  show own_Go p e below F (T15.setTop (mkF m 98 #[.val (.int ((4 : Int32))), .val (.int y0), .val (.int y1), .val (.int y2), .val (.int y3)] [(.ref a8), (.ref a5), (.ref a5)]))
  refine own_dup X15.here hx (hb hby dSS_98) rfl (pc' := 99) rfl ?_
  refine own_iconst X15.here hx (hb hby dSS_99) (v := 1) rfl (pc' := 100) rfl ?_
  refine own_iload_n X15.here hx (hb hby dSS_100) rfl (pc' := 101) rfl ?_
  obtain ⟨T21, h21, X21, e21, W21, V21, st21⟩ := own_cast X15 hx hZ e15 V15 (i := 1) rfl (Nat.le_of_ble_eq_true rfl) (by decide) ny1 (g := (mkF m 101 #[.val (.int ((4 : Int32))), .val (.int y0), .val (.int y1), .val (.int y2), .val (.int y3)] [(.int y1), (.int ((1 : Int32))), (.ref a8), (.ref a8), (.ref a5), (.ref a5)])) rfl rfl (hb hby dSS_101)
  replace V21 : Arv Z h21 a8 k8 .char (4 : Int32) [.int y0, .int y1, .int (0 : Int32), .int (0 : Int32)] (.int (0 : Int32)) := V21
  have f22 := own_ext_wr f16 W21 ge10
  have f23 := f17.wr W21
  have f24 := f18.other W21 (Or.inl ne9)
  have f25 := f19.other W21 (Or.inl ne9)
  have N26 := own_Fr_snoc (sl := ((1 : Int32)).toNatClampNeg) N20 gz_a8
  refine own_on st21 ?_
  show own_Go p e below F (T21.setTop (mkF m 102 #[.val (.int ((4 : Int32))), .val (.int y0), .val (.int y1), .val (.int y2), .val (.int y3)] [(.ref a8), (.ref a5), (.ref a5)]))
  refine own_dup X21.here hx (hb hby dSS_102) rfl (pc' := 103) rfl ?_
  refine own_iconst X21.here hx (hb hby dSS_103) (v := 2) rfl (pc' := 104) rfl ?_
  refine own_iload_n X21.here hx (hb hby dSS_104) rfl (pc' := 105) rfl ?_
  obtain ⟨T27, h27, X27, e27, W27, V27, st27⟩ := own_cast X21 hx hZ e21 V21 (i := 2) rfl (Nat.le_of_ble_eq_true rfl) (by decide) ny2 (g := (mkF m 105 #[.val (.int ((4 : Int32))), .val (.int y0), .val (.int y1), .val (.int y2), .val (.int y3)] [(.int y2), (.int ((2 : Int32))), (.ref a8), (.ref a8), (.ref a5), (.ref a5)])) rfl rfl (hb hby dSS_105)
  replace V27 : Arv Z h27 a8 k8 .char (4 : Int32) [.int y0, .int y1, .int y2, .int (0 : Int32)] (.int (0 : Int32)) := V27
  have f28 := own_ext_wr f22 W27 ge10
  have f29 := f23.wr W27
  have f30 := f24.other W27 (Or.inl ne9)
  have f31 := f25.other W27 (Or.inl ne9)
  have N32 := own_Fr_snoc (sl := ((2 : Int32)).toNatClampNeg) N26 gz_a8
  refine own_on st27 ?_
  show own_Go p e below F (T27.setTop (mkF m 106 #[.val (.int ((4 : Int32))), .val (.int y0), .val (.int y1), .val (.int y2), .val (.int y3)] [(.ref a8), (.ref a5), (.ref a5)]))
  refine own_dup X27.here hx (hb hby dSS_106) rfl (pc' := 107) rfl ?_
  refine own_iconst X27.here hx (hb hby dSS_107) (v := 3) rfl (pc' := 108) rfl ?_
  refine own_iload X27.here hx (hb hby dSS_108) rfl (pc' := 110) rfl ?_
  obtain ⟨T33, h33, X33, e33, W33, V33, st33⟩ := own_cast X27 hx hZ e27 V27 (i := 3) rfl (Nat.le_of_ble_eq_true rfl) (by decide) ny3 (g := (mkF m 110 #[.val (.int ((4 : Int32))), .val (.int y0), .val (.int y1), .val (.int y2), .val (.int y3)] [(.int y3), (.int ((3 : Int32))), (.ref a8), (.ref a8), (.ref a5), (.ref a5)])) rfl rfl (hb hby dSS_110)
  replace V33 : Arv Z h33 a8 k8 .char (4 : Int32) [.int y0, .int y1, .int y2, .int y3] (.int (0 : Int32)) := V33
  have f34 := own_ext_wr f28 W33 ge10
  have f35 := f29.wr W33
  have f36 := f30.other W33 (Or.inl ne9)
  have f37 := f31.other W33 (Or.inl ne9)
  have N38 := own_Fr_snoc (sl := ((3 : Int32)).toNatClampNeg) N32 gz_a8
  refine own_on st33 ?_
  show own_Go p e below F (T33.setTop (mkF m 111 #[.val (.int ((4 : Int32))), .val (.int y0), .val (.int y1), .val (.int y2), .val (.int y3)] [(.ref a8), (.ref a5), (.ref a5)]))
  obtain ⟨_, _, ⟨T40, L40, k40, n40⟩, -, X40, ⟨Lc40, hQ40, l40, y40, z40⟩, st40⟩ := X33.specialBack hx (y := (⟨"java/lang/String", "<init>", "([C)V"⟩ : MethodName)) rfl hown (mvT hZ (hw _ (List.mem_of_getElem? (i := 12) rfl))) (mvT hZ (hw _ (List.mem_of_getElem? (i := 13) rfl))) (mvT hZ (hw _ (List.mem_of_getElem? (i := 14) rfl))) (by decide) (backOf (W := 1) (rmI1 l Z a0 hw a5 a8 k8 [y0, y1, y2, y3] (4 : Int32) (.int (0 : Int32)) h33 (own_ext_trans EZ f34) z0 O1 P5 O3 O4 O5 gz_a5 (Ne.symm ne9) f35 f36 f37 V33 rfl (Nat.le_of_ble_eq_true rfl) (fun c hc => by simp only [List.mem_cons, List.not_mem_nil, or_false] at hc; rcases hc with rfl | rfl | rfl | rfl <;> assumption) (Nat.le_of_ble_eq_true rfl) (Nat.le_of_ble_eq_true rfl)) hZ (hw _ (List.mem_of_getElem? (i := 14) rfl)) (hw _ (List.mem_of_getElem? (i := 10) rfl)) (by decide) (by decide)) (g := (mkF m 111 #[.val (.int ((4 : Int32))), .val (.int y0), .val (.int y1), .val (.int y2), .val (.int y3)] [(.ref a8), (.ref a5), (.ref a5)])) rfl (by rw [hml]; rfl) (Steps.refl _) (a := a5) (argsL := [(.ref a8)]) (rest := [(.ref a5)]) (lenOf pdE1 rfl) rfl (by show 2 * 0 + _ ≤ _; exact Nat.le_of_eq rfl) (hb hby dSS_111) (fun _ _ => ⟨rfl, e33, (Nat.le_of_ble_eq_true rfl), (Nat.le_of_ble_eq_true rfl)⟩)
  dsimp only [Pt.U, Pt.locs, Pt.cells, Pt.slots] at X40 l40 y40 z40 st40 hQ40
  subst l40 y40 z40
  obtain ⟨rfl, N40, K40, S40⟩ := hQ40
  refine own_to st40 ?_
  show own_Go p e below F (T40.setTop (mkF m 114 #[.val (.int ((4 : Int32))), .val (.int y0), .val (.int y1), .val (.int y2), .val (.int y3)] [(.ref a5)]))
  have f41 := own_ext_keep f34 K40 (fun y hy => by simp only [List.mem_cons, List.not_mem_nil, or_false] at hy; rcases hy with rfl <;> assumption)
  have N42 := Fr.app N38 N40
  exact own_retA X40 hx hlk hret rfl rfl (hb hby dSS_114) (fun t ht hE => hF t _ _ _ _ (by rw [ht, (rfl : _ = T40.heap)]; exact ⟨_, rfl, S40, f41, N42⟩) hE (by decide) (by decide))
theorem efL (m : MethodId) (x0 : Int32) (x1 : Int32) (x2 : Int32) (x3 : Int32) (x4 : Int32) : entryFrame m #[(.int x0), (.int x1), (.int x2), (.int x3), (.int x4)] 13 = mkF m 0 #[.val (.int x0), .val (.int x1), .val (.int x2), .val (.int x3), .val (.int x4), .unset, .unset, .unset, .unset, .unset, .unset, .unset, .unset] [] := by first | (simp [entryFrame, mkF, argsToLocals, Value.category]; done) | rfl
def Q_rmL (Z : State) (mo a b c1 d : Int32) (h0 : Heap) (z0 : Int32) (fm : Value) (v : Option Value) (h : Heap) (L : List Loc) : Prop := v = some (.int 1) ∧ Fr Z.heap.size L
set_option maxRecDepth 65536 in
set_option maxHeartbeats 40000000 in
theorem rmL (l : Launch) (Z : State) (a0 : Array Value) (hw : ∀ d ∈ tables_1, d.before a0 Z = true) (hEL : EW Z a0 EL) (mo a b c1 d : Int32) (h0 : Heap) (EZ : Ext Z.heap h0) (z0 : Int32) (O1 : Sta Z Z.heap "java/lang/String" "COMPACT_STRINGS" "Z" (.int z0)) (P5 : ¬ z0 = 0) (fm : Value) (O2 : Sta Z Z.heap "jdk/internal/util/Preconditions" "SIOOBE_FORMATTER" "Ljava/util/function/BiFunction;" fm) (rf : fm.isRef = true) (O3 : Sta Z Z.heap "java/lang/StringUTF16" "$assertionsDisabled" "Z" (.int 1)) (O4 : Sta Z Z.heap "java/lang/StringUTF16" "HI_BYTE_SHIFT" "I" (.int 0)) (O5 : Sta Z Z.heap "java/lang/StringUTF16" "LO_BYTE_SHIFT" "I" (.int 8)) :
    MetFree l x (head1 (Jvm.Cond.code x code maxLocals ret :: tables_1) room_1) (fun aa U => aa = #[(.int mo), (.int a), (.int b), (.int c1), (.int d)] ∧ Z.Warmed39 U.vm ∧ U.heap = h0 ∧ CHv Z EL U.vm h0 ∧ ∀ yy ∈ ([] : List Addr), Safe Z EL U.vm h0 yy) (fun _ _ _ _ _ => True) (fun _ U o U' => ∃ v L, o = .returned v ∧ (Q_rmL Z mo a b c1 d h0 z0 fm) v U'.heap L ∧ CHr Z EL U.vm U.heap U'.vm U'.heap ∧ ReturnedEndW U o U' L room_1.cells room_1.slots) := by
  refine own_walkW (by exact pnL) ?_
  intro p e s m below meth c T0 X0 hx hby hml hret hlk hnm hs0 e0 I0 hsf F hF
  refine own_on (fun _ => castTop (efL m mo a b c1 d)) ?_
  have M0 := own_ext_refl h0
  have N0 := Fr.nil Z.heap.size
  refine own_iload_n X0.here hx (hb hby at_0) rfl (pc' := 1) rfl ?_
  obtain ⟨_, _, ⟨T1, L1, k1, n1⟩, -, X1, ⟨Lc1, hQ1, l1, y1, z1⟩, st1⟩ := Jvm.LawKit.callS X0 hx (y := (⟨"com/example/cladistic/cladistic/NamesIsPlainIdentifierPinLaw", "draw", "(I)C"⟩ : MethodName)) I0.2.1 (mvT I0.1 (hw _ (List.mem_of_getElem? (i := 0) rfl))) (mvT I0.1 (hw _ (List.mem_of_getElem? (i := 1) rfl))) (mvT I0.1 (hw _ (List.mem_of_getElem? (i := 2) rfl))) (mvT I0.1 (hw _ (List.mem_of_getElem? (i := 3) rfl))) (by decide) (backOf (W := 0) (rmDr l Z a0 hw a h0) I0.1 (hw _ (List.mem_of_getElem? (i := 3) rfl)) (hw _ (List.mem_of_getElem? (i := 2) rfl)) (by decide) (by decide)) (g := (mkF m 1 #[.val (.int mo), .val (.int a), .val (.int b), .val (.int c1), .val (.int d), .unset, .unset, .unset, .unset, .unset, .unset, .unset, .unset] [(.int a)])) rfl (by rw [hml]; rfl) (argsL := [(.int a)]) (rest := []) (lenOf pdx14 rfl) rfl (by show 2 * 0 + _ ≤ _; exact Nat.le_of_eq rfl) (hb hby at_1) (fun _ _ => ⟨rfl, e0, (Nat.le_of_ble_eq_true rfl), (Nat.le_of_ble_eq_true rfl)⟩)
  dsimp only [Pt.U, Pt.locs, Pt.cells, Pt.slots] at X1 l1 y1 z1 st1 hQ1
  subst l1 y1 z1
  obtain ⟨rfl, N1, E1⟩ := hQ1
  refine own_on (st1) ?_
  show own_Go p e below F (T1.setTop (mkF m 4 #[.val (.int mo), .val (.int a), .val (.int b), .val (.int c1), .val (.int d), .unset, .unset, .unset, .unset, .unset, .unset, .unset, .unset] [(.int (own_dr a))]))
  have N2 := Fr.app N0 N1
  refine own_istore X1.here hx (hb hby at_4) (L' := #[.val (.int mo), .val (.int a), .val (.int b), .val (.int c1), .val (.int d), .val (.int (own_dr a)), .unset, .unset, .unset, .unset, .unset, .unset, .unset]) rfl (pc' := 6) rfl ?_
  refine own_iload_n X1.here hx (hb hby at_6) rfl (pc' := 7) rfl ?_
  obtain ⟨_, _, ⟨T3, L3, k3, n3⟩, -, X3, ⟨Lc3, hQ3, l3, y3, z3⟩, st3⟩ := Jvm.LawKit.callS X1 hx (y := (⟨"com/example/cladistic/cladistic/NamesIsPlainIdentifierPinLaw", "draw", "(I)C"⟩ : MethodName)) I0.2.1 (mvT I0.1 (hw _ (List.mem_of_getElem? (i := 0) rfl))) (mvT I0.1 (hw _ (List.mem_of_getElem? (i := 1) rfl))) (mvT I0.1 (hw _ (List.mem_of_getElem? (i := 2) rfl))) (mvT I0.1 (hw _ (List.mem_of_getElem? (i := 3) rfl))) (by decide) (backOf (W := 0) (rmDr l Z a0 hw b h0) I0.1 (hw _ (List.mem_of_getElem? (i := 3) rfl)) (hw _ (List.mem_of_getElem? (i := 2) rfl)) (by decide) (by decide)) (g := (mkF m 7 #[.val (.int mo), .val (.int a), .val (.int b), .val (.int c1), .val (.int d), .val (.int (own_dr a)), .unset, .unset, .unset, .unset, .unset, .unset, .unset] [(.int b)])) rfl (by rw [hml]; rfl) (argsL := [(.int b)]) (rest := []) (lenOf pdx14 rfl) rfl (by show 2 * 0 + _ ≤ _; exact Nat.le_of_eq rfl) (hb hby at_7) (fun _ _ => ⟨rfl, E1, (Nat.le_of_ble_eq_true rfl), (Nat.le_of_ble_eq_true rfl)⟩)
  dsimp only [Pt.U, Pt.locs, Pt.cells, Pt.slots] at X3 l3 y3 z3 st3 hQ3
  subst l3 y3 z3
  obtain ⟨rfl, N3, E3⟩ := hQ3
  refine own_on (st3) ?_
  show own_Go p e below F (T3.setTop (mkF m 10 #[.val (.int mo), .val (.int a), .val (.int b), .val (.int c1), .val (.int d), .val (.int (own_dr a)), .unset, .unset, .unset, .unset, .unset, .unset, .unset] [(.int (own_dr b))]))
  have N4 := Fr.app N2 N3
  refine own_istore X3.here hx (hb hby at_10) (L' := #[.val (.int mo), .val (.int a), .val (.int b), .val (.int c1), .val (.int d), .val (.int (own_dr a)), .val (.int (own_dr b)), .unset, .unset, .unset, .unset, .unset, .unset]) rfl (pc' := 12) rfl ?_
  refine own_iload_n X3.here hx (hb hby at_12) rfl (pc' := 13) rfl ?_
  obtain ⟨_, _, ⟨T5, L5, k5, n5⟩, -, X5, ⟨Lc5, hQ5, l5, y5, z5⟩, st5⟩ := Jvm.LawKit.callS X3 hx (y := (⟨"com/example/cladistic/cladistic/NamesIsPlainIdentifierPinLaw", "draw", "(I)C"⟩ : MethodName)) I0.2.1 (mvT I0.1 (hw _ (List.mem_of_getElem? (i := 0) rfl))) (mvT I0.1 (hw _ (List.mem_of_getElem? (i := 1) rfl))) (mvT I0.1 (hw _ (List.mem_of_getElem? (i := 2) rfl))) (mvT I0.1 (hw _ (List.mem_of_getElem? (i := 3) rfl))) (by decide) (backOf (W := 0) (rmDr l Z a0 hw c1 h0) I0.1 (hw _ (List.mem_of_getElem? (i := 3) rfl)) (hw _ (List.mem_of_getElem? (i := 2) rfl)) (by decide) (by decide)) (g := (mkF m 13 #[.val (.int mo), .val (.int a), .val (.int b), .val (.int c1), .val (.int d), .val (.int (own_dr a)), .val (.int (own_dr b)), .unset, .unset, .unset, .unset, .unset, .unset] [(.int c1)])) rfl (by rw [hml]; rfl) (argsL := [(.int c1)]) (rest := []) (lenOf pdx14 rfl) rfl (by show 2 * 0 + _ ≤ _; exact Nat.le_of_eq rfl) (hb hby at_13) (fun _ _ => ⟨rfl, E3, (Nat.le_of_ble_eq_true rfl), (Nat.le_of_ble_eq_true rfl)⟩)
  dsimp only [Pt.U, Pt.locs, Pt.cells, Pt.slots] at X5 l5 y5 z5 st5 hQ5
  subst l5 y5 z5
  obtain ⟨rfl, N5, E5⟩ := hQ5
  refine own_on (st5) ?_
  show own_Go p e below F (T5.setTop (mkF m 16 #[.val (.int mo), .val (.int a), .val (.int b), .val (.int c1), .val (.int d), .val (.int (own_dr a)), .val (.int (own_dr b)), .unset, .unset, .unset, .unset, .unset, .unset] [(.int (own_dr c1))]))
  have N6 := Fr.app N4 N5
  refine own_istore X5.here hx (hb hby at_16) (L' := #[.val (.int mo), .val (.int a), .val (.int b), .val (.int c1), .val (.int d), .val (.int (own_dr a)), .val (.int (own_dr b)), .val (.int (own_dr c1)), .unset, .unset, .unset, .unset, .unset]) rfl (pc' := 18) rfl ?_
  refine own_iload X5.here hx (hb hby at_18) rfl (pc' := 20) rfl ?_
  obtain ⟨_, _, ⟨T7, L7, k7, n7⟩, -, X7, ⟨Lc7, hQ7, l7, y7, z7⟩, st7⟩ := Jvm.LawKit.callS X5 hx (y := (⟨"com/example/cladistic/cladistic/NamesIsPlainIdentifierPinLaw", "draw", "(I)C"⟩ : MethodName)) I0.2.1 (mvT I0.1 (hw _ (List.mem_of_getElem? (i := 0) rfl))) (mvT I0.1 (hw _ (List.mem_of_getElem? (i := 1) rfl))) (mvT I0.1 (hw _ (List.mem_of_getElem? (i := 2) rfl))) (mvT I0.1 (hw _ (List.mem_of_getElem? (i := 3) rfl))) (by decide) (backOf (W := 0) (rmDr l Z a0 hw d h0) I0.1 (hw _ (List.mem_of_getElem? (i := 3) rfl)) (hw _ (List.mem_of_getElem? (i := 2) rfl)) (by decide) (by decide)) (g := (mkF m 20 #[.val (.int mo), .val (.int a), .val (.int b), .val (.int c1), .val (.int d), .val (.int (own_dr a)), .val (.int (own_dr b)), .val (.int (own_dr c1)), .unset, .unset, .unset, .unset, .unset] [(.int d)])) rfl (by rw [hml]; rfl) (argsL := [(.int d)]) (rest := []) (lenOf pdx14 rfl) rfl (by show 2 * 0 + _ ≤ _; exact Nat.le_of_eq rfl) (hb hby at_20) (fun _ _ => ⟨rfl, E5, (Nat.le_of_ble_eq_true rfl), (Nat.le_of_ble_eq_true rfl)⟩)
  dsimp only [Pt.U, Pt.locs, Pt.cells, Pt.slots] at X7 l7 y7 z7 st7 hQ7
  subst l7 y7 z7
  obtain ⟨rfl, N7, E7⟩ := hQ7
  refine own_on (st7) ?_
  show own_Go p e below F (T7.setTop (mkF m 23 #[.val (.int mo), .val (.int a), .val (.int b), .val (.int c1), .val (.int d), .val (.int (own_dr a)), .val (.int (own_dr b)), .val (.int (own_dr c1)), .unset, .unset, .unset, .unset, .unset] [(.int (own_dr d))]))
  have N8 := Fr.app N6 N7
  refine own_istore X7.here hx (hb hby at_23) (L' := #[.val (.int mo), .val (.int a), .val (.int b), .val (.int c1), .val (.int d), .val (.int (own_dr a)), .val (.int (own_dr b)), .val (.int (own_dr c1)), .val (.int (own_dr d)), .unset, .unset, .unset, .unset]) rfl (pc' := 25) rfl ?_
  refine own_iload_n X7.here hx (hb hby at_25) rfl (pc' := 26) rfl ?_
  refine own_bipush X7.here hx (hb hby at_26) (v := 7) rfl (pc' := 28) rfl ?_
  refine own_iand X7.here hx (hb hby at_28) (pc' := 29) rfl ?_
  refine own_istore X7.here hx (hb hby at_29) (L' := #[.val (.int mo), .val (.int a), .val (.int b), .val (.int c1), .val (.int d), .val (.int (own_dr a)), .val (.int (own_dr b)), .val (.int (own_dr c1)), .val (.int (own_dr d)), .val (.int (mo &&& (7 : Int32))), .unset, .unset, .unset]) rfl (pc' := 31) rfl ?_
  obtain ⟨y0, ey0⟩ : ∃ c, c = own_dr a := ⟨_, rfl⟩
  have ny0 : nar .char y0 = y0 := by rw [ey0]; exact (own_drp _).1
  have py0 : ¬ y0 < 0 ∧ ¬ (65535 : Int32) < y0 := by rw [ey0]; exact (own_drp _).2
  rw [← ey0]
  obtain ⟨y1, ey1⟩ : ∃ c, c = own_dr b := ⟨_, rfl⟩
  have ny1 : nar .char y1 = y1 := by rw [ey1]; exact (own_drp _).1
  have py1 : ¬ y1 < 0 ∧ ¬ (65535 : Int32) < y1 := by rw [ey1]; exact (own_drp _).2
  rw [← ey1]
  obtain ⟨y2, ey2⟩ : ∃ c, c = own_dr c1 := ⟨_, rfl⟩
  have ny2 : nar .char y2 = y2 := by rw [ey2]; exact (own_drp _).1
  have py2 : ¬ y2 < 0 ∧ ¬ (65535 : Int32) < y2 := by rw [ey2]; exact (own_drp _).2
  rw [← ey2]
  obtain ⟨y3, ey3⟩ : ∃ c, c = own_dr d := ⟨_, rfl⟩
  have ny3 : nar .char y3 = y3 := by rw [ey3]; exact (own_drp _).1
  have py3 : ¬ y3 < 0 ∧ ¬ (65535 : Int32) < y3 := by rw [ey3]; exact (own_drp _).2
  rw [← ey3]
  rcases own_and7c mo with hm | hm | hm | hm | hm | hm | hm | hm <;> rw [hm]
  · show own_Go p e below F (T7.setTop (mkF m 31 #[.val (.int mo), .val (.int a), .val (.int b), .val (.int c1), .val (.int d), .val (.int y0), .val (.int y1), .val (.int y2), .val (.int y3), .val (.int ((0 : Int32))), .unset, .unset, .unset] []))
    refine own_iload X7.here hx (hb hby at_31) rfl (pc' := 33) rfl ?_
    refine own_iconst X7.here hx (hb hby at_33) (v := 5) rfl (pc' := 34) rfl ?_
    refine own_icmpne X7.here hx (hb hby at_34) (by decide) (pc' := 456) (by decide) (pc2 := 37) rfl (fun q9 => ?_) (fun q => absurd q (by decide))
    refine own_iload X7.here hx (hb hby at_456) rfl (pc' := 458) rfl ?_
    refine own_bipush X7.here hx (hb hby at_458) (v := 6) rfl (pc' := 460) rfl ?_
    refine own_icmpne X7.here hx (hb hby at_460) (by decide) (pc' := 860) (by decide) (pc2 := 463) rfl (fun q10 => ?_) (fun q => absurd q (by decide))
    refine own_iload X7.here hx (hb hby at_860) rfl (pc' := 862) rfl ?_
    refine own_bipush X7.here hx (hb hby at_862) (v := 7) rfl (pc' := 864) rfl ?_
    refine own_icmpne X7.here hx (hb hby at_864) (by decide) (pc' := 871) (by decide) (pc2 := 867) rfl (fun q11 => ?_) (fun q => absurd q (by decide))
    refine own_iload X7.here hx (hb hby at_871) rfl (pc' := 873) rfl ?_
    refine own_istore X7.here hx (hb hby at_873) (L' := #[.val (.int mo), .val (.int a), .val (.int b), .val (.int c1), .val (.int d), .val (.int y0), .val (.int y1), .val (.int y2), .val (.int y3), .val (.int ((0 : Int32))), .unset, .unset, .val (.int ((0 : Int32)))]) rfl (pc' := 875) rfl ?_
    refine own_iload X7.here hx (hb hby at_875) rfl (pc' := 877) rfl ?_
    refine own_iload X7.here hx (hb hby at_877) rfl (pc' := 879) rfl ?_
    refine own_iload X7.here hx (hb hby at_879) rfl (pc' := 881) rfl ?_
    refine own_iload X7.here hx (hb hby at_881) rfl (pc' := 883) rfl ?_
    refine own_iload X7.here hx (hb hby at_883) rfl (pc' := 885) rfl ?_
    obtain ⟨_, _, ⟨T12, L12, k12, n12⟩, -, X12, hS12, hG12, ⟨Lc12, hQ12, l12, y12, z12, C12⟩, st12⟩ := callSS X7 hx (y := (⟨"com/example/cladistic/cladistic/NamesIsPlainIdentifierPinLaw", "shortString", "(ICCCC)Ljava/lang/String;"⟩ : MethodName)) I0.2.1 (mvT I0.1 (hw _ (List.mem_of_getElem? (i := 5) rfl))) (mvT I0.1 (hw _ (List.mem_of_getElem? (i := 6) rfl))) (mvT I0.1 (hw _ (List.mem_of_getElem? (i := 2) rfl))) (mvT I0.1 (hw _ (List.mem_of_getElem? (i := 7) rfl))) (by decide) (own_backW (W := 0) (rmS0 l Z a0 hw hEL y0 y1 y2 y3 h0 (own_ext_trans EZ M0)) I0.1 (hw _ (List.mem_of_getElem? (i := 7) rfl)) (hw _ (List.mem_of_getElem? (i := 2) rfl)) (by decide) (by decide) hEL I0.ch (fun _ q => nomatch q)) (g := (mkF m 885 #[.val (.int mo), .val (.int a), .val (.int b), .val (.int c1), .val (.int d), .val (.int y0), .val (.int y1), .val (.int y2), .val (.int y3), .val (.int ((0 : Int32))), .unset, .unset, .val (.int ((0 : Int32)))] [(.int y3), (.int y2), (.int y1), (.int y0), (.int ((0 : Int32)))])) rfl (by rw [hml]; rfl) (argsL := [(.int ((0 : Int32))), (.int y0), (.int y1), (.int y2), (.int y3)]) (rest := []) (lenOf pdx18 rfl) rfl (by show 2 * 0 + _ ≤ _; exact Nat.le_of_eq rfl) (hb hby at_885) (fun _ _ => ⟨rfl, E7, (Nat.le_of_ble_eq_true rfl), (Nat.le_of_ble_eq_true rfl)⟩)
    dsimp only [Pt.U, Pt.locs, Pt.cells, Pt.slots] at X12 hS12 hG12 l12 y12 z12 C12 st12 hQ12
    subst l12 y12 z12
    replace X12 := (show Stand _ _ _ _ (s.setVm T12.vm) _ _ _ _ _ _ _ _ _ from X12)
    have I12 := I0.later hS12 (Nat.le_refl _) (by have q := hG12; rw [(E7 : _ = h0)] at q; exact q) C12
    obtain ⟨x12, rfl, S12, E12, N12⟩ := hQ12
    refine own_to st12 ?_
    show own_Go p e below F (T12.setTop (mkF m 888 #[.val (.int mo), .val (.int a), .val (.int b), .val (.int c1), .val (.int d), .val (.int y0), .val (.int y1), .val (.int y2), .val (.int y3), .val (.int ((0 : Int32))), .unset, .unset, .val (.int ((0 : Int32)))] [(.ref x12)]))
    have f13 := own_ext_trans M0 E12
    have N14 := Fr.app N8 N12
    refine own_astore X12.here hx (hb hby at_888) rfl (L' := #[.val (.int mo), .val (.int a), .val (.int b), .val (.int c1), .val (.int d), .val (.int y0), .val (.int y1), .val (.int y2), .val (.int y3), .val (.int ((0 : Int32))), .val (.ref x12), .unset, .val (.int ((0 : Int32)))]) rfl (pc' := 890) rfl ?_
    refine own_iload X12.here hx (hb hby at_890) rfl (pc' := 892) rfl ?_
    refine own_iconst X12.here hx (hb hby at_892) (v := 1) rfl (pc' := 893) rfl ?_
    refine own_icmplt X12.here hx (hb hby at_893) (by decide) (pc' := 958) (by decide) (pc2 := 896) rfl (fun q15 => ?_) (fun q => absurd (by decide) q)
    refine own_iconst X12.here hx (hb hby at_958) (v := 0) rfl (pc' := 959) rfl ?_
    refine own_istore X12.here hx (hb hby at_959) (L' := #[.val (.int mo), .val (.int a), .val (.int b), .val (.int c1), .val (.int d), .val (.int y0), .val (.int y1), .val (.int y2), .val (.int y3), .val (.int ((0 : Int32))), .val (.ref x12), .val (.int ((0 : Int32))), .val (.int ((0 : Int32)))]) rfl (pc' := 961) rfl ?_
    refine own_aload X12.here hx (hb hby at_961) rfl rfl (pc' := 963) rfl ?_
    obtain ⟨_, _, ⟨T16, L16, k16, n16⟩, -, X16, ⟨Lc16, hQ16, l16, y16, z16⟩, st16⟩ := Jvm.LawKit.callS X12 hx (y := (⟨"com/example/cladistic/cladistic/Names", "isPlainIdentifier", "(Ljava/lang/String;)Z"⟩ : MethodName)) I12.2.1 (mvT I12.1 (hw _ (List.mem_of_getElem? (i := 30) rfl))) (mvT I12.1 (hw _ (List.mem_of_getElem? (i := 31) rfl))) (mvT I12.1 (hw _ (List.mem_of_getElem? (i := 32) rfl))) (mvT I12.1 (hw _ (List.mem_of_getElem? (i := 33) rfl))) (by decide) (backOf (W := 0) (rmPI l Z a0 hw x12 [] T12.heap (own_ext_trans EZ f13) z0 O1 P5 fm O2 rf O3 O4 O5 S12) I12.1 (hw _ (List.mem_of_getElem? (i := 33) rfl)) (hw _ (List.mem_of_getElem? (i := 32) rfl)) (by decide) (by decide)) (g := (mkF m 963 #[.val (.int mo), .val (.int a), .val (.int b), .val (.int c1), .val (.int d), .val (.int y0), .val (.int y1), .val (.int y2), .val (.int y3), .val (.int ((0 : Int32))), .val (.ref x12), .val (.int ((0 : Int32))), .val (.int ((0 : Int32)))] [(.ref x12)])) rfl (by rw [hml]; rfl) (argsL := [(.ref x12)]) (rest := []) (lenOf pdx16 rfl) rfl (by show 2 * 0 + _ ≤ _; exact Nat.le_of_eq rfl) (hb hby at_963) (fun _ _ => ⟨rfl, rfl, (Nat.le_of_ble_eq_true rfl), (Nat.le_of_ble_eq_true rfl)⟩)
    dsimp only [Pt.U, Pt.locs, Pt.cells, Pt.slots] at X16 l16 y16 z16 st16 hQ16
    subst l16 y16 z16
    obtain ⟨rfl, N16, E16⟩ := hQ16
    refine own_on (st16) ?_
    show own_Go p e below F (T16.setTop (mkF m 966 #[.val (.int mo), .val (.int a), .val (.int b), .val (.int c1), .val (.int d), .val (.int y0), .val (.int y1), .val (.int y2), .val (.int y3), .val (.int ((0 : Int32))), .val (.ref x12), .val (.int ((0 : Int32))), .val (.int ((0 : Int32)))] [(.int (own_pi []))]))
    have N17 := Fr.app N14 N16
    refine own_iload X16.here hx (hb hby at_966) rfl (pc' := 968) rfl ?_
    refine own_icmpne X16.here hx (hb hby at_968) (by decide) (pc' := 975) (by decide) (pc2 := 971) rfl (fun q => absurd (show own_pi [] = (0 : Int32) by simp [own_pi]) q) (fun q18 => ?_)
    refine own_iconst X16.here hx (hb hby at_971) (v := 1) rfl (pc' := 972) rfl ?_
    refine own_goto X16.here hx (hb hby at_972) (by decide) (pc' := 976) (by decide) ?_
    exact own_retZW X16 hx hlk hEL I12 E16 (by decide) hret (hb hby at_976) (fun t ht hC hE => hF t _ _ _ _ (by rw [ht]; exact ⟨rfl, (by simpa using N17)⟩) hC hE (by decide) (by decide))
  · show own_Go p e below F (T7.setTop (mkF m 31 #[.val (.int mo), .val (.int a), .val (.int b), .val (.int c1), .val (.int d), .val (.int y0), .val (.int y1), .val (.int y2), .val (.int y3), .val (.int ((1 : Int32))), .unset, .unset, .unset] []))
    refine own_iload X7.here hx (hb hby at_31) rfl (pc' := 33) rfl ?_
    refine own_iconst X7.here hx (hb hby at_33) (v := 5) rfl (pc' := 34) rfl ?_
    refine own_icmpne X7.here hx (hb hby at_34) (by decide) (pc' := 456) (by decide) (pc2 := 37) rfl (fun q19 => ?_) (fun q => absurd q (by decide))
    refine own_iload X7.here hx (hb hby at_456) rfl (pc' := 458) rfl ?_
    refine own_bipush X7.here hx (hb hby at_458) (v := 6) rfl (pc' := 460) rfl ?_
    refine own_icmpne X7.here hx (hb hby at_460) (by decide) (pc' := 860) (by decide) (pc2 := 463) rfl (fun q20 => ?_) (fun q => absurd q (by decide))
    refine own_iload X7.here hx (hb hby at_860) rfl (pc' := 862) rfl ?_
    refine own_bipush X7.here hx (hb hby at_862) (v := 7) rfl (pc' := 864) rfl ?_
    refine own_icmpne X7.here hx (hb hby at_864) (by decide) (pc' := 871) (by decide) (pc2 := 867) rfl (fun q21 => ?_) (fun q => absurd q (by decide))
    refine own_iload X7.here hx (hb hby at_871) rfl (pc' := 873) rfl ?_
    refine own_istore X7.here hx (hb hby at_873) (L' := #[.val (.int mo), .val (.int a), .val (.int b), .val (.int c1), .val (.int d), .val (.int y0), .val (.int y1), .val (.int y2), .val (.int y3), .val (.int ((1 : Int32))), .unset, .unset, .val (.int ((1 : Int32)))]) rfl (pc' := 875) rfl ?_
    refine own_iload X7.here hx (hb hby at_875) rfl (pc' := 877) rfl ?_
    refine own_iload X7.here hx (hb hby at_877) rfl (pc' := 879) rfl ?_
    refine own_iload X7.here hx (hb hby at_879) rfl (pc' := 881) rfl ?_
    refine own_iload X7.here hx (hb hby at_881) rfl (pc' := 883) rfl ?_
    refine own_iload X7.here hx (hb hby at_883) rfl (pc' := 885) rfl ?_
    obtain ⟨_, _, ⟨T22, L22, k22, n22⟩, -, X22, ⟨Lc22, hQ22, l22, y22, z22⟩, st22⟩ := Jvm.LawKit.callS X7 hx (y := (⟨"com/example/cladistic/cladistic/NamesIsPlainIdentifierPinLaw", "shortString", "(ICCCC)Ljava/lang/String;"⟩ : MethodName)) I0.2.1 (mvT I0.1 (hw _ (List.mem_of_getElem? (i := 5) rfl))) (mvT I0.1 (hw _ (List.mem_of_getElem? (i := 6) rfl))) (mvT I0.1 (hw _ (List.mem_of_getElem? (i := 2) rfl))) (mvT I0.1 (hw _ (List.mem_of_getElem? (i := 7) rfl))) (by decide) (backOf (W := 0) (rmS1 l Z a0 hw y0 y1 y2 y3 h0 (own_ext_trans EZ M0) z0 O1 P5 O3 O4 O5 ny0 py0 ny1 py1 ny2 py2 ny3 py3) I0.1 (hw _ (List.mem_of_getElem? (i := 7) rfl)) (hw _ (List.mem_of_getElem? (i := 2) rfl)) (by decide) (by decide)) (g := (mkF m 885 #[.val (.int mo), .val (.int a), .val (.int b), .val (.int c1), .val (.int d), .val (.int y0), .val (.int y1), .val (.int y2), .val (.int y3), .val (.int ((1 : Int32))), .unset, .unset, .val (.int ((1 : Int32)))] [(.int y3), (.int y2), (.int y1), (.int y0), (.int ((1 : Int32)))])) rfl (by rw [hml]; rfl) (argsL := [(.int ((1 : Int32))), (.int y0), (.int y1), (.int y2), (.int y3)]) (rest := []) (lenOf pdx18 rfl) rfl (by show 2 * 0 + _ ≤ _; exact Nat.le_of_eq rfl) (hb hby at_885) (fun _ _ => ⟨rfl, E7, (Nat.le_of_ble_eq_true rfl), (Nat.le_of_ble_eq_true rfl)⟩)
    dsimp only [Pt.U, Pt.locs, Pt.cells, Pt.slots] at X22 l22 y22 z22 st22 hQ22
    subst l22 y22 z22
    obtain ⟨x22, rfl, S22, E22, N22⟩ := hQ22
    refine own_on (st22) ?_
    show own_Go p e below F (T22.setTop (mkF m 888 #[.val (.int mo), .val (.int a), .val (.int b), .val (.int c1), .val (.int d), .val (.int y0), .val (.int y1), .val (.int y2), .val (.int y3), .val (.int ((1 : Int32))), .unset, .unset, .val (.int ((1 : Int32)))] [(.ref x22)]))
    have f23 := own_ext_trans M0 E22
    have J24 := I0.ext E22
    have N25 := Fr.app N8 N22
    refine own_astore X22.here hx (hb hby at_888) rfl (L' := #[.val (.int mo), .val (.int a), .val (.int b), .val (.int c1), .val (.int d), .val (.int y0), .val (.int y1), .val (.int y2), .val (.int y3), .val (.int ((1 : Int32))), .val (.ref x22), .unset, .val (.int ((1 : Int32)))]) rfl (pc' := 890) rfl ?_
    refine own_iload X22.here hx (hb hby at_890) rfl (pc' := 892) rfl ?_
    refine own_iconst X22.here hx (hb hby at_892) (v := 1) rfl (pc' := 893) rfl ?_
    refine own_icmplt X22.here hx (hb hby at_893) (by decide) (pc' := 958) (by decide) (pc2 := 896) rfl (fun q => absurd q (by decide)) (fun q26 => ?_)
    refine own_iload X22.here hx (hb hby at_896) rfl (pc' := 898) rfl ?_
    obtain ⟨_, _, ⟨T27, L27, k27, n27⟩, -, X27, ⟨Lc27, hQ27, l27, y27, z27⟩, st27⟩ := Jvm.LawKit.callS X22 hx (y := (⟨"com/example/cladistic/cladistic/NamesIsPlainIdentifierPinLaw", "allowed", "(C)Z"⟩ : MethodName)) J24.2.1 (mvT J24.1 (hw _ (List.mem_of_getElem? (i := 50) rfl))) (mvT J24.1 (hw _ (List.mem_of_getElem? (i := 51) rfl))) (mvT J24.1 (hw _ (List.mem_of_getElem? (i := 2) rfl))) (mvT J24.1 (hw _ (List.mem_of_getElem? (i := 52) rfl))) (by decide) (backOf (W := 0) (rmAl l Z a0 hw y0 T22.heap) J24.1 (hw _ (List.mem_of_getElem? (i := 52) rfl)) (hw _ (List.mem_of_getElem? (i := 2) rfl)) (by decide) (by decide)) (g := (mkF m 898 #[.val (.int mo), .val (.int a), .val (.int b), .val (.int c1), .val (.int d), .val (.int y0), .val (.int y1), .val (.int y2), .val (.int y3), .val (.int ((1 : Int32))), .val (.ref x22), .unset, .val (.int ((1 : Int32)))] [(.int y0)])) rfl (by rw [hml]; rfl) (argsL := [(.int y0)]) (rest := []) (lenOf pdx15 rfl) rfl (by show 2 * 0 + _ ≤ _; exact Nat.le_of_eq rfl) (hb hby at_898) (fun _ _ => ⟨rfl, rfl, (Nat.le_of_ble_eq_true rfl), (Nat.le_of_ble_eq_true rfl)⟩)
    dsimp only [Pt.U, Pt.locs, Pt.cells, Pt.slots] at X27 l27 y27 z27 st27 hQ27
    subst l27 y27 z27
    obtain ⟨rfl, N27, E27⟩ := hQ27
    refine own_on (st27) ?_
    show own_Go p e below F (T27.setTop (mkF m 901 #[.val (.int mo), .val (.int a), .val (.int b), .val (.int c1), .val (.int d), .val (.int y0), .val (.int y1), .val (.int y2), .val (.int y3), .val (.int ((1 : Int32))), .val (.ref x22), .unset, .val (.int ((1 : Int32)))] [(.int ((if own_ok y0 = true then (1 : Int32) else 0)))]))
    have N28 := Fr.app N25 N27
    by_cases ho0 : own_ok y0 = true
    · rw [if_pos ho0]
      show own_Go p e below F (T27.setTop (mkF m 901 #[.val (.int mo), .val (.int a), .val (.int b), .val (.int c1), .val (.int d), .val (.int y0), .val (.int y1), .val (.int y2), .val (.int y3), .val (.int ((1 : Int32))), .val (.ref x22), .unset, .val (.int ((1 : Int32)))] [(.int ((1 : Int32)))]))
      refine own_ifeq X27.here hx (hb hby at_901) (by decide) (pc' := 958) (by decide) (pc2 := 904) rfl (fun q => absurd q (by decide)) (fun q29 => ?_)
      refine own_iload X27.here hx (hb hby at_904) rfl (pc' := 906) rfl ?_
      obtain ⟨_, _, ⟨T30, L30, k30, n30⟩, -, X30, ⟨Lc30, hQ30, l30, y30, z30⟩, st30⟩ := Jvm.LawKit.callS X27 hx (y := (⟨"com/example/cladistic/cladistic/NamesIsPlainIdentifierPinLaw", "digit", "(C)Z"⟩ : MethodName)) J24.2.1 (mvT J24.1 (hw _ (List.mem_of_getElem? (i := 53) rfl))) (mvT J24.1 (hw _ (List.mem_of_getElem? (i := 54) rfl))) (mvT J24.1 (hw _ (List.mem_of_getElem? (i := 2) rfl))) (mvT J24.1 (hw _ (List.mem_of_getElem? (i := 55) rfl))) (by decide) (backOf (W := 0) (rmDa l Z a0 hw y0 T22.heap) J24.1 (hw _ (List.mem_of_getElem? (i := 55) rfl)) (hw _ (List.mem_of_getElem? (i := 2) rfl)) (by decide) (by decide)) (g := (mkF m 906 #[.val (.int mo), .val (.int a), .val (.int b), .val (.int c1), .val (.int d), .val (.int y0), .val (.int y1), .val (.int y2), .val (.int y3), .val (.int ((1 : Int32))), .val (.ref x22), .unset, .val (.int ((1 : Int32)))] [(.int y0)])) rfl (by rw [hml]; rfl) (argsL := [(.int y0)]) (rest := []) (lenOf pdx15 rfl) rfl (by show 2 * 0 + _ ≤ _; exact Nat.le_of_eq rfl) (hb hby at_906) (fun _ _ => ⟨rfl, E27, (Nat.le_of_ble_eq_true rfl), (Nat.le_of_ble_eq_true rfl)⟩)
      dsimp only [Pt.U, Pt.locs, Pt.cells, Pt.slots] at X30 l30 y30 z30 st30 hQ30
      subst l30 y30 z30
      obtain ⟨rfl, N30, E30⟩ := hQ30
      refine own_on (st30) ?_
      show own_Go p e below F (T30.setTop (mkF m 909 #[.val (.int mo), .val (.int a), .val (.int b), .val (.int c1), .val (.int d), .val (.int y0), .val (.int y1), .val (.int y2), .val (.int y3), .val (.int ((1 : Int32))), .val (.ref x22), .unset, .val (.int ((1 : Int32)))] [(.int ((if own_dg y0 = true then (1 : Int32) else 0)))]))
      have N31 := Fr.app N28 N30
      by_cases hd0 : own_dg y0 = true
      · rw [if_pos hd0]
        show own_Go p e below F (T30.setTop (mkF m 909 #[.val (.int mo), .val (.int a), .val (.int b), .val (.int c1), .val (.int d), .val (.int y0), .val (.int y1), .val (.int y2), .val (.int y3), .val (.int ((1 : Int32))), .val (.ref x22), .unset, .val (.int ((1 : Int32)))] [(.int ((1 : Int32)))]))
        refine own_ifne X30.here hx (hb hby at_909) (by decide) (pc' := 958) (by decide) (pc2 := 912) rfl (fun q32 => ?_) (fun q => absurd q (by decide))
        refine own_iconst X30.here hx (hb hby at_958) (v := 0) rfl (pc' := 959) rfl ?_
        refine own_istore X30.here hx (hb hby at_959) (L' := #[.val (.int mo), .val (.int a), .val (.int b), .val (.int c1), .val (.int d), .val (.int y0), .val (.int y1), .val (.int y2), .val (.int y3), .val (.int ((1 : Int32))), .val (.ref x22), .val (.int ((0 : Int32))), .val (.int ((1 : Int32)))]) rfl (pc' := 961) rfl ?_
        refine own_aload X30.here hx (hb hby at_961) rfl rfl (pc' := 963) rfl ?_
        obtain ⟨_, _, ⟨T33, L33, k33, n33⟩, -, X33, ⟨Lc33, hQ33, l33, y33, z33⟩, st33⟩ := Jvm.LawKit.callS X30 hx (y := (⟨"com/example/cladistic/cladistic/Names", "isPlainIdentifier", "(Ljava/lang/String;)Z"⟩ : MethodName)) J24.2.1 (mvT J24.1 (hw _ (List.mem_of_getElem? (i := 30) rfl))) (mvT J24.1 (hw _ (List.mem_of_getElem? (i := 31) rfl))) (mvT J24.1 (hw _ (List.mem_of_getElem? (i := 32) rfl))) (mvT J24.1 (hw _ (List.mem_of_getElem? (i := 33) rfl))) (by decide) (backOf (W := 0) (rmPI l Z a0 hw x22 [y0] T22.heap (own_ext_trans EZ f23) z0 O1 P5 fm O2 rf O3 O4 O5 S22) J24.1 (hw _ (List.mem_of_getElem? (i := 33) rfl)) (hw _ (List.mem_of_getElem? (i := 32) rfl)) (by decide) (by decide)) (g := (mkF m 963 #[.val (.int mo), .val (.int a), .val (.int b), .val (.int c1), .val (.int d), .val (.int y0), .val (.int y1), .val (.int y2), .val (.int y3), .val (.int ((1 : Int32))), .val (.ref x22), .val (.int ((0 : Int32))), .val (.int ((1 : Int32)))] [(.ref x22)])) rfl (by rw [hml]; rfl) (argsL := [(.ref x22)]) (rest := []) (lenOf pdx16 rfl) rfl (by show 2 * 0 + _ ≤ _; exact Nat.le_of_eq rfl) (hb hby at_963) (fun _ _ => ⟨rfl, E30, (Nat.le_of_ble_eq_true rfl), (Nat.le_of_ble_eq_true rfl)⟩)
        dsimp only [Pt.U, Pt.locs, Pt.cells, Pt.slots] at X33 l33 y33 z33 st33 hQ33
        subst l33 y33 z33
        obtain ⟨rfl, N33, E33⟩ := hQ33
        refine own_on (st33) ?_
        show own_Go p e below F (T33.setTop (mkF m 966 #[.val (.int mo), .val (.int a), .val (.int b), .val (.int c1), .val (.int d), .val (.int y0), .val (.int y1), .val (.int y2), .val (.int y3), .val (.int ((1 : Int32))), .val (.ref x22), .val (.int ((0 : Int32))), .val (.int ((1 : Int32)))] [(.int (own_pi [y0]))]))
        have N34 := Fr.app N31 N33
        refine own_iload X33.here hx (hb hby at_966) rfl (pc' := 968) rfl ?_
        refine own_icmpne X33.here hx (hb hby at_968) (by decide) (pc' := 975) (by decide) (pc2 := 971) rfl (fun q => absurd (show own_pi [y0] = (0 : Int32) by simp [own_pi, hd0]) q) (fun q35 => ?_)
        refine own_iconst X33.here hx (hb hby at_971) (v := 1) rfl (pc' := 972) rfl ?_
        refine own_goto X33.here hx (hb hby at_972) (by decide) (pc' := 976) (by decide) ?_
        exact own_retZW X33 hx hlk hEL J24 E33 (by decide) hret (hb hby at_976) (fun t ht hC hE => hF t _ _ _ _ (by rw [ht]; exact ⟨rfl, (by simpa using N34)⟩) hC hE (by decide) (by decide))
      · rw [if_neg hd0]
        show own_Go p e below F (T30.setTop (mkF m 909 #[.val (.int mo), .val (.int a), .val (.int b), .val (.int c1), .val (.int d), .val (.int y0), .val (.int y1), .val (.int y2), .val (.int y3), .val (.int ((1 : Int32))), .val (.ref x22), .unset, .val (.int ((1 : Int32)))] [(.int ((0 : Int32)))]))
        refine own_ifne X30.here hx (hb hby at_909) (by decide) (pc' := 958) (by decide) (pc2 := 912) rfl (fun q => absurd rfl q) (fun q36 => ?_)
        refine own_iload X30.here hx (hb hby at_912) rfl (pc' := 914) rfl ?_
        refine own_iconst X30.here hx (hb hby at_914) (v := 2) rfl (pc' := 915) rfl ?_
        refine own_icmplt X30.here hx (hb hby at_915) (by decide) (pc' := 926) (by decide) (pc2 := 918) rfl (fun q37 => ?_) (fun q => absurd (by decide) q)
        refine own_iload X30.here hx (hb hby at_926) rfl (pc' := 928) rfl ?_
        refine own_iconst X30.here hx (hb hby at_928) (v := 3) rfl (pc' := 929) rfl ?_
        refine own_icmplt X30.here hx (hb hby at_929) (by decide) (pc' := 940) (by decide) (pc2 := 932) rfl (fun q38 => ?_) (fun q => absurd (by decide) q)
        refine own_iload X30.here hx (hb hby at_940) rfl (pc' := 942) rfl ?_
        refine own_iconst X30.here hx (hb hby at_942) (v := 4) rfl (pc' := 943) rfl ?_
        refine own_icmplt X30.here hx (hb hby at_943) (by decide) (pc' := 954) (by decide) (pc2 := 946) rfl (fun q39 => ?_) (fun q => absurd (by decide) q)
        refine own_iconst X30.here hx (hb hby at_954) (v := 1) rfl (pc' := 955) rfl ?_
        refine own_goto X30.here hx (hb hby at_955) (by decide) (pc' := 959) (by decide) ?_
        refine own_istore X30.here hx (hb hby at_959) (L' := #[.val (.int mo), .val (.int a), .val (.int b), .val (.int c1), .val (.int d), .val (.int y0), .val (.int y1), .val (.int y2), .val (.int y3), .val (.int ((1 : Int32))), .val (.ref x22), .val (.int ((1 : Int32))), .val (.int ((1 : Int32)))]) rfl (pc' := 961) rfl ?_
        refine own_aload X30.here hx (hb hby at_961) rfl rfl (pc' := 963) rfl ?_
        obtain ⟨_, _, ⟨T40, L40, k40, n40⟩, -, X40, ⟨Lc40, hQ40, l40, y40, z40⟩, st40⟩ := Jvm.LawKit.callS X30 hx (y := (⟨"com/example/cladistic/cladistic/Names", "isPlainIdentifier", "(Ljava/lang/String;)Z"⟩ : MethodName)) J24.2.1 (mvT J24.1 (hw _ (List.mem_of_getElem? (i := 30) rfl))) (mvT J24.1 (hw _ (List.mem_of_getElem? (i := 31) rfl))) (mvT J24.1 (hw _ (List.mem_of_getElem? (i := 32) rfl))) (mvT J24.1 (hw _ (List.mem_of_getElem? (i := 33) rfl))) (by decide) (backOf (W := 0) (rmPI l Z a0 hw x22 [y0] T22.heap (own_ext_trans EZ f23) z0 O1 P5 fm O2 rf O3 O4 O5 S22) J24.1 (hw _ (List.mem_of_getElem? (i := 33) rfl)) (hw _ (List.mem_of_getElem? (i := 32) rfl)) (by decide) (by decide)) (g := (mkF m 963 #[.val (.int mo), .val (.int a), .val (.int b), .val (.int c1), .val (.int d), .val (.int y0), .val (.int y1), .val (.int y2), .val (.int y3), .val (.int ((1 : Int32))), .val (.ref x22), .val (.int ((1 : Int32))), .val (.int ((1 : Int32)))] [(.ref x22)])) rfl (by rw [hml]; rfl) (argsL := [(.ref x22)]) (rest := []) (lenOf pdx16 rfl) rfl (by show 2 * 0 + _ ≤ _; exact Nat.le_of_eq rfl) (hb hby at_963) (fun _ _ => ⟨rfl, E30, (Nat.le_of_ble_eq_true rfl), (Nat.le_of_ble_eq_true rfl)⟩)
        dsimp only [Pt.U, Pt.locs, Pt.cells, Pt.slots] at X40 l40 y40 z40 st40 hQ40
        subst l40 y40 z40
        obtain ⟨rfl, N40, E40⟩ := hQ40
        refine own_on (st40) ?_
        show own_Go p e below F (T40.setTop (mkF m 966 #[.val (.int mo), .val (.int a), .val (.int b), .val (.int c1), .val (.int d), .val (.int y0), .val (.int y1), .val (.int y2), .val (.int y3), .val (.int ((1 : Int32))), .val (.ref x22), .val (.int ((1 : Int32))), .val (.int ((1 : Int32)))] [(.int (own_pi [y0]))]))
        have N41 := Fr.app N31 N40
        refine own_iload X40.here hx (hb hby at_966) rfl (pc' := 968) rfl ?_
        refine own_icmpne X40.here hx (hb hby at_968) (by decide) (pc' := 975) (by decide) (pc2 := 971) rfl (fun q => absurd (show own_pi [y0] = (1 : Int32) by simp [own_pi, ho0, hd0]) q) (fun q42 => ?_)
        refine own_iconst X40.here hx (hb hby at_971) (v := 1) rfl (pc' := 972) rfl ?_
        refine own_goto X40.here hx (hb hby at_972) (by decide) (pc' := 976) (by decide) ?_
        exact own_retZW X40 hx hlk hEL J24 E40 (by decide) hret (hb hby at_976) (fun t ht hC hE => hF t _ _ _ _ (by rw [ht]; exact ⟨rfl, (by simpa using N41)⟩) hC hE (by decide) (by decide))
    · rw [if_neg ho0]
      show own_Go p e below F (T27.setTop (mkF m 901 #[.val (.int mo), .val (.int a), .val (.int b), .val (.int c1), .val (.int d), .val (.int y0), .val (.int y1), .val (.int y2), .val (.int y3), .val (.int ((1 : Int32))), .val (.ref x22), .unset, .val (.int ((1 : Int32)))] [(.int ((0 : Int32)))]))
      refine own_ifeq X27.here hx (hb hby at_901) (by decide) (pc' := 958) (by decide) (pc2 := 904) rfl (fun q43 => ?_) (fun q => absurd rfl q)
      refine own_iconst X27.here hx (hb hby at_958) (v := 0) rfl (pc' := 959) rfl ?_
      refine own_istore X27.here hx (hb hby at_959) (L' := #[.val (.int mo), .val (.int a), .val (.int b), .val (.int c1), .val (.int d), .val (.int y0), .val (.int y1), .val (.int y2), .val (.int y3), .val (.int ((1 : Int32))), .val (.ref x22), .val (.int ((0 : Int32))), .val (.int ((1 : Int32)))]) rfl (pc' := 961) rfl ?_
      refine own_aload X27.here hx (hb hby at_961) rfl rfl (pc' := 963) rfl ?_
      obtain ⟨_, _, ⟨T44, L44, k44, n44⟩, -, X44, ⟨Lc44, hQ44, l44, y44, z44⟩, st44⟩ := Jvm.LawKit.callS X27 hx (y := (⟨"com/example/cladistic/cladistic/Names", "isPlainIdentifier", "(Ljava/lang/String;)Z"⟩ : MethodName)) J24.2.1 (mvT J24.1 (hw _ (List.mem_of_getElem? (i := 30) rfl))) (mvT J24.1 (hw _ (List.mem_of_getElem? (i := 31) rfl))) (mvT J24.1 (hw _ (List.mem_of_getElem? (i := 32) rfl))) (mvT J24.1 (hw _ (List.mem_of_getElem? (i := 33) rfl))) (by decide) (backOf (W := 0) (rmPI l Z a0 hw x22 [y0] T22.heap (own_ext_trans EZ f23) z0 O1 P5 fm O2 rf O3 O4 O5 S22) J24.1 (hw _ (List.mem_of_getElem? (i := 33) rfl)) (hw _ (List.mem_of_getElem? (i := 32) rfl)) (by decide) (by decide)) (g := (mkF m 963 #[.val (.int mo), .val (.int a), .val (.int b), .val (.int c1), .val (.int d), .val (.int y0), .val (.int y1), .val (.int y2), .val (.int y3), .val (.int ((1 : Int32))), .val (.ref x22), .val (.int ((0 : Int32))), .val (.int ((1 : Int32)))] [(.ref x22)])) rfl (by rw [hml]; rfl) (argsL := [(.ref x22)]) (rest := []) (lenOf pdx16 rfl) rfl (by show 2 * 0 + _ ≤ _; exact Nat.le_of_eq rfl) (hb hby at_963) (fun _ _ => ⟨rfl, E27, (Nat.le_of_ble_eq_true rfl), (Nat.le_of_ble_eq_true rfl)⟩)
      dsimp only [Pt.U, Pt.locs, Pt.cells, Pt.slots] at X44 l44 y44 z44 st44 hQ44
      subst l44 y44 z44
      obtain ⟨rfl, N44, E44⟩ := hQ44
      refine own_on (st44) ?_
      show own_Go p e below F (T44.setTop (mkF m 966 #[.val (.int mo), .val (.int a), .val (.int b), .val (.int c1), .val (.int d), .val (.int y0), .val (.int y1), .val (.int y2), .val (.int y3), .val (.int ((1 : Int32))), .val (.ref x22), .val (.int ((0 : Int32))), .val (.int ((1 : Int32)))] [(.int (own_pi [y0]))]))
      have N45 := Fr.app N28 N44
      refine own_iload X44.here hx (hb hby at_966) rfl (pc' := 968) rfl ?_
      refine own_icmpne X44.here hx (hb hby at_968) (by decide) (pc' := 975) (by decide) (pc2 := 971) rfl (fun q => absurd (show own_pi [y0] = (0 : Int32) by simp [own_pi, ho0]) q) (fun q46 => ?_)
      refine own_iconst X44.here hx (hb hby at_971) (v := 1) rfl (pc' := 972) rfl ?_
      refine own_goto X44.here hx (hb hby at_972) (by decide) (pc' := 976) (by decide) ?_
      exact own_retZW X44 hx hlk hEL J24 E44 (by decide) hret (hb hby at_976) (fun t ht hC hE => hF t _ _ _ _ (by rw [ht]; exact ⟨rfl, (by simpa using N45)⟩) hC hE (by decide) (by decide))
  · show own_Go p e below F (T7.setTop (mkF m 31 #[.val (.int mo), .val (.int a), .val (.int b), .val (.int c1), .val (.int d), .val (.int y0), .val (.int y1), .val (.int y2), .val (.int y3), .val (.int ((2 : Int32))), .unset, .unset, .unset] []))
    refine own_iload X7.here hx (hb hby at_31) rfl (pc' := 33) rfl ?_
    refine own_iconst X7.here hx (hb hby at_33) (v := 5) rfl (pc' := 34) rfl ?_
    refine own_icmpne X7.here hx (hb hby at_34) (by decide) (pc' := 456) (by decide) (pc2 := 37) rfl (fun q47 => ?_) (fun q => absurd q (by decide))
    refine own_iload X7.here hx (hb hby at_456) rfl (pc' := 458) rfl ?_
    refine own_bipush X7.here hx (hb hby at_458) (v := 6) rfl (pc' := 460) rfl ?_
    refine own_icmpne X7.here hx (hb hby at_460) (by decide) (pc' := 860) (by decide) (pc2 := 463) rfl (fun q48 => ?_) (fun q => absurd q (by decide))
    refine own_iload X7.here hx (hb hby at_860) rfl (pc' := 862) rfl ?_
    refine own_bipush X7.here hx (hb hby at_862) (v := 7) rfl (pc' := 864) rfl ?_
    refine own_icmpne X7.here hx (hb hby at_864) (by decide) (pc' := 871) (by decide) (pc2 := 867) rfl (fun q49 => ?_) (fun q => absurd q (by decide))
    refine own_iload X7.here hx (hb hby at_871) rfl (pc' := 873) rfl ?_
    refine own_istore X7.here hx (hb hby at_873) (L' := #[.val (.int mo), .val (.int a), .val (.int b), .val (.int c1), .val (.int d), .val (.int y0), .val (.int y1), .val (.int y2), .val (.int y3), .val (.int ((2 : Int32))), .unset, .unset, .val (.int ((2 : Int32)))]) rfl (pc' := 875) rfl ?_
    refine own_iload X7.here hx (hb hby at_875) rfl (pc' := 877) rfl ?_
    refine own_iload X7.here hx (hb hby at_877) rfl (pc' := 879) rfl ?_
    refine own_iload X7.here hx (hb hby at_879) rfl (pc' := 881) rfl ?_
    refine own_iload X7.here hx (hb hby at_881) rfl (pc' := 883) rfl ?_
    refine own_iload X7.here hx (hb hby at_883) rfl (pc' := 885) rfl ?_
    obtain ⟨_, _, ⟨T50, L50, k50, n50⟩, -, X50, ⟨Lc50, hQ50, l50, y50, z50⟩, st50⟩ := Jvm.LawKit.callS X7 hx (y := (⟨"com/example/cladistic/cladistic/NamesIsPlainIdentifierPinLaw", "shortString", "(ICCCC)Ljava/lang/String;"⟩ : MethodName)) I0.2.1 (mvT I0.1 (hw _ (List.mem_of_getElem? (i := 5) rfl))) (mvT I0.1 (hw _ (List.mem_of_getElem? (i := 6) rfl))) (mvT I0.1 (hw _ (List.mem_of_getElem? (i := 2) rfl))) (mvT I0.1 (hw _ (List.mem_of_getElem? (i := 7) rfl))) (by decide) (backOf (W := 0) (rmS2 l Z a0 hw y0 y1 y2 y3 h0 (own_ext_trans EZ M0) z0 O1 P5 O3 O4 O5 ny0 py0 ny1 py1 ny2 py2 ny3 py3) I0.1 (hw _ (List.mem_of_getElem? (i := 7) rfl)) (hw _ (List.mem_of_getElem? (i := 2) rfl)) (by decide) (by decide)) (g := (mkF m 885 #[.val (.int mo), .val (.int a), .val (.int b), .val (.int c1), .val (.int d), .val (.int y0), .val (.int y1), .val (.int y2), .val (.int y3), .val (.int ((2 : Int32))), .unset, .unset, .val (.int ((2 : Int32)))] [(.int y3), (.int y2), (.int y1), (.int y0), (.int ((2 : Int32)))])) rfl (by rw [hml]; rfl) (argsL := [(.int ((2 : Int32))), (.int y0), (.int y1), (.int y2), (.int y3)]) (rest := []) (lenOf pdx18 rfl) rfl (by show 2 * 0 + _ ≤ _; exact Nat.le_of_eq rfl) (hb hby at_885) (fun _ _ => ⟨rfl, E7, (Nat.le_of_ble_eq_true rfl), (Nat.le_of_ble_eq_true rfl)⟩)
    dsimp only [Pt.U, Pt.locs, Pt.cells, Pt.slots] at X50 l50 y50 z50 st50 hQ50
    subst l50 y50 z50
    obtain ⟨x50, rfl, S50, E50, N50⟩ := hQ50
    refine own_on (st50) ?_
    show own_Go p e below F (T50.setTop (mkF m 888 #[.val (.int mo), .val (.int a), .val (.int b), .val (.int c1), .val (.int d), .val (.int y0), .val (.int y1), .val (.int y2), .val (.int y3), .val (.int ((2 : Int32))), .unset, .unset, .val (.int ((2 : Int32)))] [(.ref x50)]))
    have f51 := own_ext_trans M0 E50
    have J52 := I0.ext E50
    have N53 := Fr.app N8 N50
    refine own_astore X50.here hx (hb hby at_888) rfl (L' := #[.val (.int mo), .val (.int a), .val (.int b), .val (.int c1), .val (.int d), .val (.int y0), .val (.int y1), .val (.int y2), .val (.int y3), .val (.int ((2 : Int32))), .val (.ref x50), .unset, .val (.int ((2 : Int32)))]) rfl (pc' := 890) rfl ?_
    refine own_iload X50.here hx (hb hby at_890) rfl (pc' := 892) rfl ?_
    refine own_iconst X50.here hx (hb hby at_892) (v := 1) rfl (pc' := 893) rfl ?_
    refine own_icmplt X50.here hx (hb hby at_893) (by decide) (pc' := 958) (by decide) (pc2 := 896) rfl (fun q => absurd q (by decide)) (fun q54 => ?_)
    refine own_iload X50.here hx (hb hby at_896) rfl (pc' := 898) rfl ?_
    obtain ⟨_, _, ⟨T55, L55, k55, n55⟩, -, X55, ⟨Lc55, hQ55, l55, y55, z55⟩, st55⟩ := Jvm.LawKit.callS X50 hx (y := (⟨"com/example/cladistic/cladistic/NamesIsPlainIdentifierPinLaw", "allowed", "(C)Z"⟩ : MethodName)) J52.2.1 (mvT J52.1 (hw _ (List.mem_of_getElem? (i := 50) rfl))) (mvT J52.1 (hw _ (List.mem_of_getElem? (i := 51) rfl))) (mvT J52.1 (hw _ (List.mem_of_getElem? (i := 2) rfl))) (mvT J52.1 (hw _ (List.mem_of_getElem? (i := 52) rfl))) (by decide) (backOf (W := 0) (rmAl l Z a0 hw y0 T50.heap) J52.1 (hw _ (List.mem_of_getElem? (i := 52) rfl)) (hw _ (List.mem_of_getElem? (i := 2) rfl)) (by decide) (by decide)) (g := (mkF m 898 #[.val (.int mo), .val (.int a), .val (.int b), .val (.int c1), .val (.int d), .val (.int y0), .val (.int y1), .val (.int y2), .val (.int y3), .val (.int ((2 : Int32))), .val (.ref x50), .unset, .val (.int ((2 : Int32)))] [(.int y0)])) rfl (by rw [hml]; rfl) (argsL := [(.int y0)]) (rest := []) (lenOf pdx15 rfl) rfl (by show 2 * 0 + _ ≤ _; exact Nat.le_of_eq rfl) (hb hby at_898) (fun _ _ => ⟨rfl, rfl, (Nat.le_of_ble_eq_true rfl), (Nat.le_of_ble_eq_true rfl)⟩)
    dsimp only [Pt.U, Pt.locs, Pt.cells, Pt.slots] at X55 l55 y55 z55 st55 hQ55
    subst l55 y55 z55
    obtain ⟨rfl, N55, E55⟩ := hQ55
    refine own_on (st55) ?_
    show own_Go p e below F (T55.setTop (mkF m 901 #[.val (.int mo), .val (.int a), .val (.int b), .val (.int c1), .val (.int d), .val (.int y0), .val (.int y1), .val (.int y2), .val (.int y3), .val (.int ((2 : Int32))), .val (.ref x50), .unset, .val (.int ((2 : Int32)))] [(.int ((if own_ok y0 = true then (1 : Int32) else 0)))]))
    have N56 := Fr.app N53 N55
    by_cases ho0 : own_ok y0 = true
    · rw [if_pos ho0]
      show own_Go p e below F (T55.setTop (mkF m 901 #[.val (.int mo), .val (.int a), .val (.int b), .val (.int c1), .val (.int d), .val (.int y0), .val (.int y1), .val (.int y2), .val (.int y3), .val (.int ((2 : Int32))), .val (.ref x50), .unset, .val (.int ((2 : Int32)))] [(.int ((1 : Int32)))]))
      refine own_ifeq X55.here hx (hb hby at_901) (by decide) (pc' := 958) (by decide) (pc2 := 904) rfl (fun q => absurd q (by decide)) (fun q57 => ?_)
      refine own_iload X55.here hx (hb hby at_904) rfl (pc' := 906) rfl ?_
      obtain ⟨_, _, ⟨T58, L58, k58, n58⟩, -, X58, ⟨Lc58, hQ58, l58, y58, z58⟩, st58⟩ := Jvm.LawKit.callS X55 hx (y := (⟨"com/example/cladistic/cladistic/NamesIsPlainIdentifierPinLaw", "digit", "(C)Z"⟩ : MethodName)) J52.2.1 (mvT J52.1 (hw _ (List.mem_of_getElem? (i := 53) rfl))) (mvT J52.1 (hw _ (List.mem_of_getElem? (i := 54) rfl))) (mvT J52.1 (hw _ (List.mem_of_getElem? (i := 2) rfl))) (mvT J52.1 (hw _ (List.mem_of_getElem? (i := 55) rfl))) (by decide) (backOf (W := 0) (rmDa l Z a0 hw y0 T50.heap) J52.1 (hw _ (List.mem_of_getElem? (i := 55) rfl)) (hw _ (List.mem_of_getElem? (i := 2) rfl)) (by decide) (by decide)) (g := (mkF m 906 #[.val (.int mo), .val (.int a), .val (.int b), .val (.int c1), .val (.int d), .val (.int y0), .val (.int y1), .val (.int y2), .val (.int y3), .val (.int ((2 : Int32))), .val (.ref x50), .unset, .val (.int ((2 : Int32)))] [(.int y0)])) rfl (by rw [hml]; rfl) (argsL := [(.int y0)]) (rest := []) (lenOf pdx15 rfl) rfl (by show 2 * 0 + _ ≤ _; exact Nat.le_of_eq rfl) (hb hby at_906) (fun _ _ => ⟨rfl, E55, (Nat.le_of_ble_eq_true rfl), (Nat.le_of_ble_eq_true rfl)⟩)
      dsimp only [Pt.U, Pt.locs, Pt.cells, Pt.slots] at X58 l58 y58 z58 st58 hQ58
      subst l58 y58 z58
      obtain ⟨rfl, N58, E58⟩ := hQ58
      refine own_on (st58) ?_
      show own_Go p e below F (T58.setTop (mkF m 909 #[.val (.int mo), .val (.int a), .val (.int b), .val (.int c1), .val (.int d), .val (.int y0), .val (.int y1), .val (.int y2), .val (.int y3), .val (.int ((2 : Int32))), .val (.ref x50), .unset, .val (.int ((2 : Int32)))] [(.int ((if own_dg y0 = true then (1 : Int32) else 0)))]))
      have N59 := Fr.app N56 N58
      by_cases hd0 : own_dg y0 = true
      · rw [if_pos hd0]
        show own_Go p e below F (T58.setTop (mkF m 909 #[.val (.int mo), .val (.int a), .val (.int b), .val (.int c1), .val (.int d), .val (.int y0), .val (.int y1), .val (.int y2), .val (.int y3), .val (.int ((2 : Int32))), .val (.ref x50), .unset, .val (.int ((2 : Int32)))] [(.int ((1 : Int32)))]))
        refine own_ifne X58.here hx (hb hby at_909) (by decide) (pc' := 958) (by decide) (pc2 := 912) rfl (fun q60 => ?_) (fun q => absurd q (by decide))
        refine own_iconst X58.here hx (hb hby at_958) (v := 0) rfl (pc' := 959) rfl ?_
        refine own_istore X58.here hx (hb hby at_959) (L' := #[.val (.int mo), .val (.int a), .val (.int b), .val (.int c1), .val (.int d), .val (.int y0), .val (.int y1), .val (.int y2), .val (.int y3), .val (.int ((2 : Int32))), .val (.ref x50), .val (.int ((0 : Int32))), .val (.int ((2 : Int32)))]) rfl (pc' := 961) rfl ?_
        refine own_aload X58.here hx (hb hby at_961) rfl rfl (pc' := 963) rfl ?_
        obtain ⟨_, _, ⟨T61, L61, k61, n61⟩, -, X61, ⟨Lc61, hQ61, l61, y61, z61⟩, st61⟩ := Jvm.LawKit.callS X58 hx (y := (⟨"com/example/cladistic/cladistic/Names", "isPlainIdentifier", "(Ljava/lang/String;)Z"⟩ : MethodName)) J52.2.1 (mvT J52.1 (hw _ (List.mem_of_getElem? (i := 30) rfl))) (mvT J52.1 (hw _ (List.mem_of_getElem? (i := 31) rfl))) (mvT J52.1 (hw _ (List.mem_of_getElem? (i := 32) rfl))) (mvT J52.1 (hw _ (List.mem_of_getElem? (i := 33) rfl))) (by decide) (backOf (W := 0) (rmPI l Z a0 hw x50 [y0, y1] T50.heap (own_ext_trans EZ f51) z0 O1 P5 fm O2 rf O3 O4 O5 S50) J52.1 (hw _ (List.mem_of_getElem? (i := 33) rfl)) (hw _ (List.mem_of_getElem? (i := 32) rfl)) (by decide) (by decide)) (g := (mkF m 963 #[.val (.int mo), .val (.int a), .val (.int b), .val (.int c1), .val (.int d), .val (.int y0), .val (.int y1), .val (.int y2), .val (.int y3), .val (.int ((2 : Int32))), .val (.ref x50), .val (.int ((0 : Int32))), .val (.int ((2 : Int32)))] [(.ref x50)])) rfl (by rw [hml]; rfl) (argsL := [(.ref x50)]) (rest := []) (lenOf pdx16 rfl) rfl (by show 2 * 0 + _ ≤ _; exact Nat.le_of_eq rfl) (hb hby at_963) (fun _ _ => ⟨rfl, E58, (Nat.le_of_ble_eq_true rfl), (Nat.le_of_ble_eq_true rfl)⟩)
        dsimp only [Pt.U, Pt.locs, Pt.cells, Pt.slots] at X61 l61 y61 z61 st61 hQ61
        subst l61 y61 z61
        obtain ⟨rfl, N61, E61⟩ := hQ61
        refine own_on (st61) ?_
        show own_Go p e below F (T61.setTop (mkF m 966 #[.val (.int mo), .val (.int a), .val (.int b), .val (.int c1), .val (.int d), .val (.int y0), .val (.int y1), .val (.int y2), .val (.int y3), .val (.int ((2 : Int32))), .val (.ref x50), .val (.int ((0 : Int32))), .val (.int ((2 : Int32)))] [(.int (own_pi [y0, y1]))]))
        have N62 := Fr.app N59 N61
        refine own_iload X61.here hx (hb hby at_966) rfl (pc' := 968) rfl ?_
        refine own_icmpne X61.here hx (hb hby at_968) (by decide) (pc' := 975) (by decide) (pc2 := 971) rfl (fun q => absurd (show own_pi [y0, y1] = (0 : Int32) by simp [own_pi, hd0]) q) (fun q63 => ?_)
        refine own_iconst X61.here hx (hb hby at_971) (v := 1) rfl (pc' := 972) rfl ?_
        refine own_goto X61.here hx (hb hby at_972) (by decide) (pc' := 976) (by decide) ?_
        exact own_retZW X61 hx hlk hEL J52 E61 (by decide) hret (hb hby at_976) (fun t ht hC hE => hF t _ _ _ _ (by rw [ht]; exact ⟨rfl, (by simpa using N62)⟩) hC hE (by decide) (by decide))
      · rw [if_neg hd0]
        show own_Go p e below F (T58.setTop (mkF m 909 #[.val (.int mo), .val (.int a), .val (.int b), .val (.int c1), .val (.int d), .val (.int y0), .val (.int y1), .val (.int y2), .val (.int y3), .val (.int ((2 : Int32))), .val (.ref x50), .unset, .val (.int ((2 : Int32)))] [(.int ((0 : Int32)))]))
        refine own_ifne X58.here hx (hb hby at_909) (by decide) (pc' := 958) (by decide) (pc2 := 912) rfl (fun q => absurd rfl q) (fun q64 => ?_)
        refine own_iload X58.here hx (hb hby at_912) rfl (pc' := 914) rfl ?_
        refine own_iconst X58.here hx (hb hby at_914) (v := 2) rfl (pc' := 915) rfl ?_
        refine own_icmplt X58.here hx (hb hby at_915) (by decide) (pc' := 926) (by decide) (pc2 := 918) rfl (fun q => absurd q (by decide)) (fun q65 => ?_)
        refine own_iload X58.here hx (hb hby at_918) rfl (pc' := 920) rfl ?_
        obtain ⟨_, _, ⟨T66, L66, k66, n66⟩, -, X66, ⟨Lc66, hQ66, l66, y66, z66⟩, st66⟩ := Jvm.LawKit.callS X58 hx (y := (⟨"com/example/cladistic/cladistic/NamesIsPlainIdentifierPinLaw", "allowed", "(C)Z"⟩ : MethodName)) J52.2.1 (mvT J52.1 (hw _ (List.mem_of_getElem? (i := 50) rfl))) (mvT J52.1 (hw _ (List.mem_of_getElem? (i := 51) rfl))) (mvT J52.1 (hw _ (List.mem_of_getElem? (i := 2) rfl))) (mvT J52.1 (hw _ (List.mem_of_getElem? (i := 52) rfl))) (by decide) (backOf (W := 0) (rmAl l Z a0 hw y1 T50.heap) J52.1 (hw _ (List.mem_of_getElem? (i := 52) rfl)) (hw _ (List.mem_of_getElem? (i := 2) rfl)) (by decide) (by decide)) (g := (mkF m 920 #[.val (.int mo), .val (.int a), .val (.int b), .val (.int c1), .val (.int d), .val (.int y0), .val (.int y1), .val (.int y2), .val (.int y3), .val (.int ((2 : Int32))), .val (.ref x50), .unset, .val (.int ((2 : Int32)))] [(.int y1)])) rfl (by rw [hml]; rfl) (argsL := [(.int y1)]) (rest := []) (lenOf pdx15 rfl) rfl (by show 2 * 0 + _ ≤ _; exact Nat.le_of_eq rfl) (hb hby at_920) (fun _ _ => ⟨rfl, E58, (Nat.le_of_ble_eq_true rfl), (Nat.le_of_ble_eq_true rfl)⟩)
        dsimp only [Pt.U, Pt.locs, Pt.cells, Pt.slots] at X66 l66 y66 z66 st66 hQ66
        subst l66 y66 z66
        obtain ⟨rfl, N66, E66⟩ := hQ66
        refine own_on (st66) ?_
        show own_Go p e below F (T66.setTop (mkF m 923 #[.val (.int mo), .val (.int a), .val (.int b), .val (.int c1), .val (.int d), .val (.int y0), .val (.int y1), .val (.int y2), .val (.int y3), .val (.int ((2 : Int32))), .val (.ref x50), .unset, .val (.int ((2 : Int32)))] [(.int ((if own_ok y1 = true then (1 : Int32) else 0)))]))
        have N67 := Fr.app N59 N66
        by_cases ho1 : own_ok y1 = true
        · rw [if_pos ho1]
          show own_Go p e below F (T66.setTop (mkF m 923 #[.val (.int mo), .val (.int a), .val (.int b), .val (.int c1), .val (.int d), .val (.int y0), .val (.int y1), .val (.int y2), .val (.int y3), .val (.int ((2 : Int32))), .val (.ref x50), .unset, .val (.int ((2 : Int32)))] [(.int ((1 : Int32)))]))
          refine own_ifeq X66.here hx (hb hby at_923) (by decide) (pc' := 958) (by decide) (pc2 := 926) rfl (fun q => absurd q (by decide)) (fun q68 => ?_)
          refine own_iload X66.here hx (hb hby at_926) rfl (pc' := 928) rfl ?_
          refine own_iconst X66.here hx (hb hby at_928) (v := 3) rfl (pc' := 929) rfl ?_
          refine own_icmplt X66.here hx (hb hby at_929) (by decide) (pc' := 940) (by decide) (pc2 := 932) rfl (fun q69 => ?_) (fun q => absurd (by decide) q)
          refine own_iload X66.here hx (hb hby at_940) rfl (pc' := 942) rfl ?_
          refine own_iconst X66.here hx (hb hby at_942) (v := 4) rfl (pc' := 943) rfl ?_
          refine own_icmplt X66.here hx (hb hby at_943) (by decide) (pc' := 954) (by decide) (pc2 := 946) rfl (fun q70 => ?_) (fun q => absurd (by decide) q)
          refine own_iconst X66.here hx (hb hby at_954) (v := 1) rfl (pc' := 955) rfl ?_
          refine own_goto X66.here hx (hb hby at_955) (by decide) (pc' := 959) (by decide) ?_
          refine own_istore X66.here hx (hb hby at_959) (L' := #[.val (.int mo), .val (.int a), .val (.int b), .val (.int c1), .val (.int d), .val (.int y0), .val (.int y1), .val (.int y2), .val (.int y3), .val (.int ((2 : Int32))), .val (.ref x50), .val (.int ((1 : Int32))), .val (.int ((2 : Int32)))]) rfl (pc' := 961) rfl ?_
          refine own_aload X66.here hx (hb hby at_961) rfl rfl (pc' := 963) rfl ?_
          obtain ⟨_, _, ⟨T71, L71, k71, n71⟩, -, X71, ⟨Lc71, hQ71, l71, y71, z71⟩, st71⟩ := Jvm.LawKit.callS X66 hx (y := (⟨"com/example/cladistic/cladistic/Names", "isPlainIdentifier", "(Ljava/lang/String;)Z"⟩ : MethodName)) J52.2.1 (mvT J52.1 (hw _ (List.mem_of_getElem? (i := 30) rfl))) (mvT J52.1 (hw _ (List.mem_of_getElem? (i := 31) rfl))) (mvT J52.1 (hw _ (List.mem_of_getElem? (i := 32) rfl))) (mvT J52.1 (hw _ (List.mem_of_getElem? (i := 33) rfl))) (by decide) (backOf (W := 0) (rmPI l Z a0 hw x50 [y0, y1] T50.heap (own_ext_trans EZ f51) z0 O1 P5 fm O2 rf O3 O4 O5 S50) J52.1 (hw _ (List.mem_of_getElem? (i := 33) rfl)) (hw _ (List.mem_of_getElem? (i := 32) rfl)) (by decide) (by decide)) (g := (mkF m 963 #[.val (.int mo), .val (.int a), .val (.int b), .val (.int c1), .val (.int d), .val (.int y0), .val (.int y1), .val (.int y2), .val (.int y3), .val (.int ((2 : Int32))), .val (.ref x50), .val (.int ((1 : Int32))), .val (.int ((2 : Int32)))] [(.ref x50)])) rfl (by rw [hml]; rfl) (argsL := [(.ref x50)]) (rest := []) (lenOf pdx16 rfl) rfl (by show 2 * 0 + _ ≤ _; exact Nat.le_of_eq rfl) (hb hby at_963) (fun _ _ => ⟨rfl, E66, (Nat.le_of_ble_eq_true rfl), (Nat.le_of_ble_eq_true rfl)⟩)
          dsimp only [Pt.U, Pt.locs, Pt.cells, Pt.slots] at X71 l71 y71 z71 st71 hQ71
          subst l71 y71 z71
          obtain ⟨rfl, N71, E71⟩ := hQ71
          refine own_on (st71) ?_
          show own_Go p e below F (T71.setTop (mkF m 966 #[.val (.int mo), .val (.int a), .val (.int b), .val (.int c1), .val (.int d), .val (.int y0), .val (.int y1), .val (.int y2), .val (.int y3), .val (.int ((2 : Int32))), .val (.ref x50), .val (.int ((1 : Int32))), .val (.int ((2 : Int32)))] [(.int (own_pi [y0, y1]))]))
          have N72 := Fr.app N67 N71
          refine own_iload X71.here hx (hb hby at_966) rfl (pc' := 968) rfl ?_
          refine own_icmpne X71.here hx (hb hby at_968) (by decide) (pc' := 975) (by decide) (pc2 := 971) rfl (fun q => absurd (show own_pi [y0, y1] = (1 : Int32) by simp [own_pi, ho0, hd0, ho1]) q) (fun q73 => ?_)
          refine own_iconst X71.here hx (hb hby at_971) (v := 1) rfl (pc' := 972) rfl ?_
          refine own_goto X71.here hx (hb hby at_972) (by decide) (pc' := 976) (by decide) ?_
          exact own_retZW X71 hx hlk hEL J52 E71 (by decide) hret (hb hby at_976) (fun t ht hC hE => hF t _ _ _ _ (by rw [ht]; exact ⟨rfl, (by simpa using N72)⟩) hC hE (by decide) (by decide))
        · rw [if_neg ho1]
          show own_Go p e below F (T66.setTop (mkF m 923 #[.val (.int mo), .val (.int a), .val (.int b), .val (.int c1), .val (.int d), .val (.int y0), .val (.int y1), .val (.int y2), .val (.int y3), .val (.int ((2 : Int32))), .val (.ref x50), .unset, .val (.int ((2 : Int32)))] [(.int ((0 : Int32)))]))
          refine own_ifeq X66.here hx (hb hby at_923) (by decide) (pc' := 958) (by decide) (pc2 := 926) rfl (fun q74 => ?_) (fun q => absurd rfl q)
          refine own_iconst X66.here hx (hb hby at_958) (v := 0) rfl (pc' := 959) rfl ?_
          refine own_istore X66.here hx (hb hby at_959) (L' := #[.val (.int mo), .val (.int a), .val (.int b), .val (.int c1), .val (.int d), .val (.int y0), .val (.int y1), .val (.int y2), .val (.int y3), .val (.int ((2 : Int32))), .val (.ref x50), .val (.int ((0 : Int32))), .val (.int ((2 : Int32)))]) rfl (pc' := 961) rfl ?_
          refine own_aload X66.here hx (hb hby at_961) rfl rfl (pc' := 963) rfl ?_
          obtain ⟨_, _, ⟨T75, L75, k75, n75⟩, -, X75, ⟨Lc75, hQ75, l75, y75, z75⟩, st75⟩ := Jvm.LawKit.callS X66 hx (y := (⟨"com/example/cladistic/cladistic/Names", "isPlainIdentifier", "(Ljava/lang/String;)Z"⟩ : MethodName)) J52.2.1 (mvT J52.1 (hw _ (List.mem_of_getElem? (i := 30) rfl))) (mvT J52.1 (hw _ (List.mem_of_getElem? (i := 31) rfl))) (mvT J52.1 (hw _ (List.mem_of_getElem? (i := 32) rfl))) (mvT J52.1 (hw _ (List.mem_of_getElem? (i := 33) rfl))) (by decide) (backOf (W := 0) (rmPI l Z a0 hw x50 [y0, y1] T50.heap (own_ext_trans EZ f51) z0 O1 P5 fm O2 rf O3 O4 O5 S50) J52.1 (hw _ (List.mem_of_getElem? (i := 33) rfl)) (hw _ (List.mem_of_getElem? (i := 32) rfl)) (by decide) (by decide)) (g := (mkF m 963 #[.val (.int mo), .val (.int a), .val (.int b), .val (.int c1), .val (.int d), .val (.int y0), .val (.int y1), .val (.int y2), .val (.int y3), .val (.int ((2 : Int32))), .val (.ref x50), .val (.int ((0 : Int32))), .val (.int ((2 : Int32)))] [(.ref x50)])) rfl (by rw [hml]; rfl) (argsL := [(.ref x50)]) (rest := []) (lenOf pdx16 rfl) rfl (by show 2 * 0 + _ ≤ _; exact Nat.le_of_eq rfl) (hb hby at_963) (fun _ _ => ⟨rfl, E66, (Nat.le_of_ble_eq_true rfl), (Nat.le_of_ble_eq_true rfl)⟩)
          dsimp only [Pt.U, Pt.locs, Pt.cells, Pt.slots] at X75 l75 y75 z75 st75 hQ75
          subst l75 y75 z75
          obtain ⟨rfl, N75, E75⟩ := hQ75
          refine own_on (st75) ?_
          show own_Go p e below F (T75.setTop (mkF m 966 #[.val (.int mo), .val (.int a), .val (.int b), .val (.int c1), .val (.int d), .val (.int y0), .val (.int y1), .val (.int y2), .val (.int y3), .val (.int ((2 : Int32))), .val (.ref x50), .val (.int ((0 : Int32))), .val (.int ((2 : Int32)))] [(.int (own_pi [y0, y1]))]))
          have N76 := Fr.app N67 N75
          refine own_iload X75.here hx (hb hby at_966) rfl (pc' := 968) rfl ?_
          refine own_icmpne X75.here hx (hb hby at_968) (by decide) (pc' := 975) (by decide) (pc2 := 971) rfl (fun q => absurd (show own_pi [y0, y1] = (0 : Int32) by simp [own_pi, ho1]) q) (fun q77 => ?_)
          refine own_iconst X75.here hx (hb hby at_971) (v := 1) rfl (pc' := 972) rfl ?_
          refine own_goto X75.here hx (hb hby at_972) (by decide) (pc' := 976) (by decide) ?_
          exact own_retZW X75 hx hlk hEL J52 E75 (by decide) hret (hb hby at_976) (fun t ht hC hE => hF t _ _ _ _ (by rw [ht]; exact ⟨rfl, (by simpa using N76)⟩) hC hE (by decide) (by decide))
    · rw [if_neg ho0]
      show own_Go p e below F (T55.setTop (mkF m 901 #[.val (.int mo), .val (.int a), .val (.int b), .val (.int c1), .val (.int d), .val (.int y0), .val (.int y1), .val (.int y2), .val (.int y3), .val (.int ((2 : Int32))), .val (.ref x50), .unset, .val (.int ((2 : Int32)))] [(.int ((0 : Int32)))]))
      refine own_ifeq X55.here hx (hb hby at_901) (by decide) (pc' := 958) (by decide) (pc2 := 904) rfl (fun q78 => ?_) (fun q => absurd rfl q)
      refine own_iconst X55.here hx (hb hby at_958) (v := 0) rfl (pc' := 959) rfl ?_
      refine own_istore X55.here hx (hb hby at_959) (L' := #[.val (.int mo), .val (.int a), .val (.int b), .val (.int c1), .val (.int d), .val (.int y0), .val (.int y1), .val (.int y2), .val (.int y3), .val (.int ((2 : Int32))), .val (.ref x50), .val (.int ((0 : Int32))), .val (.int ((2 : Int32)))]) rfl (pc' := 961) rfl ?_
      refine own_aload X55.here hx (hb hby at_961) rfl rfl (pc' := 963) rfl ?_
      obtain ⟨_, _, ⟨T79, L79, k79, n79⟩, -, X79, ⟨Lc79, hQ79, l79, y79, z79⟩, st79⟩ := Jvm.LawKit.callS X55 hx (y := (⟨"com/example/cladistic/cladistic/Names", "isPlainIdentifier", "(Ljava/lang/String;)Z"⟩ : MethodName)) J52.2.1 (mvT J52.1 (hw _ (List.mem_of_getElem? (i := 30) rfl))) (mvT J52.1 (hw _ (List.mem_of_getElem? (i := 31) rfl))) (mvT J52.1 (hw _ (List.mem_of_getElem? (i := 32) rfl))) (mvT J52.1 (hw _ (List.mem_of_getElem? (i := 33) rfl))) (by decide) (backOf (W := 0) (rmPI l Z a0 hw x50 [y0, y1] T50.heap (own_ext_trans EZ f51) z0 O1 P5 fm O2 rf O3 O4 O5 S50) J52.1 (hw _ (List.mem_of_getElem? (i := 33) rfl)) (hw _ (List.mem_of_getElem? (i := 32) rfl)) (by decide) (by decide)) (g := (mkF m 963 #[.val (.int mo), .val (.int a), .val (.int b), .val (.int c1), .val (.int d), .val (.int y0), .val (.int y1), .val (.int y2), .val (.int y3), .val (.int ((2 : Int32))), .val (.ref x50), .val (.int ((0 : Int32))), .val (.int ((2 : Int32)))] [(.ref x50)])) rfl (by rw [hml]; rfl) (argsL := [(.ref x50)]) (rest := []) (lenOf pdx16 rfl) rfl (by show 2 * 0 + _ ≤ _; exact Nat.le_of_eq rfl) (hb hby at_963) (fun _ _ => ⟨rfl, E55, (Nat.le_of_ble_eq_true rfl), (Nat.le_of_ble_eq_true rfl)⟩)
      dsimp only [Pt.U, Pt.locs, Pt.cells, Pt.slots] at X79 l79 y79 z79 st79 hQ79
      subst l79 y79 z79
      obtain ⟨rfl, N79, E79⟩ := hQ79
      refine own_on (st79) ?_
      show own_Go p e below F (T79.setTop (mkF m 966 #[.val (.int mo), .val (.int a), .val (.int b), .val (.int c1), .val (.int d), .val (.int y0), .val (.int y1), .val (.int y2), .val (.int y3), .val (.int ((2 : Int32))), .val (.ref x50), .val (.int ((0 : Int32))), .val (.int ((2 : Int32)))] [(.int (own_pi [y0, y1]))]))
      have N80 := Fr.app N56 N79
      refine own_iload X79.here hx (hb hby at_966) rfl (pc' := 968) rfl ?_
      refine own_icmpne X79.here hx (hb hby at_968) (by decide) (pc' := 975) (by decide) (pc2 := 971) rfl (fun q => absurd (show own_pi [y0, y1] = (0 : Int32) by simp [own_pi, ho0]) q) (fun q81 => ?_)
      refine own_iconst X79.here hx (hb hby at_971) (v := 1) rfl (pc' := 972) rfl ?_
      refine own_goto X79.here hx (hb hby at_972) (by decide) (pc' := 976) (by decide) ?_
      exact own_retZW X79 hx hlk hEL J52 E79 (by decide) hret (hb hby at_976) (fun t ht hC hE => hF t _ _ _ _ (by rw [ht]; exact ⟨rfl, (by simpa using N80)⟩) hC hE (by decide) (by decide))
  · show own_Go p e below F (T7.setTop (mkF m 31 #[.val (.int mo), .val (.int a), .val (.int b), .val (.int c1), .val (.int d), .val (.int y0), .val (.int y1), .val (.int y2), .val (.int y3), .val (.int ((3 : Int32))), .unset, .unset, .unset] []))
    refine own_iload X7.here hx (hb hby at_31) rfl (pc' := 33) rfl ?_
    refine own_iconst X7.here hx (hb hby at_33) (v := 5) rfl (pc' := 34) rfl ?_
    refine own_icmpne X7.here hx (hb hby at_34) (by decide) (pc' := 456) (by decide) (pc2 := 37) rfl (fun q82 => ?_) (fun q => absurd q (by decide))
    refine own_iload X7.here hx (hb hby at_456) rfl (pc' := 458) rfl ?_
    refine own_bipush X7.here hx (hb hby at_458) (v := 6) rfl (pc' := 460) rfl ?_
    refine own_icmpne X7.here hx (hb hby at_460) (by decide) (pc' := 860) (by decide) (pc2 := 463) rfl (fun q83 => ?_) (fun q => absurd q (by decide))
    refine own_iload X7.here hx (hb hby at_860) rfl (pc' := 862) rfl ?_
    refine own_bipush X7.here hx (hb hby at_862) (v := 7) rfl (pc' := 864) rfl ?_
    refine own_icmpne X7.here hx (hb hby at_864) (by decide) (pc' := 871) (by decide) (pc2 := 867) rfl (fun q84 => ?_) (fun q => absurd q (by decide))
    refine own_iload X7.here hx (hb hby at_871) rfl (pc' := 873) rfl ?_
    refine own_istore X7.here hx (hb hby at_873) (L' := #[.val (.int mo), .val (.int a), .val (.int b), .val (.int c1), .val (.int d), .val (.int y0), .val (.int y1), .val (.int y2), .val (.int y3), .val (.int ((3 : Int32))), .unset, .unset, .val (.int ((3 : Int32)))]) rfl (pc' := 875) rfl ?_
    refine own_iload X7.here hx (hb hby at_875) rfl (pc' := 877) rfl ?_
    refine own_iload X7.here hx (hb hby at_877) rfl (pc' := 879) rfl ?_
    refine own_iload X7.here hx (hb hby at_879) rfl (pc' := 881) rfl ?_
    refine own_iload X7.here hx (hb hby at_881) rfl (pc' := 883) rfl ?_
    refine own_iload X7.here hx (hb hby at_883) rfl (pc' := 885) rfl ?_
    obtain ⟨_, _, ⟨T85, L85, k85, n85⟩, -, X85, ⟨Lc85, hQ85, l85, y85, z85⟩, st85⟩ := Jvm.LawKit.callS X7 hx (y := (⟨"com/example/cladistic/cladistic/NamesIsPlainIdentifierPinLaw", "shortString", "(ICCCC)Ljava/lang/String;"⟩ : MethodName)) I0.2.1 (mvT I0.1 (hw _ (List.mem_of_getElem? (i := 5) rfl))) (mvT I0.1 (hw _ (List.mem_of_getElem? (i := 6) rfl))) (mvT I0.1 (hw _ (List.mem_of_getElem? (i := 2) rfl))) (mvT I0.1 (hw _ (List.mem_of_getElem? (i := 7) rfl))) (by decide) (backOf (W := 0) (rmS3 l Z a0 hw y0 y1 y2 y3 h0 (own_ext_trans EZ M0) z0 O1 P5 O3 O4 O5 ny0 py0 ny1 py1 ny2 py2 ny3 py3) I0.1 (hw _ (List.mem_of_getElem? (i := 7) rfl)) (hw _ (List.mem_of_getElem? (i := 2) rfl)) (by decide) (by decide)) (g := (mkF m 885 #[.val (.int mo), .val (.int a), .val (.int b), .val (.int c1), .val (.int d), .val (.int y0), .val (.int y1), .val (.int y2), .val (.int y3), .val (.int ((3 : Int32))), .unset, .unset, .val (.int ((3 : Int32)))] [(.int y3), (.int y2), (.int y1), (.int y0), (.int ((3 : Int32)))])) rfl (by rw [hml]; rfl) (argsL := [(.int ((3 : Int32))), (.int y0), (.int y1), (.int y2), (.int y3)]) (rest := []) (lenOf pdx18 rfl) rfl (by show 2 * 0 + _ ≤ _; exact Nat.le_of_eq rfl) (hb hby at_885) (fun _ _ => ⟨rfl, E7, (Nat.le_of_ble_eq_true rfl), (Nat.le_of_ble_eq_true rfl)⟩)
    dsimp only [Pt.U, Pt.locs, Pt.cells, Pt.slots] at X85 l85 y85 z85 st85 hQ85
    subst l85 y85 z85
    obtain ⟨x85, rfl, S85, E85, N85⟩ := hQ85
    refine own_on (st85) ?_
    show own_Go p e below F (T85.setTop (mkF m 888 #[.val (.int mo), .val (.int a), .val (.int b), .val (.int c1), .val (.int d), .val (.int y0), .val (.int y1), .val (.int y2), .val (.int y3), .val (.int ((3 : Int32))), .unset, .unset, .val (.int ((3 : Int32)))] [(.ref x85)]))
    have f86 := own_ext_trans M0 E85
    have J87 := I0.ext E85
    have N88 := Fr.app N8 N85
    refine own_astore X85.here hx (hb hby at_888) rfl (L' := #[.val (.int mo), .val (.int a), .val (.int b), .val (.int c1), .val (.int d), .val (.int y0), .val (.int y1), .val (.int y2), .val (.int y3), .val (.int ((3 : Int32))), .val (.ref x85), .unset, .val (.int ((3 : Int32)))]) rfl (pc' := 890) rfl ?_
    refine own_iload X85.here hx (hb hby at_890) rfl (pc' := 892) rfl ?_
    refine own_iconst X85.here hx (hb hby at_892) (v := 1) rfl (pc' := 893) rfl ?_
    refine own_icmplt X85.here hx (hb hby at_893) (by decide) (pc' := 958) (by decide) (pc2 := 896) rfl (fun q => absurd q (by decide)) (fun q89 => ?_)
    refine own_iload X85.here hx (hb hby at_896) rfl (pc' := 898) rfl ?_
    obtain ⟨_, _, ⟨T90, L90, k90, n90⟩, -, X90, ⟨Lc90, hQ90, l90, y90, z90⟩, st90⟩ := Jvm.LawKit.callS X85 hx (y := (⟨"com/example/cladistic/cladistic/NamesIsPlainIdentifierPinLaw", "allowed", "(C)Z"⟩ : MethodName)) J87.2.1 (mvT J87.1 (hw _ (List.mem_of_getElem? (i := 50) rfl))) (mvT J87.1 (hw _ (List.mem_of_getElem? (i := 51) rfl))) (mvT J87.1 (hw _ (List.mem_of_getElem? (i := 2) rfl))) (mvT J87.1 (hw _ (List.mem_of_getElem? (i := 52) rfl))) (by decide) (backOf (W := 0) (rmAl l Z a0 hw y0 T85.heap) J87.1 (hw _ (List.mem_of_getElem? (i := 52) rfl)) (hw _ (List.mem_of_getElem? (i := 2) rfl)) (by decide) (by decide)) (g := (mkF m 898 #[.val (.int mo), .val (.int a), .val (.int b), .val (.int c1), .val (.int d), .val (.int y0), .val (.int y1), .val (.int y2), .val (.int y3), .val (.int ((3 : Int32))), .val (.ref x85), .unset, .val (.int ((3 : Int32)))] [(.int y0)])) rfl (by rw [hml]; rfl) (argsL := [(.int y0)]) (rest := []) (lenOf pdx15 rfl) rfl (by show 2 * 0 + _ ≤ _; exact Nat.le_of_eq rfl) (hb hby at_898) (fun _ _ => ⟨rfl, rfl, (Nat.le_of_ble_eq_true rfl), (Nat.le_of_ble_eq_true rfl)⟩)
    dsimp only [Pt.U, Pt.locs, Pt.cells, Pt.slots] at X90 l90 y90 z90 st90 hQ90
    subst l90 y90 z90
    obtain ⟨rfl, N90, E90⟩ := hQ90
    refine own_on (st90) ?_
    show own_Go p e below F (T90.setTop (mkF m 901 #[.val (.int mo), .val (.int a), .val (.int b), .val (.int c1), .val (.int d), .val (.int y0), .val (.int y1), .val (.int y2), .val (.int y3), .val (.int ((3 : Int32))), .val (.ref x85), .unset, .val (.int ((3 : Int32)))] [(.int ((if own_ok y0 = true then (1 : Int32) else 0)))]))
    have N91 := Fr.app N88 N90
    by_cases ho0 : own_ok y0 = true
    · rw [if_pos ho0]
      show own_Go p e below F (T90.setTop (mkF m 901 #[.val (.int mo), .val (.int a), .val (.int b), .val (.int c1), .val (.int d), .val (.int y0), .val (.int y1), .val (.int y2), .val (.int y3), .val (.int ((3 : Int32))), .val (.ref x85), .unset, .val (.int ((3 : Int32)))] [(.int ((1 : Int32)))]))
      refine own_ifeq X90.here hx (hb hby at_901) (by decide) (pc' := 958) (by decide) (pc2 := 904) rfl (fun q => absurd q (by decide)) (fun q92 => ?_)
      refine own_iload X90.here hx (hb hby at_904) rfl (pc' := 906) rfl ?_
      obtain ⟨_, _, ⟨T93, L93, k93, n93⟩, -, X93, ⟨Lc93, hQ93, l93, y93, z93⟩, st93⟩ := Jvm.LawKit.callS X90 hx (y := (⟨"com/example/cladistic/cladistic/NamesIsPlainIdentifierPinLaw", "digit", "(C)Z"⟩ : MethodName)) J87.2.1 (mvT J87.1 (hw _ (List.mem_of_getElem? (i := 53) rfl))) (mvT J87.1 (hw _ (List.mem_of_getElem? (i := 54) rfl))) (mvT J87.1 (hw _ (List.mem_of_getElem? (i := 2) rfl))) (mvT J87.1 (hw _ (List.mem_of_getElem? (i := 55) rfl))) (by decide) (backOf (W := 0) (rmDa l Z a0 hw y0 T85.heap) J87.1 (hw _ (List.mem_of_getElem? (i := 55) rfl)) (hw _ (List.mem_of_getElem? (i := 2) rfl)) (by decide) (by decide)) (g := (mkF m 906 #[.val (.int mo), .val (.int a), .val (.int b), .val (.int c1), .val (.int d), .val (.int y0), .val (.int y1), .val (.int y2), .val (.int y3), .val (.int ((3 : Int32))), .val (.ref x85), .unset, .val (.int ((3 : Int32)))] [(.int y0)])) rfl (by rw [hml]; rfl) (argsL := [(.int y0)]) (rest := []) (lenOf pdx15 rfl) rfl (by show 2 * 0 + _ ≤ _; exact Nat.le_of_eq rfl) (hb hby at_906) (fun _ _ => ⟨rfl, E90, (Nat.le_of_ble_eq_true rfl), (Nat.le_of_ble_eq_true rfl)⟩)
      dsimp only [Pt.U, Pt.locs, Pt.cells, Pt.slots] at X93 l93 y93 z93 st93 hQ93
      subst l93 y93 z93
      obtain ⟨rfl, N93, E93⟩ := hQ93
      refine own_on (st93) ?_
      show own_Go p e below F (T93.setTop (mkF m 909 #[.val (.int mo), .val (.int a), .val (.int b), .val (.int c1), .val (.int d), .val (.int y0), .val (.int y1), .val (.int y2), .val (.int y3), .val (.int ((3 : Int32))), .val (.ref x85), .unset, .val (.int ((3 : Int32)))] [(.int ((if own_dg y0 = true then (1 : Int32) else 0)))]))
      have N94 := Fr.app N91 N93
      by_cases hd0 : own_dg y0 = true
      · rw [if_pos hd0]
        show own_Go p e below F (T93.setTop (mkF m 909 #[.val (.int mo), .val (.int a), .val (.int b), .val (.int c1), .val (.int d), .val (.int y0), .val (.int y1), .val (.int y2), .val (.int y3), .val (.int ((3 : Int32))), .val (.ref x85), .unset, .val (.int ((3 : Int32)))] [(.int ((1 : Int32)))]))
        refine own_ifne X93.here hx (hb hby at_909) (by decide) (pc' := 958) (by decide) (pc2 := 912) rfl (fun q95 => ?_) (fun q => absurd q (by decide))
        refine own_iconst X93.here hx (hb hby at_958) (v := 0) rfl (pc' := 959) rfl ?_
        refine own_istore X93.here hx (hb hby at_959) (L' := #[.val (.int mo), .val (.int a), .val (.int b), .val (.int c1), .val (.int d), .val (.int y0), .val (.int y1), .val (.int y2), .val (.int y3), .val (.int ((3 : Int32))), .val (.ref x85), .val (.int ((0 : Int32))), .val (.int ((3 : Int32)))]) rfl (pc' := 961) rfl ?_
        refine own_aload X93.here hx (hb hby at_961) rfl rfl (pc' := 963) rfl ?_
        obtain ⟨_, _, ⟨T96, L96, k96, n96⟩, -, X96, ⟨Lc96, hQ96, l96, y96, z96⟩, st96⟩ := Jvm.LawKit.callS X93 hx (y := (⟨"com/example/cladistic/cladistic/Names", "isPlainIdentifier", "(Ljava/lang/String;)Z"⟩ : MethodName)) J87.2.1 (mvT J87.1 (hw _ (List.mem_of_getElem? (i := 30) rfl))) (mvT J87.1 (hw _ (List.mem_of_getElem? (i := 31) rfl))) (mvT J87.1 (hw _ (List.mem_of_getElem? (i := 32) rfl))) (mvT J87.1 (hw _ (List.mem_of_getElem? (i := 33) rfl))) (by decide) (backOf (W := 0) (rmPI l Z a0 hw x85 [y0, y1, y2] T85.heap (own_ext_trans EZ f86) z0 O1 P5 fm O2 rf O3 O4 O5 S85) J87.1 (hw _ (List.mem_of_getElem? (i := 33) rfl)) (hw _ (List.mem_of_getElem? (i := 32) rfl)) (by decide) (by decide)) (g := (mkF m 963 #[.val (.int mo), .val (.int a), .val (.int b), .val (.int c1), .val (.int d), .val (.int y0), .val (.int y1), .val (.int y2), .val (.int y3), .val (.int ((3 : Int32))), .val (.ref x85), .val (.int ((0 : Int32))), .val (.int ((3 : Int32)))] [(.ref x85)])) rfl (by rw [hml]; rfl) (argsL := [(.ref x85)]) (rest := []) (lenOf pdx16 rfl) rfl (by show 2 * 0 + _ ≤ _; exact Nat.le_of_eq rfl) (hb hby at_963) (fun _ _ => ⟨rfl, E93, (Nat.le_of_ble_eq_true rfl), (Nat.le_of_ble_eq_true rfl)⟩)
        dsimp only [Pt.U, Pt.locs, Pt.cells, Pt.slots] at X96 l96 y96 z96 st96 hQ96
        subst l96 y96 z96
        obtain ⟨rfl, N96, E96⟩ := hQ96
        refine own_on (st96) ?_
        show own_Go p e below F (T96.setTop (mkF m 966 #[.val (.int mo), .val (.int a), .val (.int b), .val (.int c1), .val (.int d), .val (.int y0), .val (.int y1), .val (.int y2), .val (.int y3), .val (.int ((3 : Int32))), .val (.ref x85), .val (.int ((0 : Int32))), .val (.int ((3 : Int32)))] [(.int (own_pi [y0, y1, y2]))]))
        have N97 := Fr.app N94 N96
        refine own_iload X96.here hx (hb hby at_966) rfl (pc' := 968) rfl ?_
        refine own_icmpne X96.here hx (hb hby at_968) (by decide) (pc' := 975) (by decide) (pc2 := 971) rfl (fun q => absurd (show own_pi [y0, y1, y2] = (0 : Int32) by simp [own_pi, hd0]) q) (fun q98 => ?_)
        refine own_iconst X96.here hx (hb hby at_971) (v := 1) rfl (pc' := 972) rfl ?_
        refine own_goto X96.here hx (hb hby at_972) (by decide) (pc' := 976) (by decide) ?_
        exact own_retZW X96 hx hlk hEL J87 E96 (by decide) hret (hb hby at_976) (fun t ht hC hE => hF t _ _ _ _ (by rw [ht]; exact ⟨rfl, (by simpa using N97)⟩) hC hE (by decide) (by decide))
      · rw [if_neg hd0]
        show own_Go p e below F (T93.setTop (mkF m 909 #[.val (.int mo), .val (.int a), .val (.int b), .val (.int c1), .val (.int d), .val (.int y0), .val (.int y1), .val (.int y2), .val (.int y3), .val (.int ((3 : Int32))), .val (.ref x85), .unset, .val (.int ((3 : Int32)))] [(.int ((0 : Int32)))]))
        refine own_ifne X93.here hx (hb hby at_909) (by decide) (pc' := 958) (by decide) (pc2 := 912) rfl (fun q => absurd rfl q) (fun q99 => ?_)
        refine own_iload X93.here hx (hb hby at_912) rfl (pc' := 914) rfl ?_
        refine own_iconst X93.here hx (hb hby at_914) (v := 2) rfl (pc' := 915) rfl ?_
        refine own_icmplt X93.here hx (hb hby at_915) (by decide) (pc' := 926) (by decide) (pc2 := 918) rfl (fun q => absurd q (by decide)) (fun q100 => ?_)
        refine own_iload X93.here hx (hb hby at_918) rfl (pc' := 920) rfl ?_
        obtain ⟨_, _, ⟨T101, L101, k101, n101⟩, -, X101, ⟨Lc101, hQ101, l101, y101, z101⟩, st101⟩ := Jvm.LawKit.callS X93 hx (y := (⟨"com/example/cladistic/cladistic/NamesIsPlainIdentifierPinLaw", "allowed", "(C)Z"⟩ : MethodName)) J87.2.1 (mvT J87.1 (hw _ (List.mem_of_getElem? (i := 50) rfl))) (mvT J87.1 (hw _ (List.mem_of_getElem? (i := 51) rfl))) (mvT J87.1 (hw _ (List.mem_of_getElem? (i := 2) rfl))) (mvT J87.1 (hw _ (List.mem_of_getElem? (i := 52) rfl))) (by decide) (backOf (W := 0) (rmAl l Z a0 hw y1 T85.heap) J87.1 (hw _ (List.mem_of_getElem? (i := 52) rfl)) (hw _ (List.mem_of_getElem? (i := 2) rfl)) (by decide) (by decide)) (g := (mkF m 920 #[.val (.int mo), .val (.int a), .val (.int b), .val (.int c1), .val (.int d), .val (.int y0), .val (.int y1), .val (.int y2), .val (.int y3), .val (.int ((3 : Int32))), .val (.ref x85), .unset, .val (.int ((3 : Int32)))] [(.int y1)])) rfl (by rw [hml]; rfl) (argsL := [(.int y1)]) (rest := []) (lenOf pdx15 rfl) rfl (by show 2 * 0 + _ ≤ _; exact Nat.le_of_eq rfl) (hb hby at_920) (fun _ _ => ⟨rfl, E93, (Nat.le_of_ble_eq_true rfl), (Nat.le_of_ble_eq_true rfl)⟩)
        dsimp only [Pt.U, Pt.locs, Pt.cells, Pt.slots] at X101 l101 y101 z101 st101 hQ101
        subst l101 y101 z101
        obtain ⟨rfl, N101, E101⟩ := hQ101
        refine own_on (st101) ?_
        show own_Go p e below F (T101.setTop (mkF m 923 #[.val (.int mo), .val (.int a), .val (.int b), .val (.int c1), .val (.int d), .val (.int y0), .val (.int y1), .val (.int y2), .val (.int y3), .val (.int ((3 : Int32))), .val (.ref x85), .unset, .val (.int ((3 : Int32)))] [(.int ((if own_ok y1 = true then (1 : Int32) else 0)))]))
        have N102 := Fr.app N94 N101
        by_cases ho1 : own_ok y1 = true
        · rw [if_pos ho1]
          show own_Go p e below F (T101.setTop (mkF m 923 #[.val (.int mo), .val (.int a), .val (.int b), .val (.int c1), .val (.int d), .val (.int y0), .val (.int y1), .val (.int y2), .val (.int y3), .val (.int ((3 : Int32))), .val (.ref x85), .unset, .val (.int ((3 : Int32)))] [(.int ((1 : Int32)))]))
          refine own_ifeq X101.here hx (hb hby at_923) (by decide) (pc' := 958) (by decide) (pc2 := 926) rfl (fun q => absurd q (by decide)) (fun q103 => ?_)
          refine own_iload X101.here hx (hb hby at_926) rfl (pc' := 928) rfl ?_
          refine own_iconst X101.here hx (hb hby at_928) (v := 3) rfl (pc' := 929) rfl ?_
          refine own_icmplt X101.here hx (hb hby at_929) (by decide) (pc' := 940) (by decide) (pc2 := 932) rfl (fun q => absurd q (by decide)) (fun q104 => ?_)
          refine own_iload X101.here hx (hb hby at_932) rfl (pc' := 934) rfl ?_
          obtain ⟨_, _, ⟨T105, L105, k105, n105⟩, -, X105, ⟨Lc105, hQ105, l105, y105, z105⟩, st105⟩ := Jvm.LawKit.callS X101 hx (y := (⟨"com/example/cladistic/cladistic/NamesIsPlainIdentifierPinLaw", "allowed", "(C)Z"⟩ : MethodName)) J87.2.1 (mvT J87.1 (hw _ (List.mem_of_getElem? (i := 50) rfl))) (mvT J87.1 (hw _ (List.mem_of_getElem? (i := 51) rfl))) (mvT J87.1 (hw _ (List.mem_of_getElem? (i := 2) rfl))) (mvT J87.1 (hw _ (List.mem_of_getElem? (i := 52) rfl))) (by decide) (backOf (W := 0) (rmAl l Z a0 hw y2 T85.heap) J87.1 (hw _ (List.mem_of_getElem? (i := 52) rfl)) (hw _ (List.mem_of_getElem? (i := 2) rfl)) (by decide) (by decide)) (g := (mkF m 934 #[.val (.int mo), .val (.int a), .val (.int b), .val (.int c1), .val (.int d), .val (.int y0), .val (.int y1), .val (.int y2), .val (.int y3), .val (.int ((3 : Int32))), .val (.ref x85), .unset, .val (.int ((3 : Int32)))] [(.int y2)])) rfl (by rw [hml]; rfl) (argsL := [(.int y2)]) (rest := []) (lenOf pdx15 rfl) rfl (by show 2 * 0 + _ ≤ _; exact Nat.le_of_eq rfl) (hb hby at_934) (fun _ _ => ⟨rfl, E101, (Nat.le_of_ble_eq_true rfl), (Nat.le_of_ble_eq_true rfl)⟩)
          dsimp only [Pt.U, Pt.locs, Pt.cells, Pt.slots] at X105 l105 y105 z105 st105 hQ105
          subst l105 y105 z105
          obtain ⟨rfl, N105, E105⟩ := hQ105
          refine own_on (st105) ?_
          show own_Go p e below F (T105.setTop (mkF m 937 #[.val (.int mo), .val (.int a), .val (.int b), .val (.int c1), .val (.int d), .val (.int y0), .val (.int y1), .val (.int y2), .val (.int y3), .val (.int ((3 : Int32))), .val (.ref x85), .unset, .val (.int ((3 : Int32)))] [(.int ((if own_ok y2 = true then (1 : Int32) else 0)))]))
          have N106 := Fr.app N102 N105
          by_cases ho2 : own_ok y2 = true
          · rw [if_pos ho2]
            show own_Go p e below F (T105.setTop (mkF m 937 #[.val (.int mo), .val (.int a), .val (.int b), .val (.int c1), .val (.int d), .val (.int y0), .val (.int y1), .val (.int y2), .val (.int y3), .val (.int ((3 : Int32))), .val (.ref x85), .unset, .val (.int ((3 : Int32)))] [(.int ((1 : Int32)))]))
            refine own_ifeq X105.here hx (hb hby at_937) (by decide) (pc' := 958) (by decide) (pc2 := 940) rfl (fun q => absurd q (by decide)) (fun q107 => ?_)
            refine own_iload X105.here hx (hb hby at_940) rfl (pc' := 942) rfl ?_
            refine own_iconst X105.here hx (hb hby at_942) (v := 4) rfl (pc' := 943) rfl ?_
            refine own_icmplt X105.here hx (hb hby at_943) (by decide) (pc' := 954) (by decide) (pc2 := 946) rfl (fun q108 => ?_) (fun q => absurd (by decide) q)
            refine own_iconst X105.here hx (hb hby at_954) (v := 1) rfl (pc' := 955) rfl ?_
            refine own_goto X105.here hx (hb hby at_955) (by decide) (pc' := 959) (by decide) ?_
            refine own_istore X105.here hx (hb hby at_959) (L' := #[.val (.int mo), .val (.int a), .val (.int b), .val (.int c1), .val (.int d), .val (.int y0), .val (.int y1), .val (.int y2), .val (.int y3), .val (.int ((3 : Int32))), .val (.ref x85), .val (.int ((1 : Int32))), .val (.int ((3 : Int32)))]) rfl (pc' := 961) rfl ?_
            refine own_aload X105.here hx (hb hby at_961) rfl rfl (pc' := 963) rfl ?_
            obtain ⟨_, _, ⟨T109, L109, k109, n109⟩, -, X109, ⟨Lc109, hQ109, l109, y109, z109⟩, st109⟩ := Jvm.LawKit.callS X105 hx (y := (⟨"com/example/cladistic/cladistic/Names", "isPlainIdentifier", "(Ljava/lang/String;)Z"⟩ : MethodName)) J87.2.1 (mvT J87.1 (hw _ (List.mem_of_getElem? (i := 30) rfl))) (mvT J87.1 (hw _ (List.mem_of_getElem? (i := 31) rfl))) (mvT J87.1 (hw _ (List.mem_of_getElem? (i := 32) rfl))) (mvT J87.1 (hw _ (List.mem_of_getElem? (i := 33) rfl))) (by decide) (backOf (W := 0) (rmPI l Z a0 hw x85 [y0, y1, y2] T85.heap (own_ext_trans EZ f86) z0 O1 P5 fm O2 rf O3 O4 O5 S85) J87.1 (hw _ (List.mem_of_getElem? (i := 33) rfl)) (hw _ (List.mem_of_getElem? (i := 32) rfl)) (by decide) (by decide)) (g := (mkF m 963 #[.val (.int mo), .val (.int a), .val (.int b), .val (.int c1), .val (.int d), .val (.int y0), .val (.int y1), .val (.int y2), .val (.int y3), .val (.int ((3 : Int32))), .val (.ref x85), .val (.int ((1 : Int32))), .val (.int ((3 : Int32)))] [(.ref x85)])) rfl (by rw [hml]; rfl) (argsL := [(.ref x85)]) (rest := []) (lenOf pdx16 rfl) rfl (by show 2 * 0 + _ ≤ _; exact Nat.le_of_eq rfl) (hb hby at_963) (fun _ _ => ⟨rfl, E105, (Nat.le_of_ble_eq_true rfl), (Nat.le_of_ble_eq_true rfl)⟩)
            dsimp only [Pt.U, Pt.locs, Pt.cells, Pt.slots] at X109 l109 y109 z109 st109 hQ109
            subst l109 y109 z109
            obtain ⟨rfl, N109, E109⟩ := hQ109
            refine own_on (st109) ?_
            show own_Go p e below F (T109.setTop (mkF m 966 #[.val (.int mo), .val (.int a), .val (.int b), .val (.int c1), .val (.int d), .val (.int y0), .val (.int y1), .val (.int y2), .val (.int y3), .val (.int ((3 : Int32))), .val (.ref x85), .val (.int ((1 : Int32))), .val (.int ((3 : Int32)))] [(.int (own_pi [y0, y1, y2]))]))
            have N110 := Fr.app N106 N109
            refine own_iload X109.here hx (hb hby at_966) rfl (pc' := 968) rfl ?_
            refine own_icmpne X109.here hx (hb hby at_968) (by decide) (pc' := 975) (by decide) (pc2 := 971) rfl (fun q => absurd (show own_pi [y0, y1, y2] = (1 : Int32) by simp [own_pi, ho0, hd0, ho1, ho2]) q) (fun q111 => ?_)
            refine own_iconst X109.here hx (hb hby at_971) (v := 1) rfl (pc' := 972) rfl ?_
            refine own_goto X109.here hx (hb hby at_972) (by decide) (pc' := 976) (by decide) ?_
            exact own_retZW X109 hx hlk hEL J87 E109 (by decide) hret (hb hby at_976) (fun t ht hC hE => hF t _ _ _ _ (by rw [ht]; exact ⟨rfl, (by simpa using N110)⟩) hC hE (by decide) (by decide))
          · rw [if_neg ho2]
            show own_Go p e below F (T105.setTop (mkF m 937 #[.val (.int mo), .val (.int a), .val (.int b), .val (.int c1), .val (.int d), .val (.int y0), .val (.int y1), .val (.int y2), .val (.int y3), .val (.int ((3 : Int32))), .val (.ref x85), .unset, .val (.int ((3 : Int32)))] [(.int ((0 : Int32)))]))
            refine own_ifeq X105.here hx (hb hby at_937) (by decide) (pc' := 958) (by decide) (pc2 := 940) rfl (fun q112 => ?_) (fun q => absurd rfl q)
            refine own_iconst X105.here hx (hb hby at_958) (v := 0) rfl (pc' := 959) rfl ?_
            refine own_istore X105.here hx (hb hby at_959) (L' := #[.val (.int mo), .val (.int a), .val (.int b), .val (.int c1), .val (.int d), .val (.int y0), .val (.int y1), .val (.int y2), .val (.int y3), .val (.int ((3 : Int32))), .val (.ref x85), .val (.int ((0 : Int32))), .val (.int ((3 : Int32)))]) rfl (pc' := 961) rfl ?_
            refine own_aload X105.here hx (hb hby at_961) rfl rfl (pc' := 963) rfl ?_
            obtain ⟨_, _, ⟨T113, L113, k113, n113⟩, -, X113, ⟨Lc113, hQ113, l113, y113, z113⟩, st113⟩ := Jvm.LawKit.callS X105 hx (y := (⟨"com/example/cladistic/cladistic/Names", "isPlainIdentifier", "(Ljava/lang/String;)Z"⟩ : MethodName)) J87.2.1 (mvT J87.1 (hw _ (List.mem_of_getElem? (i := 30) rfl))) (mvT J87.1 (hw _ (List.mem_of_getElem? (i := 31) rfl))) (mvT J87.1 (hw _ (List.mem_of_getElem? (i := 32) rfl))) (mvT J87.1 (hw _ (List.mem_of_getElem? (i := 33) rfl))) (by decide) (backOf (W := 0) (rmPI l Z a0 hw x85 [y0, y1, y2] T85.heap (own_ext_trans EZ f86) z0 O1 P5 fm O2 rf O3 O4 O5 S85) J87.1 (hw _ (List.mem_of_getElem? (i := 33) rfl)) (hw _ (List.mem_of_getElem? (i := 32) rfl)) (by decide) (by decide)) (g := (mkF m 963 #[.val (.int mo), .val (.int a), .val (.int b), .val (.int c1), .val (.int d), .val (.int y0), .val (.int y1), .val (.int y2), .val (.int y3), .val (.int ((3 : Int32))), .val (.ref x85), .val (.int ((0 : Int32))), .val (.int ((3 : Int32)))] [(.ref x85)])) rfl (by rw [hml]; rfl) (argsL := [(.ref x85)]) (rest := []) (lenOf pdx16 rfl) rfl (by show 2 * 0 + _ ≤ _; exact Nat.le_of_eq rfl) (hb hby at_963) (fun _ _ => ⟨rfl, E105, (Nat.le_of_ble_eq_true rfl), (Nat.le_of_ble_eq_true rfl)⟩)
            dsimp only [Pt.U, Pt.locs, Pt.cells, Pt.slots] at X113 l113 y113 z113 st113 hQ113
            subst l113 y113 z113
            obtain ⟨rfl, N113, E113⟩ := hQ113
            refine own_on (st113) ?_
            show own_Go p e below F (T113.setTop (mkF m 966 #[.val (.int mo), .val (.int a), .val (.int b), .val (.int c1), .val (.int d), .val (.int y0), .val (.int y1), .val (.int y2), .val (.int y3), .val (.int ((3 : Int32))), .val (.ref x85), .val (.int ((0 : Int32))), .val (.int ((3 : Int32)))] [(.int (own_pi [y0, y1, y2]))]))
            have N114 := Fr.app N106 N113
            refine own_iload X113.here hx (hb hby at_966) rfl (pc' := 968) rfl ?_
            refine own_icmpne X113.here hx (hb hby at_968) (by decide) (pc' := 975) (by decide) (pc2 := 971) rfl (fun q => absurd (show own_pi [y0, y1, y2] = (0 : Int32) by simp [own_pi, ho2]) q) (fun q115 => ?_)
            refine own_iconst X113.here hx (hb hby at_971) (v := 1) rfl (pc' := 972) rfl ?_
            refine own_goto X113.here hx (hb hby at_972) (by decide) (pc' := 976) (by decide) ?_
            exact own_retZW X113 hx hlk hEL J87 E113 (by decide) hret (hb hby at_976) (fun t ht hC hE => hF t _ _ _ _ (by rw [ht]; exact ⟨rfl, (by simpa using N114)⟩) hC hE (by decide) (by decide))
        · rw [if_neg ho1]
          show own_Go p e below F (T101.setTop (mkF m 923 #[.val (.int mo), .val (.int a), .val (.int b), .val (.int c1), .val (.int d), .val (.int y0), .val (.int y1), .val (.int y2), .val (.int y3), .val (.int ((3 : Int32))), .val (.ref x85), .unset, .val (.int ((3 : Int32)))] [(.int ((0 : Int32)))]))
          refine own_ifeq X101.here hx (hb hby at_923) (by decide) (pc' := 958) (by decide) (pc2 := 926) rfl (fun q116 => ?_) (fun q => absurd rfl q)
          refine own_iconst X101.here hx (hb hby at_958) (v := 0) rfl (pc' := 959) rfl ?_
          refine own_istore X101.here hx (hb hby at_959) (L' := #[.val (.int mo), .val (.int a), .val (.int b), .val (.int c1), .val (.int d), .val (.int y0), .val (.int y1), .val (.int y2), .val (.int y3), .val (.int ((3 : Int32))), .val (.ref x85), .val (.int ((0 : Int32))), .val (.int ((3 : Int32)))]) rfl (pc' := 961) rfl ?_
          refine own_aload X101.here hx (hb hby at_961) rfl rfl (pc' := 963) rfl ?_
          obtain ⟨_, _, ⟨T117, L117, k117, n117⟩, -, X117, ⟨Lc117, hQ117, l117, y117, z117⟩, st117⟩ := Jvm.LawKit.callS X101 hx (y := (⟨"com/example/cladistic/cladistic/Names", "isPlainIdentifier", "(Ljava/lang/String;)Z"⟩ : MethodName)) J87.2.1 (mvT J87.1 (hw _ (List.mem_of_getElem? (i := 30) rfl))) (mvT J87.1 (hw _ (List.mem_of_getElem? (i := 31) rfl))) (mvT J87.1 (hw _ (List.mem_of_getElem? (i := 32) rfl))) (mvT J87.1 (hw _ (List.mem_of_getElem? (i := 33) rfl))) (by decide) (backOf (W := 0) (rmPI l Z a0 hw x85 [y0, y1, y2] T85.heap (own_ext_trans EZ f86) z0 O1 P5 fm O2 rf O3 O4 O5 S85) J87.1 (hw _ (List.mem_of_getElem? (i := 33) rfl)) (hw _ (List.mem_of_getElem? (i := 32) rfl)) (by decide) (by decide)) (g := (mkF m 963 #[.val (.int mo), .val (.int a), .val (.int b), .val (.int c1), .val (.int d), .val (.int y0), .val (.int y1), .val (.int y2), .val (.int y3), .val (.int ((3 : Int32))), .val (.ref x85), .val (.int ((0 : Int32))), .val (.int ((3 : Int32)))] [(.ref x85)])) rfl (by rw [hml]; rfl) (argsL := [(.ref x85)]) (rest := []) (lenOf pdx16 rfl) rfl (by show 2 * 0 + _ ≤ _; exact Nat.le_of_eq rfl) (hb hby at_963) (fun _ _ => ⟨rfl, E101, (Nat.le_of_ble_eq_true rfl), (Nat.le_of_ble_eq_true rfl)⟩)
          dsimp only [Pt.U, Pt.locs, Pt.cells, Pt.slots] at X117 l117 y117 z117 st117 hQ117
          subst l117 y117 z117
          obtain ⟨rfl, N117, E117⟩ := hQ117
          refine own_on (st117) ?_
          show own_Go p e below F (T117.setTop (mkF m 966 #[.val (.int mo), .val (.int a), .val (.int b), .val (.int c1), .val (.int d), .val (.int y0), .val (.int y1), .val (.int y2), .val (.int y3), .val (.int ((3 : Int32))), .val (.ref x85), .val (.int ((0 : Int32))), .val (.int ((3 : Int32)))] [(.int (own_pi [y0, y1, y2]))]))
          have N118 := Fr.app N102 N117
          refine own_iload X117.here hx (hb hby at_966) rfl (pc' := 968) rfl ?_
          refine own_icmpne X117.here hx (hb hby at_968) (by decide) (pc' := 975) (by decide) (pc2 := 971) rfl (fun q => absurd (show own_pi [y0, y1, y2] = (0 : Int32) by simp [own_pi, ho1]) q) (fun q119 => ?_)
          refine own_iconst X117.here hx (hb hby at_971) (v := 1) rfl (pc' := 972) rfl ?_
          refine own_goto X117.here hx (hb hby at_972) (by decide) (pc' := 976) (by decide) ?_
          exact own_retZW X117 hx hlk hEL J87 E117 (by decide) hret (hb hby at_976) (fun t ht hC hE => hF t _ _ _ _ (by rw [ht]; exact ⟨rfl, (by simpa using N118)⟩) hC hE (by decide) (by decide))
    · rw [if_neg ho0]
      show own_Go p e below F (T90.setTop (mkF m 901 #[.val (.int mo), .val (.int a), .val (.int b), .val (.int c1), .val (.int d), .val (.int y0), .val (.int y1), .val (.int y2), .val (.int y3), .val (.int ((3 : Int32))), .val (.ref x85), .unset, .val (.int ((3 : Int32)))] [(.int ((0 : Int32)))]))
      refine own_ifeq X90.here hx (hb hby at_901) (by decide) (pc' := 958) (by decide) (pc2 := 904) rfl (fun q120 => ?_) (fun q => absurd rfl q)
      refine own_iconst X90.here hx (hb hby at_958) (v := 0) rfl (pc' := 959) rfl ?_
      refine own_istore X90.here hx (hb hby at_959) (L' := #[.val (.int mo), .val (.int a), .val (.int b), .val (.int c1), .val (.int d), .val (.int y0), .val (.int y1), .val (.int y2), .val (.int y3), .val (.int ((3 : Int32))), .val (.ref x85), .val (.int ((0 : Int32))), .val (.int ((3 : Int32)))]) rfl (pc' := 961) rfl ?_
      refine own_aload X90.here hx (hb hby at_961) rfl rfl (pc' := 963) rfl ?_
      obtain ⟨_, _, ⟨T121, L121, k121, n121⟩, -, X121, ⟨Lc121, hQ121, l121, y121, z121⟩, st121⟩ := Jvm.LawKit.callS X90 hx (y := (⟨"com/example/cladistic/cladistic/Names", "isPlainIdentifier", "(Ljava/lang/String;)Z"⟩ : MethodName)) J87.2.1 (mvT J87.1 (hw _ (List.mem_of_getElem? (i := 30) rfl))) (mvT J87.1 (hw _ (List.mem_of_getElem? (i := 31) rfl))) (mvT J87.1 (hw _ (List.mem_of_getElem? (i := 32) rfl))) (mvT J87.1 (hw _ (List.mem_of_getElem? (i := 33) rfl))) (by decide) (backOf (W := 0) (rmPI l Z a0 hw x85 [y0, y1, y2] T85.heap (own_ext_trans EZ f86) z0 O1 P5 fm O2 rf O3 O4 O5 S85) J87.1 (hw _ (List.mem_of_getElem? (i := 33) rfl)) (hw _ (List.mem_of_getElem? (i := 32) rfl)) (by decide) (by decide)) (g := (mkF m 963 #[.val (.int mo), .val (.int a), .val (.int b), .val (.int c1), .val (.int d), .val (.int y0), .val (.int y1), .val (.int y2), .val (.int y3), .val (.int ((3 : Int32))), .val (.ref x85), .val (.int ((0 : Int32))), .val (.int ((3 : Int32)))] [(.ref x85)])) rfl (by rw [hml]; rfl) (argsL := [(.ref x85)]) (rest := []) (lenOf pdx16 rfl) rfl (by show 2 * 0 + _ ≤ _; exact Nat.le_of_eq rfl) (hb hby at_963) (fun _ _ => ⟨rfl, E90, (Nat.le_of_ble_eq_true rfl), (Nat.le_of_ble_eq_true rfl)⟩)
      dsimp only [Pt.U, Pt.locs, Pt.cells, Pt.slots] at X121 l121 y121 z121 st121 hQ121
      subst l121 y121 z121
      obtain ⟨rfl, N121, E121⟩ := hQ121
      refine own_on (st121) ?_
      show own_Go p e below F (T121.setTop (mkF m 966 #[.val (.int mo), .val (.int a), .val (.int b), .val (.int c1), .val (.int d), .val (.int y0), .val (.int y1), .val (.int y2), .val (.int y3), .val (.int ((3 : Int32))), .val (.ref x85), .val (.int ((0 : Int32))), .val (.int ((3 : Int32)))] [(.int (own_pi [y0, y1, y2]))]))
      have N122 := Fr.app N91 N121
      refine own_iload X121.here hx (hb hby at_966) rfl (pc' := 968) rfl ?_
      refine own_icmpne X121.here hx (hb hby at_968) (by decide) (pc' := 975) (by decide) (pc2 := 971) rfl (fun q => absurd (show own_pi [y0, y1, y2] = (0 : Int32) by simp [own_pi, ho0]) q) (fun q123 => ?_)
      refine own_iconst X121.here hx (hb hby at_971) (v := 1) rfl (pc' := 972) rfl ?_
      refine own_goto X121.here hx (hb hby at_972) (by decide) (pc' := 976) (by decide) ?_
      exact own_retZW X121 hx hlk hEL J87 E121 (by decide) hret (hb hby at_976) (fun t ht hC hE => hF t _ _ _ _ (by rw [ht]; exact ⟨rfl, (by simpa using N122)⟩) hC hE (by decide) (by decide))
  · show own_Go p e below F (T7.setTop (mkF m 31 #[.val (.int mo), .val (.int a), .val (.int b), .val (.int c1), .val (.int d), .val (.int y0), .val (.int y1), .val (.int y2), .val (.int y3), .val (.int ((4 : Int32))), .unset, .unset, .unset] []))
    refine own_iload X7.here hx (hb hby at_31) rfl (pc' := 33) rfl ?_
    refine own_iconst X7.here hx (hb hby at_33) (v := 5) rfl (pc' := 34) rfl ?_
    refine own_icmpne X7.here hx (hb hby at_34) (by decide) (pc' := 456) (by decide) (pc2 := 37) rfl (fun q124 => ?_) (fun q => absurd q (by decide))
    refine own_iload X7.here hx (hb hby at_456) rfl (pc' := 458) rfl ?_
    refine own_bipush X7.here hx (hb hby at_458) (v := 6) rfl (pc' := 460) rfl ?_
    refine own_icmpne X7.here hx (hb hby at_460) (by decide) (pc' := 860) (by decide) (pc2 := 463) rfl (fun q125 => ?_) (fun q => absurd q (by decide))
    refine own_iload X7.here hx (hb hby at_860) rfl (pc' := 862) rfl ?_
    refine own_bipush X7.here hx (hb hby at_862) (v := 7) rfl (pc' := 864) rfl ?_
    refine own_icmpne X7.here hx (hb hby at_864) (by decide) (pc' := 871) (by decide) (pc2 := 867) rfl (fun q126 => ?_) (fun q => absurd q (by decide))
    refine own_iload X7.here hx (hb hby at_871) rfl (pc' := 873) rfl ?_
    refine own_istore X7.here hx (hb hby at_873) (L' := #[.val (.int mo), .val (.int a), .val (.int b), .val (.int c1), .val (.int d), .val (.int y0), .val (.int y1), .val (.int y2), .val (.int y3), .val (.int ((4 : Int32))), .unset, .unset, .val (.int ((4 : Int32)))]) rfl (pc' := 875) rfl ?_
    refine own_iload X7.here hx (hb hby at_875) rfl (pc' := 877) rfl ?_
    refine own_iload X7.here hx (hb hby at_877) rfl (pc' := 879) rfl ?_
    refine own_iload X7.here hx (hb hby at_879) rfl (pc' := 881) rfl ?_
    refine own_iload X7.here hx (hb hby at_881) rfl (pc' := 883) rfl ?_
    refine own_iload X7.here hx (hb hby at_883) rfl (pc' := 885) rfl ?_
    obtain ⟨_, _, ⟨T127, L127, k127, n127⟩, -, X127, ⟨Lc127, hQ127, l127, y127, z127⟩, st127⟩ := Jvm.LawKit.callS X7 hx (y := (⟨"com/example/cladistic/cladistic/NamesIsPlainIdentifierPinLaw", "shortString", "(ICCCC)Ljava/lang/String;"⟩ : MethodName)) I0.2.1 (mvT I0.1 (hw _ (List.mem_of_getElem? (i := 5) rfl))) (mvT I0.1 (hw _ (List.mem_of_getElem? (i := 6) rfl))) (mvT I0.1 (hw _ (List.mem_of_getElem? (i := 2) rfl))) (mvT I0.1 (hw _ (List.mem_of_getElem? (i := 7) rfl))) (by decide) (backOf (W := 0) (rmS4 l Z a0 hw y0 y1 y2 y3 h0 (own_ext_trans EZ M0) z0 O1 P5 O3 O4 O5 ny0 py0 ny1 py1 ny2 py2 ny3 py3) I0.1 (hw _ (List.mem_of_getElem? (i := 7) rfl)) (hw _ (List.mem_of_getElem? (i := 2) rfl)) (by decide) (by decide)) (g := (mkF m 885 #[.val (.int mo), .val (.int a), .val (.int b), .val (.int c1), .val (.int d), .val (.int y0), .val (.int y1), .val (.int y2), .val (.int y3), .val (.int ((4 : Int32))), .unset, .unset, .val (.int ((4 : Int32)))] [(.int y3), (.int y2), (.int y1), (.int y0), (.int ((4 : Int32)))])) rfl (by rw [hml]; rfl) (argsL := [(.int ((4 : Int32))), (.int y0), (.int y1), (.int y2), (.int y3)]) (rest := []) (lenOf pdx18 rfl) rfl (by show 2 * 0 + _ ≤ _; exact Nat.le_of_eq rfl) (hb hby at_885) (fun _ _ => ⟨rfl, E7, (Nat.le_of_ble_eq_true rfl), (Nat.le_of_ble_eq_true rfl)⟩)
    dsimp only [Pt.U, Pt.locs, Pt.cells, Pt.slots] at X127 l127 y127 z127 st127 hQ127
    subst l127 y127 z127
    obtain ⟨x127, rfl, S127, E127, N127⟩ := hQ127
    refine own_on (st127) ?_
    show own_Go p e below F (T127.setTop (mkF m 888 #[.val (.int mo), .val (.int a), .val (.int b), .val (.int c1), .val (.int d), .val (.int y0), .val (.int y1), .val (.int y2), .val (.int y3), .val (.int ((4 : Int32))), .unset, .unset, .val (.int ((4 : Int32)))] [(.ref x127)]))
    have f128 := own_ext_trans M0 E127
    have J129 := I0.ext E127
    have N130 := Fr.app N8 N127
    refine own_astore X127.here hx (hb hby at_888) rfl (L' := #[.val (.int mo), .val (.int a), .val (.int b), .val (.int c1), .val (.int d), .val (.int y0), .val (.int y1), .val (.int y2), .val (.int y3), .val (.int ((4 : Int32))), .val (.ref x127), .unset, .val (.int ((4 : Int32)))]) rfl (pc' := 890) rfl ?_
    refine own_iload X127.here hx (hb hby at_890) rfl (pc' := 892) rfl ?_
    refine own_iconst X127.here hx (hb hby at_892) (v := 1) rfl (pc' := 893) rfl ?_
    refine own_icmplt X127.here hx (hb hby at_893) (by decide) (pc' := 958) (by decide) (pc2 := 896) rfl (fun q => absurd q (by decide)) (fun q131 => ?_)
    refine own_iload X127.here hx (hb hby at_896) rfl (pc' := 898) rfl ?_
    obtain ⟨_, _, ⟨T132, L132, k132, n132⟩, -, X132, ⟨Lc132, hQ132, l132, y132, z132⟩, st132⟩ := Jvm.LawKit.callS X127 hx (y := (⟨"com/example/cladistic/cladistic/NamesIsPlainIdentifierPinLaw", "allowed", "(C)Z"⟩ : MethodName)) J129.2.1 (mvT J129.1 (hw _ (List.mem_of_getElem? (i := 50) rfl))) (mvT J129.1 (hw _ (List.mem_of_getElem? (i := 51) rfl))) (mvT J129.1 (hw _ (List.mem_of_getElem? (i := 2) rfl))) (mvT J129.1 (hw _ (List.mem_of_getElem? (i := 52) rfl))) (by decide) (backOf (W := 0) (rmAl l Z a0 hw y0 T127.heap) J129.1 (hw _ (List.mem_of_getElem? (i := 52) rfl)) (hw _ (List.mem_of_getElem? (i := 2) rfl)) (by decide) (by decide)) (g := (mkF m 898 #[.val (.int mo), .val (.int a), .val (.int b), .val (.int c1), .val (.int d), .val (.int y0), .val (.int y1), .val (.int y2), .val (.int y3), .val (.int ((4 : Int32))), .val (.ref x127), .unset, .val (.int ((4 : Int32)))] [(.int y0)])) rfl (by rw [hml]; rfl) (argsL := [(.int y0)]) (rest := []) (lenOf pdx15 rfl) rfl (by show 2 * 0 + _ ≤ _; exact Nat.le_of_eq rfl) (hb hby at_898) (fun _ _ => ⟨rfl, rfl, (Nat.le_of_ble_eq_true rfl), (Nat.le_of_ble_eq_true rfl)⟩)
    dsimp only [Pt.U, Pt.locs, Pt.cells, Pt.slots] at X132 l132 y132 z132 st132 hQ132
    subst l132 y132 z132
    obtain ⟨rfl, N132, E132⟩ := hQ132
    refine own_on (st132) ?_
    show own_Go p e below F (T132.setTop (mkF m 901 #[.val (.int mo), .val (.int a), .val (.int b), .val (.int c1), .val (.int d), .val (.int y0), .val (.int y1), .val (.int y2), .val (.int y3), .val (.int ((4 : Int32))), .val (.ref x127), .unset, .val (.int ((4 : Int32)))] [(.int ((if own_ok y0 = true then (1 : Int32) else 0)))]))
    have N133 := Fr.app N130 N132
    by_cases ho0 : own_ok y0 = true
    · rw [if_pos ho0]
      show own_Go p e below F (T132.setTop (mkF m 901 #[.val (.int mo), .val (.int a), .val (.int b), .val (.int c1), .val (.int d), .val (.int y0), .val (.int y1), .val (.int y2), .val (.int y3), .val (.int ((4 : Int32))), .val (.ref x127), .unset, .val (.int ((4 : Int32)))] [(.int ((1 : Int32)))]))
      refine own_ifeq X132.here hx (hb hby at_901) (by decide) (pc' := 958) (by decide) (pc2 := 904) rfl (fun q => absurd q (by decide)) (fun q134 => ?_)
      refine own_iload X132.here hx (hb hby at_904) rfl (pc' := 906) rfl ?_
      obtain ⟨_, _, ⟨T135, L135, k135, n135⟩, -, X135, ⟨Lc135, hQ135, l135, y135, z135⟩, st135⟩ := Jvm.LawKit.callS X132 hx (y := (⟨"com/example/cladistic/cladistic/NamesIsPlainIdentifierPinLaw", "digit", "(C)Z"⟩ : MethodName)) J129.2.1 (mvT J129.1 (hw _ (List.mem_of_getElem? (i := 53) rfl))) (mvT J129.1 (hw _ (List.mem_of_getElem? (i := 54) rfl))) (mvT J129.1 (hw _ (List.mem_of_getElem? (i := 2) rfl))) (mvT J129.1 (hw _ (List.mem_of_getElem? (i := 55) rfl))) (by decide) (backOf (W := 0) (rmDa l Z a0 hw y0 T127.heap) J129.1 (hw _ (List.mem_of_getElem? (i := 55) rfl)) (hw _ (List.mem_of_getElem? (i := 2) rfl)) (by decide) (by decide)) (g := (mkF m 906 #[.val (.int mo), .val (.int a), .val (.int b), .val (.int c1), .val (.int d), .val (.int y0), .val (.int y1), .val (.int y2), .val (.int y3), .val (.int ((4 : Int32))), .val (.ref x127), .unset, .val (.int ((4 : Int32)))] [(.int y0)])) rfl (by rw [hml]; rfl) (argsL := [(.int y0)]) (rest := []) (lenOf pdx15 rfl) rfl (by show 2 * 0 + _ ≤ _; exact Nat.le_of_eq rfl) (hb hby at_906) (fun _ _ => ⟨rfl, E132, (Nat.le_of_ble_eq_true rfl), (Nat.le_of_ble_eq_true rfl)⟩)
      dsimp only [Pt.U, Pt.locs, Pt.cells, Pt.slots] at X135 l135 y135 z135 st135 hQ135
      subst l135 y135 z135
      obtain ⟨rfl, N135, E135⟩ := hQ135
      refine own_on (st135) ?_
      show own_Go p e below F (T135.setTop (mkF m 909 #[.val (.int mo), .val (.int a), .val (.int b), .val (.int c1), .val (.int d), .val (.int y0), .val (.int y1), .val (.int y2), .val (.int y3), .val (.int ((4 : Int32))), .val (.ref x127), .unset, .val (.int ((4 : Int32)))] [(.int ((if own_dg y0 = true then (1 : Int32) else 0)))]))
      have N136 := Fr.app N133 N135
      by_cases hd0 : own_dg y0 = true
      · rw [if_pos hd0]
        show own_Go p e below F (T135.setTop (mkF m 909 #[.val (.int mo), .val (.int a), .val (.int b), .val (.int c1), .val (.int d), .val (.int y0), .val (.int y1), .val (.int y2), .val (.int y3), .val (.int ((4 : Int32))), .val (.ref x127), .unset, .val (.int ((4 : Int32)))] [(.int ((1 : Int32)))]))
        refine own_ifne X135.here hx (hb hby at_909) (by decide) (pc' := 958) (by decide) (pc2 := 912) rfl (fun q137 => ?_) (fun q => absurd q (by decide))
        refine own_iconst X135.here hx (hb hby at_958) (v := 0) rfl (pc' := 959) rfl ?_
        refine own_istore X135.here hx (hb hby at_959) (L' := #[.val (.int mo), .val (.int a), .val (.int b), .val (.int c1), .val (.int d), .val (.int y0), .val (.int y1), .val (.int y2), .val (.int y3), .val (.int ((4 : Int32))), .val (.ref x127), .val (.int ((0 : Int32))), .val (.int ((4 : Int32)))]) rfl (pc' := 961) rfl ?_
        refine own_aload X135.here hx (hb hby at_961) rfl rfl (pc' := 963) rfl ?_
        obtain ⟨_, _, ⟨T138, L138, k138, n138⟩, -, X138, ⟨Lc138, hQ138, l138, y138, z138⟩, st138⟩ := Jvm.LawKit.callS X135 hx (y := (⟨"com/example/cladistic/cladistic/Names", "isPlainIdentifier", "(Ljava/lang/String;)Z"⟩ : MethodName)) J129.2.1 (mvT J129.1 (hw _ (List.mem_of_getElem? (i := 30) rfl))) (mvT J129.1 (hw _ (List.mem_of_getElem? (i := 31) rfl))) (mvT J129.1 (hw _ (List.mem_of_getElem? (i := 32) rfl))) (mvT J129.1 (hw _ (List.mem_of_getElem? (i := 33) rfl))) (by decide) (backOf (W := 0) (rmPI l Z a0 hw x127 [y0, y1, y2, y3] T127.heap (own_ext_trans EZ f128) z0 O1 P5 fm O2 rf O3 O4 O5 S127) J129.1 (hw _ (List.mem_of_getElem? (i := 33) rfl)) (hw _ (List.mem_of_getElem? (i := 32) rfl)) (by decide) (by decide)) (g := (mkF m 963 #[.val (.int mo), .val (.int a), .val (.int b), .val (.int c1), .val (.int d), .val (.int y0), .val (.int y1), .val (.int y2), .val (.int y3), .val (.int ((4 : Int32))), .val (.ref x127), .val (.int ((0 : Int32))), .val (.int ((4 : Int32)))] [(.ref x127)])) rfl (by rw [hml]; rfl) (argsL := [(.ref x127)]) (rest := []) (lenOf pdx16 rfl) rfl (by show 2 * 0 + _ ≤ _; exact Nat.le_of_eq rfl) (hb hby at_963) (fun _ _ => ⟨rfl, E135, (Nat.le_of_ble_eq_true rfl), (Nat.le_of_ble_eq_true rfl)⟩)
        dsimp only [Pt.U, Pt.locs, Pt.cells, Pt.slots] at X138 l138 y138 z138 st138 hQ138
        subst l138 y138 z138
        obtain ⟨rfl, N138, E138⟩ := hQ138
        refine own_on (st138) ?_
        show own_Go p e below F (T138.setTop (mkF m 966 #[.val (.int mo), .val (.int a), .val (.int b), .val (.int c1), .val (.int d), .val (.int y0), .val (.int y1), .val (.int y2), .val (.int y3), .val (.int ((4 : Int32))), .val (.ref x127), .val (.int ((0 : Int32))), .val (.int ((4 : Int32)))] [(.int (own_pi [y0, y1, y2, y3]))]))
        have N139 := Fr.app N136 N138
        refine own_iload X138.here hx (hb hby at_966) rfl (pc' := 968) rfl ?_
        refine own_icmpne X138.here hx (hb hby at_968) (by decide) (pc' := 975) (by decide) (pc2 := 971) rfl (fun q => absurd (show own_pi [y0, y1, y2, y3] = (0 : Int32) by simp [own_pi, hd0]) q) (fun q140 => ?_)
        refine own_iconst X138.here hx (hb hby at_971) (v := 1) rfl (pc' := 972) rfl ?_
        refine own_goto X138.here hx (hb hby at_972) (by decide) (pc' := 976) (by decide) ?_
        exact own_retZW X138 hx hlk hEL J129 E138 (by decide) hret (hb hby at_976) (fun t ht hC hE => hF t _ _ _ _ (by rw [ht]; exact ⟨rfl, (by simpa using N139)⟩) hC hE (by decide) (by decide))
      · rw [if_neg hd0]
        show own_Go p e below F (T135.setTop (mkF m 909 #[.val (.int mo), .val (.int a), .val (.int b), .val (.int c1), .val (.int d), .val (.int y0), .val (.int y1), .val (.int y2), .val (.int y3), .val (.int ((4 : Int32))), .val (.ref x127), .unset, .val (.int ((4 : Int32)))] [(.int ((0 : Int32)))]))
        refine own_ifne X135.here hx (hb hby at_909) (by decide) (pc' := 958) (by decide) (pc2 := 912) rfl (fun q => absurd rfl q) (fun q141 => ?_)
        refine own_iload X135.here hx (hb hby at_912) rfl (pc' := 914) rfl ?_
        refine own_iconst X135.here hx (hb hby at_914) (v := 2) rfl (pc' := 915) rfl ?_
        refine own_icmplt X135.here hx (hb hby at_915) (by decide) (pc' := 926) (by decide) (pc2 := 918) rfl (fun q => absurd q (by decide)) (fun q142 => ?_)
        refine own_iload X135.here hx (hb hby at_918) rfl (pc' := 920) rfl ?_
        obtain ⟨_, _, ⟨T143, L143, k143, n143⟩, -, X143, ⟨Lc143, hQ143, l143, y143, z143⟩, st143⟩ := Jvm.LawKit.callS X135 hx (y := (⟨"com/example/cladistic/cladistic/NamesIsPlainIdentifierPinLaw", "allowed", "(C)Z"⟩ : MethodName)) J129.2.1 (mvT J129.1 (hw _ (List.mem_of_getElem? (i := 50) rfl))) (mvT J129.1 (hw _ (List.mem_of_getElem? (i := 51) rfl))) (mvT J129.1 (hw _ (List.mem_of_getElem? (i := 2) rfl))) (mvT J129.1 (hw _ (List.mem_of_getElem? (i := 52) rfl))) (by decide) (backOf (W := 0) (rmAl l Z a0 hw y1 T127.heap) J129.1 (hw _ (List.mem_of_getElem? (i := 52) rfl)) (hw _ (List.mem_of_getElem? (i := 2) rfl)) (by decide) (by decide)) (g := (mkF m 920 #[.val (.int mo), .val (.int a), .val (.int b), .val (.int c1), .val (.int d), .val (.int y0), .val (.int y1), .val (.int y2), .val (.int y3), .val (.int ((4 : Int32))), .val (.ref x127), .unset, .val (.int ((4 : Int32)))] [(.int y1)])) rfl (by rw [hml]; rfl) (argsL := [(.int y1)]) (rest := []) (lenOf pdx15 rfl) rfl (by show 2 * 0 + _ ≤ _; exact Nat.le_of_eq rfl) (hb hby at_920) (fun _ _ => ⟨rfl, E135, (Nat.le_of_ble_eq_true rfl), (Nat.le_of_ble_eq_true rfl)⟩)
        dsimp only [Pt.U, Pt.locs, Pt.cells, Pt.slots] at X143 l143 y143 z143 st143 hQ143
        subst l143 y143 z143
        obtain ⟨rfl, N143, E143⟩ := hQ143
        refine own_on (st143) ?_
        show own_Go p e below F (T143.setTop (mkF m 923 #[.val (.int mo), .val (.int a), .val (.int b), .val (.int c1), .val (.int d), .val (.int y0), .val (.int y1), .val (.int y2), .val (.int y3), .val (.int ((4 : Int32))), .val (.ref x127), .unset, .val (.int ((4 : Int32)))] [(.int ((if own_ok y1 = true then (1 : Int32) else 0)))]))
        have N144 := Fr.app N136 N143
        by_cases ho1 : own_ok y1 = true
        · rw [if_pos ho1]
          show own_Go p e below F (T143.setTop (mkF m 923 #[.val (.int mo), .val (.int a), .val (.int b), .val (.int c1), .val (.int d), .val (.int y0), .val (.int y1), .val (.int y2), .val (.int y3), .val (.int ((4 : Int32))), .val (.ref x127), .unset, .val (.int ((4 : Int32)))] [(.int ((1 : Int32)))]))
          refine own_ifeq X143.here hx (hb hby at_923) (by decide) (pc' := 958) (by decide) (pc2 := 926) rfl (fun q => absurd q (by decide)) (fun q145 => ?_)
          refine own_iload X143.here hx (hb hby at_926) rfl (pc' := 928) rfl ?_
          refine own_iconst X143.here hx (hb hby at_928) (v := 3) rfl (pc' := 929) rfl ?_
          refine own_icmplt X143.here hx (hb hby at_929) (by decide) (pc' := 940) (by decide) (pc2 := 932) rfl (fun q => absurd q (by decide)) (fun q146 => ?_)
          refine own_iload X143.here hx (hb hby at_932) rfl (pc' := 934) rfl ?_
          obtain ⟨_, _, ⟨T147, L147, k147, n147⟩, -, X147, ⟨Lc147, hQ147, l147, y147, z147⟩, st147⟩ := Jvm.LawKit.callS X143 hx (y := (⟨"com/example/cladistic/cladistic/NamesIsPlainIdentifierPinLaw", "allowed", "(C)Z"⟩ : MethodName)) J129.2.1 (mvT J129.1 (hw _ (List.mem_of_getElem? (i := 50) rfl))) (mvT J129.1 (hw _ (List.mem_of_getElem? (i := 51) rfl))) (mvT J129.1 (hw _ (List.mem_of_getElem? (i := 2) rfl))) (mvT J129.1 (hw _ (List.mem_of_getElem? (i := 52) rfl))) (by decide) (backOf (W := 0) (rmAl l Z a0 hw y2 T127.heap) J129.1 (hw _ (List.mem_of_getElem? (i := 52) rfl)) (hw _ (List.mem_of_getElem? (i := 2) rfl)) (by decide) (by decide)) (g := (mkF m 934 #[.val (.int mo), .val (.int a), .val (.int b), .val (.int c1), .val (.int d), .val (.int y0), .val (.int y1), .val (.int y2), .val (.int y3), .val (.int ((4 : Int32))), .val (.ref x127), .unset, .val (.int ((4 : Int32)))] [(.int y2)])) rfl (by rw [hml]; rfl) (argsL := [(.int y2)]) (rest := []) (lenOf pdx15 rfl) rfl (by show 2 * 0 + _ ≤ _; exact Nat.le_of_eq rfl) (hb hby at_934) (fun _ _ => ⟨rfl, E143, (Nat.le_of_ble_eq_true rfl), (Nat.le_of_ble_eq_true rfl)⟩)
          dsimp only [Pt.U, Pt.locs, Pt.cells, Pt.slots] at X147 l147 y147 z147 st147 hQ147
          subst l147 y147 z147
          obtain ⟨rfl, N147, E147⟩ := hQ147
          refine own_on (st147) ?_
          show own_Go p e below F (T147.setTop (mkF m 937 #[.val (.int mo), .val (.int a), .val (.int b), .val (.int c1), .val (.int d), .val (.int y0), .val (.int y1), .val (.int y2), .val (.int y3), .val (.int ((4 : Int32))), .val (.ref x127), .unset, .val (.int ((4 : Int32)))] [(.int ((if own_ok y2 = true then (1 : Int32) else 0)))]))
          have N148 := Fr.app N144 N147
          by_cases ho2 : own_ok y2 = true
          · rw [if_pos ho2]
            show own_Go p e below F (T147.setTop (mkF m 937 #[.val (.int mo), .val (.int a), .val (.int b), .val (.int c1), .val (.int d), .val (.int y0), .val (.int y1), .val (.int y2), .val (.int y3), .val (.int ((4 : Int32))), .val (.ref x127), .unset, .val (.int ((4 : Int32)))] [(.int ((1 : Int32)))]))
            refine own_ifeq X147.here hx (hb hby at_937) (by decide) (pc' := 958) (by decide) (pc2 := 940) rfl (fun q => absurd q (by decide)) (fun q149 => ?_)
            refine own_iload X147.here hx (hb hby at_940) rfl (pc' := 942) rfl ?_
            refine own_iconst X147.here hx (hb hby at_942) (v := 4) rfl (pc' := 943) rfl ?_
            refine own_icmplt X147.here hx (hb hby at_943) (by decide) (pc' := 954) (by decide) (pc2 := 946) rfl (fun q => absurd q (by decide)) (fun q150 => ?_)
            refine own_iload X147.here hx (hb hby at_946) rfl (pc' := 948) rfl ?_
            obtain ⟨_, _, ⟨T151, L151, k151, n151⟩, -, X151, ⟨Lc151, hQ151, l151, y151, z151⟩, st151⟩ := Jvm.LawKit.callS X147 hx (y := (⟨"com/example/cladistic/cladistic/NamesIsPlainIdentifierPinLaw", "allowed", "(C)Z"⟩ : MethodName)) J129.2.1 (mvT J129.1 (hw _ (List.mem_of_getElem? (i := 50) rfl))) (mvT J129.1 (hw _ (List.mem_of_getElem? (i := 51) rfl))) (mvT J129.1 (hw _ (List.mem_of_getElem? (i := 2) rfl))) (mvT J129.1 (hw _ (List.mem_of_getElem? (i := 52) rfl))) (by decide) (backOf (W := 0) (rmAl l Z a0 hw y3 T127.heap) J129.1 (hw _ (List.mem_of_getElem? (i := 52) rfl)) (hw _ (List.mem_of_getElem? (i := 2) rfl)) (by decide) (by decide)) (g := (mkF m 948 #[.val (.int mo), .val (.int a), .val (.int b), .val (.int c1), .val (.int d), .val (.int y0), .val (.int y1), .val (.int y2), .val (.int y3), .val (.int ((4 : Int32))), .val (.ref x127), .unset, .val (.int ((4 : Int32)))] [(.int y3)])) rfl (by rw [hml]; rfl) (argsL := [(.int y3)]) (rest := []) (lenOf pdx15 rfl) rfl (by show 2 * 0 + _ ≤ _; exact Nat.le_of_eq rfl) (hb hby at_948) (fun _ _ => ⟨rfl, E147, (Nat.le_of_ble_eq_true rfl), (Nat.le_of_ble_eq_true rfl)⟩)
            dsimp only [Pt.U, Pt.locs, Pt.cells, Pt.slots] at X151 l151 y151 z151 st151 hQ151
            subst l151 y151 z151
            obtain ⟨rfl, N151, E151⟩ := hQ151
            refine own_on (st151) ?_
            show own_Go p e below F (T151.setTop (mkF m 951 #[.val (.int mo), .val (.int a), .val (.int b), .val (.int c1), .val (.int d), .val (.int y0), .val (.int y1), .val (.int y2), .val (.int y3), .val (.int ((4 : Int32))), .val (.ref x127), .unset, .val (.int ((4 : Int32)))] [(.int ((if own_ok y3 = true then (1 : Int32) else 0)))]))
            have N152 := Fr.app N148 N151
            by_cases ho3 : own_ok y3 = true
            · rw [if_pos ho3]
              show own_Go p e below F (T151.setTop (mkF m 951 #[.val (.int mo), .val (.int a), .val (.int b), .val (.int c1), .val (.int d), .val (.int y0), .val (.int y1), .val (.int y2), .val (.int y3), .val (.int ((4 : Int32))), .val (.ref x127), .unset, .val (.int ((4 : Int32)))] [(.int ((1 : Int32)))]))
              refine own_ifeq X151.here hx (hb hby at_951) (by decide) (pc' := 958) (by decide) (pc2 := 954) rfl (fun q => absurd q (by decide)) (fun q153 => ?_)
              refine own_iconst X151.here hx (hb hby at_954) (v := 1) rfl (pc' := 955) rfl ?_
              refine own_goto X151.here hx (hb hby at_955) (by decide) (pc' := 959) (by decide) ?_
              refine own_istore X151.here hx (hb hby at_959) (L' := #[.val (.int mo), .val (.int a), .val (.int b), .val (.int c1), .val (.int d), .val (.int y0), .val (.int y1), .val (.int y2), .val (.int y3), .val (.int ((4 : Int32))), .val (.ref x127), .val (.int ((1 : Int32))), .val (.int ((4 : Int32)))]) rfl (pc' := 961) rfl ?_
              refine own_aload X151.here hx (hb hby at_961) rfl rfl (pc' := 963) rfl ?_
              obtain ⟨_, _, ⟨T154, L154, k154, n154⟩, -, X154, ⟨Lc154, hQ154, l154, y154, z154⟩, st154⟩ := Jvm.LawKit.callS X151 hx (y := (⟨"com/example/cladistic/cladistic/Names", "isPlainIdentifier", "(Ljava/lang/String;)Z"⟩ : MethodName)) J129.2.1 (mvT J129.1 (hw _ (List.mem_of_getElem? (i := 30) rfl))) (mvT J129.1 (hw _ (List.mem_of_getElem? (i := 31) rfl))) (mvT J129.1 (hw _ (List.mem_of_getElem? (i := 32) rfl))) (mvT J129.1 (hw _ (List.mem_of_getElem? (i := 33) rfl))) (by decide) (backOf (W := 0) (rmPI l Z a0 hw x127 [y0, y1, y2, y3] T127.heap (own_ext_trans EZ f128) z0 O1 P5 fm O2 rf O3 O4 O5 S127) J129.1 (hw _ (List.mem_of_getElem? (i := 33) rfl)) (hw _ (List.mem_of_getElem? (i := 32) rfl)) (by decide) (by decide)) (g := (mkF m 963 #[.val (.int mo), .val (.int a), .val (.int b), .val (.int c1), .val (.int d), .val (.int y0), .val (.int y1), .val (.int y2), .val (.int y3), .val (.int ((4 : Int32))), .val (.ref x127), .val (.int ((1 : Int32))), .val (.int ((4 : Int32)))] [(.ref x127)])) rfl (by rw [hml]; rfl) (argsL := [(.ref x127)]) (rest := []) (lenOf pdx16 rfl) rfl (by show 2 * 0 + _ ≤ _; exact Nat.le_of_eq rfl) (hb hby at_963) (fun _ _ => ⟨rfl, E151, (Nat.le_of_ble_eq_true rfl), (Nat.le_of_ble_eq_true rfl)⟩)
              dsimp only [Pt.U, Pt.locs, Pt.cells, Pt.slots] at X154 l154 y154 z154 st154 hQ154
              subst l154 y154 z154
              obtain ⟨rfl, N154, E154⟩ := hQ154
              refine own_on (st154) ?_
              show own_Go p e below F (T154.setTop (mkF m 966 #[.val (.int mo), .val (.int a), .val (.int b), .val (.int c1), .val (.int d), .val (.int y0), .val (.int y1), .val (.int y2), .val (.int y3), .val (.int ((4 : Int32))), .val (.ref x127), .val (.int ((1 : Int32))), .val (.int ((4 : Int32)))] [(.int (own_pi [y0, y1, y2, y3]))]))
              have N155 := Fr.app N152 N154
              refine own_iload X154.here hx (hb hby at_966) rfl (pc' := 968) rfl ?_
              refine own_icmpne X154.here hx (hb hby at_968) (by decide) (pc' := 975) (by decide) (pc2 := 971) rfl (fun q => absurd (show own_pi [y0, y1, y2, y3] = (1 : Int32) by simp [own_pi, ho0, hd0, ho1, ho2, ho3]) q) (fun q156 => ?_)
              refine own_iconst X154.here hx (hb hby at_971) (v := 1) rfl (pc' := 972) rfl ?_
              refine own_goto X154.here hx (hb hby at_972) (by decide) (pc' := 976) (by decide) ?_
              exact own_retZW X154 hx hlk hEL J129 E154 (by decide) hret (hb hby at_976) (fun t ht hC hE => hF t _ _ _ _ (by rw [ht]; exact ⟨rfl, (by simpa using N155)⟩) hC hE (by decide) (by decide))
            · rw [if_neg ho3]
              show own_Go p e below F (T151.setTop (mkF m 951 #[.val (.int mo), .val (.int a), .val (.int b), .val (.int c1), .val (.int d), .val (.int y0), .val (.int y1), .val (.int y2), .val (.int y3), .val (.int ((4 : Int32))), .val (.ref x127), .unset, .val (.int ((4 : Int32)))] [(.int ((0 : Int32)))]))
              refine own_ifeq X151.here hx (hb hby at_951) (by decide) (pc' := 958) (by decide) (pc2 := 954) rfl (fun q157 => ?_) (fun q => absurd rfl q)
              refine own_iconst X151.here hx (hb hby at_958) (v := 0) rfl (pc' := 959) rfl ?_
              refine own_istore X151.here hx (hb hby at_959) (L' := #[.val (.int mo), .val (.int a), .val (.int b), .val (.int c1), .val (.int d), .val (.int y0), .val (.int y1), .val (.int y2), .val (.int y3), .val (.int ((4 : Int32))), .val (.ref x127), .val (.int ((0 : Int32))), .val (.int ((4 : Int32)))]) rfl (pc' := 961) rfl ?_
              refine own_aload X151.here hx (hb hby at_961) rfl rfl (pc' := 963) rfl ?_
              obtain ⟨_, _, ⟨T158, L158, k158, n158⟩, -, X158, ⟨Lc158, hQ158, l158, y158, z158⟩, st158⟩ := Jvm.LawKit.callS X151 hx (y := (⟨"com/example/cladistic/cladistic/Names", "isPlainIdentifier", "(Ljava/lang/String;)Z"⟩ : MethodName)) J129.2.1 (mvT J129.1 (hw _ (List.mem_of_getElem? (i := 30) rfl))) (mvT J129.1 (hw _ (List.mem_of_getElem? (i := 31) rfl))) (mvT J129.1 (hw _ (List.mem_of_getElem? (i := 32) rfl))) (mvT J129.1 (hw _ (List.mem_of_getElem? (i := 33) rfl))) (by decide) (backOf (W := 0) (rmPI l Z a0 hw x127 [y0, y1, y2, y3] T127.heap (own_ext_trans EZ f128) z0 O1 P5 fm O2 rf O3 O4 O5 S127) J129.1 (hw _ (List.mem_of_getElem? (i := 33) rfl)) (hw _ (List.mem_of_getElem? (i := 32) rfl)) (by decide) (by decide)) (g := (mkF m 963 #[.val (.int mo), .val (.int a), .val (.int b), .val (.int c1), .val (.int d), .val (.int y0), .val (.int y1), .val (.int y2), .val (.int y3), .val (.int ((4 : Int32))), .val (.ref x127), .val (.int ((0 : Int32))), .val (.int ((4 : Int32)))] [(.ref x127)])) rfl (by rw [hml]; rfl) (argsL := [(.ref x127)]) (rest := []) (lenOf pdx16 rfl) rfl (by show 2 * 0 + _ ≤ _; exact Nat.le_of_eq rfl) (hb hby at_963) (fun _ _ => ⟨rfl, E151, (Nat.le_of_ble_eq_true rfl), (Nat.le_of_ble_eq_true rfl)⟩)
              dsimp only [Pt.U, Pt.locs, Pt.cells, Pt.slots] at X158 l158 y158 z158 st158 hQ158
              subst l158 y158 z158
              obtain ⟨rfl, N158, E158⟩ := hQ158
              refine own_on (st158) ?_
              show own_Go p e below F (T158.setTop (mkF m 966 #[.val (.int mo), .val (.int a), .val (.int b), .val (.int c1), .val (.int d), .val (.int y0), .val (.int y1), .val (.int y2), .val (.int y3), .val (.int ((4 : Int32))), .val (.ref x127), .val (.int ((0 : Int32))), .val (.int ((4 : Int32)))] [(.int (own_pi [y0, y1, y2, y3]))]))
              have N159 := Fr.app N152 N158
              refine own_iload X158.here hx (hb hby at_966) rfl (pc' := 968) rfl ?_
              refine own_icmpne X158.here hx (hb hby at_968) (by decide) (pc' := 975) (by decide) (pc2 := 971) rfl (fun q => absurd (show own_pi [y0, y1, y2, y3] = (0 : Int32) by simp [own_pi, ho3]) q) (fun q160 => ?_)
              refine own_iconst X158.here hx (hb hby at_971) (v := 1) rfl (pc' := 972) rfl ?_
              refine own_goto X158.here hx (hb hby at_972) (by decide) (pc' := 976) (by decide) ?_
              exact own_retZW X158 hx hlk hEL J129 E158 (by decide) hret (hb hby at_976) (fun t ht hC hE => hF t _ _ _ _ (by rw [ht]; exact ⟨rfl, (by simpa using N159)⟩) hC hE (by decide) (by decide))
          · rw [if_neg ho2]
            show own_Go p e below F (T147.setTop (mkF m 937 #[.val (.int mo), .val (.int a), .val (.int b), .val (.int c1), .val (.int d), .val (.int y0), .val (.int y1), .val (.int y2), .val (.int y3), .val (.int ((4 : Int32))), .val (.ref x127), .unset, .val (.int ((4 : Int32)))] [(.int ((0 : Int32)))]))
            refine own_ifeq X147.here hx (hb hby at_937) (by decide) (pc' := 958) (by decide) (pc2 := 940) rfl (fun q161 => ?_) (fun q => absurd rfl q)
            refine own_iconst X147.here hx (hb hby at_958) (v := 0) rfl (pc' := 959) rfl ?_
            refine own_istore X147.here hx (hb hby at_959) (L' := #[.val (.int mo), .val (.int a), .val (.int b), .val (.int c1), .val (.int d), .val (.int y0), .val (.int y1), .val (.int y2), .val (.int y3), .val (.int ((4 : Int32))), .val (.ref x127), .val (.int ((0 : Int32))), .val (.int ((4 : Int32)))]) rfl (pc' := 961) rfl ?_
            refine own_aload X147.here hx (hb hby at_961) rfl rfl (pc' := 963) rfl ?_
            obtain ⟨_, _, ⟨T162, L162, k162, n162⟩, -, X162, ⟨Lc162, hQ162, l162, y162, z162⟩, st162⟩ := Jvm.LawKit.callS X147 hx (y := (⟨"com/example/cladistic/cladistic/Names", "isPlainIdentifier", "(Ljava/lang/String;)Z"⟩ : MethodName)) J129.2.1 (mvT J129.1 (hw _ (List.mem_of_getElem? (i := 30) rfl))) (mvT J129.1 (hw _ (List.mem_of_getElem? (i := 31) rfl))) (mvT J129.1 (hw _ (List.mem_of_getElem? (i := 32) rfl))) (mvT J129.1 (hw _ (List.mem_of_getElem? (i := 33) rfl))) (by decide) (backOf (W := 0) (rmPI l Z a0 hw x127 [y0, y1, y2, y3] T127.heap (own_ext_trans EZ f128) z0 O1 P5 fm O2 rf O3 O4 O5 S127) J129.1 (hw _ (List.mem_of_getElem? (i := 33) rfl)) (hw _ (List.mem_of_getElem? (i := 32) rfl)) (by decide) (by decide)) (g := (mkF m 963 #[.val (.int mo), .val (.int a), .val (.int b), .val (.int c1), .val (.int d), .val (.int y0), .val (.int y1), .val (.int y2), .val (.int y3), .val (.int ((4 : Int32))), .val (.ref x127), .val (.int ((0 : Int32))), .val (.int ((4 : Int32)))] [(.ref x127)])) rfl (by rw [hml]; rfl) (argsL := [(.ref x127)]) (rest := []) (lenOf pdx16 rfl) rfl (by show 2 * 0 + _ ≤ _; exact Nat.le_of_eq rfl) (hb hby at_963) (fun _ _ => ⟨rfl, E147, (Nat.le_of_ble_eq_true rfl), (Nat.le_of_ble_eq_true rfl)⟩)
            dsimp only [Pt.U, Pt.locs, Pt.cells, Pt.slots] at X162 l162 y162 z162 st162 hQ162
            subst l162 y162 z162
            obtain ⟨rfl, N162, E162⟩ := hQ162
            refine own_on (st162) ?_
            show own_Go p e below F (T162.setTop (mkF m 966 #[.val (.int mo), .val (.int a), .val (.int b), .val (.int c1), .val (.int d), .val (.int y0), .val (.int y1), .val (.int y2), .val (.int y3), .val (.int ((4 : Int32))), .val (.ref x127), .val (.int ((0 : Int32))), .val (.int ((4 : Int32)))] [(.int (own_pi [y0, y1, y2, y3]))]))
            have N163 := Fr.app N148 N162
            refine own_iload X162.here hx (hb hby at_966) rfl (pc' := 968) rfl ?_
            refine own_icmpne X162.here hx (hb hby at_968) (by decide) (pc' := 975) (by decide) (pc2 := 971) rfl (fun q => absurd (show own_pi [y0, y1, y2, y3] = (0 : Int32) by simp [own_pi, ho2]) q) (fun q164 => ?_)
            refine own_iconst X162.here hx (hb hby at_971) (v := 1) rfl (pc' := 972) rfl ?_
            refine own_goto X162.here hx (hb hby at_972) (by decide) (pc' := 976) (by decide) ?_
            exact own_retZW X162 hx hlk hEL J129 E162 (by decide) hret (hb hby at_976) (fun t ht hC hE => hF t _ _ _ _ (by rw [ht]; exact ⟨rfl, (by simpa using N163)⟩) hC hE (by decide) (by decide))
        · rw [if_neg ho1]
          show own_Go p e below F (T143.setTop (mkF m 923 #[.val (.int mo), .val (.int a), .val (.int b), .val (.int c1), .val (.int d), .val (.int y0), .val (.int y1), .val (.int y2), .val (.int y3), .val (.int ((4 : Int32))), .val (.ref x127), .unset, .val (.int ((4 : Int32)))] [(.int ((0 : Int32)))]))
          refine own_ifeq X143.here hx (hb hby at_923) (by decide) (pc' := 958) (by decide) (pc2 := 926) rfl (fun q165 => ?_) (fun q => absurd rfl q)
          refine own_iconst X143.here hx (hb hby at_958) (v := 0) rfl (pc' := 959) rfl ?_
          refine own_istore X143.here hx (hb hby at_959) (L' := #[.val (.int mo), .val (.int a), .val (.int b), .val (.int c1), .val (.int d), .val (.int y0), .val (.int y1), .val (.int y2), .val (.int y3), .val (.int ((4 : Int32))), .val (.ref x127), .val (.int ((0 : Int32))), .val (.int ((4 : Int32)))]) rfl (pc' := 961) rfl ?_
          refine own_aload X143.here hx (hb hby at_961) rfl rfl (pc' := 963) rfl ?_
          obtain ⟨_, _, ⟨T166, L166, k166, n166⟩, -, X166, ⟨Lc166, hQ166, l166, y166, z166⟩, st166⟩ := Jvm.LawKit.callS X143 hx (y := (⟨"com/example/cladistic/cladistic/Names", "isPlainIdentifier", "(Ljava/lang/String;)Z"⟩ : MethodName)) J129.2.1 (mvT J129.1 (hw _ (List.mem_of_getElem? (i := 30) rfl))) (mvT J129.1 (hw _ (List.mem_of_getElem? (i := 31) rfl))) (mvT J129.1 (hw _ (List.mem_of_getElem? (i := 32) rfl))) (mvT J129.1 (hw _ (List.mem_of_getElem? (i := 33) rfl))) (by decide) (backOf (W := 0) (rmPI l Z a0 hw x127 [y0, y1, y2, y3] T127.heap (own_ext_trans EZ f128) z0 O1 P5 fm O2 rf O3 O4 O5 S127) J129.1 (hw _ (List.mem_of_getElem? (i := 33) rfl)) (hw _ (List.mem_of_getElem? (i := 32) rfl)) (by decide) (by decide)) (g := (mkF m 963 #[.val (.int mo), .val (.int a), .val (.int b), .val (.int c1), .val (.int d), .val (.int y0), .val (.int y1), .val (.int y2), .val (.int y3), .val (.int ((4 : Int32))), .val (.ref x127), .val (.int ((0 : Int32))), .val (.int ((4 : Int32)))] [(.ref x127)])) rfl (by rw [hml]; rfl) (argsL := [(.ref x127)]) (rest := []) (lenOf pdx16 rfl) rfl (by show 2 * 0 + _ ≤ _; exact Nat.le_of_eq rfl) (hb hby at_963) (fun _ _ => ⟨rfl, E143, (Nat.le_of_ble_eq_true rfl), (Nat.le_of_ble_eq_true rfl)⟩)
          dsimp only [Pt.U, Pt.locs, Pt.cells, Pt.slots] at X166 l166 y166 z166 st166 hQ166
          subst l166 y166 z166
          obtain ⟨rfl, N166, E166⟩ := hQ166
          refine own_on (st166) ?_
          show own_Go p e below F (T166.setTop (mkF m 966 #[.val (.int mo), .val (.int a), .val (.int b), .val (.int c1), .val (.int d), .val (.int y0), .val (.int y1), .val (.int y2), .val (.int y3), .val (.int ((4 : Int32))), .val (.ref x127), .val (.int ((0 : Int32))), .val (.int ((4 : Int32)))] [(.int (own_pi [y0, y1, y2, y3]))]))
          have N167 := Fr.app N144 N166
          refine own_iload X166.here hx (hb hby at_966) rfl (pc' := 968) rfl ?_
          refine own_icmpne X166.here hx (hb hby at_968) (by decide) (pc' := 975) (by decide) (pc2 := 971) rfl (fun q => absurd (show own_pi [y0, y1, y2, y3] = (0 : Int32) by simp [own_pi, ho1]) q) (fun q168 => ?_)
          refine own_iconst X166.here hx (hb hby at_971) (v := 1) rfl (pc' := 972) rfl ?_
          refine own_goto X166.here hx (hb hby at_972) (by decide) (pc' := 976) (by decide) ?_
          exact own_retZW X166 hx hlk hEL J129 E166 (by decide) hret (hb hby at_976) (fun t ht hC hE => hF t _ _ _ _ (by rw [ht]; exact ⟨rfl, (by simpa using N167)⟩) hC hE (by decide) (by decide))
    · rw [if_neg ho0]
      show own_Go p e below F (T132.setTop (mkF m 901 #[.val (.int mo), .val (.int a), .val (.int b), .val (.int c1), .val (.int d), .val (.int y0), .val (.int y1), .val (.int y2), .val (.int y3), .val (.int ((4 : Int32))), .val (.ref x127), .unset, .val (.int ((4 : Int32)))] [(.int ((0 : Int32)))]))
      refine own_ifeq X132.here hx (hb hby at_901) (by decide) (pc' := 958) (by decide) (pc2 := 904) rfl (fun q169 => ?_) (fun q => absurd rfl q)
      refine own_iconst X132.here hx (hb hby at_958) (v := 0) rfl (pc' := 959) rfl ?_
      refine own_istore X132.here hx (hb hby at_959) (L' := #[.val (.int mo), .val (.int a), .val (.int b), .val (.int c1), .val (.int d), .val (.int y0), .val (.int y1), .val (.int y2), .val (.int y3), .val (.int ((4 : Int32))), .val (.ref x127), .val (.int ((0 : Int32))), .val (.int ((4 : Int32)))]) rfl (pc' := 961) rfl ?_
      refine own_aload X132.here hx (hb hby at_961) rfl rfl (pc' := 963) rfl ?_
      obtain ⟨_, _, ⟨T170, L170, k170, n170⟩, -, X170, ⟨Lc170, hQ170, l170, y170, z170⟩, st170⟩ := Jvm.LawKit.callS X132 hx (y := (⟨"com/example/cladistic/cladistic/Names", "isPlainIdentifier", "(Ljava/lang/String;)Z"⟩ : MethodName)) J129.2.1 (mvT J129.1 (hw _ (List.mem_of_getElem? (i := 30) rfl))) (mvT J129.1 (hw _ (List.mem_of_getElem? (i := 31) rfl))) (mvT J129.1 (hw _ (List.mem_of_getElem? (i := 32) rfl))) (mvT J129.1 (hw _ (List.mem_of_getElem? (i := 33) rfl))) (by decide) (backOf (W := 0) (rmPI l Z a0 hw x127 [y0, y1, y2, y3] T127.heap (own_ext_trans EZ f128) z0 O1 P5 fm O2 rf O3 O4 O5 S127) J129.1 (hw _ (List.mem_of_getElem? (i := 33) rfl)) (hw _ (List.mem_of_getElem? (i := 32) rfl)) (by decide) (by decide)) (g := (mkF m 963 #[.val (.int mo), .val (.int a), .val (.int b), .val (.int c1), .val (.int d), .val (.int y0), .val (.int y1), .val (.int y2), .val (.int y3), .val (.int ((4 : Int32))), .val (.ref x127), .val (.int ((0 : Int32))), .val (.int ((4 : Int32)))] [(.ref x127)])) rfl (by rw [hml]; rfl) (argsL := [(.ref x127)]) (rest := []) (lenOf pdx16 rfl) rfl (by show 2 * 0 + _ ≤ _; exact Nat.le_of_eq rfl) (hb hby at_963) (fun _ _ => ⟨rfl, E132, (Nat.le_of_ble_eq_true rfl), (Nat.le_of_ble_eq_true rfl)⟩)
      dsimp only [Pt.U, Pt.locs, Pt.cells, Pt.slots] at X170 l170 y170 z170 st170 hQ170
      subst l170 y170 z170
      obtain ⟨rfl, N170, E170⟩ := hQ170
      refine own_on (st170) ?_
      show own_Go p e below F (T170.setTop (mkF m 966 #[.val (.int mo), .val (.int a), .val (.int b), .val (.int c1), .val (.int d), .val (.int y0), .val (.int y1), .val (.int y2), .val (.int y3), .val (.int ((4 : Int32))), .val (.ref x127), .val (.int ((0 : Int32))), .val (.int ((4 : Int32)))] [(.int (own_pi [y0, y1, y2, y3]))]))
      have N171 := Fr.app N133 N170
      refine own_iload X170.here hx (hb hby at_966) rfl (pc' := 968) rfl ?_
      refine own_icmpne X170.here hx (hb hby at_968) (by decide) (pc' := 975) (by decide) (pc2 := 971) rfl (fun q => absurd (show own_pi [y0, y1, y2, y3] = (0 : Int32) by simp [own_pi, ho0]) q) (fun q172 => ?_)
      refine own_iconst X170.here hx (hb hby at_971) (v := 1) rfl (pc' := 972) rfl ?_
      refine own_goto X170.here hx (hb hby at_972) (by decide) (pc' := 976) (by decide) ?_
      exact own_retZW X170 hx hlk hEL J129 E170 (by decide) hret (hb hby at_976) (fun t ht hC hE => hF t _ _ _ _ (by rw [ht]; exact ⟨rfl, (by simpa using N171)⟩) hC hE (by decide) (by decide))
  · show own_Go p e below F (T7.setTop (mkF m 31 #[.val (.int mo), .val (.int a), .val (.int b), .val (.int c1), .val (.int d), .val (.int y0), .val (.int y1), .val (.int y2), .val (.int y3), .val (.int ((5 : Int32))), .unset, .unset, .unset] []))
    refine own_iload X7.here hx (hb hby at_31) rfl (pc' := 33) rfl ?_
    refine own_iconst X7.here hx (hb hby at_33) (v := 5) rfl (pc' := 34) rfl ?_
    refine own_icmpne X7.here hx (hb hby at_34) (by decide) (pc' := 456) (by decide) (pc2 := 37) rfl (fun q => absurd rfl q) (fun q173 => ?_)
    obtain ⟨T174, h174, X174, e174, E174, A174, D174, -, st174⟩ := newO X7 hx I0.1 I0.2.1 (hw _ (List.mem_of_getElem? (i := 8) rfl)) (hw _ (List.mem_of_getElem? (i := 9) rfl)) (hw _ (List.mem_of_getElem? (i := 10) rfl)) E7 (g := (mkF m 37 #[.val (.int mo), .val (.int a), .val (.int b), .val (.int c1), .val (.int d), .val (.int y0), .val (.int y1), .val (.int y2), .val (.int y3), .val (.int ((5 : Int32))), .unset, .unset, .unset] [])) rfl (hb hby at_37) (by decide) (by decide)
    obtain ⟨a174, g174⟩ : ∃ z, z = h0.size := ⟨_, rfl⟩
    rw [← g174] at A174 D174 st174
    have ge175 : h0.size ≤ a174 := by rw [g174]; exact M0.1
    have sf174 := Safe.ext E174 I0.ch (Safe.new (Nat.le_of_eq g174.symm))
    have f176 := own_ext_trans M0 E174
    have J177 := I0.ext E174
    have F174_0 : Fld Z h174 a174 "java/lang/String" "value" "[B" (.null) := (D174 (Or.inr (hw _ (List.mem_of_getElem? (i := 24) rfl))) (ty := .array .byte) (by decide))
    have F174_1 : Fld Z h174 a174 "java/lang/String" "coder" "B" (.int ((0 : Int32))) := (D174 (Or.inr (hw _ (List.mem_of_getElem? (i := 25) rfl))) (ty := .byte) (by decide))
    refine own_on st174 ?_
    show own_Go p e below F (T174.setTop (mkF m 40 #[.val (.int mo), .val (.int a), .val (.int b), .val (.int c1), .val (.int d), .val (.int y0), .val (.int y1), .val (.int y2), .val (.int y3), .val (.int ((5 : Int32))), .unset, .unset, .unset] [(.ref a174)]))
    have gz_a174 : Z.heap.size ≤ a174 := Nat.le_trans EZ.1 ge175
    refine own_dup X174.here hx (hb hby at_40) rfl (pc' := 41) rfl ?_
    refine own_bipush X174.here hx (hb hby at_41) (v := 63) rfl (pc' := 43) rfl ?_
    obtain ⟨T178, h178, k178, X178, e178, E178, A178, st178⟩ := newP X174 hx J177.1 (hw _ (List.mem_of_getElem? (i := 11) rfl)) e174 (g := (mkF m 43 #[.val (.int mo), .val (.int a), .val (.int b), .val (.int c1), .val (.int d), .val (.int y0), .val (.int y1), .val (.int y2), .val (.int y3), .val (.int ((5 : Int32))), .unset, .unset, .unset] [(.int ((63 : Int32))), (.ref a174), (.ref a174)])) rfl (hb hby at_43) rfl (by decide) (cap := 63) (by decide) (by decide) (by decide) (by decide)
    obtain ⟨a178, g178⟩ : ∃ z, z = h174.size := ⟨_, rfl⟩
    rw [← g178] at A178 st178
    have ne179 : a174 ≠ a178 := Nat.ne_of_lt (by rw [g178]; exact A174.lt)
    have ge180 : h0.size ≤ a178 := by rw [g178]; exact f176.1
    have f181 := own_ext_trans f176 E178
    have f182 := A174.ext E178
    have f183 := F174_0.ext E178
    have f184 := F174_1.ext E178
    have f185 := Safe.ext E178 J177.ch sf174
    have J186 := J177.ext E178
    have V178 := (Arv.new A178 (by decide)).pad (pad_rep [] (defaultValue (newarray.typeOf .char)) ((63 : Int32)).toNatClampNeg)
    refine own_on st178 ?_
    show own_Go p e below F (T178.setTop (mkF m 45 #[.val (.int mo), .val (.int a), .val (.int b), .val (.int c1), .val (.int d), .val (.int y0), .val (.int y1), .val (.int y2), .val (.int y3), .val (.int ((5 : Int32))), .unset, .unset, .unset] [(.ref a178), (.ref a174), (.ref a174)]))
    have gz_a178 : Z.heap.size ≤ a178 := Nat.le_trans EZ.1 ge180
    have FV0 : Arv Z h178 a178 k178 .char (Int32.ofNat 63) (own_fl (own_D y1 y0 63) 63 0) (.int (0 : Int32)) := by have q := V178; rw [show ((63 : Int32)).toNatClampNeg = 63 from by decide] at q; exact q
    have GF : own_Fi s Z EL s.vm "com/example/cladistic/cladistic/NamesIsPlainIdentifierPinLaw" m h0 a174 a178 k178 (own_D y1 y0 63) 63 0 h178 _ := ⟨J186, f181, ge180, gz_a178, ne179, f182, f183, f184, f185, N8, FV0⟩
    refine own_fillK (k := 0) X178 hx e178 GF (hb hby at_45) (pc1 := 46) rfl (j := 0) rfl (fun st Kq => own_iconst X178.here hx (hb hby at_46) (v := 0) rfl (pc' := 47) rfl Kq) (fun st Kq => own_iload X178.here hx (hb hby at_47) rfl (pc' := 49) rfl Kq) (hb hby at_49) (pc4 := 50) rfl (by decide) (Nat.le_of_eq (own_DL y1 y0 (by decide)).symm) (by decide) rfl ny1 (fun TF hFl LF XF eF GF => ?_)
    refine own_fillK (k := 1) XF hx eF GF (hb hby at_50) (pc1 := 51) rfl (j := 1) rfl (fun st Kq => own_iconst XF.here hx (hb hby at_51) (v := 1) rfl (pc' := 52) rfl Kq) (fun st Kq => own_bipush XF.here hx (hb hby at_52) (v := 97) rfl (pc' := 54) rfl Kq) (hb hby at_54) (pc4 := 55) rfl (by decide) (Nat.le_of_eq (own_DL y1 y0 (by decide)).symm) (by decide) rfl (by decide) (fun TF hFl LF XF eF GF => ?_)
    refine own_fillK (k := 2) XF hx eF GF (hb hby at_55) (pc1 := 56) rfl (j := 2) rfl (fun st Kq => own_iconst XF.here hx (hb hby at_56) (v := 2) rfl (pc' := 57) rfl Kq) (fun st Kq => own_bipush XF.here hx (hb hby at_57) (v := 97) rfl (pc' := 59) rfl Kq) (hb hby at_59) (pc4 := 60) rfl (by decide) (Nat.le_of_eq (own_DL y1 y0 (by decide)).symm) (by decide) rfl (by decide) (fun TF hFl LF XF eF GF => ?_)
    refine own_fillK (k := 3) XF hx eF GF (hb hby at_60) (pc1 := 61) rfl (j := 3) rfl (fun st Kq => own_iconst XF.here hx (hb hby at_61) (v := 3) rfl (pc' := 62) rfl Kq) (fun st Kq => own_bipush XF.here hx (hb hby at_62) (v := 97) rfl (pc' := 64) rfl Kq) (hb hby at_64) (pc4 := 65) rfl (by decide) (Nat.le_of_eq (own_DL y1 y0 (by decide)).symm) (by decide) rfl (by decide) (fun TF hFl LF XF eF GF => ?_)
    refine own_fillK (k := 4) XF hx eF GF (hb hby at_65) (pc1 := 66) rfl (j := 4) rfl (fun st Kq => own_iconst XF.here hx (hb hby at_66) (v := 4) rfl (pc' := 67) rfl Kq) (fun st Kq => own_bipush XF.here hx (hb hby at_67) (v := 97) rfl (pc' := 69) rfl Kq) (hb hby at_69) (pc4 := 70) rfl (by decide) (Nat.le_of_eq (own_DL y1 y0 (by decide)).symm) (by decide) rfl (by decide) (fun TF hFl LF XF eF GF => ?_)
    refine own_fillK (k := 5) XF hx eF GF (hb hby at_70) (pc1 := 71) rfl (j := 5) rfl (fun st Kq => own_iconst XF.here hx (hb hby at_71) (v := 5) rfl (pc' := 72) rfl Kq) (fun st Kq => own_bipush XF.here hx (hb hby at_72) (v := 97) rfl (pc' := 74) rfl Kq) (hb hby at_74) (pc4 := 75) rfl (by decide) (Nat.le_of_eq (own_DL y1 y0 (by decide)).symm) (by decide) rfl (by decide) (fun TF hFl LF XF eF GF => ?_)
    refine own_fillK (k := 6) XF hx eF GF (hb hby at_75) (pc1 := 76) rfl (j := 6) rfl (fun st Kq => own_bipush XF.here hx (hb hby at_76) (v := 6) rfl (pc' := 78) rfl Kq) (fun st Kq => own_bipush XF.here hx (hb hby at_78) (v := 97) rfl (pc' := 80) rfl Kq) (hb hby at_80) (pc4 := 81) rfl (by decide) (Nat.le_of_eq (own_DL y1 y0 (by decide)).symm) (by decide) rfl (by decide) (fun TF hFl LF XF eF GF => ?_)
    refine own_fillK (k := 7) XF hx eF GF (hb hby at_81) (pc1 := 82) rfl (j := 7) rfl (fun st Kq => own_bipush XF.here hx (hb hby at_82) (v := 7) rfl (pc' := 84) rfl Kq) (fun st Kq => own_bipush XF.here hx (hb hby at_84) (v := 97) rfl (pc' := 86) rfl Kq) (hb hby at_86) (pc4 := 87) rfl (by decide) (Nat.le_of_eq (own_DL y1 y0 (by decide)).symm) (by decide) rfl (by decide) (fun TF hFl LF XF eF GF => ?_)
    refine own_fillK (k := 8) XF hx eF GF (hb hby at_87) (pc1 := 88) rfl (j := 8) rfl (fun st Kq => own_bipush XF.here hx (hb hby at_88) (v := 8) rfl (pc' := 90) rfl Kq) (fun st Kq => own_bipush XF.here hx (hb hby at_90) (v := 97) rfl (pc' := 92) rfl Kq) (hb hby at_92) (pc4 := 93) rfl (by decide) (Nat.le_of_eq (own_DL y1 y0 (by decide)).symm) (by decide) rfl (by decide) (fun TF hFl LF XF eF GF => ?_)
    refine own_fillK (k := 9) XF hx eF GF (hb hby at_93) (pc1 := 94) rfl (j := 9) rfl (fun st Kq => own_bipush XF.here hx (hb hby at_94) (v := 9) rfl (pc' := 96) rfl Kq) (fun st Kq => own_bipush XF.here hx (hb hby at_96) (v := 97) rfl (pc' := 98) rfl Kq) (hb hby at_98) (pc4 := 99) rfl (by decide) (Nat.le_of_eq (own_DL y1 y0 (by decide)).symm) (by decide) rfl (by decide) (fun TF hFl LF XF eF GF => ?_)
    refine own_fillK (k := 10) XF hx eF GF (hb hby at_99) (pc1 := 100) rfl (j := 10) rfl (fun st Kq => own_bipush XF.here hx (hb hby at_100) (v := 10) rfl (pc' := 102) rfl Kq) (fun st Kq => own_bipush XF.here hx (hb hby at_102) (v := 97) rfl (pc' := 104) rfl Kq) (hb hby at_104) (pc4 := 105) rfl (by decide) (Nat.le_of_eq (own_DL y1 y0 (by decide)).symm) (by decide) rfl (by decide) (fun TF hFl LF XF eF GF => ?_)
    refine own_fillK (k := 11) XF hx eF GF (hb hby at_105) (pc1 := 106) rfl (j := 11) rfl (fun st Kq => own_bipush XF.here hx (hb hby at_106) (v := 11) rfl (pc' := 108) rfl Kq) (fun st Kq => own_bipush XF.here hx (hb hby at_108) (v := 97) rfl (pc' := 110) rfl Kq) (hb hby at_110) (pc4 := 111) rfl (by decide) (Nat.le_of_eq (own_DL y1 y0 (by decide)).symm) (by decide) rfl (by decide) (fun TF hFl LF XF eF GF => ?_)
    refine own_fillK (k := 12) XF hx eF GF (hb hby at_111) (pc1 := 112) rfl (j := 12) rfl (fun st Kq => own_bipush XF.here hx (hb hby at_112) (v := 12) rfl (pc' := 114) rfl Kq) (fun st Kq => own_bipush XF.here hx (hb hby at_114) (v := 97) rfl (pc' := 116) rfl Kq) (hb hby at_116) (pc4 := 117) rfl (by decide) (Nat.le_of_eq (own_DL y1 y0 (by decide)).symm) (by decide) rfl (by decide) (fun TF hFl LF XF eF GF => ?_)
    refine own_fillK (k := 13) XF hx eF GF (hb hby at_117) (pc1 := 118) rfl (j := 13) rfl (fun st Kq => own_bipush XF.here hx (hb hby at_118) (v := 13) rfl (pc' := 120) rfl Kq) (fun st Kq => own_bipush XF.here hx (hb hby at_120) (v := 97) rfl (pc' := 122) rfl Kq) (hb hby at_122) (pc4 := 123) rfl (by decide) (Nat.le_of_eq (own_DL y1 y0 (by decide)).symm) (by decide) rfl (by decide) (fun TF hFl LF XF eF GF => ?_)
    refine own_fillK (k := 14) XF hx eF GF (hb hby at_123) (pc1 := 124) rfl (j := 14) rfl (fun st Kq => own_bipush XF.here hx (hb hby at_124) (v := 14) rfl (pc' := 126) rfl Kq) (fun st Kq => own_bipush XF.here hx (hb hby at_126) (v := 97) rfl (pc' := 128) rfl Kq) (hb hby at_128) (pc4 := 129) rfl (by decide) (Nat.le_of_eq (own_DL y1 y0 (by decide)).symm) (by decide) rfl (by decide) (fun TF hFl LF XF eF GF => ?_)
    refine own_fillK (k := 15) XF hx eF GF (hb hby at_129) (pc1 := 130) rfl (j := 15) rfl (fun st Kq => own_bipush XF.here hx (hb hby at_130) (v := 15) rfl (pc' := 132) rfl Kq) (fun st Kq => own_bipush XF.here hx (hb hby at_132) (v := 97) rfl (pc' := 134) rfl Kq) (hb hby at_134) (pc4 := 135) rfl (by decide) (Nat.le_of_eq (own_DL y1 y0 (by decide)).symm) (by decide) rfl (by decide) (fun TF hFl LF XF eF GF => ?_)
    refine own_fillK (k := 16) XF hx eF GF (hb hby at_135) (pc1 := 136) rfl (j := 16) rfl (fun st Kq => own_bipush XF.here hx (hb hby at_136) (v := 16) rfl (pc' := 138) rfl Kq) (fun st Kq => own_bipush XF.here hx (hb hby at_138) (v := 97) rfl (pc' := 140) rfl Kq) (hb hby at_140) (pc4 := 141) rfl (by decide) (Nat.le_of_eq (own_DL y1 y0 (by decide)).symm) (by decide) rfl (by decide) (fun TF hFl LF XF eF GF => ?_)
    refine own_fillK (k := 17) XF hx eF GF (hb hby at_141) (pc1 := 142) rfl (j := 17) rfl (fun st Kq => own_bipush XF.here hx (hb hby at_142) (v := 17) rfl (pc' := 144) rfl Kq) (fun st Kq => own_bipush XF.here hx (hb hby at_144) (v := 97) rfl (pc' := 146) rfl Kq) (hb hby at_146) (pc4 := 147) rfl (by decide) (Nat.le_of_eq (own_DL y1 y0 (by decide)).symm) (by decide) rfl (by decide) (fun TF hFl LF XF eF GF => ?_)
    refine own_fillK (k := 18) XF hx eF GF (hb hby at_147) (pc1 := 148) rfl (j := 18) rfl (fun st Kq => own_bipush XF.here hx (hb hby at_148) (v := 18) rfl (pc' := 150) rfl Kq) (fun st Kq => own_bipush XF.here hx (hb hby at_150) (v := 97) rfl (pc' := 152) rfl Kq) (hb hby at_152) (pc4 := 153) rfl (by decide) (Nat.le_of_eq (own_DL y1 y0 (by decide)).symm) (by decide) rfl (by decide) (fun TF hFl LF XF eF GF => ?_)
    refine own_fillK (k := 19) XF hx eF GF (hb hby at_153) (pc1 := 154) rfl (j := 19) rfl (fun st Kq => own_bipush XF.here hx (hb hby at_154) (v := 19) rfl (pc' := 156) rfl Kq) (fun st Kq => own_bipush XF.here hx (hb hby at_156) (v := 97) rfl (pc' := 158) rfl Kq) (hb hby at_158) (pc4 := 159) rfl (by decide) (Nat.le_of_eq (own_DL y1 y0 (by decide)).symm) (by decide) rfl (by decide) (fun TF hFl LF XF eF GF => ?_)
    refine own_fillK (k := 20) XF hx eF GF (hb hby at_159) (pc1 := 160) rfl (j := 20) rfl (fun st Kq => own_bipush XF.here hx (hb hby at_160) (v := 20) rfl (pc' := 162) rfl Kq) (fun st Kq => own_bipush XF.here hx (hb hby at_162) (v := 97) rfl (pc' := 164) rfl Kq) (hb hby at_164) (pc4 := 165) rfl (by decide) (Nat.le_of_eq (own_DL y1 y0 (by decide)).symm) (by decide) rfl (by decide) (fun TF hFl LF XF eF GF => ?_)
    refine own_fillK (k := 21) XF hx eF GF (hb hby at_165) (pc1 := 166) rfl (j := 21) rfl (fun st Kq => own_bipush XF.here hx (hb hby at_166) (v := 21) rfl (pc' := 168) rfl Kq) (fun st Kq => own_bipush XF.here hx (hb hby at_168) (v := 97) rfl (pc' := 170) rfl Kq) (hb hby at_170) (pc4 := 171) rfl (by decide) (Nat.le_of_eq (own_DL y1 y0 (by decide)).symm) (by decide) rfl (by decide) (fun TF hFl LF XF eF GF => ?_)
    refine own_fillK (k := 22) XF hx eF GF (hb hby at_171) (pc1 := 172) rfl (j := 22) rfl (fun st Kq => own_bipush XF.here hx (hb hby at_172) (v := 22) rfl (pc' := 174) rfl Kq) (fun st Kq => own_bipush XF.here hx (hb hby at_174) (v := 97) rfl (pc' := 176) rfl Kq) (hb hby at_176) (pc4 := 177) rfl (by decide) (Nat.le_of_eq (own_DL y1 y0 (by decide)).symm) (by decide) rfl (by decide) (fun TF hFl LF XF eF GF => ?_)
    refine own_fillK (k := 23) XF hx eF GF (hb hby at_177) (pc1 := 178) rfl (j := 23) rfl (fun st Kq => own_bipush XF.here hx (hb hby at_178) (v := 23) rfl (pc' := 180) rfl Kq) (fun st Kq => own_bipush XF.here hx (hb hby at_180) (v := 97) rfl (pc' := 182) rfl Kq) (hb hby at_182) (pc4 := 183) rfl (by decide) (Nat.le_of_eq (own_DL y1 y0 (by decide)).symm) (by decide) rfl (by decide) (fun TF hFl LF XF eF GF => ?_)
    refine own_fillK (k := 24) XF hx eF GF (hb hby at_183) (pc1 := 184) rfl (j := 24) rfl (fun st Kq => own_bipush XF.here hx (hb hby at_184) (v := 24) rfl (pc' := 186) rfl Kq) (fun st Kq => own_bipush XF.here hx (hb hby at_186) (v := 97) rfl (pc' := 188) rfl Kq) (hb hby at_188) (pc4 := 189) rfl (by decide) (Nat.le_of_eq (own_DL y1 y0 (by decide)).symm) (by decide) rfl (by decide) (fun TF hFl LF XF eF GF => ?_)
    refine own_fillK (k := 25) XF hx eF GF (hb hby at_189) (pc1 := 190) rfl (j := 25) rfl (fun st Kq => own_bipush XF.here hx (hb hby at_190) (v := 25) rfl (pc' := 192) rfl Kq) (fun st Kq => own_bipush XF.here hx (hb hby at_192) (v := 97) rfl (pc' := 194) rfl Kq) (hb hby at_194) (pc4 := 195) rfl (by decide) (Nat.le_of_eq (own_DL y1 y0 (by decide)).symm) (by decide) rfl (by decide) (fun TF hFl LF XF eF GF => ?_)
    refine own_fillK (k := 26) XF hx eF GF (hb hby at_195) (pc1 := 196) rfl (j := 26) rfl (fun st Kq => own_bipush XF.here hx (hb hby at_196) (v := 26) rfl (pc' := 198) rfl Kq) (fun st Kq => own_bipush XF.here hx (hb hby at_198) (v := 97) rfl (pc' := 200) rfl Kq) (hb hby at_200) (pc4 := 201) rfl (by decide) (Nat.le_of_eq (own_DL y1 y0 (by decide)).symm) (by decide) rfl (by decide) (fun TF hFl LF XF eF GF => ?_)
    refine own_fillK (k := 27) XF hx eF GF (hb hby at_201) (pc1 := 202) rfl (j := 27) rfl (fun st Kq => own_bipush XF.here hx (hb hby at_202) (v := 27) rfl (pc' := 204) rfl Kq) (fun st Kq => own_bipush XF.here hx (hb hby at_204) (v := 97) rfl (pc' := 206) rfl Kq) (hb hby at_206) (pc4 := 207) rfl (by decide) (Nat.le_of_eq (own_DL y1 y0 (by decide)).symm) (by decide) rfl (by decide) (fun TF hFl LF XF eF GF => ?_)
    refine own_fillK (k := 28) XF hx eF GF (hb hby at_207) (pc1 := 208) rfl (j := 28) rfl (fun st Kq => own_bipush XF.here hx (hb hby at_208) (v := 28) rfl (pc' := 210) rfl Kq) (fun st Kq => own_bipush XF.here hx (hb hby at_210) (v := 97) rfl (pc' := 212) rfl Kq) (hb hby at_212) (pc4 := 213) rfl (by decide) (Nat.le_of_eq (own_DL y1 y0 (by decide)).symm) (by decide) rfl (by decide) (fun TF hFl LF XF eF GF => ?_)
    refine own_fillK (k := 29) XF hx eF GF (hb hby at_213) (pc1 := 214) rfl (j := 29) rfl (fun st Kq => own_bipush XF.here hx (hb hby at_214) (v := 29) rfl (pc' := 216) rfl Kq) (fun st Kq => own_bipush XF.here hx (hb hby at_216) (v := 97) rfl (pc' := 218) rfl Kq) (hb hby at_218) (pc4 := 219) rfl (by decide) (Nat.le_of_eq (own_DL y1 y0 (by decide)).symm) (by decide) rfl (by decide) (fun TF hFl LF XF eF GF => ?_)
    refine own_fillK (k := 30) XF hx eF GF (hb hby at_219) (pc1 := 220) rfl (j := 30) rfl (fun st Kq => own_bipush XF.here hx (hb hby at_220) (v := 30) rfl (pc' := 222) rfl Kq) (fun st Kq => own_bipush XF.here hx (hb hby at_222) (v := 97) rfl (pc' := 224) rfl Kq) (hb hby at_224) (pc4 := 225) rfl (by decide) (Nat.le_of_eq (own_DL y1 y0 (by decide)).symm) (by decide) rfl (by decide) (fun TF hFl LF XF eF GF => ?_)
    refine own_fillK (k := 31) XF hx eF GF (hb hby at_225) (pc1 := 226) rfl (j := 31) rfl (fun st Kq => own_bipush XF.here hx (hb hby at_226) (v := 31) rfl (pc' := 228) rfl Kq) (fun st Kq => own_bipush XF.here hx (hb hby at_228) (v := 97) rfl (pc' := 230) rfl Kq) (hb hby at_230) (pc4 := 231) rfl (by decide) (Nat.le_of_eq (own_DL y1 y0 (by decide)).symm) (by decide) rfl (by decide) (fun TF hFl LF XF eF GF => ?_)
    refine own_fillK (k := 32) XF hx eF GF (hb hby at_231) (pc1 := 232) rfl (j := 32) rfl (fun st Kq => own_bipush XF.here hx (hb hby at_232) (v := 32) rfl (pc' := 234) rfl Kq) (fun st Kq => own_bipush XF.here hx (hb hby at_234) (v := 97) rfl (pc' := 236) rfl Kq) (hb hby at_236) (pc4 := 237) rfl (by decide) (Nat.le_of_eq (own_DL y1 y0 (by decide)).symm) (by decide) rfl (by decide) (fun TF hFl LF XF eF GF => ?_)
    refine own_fillK (k := 33) XF hx eF GF (hb hby at_237) (pc1 := 238) rfl (j := 33) rfl (fun st Kq => own_bipush XF.here hx (hb hby at_238) (v := 33) rfl (pc' := 240) rfl Kq) (fun st Kq => own_bipush XF.here hx (hb hby at_240) (v := 97) rfl (pc' := 242) rfl Kq) (hb hby at_242) (pc4 := 243) rfl (by decide) (Nat.le_of_eq (own_DL y1 y0 (by decide)).symm) (by decide) rfl (by decide) (fun TF hFl LF XF eF GF => ?_)
    refine own_fillK (k := 34) XF hx eF GF (hb hby at_243) (pc1 := 244) rfl (j := 34) rfl (fun st Kq => own_bipush XF.here hx (hb hby at_244) (v := 34) rfl (pc' := 246) rfl Kq) (fun st Kq => own_bipush XF.here hx (hb hby at_246) (v := 97) rfl (pc' := 248) rfl Kq) (hb hby at_248) (pc4 := 249) rfl (by decide) (Nat.le_of_eq (own_DL y1 y0 (by decide)).symm) (by decide) rfl (by decide) (fun TF hFl LF XF eF GF => ?_)
    refine own_fillK (k := 35) XF hx eF GF (hb hby at_249) (pc1 := 250) rfl (j := 35) rfl (fun st Kq => own_bipush XF.here hx (hb hby at_250) (v := 35) rfl (pc' := 252) rfl Kq) (fun st Kq => own_bipush XF.here hx (hb hby at_252) (v := 97) rfl (pc' := 254) rfl Kq) (hb hby at_254) (pc4 := 255) rfl (by decide) (Nat.le_of_eq (own_DL y1 y0 (by decide)).symm) (by decide) rfl (by decide) (fun TF hFl LF XF eF GF => ?_)
    refine own_fillK (k := 36) XF hx eF GF (hb hby at_255) (pc1 := 256) rfl (j := 36) rfl (fun st Kq => own_bipush XF.here hx (hb hby at_256) (v := 36) rfl (pc' := 258) rfl Kq) (fun st Kq => own_bipush XF.here hx (hb hby at_258) (v := 97) rfl (pc' := 260) rfl Kq) (hb hby at_260) (pc4 := 261) rfl (by decide) (Nat.le_of_eq (own_DL y1 y0 (by decide)).symm) (by decide) rfl (by decide) (fun TF hFl LF XF eF GF => ?_)
    refine own_fillK (k := 37) XF hx eF GF (hb hby at_261) (pc1 := 262) rfl (j := 37) rfl (fun st Kq => own_bipush XF.here hx (hb hby at_262) (v := 37) rfl (pc' := 264) rfl Kq) (fun st Kq => own_bipush XF.here hx (hb hby at_264) (v := 97) rfl (pc' := 266) rfl Kq) (hb hby at_266) (pc4 := 267) rfl (by decide) (Nat.le_of_eq (own_DL y1 y0 (by decide)).symm) (by decide) rfl (by decide) (fun TF hFl LF XF eF GF => ?_)
    refine own_fillK (k := 38) XF hx eF GF (hb hby at_267) (pc1 := 268) rfl (j := 38) rfl (fun st Kq => own_bipush XF.here hx (hb hby at_268) (v := 38) rfl (pc' := 270) rfl Kq) (fun st Kq => own_bipush XF.here hx (hb hby at_270) (v := 97) rfl (pc' := 272) rfl Kq) (hb hby at_272) (pc4 := 273) rfl (by decide) (Nat.le_of_eq (own_DL y1 y0 (by decide)).symm) (by decide) rfl (by decide) (fun TF hFl LF XF eF GF => ?_)
    refine own_fillK (k := 39) XF hx eF GF (hb hby at_273) (pc1 := 274) rfl (j := 39) rfl (fun st Kq => own_bipush XF.here hx (hb hby at_274) (v := 39) rfl (pc' := 276) rfl Kq) (fun st Kq => own_bipush XF.here hx (hb hby at_276) (v := 97) rfl (pc' := 278) rfl Kq) (hb hby at_278) (pc4 := 279) rfl (by decide) (Nat.le_of_eq (own_DL y1 y0 (by decide)).symm) (by decide) rfl (by decide) (fun TF hFl LF XF eF GF => ?_)
    refine own_fillK (k := 40) XF hx eF GF (hb hby at_279) (pc1 := 280) rfl (j := 40) rfl (fun st Kq => own_bipush XF.here hx (hb hby at_280) (v := 40) rfl (pc' := 282) rfl Kq) (fun st Kq => own_bipush XF.here hx (hb hby at_282) (v := 97) rfl (pc' := 284) rfl Kq) (hb hby at_284) (pc4 := 285) rfl (by decide) (Nat.le_of_eq (own_DL y1 y0 (by decide)).symm) (by decide) rfl (by decide) (fun TF hFl LF XF eF GF => ?_)
    refine own_fillK (k := 41) XF hx eF GF (hb hby at_285) (pc1 := 286) rfl (j := 41) rfl (fun st Kq => own_bipush XF.here hx (hb hby at_286) (v := 41) rfl (pc' := 288) rfl Kq) (fun st Kq => own_bipush XF.here hx (hb hby at_288) (v := 97) rfl (pc' := 290) rfl Kq) (hb hby at_290) (pc4 := 291) rfl (by decide) (Nat.le_of_eq (own_DL y1 y0 (by decide)).symm) (by decide) rfl (by decide) (fun TF hFl LF XF eF GF => ?_)
    refine own_fillK (k := 42) XF hx eF GF (hb hby at_291) (pc1 := 292) rfl (j := 42) rfl (fun st Kq => own_bipush XF.here hx (hb hby at_292) (v := 42) rfl (pc' := 294) rfl Kq) (fun st Kq => own_bipush XF.here hx (hb hby at_294) (v := 97) rfl (pc' := 296) rfl Kq) (hb hby at_296) (pc4 := 297) rfl (by decide) (Nat.le_of_eq (own_DL y1 y0 (by decide)).symm) (by decide) rfl (by decide) (fun TF hFl LF XF eF GF => ?_)
    refine own_fillK (k := 43) XF hx eF GF (hb hby at_297) (pc1 := 298) rfl (j := 43) rfl (fun st Kq => own_bipush XF.here hx (hb hby at_298) (v := 43) rfl (pc' := 300) rfl Kq) (fun st Kq => own_bipush XF.here hx (hb hby at_300) (v := 97) rfl (pc' := 302) rfl Kq) (hb hby at_302) (pc4 := 303) rfl (by decide) (Nat.le_of_eq (own_DL y1 y0 (by decide)).symm) (by decide) rfl (by decide) (fun TF hFl LF XF eF GF => ?_)
    refine own_fillK (k := 44) XF hx eF GF (hb hby at_303) (pc1 := 304) rfl (j := 44) rfl (fun st Kq => own_bipush XF.here hx (hb hby at_304) (v := 44) rfl (pc' := 306) rfl Kq) (fun st Kq => own_bipush XF.here hx (hb hby at_306) (v := 97) rfl (pc' := 308) rfl Kq) (hb hby at_308) (pc4 := 309) rfl (by decide) (Nat.le_of_eq (own_DL y1 y0 (by decide)).symm) (by decide) rfl (by decide) (fun TF hFl LF XF eF GF => ?_)
    refine own_fillK (k := 45) XF hx eF GF (hb hby at_309) (pc1 := 310) rfl (j := 45) rfl (fun st Kq => own_bipush XF.here hx (hb hby at_310) (v := 45) rfl (pc' := 312) rfl Kq) (fun st Kq => own_bipush XF.here hx (hb hby at_312) (v := 97) rfl (pc' := 314) rfl Kq) (hb hby at_314) (pc4 := 315) rfl (by decide) (Nat.le_of_eq (own_DL y1 y0 (by decide)).symm) (by decide) rfl (by decide) (fun TF hFl LF XF eF GF => ?_)
    refine own_fillK (k := 46) XF hx eF GF (hb hby at_315) (pc1 := 316) rfl (j := 46) rfl (fun st Kq => own_bipush XF.here hx (hb hby at_316) (v := 46) rfl (pc' := 318) rfl Kq) (fun st Kq => own_bipush XF.here hx (hb hby at_318) (v := 97) rfl (pc' := 320) rfl Kq) (hb hby at_320) (pc4 := 321) rfl (by decide) (Nat.le_of_eq (own_DL y1 y0 (by decide)).symm) (by decide) rfl (by decide) (fun TF hFl LF XF eF GF => ?_)
    refine own_fillK (k := 47) XF hx eF GF (hb hby at_321) (pc1 := 322) rfl (j := 47) rfl (fun st Kq => own_bipush XF.here hx (hb hby at_322) (v := 47) rfl (pc' := 324) rfl Kq) (fun st Kq => own_bipush XF.here hx (hb hby at_324) (v := 97) rfl (pc' := 326) rfl Kq) (hb hby at_326) (pc4 := 327) rfl (by decide) (Nat.le_of_eq (own_DL y1 y0 (by decide)).symm) (by decide) rfl (by decide) (fun TF hFl LF XF eF GF => ?_)
    refine own_fillK (k := 48) XF hx eF GF (hb hby at_327) (pc1 := 328) rfl (j := 48) rfl (fun st Kq => own_bipush XF.here hx (hb hby at_328) (v := 48) rfl (pc' := 330) rfl Kq) (fun st Kq => own_bipush XF.here hx (hb hby at_330) (v := 97) rfl (pc' := 332) rfl Kq) (hb hby at_332) (pc4 := 333) rfl (by decide) (Nat.le_of_eq (own_DL y1 y0 (by decide)).symm) (by decide) rfl (by decide) (fun TF hFl LF XF eF GF => ?_)
    refine own_fillK (k := 49) XF hx eF GF (hb hby at_333) (pc1 := 334) rfl (j := 49) rfl (fun st Kq => own_bipush XF.here hx (hb hby at_334) (v := 49) rfl (pc' := 336) rfl Kq) (fun st Kq => own_bipush XF.here hx (hb hby at_336) (v := 97) rfl (pc' := 338) rfl Kq) (hb hby at_338) (pc4 := 339) rfl (by decide) (Nat.le_of_eq (own_DL y1 y0 (by decide)).symm) (by decide) rfl (by decide) (fun TF hFl LF XF eF GF => ?_)
    refine own_fillK (k := 50) XF hx eF GF (hb hby at_339) (pc1 := 340) rfl (j := 50) rfl (fun st Kq => own_bipush XF.here hx (hb hby at_340) (v := 50) rfl (pc' := 342) rfl Kq) (fun st Kq => own_bipush XF.here hx (hb hby at_342) (v := 97) rfl (pc' := 344) rfl Kq) (hb hby at_344) (pc4 := 345) rfl (by decide) (Nat.le_of_eq (own_DL y1 y0 (by decide)).symm) (by decide) rfl (by decide) (fun TF hFl LF XF eF GF => ?_)
    refine own_fillK (k := 51) XF hx eF GF (hb hby at_345) (pc1 := 346) rfl (j := 51) rfl (fun st Kq => own_bipush XF.here hx (hb hby at_346) (v := 51) rfl (pc' := 348) rfl Kq) (fun st Kq => own_bipush XF.here hx (hb hby at_348) (v := 97) rfl (pc' := 350) rfl Kq) (hb hby at_350) (pc4 := 351) rfl (by decide) (Nat.le_of_eq (own_DL y1 y0 (by decide)).symm) (by decide) rfl (by decide) (fun TF hFl LF XF eF GF => ?_)
    refine own_fillK (k := 52) XF hx eF GF (hb hby at_351) (pc1 := 352) rfl (j := 52) rfl (fun st Kq => own_bipush XF.here hx (hb hby at_352) (v := 52) rfl (pc' := 354) rfl Kq) (fun st Kq => own_bipush XF.here hx (hb hby at_354) (v := 97) rfl (pc' := 356) rfl Kq) (hb hby at_356) (pc4 := 357) rfl (by decide) (Nat.le_of_eq (own_DL y1 y0 (by decide)).symm) (by decide) rfl (by decide) (fun TF hFl LF XF eF GF => ?_)
    refine own_fillK (k := 53) XF hx eF GF (hb hby at_357) (pc1 := 358) rfl (j := 53) rfl (fun st Kq => own_bipush XF.here hx (hb hby at_358) (v := 53) rfl (pc' := 360) rfl Kq) (fun st Kq => own_bipush XF.here hx (hb hby at_360) (v := 97) rfl (pc' := 362) rfl Kq) (hb hby at_362) (pc4 := 363) rfl (by decide) (Nat.le_of_eq (own_DL y1 y0 (by decide)).symm) (by decide) rfl (by decide) (fun TF hFl LF XF eF GF => ?_)
    refine own_fillK (k := 54) XF hx eF GF (hb hby at_363) (pc1 := 364) rfl (j := 54) rfl (fun st Kq => own_bipush XF.here hx (hb hby at_364) (v := 54) rfl (pc' := 366) rfl Kq) (fun st Kq => own_bipush XF.here hx (hb hby at_366) (v := 97) rfl (pc' := 368) rfl Kq) (hb hby at_368) (pc4 := 369) rfl (by decide) (Nat.le_of_eq (own_DL y1 y0 (by decide)).symm) (by decide) rfl (by decide) (fun TF hFl LF XF eF GF => ?_)
    refine own_fillK (k := 55) XF hx eF GF (hb hby at_369) (pc1 := 370) rfl (j := 55) rfl (fun st Kq => own_bipush XF.here hx (hb hby at_370) (v := 55) rfl (pc' := 372) rfl Kq) (fun st Kq => own_bipush XF.here hx (hb hby at_372) (v := 97) rfl (pc' := 374) rfl Kq) (hb hby at_374) (pc4 := 375) rfl (by decide) (Nat.le_of_eq (own_DL y1 y0 (by decide)).symm) (by decide) rfl (by decide) (fun TF hFl LF XF eF GF => ?_)
    refine own_fillK (k := 56) XF hx eF GF (hb hby at_375) (pc1 := 376) rfl (j := 56) rfl (fun st Kq => own_bipush XF.here hx (hb hby at_376) (v := 56) rfl (pc' := 378) rfl Kq) (fun st Kq => own_bipush XF.here hx (hb hby at_378) (v := 97) rfl (pc' := 380) rfl Kq) (hb hby at_380) (pc4 := 381) rfl (by decide) (Nat.le_of_eq (own_DL y1 y0 (by decide)).symm) (by decide) rfl (by decide) (fun TF hFl LF XF eF GF => ?_)
    refine own_fillK (k := 57) XF hx eF GF (hb hby at_381) (pc1 := 382) rfl (j := 57) rfl (fun st Kq => own_bipush XF.here hx (hb hby at_382) (v := 57) rfl (pc' := 384) rfl Kq) (fun st Kq => own_bipush XF.here hx (hb hby at_384) (v := 97) rfl (pc' := 386) rfl Kq) (hb hby at_386) (pc4 := 387) rfl (by decide) (Nat.le_of_eq (own_DL y1 y0 (by decide)).symm) (by decide) rfl (by decide) (fun TF hFl LF XF eF GF => ?_)
    refine own_fillK (k := 58) XF hx eF GF (hb hby at_387) (pc1 := 388) rfl (j := 58) rfl (fun st Kq => own_bipush XF.here hx (hb hby at_388) (v := 58) rfl (pc' := 390) rfl Kq) (fun st Kq => own_bipush XF.here hx (hb hby at_390) (v := 97) rfl (pc' := 392) rfl Kq) (hb hby at_392) (pc4 := 393) rfl (by decide) (Nat.le_of_eq (own_DL y1 y0 (by decide)).symm) (by decide) rfl (by decide) (fun TF hFl LF XF eF GF => ?_)
    refine own_fillK (k := 59) XF hx eF GF (hb hby at_393) (pc1 := 394) rfl (j := 59) rfl (fun st Kq => own_bipush XF.here hx (hb hby at_394) (v := 59) rfl (pc' := 396) rfl Kq) (fun st Kq => own_bipush XF.here hx (hb hby at_396) (v := 97) rfl (pc' := 398) rfl Kq) (hb hby at_398) (pc4 := 399) rfl (by decide) (Nat.le_of_eq (own_DL y1 y0 (by decide)).symm) (by decide) rfl (by decide) (fun TF hFl LF XF eF GF => ?_)
    refine own_fillK (k := 60) XF hx eF GF (hb hby at_399) (pc1 := 400) rfl (j := 60) rfl (fun st Kq => own_bipush XF.here hx (hb hby at_400) (v := 60) rfl (pc' := 402) rfl Kq) (fun st Kq => own_bipush XF.here hx (hb hby at_402) (v := 97) rfl (pc' := 404) rfl Kq) (hb hby at_404) (pc4 := 405) rfl (by decide) (Nat.le_of_eq (own_DL y1 y0 (by decide)).symm) (by decide) rfl (by decide) (fun TF hFl LF XF eF GF => ?_)
    refine own_fillK (k := 61) XF hx eF GF (hb hby at_405) (pc1 := 406) rfl (j := 61) rfl (fun st Kq => own_bipush XF.here hx (hb hby at_406) (v := 61) rfl (pc' := 408) rfl Kq) (fun st Kq => own_bipush XF.here hx (hb hby at_408) (v := 97) rfl (pc' := 410) rfl Kq) (hb hby at_410) (pc4 := 411) rfl (by decide) (Nat.le_of_eq (own_DL y1 y0 (by decide)).symm) (by decide) rfl (by decide) (fun TF hFl LF XF eF GF => ?_)
    refine own_fillK (k := 62) XF hx eF GF (hb hby at_411) (pc1 := 412) rfl (j := 62) rfl (fun st Kq => own_bipush XF.here hx (hb hby at_412) (v := 62) rfl (pc' := 414) rfl Kq) (fun st Kq => own_iload XF.here hx (hb hby at_414) rfl (pc' := 416) rfl Kq) (hb hby at_416) (pc4 := 417) rfl (by decide) (Nat.le_of_eq (own_DL y1 y0 (by decide)).symm) (by decide) rfl ny0 (fun TF hFl LF XF eF GF => ?_)
    obtain ⟨I187, M187, -, -, -, A187, Fv187, Fc187, S187, N187, V187⟩ := GF
    rw [own_flF (own_DL y1 y0 (by decide))] at V187
    obtain ⟨_, _, ⟨T189, L189, k189, n189⟩, -, X189, ⟨Lc189, hQ189, l189, y189, z189⟩, st189⟩ := XF.specialBack hx (y := (⟨"java/lang/String", "<init>", "([C)V"⟩ : MethodName)) rfl I187.2.1 (mvT I187.1 (hw _ (List.mem_of_getElem? (i := 12) rfl))) (mvT I187.1 (hw _ (List.mem_of_getElem? (i := 13) rfl))) (mvT I187.1 (hw _ (List.mem_of_getElem? (i := 14) rfl))) (by decide) (backOf (W := 1) (rmI1 l Z a0 hw a174 a178 k178 (own_D y1 y0 63) (63 : Int32) (.int (0 : Int32)) hFl (own_ext_trans EZ M187) z0 O1 P5 O3 O4 O5 gz_a174 (Ne.symm ne179) A187 Fv187 Fc187 V187 rfl (Nat.le_of_ble_eq_true rfl) (own_Dp py1 py0) (Nat.le_of_ble_eq_true rfl) (Nat.le_of_ble_eq_true rfl)) I187.1 (hw _ (List.mem_of_getElem? (i := 14) rfl)) (hw _ (List.mem_of_getElem? (i := 10) rfl)) (by decide) (by decide)) (g := (mkF m 417 #[.val (.int mo), .val (.int a), .val (.int b), .val (.int c1), .val (.int d), .val (.int y0), .val (.int y1), .val (.int y2), .val (.int y3), .val (.int ((5 : Int32))), .unset, .unset, .unset] [(.ref a178), (.ref a174), (.ref a174)])) rfl (by rw [hml]; rfl) (Steps.refl _) (a := a174) (argsL := [(.ref a178)]) (rest := [(.ref a174)]) (lenOf pdE1 rfl) rfl (by show 2 * 0 + _ ≤ _; exact Nat.le_of_eq rfl) (hb hby at_417) (fun _ _ => ⟨rfl, eF, (Nat.le_of_ble_eq_true rfl), (Nat.le_of_ble_eq_true rfl)⟩)
    dsimp only [Pt.U, Pt.locs, Pt.cells, Pt.slots] at X189 l189 y189 z189 st189 hQ189
    subst l189 y189 z189
    obtain ⟨rfl, N189, K189, S189⟩ := hQ189
    refine own_to st189 ?_
    show own_Go p e below F (T189.setTop (mkF m 420 #[.val (.int mo), .val (.int a), .val (.int b), .val (.int c1), .val (.int d), .val (.int y0), .val (.int y1), .val (.int y2), .val (.int y3), .val (.int ((5 : Int32))), .unset, .unset, .unset] [(.ref a174)]))
    have f190 := own_ext_keep M187 K189 (fun y hy => by simp only [List.mem_cons, List.not_mem_nil, or_false] at hy; rcases hy with rfl <;> assumption)
    have J191 := I187.keep K189 (sfS S187 sf0)
    have N192 := Fr.app N187 N189
    refine own_astore X189.here hx (hb hby at_420) rfl (L' := #[.val (.int mo), .val (.int a), .val (.int b), .val (.int c1), .val (.int d), .val (.int y0), .val (.int y1), .val (.int y2), .val (.int y3), .val (.int ((5 : Int32))), .val (.ref a174), .unset, .unset]) rfl (pc' := 422) rfl ?_
    refine own_iload X189.here hx (hb hby at_422) rfl (pc' := 424) rfl ?_
    obtain ⟨_, _, ⟨T193, L193, k193, n193⟩, -, X193, ⟨Lc193, hQ193, l193, y193, z193⟩, st193⟩ := Jvm.LawKit.callS X189 hx (y := (⟨"com/example/cladistic/cladistic/NamesIsPlainIdentifierPinLaw", "allowed", "(C)Z"⟩ : MethodName)) J191.2.1 (mvT J191.1 (hw _ (List.mem_of_getElem? (i := 50) rfl))) (mvT J191.1 (hw _ (List.mem_of_getElem? (i := 51) rfl))) (mvT J191.1 (hw _ (List.mem_of_getElem? (i := 2) rfl))) (mvT J191.1 (hw _ (List.mem_of_getElem? (i := 52) rfl))) (by decide) (backOf (W := 0) (rmAl l Z a0 hw y1 T189.heap) J191.1 (hw _ (List.mem_of_getElem? (i := 52) rfl)) (hw _ (List.mem_of_getElem? (i := 2) rfl)) (by decide) (by decide)) (g := (mkF m 424 #[.val (.int mo), .val (.int a), .val (.int b), .val (.int c1), .val (.int d), .val (.int y0), .val (.int y1), .val (.int y2), .val (.int y3), .val (.int ((5 : Int32))), .val (.ref a174), .unset, .unset] [(.int y1)])) rfl (by rw [hml]; rfl) (argsL := [(.int y1)]) (rest := []) (lenOf pdx15 rfl) rfl (by show 2 * 0 + _ ≤ _; exact Nat.le_of_eq rfl) (hb hby at_424) (fun _ _ => ⟨rfl, rfl, (Nat.le_of_ble_eq_true rfl), (Nat.le_of_ble_eq_true rfl)⟩)
    dsimp only [Pt.U, Pt.locs, Pt.cells, Pt.slots] at X193 l193 y193 z193 st193 hQ193
    subst l193 y193 z193
    obtain ⟨rfl, N193, E193⟩ := hQ193
    refine own_on (st193) ?_
    show own_Go p e below F (T193.setTop (mkF m 427 #[.val (.int mo), .val (.int a), .val (.int b), .val (.int c1), .val (.int d), .val (.int y0), .val (.int y1), .val (.int y2), .val (.int y3), .val (.int ((5 : Int32))), .val (.ref a174), .unset, .unset] [(.int ((if own_ok y1 = true then (1 : Int32) else 0)))]))
    have N194 := Fr.app N192 N193
    by_cases ho1 : own_ok y1 = true
    · rw [if_pos ho1]
      show own_Go p e below F (T193.setTop (mkF m 427 #[.val (.int mo), .val (.int a), .val (.int b), .val (.int c1), .val (.int d), .val (.int y0), .val (.int y1), .val (.int y2), .val (.int y3), .val (.int ((5 : Int32))), .val (.ref a174), .unset, .unset] [(.int ((1 : Int32)))]))
      refine own_ifeq X193.here hx (hb hby at_427) (by decide) (pc' := 450) (by decide) (pc2 := 430) rfl (fun q => absurd q (by decide)) (fun q195 => ?_)
      refine own_iload X193.here hx (hb hby at_430) rfl (pc' := 432) rfl ?_
      obtain ⟨_, _, ⟨T196, L196, k196, n196⟩, -, X196, ⟨Lc196, hQ196, l196, y196, z196⟩, st196⟩ := Jvm.LawKit.callS X193 hx (y := (⟨"com/example/cladistic/cladistic/NamesIsPlainIdentifierPinLaw", "digit", "(C)Z"⟩ : MethodName)) J191.2.1 (mvT J191.1 (hw _ (List.mem_of_getElem? (i := 53) rfl))) (mvT J191.1 (hw _ (List.mem_of_getElem? (i := 54) rfl))) (mvT J191.1 (hw _ (List.mem_of_getElem? (i := 2) rfl))) (mvT J191.1 (hw _ (List.mem_of_getElem? (i := 55) rfl))) (by decide) (backOf (W := 0) (rmDa l Z a0 hw y1 T189.heap) J191.1 (hw _ (List.mem_of_getElem? (i := 55) rfl)) (hw _ (List.mem_of_getElem? (i := 2) rfl)) (by decide) (by decide)) (g := (mkF m 432 #[.val (.int mo), .val (.int a), .val (.int b), .val (.int c1), .val (.int d), .val (.int y0), .val (.int y1), .val (.int y2), .val (.int y3), .val (.int ((5 : Int32))), .val (.ref a174), .unset, .unset] [(.int y1)])) rfl (by rw [hml]; rfl) (argsL := [(.int y1)]) (rest := []) (lenOf pdx15 rfl) rfl (by show 2 * 0 + _ ≤ _; exact Nat.le_of_eq rfl) (hb hby at_432) (fun _ _ => ⟨rfl, E193, (Nat.le_of_ble_eq_true rfl), (Nat.le_of_ble_eq_true rfl)⟩)
      dsimp only [Pt.U, Pt.locs, Pt.cells, Pt.slots] at X196 l196 y196 z196 st196 hQ196
      subst l196 y196 z196
      obtain ⟨rfl, N196, E196⟩ := hQ196
      refine own_on (st196) ?_
      show own_Go p e below F (T196.setTop (mkF m 435 #[.val (.int mo), .val (.int a), .val (.int b), .val (.int c1), .val (.int d), .val (.int y0), .val (.int y1), .val (.int y2), .val (.int y3), .val (.int ((5 : Int32))), .val (.ref a174), .unset, .unset] [(.int ((if own_dg y1 = true then (1 : Int32) else 0)))]))
      have N197 := Fr.app N194 N196
      by_cases hd1 : own_dg y1 = true
      · rw [if_pos hd1]
        show own_Go p e below F (T196.setTop (mkF m 435 #[.val (.int mo), .val (.int a), .val (.int b), .val (.int c1), .val (.int d), .val (.int y0), .val (.int y1), .val (.int y2), .val (.int y3), .val (.int ((5 : Int32))), .val (.ref a174), .unset, .unset] [(.int ((1 : Int32)))]))
        refine own_ifne X196.here hx (hb hby at_435) (by decide) (pc' := 450) (by decide) (pc2 := 438) rfl (fun q198 => ?_) (fun q => absurd q (by decide))
        refine own_iconst X196.here hx (hb hby at_450) (v := 0) rfl (pc' := 451) rfl ?_
        refine own_istore X196.here hx (hb hby at_451) (L' := #[.val (.int mo), .val (.int a), .val (.int b), .val (.int c1), .val (.int d), .val (.int y0), .val (.int y1), .val (.int y2), .val (.int y3), .val (.int ((5 : Int32))), .val (.ref a174), .val (.int ((0 : Int32))), .unset]) rfl (pc' := 453) rfl ?_
        refine own_goto X196.here hx (hb hby at_453) (by decide) (pc' := 961) (by decide) ?_
        refine own_aload X196.here hx (hb hby at_961) rfl rfl (pc' := 963) rfl ?_
        obtain ⟨_, _, ⟨T199, L199, k199, n199⟩, -, X199, ⟨Lc199, hQ199, l199, y199, z199⟩, st199⟩ := Jvm.LawKit.callS X196 hx (y := (⟨"com/example/cladistic/cladistic/Names", "isPlainIdentifier", "(Ljava/lang/String;)Z"⟩ : MethodName)) J191.2.1 (mvT J191.1 (hw _ (List.mem_of_getElem? (i := 30) rfl))) (mvT J191.1 (hw _ (List.mem_of_getElem? (i := 31) rfl))) (mvT J191.1 (hw _ (List.mem_of_getElem? (i := 32) rfl))) (mvT J191.1 (hw _ (List.mem_of_getElem? (i := 33) rfl))) (by decide) (backOf (W := 0) (rmPI l Z a0 hw a174 (own_D y1 y0 63) T189.heap (own_ext_trans EZ f190) z0 O1 P5 fm O2 rf O3 O4 O5 S189) J191.1 (hw _ (List.mem_of_getElem? (i := 33) rfl)) (hw _ (List.mem_of_getElem? (i := 32) rfl)) (by decide) (by decide)) (g := (mkF m 963 #[.val (.int mo), .val (.int a), .val (.int b), .val (.int c1), .val (.int d), .val (.int y0), .val (.int y1), .val (.int y2), .val (.int y3), .val (.int ((5 : Int32))), .val (.ref a174), .val (.int ((0 : Int32))), .unset] [(.ref a174)])) rfl (by rw [hml]; rfl) (argsL := [(.ref a174)]) (rest := []) (lenOf pdx16 rfl) rfl (by show 2 * 0 + _ ≤ _; exact Nat.le_of_eq rfl) (hb hby at_963) (fun _ _ => ⟨rfl, E196, (Nat.le_of_ble_eq_true rfl), (Nat.le_of_ble_eq_true rfl)⟩)
        dsimp only [Pt.U, Pt.locs, Pt.cells, Pt.slots] at X199 l199 y199 z199 st199 hQ199
        subst l199 y199 z199
        obtain ⟨rfl, N199, E199⟩ := hQ199
        refine own_on (st199) ?_
        show own_Go p e below F (T199.setTop (mkF m 966 #[.val (.int mo), .val (.int a), .val (.int b), .val (.int c1), .val (.int d), .val (.int y0), .val (.int y1), .val (.int y2), .val (.int y3), .val (.int ((5 : Int32))), .val (.ref a174), .val (.int ((0 : Int32))), .unset] [(.int (own_pi (own_D y1 y0 63)))]))
        have N200 := Fr.app N197 N199
        refine own_iload X199.here hx (hb hby at_966) rfl (pc' := 968) rfl ?_
        refine own_icmpne X199.here hx (hb hby at_968) (by decide) (pc' := 975) (by decide) (pc2 := 971) rfl (fun q => absurd (show own_pi (own_D y1 y0 63) = (0 : Int32) by rw [own_piD]; simp [hd1]) q) (fun q201 => ?_)
        refine own_iconst X199.here hx (hb hby at_971) (v := 1) rfl (pc' := 972) rfl ?_
        refine own_goto X199.here hx (hb hby at_972) (by decide) (pc' := 976) (by decide) ?_
        exact own_retZW X199 hx hlk hEL J191 E199 (by decide) hret (hb hby at_976) (fun t ht hC hE => hF t _ _ _ _ (by rw [ht]; exact ⟨rfl, (by simpa using N200)⟩) hC hE (by decide) (by decide))
      · rw [if_neg hd1]
        show own_Go p e below F (T196.setTop (mkF m 435 #[.val (.int mo), .val (.int a), .val (.int b), .val (.int c1), .val (.int d), .val (.int y0), .val (.int y1), .val (.int y2), .val (.int y3), .val (.int ((5 : Int32))), .val (.ref a174), .unset, .unset] [(.int ((0 : Int32)))]))
        refine own_ifne X196.here hx (hb hby at_435) (by decide) (pc' := 450) (by decide) (pc2 := 438) rfl (fun q => absurd rfl q) (fun q202 => ?_)
        refine own_iload X196.here hx (hb hby at_438) rfl (pc' := 440) rfl ?_
        obtain ⟨_, _, ⟨T203, L203, k203, n203⟩, -, X203, ⟨Lc203, hQ203, l203, y203, z203⟩, st203⟩ := Jvm.LawKit.callS X196 hx (y := (⟨"com/example/cladistic/cladistic/NamesIsPlainIdentifierPinLaw", "allowed", "(C)Z"⟩ : MethodName)) J191.2.1 (mvT J191.1 (hw _ (List.mem_of_getElem? (i := 50) rfl))) (mvT J191.1 (hw _ (List.mem_of_getElem? (i := 51) rfl))) (mvT J191.1 (hw _ (List.mem_of_getElem? (i := 2) rfl))) (mvT J191.1 (hw _ (List.mem_of_getElem? (i := 52) rfl))) (by decide) (backOf (W := 0) (rmAl l Z a0 hw y0 T189.heap) J191.1 (hw _ (List.mem_of_getElem? (i := 52) rfl)) (hw _ (List.mem_of_getElem? (i := 2) rfl)) (by decide) (by decide)) (g := (mkF m 440 #[.val (.int mo), .val (.int a), .val (.int b), .val (.int c1), .val (.int d), .val (.int y0), .val (.int y1), .val (.int y2), .val (.int y3), .val (.int ((5 : Int32))), .val (.ref a174), .unset, .unset] [(.int y0)])) rfl (by rw [hml]; rfl) (argsL := [(.int y0)]) (rest := []) (lenOf pdx15 rfl) rfl (by show 2 * 0 + _ ≤ _; exact Nat.le_of_eq rfl) (hb hby at_440) (fun _ _ => ⟨rfl, E196, (Nat.le_of_ble_eq_true rfl), (Nat.le_of_ble_eq_true rfl)⟩)
        dsimp only [Pt.U, Pt.locs, Pt.cells, Pt.slots] at X203 l203 y203 z203 st203 hQ203
        subst l203 y203 z203
        obtain ⟨rfl, N203, E203⟩ := hQ203
        refine own_on (st203) ?_
        show own_Go p e below F (T203.setTop (mkF m 443 #[.val (.int mo), .val (.int a), .val (.int b), .val (.int c1), .val (.int d), .val (.int y0), .val (.int y1), .val (.int y2), .val (.int y3), .val (.int ((5 : Int32))), .val (.ref a174), .unset, .unset] [(.int ((if own_ok y0 = true then (1 : Int32) else 0)))]))
        have N204 := Fr.app N197 N203
        by_cases ho0 : own_ok y0 = true
        · rw [if_pos ho0]
          show own_Go p e below F (T203.setTop (mkF m 443 #[.val (.int mo), .val (.int a), .val (.int b), .val (.int c1), .val (.int d), .val (.int y0), .val (.int y1), .val (.int y2), .val (.int y3), .val (.int ((5 : Int32))), .val (.ref a174), .unset, .unset] [(.int ((1 : Int32)))]))
          refine own_ifeq X203.here hx (hb hby at_443) (by decide) (pc' := 450) (by decide) (pc2 := 446) rfl (fun q => absurd q (by decide)) (fun q205 => ?_)
          refine own_iconst X203.here hx (hb hby at_446) (v := 1) rfl (pc' := 447) rfl ?_
          refine own_goto X203.here hx (hb hby at_447) (by decide) (pc' := 451) (by decide) ?_
          refine own_istore X203.here hx (hb hby at_451) (L' := #[.val (.int mo), .val (.int a), .val (.int b), .val (.int c1), .val (.int d), .val (.int y0), .val (.int y1), .val (.int y2), .val (.int y3), .val (.int ((5 : Int32))), .val (.ref a174), .val (.int ((1 : Int32))), .unset]) rfl (pc' := 453) rfl ?_
          refine own_goto X203.here hx (hb hby at_453) (by decide) (pc' := 961) (by decide) ?_
          refine own_aload X203.here hx (hb hby at_961) rfl rfl (pc' := 963) rfl ?_
          obtain ⟨_, _, ⟨T206, L206, k206, n206⟩, -, X206, ⟨Lc206, hQ206, l206, y206, z206⟩, st206⟩ := Jvm.LawKit.callS X203 hx (y := (⟨"com/example/cladistic/cladistic/Names", "isPlainIdentifier", "(Ljava/lang/String;)Z"⟩ : MethodName)) J191.2.1 (mvT J191.1 (hw _ (List.mem_of_getElem? (i := 30) rfl))) (mvT J191.1 (hw _ (List.mem_of_getElem? (i := 31) rfl))) (mvT J191.1 (hw _ (List.mem_of_getElem? (i := 32) rfl))) (mvT J191.1 (hw _ (List.mem_of_getElem? (i := 33) rfl))) (by decide) (backOf (W := 0) (rmPI l Z a0 hw a174 (own_D y1 y0 63) T189.heap (own_ext_trans EZ f190) z0 O1 P5 fm O2 rf O3 O4 O5 S189) J191.1 (hw _ (List.mem_of_getElem? (i := 33) rfl)) (hw _ (List.mem_of_getElem? (i := 32) rfl)) (by decide) (by decide)) (g := (mkF m 963 #[.val (.int mo), .val (.int a), .val (.int b), .val (.int c1), .val (.int d), .val (.int y0), .val (.int y1), .val (.int y2), .val (.int y3), .val (.int ((5 : Int32))), .val (.ref a174), .val (.int ((1 : Int32))), .unset] [(.ref a174)])) rfl (by rw [hml]; rfl) (argsL := [(.ref a174)]) (rest := []) (lenOf pdx16 rfl) rfl (by show 2 * 0 + _ ≤ _; exact Nat.le_of_eq rfl) (hb hby at_963) (fun _ _ => ⟨rfl, E203, (Nat.le_of_ble_eq_true rfl), (Nat.le_of_ble_eq_true rfl)⟩)
          dsimp only [Pt.U, Pt.locs, Pt.cells, Pt.slots] at X206 l206 y206 z206 st206 hQ206
          subst l206 y206 z206
          obtain ⟨rfl, N206, E206⟩ := hQ206
          refine own_on (st206) ?_
          show own_Go p e below F (T206.setTop (mkF m 966 #[.val (.int mo), .val (.int a), .val (.int b), .val (.int c1), .val (.int d), .val (.int y0), .val (.int y1), .val (.int y2), .val (.int y3), .val (.int ((5 : Int32))), .val (.ref a174), .val (.int ((1 : Int32))), .unset] [(.int (own_pi (own_D y1 y0 63)))]))
          have N207 := Fr.app N204 N206
          refine own_iload X206.here hx (hb hby at_966) rfl (pc' := 968) rfl ?_
          refine own_icmpne X206.here hx (hb hby at_968) (by decide) (pc' := 975) (by decide) (pc2 := 971) rfl (fun q => absurd (show own_pi (own_D y1 y0 63) = (1 : Int32) by rw [own_piD]; simp [ho1, hd1, ho0]) q) (fun q208 => ?_)
          refine own_iconst X206.here hx (hb hby at_971) (v := 1) rfl (pc' := 972) rfl ?_
          refine own_goto X206.here hx (hb hby at_972) (by decide) (pc' := 976) (by decide) ?_
          exact own_retZW X206 hx hlk hEL J191 E206 (by decide) hret (hb hby at_976) (fun t ht hC hE => hF t _ _ _ _ (by rw [ht]; exact ⟨rfl, (by simpa using N207)⟩) hC hE (by decide) (by decide))
        · rw [if_neg ho0]
          show own_Go p e below F (T203.setTop (mkF m 443 #[.val (.int mo), .val (.int a), .val (.int b), .val (.int c1), .val (.int d), .val (.int y0), .val (.int y1), .val (.int y2), .val (.int y3), .val (.int ((5 : Int32))), .val (.ref a174), .unset, .unset] [(.int ((0 : Int32)))]))
          refine own_ifeq X203.here hx (hb hby at_443) (by decide) (pc' := 450) (by decide) (pc2 := 446) rfl (fun q209 => ?_) (fun q => absurd rfl q)
          refine own_iconst X203.here hx (hb hby at_450) (v := 0) rfl (pc' := 451) rfl ?_
          refine own_istore X203.here hx (hb hby at_451) (L' := #[.val (.int mo), .val (.int a), .val (.int b), .val (.int c1), .val (.int d), .val (.int y0), .val (.int y1), .val (.int y2), .val (.int y3), .val (.int ((5 : Int32))), .val (.ref a174), .val (.int ((0 : Int32))), .unset]) rfl (pc' := 453) rfl ?_
          refine own_goto X203.here hx (hb hby at_453) (by decide) (pc' := 961) (by decide) ?_
          refine own_aload X203.here hx (hb hby at_961) rfl rfl (pc' := 963) rfl ?_
          obtain ⟨_, _, ⟨T210, L210, k210, n210⟩, -, X210, ⟨Lc210, hQ210, l210, y210, z210⟩, st210⟩ := Jvm.LawKit.callS X203 hx (y := (⟨"com/example/cladistic/cladistic/Names", "isPlainIdentifier", "(Ljava/lang/String;)Z"⟩ : MethodName)) J191.2.1 (mvT J191.1 (hw _ (List.mem_of_getElem? (i := 30) rfl))) (mvT J191.1 (hw _ (List.mem_of_getElem? (i := 31) rfl))) (mvT J191.1 (hw _ (List.mem_of_getElem? (i := 32) rfl))) (mvT J191.1 (hw _ (List.mem_of_getElem? (i := 33) rfl))) (by decide) (backOf (W := 0) (rmPI l Z a0 hw a174 (own_D y1 y0 63) T189.heap (own_ext_trans EZ f190) z0 O1 P5 fm O2 rf O3 O4 O5 S189) J191.1 (hw _ (List.mem_of_getElem? (i := 33) rfl)) (hw _ (List.mem_of_getElem? (i := 32) rfl)) (by decide) (by decide)) (g := (mkF m 963 #[.val (.int mo), .val (.int a), .val (.int b), .val (.int c1), .val (.int d), .val (.int y0), .val (.int y1), .val (.int y2), .val (.int y3), .val (.int ((5 : Int32))), .val (.ref a174), .val (.int ((0 : Int32))), .unset] [(.ref a174)])) rfl (by rw [hml]; rfl) (argsL := [(.ref a174)]) (rest := []) (lenOf pdx16 rfl) rfl (by show 2 * 0 + _ ≤ _; exact Nat.le_of_eq rfl) (hb hby at_963) (fun _ _ => ⟨rfl, E203, (Nat.le_of_ble_eq_true rfl), (Nat.le_of_ble_eq_true rfl)⟩)
          dsimp only [Pt.U, Pt.locs, Pt.cells, Pt.slots] at X210 l210 y210 z210 st210 hQ210
          subst l210 y210 z210
          obtain ⟨rfl, N210, E210⟩ := hQ210
          refine own_on (st210) ?_
          show own_Go p e below F (T210.setTop (mkF m 966 #[.val (.int mo), .val (.int a), .val (.int b), .val (.int c1), .val (.int d), .val (.int y0), .val (.int y1), .val (.int y2), .val (.int y3), .val (.int ((5 : Int32))), .val (.ref a174), .val (.int ((0 : Int32))), .unset] [(.int (own_pi (own_D y1 y0 63)))]))
          have N211 := Fr.app N204 N210
          refine own_iload X210.here hx (hb hby at_966) rfl (pc' := 968) rfl ?_
          refine own_icmpne X210.here hx (hb hby at_968) (by decide) (pc' := 975) (by decide) (pc2 := 971) rfl (fun q => absurd (show own_pi (own_D y1 y0 63) = (0 : Int32) by rw [own_piD]; simp [ho0]) q) (fun q212 => ?_)
          refine own_iconst X210.here hx (hb hby at_971) (v := 1) rfl (pc' := 972) rfl ?_
          refine own_goto X210.here hx (hb hby at_972) (by decide) (pc' := 976) (by decide) ?_
          exact own_retZW X210 hx hlk hEL J191 E210 (by decide) hret (hb hby at_976) (fun t ht hC hE => hF t _ _ _ _ (by rw [ht]; exact ⟨rfl, (by simpa using N211)⟩) hC hE (by decide) (by decide))
    · rw [if_neg ho1]
      show own_Go p e below F (T193.setTop (mkF m 427 #[.val (.int mo), .val (.int a), .val (.int b), .val (.int c1), .val (.int d), .val (.int y0), .val (.int y1), .val (.int y2), .val (.int y3), .val (.int ((5 : Int32))), .val (.ref a174), .unset, .unset] [(.int ((0 : Int32)))]))
      refine own_ifeq X193.here hx (hb hby at_427) (by decide) (pc' := 450) (by decide) (pc2 := 430) rfl (fun q213 => ?_) (fun q => absurd rfl q)
      refine own_iconst X193.here hx (hb hby at_450) (v := 0) rfl (pc' := 451) rfl ?_
      refine own_istore X193.here hx (hb hby at_451) (L' := #[.val (.int mo), .val (.int a), .val (.int b), .val (.int c1), .val (.int d), .val (.int y0), .val (.int y1), .val (.int y2), .val (.int y3), .val (.int ((5 : Int32))), .val (.ref a174), .val (.int ((0 : Int32))), .unset]) rfl (pc' := 453) rfl ?_
      refine own_goto X193.here hx (hb hby at_453) (by decide) (pc' := 961) (by decide) ?_
      refine own_aload X193.here hx (hb hby at_961) rfl rfl (pc' := 963) rfl ?_
      obtain ⟨_, _, ⟨T214, L214, k214, n214⟩, -, X214, ⟨Lc214, hQ214, l214, y214, z214⟩, st214⟩ := Jvm.LawKit.callS X193 hx (y := (⟨"com/example/cladistic/cladistic/Names", "isPlainIdentifier", "(Ljava/lang/String;)Z"⟩ : MethodName)) J191.2.1 (mvT J191.1 (hw _ (List.mem_of_getElem? (i := 30) rfl))) (mvT J191.1 (hw _ (List.mem_of_getElem? (i := 31) rfl))) (mvT J191.1 (hw _ (List.mem_of_getElem? (i := 32) rfl))) (mvT J191.1 (hw _ (List.mem_of_getElem? (i := 33) rfl))) (by decide) (backOf (W := 0) (rmPI l Z a0 hw a174 (own_D y1 y0 63) T189.heap (own_ext_trans EZ f190) z0 O1 P5 fm O2 rf O3 O4 O5 S189) J191.1 (hw _ (List.mem_of_getElem? (i := 33) rfl)) (hw _ (List.mem_of_getElem? (i := 32) rfl)) (by decide) (by decide)) (g := (mkF m 963 #[.val (.int mo), .val (.int a), .val (.int b), .val (.int c1), .val (.int d), .val (.int y0), .val (.int y1), .val (.int y2), .val (.int y3), .val (.int ((5 : Int32))), .val (.ref a174), .val (.int ((0 : Int32))), .unset] [(.ref a174)])) rfl (by rw [hml]; rfl) (argsL := [(.ref a174)]) (rest := []) (lenOf pdx16 rfl) rfl (by show 2 * 0 + _ ≤ _; exact Nat.le_of_eq rfl) (hb hby at_963) (fun _ _ => ⟨rfl, E193, (Nat.le_of_ble_eq_true rfl), (Nat.le_of_ble_eq_true rfl)⟩)
      dsimp only [Pt.U, Pt.locs, Pt.cells, Pt.slots] at X214 l214 y214 z214 st214 hQ214
      subst l214 y214 z214
      obtain ⟨rfl, N214, E214⟩ := hQ214
      refine own_on (st214) ?_
      show own_Go p e below F (T214.setTop (mkF m 966 #[.val (.int mo), .val (.int a), .val (.int b), .val (.int c1), .val (.int d), .val (.int y0), .val (.int y1), .val (.int y2), .val (.int y3), .val (.int ((5 : Int32))), .val (.ref a174), .val (.int ((0 : Int32))), .unset] [(.int (own_pi (own_D y1 y0 63)))]))
      have N215 := Fr.app N194 N214
      refine own_iload X214.here hx (hb hby at_966) rfl (pc' := 968) rfl ?_
      refine own_icmpne X214.here hx (hb hby at_968) (by decide) (pc' := 975) (by decide) (pc2 := 971) rfl (fun q => absurd (show own_pi (own_D y1 y0 63) = (0 : Int32) by rw [own_piD]; simp [ho1]) q) (fun q216 => ?_)
      refine own_iconst X214.here hx (hb hby at_971) (v := 1) rfl (pc' := 972) rfl ?_
      refine own_goto X214.here hx (hb hby at_972) (by decide) (pc' := 976) (by decide) ?_
      exact own_retZW X214 hx hlk hEL J191 E214 (by decide) hret (hb hby at_976) (fun t ht hC hE => hF t _ _ _ _ (by rw [ht]; exact ⟨rfl, (by simpa using N215)⟩) hC hE (by decide) (by decide))
  · show own_Go p e below F (T7.setTop (mkF m 31 #[.val (.int mo), .val (.int a), .val (.int b), .val (.int c1), .val (.int d), .val (.int y0), .val (.int y1), .val (.int y2), .val (.int y3), .val (.int ((6 : Int32))), .unset, .unset, .unset] []))
    refine own_iload X7.here hx (hb hby at_31) rfl (pc' := 33) rfl ?_
    refine own_iconst X7.here hx (hb hby at_33) (v := 5) rfl (pc' := 34) rfl ?_
    refine own_icmpne X7.here hx (hb hby at_34) (by decide) (pc' := 456) (by decide) (pc2 := 37) rfl (fun q217 => ?_) (fun q => absurd q (by decide))
    refine own_iload X7.here hx (hb hby at_456) rfl (pc' := 458) rfl ?_
    refine own_bipush X7.here hx (hb hby at_458) (v := 6) rfl (pc' := 460) rfl ?_
    refine own_icmpne X7.here hx (hb hby at_460) (by decide) (pc' := 860) (by decide) (pc2 := 463) rfl (fun q => absurd rfl q) (fun q218 => ?_)
    obtain ⟨T219, h219, X219, e219, E219, A219, D219, -, st219⟩ := newO X7 hx I0.1 I0.2.1 (hw _ (List.mem_of_getElem? (i := 8) rfl)) (hw _ (List.mem_of_getElem? (i := 9) rfl)) (hw _ (List.mem_of_getElem? (i := 10) rfl)) E7 (g := (mkF m 463 #[.val (.int mo), .val (.int a), .val (.int b), .val (.int c1), .val (.int d), .val (.int y0), .val (.int y1), .val (.int y2), .val (.int y3), .val (.int ((6 : Int32))), .unset, .unset, .unset] [])) rfl (hb hby at_463) (by decide) (by decide)
    obtain ⟨a219, g219⟩ : ∃ z, z = h0.size := ⟨_, rfl⟩
    rw [← g219] at A219 D219 st219
    have ge220 : h0.size ≤ a219 := by rw [g219]; exact M0.1
    have sf219 := Safe.ext E219 I0.ch (Safe.new (Nat.le_of_eq g219.symm))
    have f221 := own_ext_trans M0 E219
    have J222 := I0.ext E219
    have F219_0 : Fld Z h219 a219 "java/lang/String" "value" "[B" (.null) := (D219 (Or.inr (hw _ (List.mem_of_getElem? (i := 24) rfl))) (ty := .array .byte) (by decide))
    have F219_1 : Fld Z h219 a219 "java/lang/String" "coder" "B" (.int ((0 : Int32))) := (D219 (Or.inr (hw _ (List.mem_of_getElem? (i := 25) rfl))) (ty := .byte) (by decide))
    refine own_on st219 ?_
    show own_Go p e below F (T219.setTop (mkF m 466 #[.val (.int mo), .val (.int a), .val (.int b), .val (.int c1), .val (.int d), .val (.int y0), .val (.int y1), .val (.int y2), .val (.int y3), .val (.int ((6 : Int32))), .unset, .unset, .unset] [(.ref a219)]))
    have gz_a219 : Z.heap.size ≤ a219 := Nat.le_trans EZ.1 ge220
    refine own_dup X219.here hx (hb hby at_466) rfl (pc' := 467) rfl ?_
    refine own_bipush X219.here hx (hb hby at_467) (v := 64) rfl (pc' := 469) rfl ?_
    obtain ⟨T223, h223, k223, X223, e223, E223, A223, st223⟩ := newP X219 hx J222.1 (hw _ (List.mem_of_getElem? (i := 11) rfl)) e219 (g := (mkF m 469 #[.val (.int mo), .val (.int a), .val (.int b), .val (.int c1), .val (.int d), .val (.int y0), .val (.int y1), .val (.int y2), .val (.int y3), .val (.int ((6 : Int32))), .unset, .unset, .unset] [(.int ((64 : Int32))), (.ref a219), (.ref a219)])) rfl (hb hby at_469) rfl (by decide) (cap := 64) (by decide) (by decide) (by decide) (by decide)
    obtain ⟨a223, g223⟩ : ∃ z, z = h219.size := ⟨_, rfl⟩
    rw [← g223] at A223 st223
    have ne224 : a219 ≠ a223 := Nat.ne_of_lt (by rw [g223]; exact A219.lt)
    have ge225 : h0.size ≤ a223 := by rw [g223]; exact f221.1
    have f226 := own_ext_trans f221 E223
    have f227 := A219.ext E223
    have f228 := F219_0.ext E223
    have f229 := F219_1.ext E223
    have f230 := Safe.ext E223 J222.ch sf219
    have J231 := J222.ext E223
    have V223 := (Arv.new A223 (by decide)).pad (pad_rep [] (defaultValue (newarray.typeOf .char)) ((64 : Int32)).toNatClampNeg)
    refine own_on st223 ?_
    show own_Go p e below F (T223.setTop (mkF m 471 #[.val (.int mo), .val (.int a), .val (.int b), .val (.int c1), .val (.int d), .val (.int y0), .val (.int y1), .val (.int y2), .val (.int y3), .val (.int ((6 : Int32))), .unset, .unset, .unset] [(.ref a223), (.ref a219), (.ref a219)]))
    have gz_a223 : Z.heap.size ≤ a223 := Nat.le_trans EZ.1 ge225
    have FV0 : Arv Z h223 a223 k223 .char (Int32.ofNat 64) (own_fl (own_D y1 y0 64) 64 0) (.int (0 : Int32)) := by have q := V223; rw [show ((64 : Int32)).toNatClampNeg = 64 from by decide] at q; exact q
    have GF : own_Fi s Z EL s.vm "com/example/cladistic/cladistic/NamesIsPlainIdentifierPinLaw" m h0 a219 a223 k223 (own_D y1 y0 64) 64 0 h223 _ := ⟨J231, f226, ge225, gz_a223, ne224, f227, f228, f229, f230, N8, FV0⟩
    refine own_fillK (k := 0) X223 hx e223 GF (hb hby at_471) (pc1 := 472) rfl (j := 0) rfl (fun st Kq => own_iconst X223.here hx (hb hby at_472) (v := 0) rfl (pc' := 473) rfl Kq) (fun st Kq => own_iload X223.here hx (hb hby at_473) rfl (pc' := 475) rfl Kq) (hb hby at_475) (pc4 := 476) rfl (by decide) (Nat.le_of_eq (own_DL y1 y0 (by decide)).symm) (by decide) rfl ny1 (fun TF hFl LF XF eF GF => ?_)
    refine own_fillK (k := 1) XF hx eF GF (hb hby at_476) (pc1 := 477) rfl (j := 1) rfl (fun st Kq => own_iconst XF.here hx (hb hby at_477) (v := 1) rfl (pc' := 478) rfl Kq) (fun st Kq => own_bipush XF.here hx (hb hby at_478) (v := 97) rfl (pc' := 480) rfl Kq) (hb hby at_480) (pc4 := 481) rfl (by decide) (Nat.le_of_eq (own_DL y1 y0 (by decide)).symm) (by decide) rfl (by decide) (fun TF hFl LF XF eF GF => ?_)
    refine own_fillK (k := 2) XF hx eF GF (hb hby at_481) (pc1 := 482) rfl (j := 2) rfl (fun st Kq => own_iconst XF.here hx (hb hby at_482) (v := 2) rfl (pc' := 483) rfl Kq) (fun st Kq => own_bipush XF.here hx (hb hby at_483) (v := 97) rfl (pc' := 485) rfl Kq) (hb hby at_485) (pc4 := 486) rfl (by decide) (Nat.le_of_eq (own_DL y1 y0 (by decide)).symm) (by decide) rfl (by decide) (fun TF hFl LF XF eF GF => ?_)
    refine own_fillK (k := 3) XF hx eF GF (hb hby at_486) (pc1 := 487) rfl (j := 3) rfl (fun st Kq => own_iconst XF.here hx (hb hby at_487) (v := 3) rfl (pc' := 488) rfl Kq) (fun st Kq => own_bipush XF.here hx (hb hby at_488) (v := 97) rfl (pc' := 490) rfl Kq) (hb hby at_490) (pc4 := 491) rfl (by decide) (Nat.le_of_eq (own_DL y1 y0 (by decide)).symm) (by decide) rfl (by decide) (fun TF hFl LF XF eF GF => ?_)
    refine own_fillK (k := 4) XF hx eF GF (hb hby at_491) (pc1 := 492) rfl (j := 4) rfl (fun st Kq => own_iconst XF.here hx (hb hby at_492) (v := 4) rfl (pc' := 493) rfl Kq) (fun st Kq => own_bipush XF.here hx (hb hby at_493) (v := 97) rfl (pc' := 495) rfl Kq) (hb hby at_495) (pc4 := 496) rfl (by decide) (Nat.le_of_eq (own_DL y1 y0 (by decide)).symm) (by decide) rfl (by decide) (fun TF hFl LF XF eF GF => ?_)
    refine own_fillK (k := 5) XF hx eF GF (hb hby at_496) (pc1 := 497) rfl (j := 5) rfl (fun st Kq => own_iconst XF.here hx (hb hby at_497) (v := 5) rfl (pc' := 498) rfl Kq) (fun st Kq => own_bipush XF.here hx (hb hby at_498) (v := 97) rfl (pc' := 500) rfl Kq) (hb hby at_500) (pc4 := 501) rfl (by decide) (Nat.le_of_eq (own_DL y1 y0 (by decide)).symm) (by decide) rfl (by decide) (fun TF hFl LF XF eF GF => ?_)
    refine own_fillK (k := 6) XF hx eF GF (hb hby at_501) (pc1 := 502) rfl (j := 6) rfl (fun st Kq => own_bipush XF.here hx (hb hby at_502) (v := 6) rfl (pc' := 504) rfl Kq) (fun st Kq => own_bipush XF.here hx (hb hby at_504) (v := 97) rfl (pc' := 506) rfl Kq) (hb hby at_506) (pc4 := 507) rfl (by decide) (Nat.le_of_eq (own_DL y1 y0 (by decide)).symm) (by decide) rfl (by decide) (fun TF hFl LF XF eF GF => ?_)
    refine own_fillK (k := 7) XF hx eF GF (hb hby at_507) (pc1 := 508) rfl (j := 7) rfl (fun st Kq => own_bipush XF.here hx (hb hby at_508) (v := 7) rfl (pc' := 510) rfl Kq) (fun st Kq => own_bipush XF.here hx (hb hby at_510) (v := 97) rfl (pc' := 512) rfl Kq) (hb hby at_512) (pc4 := 513) rfl (by decide) (Nat.le_of_eq (own_DL y1 y0 (by decide)).symm) (by decide) rfl (by decide) (fun TF hFl LF XF eF GF => ?_)
    refine own_fillK (k := 8) XF hx eF GF (hb hby at_513) (pc1 := 514) rfl (j := 8) rfl (fun st Kq => own_bipush XF.here hx (hb hby at_514) (v := 8) rfl (pc' := 516) rfl Kq) (fun st Kq => own_bipush XF.here hx (hb hby at_516) (v := 97) rfl (pc' := 518) rfl Kq) (hb hby at_518) (pc4 := 519) rfl (by decide) (Nat.le_of_eq (own_DL y1 y0 (by decide)).symm) (by decide) rfl (by decide) (fun TF hFl LF XF eF GF => ?_)
    refine own_fillK (k := 9) XF hx eF GF (hb hby at_519) (pc1 := 520) rfl (j := 9) rfl (fun st Kq => own_bipush XF.here hx (hb hby at_520) (v := 9) rfl (pc' := 522) rfl Kq) (fun st Kq => own_bipush XF.here hx (hb hby at_522) (v := 97) rfl (pc' := 524) rfl Kq) (hb hby at_524) (pc4 := 525) rfl (by decide) (Nat.le_of_eq (own_DL y1 y0 (by decide)).symm) (by decide) rfl (by decide) (fun TF hFl LF XF eF GF => ?_)
    refine own_fillK (k := 10) XF hx eF GF (hb hby at_525) (pc1 := 526) rfl (j := 10) rfl (fun st Kq => own_bipush XF.here hx (hb hby at_526) (v := 10) rfl (pc' := 528) rfl Kq) (fun st Kq => own_bipush XF.here hx (hb hby at_528) (v := 97) rfl (pc' := 530) rfl Kq) (hb hby at_530) (pc4 := 531) rfl (by decide) (Nat.le_of_eq (own_DL y1 y0 (by decide)).symm) (by decide) rfl (by decide) (fun TF hFl LF XF eF GF => ?_)
    refine own_fillK (k := 11) XF hx eF GF (hb hby at_531) (pc1 := 532) rfl (j := 11) rfl (fun st Kq => own_bipush XF.here hx (hb hby at_532) (v := 11) rfl (pc' := 534) rfl Kq) (fun st Kq => own_bipush XF.here hx (hb hby at_534) (v := 97) rfl (pc' := 536) rfl Kq) (hb hby at_536) (pc4 := 537) rfl (by decide) (Nat.le_of_eq (own_DL y1 y0 (by decide)).symm) (by decide) rfl (by decide) (fun TF hFl LF XF eF GF => ?_)
    refine own_fillK (k := 12) XF hx eF GF (hb hby at_537) (pc1 := 538) rfl (j := 12) rfl (fun st Kq => own_bipush XF.here hx (hb hby at_538) (v := 12) rfl (pc' := 540) rfl Kq) (fun st Kq => own_bipush XF.here hx (hb hby at_540) (v := 97) rfl (pc' := 542) rfl Kq) (hb hby at_542) (pc4 := 543) rfl (by decide) (Nat.le_of_eq (own_DL y1 y0 (by decide)).symm) (by decide) rfl (by decide) (fun TF hFl LF XF eF GF => ?_)
    refine own_fillK (k := 13) XF hx eF GF (hb hby at_543) (pc1 := 544) rfl (j := 13) rfl (fun st Kq => own_bipush XF.here hx (hb hby at_544) (v := 13) rfl (pc' := 546) rfl Kq) (fun st Kq => own_bipush XF.here hx (hb hby at_546) (v := 97) rfl (pc' := 548) rfl Kq) (hb hby at_548) (pc4 := 549) rfl (by decide) (Nat.le_of_eq (own_DL y1 y0 (by decide)).symm) (by decide) rfl (by decide) (fun TF hFl LF XF eF GF => ?_)
    refine own_fillK (k := 14) XF hx eF GF (hb hby at_549) (pc1 := 550) rfl (j := 14) rfl (fun st Kq => own_bipush XF.here hx (hb hby at_550) (v := 14) rfl (pc' := 552) rfl Kq) (fun st Kq => own_bipush XF.here hx (hb hby at_552) (v := 97) rfl (pc' := 554) rfl Kq) (hb hby at_554) (pc4 := 555) rfl (by decide) (Nat.le_of_eq (own_DL y1 y0 (by decide)).symm) (by decide) rfl (by decide) (fun TF hFl LF XF eF GF => ?_)
    refine own_fillK (k := 15) XF hx eF GF (hb hby at_555) (pc1 := 556) rfl (j := 15) rfl (fun st Kq => own_bipush XF.here hx (hb hby at_556) (v := 15) rfl (pc' := 558) rfl Kq) (fun st Kq => own_bipush XF.here hx (hb hby at_558) (v := 97) rfl (pc' := 560) rfl Kq) (hb hby at_560) (pc4 := 561) rfl (by decide) (Nat.le_of_eq (own_DL y1 y0 (by decide)).symm) (by decide) rfl (by decide) (fun TF hFl LF XF eF GF => ?_)
    refine own_fillK (k := 16) XF hx eF GF (hb hby at_561) (pc1 := 562) rfl (j := 16) rfl (fun st Kq => own_bipush XF.here hx (hb hby at_562) (v := 16) rfl (pc' := 564) rfl Kq) (fun st Kq => own_bipush XF.here hx (hb hby at_564) (v := 97) rfl (pc' := 566) rfl Kq) (hb hby at_566) (pc4 := 567) rfl (by decide) (Nat.le_of_eq (own_DL y1 y0 (by decide)).symm) (by decide) rfl (by decide) (fun TF hFl LF XF eF GF => ?_)
    refine own_fillK (k := 17) XF hx eF GF (hb hby at_567) (pc1 := 568) rfl (j := 17) rfl (fun st Kq => own_bipush XF.here hx (hb hby at_568) (v := 17) rfl (pc' := 570) rfl Kq) (fun st Kq => own_bipush XF.here hx (hb hby at_570) (v := 97) rfl (pc' := 572) rfl Kq) (hb hby at_572) (pc4 := 573) rfl (by decide) (Nat.le_of_eq (own_DL y1 y0 (by decide)).symm) (by decide) rfl (by decide) (fun TF hFl LF XF eF GF => ?_)
    refine own_fillK (k := 18) XF hx eF GF (hb hby at_573) (pc1 := 574) rfl (j := 18) rfl (fun st Kq => own_bipush XF.here hx (hb hby at_574) (v := 18) rfl (pc' := 576) rfl Kq) (fun st Kq => own_bipush XF.here hx (hb hby at_576) (v := 97) rfl (pc' := 578) rfl Kq) (hb hby at_578) (pc4 := 579) rfl (by decide) (Nat.le_of_eq (own_DL y1 y0 (by decide)).symm) (by decide) rfl (by decide) (fun TF hFl LF XF eF GF => ?_)
    refine own_fillK (k := 19) XF hx eF GF (hb hby at_579) (pc1 := 580) rfl (j := 19) rfl (fun st Kq => own_bipush XF.here hx (hb hby at_580) (v := 19) rfl (pc' := 582) rfl Kq) (fun st Kq => own_bipush XF.here hx (hb hby at_582) (v := 97) rfl (pc' := 584) rfl Kq) (hb hby at_584) (pc4 := 585) rfl (by decide) (Nat.le_of_eq (own_DL y1 y0 (by decide)).symm) (by decide) rfl (by decide) (fun TF hFl LF XF eF GF => ?_)
    refine own_fillK (k := 20) XF hx eF GF (hb hby at_585) (pc1 := 586) rfl (j := 20) rfl (fun st Kq => own_bipush XF.here hx (hb hby at_586) (v := 20) rfl (pc' := 588) rfl Kq) (fun st Kq => own_bipush XF.here hx (hb hby at_588) (v := 97) rfl (pc' := 590) rfl Kq) (hb hby at_590) (pc4 := 591) rfl (by decide) (Nat.le_of_eq (own_DL y1 y0 (by decide)).symm) (by decide) rfl (by decide) (fun TF hFl LF XF eF GF => ?_)
    refine own_fillK (k := 21) XF hx eF GF (hb hby at_591) (pc1 := 592) rfl (j := 21) rfl (fun st Kq => own_bipush XF.here hx (hb hby at_592) (v := 21) rfl (pc' := 594) rfl Kq) (fun st Kq => own_bipush XF.here hx (hb hby at_594) (v := 97) rfl (pc' := 596) rfl Kq) (hb hby at_596) (pc4 := 597) rfl (by decide) (Nat.le_of_eq (own_DL y1 y0 (by decide)).symm) (by decide) rfl (by decide) (fun TF hFl LF XF eF GF => ?_)
    refine own_fillK (k := 22) XF hx eF GF (hb hby at_597) (pc1 := 598) rfl (j := 22) rfl (fun st Kq => own_bipush XF.here hx (hb hby at_598) (v := 22) rfl (pc' := 600) rfl Kq) (fun st Kq => own_bipush XF.here hx (hb hby at_600) (v := 97) rfl (pc' := 602) rfl Kq) (hb hby at_602) (pc4 := 603) rfl (by decide) (Nat.le_of_eq (own_DL y1 y0 (by decide)).symm) (by decide) rfl (by decide) (fun TF hFl LF XF eF GF => ?_)
    refine own_fillK (k := 23) XF hx eF GF (hb hby at_603) (pc1 := 604) rfl (j := 23) rfl (fun st Kq => own_bipush XF.here hx (hb hby at_604) (v := 23) rfl (pc' := 606) rfl Kq) (fun st Kq => own_bipush XF.here hx (hb hby at_606) (v := 97) rfl (pc' := 608) rfl Kq) (hb hby at_608) (pc4 := 609) rfl (by decide) (Nat.le_of_eq (own_DL y1 y0 (by decide)).symm) (by decide) rfl (by decide) (fun TF hFl LF XF eF GF => ?_)
    refine own_fillK (k := 24) XF hx eF GF (hb hby at_609) (pc1 := 610) rfl (j := 24) rfl (fun st Kq => own_bipush XF.here hx (hb hby at_610) (v := 24) rfl (pc' := 612) rfl Kq) (fun st Kq => own_bipush XF.here hx (hb hby at_612) (v := 97) rfl (pc' := 614) rfl Kq) (hb hby at_614) (pc4 := 615) rfl (by decide) (Nat.le_of_eq (own_DL y1 y0 (by decide)).symm) (by decide) rfl (by decide) (fun TF hFl LF XF eF GF => ?_)
    refine own_fillK (k := 25) XF hx eF GF (hb hby at_615) (pc1 := 616) rfl (j := 25) rfl (fun st Kq => own_bipush XF.here hx (hb hby at_616) (v := 25) rfl (pc' := 618) rfl Kq) (fun st Kq => own_bipush XF.here hx (hb hby at_618) (v := 97) rfl (pc' := 620) rfl Kq) (hb hby at_620) (pc4 := 621) rfl (by decide) (Nat.le_of_eq (own_DL y1 y0 (by decide)).symm) (by decide) rfl (by decide) (fun TF hFl LF XF eF GF => ?_)
    refine own_fillK (k := 26) XF hx eF GF (hb hby at_621) (pc1 := 622) rfl (j := 26) rfl (fun st Kq => own_bipush XF.here hx (hb hby at_622) (v := 26) rfl (pc' := 624) rfl Kq) (fun st Kq => own_bipush XF.here hx (hb hby at_624) (v := 97) rfl (pc' := 626) rfl Kq) (hb hby at_626) (pc4 := 627) rfl (by decide) (Nat.le_of_eq (own_DL y1 y0 (by decide)).symm) (by decide) rfl (by decide) (fun TF hFl LF XF eF GF => ?_)
    refine own_fillK (k := 27) XF hx eF GF (hb hby at_627) (pc1 := 628) rfl (j := 27) rfl (fun st Kq => own_bipush XF.here hx (hb hby at_628) (v := 27) rfl (pc' := 630) rfl Kq) (fun st Kq => own_bipush XF.here hx (hb hby at_630) (v := 97) rfl (pc' := 632) rfl Kq) (hb hby at_632) (pc4 := 633) rfl (by decide) (Nat.le_of_eq (own_DL y1 y0 (by decide)).symm) (by decide) rfl (by decide) (fun TF hFl LF XF eF GF => ?_)
    refine own_fillK (k := 28) XF hx eF GF (hb hby at_633) (pc1 := 634) rfl (j := 28) rfl (fun st Kq => own_bipush XF.here hx (hb hby at_634) (v := 28) rfl (pc' := 636) rfl Kq) (fun st Kq => own_bipush XF.here hx (hb hby at_636) (v := 97) rfl (pc' := 638) rfl Kq) (hb hby at_638) (pc4 := 639) rfl (by decide) (Nat.le_of_eq (own_DL y1 y0 (by decide)).symm) (by decide) rfl (by decide) (fun TF hFl LF XF eF GF => ?_)
    refine own_fillK (k := 29) XF hx eF GF (hb hby at_639) (pc1 := 640) rfl (j := 29) rfl (fun st Kq => own_bipush XF.here hx (hb hby at_640) (v := 29) rfl (pc' := 642) rfl Kq) (fun st Kq => own_bipush XF.here hx (hb hby at_642) (v := 97) rfl (pc' := 644) rfl Kq) (hb hby at_644) (pc4 := 645) rfl (by decide) (Nat.le_of_eq (own_DL y1 y0 (by decide)).symm) (by decide) rfl (by decide) (fun TF hFl LF XF eF GF => ?_)
    refine own_fillK (k := 30) XF hx eF GF (hb hby at_645) (pc1 := 646) rfl (j := 30) rfl (fun st Kq => own_bipush XF.here hx (hb hby at_646) (v := 30) rfl (pc' := 648) rfl Kq) (fun st Kq => own_bipush XF.here hx (hb hby at_648) (v := 97) rfl (pc' := 650) rfl Kq) (hb hby at_650) (pc4 := 651) rfl (by decide) (Nat.le_of_eq (own_DL y1 y0 (by decide)).symm) (by decide) rfl (by decide) (fun TF hFl LF XF eF GF => ?_)
    refine own_fillK (k := 31) XF hx eF GF (hb hby at_651) (pc1 := 652) rfl (j := 31) rfl (fun st Kq => own_bipush XF.here hx (hb hby at_652) (v := 31) rfl (pc' := 654) rfl Kq) (fun st Kq => own_bipush XF.here hx (hb hby at_654) (v := 97) rfl (pc' := 656) rfl Kq) (hb hby at_656) (pc4 := 657) rfl (by decide) (Nat.le_of_eq (own_DL y1 y0 (by decide)).symm) (by decide) rfl (by decide) (fun TF hFl LF XF eF GF => ?_)
    refine own_fillK (k := 32) XF hx eF GF (hb hby at_657) (pc1 := 658) rfl (j := 32) rfl (fun st Kq => own_bipush XF.here hx (hb hby at_658) (v := 32) rfl (pc' := 660) rfl Kq) (fun st Kq => own_bipush XF.here hx (hb hby at_660) (v := 97) rfl (pc' := 662) rfl Kq) (hb hby at_662) (pc4 := 663) rfl (by decide) (Nat.le_of_eq (own_DL y1 y0 (by decide)).symm) (by decide) rfl (by decide) (fun TF hFl LF XF eF GF => ?_)
    refine own_fillK (k := 33) XF hx eF GF (hb hby at_663) (pc1 := 664) rfl (j := 33) rfl (fun st Kq => own_bipush XF.here hx (hb hby at_664) (v := 33) rfl (pc' := 666) rfl Kq) (fun st Kq => own_bipush XF.here hx (hb hby at_666) (v := 97) rfl (pc' := 668) rfl Kq) (hb hby at_668) (pc4 := 669) rfl (by decide) (Nat.le_of_eq (own_DL y1 y0 (by decide)).symm) (by decide) rfl (by decide) (fun TF hFl LF XF eF GF => ?_)
    refine own_fillK (k := 34) XF hx eF GF (hb hby at_669) (pc1 := 670) rfl (j := 34) rfl (fun st Kq => own_bipush XF.here hx (hb hby at_670) (v := 34) rfl (pc' := 672) rfl Kq) (fun st Kq => own_bipush XF.here hx (hb hby at_672) (v := 97) rfl (pc' := 674) rfl Kq) (hb hby at_674) (pc4 := 675) rfl (by decide) (Nat.le_of_eq (own_DL y1 y0 (by decide)).symm) (by decide) rfl (by decide) (fun TF hFl LF XF eF GF => ?_)
    refine own_fillK (k := 35) XF hx eF GF (hb hby at_675) (pc1 := 676) rfl (j := 35) rfl (fun st Kq => own_bipush XF.here hx (hb hby at_676) (v := 35) rfl (pc' := 678) rfl Kq) (fun st Kq => own_bipush XF.here hx (hb hby at_678) (v := 97) rfl (pc' := 680) rfl Kq) (hb hby at_680) (pc4 := 681) rfl (by decide) (Nat.le_of_eq (own_DL y1 y0 (by decide)).symm) (by decide) rfl (by decide) (fun TF hFl LF XF eF GF => ?_)
    refine own_fillK (k := 36) XF hx eF GF (hb hby at_681) (pc1 := 682) rfl (j := 36) rfl (fun st Kq => own_bipush XF.here hx (hb hby at_682) (v := 36) rfl (pc' := 684) rfl Kq) (fun st Kq => own_bipush XF.here hx (hb hby at_684) (v := 97) rfl (pc' := 686) rfl Kq) (hb hby at_686) (pc4 := 687) rfl (by decide) (Nat.le_of_eq (own_DL y1 y0 (by decide)).symm) (by decide) rfl (by decide) (fun TF hFl LF XF eF GF => ?_)
    refine own_fillK (k := 37) XF hx eF GF (hb hby at_687) (pc1 := 688) rfl (j := 37) rfl (fun st Kq => own_bipush XF.here hx (hb hby at_688) (v := 37) rfl (pc' := 690) rfl Kq) (fun st Kq => own_bipush XF.here hx (hb hby at_690) (v := 97) rfl (pc' := 692) rfl Kq) (hb hby at_692) (pc4 := 693) rfl (by decide) (Nat.le_of_eq (own_DL y1 y0 (by decide)).symm) (by decide) rfl (by decide) (fun TF hFl LF XF eF GF => ?_)
    refine own_fillK (k := 38) XF hx eF GF (hb hby at_693) (pc1 := 694) rfl (j := 38) rfl (fun st Kq => own_bipush XF.here hx (hb hby at_694) (v := 38) rfl (pc' := 696) rfl Kq) (fun st Kq => own_bipush XF.here hx (hb hby at_696) (v := 97) rfl (pc' := 698) rfl Kq) (hb hby at_698) (pc4 := 699) rfl (by decide) (Nat.le_of_eq (own_DL y1 y0 (by decide)).symm) (by decide) rfl (by decide) (fun TF hFl LF XF eF GF => ?_)
    refine own_fillK (k := 39) XF hx eF GF (hb hby at_699) (pc1 := 700) rfl (j := 39) rfl (fun st Kq => own_bipush XF.here hx (hb hby at_700) (v := 39) rfl (pc' := 702) rfl Kq) (fun st Kq => own_bipush XF.here hx (hb hby at_702) (v := 97) rfl (pc' := 704) rfl Kq) (hb hby at_704) (pc4 := 705) rfl (by decide) (Nat.le_of_eq (own_DL y1 y0 (by decide)).symm) (by decide) rfl (by decide) (fun TF hFl LF XF eF GF => ?_)
    refine own_fillK (k := 40) XF hx eF GF (hb hby at_705) (pc1 := 706) rfl (j := 40) rfl (fun st Kq => own_bipush XF.here hx (hb hby at_706) (v := 40) rfl (pc' := 708) rfl Kq) (fun st Kq => own_bipush XF.here hx (hb hby at_708) (v := 97) rfl (pc' := 710) rfl Kq) (hb hby at_710) (pc4 := 711) rfl (by decide) (Nat.le_of_eq (own_DL y1 y0 (by decide)).symm) (by decide) rfl (by decide) (fun TF hFl LF XF eF GF => ?_)
    refine own_fillK (k := 41) XF hx eF GF (hb hby at_711) (pc1 := 712) rfl (j := 41) rfl (fun st Kq => own_bipush XF.here hx (hb hby at_712) (v := 41) rfl (pc' := 714) rfl Kq) (fun st Kq => own_bipush XF.here hx (hb hby at_714) (v := 97) rfl (pc' := 716) rfl Kq) (hb hby at_716) (pc4 := 717) rfl (by decide) (Nat.le_of_eq (own_DL y1 y0 (by decide)).symm) (by decide) rfl (by decide) (fun TF hFl LF XF eF GF => ?_)
    refine own_fillK (k := 42) XF hx eF GF (hb hby at_717) (pc1 := 718) rfl (j := 42) rfl (fun st Kq => own_bipush XF.here hx (hb hby at_718) (v := 42) rfl (pc' := 720) rfl Kq) (fun st Kq => own_bipush XF.here hx (hb hby at_720) (v := 97) rfl (pc' := 722) rfl Kq) (hb hby at_722) (pc4 := 723) rfl (by decide) (Nat.le_of_eq (own_DL y1 y0 (by decide)).symm) (by decide) rfl (by decide) (fun TF hFl LF XF eF GF => ?_)
    refine own_fillK (k := 43) XF hx eF GF (hb hby at_723) (pc1 := 724) rfl (j := 43) rfl (fun st Kq => own_bipush XF.here hx (hb hby at_724) (v := 43) rfl (pc' := 726) rfl Kq) (fun st Kq => own_bipush XF.here hx (hb hby at_726) (v := 97) rfl (pc' := 728) rfl Kq) (hb hby at_728) (pc4 := 729) rfl (by decide) (Nat.le_of_eq (own_DL y1 y0 (by decide)).symm) (by decide) rfl (by decide) (fun TF hFl LF XF eF GF => ?_)
    refine own_fillK (k := 44) XF hx eF GF (hb hby at_729) (pc1 := 730) rfl (j := 44) rfl (fun st Kq => own_bipush XF.here hx (hb hby at_730) (v := 44) rfl (pc' := 732) rfl Kq) (fun st Kq => own_bipush XF.here hx (hb hby at_732) (v := 97) rfl (pc' := 734) rfl Kq) (hb hby at_734) (pc4 := 735) rfl (by decide) (Nat.le_of_eq (own_DL y1 y0 (by decide)).symm) (by decide) rfl (by decide) (fun TF hFl LF XF eF GF => ?_)
    refine own_fillK (k := 45) XF hx eF GF (hb hby at_735) (pc1 := 736) rfl (j := 45) rfl (fun st Kq => own_bipush XF.here hx (hb hby at_736) (v := 45) rfl (pc' := 738) rfl Kq) (fun st Kq => own_bipush XF.here hx (hb hby at_738) (v := 97) rfl (pc' := 740) rfl Kq) (hb hby at_740) (pc4 := 741) rfl (by decide) (Nat.le_of_eq (own_DL y1 y0 (by decide)).symm) (by decide) rfl (by decide) (fun TF hFl LF XF eF GF => ?_)
    refine own_fillK (k := 46) XF hx eF GF (hb hby at_741) (pc1 := 742) rfl (j := 46) rfl (fun st Kq => own_bipush XF.here hx (hb hby at_742) (v := 46) rfl (pc' := 744) rfl Kq) (fun st Kq => own_bipush XF.here hx (hb hby at_744) (v := 97) rfl (pc' := 746) rfl Kq) (hb hby at_746) (pc4 := 747) rfl (by decide) (Nat.le_of_eq (own_DL y1 y0 (by decide)).symm) (by decide) rfl (by decide) (fun TF hFl LF XF eF GF => ?_)
    refine own_fillK (k := 47) XF hx eF GF (hb hby at_747) (pc1 := 748) rfl (j := 47) rfl (fun st Kq => own_bipush XF.here hx (hb hby at_748) (v := 47) rfl (pc' := 750) rfl Kq) (fun st Kq => own_bipush XF.here hx (hb hby at_750) (v := 97) rfl (pc' := 752) rfl Kq) (hb hby at_752) (pc4 := 753) rfl (by decide) (Nat.le_of_eq (own_DL y1 y0 (by decide)).symm) (by decide) rfl (by decide) (fun TF hFl LF XF eF GF => ?_)
    refine own_fillK (k := 48) XF hx eF GF (hb hby at_753) (pc1 := 754) rfl (j := 48) rfl (fun st Kq => own_bipush XF.here hx (hb hby at_754) (v := 48) rfl (pc' := 756) rfl Kq) (fun st Kq => own_bipush XF.here hx (hb hby at_756) (v := 97) rfl (pc' := 758) rfl Kq) (hb hby at_758) (pc4 := 759) rfl (by decide) (Nat.le_of_eq (own_DL y1 y0 (by decide)).symm) (by decide) rfl (by decide) (fun TF hFl LF XF eF GF => ?_)
    refine own_fillK (k := 49) XF hx eF GF (hb hby at_759) (pc1 := 760) rfl (j := 49) rfl (fun st Kq => own_bipush XF.here hx (hb hby at_760) (v := 49) rfl (pc' := 762) rfl Kq) (fun st Kq => own_bipush XF.here hx (hb hby at_762) (v := 97) rfl (pc' := 764) rfl Kq) (hb hby at_764) (pc4 := 765) rfl (by decide) (Nat.le_of_eq (own_DL y1 y0 (by decide)).symm) (by decide) rfl (by decide) (fun TF hFl LF XF eF GF => ?_)
    refine own_fillK (k := 50) XF hx eF GF (hb hby at_765) (pc1 := 766) rfl (j := 50) rfl (fun st Kq => own_bipush XF.here hx (hb hby at_766) (v := 50) rfl (pc' := 768) rfl Kq) (fun st Kq => own_bipush XF.here hx (hb hby at_768) (v := 97) rfl (pc' := 770) rfl Kq) (hb hby at_770) (pc4 := 771) rfl (by decide) (Nat.le_of_eq (own_DL y1 y0 (by decide)).symm) (by decide) rfl (by decide) (fun TF hFl LF XF eF GF => ?_)
    refine own_fillK (k := 51) XF hx eF GF (hb hby at_771) (pc1 := 772) rfl (j := 51) rfl (fun st Kq => own_bipush XF.here hx (hb hby at_772) (v := 51) rfl (pc' := 774) rfl Kq) (fun st Kq => own_bipush XF.here hx (hb hby at_774) (v := 97) rfl (pc' := 776) rfl Kq) (hb hby at_776) (pc4 := 777) rfl (by decide) (Nat.le_of_eq (own_DL y1 y0 (by decide)).symm) (by decide) rfl (by decide) (fun TF hFl LF XF eF GF => ?_)
    refine own_fillK (k := 52) XF hx eF GF (hb hby at_777) (pc1 := 778) rfl (j := 52) rfl (fun st Kq => own_bipush XF.here hx (hb hby at_778) (v := 52) rfl (pc' := 780) rfl Kq) (fun st Kq => own_bipush XF.here hx (hb hby at_780) (v := 97) rfl (pc' := 782) rfl Kq) (hb hby at_782) (pc4 := 783) rfl (by decide) (Nat.le_of_eq (own_DL y1 y0 (by decide)).symm) (by decide) rfl (by decide) (fun TF hFl LF XF eF GF => ?_)
    refine own_fillK (k := 53) XF hx eF GF (hb hby at_783) (pc1 := 784) rfl (j := 53) rfl (fun st Kq => own_bipush XF.here hx (hb hby at_784) (v := 53) rfl (pc' := 786) rfl Kq) (fun st Kq => own_bipush XF.here hx (hb hby at_786) (v := 97) rfl (pc' := 788) rfl Kq) (hb hby at_788) (pc4 := 789) rfl (by decide) (Nat.le_of_eq (own_DL y1 y0 (by decide)).symm) (by decide) rfl (by decide) (fun TF hFl LF XF eF GF => ?_)
    refine own_fillK (k := 54) XF hx eF GF (hb hby at_789) (pc1 := 790) rfl (j := 54) rfl (fun st Kq => own_bipush XF.here hx (hb hby at_790) (v := 54) rfl (pc' := 792) rfl Kq) (fun st Kq => own_bipush XF.here hx (hb hby at_792) (v := 97) rfl (pc' := 794) rfl Kq) (hb hby at_794) (pc4 := 795) rfl (by decide) (Nat.le_of_eq (own_DL y1 y0 (by decide)).symm) (by decide) rfl (by decide) (fun TF hFl LF XF eF GF => ?_)
    refine own_fillK (k := 55) XF hx eF GF (hb hby at_795) (pc1 := 796) rfl (j := 55) rfl (fun st Kq => own_bipush XF.here hx (hb hby at_796) (v := 55) rfl (pc' := 798) rfl Kq) (fun st Kq => own_bipush XF.here hx (hb hby at_798) (v := 97) rfl (pc' := 800) rfl Kq) (hb hby at_800) (pc4 := 801) rfl (by decide) (Nat.le_of_eq (own_DL y1 y0 (by decide)).symm) (by decide) rfl (by decide) (fun TF hFl LF XF eF GF => ?_)
    refine own_fillK (k := 56) XF hx eF GF (hb hby at_801) (pc1 := 802) rfl (j := 56) rfl (fun st Kq => own_bipush XF.here hx (hb hby at_802) (v := 56) rfl (pc' := 804) rfl Kq) (fun st Kq => own_bipush XF.here hx (hb hby at_804) (v := 97) rfl (pc' := 806) rfl Kq) (hb hby at_806) (pc4 := 807) rfl (by decide) (Nat.le_of_eq (own_DL y1 y0 (by decide)).symm) (by decide) rfl (by decide) (fun TF hFl LF XF eF GF => ?_)
    refine own_fillK (k := 57) XF hx eF GF (hb hby at_807) (pc1 := 808) rfl (j := 57) rfl (fun st Kq => own_bipush XF.here hx (hb hby at_808) (v := 57) rfl (pc' := 810) rfl Kq) (fun st Kq => own_bipush XF.here hx (hb hby at_810) (v := 97) rfl (pc' := 812) rfl Kq) (hb hby at_812) (pc4 := 813) rfl (by decide) (Nat.le_of_eq (own_DL y1 y0 (by decide)).symm) (by decide) rfl (by decide) (fun TF hFl LF XF eF GF => ?_)
    refine own_fillK (k := 58) XF hx eF GF (hb hby at_813) (pc1 := 814) rfl (j := 58) rfl (fun st Kq => own_bipush XF.here hx (hb hby at_814) (v := 58) rfl (pc' := 816) rfl Kq) (fun st Kq => own_bipush XF.here hx (hb hby at_816) (v := 97) rfl (pc' := 818) rfl Kq) (hb hby at_818) (pc4 := 819) rfl (by decide) (Nat.le_of_eq (own_DL y1 y0 (by decide)).symm) (by decide) rfl (by decide) (fun TF hFl LF XF eF GF => ?_)
    refine own_fillK (k := 59) XF hx eF GF (hb hby at_819) (pc1 := 820) rfl (j := 59) rfl (fun st Kq => own_bipush XF.here hx (hb hby at_820) (v := 59) rfl (pc' := 822) rfl Kq) (fun st Kq => own_bipush XF.here hx (hb hby at_822) (v := 97) rfl (pc' := 824) rfl Kq) (hb hby at_824) (pc4 := 825) rfl (by decide) (Nat.le_of_eq (own_DL y1 y0 (by decide)).symm) (by decide) rfl (by decide) (fun TF hFl LF XF eF GF => ?_)
    refine own_fillK (k := 60) XF hx eF GF (hb hby at_825) (pc1 := 826) rfl (j := 60) rfl (fun st Kq => own_bipush XF.here hx (hb hby at_826) (v := 60) rfl (pc' := 828) rfl Kq) (fun st Kq => own_bipush XF.here hx (hb hby at_828) (v := 97) rfl (pc' := 830) rfl Kq) (hb hby at_830) (pc4 := 831) rfl (by decide) (Nat.le_of_eq (own_DL y1 y0 (by decide)).symm) (by decide) rfl (by decide) (fun TF hFl LF XF eF GF => ?_)
    refine own_fillK (k := 61) XF hx eF GF (hb hby at_831) (pc1 := 832) rfl (j := 61) rfl (fun st Kq => own_bipush XF.here hx (hb hby at_832) (v := 61) rfl (pc' := 834) rfl Kq) (fun st Kq => own_bipush XF.here hx (hb hby at_834) (v := 97) rfl (pc' := 836) rfl Kq) (hb hby at_836) (pc4 := 837) rfl (by decide) (Nat.le_of_eq (own_DL y1 y0 (by decide)).symm) (by decide) rfl (by decide) (fun TF hFl LF XF eF GF => ?_)
    refine own_fillK (k := 62) XF hx eF GF (hb hby at_837) (pc1 := 838) rfl (j := 62) rfl (fun st Kq => own_bipush XF.here hx (hb hby at_838) (v := 62) rfl (pc' := 840) rfl Kq) (fun st Kq => own_bipush XF.here hx (hb hby at_840) (v := 97) rfl (pc' := 842) rfl Kq) (hb hby at_842) (pc4 := 843) rfl (by decide) (Nat.le_of_eq (own_DL y1 y0 (by decide)).symm) (by decide) rfl (by decide) (fun TF hFl LF XF eF GF => ?_)
    refine own_fillK (k := 63) XF hx eF GF (hb hby at_843) (pc1 := 844) rfl (j := 63) rfl (fun st Kq => own_bipush XF.here hx (hb hby at_844) (v := 63) rfl (pc' := 846) rfl Kq) (fun st Kq => own_iload XF.here hx (hb hby at_846) rfl (pc' := 848) rfl Kq) (hb hby at_848) (pc4 := 849) rfl (by decide) (Nat.le_of_eq (own_DL y1 y0 (by decide)).symm) (by decide) rfl ny0 (fun TF hFl LF XF eF GF => ?_)
    obtain ⟨I232, M232, -, -, -, A232, Fv232, Fc232, S232, N232, V232⟩ := GF
    rw [own_flF (own_DL y1 y0 (by decide))] at V232
    obtain ⟨_, _, ⟨T234, L234, k234, n234⟩, -, X234, ⟨Lc234, hQ234, l234, y234, z234⟩, st234⟩ := XF.specialBack hx (y := (⟨"java/lang/String", "<init>", "([C)V"⟩ : MethodName)) rfl I232.2.1 (mvT I232.1 (hw _ (List.mem_of_getElem? (i := 12) rfl))) (mvT I232.1 (hw _ (List.mem_of_getElem? (i := 13) rfl))) (mvT I232.1 (hw _ (List.mem_of_getElem? (i := 14) rfl))) (by decide) (backOf (W := 1) (rmI1 l Z a0 hw a219 a223 k223 (own_D y1 y0 64) (64 : Int32) (.int (0 : Int32)) hFl (own_ext_trans EZ M232) z0 O1 P5 O3 O4 O5 gz_a219 (Ne.symm ne224) A232 Fv232 Fc232 V232 rfl (Nat.le_of_ble_eq_true rfl) (own_Dp py1 py0) (Nat.le_of_ble_eq_true rfl) (Nat.le_of_ble_eq_true rfl)) I232.1 (hw _ (List.mem_of_getElem? (i := 14) rfl)) (hw _ (List.mem_of_getElem? (i := 10) rfl)) (by decide) (by decide)) (g := (mkF m 849 #[.val (.int mo), .val (.int a), .val (.int b), .val (.int c1), .val (.int d), .val (.int y0), .val (.int y1), .val (.int y2), .val (.int y3), .val (.int ((6 : Int32))), .unset, .unset, .unset] [(.ref a223), (.ref a219), (.ref a219)])) rfl (by rw [hml]; rfl) (Steps.refl _) (a := a219) (argsL := [(.ref a223)]) (rest := [(.ref a219)]) (lenOf pdE1 rfl) rfl (by show 2 * 0 + _ ≤ _; exact Nat.le_of_eq rfl) (hb hby at_849) (fun _ _ => ⟨rfl, eF, (Nat.le_of_ble_eq_true rfl), (Nat.le_of_ble_eq_true rfl)⟩)
    dsimp only [Pt.U, Pt.locs, Pt.cells, Pt.slots] at X234 l234 y234 z234 st234 hQ234
    subst l234 y234 z234
    obtain ⟨rfl, N234, K234, S234⟩ := hQ234
    refine own_to st234 ?_
    show own_Go p e below F (T234.setTop (mkF m 852 #[.val (.int mo), .val (.int a), .val (.int b), .val (.int c1), .val (.int d), .val (.int y0), .val (.int y1), .val (.int y2), .val (.int y3), .val (.int ((6 : Int32))), .unset, .unset, .unset] [(.ref a219)]))
    have f235 := own_ext_keep M232 K234 (fun y hy => by simp only [List.mem_cons, List.not_mem_nil, or_false] at hy; rcases hy with rfl <;> assumption)
    have J236 := I232.keep K234 (sfS S232 sf0)
    have N237 := Fr.app N232 N234
    refine own_astore X234.here hx (hb hby at_852) rfl (L' := #[.val (.int mo), .val (.int a), .val (.int b), .val (.int c1), .val (.int d), .val (.int y0), .val (.int y1), .val (.int y2), .val (.int y3), .val (.int ((6 : Int32))), .val (.ref a219), .unset, .unset]) rfl (pc' := 854) rfl ?_
    refine own_iconst X234.here hx (hb hby at_854) (v := 0) rfl (pc' := 855) rfl ?_
    refine own_istore X234.here hx (hb hby at_855) (L' := #[.val (.int mo), .val (.int a), .val (.int b), .val (.int c1), .val (.int d), .val (.int y0), .val (.int y1), .val (.int y2), .val (.int y3), .val (.int ((6 : Int32))), .val (.ref a219), .val (.int ((0 : Int32))), .unset]) rfl (pc' := 857) rfl ?_
    refine own_goto X234.here hx (hb hby at_857) (by decide) (pc' := 961) (by decide) ?_
    refine own_aload X234.here hx (hb hby at_961) rfl rfl (pc' := 963) rfl ?_
    obtain ⟨_, _, ⟨T238, L238, k238, n238⟩, -, X238, ⟨Lc238, hQ238, l238, y238, z238⟩, st238⟩ := Jvm.LawKit.callS X234 hx (y := (⟨"com/example/cladistic/cladistic/Names", "isPlainIdentifier", "(Ljava/lang/String;)Z"⟩ : MethodName)) J236.2.1 (mvT J236.1 (hw _ (List.mem_of_getElem? (i := 30) rfl))) (mvT J236.1 (hw _ (List.mem_of_getElem? (i := 31) rfl))) (mvT J236.1 (hw _ (List.mem_of_getElem? (i := 32) rfl))) (mvT J236.1 (hw _ (List.mem_of_getElem? (i := 33) rfl))) (by decide) (backOf (W := 0) (rmPI l Z a0 hw a219 (own_D y1 y0 64) T234.heap (own_ext_trans EZ f235) z0 O1 P5 fm O2 rf O3 O4 O5 S234) J236.1 (hw _ (List.mem_of_getElem? (i := 33) rfl)) (hw _ (List.mem_of_getElem? (i := 32) rfl)) (by decide) (by decide)) (g := (mkF m 963 #[.val (.int mo), .val (.int a), .val (.int b), .val (.int c1), .val (.int d), .val (.int y0), .val (.int y1), .val (.int y2), .val (.int y3), .val (.int ((6 : Int32))), .val (.ref a219), .val (.int ((0 : Int32))), .unset] [(.ref a219)])) rfl (by rw [hml]; rfl) (argsL := [(.ref a219)]) (rest := []) (lenOf pdx16 rfl) rfl (by show 2 * 0 + _ ≤ _; exact Nat.le_of_eq rfl) (hb hby at_963) (fun _ _ => ⟨rfl, rfl, (Nat.le_of_ble_eq_true rfl), (Nat.le_of_ble_eq_true rfl)⟩)
    dsimp only [Pt.U, Pt.locs, Pt.cells, Pt.slots] at X238 l238 y238 z238 st238 hQ238
    subst l238 y238 z238
    obtain ⟨rfl, N238, E238⟩ := hQ238
    refine own_on (st238) ?_
    show own_Go p e below F (T238.setTop (mkF m 966 #[.val (.int mo), .val (.int a), .val (.int b), .val (.int c1), .val (.int d), .val (.int y0), .val (.int y1), .val (.int y2), .val (.int y3), .val (.int ((6 : Int32))), .val (.ref a219), .val (.int ((0 : Int32))), .unset] [(.int (own_pi (own_D y1 y0 64)))]))
    have N239 := Fr.app N237 N238
    refine own_iload X238.here hx (hb hby at_966) rfl (pc' := 968) rfl ?_
    refine own_icmpne X238.here hx (hb hby at_968) (by decide) (pc' := 975) (by decide) (pc2 := 971) rfl (fun q => absurd (show own_pi (own_D y1 y0 64) = (0 : Int32) by rw [own_piD64]) q) (fun q240 => ?_)
    refine own_iconst X238.here hx (hb hby at_971) (v := 1) rfl (pc' := 972) rfl ?_
    refine own_goto X238.here hx (hb hby at_972) (by decide) (pc' := 976) (by decide) ?_
    exact own_retZW X238 hx hlk hEL J236 E238 (by decide) hret (hb hby at_976) (fun t ht hC hE => hF t _ _ _ _ (by rw [ht]; exact ⟨rfl, (by simpa using N239)⟩) hC hE (by decide) (by decide))
  · show own_Go p e below F (T7.setTop (mkF m 31 #[.val (.int mo), .val (.int a), .val (.int b), .val (.int c1), .val (.int d), .val (.int y0), .val (.int y1), .val (.int y2), .val (.int y3), .val (.int ((7 : Int32))), .unset, .unset, .unset] []))
    refine own_iload X7.here hx (hb hby at_31) rfl (pc' := 33) rfl ?_
    refine own_iconst X7.here hx (hb hby at_33) (v := 5) rfl (pc' := 34) rfl ?_
    refine own_icmpne X7.here hx (hb hby at_34) (by decide) (pc' := 456) (by decide) (pc2 := 37) rfl (fun q241 => ?_) (fun q => absurd q (by decide))
    refine own_iload X7.here hx (hb hby at_456) rfl (pc' := 458) rfl ?_
    refine own_bipush X7.here hx (hb hby at_458) (v := 6) rfl (pc' := 460) rfl ?_
    refine own_icmpne X7.here hx (hb hby at_460) (by decide) (pc' := 860) (by decide) (pc2 := 463) rfl (fun q242 => ?_) (fun q => absurd q (by decide))
    refine own_iload X7.here hx (hb hby at_860) rfl (pc' := 862) rfl ?_
    refine own_bipush X7.here hx (hb hby at_862) (v := 7) rfl (pc' := 864) rfl ?_
    refine own_icmpne X7.here hx (hb hby at_864) (by decide) (pc' := 871) (by decide) (pc2 := 867) rfl (fun q => absurd rfl q) (fun q243 => ?_)
    refine own_iconst X7.here hx (hb hby at_867) (v := 4) rfl (pc' := 868) rfl ?_
    refine own_goto X7.here hx (hb hby at_868) (by decide) (pc' := 873) (by decide) ?_
    refine own_istore X7.here hx (hb hby at_873) (L' := #[.val (.int mo), .val (.int a), .val (.int b), .val (.int c1), .val (.int d), .val (.int y0), .val (.int y1), .val (.int y2), .val (.int y3), .val (.int ((7 : Int32))), .unset, .unset, .val (.int ((4 : Int32)))]) rfl (pc' := 875) rfl ?_
    refine own_iload X7.here hx (hb hby at_875) rfl (pc' := 877) rfl ?_
    refine own_iload X7.here hx (hb hby at_877) rfl (pc' := 879) rfl ?_
    refine own_iload X7.here hx (hb hby at_879) rfl (pc' := 881) rfl ?_
    refine own_iload X7.here hx (hb hby at_881) rfl (pc' := 883) rfl ?_
    refine own_iload X7.here hx (hb hby at_883) rfl (pc' := 885) rfl ?_
    obtain ⟨_, _, ⟨T244, L244, k244, n244⟩, -, X244, ⟨Lc244, hQ244, l244, y244, z244⟩, st244⟩ := Jvm.LawKit.callS X7 hx (y := (⟨"com/example/cladistic/cladistic/NamesIsPlainIdentifierPinLaw", "shortString", "(ICCCC)Ljava/lang/String;"⟩ : MethodName)) I0.2.1 (mvT I0.1 (hw _ (List.mem_of_getElem? (i := 5) rfl))) (mvT I0.1 (hw _ (List.mem_of_getElem? (i := 6) rfl))) (mvT I0.1 (hw _ (List.mem_of_getElem? (i := 2) rfl))) (mvT I0.1 (hw _ (List.mem_of_getElem? (i := 7) rfl))) (by decide) (backOf (W := 0) (rmS4 l Z a0 hw y0 y1 y2 y3 h0 (own_ext_trans EZ M0) z0 O1 P5 O3 O4 O5 ny0 py0 ny1 py1 ny2 py2 ny3 py3) I0.1 (hw _ (List.mem_of_getElem? (i := 7) rfl)) (hw _ (List.mem_of_getElem? (i := 2) rfl)) (by decide) (by decide)) (g := (mkF m 885 #[.val (.int mo), .val (.int a), .val (.int b), .val (.int c1), .val (.int d), .val (.int y0), .val (.int y1), .val (.int y2), .val (.int y3), .val (.int ((7 : Int32))), .unset, .unset, .val (.int ((4 : Int32)))] [(.int y3), (.int y2), (.int y1), (.int y0), (.int ((4 : Int32)))])) rfl (by rw [hml]; rfl) (argsL := [(.int ((4 : Int32))), (.int y0), (.int y1), (.int y2), (.int y3)]) (rest := []) (lenOf pdx18 rfl) rfl (by show 2 * 0 + _ ≤ _; exact Nat.le_of_eq rfl) (hb hby at_885) (fun _ _ => ⟨rfl, E7, (Nat.le_of_ble_eq_true rfl), (Nat.le_of_ble_eq_true rfl)⟩)
    dsimp only [Pt.U, Pt.locs, Pt.cells, Pt.slots] at X244 l244 y244 z244 st244 hQ244
    subst l244 y244 z244
    obtain ⟨x244, rfl, S244, E244, N244⟩ := hQ244
    refine own_on (st244) ?_
    show own_Go p e below F (T244.setTop (mkF m 888 #[.val (.int mo), .val (.int a), .val (.int b), .val (.int c1), .val (.int d), .val (.int y0), .val (.int y1), .val (.int y2), .val (.int y3), .val (.int ((7 : Int32))), .unset, .unset, .val (.int ((4 : Int32)))] [(.ref x244)]))
    have f245 := own_ext_trans M0 E244
    have J246 := I0.ext E244
    have N247 := Fr.app N8 N244
    refine own_astore X244.here hx (hb hby at_888) rfl (L' := #[.val (.int mo), .val (.int a), .val (.int b), .val (.int c1), .val (.int d), .val (.int y0), .val (.int y1), .val (.int y2), .val (.int y3), .val (.int ((7 : Int32))), .val (.ref x244), .unset, .val (.int ((4 : Int32)))]) rfl (pc' := 890) rfl ?_
    refine own_iload X244.here hx (hb hby at_890) rfl (pc' := 892) rfl ?_
    refine own_iconst X244.here hx (hb hby at_892) (v := 1) rfl (pc' := 893) rfl ?_
    refine own_icmplt X244.here hx (hb hby at_893) (by decide) (pc' := 958) (by decide) (pc2 := 896) rfl (fun q => absurd q (by decide)) (fun q248 => ?_)
    refine own_iload X244.here hx (hb hby at_896) rfl (pc' := 898) rfl ?_
    obtain ⟨_, _, ⟨T249, L249, k249, n249⟩, -, X249, ⟨Lc249, hQ249, l249, y249, z249⟩, st249⟩ := Jvm.LawKit.callS X244 hx (y := (⟨"com/example/cladistic/cladistic/NamesIsPlainIdentifierPinLaw", "allowed", "(C)Z"⟩ : MethodName)) J246.2.1 (mvT J246.1 (hw _ (List.mem_of_getElem? (i := 50) rfl))) (mvT J246.1 (hw _ (List.mem_of_getElem? (i := 51) rfl))) (mvT J246.1 (hw _ (List.mem_of_getElem? (i := 2) rfl))) (mvT J246.1 (hw _ (List.mem_of_getElem? (i := 52) rfl))) (by decide) (backOf (W := 0) (rmAl l Z a0 hw y0 T244.heap) J246.1 (hw _ (List.mem_of_getElem? (i := 52) rfl)) (hw _ (List.mem_of_getElem? (i := 2) rfl)) (by decide) (by decide)) (g := (mkF m 898 #[.val (.int mo), .val (.int a), .val (.int b), .val (.int c1), .val (.int d), .val (.int y0), .val (.int y1), .val (.int y2), .val (.int y3), .val (.int ((7 : Int32))), .val (.ref x244), .unset, .val (.int ((4 : Int32)))] [(.int y0)])) rfl (by rw [hml]; rfl) (argsL := [(.int y0)]) (rest := []) (lenOf pdx15 rfl) rfl (by show 2 * 0 + _ ≤ _; exact Nat.le_of_eq rfl) (hb hby at_898) (fun _ _ => ⟨rfl, rfl, (Nat.le_of_ble_eq_true rfl), (Nat.le_of_ble_eq_true rfl)⟩)
    dsimp only [Pt.U, Pt.locs, Pt.cells, Pt.slots] at X249 l249 y249 z249 st249 hQ249
    subst l249 y249 z249
    obtain ⟨rfl, N249, E249⟩ := hQ249
    refine own_on (st249) ?_
    show own_Go p e below F (T249.setTop (mkF m 901 #[.val (.int mo), .val (.int a), .val (.int b), .val (.int c1), .val (.int d), .val (.int y0), .val (.int y1), .val (.int y2), .val (.int y3), .val (.int ((7 : Int32))), .val (.ref x244), .unset, .val (.int ((4 : Int32)))] [(.int ((if own_ok y0 = true then (1 : Int32) else 0)))]))
    have N250 := Fr.app N247 N249
    by_cases ho0 : own_ok y0 = true
    · rw [if_pos ho0]
      show own_Go p e below F (T249.setTop (mkF m 901 #[.val (.int mo), .val (.int a), .val (.int b), .val (.int c1), .val (.int d), .val (.int y0), .val (.int y1), .val (.int y2), .val (.int y3), .val (.int ((7 : Int32))), .val (.ref x244), .unset, .val (.int ((4 : Int32)))] [(.int ((1 : Int32)))]))
      refine own_ifeq X249.here hx (hb hby at_901) (by decide) (pc' := 958) (by decide) (pc2 := 904) rfl (fun q => absurd q (by decide)) (fun q251 => ?_)
      refine own_iload X249.here hx (hb hby at_904) rfl (pc' := 906) rfl ?_
      obtain ⟨_, _, ⟨T252, L252, k252, n252⟩, -, X252, ⟨Lc252, hQ252, l252, y252, z252⟩, st252⟩ := Jvm.LawKit.callS X249 hx (y := (⟨"com/example/cladistic/cladistic/NamesIsPlainIdentifierPinLaw", "digit", "(C)Z"⟩ : MethodName)) J246.2.1 (mvT J246.1 (hw _ (List.mem_of_getElem? (i := 53) rfl))) (mvT J246.1 (hw _ (List.mem_of_getElem? (i := 54) rfl))) (mvT J246.1 (hw _ (List.mem_of_getElem? (i := 2) rfl))) (mvT J246.1 (hw _ (List.mem_of_getElem? (i := 55) rfl))) (by decide) (backOf (W := 0) (rmDa l Z a0 hw y0 T244.heap) J246.1 (hw _ (List.mem_of_getElem? (i := 55) rfl)) (hw _ (List.mem_of_getElem? (i := 2) rfl)) (by decide) (by decide)) (g := (mkF m 906 #[.val (.int mo), .val (.int a), .val (.int b), .val (.int c1), .val (.int d), .val (.int y0), .val (.int y1), .val (.int y2), .val (.int y3), .val (.int ((7 : Int32))), .val (.ref x244), .unset, .val (.int ((4 : Int32)))] [(.int y0)])) rfl (by rw [hml]; rfl) (argsL := [(.int y0)]) (rest := []) (lenOf pdx15 rfl) rfl (by show 2 * 0 + _ ≤ _; exact Nat.le_of_eq rfl) (hb hby at_906) (fun _ _ => ⟨rfl, E249, (Nat.le_of_ble_eq_true rfl), (Nat.le_of_ble_eq_true rfl)⟩)
      dsimp only [Pt.U, Pt.locs, Pt.cells, Pt.slots] at X252 l252 y252 z252 st252 hQ252
      subst l252 y252 z252
      obtain ⟨rfl, N252, E252⟩ := hQ252
      refine own_on (st252) ?_
      show own_Go p e below F (T252.setTop (mkF m 909 #[.val (.int mo), .val (.int a), .val (.int b), .val (.int c1), .val (.int d), .val (.int y0), .val (.int y1), .val (.int y2), .val (.int y3), .val (.int ((7 : Int32))), .val (.ref x244), .unset, .val (.int ((4 : Int32)))] [(.int ((if own_dg y0 = true then (1 : Int32) else 0)))]))
      have N253 := Fr.app N250 N252
      by_cases hd0 : own_dg y0 = true
      · rw [if_pos hd0]
        show own_Go p e below F (T252.setTop (mkF m 909 #[.val (.int mo), .val (.int a), .val (.int b), .val (.int c1), .val (.int d), .val (.int y0), .val (.int y1), .val (.int y2), .val (.int y3), .val (.int ((7 : Int32))), .val (.ref x244), .unset, .val (.int ((4 : Int32)))] [(.int ((1 : Int32)))]))
        refine own_ifne X252.here hx (hb hby at_909) (by decide) (pc' := 958) (by decide) (pc2 := 912) rfl (fun q254 => ?_) (fun q => absurd q (by decide))
        refine own_iconst X252.here hx (hb hby at_958) (v := 0) rfl (pc' := 959) rfl ?_
        refine own_istore X252.here hx (hb hby at_959) (L' := #[.val (.int mo), .val (.int a), .val (.int b), .val (.int c1), .val (.int d), .val (.int y0), .val (.int y1), .val (.int y2), .val (.int y3), .val (.int ((7 : Int32))), .val (.ref x244), .val (.int ((0 : Int32))), .val (.int ((4 : Int32)))]) rfl (pc' := 961) rfl ?_
        refine own_aload X252.here hx (hb hby at_961) rfl rfl (pc' := 963) rfl ?_
        obtain ⟨_, _, ⟨T255, L255, k255, n255⟩, -, X255, ⟨Lc255, hQ255, l255, y255, z255⟩, st255⟩ := Jvm.LawKit.callS X252 hx (y := (⟨"com/example/cladistic/cladistic/Names", "isPlainIdentifier", "(Ljava/lang/String;)Z"⟩ : MethodName)) J246.2.1 (mvT J246.1 (hw _ (List.mem_of_getElem? (i := 30) rfl))) (mvT J246.1 (hw _ (List.mem_of_getElem? (i := 31) rfl))) (mvT J246.1 (hw _ (List.mem_of_getElem? (i := 32) rfl))) (mvT J246.1 (hw _ (List.mem_of_getElem? (i := 33) rfl))) (by decide) (backOf (W := 0) (rmPI l Z a0 hw x244 [y0, y1, y2, y3] T244.heap (own_ext_trans EZ f245) z0 O1 P5 fm O2 rf O3 O4 O5 S244) J246.1 (hw _ (List.mem_of_getElem? (i := 33) rfl)) (hw _ (List.mem_of_getElem? (i := 32) rfl)) (by decide) (by decide)) (g := (mkF m 963 #[.val (.int mo), .val (.int a), .val (.int b), .val (.int c1), .val (.int d), .val (.int y0), .val (.int y1), .val (.int y2), .val (.int y3), .val (.int ((7 : Int32))), .val (.ref x244), .val (.int ((0 : Int32))), .val (.int ((4 : Int32)))] [(.ref x244)])) rfl (by rw [hml]; rfl) (argsL := [(.ref x244)]) (rest := []) (lenOf pdx16 rfl) rfl (by show 2 * 0 + _ ≤ _; exact Nat.le_of_eq rfl) (hb hby at_963) (fun _ _ => ⟨rfl, E252, (Nat.le_of_ble_eq_true rfl), (Nat.le_of_ble_eq_true rfl)⟩)
        dsimp only [Pt.U, Pt.locs, Pt.cells, Pt.slots] at X255 l255 y255 z255 st255 hQ255
        subst l255 y255 z255
        obtain ⟨rfl, N255, E255⟩ := hQ255
        refine own_on (st255) ?_
        show own_Go p e below F (T255.setTop (mkF m 966 #[.val (.int mo), .val (.int a), .val (.int b), .val (.int c1), .val (.int d), .val (.int y0), .val (.int y1), .val (.int y2), .val (.int y3), .val (.int ((7 : Int32))), .val (.ref x244), .val (.int ((0 : Int32))), .val (.int ((4 : Int32)))] [(.int (own_pi [y0, y1, y2, y3]))]))
        have N256 := Fr.app N253 N255
        refine own_iload X255.here hx (hb hby at_966) rfl (pc' := 968) rfl ?_
        refine own_icmpne X255.here hx (hb hby at_968) (by decide) (pc' := 975) (by decide) (pc2 := 971) rfl (fun q => absurd (show own_pi [y0, y1, y2, y3] = (0 : Int32) by simp [own_pi, hd0]) q) (fun q257 => ?_)
        refine own_iconst X255.here hx (hb hby at_971) (v := 1) rfl (pc' := 972) rfl ?_
        refine own_goto X255.here hx (hb hby at_972) (by decide) (pc' := 976) (by decide) ?_
        exact own_retZW X255 hx hlk hEL J246 E255 (by decide) hret (hb hby at_976) (fun t ht hC hE => hF t _ _ _ _ (by rw [ht]; exact ⟨rfl, (by simpa using N256)⟩) hC hE (by decide) (by decide))
      · rw [if_neg hd0]
        show own_Go p e below F (T252.setTop (mkF m 909 #[.val (.int mo), .val (.int a), .val (.int b), .val (.int c1), .val (.int d), .val (.int y0), .val (.int y1), .val (.int y2), .val (.int y3), .val (.int ((7 : Int32))), .val (.ref x244), .unset, .val (.int ((4 : Int32)))] [(.int ((0 : Int32)))]))
        refine own_ifne X252.here hx (hb hby at_909) (by decide) (pc' := 958) (by decide) (pc2 := 912) rfl (fun q => absurd rfl q) (fun q258 => ?_)
        refine own_iload X252.here hx (hb hby at_912) rfl (pc' := 914) rfl ?_
        refine own_iconst X252.here hx (hb hby at_914) (v := 2) rfl (pc' := 915) rfl ?_
        refine own_icmplt X252.here hx (hb hby at_915) (by decide) (pc' := 926) (by decide) (pc2 := 918) rfl (fun q => absurd q (by decide)) (fun q259 => ?_)
        refine own_iload X252.here hx (hb hby at_918) rfl (pc' := 920) rfl ?_
        obtain ⟨_, _, ⟨T260, L260, k260, n260⟩, -, X260, ⟨Lc260, hQ260, l260, y260, z260⟩, st260⟩ := Jvm.LawKit.callS X252 hx (y := (⟨"com/example/cladistic/cladistic/NamesIsPlainIdentifierPinLaw", "allowed", "(C)Z"⟩ : MethodName)) J246.2.1 (mvT J246.1 (hw _ (List.mem_of_getElem? (i := 50) rfl))) (mvT J246.1 (hw _ (List.mem_of_getElem? (i := 51) rfl))) (mvT J246.1 (hw _ (List.mem_of_getElem? (i := 2) rfl))) (mvT J246.1 (hw _ (List.mem_of_getElem? (i := 52) rfl))) (by decide) (backOf (W := 0) (rmAl l Z a0 hw y1 T244.heap) J246.1 (hw _ (List.mem_of_getElem? (i := 52) rfl)) (hw _ (List.mem_of_getElem? (i := 2) rfl)) (by decide) (by decide)) (g := (mkF m 920 #[.val (.int mo), .val (.int a), .val (.int b), .val (.int c1), .val (.int d), .val (.int y0), .val (.int y1), .val (.int y2), .val (.int y3), .val (.int ((7 : Int32))), .val (.ref x244), .unset, .val (.int ((4 : Int32)))] [(.int y1)])) rfl (by rw [hml]; rfl) (argsL := [(.int y1)]) (rest := []) (lenOf pdx15 rfl) rfl (by show 2 * 0 + _ ≤ _; exact Nat.le_of_eq rfl) (hb hby at_920) (fun _ _ => ⟨rfl, E252, (Nat.le_of_ble_eq_true rfl), (Nat.le_of_ble_eq_true rfl)⟩)
        dsimp only [Pt.U, Pt.locs, Pt.cells, Pt.slots] at X260 l260 y260 z260 st260 hQ260
        subst l260 y260 z260
        obtain ⟨rfl, N260, E260⟩ := hQ260
        refine own_on (st260) ?_
        show own_Go p e below F (T260.setTop (mkF m 923 #[.val (.int mo), .val (.int a), .val (.int b), .val (.int c1), .val (.int d), .val (.int y0), .val (.int y1), .val (.int y2), .val (.int y3), .val (.int ((7 : Int32))), .val (.ref x244), .unset, .val (.int ((4 : Int32)))] [(.int ((if own_ok y1 = true then (1 : Int32) else 0)))]))
        have N261 := Fr.app N253 N260
        by_cases ho1 : own_ok y1 = true
        · rw [if_pos ho1]
          show own_Go p e below F (T260.setTop (mkF m 923 #[.val (.int mo), .val (.int a), .val (.int b), .val (.int c1), .val (.int d), .val (.int y0), .val (.int y1), .val (.int y2), .val (.int y3), .val (.int ((7 : Int32))), .val (.ref x244), .unset, .val (.int ((4 : Int32)))] [(.int ((1 : Int32)))]))
          refine own_ifeq X260.here hx (hb hby at_923) (by decide) (pc' := 958) (by decide) (pc2 := 926) rfl (fun q => absurd q (by decide)) (fun q262 => ?_)
          refine own_iload X260.here hx (hb hby at_926) rfl (pc' := 928) rfl ?_
          refine own_iconst X260.here hx (hb hby at_928) (v := 3) rfl (pc' := 929) rfl ?_
          refine own_icmplt X260.here hx (hb hby at_929) (by decide) (pc' := 940) (by decide) (pc2 := 932) rfl (fun q => absurd q (by decide)) (fun q263 => ?_)
          refine own_iload X260.here hx (hb hby at_932) rfl (pc' := 934) rfl ?_
          obtain ⟨_, _, ⟨T264, L264, k264, n264⟩, -, X264, ⟨Lc264, hQ264, l264, y264, z264⟩, st264⟩ := Jvm.LawKit.callS X260 hx (y := (⟨"com/example/cladistic/cladistic/NamesIsPlainIdentifierPinLaw", "allowed", "(C)Z"⟩ : MethodName)) J246.2.1 (mvT J246.1 (hw _ (List.mem_of_getElem? (i := 50) rfl))) (mvT J246.1 (hw _ (List.mem_of_getElem? (i := 51) rfl))) (mvT J246.1 (hw _ (List.mem_of_getElem? (i := 2) rfl))) (mvT J246.1 (hw _ (List.mem_of_getElem? (i := 52) rfl))) (by decide) (backOf (W := 0) (rmAl l Z a0 hw y2 T244.heap) J246.1 (hw _ (List.mem_of_getElem? (i := 52) rfl)) (hw _ (List.mem_of_getElem? (i := 2) rfl)) (by decide) (by decide)) (g := (mkF m 934 #[.val (.int mo), .val (.int a), .val (.int b), .val (.int c1), .val (.int d), .val (.int y0), .val (.int y1), .val (.int y2), .val (.int y3), .val (.int ((7 : Int32))), .val (.ref x244), .unset, .val (.int ((4 : Int32)))] [(.int y2)])) rfl (by rw [hml]; rfl) (argsL := [(.int y2)]) (rest := []) (lenOf pdx15 rfl) rfl (by show 2 * 0 + _ ≤ _; exact Nat.le_of_eq rfl) (hb hby at_934) (fun _ _ => ⟨rfl, E260, (Nat.le_of_ble_eq_true rfl), (Nat.le_of_ble_eq_true rfl)⟩)
          dsimp only [Pt.U, Pt.locs, Pt.cells, Pt.slots] at X264 l264 y264 z264 st264 hQ264
          subst l264 y264 z264
          obtain ⟨rfl, N264, E264⟩ := hQ264
          refine own_on (st264) ?_
          show own_Go p e below F (T264.setTop (mkF m 937 #[.val (.int mo), .val (.int a), .val (.int b), .val (.int c1), .val (.int d), .val (.int y0), .val (.int y1), .val (.int y2), .val (.int y3), .val (.int ((7 : Int32))), .val (.ref x244), .unset, .val (.int ((4 : Int32)))] [(.int ((if own_ok y2 = true then (1 : Int32) else 0)))]))
          have N265 := Fr.app N261 N264
          by_cases ho2 : own_ok y2 = true
          · rw [if_pos ho2]
            show own_Go p e below F (T264.setTop (mkF m 937 #[.val (.int mo), .val (.int a), .val (.int b), .val (.int c1), .val (.int d), .val (.int y0), .val (.int y1), .val (.int y2), .val (.int y3), .val (.int ((7 : Int32))), .val (.ref x244), .unset, .val (.int ((4 : Int32)))] [(.int ((1 : Int32)))]))
            refine own_ifeq X264.here hx (hb hby at_937) (by decide) (pc' := 958) (by decide) (pc2 := 940) rfl (fun q => absurd q (by decide)) (fun q266 => ?_)
            refine own_iload X264.here hx (hb hby at_940) rfl (pc' := 942) rfl ?_
            refine own_iconst X264.here hx (hb hby at_942) (v := 4) rfl (pc' := 943) rfl ?_
            refine own_icmplt X264.here hx (hb hby at_943) (by decide) (pc' := 954) (by decide) (pc2 := 946) rfl (fun q => absurd q (by decide)) (fun q267 => ?_)
            refine own_iload X264.here hx (hb hby at_946) rfl (pc' := 948) rfl ?_
            obtain ⟨_, _, ⟨T268, L268, k268, n268⟩, -, X268, ⟨Lc268, hQ268, l268, y268, z268⟩, st268⟩ := Jvm.LawKit.callS X264 hx (y := (⟨"com/example/cladistic/cladistic/NamesIsPlainIdentifierPinLaw", "allowed", "(C)Z"⟩ : MethodName)) J246.2.1 (mvT J246.1 (hw _ (List.mem_of_getElem? (i := 50) rfl))) (mvT J246.1 (hw _ (List.mem_of_getElem? (i := 51) rfl))) (mvT J246.1 (hw _ (List.mem_of_getElem? (i := 2) rfl))) (mvT J246.1 (hw _ (List.mem_of_getElem? (i := 52) rfl))) (by decide) (backOf (W := 0) (rmAl l Z a0 hw y3 T244.heap) J246.1 (hw _ (List.mem_of_getElem? (i := 52) rfl)) (hw _ (List.mem_of_getElem? (i := 2) rfl)) (by decide) (by decide)) (g := (mkF m 948 #[.val (.int mo), .val (.int a), .val (.int b), .val (.int c1), .val (.int d), .val (.int y0), .val (.int y1), .val (.int y2), .val (.int y3), .val (.int ((7 : Int32))), .val (.ref x244), .unset, .val (.int ((4 : Int32)))] [(.int y3)])) rfl (by rw [hml]; rfl) (argsL := [(.int y3)]) (rest := []) (lenOf pdx15 rfl) rfl (by show 2 * 0 + _ ≤ _; exact Nat.le_of_eq rfl) (hb hby at_948) (fun _ _ => ⟨rfl, E264, (Nat.le_of_ble_eq_true rfl), (Nat.le_of_ble_eq_true rfl)⟩)
            dsimp only [Pt.U, Pt.locs, Pt.cells, Pt.slots] at X268 l268 y268 z268 st268 hQ268
            subst l268 y268 z268
            obtain ⟨rfl, N268, E268⟩ := hQ268
            refine own_on (st268) ?_
            show own_Go p e below F (T268.setTop (mkF m 951 #[.val (.int mo), .val (.int a), .val (.int b), .val (.int c1), .val (.int d), .val (.int y0), .val (.int y1), .val (.int y2), .val (.int y3), .val (.int ((7 : Int32))), .val (.ref x244), .unset, .val (.int ((4 : Int32)))] [(.int ((if own_ok y3 = true then (1 : Int32) else 0)))]))
            have N269 := Fr.app N265 N268
            by_cases ho3 : own_ok y3 = true
            · rw [if_pos ho3]
              show own_Go p e below F (T268.setTop (mkF m 951 #[.val (.int mo), .val (.int a), .val (.int b), .val (.int c1), .val (.int d), .val (.int y0), .val (.int y1), .val (.int y2), .val (.int y3), .val (.int ((7 : Int32))), .val (.ref x244), .unset, .val (.int ((4 : Int32)))] [(.int ((1 : Int32)))]))
              refine own_ifeq X268.here hx (hb hby at_951) (by decide) (pc' := 958) (by decide) (pc2 := 954) rfl (fun q => absurd q (by decide)) (fun q270 => ?_)
              refine own_iconst X268.here hx (hb hby at_954) (v := 1) rfl (pc' := 955) rfl ?_
              refine own_goto X268.here hx (hb hby at_955) (by decide) (pc' := 959) (by decide) ?_
              refine own_istore X268.here hx (hb hby at_959) (L' := #[.val (.int mo), .val (.int a), .val (.int b), .val (.int c1), .val (.int d), .val (.int y0), .val (.int y1), .val (.int y2), .val (.int y3), .val (.int ((7 : Int32))), .val (.ref x244), .val (.int ((1 : Int32))), .val (.int ((4 : Int32)))]) rfl (pc' := 961) rfl ?_
              refine own_aload X268.here hx (hb hby at_961) rfl rfl (pc' := 963) rfl ?_
              obtain ⟨_, _, ⟨T271, L271, k271, n271⟩, -, X271, ⟨Lc271, hQ271, l271, y271, z271⟩, st271⟩ := Jvm.LawKit.callS X268 hx (y := (⟨"com/example/cladistic/cladistic/Names", "isPlainIdentifier", "(Ljava/lang/String;)Z"⟩ : MethodName)) J246.2.1 (mvT J246.1 (hw _ (List.mem_of_getElem? (i := 30) rfl))) (mvT J246.1 (hw _ (List.mem_of_getElem? (i := 31) rfl))) (mvT J246.1 (hw _ (List.mem_of_getElem? (i := 32) rfl))) (mvT J246.1 (hw _ (List.mem_of_getElem? (i := 33) rfl))) (by decide) (backOf (W := 0) (rmPI l Z a0 hw x244 [y0, y1, y2, y3] T244.heap (own_ext_trans EZ f245) z0 O1 P5 fm O2 rf O3 O4 O5 S244) J246.1 (hw _ (List.mem_of_getElem? (i := 33) rfl)) (hw _ (List.mem_of_getElem? (i := 32) rfl)) (by decide) (by decide)) (g := (mkF m 963 #[.val (.int mo), .val (.int a), .val (.int b), .val (.int c1), .val (.int d), .val (.int y0), .val (.int y1), .val (.int y2), .val (.int y3), .val (.int ((7 : Int32))), .val (.ref x244), .val (.int ((1 : Int32))), .val (.int ((4 : Int32)))] [(.ref x244)])) rfl (by rw [hml]; rfl) (argsL := [(.ref x244)]) (rest := []) (lenOf pdx16 rfl) rfl (by show 2 * 0 + _ ≤ _; exact Nat.le_of_eq rfl) (hb hby at_963) (fun _ _ => ⟨rfl, E268, (Nat.le_of_ble_eq_true rfl), (Nat.le_of_ble_eq_true rfl)⟩)
              dsimp only [Pt.U, Pt.locs, Pt.cells, Pt.slots] at X271 l271 y271 z271 st271 hQ271
              subst l271 y271 z271
              obtain ⟨rfl, N271, E271⟩ := hQ271
              refine own_on (st271) ?_
              show own_Go p e below F (T271.setTop (mkF m 966 #[.val (.int mo), .val (.int a), .val (.int b), .val (.int c1), .val (.int d), .val (.int y0), .val (.int y1), .val (.int y2), .val (.int y3), .val (.int ((7 : Int32))), .val (.ref x244), .val (.int ((1 : Int32))), .val (.int ((4 : Int32)))] [(.int (own_pi [y0, y1, y2, y3]))]))
              have N272 := Fr.app N269 N271
              refine own_iload X271.here hx (hb hby at_966) rfl (pc' := 968) rfl ?_
              refine own_icmpne X271.here hx (hb hby at_968) (by decide) (pc' := 975) (by decide) (pc2 := 971) rfl (fun q => absurd (show own_pi [y0, y1, y2, y3] = (1 : Int32) by simp [own_pi, ho0, hd0, ho1, ho2, ho3]) q) (fun q273 => ?_)
              refine own_iconst X271.here hx (hb hby at_971) (v := 1) rfl (pc' := 972) rfl ?_
              refine own_goto X271.here hx (hb hby at_972) (by decide) (pc' := 976) (by decide) ?_
              exact own_retZW X271 hx hlk hEL J246 E271 (by decide) hret (hb hby at_976) (fun t ht hC hE => hF t _ _ _ _ (by rw [ht]; exact ⟨rfl, (by simpa using N272)⟩) hC hE (by decide) (by decide))
            · rw [if_neg ho3]
              show own_Go p e below F (T268.setTop (mkF m 951 #[.val (.int mo), .val (.int a), .val (.int b), .val (.int c1), .val (.int d), .val (.int y0), .val (.int y1), .val (.int y2), .val (.int y3), .val (.int ((7 : Int32))), .val (.ref x244), .unset, .val (.int ((4 : Int32)))] [(.int ((0 : Int32)))]))
              refine own_ifeq X268.here hx (hb hby at_951) (by decide) (pc' := 958) (by decide) (pc2 := 954) rfl (fun q274 => ?_) (fun q => absurd rfl q)
              refine own_iconst X268.here hx (hb hby at_958) (v := 0) rfl (pc' := 959) rfl ?_
              refine own_istore X268.here hx (hb hby at_959) (L' := #[.val (.int mo), .val (.int a), .val (.int b), .val (.int c1), .val (.int d), .val (.int y0), .val (.int y1), .val (.int y2), .val (.int y3), .val (.int ((7 : Int32))), .val (.ref x244), .val (.int ((0 : Int32))), .val (.int ((4 : Int32)))]) rfl (pc' := 961) rfl ?_
              refine own_aload X268.here hx (hb hby at_961) rfl rfl (pc' := 963) rfl ?_
              obtain ⟨_, _, ⟨T275, L275, k275, n275⟩, -, X275, ⟨Lc275, hQ275, l275, y275, z275⟩, st275⟩ := Jvm.LawKit.callS X268 hx (y := (⟨"com/example/cladistic/cladistic/Names", "isPlainIdentifier", "(Ljava/lang/String;)Z"⟩ : MethodName)) J246.2.1 (mvT J246.1 (hw _ (List.mem_of_getElem? (i := 30) rfl))) (mvT J246.1 (hw _ (List.mem_of_getElem? (i := 31) rfl))) (mvT J246.1 (hw _ (List.mem_of_getElem? (i := 32) rfl))) (mvT J246.1 (hw _ (List.mem_of_getElem? (i := 33) rfl))) (by decide) (backOf (W := 0) (rmPI l Z a0 hw x244 [y0, y1, y2, y3] T244.heap (own_ext_trans EZ f245) z0 O1 P5 fm O2 rf O3 O4 O5 S244) J246.1 (hw _ (List.mem_of_getElem? (i := 33) rfl)) (hw _ (List.mem_of_getElem? (i := 32) rfl)) (by decide) (by decide)) (g := (mkF m 963 #[.val (.int mo), .val (.int a), .val (.int b), .val (.int c1), .val (.int d), .val (.int y0), .val (.int y1), .val (.int y2), .val (.int y3), .val (.int ((7 : Int32))), .val (.ref x244), .val (.int ((0 : Int32))), .val (.int ((4 : Int32)))] [(.ref x244)])) rfl (by rw [hml]; rfl) (argsL := [(.ref x244)]) (rest := []) (lenOf pdx16 rfl) rfl (by show 2 * 0 + _ ≤ _; exact Nat.le_of_eq rfl) (hb hby at_963) (fun _ _ => ⟨rfl, E268, (Nat.le_of_ble_eq_true rfl), (Nat.le_of_ble_eq_true rfl)⟩)
              dsimp only [Pt.U, Pt.locs, Pt.cells, Pt.slots] at X275 l275 y275 z275 st275 hQ275
              subst l275 y275 z275
              obtain ⟨rfl, N275, E275⟩ := hQ275
              refine own_on (st275) ?_
              show own_Go p e below F (T275.setTop (mkF m 966 #[.val (.int mo), .val (.int a), .val (.int b), .val (.int c1), .val (.int d), .val (.int y0), .val (.int y1), .val (.int y2), .val (.int y3), .val (.int ((7 : Int32))), .val (.ref x244), .val (.int ((0 : Int32))), .val (.int ((4 : Int32)))] [(.int (own_pi [y0, y1, y2, y3]))]))
              have N276 := Fr.app N269 N275
              refine own_iload X275.here hx (hb hby at_966) rfl (pc' := 968) rfl ?_
              refine own_icmpne X275.here hx (hb hby at_968) (by decide) (pc' := 975) (by decide) (pc2 := 971) rfl (fun q => absurd (show own_pi [y0, y1, y2, y3] = (0 : Int32) by simp [own_pi, ho3]) q) (fun q277 => ?_)
              refine own_iconst X275.here hx (hb hby at_971) (v := 1) rfl (pc' := 972) rfl ?_
              refine own_goto X275.here hx (hb hby at_972) (by decide) (pc' := 976) (by decide) ?_
              exact own_retZW X275 hx hlk hEL J246 E275 (by decide) hret (hb hby at_976) (fun t ht hC hE => hF t _ _ _ _ (by rw [ht]; exact ⟨rfl, (by simpa using N276)⟩) hC hE (by decide) (by decide))
          · rw [if_neg ho2]
            show own_Go p e below F (T264.setTop (mkF m 937 #[.val (.int mo), .val (.int a), .val (.int b), .val (.int c1), .val (.int d), .val (.int y0), .val (.int y1), .val (.int y2), .val (.int y3), .val (.int ((7 : Int32))), .val (.ref x244), .unset, .val (.int ((4 : Int32)))] [(.int ((0 : Int32)))]))
            refine own_ifeq X264.here hx (hb hby at_937) (by decide) (pc' := 958) (by decide) (pc2 := 940) rfl (fun q278 => ?_) (fun q => absurd rfl q)
            refine own_iconst X264.here hx (hb hby at_958) (v := 0) rfl (pc' := 959) rfl ?_
            refine own_istore X264.here hx (hb hby at_959) (L' := #[.val (.int mo), .val (.int a), .val (.int b), .val (.int c1), .val (.int d), .val (.int y0), .val (.int y1), .val (.int y2), .val (.int y3), .val (.int ((7 : Int32))), .val (.ref x244), .val (.int ((0 : Int32))), .val (.int ((4 : Int32)))]) rfl (pc' := 961) rfl ?_
            refine own_aload X264.here hx (hb hby at_961) rfl rfl (pc' := 963) rfl ?_
            obtain ⟨_, _, ⟨T279, L279, k279, n279⟩, -, X279, ⟨Lc279, hQ279, l279, y279, z279⟩, st279⟩ := Jvm.LawKit.callS X264 hx (y := (⟨"com/example/cladistic/cladistic/Names", "isPlainIdentifier", "(Ljava/lang/String;)Z"⟩ : MethodName)) J246.2.1 (mvT J246.1 (hw _ (List.mem_of_getElem? (i := 30) rfl))) (mvT J246.1 (hw _ (List.mem_of_getElem? (i := 31) rfl))) (mvT J246.1 (hw _ (List.mem_of_getElem? (i := 32) rfl))) (mvT J246.1 (hw _ (List.mem_of_getElem? (i := 33) rfl))) (by decide) (backOf (W := 0) (rmPI l Z a0 hw x244 [y0, y1, y2, y3] T244.heap (own_ext_trans EZ f245) z0 O1 P5 fm O2 rf O3 O4 O5 S244) J246.1 (hw _ (List.mem_of_getElem? (i := 33) rfl)) (hw _ (List.mem_of_getElem? (i := 32) rfl)) (by decide) (by decide)) (g := (mkF m 963 #[.val (.int mo), .val (.int a), .val (.int b), .val (.int c1), .val (.int d), .val (.int y0), .val (.int y1), .val (.int y2), .val (.int y3), .val (.int ((7 : Int32))), .val (.ref x244), .val (.int ((0 : Int32))), .val (.int ((4 : Int32)))] [(.ref x244)])) rfl (by rw [hml]; rfl) (argsL := [(.ref x244)]) (rest := []) (lenOf pdx16 rfl) rfl (by show 2 * 0 + _ ≤ _; exact Nat.le_of_eq rfl) (hb hby at_963) (fun _ _ => ⟨rfl, E264, (Nat.le_of_ble_eq_true rfl), (Nat.le_of_ble_eq_true rfl)⟩)
            dsimp only [Pt.U, Pt.locs, Pt.cells, Pt.slots] at X279 l279 y279 z279 st279 hQ279
            subst l279 y279 z279
            obtain ⟨rfl, N279, E279⟩ := hQ279
            refine own_on (st279) ?_
            show own_Go p e below F (T279.setTop (mkF m 966 #[.val (.int mo), .val (.int a), .val (.int b), .val (.int c1), .val (.int d), .val (.int y0), .val (.int y1), .val (.int y2), .val (.int y3), .val (.int ((7 : Int32))), .val (.ref x244), .val (.int ((0 : Int32))), .val (.int ((4 : Int32)))] [(.int (own_pi [y0, y1, y2, y3]))]))
            have N280 := Fr.app N265 N279
            refine own_iload X279.here hx (hb hby at_966) rfl (pc' := 968) rfl ?_
            refine own_icmpne X279.here hx (hb hby at_968) (by decide) (pc' := 975) (by decide) (pc2 := 971) rfl (fun q => absurd (show own_pi [y0, y1, y2, y3] = (0 : Int32) by simp [own_pi, ho2]) q) (fun q281 => ?_)
            refine own_iconst X279.here hx (hb hby at_971) (v := 1) rfl (pc' := 972) rfl ?_
            refine own_goto X279.here hx (hb hby at_972) (by decide) (pc' := 976) (by decide) ?_
            exact own_retZW X279 hx hlk hEL J246 E279 (by decide) hret (hb hby at_976) (fun t ht hC hE => hF t _ _ _ _ (by rw [ht]; exact ⟨rfl, (by simpa using N280)⟩) hC hE (by decide) (by decide))
        · rw [if_neg ho1]
          show own_Go p e below F (T260.setTop (mkF m 923 #[.val (.int mo), .val (.int a), .val (.int b), .val (.int c1), .val (.int d), .val (.int y0), .val (.int y1), .val (.int y2), .val (.int y3), .val (.int ((7 : Int32))), .val (.ref x244), .unset, .val (.int ((4 : Int32)))] [(.int ((0 : Int32)))]))
          refine own_ifeq X260.here hx (hb hby at_923) (by decide) (pc' := 958) (by decide) (pc2 := 926) rfl (fun q282 => ?_) (fun q => absurd rfl q)
          refine own_iconst X260.here hx (hb hby at_958) (v := 0) rfl (pc' := 959) rfl ?_
          refine own_istore X260.here hx (hb hby at_959) (L' := #[.val (.int mo), .val (.int a), .val (.int b), .val (.int c1), .val (.int d), .val (.int y0), .val (.int y1), .val (.int y2), .val (.int y3), .val (.int ((7 : Int32))), .val (.ref x244), .val (.int ((0 : Int32))), .val (.int ((4 : Int32)))]) rfl (pc' := 961) rfl ?_
          refine own_aload X260.here hx (hb hby at_961) rfl rfl (pc' := 963) rfl ?_
          obtain ⟨_, _, ⟨T283, L283, k283, n283⟩, -, X283, ⟨Lc283, hQ283, l283, y283, z283⟩, st283⟩ := Jvm.LawKit.callS X260 hx (y := (⟨"com/example/cladistic/cladistic/Names", "isPlainIdentifier", "(Ljava/lang/String;)Z"⟩ : MethodName)) J246.2.1 (mvT J246.1 (hw _ (List.mem_of_getElem? (i := 30) rfl))) (mvT J246.1 (hw _ (List.mem_of_getElem? (i := 31) rfl))) (mvT J246.1 (hw _ (List.mem_of_getElem? (i := 32) rfl))) (mvT J246.1 (hw _ (List.mem_of_getElem? (i := 33) rfl))) (by decide) (backOf (W := 0) (rmPI l Z a0 hw x244 [y0, y1, y2, y3] T244.heap (own_ext_trans EZ f245) z0 O1 P5 fm O2 rf O3 O4 O5 S244) J246.1 (hw _ (List.mem_of_getElem? (i := 33) rfl)) (hw _ (List.mem_of_getElem? (i := 32) rfl)) (by decide) (by decide)) (g := (mkF m 963 #[.val (.int mo), .val (.int a), .val (.int b), .val (.int c1), .val (.int d), .val (.int y0), .val (.int y1), .val (.int y2), .val (.int y3), .val (.int ((7 : Int32))), .val (.ref x244), .val (.int ((0 : Int32))), .val (.int ((4 : Int32)))] [(.ref x244)])) rfl (by rw [hml]; rfl) (argsL := [(.ref x244)]) (rest := []) (lenOf pdx16 rfl) rfl (by show 2 * 0 + _ ≤ _; exact Nat.le_of_eq rfl) (hb hby at_963) (fun _ _ => ⟨rfl, E260, (Nat.le_of_ble_eq_true rfl), (Nat.le_of_ble_eq_true rfl)⟩)
          dsimp only [Pt.U, Pt.locs, Pt.cells, Pt.slots] at X283 l283 y283 z283 st283 hQ283
          subst l283 y283 z283
          obtain ⟨rfl, N283, E283⟩ := hQ283
          refine own_on (st283) ?_
          show own_Go p e below F (T283.setTop (mkF m 966 #[.val (.int mo), .val (.int a), .val (.int b), .val (.int c1), .val (.int d), .val (.int y0), .val (.int y1), .val (.int y2), .val (.int y3), .val (.int ((7 : Int32))), .val (.ref x244), .val (.int ((0 : Int32))), .val (.int ((4 : Int32)))] [(.int (own_pi [y0, y1, y2, y3]))]))
          have N284 := Fr.app N261 N283
          refine own_iload X283.here hx (hb hby at_966) rfl (pc' := 968) rfl ?_
          refine own_icmpne X283.here hx (hb hby at_968) (by decide) (pc' := 975) (by decide) (pc2 := 971) rfl (fun q => absurd (show own_pi [y0, y1, y2, y3] = (0 : Int32) by simp [own_pi, ho1]) q) (fun q285 => ?_)
          refine own_iconst X283.here hx (hb hby at_971) (v := 1) rfl (pc' := 972) rfl ?_
          refine own_goto X283.here hx (hb hby at_972) (by decide) (pc' := 976) (by decide) ?_
          exact own_retZW X283 hx hlk hEL J246 E283 (by decide) hret (hb hby at_976) (fun t ht hC hE => hF t _ _ _ _ (by rw [ht]; exact ⟨rfl, (by simpa using N284)⟩) hC hE (by decide) (by decide))
    · rw [if_neg ho0]
      show own_Go p e below F (T249.setTop (mkF m 901 #[.val (.int mo), .val (.int a), .val (.int b), .val (.int c1), .val (.int d), .val (.int y0), .val (.int y1), .val (.int y2), .val (.int y3), .val (.int ((7 : Int32))), .val (.ref x244), .unset, .val (.int ((4 : Int32)))] [(.int ((0 : Int32)))]))
      refine own_ifeq X249.here hx (hb hby at_901) (by decide) (pc' := 958) (by decide) (pc2 := 904) rfl (fun q286 => ?_) (fun q => absurd rfl q)
      refine own_iconst X249.here hx (hb hby at_958) (v := 0) rfl (pc' := 959) rfl ?_
      refine own_istore X249.here hx (hb hby at_959) (L' := #[.val (.int mo), .val (.int a), .val (.int b), .val (.int c1), .val (.int d), .val (.int y0), .val (.int y1), .val (.int y2), .val (.int y3), .val (.int ((7 : Int32))), .val (.ref x244), .val (.int ((0 : Int32))), .val (.int ((4 : Int32)))]) rfl (pc' := 961) rfl ?_
      refine own_aload X249.here hx (hb hby at_961) rfl rfl (pc' := 963) rfl ?_
      obtain ⟨_, _, ⟨T287, L287, k287, n287⟩, -, X287, ⟨Lc287, hQ287, l287, y287, z287⟩, st287⟩ := Jvm.LawKit.callS X249 hx (y := (⟨"com/example/cladistic/cladistic/Names", "isPlainIdentifier", "(Ljava/lang/String;)Z"⟩ : MethodName)) J246.2.1 (mvT J246.1 (hw _ (List.mem_of_getElem? (i := 30) rfl))) (mvT J246.1 (hw _ (List.mem_of_getElem? (i := 31) rfl))) (mvT J246.1 (hw _ (List.mem_of_getElem? (i := 32) rfl))) (mvT J246.1 (hw _ (List.mem_of_getElem? (i := 33) rfl))) (by decide) (backOf (W := 0) (rmPI l Z a0 hw x244 [y0, y1, y2, y3] T244.heap (own_ext_trans EZ f245) z0 O1 P5 fm O2 rf O3 O4 O5 S244) J246.1 (hw _ (List.mem_of_getElem? (i := 33) rfl)) (hw _ (List.mem_of_getElem? (i := 32) rfl)) (by decide) (by decide)) (g := (mkF m 963 #[.val (.int mo), .val (.int a), .val (.int b), .val (.int c1), .val (.int d), .val (.int y0), .val (.int y1), .val (.int y2), .val (.int y3), .val (.int ((7 : Int32))), .val (.ref x244), .val (.int ((0 : Int32))), .val (.int ((4 : Int32)))] [(.ref x244)])) rfl (by rw [hml]; rfl) (argsL := [(.ref x244)]) (rest := []) (lenOf pdx16 rfl) rfl (by show 2 * 0 + _ ≤ _; exact Nat.le_of_eq rfl) (hb hby at_963) (fun _ _ => ⟨rfl, E249, (Nat.le_of_ble_eq_true rfl), (Nat.le_of_ble_eq_true rfl)⟩)
      dsimp only [Pt.U, Pt.locs, Pt.cells, Pt.slots] at X287 l287 y287 z287 st287 hQ287
      subst l287 y287 z287
      obtain ⟨rfl, N287, E287⟩ := hQ287
      refine own_on (st287) ?_
      show own_Go p e below F (T287.setTop (mkF m 966 #[.val (.int mo), .val (.int a), .val (.int b), .val (.int c1), .val (.int d), .val (.int y0), .val (.int y1), .val (.int y2), .val (.int y3), .val (.int ((7 : Int32))), .val (.ref x244), .val (.int ((0 : Int32))), .val (.int ((4 : Int32)))] [(.int (own_pi [y0, y1, y2, y3]))]))
      have N288 := Fr.app N250 N287
      refine own_iload X287.here hx (hb hby at_966) rfl (pc' := 968) rfl ?_
      refine own_icmpne X287.here hx (hb hby at_968) (by decide) (pc' := 975) (by decide) (pc2 := 971) rfl (fun q => absurd (show own_pi [y0, y1, y2, y3] = (0 : Int32) by simp [own_pi, ho0]) q) (fun q289 => ?_)
      refine own_iconst X287.here hx (hb hby at_971) (v := 1) rfl (pc' := 972) rfl ?_
      refine own_goto X287.here hx (hb hby at_972) (by decide) (pc' := 976) (by decide) ?_
      exact own_retZW X287 hx hlk hEL J246 E287 (by decide) hret (hb hby at_976) (fun t ht hC hE => hF t _ _ _ _ (by rw [ht]; exact ⟨rfl, (by simpa using N288)⟩) hC hE (by decide) (by decide))
set_option maxRecDepth 65536 in
set_option maxHeartbeats 40000000 in
theorem comes_1 {Post : Tables → Env → Array Value → State → Outcome → State → Prop} (hpost : ∀ tb e args s v u, (limb_1_1.after args s (.returned v) u = true ∧ limb_1_2.after args s (.returned v) u = true ∧ True) → FramedW s (.returned v) u (Jvm.fieldLocs frame_1_writes args s ++ Jvm.arrayLocs frame_1_arrays args s ++ Jvm.staticLocs frame_1_statics s) 24 1664 → Post tb e args s (.returned v) u) :
    ArmFor flags0 classFile x code maxLocals ret World_1 tables_1 room_1 Calls_1 rest_1 Pre_1 Post := by
  intro l hfl _ _ p e ha hc hk s m args below hf hA hF happ hP
  obtain ⟨hcalls, hrest, hpre⟩ := hP
  obtain ⟨-, -, -, hnamed, -, -, -, hat⟩ := (Spec.applies_iff hf).mp happ
  obtain ⟨hg, hn⟩ := and_e (Cond.before_iff.mp (show (Jvm.Cond.and given_1 narrow_1).before args s = true from hpre))
  obtain ⟨g1, g2⟩ := and_e hg
  obtain ⟨w0, w1, w2, w3, w4, rfl⟩ : ∃ w0 w1 w2 w3 w4 : Value, args = #[w0, w1, w2, w3, w4] := by
    have hs : args.size = 5 := by simpa [Cond.value, given_1] using g1
    obtain ⟨L⟩ := args
    match L, hs with
    | [w0, w1, w2, w3, w4], _ => exact ⟨w0, w1, w2, w3, w4, rfl⟩
  have hw := fun d (hd : d ∈ tables_1) => atoms_spec (ws := Jvm.Cond.code x code maxLocals ret :: tables_1) hat d (List.mem_cons_of_mem _ hd)
  have hfit : Fit s := fun {y c} hc i hi => by
    obtain ⟨ha, rfl⟩ := Array.getElem?_eq_some_iff.mp hc
    have q := List.all_eq_true.mp ((Array.all_eq_true_iff_forall_mem.mp hF) _ (Array.getElem_mem ha)) i (List.mem_range.mpr hi)
    simpa [Array.getElem?_eq_getElem hi] using q
  obtain ⟨a0, g3⟩ := and_e g2
  obtain ⟨i0, b0⟩ := is_v a0
  obtain rfl : w0 = (.int i0) := Option.some.inj b0
  obtain ⟨a1, g4⟩ := and_e g3
  obtain ⟨i1, b1⟩ := is_v a1
  obtain rfl : w1 = (.int i1) := Option.some.inj b1
  obtain ⟨a2, g5⟩ := and_e g4
  obtain ⟨i2, b2⟩ := is_v a2
  obtain rfl : w2 = (.int i2) := Option.some.inj b2
  obtain ⟨a3, g6⟩ := and_e g5
  obtain ⟨i3, b3⟩ := is_v a3
  obtain rfl : w3 = (.int i3) := Option.some.inj b3
  obtain ⟨i4, b4⟩ := is_v g6
  obtain rfl : w4 = (.int i4) := Option.some.inj b4
  obtain ⟨hsets, -⟩ := atoms_of _ (rest_1_c_eq ▸ (show rest_1_c.before _ s = true from hrest))
  have hz0 := not_v (Cond.before_iff.mp (hsets _ (List.mem_of_getElem? (i := 2) rfl)))
  obtain ⟨z0, ez0⟩ := is_v (Cond.before_iff.mp (hsets _ (List.mem_of_getElem? (i := 1) rfl)))
  have O1 : Sta s s.heap "java/lang/String" "COMPACT_STRINGS" "Z" (.int z0) := Sta.start ez0 (Or.inl (hsets _ (List.mem_of_getElem? (i := 0) rfl)))
  obtain ⟨fm, efm, rf⟩ := isR_v (Cond.before_iff.mp (hsets _ (List.mem_of_getElem? (i := 8) rfl)))
  have O2 : Sta s s.heap "jdk/internal/util/Preconditions" "SIOOBE_FORMATTER" "Ljava/util/function/BiFunction;" fm := Sta.start efm (Or.inl (hsets _ (List.mem_of_getElem? (i := 7) rfl)))
  have P5 : ¬ (z0 = (0 : Int32)) := gotF (Cond.eq_ints ez0 (Term.int_eval (0))) hz0
  have hcw : Jvm.Lit.compactW.before _ s = true := hsets _ (List.mem_of_getElem? (i := 2) rfl)
  have O3 : Sta s s.heap "java/lang/StringUTF16" "$assertionsDisabled" "Z" (.int 1) := Sta.start (eqv_i (Term.int_eval (1)) (Cond.before_iff.mp (hsets _ (List.mem_of_getElem? (i := 12) rfl)))) (Or.inl (hsets _ (List.mem_of_getElem? (i := 11) rfl)))
  have O4 : Sta s s.heap "java/lang/StringUTF16" "HI_BYTE_SHIFT" "I" (.int 0) := Sta.start (eqv_i (Term.int_eval (0)) (Cond.before_iff.mp (hsets _ (List.mem_of_getElem? (i := 15) rfl)))) (Or.inl (hsets _ (List.mem_of_getElem? (i := 14) rfl)))
  have O5 : Sta s s.heap "java/lang/StringUTF16" "LO_BYTE_SHIFT" "I" (.int 8) := Sta.start (eqv_i (Term.int_eval (8)) (Cond.before_iff.mp (hsets _ (List.mem_of_getElem? (i := 18) rfl)))) (Or.inl (hsets _ (List.mem_of_getElem? (i := 17) rfl)))
  have hEL : EW s _ EL := EW.cons (hw _ (List.mem_of_getElem? (i := 22) rfl)) (by decide) (EW.nil)
  have hC : CHv s EL s.vm s.heap := CHv.start hEL (fun q hq => by
    simp only [EL, List.mem_cons, List.not_mem_nil, or_false] at hq
    exact hcalls.1 q (by rcases hq with rfl <;> simp [consts_1])) hcw (hw _ (by decide +kernel)) (hw _ own_wiS)
  obtain ⟨n, o, h1, h2, h3, _, L, rfl, ⟨rfl, N⟩, -, hq⟩ := rmL l s _ hw hEL i0 i1 i2 i3 i4 s.heap (own_ext_refl _) z0 O1 P5 fm O2 rf O3 O4 O5 p e ha hc hk s m _ below hf ((Spec.applies_iff_loose hf).mp happ).1 ⟨rfl, State.Warmed39.refl s, rfl, hC, fun _ q => nomatch q⟩ trivial
  refine ⟨n, _, h1, h2, h3, hpost _ _ _ _ _ _ ⟨Cond.after_iff.mpr rfl, Cond.after_iff.mpr (eq_i res_at (Term.int_eval (1)) rfl), trivial⟩ ⟨hq.1, hq.2.1, hq.2.2.1, hq.2.2.2.sift fun y hy => Or.inr (N y hy)⟩⟩
theorem main_1_1 : Claimed_1_1 := comes_1 fun _ _ _ _ _ _ h hF => ⟨h.1, hF⟩
theorem main_1_2 : Claimed_1_2 := comes_1 fun _ _ _ _ _ _ h hF => ⟨h.2.1, hF⟩
end Jvm.Pilot.@@N@@
namespace Jvm.Pilot.@@N@@
open Jvm Jvm.ClassFile Sem Op Lib Jvm.Free Jvm.Stand Jvm.Pilot.@@N@@.Jvm.D
/-! MADE BY PROGRAM (witnessworld.py) out of the Statement's table words and the real class files: 20 classes; the members and pool entries that the words name. The judged class is class 1, her method 5. -/
namespace start1
open Jvm.ClassFile
def u (s : String) : CpInfo := .utf8 (stringToUtf16 s)
/-- a pool by its gaps: so many unusable entries, then the entry; so many at the end -/
def gap : Nat → List CpInfo → List CpInfo
  | 0, r => r
  | n + 1, r => .unusable :: gap n r
def poolList (es : List (Nat × CpInfo)) (last : Nat) : List CpInfo := es.foldr (fun e r => gap e.1 (e.2 :: r)) (gap last [])
def pool (es : List (Nat × CpInfo)) (last : Nat) : Array CpInfo := ⟨poolList es last⟩
def fileOf (pool : Array CpInfo) (this : Nat) (attrs : Array Attribute := #[]) (ms : Array MethodInfo := #[]) (fl : Nat := 33) (sup : Nat := 0) (ifs : Array Nat := #[]) (fds : Array FieldInfo := #[]) : ClassFile where
  minorVersion := 0
  majorVersion := 65
  constantPool := pool
  accessFlags := fl
  thisClass := this
  superClass := sup
  interfaces := ifs
  fields := fds
  methods := ms
  attributes := attrs
def plain (name : String) (sup : Option ClassId) : Class where
  name := name
  kind := .ordinary
  loader := none
  accessFlags := 33
  super := sup
  interfaces := #[]
  cf := none
  fields := #[]
  methods := #[]
  instanceTypes := #[]
  staticTypes := #[]
  resolved := #[]
  callSites := []
  init := .initialized
  statics := none
  mirror := none

def pool0 : Array CpInfo := pool [(5, u "<init>"), (0, u "()V"), (1, .class_ 10), (1, u "java/lang/Object")] 113

def k0c0 : Code := { maxStack := 0, maxLocals := 1, code := object_method_1_code, exceptionTable := #[], attributes := #[] }
def k0m0 : Method := { name := "<init>", desc := "()V", sig := { parameters := [], returnType := none }, accessFlags := 1, code := some k0c0 }
/-- java/lang/Object -/
def k0 : Class := { plain "java/lang/Object" none with
  accessFlags := 33
  interfaces := #[]
  cf := some (fileOf pool0 8 #[] #[{ accessFlags := 1, nameIndex := 5, descriptorIndex := 6, attributes := #[] }] 33 0 #[] #[])
  fields := #[]
  methods := #[k0m0]
  instanceTypes := #[]
  staticTypes := #[]
  resolved := Array.replicate 124 none
  statics := none }

def pool1 : Array CpInfo := pool [(2, .class_ 4), (1, u "java/lang/Object"), (0, u "<init>"), (0, u "()V"), (0, .integer 65536), (0, .methodref 9 10), (0, .class_ 11), (0, .nameAndType 12 13), (0, u "com/example/cladistic/cladistic/NamesIsPlainIdentifierPinLaw"), (0, u "digit"), (0, u "(C)Z"), (0, .class_ 15), (0, u "java/lang/String"), (0, .methodref 14 17), (0, .nameAndType 5 18), (0, u "([C)V"), (0, .methodref 9 20), (0, .nameAndType 21 22), (0, u "draw"), (0, u "(I)C"), (0, .methodref 9 24), (0, .nameAndType 25 13), (0, u "allowed"), (0, .methodref 9 27), (0, .nameAndType 28 29), (0, u "shortString"), (0, u "(ICCCC)Ljava/lang/String;"), (0, .methodref 31 32), (0, .class_ 33), (0, .nameAndType 34 35), (0, u "com/example/cladistic/cladistic/Names"), (0, u "isPlainIdentifier"), (0, u "(Ljava/lang/String;)Z"), (3, u "law"), (0, u "(IIIII)Z")] 2

def k1m0 : Method := { name := "<init>", desc := "()V", sig := { parameters := [], returnType := none }, accessFlags := 2, code := none }
def k1c1 : Code := { maxStack := 2, maxLocals := 1, code := method_2_code, exceptionTable := #[], attributes := #[] }
def k1m1 : Method := { name := "draw", desc := "(I)C", sig := { parameters := [.int], returnType := some .char }, accessFlags := 10, code := some k1c1 }
def k1c2 : Code := { maxStack := 2, maxLocals := 1, code := method_3_code, exceptionTable := #[], attributes := #[] }
def k1m2 : Method := { name := "digit", desc := "(C)Z", sig := { parameters := [.char], returnType := some .boolean }, accessFlags := 10, code := some k1c2 }
def k1c3 : Code := { maxStack := 2, maxLocals := 1, code := method_4_code, exceptionTable := #[], attributes := #[] }
def k1m3 : Method := { name := "allowed", desc := "(C)Z", sig := { parameters := [.char], returnType := some .boolean }, accessFlags := 10, code := some k1c3 }
def k1c4 : Code := { maxStack := 6, maxLocals := 5, code := method_5_code, exceptionTable := #[], attributes := #[] }
def k1m4 : Method := { name := "shortString", desc := "(ICCCC)Ljava/lang/String;", sig := { parameters := [.int, .char, .char, .char, .char], returnType := some (.object "java/lang/String") }, accessFlags := 10, code := some k1c4 }
def k1c5 : Code := { maxStack := 6, maxLocals := 13, code := code, exceptionTable := #[], attributes := #[] }
def k1m5 : Method := { name := "law", desc := "(IIIII)Z", sig := { parameters := [.int, .int, .int, .int, .int], returnType := some .boolean }, accessFlags := 9, code := some k1c5 }
/-- com/example/cladistic/cladistic/NamesIsPlainIdentifierPinLaw -/
def k1 : Class := { plain "com/example/cladistic/cladistic/NamesIsPlainIdentifierPinLaw" (some 0) with
  accessFlags := 49
  interfaces := #[]
  cf := some (fileOf pool1 9 #[] #[{ accessFlags := 2, nameIndex := 5, descriptorIndex := 6, attributes := #[] }, { accessFlags := 10, nameIndex := 21, descriptorIndex := 22, attributes := #[] }, { accessFlags := 10, nameIndex := 12, descriptorIndex := 13, attributes := #[] }, { accessFlags := 10, nameIndex := 25, descriptorIndex := 13, attributes := #[] }, { accessFlags := 10, nameIndex := 28, descriptorIndex := 29, attributes := #[] }, { accessFlags := 9, nameIndex := 39, descriptorIndex := 40, attributes := #[] }] 49 2 #[] #[])
  fields := #[]
  methods := #[k1m0, k1m1, k1m2, k1m3, k1m4, k1m5]
  instanceTypes := #[]
  staticTypes := #[]
  resolved := Array.replicate 43 none
  statics := none }

def pool2 : Array CpInfo := pool [(1, .class_ 2), (0, u "java/io/Serializable"), (0, .class_ 4), (0, u "java/lang/Object")] 2

/-- java/io/Serializable -/
def k2 : Class := { plain "java/io/Serializable" (some 0) with
  accessFlags := 1537
  interfaces := #[]
  cf := some (fileOf pool2 1 #[] #[] 1537 3 #[] #[])
  fields := #[]
  methods := #[]
  instanceTypes := #[]
  staticTypes := #[]
  resolved := Array.replicate 7 none
  statics := none }

def pool3 : Array CpInfo := pool [(1, .class_ 2), (0, u "java/lang/Comparable"), (0, .class_ 4), (0, u "java/lang/Object")] 7

/-- java/lang/Comparable -/
def k3 : Class := { plain "java/lang/Comparable" (some 0) with
  accessFlags := 1537
  interfaces := #[]
  cf := some (fileOf pool3 1 #[] #[] 1537 3 #[] #[])
  fields := #[]
  methods := #[]
  instanceTypes := #[]
  staticTypes := #[]
  resolved := Array.replicate 12 none
  statics := none }

def pool4 : Array CpInfo := pool [(2, .class_ 4), (1, u "java/lang/CharSequence"), (42, .class_ 48), (0, u "java/lang/CharSequence$1CodePointIterator"), (10, .class_ 60), (0, u "java/lang/CharSequence$1CharIterator"), (5, .class_ 67), (0, u "java/lang/Object")] 63

/-- java/lang/CharSequence -/
def k4 : Class := { plain "java/lang/CharSequence" (some 0) with
  accessFlags := 1537
  interfaces := #[]
  cf := some (fileOf pool4 2 #[.nestMembers #[47, 59]] #[] 1537 66 #[] #[])
  fields := #[]
  methods := #[]
  instanceTypes := #[]
  staticTypes := #[]
  resolved := Array.replicate 131 none
  statics := none }

def pool5 : Array CpInfo := pool [(1, .class_ 2), (0, u "java/lang/constant/Constable"), (0, .class_ 4), (0, u "java/lang/Object")] 6

/-- java/lang/constant/Constable -/
def k5 : Class := { plain "java/lang/constant/Constable" (some 0) with
  accessFlags := 1537
  interfaces := #[]
  cf := some (fileOf pool5 1 #[] #[] 1537 3 #[] #[])
  fields := #[]
  methods := #[]
  instanceTypes := #[]
  staticTypes := #[]
  resolved := Array.replicate 11 none
  statics := none }

def pool6 : Array CpInfo := pool [(1, .class_ 2), (0, u "java/lang/constant/ConstantDesc"), (0, .class_ 4), (0, u "java/lang/Object")] 32

/-- java/lang/constant/ConstantDesc -/
def k6 : Class := { plain "java/lang/constant/ConstantDesc" (some 0) with
  accessFlags := 1537
  interfaces := #[]
  cf := some (fileOf pool6 1 #[] #[] 1537 3 #[] #[])
  fields := #[]
  methods := #[]
  instanceTypes := #[]
  staticTypes := #[]
  resolved := Array.replicate 37 none
  statics := none }

def pool7 : Array CpInfo := pool [(1, .methodref 2 3), (0, .class_ 4), (0, .nameAndType 5 6), (0, u "java/lang/Object"), (0, u "<init>"), (0, u "()V"), (0, .string 8), (0, u ""), (0, .fieldref 10 11), (0, .class_ 12), (0, .nameAndType 13 14), (0, u "java/lang/String"), (0, u "value"), (0, u "[B"), (0, .fieldref 10 16), (0, .nameAndType 17 18), (0, u "coder"), (0, u "B"), (2, u "hash"), (0, u "I"), (2, u "hashIsZero"), (0, u "Z"), (0, .methodref 10 28), (0, .nameAndType 5 29), (0, u "([CIILjava/lang/Void;)V"), (8, .fieldref 10 39), (0, .nameAndType 40 26), (0, u "COMPACT_STRINGS"), (1, .class_ 44), (1, u "java/lang/StringUTF16"), (0, u "compress"), (1, .methodref 42 48), (0, .nameAndType 49 50), (0, u "coderFromArrayLen"), (0, u "([BI)B"), (56, .class_ 109), (1, u "java/lang/StringLatin1"), (32, u "()Z"), (34, .methodref 42 178), (0, .nameAndType 45 179), (0, u "([CII)[B"), (154, u "()I"), (0, .methodref 10 336), (0, .nameAndType 17 337), (0, u "()B"), (25, u "([BI)C"), (27, u "(II)V"), (35, u "(I)C"), (64, .methodref 10 493), (0, .nameAndType 494 142), (0, u "isLatin1"), (0, .methodref 107 496), (0, .nameAndType 497 363), (0, u "charAt"), (0, .methodref 42 496), (2, u "checkIndex"), (5, u "length"), (67, .class_ 576), (0, u "java/lang/CharSequence"), (22, u "CASE_INSENSITIVE_ORDER"), (0, u "Ljava/util/Comparator;"), (91, u "isEmpty"), (317, u "([C)V"), (42, .fieldref 1054 1055), (0, .class_ 1056), (0, .nameAndType 1057 1058), (0, u "jdk/internal/util/Preconditions"), (0, u "SIOOBE_FORMATTER"), (0, u "Ljava/util/function/BiFunction;"), (0, .methodref 1054 1060), (0, .nameAndType 501 1061), (0, u "(IILjava/util/function/BiFunction;)I"), (39, u "serialPersistentFields"), (0, u "[Ljava/io/ObjectStreamField;"), (0, .class_ 1104), (0, u "java/lang/String$CaseInsensitiveComparator"), (1, .class_ 1107), (0, u "java/io/Serializable"), (0, .class_ 1109), (0, u "java/lang/Comparable"), (0, .class_ 1111), (0, u "java/lang/constant/Constable"), (0, .class_ 1113), (0, u "java/lang/constant/ConstantDesc"), (2, u "serialVersionUID"), (0, u "J"), (3, u "REPL"), (0, u "C"), (2, u "LATIN1"), (1, u "UTF16")] 323

def k7m0 : Method := { name := "<init>", desc := "()V", sig := { parameters := [], returnType := none }, accessFlags := 1, code := none }
def k7c1 : Code := { maxStack := 5, maxLocals := 2, code := jdk_42_method_3_code, exceptionTable := #[], attributes := #[] }
def k7m1 : Method := { name := "<init>", desc := "([C)V", sig := { parameters := [(.array .char)], returnType := none }, accessFlags := 1, code := some k7c1 }
def k7c2 : Code := { maxStack := 2, maxLocals := 1, code := jdk_42_method_54_code, exceptionTable := #[], attributes := #[] }
def k7m2 : Method := { name := "length", desc := "()I", sig := { parameters := [], returnType := some .int }, accessFlags := 1, code := some k7c2 }
def k7c3 : Code := { maxStack := 1, maxLocals := 1, code := jdk_42_method_55_code, exceptionTable := #[], attributes := #[] }
def k7m3 : Method := { name := "isEmpty", desc := "()Z", sig := { parameters := [], returnType := some .boolean }, accessFlags := 1, code := some k7c3 }
def k7c4 : Code := { maxStack := 2, maxLocals := 2, code := jdk_42_method_56_code, exceptionTable := #[], attributes := #[] }
def k7m4 : Method := { name := "charAt", desc := "(I)C", sig := { parameters := [.int], returnType := some .char }, accessFlags := 1, code := some k7c4 }
def k7c5 : Code := { maxStack := 4, maxLocals := 6, code := jdk_42_method_149_code, exceptionTable := #[], attributes := #[] }
def k7m5 : Method := { name := "<init>", desc := "([CIILjava/lang/Void;)V", sig := { parameters := [(.array .char), .int, .int, (.object "java/lang/Void")], returnType := none }, accessFlags := 2, code := some k7c5 }
def k7c6 : Code := { maxStack := 1, maxLocals := 1, code := jdk_42_method_152_code, exceptionTable := #[], attributes := #[] }
def k7m6 : Method := { name := "coder", desc := "()B", sig := { parameters := [], returnType := some .byte }, accessFlags := 0, code := some k7c6 }
def k7c7 : Code := { maxStack := 1, maxLocals := 1, code := jdk_42_method_154_code, exceptionTable := #[], attributes := #[] }
def k7m7 : Method := { name := "isLatin1", desc := "()Z", sig := { parameters := [], returnType := some .boolean }, accessFlags := 0, code := some k7c7 }
def k7c8 : Code := { maxStack := 3, maxLocals := 2, code := jdk_42_method_155_code, exceptionTable := #[], attributes := #[] }
def k7m8 : Method := { name := "checkIndex", desc := "(II)V", sig := { parameters := [.int, .int], returnType := none }, accessFlags := 8, code := some k7c8 }
/-- java/lang/String -/
def k7 : Class := { plain "java/lang/String" (some 0) with
  accessFlags := 49
  interfaces := #[2, 3, 4, 5, 6]
  cf := some (fileOf pool7 10 #[.nestMembers #[1103]] #[{ accessFlags := 1, nameIndex := 5, descriptorIndex := 6, attributes := #[] }, { accessFlags := 1, nameIndex := 5, descriptorIndex := 1010, attributes := #[] }, { accessFlags := 1, nameIndex := 507, descriptorIndex := 334, attributes := #[] }, { accessFlags := 1, nameIndex := 692, descriptorIndex := 142, attributes := #[] }, { accessFlags := 1, nameIndex := 497, descriptorIndex := 427, attributes := #[] }, { accessFlags := 2, nameIndex := 5, descriptorIndex := 29, attributes := #[] }, { accessFlags := 0, nameIndex := 17, descriptorIndex := 337, attributes := #[] }, { accessFlags := 0, nameIndex := 494, descriptorIndex := 142, attributes := #[] }, { accessFlags := 8, nameIndex := 501, descriptorIndex := 391, attributes := #[] }] 49 2 #[1106, 1108, 575, 1110, 1112] #[{ accessFlags := 18, nameIndex := 13, descriptorIndex := 14, attributes := #[] }, { accessFlags := 18, nameIndex := 17, descriptorIndex := 18, attributes := #[] }, { accessFlags := 2, nameIndex := 21, descriptorIndex := 22, attributes := #[] }, { accessFlags := 2, nameIndex := 25, descriptorIndex := 26, attributes := #[] }, { accessFlags := 26, nameIndex := 1116, descriptorIndex := 1117, attributes := #[] }, { accessFlags := 24, nameIndex := 40, descriptorIndex := 26, attributes := #[] }, { accessFlags := 26, nameIndex := 1101, descriptorIndex := 1102, attributes := #[] }, { accessFlags := 26, nameIndex := 1121, descriptorIndex := 1122, attributes := #[] }, { accessFlags := 25, nameIndex := 599, descriptorIndex := 600, attributes := #[] }, { accessFlags := 24, nameIndex := 1125, descriptorIndex := 18, attributes := #[] }, { accessFlags := 24, nameIndex := 1127, descriptorIndex := 18, attributes := #[] }])
  fields := #[{ name := "value", type := (.array .byte), accessFlags := 18, slot := 0, constantValue := 0 }, { name := "coder", type := .byte, accessFlags := 18, slot := 1, constantValue := 0 }, { name := "hash", type := .int, accessFlags := 2, slot := 2, constantValue := 0 }, { name := "hashIsZero", type := .boolean, accessFlags := 2, slot := 3, constantValue := 0 }, { name := "serialVersionUID", type := .long, accessFlags := 26, slot := 0, constantValue := 0 }, { name := "COMPACT_STRINGS", type := .boolean, accessFlags := 24, slot := 1, constantValue := 0 }, { name := "serialPersistentFields", type := (.array (.object "java/io/ObjectStreamField")), accessFlags := 26, slot := 2, constantValue := 0 }, { name := "REPL", type := .char, accessFlags := 26, slot := 3, constantValue := 0 }, { name := "CASE_INSENSITIVE_ORDER", type := (.object "java/util/Comparator"), accessFlags := 25, slot := 4, constantValue := 0 }, { name := "LATIN1", type := .byte, accessFlags := 24, slot := 5, constantValue := 0 }, { name := "UTF16", type := .byte, accessFlags := 24, slot := 6, constantValue := 0 }]
  methods := #[k7m0, k7m1, k7m2, k7m3, k7m4, k7m5, k7m6, k7m7, k7m8]
  instanceTypes := #[(.array .byte), .byte, .int, .boolean]
  staticTypes := #[.long, .boolean, (.array (.object "java/io/ObjectStreamField")), .char, (.object "java/util/Comparator"), .byte, .byte]
  resolved := Array.replicate 1451 none
  statics := some 0 }

def pool8 : Array CpInfo := pool [(2, .class_ 4), (1, u "java/lang/Object"), (0, u "<init>"), (0, u "()V"), (2, .methodref 10 11), (0, .class_ 12), (0, .nameAndType 13 14), (0, u "java/lang/String"), (0, u "length"), (0, u "()I"), (3, .methodref 10 19), (0, .nameAndType 20 21), (0, u "charAt"), (0, u "(I)C"), (5, u "(C)Z"), (1, .class_ 31), (1, u "com/example/cladistic/cladistic/Names"), (27, .nameAndType 60 27), (0, u "isDigit"), (0, .methodref 10 62), (0, .nameAndType 63 64), (0, u "isEmpty"), (0, u "()Z"), (0, .methodref 29 59), (0, u "MAX_IDENTIFIER_LENGTH"), (0, u "I"), (8, u "isPlainIdentifier"), (0, u "(Ljava/lang/String;)Z")] 2

def k8m0 : Method := { name := "<init>", desc := "()V", sig := { parameters := [], returnType := none }, accessFlags := 2, code := none }
def k8c1 : Code := { maxStack := 2, maxLocals := 3, code := prog_145_method_5_code, exceptionTable := #[], attributes := #[] }
def k8m1 : Method := { name := "isPlainIdentifier", desc := "(Ljava/lang/String;)Z", sig := { parameters := [(.object "java/lang/String")], returnType := some .boolean }, accessFlags := 9, code := some k8c1 }
def k8c2 : Code := { maxStack := 2, maxLocals := 1, code := prog_145_method_6_code, exceptionTable := #[], attributes := #[] }
def k8m2 : Method := { name := "isDigit", desc := "(C)Z", sig := { parameters := [.char], returnType := some .boolean }, accessFlags := 10, code := some k8c2 }
/-- com/example/cladistic/cladistic/Names -/
def k8 : Class := { plain "com/example/cladistic/cladistic/Names" (some 0) with
  accessFlags := 49
  interfaces := #[]
  cf := some (fileOf pool8 29 #[] #[{ accessFlags := 2, nameIndex := 5, descriptorIndex := 6, attributes := #[] }, { accessFlags := 9, nameIndex := 76, descriptorIndex := 77, attributes := #[] }, { accessFlags := 10, nameIndex := 60, descriptorIndex := 27, attributes := #[] }] 49 2 #[] #[{ accessFlags := 25, nameIndex := 66, descriptorIndex := 67, attributes := #[] }])
  fields := #[{ name := "MAX_IDENTIFIER_LENGTH", type := .int, accessFlags := 25, slot := 0, constantValue := 0 }]
  methods := #[k8m0, k8m1, k8m2]
  instanceTypes := #[]
  staticTypes := #[.int]
  resolved := Array.replicate 80 none
  statics := none }

def pool9 : Array CpInfo := pool [(3, .class_ 4), (0, u "java/lang/String"), (1, .class_ 8), (1, u "java/lang/Object"), (0, u "<init>"), (0, u "()V"), (0, .methodref 12 13), (0, .class_ 14), (0, .nameAndType 15 16), (0, u "java/lang/StringUTF16"), (0, u "newBytesLength"), (0, u "(I)I"), (3, .integer 1073741823), (23, .fieldref 12 45), (0, .nameAndType 46 47), (0, u "$assertionsDisabled"), (0, u "Z"), (0, .methodref 12 49), (0, .nameAndType 50 51), (0, u "length"), (0, u "([B)I"), (7, .fieldref 12 60), (0, .nameAndType 61 62), (0, u "HI_BYTE_SHIFT"), (0, u "I"), (0, .fieldref 12 64), (0, .nameAndType 65 62), (0, u "LO_BYTE_SHIFT"), (1, .methodref 12 68), (0, .nameAndType 69 70), (0, u "checkIndex"), (0, u "(I[B)V"), (0, .methodref 12 72), (0, .nameAndType 73 74), (0, u "getChar"), (0, u "([BI)C"), (32, .methodref 12 108), (0, .nameAndType 109 110), (0, u "newBytesFor"), (0, u "(I)[B"), (0, .methodref 12 112), (0, .nameAndType 113 114), (0, u "putChar"), (0, u "([BII)V"), (0, .methodref 12 116), (0, .nameAndType 117 118), (0, u "compress"), (0, u "([CI[BII)I"), (0, .methodref 12 120), (0, .nameAndType 121 122), (0, u "toBytes"), (0, u "([CII)[B"), (138, u "coderFromArrayLen"), (0, u "([BI)B"), (106, .class_ 371), (1, u "java/lang/StringUTF16$LinesSpliterator"), (20, u "charAt"), (21, .methodref 3 415), (0, .nameAndType 69 416), (0, u "(II)V"), (13, u "MAX_LENGTH"), (196, .class_ 628), (0, u "java/lang/StringUTF16$CodePointsSpliterator"), (0, .class_ 630), (0, u "java/lang/StringUTF16$CharsSpliterator")] 4

def k9m0 : Method := { name := "<init>", desc := "()V", sig := { parameters := [], returnType := none }, accessFlags := 0, code := none }
def k9c1 : Code := { maxStack := 1, maxLocals := 1, code := jdk_52_method_2_code, exceptionTable := #[], attributes := #[] }
def k9m1 : Method := { name := "newBytesFor", desc := "(I)[B", sig := { parameters := [.int], returnType := some (.array .byte) }, accessFlags := 9, code := some k9c1 }
def k9c2 : Code := { maxStack := 4, maxLocals := 1, code := jdk_52_method_3_code, exceptionTable := #[], attributes := #[] }
def k9m2 : Method := { name := "newBytesLength", desc := "(I)I", sig := { parameters := [.int], returnType := some .int }, accessFlags := 9, code := some k9c2 }
def k9c3 : Code := { maxStack := 4, maxLocals := 3, code := jdk_52_method_4_code, exceptionTable := #[], attributes := #[] }
def k9m3 : Method := { name := "putChar", desc := "([BII)V", sig := { parameters := [(.array .byte), .int, .int], returnType := none }, accessFlags := 8, code := some k9c3 }
def k9c4 : Code := { maxStack := 3, maxLocals := 2, code := jdk_52_method_5_code, exceptionTable := #[], attributes := #[] }
def k9m4 : Method := { name := "getChar", desc := "([BI)C", sig := { parameters := [(.array .byte), .int], returnType := some .char }, accessFlags := 8, code := some k9c4 }
def k9c5 : Code := { maxStack := 2, maxLocals := 1, code := jdk_52_method_6_code, exceptionTable := #[], attributes := #[] }
def k9m5 : Method := { name := "length", desc := "([B)I", sig := { parameters := [(.array .byte)], returnType := some .int }, accessFlags := 9, code := some k9c5 }
def k9c6 : Code := { maxStack := 4, maxLocals := 5, code := jdk_52_method_14_code, exceptionTable := #[], attributes := #[] }
def k9m6 : Method := { name := "toBytes", desc := "([CII)[B", sig := { parameters := [(.array .char), .int, .int], returnType := some (.array .byte) }, accessFlags := 9, code := some k9c6 }
def k9c7 : Code := { maxStack := 2, maxLocals := 2, code := jdk_52_method_15_code, exceptionTable := #[], attributes := #[] }
def k9m7 : Method := { name := "coderFromArrayLen", desc := "([BI)B", sig := { parameters := [(.array .byte), .int], returnType := some .byte }, accessFlags := 8, code := some k9c7 }
def k9c8 : Code := { maxStack := 5, maxLocals := 6, code := jdk_52_method_16_code, exceptionTable := #[], attributes := #[] }
def k9m8 : Method := { name := "compress", desc := "([CII)[B", sig := { parameters := [(.array .char), .int, .int], returnType := some (.array .byte) }, accessFlags := 9, code := some k9c8 }
def k9c9 : Code := { maxStack := 3, maxLocals := 7, code := jdk_52_method_21_code, exceptionTable := #[], attributes := #[] }
def k9m9 : Method := { name := "compress", desc := "([CI[BII)I", sig := { parameters := [(.array .char), .int, (.array .byte), .int, .int], returnType := some .int }, accessFlags := 9, code := some k9c9 }
def k9c10 : Code := { maxStack := 2, maxLocals := 2, code := jdk_52_method_83_code, exceptionTable := #[], attributes := #[] }
def k9m10 : Method := { name := "charAt", desc := "([BI)C", sig := { parameters := [(.array .byte), .int], returnType := some .char }, accessFlags := 9, code := some k9c10 }
def k9c11 : Code := { maxStack := 2, maxLocals := 2, code := jdk_52_method_91_code, exceptionTable := #[], attributes := #[] }
def k9m11 : Method := { name := "checkIndex", desc := "(I[B)V", sig := { parameters := [.int, (.array .byte)], returnType := none }, accessFlags := 9, code := some k9c11 }
/-- java/lang/StringUTF16 -/
def k9 : Class := { plain "java/lang/StringUTF16" (some 0) with
  accessFlags := 48
  interfaces := #[]
  cf := some (fileOf pool9 12 #[.nestMembers #[627, 629, 369]] #[{ accessFlags := 0, nameIndex := 9, descriptorIndex := 10, attributes := #[] }, { accessFlags := 9, nameIndex := 109, descriptorIndex := 110, attributes := #[] }, { accessFlags := 9, nameIndex := 15, descriptorIndex := 16, attributes := #[] }, { accessFlags := 8, nameIndex := 113, descriptorIndex := 114, attributes := #[] }, { accessFlags := 8, nameIndex := 73, descriptorIndex := 74, attributes := #[] }, { accessFlags := 9, nameIndex := 50, descriptorIndex := 51, attributes := #[] }, { accessFlags := 9, nameIndex := 121, descriptorIndex := 122, attributes := #[] }, { accessFlags := 8, nameIndex := 261, descriptorIndex := 262, attributes := #[] }, { accessFlags := 9, nameIndex := 117, descriptorIndex := 122, attributes := #[] }, { accessFlags := 9, nameIndex := 117, descriptorIndex := 118, attributes := #[] }, { accessFlags := 9, nameIndex := 392, descriptorIndex := 74, attributes := #[] }, { accessFlags := 9, nameIndex := 69, descriptorIndex := 70, attributes := #[] }] 48 6 #[] #[{ accessFlags := 26, nameIndex := 61, descriptorIndex := 62, attributes := #[] }, { accessFlags := 26, nameIndex := 65, descriptorIndex := 62, attributes := #[] }, { accessFlags := 24, nameIndex := 430, descriptorIndex := 62, attributes := #[] }, { accessFlags := 4120, nameIndex := 46, descriptorIndex := 47, attributes := #[] }])
  fields := #[{ name := "HI_BYTE_SHIFT", type := .int, accessFlags := 26, slot := 0, constantValue := 0 }, { name := "LO_BYTE_SHIFT", type := .int, accessFlags := 26, slot := 1, constantValue := 0 }, { name := "MAX_LENGTH", type := .int, accessFlags := 24, slot := 2, constantValue := 0 }, { name := "$assertionsDisabled", type := .boolean, accessFlags := 4120, slot := 3, constantValue := 0 }]
  methods := #[k9m0, k9m1, k9m2, k9m3, k9m4, k9m5, k9m6, k9m7, k9m8, k9m9, k9m10, k9m11]
  instanceTypes := #[]
  staticTypes := #[.int, .int, .int, .boolean]
  resolved := Array.replicate 635 none
  statics := some 1 }

def pool10 : Array CpInfo := pool [(1, .class_ 2), (0, u "java/lang/String"), (1, .class_ 6), (1, u "java/lang/Object"), (0, u "<init>"), (0, u "()V"), (0, .methodref 1 10), (0, .nameAndType 11 12), (0, u "checkIndex"), (0, u "(II)V"), (1, .class_ 16), (1, u "java/lang/StringLatin1"), (36, u "([BI)C"), (67, u "$assertionsDisabled"), (0, u "Z"), (98, .class_ 223), (1, u "java/lang/StringLatin1$LinesSpliterator"), (28, u "charAt"), (137, .class_ 391), (0, u "java/lang/StringLatin1$CharsSpliterator")] 3

def k10m0 : Method := { name := "<init>", desc := "()V", sig := { parameters := [], returnType := none }, accessFlags := 0, code := none }
def k10c1 : Code := { maxStack := 2, maxLocals := 2, code := jdk_43_method_2_code, exceptionTable := #[], attributes := #[] }
def k10m1 : Method := { name := "charAt", desc := "([BI)C", sig := { parameters := [(.array .byte), .int], returnType := some .char }, accessFlags := 9, code := some k10c1 }
/-- java/lang/StringLatin1 -/
def k10 : Class := { plain "java/lang/StringLatin1" (some 0) with
  accessFlags := 48
  interfaces := #[]
  cf := some (fileOf pool10 14 #[.nestMembers #[390, 221]] #[{ accessFlags := 0, nameIndex := 7, descriptorIndex := 8, attributes := #[] }, { accessFlags := 9, nameIndex := 252, descriptorIndex := 53, attributes := #[] }] 48 4 #[] #[{ accessFlags := 4120, nameIndex := 121, descriptorIndex := 122, attributes := #[] }])
  fields := #[{ name := "$assertionsDisabled", type := .boolean, accessFlags := 4120, slot := 0, constantValue := 0 }]
  methods := #[k10m0, k10m1]
  instanceTypes := #[]
  staticTypes := #[.boolean]
  resolved := Array.replicate 395 none
  statics := none }

def pool11 : Array CpInfo := pool [(2, .class_ 4), (1, u "java/lang/Object"), (0, u "<init>"), (0, u "()V"), (17, .class_ 26), (1, u "jdk/internal/util/Preconditions"), (6, u "checkIndex"), (21, .class_ 56), (0, u "jdk/internal/util/Preconditions$4"), (57, .class_ 115), (0, u "jdk/internal/util/Preconditions$1"), (7, u "SIOOBE_FORMATTER"), (0, u "Ljava/util/function/BiFunction;"), (0, .class_ 126), (0, u "jdk/internal/util/Preconditions$2"), (3, u "AIOOBE_FORMATTER"), (0, .class_ 132), (0, u "jdk/internal/util/Preconditions$3"), (3, u "IOOBE_FORMATTER"), (41, u "(IILjava/util/function/BiFunction;)I")] 15

def k11m0 : Method := { name := "<init>", desc := "()V", sig := { parameters := [], returnType := none }, accessFlags := 1, code := none }
def k11c1 : Code := { maxStack := 3, maxLocals := 3, code := jdk_41_method_11_code, exceptionTable := #[], attributes := #[] }
def k11m1 : Method := { name := "checkIndex", desc := "(IILjava/util/function/BiFunction;)I", sig := { parameters := [.int, .int, (.object "java/util/function/BiFunction")], returnType := some .int }, accessFlags := 9, code := some k11c1 }
/-- jdk/internal/util/Preconditions -/
def k11 : Class := { plain "jdk/internal/util/Preconditions" (some 0) with
  accessFlags := 33
  interfaces := #[]
  cf := some (fileOf pool11 24 #[.nestMembers #[55, 131, 125, 114]] #[{ accessFlags := 1, nameIndex := 5, descriptorIndex := 6, attributes := #[] }, { accessFlags := 9, nameIndex := 33, descriptorIndex := 178, attributes := #[] }] 33 2 #[] #[{ accessFlags := 25, nameIndex := 123, descriptorIndex := 124, attributes := #[] }, { accessFlags := 25, nameIndex := 130, descriptorIndex := 124, attributes := #[] }, { accessFlags := 25, nameIndex := 136, descriptorIndex := 124, attributes := #[] }])
  fields := #[{ name := "SIOOBE_FORMATTER", type := (.object "java/util/function/BiFunction"), accessFlags := 25, slot := 0, constantValue := 0 }, { name := "AIOOBE_FORMATTER", type := (.object "java/util/function/BiFunction"), accessFlags := 25, slot := 1, constantValue := 0 }, { name := "IOOBE_FORMATTER", type := (.object "java/util/function/BiFunction"), accessFlags := 25, slot := 2, constantValue := 0 }]
  methods := #[k11m0, k11m1]
  instanceTypes := #[]
  staticTypes := #[(.object "java/util/function/BiFunction"), (.object "java/util/function/BiFunction"), (.object "java/util/function/BiFunction")]
  resolved := Array.replicate 194 none
  statics := some 2 }

def pool12 : Array CpInfo := pool [(9, u "<init>"), (6, .class_ 18), (1, u "java/lang/Object"), (0, u "()V"), (1, .class_ 23), (1, u "jdk/internal/util/ArraysSupport"), (0, u "LOG2_ARRAY_LONG_INDEX_SCALE"), (0, u "I"), (2, u "U"), (0, u "Ljdk/internal/misc/Unsafe;"), (8, u "BIG_ENDIAN"), (0, u "Z"), (8, u "LOG2_BYTE_BIT_SIZE"), (4, u "LOG2_ARRAY_INT_INDEX_SCALE"), (54, u "JLA"), (0, u "Ljdk/internal/access/JavaLangAccess;"), (11, u "LOG2_ARRAY_BOOLEAN_INDEX_SCALE"), (9, u "LOG2_ARRAY_BYTE_INDEX_SCALE"), (5, u "LOG2_ARRAY_CHAR_INDEX_SCALE"), (5, u "LOG2_ARRAY_SHORT_INDEX_SCALE"), (18, u "LOG2_ARRAY_FLOAT_INDEX_SCALE"), (24, u "LOG2_ARRAY_DOUBLE_INDEX_SCALE"), (89, u "T_BOOLEAN"), (2, u "T_CHAR"), (1, u "T_FLOAT"), (1, u "T_DOUBLE"), (1, u "T_BYTE"), (1, u "T_SHORT"), (1, u "T_INT"), (1, u "T_LONG"), (1, u "SOFT_MAX_ARRAY_LENGTH")] 83

def k12m0 : Method := { name := "<init>", desc := "()V", sig := { parameters := [], returnType := none }, accessFlags := 2, code := none }
/-- jdk/internal/util/ArraysSupport -/
def k12 : Class := { plain "jdk/internal/util/ArraysSupport" (some 0) with
  accessFlags := 33
  interfaces := #[]
  cf := some (fileOf pool12 21 #[] #[{ accessFlags := 2, nameIndex := 9, descriptorIndex := 19, attributes := #[] }] 33 16 #[] #[{ accessFlags := 24, nameIndex := 28, descriptorIndex := 29, attributes := #[] }, { accessFlags := 26, nameIndex := 38, descriptorIndex := 39, attributes := #[] }, { accessFlags := 25, nameIndex := 121, descriptorIndex := 25, attributes := #[] }, { accessFlags := 25, nameIndex := 131, descriptorIndex := 25, attributes := #[] }, { accessFlags := 25, nameIndex := 137, descriptorIndex := 25, attributes := #[] }, { accessFlags := 25, nameIndex := 143, descriptorIndex := 25, attributes := #[] }, { accessFlags := 25, nameIndex := 53, descriptorIndex := 25, attributes := #[] }, { accessFlags := 25, nameIndex := 24, descriptorIndex := 25, attributes := #[] }, { accessFlags := 25, nameIndex := 162, descriptorIndex := 25, attributes := #[] }, { accessFlags := 25, nameIndex := 187, descriptorIndex := 25, attributes := #[] }, { accessFlags := 26, nameIndex := 48, descriptorIndex := 25, attributes := #[] }, { accessFlags := 25, nameIndex := 277, descriptorIndex := 25, attributes := #[] }, { accessFlags := 25, nameIndex := 280, descriptorIndex := 25, attributes := #[] }, { accessFlags := 25, nameIndex := 282, descriptorIndex := 25, attributes := #[] }, { accessFlags := 25, nameIndex := 284, descriptorIndex := 25, attributes := #[] }, { accessFlags := 25, nameIndex := 286, descriptorIndex := 25, attributes := #[] }, { accessFlags := 25, nameIndex := 288, descriptorIndex := 25, attributes := #[] }, { accessFlags := 25, nameIndex := 290, descriptorIndex := 25, attributes := #[] }, { accessFlags := 25, nameIndex := 292, descriptorIndex := 25, attributes := #[] }, { accessFlags := 26, nameIndex := 108, descriptorIndex := 109, attributes := #[] }, { accessFlags := 25, nameIndex := 294, descriptorIndex := 25, attributes := #[] }])
  fields := #[{ name := "U", type := (.object "jdk/internal/misc/Unsafe"), accessFlags := 24, slot := 0, constantValue := 0 }, { name := "BIG_ENDIAN", type := .boolean, accessFlags := 26, slot := 1, constantValue := 0 }, { name := "LOG2_ARRAY_BOOLEAN_INDEX_SCALE", type := .int, accessFlags := 25, slot := 2, constantValue := 0 }, { name := "LOG2_ARRAY_BYTE_INDEX_SCALE", type := .int, accessFlags := 25, slot := 3, constantValue := 0 }, { name := "LOG2_ARRAY_CHAR_INDEX_SCALE", type := .int, accessFlags := 25, slot := 4, constantValue := 0 }, { name := "LOG2_ARRAY_SHORT_INDEX_SCALE", type := .int, accessFlags := 25, slot := 5, constantValue := 0 }, { name := "LOG2_ARRAY_INT_INDEX_SCALE", type := .int, accessFlags := 25, slot := 6, constantValue := 0 }, { name := "LOG2_ARRAY_LONG_INDEX_SCALE", type := .int, accessFlags := 25, slot := 7, constantValue := 0 }, { name := "LOG2_ARRAY_FLOAT_INDEX_SCALE", type := .int, accessFlags := 25, slot := 8, constantValue := 0 }, { name := "LOG2_ARRAY_DOUBLE_INDEX_SCALE", type := .int, accessFlags := 25, slot := 9, constantValue := 0 }, { name := "LOG2_BYTE_BIT_SIZE", type := .int, accessFlags := 26, slot := 10, constantValue := 0 }, { name := "T_BOOLEAN", type := .int, accessFlags := 25, slot := 11, constantValue := 0 }, { name := "T_CHAR", type := .int, accessFlags := 25, slot := 12, constantValue := 0 }, { name := "T_FLOAT", type := .int, accessFlags := 25, slot := 13, constantValue := 0 }, { name := "T_DOUBLE", type := .int, accessFlags := 25, slot := 14, constantValue := 0 }, { name := "T_BYTE", type := .int, accessFlags := 25, slot := 15, constantValue := 0 }, { name := "T_SHORT", type := .int, accessFlags := 25, slot := 16, constantValue := 0 }, { name := "T_INT", type := .int, accessFlags := 25, slot := 17, constantValue := 0 }, { name := "T_LONG", type := .int, accessFlags := 25, slot := 18, constantValue := 0 }, { name := "JLA", type := (.object "jdk/internal/access/JavaLangAccess"), accessFlags := 26, slot := 19, constantValue := 0 }, { name := "SOFT_MAX_ARRAY_LENGTH", type := .int, accessFlags := 25, slot := 20, constantValue := 0 }]
  methods := #[k12m0]
  instanceTypes := #[]
  staticTypes := #[(.object "jdk/internal/misc/Unsafe"), .boolean, .int, .int, .int, .int, .int, .int, .int, .int, .int, .int, .int, .int, .int, .int, .int, .int, .int, (.object "jdk/internal/access/JavaLangAccess"), .int]
  resolved := Array.replicate 378 none
  statics := none }

def pool13 : Array CpInfo := pool [(1, u "java/lang/Cloneable"), (0, .class_ 1), (0, u "java/lang/Object"), (0, .class_ 3)] 3

/-- java/lang/Cloneable -/
def k13 : Class := { plain "java/lang/Cloneable" (some 0) with
  accessFlags := 1537
  interfaces := #[]
  cf := some (fileOf pool13 2 #[] #[] 1537 4 #[] #[])
  fields := #[]
  methods := #[]
  instanceTypes := #[]
  staticTypes := #[]
  resolved := Array.replicate 8 none
  statics := none }

/-- the primitive byte -/
def k14 : Class := { plain "byte" none with kind := .primitive 'B', accessFlags := 0x411 }
/-- [B -/
def k15 : Class := { plain "[B" (some 0) with kind := .array 14 .byte, interfaces := #[13, 2], accessFlags := 1041 }

/-- the primitive char -/
def k16 : Class := { plain "char" none with kind := .primitive 'C', accessFlags := 0x411 }
/-- [C -/
def k17 : Class := { plain "[C" (some 0) with kind := .array 16 .char, interfaces := #[13, 2], accessFlags := 1041 }

/-- the primitive int -/
def k18 : Class := { plain "int" none with kind := .primitive 'I', accessFlags := 0x411 }
/-- [I -/
def k19 : Class := { plain "[I" (some 0) with kind := .array 18 .int, interfaces := #[13, 2], accessFlags := 1041 }

def heap : Heap := #[{ cls := 7, slots := #[.long 0, .int 1, .null, .int 0, .null, .int 0, .int 0], vm := .statics 7 },
  { cls := 9, slots := #[.int 0, .int 8, .int 0, .int 1], vm := .statics 9 },
  { cls := 11, slots := #[.null, .null, .null], vm := .statics 11 }]
def classes : Array Class := #[k0, k1, k2, k3, k4, k5, k6, k7, k8, k9, k10, k11, k12, k13, k14, k15, k16, k17, k18, k19]
def interned : List (Array UInt16 × Addr) := []
def slotsUsed : Nat := 14
def theMethod : MethodId := ⟨1, 5⟩
def args0 : Array Value := #[.int 2, .int 65, .int 66, .int 67, .int 68]
def aboutOver (below : List Frame) : State where
  vm := { classes := classes, interned := interned.toArray }
  heap := heap
  slotsUsed := slotsUsed
  threads := #[{ frames := .invoking theMethod args0 :: below }]
def below0 : List Frame := [.native { method := ⟨0, 0⟩, args := #[] }]
def about1 : State := aboutOver below0
def p0 : Program := .bare "" "" ""
def e0 : Env := launch0.env 0 0 0
theorem w_frames : about1.frames = Frame.invoking theMethod args0 :: below0 := rfl
set_option maxRecDepth 65536 in
theorem w_args : argsFit about1.vm theMethod args0 = true := by decide +kernel
set_option maxRecDepth 65536 in
theorem w_heap : heapFits about1 = true := by decide +kernel
set_option maxRecDepth 65536 in
theorem w_runnable : about1.curStatus? = some .runnable := by decide +kernel
set_option maxRecDepth 65536 in
theorem w_alone : about1.alone = true := by decide +kernel
set_option maxRecDepth 65536 in
theorem w_named : about1.methodNamed? x = some theMethod := by decide +kernel
set_option maxRecDepth 65536 in
theorem w_hears : about1.hears theMethod below0 = true := by decide +kernel
set_option maxRecDepth 65536 in
theorem w_ripe : about1.ripe theMethod args0 below0 = true := by decide +kernel
theorem w_running : about1.status = .running := rfl
set_option maxRecDepth 65536 in
theorem w_room : about1.hasRoom e0.platform room_1 = true :=
  launch0.hasRoom_least _ room_1 (by decide +kernel) (by decide +kernel) (by decide +kernel) (by decide +kernel) (by decide +kernel) (by decide +kernel)
theorem allAtoms_all (ts : List Jvm.Cond) (a : Array Jvm.Value) (st : Jvm.State) : (allAtoms ts).before a st = ts.all (fun c => c.before a st) := by
  induction ts with
  | nil => rfl
  | cons c t ih =>
    show (Jvm.Cond.and c (allAtoms t)).before a st = _
    rw [Jvm.Cond.before_and, ih, List.all_cons]
def words1 : List Jvm.Cond := Jvm.Cond.code x code maxLocals ret :: tables_1
/-- a 'code' word, met by the world's own term for the bytes: nothing is compared byte by byte -/
theorem code_word {y : MethodName} {bytes : ByteArray} {mx : Nat} {rt : Option FieldType} {a : Array Value} {s : State} {m : MethodId} {meth : Method} {c : Code} (h1 : s.methodNamed? y = some m) (h2 : s.vm.method? m = some meth) (h3 : meth.code = some c) (h4 : c.code = bytes)
    (h5 : (c.maxLocals == mx && c.exceptionTable.isEmpty && decide (c.maxStack ≤ mostOperands) && decide (meth.sig.returnType = rt) && !meth.locks && decide (parseMethodDescriptor y.desc = some meth.sig)) = true) : (Jvm.Cond.code y bytes mx rt).before a s = true := by
  simp only [Bool.and_eq_true, beq_iff_eq, Bool.not_eq_true', decide_eq_true_eq] at h5
  obtain ⟨⟨⟨⟨⟨g1, g2⟩, g3⟩, g4⟩, g5⟩, g6⟩ := h5
  simp [Cond.before, Cond.holds, Cond.value, h1, h2, h3, h4, g1, g2, g3, g4, g5, g6]
def isCode : Jvm.Cond → Bool
  | .code _ _ _ _ => true
  | _ => false
theorem all_split {L : List Jvm.Cond} {P : Jvm.Cond → Bool} (h1 : L.all (fun c => isCode c || P c) = true) (h2 : ∀ c ∈ L.filter isCode, P c = true) : L.all P = true := by
  refine List.all_eq_true.mpr fun c hc => ?_
  have h := List.all_eq_true.mp h1 c hc
  rcases Bool.eq_false_or_eq_true (isCode c) with hi | hi
  · exact h2 c (List.mem_filter.mpr ⟨hc, hi⟩)
  · simpa [hi] using h
set_option maxRecDepth 65536 in
theorem w_c0 : (Jvm.Cond.code x code maxLocals ret).before args0 about1 = true := code_word (m := ⟨1, 5⟩) (meth := k1m5) (c := k1c5) (by decide +kernel) rfl rfl rfl (by decide +kernel)
set_option maxRecDepth 65536 in
theorem w_c1 : (Jvm.Cond.code ({ cls := "com/example/cladistic/cladistic/NamesIsPlainIdentifierPinLaw", name := "draw", desc := "(I)C" } : Jvm.MethodName) method_2_code (1 : Nat) (Option.some Jvm.ClassFile.FieldType.char)).before args0 about1 = true := code_word (m := ⟨1, 1⟩) (meth := k1m1) (c := k1c1) (by decide +kernel) rfl rfl rfl (by decide +kernel)
set_option maxRecDepth 65536 in
theorem w_c2 : (Jvm.Cond.code ({ cls := "com/example/cladistic/cladistic/NamesIsPlainIdentifierPinLaw", name := "shortString", desc := "(ICCCC)Ljava/lang/String;" } : Jvm.MethodName) method_5_code (5 : Nat) (Option.some (Jvm.ClassFile.FieldType.object "java/lang/String"))).before args0 about1 = true := code_word (m := ⟨1, 4⟩) (meth := k1m4) (c := k1c4) (by decide +kernel) rfl rfl rfl (by decide +kernel)
set_option maxRecDepth 65536 in
theorem w_c3 : (Jvm.Cond.code ({ cls := "java/lang/String", name := "<init>", desc := "([C)V" } : Jvm.MethodName) jdk_42_method_3_code (2 : Nat) (Option.none : Option Jvm.ClassFile.FieldType)).before args0 about1 = true := code_word (m := ⟨7, 1⟩) (meth := k7m1) (c := k7c1) (by decide +kernel) rfl rfl rfl (by decide +kernel)
set_option maxRecDepth 65536 in
theorem w_c4 : (Jvm.Cond.code ({ cls := "java/lang/String", name := "<init>", desc := "([CIILjava/lang/Void;)V" } : Jvm.MethodName) jdk_42_method_149_code (6 : Nat) (Option.none : Option Jvm.ClassFile.FieldType)).before args0 about1 = true := code_word (m := ⟨7, 5⟩) (meth := k7m5) (c := k7c5) (by decide +kernel) rfl rfl rfl (by decide +kernel)
set_option maxRecDepth 65536 in
theorem w_c5 : (Jvm.Cond.code ({ cls := "java/lang/Object", name := "<init>", desc := "()V" } : Jvm.MethodName) object_method_1_code (1 : Nat) (Option.none : Option Jvm.ClassFile.FieldType)).before args0 about1 = true := code_word (m := ⟨0, 0⟩) (meth := k0m0) (c := k0c0) (by decide +kernel) rfl rfl rfl (by decide +kernel)
set_option maxRecDepth 65536 in
theorem w_c6 : (Jvm.Cond.code ({ cls := "com/example/cladistic/cladistic/Names", name := "isPlainIdentifier", desc := "(Ljava/lang/String;)Z" } : Jvm.MethodName) prog_145_method_5_code (3 : Nat) (Option.some Jvm.ClassFile.FieldType.boolean)).before args0 about1 = true := code_word (m := ⟨8, 1⟩) (meth := k8m1) (c := k8c1) (by decide +kernel) rfl rfl rfl (by decide +kernel)
set_option maxRecDepth 65536 in
theorem w_c7 : (Jvm.Cond.code ({ cls := "java/lang/String", name := "isEmpty", desc := "()Z" } : Jvm.MethodName) jdk_42_method_55_code (1 : Nat) (Option.some Jvm.ClassFile.FieldType.boolean)).before args0 about1 = true := code_word (m := ⟨7, 3⟩) (meth := k7m3) (c := k7c3) (by decide +kernel) rfl rfl rfl (by decide +kernel)
set_option maxRecDepth 65536 in
theorem w_c8 : (Jvm.Cond.code ({ cls := "java/lang/StringUTF16", name := "compress", desc := "([CII)[B" } : Jvm.MethodName) jdk_52_method_16_code (6 : Nat) (Option.some (Jvm.ClassFile.FieldType.array Jvm.ClassFile.FieldType.byte))).before args0 about1 = true := code_word (m := ⟨9, 8⟩) (meth := k9m8) (c := k9c8) (by decide +kernel) rfl rfl rfl (by decide +kernel)
set_option maxRecDepth 65536 in
theorem w_c9 : (Jvm.Cond.code ({ cls := "java/lang/StringUTF16", name := "compress", desc := "([CI[BII)I" } : Jvm.MethodName) jdk_52_method_21_code (7 : Nat) (Option.some Jvm.ClassFile.FieldType.int)).before args0 about1 = true := code_word (m := ⟨9, 9⟩) (meth := k9m9) (c := k9c9) (by decide +kernel) rfl rfl rfl (by decide +kernel)
set_option maxRecDepth 65536 in
theorem w_c10 : (Jvm.Cond.code ({ cls := "java/lang/StringUTF16", name := "coderFromArrayLen", desc := "([BI)B" } : Jvm.MethodName) jdk_52_method_15_code (2 : Nat) (Option.some Jvm.ClassFile.FieldType.byte)).before args0 about1 = true := code_word (m := ⟨9, 7⟩) (meth := k9m7) (c := k9c7) (by decide +kernel) rfl rfl rfl (by decide +kernel)
set_option maxRecDepth 65536 in
theorem w_c11 : (Jvm.Cond.code ({ cls := "com/example/cladistic/cladistic/NamesIsPlainIdentifierPinLaw", name := "allowed", desc := "(C)Z" } : Jvm.MethodName) method_4_code (1 : Nat) (Option.some Jvm.ClassFile.FieldType.boolean)).before args0 about1 = true := code_word (m := ⟨1, 3⟩) (meth := k1m3) (c := k1c3) (by decide +kernel) rfl rfl rfl (by decide +kernel)
set_option maxRecDepth 65536 in
theorem w_c12 : (Jvm.Cond.code ({ cls := "com/example/cladistic/cladistic/NamesIsPlainIdentifierPinLaw", name := "digit", desc := "(C)Z" } : Jvm.MethodName) method_3_code (1 : Nat) (Option.some Jvm.ClassFile.FieldType.boolean)).before args0 about1 = true := code_word (m := ⟨1, 2⟩) (meth := k1m2) (c := k1c2) (by decide +kernel) rfl rfl rfl (by decide +kernel)
set_option maxRecDepth 65536 in
theorem w_c13 : (Jvm.Cond.code ({ cls := "java/lang/String", name := "length", desc := "()I" } : Jvm.MethodName) jdk_42_method_54_code (1 : Nat) (Option.some Jvm.ClassFile.FieldType.int)).before args0 about1 = true := code_word (m := ⟨7, 2⟩) (meth := k7m2) (c := k7c2) (by decide +kernel) rfl rfl rfl (by decide +kernel)
set_option maxRecDepth 65536 in
theorem w_c14 : (Jvm.Cond.code ({ cls := "java/lang/String", name := "coder", desc := "()B" } : Jvm.MethodName) jdk_42_method_152_code (1 : Nat) (Option.some Jvm.ClassFile.FieldType.byte)).before args0 about1 = true := code_word (m := ⟨7, 6⟩) (meth := k7m6) (c := k7c6) (by decide +kernel) rfl rfl rfl (by decide +kernel)
set_option maxRecDepth 65536 in
theorem w_c15 : (Jvm.Cond.code ({ cls := "java/lang/String", name := "charAt", desc := "(I)C" } : Jvm.MethodName) jdk_42_method_56_code (2 : Nat) (Option.some Jvm.ClassFile.FieldType.char)).before args0 about1 = true := code_word (m := ⟨7, 4⟩) (meth := k7m4) (c := k7c4) (by decide +kernel) rfl rfl rfl (by decide +kernel)
set_option maxRecDepth 65536 in
theorem w_c16 : (Jvm.Cond.code ({ cls := "java/lang/String", name := "isLatin1", desc := "()Z" } : Jvm.MethodName) jdk_42_method_154_code (1 : Nat) (Option.some Jvm.ClassFile.FieldType.boolean)).before args0 about1 = true := code_word (m := ⟨7, 7⟩) (meth := k7m7) (c := k7c7) (by decide +kernel) rfl rfl rfl (by decide +kernel)
set_option maxRecDepth 65536 in
theorem w_c17 : (Jvm.Cond.code ({ cls := "java/lang/StringLatin1", name := "charAt", desc := "([BI)C" } : Jvm.MethodName) jdk_43_method_2_code (2 : Nat) (Option.some Jvm.ClassFile.FieldType.char)).before args0 about1 = true := code_word (m := ⟨10, 1⟩) (meth := k10m1) (c := k10c1) (by decide +kernel) rfl rfl rfl (by decide +kernel)
set_option maxRecDepth 65536 in
theorem w_c18 : (Jvm.Cond.code ({ cls := "java/lang/String", name := "checkIndex", desc := "(II)V" } : Jvm.MethodName) jdk_42_method_155_code (2 : Nat) (Option.none : Option Jvm.ClassFile.FieldType)).before args0 about1 = true := code_word (m := ⟨7, 8⟩) (meth := k7m8) (c := k7c8) (by decide +kernel) rfl rfl rfl (by decide +kernel)
set_option maxRecDepth 65536 in
theorem w_c19 : (Jvm.Cond.code ({ cls := "jdk/internal/util/Preconditions", name := "checkIndex", desc := "(IILjava/util/function/BiFunction;)I" } : Jvm.MethodName) jdk_41_method_11_code (3 : Nat) (Option.some Jvm.ClassFile.FieldType.int)).before args0 about1 = true := code_word (m := ⟨11, 1⟩) (meth := k11m1) (c := k11c1) (by decide +kernel) rfl rfl rfl (by decide +kernel)
set_option maxRecDepth 65536 in
theorem w_c20 : (Jvm.Cond.code ({ cls := "com/example/cladistic/cladistic/Names", name := "isDigit", desc := "(C)Z" } : Jvm.MethodName) prog_145_method_6_code (1 : Nat) (Option.some Jvm.ClassFile.FieldType.boolean)).before args0 about1 = true := code_word (m := ⟨8, 2⟩) (meth := k8m2) (c := k8c2) (by decide +kernel) rfl rfl rfl (by decide +kernel)
set_option maxRecDepth 65536 in
theorem w_c21 : (Jvm.Cond.code ({ cls := "java/lang/StringUTF16", name := "toBytes", desc := "([CII)[B" } : Jvm.MethodName) jdk_52_method_14_code (5 : Nat) (Option.some (Jvm.ClassFile.FieldType.array Jvm.ClassFile.FieldType.byte))).before args0 about1 = true := code_word (m := ⟨9, 6⟩) (meth := k9m6) (c := k9c6) (by decide +kernel) rfl rfl rfl (by decide +kernel)
set_option maxRecDepth 65536 in
theorem w_c22 : (Jvm.Cond.code ({ cls := "java/lang/StringUTF16", name := "newBytesFor", desc := "(I)[B" } : Jvm.MethodName) jdk_52_method_2_code (1 : Nat) (Option.some (Jvm.ClassFile.FieldType.array Jvm.ClassFile.FieldType.byte))).before args0 about1 = true := code_word (m := ⟨9, 1⟩) (meth := k9m1) (c := k9c1) (by decide +kernel) rfl rfl rfl (by decide +kernel)
set_option maxRecDepth 65536 in
theorem w_c23 : (Jvm.Cond.code ({ cls := "java/lang/StringUTF16", name := "newBytesLength", desc := "(I)I" } : Jvm.MethodName) jdk_52_method_3_code (1 : Nat) (Option.some Jvm.ClassFile.FieldType.int)).before args0 about1 = true := code_word (m := ⟨9, 2⟩) (meth := k9m2) (c := k9c2) (by decide +kernel) rfl rfl rfl (by decide +kernel)
set_option maxRecDepth 65536 in
theorem w_c24 : (Jvm.Cond.code ({ cls := "java/lang/StringUTF16", name := "putChar", desc := "([BII)V" } : Jvm.MethodName) jdk_52_method_4_code (3 : Nat) (Option.none : Option Jvm.ClassFile.FieldType)).before args0 about1 = true := code_word (m := ⟨9, 3⟩) (meth := k9m3) (c := k9c3) (by decide +kernel) rfl rfl rfl (by decide +kernel)
set_option maxRecDepth 65536 in
theorem w_c25 : (Jvm.Cond.code ({ cls := "java/lang/StringUTF16", name := "getChar", desc := "([BI)C" } : Jvm.MethodName) jdk_52_method_5_code (2 : Nat) (Option.some Jvm.ClassFile.FieldType.char)).before args0 about1 = true := code_word (m := ⟨9, 4⟩) (meth := k9m4) (c := k9c4) (by decide +kernel) rfl rfl rfl (by decide +kernel)
set_option maxRecDepth 65536 in
theorem w_c26 : (Jvm.Cond.code ({ cls := "java/lang/StringUTF16", name := "charAt", desc := "([BI)C" } : Jvm.MethodName) jdk_52_method_83_code (2 : Nat) (Option.some Jvm.ClassFile.FieldType.char)).before args0 about1 = true := code_word (m := ⟨9, 10⟩) (meth := k9m10) (c := k9c10) (by decide +kernel) rfl rfl rfl (by decide +kernel)
set_option maxRecDepth 65536 in
theorem w_c27 : (Jvm.Cond.code ({ cls := "java/lang/StringUTF16", name := "checkIndex", desc := "(I[B)V" } : Jvm.MethodName) jdk_52_method_91_code (2 : Nat) (Option.none : Option Jvm.ClassFile.FieldType)).before args0 about1 = true := code_word (m := ⟨9, 11⟩) (meth := k9m11) (c := k9c11) (by decide +kernel) rfl rfl rfl (by decide +kernel)
set_option maxRecDepth 65536 in
theorem w_c28 : (Jvm.Cond.code ({ cls := "java/lang/StringUTF16", name := "length", desc := "([B)I" } : Jvm.MethodName) jdk_52_method_6_code (1 : Nat) (Option.some Jvm.ClassFile.FieldType.int)).before args0 about1 = true := code_word (m := ⟨9, 5⟩) (meth := k9m5) (c := k9c5) (by decide +kernel) rfl rfl rfl (by decide +kernel)
def codes1 : List Jvm.Cond := [Jvm.Cond.code x code maxLocals ret, Jvm.Cond.code ({ cls := "com/example/cladistic/cladistic/NamesIsPlainIdentifierPinLaw", name := "draw", desc := "(I)C" } : Jvm.MethodName) method_2_code (1 : Nat) (Option.some Jvm.ClassFile.FieldType.char), Jvm.Cond.code ({ cls := "com/example/cladistic/cladistic/NamesIsPlainIdentifierPinLaw", name := "shortString", desc := "(ICCCC)Ljava/lang/String;" } : Jvm.MethodName) method_5_code (5 : Nat) (Option.some (Jvm.ClassFile.FieldType.object "java/lang/String")), Jvm.Cond.code ({ cls := "java/lang/String", name := "<init>", desc := "([C)V" } : Jvm.MethodName) jdk_42_method_3_code (2 : Nat) (Option.none : Option Jvm.ClassFile.FieldType), Jvm.Cond.code ({ cls := "java/lang/String", name := "<init>", desc := "([CIILjava/lang/Void;)V" } : Jvm.MethodName) jdk_42_method_149_code (6 : Nat) (Option.none : Option Jvm.ClassFile.FieldType), Jvm.Cond.code ({ cls := "java/lang/Object", name := "<init>", desc := "()V" } : Jvm.MethodName) object_method_1_code (1 : Nat) (Option.none : Option Jvm.ClassFile.FieldType), Jvm.Cond.code ({ cls := "com/example/cladistic/cladistic/Names", name := "isPlainIdentifier", desc := "(Ljava/lang/String;)Z" } : Jvm.MethodName) prog_145_method_5_code (3 : Nat) (Option.some Jvm.ClassFile.FieldType.boolean), Jvm.Cond.code ({ cls := "java/lang/String", name := "isEmpty", desc := "()Z" } : Jvm.MethodName) jdk_42_method_55_code (1 : Nat) (Option.some Jvm.ClassFile.FieldType.boolean), Jvm.Cond.code ({ cls := "java/lang/StringUTF16", name := "compress", desc := "([CII)[B" } : Jvm.MethodName) jdk_52_method_16_code (6 : Nat) (Option.some (Jvm.ClassFile.FieldType.array Jvm.ClassFile.FieldType.byte)), Jvm.Cond.code ({ cls := "java/lang/StringUTF16", name := "compress", desc := "([CI[BII)I" } : Jvm.MethodName) jdk_52_method_21_code (7 : Nat) (Option.some Jvm.ClassFile.FieldType.int), Jvm.Cond.code ({ cls := "java/lang/StringUTF16", name := "coderFromArrayLen", desc := "([BI)B" } : Jvm.MethodName) jdk_52_method_15_code (2 : Nat) (Option.some Jvm.ClassFile.FieldType.byte), Jvm.Cond.code ({ cls := "com/example/cladistic/cladistic/NamesIsPlainIdentifierPinLaw", name := "allowed", desc := "(C)Z" } : Jvm.MethodName) method_4_code (1 : Nat) (Option.some Jvm.ClassFile.FieldType.boolean), Jvm.Cond.code ({ cls := "com/example/cladistic/cladistic/NamesIsPlainIdentifierPinLaw", name := "digit", desc := "(C)Z" } : Jvm.MethodName) method_3_code (1 : Nat) (Option.some Jvm.ClassFile.FieldType.boolean), Jvm.Cond.code ({ cls := "java/lang/String", name := "length", desc := "()I" } : Jvm.MethodName) jdk_42_method_54_code (1 : Nat) (Option.some Jvm.ClassFile.FieldType.int), Jvm.Cond.code ({ cls := "java/lang/String", name := "coder", desc := "()B" } : Jvm.MethodName) jdk_42_method_152_code (1 : Nat) (Option.some Jvm.ClassFile.FieldType.byte), Jvm.Cond.code ({ cls := "java/lang/String", name := "charAt", desc := "(I)C" } : Jvm.MethodName) jdk_42_method_56_code (2 : Nat) (Option.some Jvm.ClassFile.FieldType.char), Jvm.Cond.code ({ cls := "java/lang/String", name := "isLatin1", desc := "()Z" } : Jvm.MethodName) jdk_42_method_154_code (1 : Nat) (Option.some Jvm.ClassFile.FieldType.boolean), Jvm.Cond.code ({ cls := "java/lang/StringLatin1", name := "charAt", desc := "([BI)C" } : Jvm.MethodName) jdk_43_method_2_code (2 : Nat) (Option.some Jvm.ClassFile.FieldType.char), Jvm.Cond.code ({ cls := "java/lang/String", name := "checkIndex", desc := "(II)V" } : Jvm.MethodName) jdk_42_method_155_code (2 : Nat) (Option.none : Option Jvm.ClassFile.FieldType), Jvm.Cond.code ({ cls := "jdk/internal/util/Preconditions", name := "checkIndex", desc := "(IILjava/util/function/BiFunction;)I" } : Jvm.MethodName) jdk_41_method_11_code (3 : Nat) (Option.some Jvm.ClassFile.FieldType.int), Jvm.Cond.code ({ cls := "com/example/cladistic/cladistic/Names", name := "isDigit", desc := "(C)Z" } : Jvm.MethodName) prog_145_method_6_code (1 : Nat) (Option.some Jvm.ClassFile.FieldType.boolean), Jvm.Cond.code ({ cls := "java/lang/StringUTF16", name := "toBytes", desc := "([CII)[B" } : Jvm.MethodName) jdk_52_method_14_code (5 : Nat) (Option.some (Jvm.ClassFile.FieldType.array Jvm.ClassFile.FieldType.byte)), Jvm.Cond.code ({ cls := "java/lang/StringUTF16", name := "newBytesFor", desc := "(I)[B" } : Jvm.MethodName) jdk_52_method_2_code (1 : Nat) (Option.some (Jvm.ClassFile.FieldType.array Jvm.ClassFile.FieldType.byte)), Jvm.Cond.code ({ cls := "java/lang/StringUTF16", name := "newBytesLength", desc := "(I)I" } : Jvm.MethodName) jdk_52_method_3_code (1 : Nat) (Option.some Jvm.ClassFile.FieldType.int), Jvm.Cond.code ({ cls := "java/lang/StringUTF16", name := "putChar", desc := "([BII)V" } : Jvm.MethodName) jdk_52_method_4_code (3 : Nat) (Option.none : Option Jvm.ClassFile.FieldType), Jvm.Cond.code ({ cls := "java/lang/StringUTF16", name := "getChar", desc := "([BI)C" } : Jvm.MethodName) jdk_52_method_5_code (2 : Nat) (Option.some Jvm.ClassFile.FieldType.char), Jvm.Cond.code ({ cls := "java/lang/StringUTF16", name := "charAt", desc := "([BI)C" } : Jvm.MethodName) jdk_52_method_83_code (2 : Nat) (Option.some Jvm.ClassFile.FieldType.char), Jvm.Cond.code ({ cls := "java/lang/StringUTF16", name := "checkIndex", desc := "(I[B)V" } : Jvm.MethodName) jdk_52_method_91_code (2 : Nat) (Option.none : Option Jvm.ClassFile.FieldType), Jvm.Cond.code ({ cls := "java/lang/StringUTF16", name := "length", desc := "([B)I" } : Jvm.MethodName) jdk_52_method_6_code (1 : Nat) (Option.some Jvm.ClassFile.FieldType.int)]
set_option maxRecDepth 65536 in
theorem codes_eq : words1.filter isCode = codes1 := rfl
theorem w_codes : ∀ c ∈ words1.filter isCode, c.before args0 about1 = true := by
  rw [codes_eq]
  intro c hc
  simp only [codes1, List.mem_cons, List.not_mem_nil, or_false] at hc
  rcases hc with rfl | rfl | rfl | rfl | rfl | rfl | rfl | rfl | rfl | rfl | rfl | rfl | rfl | rfl | rfl | rfl | rfl | rfl | rfl | rfl | rfl | rfl | rfl | rfl | rfl | rfl | rfl | rfl | rfl
  · exact w_c0
  · exact w_c1
  · exact w_c2
  · exact w_c3
  · exact w_c4
  · exact w_c5
  · exact w_c6
  · exact w_c7
  · exact w_c8
  · exact w_c9
  · exact w_c10
  · exact w_c11
  · exact w_c12
  · exact w_c13
  · exact w_c14
  · exact w_c15
  · exact w_c16
  · exact w_c17
  · exact w_c18
  · exact w_c19
  · exact w_c20
  · exact w_c21
  · exact w_c22
  · exact w_c23
  · exact w_c24
  · exact w_c25
  · exact w_c26
  · exact w_c27
  · exact w_c28
set_option maxRecDepth 65536 in
theorem w_t1 : (words1.take 24).all (fun c => isCode c || c.before args0 about1) = true := by decide +kernel
set_option maxRecDepth 65536 in
theorem w_t2 : ((words1.drop 24).take 24).all (fun c => isCode c || c.before args0 about1) = true := by decide +kernel
set_option maxRecDepth 65536 in
theorem w_t3 : (((words1.drop 24).drop 24).take 24).all (fun c => isCode c || c.before args0 about1) = true := by decide +kernel
set_option maxRecDepth 65536 in
theorem w_t4 : ((((words1.drop 24).drop 24).drop 24).take 24).all (fun c => isCode c || c.before args0 about1) = true := by decide +kernel
set_option maxRecDepth 65536 in
theorem w_t5 : (((((words1.drop 24).drop 24).drop 24).drop 24).take 24).all (fun c => isCode c || c.before args0 about1) = true := by decide +kernel
set_option maxRecDepth 65536 in
theorem w_t6 : (((((words1.drop 24).drop 24).drop 24).drop 24).drop 24).all (fun c => isCode c || c.before args0 about1) = true := by decide +kernel
theorem w_tables : (allAtoms (Jvm.Cond.code x code maxLocals ret :: tables_1)).before args0 about1 = true := by
  rw [allAtoms_all]
  show words1.all (fun c => c.before args0 about1) = true
  refine all_split ?_ w_codes
  rw [← List.take_append_drop 24 words1, List.all_append, w_t1, ← List.take_append_drop 24 (words1.drop 24), List.all_append, w_t2, ← List.take_append_drop 24 ((words1.drop 24).drop 24), List.all_append, w_t3, ← List.take_append_drop 24 (((words1.drop 24).drop 24).drop 24), List.all_append, w_t4, ← List.take_append_drop 24 ((((words1.drop 24).drop 24).drop 24).drop 24), List.all_append, w_t5, w_t6]
  rfl
set_option maxRecDepth 65536 in
theorem w_rest : rest_1_c.before args0 about1 = true := by decide +kernel
set_option maxRecDepth 65536 in
theorem w_case : (Jvm.Cond.and given_1 narrow_1).before args0 about1 = true := by decide +kernel
set_option maxRecDepth 65536 in
theorem w_consts : constsHeld consts_1 about1 := Jvm.Lit.constsHeldB_iff.mp (by decide +kernel)
theorem w_applies : (headSpec (Jvm.Cond.code x code maxLocals ret :: tables_1) room_1).applies x e0.platform about1 = true :=
  (Spec.applies_iff w_frames).mpr ⟨w_running, w_runnable, w_alone, w_named, w_hears, w_ripe, w_room, w_tables⟩
theorem atStart : AtStart classFile x code maxLocals ret World_1 tables_1 room_1 Calls_1 rest_1 Pre_1 launch0 p0 e0 about1 theMethod args0 below0 :=
  ⟨lists_1, trivial, launch0.admits_env _ _ _, launch0.least_env, fairChoices_fair.cas, fairChoices_fair.clock, w_frames, w_args, w_heap, w_applies, ⟨w_consts, trivial⟩, w_rest, w_case⟩
end start1
theorem witness_1 : WitnessClaimed_1 := ⟨start1.p0, start1.e0, start1.about1, start1.theMethod, start1.args0, start1.below0, start1.atStart⟩
end Jvm.Pilot.@@N@@
