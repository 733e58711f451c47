import JvmDerived
import JvmDerived.Pilot.@@N@@Statement
import JvmDerived.Pilot.@@N@@Code
set_option linter.unusedVariables false
set_option linter.unusedSimpArgs false
/- laws to paste: Road.backV, Road.lenW, Road.chN, Road.codOf (cut by pick.py; bodies as the Statement names them) -/
namespace Jvm.Pilot.@@N@@
namespace StrChars
open Jvm Sem ClassFile Op Lib Jvm.Stand Jvm.Free.XT Jvm.Free.ALB Jvm.Free.JM Jvm.Free
open Jvm.Lib.Cold (StaticIs)
/-- a char array whose places are chars -/
def Ch (a : Addr) (A : Cell) (U : State) : Prop := Arr .char a A U ∧ Typed .char A
theorem Ch.mv {a : Addr} {A : Cell} {U U' : State} (h : Ch a A U) (hal : U.vm.Alike U'.vm) (hh : U'.heap = U.heap) : Ch a A U' := ⟨h.1.mv hal hh, h.2⟩
theorem Ch.keep {a : Addr} {A : Cell} {U U' : State} (h : Ch a A U) (hal : U.vm.Alike U'.vm) (hk : U'.heap[a]? = some A) : Ch a A U' := ⟨h.1.keep hal hk, h.2⟩
/-- what place i of a char[]'s cell holds -/
def cv (A : Cell) (i : Nat) : Int32 := match A.slots[i]? with | some (.int x) => x | _ => 0
theorem Ch.get {a : Addr} {A : Cell} {U : State} (h : Ch a A U) {i : Nat} (hi : i < A.slots.size) : A.slots[i]? = some (.int (cv A i)) := by
  have e := Array.getElem?_eq_getElem hi
  have f := h.2 i _ e
  unfold cv; rw [e]
  generalize A.slots[i] = v at f
  cases v <;> simp [fits] at f ⊢
/-- the byte that i2b leaves of a char -/
def lo8 (x : Int32) : Int32 := x.toInt8.toInt32
theorem fits_lo8 (y : Int32) : fits .byte (.int (lo8 y)) = true := by
  have h1 := y.toInt8.le_toInt
  have h2 := y.toInt8.toInt_lt
  simp only [lo8, fits, Bool.and_eq_true, decide_eq_true_eq, Int32.le_iff_toInt_le, Int8.toInt_toInt32, show (-128 : Int32).toInt = -128 from by decide, show (127 : Int32).toInt = 127 from by decide]
  omega
/-- A' is A but that each place j of lo .. hi - 1 holds f j -/
def Laid (A A' : Cell) (lo hi : Nat) (f : Nat → Value) : Prop := A'.cls = A.cls ∧ A'.vm = A.vm ∧ A'.slots.size = A.slots.size ∧ ∀ i, A'.slots[i]? = if lo ≤ i ∧ i < hi then some (f i) else A.slots[i]?
theorem Laid.zero (A : Cell) (lo : Nat) (f : Nat → Value) : Laid A A lo (lo + 0) f := ⟨rfl, rfl, rfl, fun i => by rw [if_neg (by omega)]⟩
theorem Laid.step {A Ak : Cell} {lo k : Nat} {f : Nat → Value} {v : Value} (h : Laid A Ak lo k f) (hlo : lo ≤ k) (hk : k < Ak.slots.size) (hv : v = f k) : Laid A (Ak.setSlot k v) lo (k + 1) f := by
  refine ⟨h.1, h.2.1, by simpa [Cell.setSlot] using h.2.2.1, fun i => ?_⟩
  by_cases e : k = i
  · subst e; rw [Cell.slots_setSlot_self v hk, if_pos (by omega), hv]
  · rw [Cell.slots_setSlot_ne v e, h.2.2.2 i]
    by_cases q : lo ≤ i ∧ i < k
    · rw [if_pos q, if_pos (by omega)]
    · rw [if_neg q, if_neg (by omega)]
def U16 : String := "java/lang/StringUTF16"
namespace Cmp5
def yN : MethodName := ⟨"java/lang/StringUTF16", "compress", "([CI[BII)I"⟩
abbrev yB : ByteArray := jdk_52_method_21_code
theorem d0 : decode yB 0 = .ok (.iconst 0, 1) := by decide +kernel
theorem d1 : decode yB 1 = .ok (.istore 5, 2) := by decide +kernel
theorem d3 : decode yB 3 = .ok (.iload 5, 2) := by decide +kernel
theorem d5 : decode yB 5 = .ok (.iload 4, 2) := by decide +kernel
theorem d7 : decode yB 7 = .ok (.if_icmp (.ge) 37, 3) := by decide +kernel
theorem d10 : decode yB 10 = .ok (.aload_n 0, 1) := by decide +kernel
theorem d11 : decode yB 11 = .ok (.iload_n 1, 1) := by decide +kernel
theorem d12 : decode yB 12 = .ok (.caload, 1) := by decide +kernel
theorem d13 : decode yB 13 = .ok (.istore 6, 2) := by decide +kernel
theorem d15 : decode yB 15 = .ok (.iload 6, 2) := by decide +kernel
theorem d17 : decode yB 17 = .ok (.sipush 255, 3) := by decide +kernel
theorem d20 : decode yB 20 = .ok (.if_icmp (.le) 6, 3) := by decide +kernel
theorem d26 : decode yB 26 = .ok (.aload_n 2, 1) := by decide +kernel
theorem d27 : decode yB 27 = .ok (.iload_n 3, 1) := by decide +kernel
theorem d28 : decode yB 28 = .ok (.iload 6, 2) := by decide +kernel
theorem d30 : decode yB 30 = .ok (.i2b, 1) := by decide +kernel
theorem d31 : decode yB 31 = .ok (.bastore, 1) := by decide +kernel
theorem d32 : decode yB 32 = .ok (.iinc 1 1, 3) := by decide +kernel
theorem d35 : decode yB 35 = .ok (.iinc 3 1, 3) := by decide +kernel
theorem d38 : decode yB 38 = .ok (.iinc 5 1, 3) := by decide +kernel
theorem d41 : decode yB 41 = .ok (.goto (-38), 3) := by decide +kernel
theorem d44 : decode yB 44 = .ok (.iload 4, 2) := by decide +kernel
theorem d46 : decode yB 46 = .ok (.ireturn, 1) := by decide +kernel
def site : List Cond := []
def tab : Cond := tabOf yN yB 7 (some .int) site
def P (b : Addr) (A : Cell) (d : Addr) (B : Cell) (o q len : Nat) (args : Array Value) (s : State) : Prop := args = #[.ref b, .int (Int32.ofNat o), .ref d, .int (Int32.ofNat q), .int (Int32.ofNat len)] ∧ Ch b A s ∧ Arr .byte d B s ∧ b ≠ d ∧ o + len ≤ A.slots.size ∧ q + len ≤ B.slots.size ∧ ∀ i, i < len → ¬ 255 < cv A (o + i)
def E (b : Addr) (A : Cell) (d : Addr) (B : Cell) (o q len : Nat) (r : Option Value) (s u : State) : Prop := r = some (.int (Int32.ofNat len)) ∧ ∃ B', Put d B' s u ∧ Laid B B' q (q + len) (fun j => Value.int (lo8 (cv A (o + (j - q)))))
/-- no char of the range above 255: len; the places written hold each char's low byte -/
theorem law (l : Launch) (b : Addr) (A : Cell) (d : Addr) (B : Cell) (o q len : Nat) : Law l yN 5 5 0 0 yB 7 (some .int) site (P b A d B o q len) (E b A d B o q len) (copyLocs d q len) 0 0 := by
  refine Law.of_walk (plainFor_of_name (by decide +kernel)) (by decide +kernel) (by decide +kernel) (by decide) (fun _ _ h => by rw [h.1]; rfl) (fun _ U U' hal hh h => ⟨h.1, h.2.1.mv hal hh, h.2.2.1.mv hal hh, h.2.2.2⟩) (fun r U U' V V' h1 hal h2 h => ⟨h.1, h.2.elim fun B' q => ⟨B', q.1.mv h1 h2, q.2⟩⟩) ?_
  intro p e s m args below meth c s₁ X0 hexec hbytes hml hret hlk hnm hown hh0 W hP
  obtain ⟨rfl, hA, hB, hne, l1, l2, hp⟩ := hP
  have c1 : Steps p.tables e below (s₁.setTop (entryFrame m #[.ref b, .int (Int32.ofNat o), .ref d, .int (Int32.ofNat q), .int (Int32.ofNat len)] 7)) (s₁.setTop (mkF m 0 #[.val (.ref b), .val (.int (Int32.ofNat o)), .val (.ref d), .val (.int (Int32.ofNat q)), .val (.int (Int32.ofNat len)), .unset, .unset] [])) := entry rfl
  have hA0 := hA.1.mv X0.warmed.alike hh0
  have hB0 := hB.mv X0.warmed.alike hh0
  have a31 := hA.1.2.2.2
  have c2 : Steps p.tables e below (s₁.setTop (entryFrame m #[.ref b, .int (Int32.ofNat o), .ref d, .int (Int32.ofNat q), .int (Int32.ofNat len)] 7)) (s₁.setTop (mkF m 3 #[.val (.ref b), .val (.int (Int32.ofNat o)), .val (.ref d), .val (.int (Int32.ofNat q)), .val (.int (Int32.ofNat len)), .val (.int 0), .unset] [])) := c1.trans (by
    refine iconstV X0.here hexec rfl 0 (hb hbytes d0) (by decide) ?_
    refine XS.istore X0.here hexec rfl (hb hbytes d1) rfl rfl ?_
    exact Steps.refl _)
  have loop : ∀ (r i : Nat), i + r = len → ∀ (z : Slot), (z = .unset ∨ ∃ w, z = .val w ∧ w.category = 1) → ∀ (Tl : State) (Bk : Cell), Stand p l e { frames := 0, locals := 0, cells := 0, slots := 0 } s m #[.ref b, .int (Int32.ofNat o), .ref d, .int (Int32.ofNat q), .int (Int32.ofNat len)] below meth c Tl ([] ++ copyLocs d q i) 0 0 → Put d Bk s₁ Tl → Laid B Bk q (q + i) (fun j => Value.int (lo8 (cv A (o + (j - q))))) →
      Steps p.tables e below (s₁.setTop (entryFrame m #[.ref b, .int (Int32.ofNat o), .ref d, .int (Int32.ofNat q), .int (Int32.ofNat len)] 7)) (Tl.setTop (mkF m 3 #[.val (.ref b), .val (.int (Int32.ofNat (o + i))), .val (.ref d), .val (.int (Int32.ofNat (q + i))), .val (.int (Int32.ofNat len)), .val (.int (Int32.ofNat i)), z] [])) → ∃ (T' : State) (B' : Cell) (z' : Slot), Stand p l e { frames := 0, locals := 0, cells := 0, slots := 0 } s m #[.ref b, .int (Int32.ofNat o), .ref d, .int (Int32.ofNat q), .int (Int32.ofNat len)] below meth c T' ([] ++ copyLocs d q len) 0 0 ∧ Put d B' s₁ T' ∧ Laid B B' q (q + len) (fun j => Value.int (lo8 (cv A (o + (j - q))))) ∧
      Steps p.tables e below (s₁.setTop (entryFrame m #[.ref b, .int (Int32.ofNat o), .ref d, .int (Int32.ofNat q), .int (Int32.ofNat len)] 7)) (T'.setTop (mkF m 3 #[.val (.ref b), .val (.int (Int32.ofNat (o + len))), .val (.ref d), .val (.int (Int32.ofNat (q + len))), .val (.int (Int32.ofNat len)), .val (.int (Int32.ofNat len)), z'] [])) := by
    intro r
    induction r with
    | zero =>
      intro i hi z hz Tl Bk Xl pl fl cl
      have hil : i = len := by omega
      rw [hil] at Xl fl cl
      exact ⟨Tl, Bk, z, Xl, pl, fl, cl⟩
    | succ r ih =>
      intro i hi z hz Tl Bk Xl pl fl cl
      have all := X0.warmed.alike.symm.trans Xl.warmed.alike
      have hAl := hA0.keep all (pl.other hne hA0.1)
      have hBk := hB0.like all pl.1 fl.1 fl.2.1 fl.2.2.1
      have hlt : q + i < Bk.slots.size := by rw [fl.2.2.1]; omega
      have c3 : Steps p.tables e below (s₁.setTop (entryFrame m #[.ref b, .int (Int32.ofNat o), .ref d, .int (Int32.ofNat q), .int (Int32.ofNat len)] 7)) (Tl.setTop (mkF m 12 #[.val (.ref b), .val (.int (Int32.ofNat (o + i))), .val (.ref d), .val (.int (Int32.ofNat (q + i))), .val (.int (Int32.ofNat len)), .val (.int (Int32.ofNat i)), z] [.int (Int32.ofNat (o + i)), .ref b])) := cl.trans (by
        refine XS.iload Xl.here hexec rfl (hb hbytes d3) rfl ?_
        refine XS.iload Xl.here hexec rfl (hb hbytes d5) rfl ?_
        refine XS.icmpNo Xl.here hexec rfl (hb hbytes d7) rfl (ii_ge_f (lt32 (by omega) (by omega))) ?_
        refine XS.aloadN Xl.here hexec rfl (hb hbytes d10) rfl rfl ?_
        refine XS.iloadN Xl.here hexec rfl (hb hbytes d11) rfl ?_
        exact Steps.refl _)
      have c4 : Steps p.tables e below (s₁.setTop (entryFrame m #[.ref b, .int (Int32.ofNat o), .ref d, .int (Int32.ofNat q), .int (Int32.ofNat len)] 7)) (Tl.setTop (mkF m 13 #[.val (.ref b), .val (.int (Int32.ofNat (o + i))), .val (.ref d), .val (.int (Int32.ofNat (q + i))), .val (.int (Int32.ofNat len)), .val (.int (Int32.ofNat i)), z] [.int (cv A (o + i))])) := c3.trans (by
        refine Xl.aget hexec hAl rfl (hA.get (i := o + i) (by omega)) rfl rfl (hb hbytes d12) ?_
        exact Steps.refl _)
      have c5 : Steps p.tables e below (s₁.setTop (entryFrame m #[.ref b, .int (Int32.ofNat o), .ref d, .int (Int32.ofNat q), .int (Int32.ofNat len)] 7)) (Tl.setTop (mkF m 15 #[.val (.ref b), .val (.int (Int32.ofNat (o + i))), .val (.ref d), .val (.int (Int32.ofNat (q + i))), .val (.int (Int32.ofNat len)), .val (.int (Int32.ofNat i)), .val (.int (cv A (o + i)))] [])) := c4.trans (by
        refine XS.istoreS Xl.here hexec rfl (hb hbytes d13) rfl rfl hz ?_
        exact Steps.refl _)
      have c6 : Steps p.tables e below (s₁.setTop (entryFrame m #[.ref b, .int (Int32.ofNat o), .ref d, .int (Int32.ofNat q), .int (Int32.ofNat len)] 7)) (Tl.setTop (mkF m 31 #[.val (.ref b), .val (.int (Int32.ofNat (o + i))), .val (.ref d), .val (.int (Int32.ofNat (q + i))), .val (.int (Int32.ofNat len)), .val (.int (Int32.ofNat i)), .val (.int (cv A (o + i)))] [.int (lo8 (cv A (o + i))), .int (Int32.ofNat (q + i)), .ref d])) := c5.trans (by
        refine XS.iload Xl.here hexec rfl (hb hbytes d15) rfl ?_
        refine sipushV Xl.here hexec rfl 255 (hb hbytes d17) (by decide) ?_
        refine XS.icmpYes Xl.here hexec rfl (pc0 := 20) rfl (hb hbytes d20) rfl (ii_le_t (hp i (by omega))) (by decide) rfl ?_
        refine XS.aloadN Xl.here hexec rfl (hb hbytes d26) rfl rfl ?_
        refine XS.iloadN Xl.here hexec rfl (hb hbytes d27) rfl ?_
        refine XS.iload Xl.here hexec rfl (hb hbytes d28) rfl ?_
        refine i2b Xl.here hexec rfl (hb hbytes d30) rfl ?_
        exact Steps.refl _)
      obtain ⟨T7, X7, p7, st7⟩ := Xl.aput hexec hBk rfl hlt rfl (fits_lo8 (cv A (o + i))) (g := (mkF m 31 #[.val (.ref b), .val (.int (Int32.ofNat (o + i))), .val (.ref d), .val (.int (Int32.ofNat (q + i))), .val (.int (Int32.ofNat len)), .val (.int (Int32.ofNat i)), .val (.int (cv A (o + i)))] [.int (lo8 (cv A (o + i))), .int (Int32.ofNat (q + i)), .ref d])) rfl (rest := []) rfl (hb hbytes d31)
      have c8 : Steps p.tables e below (s₁.setTop (entryFrame m #[.ref b, .int (Int32.ofNat o), .ref d, .int (Int32.ofNat q), .int (Int32.ofNat len)] 7)) (T7.setTop (mkF m 32 #[.val (.ref b), .val (.int (Int32.ofNat (o + i))), .val (.ref d), .val (.int (Int32.ofNat (q + i))), .val (.int (Int32.ofNat len)), .val (.int (Int32.ofNat i)), .val (.int (cv A (o + i)))] [])) := c6.trans (st7 _ (Steps.refl _))
      have c9 : Steps p.tables e below (s₁.setTop (entryFrame m #[.ref b, .int (Int32.ofNat o), .ref d, .int (Int32.ofNat q), .int (Int32.ofNat len)] 7)) (T7.setTop (mkF m 3 #[.val (.ref b), .val (.int (Int32.ofNat (o + i) + 1)), .val (.ref d), .val (.int (Int32.ofNat (q + i) + 1)), .val (.int (Int32.ofNat len)), .val (.int (Int32.ofNat i + 1)), .val (.int (cv A (o + i)))] [])) := c8.trans (by
        refine iincV X7.here hexec rfl 1 (hb hbytes d32) (by decide) rfl rfl ?_
        refine iincV X7.here hexec rfl 1 (hb hbytes d35) (by decide) rfl rfl ?_
        refine iincV X7.here hexec rfl 1 (hb hbytes d38) (by decide) rfl rfl ?_
        refine XS.goto X7.here hexec rfl (pc0 := 41) rfl (hb hbytes d41) (by decide) rfl ?_
        exact Steps.refl _)
      have c10 : Steps p.tables e below (s₁.setTop (entryFrame m #[.ref b, .int (Int32.ofNat o), .ref d, .int (Int32.ofNat q), .int (Int32.ofNat len)] 7)) (T7.setTop (mkF m 3 #[.val (.ref b), .val (.int (Int32.ofNat (o + (i + 1)))), .val (.ref d), .val (.int (Int32.ofNat (q + (i + 1)))), .val (.int (Int32.ofNat len)), .val (.int (Int32.ofNat (i + 1))), .val (.int (cv A (o + i)))] [])) := by
        have := c9
        rw [succ32, succ32, succ32] at this
        exact this
      exact ih (i + 1) (by omega) _ (Or.inr ⟨_, rfl, rfl⟩) T7 _ (by rw [copyLocs_step, ← List.append_assoc]; exact X7) (pl.trans p7) (fl.step (by omega) hlt (by simp)) c10
  obtain ⟨T9, B9, z9, X9, p9, f9, g9⟩ := loop len 0 (by omega) .unset (Or.inl rfl) s₁ B (by simpa [copyLocs] using X0) ⟨hB0.1, fun _ _ => rfl, rfl⟩ (Laid.zero _ _ _) c2
  have c11 : Steps p.tables e below (s₁.setTop (entryFrame m #[.ref b, .int (Int32.ofNat o), .ref d, .int (Int32.ofNat q), .int (Int32.ofNat len)] 7)) (T9.setTop (mkF m 46 #[.val (.ref b), .val (.int (Int32.ofNat (o + len))), .val (.ref d), .val (.int (Int32.ofNat (q + len))), .val (.int (Int32.ofNat len)), .val (.int (Int32.ofNat len)), z9] [.int (Int32.ofNat len)])) := g9.trans (by
    refine XS.iload X9.here hexec rfl (hb hbytes d3) rfl ?_
    refine XS.iload X9.here hexec rfl (hb hbytes d5) rfl ?_
    refine XS.icmpYes X9.here hexec rfl (pc0 := 7) rfl (hb hbytes d7) rfl (ii_ge_t (nlt32 (by omega) (Nat.le_refl _))) (by decide) rfl ?_
    refine XS.iload X9.here hexec rfl (hb hbytes d44) rfl ?_
    exact Steps.refl _)
  exact ⟨T9, some (.int (Int32.ofNat len)), _, _, _, X9, by simp, rfl, rfl, (fun h => by cases h), ⟨rfl, B9, p9.from hh0, f9⟩, fun fs hl => c11.trans (X9.ireturnOut hexec hret rfl (Or.inl rfl) (hb hbytes d46) hl)⟩
end Cmp5
namespace Cmp3
def yN : MethodName := ⟨"java/lang/StringUTF16", "compress", "([CII)[B"⟩
abbrev yB : ByteArray := jdk_52_method_16_code
theorem d0 : decode yB 0 = .ok (.iload_n 2, 1) := by decide +kernel
theorem d1 : decode yB 1 = .ok (.newarray .byte, 2) := by decide +kernel
theorem d3 : decode yB 3 = .ok (.astore_n 3, 1) := by decide +kernel
theorem d4 : decode yB 4 = .ok (.aload_n 0, 1) := by decide +kernel
theorem d5 : decode yB 5 = .ok (.iload_n 1, 1) := by decide +kernel
theorem d6 : decode yB 6 = .ok (.aload_n 3, 1) := by decide +kernel
theorem d7 : decode yB 7 = .ok (.iconst 0, 1) := by decide +kernel
theorem d8 : decode yB 8 = .ok (.iload_n 2, 1) := by decide +kernel
theorem d9 : decode yB 9 = .ok (.invokestatic 115, 3) := by decide +kernel
theorem d12 : decode yB 12 = .ok (.istore 4, 2) := by decide +kernel
theorem d14 : decode yB 14 = .ok (.iload 4, 2) := by decide +kernel
theorem d16 : decode yB 16 = .ok (.iload_n 2, 1) := by decide +kernel
theorem d17 : decode yB 17 = .ok (.if_icmp (.eq) 40, 3) := by decide +kernel
theorem d57 : decode yB 57 = .ok (.aload_n 3, 1) := by decide +kernel
theorem d58 : decode yB 58 = .ok (.areturn, 1) := by decide +kernel
def site : List Cond := [.arrayClass .byte, Cmp5.tab] ++ staticW U16 115 Cmp5.yN
def tab : Cond := tabOf yN yB 6 (some (.array .byte)) site
def P (b : Addr) (A : Cell) (o len : Nat) (args : Array Value) (s : State) : Prop := args = #[.ref b, .int (Int32.ofNat o), .int (Int32.ofNat len)] ∧ Ch b A s ∧ o + len ≤ A.slots.size ∧ len ≤ 536870912 ∧ ∀ i, i < len → ¬ 255 < cv A (o + i)
def E (b : Addr) (A : Cell) (o len : Nat) (r : Option Value) (s u : State) : Prop := NewArr .byte "[B" len (fun j => .int (lo8 (cv A (o + j)))) r s u ∧ u.heap.size = s.heap.size + 1
/-- no char of the range above 255: a new byte[] of their low bytes -/
theorem law (l : Launch) (b : Addr) (A : Cell) (o len : Nat) : Law l yN 3 3 1 18 yB 6 (some (.array .byte)) site (P b A o len) (E b A o len) [] 1 len := by
  refine Law.of_walk (plainFor_of_name (by decide +kernel)) (by decide +kernel) (by decide +kernel) (by decide) (fun _ _ h => by rw [h.1]; rfl) (fun _ U U' hal hh h => ⟨h.1, h.2.1.mv hal hh, h.2.2⟩) (fun r U U' V V' h1 hal h2 h => ⟨NewArr.mv r U U' V V' h1 hal h2 h.1, by rw [h1, h2]; exact h.2⟩) ?_
  intro p e s m args below meth c s₁ X0 hexec hbytes hml hret hlk hnm hown hh0 W hP
  obtain ⟨rfl, hA, l1, l2, hp⟩ := hP
  have a31 := hA.1.2.2.2
  have c1 : Steps p.tables e below (s₁.setTop (entryFrame m #[.ref b, .int (Int32.ofNat o), .int (Int32.ofNat len)] 6)) (s₁.setTop (mkF m 0 #[.val (.ref b), .val (.int (Int32.ofNat o)), .val (.int (Int32.ofNat len)), .unset, .unset, .unset] [])) := entry rfl
  have c2 : Steps p.tables e below (s₁.setTop (entryFrame m #[.ref b, .int (Int32.ofNat o), .int (Int32.ofNat len)] 6)) (s₁.setTop (mkF m 1 #[.val (.ref b), .val (.int (Int32.ofNat o)), .val (.int (Int32.ofNat len)), .unset, .unset, .unset] [.int (Int32.ofNat len)])) := c1.trans (by
    refine XS.iloadN X0.here hexec rfl (hb hbytes d0) rfl ?_
    exact Steps.refl _)
  obtain ⟨T3, B3, X3, ba3, bs3, bv3, bh3, bf3, st3⟩ := X0.anew hexec (atype := .byte) (wk W (.arrayClass .byte)) rfl (by show len * 1 ≤ _; omega) (by omega) (g := (mkF m 1 #[.val (.ref b), .val (.int (Int32.ofNat o)), .val (.int (Int32.ofNat len)), .unset, .unset, .unset] [.int (Int32.ofNat len)])) rfl (hb hbytes d1) (rest := []) rfl (Nat.le_refl _) (by show 0 + len ≤ len; omega)
  rw [hh0] at ba3 st3
  have kp3 : XT.Kept s T3 := (XT.Kept.of_eq hh0).push bh3
  have hA3 := hA.keep X3.warmed.alike (kp3 _ _ hA.1.1)
  have hne : b ≠ s.heap.size := hA.1.ne
  have c4 : Steps p.tables e below (s₁.setTop (entryFrame m #[.ref b, .int (Int32.ofNat o), .int (Int32.ofNat len)] 6)) (T3.setTop (mkF m 3 #[.val (.ref b), .val (.int (Int32.ofNat o)), .val (.int (Int32.ofNat len)), .unset, .unset, .unset] [.ref s.heap.size])) := c2.trans (st3 _ (Steps.refl _))
  have c5 : Steps p.tables e below (s₁.setTop (entryFrame m #[.ref b, .int (Int32.ofNat o), .int (Int32.ofNat len)] 6)) (T3.setTop (mkF m 9 #[.val (.ref b), .val (.int (Int32.ofNat o)), .val (.int (Int32.ofNat len)), .val (.ref s.heap.size), .unset, .unset] [.int (Int32.ofNat len), .int 0, .ref s.heap.size, .int (Int32.ofNat o), .ref b])) := c4.trans (by
    refine XS.astoreN X3.here hexec rfl (hb hbytes d3) rfl rfl rfl ?_
    refine XS.aloadN X3.here hexec rfl (hb hbytes d4) rfl rfl ?_
    refine XS.iloadN X3.here hexec rfl (hb hbytes d5) rfl ?_
    refine XS.aloadN X3.here hexec rfl (hb hbytes d6) rfl rfl ?_
    refine iconstV X3.here hexec rfl 0 (hb hbytes d7) (by decide) ?_
    refine XS.iloadN X3.here hexec rfl (hb hbytes d8) rfl ?_
    exact Steps.refl _)
  obtain ⟨v6, T6, X6, E6, g6⟩ := X3.callS hexec (Cmp5.law l b A s.heap.size B3 o 0 len) hown (wks W (staticW U16 115 Cmp5.yN)) (wk W Cmp5.tab) (W := 0) (Nat.le_of_ble_eq_true rfl) (Nat.le_of_ble_eq_true rfl) (Nat.le_refl _) (by show 0 + len + 0 ≤ len; omega) (g := (mkF m 9 #[.val (.ref b), .val (.int (Int32.ofNat o)), .val (.int (Int32.ofNat len)), .val (.ref s.heap.size), .unset, .unset] [.int (Int32.ofNat len), .int (Int32.ofNat 0), .ref s.heap.size, .int (Int32.ofNat o), .ref b])) rfl (by rw [hml]; rfl) c5 (argsL := [.ref b, .int (Int32.ofNat o), .ref s.heap.size, .int (Int32.ofNat 0), .int (Int32.ofNat len)]) (rest := []) rfl rfl (by show 2 * 0 + 0 ≤ _; decide) (hb hbytes d9) (⟨rfl, hA3, ba3, hne, l1, by rw [bs3]; simp, hp⟩)
  obtain ⟨rfl, B6, p6, f6⟩ := E6
  have c7 : Steps p.tables e below (s₁.setTop (entryFrame m #[.ref b, .int (Int32.ofNat o), .int (Int32.ofNat len)] 6)) (T6.setTop (mkF m 12 #[.val (.ref b), .val (.int (Int32.ofNat o)), .val (.int (Int32.ofNat len)), .val (.ref s.heap.size), .unset, .unset] [.int (Int32.ofNat len)])) := g6
  have c8 : Steps p.tables e below (s₁.setTop (entryFrame m #[.ref b, .int (Int32.ofNat o), .int (Int32.ofNat len)] 6)) (T6.setTop (mkF m 58 #[.val (.ref b), .val (.int (Int32.ofNat o)), .val (.int (Int32.ofNat len)), .val (.ref s.heap.size), .val (.int (Int32.ofNat len)), .unset] [.ref s.heap.size])) := c7.trans (by
    refine XS.istore X6.here hexec rfl (hb hbytes d12) rfl rfl ?_
    refine XS.iload X6.here hexec rfl (hb hbytes d14) rfl ?_
    refine XS.iloadN X6.here hexec rfl (hb hbytes d16) rfl ?_
    refine XS.icmpYes X6.here hexec rfl (pc0 := 17) rfl (hb hbytes d17) rfl (ii_eq_t rfl) (by decide) rfl ?_
    refine XS.aloadN X6.here hexec rfl (hb hbytes d57) rfl rfl ?_
    exact Steps.refl _)
  have X8 := X6.wide (L' := []) (cells' := 1) (slots' := len) (fun x hx hlt => by
    simp only [List.nil_append, copyLocs, List.mem_map, List.mem_range] at hx
    obtain ⟨i, -, rfl⟩ := hx
    exact absurd hlt (Nat.lt_irrefl _)) (Nat.le_refl _) (by omega)
  exact ⟨T6, some (.ref s.heap.size), _, _, _, X8, rfl, rfl, rfl, (fun h => by cases h), ⟨⟨rfl, B6, ba3.like (X3.warmed.alike.symm.trans X6.warmed.alike) p6.1 f6.1 f6.2.1 f6.2.2.1, f6.2.1.trans bv3, by rw [X6.warmed.alike.findClass, f6.1]; exact bf3, by rw [f6.2.2.1, bs3]; simp, fun j hj => by rw [f6.2.2.2 j, if_pos (by omega)]; rfl, kp3.put p6 (Nat.le_refl _)⟩, by rw [p6.2.2, bh3, hh0]; simp⟩, fun fs hl => c8.trans (X8.areturnOut hexec rfl hret rfl (hb hbytes d58) hl)⟩
end Cmp3
namespace CodL
def yN : MethodName := ⟨"java/lang/StringUTF16", "coderFromArrayLen", "([BI)B"⟩
abbrev yB : ByteArray := jdk_52_method_15_code
theorem d0 : decode yB 0 = .ok (.iload_n 1, 1) := by decide +kernel
theorem d1 : decode yB 1 = .ok (.aload_n 0, 1) := by decide +kernel
theorem d2 : decode yB 2 = .ok (.arraylength, 1) := by decide +kernel
theorem d3 : decode yB 3 = .ok (.isub, 1) := by decide +kernel
theorem d4 : decode yB 4 = .ok (.bipush 31, 2) := by decide +kernel
theorem d6 : decode yB 6 = .ok (.iushr, 1) := by decide +kernel
theorem d7 : decode yB 7 = .ok (.i2b, 1) := by decide +kernel
theorem d8 : decode yB 8 = .ok (.ireturn, 1) := by decide +kernel
def site : List Cond := []
def tab : Cond := tabOf yN yB 2 (some .byte) site
def P (d : Addr) (B : Cell) (args : Array Value) (s : State) : Prop := args = #[.ref d, .int (Int32.ofNat B.slots.size)] ∧ Arr .byte d B s
def E (r : Option Value) (s u : State) : Prop := XT.PureE (some (.int 0)) r s u
/-- an array as long as the number of chars: LATIN1 -/
theorem law (l : Launch) (d : Addr) (B : Cell) : Law l yN 2 2 0 0 yB 2 (some .byte) site (P d B) E [] 0 0 := by
  refine Law.of_walk (plainFor_of_name (by decide +kernel)) (by decide +kernel) (by decide +kernel) (by decide) (fun _ _ h => by rw [h.1]; rfl) (fun _ U U' hal hh h => ⟨h.1, h.2.mv hal hh⟩) (fun r U U' V V' h1 hal h2 h => XT.PureE.mv r U U' V V' h1 hal h2 h) ?_
  intro p e s m args below meth c s₁ X0 hexec hbytes hml hret hlk hnm hown hh0 W hP
  obtain ⟨rfl, hB⟩ := hP
  have hB0 := hB.mv X0.warmed.alike hh0
  have c1 : Steps p.tables e below (s₁.setTop (entryFrame m #[.ref d, .int (Int32.ofNat B.slots.size)] 2)) (s₁.setTop (mkF m 0 #[.val (.ref d), .val (.int (Int32.ofNat B.slots.size))] [])) := entry rfl
  have c2 : Steps p.tables e below (s₁.setTop (entryFrame m #[.ref d, .int (Int32.ofNat B.slots.size)] 2)) (s₁.setTop (mkF m 2 #[.val (.ref d), .val (.int (Int32.ofNat B.slots.size))] [.ref d, .int (Int32.ofNat B.slots.size)])) := c1.trans (by
    refine XS.iloadN X0.here hexec rfl (hb hbytes d0) rfl ?_
    refine XS.aloadN X0.here hexec rfl (hb hbytes d1) rfl rfl ?_
    exact Steps.refl _)
  have c3 : Steps p.tables e below (s₁.setTop (entryFrame m #[.ref d, .int (Int32.ofNat B.slots.size)] 2)) (s₁.setTop (mkF m 8 #[.val (.ref d), .val (.int (Int32.ofNat B.slots.size))] [.int (lo8 (ushr (Int32.ofNat B.slots.size - Int32.ofNat B.slots.size) 31))])) := c2.trans (by
    refine X0.alen hexec hB0 rfl rfl (hb hbytes d2) ?_
    refine XS.isub X0.here hexec rfl (hb hbytes d3) rfl ?_
    refine bipushV X0.here hexec rfl 31 (hb hbytes d4) (by decide) ?_
    refine iushr X0.here hexec rfl (hb hbytes d6) rfl ?_
    refine i2b X0.here hexec rfl (hb hbytes d7) rfl ?_
    exact Steps.refl _)
  have e0 : lo8 (ushr (Int32.ofNat B.slots.size - Int32.ofNat B.slots.size) 31) = 0 := by rw [Int32.sub_self]; decide
  rw [e0] at c3
  exact ⟨s₁, some (.int 0), _, _, _, X0, rfl, rfl, rfl, (fun h => by cases h), ⟨rfl, hh0⟩, fun fs hl => c3.trans (X0.ireturnOut hexec hret rfl (Or.inr (Or.inr (Or.inl rfl))) (hb hbytes d8) hl)⟩
end CodL
/-- the String at a is Latin-1 over a new byte[] (the heap's one new cell): the low bytes of the len chars of A from o on; every cell but a is kept -/
def Got (a : Addr) (D : Cell) (fV fC : Field) (A : Cell) (o len : Nat) (r : Option Value) (s u : State) : Prop := r = none ∧ ∃ D' V : Cell, Blank "java/lang/String" a D' u ∧ Same D D' [fV.slot, fC.slot] ∧ D'.slots[fV.slot]? = some (.ref s.heap.size) ∧ D'.slots[fC.slot]? = some (.int 0) ∧ Arr .byte s.heap.size V u ∧ V.vm = .none ∧ u.vm.findClass "[B" = some V.cls ∧ V.slots.size = len ∧ (∀ j, j < len → V.slots[j]? = some (.int (lo8 (cv A (o + j))))) ∧ (∀ (y : Addr) (c : Cell), y ≠ a → s.heap[y]? = some c → u.heap[y]? = some c) ∧ u.heap.size = s.heap.size + 1
theorem Got.mv {a : Addr} {D A : Cell} {fV fC : Field} {o len : Nat} : ∀ r (U U' V V' : State), U'.heap = U.heap → V.vm.Alike V'.vm → V'.heap = V.heap → Got a D fV fC A o len r U V → Got a D fV fC A o len r U' V' :=
  fun r U U' V V' h1 hal h2 ⟨e0, D', X, a1, a2, a3, a4, a5, a6, a7, a8, a9, a10, a11⟩ => ⟨e0, D', X, a1.mv hal h2, a2, by rw [h1]; exact a3, a4, by rw [h1]; exact a5.mv hal h2, a6, by rw [hal.findClass]; exact a7, a8, a9, by rw [h1, h2]; exact a10, by rw [h1, h2]; exact a11⟩
namespace New4
def yN : MethodName := ⟨"java/lang/String", "<init>", "([CIILjava/lang/Void;)V"⟩
abbrev yB : ByteArray := jdk_42_method_149_code
theorem d0 : decode yB 0 = .ok (.aload_n 0, 1) := by decide +kernel
theorem d1 : decode yB 1 = .ok (.invokespecial 1, 3) := by decide +kernel
theorem d4 : decode yB 4 = .ok (.iload_n 3, 1) := by decide +kernel
theorem d5 : decode yB 5 = .ok (.ifCond (.ne) 22, 3) := by decide +kernel
theorem d27 : decode yB 27 = .ok (.getstatic 38, 3) := by decide +kernel
theorem d30 : decode yB 30 = .ok (.ifCond (.eq) 28, 3) := by decide +kernel
theorem d33 : decode yB 33 = .ok (.aload_n 1, 1) := by decide +kernel
theorem d34 : decode yB 34 = .ok (.iload_n 2, 1) := by decide +kernel
theorem d35 : decode yB 35 = .ok (.iload_n 3, 1) := by decide +kernel
theorem d36 : decode yB 36 = .ok (.invokestatic 177, 3) := by decide +kernel
theorem d39 : decode yB 39 = .ok (.astore 5, 2) := by decide +kernel
theorem d41 : decode yB 41 = .ok (.aload_n 0, 1) := by decide +kernel
theorem d42 : decode yB 42 = .ok (.aload 5, 2) := by decide +kernel
theorem d44 : decode yB 44 = .ok (.iload_n 3, 1) := by decide +kernel
theorem d45 : decode yB 45 = .ok (.invokestatic 47, 3) := by decide +kernel
theorem d48 : decode yB 48 = .ok (.putfield 15, 3) := by decide +kernel
theorem d51 : decode yB 51 = .ok (.aload_n 0, 1) := by decide +kernel
theorem d52 : decode yB 52 = .ok (.aload 5, 2) := by decide +kernel
theorem d54 : decode yB 54 = .ok (.putfield 9, 3) := by decide +kernel
theorem d57 : decode yB 57 = .ok (.return_, 1) := by decide +kernel
def site : List Cond := [.fieldLink "java/lang/String" 38 "java/lang/String" "COMPACT_STRINGS" "Z", Cmp3.tab, CodL.tab, .laysFinal "java/lang/String" "java/lang/String" "value" "[B", .fieldLink "java/lang/String" 9 "java/lang/String" "value" "[B", .laysFinal "java/lang/String" "java/lang/String" "coder" "B", .fieldLink "java/lang/String" 15 "java/lang/String" "coder" "B"] ++ objW "java/lang/String" 1 ++ staticW "java/lang/String" 177 Cmp3.yN ++ staticW "java/lang/String" 47 CodL.yN
def tab : Cond := tabOf yN yB 6 none site
def P (a : Addr) (D : Cell) (fV fC : Field) (b : Addr) (A : Cell) (z : Int32) (o len : Nat) (args : Array Value) (s : State) : Prop := args = #[.ref a, .ref b, .int (Int32.ofNat o), .int (Int32.ofNat len), .null] ∧ Blank "java/lang/String" a D s ∧ Found "java/lang/String" "value" "[B" fV s ∧ Found "java/lang/String" "coder" "B" fC s ∧ Ch b A s ∧ StaticIs s "java/lang/String" "COMPACT_STRINGS" "Z" (.int z) ∧ ¬ z = 0 ∧ 0 < len ∧ o + len ≤ A.slots.size ∧ len ≤ 536870912 ∧ ∀ i, i < len → ¬ 255 < cv A (o + i)
def E (a : Addr) (D : Cell) (fV fC : Field) (A : Cell) (o len : Nat) (r : Option Value) (s u : State) : Prop := Got a D fV fC A o len r s u
/-- len > 0, no char of the range above 255: a Latin-1 String of their low bytes -/
theorem law (l : Launch) (a : Addr) (D : Cell) (fV fC : Field) (b : Addr) (A : Cell) (z : Int32) (o len : Nat) : Law l yN 5 4 2 35 yB 6 none site (P a D fV fC b A z o len) (E a D fV fC A o len) [⟨a, fC.slot⟩, ⟨a, fV.slot⟩] 1 len := by
  refine Law.of_walk (plainFor_of_name (by decide +kernel)) (by decide +kernel) (by decide +kernel) (by decide) (fun _ _ h => by rw [h.1]; rfl) (fun _ U U' hal hh h => ⟨h.1, h.2.1.mv hal hh, h.2.2.1.al hal, h.2.2.2.1.al hal, h.2.2.2.2.1.mv hal hh, h.2.2.2.2.2.1.there hal hh, h.2.2.2.2.2.2⟩) (fun r U U' V V' h1 hal h2 h => Got.mv r U U' V V' h1 hal h2 h) ?_
  intro p e s m args below meth c s₁ X0 hexec hbytes hml hret hlk hnm hown hh0 W hP
  obtain ⟨rfl, hB, f1, f2, hA, s1, hz, l0, l1, l2, hp⟩ := hP
  have a31 := hA.1.2.2.2
  have c1 : Steps p.tables e below (s₁.setTop (entryFrame m #[.ref a, .ref b, .int (Int32.ofNat o), .int (Int32.ofNat len), .null] 6)) (s₁.setTop (mkF m 0 #[.val (.ref a), .val (.ref b), .val (.int (Int32.ofNat o)), .val (.int (Int32.ofNat len)), .val .null, .unset] [])) := entry rfl
  have c2 : Steps p.tables e below (s₁.setTop (entryFrame m #[.ref a, .ref b, .int (Int32.ofNat o), .int (Int32.ofNat len), .null] 6)) (s₁.setTop (mkF m 1 #[.val (.ref a), .val (.ref b), .val (.int (Int32.ofNat o)), .val (.int (Int32.ofNat len)), .val .null, .unset] [.ref a])) := c1.trans (by
    refine XS.aloadN X0.here hexec rfl (hb hbytes d0) rfl rfl ?_
    exact Steps.refl _)
  obtain ⟨T3, X3, q3, st3⟩ := X0.oinit hexec hown (wks W (objW "java/lang/String" 1)) (g := (mkF m 1 #[.val (.ref a), .val (.ref b), .val (.int (Int32.ofNat o)), .val (.int (Int32.ofNat len)), .val .null, .unset] [.ref a])) rfl (by rw [hml]; rfl) (rest := []) rfl (hb hbytes d1) (W := 0) (by show 2 * 0 + 0 ≤ _; decide) (Nat.le_of_ble_eq_true rfl) (Nat.le_of_ble_eq_true rfl)
  have hh3 := q3.trans hh0
  have c4 : Steps p.tables e below (s₁.setTop (entryFrame m #[.ref a, .ref b, .int (Int32.ofNat o), .int (Int32.ofNat len), .null] 6)) (T3.setTop (mkF m 27 #[.val (.ref a), .val (.ref b), .val (.int (Int32.ofNat o)), .val (.int (Int32.ofNat len)), .val .null, .unset] [])) := (c2.trans (st3 _ (Steps.refl _))).trans (by
    refine XS.iloadN X3.here hexec rfl (hb hbytes d4) rfl ?_
    refine XS.ifYes X3.here hexec rfl (pc0 := 5) rfl (hb hbytes d5) rfl (i0_ne_t (nz32 (by omega) l0)) (by decide) rfl ?_
    exact Steps.refl _)
  obtain ⟨T5, X5, q5, st5⟩ := X3.sget hexec hown (wk W (.fieldLink "java/lang/String" 38 "java/lang/String" "COMPACT_STRINGS" "Z")) s1 (fun _ _ h => by rw [hh3]; exact h) (g := (mkF m 27 #[.val (.ref a), .val (.ref b), .val (.int (Int32.ofNat o)), .val (.int (Int32.ofNat len)), .val .null, .unset] [])) rfl (hb hbytes d27)
  have hh5 := q5.trans hh3
  have c6 : Steps p.tables e below (s₁.setTop (entryFrame m #[.ref a, .ref b, .int (Int32.ofNat o), .int (Int32.ofNat len), .null] 6)) (T5.setTop (mkF m 30 #[.val (.ref a), .val (.ref b), .val (.int (Int32.ofNat o)), .val (.int (Int32.ofNat len)), .val .null, .unset] [.int z])) := c4.trans (st5 _ (Steps.refl _))
  have c7 : Steps p.tables e below (s₁.setTop (entryFrame m #[.ref a, .ref b, .int (Int32.ofNat o), .int (Int32.ofNat len), .null] 6)) (T5.setTop (mkF m 36 #[.val (.ref a), .val (.ref b), .val (.int (Int32.ofNat o)), .val (.int (Int32.ofNat len)), .val .null, .unset] [.int (Int32.ofNat len), .int (Int32.ofNat o), .ref b])) := c6.trans (by
    refine XS.ifNo X5.here hexec rfl (hb hbytes d30) rfl (i0_eq_f hz) ?_
    refine XS.aloadN X5.here hexec rfl (hb hbytes d33) rfl rfl ?_
    refine XS.iloadN X5.here hexec rfl (hb hbytes d34) rfl ?_
    refine XS.iloadN X5.here hexec rfl (hb hbytes d35) rfl ?_
    exact Steps.refl _)
  obtain ⟨v8, T8, X8, E8, g8⟩ := X5.callS hexec (Cmp3.law l b A o len) hown (wks W (staticW "java/lang/String" 177 Cmp3.yN)) (wk W Cmp3.tab) (W := 0) (Nat.le_of_ble_eq_true rfl) (Nat.le_of_ble_eq_true rfl) (Nat.le_refl _) (by show 0 + len ≤ len; omega) (g := (mkF m 36 #[.val (.ref a), .val (.ref b), .val (.int (Int32.ofNat o)), .val (.int (Int32.ofNat len)), .val .null, .unset] [.int (Int32.ofNat len), .int (Int32.ofNat o), .ref b])) rfl (by rw [hml]; rfl) c7 (argsL := [.ref b, .int (Int32.ofNat o), .int (Int32.ofNat len)]) (rest := []) rfl rfl (by show 2 * 0 + 0 ≤ _; decide) (hb hbytes d36) (⟨rfl, hA.mv X5.warmed.alike hh5, l1, l2, hp⟩)
  obtain ⟨e8, z8⟩ := E8
  obtain ⟨rfl, N, n1, n2, n3, n4, n5, n6⟩ := NewArr.mv _ T5 s _ _ hh5.symm (Vm.Alike.refl _) rfl e8
  rw [hh5] at z8
  have hB1 := hB.keep X8.warmed.alike (n6 _ _ hB.1)
  have hne : s.heap.size ≠ a := (Nat.ne_of_lt (Array.getElem?_eq_some_iff.mp hB.1).1).symm
  have c9 : Steps p.tables e below (s₁.setTop (entryFrame m #[.ref a, .ref b, .int (Int32.ofNat o), .int (Int32.ofNat len), .null] 6)) (T8.setTop (mkF m 39 #[.val (.ref a), .val (.ref b), .val (.int (Int32.ofNat o)), .val (.int (Int32.ofNat len)), .val .null, .unset] [.ref s.heap.size])) := g8
  have c10 : Steps p.tables e below (s₁.setTop (entryFrame m #[.ref a, .ref b, .int (Int32.ofNat o), .int (Int32.ofNat len), .null] 6)) (T8.setTop (mkF m 45 #[.val (.ref a), .val (.ref b), .val (.int (Int32.ofNat o)), .val (.int (Int32.ofNat len)), .val .null, .val (.ref s.heap.size)] [.int (Int32.ofNat N.slots.size), .ref s.heap.size, .ref a])) := by
    have hc : Steps p.tables e below (s₁.setTop (entryFrame m #[.ref a, .ref b, .int (Int32.ofNat o), .int (Int32.ofNat len), .null] 6)) (T8.setTop (mkF m 45 #[.val (.ref a), .val (.ref b), .val (.int (Int32.ofNat o)), .val (.int (Int32.ofNat len)), .val .null, .val (.ref s.heap.size)] [.int (Int32.ofNat len), .ref s.heap.size, .ref a])) := c9.trans (by
      refine XS.astore X8.here hexec rfl (hb hbytes d39) rfl rfl rfl ?_
      refine XS.aloadN X8.here hexec rfl (hb hbytes d41) rfl rfl ?_
      refine XS.aload X8.here hexec rfl (hb hbytes d42) rfl rfl ?_
      refine XS.iloadN X8.here hexec rfl (hb hbytes d44) rfl ?_
      exact Steps.refl _)
    rw [n4]; exact hc
  obtain ⟨v11, T11, X11, E11, g11⟩ := X8.callS hexec (CodL.law l s.heap.size N) hown (wks W (staticW "java/lang/String" 47 CodL.yN)) (wk W CodL.tab) (W := 1) (Nat.le_of_ble_eq_true rfl) (Nat.le_of_ble_eq_true rfl) (Nat.le_refl _) (by show 0 + len + 0 ≤ len; omega) (g := (mkF m 45 #[.val (.ref a), .val (.ref b), .val (.int (Int32.ofNat o)), .val (.int (Int32.ofNat len)), .val .null, .val (.ref s.heap.size)] [.int (Int32.ofNat N.slots.size), .ref s.heap.size, .ref a])) rfl (by rw [hml]; rfl) c10 (argsL := [.ref s.heap.size, .int (Int32.ofNat N.slots.size)]) (rest := [.ref a]) rfl rfl (by show 2 * 0 + (1 + 0) ≤ _; decide) (hb hbytes d45) (⟨rfl, n1⟩)
  obtain ⟨rfl, q11⟩ := E11
  have hB11 := hB1.mv (X8.warmed.alike.symm.trans X11.warmed.alike) q11
  have c12 : Steps p.tables e below (s₁.setTop (entryFrame m #[.ref a, .ref b, .int (Int32.ofNat o), .int (Int32.ofNat len), .null] 6)) (T11.setTop (mkF m 48 #[.val (.ref a), .val (.ref b), .val (.int (Int32.ofNat o)), .val (.int (Int32.ofNat len)), .val .null, .val (.ref s.heap.size)] [.int 0, .ref a])) := g11
  obtain ⟨T13, X13, p13, bl13, sl13, st13⟩ := X11.finit hexec hown (wk W (.fieldLink "java/lang/String" 15 "java/lang/String" "coder" "B")) (Or.inr ⟨_, (wk W (.laysFinal "java/lang/String" "java/lang/String" "coder" "B"))⟩) (Or.inl ⟨rfl, hnm⟩) f2 (Or.inl rfl) hB11 (t := .byte) (by decide +kernel) rfl (g := (mkF m 48 #[.val (.ref a), .val (.ref b), .val (.int (Int32.ofNat o)), .val (.int (Int32.ofNat len)), .val .null, .val (.ref s.heap.size)] [.int 0, .ref a])) rfl (rest := []) rfl (hb hbytes d48)
  have c14 : Steps p.tables e below (s₁.setTop (entryFrame m #[.ref a, .ref b, .int (Int32.ofNat o), .int (Int32.ofNat len), .null] 6)) (T13.setTop (mkF m 54 #[.val (.ref a), .val (.ref b), .val (.int (Int32.ofNat o)), .val (.int (Int32.ofNat len)), .val .null, .val (.ref s.heap.size)] [.ref s.heap.size, .ref a])) := (c12.trans (st13 _ (Steps.refl _))).trans (by
    refine XS.aloadN X13.here hexec rfl (hb hbytes d51) rfl rfl ?_
    refine XS.aload X13.here hexec rfl (hb hbytes d52) rfl rfl ?_
    exact Steps.refl _)
  obtain ⟨T15, X15, p15, bl15, sl15, st15⟩ := X13.finit hexec hown (wk W (.fieldLink "java/lang/String" 9 "java/lang/String" "value" "[B")) (Or.inr ⟨_, (wk W (.laysFinal "java/lang/String" "java/lang/String" "value" "[B"))⟩) (Or.inl ⟨rfl, hnm⟩) f1 (Or.inl rfl) bl13 (t := (.array .byte)) (by decide +kernel) rfl (g := (mkF m 54 #[.val (.ref a), .val (.ref b), .val (.int (Int32.ofNat o)), .val (.int (Int32.ofNat len)), .val .null, .val (.ref s.heap.size)] [.ref s.heap.size, .ref a])) rfl (rest := []) rfl (hb hbytes d54)
  have c16 : Steps p.tables e below (s₁.setTop (entryFrame m #[.ref a, .ref b, .int (Int32.ofNat o), .int (Int32.ofNat len), .null] 6)) (T15.setTop (mkF m 57 #[.val (.ref a), .val (.ref b), .val (.int (Int32.ofNat o)), .val (.int (Int32.ofNat len)), .val .null, .val (.ref s.heap.size)] [])) := c14.trans (st15 _ (Steps.refl _))
  have ap := apart (Or.inr ⟨_, (wk W (.laysFinal "java/lang/String" "java/lang/String" "value" "[B"))⟩) (Or.inr ⟨_, (wk W (.laysFinal "java/lang/String" "java/lang/String" "coder" "B"))⟩) f1 f2 (t₁ := .array .byte) (t₂ := .byte) (by decide +kernel) (by decide +kernel) (by decide)
  have al := X8.warmed.alike.symm.trans X15.warmed.alike
  have n7 : T11.heap[s.heap.size]? = some N := by rw [q11]; exact n1.1
  exact ⟨T15, none, _, _, _, X15, by simp, rfl, by omega, (fun _ => rfl), ⟨rfl, _, N, bl15, ((Same.refl D _).set _ (by simp)).set _ (by simp), sl15, (Cell.slots_setSlot_ne _ ap).trans sl13, n1.keep al (p15.other hne (p13.other hne n7)), n2, by rw [al.findClass]; exact n3, n4, n5, fun y c h1 h2 => p15.other h1 (p13.other h1 (by rw [q11]; exact n6 y c h2)), by rw [p15.2.2, p13.2.2, q11]; exact z8⟩, fun fs hl => c16.trans (X15.returnOut hexec hret (hb hbytes d57) hl)⟩
end New4
namespace New1
def yN : MethodName := ⟨"java/lang/String", "<init>", "([C)V"⟩
abbrev yB : ByteArray := jdk_42_method_3_code
theorem d0 : decode yB 0 = .ok (.aload_n 0, 1) := by decide +kernel
theorem d1 : decode yB 1 = .ok (.aload_n 1, 1) := by decide +kernel
theorem d2 : decode yB 2 = .ok (.iconst 0, 1) := by decide +kernel
theorem d3 : decode yB 3 = .ok (.aload_n 1, 1) := by decide +kernel
theorem d4 : decode yB 4 = .ok (.arraylength, 1) := by decide +kernel
theorem d5 : decode yB 5 = .ok (.aconst_null, 1) := by decide +kernel
theorem d6 : decode yB 6 = .ok (.invokespecial 27, 3) := by decide +kernel
theorem d9 : decode yB 9 = .ok (.return_, 1) := by decide +kernel
def site : List Cond := [New4.tab] ++ initW "java/lang/String" 27 New4.yN
def tab : Cond := tabOf yN yB 2 none site
def P (a : Addr) (D : Cell) (fV fC : Field) (b : Addr) (A : Cell) (z : Int32) (args : Array Value) (s : State) : Prop := args = #[.ref a, .ref b] ∧ Blank "java/lang/String" a D s ∧ Found "java/lang/String" "value" "[B" fV s ∧ Found "java/lang/String" "coder" "B" fC s ∧ Ch b A s ∧ StaticIs s "java/lang/String" "COMPACT_STRINGS" "Z" (.int z) ∧ ¬ z = 0 ∧ 0 < A.slots.size ∧ A.slots.size ≤ 536870912 ∧ ∀ i, i < A.slots.size → ¬ 255 < cv A i
def E (a : Addr) (D : Cell) (fV fC : Field) (A : Cell) (r : Option Value) (s u : State) : Prop := Got a D fV fC A 0 A.slots.size r s u
/-- new String(chars), not empty, no char above 255: a Latin-1 String of their low bytes -/
theorem law (l : Launch) (a : Addr) (D : Cell) (fV fC : Field) (b : Addr) (A : Cell) (z : Int32) : Law l yN 2 1 3 52 yB 2 none site (P a D fV fC b A z) (E a D fV fC A) [⟨a, fC.slot⟩, ⟨a, fV.slot⟩] 1 A.slots.size := by
  refine Law.of_walk (plainFor_of_name (by decide +kernel)) (by decide +kernel) (by decide +kernel) (by decide) (fun _ _ h => by rw [h.1]; rfl) (fun _ U U' hal hh h => ⟨h.1, h.2.1.mv hal hh, h.2.2.1.al hal, h.2.2.2.1.al hal, h.2.2.2.2.1.mv hal hh, h.2.2.2.2.2.1.there hal hh, h.2.2.2.2.2.2⟩) (fun r U U' V V' h1 hal h2 h => Got.mv r U U' V V' h1 hal h2 h) ?_
  intro p e s m args below meth c s₁ X0 hexec hbytes hml hret hlk hnm hown hh0 W hP
  obtain ⟨rfl, hB, f1, f2, hA, s1, hz, l0, l2, hp⟩ := hP
  have c1 : Steps p.tables e below (s₁.setTop (entryFrame m #[.ref a, .ref b] 2)) (s₁.setTop (mkF m 0 #[.val (.ref a), .val (.ref b)] [])) := entry rfl
  have c2 : Steps p.tables e below (s₁.setTop (entryFrame m #[.ref a, .ref b] 2)) (s₁.setTop (mkF m 6 #[.val (.ref a), .val (.ref b)] [.null, .int (Int32.ofNat A.slots.size), .int 0, .ref b, .ref a])) := c1.trans (by
    refine XS.aloadN X0.here hexec rfl (hb hbytes d0) rfl rfl ?_
    refine XS.aloadN X0.here hexec rfl (hb hbytes d1) rfl rfl ?_
    refine iconstV X0.here hexec rfl 0 (hb hbytes d2) (by decide) ?_
    refine XS.aloadN X0.here hexec rfl (hb hbytes d3) rfl rfl ?_
    refine X0.alen hexec (hA.1.mv X0.warmed.alike hh0) rfl rfl (hb hbytes d4) ?_
    refine XS.aconstNull X0.here hexec rfl (hb hbytes d5) ?_
    exact Steps.refl _)
  obtain ⟨v3, T3, X3, E3, g3⟩ := X0.callN hexec (New4.law l a D fV fC b A z 0 A.slots.size) rfl hown (wks W (initW "java/lang/String" 27 New4.yN)) (W New4.tab (by simp only [site, List.mem_cons, List.mem_append, true_or, or_true])) (W := 0) (Nat.le_of_ble_eq_true rfl) (Nat.le_of_ble_eq_true rfl) (Nat.le_refl _) (by show 0 + A.slots.size ≤ A.slots.size; omega) (g := (mkF m 6 #[.val (.ref a), .val (.ref b)] [.null, .int (Int32.ofNat A.slots.size), .int (Int32.ofNat 0), .ref b, .ref a])) rfl (by rw [hml]; rfl) c2 (argsL := [.ref b, .int (Int32.ofNat 0), .int (Int32.ofNat A.slots.size), .null]) (rest := []) rfl rfl (by show 2 * 0 + 0 ≤ _; decide) (hb hbytes d6) (⟨rfl, hB.mv X0.warmed.alike hh0, f1.al X0.warmed.alike, f2.al X0.warmed.alike, hA.mv X0.warmed.alike hh0, s1.there X0.warmed.alike hh0, hz, l0, by omega, l2, fun i hi => by rw [Nat.zero_add]; exact hp i hi⟩)
  have e0 := Got.mv _ s₁ s _ _ hh0.symm (Vm.Alike.refl _) rfl E3
  obtain rfl := e0.1
  have c4 : Steps p.tables e below (s₁.setTop (entryFrame m #[.ref a, .ref b] 2)) (T3.setTop (mkF m 9 #[.val (.ref a), .val (.ref b)] [])) := g3
  exact ⟨T3, none, _, _, _, X3, by simp, rfl, by omega, (fun _ => rfl), e0, fun fs hl => c4.trans (X3.returnOut hexec hret (hb hbytes d9) hl)⟩
theorem pays {l : Launch} {R : Room} {p : Program} {e : Env} {below : List Frame} {s : State} {sargs : Array Value} {len W : Nat} (a : Addr) (D : Cell) (fV fC : Field) (b : Addr) (A : Cell) (z : Int32) (htab : tab.before sargs s = true) (hfr : 4 ≤ R.frames) (hlo : W + 65 ≤ R.locals) :
    Back l R p e below s sargs yN len W (fun A₁ a₁ => A₁.cells + 1 ≤ R.cells ∧ A₁.slots + A.slots.size ≤ R.slots ∧ P a D fV fC b A z a₁ A₁.U) (fun A₁ _ v₁ B₁ => E a D fV fC A v₁ A₁.U B₁.U ∧ B₁.locs = A₁.locs ++ [⟨a, fC.slot⟩, ⟨a, fV.slot⟩] ∧ B₁.cells = A₁.cells + 1 ∧ B₁.slots = A₁.slots + A.slots.size) :=
  (law l a D fV fC b A z).pays htab hfr (by omega)
end New1
/-- the byte, read back as charAt reads it, is the char -/
theorem lo8_mask {x : Int32} (h0 : ¬ x < 0) (h1 : ¬ 255 < x) : lo8 x &&& 255 = x := by
  have t : ∀ k : Fin 256, lo8 (Int32.ofNat k.val) &&& 255 = Int32.ofNat k.val := by decide +kernel
  rw [Int32.lt_iff_toInt_lt] at h0 h1
  have e0 : (0 : Int32).toInt = 0 := rfl
  have e1 : (255 : Int32).toInt = 255 := rfl
  obtain ⟨k, hk⟩ : ∃ k : Nat, x.toInt = k := ⟨x.toInt.toNat, by omega⟩
  have hx : x = Int32.ofNat k := Int32.toInt_inj.mp (by rw [hk, Int32.toInt_ofNat_small (by omega)])
  rw [hx]
  exact t ⟨k, by omega⟩
end StrChars
namespace StrChars.Road
open Jvm Sem ClassFile Op Lib Jvm.Stand Jvm.Free Jvm.Free.XT
open Jvm.Lib.Cold (StaticIs)
abbrev ST : String := "java/lang/String"
/-- every table word that New1's law asks, flat -/
abbrev words : List Jvm.Cond := [.code New1.yN New1.yB 2 none, .initialized ST, .methodLink ST 27 New4.yN, .instanceMethod New4.yN,
  .code New4.yN New4.yB 6 none, .fieldLink ST 38 ST "COMPACT_STRINGS" "Z", .laysFinal ST ST "value" "[B", .fieldLink ST 9 ST "value" "[B", .laysFinal ST ST "coder" "B", .fieldLink ST 15 ST "coder" "B",
  .methodLink ST 1 Lib.objectInit, .instanceMethod Lib.objectInit, .code Lib.objectInit ⟨#[0xb1]⟩ 1 none, .methodLink ST 177 Cmp3.yN, .static Cmp3.yN, .methodLink ST 47 CodL.yN, .static CodL.yN,
  .code Cmp3.yN Cmp3.yB 6 (some (.array .byte)), .initialized U16, .arrayClass .byte, .methodLink U16 115 Cmp5.yN, .static Cmp5.yN, .code Cmp5.yN Cmp5.yB 7 (some .int), .code CodL.yN CodL.yB 2 (some .byte)]
theorem tab_of {a : Array Value} {s : State} (h : ∀ w ∈ words, w.before a s = true) : New1.tab.before a s = true := by
  have h5 : Cmp5.tab.before a s = true := unparts (wk h (.code Cmp5.yN Cmp5.yB 7 (some .int))) (wks h (.initialized Cmp5.yN.cls :: Cmp5.site))
  have hc : CodL.tab.before a s = true := unparts (wk h (.code CodL.yN CodL.yB 2 (some .byte))) (wks h (.initialized CodL.yN.cls :: CodL.site))
  have q5 : ∀ w ∈ Cmp5.tab :: words, w.before a s = true := fun w hw => (List.mem_cons.mp hw).elim (fun e => e ▸ h5) (h w)
  have h3 : Cmp3.tab.before a s = true := unparts (wk q5 (.code Cmp3.yN Cmp3.yB 6 (some (.array .byte)))) (wks q5 (.initialized Cmp3.yN.cls :: Cmp3.site))
  have q3 : ∀ w ∈ Cmp3.tab :: CodL.tab :: words, w.before a s = true := fun w hw => (List.mem_cons.mp hw).elim (fun e => e ▸ h3) fun hw => (List.mem_cons.mp hw).elim (fun e => e ▸ hc) (h w)
  have h4 : New4.tab.before a s = true := unparts (wk q3 (.code New4.yN New4.yB 6 none)) (wks q3 (.initialized New4.yN.cls :: New4.site))
  have q4 : ∀ w ∈ New4.tab :: words, w.before a s = true := fun w hw => (List.mem_cons.mp hw).elim (fun e => e ▸ h4) (h w)
  exact unparts (wk q4 (.code New1.yN New1.yB 2 none)) (wks q4 (.initialized New1.yN.cls :: New1.site))
/-- the words ride from the start Z to the walk's own state -/
theorem moved {Z s : State} {a0 args : Array Value} (hZ : Z.Warmed39 s.vm) (hw : ∀ d ∈ words, d.before a0 Z = true) : ∀ d ∈ words, d.before args s = true := fun d hd => by
  have q := hw d hd
  have t : ∀ d ∈ words, d = .arrayClass .byte ∨ (d.onTables && d.keepsFace) = true := by decide +kernel
  rcases t d hd with rfl | t
  · exact RoadKit.mvA hZ q
  · exact RoadKit.mv hZ q t
/-- WHAT COMES BACK, over the tables of the start Z: h the heap at the call, h' behind it -/
def Q (Z : State) (x : Addr) (A : Cell) (h : Heap) (v : Option Value) (h' : Heap) (L : List Loc) : Prop := v = none ∧ (∀ y ∈ L, y.base = x) ∧ RoadKit.Keep h h' [x] ∧ h'.size = h.size + 1 ∧ RoadKit.Exa Z h' x ST ∧ RoadKit.Fld Z h' x ST "value" "[B" (.ref h.size) ∧ RoadKit.Fld Z h' x ST "coder" "B" (.int 0) ∧
  (∃ V : Cell, RoadKit.Arr Z h' h.size V .byte ∧ V.vm = .none ∧ Z.vm.findClass "[B" = some V.cls ∧ V.slots.size = A.slots.size ∧ ∀ j, j < A.slots.size → V.slots[j]? = some (.int (lo8 (cv A j)))) ∧
  ∀ (O n d : String) (w : Value), RoadKit.Fld Z h x O n d w → RoadKit.slotOf Z O n d ≠ RoadKit.slotOf Z ST "value" "[B" → RoadKit.slotOf Z O n d ≠ RoadKit.slotOf Z ST "coder" "B" → RoadKit.Fld Z h' x O n d w
/-- **new String(chars) AT A CALL, IN THE ROAD'S FORM**: for specialBack behind newO: x the fresh String, b the char[] with the cell A -/
theorem back {p : Program} {l : Launch} {e : Env} {R : Room} {s : State} {args : Array Value} {below : List Frame} {len W : Nat} {Z : State} {a0 : Array Value} {h : Heap} (hZ : Z.Warmed39 s.vm) (hw : ∀ d ∈ words, d.before a0 Z = true) {kI : Nat} (wi : (Jvm.Cond.instantiable ST kI).before a0 Z = true)
    {x b : Addr} {A : Cell} {z : Int32} {v0 c0 : Value} (E : RoadKit.Exa Z h x ST) (V : RoadKit.Fld Z h x ST "value" "[B" v0) (C : RoadKit.Fld Z h x ST "coder" "B" c0) (K : RoadKit.Arr Z h b A .char) (hty : Typed .char A) (S : RoadKit.Sta Z h ST "COMPACT_STRINGS" "Z" (.int z)) (hz : ¬ z = 0)
    (l0 : 0 < A.slots.size) (l2 : A.slots.size ≤ 536870912) (hp : ∀ i, i < A.slots.size → ¬ 255 < cv A i) (hfr : 4 ≤ R.frames) (hlo : W + 65 ≤ R.locals) :
    Back l R p e below s args New1.yN len W (fun P a => a = #[.ref x, .ref b] ∧ P.U.heap = h ∧ P.cells + 1 ≤ R.cells ∧ P.slots + A.slots.size ≤ R.slots)
      (fun P _ v B => ∃ L, Q Z x A h v B.U.heap L ∧ B.locs = P.locs ++ L ∧ B.cells = P.cells + 1 ∧ B.slots = P.slots + A.slots.size) := by
  intro m meth c P g ig mk a X hg hsize hdg hW hn hp'
  obtain ⟨rfl, rfl, r1, r2⟩ := hp'
  have al : Z.vm.Alike P.U.vm := hZ.alike.trans X.warmed.alike
  obtain ⟨D, cfV, kV, iV, fV, hD, gV, stV, knV, obV, asV, slV⟩ := id V
  obtain ⟨D', cfC, kC, iC, fC, hD', gC, stC, -, -, asC, slC⟩ := id C
  cases hD.symm.trans hD'
  obtain ⟨D2, kD, e1, e2, e3, e4, e5⟩ := id E
  cases hD.symm.trans e1
  obtain ⟨c2, k2, i1, i2, i3, -⟩ := Cond.instantiable_spec wi
  cases e2.symm.trans i1
  cases e3.symm.trans i2
  obtain ⟨kU, u1, u2⟩ := al.2.2 _ _ e3
  have hB : Blank ST x D P.U := ⟨hD, ⟨knV, fun q hq => by rw [hq] at obV; cases obV⟩, by rw [al.findClass]; exact e2, kU, u1, by rw [u2]; exact i3, by rw [u2]; exact e5 i3⟩
  have F1 : Found ST "value" "[B" fV P.U := ⟨SBG.found_only al ⟨cfV, kV, iV, gV⟩, stV⟩
  have F2 : Found ST "coder" "B" fC P.U := ⟨SBG.found_only al ⟨cfC, kC, iC, gC⟩, stC⟩
  have hA : Ch b A P.U := ⟨⟨K.1, State.isArrayOf_alike al K.2.1, K.2.2, by omega⟩, hty⟩
  have hS : StaticIs P.U ST "COMPACT_STRINGS" "Z" (.int z) := by
    obtain ⟨cfS, iS, kS, fS, st, cS, t1, t2, t3, t4, t5, t6, t7⟩ := S
    exact StaticIs.there (s := { Z with heap := P.U.heap }) ⟨cfS, iS, kS, fS, st, cS, t1, t2, t3, t4, t5, (fun q => by rw [q] at t6; cases t6), t7⟩ al rfl
  obtain ⟨v, B, X', ⟨⟨hv, E', V', q1, q2, q3, q4, q5, q6, q7, q8, q9, q10, q11⟩, hl, hc, hs⟩, st⟩ := New1.pays x D fV fC b A z (tab_of (moved hZ hw)) hfr hlo m meth c P g ig mk _ X hg hsize hdg hW hn ⟨r1, r2, rfl, hB, F1, F2, hA, hS, hz, l0, l2, hp⟩
  have al' : Z.vm.Alike B.U.vm := hZ.alike.trans X'.warmed.alike
  have hsz : E'.slots.size = D.slots.size := by
    obtain ⟨-, -, -, kB, w1, w2, w3⟩ := q1
    obtain ⟨kB', y1, y2⟩ := al'.2.2 _ _ e3
    rw [q2.2.1] at w1
    cases w1.symm.trans y1
    rw [w3, e5 i3, y2]
  refine ⟨v, B, X', ⟨_, ⟨hv, ?_, ⟨by omega, fun y cy hy hn' => q10 y cy (by simpa using hn') hy, fun y cy hy => ?_⟩, q11, ⟨E', _, q1.1, by rw [q2.2.1]; exact e2, by rw [q2.2.1]; exact e3, by rw [q2.1]; exact obV, fun _ => by rw [hsz]; exact e5 i3⟩,
    ⟨E', cfV, kV, iV, fV, q1.1, gV, stV, by rw [q2.1]; exact knV, by rw [q2.1]; exact obV, by rw [q2.2.1]; exact asV, q3⟩, ⟨E', cfC, kC, iC, fC, q1.1, gC, stC, by rw [q2.1]; exact knV, by rw [q2.1]; exact obV, by rw [q2.2.1]; exact asC, q4⟩,
    ⟨V', ⟨q5.1, State.isArrayOf_alike al'.symm q5.2.1, q5.2.2.1⟩, q6, by rw [← al'.findClass]; exact q7, q8, fun j hj => by have := q9 j hj; rwa [Nat.zero_add] at this⟩, fun O n d w F n1 n2 => ?_⟩, hl, hc, hs⟩, st⟩
  · intro y hy
    simp only [List.mem_cons, List.not_mem_nil, or_false] at hy
    rcases hy with rfl | rfl <;> rfl
  · by_cases q : y = x
    · subst q
      cases hD.symm.trans hy
      exact ⟨E', q1.1, q2.2.1, q2.1, hsz⟩
    · exact ⟨cy, q10 y cy q hy, rfl, rfl, rfl⟩
  · obtain ⟨D3, cf, k, i, f, g1, g2, g3, g4, g5, g6, g7⟩ := F
    cases hD.symm.trans g1
    simp only [RoadKit.slotOf, g2, gV, gC, Option.map_some, Option.getD_some] at n1 n2
    exact ⟨E', cf, k, i, f, q1.1, g2, g3, by rw [q2.1]; exact g4, by rw [q2.1]; exact g5, by rw [q2.2.1]; exact g6, by rw [q2.2.2 f.slot (by simp [n1, n2])]; exact g7⟩
end StrChars.Road
namespace StrChars.Road
open Jvm Sem ClassFile Op Lib Jvm.Stand Jvm.Free Jvm.Free.XT
/-- WHAT COMES BACK, the byte[] as a list of values -/
def QA (Z : State) (x : Addr) (zn : Int32) (cs : List Int32) (h : Heap) (v : Option Value) (h' : Heap) (L : List Loc) : Prop := v = none ∧ (∀ y ∈ L, y.base = x) ∧ RoadKit.Keep h h' [x] ∧ h'.size = h.size + 1 ∧ RoadKit.Exa Z h' x ST ∧ RoadKit.Fld Z h' x ST "value" "[B" (.ref h.size) ∧ RoadKit.Fld Z h' x ST "coder" "B" (.int 0) ∧
  (∃ kb, Z.vm.findClass "[B" = some kb ∧ RoadKit.Arv Z h' h.size kb .byte zn (cs.map fun c => .int (lo8 c)) (.int 0)) ∧
  ∀ (O n d : String) (w : Value), RoadKit.Fld Z h x O n d w → RoadKit.slotOf Z O n d ≠ RoadKit.slotOf Z ST "value" "[B" → RoadKit.slotOf Z O n d ≠ RoadKit.slotOf Z ST "coder" "B" → RoadKit.Fld Z h' x O n d w
/-- **new String(chars) AT A CALL, THE ARRAYS AS LISTS**: the char[] at b holds cs, not empty, no char above 255 -/
theorem backArv {p : Program} {l : Launch} {e : Env} {R : Room} {s : State} {args : Array Value} {below : List Frame} {len W : Nat} {Z : State} {a0 : Array Value} {h : Heap} (hZ : Z.Warmed39 s.vm) (hw : ∀ d ∈ words, d.before a0 Z = true) {kI : Nat} (wi : (Jvm.Cond.instantiable ST kI).before a0 Z = true)
    {x b : Addr} {k : ClassId} {zn z : Int32} {cs : List Int32} {dv v0 c0 : Value} (E : RoadKit.Exa Z h x ST) (V : RoadKit.Fld Z h x ST "value" "[B" v0) (C : RoadKit.Fld Z h x ST "coder" "B" c0) (K : RoadKit.Arv Z h b k .char zn (cs.map Value.int) dv) (S : RoadKit.Sta Z h ST "COMPACT_STRINGS" "Z" (.int z)) (hz : ¬ z = 0)
    (hlen : zn.toNatClampNeg = cs.length) (h0 : 0 < cs.length) (hbig : cs.length ≤ 536870912) (hall : ∀ c ∈ cs, ¬ 255 < c) (hfr : 4 ≤ R.frames) (hlo : W + 65 ≤ R.locals) :
    Back l R p e below s args New1.yN len W (fun P a => a = #[.ref x, .ref b] ∧ P.U.heap = h ∧ P.cells + 1 ≤ R.cells ∧ P.slots + cs.length ≤ R.slots)
      (fun P _ v B => ∃ L, QA Z x zn cs h v B.U.heap L ∧ B.locs = P.locs ++ L ∧ B.cells = P.cells + 1 ∧ B.slots = P.slots + cs.length) := by
  obtain ⟨A, K1, K2, K3, K4, K5, K6⟩ := K
  have e : A.slots.size = cs.length := K3.trans hlen
  have hat : ∀ (i : Nat) (hi : i < cs.length), A.slots[i]? = some (.int cs[i]) := fun i hi => by rw [K5 i (by omega)]; simp [List.getD_eq_getElem?_getD, hi]
  have hcv : ∀ (i : Nat) (hi : i < cs.length), cv A i = cs[i] := fun i hi => by unfold cv; rw [hat i hi]
  have hty : Typed .char A := fun i v hv => by
    have hi : i < A.slots.size := (Array.getElem?_eq_some_iff.mp hv).1
    have q := K5 i hi
    rw [hv] at q
    rw [Option.some.inj q]
    exact K6 i hi
  refine Back.mono (back hZ hw wi E V C K1 hty S hz (by omega) (by omega) (fun i hi => by rw [hcv i (by omega)]; exact hall _ (List.getElem_mem _)) hfr hlo) (fun P a hp => ⟨hp.1, hp.2.1, hp.2.2.1, by rw [e]; exact hp.2.2.2⟩) (fun P a v B hp hq => ?_)
  obtain ⟨L, ⟨q1, q2, q3, q4, q5, q6, q7, ⟨V', v1, v2, v3, v4, v5⟩, q9⟩, hl, hc, hs⟩ := hq
  refine ⟨L, ⟨q1, q2, q3, q4, q5, q6, q7, ⟨V'.cls, v3, V', v1, rfl, by rw [v4, e, hlen], K4, fun i hi => ?_, fun i hi => ?_⟩, q9⟩, hl, hc, by rw [hs, e]⟩
  · have hi' : i < cs.length := by omega
    rw [v5 i (by omega), hcv i hi']; simp [List.getD_eq_getElem?_getD, hi']
  · have hi' : i < cs.length := by omega
    simp only [List.getD_eq_getElem?_getD, List.getElem?_map, List.getElem?_eq_getElem hi', Option.map_some, Option.getD_some]
    exact fits_lo8 _
end StrChars.Road
namespace StrChars.Road
open Jvm Sem ClassFile Op Lib Jvm.Stand Jvm.Free Jvm.Free.XT
/-- WHAT COMES BACK, in the writer's own shape -/
def QV (Z : State) (x : Addr) (N : Int32) (bs : List Int32) (h : Heap) (n0 : Nat) (v : Option Value) (h' : Heap) (L : List Loc) : Prop := v = none ∧ RoadKit.Fr n0 L ∧ RoadKit.Keep h h' [x] ∧ RoadKit.Exa Z h' x ST ∧ RoadKit.Fld Z h' x ST "coder" "B" (.int 0) ∧
  ∃ (t : Addr) (kb : ClassId), n0 ≤ t ∧ h.size ≤ t ∧ ¬ t = x ∧ RoadKit.Fld Z h' x ST "value" "[B" (.ref t) ∧ RoadKit.Arv Z h' t kb .byte N (bs.map Value.int) (.int 0)
/-- **new String(chars) AT A CALL, FOR THE WRITER**: a char[] of n known ints, each 0 to 255 -/
theorem backV {p : Program} {l : Launch} {e : Env} {R : Room} {s : State} {args : Array Value} {below : List Frame} {len W : Nat} {Z : State} {a0 : Array Value} {h : Heap} (hZ : Z.Warmed39 s.vm) (hw : ∀ d ∈ words, d.before a0 Z = true) {kI : Nat} (wi : (Jvm.Cond.instantiable ST kI).before a0 Z = true)
    {x b : Addr} {kC : ClassId} {cs bs : List Int32} {d v0 c0 : Value} {z N : Int32} {n n0 : Nat} (hx0 : n0 ≤ x) (hh0 : n0 ≤ h.size) (E : RoadKit.Exa Z h x ST) (V : RoadKit.Fld Z h x ST "value" "[B" v0) (C : RoadKit.Fld Z h x ST "coder" "B" c0) (K : RoadKit.Arv Z h b kC .char N (cs.map Value.int) d) (S : RoadKit.Sta Z h ST "COMPACT_STRINGS" "Z" (.int z)) (hz : ¬ z = 0)
    (hn : cs.length = n) (hN : N = Int32.ofNat n) (l0 : 0 < n) (l2 : n ≤ 4000) (hp : ∀ c ∈ cs, ¬ c < 0 ∧ ¬ (255 : Int32) < c) (hb : bs = cs.map (fun c => c.toInt8.toInt32)) (hfr : 4 ≤ R.frames) (hlo : W + 65 ≤ R.locals) :
    Back l R p e below s args (⟨"java/lang/String", "<init>", "([C)V"⟩ : MethodName) len W (fun P a => a = #[.ref x, .ref b] ∧ P.U.heap = h ∧ P.cells + 1 ≤ R.cells ∧ P.slots + n ≤ R.slots)
      (fun P _ v B => ∃ L, QV Z x N bs h n0 v B.U.heap L ∧ B.locs = P.locs ++ L ∧ B.cells = P.cells + 1 ∧ B.slots = P.slots + n) := by
  subst hn hN hb
  refine Back.mono (backArv hZ hw wi E V C K S hz (n32 (by omega)) l0 (by omega) (fun c hc => (hp c hc).2) hfr hlo) (fun P a hp => hp) (fun P a v B hp hq => ?_)
  obtain ⟨L, ⟨q1, q2, q3, q4, q5, q6, q7, ⟨kb, v1, v2⟩, q9⟩, hl, hc, hs⟩ := hq
  exact ⟨L, ⟨q1, fun y hy => by rw [q2 y hy]; exact hx0, q3, q5, q7, h.size, kb, hh0, Nat.le_refl _, Nat.ne_of_gt E.lt, q6, by rw [List.map_map]; exact v2⟩, hl, hc, hs⟩
end StrChars.Road
namespace StrChars
open Jvm Sem ClassFile Op Lib Jvm.Stand Jvm.Free.XT Jvm.Free.ALB Jvm.Free.JM Jvm.Free
open Jvm.Lib.Cold (StaticIs)
def hi8 (x : Int32) : Int32 := lo8 (x >>> ((8 : Int32) &&& 31))
/-- what StringUTF16.getChar makes of two bytes -/
def pairCh (u v : Int32) : Int32 := (((u &&& 255) <<< ((0 : Int32) &&& 31)) ||| ((v &&& 255) <<< ((8 : Int32) &&& 31))).toUInt32.toUInt16.toUInt32.toInt32
theorem shr0 (c : Int32) : c >>> ((0 : Int32) &&& 31) = c := by
  have e : ((0 : Int32) &&& 31) = 0 := by decide
  rw [e]
  apply Int32.toBitVec_inj.mp
  rw [Int32.toBitVec_shiftRight]
  have e1 : ((0 : Int32).toBitVec.smod 32) = 0#32 := by decide
  rw [e1, BitVec.sshiftRight_eq']
  exact BitVec.sshiftRight_zero
theorem lo8_and (x : Int32) : (lo8 x &&& 255).toBitVec.toNat = x.toBitVec.toNat % 256 := by
  have h : (lo8 x).toBitVec = (x.toBitVec.signExtend 8).signExtend 32 := by rw [lo8, Int8.toBitVec_toInt32, Int32.toBitVec_toInt8]
  rw [Int32.toBitVec_and, BitVec.toNat_and, h]
  have e : ((x.toBitVec.signExtend 8).signExtend 32).toNat % 256 = x.toBitVec.toNat % 256 := by
    rw [BitVec.toNat_signExtend]
    have hlt := x.toBitVec.isLt
    simp only [BitVec.toNat_setWidth, BitVec.toNat_signExtend]
    split <;> split <;> omega
  rw [← e]
  exact Nat.and_two_pow_sub_one_eq_mod _ 8
theorem pair_says {c : Int32} (h0 : ¬ c < 0) (h1 : ¬ 65535 < c) : pairCh (lo8 c) (hi8 c) = c := by
  rw [Int32.lt_iff_toInt_lt] at h0 h1
  have e0 : (0 : Int32).toInt = 0 := rfl
  have e1 : (65535 : Int32).toInt = 65535 := rfl
  have hc : c.toInt = c.toBitVec.toNat := by
    have := c.toBitVec.isLt
    have e : c.toInt = c.toBitVec.toInt := rfl
    rw [e] at h0 h1
    rw [e]
    rw [BitVec.toInt_eq_toNat_cond] at h0 h1 ⊢
    split at h0 <;> split <;> omega
  have hn : c.toBitVec.toNat < 65536 := by omega
  have a1 := lo8_and c
  have a2 : (hi8 c &&& 255).toBitVec.toNat = c.toBitVec.toNat / 256 := by
    rw [hi8, lo8_and]
    have e : ((8 : Int32) &&& 31) = 8 := by decide
    rw [e, Int32.toBitVec_shiftRight]
    have e2 : ((8 : Int32).toBitVec.smod 32) = 8#32 := by decide
    rw [e2, BitVec.sshiftRight_eq', BitVec.toNat_sshiftRight_of_msb_false (by rw [BitVec.msb_eq_false_iff_two_mul_lt]; omega)]
    show c.toBitVec.toNat >>> 8 % 256 = _
    rw [Nat.shiftRight_eq_div_pow]
    omega
  unfold pairCh
  apply Int32.toBitVec_inj.mp
  apply BitVec.eq_of_toNat_eq
  have f0 : ((0 : Int32) &&& 31) = 0 := by decide
  have f8 : ((8 : Int32) &&& 31) = 8 := by decide
  rw [f0, f8]
  have g : (((lo8 c &&& 255) <<< (0 : Int32)) ||| ((hi8 c &&& 255) <<< (8 : Int32))).toBitVec.toNat = c.toBitVec.toNat := by
    rw [Int32.toBitVec_or, Int32.toBitVec_shiftLeft, Int32.toBitVec_shiftLeft]
    have s0 : ((0 : Int32).toBitVec.smod 32) = 0#32 := by decide
    have s8 : ((8 : Int32).toBitVec.smod 32) = 8#32 := by decide
    rw [s0, s8, BitVec.toNat_or]
    simp only [BitVec.shiftLeft_eq', BitVec.toNat_shiftLeft, a1, a2]
    show (c.toBitVec.toNat % 256) <<< 0 % 2 ^ 32 ||| (c.toBitVec.toNat / 256) <<< 8 % 2 ^ 32 = _
    rw [Nat.shiftLeft_zero, Nat.mod_eq_of_lt (show c.toBitVec.toNat % 256 < 2 ^ 32 by omega), Nat.mod_eq_of_lt (show (c.toBitVec.toNat / 256) <<< 8 < 2 ^ 32 by rw [Nat.shiftLeft_eq]; omega), Nat.or_comm, ← Nat.shiftLeft_add_eq_or_of_lt (by omega), Nat.shiftLeft_eq]
    omega
  show BitVec.toNat (((((lo8 c &&& 255) <<< (0 : Int32)) ||| ((hi8 c &&& 255) <<< (8 : Int32))).toBitVec.setWidth 16).setWidth 32) = _
  rw [BitVec.toNat_setWidth, BitVec.toNat_setWidth, g]
  omega
end StrChars
namespace StrChars
open Jvm Sem ClassFile Op Lib Jvm.Stand Jvm.Free.XT Jvm.Free.ALB Jvm.Free.JM Jvm.Free
open Jvm.Lib.Cold (StaticIs)
theorem shr1 {n : Nat} (h : 2 * n < 2 ^ 31) : Int32.ofNat (2 * n) >>> ((1 : Int32) &&& 31) = Int32.ofNat n := by
  have e : ((1 : Int32) &&& 31) = 1 := by decide
  rw [e]
  apply Int32.toBitVec_inj.mp
  rw [Int32.toBitVec_shiftRight]
  have e1 : ((1 : Int32).toBitVec.smod 32) = 1#32 := by decide
  have hm : (BitVec.ofNat 32 (2 * n)).toNat = 2 * n := by rw [BitVec.toNat_ofNat, Nat.mod_eq_of_lt (by omega)]
  rw [e1, BitVec.sshiftRight_eq']
  apply BitVec.eq_of_toNat_eq
  show ((BitVec.ofNat 32 (2 * n)).sshiftRight 1).toNat = (BitVec.ofNat 32 n).toNat
  rw [BitVec.toNat_sshiftRight_of_msb_false (by rw [BitVec.msb_eq_false_iff_two_mul_lt, hm]; omega), hm, BitVec.toNat_ofNat, Nat.shiftRight_eq_div_pow]
  omega
/-- charAt's cast of a byte read back -/
def chr8 (u : Int32) : Int32 := (u &&& 255).toUInt32.toUInt16.toUInt32.toInt32
theorem chr8_lo8 {c : Int32} (h0 : ¬ c < 0) (h1 : ¬ 255 < c) : chr8 (lo8 c) = c := by
  have t : ∀ k : Fin 256, (Int32.ofNat k.val).toUInt32.toUInt16.toUInt32.toInt32 = Int32.ofNat k.val := by decide +kernel
  unfold chr8
  rw [lo8_mask h0 h1]
  rw [Int32.lt_iff_toInt_lt] at h0 h1
  have e0 : (0 : Int32).toInt = 0 := rfl
  have e1 : (255 : Int32).toInt = 255 := rfl
  obtain ⟨k, hk⟩ : ∃ k : Nat, c.toInt = k := ⟨c.toInt.toNat, by omega⟩
  have hx : c = Int32.ofNat k := Int32.toInt_inj.mp (by rw [hk, Int32.toInt_ofNat_small (by omega)])
  rw [hx]
  exact t ⟨k, by omega⟩
theorem narrow_ch {c : Int32} (h0 : ¬ c < 0) (h1 : ¬ 65535 < c) : narrow .char (.int c) = .int c := by
  have q : narrow .char (.int (pairCh (lo8 c) (hi8 c))) = .int (pairCh (lo8 c) (hi8 c)) := narrow_c _
  rwa [pair_says h0 h1] at q
/-- the array's cell V codes the n chars f 0 .. f (n - 1) by the coder cd, as the JDK does: coder 1 just where some char is above 255 -/
def Cod (cd : Int32) (n : Nat) (f : Nat → Int32) (V : Cell) : Prop := (cd = 0 ∧ V.slots.size = n ∧ ∀ j, j < n → V.slots[j]? = some (.int (lo8 (f j))) ∧ ¬ 255 < f j) ∨ (cd = 1 ∧ V.slots.size = 2 * n ∧ (∀ j, j < n → V.slots[2 * j]? = some (.int (lo8 (f j))) ∧ V.slots[2 * j + 1]? = some (.int (hi8 (f j)))) ∧ ∃ j, j < n ∧ 255 < f j)
theorem Cod.cd {cd : Int32} {n : Nat} {f : Nat → Int32} {V : Cell} (h : Cod cd n f V) : cd = 0 ∨ cd = 1 := h.imp (fun q => q.1) fun q => q.1
theorem Cod.len {cd : Int32} {n : Nat} {f : Nat → Int32} {V : Cell} (h : Cod cd n f V) (hs : V.slots.size < 2 ^ 31) : Int32.ofNat V.slots.size >>> (cd &&& 31) = Int32.ofNat n := by
  rcases h with ⟨rfl, h, -⟩ | ⟨rfl, h, -⟩
  · rw [shr0, h]
  · rw [h, shr1 (by omega)]
/-- **x is a String of the n chars f 0 .. f (n - 1)**, Latin-1 or UTF-16; its array at t has the cell V -/
def Txt (x t : Addr) (V : Cell) (cd : Int32) (n : Nat) (f : Nat → Int32) (U : State) : Prop := Exact "java/lang/String" x U ∧ Has x "java/lang/String" "value" "[B" (.ref t) U ∧ Has x "java/lang/String" "coder" "B" (.int cd) U ∧ XT.Arr .byte t V U ∧ Cod cd n f V ∧ ∀ j, j < n → ¬ f j < 0 ∧ ¬ 65535 < f j
theorem Txt.mv {x t : Addr} {V : Cell} {cd : Int32} {n : Nat} {f : Nat → Int32} {U U' : State} (h : Txt x t V cd n f U) (hal : U.vm.Alike U'.vm) (hh : U'.heap = U.heap) : Txt x t V cd n f U' := ⟨h.1.mv hal hh, h.2.1.mv hal hh, h.2.2.1.mv hal hh, h.2.2.2.1.mv hal hh, h.2.2.2.2⟩
namespace Cdr
def yN : MethodName := ⟨"java/lang/String", "coder", "()B"⟩
abbrev yB : ByteArray := jdk_42_method_152_code
theorem d0 : decode yB 0 = .ok (.getstatic 38, 3) := by decide +kernel
theorem d3 : decode yB 3 = .ok (.ifCond (.eq) 10, 3) := by decide +kernel
theorem d6 : decode yB 6 = .ok (.aload_n 0, 1) := by decide +kernel
theorem d7 : decode yB 7 = .ok (.getfield 15, 3) := by decide +kernel
theorem d10 : decode yB 10 = .ok (.goto 4, 3) := by decide +kernel
theorem d14 : decode yB 14 = .ok (.ireturn, 1) := by decide +kernel
def site : List Cond := [.fieldLink "java/lang/String" 38 "java/lang/String" "COMPACT_STRINGS" "Z", .fieldLink "java/lang/String" 15 "java/lang/String" "coder" "B"]
def tab : Cond := tabOf yN yB 1 (some .byte) site
def P (x : Addr) (cd z : Int32) (args : Array Value) (s : State) : Prop := args = #[.ref x] ∧ Has x "java/lang/String" "coder" "B" (.int cd) s ∧ (cd = 0 ∨ cd = 1) ∧ StaticIs s "java/lang/String" "COMPACT_STRINGS" "Z" (.int z) ∧ ¬ z = 0
def E (cd : Int32) (r : Option Value) (s u : State) : Prop := XT.PureE (some (.int cd)) r s u
theorem law (l : Launch) (x : Addr) (cd z : Int32) : Law l yN 1 0 0 0 yB 1 (some .byte) site (P x cd z) (E cd) [] 0 0 := by
  refine Law.of_walk (plainFor_of_name (by decide +kernel)) (by decide +kernel) (by decide +kernel) (by decide) (fun _ _ h => by rw [h.1]; rfl) (fun _ U U' hal hh h => ⟨h.1, h.2.1.mv hal hh, h.2.2.1, h.2.2.2.1.there hal hh, h.2.2.2.2⟩) (fun r U U' V V' h1 hal h2 h => XT.PureE.mv r U U' V V' h1 hal h2 h) ?_
  intro p e s m args below meth c s₁ X0 hexec hbytes hml hret hlk hnm hown hh0 W hP
  obtain ⟨rfl, hx, hc, s1, hz⟩ := hP
  have c1 : Steps p.tables e below (s₁.setTop (entryFrame m #[.ref x] 1)) (s₁.setTop (mkF m 0 #[.val (.ref x)] [])) := entry rfl
  obtain ⟨T2, X2, q2, st2⟩ := X0.sget hexec hown (wk W (.fieldLink "java/lang/String" 38 "java/lang/String" "COMPACT_STRINGS" "Z")) s1 (fun _ _ h => by rw [hh0]; exact h) (g := (mkF m 0 #[.val (.ref x)] [])) rfl (hb hbytes d0)
  have hh2 := q2.trans hh0
  have c3 : Steps p.tables e below (s₁.setTop (entryFrame m #[.ref x] 1)) (T2.setTop (mkF m 7 #[.val (.ref x)] [.ref x])) := (c1.trans (st2 _ (Steps.refl _))).trans (by
    refine XS.ifNo X2.here hexec rfl (hb hbytes d3) rfl (i0_eq_f hz) ?_
    refine XS.aloadN X2.here hexec rfl (hb hbytes d6) rfl rfl ?_
    exact Steps.refl _)
  obtain ⟨T4, X4, q4, st4⟩ := X2.hget hexec hown (wk W (.fieldLink "java/lang/String" 15 "java/lang/String" "coder" "B")) (hx.mv X2.warmed.alike hh2) (g := (mkF m 7 #[.val (.ref x)] [.ref x])) rfl (rest := []) rfl (hb hbytes d7)
  have c5 : Steps p.tables e below (s₁.setTop (entryFrame m #[.ref x] 1)) (T4.setTop (mkF m 14 #[.val (.ref x)] [.int cd])) := (c3.trans (st4 _ (Steps.refl _))).trans (by
    refine XS.goto X4.here hexec rfl (pc0 := 10) rfl (hb hbytes d10) (by decide) rfl ?_
    exact Steps.refl _)
  exact ⟨T4, some (.int cd), _, _, _, X4, rfl, rfl, rfl, (fun h => by cases h), ⟨rfl, q4.trans hh2⟩, fun fs hl => c5.trans (X4.ireturnOut hexec hret (by rcases hc with rfl | rfl <;> rfl) (Or.inr (Or.inr (Or.inl rfl))) (hb hbytes d14) hl)⟩
end Cdr
namespace Len
def yN : MethodName := ⟨"java/lang/String", "length", "()I"⟩
abbrev yB : ByteArray := jdk_42_method_54_code
theorem d0 : decode yB 0 = .ok (.aload_n 0, 1) := by decide +kernel
theorem d1 : decode yB 1 = .ok (.getfield 9, 3) := by decide +kernel
theorem d4 : decode yB 4 = .ok (.arraylength, 1) := by decide +kernel
theorem d5 : decode yB 5 = .ok (.aload_n 0, 1) := by decide +kernel
theorem d6 : decode yB 6 = .ok (.invokevirtual 335, 3) := by decide +kernel
theorem d9 : decode yB 9 = .ok (.ishr, 1) := by decide +kernel
theorem d10 : decode yB 10 = .ok (.ireturn, 1) := by decide +kernel
def site : List Cond := [.fieldLink "java/lang/String" 9 "java/lang/String" "value" "[B", Cdr.tab] ++ virtW "java/lang/String" 335 "java/lang/String" Cdr.yN Cdr.yN
def tab : Cond := tabOf yN yB 1 (some .int) site
def P (x t : Addr) (V : Cell) (cd : Int32) (n : Nat) (f : Nat → Int32) (z : Int32) (args : Array Value) (s : State) : Prop := args = #[.ref x] ∧ Txt x t V cd n f s ∧ StaticIs s "java/lang/String" "COMPACT_STRINGS" "Z" (.int z) ∧ ¬ z = 0
def E (n : Nat) (r : Option Value) (s u : State) : Prop := XT.PureE (some (.int (Int32.ofNat n))) r s u
/-- length() of a String of n chars, in either coding -/
theorem law (l : Launch) (x t : Addr) (V : Cell) (cd : Int32) (n : Nat) (f : Nat → Int32) (z : Int32) : Law l yN 1 0 1 13 yB 1 (some .int) site (P x t V cd n f z) (E n) [] 0 0 := by
  refine Law.of_walk (plainFor_of_name (by decide +kernel)) (by decide +kernel) (by decide +kernel) (by decide) (fun _ _ h => by rw [h.1]; rfl) (fun _ U U' hal hh h => ⟨h.1, h.2.1.mv hal hh, h.2.2.1.there hal hh, h.2.2.2⟩) (fun r U U' V V' h1 hal h2 h => XT.PureE.mv r U U' V V' h1 hal h2 h) ?_
  intro p e s m args below meth c s₁ X0 hexec hbytes hml hret hlk hnm hown hh0 W hP
  obtain ⟨rfl, hx, s1, hz⟩ := hP
  have v31 := hx.2.2.2.1.2.2.2
  have c1 : Steps p.tables e below (s₁.setTop (entryFrame m #[.ref x] 1)) (s₁.setTop (mkF m 1 #[.val (.ref x)] [.ref x])) := Steps.trans (entry rfl) (by
    show Steps p.tables e below (s₁.setTop (mkF m 0 #[.val (.ref x)] [])) _
    refine XS.aloadN X0.here hexec rfl (hb hbytes d0) rfl rfl ?_
    exact Steps.refl _)
  obtain ⟨T2, X2, q2, st2⟩ := X0.hget hexec hown (wk W (.fieldLink "java/lang/String" 9 "java/lang/String" "value" "[B")) (hx.mv X0.warmed.alike hh0).2.1 (g := (mkF m 1 #[.val (.ref x)] [.ref x])) rfl (rest := []) rfl (hb hbytes d1)
  have hh2 := q2.trans hh0
  have hx2 := hx.mv X2.warmed.alike hh2
  have c3 : Steps p.tables e below (s₁.setTop (entryFrame m #[.ref x] 1)) (T2.setTop (mkF m 6 #[.val (.ref x)] [.ref x, .int (Int32.ofNat V.slots.size)])) := (c1.trans (st2 _ (Steps.refl _))).trans (by
    refine X2.alen hexec hx2.2.2.2.1 rfl rfl (hb hbytes d4) ?_
    refine XS.aloadN X2.here hexec rfl (hb hbytes d5) rfl rfl ?_
    exact Steps.refl _)
  obtain ⟨v4, T4, X4, E4, g4⟩ := X2.callV hexec (Cdr.law l x cd z) hown (wks W (virtW "java/lang/String" 335 "java/lang/String" Cdr.yN Cdr.yN)) rfl (by decide) (wk W Cdr.tab) (W := 1) (Nat.le_of_ble_eq_true rfl) (Nat.le_of_ble_eq_true rfl) (Nat.le_refl _) (Nat.le_refl _) (hx2.1.fc X2.warmed.alike) hx2.1.is (g := (mkF m 6 #[.val (.ref x)] [.ref x, .int (Int32.ofNat V.slots.size)])) rfl (by rw [hml]; rfl) c3 (argsL := []) (rest := [.int (Int32.ofNat V.slots.size)]) rfl rfl (by show 2 * 0 + (1 + 0) ≤ _; decide) (hb hbytes d6) (⟨rfl, hx2.2.2.1, hx.2.2.2.2.1.cd, s1.there X2.warmed.alike hh2, hz⟩)
  obtain ⟨rfl, q4⟩ := E4
  have c5 : Steps p.tables e below (s₁.setTop (entryFrame m #[.ref x] 1)) (T4.setTop (mkF m 10 #[.val (.ref x)] [.int (Int32.ofNat V.slots.size >>> (cd &&& 31))])) := Steps.trans g4 (by
    refine ishr X4.here hexec rfl (hb hbytes d9) rfl ?_
    exact Steps.refl _)
  rw [hx.2.2.2.2.1.len v31] at c5
  exact ⟨T4, some (.int (Int32.ofNat n)), _, _, _, X4, rfl, rfl, rfl, (fun h => by cases h), ⟨rfl, q4.trans hh2⟩, fun fs hl => c5.trans (X4.ireturnOut hexec hret rfl (Or.inl rfl) (hb hbytes d10) hl)⟩
theorem pays {l : Launch} {R : Room} {p : Program} {e : Env} {below : List Frame} {s : State} {sargs : Array Value} {len W : Nat} (x t : Addr) (V : Cell) (cd : Int32) (n : Nat) (f : Nat → Int32) (z : Int32) (htab : tab.before sargs s = true) (hfr : 2 ≤ R.frames) (hlo : W + 25 ≤ R.locals) :
    Back l R p e below s sargs yN len W (fun A₁ a₁ => A₁.cells + 0 ≤ R.cells ∧ A₁.slots + 0 ≤ R.slots ∧ P x t V cd n f z a₁ A₁.U) (fun A₁ _ v₁ B₁ => E n v₁ A₁.U B₁.U ∧ B₁.locs = A₁.locs ++ [] ∧ B₁.cells = A₁.cells + 0 ∧ B₁.slots = A₁.slots + 0) :=
  (law l x t V cd n f z).pays htab hfr (by omega)
end Len
namespace IsL
def yN : MethodName := ⟨"java/lang/String", "isLatin1", "()Z"⟩
abbrev yB : ByteArray := jdk_42_method_154_code
theorem d0 : decode yB 0 = .ok (.getstatic 38, 3) := by decide +kernel
theorem d3 : decode yB 3 = .ok (.ifCond (.eq) 14, 3) := by decide +kernel
theorem d6 : decode yB 6 = .ok (.aload_n 0, 1) := by decide +kernel
theorem d7 : decode yB 7 = .ok (.getfield 15, 3) := by decide +kernel
theorem d10 : decode yB 10 = .ok (.ifCond (.ne) 7, 3) := by decide +kernel
theorem d13 : decode yB 13 = .ok (.iconst 1, 1) := by decide +kernel
theorem d14 : decode yB 14 = .ok (.goto 4, 3) := by decide +kernel
theorem d17 : decode yB 17 = .ok (.iconst 0, 1) := by decide +kernel
theorem d18 : decode yB 18 = .ok (.ireturn, 1) := by decide +kernel
def site : List Cond := [.fieldLink "java/lang/String" 38 "java/lang/String" "COMPACT_STRINGS" "Z", .fieldLink "java/lang/String" 15 "java/lang/String" "coder" "B"]
def tab : Cond := tabOf yN yB 1 (some .boolean) site
def P (x : Addr) (cd z : Int32) (args : Array Value) (s : State) : Prop := args = #[.ref x] ∧ Has x "java/lang/String" "coder" "B" (.int cd) s ∧ (cd = 0 ∨ cd = 1) ∧ StaticIs s "java/lang/String" "COMPACT_STRINGS" "Z" (.int z) ∧ ¬ z = 0
def E (cd : Int32) (r : Option Value) (s u : State) : Prop := XT.PureE (some (.int (1 - cd))) r s u
theorem law (l : Launch) (x : Addr) (cd z : Int32) : Law l yN 1 0 0 0 yB 1 (some .boolean) site (P x cd z) (E cd) [] 0 0 := by
  refine Law.of_walk (plainFor_of_name (by decide +kernel)) (by decide +kernel) (by decide +kernel) (by decide) (fun _ _ h => by rw [h.1]; rfl) (fun _ U U' hal hh h => ⟨h.1, h.2.1.mv hal hh, h.2.2.1, h.2.2.2.1.there hal hh, h.2.2.2.2⟩) (fun r U U' V V' h1 hal h2 h => XT.PureE.mv r U U' V V' h1 hal h2 h) ?_
  intro p e s m args below meth c s₁ X0 hexec hbytes hml hret hlk hnm hown hh0 W hP
  obtain ⟨rfl, hx, hc, s1, hz⟩ := hP
  have c1 : Steps p.tables e below (s₁.setTop (entryFrame m #[.ref x] 1)) (s₁.setTop (mkF m 0 #[.val (.ref x)] [])) := entry rfl
  obtain ⟨T2, X2, q2, st2⟩ := X0.sget hexec hown (wk W (.fieldLink "java/lang/String" 38 "java/lang/String" "COMPACT_STRINGS" "Z")) s1 (fun _ _ h => by rw [hh0]; exact h) (g := (mkF m 0 #[.val (.ref x)] [])) rfl (hb hbytes d0)
  have hh2 := q2.trans hh0
  have c3 : Steps p.tables e below (s₁.setTop (entryFrame m #[.ref x] 1)) (T2.setTop (mkF m 7 #[.val (.ref x)] [.ref x])) := (c1.trans (st2 _ (Steps.refl _))).trans (by
    refine XS.ifNo X2.here hexec rfl (hb hbytes d3) rfl (i0_eq_f hz) ?_
    refine XS.aloadN X2.here hexec rfl (hb hbytes d6) rfl rfl ?_
    exact Steps.refl _)
  obtain ⟨T4, X4, q4, st4⟩ := X2.hget hexec hown (wk W (.fieldLink "java/lang/String" 15 "java/lang/String" "coder" "B")) (hx.mv X2.warmed.alike hh2) (g := (mkF m 7 #[.val (.ref x)] [.ref x])) rfl (rest := []) rfl (hb hbytes d7)
  have c5 : Steps p.tables e below (s₁.setTop (entryFrame m #[.ref x] 1)) (T4.setTop (mkF m 10 #[.val (.ref x)] [.int cd])) := c3.trans (st4 _ (Steps.refl _))
  have c6 : Steps p.tables e below (s₁.setTop (entryFrame m #[.ref x] 1)) (T4.setTop (mkF m 18 #[.val (.ref x)] [.int (1 - cd)])) := by
    rcases hc with rfl | rfl
    · exact c5.trans (by
        refine XS.ifNo X4.here hexec rfl (hb hbytes d10) rfl (i0_ne_f rfl) ?_
        refine iconstV X4.here hexec rfl 1 (hb hbytes d13) (by decide) ?_
        refine XS.goto X4.here hexec rfl (pc0 := 14) rfl (hb hbytes d14) (by decide) rfl ?_
        exact Steps.refl _)
    · exact c5.trans (by
        refine XS.ifYes X4.here hexec rfl (pc0 := 10) rfl (hb hbytes d10) rfl (i0_ne_t (by decide)) (by decide) rfl ?_
        refine iconstV X4.here hexec rfl 0 (hb hbytes d17) (by decide) ?_
        exact Steps.refl _)
  exact ⟨T4, some (.int (1 - cd)), _, _, _, X4, rfl, rfl, rfl, (fun h => by cases h), ⟨rfl, q4.trans hh2⟩, fun fs hl => c6.trans (X4.ireturnOut hexec hret (by rcases hc with rfl | rfl <;> rfl) (Or.inr (Or.inl rfl)) (hb hbytes d18) hl)⟩
end IsL
namespace LChA
def yN : MethodName := ⟨"java/lang/StringLatin1", "charAt", "([BI)C"⟩
abbrev yB : ByteArray := jdk_43_method_2_code
theorem d0 : decode yB 0 = .ok (.iload_n 1, 1) := by decide +kernel
theorem d1 : decode yB 1 = .ok (.aload_n 0, 1) := by decide +kernel
theorem d2 : decode yB 2 = .ok (.arraylength, 1) := by decide +kernel
theorem d3 : decode yB 3 = .ok (.invokestatic 9, 3) := by decide +kernel
theorem d6 : decode yB 6 = .ok (.aload_n 0, 1) := by decide +kernel
theorem d7 : decode yB 7 = .ok (.iload_n 1, 1) := by decide +kernel
theorem d8 : decode yB 8 = .ok (.baload, 1) := by decide +kernel
theorem d9 : decode yB 9 = .ok (.sipush 255, 3) := by decide +kernel
theorem d12 : decode yB 12 = .ok (.iand, 1) := by decide +kernel
theorem d13 : decode yB 13 = .ok (.i2c, 1) := by decide +kernel
theorem d14 : decode yB 14 = .ok (.ireturn, 1) := by decide +kernel
def site : List Cond := [JO.Str_checkIndex.tab] ++ staticW "java/lang/StringLatin1" 9 JO.Str_checkIndex.yN
def tab : Cond := tabOf yN yB 2 (some .char) site
def P (t : Addr) (V : Cell) (i : Nat) (u : Int32) (fm : Value) (args : Array Value) (s : State) : Prop := args = #[.ref t, .int (Int32.ofNat i)] ∧ XT.Arr .byte t V s ∧ V.slots[i]? = some (.int u) ∧ (StaticIs s "jdk/internal/util/Preconditions" "SIOOBE_FORMATTER" "Ljava/util/function/BiFunction;" fm ∧ fm.isRef = true)
def E (u : Int32) (r : Option Value) (s w : State) : Prop := XT.PureE (some (.int (chr8 u))) r s w
theorem law (l : Launch) (t : Addr) (V : Cell) (i : Nat) (u : Int32) (fm : Value) : Law l yN 2 2 2 27 yB 2 (some .char) site (P t V i u fm) (E u) [] 0 0 := by
  refine Law.of_walk (plainFor_of_name (by decide +kernel)) (by decide +kernel) (by decide +kernel) (by decide) (fun _ _ h => by rw [h.1]; rfl) (fun _ U U' hal hh h => ⟨h.1, h.2.1.mv hal hh, h.2.2.1, h.2.2.2.1.there hal hh, h.2.2.2.2⟩) (fun r U U' V V' h1 hal h2 h => XT.PureE.mv r U U' V V' h1 hal h2 h) ?_
  intro p e s m args below meth c s₁ X0 hexec hbytes hml hret hlk hnm hown hh0 W hP
  obtain ⟨rfl, hV, hu, s1, rf⟩ := hP
  have v31 := hV.2.2.2
  have hi : i < V.slots.size := (Array.getElem?_eq_some_iff.mp hu).1
  have c1 : Steps p.tables e below (s₁.setTop (entryFrame m #[.ref t, .int (Int32.ofNat i)] 2)) (s₁.setTop (mkF m 0 #[.val (.ref t), .val (.int (Int32.ofNat i))] [])) := entry rfl
  have c2 : Steps p.tables e below (s₁.setTop (entryFrame m #[.ref t, .int (Int32.ofNat i)] 2)) (s₁.setTop (mkF m 3 #[.val (.ref t), .val (.int (Int32.ofNat i))] [.int (Int32.ofNat V.slots.size), .int (Int32.ofNat i)])) := c1.trans (by
    refine XS.iloadN X0.here hexec rfl (hb hbytes d0) rfl ?_
    refine XS.aloadN X0.here hexec rfl (hb hbytes d1) rfl rfl ?_
    refine X0.alen hexec (hV.mv X0.warmed.alike hh0) rfl rfl (hb hbytes d2) ?_
    exact Steps.refl _)
  obtain ⟨v3, T3, X3, E3, g3⟩ := X0.callS hexec (JO.Str_checkIndex.law l (Int32.ofNat i) (Int32.ofNat V.slots.size) fm) hown (wks W (staticW "java/lang/StringLatin1" 9 JO.Str_checkIndex.yN)) (wk W JO.Str_checkIndex.tab) (W := 0) (Nat.le_of_ble_eq_true rfl) (Nat.le_of_ble_eq_true rfl) (Nat.le_refl _) (Nat.le_refl _) (g := (mkF m 3 #[.val (.ref t), .val (.int (Int32.ofNat i))] [.int (Int32.ofNat V.slots.size), .int (Int32.ofNat i)])) rfl (by rw [hml]; rfl) c2 (argsL := [.int (Int32.ofNat i), .int (Int32.ofNat V.slots.size)]) (rest := []) rfl rfl (by show 2 * 0 + 0 ≤ _; decide) (hb hbytes d3) (⟨rfl, rf, s1.there X0.warmed.alike hh0, Int32.ofNat_not_neg (by omega), lt32 v31 hi⟩)
  obtain ⟨rfl, q3⟩ := E3
  have hh3 := q3.trans hh0
  have c4 : Steps p.tables e below (s₁.setTop (entryFrame m #[.ref t, .int (Int32.ofNat i)] 2)) (T3.setTop (mkF m 14 #[.val (.ref t), .val (.int (Int32.ofNat i))] [.int (chr8 u)])) := Steps.trans g3 (by
    refine XS.aloadN X3.here hexec rfl (hb hbytes d6) rfl rfl ?_
    refine XS.iloadN X3.here hexec rfl (hb hbytes d7) rfl ?_
    refine X3.aget hexec (hV.mv X3.warmed.alike hh3) rfl hu rfl rfl (hb hbytes d8) ?_
    refine sipushV X3.here hexec rfl 255 (hb hbytes d9) (by decide) ?_
    refine XS.iand X3.here hexec rfl (hb hbytes d12) rfl ?_
    refine i2c X3.here hexec rfl (hb hbytes d13) rfl ?_
    exact Steps.refl _)
  exact ⟨T3, some (.int (chr8 u)), _, _, _, X3, rfl, rfl, rfl, (fun h => by cases h), ⟨rfl, hh3⟩, fun fs hl => c4.trans (X3.ireturnOut hexec hret (narrow_c _) (Or.inr (Or.inr (Or.inr (Or.inl rfl)))) (hb hbytes d14) hl)⟩
end LChA
end StrChars
namespace StrChars.Road
open Jvm Sem ClassFile Op Lib Jvm.Stand Jvm.Free Jvm.Free.XT
open Jvm.Lib.Cold (StaticIs)
theorem consq {a : Array Value} {s : State} {c : Jvm.Cond} {L : List Jvm.Cond} (h0 : c.before a s = true) (h : ∀ w ∈ L, w.before a s = true) : ∀ w ∈ c :: L, w.before a s = true := fun w hw => (List.mem_cons.mp hw).elim (fun e => e ▸ h0) (h w)
/-- the words of String.length(), either coding -/
abbrev wordsLen : List Jvm.Cond := [.code Len.yN Len.yB 1 (some .int), .initialized ST, .fieldLink ST 9 ST "value" "[B", .fieldLink ST 38 ST "COMPACT_STRINGS" "Z", .fieldLink ST 15 ST "coder" "B", .code Cdr.yN Cdr.yB 1 (some .byte), .methodLink ST 335 Cdr.yN, .declares Cdr.yN, .selects ST Cdr.yN Cdr.yN, .instanceMethod Cdr.yN]
theorem tabLen_of {a : Array Value} {s : State} (h : ∀ w ∈ wordsLen, w.before a s = true) : Len.tab.before a s = true := by
  have hc : Cdr.tab.before a s = true := unparts (wk h (.code Cdr.yN Cdr.yB 1 (some .byte))) (wks h (.initialized Cdr.yN.cls :: Cdr.site))
  have q := consq hc h
  exact unparts (wk q (.code Len.yN Len.yB 1 (some .int))) (wks q (.initialized Len.yN.cls :: Len.site))
theorem movedLen {Z s : State} {a0 args : Array Value} (hZ : Z.Warmed39 s.vm) (hw : ∀ d ∈ wordsLen, d.before a0 Z = true) : ∀ d ∈ wordsLen, d.before args s = true := fun d hd => by
  have q := hw d hd
  have t : ∀ d ∈ wordsLen, d = .arrayClass .byte ∨ (d.onTables && d.keepsFace) = true := by decide +kernel
  rcases t d hd with rfl | t
  · exact RoadKit.mvA hZ q
  · exact RoadKit.mv hZ q t
/-- the bytes of the chars cs, low before high -/
def wideBytes : List Int32 → List Value
  | [] => []
  | c :: cs => .int (lo8 c) :: .int (hi8 c) :: wideBytes cs
theorem wide_lo (d : Value) : ∀ (cs : List Int32) (j : Nat), j < cs.length → (wideBytes cs).getD (2 * j) d = .int (lo8 (cs.getD j 0))
  | [], j, h => absurd h (Nat.not_lt_zero j)
  | c :: cs, 0, _ => rfl
  | c :: cs, j + 1, h => by
    have q := wide_lo d cs j (by simpa using h)
    rw [show 2 * (j + 1) = 2 * j + 1 + 1 from by omega]
    simpa [wideBytes] using q
theorem wide_hi (d : Value) : ∀ (cs : List Int32) (j : Nat), j < cs.length → (wideBytes cs).getD (2 * j + 1) d = .int (hi8 (cs.getD j 0))
  | [], j, h => absurd h (Nat.not_lt_zero j)
  | c :: cs, 0, _ => rfl
  | c :: cs, j + 1, h => by
    have q := wide_hi d cs j (by simpa using h)
    rw [show 2 * (j + 1) + 1 = 2 * j + 1 + 1 + 1 from by omega]
    simpa [wideBytes] using q
theorem low_at (d : Value) (cs : List Int32) (j : Nat) (h : j < cs.length) : (cs.map fun c => Value.int (lo8 c)).getD j d = .int (lo8 (cs.getD j 0)) := by
  simp [List.getD_eq_getElem?_getD, h]
/-- an array of N2 bytes vs codes the chars cs by the coder cd -/
def CodA (cs : List Int32) (cd N2 : Int32) (vs : List Value) : Prop := (cd = 0 ∧ N2 = Int32.ofNat cs.length ∧ vs = (cs.map fun c => Value.int (lo8 c)) ∧ ∀ c ∈ cs, ¬ 255 < c) ∨ (cd = 1 ∧ N2 = Int32.ofNat (2 * cs.length) ∧ vs = wideBytes cs ∧ ∃ c ∈ cs, 255 < c)
theorem CodA.cod {cs : List Int32} {cd N2 : Int32} {vs : List Value} {V : Cell} (h : CodA cs cd N2 vs) (hn : 2 * cs.length < 2 ^ 31) (hs : V.slots.size = N2.toNatClampNeg) (hv : RoadKit.Has V vs (.int 0)) : Cod cd cs.length (fun j => cs.getD j 0) V := by
  rcases h with ⟨rfl, rfl, rfl, h⟩ | ⟨rfl, rfl, rfl, c, hc, hw⟩
  · rw [n32 (by omega)] at hs
    exact Or.inl ⟨rfl, hs, fun j hj => ⟨by rw [hv j (by omega), low_at _ _ _ hj], by
      have e : cs.getD j 0 = cs[j] := by simp [List.getD_eq_getElem?_getD, hj]
      show ¬ 255 < cs.getD j 0
      rw [e]; exact h _ (List.getElem_mem _)⟩⟩
  · rw [n32 (by omega)] at hs
    obtain ⟨j, hj, rfl⟩ := List.getElem_of_mem hc
    exact Or.inr ⟨rfl, hs, fun j hj => ⟨by rw [hv _ (by omega), wide_lo _ _ _ hj], by rw [hv _ (by omega), wide_hi _ _ _ hj]⟩, j, hj, by
      have e : cs.getD j 0 = cs[j] := by simp [List.getD_eq_getElem?_getD, hj]
      show 255 < cs.getD j 0
      rw [e]; exact hw⟩
/-- an object of exactly java/lang/String, its two fields found: as the laws ask it -/
theorem strObj {Z U : State} {a0 : Array Value} {kI : Nat} (wi : (Jvm.Cond.instantiable ST kI).before a0 Z = true) (al : Z.vm.Alike U.vm) {x : Addr} {v0 c0 : Value} (E : RoadKit.Exa Z U.heap x ST) (V : RoadKit.Fld Z U.heap x ST "value" "[B" v0) (C : RoadKit.Fld Z U.heap x ST "coder" "B" c0) :
    ∃ (D : Cell) (fV fC : Field), Blank ST x D U ∧ Found ST "value" "[B" fV U ∧ Found ST "coder" "B" fC U ∧ D.slots[fV.slot]? = some v0 ∧ D.slots[fC.slot]? = some c0 ∧ RoadKit.slotOf Z ST "value" "[B" = fV.slot ∧ RoadKit.slotOf Z ST "coder" "B" = fC.slot := by
  obtain ⟨D, cfV, kV, iV, fV, hD, gV, stV, knV, obV, asV, slV⟩ := V
  obtain ⟨D', cfC, kC, iC, fC, hD', gC, stC, -, -, asC, slC⟩ := C
  cases hD.symm.trans hD'
  obtain ⟨D2, kD, e1, e2, e3, e4, e5⟩ := E
  cases hD.symm.trans e1
  obtain ⟨c2, k2, i1, i2, i3, -⟩ := Cond.instantiable_spec wi
  cases e2.symm.trans i1
  cases e3.symm.trans i2
  obtain ⟨kU, u1, u2⟩ := al.2.2 _ _ e3
  exact ⟨D, fV, fC, ⟨hD, ⟨knV, fun q hq => by rw [hq] at obV; cases obV⟩, by rw [al.findClass]; exact e2, kU, u1, by rw [u2]; exact i3, by rw [u2]; exact e5 i3⟩, ⟨SBG.found_only al ⟨cfV, kV, iV, gV⟩, stV⟩, ⟨SBG.found_only al ⟨cfC, kC, iC, gC⟩, stC⟩, slV, slC, by simp [RoadKit.slotOf, gV], by simp [RoadKit.slotOf, gC]⟩
theorem sta_is {Z U : State} (al : Z.vm.Alike U.vm) {C n d : String} {v : Value} (S : RoadKit.Sta Z U.heap C n d v) : StaticIs U C n d v := by
  obtain ⟨cfS, iS, kS, fS, st, cS, t1, t2, t3, t4, t5, t6, t7⟩ := S
  exact StaticIs.there (s := { Z with heap := U.heap }) ⟨cfS, iS, kS, fS, st, cS, t1, t2, t3, t4, t5, (fun q => by rw [q] at t6; cases t6), t7⟩ al rfl
/-- **length() OF SUCH A STRING** -/
theorem lenW {p : Program} {l : Launch} {e : Env} {R : Room} {s : State} {args : Array Value} {below : List Frame} {len W : Nat} {Z : State} {a0 : Array Value} {h : Heap} (hZ : Z.Warmed39 s.vm) (hw : ∀ d ∈ wordsLen, d.before a0 Z = true) {kI : Nat} (wi : (Jvm.Cond.instantiable ST kI).before a0 Z = true)
    {x t : Addr} {kb : ClassId} {cs : List Int32} {cd N2 z : Int32} {vs : List Value} (E : RoadKit.Exa Z h x ST) (V : RoadKit.Fld Z h x ST "value" "[B" (.ref t)) (C : RoadKit.Fld Z h x ST "coder" "B" (.int cd)) (K : RoadKit.Arv Z h t kb .byte N2 vs (.int 0)) (hc : CodA cs cd N2 vs) (hb : ∀ c ∈ cs, ¬ c < 0 ∧ ¬ (65535 : Int32) < c)
    (S : RoadKit.Sta Z h ST "COMPACT_STRINGS" "Z" (.int z)) (hz : ¬ z = 0) (l2 : cs.length ≤ 4000) (hfr : 2 ≤ R.frames) (hlo : W + 25 ≤ R.locals) :
    Back l R p e below s args (⟨"java/lang/String", "length", "()I"⟩ : MethodName) len W (fun P a => a = #[.ref x] ∧ P.U.heap = h ∧ P.cells + 0 ≤ R.cells ∧ P.slots + 0 ≤ R.slots)
      (fun P _ v B => ∃ L, (v = some (.int (Int32.ofNat cs.length)) ∧ L = [] ∧ B.U.heap = h) ∧ B.locs = P.locs ++ L ∧ B.cells = P.cells + 0 ∧ B.slots = P.slots + 0) := by
  obtain ⟨A, K1, K2, K3, K4, K5, K6⟩ := K
  have hcod := hc.cod (by omega) K3 K5
  intro m meth c P g ig mk a X hg hsize hdg hW hn hp'
  obtain ⟨rfl, rfl, r1, r2⟩ := hp'
  have al : Z.vm.Alike P.U.vm := hZ.alike.trans X.warmed.alike
  obtain ⟨D, fV, fC, hB, F1, F2, g1, g2, -, -⟩ := strObj wi al E V C
  have hx : Txt x t A cd cs.length (fun j => cs.getD j 0) P.U := ⟨⟨_, hB.2.2.1, D, hB.1, rfl, by cases q : D.vm <;> first | rfl | exact absurd q (hB.2.1.2 _)⟩, Has.of hB F1 g1, Has.of hB F2 g2, ⟨K1.1, State.isArrayOf_alike al K1.2.1, K1.2.2, by rcases hcod with ⟨-, q, -⟩ | ⟨-, q, -⟩ <;> omega⟩, hcod, fun j hj => by
    have e : cs.getD j 0 = cs[j] := by simp [List.getD_eq_getElem?_getD, hj]
    show ¬ cs.getD j 0 < 0 ∧ ¬ 65535 < cs.getD j 0
    rw [e]; exact hb _ (List.getElem_mem _)⟩
  obtain ⟨v, B, X', ⟨⟨hv, hh⟩, hl, hk, hs⟩, st⟩ := Len.pays x t A cd cs.length (fun j => cs.getD j 0) z (tabLen_of (movedLen hZ hw)) hfr hlo m meth c P g ig mk _ X hg hsize hdg hW hn ⟨r1, r2, rfl, hx, sta_is al S, hz⟩
  exact ⟨v, B, X', ⟨[], ⟨hv, rfl, hh⟩, hl, hk, hs⟩, st⟩
end StrChars.Road
namespace StrChars.Road
open Jvm Sem ClassFile Op Lib Jvm.Stand Jvm.Free Jvm.Free.XT
open Jvm.Lib.Cold (StaticIs)
/-- the road's facts of a String, as the laws ask it -/
theorem txt_of {Z U : State} {a0 : Array Value} {kI : Nat} (wi : (Jvm.Cond.instantiable ST kI).before a0 Z = true) (al : Z.vm.Alike U.vm) {x t : Addr} {kb : ClassId} {cs : List Int32} {cd N2 : Int32} {vs : List Value} (E : RoadKit.Exa Z U.heap x ST) (V : RoadKit.Fld Z U.heap x ST "value" "[B" (.ref t)) (C : RoadKit.Fld Z U.heap x ST "coder" "B" (.int cd)) (K : RoadKit.Arv Z U.heap t kb .byte N2 vs (.int 0)) (hc : CodA cs cd N2 vs) (hb : ∀ c ∈ cs, ¬ c < 0 ∧ ¬ (65535 : Int32) < c) (l2 : cs.length ≤ 4000) :
    ∃ A, Txt x t A cd cs.length (fun j => cs.getD j 0) U := by
  obtain ⟨A, K1, K2, K3, K4, K5, K6⟩ := K
  have hcod := hc.cod (by omega) K3 K5
  obtain ⟨D, fV, fC, hB, F1, F2, g1, g2, -, -⟩ := strObj wi al E V C
  exact ⟨A, ⟨_, hB.2.2.1, D, hB.1, rfl, by cases q : D.vm <;> first | rfl | exact absurd q (hB.2.1.2 _)⟩, Has.of hB F1 g1, Has.of hB F2 g2, ⟨K1.1, State.isArrayOf_alike al K1.2.1, K1.2.2, by rcases hcod with ⟨-, q, -⟩ | ⟨-, q, -⟩ <;> omega⟩, hcod, fun j hj => by
    have e : cs.getD j 0 = cs[j] := by simp [List.getD_eq_getElem?_getD, hj]
    show ¬ cs.getD j 0 < 0 ∧ ¬ 65535 < cs.getD j 0
    rw [e]; exact hb _ (List.getElem_mem _)⟩
end StrChars.Road
namespace StrChars
open Jvm Sem ClassFile Op Lib Jvm.Stand Jvm.Free.XT Jvm.Free.ALB Jvm.Free.JM Jvm.Free
open Jvm.Lib.Cold (StaticIs)
namespace ChN
def yN : MethodName := ⟨"java/lang/String", "charAt", "(I)C"⟩
abbrev yB : ByteArray := jdk_42_method_56_code
theorem d0 : decode yB 0 = .ok (.aload_n 0, 1) := by decide +kernel
theorem d1 : decode yB 1 = .ok (.invokevirtual 492, 3) := by decide +kernel
theorem d4 : decode yB 4 = .ok (.ifCond (.eq) 12, 3) := by decide +kernel
theorem d7 : decode yB 7 = .ok (.aload_n 0, 1) := by decide +kernel
theorem d8 : decode yB 8 = .ok (.getfield 9, 3) := by decide +kernel
theorem d11 : decode yB 11 = .ok (.iload_n 1, 1) := by decide +kernel
theorem d12 : decode yB 12 = .ok (.invokestatic 495, 3) := by decide +kernel
theorem d15 : decode yB 15 = .ok (.ireturn, 1) := by decide +kernel
def site : List Cond := [.fieldLink "java/lang/String" 9 "java/lang/String" "value" "[B", IsL.tab, LChA.tab] ++ virtW "java/lang/String" 492 "java/lang/String" IsL.yN IsL.yN ++ staticW "java/lang/String" 495 LChA.yN
def tab : Cond := tabOf yN yB 2 (some .char) site
def P (x t : Addr) (V : Cell) (n : Nat) (f : Nat → Int32) (z : Int32) (fm : Value) (i : Nat) (args : Array Value) (s : State) : Prop := args = #[.ref x, .int (Int32.ofNat i)] ∧ Txt x t V 0 n f s ∧ i < n ∧ StaticIs s "java/lang/String" "COMPACT_STRINGS" "Z" (.int z) ∧ ¬ z = 0 ∧ StaticIs s "jdk/internal/util/Preconditions" "SIOOBE_FORMATTER" "Ljava/util/function/BiFunction;" fm ∧ fm.isRef = true
def E (f : Nat → Int32) (i : Nat) (r : Option Value) (s u : State) : Prop := XT.PureE (some (.int (f i))) r s u
/-- charAt(i) of a Latin-1 String of n chars, i < n: f i -/
theorem law (l : Launch) (x t : Addr) (V : Cell) (n : Nat) (f : Nat → Int32) (z : Int32) (fm : Value) (i : Nat) : Law l yN 2 1 3 40 yB 2 (some .char) site (P x t V n f z fm i) (E f i) [] 0 0 := by
  refine Law.of_walk (plainFor_of_name (by decide +kernel)) (by decide +kernel) (by decide +kernel) (by decide) (fun _ _ h => by rw [h.1]; rfl) (fun _ U U' hal hh h => ⟨h.1, h.2.1.mv hal hh, h.2.2.1, h.2.2.2.1.there hal hh, h.2.2.2.2.1, h.2.2.2.2.2.1.there hal hh, h.2.2.2.2.2.2⟩) (fun r U U' V V' h1 hal h2 h => XT.PureE.mv r U U' V V' h1 hal h2 h) ?_
  intro p e s m args below meth c s₁ X0 hexec hbytes hml hret hlk hnm hown hh0 W hP
  obtain ⟨rfl, hx, hi, s1, hz, s3, rf⟩ := hP
  have v31 := hx.2.2.2.1.2.2.2
  have hr := hx.2.2.2.2.2 i hi
  have hx0 := hx.mv X0.warmed.alike hh0
  have c1 : Steps p.tables e below (s₁.setTop (entryFrame m #[.ref x, .int (Int32.ofNat i)] 2)) (s₁.setTop (mkF m 1 #[.val (.ref x), .val (.int (Int32.ofNat i))] [.ref x])) := Steps.trans (entry rfl) (by
    show Steps p.tables e below (s₁.setTop (mkF m 0 #[.val (.ref x), .val (.int (Int32.ofNat i))] [])) _
    refine XS.aloadN X0.here hexec rfl (hb hbytes d0) rfl rfl ?_
    exact Steps.refl _)
  obtain ⟨v2, T2, X2, E2, g2⟩ := X0.callV hexec (IsL.law l x 0 z) hown (wks W (virtW "java/lang/String" 492 "java/lang/String" IsL.yN IsL.yN)) rfl (by decide) (wk W IsL.tab) (W := 0) (Nat.le_of_ble_eq_true rfl) (Nat.le_of_ble_eq_true rfl) (Nat.le_refl _) (Nat.le_refl _) (hx0.1.fc X0.warmed.alike) hx0.1.is (g := (mkF m 1 #[.val (.ref x), .val (.int (Int32.ofNat i))] [.ref x])) rfl (by rw [hml]; rfl) c1 (argsL := []) (rest := []) rfl rfl (by show 2 * 0 + 0 ≤ _; decide) (hb hbytes d1) (⟨rfl, hx0.2.2.1, hx.2.2.2.2.1.cd, s1.there X0.warmed.alike hh0, hz⟩)
  obtain ⟨rfl, q2⟩ := E2
  have hh2 := q2.trans hh0
  have hx2 := hx.mv X2.warmed.alike hh2
  obtain ⟨-, k1, k2⟩ | ⟨k0, -⟩ := hx.2.2.2.2.1
  · have c3 : Steps p.tables e below (s₁.setTop (entryFrame m #[.ref x, .int (Int32.ofNat i)] 2)) (T2.setTop (mkF m 8 #[.val (.ref x), .val (.int (Int32.ofNat i))] [.ref x])) := Steps.trans g2 (by
      refine XS.ifNo X2.here hexec rfl (hb hbytes d4) rfl (i0_eq_f (by decide)) ?_
      refine XS.aloadN X2.here hexec rfl (hb hbytes d7) rfl rfl ?_
      exact Steps.refl _)
    obtain ⟨T4, X4, q4, st4⟩ := X2.hget hexec hown (wk W (.fieldLink "java/lang/String" 9 "java/lang/String" "value" "[B")) hx2.2.1 (g := (mkF m 8 #[.val (.ref x), .val (.int (Int32.ofNat i))] [.ref x])) rfl (rest := []) rfl (hb hbytes d8)
    have hh4 := q4.trans hh2
    have c5 : Steps p.tables e below (s₁.setTop (entryFrame m #[.ref x, .int (Int32.ofNat i)] 2)) (T4.setTop (mkF m 12 #[.val (.ref x), .val (.int (Int32.ofNat i))] [.int (Int32.ofNat i), .ref t])) := (c3.trans (st4 _ (Steps.refl _))).trans (by
      refine XS.iloadN X4.here hexec rfl (hb hbytes d11) rfl ?_
      exact Steps.refl _)
    obtain ⟨v6, T6, X6, E6, g6⟩ := X4.callS hexec (LChA.law l t V i (lo8 (f i)) fm) hown (wks W (staticW "java/lang/String" 495 LChA.yN)) (wk W LChA.tab) (W := 0) (Nat.le_of_ble_eq_true rfl) (Nat.le_of_ble_eq_true rfl) (Nat.le_refl _) (Nat.le_refl _) (g := (mkF m 12 #[.val (.ref x), .val (.int (Int32.ofNat i))] [.int (Int32.ofNat i), .ref t])) rfl (by rw [hml]; rfl) c5 (argsL := [.ref t, .int (Int32.ofNat i)]) (rest := []) rfl rfl (by show 2 * 0 + 0 ≤ _; decide) (hb hbytes d12) (⟨rfl, hx.2.2.2.1.mv X4.warmed.alike hh4, (k2 i hi).1, s3.there X4.warmed.alike hh4, rf⟩)
    obtain ⟨rfl, q6⟩ := E6
    rw [chr8_lo8 hr.1 (k2 i hi).2] at g6
    exact ⟨T6, some (.int (f i)), _, _, _, X6, rfl, rfl, rfl, (fun h => by cases h), ⟨rfl, q6.trans hh4⟩, fun fs hl => Steps.trans g6 (X6.ireturnOut hexec hret (narrow_ch hr.1 hr.2) (Or.inr (Or.inr (Or.inr (Or.inl rfl)))) (hb hbytes d15) hl)⟩
  · exact absurd k0 (by decide)
theorem pays {l : Launch} {R : Room} {p : Program} {e : Env} {below : List Frame} {s : State} {sargs : Array Value} {len W : Nat} (x t : Addr) (V : Cell) (n : Nat) (f : Nat → Int32) (z : Int32) (fm : Value) (i : Nat) (htab : tab.before sargs s = true) (hfr : 4 ≤ R.frames) (hlo : W + 53 ≤ R.locals) :
    Back l R p e below s sargs yN len W (fun A₁ a₁ => A₁.cells + 0 ≤ R.cells ∧ A₁.slots + 0 ≤ R.slots ∧ P x t V n f z fm i a₁ A₁.U) (fun A₁ _ v₁ B₁ => E f i v₁ A₁.U B₁.U ∧ B₁.locs = A₁.locs ++ [] ∧ B₁.cells = A₁.cells + 0 ∧ B₁.slots = A₁.slots + 0) :=
  (law l x t V n f z fm i).pays htab hfr (by omega)
end ChN
end StrChars
namespace StrChars.Road
open Jvm Sem ClassFile Op Lib Jvm.Stand Jvm.Free Jvm.Free.XT
open Jvm.Lib.Cold (StaticIs)
/-- the words of String.charAt(int), the Latin-1 road alone -/
abbrev wordsChN : List Jvm.Cond := [.code ChN.yN ChN.yB 2 (some .char), .initialized ST, .fieldLink ST 9 ST "value" "[B", .fieldLink ST 38 ST "COMPACT_STRINGS" "Z", .fieldLink ST 15 ST "coder" "B", .code IsL.yN IsL.yB 1 (some .boolean), .methodLink ST 492 IsL.yN, .declares IsL.yN, .selects ST IsL.yN IsL.yN, .instanceMethod IsL.yN,
  .methodLink ST 495 LChA.yN, .static LChA.yN, .code LChA.yN LChA.yB 2 (some .char), .initialized "java/lang/StringLatin1", .methodLink "java/lang/StringLatin1" 9 JO.Str_checkIndex.yN, .static JO.Str_checkIndex.yN, .code JO.Str_checkIndex.yN JO.Str_checkIndex.yB 2 none,
  .fieldLink ST 1053 "jdk/internal/util/Preconditions" "SIOOBE_FORMATTER" "Ljava/util/function/BiFunction;", .methodLink ST 1059 JC.PreCheck.yN, .static JC.PreCheck.yN, .code JC.PreCheck.yN JC.PreCheck.yB 3 (some .int), .initialized "jdk/internal/util/Preconditions"]
theorem tabChN_of {a : Array Value} {s : State} (h : ∀ w ∈ wordsChN, w.before a s = true) : ChN.tab.before a s = true := by
  have hp : JC.PreCheck.tab.before a s = true := unparts (wk h (.code JC.PreCheck.yN JC.PreCheck.yB 3 (some .int))) (wks h (.initialized JC.PreCheck.yN.cls :: JC.PreCheck.site))
  have qk := consq hp h
  have hk : JO.Str_checkIndex.tab.before a s = true := unparts (wk qk (.code JO.Str_checkIndex.yN JO.Str_checkIndex.yB 2 none)) (wks qk (.initialized JO.Str_checkIndex.yN.cls :: JO.Str_checkIndex.site))
  have ql := consq hk h
  have hl : LChA.tab.before a s = true := unparts (wk ql (.code LChA.yN LChA.yB 2 (some .char))) (wks ql (.initialized LChA.yN.cls :: LChA.site))
  have hi : IsL.tab.before a s = true := unparts (wk h (.code IsL.yN IsL.yB 1 (some .boolean))) (wks h (.initialized IsL.yN.cls :: IsL.site))
  have q := consq hi (consq hl h)
  exact unparts (wk q (.code ChN.yN ChN.yB 2 (some .char))) (wks q (.initialized ChN.yN.cls :: ChN.site))
theorem movedChN {Z s : State} {a0 args : Array Value} (hZ : Z.Warmed39 s.vm) (hw : ∀ d ∈ wordsChN, d.before a0 Z = true) : ∀ d ∈ wordsChN, d.before args s = true := fun d hd => by
  have t : ∀ d ∈ wordsChN, (d.onTables && d.keepsFace) = true := by decide +kernel
  exact RoadKit.mv hZ (hw d hd) (t d hd)
/-- **charAt(i) OF A LATIN-1 STRING**, i < n: the char -/
theorem chN {p : Program} {l : Launch} {e : Env} {R : Room} {s : State} {args : Array Value} {below : List Frame} {len W : Nat} {Z : State} {a0 : Array Value} {h : Heap} (hZ : Z.Warmed39 s.vm) (hw : ∀ d ∈ wordsChN, d.before a0 Z = true) {kI : Nat} (wi : (Jvm.Cond.instantiable ST kI).before a0 Z = true)
    {x t : Addr} {kb : ClassId} {cs : List Int32} {N2 z : Int32} {vs : List Value} {fm : Value} {i : Nat} {j : Int32} (E : RoadKit.Exa Z h x ST) (V : RoadKit.Fld Z h x ST "value" "[B" (.ref t)) (C : RoadKit.Fld Z h x ST "coder" "B" (.int 0)) (K : RoadKit.Arv Z h t kb .byte N2 vs (.int 0)) (hc : CodA cs 0 N2 vs) (hb : ∀ c ∈ cs, ¬ c < 0 ∧ ¬ (65535 : Int32) < c)
    (S : RoadKit.Sta Z h ST "COMPACT_STRINGS" "Z" (.int z)) (hz : ¬ z = 0) (F : RoadKit.Sta Z h "jdk/internal/util/Preconditions" "SIOOBE_FORMATTER" "Ljava/util/function/BiFunction;" fm) (rf : fm.isRef = true) (l2 : cs.length ≤ 4000) (hi : i < cs.length) (hj : j = Int32.ofNat i) (hfr : 4 ≤ R.frames) (hlo : W + 53 ≤ R.locals) :
    Back l R p e below s args (⟨"java/lang/String", "charAt", "(I)C"⟩ : MethodName) len W (fun P a => a = #[.ref x, .int j] ∧ P.U.heap = h ∧ P.cells + 0 ≤ R.cells ∧ P.slots + 0 ≤ R.slots)
      (fun P _ v B => ∃ L, (v = some (.int (cs.getD i 0)) ∧ L = [] ∧ B.U.heap = h) ∧ B.locs = P.locs ++ L ∧ B.cells = P.cells + 0 ∧ B.slots = P.slots + 0) := by
  subst hj
  intro m meth c P g ig mk a X hg hsize hdg hW hn hp'
  obtain ⟨rfl, rfl, r1, r2⟩ := hp'
  have al : Z.vm.Alike P.U.vm := hZ.alike.trans X.warmed.alike
  obtain ⟨A, hx⟩ := txt_of wi al E V C K hc hb l2
  obtain ⟨v, B, X', ⟨⟨hv, hh⟩, hl, hk, hs⟩, st⟩ := ChN.pays x t A cs.length (fun j => cs.getD j 0) z fm i (tabChN_of (movedChN hZ hw)) hfr hlo m meth c P g ig mk _ X hg hsize hdg hW hn ⟨r1, r2, rfl, hx, hi, sta_is al S, hz, sta_is al F, rf⟩
  exact ⟨v, B, X', ⟨[], ⟨hv, rfl, hh⟩, hl, hk, hs⟩, st⟩
/-- what backV says of its String, as the contracts of this text ask it: cs's low bytes, coder 0 -/
theorem codOf {cs : List Int32} {n : Nat} (hn : cs.length = n) (hb : ∀ c ∈ cs, ¬ 255 < c) : CodA cs 0 (Int32.ofNat n) ((cs.map lo8).map Value.int) := Or.inl ⟨rfl, by rw [hn], by simp [List.map_map, Function.comp_def], hb⟩
end StrChars.Road
end Jvm.Pilot.@@N@@
namespace Jvm.Pilot.@@N@@
open Jvm Jvm.ClassFile Sem Op Lib Jvm.Free Jvm.Stand Jvm.LawKit Jvm.RoadKit Bundle Jvm.Pilot.@@N@@.Jvm.D
section OwnGo
variable {p : Program} {e : Env} {below : List Frame} {F : State → Outcome → Prop} {m : MethodId} {c : Code} {T U V : State} {pc pc' pc2 : Nat} {Ls L' : Array Slot} {st : List Value}
/-- from here the walk comes to an end that F takes -/
def own_Go (p : Program) (e : Env) (below : List Frame) (F : State → Outcome → Prop) (U : State) : Prop := ∃ (t : State) (o : Outcome), Steps p.tables e below U t ∧ t.status = .running ∧ Ended t below o ∧ F t o
theorem own_on (h : ∀ t, Steps p.tables e below V t → Steps p.tables e below U t) (g : own_Go p e below F V) : own_Go p e below F U := by
  obtain ⟨t, o, h1, r⟩ := g; exact ⟨t, o, h t h1, r⟩
theorem own_to (h : Steps p.tables e below U V) (g : own_Go p e below F V) : own_Go p e below F U := by
  obtain ⟨t, o, h1, r⟩ := g; exact ⟨t, o, h.trans h1, r⟩
theorem own_aload_n (h : At T m c below) (hx : p.tables.exec = Jvm.exec) {k : Fin 4} {v : Value} (hd : decode c.code pc = .ok (.aload_n k, 1)) (hl : Ls[k.val]? = some (.val v)) (hv : v.isRef = true) (hp : pc + 1 = pc') (K : own_Go p e below F (T.setTop (mkF m pc' Ls (v :: st)))) : own_Go p e below F (T.setTop (mkF m pc Ls st)) := by
  subst hp; exact own_on (fun _ => XS.aloadN h hx rfl hd hl hv) K
theorem own_aload (h : At T m c below) (hx : p.tables.exec = Jvm.exec) {k : Nat} {v : Value} (hd : decode c.code pc = .ok (.aload k, 2)) (hl : Ls[k]? = some (.val v)) (hv : v.isRef = true) (hp : pc + 2 = pc') (K : own_Go p e below F (T.setTop (mkF m pc' Ls (v :: st)))) : own_Go p e below F (T.setTop (mkF m pc Ls st)) := by
  subst hp; exact own_on (fun _ => XS.aload h hx rfl hd hl hv) K
theorem own_iload_n (h : At T m c below) (hx : p.tables.exec = Jvm.exec) {k : Fin 4} {v : Int32} (hd : decode c.code pc = .ok (.iload_n k, 1)) (hl : Ls[k.val]? = some (.val (.int v))) (hp : pc + 1 = pc') (K : own_Go p e below F (T.setTop (mkF m pc' Ls (.int v :: st)))) : own_Go p e below F (T.setTop (mkF m pc Ls st)) := by
  subst hp; exact own_on (fun _ => XS.iloadN h hx rfl hd hl) K
theorem own_iload (h : At T m c below) (hx : p.tables.exec = Jvm.exec) {k : Nat} {v : Int32} (hd : decode c.code pc = .ok (.iload k, 2)) (hl : Ls[k]? = some (.val (.int v))) (hp : pc + 2 = pc') (K : own_Go p e below F (T.setTop (mkF m pc' Ls (.int v :: st)))) : own_Go p e below F (T.setTop (mkF m pc Ls st)) := by
  subst hp; exact own_on (fun _ => XS.iload h hx rfl hd hl) K
theorem own_lload_n (h : At T m c below) (hx : p.tables.exec = Jvm.exec) {k : Fin 4} {v : Int64} (hd : decode c.code pc = .ok (.lload_n k, 1)) (hl : Ls[k.val]? = some (.val (.long v))) (hp : pc + 1 = pc') (K : own_Go p e below F (T.setTop (mkF m pc' Ls (.long v :: st)))) : own_Go p e below F (T.setTop (mkF m pc Ls st)) := by
  subst hp; exact own_on (fun _ => XT.lloadN h hx rfl hd hl) K
theorem own_lload (h : At T m c below) (hx : p.tables.exec = Jvm.exec) {k : Nat} {v : Int64} (hd : decode c.code pc = .ok (.lload k, 2)) (hl : Ls[k]? = some (.val (.long v))) (hp : pc + 2 = pc') (K : own_Go p e below F (T.setTop (mkF m pc' Ls (.long v :: st)))) : own_Go p e below F (T.setTop (mkF m pc Ls st)) := by
  subst hp; exact own_on (fun _ => XT.lload h hx rfl hd hl) K
theorem own_dload_n (h : At T m c below) (hx : p.tables.exec = Jvm.exec) {k : Fin 4} {v : UInt64} (hd : decode c.code pc = .ok (.dload_n k, 1)) (hl : Ls[k.val]? = some (.val (.double v))) (hp : pc + 1 = pc') (K : own_Go p e below F (T.setTop (mkF m pc' Ls (.double v :: st)))) : own_Go p e below F (T.setTop (mkF m pc Ls st)) := by
  subst hp; exact own_on (fun _ => XS.dloadN h hx rfl hd hl) K
theorem own_dload (h : At T m c below) (hx : p.tables.exec = Jvm.exec) {k : Nat} {v : UInt64} (hd : decode c.code pc = .ok (.dload k, 2)) (hl : Ls[k]? = some (.val (.double v))) (hp : pc + 2 = pc') (K : own_Go p e below F (T.setTop (mkF m pc' Ls (.double v :: st)))) : own_Go p e below F (T.setTop (mkF m pc Ls st)) := by
  subst hp; exact own_on (fun _ => XS.dload h hx rfl hd hl) K
theorem own_iconst (h : At T m c below) (hx : p.tables.exec = Jvm.exec) {i : Int} {v : Int32} (hd : decode c.code pc = .ok (.iconst i, 1)) (hv : Int32.ofInt i = v) (hp : pc + 1 = pc') (K : own_Go p e below F (T.setTop (mkF m pc' Ls (.int v :: st)))) : own_Go p e below F (T.setTop (mkF m pc Ls st)) := by
  subst hp hv; exact own_on (fun _ => XS.iconst h hx rfl hd) K
theorem own_bipush (h : At T m c below) (hx : p.tables.exec = Jvm.exec) {i : Int} {v : Int32} (hd : decode c.code pc = .ok (.bipush i, 2)) (hv : (Int8.ofInt i).toInt32 = v) (hp : pc + 2 = pc') (K : own_Go p e below F (T.setTop (mkF m pc' Ls (.int v :: st)))) : own_Go p e below F (T.setTop (mkF m pc Ls st)) := by
  subst hp hv; exact own_on (fun _ => XS.bipush h hx rfl hd) K
theorem own_sipush (h : At T m c below) (hx : p.tables.exec = Jvm.exec) {i : Int} {v : Int32} (hd : decode c.code pc = .ok (.sipush i, 3)) (hv : (Int16.ofInt i).toInt32 = v) (hp : pc + 3 = pc') (K : own_Go p e below F (T.setTop (mkF m pc' Ls (.int v :: st)))) : own_Go p e below F (T.setTop (mkF m pc Ls st)) := by
  subst hp hv; exact own_on (fun _ => XS.sipush h hx rfl hd) K
theorem own_lconst (h : At T m c below) (hx : p.tables.exec = Jvm.exec) {k : Fin 2} {v : Int64} (hd : decode c.code pc = .ok (.lconst k, 1)) (hv : Int64.ofNat k = v) (hp : pc + 1 = pc') (K : own_Go p e below F (T.setTop (mkF m pc' Ls (.long v :: st)))) : own_Go p e below F (T.setTop (mkF m pc Ls st)) := by
  subst hp hv; exact own_on (fun _ => XT.lconst h hx rfl hd) K
theorem own_aconst_null (h : At T m c below) (hx : p.tables.exec = Jvm.exec) (hd : decode c.code pc = .ok (.aconst_null, 1)) (hp : pc + 1 = pc') (K : own_Go p e below F (T.setTop (mkF m pc' Ls (.null :: st)))) : own_Go p e below F (T.setTop (mkF m pc Ls st)) := by
  subst hp; exact own_on (fun _ => XS.aconstNull h hx rfl hd) K
theorem own_iadd (h : At T m c below) (hx : p.tables.exec = Jvm.exec) {x y : Int32} (hd : decode c.code pc = .ok (.iadd, 1)) (hp : pc + 1 = pc') (K : own_Go p e below F (T.setTop (mkF m pc' Ls (.int (x + y) :: st)))) : own_Go p e below F (T.setTop (mkF m pc Ls (.int y :: .int x :: st))) := by
  subst hp; exact own_on (fun _ => XS.iadd h hx rfl hd rfl) K
theorem own_isub (h : At T m c below) (hx : p.tables.exec = Jvm.exec) {x y : Int32} (hd : decode c.code pc = .ok (.isub, 1)) (hp : pc + 1 = pc') (K : own_Go p e below F (T.setTop (mkF m pc' Ls (.int (x - y) :: st)))) : own_Go p e below F (T.setTop (mkF m pc Ls (.int y :: .int x :: st))) := by
  subst hp; exact own_on (fun _ => XS.isub h hx rfl hd rfl) K
theorem own_imul (h : At T m c below) (hx : p.tables.exec = Jvm.exec) {x y : Int32} (hd : decode c.code pc = .ok (.imul, 1)) (hp : pc + 1 = pc') (K : own_Go p e below F (T.setTop (mkF m pc' Ls (.int (x * y) :: st)))) : own_Go p e below F (T.setTop (mkF m pc Ls (.int y :: .int x :: st))) := by
  subst hp; exact own_on (fun _ => XS.imul h hx rfl hd rfl) K
theorem own_irem (h : At T m c below) (hx : p.tables.exec = Jvm.exec) {x y : Int32} (hd : decode c.code pc = .ok (.irem, 1)) (hy : y ≠ 0) (hp : pc + 1 = pc') (K : own_Go p e below F (T.setTop (mkF m pc' Ls (.int (x % y) :: st)))) : own_Go p e below F (T.setTop (mkF m pc Ls (.int y :: .int x :: st))) := by
  subst hp; exact own_on (fun _ hr => XS.irem h hx rfl hd rfl hy (by rw [show x - x / y * y = x % y from irem_eq_mod x y]; exact hr)) K
theorem own_iand (h : At T m c below) (hx : p.tables.exec = Jvm.exec) {x y : Int32} (hd : decode c.code pc = .ok (.iand, 1)) (hp : pc + 1 = pc') (K : own_Go p e below F (T.setTop (mkF m pc' Ls (.int (x &&& y) :: st)))) : own_Go p e below F (T.setTop (mkF m pc Ls (.int y :: .int x :: st))) := by
  subst hp; exact own_on (fun _ => XS.iand h hx rfl hd rfl) K
theorem own_ior (h : At T m c below) (hx : p.tables.exec = Jvm.exec) {x y : Int32} (hd : decode c.code pc = .ok (.ior, 1)) (hp : pc + 1 = pc') (K : own_Go p e below F (T.setTop (mkF m pc' Ls (.int (x ||| y) :: st)))) : own_Go p e below F (T.setTop (mkF m pc Ls (.int y :: .int x :: st))) := by
  subst hp; exact own_on (fun _ => XT.ior h hx rfl hd rfl) K
theorem own_ishl (h : At T m c below) (hx : p.tables.exec = Jvm.exec) {x y : Int32} (hd : decode c.code pc = .ok (.ishl, 1)) (hp : pc + 1 = pc') (K : own_Go p e below F (T.setTop (mkF m pc' Ls (.int (x <<< (y &&& 31)) :: st)))) : own_Go p e below F (T.setTop (mkF m pc Ls (.int y :: .int x :: st))) := by
  subst hp; exact own_on (fun _ => XT.ishl h hx rfl hd rfl) K
theorem own_ishr (h : At T m c below) (hx : p.tables.exec = Jvm.exec) {x y : Int32} (hd : decode c.code pc = .ok (.ishr, 1)) (hp : pc + 1 = pc') (K : own_Go p e below F (T.setTop (mkF m pc' Ls (.int (x >>> (y &&& 31)) :: st)))) : own_Go p e below F (T.setTop (mkF m pc Ls (.int y :: .int x :: st))) := by
  subst hp; exact own_on (fun _ => XT.ishr h hx rfl hd rfl) K
theorem own_iushr (h : At T m c below) (hx : p.tables.exec = Jvm.exec) {x y : Int32} (hd : decode c.code pc = .ok (.iushr, 1)) (hp : pc + 1 = pc') (K : own_Go p e below F (T.setTop (mkF m pc' Ls (.int (XT.ushr x y) :: st)))) : own_Go p e below F (T.setTop (mkF m pc Ls (.int y :: .int x :: st))) := by
  subst hp; exact own_on (fun _ => XT.iushr h hx rfl hd rfl) K
theorem own_i2l (h : At T m c below) (hx : p.tables.exec = Jvm.exec) {x : Int32} (hd : decode c.code pc = .ok (.i2l, 1)) (hp : pc + 1 = pc') (K : own_Go p e below F (T.setTop (mkF m pc' Ls (.long x.toInt64 :: st)))) : own_Go p e below F (T.setTop (mkF m pc Ls (.int x :: st))) := by
  subst hp; exact own_on (fun _ => XT.i2l h hx rfl hd rfl) K
theorem own_l2i (h : At T m c below) (hx : p.tables.exec = Jvm.exec) {x : Int64} (hd : decode c.code pc = .ok (.l2i, 1)) (hp : pc + 1 = pc') (K : own_Go p e below F (T.setTop (mkF m pc' Ls (.int x.toInt32 :: st)))) : own_Go p e below F (T.setTop (mkF m pc Ls (.long x :: st))) := by
  subst hp; exact own_on (fun _ => XT.l2i h hx rfl hd rfl) K
/-- (char) x -/
def own_c (x : Int32) : Int32 := x.toUInt32.toUInt16.toUInt32.toInt32
theorem own_i2c (h : At T m c below) (hx : p.tables.exec = Jvm.exec) {x : Int32} (hd : decode c.code pc = .ok (.i2c, 1)) (hp : pc + 1 = pc') (K : own_Go p e below F (T.setTop (mkF m pc' Ls (.int (own_c x) :: st)))) : own_Go p e below F (T.setTop (mkF m pc Ls (.int x :: st))) := by
  subst hp; exact own_on (fun _ => XT.i2c h hx rfl hd rfl) K
theorem own_i2b (h : At T m c below) (hx : p.tables.exec = Jvm.exec) {x : Int32} (hd : decode c.code pc = .ok (.i2b, 1)) (hp : pc + 1 = pc') (K : own_Go p e below F (T.setTop (mkF m pc' Ls (.int x.toInt8.toInt32 :: st)))) : own_Go p e below F (T.setTop (mkF m pc Ls (.int x :: st))) := by
  subst hp; exact own_on (fun _ => XT.i2b h hx rfl hd rfl) K
theorem own_i2d (h : At T m c below) (hx : p.tables.exec = Jvm.exec) {x : Int32} (hd : decode c.code pc = .ok (.i2d, 1)) (hp : pc + 1 = pc') (K : own_Go p e below F (T.setTop (mkF m pc' Ls (.double (FP.i2d x) :: st)))) : own_Go p e below F (T.setTop (mkF m pc Ls (.int x :: st))) := by
  subst hp; exact own_on (fun _ => XS.i2dS h hx rfl hd rfl rfl) K
theorem own_l2d (h : At T m c below) (hx : p.tables.exec = Jvm.exec) {x : Int64} (hd : decode c.code pc = .ok (.l2d, 1)) (hp : pc + 1 = pc') (K : own_Go p e below F (T.setTop (mkF m pc' Ls (.double (FP.l2d x) :: st)))) : own_Go p e below F (T.setTop (mkF m pc Ls (.long x :: st))) := by
  subst hp; exact own_on (fun _ => XS.l2dS h hx rfl hd rfl rfl) K
theorem own_dneg (h : At T m c below) (hx : p.tables.exec = Jvm.exec) {x : UInt64} (hd : decode c.code pc = .ok (.dneg, 1)) (hp : pc + 1 = pc') (K : own_Go p e below F (T.setTop (mkF m pc' Ls (.double (FP.dneg x) :: st)))) : own_Go p e below F (T.setTop (mkF m pc Ls (.double x :: st))) := by
  subst hp; exact own_on (fun _ => XS.dnegS h hx rfl hd rfl rfl) K
theorem own_dcmp (h : At T m c below) (hx : p.tables.exec = Jvm.exec) {o : CmpOp} {x y : UInt64} {v : Int32} (hd : decode c.code pc = .ok (.dcmp o, 1)) (hv : cmpValue (FP.dcmp x y) o = v) (hp : pc + 1 = pc') (K : own_Go p e below F (T.setTop (mkF m pc' Ls (.int v :: st)))) : own_Go p e below F (T.setTop (mkF m pc Ls (.double y :: .double x :: st))) := by
  subst hp; exact own_on (fun _ => XS.dcmpS h hx rfl hd rfl hv) K
theorem own_dmul (h : At T m c below) (hx : p.tables.exec = Jvm.exec) {x y : UInt64} (hd : decode c.code pc = .ok (.dmul, 1)) (hn : Jvm.Free.Fl.NoNaN64 (FP.dmul x y)) (hp : pc + 1 = pc') (K : own_Go p e below F (T.setTop (mkF m pc' Ls (.double (FP.dmul x y) :: st)))) : own_Go p e below F (T.setTop (mkF m pc Ls (.double y :: .double x :: st))) := by
  subst hp; exact own_on (fun _ => XS.dmulS h hx rfl hd rfl hn rfl) K
theorem own_ddiv (h : At T m c below) (hx : p.tables.exec = Jvm.exec) {x y : UInt64} (hd : decode c.code pc = .ok (.ddiv, 1)) (hn : Jvm.Free.Fl.NoNaN64 (FP.ddiv x y)) (hp : pc + 1 = pc') (K : own_Go p e below F (T.setTop (mkF m pc' Ls (.double (FP.ddiv x y) :: st)))) : own_Go p e below F (T.setTop (mkF m pc Ls (.double y :: .double x :: st))) := by
  subst hp; exact own_on (fun _ => XS.ddivS h hx rfl hd rfl hn rfl) K
theorem own_ladd (h : At T m c below) (hx : p.tables.exec = Jvm.exec) {x y : Int64} (hd : decode c.code pc = .ok (.ladd, 1)) (hp : pc + 1 = pc') (K : own_Go p e below F (T.setTop (mkF m pc' Ls (.long (x + y) :: st)))) : own_Go p e below F (T.setTop (mkF m pc Ls (.long y :: .long x :: st))) := by
  subst hp; exact own_on (fun _ => XT.ladd h hx rfl hd rfl) K
theorem own_lsub (h : At T m c below) (hx : p.tables.exec = Jvm.exec) {x y : Int64} (hd : decode c.code pc = .ok (.lsub, 1)) (hp : pc + 1 = pc') (K : own_Go p e below F (T.setTop (mkF m pc' Ls (.long (x - y) :: st)))) : own_Go p e below F (T.setTop (mkF m pc Ls (.long y :: .long x :: st))) := by
  subst hp; exact own_on (fun _ => XT.lsub h hx rfl hd rfl) K
theorem own_lmul (h : At T m c below) (hx : p.tables.exec = Jvm.exec) {x y : Int64} (hd : decode c.code pc = .ok (.lmul, 1)) (hp : pc + 1 = pc') (K : own_Go p e below F (T.setTop (mkF m pc' Ls (.long (x * y) :: st)))) : own_Go p e below F (T.setTop (mkF m pc Ls (.long y :: .long x :: st))) := by
  subst hp; exact own_on (fun _ => XT.lmul h hx rfl hd rfl) K
theorem own_land (h : At T m c below) (hx : p.tables.exec = Jvm.exec) {x y : Int64} (hd : decode c.code pc = .ok (.land, 1)) (hp : pc + 1 = pc') (K : own_Go p e below F (T.setTop (mkF m pc' Ls (.long (x &&& y) :: st)))) : own_Go p e below F (T.setTop (mkF m pc Ls (.long y :: .long x :: st))) := by
  subst hp; exact own_on (fun _ => XT.land h hx rfl hd rfl) K
theorem own_lneg (h : At T m c below) (hx : p.tables.exec = Jvm.exec) {x : Int64} (hd : decode c.code pc = .ok (.lneg, 1)) (hp : pc + 1 = pc') (K : own_Go p e below F (T.setTop (mkF m pc' Ls (.long (-x) :: st)))) : own_Go p e below F (T.setTop (mkF m pc Ls (.long x :: st))) := by
  subst hp; exact own_on (fun _ => XT.lneg h hx rfl hd rfl) K
theorem own_lushr (h : At T m c below) (hx : p.tables.exec = Jvm.exec) {x : Int64} {y : Int32} (hd : decode c.code pc = .ok (.lushr, 1)) (hp : pc + 1 = pc') (K : own_Go p e below F (T.setTop (mkF m pc' Ls (.long (XT.ushrL x y) :: st)))) : own_Go p e below F (T.setTop (mkF m pc Ls (.int y :: .long x :: st))) := by
  subst hp; exact own_on (fun _ => XT.lushr h hx rfl hd rfl) K
theorem own_lcmp (h : At T m c below) (hx : p.tables.exec = Jvm.exec) {x y : Int64} (hd : decode c.code pc = .ok (.lcmp, 1)) (hp : pc + 1 = pc') (K : own_Go p e below F (T.setTop (mkF m pc' Ls (.int (XT.cmpL x y) :: st)))) : own_Go p e below F (T.setTop (mkF m pc Ls (.long y :: .long x :: st))) := by
  subst hp; exact own_on (fun _ => XT.lcmp h hx rfl hd rfl) K
theorem own_dup (h : At T m c below) (hx : p.tables.exec = Jvm.exec) {x : Value} (hd : decode c.code pc = .ok (.dup, 1)) (hc : x.category = 1) (hp : pc + 1 = pc') (K : own_Go p e below F (T.setTop (mkF m pc' Ls (x :: x :: st)))) : own_Go p e below F (T.setTop (mkF m pc Ls (x :: st))) := by
  subst hp; exact own_on (fun _ => XS.dup h hx rfl hd rfl hc) K
theorem own_pop (h : At T m c below) (hx : p.tables.exec = Jvm.exec) {x : Value} (hd : decode c.code pc = .ok (.pop, 1)) (hc : x.category = 1) (hp : pc + 1 = pc') (K : own_Go p e below F (T.setTop (mkF m pc' Ls st))) : own_Go p e below F (T.setTop (mkF m pc Ls (x :: st))) := by
  subst hp; exact own_on (fun _ => XT.pop h hx rfl hd rfl hc) K
theorem own_istore_n (h : At T m c below) (hx : p.tables.exec = Jvm.exec) {k : Fin 4} {x : Int32} (hd : decode c.code pc = .ok (.istore_n k, 1)) (hl : storeLocals Ls k.val (.int x) = some L') (hp : pc + 1 = pc') (K : own_Go p e below F (T.setTop (mkF m pc' L' st))) : own_Go p e below F (T.setTop (mkF m pc Ls (.int x :: st))) := by
  subst hp; exact own_on (fun _ => XS.istoreN h hx rfl hd rfl hl) K
theorem own_istore (h : At T m c below) (hx : p.tables.exec = Jvm.exec) {k : Nat} {x : Int32} (hd : decode c.code pc = .ok (.istore k, 2)) (hl : storeLocals Ls k (.int x) = some L') (hp : pc + 2 = pc') (K : own_Go p e below F (T.setTop (mkF m pc' L' st))) : own_Go p e below F (T.setTop (mkF m pc Ls (.int x :: st))) := by
  subst hp; exact own_on (fun _ => XS.istore h hx rfl hd rfl hl) K
theorem own_astore_n (h : At T m c below) (hx : p.tables.exec = Jvm.exec) {k : Fin 4} {x : Value} (hd : decode c.code pc = .ok (.astore_n k, 1)) (hv : x.isRef = true) (hl : storeLocals Ls k.val x = some L') (hp : pc + 1 = pc') (K : own_Go p e below F (T.setTop (mkF m pc' L' st))) : own_Go p e below F (T.setTop (mkF m pc Ls (x :: st))) := by
  subst hp; exact own_on (fun _ => XS.astoreN h hx rfl hd rfl hv hl) K
theorem own_astore (h : At T m c below) (hx : p.tables.exec = Jvm.exec) {k : Nat} {x : Value} (hd : decode c.code pc = .ok (.astore k, 2)) (hv : x.isRef = true) (hl : storeLocals Ls k x = some L') (hp : pc + 2 = pc') (K : own_Go p e below F (T.setTop (mkF m pc' L' st))) : own_Go p e below F (T.setTop (mkF m pc Ls (x :: st))) := by
  subst hp; exact own_on (fun _ => XS.astore h hx rfl hd rfl hv hl) K
theorem own_lstore_n (h : At T m c below) (hx : p.tables.exec = Jvm.exec) {k : Fin 4} {x : Int64} (hd : decode c.code pc = .ok (.lstore_n k, 1)) (hl : storeLocals Ls k.val (.long x) = some L') (hp : pc + 1 = pc') (K : own_Go p e below F (T.setTop (mkF m pc' L' st))) : own_Go p e below F (T.setTop (mkF m pc Ls (.long x :: st))) := by
  subst hp; exact own_on (fun _ => XT.lstoreN h hx rfl hd rfl hl) K
theorem own_lstore (h : At T m c below) (hx : p.tables.exec = Jvm.exec) {k : Nat} {x : Int64} (hd : decode c.code pc = .ok (.lstore k, 2)) (hl : storeLocals Ls k (.long x) = some L') (hp : pc + 2 = pc') (K : own_Go p e below F (T.setTop (mkF m pc' L' st))) : own_Go p e below F (T.setTop (mkF m pc Ls (.long x :: st))) := by
  subst hp; exact own_on (fun _ => XT.lstore h hx rfl hd rfl hl) K
theorem own_dstore (h : At T m c below) (hx : p.tables.exec = Jvm.exec) {k : Nat} {x : UInt64} (hd : decode c.code pc = .ok (.dstore k, 2)) (hl : storeLocals Ls k (.double x) = some L') (hp : pc + 2 = pc') (K : own_Go p e below F (T.setTop (mkF m pc' L' st))) : own_Go p e below F (T.setTop (mkF m pc Ls (.double x :: st))) := by
  subst hp; exact own_on (fun _ => XS.dstore h hx rfl hd rfl hl) K
theorem own_iinc (h : At T m c below) (hx : p.tables.exec = Jvm.exec) {k : Nat} {i : Int} {x y : Int32} (hd : decode c.code pc = .ok (.iinc k i, 3)) (hl : Ls[k]? = some (.val (.int x))) (hy : x + Int32.ofInt i = y) (hl' : storeLocals Ls k (.int y) = some L') (hp : pc + 3 = pc') (K : own_Go p e below F (T.setTop (mkF m pc' L' st))) : own_Go p e below F (T.setTop (mkF m pc Ls st)) := by
  subst hp hy; exact own_on (fun _ => XS.iinc h hx rfl hd hl hl') K
theorem own_goto (h : At T m c below) (hx : p.tables.exec = Jvm.exec) {o : Int} (hd : decode c.code pc = .ok (.goto o, 3)) (ho : 0 ≤ (pc : Int) + o) (hp : ((pc : Int) + o).toNat = pc') (K : own_Go p e below F (T.setTop (mkF m pc' Ls st))) : own_Go p e below F (T.setTop (mkF m pc Ls st)) :=
  own_on (fun _ => XS.goto h hx rfl rfl hd ho hp) K
theorem own_if (h : At T m c below) (hx : p.tables.exec = Jvm.exec) {cd : ClassFile.Cond} {x : Int32} {o : Int} (hd : decode c.code pc = .ok (.ifCond cd o, 3)) (ho : 0 ≤ (pc : Int) + o) (hp : ((pc : Int) + o).toNat = pc') (hp2 : pc + 3 = pc2)
    (Y : ifCond.holds cd x = true → own_Go p e below F (T.setTop (mkF m pc' Ls st))) (N : ifCond.holds cd x = false → own_Go p e below F (T.setTop (mkF m pc2 Ls st))) : own_Go p e below F (T.setTop (mkF m pc Ls (.int x :: st))) := by
  subst hp2
  cases hc : ifCond.holds cd x with
  | true => exact own_on (fun _ => XS.ifYes h hx rfl rfl hd rfl hc ho hp) (Y hc)
  | false => exact own_on (fun _ => XS.ifNo h hx rfl hd rfl hc) (N hc)
theorem own_icmp (h : At T m c below) (hx : p.tables.exec = Jvm.exec) {cd : ClassFile.Cond} {x y : Int32} {o : Int} (hd : decode c.code pc = .ok (.if_icmp cd o, 3)) (ho : 0 ≤ (pc : Int) + o) (hp : ((pc : Int) + o).toNat = pc') (hp2 : pc + 3 = pc2)
    (Y : if_icmp.holds cd x y = true → own_Go p e below F (T.setTop (mkF m pc' Ls st))) (N : if_icmp.holds cd x y = false → own_Go p e below F (T.setTop (mkF m pc2 Ls st))) : own_Go p e below F (T.setTop (mkF m pc Ls (.int y :: .int x :: st))) := by
  subst hp2
  cases hc : if_icmp.holds cd x y with
  | true => exact own_on (fun _ => XS.icmpYes h hx rfl rfl hd rfl hc ho hp) (Y hc)
  | false => exact own_on (fun _ => XS.icmpNo h hx rfl hd rfl hc) (N hc)
theorem own_ifeq (h : At T m c below) (hx : p.tables.exec = Jvm.exec) {x : Int32} {o : Int} (hd : decode c.code pc = .ok (.ifCond .eq o, 3)) (ho : 0 ≤ (pc : Int) + o) (hp : ((pc : Int) + o).toNat = pc') (hp2 : pc + 3 = pc2)
    (Y : x = 0 → own_Go p e below F (T.setTop (mkF m pc' Ls st))) (N : ¬ x = 0 → own_Go p e below F (T.setTop (mkF m pc2 Ls st))) : own_Go p e below F (T.setTop (mkF m pc Ls (.int x :: st))) :=
  own_if h hx hd ho hp hp2 (fun q => Y (by simpa [ifCond.holds] using q)) (fun q => N (by simpa [ifCond.holds] using q))
theorem own_ifne (h : At T m c below) (hx : p.tables.exec = Jvm.exec) {x : Int32} {o : Int} (hd : decode c.code pc = .ok (.ifCond .ne o, 3)) (ho : 0 ≤ (pc : Int) + o) (hp : ((pc : Int) + o).toNat = pc') (hp2 : pc + 3 = pc2)
    (Y : ¬ x = 0 → own_Go p e below F (T.setTop (mkF m pc' Ls st))) (N : x = 0 → own_Go p e below F (T.setTop (mkF m pc2 Ls st))) : own_Go p e below F (T.setTop (mkF m pc Ls (.int x :: st))) :=
  own_if h hx hd ho hp hp2 (fun q => Y (by simpa [ifCond.holds] using q)) (fun q => N (by simpa [ifCond.holds] using q))
theorem own_iflt (h : At T m c below) (hx : p.tables.exec = Jvm.exec) {x : Int32} {o : Int} (hd : decode c.code pc = .ok (.ifCond .lt o, 3)) (ho : 0 ≤ (pc : Int) + o) (hp : ((pc : Int) + o).toNat = pc') (hp2 : pc + 3 = pc2)
    (Y : x < 0 → own_Go p e below F (T.setTop (mkF m pc' Ls st))) (N : ¬ x < 0 → own_Go p e below F (T.setTop (mkF m pc2 Ls st))) : own_Go p e below F (T.setTop (mkF m pc Ls (.int x :: st))) :=
  own_if h hx hd ho hp hp2 (fun q => Y (of_decide_eq_true q)) (fun q => N (of_decide_eq_false q))
theorem own_ifge (h : At T m c below) (hx : p.tables.exec = Jvm.exec) {x : Int32} {o : Int} (hd : decode c.code pc = .ok (.ifCond .ge o, 3)) (ho : 0 ≤ (pc : Int) + o) (hp : ((pc : Int) + o).toNat = pc') (hp2 : pc + 3 = pc2)
    (Y : ¬ x < 0 → own_Go p e below F (T.setTop (mkF m pc' Ls st))) (N : x < 0 → own_Go p e below F (T.setTop (mkF m pc2 Ls st))) : own_Go p e below F (T.setTop (mkF m pc Ls (.int x :: st))) :=
  own_if h hx hd ho hp hp2 (fun q => Y (Int32.not_lt.mpr (of_decide_eq_true q))) (fun q => N (Int32.not_le.mp (of_decide_eq_false q)))
theorem own_ifgt (h : At T m c below) (hx : p.tables.exec = Jvm.exec) {x : Int32} {o : Int} (hd : decode c.code pc = .ok (.ifCond .gt o, 3)) (ho : 0 ≤ (pc : Int) + o) (hp : ((pc : Int) + o).toNat = pc') (hp2 : pc + 3 = pc2)
    (Y : 0 < x → own_Go p e below F (T.setTop (mkF m pc' Ls st))) (N : ¬ 0 < x → own_Go p e below F (T.setTop (mkF m pc2 Ls st))) : own_Go p e below F (T.setTop (mkF m pc Ls (.int x :: st))) :=
  own_if h hx hd ho hp hp2 (fun q => Y (of_decide_eq_true q)) (fun q => N (of_decide_eq_false q))
theorem own_ifle (h : At T m c below) (hx : p.tables.exec = Jvm.exec) {x : Int32} {o : Int} (hd : decode c.code pc = .ok (.ifCond .le o, 3)) (ho : 0 ≤ (pc : Int) + o) (hp : ((pc : Int) + o).toNat = pc') (hp2 : pc + 3 = pc2)
    (Y : ¬ 0 < x → own_Go p e below F (T.setTop (mkF m pc' Ls st))) (N : 0 < x → own_Go p e below F (T.setTop (mkF m pc2 Ls st))) : own_Go p e below F (T.setTop (mkF m pc Ls (.int x :: st))) :=
  own_if h hx hd ho hp hp2 (fun q => Y (Int32.not_lt.mpr (of_decide_eq_true q))) (fun q => N (Int32.not_le.mp (of_decide_eq_false q)))
theorem own_icmpeq (h : At T m c below) (hx : p.tables.exec = Jvm.exec) {x y : Int32} {o : Int} (hd : decode c.code pc = .ok (.if_icmp .eq o, 3)) (ho : 0 ≤ (pc : Int) + o) (hp : ((pc : Int) + o).toNat = pc') (hp2 : pc + 3 = pc2)
    (Y : x = y → own_Go p e below F (T.setTop (mkF m pc' Ls st))) (N : ¬ x = y → own_Go p e below F (T.setTop (mkF m pc2 Ls st))) : own_Go p e below F (T.setTop (mkF m pc Ls (.int y :: .int x :: st))) :=
  own_icmp h hx hd ho hp hp2 (fun q => Y (by simpa [if_icmp.holds] using q)) (fun q => N (by simpa [if_icmp.holds] using q))
theorem own_icmpne (h : At T m c below) (hx : p.tables.exec = Jvm.exec) {x y : Int32} {o : Int} (hd : decode c.code pc = .ok (.if_icmp .ne o, 3)) (ho : 0 ≤ (pc : Int) + o) (hp : ((pc : Int) + o).toNat = pc') (hp2 : pc + 3 = pc2)
    (Y : ¬ x = y → own_Go p e below F (T.setTop (mkF m pc' Ls st))) (N : x = y → own_Go p e below F (T.setTop (mkF m pc2 Ls st))) : own_Go p e below F (T.setTop (mkF m pc Ls (.int y :: .int x :: st))) :=
  own_icmp h hx hd ho hp hp2 (fun q => Y (by simpa [if_icmp.holds] using q)) (fun q => N (by simpa [if_icmp.holds] using q))
theorem own_icmplt (h : At T m c below) (hx : p.tables.exec = Jvm.exec) {x y : Int32} {o : Int} (hd : decode c.code pc = .ok (.if_icmp .lt o, 3)) (ho : 0 ≤ (pc : Int) + o) (hp : ((pc : Int) + o).toNat = pc') (hp2 : pc + 3 = pc2)
    (Y : x < y → own_Go p e below F (T.setTop (mkF m pc' Ls st))) (N : ¬ x < y → own_Go p e below F (T.setTop (mkF m pc2 Ls st))) : own_Go p e below F (T.setTop (mkF m pc Ls (.int y :: .int x :: st))) :=
  own_icmp h hx hd ho hp hp2 (fun q => Y (of_decide_eq_true q)) (fun q => N (of_decide_eq_false q))
theorem own_icmpge (h : At T m c below) (hx : p.tables.exec = Jvm.exec) {x y : Int32} {o : Int} (hd : decode c.code pc = .ok (.if_icmp .ge o, 3)) (ho : 0 ≤ (pc : Int) + o) (hp : ((pc : Int) + o).toNat = pc') (hp2 : pc + 3 = pc2)
    (Y : ¬ x < y → own_Go p e below F (T.setTop (mkF m pc' Ls st))) (N : x < y → own_Go p e below F (T.setTop (mkF m pc2 Ls st))) : own_Go p e below F (T.setTop (mkF m pc Ls (.int y :: .int x :: st))) :=
  own_icmp h hx hd ho hp hp2 (fun q => Y (Int32.not_lt.mpr (of_decide_eq_true q))) (fun q => N (Int32.not_le.mp (of_decide_eq_false q)))
theorem own_icmpgt (h : At T m c below) (hx : p.tables.exec = Jvm.exec) {x y : Int32} {o : Int} (hd : decode c.code pc = .ok (.if_icmp .gt o, 3)) (ho : 0 ≤ (pc : Int) + o) (hp : ((pc : Int) + o).toNat = pc') (hp2 : pc + 3 = pc2)
    (Y : y < x → own_Go p e below F (T.setTop (mkF m pc' Ls st))) (N : ¬ y < x → own_Go p e below F (T.setTop (mkF m pc2 Ls st))) : own_Go p e below F (T.setTop (mkF m pc Ls (.int y :: .int x :: st))) :=
  own_icmp h hx hd ho hp hp2 (fun q => Y (of_decide_eq_true q)) (fun q => N (of_decide_eq_false q))
theorem own_icmple (h : At T m c below) (hx : p.tables.exec = Jvm.exec) {x y : Int32} {o : Int} (hd : decode c.code pc = .ok (.if_icmp .le o, 3)) (ho : 0 ≤ (pc : Int) + o) (hp : ((pc : Int) + o).toNat = pc') (hp2 : pc + 3 = pc2)
    (Y : ¬ y < x → own_Go p e below F (T.setTop (mkF m pc' Ls st))) (N : y < x → own_Go p e below F (T.setTop (mkF m pc2 Ls st))) : own_Go p e below F (T.setTop (mkF m pc Ls (.int y :: .int x :: st))) :=
  own_icmp h hx hd ho hp hp2 (fun q => Y (Int32.not_lt.mpr (of_decide_eq_true q))) (fun q => N (Int32.not_le.mp (of_decide_eq_false q)))
theorem own_ifnonnull (h : At T m c below) (hx : p.tables.exec = Jvm.exec) {x : Value} (hr : x.isRef = true) {o : Int} (hd : decode c.code pc = .ok (.ifnonnull o, 3)) (ho : 0 ≤ (pc : Int) + o) (hp : ((pc : Int) + o).toNat = pc') (hp2 : pc + 3 = pc2)
    (Y : ¬ x = .null → own_Go p e below F (T.setTop (mkF m pc' Ls st))) (N : x = .null → own_Go p e below F (T.setTop (mkF m pc2 Ls st))) : own_Go p e below F (T.setTop (mkF m pc Ls (x :: st))) := by
  subst hp2
  rcases ref_cases hr with rfl | ⟨a, rfl⟩
  · exact own_on (fun _ => XT.ifnonnullNo h hx rfl hd rfl) (N rfl)
  · exact own_on (fun _ => XT.ifnonnullYes h hx rfl rfl hd rfl ho hp) (Y (fun q => nomatch q))
theorem own_ifnull (h : At T m c below) (hx : p.tables.exec = Jvm.exec) {x : Value} (hr : x.isRef = true) {o : Int} (hd : decode c.code pc = .ok (.ifnull o, 3)) (ho : 0 ≤ (pc : Int) + o) (hp : ((pc : Int) + o).toNat = pc') (hp2 : pc + 3 = pc2)
    (Y : x = .null → own_Go p e below F (T.setTop (mkF m pc' Ls st))) (N : ¬ x = .null → own_Go p e below F (T.setTop (mkF m pc2 Ls st))) : own_Go p e below F (T.setTop (mkF m pc Ls (x :: st))) := by
  subst hp2
  rcases ref_cases hr with rfl | ⟨a, rfl⟩
  · exact own_on (fun _ => XS.ifnullYes h hx rfl rfl hd rfl ho hp) (Y rfl)
  · exact own_on (fun _ => XS.ifnullNo h hx rfl hd rfl) (N (fun q => nomatch q))
theorem own_acmpeq (h : At T m c below) (hx : p.tables.exec = Jvm.exec) {x y : Value} (hr : x.isRef = true) (hr' : y.isRef = true) {o : Int} (hd : decode c.code pc = .ok (.if_acmp .eq o, 3)) (ho : 0 ≤ (pc : Int) + o) (hp : ((pc : Int) + o).toNat = pc') (hp2 : pc + 3 = pc2)
    (Y : x = y → own_Go p e below F (T.setTop (mkF m pc' Ls st))) (N : ¬ x = y → own_Go p e below F (T.setTop (mkF m pc2 Ls st))) : own_Go p e below F (T.setTop (mkF m pc Ls (y :: x :: st))) := by
  subst hp2
  by_cases q : x = y
  · exact own_on (fun _ => XT.acmpYes h hx rfl rfl hd rfl hr hr' (by simp [XT.acmp, q]) ho hp) (Y q)
  · exact own_on (fun _ => XT.acmpNo h hx rfl hd rfl hr hr' (by simp [XT.acmp, q])) (N q)
theorem own_acmpne (h : At T m c below) (hx : p.tables.exec = Jvm.exec) {x y : Value} (hr : x.isRef = true) (hr' : y.isRef = true) {o : Int} (hd : decode c.code pc = .ok (.if_acmp .ne o, 3)) (ho : 0 ≤ (pc : Int) + o) (hp : ((pc : Int) + o).toNat = pc') (hp2 : pc + 3 = pc2)
    (Y : ¬ x = y → own_Go p e below F (T.setTop (mkF m pc' Ls st))) (N : x = y → own_Go p e below F (T.setTop (mkF m pc2 Ls st))) : own_Go p e below F (T.setTop (mkF m pc Ls (y :: x :: st))) := by
  subst hp2
  by_cases q : x = y
  · exact own_on (fun _ => XT.acmpNo h hx rfl hd rfl hr hr' (by simp [XT.acmp, q])) (N q)
  · exact own_on (fun _ => XT.acmpYes h hx rfl rfl hd rfl hr hr' (by simp [XT.acmp, q]) ho hp) (Y q)
end OwnGo
section OwnEnd
variable {p : Program} {l : Launch} {e : Env} {R : Room} {s : State} {m : MethodId} {args : Array Value} {below : List Frame} {meth : Method} {c : Code} {T : State} {locs : List Loc} {cells slots : Nat} {F : State → Outcome → Prop} {pc : Nat} {Ls : Array Slot} {st : List Value}
/-- a narrow contract's walk begins -/
theorem own_enter {Q : Option Value → Heap → List Loc → Prop} {U : State} {cz sz : Nat}
    (K : ∀ F : State → Outcome → Prop, (∀ (t : State) (v : Option Value) (L : List Loc) (k n : Nat), Q v t.heap L → FrameEnd s (.returned v) t L k n → k ≤ cz → n ≤ sz → F t (.returned v)) → own_Go p e below F U) :
    ∃ (s₂ : State) (o : Outcome), Steps p.tables e below U s₂ ∧ s₂.status = .running ∧ Ended s₂ below o ∧ ∃ (v : Option Value) (L : List Loc), o = .returned v ∧ Q v s₂.heap L ∧ FrameEnd s o s₂ L cz sz := by
  obtain ⟨t, o, h1, h2, h3, v, L, k, n, rfl, hq, hf, hk, hn⟩ := K (fun t o => ∃ v L k n, o = .returned v ∧ Q v t.heap L ∧ FrameEnd s (.returned v) t L k n ∧ k ≤ cz ∧ n ≤ sz) (fun t v L k n a b c d => ⟨v, L, k, n, rfl, a, b, c, d⟩)
  exact ⟨t, _, h1, h2, h3, v, L, rfl, hq, hf.1, hf.2.1, hf.2.2.mono hk hn⟩
theorem own_ret (X : Stand p l e R s m args below meth c T locs cells slots) (hx : p.tables.exec = Jvm.exec) (hlk : meth.locks = false) {w : Value} {t : FieldType} {i : Instr} (hret : meth.sig.returnType = some t) (hn : narrow t w = w)
    (hi : (i = .ireturn ∧ (t = .int ∨ t = .boolean ∨ t = .byte ∨ t = .char ∨ t = .short) ∧ ∃ z, w = .int z) ∨ (i = .lreturn ∧ t = .long ∧ ∃ z, w = .long z) ∨ (i = .dreturn ∧ t = .double ∧ ∃ z, w = .double z) ∨ (i = .freturn ∧ t = .float ∧ ∃ z, w = .float z) ∨ (i = .areturn ∧ t.isReference = true ∧ w.isRef = true))
    (hd : decode c.code pc = .ok (i, 1)) (K : ∀ t : State, t.heap = T.heap → FrameEnd s (.returned (some w)) t locs cells slots → F t (.returned (some w))) : own_Go p e below F (T.setTop (mkF m pc Ls (w :: st))) := by
  obtain ⟨fs, hr, hrun, hended, hW, hsame⟩ := X.leave (v := some w) (fun h => by rw [hret] at h; cases h) hlk
  exact ⟨_, _, retOut X hx hret hn hi hd hr, hrun, hended, K _ rfl ⟨⟨_, rfl⟩, hW, hsame⟩⟩
theorem own_retI (X : Stand p l e R s m args below meth c T locs cells slots) (hx : p.tables.exec = Jvm.exec) (hlk : meth.locks = false) {z : Int32} (hret : meth.sig.returnType = some .int) (hd : decode c.code pc = .ok (.ireturn, 1)) (K : ∀ t : State, t.heap = T.heap → FrameEnd s (.returned (some (.int z))) t locs cells slots → F t (.returned (some (.int z)))) : own_Go p e below F (T.setTop (mkF m pc Ls (.int z :: st))) :=
  own_ret X hx hlk hret rfl (Or.inl ⟨rfl, Or.inl rfl, _, rfl⟩) hd K
theorem own_retZ (X : Stand p l e R s m args below meth c T locs cells slots) (hx : p.tables.exec = Jvm.exec) (hlk : meth.locks = false) {z : Int32} (hz : z = 0 ∨ z = 1) (hret : meth.sig.returnType = some .boolean) (hd : decode c.code pc = .ok (.ireturn, 1)) (K : ∀ t : State, t.heap = T.heap → FrameEnd s (.returned (some (.int z))) t locs cells slots → F t (.returned (some (.int z)))) : own_Go p e below F (T.setTop (mkF m pc Ls (.int z :: st))) :=
  own_ret X hx hlk hret (by rcases hz with rfl | rfl <;> rfl) (Or.inl ⟨rfl, Or.inr (Or.inl rfl), _, rfl⟩) hd K
theorem own_retC (X : Stand p l e R s m args below meth c T locs cells slots) (hx : p.tables.exec = Jvm.exec) (hlk : meth.locks = false) {z : Int32} (hz : narrow .char (.int z) = .int z) (hret : meth.sig.returnType = some .char) (hd : decode c.code pc = .ok (.ireturn, 1)) (K : ∀ t : State, t.heap = T.heap → FrameEnd s (.returned (some (.int z))) t locs cells slots → F t (.returned (some (.int z)))) : own_Go p e below F (T.setTop (mkF m pc Ls (.int z :: st))) :=
  own_ret X hx hlk hret hz (Or.inl ⟨rfl, Or.inr (Or.inr (Or.inr (Or.inl rfl))), _, rfl⟩) hd K
theorem own_retA (X : Stand p l e R s m args below meth c T locs cells slots) (hx : p.tables.exec = Jvm.exec) (hlk : meth.locks = false) {w : Value} {t : FieldType} (hret : meth.sig.returnType = some t) (ht : t.isReference = true) (hw : w.isRef = true) (hd : decode c.code pc = .ok (.areturn, 1)) (K : ∀ t : State, t.heap = T.heap → FrameEnd s (.returned (some w)) t locs cells slots → F t (.returned (some w))) : own_Go p e below F (T.setTop (mkF m pc Ls (w :: st))) :=
  own_ret X hx hlk hret (by rcases ref_cases hw with rfl | ⟨a, rfl⟩ <;> cases t <;> first | rfl | (cases ht; done)) (Or.inr (Or.inr (Or.inr (Or.inr ⟨rfl, ht, hw⟩)))) hd K
theorem own_retV (X : Stand p l e R s m args below meth c T locs cells slots) (hx : p.tables.exec = Jvm.exec) (hlk : meth.locks = false) (hret : meth.sig.returnType = none) (hd : decode c.code pc = .ok (.return_, 1)) (K : ∀ t : State, t.heap = T.heap → FrameEnd s (.returned none) t locs cells slots → F t (.returned none)) : own_Go p e below F (T.setTop (mkF m pc Ls [])) := by
  obtain ⟨fs, hr, hrun, hended, hW, hsame⟩ := X.leave (v := none) (fun _ => rfl) hlk
  exact ⟨_, _, X.returnOut hx hret hd hr, hrun, hended, K _ rfl ⟨⟨_, rfl⟩, hW, hsame⟩⟩
end OwnEnd
end Jvm.Pilot.@@N@@
namespace Jvm.Pilot.@@N@@
open Jvm Jvm.ClassFile Sem Op Lib Jvm.Free Jvm.Stand Jvm.LawKit Jvm.RoadKit Bundle Jvm.Pilot.@@N@@.Jvm.D
/-- a narrow contract, from its walk -/
theorem own_walkP {l : Launch} {y : MethodName} {bytes : ByteArray} {maxL : Nat} {ret : Option FieldType} {ws : List Jvm.Cond} {rm : Room} {Z : State} {as' : Array Value} {h : Heap} {Q : Option Value → Heap → List Loc → Prop} (hpl : plainFor y = true)
    (K : ∀ (p : Program) (e : Env) (s : State) (m : MethodId) (below : List Frame) (meth : Method) (c : Code) (T : State), Stand p l e rm s m as' below meth c T [] 0 0 → p.tables.exec = Jvm.exec → c.code = bytes → c.maxLocals = maxL → meth.sig.returnType = ret → meth.locks = false → meth.name = y.name → s.vm.findClass y.cls = some m.cls → Z.Warmed39 s.vm → T.heap = h → s.heap = h →
      ∀ F : State → Outcome → Prop, (∀ (t : State) (v : Option Value) (L : List Loc) (k n : Nat), Q v t.heap L → FrameEnd s (.returned v) t L k n → k ≤ rm.cells → n ≤ rm.slots → F t (.returned v)) → own_Go p e below F (T.setTop (entryFrame m as' maxL))) :
    MetFree l y (head1 (Jvm.Cond.code y bytes maxL ret :: ws) rm) (fun a U => a = as' ∧ Z.Warmed39 U.vm ∧ U.heap = h) (fun _ _ _ _ _ => True) (fun _ U o U' => ∃ v L, o = .returned v ∧ Q v U'.heap L ∧ FrameEnd U o U' L rm.cells rm.slots) := by
  refine MetFree.of_bodySF (hpl) hisR ?_
  intro p e s m args below meth c s₁ Bd hml0 hP hK
  obtain ⟨rfl, hZ, hh⟩ := hP
  exact own_enter (fun F hF => K p e s m below meth c s₁ (Stand.of_body Bd) Bd.exec Bd.bytes hml0 Bd.returns (BodyLoose.notSynchronized Bd) (name_of_methodNamed Bd.named Bd.method).1 (findClass_of_methodNamed Bd.named) hZ (by rw [← hh, Bd.state]; rfl) hh F hF)
theorem own_walkN {l : Launch} {y : MethodName} {bytes : ByteArray} {maxL : Nat} {ret : Option FieldType} {ws : List Jvm.Cond} {rm : Room} {Z : State} {as' : Array Value} {h : Heap} {Q : Option Value → Heap → List Loc → Prop} (hpl : plainName y.cls = true)
    (K : ∀ (p : Program) (e : Env) (s : State) (m : MethodId) (below : List Frame) (meth : Method) (c : Code) (T : State), Stand p l e rm s m as' below meth c T [] 0 0 → p.tables.exec = Jvm.exec → c.code = bytes → c.maxLocals = maxL → meth.sig.returnType = ret → meth.locks = false → meth.name = y.name → s.vm.findClass y.cls = some m.cls → Z.Warmed39 s.vm → T.heap = h → s.heap = h →
      ∀ F : State → Outcome → Prop, (∀ (t : State) (v : Option Value) (L : List Loc) (k n : Nat), Q v t.heap L → FrameEnd s (.returned v) t L k n → k ≤ rm.cells → n ≤ rm.slots → F t (.returned v)) → own_Go p e below F (T.setTop (entryFrame m as' maxL))) :
    MetFree l y (head1 (Jvm.Cond.code y bytes maxL ret :: ws) rm) (fun a U => a = as' ∧ Z.Warmed39 U.vm ∧ U.heap = h) (fun _ _ _ _ _ => True) (fun _ U o U' => ∃ v L, o = .returned v ∧ Q v U'.heap L ∧ FrameEnd U o U' L rm.cells rm.slots) :=
  own_walkP (plainFor_of_name hpl) K
end Jvm.Pilot.@@N@@
namespace Jvm.Pilot.@@N@@
open Jvm Jvm.ClassFile Sem Op Lib Jvm.Free Jvm.Stand Jvm.LawKit Jvm.RoadKit Bundle Jvm.Pilot.@@N@@.Jvm.D
/-- getstatic through a nest-mate's entry -/
theorem own_getSN {p : Program} {l : Launch} {e : Env} {R : Room} {s : State} {m : MethodId} {args : Array Value} {below : List Frame} {meth : Method} {c : Code} {T : State} {locs : List Loc} {cells slots : Nat} {Z : State} {a0 : Array Value} {h : Heap}
    (X : Stand p l e R s m args below meth c T locs cells slots) (hx : p.tables.exec = Jvm.exec) (hZ : Z.Warmed39 s.vm) {own O n d host : String} {index : Nat} (hown : s.vm.findClass own = some m.cls) (w : (Jvm.Cond.fieldLinkNest own index O n d host).before a0 Z = true)
    (eT : T.heap = h) {v : Value} (F : Sta Z h O n d v) {g : JFrame} (hg : g.method = m) (hd : decode c.code g.pc = .ok (.getstatic index, 3)) : ∃ T', Stand p l e R s m args below meth c T' locs cells slots ∧ T'.heap = h ∧ ∀ target, Steps p.tables e below (T'.setTop { g with pc := g.pc + 3, stack := v :: g.stack }) target → Steps p.tables e below (T.setTop g) target := by
  obtain ⟨cf, i, k, f, st, cell, h1, h2, h3, h4, h5, h6, h7⟩ := F
  obtain ⟨k', hi, ek⟩ := State.fieldFound?_setVm (s := Z) hZ.alike h1
  obtain ⟨vm', X', stp⟩ := X.getstaticNest hx hown (mvN hZ w) hi h2 (by rw [ek]; exact h3) (a₁ := st) (by rw [ek]; exact h4) (by rw [eT]; exact h5) (fun q => by rw [q] at h6; cases h6) h7 hg hd
  exact ⟨_, X', eT, stp⟩
end Jvm.Pilot.@@N@@
namespace Jvm.Pilot.@@N@@
open Jvm Jvm.ClassFile Sem Op Lib Jvm.Free Jvm.Stand Jvm.LawKit Jvm.RoadKit Bundle Jvm.Pilot.@@N@@.Jvm.D
theorem own_fldnull {Z : State} {args : Array Value} {t : Term} {C n d : String} {a : Addr} (ev : t.eval args Z none [] Z = some (.ref a)) (h : (Jvm.Cond.eq (.field t C n d) .null).value args Z none Z [] = some true) : Fld Z Z.heap a C n d .null := by
  cases hf : Z.fieldOf? a C n d with
  | none => simp [Cond.value, Term.eval, ev, hf] at h
  | some v =>
    cases v <;> simp [Cond.value, Term.eval, ev, hf] at h
    exact Fld.start hf
end Jvm.Pilot.@@N@@
namespace Jvm.Pilot.@@N@@
theorem own_cat1 {v : Jvm.Value} (h : v.isRef = true) : v.category = 1 := by cases v <;> first | rfl | (cases h; done)
end Jvm.Pilot.@@N@@
namespace Jvm.Pilot.@@N@@
open Jvm Jvm.ClassFile Sem Op Lib Jvm.Free Jvm.Stand Jvm.LawKit Jvm.RoadKit Bundle Jvm.Pilot.@@N@@.Jvm.D
section OwnWide
variable {p : Program} {l : Launch} {e : Env} {R : Room} {s : State} {m : MethodId} {args : Array Value} {below : List Frame} {meth : Method} {c : Code} {T : State} {locs : List Loc} {cells slots : Nat} {F : State → Outcome → Prop} {pc : Nat} {Ls : Array Slot} {st : List Value}
  {Z : State} {a0 : Array Value} {EL : List (String × Nat)} {vm vm0 vm1 : Vm} {h h' h2 : Heap} {own : String} {ws : List Addr} {a : Addr} {sl : Nat} {v : Value}
theorem own_ext_refl (h : Heap) : Ext h h := ⟨Nat.le_refl _, fun _ _ q => q⟩
theorem own_ext_trans (A : Ext h h') (B : Ext h' h2) : Ext h h2 := ⟨Nat.le_trans A.1 B.1, fun x c q => B.2 x c (A.2 x c q)⟩
theorem own_ext_keep (A : Ext h h') (K : Keep h' h2 ws) (q : ∀ x ∈ ws, h.size ≤ x) : Ext h h2 :=
  ⟨Nat.le_trans A.1 K.1, fun x c r => K.2.1 x c (A.2 x c r) fun z => absurd (Array.getElem?_eq_some_iff.mp r).1 (Nat.not_lt.mpr (q x z))⟩
theorem own_ext_wr (A : Ext h h') (W : Wr h' h2 a sl v) (q : h.size ≤ a) : Ext h h2 := own_ext_keep A (Keep.of_wr W) fun x hx => by cases List.mem_singleton.mp hx; exact q
theorem own_keep_ext (E : Ext h h') : Keep h h' ws := ⟨E.1, fun x c q _ => E.2 x c q, fun x c q => ⟨c, E.2 x c q, rfl, rfl, rfl⟩⟩
theorem own_since0 (s : State) : s.Since s.vm 0 := (State.WarmedH.refl s).since 0
/-- what a walk that may intern bears: the tables vm since s, the heap h -/
def own_I (s Z : State) (EL : List (String × Nat)) (vm : Vm) (h : Heap) (own : String) (m : MethodId) : Prop :=
  Z.Warmed39 vm ∧ vm.findClass own = some m.cls ∧ (∃ k0, s.Since vm k0 ∧ k0 ≤ h.size) ∧ CHr Z EL s.vm s.heap vm h
theorem own_I.ext (I : own_I s Z EL vm h own m) (E : Ext h h') : own_I s Z EL vm h' own m := by
  obtain ⟨i1, i2, ⟨k, i3, i4⟩, i5⟩ := I
  exact ⟨i1, i2, ⟨k, i3, Nat.le_trans i4 E.1⟩, i5.trans (CHr.ext E i5.1)⟩
theorem own_I.wr (I : own_I s Z EL vm h own m) (W : Wr h h' a sl v) (S : Safe Z EL vm h a) : own_I s Z EL vm h' own m := by
  obtain ⟨i1, i2, ⟨k, i3, i4⟩, i5⟩ := I
  exact ⟨i1, i2, ⟨k, i3, by rw [W.size]; exact i4⟩, i5.trans (CHr.wr W S i5.1)⟩
theorem own_I.keep (I : own_I s Z EL vm h own m) (K : Keep h h' ws) (S : ∀ x ∈ ws, Safe Z EL vm h x) : own_I s Z EL vm h' own m := by
  obtain ⟨i1, i2, ⟨k, i3, i4⟩, i5⟩ := I
  exact ⟨i1, i2, ⟨k, i3, Nat.le_trans i4 K.1⟩, i5.trans (CHr.keep K S i5.1)⟩
theorem own_I.later (I : own_I s Z EL vm0 h own m) {n : Nat} (S : (s.setVm vm0).Since vm1 n) (hn : n ≤ h'.size) (hg : h.size ≤ n) (C : CHr Z EL vm0 h vm1 h') : own_I s Z EL vm1 h' own m := by
  obtain ⟨i1, i2, ⟨k, i3, i4⟩, i5⟩ := I
  exact ⟨State.Warmed39.trans (t := s.setVm vm0) i1 S.1, (S.1.alike.findClass _ _).trans i2, ⟨n, i3.trans S (Nat.le_trans i4 hg), hn⟩, i5.trans C⟩
theorem own_I.safe (I : own_I s Z EL vm h own m) {x : Addr} (hx : x < s.heap.size) (S : Safe Z EL s.vm s.heap x) : Safe Z EL vm h x := I.2.2.2.safe hx S
theorem own_I.ch (I : own_I s Z EL vm h own m) : CHv Z EL vm h := I.2.2.2.1
/-- a wide contract's use -/
theorem own_backW {y : MethodName} {bytes : ByteArray} {maxL : Nat} {ret : Option FieldType} {rm : Room} {len W : Nat} {as' : Array Value} {sf : List Addr} {Q : Option Value → Heap → List Loc → Prop}
    (hM : MetFree l y (head1 [Jvm.Cond.code y bytes maxL ret] rm) (fun a U => a = as' ∧ Z.Warmed39 U.vm ∧ U.heap = h ∧ CHv Z EL U.vm h ∧ ∀ x ∈ sf, Safe Z EL U.vm h x) (fun _ _ _ _ _ => True) (fun _ U o U' => ∃ v L, o = .returned v ∧ Q v U'.heap L ∧ CHr Z EL U.vm U.heap U'.vm U'.heap ∧ ReturnedEndW U o U' L rm.cells rm.slots))
    (hZ : Z.Warmed39 vm0) (wc : (Jvm.Cond.code y bytes maxL ret).before a0 Z = true) (wz : (Jvm.Cond.initialized y.cls).before a0 Z = true) (hf : rm.frames + 1 ≤ R.frames) (hl : W + (maxL + 11) + rm.locals ≤ R.locals) (hEL : EW Z a0 EL) (H : CHv Z EL vm0 h) (HS : ∀ x ∈ sf, x < h.size ∧ Safe Z EL vm0 h x) :
    BackS l R p e below (s.setVm vm0) args y len W (fun A a => a = as' ∧ A.U.heap = h ∧ A.cells + rm.cells ≤ R.cells ∧ A.slots + rm.slots ≤ R.slots)
      (fun A _ v B => ∃ L, Q v B.U.heap L ∧ B.locs = A.locs ++ L ∧ B.cells = A.cells + rm.cells ∧ B.slots = A.slots + rm.slots ∧ CHr Z EL vm0 h B.U.vm B.U.heap) :=
  BackS.of_freeW (bytes := bytes) (maxL := maxL) (ret := ret) (E := fun _ first o t L k n => k = rm.cells ∧ n = rm.slots ∧ (∃ v, o = .returned v ∧ Q v t.heap L) ∧ CHr Z EL first.vm first.heap t.vm t.heap) hM hf hl
    (fun m meth c A a Y hp => have hU : Z.Warmed39 A.U.vm := wtrans (s := s.setVm vm0) hZ Y.warmed
      ⟨by show (Jvm.Cond.and _ .tt).before a A.U = true; rw [Cond.before_and, mv hU wc]; rfl, mv hU wc, mv hU wz, hp.2.2.1, hp.2.2.2⟩)
    (fun m meth c A a g mk Y hp => ⟨hp.1, wtrans (s := s.setVm vm0) hZ Y.warmed, hp.2.1, (CHv.at Y hZ hEL H).1, fun x hx => (CHv.at Y hZ hEL H).safe (HS x hx).1 (HS x hx).2⟩) (fun _ _ _ _ _ _ _ _ _ => trivial)
    (fun _ _ _ _ ⟨v, L, h1, h2, h3, h4⟩ => ⟨L, _, _, h4, rfl, rfl, ⟨v, h1, h2⟩, h3⟩)
    (fun m meth c A a g mk v t L k n Y hp _ _ ⟨e1, e2, ⟨v', e3, e4⟩, e5⟩ => by
      cases e3; subst e1 e2
      refine ⟨L, e4, rfl, rfl, rfl, (CHv.at Y hZ hEL H).trans ?_⟩
      rw [← hp.2.1]; exact e5)
theorem own_enterW {Q : Option Value → Heap → List Loc → Prop} {U : State} {cz sz : Nat}
    (K : ∀ F : State → Outcome → Prop, (∀ (t : State) (v : Option Value) (L : List Loc) (k n : Nat), Q v t.heap L → CHr Z EL s.vm s.heap t.vm t.heap → ReturnedEndW s (.returned v) t L k n → k ≤ cz → n ≤ sz → F t (.returned v)) → own_Go p e below F U) :
    ∃ (s₂ : State) (o : Outcome), Steps p.tables e below U s₂ ∧ s₂.status = .running ∧ Ended s₂ below o ∧ ∃ (v : Option Value) (L : List Loc), o = .returned v ∧ Q v s₂.heap L ∧ CHr Z EL s.vm s.heap s₂.vm s₂.heap ∧ ReturnedEndW s o s₂ L cz sz := by
  obtain ⟨t, o, h1, h2, h3, v, L, k, n, rfl, hq, hc, hf, hk, hn⟩ := K (fun t o => ∃ v L k n, o = .returned v ∧ Q v t.heap L ∧ CHr Z EL s.vm s.heap t.vm t.heap ∧ ReturnedEndW s (.returned v) t L k n ∧ k ≤ cz ∧ n ≤ sz) (fun t v L k n a b c d f => ⟨v, L, k, n, rfl, a, b, c, d, f⟩)
  exact ⟨t, _, h1, h2, h3, v, L, rfl, hq, hc, hf.1, hf.2.1, hf.2.2.1, hf.2.2.2.mono hk hn⟩
/-- a wide contract, from its walk -/
theorem own_walkW {y : MethodName} {bytes : ByteArray} {maxL : Nat} {ret : Option FieldType} {wl : List Jvm.Cond} {rm : Room} {as' : Array Value} {sf : List Addr} {Q : Option Value → Heap → List Loc → Prop} (hpl : plainName y.cls = true)
    (K : ∀ (p : Program) (e : Env) (s : State) (m : MethodId) (below : List Frame) (meth : Method) (c : Code) (T : State), Stand p l e rm (s.setVm s.vm) m as' below meth c T [] 0 0 → p.tables.exec = Jvm.exec → c.code = bytes → c.maxLocals = maxL → meth.sig.returnType = ret → meth.locks = false → meth.name = y.name → s.heap = h → T.heap = h → own_I s Z EL s.vm h y.cls m → (∀ x ∈ sf, Safe Z EL s.vm h x) →
      ∀ F : State → Outcome → Prop, (∀ (t : State) (v : Option Value) (L : List Loc) (k n : Nat), Q v t.heap L → CHr Z EL s.vm s.heap t.vm t.heap → ReturnedEndW s (.returned v) t L k n → k ≤ rm.cells → n ≤ rm.slots → F t (.returned v)) → own_Go p e below F (T.setTop (entryFrame m as' maxL))) :
    MetFree l y (head1 (Jvm.Cond.code y bytes maxL ret :: wl) rm) (fun a U => a = as' ∧ Z.Warmed39 U.vm ∧ U.heap = h ∧ CHv Z EL U.vm h ∧ ∀ x ∈ sf, Safe Z EL U.vm h x) (fun _ _ _ _ _ => True) (fun _ U o U' => ∃ v L, o = .returned v ∧ Q v U'.heap L ∧ CHr Z EL U.vm U.heap U'.vm U'.heap ∧ ReturnedEndW U o U' L rm.cells rm.slots) := by
  refine MetFree.of_bodySF (plainFor_of_name hpl) hisR ?_
  intro p e s m args below meth c s₁ Bd hml0 hP hK
  obtain ⟨rfl, hZ, hh, hC, hsf⟩ := hP
  have X0 : Stand p l e rm s m args below meth c s₁ [] 0 0 := Stand.of_body Bd
  refine own_enterW (fun F hF => K p e s m below meth c s₁ X0 Bd.exec Bd.bytes hml0 Bd.returns (BodyLoose.notSynchronized Bd) (name_of_methodNamed Bd.named Bd.method).1 hh (by rw [← hh, Bd.state]; rfl) ⟨hZ, findClass_of_methodNamed Bd.named, ⟨0, own_since0 s, Nat.zero_le _⟩, ?_⟩ hsf F hF)
  rw [hh]; exact CHr.refl hC
theorem own_retW (X : Stand p l e R (s.setVm vm) m args below meth c T locs cells slots) (hx : p.tables.exec = Jvm.exec) (hlk : meth.locks = false) (hEL : EW Z a0 EL) (I : own_I s Z EL vm h own m) (eT : T.heap = h) {w : Value} {t : FieldType} {i : Instr} (hret : meth.sig.returnType = some t) (hn : narrow t w = w)
    (hi : (i = .ireturn ∧ (t = .int ∨ t = .boolean ∨ t = .byte ∨ t = .char ∨ t = .short) ∧ ∃ z, w = .int z) ∨ (i = .lreturn ∧ t = .long ∧ ∃ z, w = .long z) ∨ (i = .dreturn ∧ t = .double ∧ ∃ z, w = .double z) ∨ (i = .freturn ∧ t = .float ∧ ∃ z, w = .float z) ∨ (i = .areturn ∧ t.isReference = true ∧ w.isRef = true))
    (hd : decode c.code pc = .ok (i, 1)) (K : ∀ t : State, t.heap = h → CHr Z EL s.vm s.heap t.vm t.heap → ReturnedEndW s (.returned (some w)) t locs cells slots → F t (.returned (some w))) : own_Go p e below F (T.setTop (mkF m pc Ls (w :: st))) := by
  obtain ⟨i1, i2, ⟨k, i3, i4⟩, i5⟩ := I
  obtain ⟨fs, hr, hrun, hended, hE⟩ := X.leaveW i3 (by rw [eT]; exact i4) (v := some w) (fun h => by rw [hret] at h; cases h) hlk
  refine ⟨_, _, retOut X hx hret hn hi hd hr, hrun, hended, K _ eT ?_ hE⟩
  show CHr Z EL s.vm s.heap T.vm T.heap
  rw [eT]; exact i5.trans (CHv.at X i1 hEL i5.1)
theorem own_retVW (X : Stand p l e R (s.setVm vm) m args below meth c T locs cells slots) (hx : p.tables.exec = Jvm.exec) (hlk : meth.locks = false) (hEL : EW Z a0 EL) (I : own_I s Z EL vm h own m) (eT : T.heap = h) (hret : meth.sig.returnType = none)
    (hd : decode c.code pc = .ok (.return_, 1)) (K : ∀ t : State, t.heap = h → CHr Z EL s.vm s.heap t.vm t.heap → ReturnedEndW s (.returned none) t locs cells slots → F t (.returned none)) : own_Go p e below F (T.setTop (mkF m pc Ls [])) := by
  obtain ⟨i1, i2, ⟨k, i3, i4⟩, i5⟩ := I
  obtain ⟨fs, hr, hrun, hended, hE⟩ := X.leaveW i3 (by rw [eT]; exact i4) (v := none) (fun _ => rfl) hlk
  refine ⟨_, _, X.returnOut hx hret hd hr, hrun, hended, K _ eT ?_ hE⟩
  show CHr Z EL s.vm s.heap T.vm T.heap
  rw [eT]; exact i5.trans (CHv.at X i1 hEL i5.1)
theorem own_retAW (X : Stand p l e R (s.setVm vm) m args below meth c T locs cells slots) (hx : p.tables.exec = Jvm.exec) (hlk : meth.locks = false) (hEL : EW Z a0 EL) (I : own_I s Z EL vm h own m) (eT : T.heap = h) {w : Value} {t : FieldType} (hret : meth.sig.returnType = some t) (ht : t.isReference = true) (hw : w.isRef = true)
    (hd : decode c.code pc = .ok (.areturn, 1)) (K : ∀ t : State, t.heap = h → CHr Z EL s.vm s.heap t.vm t.heap → ReturnedEndW s (.returned (some w)) t locs cells slots → F t (.returned (some w))) : own_Go p e below F (T.setTop (mkF m pc Ls (w :: st))) :=
  own_retW X hx hlk hEL I eT hret (by rcases ref_cases hw with rfl | ⟨a, rfl⟩ <;> cases t <;> first | rfl | (cases ht; done)) (Or.inr (Or.inr (Or.inr (Or.inr ⟨rfl, ht, hw⟩)))) hd K
theorem own_retIW (X : Stand p l e R (s.setVm vm) m args below meth c T locs cells slots) (hx : p.tables.exec = Jvm.exec) (hlk : meth.locks = false) (hEL : EW Z a0 EL) (I : own_I s Z EL vm h own m) (eT : T.heap = h) {z : Int32} (hret : meth.sig.returnType = some .int)
    (hd : decode c.code pc = .ok (.ireturn, 1)) (K : ∀ t : State, t.heap = h → CHr Z EL s.vm s.heap t.vm t.heap → ReturnedEndW s (.returned (some (.int z))) t locs cells slots → F t (.returned (some (.int z)))) : own_Go p e below F (T.setTop (mkF m pc Ls (.int z :: st))) :=
  own_retW X hx hlk hEL I eT hret rfl (Or.inl ⟨rfl, Or.inl rfl, _, rfl⟩) hd K
theorem own_retZW (X : Stand p l e R (s.setVm vm) m args below meth c T locs cells slots) (hx : p.tables.exec = Jvm.exec) (hlk : meth.locks = false) (hEL : EW Z a0 EL) (I : own_I s Z EL vm h own m) (eT : T.heap = h) {z : Int32} (hz : z = 0 ∨ z = 1) (hret : meth.sig.returnType = some .boolean)
    (hd : decode c.code pc = .ok (.ireturn, 1)) (K : ∀ t : State, t.heap = h → CHr Z EL s.vm s.heap t.vm t.heap → ReturnedEndW s (.returned (some (.int z))) t locs cells slots → F t (.returned (some (.int z)))) : own_Go p e below F (T.setTop (mkF m pc Ls (.int z :: st))) :=
  own_retW X hx hlk hEL I eT hret (by rcases hz with rfl | rfl <;> rfl) (Or.inl ⟨rfl, Or.inr (Or.inl rfl), _, rfl⟩) hd K
/-- ldc of a String constant, its text unread -/
theorem own_ldcO (X : Stand p l e R (s.setVm vm0) m args below meth c T locs cells slots) (hx : p.tables.exec = Jvm.exec) (I : own_I s Z EL vm0 h own m) {text : String} {index : Nat} (w : (Jvm.Cond.stringLink own index text).before a0 Z = true) (wS : ∀ a ∈ Bundle.stringAtoms, a.before a0 Z = true)
    (eT : T.heap = h) (hEL : EW Z a0 EL) {g : JFrame} (hg : g.method = m) (hd : decode c.code g.pc = .ok (.ldc index, 2)) {n : Nat} (hn : 4 * text.toList.length ≤ n) (hbig : n ≤ 536870912) (hc : cells + 2 ≤ R.cells) (hl : slots + (n + 4) ≤ R.slots) :
    ∃ (a : Addr) (T' : State), Stand p l e R (s.setVm T'.vm) m args below meth c T' locs (cells + 2) (slots + (n + 4)) ∧ Ext h T'.heap ∧ own_I s Z EL T'.vm T'.heap own m ∧ CHr Z EL vm0 h T'.vm T'.heap ∧
      ∀ target, Steps p.tables e below (T'.setTop { g with pc := g.pc + 2, stack := .ref a :: g.stack }) target → Steps p.tables e below (T.setTop g) target := by
  obtain ⟨i1, i2, ⟨k, i3, i4⟩, i5⟩ := I
  obtain ⟨a, T', h', k1, X', rfl, E, hS, hk, hW, hf, hC, -, st⟩ := ldcOH X hx i1 i2 w wS eT i3 i4 hEL i5.1 hg hd hn hbig hc hl
  exact ⟨a, T', X', E, ⟨hW, hf, ⟨k1, hS, hk⟩, i5.trans hC⟩, hC, st⟩
end OwnWide
end Jvm.Pilot.@@N@@
namespace Jvm.Pilot.@@N@@
open Jvm Jvm.ClassFile Sem Op Lib Jvm.Free Jvm.Stand Jvm.LawKit Jvm.RoadKit Bundle Jvm.Pilot.@@N@@.Jvm.D
/-- ldc of a String constant of EL, its text read -/
theorem own_ldcT {p : Program} {l : Launch} {e : Env} {R : Room} {s : State} {m : MethodId} {args : Array Value} {below : List Frame} {meth : Method} {c : Code} {T : State} {locs : List Loc} {cells slots : Nat} {Z : State} {a0 : Array Value} {EL : List (String × Nat)} {vm0 : Vm} {h : Heap} {own : String}
    (X : Stand p l e R (s.setVm vm0) m args below meth c T locs cells slots) (hx : p.tables.exec = Jvm.exec) (I : own_I s Z EL vm0 h own m) {text : String} {index : Nat} (w : (Jvm.Cond.stringLink own index text).before a0 Z = true) (wS : ∀ a ∈ Bundle.stringAtoms, a.before a0 Z = true)
    (eT : T.heap = h) (hEL : EW Z a0 EL) (hmem : (own, index) ∈ EL) {vs : List Value} {z : Int32} (ht : (∀ c ∈ text.toList, c.toNat < 256) ∧ text.toList.map (fun c => Value.int (Jvm.Lit.byteI c.toNat.toUInt16)) = vs) (hz : ¬ z < 0) (hl : z.toNatClampNeg = vs.length)
    {g : JFrame} (hg : g.method = m) (hd : decode c.code g.pc = .ok (.ldc index, 2)) {n : Nat} (hn : 4 * text.toList.length ≤ n) (hbig : n ≤ 536870912) (hc : cells + 2 ≤ R.cells) (hl' : slots + (n + 4) ≤ R.slots) :
    ∃ (a : Addr) (T' : State) (b : Addr) (k : ClassId), Stand p l e R (s.setVm T'.vm) m args below meth c T' locs (cells + 2) (slots + (n + 4)) ∧ Ext h T'.heap ∧ own_I s Z EL T'.vm T'.heap own m ∧ CHr Z EL vm0 h T'.vm T'.heap ∧
      Exa Z T'.heap a "java/lang/String" ∧ Fld Z T'.heap a "java/lang/String" "coder" "B" (.int 0) ∧ Fld Z T'.heap a "java/lang/String" "value" "[B" (.ref b) ∧ Arv Z T'.heap b k .byte z vs (.int 0) ∧ (∀ x, Safe Z EL T'.vm T'.heap x → x ≠ a ∧ x ≠ b) ∧
      ∀ target, Steps p.tables e below (T'.setTop { g with pc := g.pc + 2, stack := .ref a :: g.stack }) target → Steps p.tables e below (T.setTop g) target := by
  obtain ⟨i1, i2, ⟨k, i3, i4⟩, i5⟩ := I
  obtain ⟨a, T', h', k1, b, kb, X', rfl, E, hS, hk, hW, hf, q1, q2, q3, q4, -, -, hC, -, hne, st⟩ := ldcCH X hx i1 i2 w wS eT i3 i4 hEL hmem i5.1 ht hz hl hg hd hn hbig hc hl'
  exact ⟨a, T', b, kb, X', E, ⟨hW, hf, ⟨k1, hS, hk⟩, i5.trans hC⟩, hC, q1, q2, q3, q4, hne, st⟩
theorem own_strW {Z : State} {a0 : Array Value} (hw : ∀ d ∈ tables_1, d.before a0 Z = true) : ∀ a ∈ Bundle.stringAtoms, a.before a0 Z = true := fun d hd => hw d ((by decide +kernel : ∀ d ∈ Bundle.stringAtoms, d ∈ tables_1) d hd)
end Jvm.Pilot.@@N@@
namespace Jvm.Pilot.@@N@@
open Jvm Jvm.ClassFile Sem Op Lib Jvm.Free Jvm.Stand Jvm.LawKit Jvm.RoadKit Bundle Jvm.Pilot.@@N@@.Jvm.D
section OwnArr
variable {p : Program} {l : Launch} {e : Env} {R : Room} {s : State} {m : MethodId} {args : Array Value} {below : List Frame} {meth : Method} {c : Code} {T : State} {locs : List Loc} {cells slots : Nat} {F : State → Outcome → Prop} {pc pc' : Nat} {Ls : Array Slot} {st : List Value}
  {Z : State} {a0 : Array Value} {h h' : Heap} {a : Addr} {k : ClassId} {ty : FieldType} {z j : Int32} {vs : List Value} {dv : Value}
theorem own_alen (X : Stand p l e R s m args below meth c T locs cells slots) (hx : p.tables.exec = Jvm.exec) (hZ : Z.Warmed39 s.vm) (eT : T.heap = h) (V : Arv Z h a k ty z vs dv) (hd : decode c.code pc = .ok (.arraylength, 1)) (hp : pc + 1 = pc') (K : own_Go p e below F (T.setTop (mkF m pc' Ls (.int z :: st)))) : own_Go p e below F (T.setTop (mkF m pc Ls (.ref a :: st))) := by
  subst hp
  obtain ⟨cl, A, -, S, q, -⟩ := V
  refine own_on (fun t => X.arraylength hx (cell := cl) (by rw [eT]; exact A.1) (State.isArrayOf_alike hZ.alike A.2.1) (g := mkF m pc Ls (.ref a :: st)) rfl (rest := st) rfl hd t) ?_
  rw [len_of S q]; exact K
theorem own_caload (X : Stand p l e R s m args below meth c T locs cells slots) (hx : p.tables.exec = Jvm.exec) (hZ : Z.Warmed39 s.vm) (eT : T.heap = h) (V : Arv Z h a k .char z vs dv) {w : Int32} (hin : ¬ j < 0 ∧ j < z) (hw : vs.getD j.toNatClampNeg dv = .int w) (hd : decode c.code pc = .ok (.caload, 1)) (hp : pc + 1 = pc') (K : own_Go p e below F (T.setTop (mkF m pc' Ls (.int w :: st)))) : own_Go p e below F (T.setTop (mkF m pc Ls (.int j :: .ref a :: st))) := by
  subst hp
  obtain ⟨cl, A, -, S, q, H, -⟩ := V
  have hb := inb_of S hin
  have hat : cl.slots[j.toNatClampNeg]? = some (.int w) := by rw [H _ (Nat.lt_of_not_le fun y => hb (Or.inr y)), hw]
  exact own_on (fun t => X.caload hx (j := j) (v := .int w) (by rw [eT]; exact A.1) (State.isArrayOf_alike hZ.alike A.2.1) A.2.2 hb hat (g := mkF m pc Ls (.int j :: .ref a :: st)) rfl rfl hd t) K
theorem own_baload (X : Stand p l e R s m args below meth c T locs cells slots) (hx : p.tables.exec = Jvm.exec) (hZ : Z.Warmed39 s.vm) (eT : T.heap = h) (V : Arv Z h a k .byte z vs dv) {w : Int32} (hin : ¬ j < 0 ∧ j < z) (hw : vs.getD j.toNatClampNeg dv = .int w) (hd : decode c.code pc = .ok (.baload, 1)) (hp : pc + 1 = pc') (K : own_Go p e below F (T.setTop (mkF m pc' Ls (.int w :: st)))) : own_Go p e below F (T.setTop (mkF m pc Ls (.int j :: .ref a :: st))) := by
  subst hp
  obtain ⟨cl, A, -, S, q, H, -⟩ := V
  have hb := inb_of S hin
  have hat : cl.slots[j.toNatClampNeg]? = some (.int w) := by rw [H _ (Nat.lt_of_not_le fun y => hb (Or.inr y)), hw]
  exact own_on (fun t => X.baloadBytes hx (j := j) (v := .int w) (by rw [eT]; exact A.1) (State.isArrayOf_alike hZ.alike A.2.1) A.2.2 hb hat (g := mkF m pc Ls (.int j :: .ref a :: st)) rfl rfl hd t) K
theorem own_cast (X : Stand p l e R s m args below meth c T locs cells slots) (hx : p.tables.exec = Jvm.exec) (hZ : Z.Warmed39 s.vm) (eT : T.heap = h) (V : Arv Z h a k .char z vs dv) {i : Nat} {w : Int32} (hj : j.toNatClampNeg = i) (hi : i < vs.length) (hin : ¬ j < 0 ∧ j < z) (hw : nar .char w = w)
    {g : JFrame} (hg : g.method = m) {rest : List Value} (hs : g.stack = .int w :: .int j :: .ref a :: rest) (hd : decode c.code g.pc = .ok (.castore, 1)) :
    ∃ T' h', Stand p l e R s m args below meth c T' (locs ++ [⟨a, j.toNatClampNeg⟩]) cells slots ∧ T'.heap = h' ∧ Wr h h' a j.toNatClampNeg (.int w) ∧ Arv Z h' a k .char z (vs.set i (.int w)) dv ∧ ∀ target, Steps p.tables e below (T'.setTop { g with pc := g.pc + 1, stack := rest }) target → Steps p.tables e below (T.setTop g) target := by
  obtain ⟨cl, A, q1, S, q3, H, G⟩ := V
  obtain ⟨T', h', X', e', W, st⟩ := stC X hx hZ eT A (inb_of S hin) hg hs hd
  rw [hw] at W
  exact ⟨T', h', X', e', W, Arv.set A q1 S q3 H G (by rw [← hw]; exact fits_nar_char _) W i hj hi, st⟩
theorem own_Fr_snoc {n0 : Nat} {L : List Loc} {sl : Nat} (N : Fr n0 L) (q : n0 ≤ a) : Fr n0 (L ++ [⟨a, sl⟩]) := N.app fun y hy => by cases List.mem_singleton.mp hy; exact q
end OwnArr
theorem own_nar (x : Int32) : nar .char (own_c x) = own_c x := by
  have h : (own_c x).toUInt32.toUInt16 = x.toUInt32.toUInt16 := by
    show (x.toUInt32.toUInt16.toUInt32).toUInt16 = _
    generalize x.toUInt32.toUInt16 = w
    simp
  exact congrArg (fun u : UInt16 => u.toUInt32.toInt32) h
theorem own_and255 (x : Int32) : ¬ own_c (x &&& (255 : Int32)) < 0 ∧ ¬ (255 : Int32) < own_c (x &&& (255 : Int32)) := by
  have t : ∀ k : Fin 256, ¬ own_c (Int32.ofNat k.val) < 0 ∧ ¬ (255 : Int32) < own_c (Int32.ofNat k.val) := by decide +kernel
  have h : (x &&& 255).toBitVec.toNat < 256 := by
    simp only [Int32.toBitVec_and, BitVec.toNat_and]
    exact Nat.lt_succ_of_le Nat.and_le_right
  have e : (x &&& 255) = Int32.ofNat (x &&& 255).toBitVec.toNat := by
    apply Int32.toBitVec_inj.mp
    show _ = BitVec.ofNat 32 _
    rw [BitVec.ofNat_toNat]; simp
  rw [e]
  exact t ⟨_, h⟩
/-- x & 3 is one of four -/
theorem own_and3c (x : Int32) : x &&& 3 = 0 ∨ x &&& 3 = 1 ∨ x &&& 3 = 2 ∨ x &&& 3 = 3 := by
  have h : (x &&& 3).toBitVec.toNat ≤ 3 := by
    simp only [Int32.toBitVec_and, BitVec.toNat_and]
    exact Nat.and_le_right
  have e : (x &&& 3) = Int32.ofNat (x &&& 3).toBitVec.toNat := by
    apply Int32.toBitVec_inj.mp
    show _ = BitVec.ofNat 32 _
    rw [BitVec.ofNat_toNat]; simp
  rw [e]
  generalize (x &&& 3).toBitVec.toNat = n at h
  have : n = 0 ∨ n = 1 ∨ n = 2 ∨ n = 3 := by omega
  rcases this with rfl | rfl | rfl | rfl <;> decide
theorem own_up (cs : List Int32) (h : ∀ c ∈ cs, ¬ c < 0 ∧ ¬ (255 : Int32) < c) : ∀ c ∈ cs, ¬ c < 0 ∧ ¬ (65535 : Int32) < c := fun c hc => ⟨(h c hc).1, fun q => (h c hc).2 (by rw [Int32.lt_iff_toInt_lt] at q ⊢; have e1 : (65535 : Int32).toInt = 65535 := rfl; have e2 : (255 : Int32).toInt = 255 := rfl; omega)⟩
/-- x is a Latin-1 String of the chars cs -/
def own_Str (Z : State) (h : Heap) (x : Addr) (cs : List Int32) : Prop := ∃ (t : Addr) (kb : ClassId), Exa Z h x "java/lang/String" ∧ Fld Z h x "java/lang/String" "value" "[B" (.ref t) ∧ Fld Z h x "java/lang/String" "coder" "B" (.int 0) ∧ Arv Z h t kb .byte (Int32.ofNat cs.length) ((cs.map fun c => c.toInt8.toInt32).map Value.int) (.int 0) ∧ (∀ c ∈ cs, ¬ c < 0 ∧ ¬ (255 : Int32) < c) ∧ cs.length ≤ 4000
theorem own_Str.ext {Z : State} {h h' : Heap} {x : Addr} {cs : List Int32} (S : own_Str Z h x cs) (E : Ext h h') : own_Str Z h' x cs := by
  obtain ⟨t, kb, s1, s2, s3, s4, r⟩ := S; exact ⟨t, kb, s1.ext E, s2.ext E, s3.ext E, s4.ext E, r⟩
theorem own_Str.exa {Z : State} {h : Heap} {x : Addr} {cs : List Int32} (S : own_Str Z h x cs) : Exa Z h x "java/lang/String" := by obtain ⟨_, _, q, -⟩ := S; exact q
theorem own_wiS : Jvm.Cond.instantiable "java/lang/String" 4 ∈ tables_1 := by decide +kernel
end Jvm.Pilot.@@N@@
namespace Jvm.Pilot.@@N@@
open Jvm Jvm.ClassFile Sem Op Lib Jvm.Free Jvm.Stand Jvm.LawKit Jvm.RoadKit Bundle Jvm.Pilot.@@N@@.Jvm.D
theorem own_lenB {p : Program} {l : Launch} {e : Env} {R : Room} {s : State} {args : Array Value} {below : List Frame} {len W : Nat} {Z : State} {a0 : Array Value} {h : Heap} (hZ : Z.Warmed39 s.vm) (hw : ∀ d ∈ tables_1, d.before a0 Z = true) {x : Addr} {cs : List Int32} {z : Int32} (S : own_Str Z h x cs)
    (O : Sta Z h "java/lang/String" "COMPACT_STRINGS" "Z" (.int z)) (hz : ¬ z = 0) (hfr : 2 ≤ R.frames) (hlo : W + 25 ≤ R.locals) :
    Back l R p e below s args (⟨"java/lang/String", "length", "()I"⟩ : MethodName) len W (fun P a => a = #[.ref x] ∧ P.U.heap = h ∧ P.cells + 0 ≤ R.cells ∧ P.slots + 0 ≤ R.slots)
      (fun P _ v B => ∃ L, (v = some (.int (Int32.ofNat cs.length)) ∧ L = [] ∧ B.U.heap = h) ∧ B.locs = P.locs ++ L ∧ B.cells = P.cells + 0 ∧ B.slots = P.slots + 0) := by
  obtain ⟨t, kb, E, V, C, K, hp, hl⟩ := S
  exact StrChars.Road.lenW hZ (fun d hd => hw d ((by decide +kernel : ∀ d ∈ StrChars.Road.wordsLen, d ∈ tables_1) d hd)) (kI := 4) (hw _ own_wiS) E V C K (StrChars.Road.codOf rfl (fun c hc => (hp c hc).2)) (own_up _ hp) O hz hl hfr hlo
end Jvm.Pilot.@@N@@
namespace Jvm.Pilot.@@N@@
open Jvm Jvm.ClassFile Sem Op Lib Jvm.Free Jvm.Stand Jvm.LawKit Jvm.RoadKit Bundle Jvm.Pilot.@@N@@.Jvm.D
theorem own_chB {p : Program} {l : Launch} {e : Env} {R : Room} {s : State} {args : Array Value} {below : List Frame} {len W : Nat} {Z : State} {a0 : Array Value} {h : Heap} (hZ : Z.Warmed39 s.vm) (hw : ∀ d ∈ tables_1, d.before a0 Z = true) {x : Addr} {cs : List Int32} {z : Int32} {fm : Value} (S : own_Str Z h x cs)
    (O : Sta Z h "java/lang/String" "COMPACT_STRINGS" "Z" (.int z)) (hz : ¬ z = 0) (O2 : Sta Z h "jdk/internal/util/Preconditions" "SIOOBE_FORMATTER" "Ljava/util/function/BiFunction;" fm) (rf : fm.isRef = true) {i : Nat} {j : Int32} (hi : i < cs.length) (hj : j = Int32.ofNat i) (hfr : 4 ≤ R.frames) (hlo : W + 53 ≤ R.locals) :
    Back l R p e below s args (⟨"java/lang/String", "charAt", "(I)C"⟩ : MethodName) len W (fun P a => a = #[.ref x, .int j] ∧ P.U.heap = h ∧ P.cells + 0 ≤ R.cells ∧ P.slots + 0 ≤ R.slots)
      (fun P _ v B => ∃ L, (v = some (.int (cs.getD i 0)) ∧ L = [] ∧ B.U.heap = h) ∧ B.locs = P.locs ++ L ∧ B.cells = P.cells + 0 ∧ B.slots = P.slots + 0) := by
  obtain ⟨t, kb, E, V, C, K, hp, hl⟩ := S
  exact StrChars.Road.chN hZ (fun d hd => hw d ((by decide +kernel : ∀ d ∈ StrChars.Road.wordsChN, d ∈ tables_1) d hd)) (kI := 4) (hw _ own_wiS) E V C K (StrChars.Road.codOf rfl (fun c hc => (hp c hc).2)) (own_up _ hp) O hz O2 rf hl hi hj hfr hlo
end Jvm.Pilot.@@N@@
namespace Jvm.Pilot.@@N@@
open Jvm Jvm.ClassFile Sem Op Lib Jvm.Free Jvm.Stand Jvm.LawKit Jvm.RoadKit Bundle Jvm.Pilot.@@N@@.Jvm.D
theorem own_toInt {k : Nat} (h : k ≤ 100000) : (Int32.ofNat k).toInt = k := Int32.toInt_ofNat_of_lt (by omega)
theorem own_nn {k : Nat} (h : k ≤ 100000) : ¬ Int32.ofNat k < 0 := by
  rw [Int32.lt_iff_toInt_lt, own_toInt h]; have : (0 : Int32).toInt = 0 := rfl; omega
theorem own_tn {k : Nat} (h : k ≤ 100000) : (Int32.ofNat k).toNatClampNeg = k := by
  simp only [Int32.toNatClampNeg, own_toInt h]; omega
theorem own_ltN {j k : Nat} (h : j < k) (hk : k ≤ 100000) : Int32.ofNat j < Int32.ofNat k := by
  rw [Int32.lt_iff_toInt_lt, own_toInt hk, own_toInt (by omega)]; omega
theorem own_nltN {j k : Nat} (h : j ≤ k) (hk : k ≤ 100000) : ¬ Int32.ofNat k < Int32.ofNat j := by
  rw [Int32.lt_iff_toInt_lt, own_toInt hk, own_toInt (by omega)]; omega
theorem own_inj {j k : Nat} (hj : j ≤ 100000) (hk : k ≤ 100000) (h : Int32.ofNat j = Int32.ofNat k) : j = k := by
  have := congrArg Int32.toInt h; rw [own_toInt hj, own_toInt hk] at this; omega
theorem own_pred (k : Nat) : Int32.ofNat (k + 1) - 1 = Int32.ofNat k := by
  rw [Int32.ofNat_add]; exact Int32.add_sub_cancel _ _
theorem own_dec (x : Int32) : x + Int32.ofInt (-1) = x - 1 := by
  rw [Int32.sub_eq_add_neg]; rfl
theorem own_inc (k : Nat) : Int32.ofNat k + (1 : Int32) = Int32.ofNat (k + 1) := by rw [Int32.ofNat_add]; rfl
theorem own_bget (cs : List Int32) {k : Nat} (h : k < cs.length) : ((cs.map fun c => c.toInt8.toInt32).map Value.int).getD k (.int 0) = .int ((cs.getD k 0).toInt8.toInt32) := by
  simp [List.getD_eq_getElem?_getD, h]
theorem own_b {c d : Int32} (h0 : ¬ c < 0) (h1 : ¬ (255 : Int32) < c) (g0 : ¬ d < 0) (g1 : ¬ (255 : Int32) < d) (h : c.toInt8.toInt32 = d.toInt8.toInt32) : c = d := by
  have e : ∀ x : Int32, ¬ x < 0 → ¬ (255 : Int32) < x → ∃ k : Fin 256, x = Int32.ofNat k.val := fun x a b => by
    rw [Int32.lt_iff_toInt_lt] at a b
    have z0 : (0 : Int32).toInt = 0 := rfl
    have z1 : (255 : Int32).toInt = 255 := rfl
    refine ⟨⟨x.toInt.toNat, by omega⟩, ?_⟩
    apply Int32.toInt_inj.mp
    rw [own_toInt (by show x.toInt.toNat ≤ 100000; omega)]; show _ = ((x.toInt.toNat : Nat) : Int); omega
  obtain ⟨i, rfl⟩ := e c h0 h1
  obtain ⟨j, rfl⟩ := e d g0 g1
  have t : ∀ i : Fin 256, (Int32.ofNat i.val).toInt8.toUInt8.toNat = i.val := by decide +kernel
  have h8 : (Int32.ofNat i.val).toInt8 = (Int32.ofNat j.val).toInt8 := by
    have := congrArg Int32.toInt8 h; simpa using this
  have h9 : i.val = j.val := by rw [← t i, ← t j, h8]
  rw [h9]
theorem own_mem {cs : List Int32} {k : Nat} (h : k < cs.length) : cs.getD k 0 ∈ cs := by
  rw [List.getD_eq_getElem?_getD, List.getElem?_eq_getElem h]; exact List.getElem_mem h
theorem own_takeB (cs : List Int32) {e : Nat} (h : e ≤ cs.length) : (List.range e).map (fun i => ((cs.map fun c => c.toInt8.toInt32).map Value.int).getD (0 + i) (.int 0)) = ((cs.take e).map fun c => c.toInt8.toInt32).map Value.int := by
  apply List.ext_getElem
  · simp; omega
  · intro i h1 h2
    have hi : i < e := by simpa using h1
    have hj : i < cs.length := by omega
    simp [List.getD_eq_getElem?_getD, hj]
end Jvm.Pilot.@@N@@
namespace Jvm.Pilot.@@N@@
open Jvm Jvm.ClassFile Sem Op Lib Jvm.Free Jvm.Stand Jvm.LawKit Jvm.RoadKit Bundle Jvm.Pilot.@@N@@.Jvm.D
abbrev EL : List (String × Nat) := [("java/lang/String", 7), ("java/lang/StringLatin1", 151)]
theorem own_hwsL {Z : State} {a0 : Array Value} (hw : ∀ d ∈ tables_1, d.before a0 Z = true) : ∀ d ∈ StrChars.Road.words, d.before a0 Z = true := fun d hd => hw d ((by decide +kernel : ∀ d ∈ StrChars.Road.words, d ∈ tables_1) d hd)
theorem dE4_0 : decode jdk_42_method_149_code 0 = .ok (.aload_n 0, 1) := by decide +kernel
theorem dE4_1 : decode jdk_42_method_149_code 1 = .ok (.invokespecial 1, 3) := by decide +kernel
theorem dE4_4 : decode jdk_42_method_149_code 4 = .ok (.iload_n 3, 1) := by decide +kernel
theorem dE4_5 : decode jdk_42_method_149_code 5 = .ok (.ifCond .ne 22, 3) := by decide +kernel
theorem dE4_8 : decode jdk_42_method_149_code 8 = .ok (.aload_n 0, 1) := by decide +kernel
theorem dE4_9 : decode jdk_42_method_149_code 9 = .ok (.ldc 7, 2) := by decide +kernel
theorem dE4_11 : decode jdk_42_method_149_code 11 = .ok (.getfield 9, 3) := by decide +kernel
theorem dE4_14 : decode jdk_42_method_149_code 14 = .ok (.putfield 9, 3) := by decide +kernel
theorem dE4_17 : decode jdk_42_method_149_code 17 = .ok (.aload_n 0, 1) := by decide +kernel
theorem dE4_18 : decode jdk_42_method_149_code 18 = .ok (.ldc 7, 2) := by decide +kernel
theorem dE4_20 : decode jdk_42_method_149_code 20 = .ok (.getfield 15, 3) := by decide +kernel
theorem dE4_23 : decode jdk_42_method_149_code 23 = .ok (.putfield 15, 3) := by decide +kernel
theorem dE4_26 : decode jdk_42_method_149_code 26 = .ok (.return_, 1) := by decide +kernel
theorem dE4_27 : decode jdk_42_method_149_code 27 = .ok (.getstatic 38, 3) := by decide +kernel
theorem dE4_30 : decode jdk_42_method_149_code 30 = .ok (.ifCond .eq 28, 3) := by decide +kernel
theorem dE4_33 : decode jdk_42_method_149_code 33 = .ok (.aload_n 1, 1) := by decide +kernel
theorem dE4_34 : decode jdk_42_method_149_code 34 = .ok (.iload_n 2, 1) := by decide +kernel
theorem dE4_35 : decode jdk_42_method_149_code 35 = .ok (.iload_n 3, 1) := by decide +kernel
theorem dE4_36 : decode jdk_42_method_149_code 36 = .ok (.invokestatic 177, 3) := by decide +kernel
theorem dE4_39 : decode jdk_42_method_149_code 39 = .ok (.astore 5, 2) := by decide +kernel
theorem dE4_41 : decode jdk_42_method_149_code 41 = .ok (.aload_n 0, 1) := by decide +kernel
theorem dE4_42 : decode jdk_42_method_149_code 42 = .ok (.aload 5, 2) := by decide +kernel
theorem dE4_44 : decode jdk_42_method_149_code 44 = .ok (.iload_n 3, 1) := by decide +kernel
theorem dE4_45 : decode jdk_42_method_149_code 45 = .ok (.invokestatic 47, 3) := by decide +kernel
theorem dE4_48 : decode jdk_42_method_149_code 48 = .ok (.putfield 15, 3) := by decide +kernel
theorem dE4_51 : decode jdk_42_method_149_code 51 = .ok (.aload_n 0, 1) := by decide +kernel
theorem dE4_52 : decode jdk_42_method_149_code 52 = .ok (.aload 5, 2) := by decide +kernel
theorem dE4_54 : decode jdk_42_method_149_code 54 = .ok (.putfield 9, 3) := by decide +kernel
theorem dE4_57 : decode jdk_42_method_149_code 57 = .ok (.return_, 1) := by decide +kernel
theorem dE4_58 : decode jdk_42_method_149_code 58 = .ok (.aload_n 0, 1) := by decide +kernel
theorem dE4_59 : decode jdk_42_method_149_code 59 = .ok (.iconst 1, 1) := by decide +kernel
theorem dE4_60 : decode jdk_42_method_149_code 60 = .ok (.putfield 15, 3) := by decide +kernel
theorem dE4_63 : decode jdk_42_method_149_code 63 = .ok (.aload_n 0, 1) := by decide +kernel
theorem dE4_64 : decode jdk_42_method_149_code 64 = .ok (.aload_n 1, 1) := by decide +kernel
theorem dE4_65 : decode jdk_42_method_149_code 65 = .ok (.iload_n 2, 1) := by decide +kernel
theorem dE4_66 : decode jdk_42_method_149_code 66 = .ok (.iload_n 3, 1) := by decide +kernel
theorem dE4_67 : decode jdk_42_method_149_code 67 = .ok (.invokestatic 180, 3) := by decide +kernel
theorem dE4_70 : decode jdk_42_method_149_code 70 = .ok (.putfield 9, 3) := by decide +kernel
theorem dE4_73 : decode jdk_42_method_149_code 73 = .ok (.return_, 1) := by decide +kernel
theorem dE1_0 : decode jdk_42_method_3_code 0 = .ok (.aload_n 0, 1) := by decide +kernel
theorem dE1_1 : decode jdk_42_method_3_code 1 = .ok (.aload_n 1, 1) := by decide +kernel
theorem dE1_2 : decode jdk_42_method_3_code 2 = .ok (.iconst 0, 1) := by decide +kernel
theorem dE1_3 : decode jdk_42_method_3_code 3 = .ok (.aload_n 1, 1) := by decide +kernel
theorem dE1_4 : decode jdk_42_method_3_code 4 = .ok (.arraylength, 1) := by decide +kernel
theorem dE1_5 : decode jdk_42_method_3_code 5 = .ok (.aconst_null, 1) := by decide +kernel
theorem dE1_6 : decode jdk_42_method_3_code 6 = .ok (.invokespecial 27, 3) := by decide +kernel
theorem dE1_9 : decode jdk_42_method_3_code 9 = .ok (.return_, 1) := by decide +kernel
theorem pnS : plainName "java/lang/String" = true := by first | (simp [plainName, overriddenIn]; done) | decide +kernel
theorem pdE4 : parseMethodDescriptor "([CIILjava/lang/Void;)V" = some ⟨[.array .char, .int, .int, .object "java/lang/Void"], none⟩ := by decide +kernel
theorem pdE1 : parseMethodDescriptor "([C)V" = some ⟨[.array .char], none⟩ := by decide +kernel
theorem efE4 (m : MethodId) (x0 : Addr) (x1 : Addr) (x2 : Int32) (x3 : Int32) : entryFrame m #[(.ref x0), (.ref x1), (.int x2), (.int x3), .null] 6 = mkF m 0 #[.val (.ref x0), .val (.ref x1), .val (.int x2), .val (.int x3), .val .null, .unset] [] := by first | (simp [entryFrame, mkF, argsToLocals, Value.category]; done) | rfl
def Q_rmE4 (Z : State) (x b : Addr) (h0 : Heap) (v : Option Value) (h : Heap) (L : List Loc) : Prop := v = none ∧ Fr Z.heap.size L ∧ Keep h0 h [x] ∧ own_Str Z h x []
set_option maxRecDepth 65536 in
set_option maxHeartbeats 40000000 in
theorem rmE4 (l : Launch) (Z : State) (a0 : Array Value) (hw : ∀ d ∈ tables_1, d.before a0 Z = true) (hEL : EW Z a0 EL) (x b : Addr) (h0 : Heap) (ga : Z.heap.size ≤ x) (A0 : Exa Z h0 x "java/lang/String") (Fv : Fld Z h0 x "java/lang/String" "value" "[B" .null) (Fc : Fld Z h0 x "java/lang/String" "coder" "B" (.int (0 : Int32))) :
    MetFree l (⟨"java/lang/String", "<init>", "([CIILjava/lang/Void;)V"⟩ : MethodName) (head1 (Jvm.Cond.code (⟨"java/lang/String", "<init>", "([CIILjava/lang/Void;)V"⟩ : MethodName) jdk_42_method_149_code 6 (Option.none : Option FieldType) :: []) ({ frames := 1, cells := 4, slots := 8, locals := 12 } : Room)) (fun aa U => aa = #[(.ref x), (.ref b), (.int (0 : Int32)), (.int (0 : Int32)), .null] ∧ Z.Warmed39 U.vm ∧ U.heap = h0 ∧ CHv Z EL U.vm h0 ∧ ∀ yy ∈ ([x] : List Addr), Safe Z EL U.vm h0 yy) (fun _ _ _ _ _ => True) (fun _ U o U' => ∃ v L, o = .returned v ∧ (Q_rmE4 Z x b h0) v U'.heap L ∧ CHr Z EL U.vm U.heap U'.vm U'.heap ∧ ReturnedEndW U o U' L ({ frames := 1, cells := 4, slots := 8, locals := 12 } : Room).cells ({ frames := 1, cells := 4, slots := 8, locals := 12 } : Room).slots) := by
  refine own_walkW (by exact pnS) ?_
  intro p e s m below meth c T0 X0 hx hby hml hret hlk hnm hs0 e0 I0 hsf F hF
  refine own_on (fun _ => castTop (efE4 m x b 0 0)) ?_
  have N0 := Fr.nil Z.heap.size
  have Q0 := Keep.refl h0 [x]
  have S0 := hsf x (by simp)
  refine own_aload_n X0.here hx (hb hby dE4_0) rfl rfl (pc' := 1) rfl ?_
  obtain ⟨T1, X1, e1, st1⟩ := initO X0 hx I0.1 I0.2.1 (hw _ (List.mem_of_getElem? (i := 16) rfl)) (hw _ (List.mem_of_getElem? (i := 17) rfl)) (hw _ (List.mem_of_getElem? (i := 18) rfl)) e0 (g := (mkF m 1 #[.val (.ref x), .val (.ref b), .val (.int ((0 : Int32))), .val (.int ((0 : Int32))), .val .null, .unset] [(.ref x)])) rfl (by rw [hml]; rfl) rfl (hb hby dE4_1) (by decide) (W := 0) (by show 2 * 0 + _ ≤ _; exact Nat.le_of_eq rfl) (by decide)
  refine own_on st1 ?_
  show own_Go p e below F (T1.setTop (mkF m 4 #[.val (.ref x), .val (.ref b), .val (.int ((0 : Int32))), .val (.int ((0 : Int32))), .val .null, .unset] []))
  refine own_iload_n X1.here hx (hb hby dE4_4) rfl (pc' := 5) rfl ?_
  refine own_ifne X1.here hx (hb hby dE4_5) (by decide) (pc' := 27) (by decide) (pc2 := 8) rfl (fun q => absurd rfl q) (fun q2 => ?_)
  refine own_aload_n X1.here hx (hb hby dE4_8) rfl rfl (pc' := 9) rfl ?_
  obtain ⟨b3, T3, t3, kb3, X3, E3, I3, C3, A3, Fc3, Fv3, V3, hn3, st3⟩ := own_ldcT X1 hx I0 (hw _ (List.mem_of_getElem? (i := 19) rfl)) (own_strW hw) e1 hEL (by simp [EL]) (vs := []) (z := 0) (by decide) (by decide) (by decide) (g := (mkF m 9 #[.val (.ref x), .val (.ref b), .val (.int ((0 : Int32))), .val (.int ((0 : Int32))), .val .null, .unset] [(.ref x)])) rfl (hb hby dE4_9) (n := 0) (by decide) (by decide) (by decide) (by decide)
  have f4 := Q0.ext E3
  have f5 := A0.ext E3
  have f6 := Fv.ext E3
  have f7 := Fc.ext E3
  have f8 := C3.safe A0.lt S0
  have ne9 := hn3 x f8
  refine own_on st3 ?_
  show own_Go p e below F (T3.setTop (mkF m 11 #[.val (.ref x), .val (.ref b), .val (.int ((0 : Int32))), .val (.int ((0 : Int32))), .val .null, .unset] [(.ref b3), (.ref x)]))
  obtain ⟨T10, X10, e10, st10⟩ := getF X3 hx I3.1 I3.2.1 (host := "") (Or.inl (hw _ (List.mem_of_getElem? (i := 25) rfl))) Via.refl rfl Fv3 (g := (mkF m 11 #[.val (.ref x), .val (.ref b), .val (.int ((0 : Int32))), .val (.int ((0 : Int32))), .val .null, .unset] [(.ref b3), (.ref x)])) rfl rfl (hb hby dE4_11)
  refine own_on st10 ?_
  show own_Go p e below F (T10.setTop (mkF m 14 #[.val (.ref x), .val (.ref b), .val (.int ((0 : Int32))), .val (.int ((0 : Int32))), .val .null, .unset] [(.ref t3), (.ref x)]))
  obtain ⟨T11, h11, X11, e11, W11, st11⟩ := putF X10 hx I3.1 I3.2.1 (host := "") (Or.inl (hw _ (List.mem_of_getElem? (i := 25) rfl))) Via.refl e10 f6 f5 (Or.inr ⟨(hw _ (List.mem_of_getElem? (i := 21) rfl)), rfl, hnm⟩) (hw _ (List.mem_of_getElem? (i := 7) rfl)) (ty := .array .byte) (by decide) rfl rfl (g := (mkF m 14 #[.val (.ref x), .val (.ref b), .val (.int ((0 : Int32))), .val (.int ((0 : Int32))), .val .null, .unset] [(.ref t3), (.ref x)])) rfl rfl (hb hby dE4_14)
  have f12 := f5.wr W11
  have f13 := f6.same W11
  have f14 := f7.other W11 (Or.inr (slot_ne (Or.inr (hw _ (List.mem_of_getElem? (i := 22) rfl))) (Or.inr (hw _ (List.mem_of_getElem? (i := 21) rfl))) (by decide) (t := .byte) (by decide) (t' := .array .byte) (by decide)))
  have f15 := Safe.wr W11 f8 I3.ch f8
  have f16 := A3.wr W11
  have f17 := Fc3.other W11 (Or.inl (Ne.symm ne9.1))
  have f18 := Fv3.other W11 (Or.inl (Ne.symm ne9.1))
  have f19 := V3.other W11 (Ne.symm ne9.2)
  have J20 := I3.wr W11 f8
  have f21 := f4.wr W11 (Or.inl (by simp))
  have N22 := own_Fr_snoc (sl := Jvm.RoadKit.slotOf Z "java/lang/String" "value" "[B") N0 ga
  refine own_on st11 ?_
  show own_Go p e below F (T11.setTop (mkF m 17 #[.val (.ref x), .val (.ref b), .val (.int ((0 : Int32))), .val (.int ((0 : Int32))), .val .null, .unset] []))
  refine own_aload_n X11.here hx (hb hby dE4_17) rfl rfl (pc' := 18) rfl ?_
  obtain ⟨b23, T23, t23, kb23, X23, E23, I23, C23, A23, Fc23, Fv23, V23, hn23, st23⟩ := own_ldcT X11 hx J20 (hw _ (List.mem_of_getElem? (i := 19) rfl)) (own_strW hw) e11 hEL (by simp [EL]) (vs := []) (z := 0) (by decide) (by decide) (by decide) (g := (mkF m 18 #[.val (.ref x), .val (.ref b), .val (.int ((0 : Int32))), .val (.int ((0 : Int32))), .val .null, .unset] [(.ref x)])) rfl (hb hby dE4_18) (n := 0) (by decide) (by decide) (by decide) (by decide)
  have f24 := f12.ext E23
  have f25 := f13.ext E23
  have f26 := f14.ext E23
  have f27 := C23.safe (f12).lt f15
  have f28 := f19.ext E23
  have f29 := f21.ext E23
  have ne30 := hn23 x f27
  refine own_on st23 ?_
  show own_Go p e below F (T23.setTop (mkF m 20 #[.val (.ref x), .val (.ref b), .val (.int ((0 : Int32))), .val (.int ((0 : Int32))), .val .null, .unset] [(.ref b23), (.ref x)]))
  obtain ⟨T31, X31, e31, st31⟩ := getF X23 hx I23.1 I23.2.1 (host := "") (Or.inl (hw _ (List.mem_of_getElem? (i := 26) rfl))) Via.refl rfl Fc23 (g := (mkF m 20 #[.val (.ref x), .val (.ref b), .val (.int ((0 : Int32))), .val (.int ((0 : Int32))), .val .null, .unset] [(.ref b23), (.ref x)])) rfl rfl (hb hby dE4_20)
  refine own_on st31 ?_
  show own_Go p e below F (T31.setTop (mkF m 23 #[.val (.ref x), .val (.ref b), .val (.int ((0 : Int32))), .val (.int ((0 : Int32))), .val .null, .unset] [(.int ((0 : Int32))), (.ref x)]))
  obtain ⟨T32, h32, X32, e32, W32, st32⟩ := putF X31 hx I23.1 I23.2.1 (host := "") (Or.inl (hw _ (List.mem_of_getElem? (i := 26) rfl))) Via.refl e31 f26 f24 (Or.inr ⟨(hw _ (List.mem_of_getElem? (i := 22) rfl)), rfl, hnm⟩) (hw _ (List.mem_of_getElem? (i := 7) rfl)) (ty := .byte) (by decide) rfl rfl (g := (mkF m 23 #[.val (.ref x), .val (.ref b), .val (.int ((0 : Int32))), .val (.int ((0 : Int32))), .val .null, .unset] [(.int ((0 : Int32))), (.ref x)])) rfl rfl (hb hby dE4_23)
  have f33 := f24.wr W32
  have f34 := f25.other W32 (Or.inr (slot_ne (Or.inr (hw _ (List.mem_of_getElem? (i := 21) rfl))) (Or.inr (hw _ (List.mem_of_getElem? (i := 22) rfl))) (by decide) (t := .array .byte) (by decide) (t' := .byte) (by decide)))
  have f35 := f26.same W32
  have f36 := Safe.wr W32 f27 I23.ch f27
  have f37 := f28.other W32 (Ne.symm ne9.2)
  have f38 := A23.wr W32
  have f39 := Fc23.other W32 (Or.inl (Ne.symm ne30.1))
  have f40 := Fv23.other W32 (Or.inl (Ne.symm ne30.1))
  have f41 := V23.other W32 (Ne.symm ne30.2)
  have J42 := I23.wr W32 f27
  have f43 := f29.wr W32 (Or.inl (by simp))
  have N44 := own_Fr_snoc (sl := Jvm.RoadKit.slotOf Z "java/lang/String" "coder" "B") N22 ga
  refine own_on st32 ?_
  show own_Go p e below F (T32.setTop (mkF m 26 #[.val (.ref x), .val (.ref b), .val (.int ((0 : Int32))), .val (.int ((0 : Int32))), .val .null, .unset] []))
  exact own_retVW X32 hx hlk hEL J42 e32 hret (hb hby dE4_26) (fun t ht hC hE => hF t _ _ _ _ (by rw [ht]; exact ⟨rfl, N44, f43, t3, kb3, f33, f34, f35, f37, (fun _ q => nomatch q), (by decide)⟩) hC hE (by decide) (by decide))
theorem efE1 (m : MethodId) (x0 : Addr) (x1 : Addr) : entryFrame m #[(.ref x0), (.ref x1)] 2 = mkF m 0 #[.val (.ref x0), .val (.ref x1)] [] := by first | (simp [entryFrame, mkF, argsToLocals, Value.category]; done) | rfl
def Q_rmE1 (Z : State) (x b : Addr) (kc : ClassId) (dv : Value) (h0 : Heap) (v : Option Value) (h : Heap) (L : List Loc) : Prop := v = none ∧ Fr Z.heap.size L ∧ Keep h0 h [x] ∧ own_Str Z h x []
set_option maxRecDepth 65536 in
set_option maxHeartbeats 40000000 in
theorem rmE1 (l : Launch) (Z : State) (a0 : Array Value) (hw : ∀ d ∈ tables_1, d.before a0 Z = true) (hEL : EW Z a0 EL) (x b : Addr) (kc : ClassId) (dv : Value) (h0 : Heap) (ga : Z.heap.size ≤ x) (A0 : Exa Z h0 x "java/lang/String") (Fv : Fld Z h0 x "java/lang/String" "value" "[B" .null) (Fc : Fld Z h0 x "java/lang/String" "coder" "B" (.int (0 : Int32))) (V0 : Arv Z h0 b kc .char (0 : Int32) [] dv) :
    MetFree l (⟨"java/lang/String", "<init>", "([C)V"⟩ : MethodName) (head1 (Jvm.Cond.code (⟨"java/lang/String", "<init>", "([C)V"⟩ : MethodName) jdk_42_method_3_code 2 (Option.none : Option FieldType) :: []) ({ frames := 2, cells := 4, slots := 8, locals := 29 } : Room)) (fun aa U => aa = #[(.ref x), (.ref b)] ∧ Z.Warmed39 U.vm ∧ U.heap = h0 ∧ CHv Z EL U.vm h0 ∧ ∀ yy ∈ ([x] : List Addr), Safe Z EL U.vm h0 yy) (fun _ _ _ _ _ => True) (fun _ U o U' => ∃ v L, o = .returned v ∧ (Q_rmE1 Z x b kc dv h0) v U'.heap L ∧ CHr Z EL U.vm U.heap U'.vm U'.heap ∧ ReturnedEndW U o U' L ({ frames := 2, cells := 4, slots := 8, locals := 29 } : Room).cells ({ frames := 2, cells := 4, slots := 8, locals := 29 } : Room).slots) := by
  refine own_walkW (by exact pnS) ?_
  intro p e s m below meth c T0 X0 hx hby hml hret hlk hnm hs0 e0 I0 hsf F hF
  refine own_on (fun _ => castTop (efE1 m x b)) ?_
  have N0 := Fr.nil Z.heap.size
  have Q0 := Keep.refl h0 [x]
  refine own_aload_n X0.here hx (hb hby dE1_0) rfl rfl (pc' := 1) rfl ?_
  refine own_aload_n X0.here hx (hb hby dE1_1) rfl rfl (pc' := 2) rfl ?_
  refine own_iconst X0.here hx (hb hby dE1_2) (v := 0) rfl (pc' := 3) rfl ?_
  refine own_aload_n X0.here hx (hb hby dE1_3) rfl rfl (pc' := 4) rfl ?_
  refine own_alen X0 hx I0.1 e0 V0 (hb hby dE1_4) (pc' := 5) rfl ?_
  refine own_aconst_null X0.here hx (hb hby dE1_5) (pc' := 6) rfl ?_
  obtain ⟨_, _, ⟨T1, L1, k1, n1⟩, -, X1, hS1, hG1, ⟨Lc1, hQ1, l1, y1, z1, C1⟩, st1⟩ := X0.specialBackS hx (y := (⟨"java/lang/String", "<init>", "([CIILjava/lang/Void;)V"⟩ : MethodName)) rfl I0.2.1 (mvT I0.1 (hw _ (List.mem_of_getElem? (i := 12) rfl))) (mvT I0.1 (hw _ (List.mem_of_getElem? (i := 13) rfl))) (mvT I0.1 (hw _ (List.mem_of_getElem? (i := 15) rfl))) (by decide) (own_backW (W := 0) (rmE4 l Z a0 hw hEL x b h0 ga A0 Fv Fc) I0.1 (hw _ (List.mem_of_getElem? (i := 15) rfl)) (hw _ (List.mem_of_getElem? (i := 8) rfl)) (by decide) (by decide) hEL I0.ch (fun y hy => by simp only [List.mem_cons, List.not_mem_nil, or_false] at hy; subst hy; exact ⟨A0.lt, hsf _ (by simp)⟩)) (g := (mkF m 6 #[.val (.ref x), .val (.ref b)] [.null, (.int ((0 : Int32))), (.int ((0 : Int32))), (.ref b), (.ref x)])) rfl (by rw [hml]; rfl) (Steps.refl _) (a := x) (argsL := [(.ref b), (.int ((0 : Int32))), (.int ((0 : Int32))), .null]) (rest := []) (lenOf pdE4 rfl) rfl (by show 2 * 0 + _ ≤ _; exact Nat.le_of_eq rfl) (hb hby dE1_6) (fun _ _ => ⟨rfl, e0, (Nat.le_of_ble_eq_true rfl), (Nat.le_of_ble_eq_true rfl)⟩)
  dsimp only [Pt.U, Pt.locs, Pt.cells, Pt.slots] at X1 hS1 hG1 l1 y1 z1 C1 st1 hQ1
  subst l1 y1 z1
  replace X1 := (show Stand _ _ _ _ (s.setVm T1.vm) _ _ _ _ _ _ _ _ _ from X1)
  have I1 := I0.later hS1 (Nat.le_refl _) (by have q := hG1; rw [(e0 : _ = h0)] at q; exact q) C1
  obtain ⟨rfl, N1, K1, S1⟩ := hQ1
  refine own_to st1 ?_
  show own_Go p e below F (T1.setTop (mkF m 9 #[.val (.ref x), .val (.ref b)] []))
  have f2 := Q0.trans K1 (fun y hy => by simp only [List.mem_cons, List.not_mem_nil, or_false] at hy; rcases hy with rfl <;> first | exact Or.inl (by simp) | exact Or.inr (by assumption))
  have N3 := Fr.app N0 N1
  exact own_retVW X1 hx hlk hEL I1 rfl hret (hb hby dE1_9) (fun t ht hC hE => hF t _ _ _ _ (by rw [ht]; exact ⟨rfl, N3, f2, S1⟩) hC hE (by decide) (by decide))
theorem pnL : plainName "com/example/cartulary/cartulary/RegisterUrisRegisterBasePinLaw" = true := by first | (simp [plainName, overriddenIn]; done) | decide +kernel
theorem pnSL : plainName "java/lang/StringLatin1" = true := by first | (simp [plainName, overriddenIn]; done) | decide +kernel
theorem pnPC : plainName "jdk/internal/util/Preconditions" = true := by first | (simp [plainName, overriddenIn]; done) | decide +kernel
theorem pnAR : plainName "java/util/Arrays" = true := by first | (simp [plainName, overriddenIn]; done) | decide +kernel
theorem pnRU : plainName "com/example/cartulary/cartulary/RegisterUris" = true := by first | (simp [plainName, overriddenIn]; done) | decide +kernel
theorem pdZ : parseMethodDescriptor "()Z" = some ⟨[], some .boolean⟩ := by decide +kernel
theorem pdI : parseMethodDescriptor "()I" = some ⟨[], some .int⟩ := by decide +kernel
theorem pdII : parseMethodDescriptor "(II)I" = some ⟨[.int, .int], some .int⟩ := by decide +kernel
theorem pdIZ : parseMethodDescriptor "(I)Z" = some ⟨[.int], some .boolean⟩ := by decide +kernel
theorem pdLL : parseMethodDescriptor "([BII)I" = some ⟨[.array .byte, .int, .int], some .int⟩ := by decide +kernel
theorem pdL1 : parseMethodDescriptor "(I)I" = some ⟨[.int], some .int⟩ := by decide +kernel
theorem pdCF : parseMethodDescriptor "(IIILjava/util/function/BiFunction;)I" = some ⟨[.int, .int, .int, .object "java/util/function/BiFunction"], some .int⟩ := by decide +kernel
theorem pdCB : parseMethodDescriptor "(III)V" = some ⟨[.int, .int, .int], none⟩ := by decide +kernel
theorem pdCL : parseMethodDescriptor "(II)V" = some ⟨[.int, .int], none⟩ := by decide +kernel
theorem pdRB : parseMethodDescriptor "([BII)[B" = some ⟨[.array .byte, .int, .int], some (.array .byte)⟩ := by decide +kernel
theorem pdBB : parseMethodDescriptor "([BB)V" = some ⟨[.array .byte, .byte], none⟩ := by decide +kernel
theorem pdNS : parseMethodDescriptor "([BII)Ljava/lang/String;" = some ⟨[.array .byte, .int, .int], some (.object "java/lang/String")⟩ := by decide +kernel
theorem pdSu : parseMethodDescriptor "(II)Ljava/lang/String;" = some ⟨[.int, .int], some (.object "java/lang/String")⟩ := by decide +kernel
theorem pdRU : parseMethodDescriptor "(Ljava/lang/String;)Ljava/lang/String;" = some ⟨[.object "java/lang/String"], some (.object "java/lang/String")⟩ := by decide +kernel
theorem pdCh : parseMethodDescriptor "(I)C" = some ⟨[.int], some .char⟩ := by decide +kernel
theorem efR (m : MethodId) (x0 : Addr) : entryFrame m #[(.ref x0)] 1 = mkF m 0 #[.val (.ref x0)] [] := by first | (simp [entryFrame, mkF, argsToLocals, Value.category]; done) | rfl
theorem dIL_0 : decode jdk_42_method_154_code 0 = .ok (.getstatic 38, 3) := by decide +kernel
theorem dIL_3 : decode jdk_42_method_154_code 3 = .ok (.ifCond .eq 14, 3) := by decide +kernel
theorem dIL_6 : decode jdk_42_method_154_code 6 = .ok (.aload_n 0, 1) := by decide +kernel
theorem dIL_7 : decode jdk_42_method_154_code 7 = .ok (.getfield 15, 3) := by decide +kernel
theorem dIL_10 : decode jdk_42_method_154_code 10 = .ok (.ifCond .ne 7, 3) := by decide +kernel
theorem dIL_13 : decode jdk_42_method_154_code 13 = .ok (.iconst 1, 1) := by decide +kernel
theorem dIL_14 : decode jdk_42_method_154_code 14 = .ok (.goto 4, 3) := by decide +kernel
theorem dIL_17 : decode jdk_42_method_154_code 17 = .ok (.iconst 0, 1) := by decide +kernel
theorem dIL_18 : decode jdk_42_method_154_code 18 = .ok (.ireturn, 1) := by decide +kernel
def Q_rmIL (Z : State) (x : Addr) (cs : List Int32) (h0 : Heap) (z0 : Int32) (v : Option Value) (h : Heap) (L : List Loc) : Prop := v = some (.int (1 : Int32)) ∧ Fr Z.heap.size L ∧ h = h0
set_option maxRecDepth 65536 in
set_option maxHeartbeats 40000000 in
theorem rmIL (l : Launch) (Z : State) (a0 : Array Value) (hw : ∀ d ∈ tables_1, d.before a0 Z = true) (x : Addr) (cs : List Int32) (h0 : Heap) (EZ : Ext Z.heap h0) (z0 : Int32) (O1 : Sta Z Z.heap "java/lang/String" "COMPACT_STRINGS" "Z" (.int z0)) (P5 : ¬ z0 = 0) (S : own_Str Z h0 x cs) :
    MetFree l (⟨"java/lang/String", "isLatin1", "()Z"⟩ : MethodName) (head1 (Jvm.Cond.code (⟨"java/lang/String", "isLatin1", "()Z"⟩ : MethodName) jdk_42_method_154_code 1 (Option.some FieldType.boolean) :: []) ({ frames := 0, cells := 0, slots := 0, locals := 0 } : Room)) (fun aa U => aa = #[(.ref x)] ∧ Z.Warmed39 U.vm ∧ U.heap = h0) (fun _ _ _ _ _ => True) (fun _ U o U' => ∃ v L, o = .returned v ∧ (Q_rmIL Z x cs h0 z0) v U'.heap L ∧ FrameEnd U o U' L ({ frames := 0, cells := 0, slots := 0, locals := 0 } : Room).cells ({ frames := 0, cells := 0, slots := 0, locals := 0 } : Room).slots) := by
  obtain ⟨t, kb, sE, sV, sC, sA, hp, hl⟩ := S
  refine own_walkN (by exact pnS) ?_
  intro p e s m below meth c T0 X0 hx hby hml hret hlk hnm hown hZ e0 es0 F hF
  refine own_on (fun _ => castTop (efR m x)) ?_
  obtain ⟨T1, X1, e1, st1⟩ := getS (host := "") X0 hx hZ hown (hw _ (List.mem_of_getElem? (i := 46) rfl)) Via.refl e0 (O1.ext EZ) (g := (mkF m 0 #[.val (.ref x)] [])) rfl (hb hby dIL_0)
  refine own_on st1 ?_
  show own_Go p e below F (T1.setTop (mkF m 3 #[.val (.ref x)] [(.int z0)]))
  refine own_ifeq X1.here hx (hb hby dIL_3) (by decide) (pc' := 17) (by decide) (pc2 := 6) rfl (fun q => absurd q P5) (fun q2 => ?_)
  refine own_aload_n X1.here hx (hb hby dIL_6) rfl rfl (pc' := 7) rfl ?_
  obtain ⟨T3, X3, e3, st3⟩ := getF X1 hx hZ hown (host := "") (Or.inl (hw _ (List.mem_of_getElem? (i := 26) rfl))) Via.refl e1 sC (g := (mkF m 7 #[.val (.ref x)] [(.ref x)])) rfl rfl (hb hby dIL_7)
  refine own_on st3 ?_
  show own_Go p e below F (T3.setTop (mkF m 10 #[.val (.ref x)] [(.int ((0 : Int32)))]))
  refine own_ifne X3.here hx (hb hby dIL_10) (by decide) (pc' := 17) (by decide) (pc2 := 13) rfl (fun q => absurd rfl q) (fun q4 => ?_)
  refine own_iconst X3.here hx (hb hby dIL_13) (v := 1) rfl (pc' := 14) rfl ?_
  refine own_goto X3.here hx (hb hby dIL_14) (by decide) (pc' := 18) (by decide) ?_
  exact own_retZ X3 hx hlk (by decide) hret (hb hby dIL_18) (fun t ht hE => hF t _ _ _ _ (by rw [ht, (e3 : _ = h0)]; exact ⟨rfl, Fr.nil _, rfl⟩) hE (by decide) (by decide))
theorem dMi_0 : decode jdk_29_method_69_code 0 = .ok (.iload_n 0, 1) := by decide +kernel
theorem dMi_1 : decode jdk_29_method_69_code 1 = .ok (.iload_n 1, 1) := by decide +kernel
theorem dMi_2 : decode jdk_29_method_69_code 2 = .ok (.if_icmp .gt 7, 3) := by decide +kernel
theorem dMi_5 : decode jdk_29_method_69_code 5 = .ok (.iload_n 0, 1) := by decide +kernel
theorem dMi_6 : decode jdk_29_method_69_code 6 = .ok (.goto 4, 3) := by decide +kernel
theorem dMi_9 : decode jdk_29_method_69_code 9 = .ok (.iload_n 1, 1) := by decide +kernel
theorem dMi_10 : decode jdk_29_method_69_code 10 = .ok (.ireturn, 1) := by decide +kernel
theorem efII (m : MethodId) (x0 : Int32) (x1 : Int32) : entryFrame m #[(.int x0), (.int x1)] 2 = mkF m 0 #[.val (.int x0), .val (.int x1)] [] := by first | (simp [entryFrame, mkF, argsToLocals, Value.category]; done) | rfl
def Q_rmMi (Z : State) (a b r : Int32) (h0 : Heap) (v : Option Value) (h : Heap) (L : List Loc) : Prop := v = some (.int r) ∧ Fr Z.heap.size L ∧ h = h0
set_option maxRecDepth 65536 in
set_option maxHeartbeats 40000000 in
theorem rmMi (l : Launch) (Z : State) (a0 : Array Value) (hw : ∀ d ∈ tables_1, d.before a0 Z = true) (a b r : Int32) (h0 : Heap) (hr : r = if b < a then b else a) :
    MetFree l (⟨"java/lang/Math", "min", "(II)I"⟩ : MethodName) (head1 (Jvm.Cond.code (⟨"java/lang/Math", "min", "(II)I"⟩ : MethodName) jdk_29_method_69_code 2 (Option.some FieldType.int) :: []) ({ frames := 0, cells := 0, slots := 0, locals := 0 } : Room)) (fun aa U => aa = #[(.int a), (.int b)] ∧ Z.Warmed39 U.vm ∧ U.heap = h0) (fun _ _ _ _ _ => True) (fun _ U o U' => ∃ v L, o = .returned v ∧ (Q_rmMi Z a b r h0) v U'.heap L ∧ FrameEnd U o U' L ({ frames := 0, cells := 0, slots := 0, locals := 0 } : Room).cells ({ frames := 0, cells := 0, slots := 0, locals := 0 } : Room).slots) := by
  refine own_walkP (by decide +kernel) ?_
  intro p e s m below meth c T0 X0 hx hby hml hret hlk hnm hown hZ e0 es0 F hF
  refine own_on (fun _ => castTop (efII m a b)) ?_
  refine own_iload_n X0.here hx (hb hby dMi_0) rfl (pc' := 1) rfl ?_
  refine own_iload_n X0.here hx (hb hby dMi_1) rfl (pc' := 2) rfl ?_
  refine own_icmpgt X0.here hx (hb hby dMi_2) (by decide) (pc' := 9) (by decide) (pc2 := 5) rfl (fun q1 => ?_) (fun q1 => ?_)
  · refine own_iload_n X0.here hx (hb hby dMi_9) rfl (pc' := 10) rfl ?_
    exact own_retI X0 hx hlk hret (hb hby dMi_10) (fun t ht hE => hF t _ _ _ _ (by rw [ht, (e0 : _ = h0)]; exact ⟨by simp [hr, q1], Fr.nil _, rfl⟩) hE (by decide) (by decide))
  · refine own_iload_n X0.here hx (hb hby dMi_5) rfl (pc' := 6) rfl ?_
    refine own_goto X0.here hx (hb hby dMi_6) (by decide) (pc' := 10) (by decide) ?_
    exact own_retI X0 hx hlk hret (hb hby dMi_10) (fun t ht hE => hF t _ _ _ _ (by rw [ht, (e0 : _ = h0)]; exact ⟨by simp [hr, q1], Fr.nil _, rfl⟩) hE (by decide) (by decide))
theorem dCE_0 : decode jdk_43_method_4_code 0 = .ok (.iload_n 0, 1) := by decide +kernel
theorem dCE_1 : decode jdk_43_method_4_code 1 = .ok (.ifCond .lt 14, 3) := by decide +kernel
theorem dCE_4 : decode jdk_43_method_4_code 4 = .ok (.iload_n 0, 1) := by decide +kernel
theorem dCE_5 : decode jdk_43_method_4_code 5 = .ok (.sipush 255, 3) := by decide +kernel
theorem dCE_8 : decode jdk_43_method_4_code 8 = .ok (.if_icmp .gt 7, 3) := by decide +kernel
theorem dCE_11 : decode jdk_43_method_4_code 11 = .ok (.iconst 1, 1) := by decide +kernel
theorem dCE_12 : decode jdk_43_method_4_code 12 = .ok (.goto 4, 3) := by decide +kernel
theorem dCE_15 : decode jdk_43_method_4_code 15 = .ok (.iconst 0, 1) := by decide +kernel
theorem dCE_16 : decode jdk_43_method_4_code 16 = .ok (.ireturn, 1) := by decide +kernel
theorem efI1 (m : MethodId) (x0 : Int32) : entryFrame m #[(.int x0)] 1 = mkF m 0 #[.val (.int x0)] [] := by first | (simp [entryFrame, mkF, argsToLocals, Value.category]; done) | rfl
def Q_rmCE (Z : State) (h0 : Heap) (v : Option Value) (h : Heap) (L : List Loc) : Prop := v = some (.int (1 : Int32)) ∧ Fr Z.heap.size L ∧ h = h0
set_option maxRecDepth 65536 in
set_option maxHeartbeats 40000000 in
theorem rmCE (l : Launch) (Z : State) (a0 : Array Value) (hw : ∀ d ∈ tables_1, d.before a0 Z = true) (h0 : Heap) :
    MetFree l (⟨"java/lang/StringLatin1", "canEncode", "(I)Z"⟩ : MethodName) (head1 (Jvm.Cond.code (⟨"java/lang/StringLatin1", "canEncode", "(I)Z"⟩ : MethodName) jdk_43_method_4_code 1 (Option.some FieldType.boolean) :: []) ({ frames := 0, cells := 0, slots := 0, locals := 0 } : Room)) (fun aa U => aa = #[(.int (47 : Int32))] ∧ Z.Warmed39 U.vm ∧ U.heap = h0) (fun _ _ _ _ _ => True) (fun _ U o U' => ∃ v L, o = .returned v ∧ (Q_rmCE Z h0) v U'.heap L ∧ FrameEnd U o U' L ({ frames := 0, cells := 0, slots := 0, locals := 0 } : Room).cells ({ frames := 0, cells := 0, slots := 0, locals := 0 } : Room).slots) := by
  refine own_walkN (by exact pnSL) ?_
  intro p e s m below meth c T0 X0 hx hby hml hret hlk hnm hown hZ e0 es0 F hF
  refine own_on (fun _ => castTop (efI1 m 47)) ?_
  refine own_iload_n X0.here hx (hb hby dCE_0) rfl (pc' := 1) rfl ?_
  refine own_iflt X0.here hx (hb hby dCE_1) (by decide) (pc' := 15) (by decide) (pc2 := 4) rfl (fun q => absurd q (by decide)) (fun q1 => ?_)
  refine own_iload_n X0.here hx (hb hby dCE_4) rfl (pc' := 5) rfl ?_
  refine own_sipush X0.here hx (hb hby dCE_5) (v := 255) rfl (pc' := 8) rfl ?_
  refine own_icmpgt X0.here hx (hb hby dCE_8) (by decide) (pc' := 15) (by decide) (pc2 := 11) rfl (fun q => absurd q (by decide)) (fun q2 => ?_)
  refine own_iconst X0.here hx (hb hby dCE_11) (v := 1) rfl (pc' := 12) rfl ?_
  refine own_goto X0.here hx (hb hby dCE_12) (by decide) (pc' := 16) (by decide) ?_
  exact own_retZ X0 hx hlk (by decide) hret (hb hby dCE_16) (fun t ht hE => hF t _ _ _ _ (by rw [ht, (e0 : _ = h0)]; exact ⟨rfl, Fr.nil _, rfl⟩) hE (by decide) (by decide))
def own_li (cs : List Int32) : Nat → Int32
  | 0 => -1
  | k + 1 => if cs.getD k 0 = 47 then Int32.ofNat k else own_li cs k
theorem dLL_0 : decode jdk_43_method_27_code 0 = .ok (.iload_n 1, 1) := by decide +kernel
theorem dLL_1 : decode jdk_43_method_27_code 1 = .ok (.invokestatic 88, 3) := by decide +kernel
theorem dLL_4 : decode jdk_43_method_27_code 4 = .ok (.ifCond .ne 5, 3) := by decide +kernel
theorem dLL_7 : decode jdk_43_method_27_code 7 = .ok (.iconst (-1), 1) := by decide +kernel
theorem dLL_8 : decode jdk_43_method_27_code 8 = .ok (.ireturn, 1) := by decide +kernel
theorem dLL_9 : decode jdk_43_method_27_code 9 = .ok (.iload_n 2, 1) := by decide +kernel
theorem dLL_10 : decode jdk_43_method_27_code 10 = .ok (.aload_n 0, 1) := by decide +kernel
theorem dLL_11 : decode jdk_43_method_27_code 11 = .ok (.arraylength, 1) := by decide +kernel
theorem dLL_12 : decode jdk_43_method_27_code 12 = .ok (.iconst 1, 1) := by decide +kernel
theorem dLL_13 : decode jdk_43_method_27_code 13 = .ok (.isub, 1) := by decide +kernel
theorem dLL_14 : decode jdk_43_method_27_code 14 = .ok (.invokestatic 38, 3) := by decide +kernel
theorem dLL_17 : decode jdk_43_method_27_code 17 = .ok (.istore_n 3, 1) := by decide +kernel
theorem dLL_18 : decode jdk_43_method_27_code 18 = .ok (.iload_n 3, 1) := by decide +kernel
theorem dLL_19 : decode jdk_43_method_27_code 19 = .ok (.ifCond .lt 19, 3) := by decide +kernel
theorem dLL_22 : decode jdk_43_method_27_code 22 = .ok (.aload_n 0, 1) := by decide +kernel
theorem dLL_23 : decode jdk_43_method_27_code 23 = .ok (.iload_n 3, 1) := by decide +kernel
theorem dLL_24 : decode jdk_43_method_27_code 24 = .ok (.baload, 1) := by decide +kernel
theorem dLL_25 : decode jdk_43_method_27_code 25 = .ok (.iload_n 1, 1) := by decide +kernel
theorem dLL_26 : decode jdk_43_method_27_code 26 = .ok (.i2b, 1) := by decide +kernel
theorem dLL_27 : decode jdk_43_method_27_code 27 = .ok (.if_icmp .ne 5, 3) := by decide +kernel
theorem dLL_30 : decode jdk_43_method_27_code 30 = .ok (.iload_n 3, 1) := by decide +kernel
theorem dLL_31 : decode jdk_43_method_27_code 31 = .ok (.ireturn, 1) := by decide +kernel
theorem dLL_32 : decode jdk_43_method_27_code 32 = .ok (.iinc 3 (-1), 3) := by decide +kernel
theorem dLL_35 : decode jdk_43_method_27_code 35 = .ok (.goto (-17), 3) := by decide +kernel
theorem dLL_38 : decode jdk_43_method_27_code 38 = .ok (.iconst (-1), 1) := by decide +kernel
theorem dLL_39 : decode jdk_43_method_27_code 39 = .ok (.ireturn, 1) := by decide +kernel
theorem efLL (m : MethodId) (x0 : Addr) (x1 : Int32) (x2 : Int32) : entryFrame m #[(.ref x0), (.int x1), (.int x2)] 4 = mkF m 0 #[.val (.ref x0), .val (.int x1), .val (.int x2), .unset] [] := by first | (simp [entryFrame, mkF, argsToLocals, Value.category]; done) | rfl
def Q_rmLL (Z : State) (t : Addr) (kb : ClassId) (cs : List Int32) (h0 : Heap) (v : Option Value) (h : Heap) (L : List Loc) : Prop := v = some (.int (own_li cs cs.length)) ∧ Fr Z.heap.size L ∧ h = h0
set_option maxRecDepth 65536 in
set_option maxHeartbeats 40000000 in
theorem rmLL (l : Launch) (Z : State) (a0 : Array Value) (hw : ∀ d ∈ tables_1, d.before a0 Z = true) (t : Addr) (kb : ClassId) (cs : List Int32) (h0 : Heap) (sA : Arv Z h0 t kb .byte (Int32.ofNat cs.length) ((cs.map fun c => c.toInt8.toInt32).map Value.int) (.int 0)) (hp : ∀ c ∈ cs, ¬ c < 0 ∧ ¬ (255 : Int32) < c) (hl : cs.length ≤ 4000) :
    MetFree l (⟨"java/lang/StringLatin1", "lastIndexOf", "([BII)I"⟩ : MethodName) (head1 (Jvm.Cond.code (⟨"java/lang/StringLatin1", "lastIndexOf", "([BII)I"⟩ : MethodName) jdk_43_method_27_code 4 (Option.some FieldType.int) :: []) ({ frames := 1, cells := 0, slots := 0, locals := 13 } : Room)) (fun aa U => aa = #[(.ref t), (.int (47 : Int32)), (.int (Int32.ofNat cs.length - (1 : Int32)))] ∧ Z.Warmed39 U.vm ∧ U.heap = h0) (fun _ _ _ _ _ => True) (fun _ U o U' => ∃ v L, o = .returned v ∧ (Q_rmLL Z t kb cs h0) v U'.heap L ∧ FrameEnd U o U' L ({ frames := 1, cells := 0, slots := 0, locals := 13 } : Room).cells ({ frames := 1, cells := 0, slots := 0, locals := 13 } : Room).slots) := by
  refine own_walkN (by exact pnSL) ?_
  intro p e s m below meth c T0 X0 hx hby hml hret hlk hnm hown hZ e0 es0 F hF
  refine own_on (fun _ => castTop (efLL m t 47 _)) ?_
  have N0 := Fr.nil Z.heap.size
  refine own_iload_n X0.here hx (hb hby dLL_0) rfl (pc' := 1) rfl ?_
  obtain ⟨_, _, ⟨T1, L1, k1, n1⟩, -, X1, ⟨Lc1, hQ1, l1, y1, z1⟩, st1⟩ := Jvm.LawKit.callS X0 hx (y := (⟨"java/lang/StringLatin1", "canEncode", "(I)Z"⟩ : MethodName)) hown (mvT hZ (hw _ (List.mem_of_getElem? (i := 61) rfl))) (mvT hZ (hw _ (List.mem_of_getElem? (i := 62) rfl))) (mvT hZ (hw _ (List.mem_of_getElem? (i := 59) rfl))) (mvT hZ (hw _ (List.mem_of_getElem? (i := 63) rfl))) (by decide) (backOf (W := 0) (rmCE l Z a0 hw h0) hZ (hw _ (List.mem_of_getElem? (i := 63) rfl)) (hw _ (List.mem_of_getElem? (i := 59) rfl)) (by decide) (by decide)) (g := (mkF m 1 #[.val (.ref t), .val (.int ((47 : Int32))), .val (.int (Int32.ofNat cs.length - (1 : Int32))), .unset] [(.int ((47 : Int32)))])) rfl (by rw [hml]; rfl) (argsL := [(.int ((47 : Int32)))]) (rest := []) (lenOf pdIZ rfl) rfl (by show 2 * 0 + _ ≤ _; exact Nat.le_of_eq rfl) (hb hby dLL_1) (fun _ _ => ⟨rfl, e0, (Nat.le_of_ble_eq_true rfl), (Nat.le_of_ble_eq_true rfl)⟩)
  dsimp only [Pt.U, Pt.locs, Pt.cells, Pt.slots] at X1 l1 y1 z1 st1 hQ1
  subst l1 y1 z1
  obtain ⟨rfl, N1, E1⟩ := hQ1
  refine own_on (st1) ?_
  show own_Go p e below F (T1.setTop (mkF m 4 #[.val (.ref t), .val (.int ((47 : Int32))), .val (.int (Int32.ofNat cs.length - (1 : Int32))), .unset] [(.int ((1 : Int32)))]))
  have N2 := Fr.app N0 N1
  refine own_ifne X1.here hx (hb hby dLL_4) (by decide) (pc' := 9) (by decide) (pc2 := 7) rfl (fun q3 => ?_) (fun q => absurd q (by decide))
  refine own_iload_n X1.here hx (hb hby dLL_9) rfl (pc' := 10) rfl ?_
  refine own_aload_n X1.here hx (hb hby dLL_10) rfl rfl (pc' := 11) rfl ?_
  refine own_alen X1 hx hZ E1 sA (hb hby dLL_11) (pc' := 12) rfl ?_
  refine own_iconst X1.here hx (hb hby dLL_12) (v := 1) rfl (pc' := 13) rfl ?_
  refine own_isub X1.here hx (hb hby dLL_13) (pc' := 14) rfl ?_
  obtain ⟨_, _, ⟨T4, L4, k4, n4⟩, -, X4, ⟨Lc4, hQ4, l4, y4, z4⟩, st4⟩ := Jvm.LawKit.callS X1 hx (y := (⟨"java/lang/Math", "min", "(II)I"⟩ : MethodName)) hown (mvT hZ (hw _ (List.mem_of_getElem? (i := 64) rfl))) (mvT hZ (hw _ (List.mem_of_getElem? (i := 65) rfl))) (mvT hZ (hw _ (List.mem_of_getElem? (i := 66) rfl))) (mvT hZ (hw _ (List.mem_of_getElem? (i := 67) rfl))) (by decide) (backOf (W := 0) (rmMi l Z a0 hw (Int32.ofNat cs.length - (1 : Int32)) (Int32.ofNat cs.length - (1 : Int32)) (Int32.ofNat cs.length - (1 : Int32)) h0 (by simp)) hZ (hw _ (List.mem_of_getElem? (i := 67) rfl)) (hw _ (List.mem_of_getElem? (i := 66) rfl)) (by decide) (by decide)) (g := (mkF m 14 #[.val (.ref t), .val (.int ((47 : Int32))), .val (.int (Int32.ofNat cs.length - (1 : Int32))), .unset] [(.int ((Int32.ofNat cs.length) - (1 : Int32))), (.int (Int32.ofNat cs.length - (1 : Int32)))])) rfl (by rw [hml]; rfl) (argsL := [(.int (Int32.ofNat cs.length - (1 : Int32))), (.int ((Int32.ofNat cs.length) - (1 : Int32)))]) (rest := []) (lenOf pdII rfl) rfl (by show 2 * 0 + _ ≤ _; exact Nat.le_of_eq rfl) (hb hby dLL_14) (fun _ _ => ⟨rfl, E1, (Nat.le_of_ble_eq_true rfl), (Nat.le_of_ble_eq_true rfl)⟩)
  dsimp only [Pt.U, Pt.locs, Pt.cells, Pt.slots] at X4 l4 y4 z4 st4 hQ4
  subst l4 y4 z4
  obtain ⟨rfl, N4, E4⟩ := hQ4
  refine own_on (st4) ?_
  show own_Go p e below F (T4.setTop (mkF m 17 #[.val (.ref t), .val (.int ((47 : Int32))), .val (.int (Int32.ofNat cs.length - (1 : Int32))), .unset] [(.int (Int32.ofNat cs.length - (1 : Int32)))]))
  have N5 := Fr.app N2 N4
  refine own_istore_n X4.here hx (hb hby dLL_17) (L' := #[.val (.ref t), .val (.int ((47 : Int32))), .val (.int (Int32.ofNat cs.length - (1 : Int32))), .val (.int (Int32.ofNat cs.length - (1 : Int32)))]) rfl (pc' := 18) rfl ?_
  have J : ∀ k : Nat, k ≤ cs.length → own_li cs k = own_li cs cs.length → own_Go p e below F (T4.setTop (mkF m 18 #[.val (.ref t), .val (.int ((47 : Int32))), .val (.int (Int32.ofNat cs.length - (1 : Int32))), .val (.int (Int32.ofNat k - (1 : Int32)))] [])) := by
    intro k
    induction k with
    | zero =>
      intro hk hr
      refine own_iload_n X4.here hx (hb hby dLL_18) rfl (pc' := 19) rfl ?_
      refine own_iflt X4.here hx (hb hby dLL_19) (by decide) (pc' := 38) (by decide) (pc2 := 22) rfl (fun q6 => ?_) (fun q => absurd (by decide) q)
      refine own_iconst X4.here hx (hb hby dLL_38) (v := (-1)) rfl (pc' := 39) rfl ?_
      exact own_retI X4 hx hlk hret (hb hby dLL_39) (fun t ht hE => hF t _ _ _ _ (by rw [ht, (E4 : _ = h0)]; exact ⟨by rw [← hr]; rfl, N5, rfl⟩) hE (by decide) (by decide))
    | succ k ih =>
      intro hk hr
      rw [own_pred k]
      show own_Go p e below F (T4.setTop (mkF m 18 #[.val (.ref t), .val (.int ((47 : Int32))), .val (.int (Int32.ofNat cs.length - (1 : Int32))), .val (.int (Int32.ofNat k))] []))
      refine own_iload_n X4.here hx (hb hby dLL_18) rfl (pc' := 19) rfl ?_
      refine own_iflt X4.here hx (hb hby dLL_19) (by decide) (pc' := 38) (by decide) (pc2 := 22) rfl (fun q => absurd q (own_nn (by omega))) (fun q7 => ?_)
      refine own_aload_n X4.here hx (hb hby dLL_22) rfl rfl (pc' := 23) rfl ?_
      refine own_iload_n X4.here hx (hb hby dLL_23) rfl (pc' := 24) rfl ?_
      refine own_baload X4 hx hZ E4 sA (w := (cs.getD k 0).toInt8.toInt32) ⟨own_nn (by omega), own_ltN (by omega) (by omega)⟩ (by rw [own_tn (by omega)]; exact own_bget cs (by omega)) (hb hby dLL_24) (pc' := 25) rfl ?_
      refine own_iload_n X4.here hx (hb hby dLL_25) rfl (pc' := 26) rfl ?_
      refine own_i2b X4.here hx (hb hby dLL_26) (pc' := 27) rfl ?_
      refine own_icmpne X4.here hx (hb hby dLL_27) (by decide) (pc' := 32) (by decide) (pc2 := 30) rfl (fun q1 => ?_) (fun q1 => ?_)
      · refine own_iinc X4.here hx (hb hby dLL_32) rfl (y := Int32.ofNat k - (1 : Int32)) (own_dec _) (L' := #[.val (.ref t), .val (.int ((47 : Int32))), .val (.int (Int32.ofNat cs.length - (1 : Int32))), .val (.int (Int32.ofNat k - (1 : Int32)))]) rfl (pc' := 35) rfl ?_
        refine own_goto X4.here hx (hb hby dLL_35) (by decide) (pc' := 18) (by decide) ?_
        refine ih (by omega) ?_
        rw [← hr]
        show _ = if cs.getD k 0 = 47 then _ else _
        rw [if_neg (fun z => q1 (by rw [z]))]
      · refine own_iload_n X4.here hx (hb hby dLL_30) rfl (pc' := 31) rfl ?_
        exact own_retI X4 hx hlk hret (hb hby dLL_31) (fun t ht hE => hF t _ _ _ _ (by rw [ht, (E4 : _ = h0)]; exact ⟨by rw [← hr]; show _ = some (Value.int (if cs.getD k 0 = 47 then _ else _)); rw [if_pos (own_b (hp _ (own_mem (by omega))).1 (hp _ (own_mem (by omega))).2 (by decide) (by decide) q1)], N5, rfl⟩) hE (by decide) (by decide))
  exact J cs.length (Nat.le_refl _) rfl
theorem dL2_0 : decode jdk_42_method_83_code 0 = .ok (.aload_n 0, 1) := by decide +kernel
theorem dL2_1 : decode jdk_42_method_83_code 1 = .ok (.invokevirtual 492, 3) := by decide +kernel
theorem dL2_4 : decode jdk_42_method_83_code 4 = .ok (.ifCond .eq 15, 3) := by decide +kernel
theorem dL2_7 : decode jdk_42_method_83_code 7 = .ok (.aload_n 0, 1) := by decide +kernel
theorem dL2_8 : decode jdk_42_method_83_code 8 = .ok (.getfield 9, 3) := by decide +kernel
theorem dL2_11 : decode jdk_42_method_83_code 11 = .ok (.iload_n 1, 1) := by decide +kernel
theorem dL2_12 : decode jdk_42_method_83_code 12 = .ok (.iload_n 2, 1) := by decide +kernel
theorem dL2_13 : decode jdk_42_method_83_code 13 = .ok (.invokestatic 644, 3) := by decide +kernel
theorem dL2_16 : decode jdk_42_method_83_code 16 = .ok (.goto 12, 3) := by decide +kernel
theorem dL2_19 : decode jdk_42_method_83_code 19 = .ok (.aload_n 0, 1) := by decide +kernel
theorem dL2_20 : decode jdk_42_method_83_code 20 = .ok (.getfield 9, 3) := by decide +kernel
theorem dL2_23 : decode jdk_42_method_83_code 23 = .ok (.iload_n 1, 1) := by decide +kernel
theorem dL2_24 : decode jdk_42_method_83_code 24 = .ok (.iload_n 2, 1) := by decide +kernel
theorem dL2_25 : decode jdk_42_method_83_code 25 = .ok (.invokestatic 646, 3) := by decide +kernel
theorem dL2_28 : decode jdk_42_method_83_code 28 = .ok (.ireturn, 1) := by decide +kernel
theorem efL2 (m : MethodId) (x0 : Addr) (x1 : Int32) (x2 : Int32) : entryFrame m #[(.ref x0), (.int x1), (.int x2)] 3 = mkF m 0 #[.val (.ref x0), .val (.int x1), .val (.int x2)] [] := by first | (simp [entryFrame, mkF, argsToLocals, Value.category]; done) | rfl
def Q_rmL2 (Z : State) (x : Addr) (cs : List Int32) (h0 : Heap) (z0 : Int32) (v : Option Value) (h : Heap) (L : List Loc) : Prop := v = some (.int (own_li cs cs.length)) ∧ Fr Z.heap.size L ∧ h = h0
set_option maxRecDepth 65536 in
set_option maxHeartbeats 40000000 in
theorem rmL2 (l : Launch) (Z : State) (a0 : Array Value) (hw : ∀ d ∈ tables_1, d.before a0 Z = true) (x : Addr) (cs : List Int32) (h0 : Heap) (EZ : Ext Z.heap h0) (z0 : Int32) (O1 : Sta Z Z.heap "java/lang/String" "COMPACT_STRINGS" "Z" (.int z0)) (P5 : ¬ z0 = 0) (S : own_Str Z h0 x cs) :
    MetFree l (⟨"java/lang/String", "lastIndexOf", "(II)I"⟩ : MethodName) (head1 (Jvm.Cond.code (⟨"java/lang/String", "lastIndexOf", "(II)I"⟩ : MethodName) jdk_42_method_83_code 3 (Option.some FieldType.int) :: []) ({ frames := 2, cells := 0, slots := 0, locals := 30 } : Room)) (fun aa U => aa = #[(.ref x), (.int (47 : Int32)), (.int (Int32.ofNat cs.length - (1 : Int32)))] ∧ Z.Warmed39 U.vm ∧ U.heap = h0) (fun _ _ _ _ _ => True) (fun _ U o U' => ∃ v L, o = .returned v ∧ (Q_rmL2 Z x cs h0 z0) v U'.heap L ∧ FrameEnd U o U' L ({ frames := 2, cells := 0, slots := 0, locals := 30 } : Room).cells ({ frames := 2, cells := 0, slots := 0, locals := 30 } : Room).slots) := by
  have S1 := S
  obtain ⟨t, kb, sE, sV, sC, sA, hp, hl⟩ := S
  refine own_walkN (by exact pnS) ?_
  intro p e s m below meth c T0 X0 hx hby hml hret hlk hnm hown hZ e0 es0 F hF
  refine own_on (fun _ => castTop (efL2 m x 47 _)) ?_
  have N0 := Fr.nil Z.heap.size
  refine own_aload_n X0.here hx (hb hby dL2_0) rfl rfl (pc' := 1) rfl ?_
  obtain ⟨cq1, kq1, qa1, qb1, qc1⟩ := isOf hZ e0 sE
  obtain ⟨_, _, ⟨T1, L1, k1, n1⟩, -, X1, ⟨Lc1, hQ1, l1, y1, z1⟩, st1⟩ := X0.virtualBack hx (y := (⟨"java/lang/String", "isLatin1", "()Z"⟩ : MethodName)) (z := (⟨"java/lang/String", "isLatin1", "()Z"⟩ : MethodName)) hown (mvT hZ (hw _ (List.mem_of_getElem? (i := 52) rfl))) (mvT hZ (hw _ (List.mem_of_getElem? (i := 53) rfl))) (notFace_of_selects (args := #[]) (mvT hZ (hw _ (List.mem_of_getElem? (i := 55) rfl)))) (mvT hZ (hw _ (List.mem_of_getElem? (i := 55) rfl))) (mvT hZ (hw _ (List.mem_of_getElem? (i := 54) rfl))) (by decide) (backOf (W := 0) (rmIL l Z a0 hw x cs h0 EZ z0 O1 P5 S1) hZ (hw _ (List.mem_of_getElem? (i := 56) rfl)) (hw _ (List.mem_of_getElem? (i := 8) rfl)) (by decide) (by decide)) qa1 qc1 (g := (mkF m 1 #[.val (.ref x), .val (.int ((47 : Int32))), .val (.int (Int32.ofNat cs.length - (1 : Int32)))] [(.ref x)])) rfl (by rw [hml]; rfl) (Steps.refl _) (argsL := []) (rest := []) (lenOf pdZ rfl) rfl (by show 2 * 0 + _ ≤ _; exact Nat.le_of_eq rfl) (hb hby dL2_1) (fun _ _ => ⟨rfl, e0, (Nat.le_of_ble_eq_true rfl), (Nat.le_of_ble_eq_true rfl)⟩)
  dsimp only [Pt.U, Pt.locs, Pt.cells, Pt.slots] at X1 l1 y1 z1 st1 hQ1
  subst l1 y1 z1
  obtain ⟨rfl, N1, E1⟩ := hQ1
  refine own_to st1 ?_
  show own_Go p e below F (T1.setTop (mkF m 4 #[.val (.ref x), .val (.int ((47 : Int32))), .val (.int (Int32.ofNat cs.length - (1 : Int32)))] [(.int ((1 : Int32)))]))
  have N2 := Fr.app N0 N1
  refine own_ifeq X1.here hx (hb hby dL2_4) (by decide) (pc' := 19) (by decide) (pc2 := 7) rfl (fun q => absurd q (by decide)) (fun q3 => ?_)
  refine own_aload_n X1.here hx (hb hby dL2_7) rfl rfl (pc' := 8) rfl ?_
  obtain ⟨T4, X4, e4, st4⟩ := getF X1 hx hZ hown (host := "") (Or.inl (hw _ (List.mem_of_getElem? (i := 25) rfl))) Via.refl E1 sV (g := (mkF m 8 #[.val (.ref x), .val (.int ((47 : Int32))), .val (.int (Int32.ofNat cs.length - (1 : Int32)))] [(.ref x)])) rfl rfl (hb hby dL2_8)
  refine own_on st4 ?_
  show own_Go p e below F (T4.setTop (mkF m 11 #[.val (.ref x), .val (.int ((47 : Int32))), .val (.int (Int32.ofNat cs.length - (1 : Int32)))] [(.ref t)]))
  refine own_iload_n X4.here hx (hb hby dL2_11) rfl (pc' := 12) rfl ?_
  refine own_iload_n X4.here hx (hb hby dL2_12) rfl (pc' := 13) rfl ?_
  obtain ⟨_, _, ⟨T5, L5, k5, n5⟩, -, X5, ⟨Lc5, hQ5, l5, y5, z5⟩, st5⟩ := Jvm.LawKit.callS X4 hx (y := (⟨"java/lang/StringLatin1", "lastIndexOf", "([BII)I"⟩ : MethodName)) hown (mvT hZ (hw _ (List.mem_of_getElem? (i := 57) rfl))) (mvT hZ (hw _ (List.mem_of_getElem? (i := 58) rfl))) (mvT hZ (hw _ (List.mem_of_getElem? (i := 59) rfl))) (mvT hZ (hw _ (List.mem_of_getElem? (i := 60) rfl))) (by decide) (backOf (W := 0) (rmLL l Z a0 hw t kb cs h0 sA hp hl) hZ (hw _ (List.mem_of_getElem? (i := 60) rfl)) (hw _ (List.mem_of_getElem? (i := 59) rfl)) (by decide) (by decide)) (g := (mkF m 13 #[.val (.ref x), .val (.int ((47 : Int32))), .val (.int (Int32.ofNat cs.length - (1 : Int32)))] [(.int (Int32.ofNat cs.length - (1 : Int32))), (.int ((47 : Int32))), (.ref t)])) rfl (by rw [hml]; rfl) (argsL := [(.ref t), (.int ((47 : Int32))), (.int (Int32.ofNat cs.length - (1 : Int32)))]) (rest := []) (lenOf pdLL rfl) rfl (by show 2 * 0 + _ ≤ _; exact Nat.le_of_eq rfl) (hb hby dL2_13) (fun _ _ => ⟨rfl, e4, (Nat.le_of_ble_eq_true rfl), (Nat.le_of_ble_eq_true rfl)⟩)
  dsimp only [Pt.U, Pt.locs, Pt.cells, Pt.slots] at X5 l5 y5 z5 st5 hQ5
  subst l5 y5 z5
  obtain ⟨rfl, N5, E5⟩ := hQ5
  refine own_on (st5) ?_
  show own_Go p e below F (T5.setTop (mkF m 16 #[.val (.ref x), .val (.int ((47 : Int32))), .val (.int (Int32.ofNat cs.length - (1 : Int32)))] [(.int (own_li cs cs.length))]))
  have N6 := Fr.app N2 N5
  refine own_goto X5.here hx (hb hby dL2_16) (by decide) (pc' := 28) (by decide) ?_
  exact own_retI X5 hx hlk hret (hb hby dL2_28) (fun t ht hE => hF t _ _ _ _ (by rw [ht, (E5 : _ = h0)]; exact ⟨rfl, N6, rfl⟩) hE (by decide) (by decide))
theorem dL1_0 : decode jdk_42_method_82_code 0 = .ok (.aload_n 0, 1) := by decide +kernel
theorem dL1_1 : decode jdk_42_method_82_code 1 = .ok (.iload_n 1, 1) := by decide +kernel
theorem dL1_2 : decode jdk_42_method_82_code 2 = .ok (.aload_n 0, 1) := by decide +kernel
theorem dL1_3 : decode jdk_42_method_82_code 3 = .ok (.invokevirtual 505, 3) := by decide +kernel
theorem dL1_6 : decode jdk_42_method_82_code 6 = .ok (.iconst 1, 1) := by decide +kernel
theorem dL1_7 : decode jdk_42_method_82_code 7 = .ok (.isub, 1) := by decide +kernel
theorem dL1_8 : decode jdk_42_method_82_code 8 = .ok (.invokevirtual 641, 3) := by decide +kernel
theorem dL1_11 : decode jdk_42_method_82_code 11 = .ok (.ireturn, 1) := by decide +kernel
theorem efL1 (m : MethodId) (x0 : Addr) (x1 : Int32) : entryFrame m #[(.ref x0), (.int x1)] 2 = mkF m 0 #[.val (.ref x0), .val (.int x1)] [] := by first | (simp [entryFrame, mkF, argsToLocals, Value.category]; done) | rfl
def Q_rmL1 (Z : State) (x : Addr) (cs : List Int32) (h0 : Heap) (z0 : Int32) (v : Option Value) (h : Heap) (L : List Loc) : Prop := v = some (.int (own_li cs cs.length)) ∧ Fr Z.heap.size L ∧ h = h0
set_option maxRecDepth 65536 in
set_option maxHeartbeats 40000000 in
theorem rmL1 (l : Launch) (Z : State) (a0 : Array Value) (hw : ∀ d ∈ tables_1, d.before a0 Z = true) (x : Addr) (cs : List Int32) (h0 : Heap) (EZ : Ext Z.heap h0) (z0 : Int32) (O1 : Sta Z Z.heap "java/lang/String" "COMPACT_STRINGS" "Z" (.int z0)) (P5 : ¬ z0 = 0) (S : own_Str Z h0 x cs) :
    MetFree l (⟨"java/lang/String", "lastIndexOf", "(I)I"⟩ : MethodName) (head1 (Jvm.Cond.code (⟨"java/lang/String", "lastIndexOf", "(I)I"⟩ : MethodName) jdk_42_method_82_code 2 (Option.some FieldType.int) :: []) ({ frames := 3, cells := 0, slots := 0, locals := 46 } : Room)) (fun aa U => aa = #[(.ref x), (.int (47 : Int32))] ∧ Z.Warmed39 U.vm ∧ U.heap = h0) (fun _ _ _ _ _ => True) (fun _ U o U' => ∃ v L, o = .returned v ∧ (Q_rmL1 Z x cs h0 z0) v U'.heap L ∧ FrameEnd U o U' L ({ frames := 3, cells := 0, slots := 0, locals := 46 } : Room).cells ({ frames := 3, cells := 0, slots := 0, locals := 46 } : Room).slots) := by
  refine own_walkN (by exact pnS) ?_
  intro p e s m below meth c T0 X0 hx hby hml hret hlk hnm hown hZ e0 es0 F hF
  refine own_on (fun _ => castTop (efL1 m x 47)) ?_
  have N0 := Fr.nil Z.heap.size
  refine own_aload_n X0.here hx (hb hby dL1_0) rfl rfl (pc' := 1) rfl ?_
  refine own_iload_n X0.here hx (hb hby dL1_1) rfl (pc' := 2) rfl ?_
  refine own_aload_n X0.here hx (hb hby dL1_2) rfl rfl (pc' := 3) rfl ?_
  obtain ⟨cq1, kq1, qa1, qb1, qc1⟩ := isOf hZ e0 S.exa
  obtain ⟨_, _, ⟨T1, L1, k1, n1⟩, -, X1, ⟨Lc1, hQ1, l1, y1, z1⟩, st1⟩ := X0.virtualBack hx (y := (⟨"java/lang/String", "length", "()I"⟩ : MethodName)) (z := (⟨"java/lang/String", "length", "()I"⟩ : MethodName)) hown (mvT hZ (hw _ (List.mem_of_getElem? (i := 36) rfl))) (mvT hZ (hw _ (List.mem_of_getElem? (i := 37) rfl))) (notFace_of_selects (args := #[]) (mvT hZ (hw _ (List.mem_of_getElem? (i := 39) rfl)))) (mvT hZ (hw _ (List.mem_of_getElem? (i := 39) rfl))) (mvT hZ (hw _ (List.mem_of_getElem? (i := 38) rfl))) (by decide) (own_lenB (s := s) (W := 2) hZ hw S (O1.ext EZ) P5 (by decide) (by decide)) qa1 qc1 (g := (mkF m 3 #[.val (.ref x), .val (.int ((47 : Int32)))] [(.ref x), (.int ((47 : Int32))), (.ref x)])) rfl (by rw [hml]; rfl) (Steps.refl _) (argsL := []) (rest := [(.int ((47 : Int32))), (.ref x)]) (lenOf pdI rfl) rfl (by show 2 * 0 + _ ≤ _; exact Nat.le_of_eq rfl) (hb hby dL1_3) (fun _ _ => ⟨rfl, e0, (Nat.le_of_ble_eq_true rfl), (Nat.le_of_ble_eq_true rfl)⟩)
  dsimp only [Pt.U, Pt.locs, Pt.cells, Pt.slots] at X1 l1 y1 z1 st1 hQ1
  subst l1 y1 z1
  obtain ⟨rfl, rfl, E1⟩ := hQ1
  refine own_to st1 ?_
  show own_Go p e below F (T1.setTop (mkF m 6 #[.val (.ref x), .val (.int ((47 : Int32)))] [(.int (Int32.ofNat cs.length)), (.int ((47 : Int32))), (.ref x)]))
  refine own_iconst X1.here hx (hb hby dL1_6) (v := 1) rfl (pc' := 7) rfl ?_
  refine own_isub X1.here hx (hb hby dL1_7) (pc' := 8) rfl ?_
  obtain ⟨cq2, kq2, qa2, qb2, qc2⟩ := isOf hZ E1 S.exa
  obtain ⟨_, _, ⟨T2, L2, k2, n2⟩, -, X2, ⟨Lc2, hQ2, l2, y2, z2⟩, st2⟩ := X1.virtualBack hx (y := (⟨"java/lang/String", "lastIndexOf", "(II)I"⟩ : MethodName)) (z := (⟨"java/lang/String", "lastIndexOf", "(II)I"⟩ : MethodName)) hown (mvT hZ (hw _ (List.mem_of_getElem? (i := 47) rfl))) (mvT hZ (hw _ (List.mem_of_getElem? (i := 48) rfl))) (notFace_of_selects (args := #[]) (mvT hZ (hw _ (List.mem_of_getElem? (i := 50) rfl)))) (mvT hZ (hw _ (List.mem_of_getElem? (i := 50) rfl))) (mvT hZ (hw _ (List.mem_of_getElem? (i := 49) rfl))) (by decide) (backOf (W := 0) (rmL2 l Z a0 hw x cs h0 EZ z0 O1 P5 S) hZ (hw _ (List.mem_of_getElem? (i := 51) rfl)) (hw _ (List.mem_of_getElem? (i := 8) rfl)) (by decide) (by decide)) qa2 qc2 (g := (mkF m 8 #[.val (.ref x), .val (.int ((47 : Int32)))] [(.int ((Int32.ofNat cs.length) - (1 : Int32))), (.int ((47 : Int32))), (.ref x)])) rfl (by rw [hml]; rfl) (Steps.refl _) (argsL := [(.int ((47 : Int32))), (.int ((Int32.ofNat cs.length) - (1 : Int32)))]) (rest := []) (lenOf pdII rfl) rfl (by show 2 * 0 + _ ≤ _; exact Nat.le_of_eq rfl) (hb hby dL1_8) (fun _ _ => ⟨rfl, E1, (Nat.le_of_ble_eq_true rfl), (Nat.le_of_ble_eq_true rfl)⟩)
  dsimp only [Pt.U, Pt.locs, Pt.cells, Pt.slots] at X2 l2 y2 z2 st2 hQ2
  subst l2 y2 z2
  obtain ⟨rfl, N2, E2⟩ := hQ2
  refine own_to st2 ?_
  show own_Go p e below F (T2.setTop (mkF m 11 #[.val (.ref x), .val (.int ((47 : Int32)))] [(.int (own_li cs cs.length))]))
  have N3 := Fr.app N0 N2
  exact own_retI X2 hx hlk hret (hb hby dL1_11) (fun t ht hE => hF t _ _ _ _ (by rw [ht, (E2 : _ = h0)]; exact ⟨rfl, (by simpa using N3), rfl⟩) hE (by decide) (by decide))
theorem dCF_0 : decode jdk_41_method_12_code 0 = .ok (.iload_n 0, 1) := by decide +kernel
theorem dCF_1 : decode jdk_41_method_12_code 1 = .ok (.ifCond .lt 13, 3) := by decide +kernel
theorem dCF_4 : decode jdk_41_method_12_code 4 = .ok (.iload_n 0, 1) := by decide +kernel
theorem dCF_5 : decode jdk_41_method_12_code 5 = .ok (.iload_n 1, 1) := by decide +kernel
theorem dCF_6 : decode jdk_41_method_12_code 6 = .ok (.if_icmp .gt 8, 3) := by decide +kernel
theorem dCF_9 : decode jdk_41_method_12_code 9 = .ok (.iload_n 1, 1) := by decide +kernel
theorem dCF_10 : decode jdk_41_method_12_code 10 = .ok (.iload_n 2, 1) := by decide +kernel
theorem dCF_11 : decode jdk_41_method_12_code 11 = .ok (.if_icmp .le 11, 3) := by decide +kernel
theorem dCF_14 : decode jdk_41_method_12_code 14 = .ok (.aload_n 3, 1) := by decide +kernel
theorem dCF_15 : decode jdk_41_method_12_code 15 = .ok (.iload_n 0, 1) := by decide +kernel
theorem dCF_16 : decode jdk_41_method_12_code 16 = .ok (.iload_n 1, 1) := by decide +kernel
theorem dCF_17 : decode jdk_41_method_12_code 17 = .ok (.iload_n 2, 1) := by decide +kernel
theorem dCF_18 : decode jdk_41_method_12_code 18 = .ok (.invokestatic 99, 3) := by decide +kernel
theorem dCF_21 : decode jdk_41_method_12_code 21 = .ok (.athrow, 1) := by decide +kernel
theorem dCF_22 : decode jdk_41_method_12_code 22 = .ok (.iload_n 0, 1) := by decide +kernel
theorem dCF_23 : decode jdk_41_method_12_code 23 = .ok (.ireturn, 1) := by decide +kernel
theorem efCF (m : MethodId) (x0 : Int32) (x1 : Int32) (x2 : Int32) (x3 : Value) (hc : x3.isRef = true) : entryFrame m #[(.int x0), (.int x1), (.int x2), x3] 4 = mkF m 0 #[.val (.int x0), .val (.int x1), .val (.int x2), .val x3] [] := by cases x3 <;> first | (cases hc; done) | (simp [entryFrame, mkF, argsToLocals, Value.category]; done) | rfl
def Q_rmCF (Z : State) (e0 n0 : Int32) (h0 : Heap) (fm : Value) (v : Option Value) (h : Heap) (L : List Loc) : Prop := v = some (.int (0 : Int32)) ∧ Fr Z.heap.size L ∧ h = h0
set_option maxRecDepth 65536 in
set_option maxHeartbeats 40000000 in
theorem rmCF (l : Launch) (Z : State) (a0 : Array Value) (hw : ∀ d ∈ tables_1, d.before a0 Z = true) (e0 n0 : Int32) (h0 : Heap) (fm : Value) (hc : fm.isRef = true) (hq1 : ¬ e0 < 0) (hq2 : ¬ n0 < e0) :
    MetFree l (⟨"jdk/internal/util/Preconditions", "checkFromToIndex", "(IIILjava/util/function/BiFunction;)I"⟩ : MethodName) (head1 (Jvm.Cond.code (⟨"jdk/internal/util/Preconditions", "checkFromToIndex", "(IIILjava/util/function/BiFunction;)I"⟩ : MethodName) jdk_41_method_12_code 4 (Option.some FieldType.int) :: []) ({ frames := 0, cells := 0, slots := 0, locals := 0 } : Room)) (fun aa U => aa = #[(.int (0 : Int32)), (.int e0), (.int n0), fm] ∧ Z.Warmed39 U.vm ∧ U.heap = h0) (fun _ _ _ _ _ => True) (fun _ U o U' => ∃ v L, o = .returned v ∧ (Q_rmCF Z e0 n0 h0 fm) v U'.heap L ∧ FrameEnd U o U' L ({ frames := 0, cells := 0, slots := 0, locals := 0 } : Room).cells ({ frames := 0, cells := 0, slots := 0, locals := 0 } : Room).slots) := by
  refine own_walkN (by exact pnPC) ?_
  intro p e s m below meth c T0 X0 hx hby hml hret hlk hnm hown hZ e00 es0 F hF
  refine own_on (fun _ => castTop (efCF m 0 e0 n0 fm hc)) ?_
  refine own_iload_n X0.here hx (hb hby dCF_0) rfl (pc' := 1) rfl ?_
  refine own_iflt X0.here hx (hb hby dCF_1) (by decide) (pc' := 14) (by decide) (pc2 := 4) rfl (fun q => absurd q (by decide)) (fun q1 => ?_)
  refine own_iload_n X0.here hx (hb hby dCF_4) rfl (pc' := 5) rfl ?_
  refine own_iload_n X0.here hx (hb hby dCF_5) rfl (pc' := 6) rfl ?_
  refine own_icmpgt X0.here hx (hb hby dCF_6) (by decide) (pc' := 14) (by decide) (pc2 := 9) rfl (fun q => absurd q hq1) (fun q2 => ?_)
  refine own_iload_n X0.here hx (hb hby dCF_9) rfl (pc' := 10) rfl ?_
  refine own_iload_n X0.here hx (hb hby dCF_10) rfl (pc' := 11) rfl ?_
  refine own_icmple X0.here hx (hb hby dCF_11) (by decide) (pc' := 22) (by decide) (pc2 := 14) rfl (fun q3 => ?_) (fun q => absurd q hq2)
  refine own_iload_n X0.here hx (hb hby dCF_22) rfl (pc' := 23) rfl ?_
  exact own_retI X0 hx hlk hret (hb hby dCF_23) (fun t ht hE => hF t _ _ _ _ (by rw [ht, (e00 : _ = h0)]; exact ⟨rfl, Fr.nil _, rfl⟩) hE (by decide) (by decide))
theorem dCB_0 : decode jdk_42_method_158_code 0 = .ok (.iload_n 0, 1) := by decide +kernel
theorem dCB_1 : decode jdk_42_method_158_code 1 = .ok (.iload_n 1, 1) := by decide +kernel
theorem dCB_2 : decode jdk_42_method_158_code 2 = .ok (.iload_n 2, 1) := by decide +kernel
theorem dCB_3 : decode jdk_42_method_158_code 3 = .ok (.getstatic 1053, 3) := by decide +kernel
theorem dCB_6 : decode jdk_42_method_158_code 6 = .ok (.invokestatic 1062, 3) := by decide +kernel
theorem dCB_9 : decode jdk_42_method_158_code 9 = .ok (.pop, 1) := by decide +kernel
theorem dCB_10 : decode jdk_42_method_158_code 10 = .ok (.return_, 1) := by decide +kernel
theorem efIII (m : MethodId) (x0 : Int32) (x1 : Int32) (x2 : Int32) : entryFrame m #[(.int x0), (.int x1), (.int x2)] 3 = mkF m 0 #[.val (.int x0), .val (.int x1), .val (.int x2)] [] := by first | (simp [entryFrame, mkF, argsToLocals, Value.category]; done) | rfl
def Q_rmCB (Z : State) (e0 n0 : Int32) (h0 : Heap) (fm : Value) (v : Option Value) (h : Heap) (L : List Loc) : Prop := v = none ∧ Fr Z.heap.size L ∧ h = h0
set_option maxRecDepth 65536 in
set_option maxHeartbeats 40000000 in
theorem rmCB (l : Launch) (Z : State) (a0 : Array Value) (hw : ∀ d ∈ tables_1, d.before a0 Z = true) (e0 n0 : Int32) (h0 : Heap) (EZ : Ext Z.heap h0) (fm : Value) (O2 : Sta Z Z.heap "jdk/internal/util/Preconditions" "SIOOBE_FORMATTER" "Ljava/util/function/BiFunction;" fm) (rf : fm.isRef = true) (hq1 : ¬ e0 < 0) (hq2 : ¬ n0 < e0) :
    MetFree l (⟨"java/lang/String", "checkBoundsBeginEnd", "(III)V"⟩ : MethodName) (head1 (Jvm.Cond.code (⟨"java/lang/String", "checkBoundsBeginEnd", "(III)V"⟩ : MethodName) jdk_42_method_158_code 3 (Option.none : Option FieldType) :: []) ({ frames := 1, cells := 0, slots := 0, locals := 15 } : Room)) (fun aa U => aa = #[(.int (0 : Int32)), (.int e0), (.int n0)] ∧ Z.Warmed39 U.vm ∧ U.heap = h0) (fun _ _ _ _ _ => True) (fun _ U o U' => ∃ v L, o = .returned v ∧ (Q_rmCB Z e0 n0 h0 fm) v U'.heap L ∧ FrameEnd U o U' L ({ frames := 1, cells := 0, slots := 0, locals := 15 } : Room).cells ({ frames := 1, cells := 0, slots := 0, locals := 15 } : Room).slots) := by
  refine own_walkN (by exact pnS) ?_
  intro p e s m below meth c T0 X0 hx hby hml hret hlk hnm hown hZ e00 es0 F hF
  refine own_on (fun _ => castTop (efIII m 0 e0 n0)) ?_
  have N0 := Fr.nil Z.heap.size
  refine own_iload_n X0.here hx (hb hby dCB_0) rfl (pc' := 1) rfl ?_
  refine own_iload_n X0.here hx (hb hby dCB_1) rfl (pc' := 2) rfl ?_
  refine own_iload_n X0.here hx (hb hby dCB_2) rfl (pc' := 3) rfl ?_
  obtain ⟨T1, X1, e1, st1⟩ := getS (host := "") X0 hx hZ hown (hw _ (List.mem_of_getElem? (i := 76) rfl)) Via.refl e00 (O2.ext EZ) (g := (mkF m 3 #[.val (.int ((0 : Int32))), .val (.int e0), .val (.int n0)] [(.int n0), (.int e0), (.int ((0 : Int32)))])) rfl (hb hby dCB_3)
  refine own_on st1 ?_
  show own_Go p e below F (T1.setTop (mkF m 6 #[.val (.int ((0 : Int32))), .val (.int e0), .val (.int n0)] [fm, (.int n0), (.int e0), (.int ((0 : Int32)))]))
  obtain ⟨_, _, ⟨T2, L2, k2, n2⟩, -, X2, ⟨Lc2, hQ2, l2, y2, z2⟩, st2⟩ := Jvm.LawKit.callS X1 hx (y := (⟨"jdk/internal/util/Preconditions", "checkFromToIndex", "(IIILjava/util/function/BiFunction;)I"⟩ : MethodName)) hown (mvT hZ (hw _ (List.mem_of_getElem? (i := 78) rfl))) (mvT hZ (hw _ (List.mem_of_getElem? (i := 79) rfl))) (mvT hZ (hw _ (List.mem_of_getElem? (i := 77) rfl))) (mvT hZ (hw _ (List.mem_of_getElem? (i := 80) rfl))) (by decide) (backOf (W := 0) (rmCF l Z a0 hw e0 n0 h0 fm rf hq1 hq2) hZ (hw _ (List.mem_of_getElem? (i := 80) rfl)) (hw _ (List.mem_of_getElem? (i := 77) rfl)) (by decide) (by decide)) (g := (mkF m 6 #[.val (.int ((0 : Int32))), .val (.int e0), .val (.int n0)] [fm, (.int n0), (.int e0), (.int ((0 : Int32)))])) rfl (by rw [hml]; rfl) (argsL := [(.int ((0 : Int32))), (.int e0), (.int n0), fm]) (rest := []) (lenOf pdCF rfl) rfl (by show 2 * 0 + _ ≤ _; exact Nat.le_of_eq rfl) (hb hby dCB_6) (fun _ _ => ⟨rfl, e1, (Nat.le_of_ble_eq_true rfl), (Nat.le_of_ble_eq_true rfl)⟩)
  dsimp only [Pt.U, Pt.locs, Pt.cells, Pt.slots] at X2 l2 y2 z2 st2 hQ2
  subst l2 y2 z2
  obtain ⟨rfl, N2, E2⟩ := hQ2
  refine own_on (st2) ?_
  show own_Go p e below F (T2.setTop (mkF m 9 #[.val (.int ((0 : Int32))), .val (.int e0), .val (.int n0)] [(.int ((0 : Int32)))]))
  have N3 := Fr.app N0 N2
  refine own_pop X2.here hx (hb hby dCB_9) rfl (pc' := 10) rfl ?_
  exact own_retV X2 hx hlk hret (hb hby dCB_10) (fun t ht hE => hF t _ _ _ _ (by rw [ht, (E2 : _ = h0)]; exact ⟨rfl, N3, rfl⟩) hE (by decide) (by decide))
theorem dCL_0 : decode jdk_65_method_131_code 0 = .ok (.iload_n 1, 1) := by decide +kernel
theorem dCL_1 : decode jdk_65_method_131_code 1 = .ok (.iload_n 0, 1) := by decide +kernel
theorem dCL_2 : decode jdk_65_method_131_code 2 = .ok (.if_icmp .ge 35, 3) := by decide +kernel
theorem dCL_5 : decode jdk_65_method_131_code 5 = .ok (.new 43, 3) := by decide +kernel
theorem dCL_8 : decode jdk_65_method_131_code 8 = .ok (.dup, 1) := by decide +kernel
theorem dCL_9 : decode jdk_65_method_131_code 9 = .ok (.new 45, 3) := by decide +kernel
theorem dCL_12 : decode jdk_65_method_131_code 12 = .ok (.dup, 1) := by decide +kernel
theorem dCL_13 : decode jdk_65_method_131_code 13 = .ok (.invokespecial 47, 3) := by decide +kernel
theorem dCL_16 : decode jdk_65_method_131_code 16 = .ok (.iload_n 0, 1) := by decide +kernel
theorem dCL_17 : decode jdk_65_method_131_code 17 = .ok (.invokevirtual 54, 3) := by decide +kernel
theorem dCL_20 : decode jdk_65_method_131_code 20 = .ok (.ldc_w 337, 3) := by decide +kernel
theorem dCL_23 : decode jdk_65_method_131_code 23 = .ok (.invokevirtual 50, 3) := by decide +kernel
theorem dCL_26 : decode jdk_65_method_131_code 26 = .ok (.iload_n 1, 1) := by decide +kernel
theorem dCL_27 : decode jdk_65_method_131_code 27 = .ok (.invokevirtual 54, 3) := by decide +kernel
theorem dCL_30 : decode jdk_65_method_131_code 30 = .ok (.invokevirtual 61, 3) := by decide +kernel
theorem dCL_33 : decode jdk_65_method_131_code 33 = .ok (.invokespecial 65, 3) := by decide +kernel
theorem dCL_36 : decode jdk_65_method_131_code 36 = .ok (.athrow, 1) := by decide +kernel
theorem dCL_37 : decode jdk_65_method_131_code 37 = .ok (.return_, 1) := by decide +kernel
def Q_rmCL (Z : State) (e0 : Int32) (h0 : Heap) (v : Option Value) (h : Heap) (L : List Loc) : Prop := v = none ∧ Fr Z.heap.size L ∧ h = h0
set_option maxRecDepth 65536 in
set_option maxHeartbeats 40000000 in
theorem rmCL (l : Launch) (Z : State) (a0 : Array Value) (hw : ∀ d ∈ tables_1, d.before a0 Z = true) (e0 : Int32) (h0 : Heap) (hq1 : ¬ e0 < 0) :
    MetFree l (⟨"java/util/Arrays", "checkLength", "(II)V"⟩ : MethodName) (head1 (Jvm.Cond.code (⟨"java/util/Arrays", "checkLength", "(II)V"⟩ : MethodName) jdk_65_method_131_code 2 (Option.none : Option FieldType) :: []) ({ frames := 0, cells := 0, slots := 0, locals := 0 } : Room)) (fun aa U => aa = #[(.int (0 : Int32)), (.int e0)] ∧ Z.Warmed39 U.vm ∧ U.heap = h0) (fun _ _ _ _ _ => True) (fun _ U o U' => ∃ v L, o = .returned v ∧ (Q_rmCL Z e0 h0) v U'.heap L ∧ FrameEnd U o U' L ({ frames := 0, cells := 0, slots := 0, locals := 0 } : Room).cells ({ frames := 0, cells := 0, slots := 0, locals := 0 } : Room).slots) := by
  refine own_walkN (by exact pnAR) ?_
  intro p e s m below meth c T0 X0 hx hby hml hret hlk hnm hown hZ e00 es0 F hF
  refine own_on (fun _ => castTop (efII m 0 e0)) ?_
  refine own_iload_n X0.here hx (hb hby dCL_0) rfl (pc' := 1) rfl ?_
  refine own_iload_n X0.here hx (hb hby dCL_1) rfl (pc' := 2) rfl ?_
  refine own_icmpge X0.here hx (hb hby dCL_2) (by decide) (pc' := 37) (by decide) (pc2 := 5) rfl (fun q1 => ?_) (fun q => absurd q hq1)
  exact own_retV X0 hx hlk hret (hb hby dCL_37) (fun t ht hE => hF t _ _ _ _ (by rw [ht, (e00 : _ = h0)]; exact ⟨rfl, Fr.nil _, rfl⟩) hE (by decide) (by decide))
theorem dRB_0 : decode jdk_65_method_133_code 0 = .ok (.iload_n 1, 1) := by decide +kernel
theorem dRB_1 : decode jdk_65_method_133_code 1 = .ok (.iload_n 2, 1) := by decide +kernel
theorem dRB_2 : decode jdk_65_method_133_code 2 = .ok (.invokestatic 343, 3) := by decide +kernel
theorem dRB_5 : decode jdk_65_method_133_code 5 = .ok (.iload_n 2, 1) := by decide +kernel
theorem dRB_6 : decode jdk_65_method_133_code 6 = .ok (.iload_n 1, 1) := by decide +kernel
theorem dRB_7 : decode jdk_65_method_133_code 7 = .ok (.isub, 1) := by decide +kernel
theorem dRB_8 : decode jdk_65_method_133_code 8 = .ok (.istore_n 3, 1) := by decide +kernel
theorem dRB_9 : decode jdk_65_method_133_code 9 = .ok (.iload_n 3, 1) := by decide +kernel
theorem dRB_10 : decode jdk_65_method_133_code 10 = .ok (.newarray .byte, 2) := by decide +kernel
theorem dRB_12 : decode jdk_65_method_133_code 12 = .ok (.astore 4, 2) := by decide +kernel
theorem dRB_14 : decode jdk_65_method_133_code 14 = .ok (.aload_n 0, 1) := by decide +kernel
theorem dRB_15 : decode jdk_65_method_133_code 15 = .ok (.iload_n 1, 1) := by decide +kernel
theorem dRB_16 : decode jdk_65_method_133_code 16 = .ok (.aload 4, 2) := by decide +kernel
theorem dRB_18 : decode jdk_65_method_133_code 18 = .ok (.iconst 0, 1) := by decide +kernel
theorem dRB_19 : decode jdk_65_method_133_code 19 = .ok (.aload_n 0, 1) := by decide +kernel
theorem dRB_20 : decode jdk_65_method_133_code 20 = .ok (.arraylength, 1) := by decide +kernel
theorem dRB_21 : decode jdk_65_method_133_code 21 = .ok (.iload_n 1, 1) := by decide +kernel
theorem dRB_22 : decode jdk_65_method_133_code 22 = .ok (.isub, 1) := by decide +kernel
theorem dRB_23 : decode jdk_65_method_133_code 23 = .ok (.iload_n 3, 1) := by decide +kernel
theorem dRB_24 : decode jdk_65_method_133_code 24 = .ok (.invokestatic 304, 3) := by decide +kernel
theorem dRB_27 : decode jdk_65_method_133_code 27 = .ok (.invokestatic 150, 3) := by decide +kernel
theorem dRB_30 : decode jdk_65_method_133_code 30 = .ok (.aload 4, 2) := by decide +kernel
theorem dRB_32 : decode jdk_65_method_133_code 32 = .ok (.areturn, 1) := by decide +kernel
theorem efRB (m : MethodId) (x0 : Addr) (x1 : Int32) (x2 : Int32) : entryFrame m #[(.ref x0), (.int x1), (.int x2)] 5 = mkF m 0 #[.val (.ref x0), .val (.int x1), .val (.int x2), .unset, .unset] [] := by first | (simp [entryFrame, mkF, argsToLocals, Value.category]; done) | rfl
def Q_rmRB (Z : State) (t : Addr) (kb : ClassId) (cs : List Int32) (e0 : Nat) (h0 : Heap) (v : Option Value) (h : Heap) (L : List Loc) : Prop := ∃ t1 k1, v = some (.ref t1) ∧ Ext h0 h ∧ Fr Z.heap.size L ∧ h0.size ≤ t1 ∧ Arv Z h t1 k1 .byte (Int32.ofNat e0) (((cs.take e0).map fun c => c.toInt8.toInt32).map Value.int) (.int 0)
set_option maxRecDepth 65536 in
set_option maxHeartbeats 40000000 in
theorem rmRB (l : Launch) (Z : State) (a0 : Array Value) (hw : ∀ d ∈ tables_1, d.before a0 Z = true) (t : Addr) (kb : ClassId) (cs : List Int32) (e0 : Nat) (h0 : Heap) (EZ : Ext Z.heap h0) (sA : Arv Z h0 t kb .byte (Int32.ofNat cs.length) ((cs.map fun c => c.toInt8.toInt32).map Value.int) (.int 0)) (hl : cs.length ≤ 4000) (he : e0 ≤ 4) (hn : e0 < cs.length) :
    MetFree l (⟨"java/util/Arrays", "copyOfRangeByte", "([BII)[B"⟩ : MethodName) (head1 (Jvm.Cond.code (⟨"java/util/Arrays", "copyOfRangeByte", "([BII)[B"⟩ : MethodName) jdk_65_method_133_code 5 (Option.some (FieldType.array FieldType.byte)) :: []) ({ frames := 1, cells := 1, slots := 4, locals := 60 } : Room)) (fun aa U => aa = #[(.ref t), (.int (0 : Int32)), (.int (Int32.ofNat e0))] ∧ Z.Warmed39 U.vm ∧ U.heap = h0) (fun _ _ _ _ _ => True) (fun _ U o U' => ∃ v L, o = .returned v ∧ (Q_rmRB Z t kb cs e0 h0) v U'.heap L ∧ FrameEnd U o U' L ({ frames := 1, cells := 1, slots := 4, locals := 60 } : Room).cells ({ frames := 1, cells := 1, slots := 4, locals := 60 } : Room).slots) := by
  refine own_walkN (by exact pnAR) ?_
  intro p e s m below meth c T0 X0 hx hby hml hret hlk hnm hown hZ e00 es0 F hF
  refine own_on (fun _ => castTop (efRB m t 0 _)) ?_
  have M0 := own_ext_refl h0
  have N0 := Fr.nil Z.heap.size
  refine own_iload_n X0.here hx (hb hby dRB_0) rfl (pc' := 1) rfl ?_
  refine own_iload_n X0.here hx (hb hby dRB_1) rfl (pc' := 2) rfl ?_
  obtain ⟨_, _, ⟨T1, L1, k1, n1⟩, -, X1, ⟨Lc1, hQ1, l1, y1, z1⟩, st1⟩ := Jvm.LawKit.callS X0 hx (y := (⟨"java/util/Arrays", "checkLength", "(II)V"⟩ : MethodName)) hown (mvT hZ (hw _ (List.mem_of_getElem? (i := 103) rfl))) (mvT hZ (hw _ (List.mem_of_getElem? (i := 104) rfl))) (mvT hZ (hw _ (List.mem_of_getElem? (i := 98) rfl))) (mvT hZ (hw _ (List.mem_of_getElem? (i := 105) rfl))) (by decide) (backOf (W := 0) (rmCL l Z a0 hw (Int32.ofNat e0) h0 (own_nn (by omega))) hZ (hw _ (List.mem_of_getElem? (i := 105) rfl)) (hw _ (List.mem_of_getElem? (i := 98) rfl)) (by decide) (by decide)) (g := (mkF m 2 #[.val (.ref t), .val (.int ((0 : Int32))), .val (.int (Int32.ofNat e0)), .unset, .unset] [(.int (Int32.ofNat e0)), (.int ((0 : Int32)))])) rfl (by rw [hml]; rfl) (argsL := [(.int ((0 : Int32))), (.int (Int32.ofNat e0))]) (rest := []) (lenOf pdCL rfl) rfl (by show 2 * 0 + _ ≤ _; exact Nat.le_of_eq rfl) (hb hby dRB_2) (fun _ _ => ⟨rfl, e00, (Nat.le_of_ble_eq_true rfl), (Nat.le_of_ble_eq_true rfl)⟩)
  dsimp only [Pt.U, Pt.locs, Pt.cells, Pt.slots] at X1 l1 y1 z1 st1 hQ1
  subst l1 y1 z1
  obtain ⟨rfl, N1, E1⟩ := hQ1
  refine own_on (st1) ?_
  show own_Go p e below F (T1.setTop (mkF m 5 #[.val (.ref t), .val (.int ((0 : Int32))), .val (.int (Int32.ofNat e0)), .unset, .unset] []))
  have N2 := Fr.app N0 N1
  refine own_iload_n X1.here hx (hb hby dRB_5) rfl (pc' := 6) rfl ?_
  refine own_iload_n X1.here hx (hb hby dRB_6) rfl (pc' := 7) rfl ?_
  refine own_isub X1.here hx (hb hby dRB_7) (pc' := 8) rfl ?_
  rw [Int32.sub_zero]
  show own_Go p e below F (T1.setTop (mkF m 8 #[.val (.ref t), .val (.int ((0 : Int32))), .val (.int (Int32.ofNat e0)), .unset, .unset] [(.int (Int32.ofNat e0))]))
  refine own_istore_n X1.here hx (hb hby dRB_8) (L' := #[.val (.ref t), .val (.int ((0 : Int32))), .val (.int (Int32.ofNat e0)), .val (.int (Int32.ofNat e0)), .unset]) rfl (pc' := 9) rfl ?_
  refine own_iload_n X1.here hx (hb hby dRB_9) rfl (pc' := 10) rfl ?_
  obtain ⟨T3, h3, k3, X3, e3, E3, A3, st3⟩ := newP X1 hx hZ (hw _ (List.mem_of_getElem? (i := 20) rfl)) E1 (g := (mkF m 10 #[.val (.ref t), .val (.int ((0 : Int32))), .val (.int (Int32.ofNat e0)), .val (.int (Int32.ofNat e0)), .unset] [(.int (Int32.ofNat e0))])) rfl (hb hby dRB_10) rfl (own_nn (by omega)) (cap := 4) (by rw [own_tn (by omega)]; exact he) (by decide) (by decide) (by decide)
  obtain ⟨a3, g3⟩ : ∃ z, z = h0.size := ⟨_, rfl⟩
  rw [← g3] at A3 st3
  have ne4 : t ≠ a3 := Nat.ne_of_lt (by rw [g3]; exact sA.lt)
  have ge5 : h0.size ≤ a3 := by rw [g3]; exact M0.1
  have f6 := own_ext_trans M0 E3
  have f7 := sA.ext E3
  have V3 := (Arv.new A3 (own_nn (by omega))).pad (pad_rep [] (defaultValue (newarray.typeOf .byte)) (Int32.ofNat e0).toNatClampNeg)
  refine own_on st3 ?_
  show own_Go p e below F (T3.setTop (mkF m 12 #[.val (.ref t), .val (.int ((0 : Int32))), .val (.int (Int32.ofNat e0)), .val (.int (Int32.ofNat e0)), .unset] [(.ref a3)]))
  have gz_a3 : Z.heap.size ≤ a3 := Nat.le_trans EZ.1 ge5
  refine own_astore X3.here hx (hb hby dRB_12) rfl (L' := #[.val (.ref t), .val (.int ((0 : Int32))), .val (.int (Int32.ofNat e0)), .val (.int (Int32.ofNat e0)), .val (.ref a3)]) rfl (pc' := 14) rfl ?_
  refine own_aload_n X3.here hx (hb hby dRB_14) rfl rfl (pc' := 15) rfl ?_
  refine own_iload_n X3.here hx (hb hby dRB_15) rfl (pc' := 16) rfl ?_
  refine own_aload X3.here hx (hb hby dRB_16) rfl rfl (pc' := 18) rfl ?_
  refine own_iconst X3.here hx (hb hby dRB_18) (v := 0) rfl (pc' := 19) rfl ?_
  refine own_aload_n X3.here hx (hb hby dRB_19) rfl rfl (pc' := 20) rfl ?_
  refine own_alen X3 hx hZ e3 f7 (hb hby dRB_20) (pc' := 21) rfl ?_
  refine own_iload_n X3.here hx (hb hby dRB_21) rfl (pc' := 22) rfl ?_
  refine own_isub X3.here hx (hb hby dRB_22) (pc' := 23) rfl ?_
  refine own_iload_n X3.here hx (hb hby dRB_23) rfl (pc' := 24) rfl ?_
  rw [Int32.sub_zero]
  show own_Go p e below F (T3.setTop (mkF m 24 #[.val (.ref t), .val (.int ((0 : Int32))), .val (.int (Int32.ofNat e0)), .val (.int (Int32.ofNat e0)), .val (.ref a3)] [(.int (Int32.ofNat e0)), (.int (Int32.ofNat cs.length)), (.int ((0 : Int32))), (.ref a3), (.int ((0 : Int32))), (.ref t)]))
  obtain ⟨_, _, ⟨T8, L8, k8, n8⟩, -, X8, ⟨Lc8, hQ8, l8, y8, z8⟩, st8⟩ := Jvm.LawKit.callS X3 hx (y := (⟨"java/lang/Math", "min", "(II)I"⟩ : MethodName)) hown (mvT hZ (hw _ (List.mem_of_getElem? (i := 106) rfl))) (mvT hZ (hw _ (List.mem_of_getElem? (i := 65) rfl))) (mvT hZ (hw _ (List.mem_of_getElem? (i := 66) rfl))) (mvT hZ (hw _ (List.mem_of_getElem? (i := 67) rfl))) (by decide) (backOf (W := 4) (rmMi l Z a0 hw (Int32.ofNat cs.length) (Int32.ofNat e0) (Int32.ofNat e0) h3 (by rw [if_pos (own_ltN hn (by omega))])) hZ (hw _ (List.mem_of_getElem? (i := 67) rfl)) (hw _ (List.mem_of_getElem? (i := 66) rfl)) (by decide) (by decide)) (g := (mkF m 24 #[.val (.ref t), .val (.int ((0 : Int32))), .val (.int (Int32.ofNat e0)), .val (.int (Int32.ofNat e0)), .val (.ref a3)] [(.int (Int32.ofNat e0)), (.int (Int32.ofNat cs.length)), (.int ((0 : Int32))), (.ref a3), (.int ((0 : Int32))), (.ref t)])) rfl (by rw [hml]; rfl) (argsL := [(.int (Int32.ofNat cs.length)), (.int (Int32.ofNat e0))]) (rest := [(.int ((0 : Int32))), (.ref a3), (.int ((0 : Int32))), (.ref t)]) (lenOf pdII rfl) rfl (by show 2 * 0 + _ ≤ _; exact Nat.le_of_eq rfl) (hb hby dRB_24) (fun _ _ => ⟨rfl, e3, (Nat.le_of_ble_eq_true rfl), (Nat.le_of_ble_eq_true rfl)⟩)
  dsimp only [Pt.U, Pt.locs, Pt.cells, Pt.slots] at X8 l8 y8 z8 st8 hQ8
  subst l8 y8 z8
  obtain ⟨rfl, N8, E8⟩ := hQ8
  refine own_on (st8) ?_
  show own_Go p e below F (T8.setTop (mkF m 27 #[.val (.ref t), .val (.int ((0 : Int32))), .val (.int (Int32.ofNat e0)), .val (.int (Int32.ofNat e0)), .val (.ref a3)] [(.int (Int32.ofNat e0)), (.int ((0 : Int32))), (.ref a3), (.int ((0 : Int32))), (.ref t)]))
  have N9 := Fr.app N2 N8
  obtain ⟨T10, h10, L10, X10, e10, N10, K10, V10, st10⟩ := cpA X8 hx hZ hown (hw _ (List.mem_of_getElem? (i := 107) rfl)) (hw _ (List.mem_of_getElem? (i := 110) rfl)) (hw _ (List.mem_of_getElem? (i := 108) rfl)) (hw _ (List.mem_of_getElem? (i := 109) rfl)) E8 f7 V3 (us := (((cs.take e0).map fun c => c.toInt8.toInt32).map Value.int)) (Or.inl ⟨rfl, rfl⟩) (by decide) (by decide) (own_nn (by omega)) (by rw [own_tn (by omega), own_tn (by omega)]; show 0 + e0 ≤ _; omega) (by rw [own_tn (by omega)]; show 0 + e0 ≤ e0; omega) (by rw [own_tn (by omega)]; exact (own_takeB cs (by omega)).symm) (by rw [own_tn (by omega)]; simp) N9 gz_a3 (g := (mkF m 27 #[.val (.ref t), .val (.int ((0 : Int32))), .val (.int (Int32.ofNat e0)), .val (.int (Int32.ofNat e0)), .val (.ref a3)] [(.int (Int32.ofNat e0)), (.int ((0 : Int32))), (.ref a3), (.int ((0 : Int32))), (.ref t)])) rfl (by rw [hml]; rfl) rfl (hb hby dRB_27) (by decide) (W := 0) (by show 2 * 0 + _ ≤ _; exact Nat.le_of_eq rfl) (by decide)
  have f11 := own_ext_keep f6 K10 (fun y hy => by simp only [List.mem_cons, List.not_mem_nil, or_false] at hy; rcases hy with rfl <;> assumption)
  have f12 := f7.keep K10 (by simp only [List.mem_cons, List.not_mem_nil, or_false, not_or]; exact ne4)
  refine own_on st10 ?_
  show own_Go p e below F (T10.setTop (mkF m 30 #[.val (.ref t), .val (.int ((0 : Int32))), .val (.int (Int32.ofNat e0)), .val (.int (Int32.ofNat e0)), .val (.ref a3)] []))
  have V9 : Arv Z h10 a3 k3 .byte (Int32.ofNat e0) (((cs.take e0).map fun c => c.toInt8.toInt32).map Value.int) (.int 0) := by
    refine V10.pad fun i => ?_
    rw [own_tn (by omega)]
    simp
  refine own_aload X10.here hx (hb hby dRB_30) rfl rfl (pc' := 32) rfl ?_
  exact own_retA X10 hx hlk hret rfl rfl (hb hby dRB_32) (fun t ht hE => hF t _ _ _ _ (by rw [ht, (e10 : _ = h10)]; exact ⟨_, _, rfl, f11, N10, ge5, V9⟩) hE (by decide) (by decide))
theorem dCR_0 : decode jdk_65_method_132_code 0 = .ok (.iload_n 1, 1) := by decide +kernel
theorem dCR_1 : decode jdk_65_method_132_code 1 = .ok (.ifCond .ne 9, 3) := by decide +kernel
theorem dCR_4 : decode jdk_65_method_132_code 4 = .ok (.iload_n 2, 1) := by decide +kernel
theorem dCR_5 : decode jdk_65_method_132_code 5 = .ok (.aload_n 0, 1) := by decide +kernel
theorem dCR_6 : decode jdk_65_method_132_code 6 = .ok (.arraylength, 1) := by decide +kernel
theorem dCR_7 : decode jdk_65_method_132_code 7 = .ok (.if_icmp .eq 10, 3) := by decide +kernel
theorem dCR_10 : decode jdk_65_method_132_code 10 = .ok (.aload_n 0, 1) := by decide +kernel
theorem dCR_11 : decode jdk_65_method_132_code 11 = .ok (.iload_n 1, 1) := by decide +kernel
theorem dCR_12 : decode jdk_65_method_132_code 12 = .ok (.iload_n 2, 1) := by decide +kernel
theorem dCR_13 : decode jdk_65_method_132_code 13 = .ok (.invokestatic 339, 3) := by decide +kernel
theorem dCR_16 : decode jdk_65_method_132_code 16 = .ok (.areturn, 1) := by decide +kernel
theorem dCR_17 : decode jdk_65_method_132_code 17 = .ok (.aload_n 0, 1) := by decide +kernel
theorem dCR_18 : decode jdk_65_method_132_code 18 = .ok (.invokevirtual 310, 3) := by decide +kernel
theorem dCR_21 : decode jdk_65_method_132_code 21 = .ok (.checkcast 311, 3) := by decide +kernel
theorem dCR_24 : decode jdk_65_method_132_code 24 = .ok (.areturn, 1) := by decide +kernel
theorem efCR (m : MethodId) (x0 : Addr) (x1 : Int32) (x2 : Int32) : entryFrame m #[(.ref x0), (.int x1), (.int x2)] 3 = mkF m 0 #[.val (.ref x0), .val (.int x1), .val (.int x2)] [] := by first | (simp [entryFrame, mkF, argsToLocals, Value.category]; done) | rfl
def Q_rmCR (Z : State) (t : Addr) (kb : ClassId) (cs : List Int32) (e0 : Nat) (h0 : Heap) (v : Option Value) (h : Heap) (L : List Loc) : Prop := ∃ t1 k1, v = some (.ref t1) ∧ Ext h0 h ∧ Fr Z.heap.size L ∧ h0.size ≤ t1 ∧ Arv Z h t1 k1 .byte (Int32.ofNat e0) (((cs.take e0).map fun c => c.toInt8.toInt32).map Value.int) (.int 0)
set_option maxRecDepth 65536 in
set_option maxHeartbeats 40000000 in
theorem rmCR (l : Launch) (Z : State) (a0 : Array Value) (hw : ∀ d ∈ tables_1, d.before a0 Z = true) (t : Addr) (kb : ClassId) (cs : List Int32) (e0 : Nat) (h0 : Heap) (EZ : Ext Z.heap h0) (sA : Arv Z h0 t kb .byte (Int32.ofNat cs.length) ((cs.map fun c => c.toInt8.toInt32).map Value.int) (.int 0)) (hl : cs.length ≤ 4000) (he : e0 ≤ 4) (hn : e0 < cs.length) :
    MetFree l (⟨"java/util/Arrays", "copyOfRange", "([BII)[B"⟩ : MethodName) (head1 (Jvm.Cond.code (⟨"java/util/Arrays", "copyOfRange", "([BII)[B"⟩ : MethodName) jdk_65_method_132_code 3 (Option.some (FieldType.array FieldType.byte)) :: []) ({ frames := 2, cells := 1, slots := 4, locals := 76 } : Room)) (fun aa U => aa = #[(.ref t), (.int (0 : Int32)), (.int (Int32.ofNat e0))] ∧ Z.Warmed39 U.vm ∧ U.heap = h0) (fun _ _ _ _ _ => True) (fun _ U o U' => ∃ v L, o = .returned v ∧ (Q_rmCR Z t kb cs e0 h0) v U'.heap L ∧ FrameEnd U o U' L ({ frames := 2, cells := 1, slots := 4, locals := 76 } : Room).cells ({ frames := 2, cells := 1, slots := 4, locals := 76 } : Room).slots) := by
  refine own_walkN (by exact pnAR) ?_
  intro p e s m below meth c T0 X0 hx hby hml hret hlk hnm hown hZ e00 es0 F hF
  refine own_on (fun _ => castTop (efCR m t 0 _)) ?_
  have M0 := own_ext_refl h0
  have N0 := Fr.nil Z.heap.size
  refine own_iload_n X0.here hx (hb hby dCR_0) rfl (pc' := 1) rfl ?_
  refine own_ifne X0.here hx (hb hby dCR_1) (by decide) (pc' := 10) (by decide) (pc2 := 4) rfl (fun q => absurd rfl q) (fun q1 => ?_)
  refine own_iload_n X0.here hx (hb hby dCR_4) rfl (pc' := 5) rfl ?_
  refine own_aload_n X0.here hx (hb hby dCR_5) rfl rfl (pc' := 6) rfl ?_
  refine own_alen X0 hx hZ e00 sA (hb hby dCR_6) (pc' := 7) rfl ?_
  refine own_icmpeq X0.here hx (hb hby dCR_7) (by decide) (pc' := 17) (by decide) (pc2 := 10) rfl (fun q => absurd (own_inj (by omega) (by omega) q) (by omega)) (fun q2 => ?_)
  refine own_aload_n X0.here hx (hb hby dCR_10) rfl rfl (pc' := 11) rfl ?_
  refine own_iload_n X0.here hx (hb hby dCR_11) rfl (pc' := 12) rfl ?_
  refine own_iload_n X0.here hx (hb hby dCR_12) rfl (pc' := 13) rfl ?_
  obtain ⟨_, _, ⟨T3, L3, k3, n3⟩, -, X3, ⟨Lc3, hQ3, l3, y3, z3⟩, st3⟩ := Jvm.LawKit.callS X0 hx (y := (⟨"java/util/Arrays", "copyOfRangeByte", "([BII)[B"⟩ : MethodName)) hown (mvT hZ (hw _ (List.mem_of_getElem? (i := 100) rfl))) (mvT hZ (hw _ (List.mem_of_getElem? (i := 101) rfl))) (mvT hZ (hw _ (List.mem_of_getElem? (i := 98) rfl))) (mvT hZ (hw _ (List.mem_of_getElem? (i := 102) rfl))) (by decide) (backOf (W := 0) (rmRB l Z a0 hw t kb cs e0 h0 EZ sA hl he hn) hZ (hw _ (List.mem_of_getElem? (i := 102) rfl)) (hw _ (List.mem_of_getElem? (i := 98) rfl)) (by decide) (by decide)) (g := (mkF m 13 #[.val (.ref t), .val (.int ((0 : Int32))), .val (.int (Int32.ofNat e0))] [(.int (Int32.ofNat e0)), (.int ((0 : Int32))), (.ref t)])) rfl (by rw [hml]; rfl) (argsL := [(.ref t), (.int ((0 : Int32))), (.int (Int32.ofNat e0))]) (rest := []) (lenOf pdRB rfl) rfl (by show 2 * 0 + _ ≤ _; exact Nat.le_of_eq rfl) (hb hby dCR_13) (fun _ _ => ⟨rfl, e00, (Nat.le_of_ble_eq_true rfl), (Nat.le_of_ble_eq_true rfl)⟩)
  dsimp only [Pt.U, Pt.locs, Pt.cells, Pt.slots] at X3 l3 y3 z3 st3 hQ3
  subst l3 y3 z3
  obtain ⟨t3, k3b, rfl, E3, N3, g3, V3⟩ := hQ3
  refine own_on (st3) ?_
  show own_Go p e below F (T3.setTop (mkF m 16 #[.val (.ref t), .val (.int ((0 : Int32))), .val (.int (Int32.ofNat e0))] [(.ref t3)]))
  have f4 := own_ext_trans M0 E3
  have f5 := sA.ext E3
  have N6 := Fr.app N0 N3
  exact own_retA X3 hx hlk hret rfl rfl (hb hby dCR_16) (fun t ht hE => hF t _ _ _ _ (by rw [ht, (rfl : _ = T3.heap)]; exact ⟨_, _, rfl, f4, N6, g3, V3⟩) hE (by decide) (by decide))
theorem dBB_0 : decode jdk_42_method_151_code 0 = .ok (.aload_n 0, 1) := by decide +kernel
theorem dBB_1 : decode jdk_42_method_151_code 1 = .ok (.invokespecial 1, 3) := by decide +kernel
theorem dBB_4 : decode jdk_42_method_151_code 4 = .ok (.aload_n 0, 1) := by decide +kernel
theorem dBB_5 : decode jdk_42_method_151_code 5 = .ok (.aload_n 1, 1) := by decide +kernel
theorem dBB_6 : decode jdk_42_method_151_code 6 = .ok (.putfield 9, 3) := by decide +kernel
theorem dBB_9 : decode jdk_42_method_151_code 9 = .ok (.aload_n 0, 1) := by decide +kernel
theorem dBB_10 : decode jdk_42_method_151_code 10 = .ok (.iload_n 2, 1) := by decide +kernel
theorem dBB_11 : decode jdk_42_method_151_code 11 = .ok (.putfield 15, 3) := by decide +kernel
theorem dBB_14 : decode jdk_42_method_151_code 14 = .ok (.return_, 1) := by decide +kernel
theorem efBB (m : MethodId) (x0 : Addr) (x1 : Addr) (x2 : Int32) : entryFrame m #[(.ref x0), (.ref x1), (.int x2)] 3 = mkF m 0 #[.val (.ref x0), .val (.ref x1), .val (.int x2)] [] := by first | (simp [entryFrame, mkF, argsToLocals, Value.category]; done) | rfl
def Q_rmBB (Z : State) (x t : Addr) (h0 : Heap) (v : Option Value) (h : Heap) (L : List Loc) : Prop := v = none ∧ Fr Z.heap.size L ∧ Keep h0 h [x] ∧ Fld Z h x "java/lang/String" "value" "[B" (.ref t) ∧ Fld Z h x "java/lang/String" "coder" "B" (.int (0 : Int32))
set_option maxRecDepth 65536 in
set_option maxHeartbeats 40000000 in
theorem rmBB (l : Launch) (Z : State) (a0 : Array Value) (hw : ∀ d ∈ tables_1, d.before a0 Z = true) (x t : Addr) (h0 : Heap) (ga : Z.heap.size ≤ x) (A0 : Exa Z h0 x "java/lang/String") (F0 : Fld Z h0 x "java/lang/String" "value" "[B" .null) (F1 : Fld Z h0 x "java/lang/String" "coder" "B" (.int (0 : Int32))) :
    MetFree l (⟨"java/lang/String", "<init>", "([BB)V"⟩ : MethodName) (head1 (Jvm.Cond.code (⟨"java/lang/String", "<init>", "([BB)V"⟩ : MethodName) jdk_42_method_151_code 3 (Option.none : Option FieldType) :: []) ({ frames := 1, cells := 0, slots := 0, locals := 12 } : Room)) (fun aa U => aa = #[(.ref x), (.ref t), (.int (0 : Int32))] ∧ Z.Warmed39 U.vm ∧ U.heap = h0) (fun _ _ _ _ _ => True) (fun _ U o U' => ∃ v L, o = .returned v ∧ (Q_rmBB Z x t h0) v U'.heap L ∧ FrameEnd U o U' L ({ frames := 1, cells := 0, slots := 0, locals := 12 } : Room).cells ({ frames := 1, cells := 0, slots := 0, locals := 12 } : Room).slots) := by
  refine own_walkN (by exact pnS) ?_
  intro p e s m below meth c T0 X0 hx hby hml hret hlk hnm hown hZ e0 es0 F hF
  refine own_on (fun _ => castTop (efBB m x t 0)) ?_
  have N0 := Fr.nil Z.heap.size
  have Q0 := Keep.refl h0 [x]
  refine own_aload_n X0.here hx (hb hby dBB_0) rfl rfl (pc' := 1) rfl ?_
  obtain ⟨T1, X1, e1, st1⟩ := initO X0 hx hZ hown (hw _ (List.mem_of_getElem? (i := 16) rfl)) (hw _ (List.mem_of_getElem? (i := 17) rfl)) (hw _ (List.mem_of_getElem? (i := 18) rfl)) e0 (g := (mkF m 1 #[.val (.ref x), .val (.ref t), .val (.int ((0 : Int32)))] [(.ref x)])) rfl (by rw [hml]; rfl) rfl (hb hby dBB_1) (by decide) (W := 0) (by show 2 * 0 + _ ≤ _; exact Nat.le_of_eq rfl) (by decide)
  refine own_on st1 ?_
  show own_Go p e below F (T1.setTop (mkF m 4 #[.val (.ref x), .val (.ref t), .val (.int ((0 : Int32)))] []))
  refine own_aload_n X1.here hx (hb hby dBB_4) rfl rfl (pc' := 5) rfl ?_
  refine own_aload_n X1.here hx (hb hby dBB_5) rfl rfl (pc' := 6) rfl ?_
  obtain ⟨T2, h2, X2, e2, W2, st2⟩ := putF X1 hx hZ hown (host := "") (Or.inl (hw _ (List.mem_of_getElem? (i := 25) rfl))) Via.refl e1 F0 A0 (Or.inr ⟨(hw _ (List.mem_of_getElem? (i := 21) rfl)), rfl, hnm⟩) (hw _ (List.mem_of_getElem? (i := 7) rfl)) (ty := .array .byte) (by decide) rfl rfl (g := (mkF m 6 #[.val (.ref x), .val (.ref t), .val (.int ((0 : Int32)))] [(.ref t), (.ref x)])) rfl rfl (hb hby dBB_6)
  have f3 := A0.wr W2
  have f4 := F0.same W2
  have f5 := F1.other W2 (Or.inr (slot_ne (Or.inr (hw _ (List.mem_of_getElem? (i := 22) rfl))) (Or.inr (hw _ (List.mem_of_getElem? (i := 21) rfl))) (by decide) (t := .byte) (by decide) (t' := .array .byte) (by decide)))
  have f6 := Q0.wr W2 (Or.inl (by simp))
  have N7 := own_Fr_snoc (sl := Jvm.RoadKit.slotOf Z "java/lang/String" "value" "[B") N0 ga
  refine own_on st2 ?_
  show own_Go p e below F (T2.setTop (mkF m 9 #[.val (.ref x), .val (.ref t), .val (.int ((0 : Int32)))] []))
  refine own_aload_n X2.here hx (hb hby dBB_9) rfl rfl (pc' := 10) rfl ?_
  refine own_iload_n X2.here hx (hb hby dBB_10) rfl (pc' := 11) rfl ?_
  obtain ⟨T8, h8, X8, e8, W8, st8⟩ := putF X2 hx hZ hown (host := "") (Or.inl (hw _ (List.mem_of_getElem? (i := 26) rfl))) Via.refl e2 f5 f3 (Or.inr ⟨(hw _ (List.mem_of_getElem? (i := 22) rfl)), rfl, hnm⟩) (hw _ (List.mem_of_getElem? (i := 7) rfl)) (ty := .byte) (by decide) rfl rfl (g := (mkF m 11 #[.val (.ref x), .val (.ref t), .val (.int ((0 : Int32)))] [(.int ((0 : Int32))), (.ref x)])) rfl rfl (hb hby dBB_11)
  have f9 := f3.wr W8
  have f10 := f4.other W8 (Or.inr (slot_ne (Or.inr (hw _ (List.mem_of_getElem? (i := 21) rfl))) (Or.inr (hw _ (List.mem_of_getElem? (i := 22) rfl))) (by decide) (t := .array .byte) (by decide) (t' := .byte) (by decide)))
  have f11 := f5.same W8
  have f12 := f6.wr W8 (Or.inl (by simp))
  have N13 := own_Fr_snoc (sl := Jvm.RoadKit.slotOf Z "java/lang/String" "coder" "B") N7 ga
  refine own_on st8 ?_
  show own_Go p e below F (T8.setTop (mkF m 14 #[.val (.ref x), .val (.ref t), .val (.int ((0 : Int32)))] []))
  exact own_retV X8 hx hlk hret (hb hby dBB_14) (fun t ht hE => hF t _ _ _ _ (by rw [ht, (e8 : _ = h8)]; exact ⟨rfl, N13, f12, f10, f11⟩) hE (by decide) (by decide))
theorem dNS_0 : decode jdk_43_method_47_code 0 = .ok (.iload_n 2, 1) := by decide +kernel
theorem dNS_1 : decode jdk_43_method_47_code 1 = .ok (.ifCond .ne 6, 3) := by decide +kernel
theorem dNS_4 : decode jdk_43_method_47_code 4 = .ok (.ldc 151, 2) := by decide +kernel
theorem dNS_6 : decode jdk_43_method_47_code 6 = .ok (.areturn, 1) := by decide +kernel
theorem dNS_7 : decode jdk_43_method_47_code 7 = .ok (.new 1, 3) := by decide +kernel
theorem dNS_10 : decode jdk_43_method_47_code 10 = .ok (.dup, 1) := by decide +kernel
theorem dNS_11 : decode jdk_43_method_47_code 11 = .ok (.aload_n 0, 1) := by decide +kernel
theorem dNS_12 : decode jdk_43_method_47_code 12 = .ok (.iload_n 1, 1) := by decide +kernel
theorem dNS_13 : decode jdk_43_method_47_code 13 = .ok (.iload_n 1, 1) := by decide +kernel
theorem dNS_14 : decode jdk_43_method_47_code 14 = .ok (.iload_n 2, 1) := by decide +kernel
theorem dNS_15 : decode jdk_43_method_47_code 15 = .ok (.iadd, 1) := by decide +kernel
theorem dNS_16 : decode jdk_43_method_47_code 16 = .ok (.invokestatic 232, 3) := by decide +kernel
theorem dNS_19 : decode jdk_43_method_47_code 19 = .ok (.iconst 0, 1) := by decide +kernel
theorem dNS_20 : decode jdk_43_method_47_code 20 = .ok (.invokespecial 112, 3) := by decide +kernel
theorem dNS_23 : decode jdk_43_method_47_code 23 = .ok (.areturn, 1) := by decide +kernel
theorem efNS (m : MethodId) (x0 : Addr) (x1 : Int32) (x2 : Int32) : entryFrame m #[(.ref x0), (.int x1), (.int x2)] 3 = mkF m 0 #[.val (.ref x0), .val (.int x1), .val (.int x2)] [] := by first | (simp [entryFrame, mkF, argsToLocals, Value.category]; done) | rfl
def Q_rmNB (Z : State) (t : Addr) (kb : ClassId) (cs : List Int32) (e0 : Nat) (h0 : Heap) (v : Option Value) (h : Heap) (L : List Loc) : Prop := ∃ x, v = some (.ref x) ∧ own_Str Z h x (cs.take e0) ∧ Ext h0 h ∧ Fr Z.heap.size L
set_option maxRecDepth 65536 in
set_option maxHeartbeats 40000000 in
theorem rmNB (l : Launch) (Z : State) (a0 : Array Value) (hw : ∀ d ∈ tables_1, d.before a0 Z = true) (t : Addr) (kb : ClassId) (cs : List Int32) (e0 : Nat) (h0 : Heap) (EZ : Ext Z.heap h0) (sA : Arv Z h0 t kb .byte (Int32.ofNat cs.length) ((cs.map fun c => c.toInt8.toInt32).map Value.int) (.int 0)) (hp : ∀ c ∈ cs, ¬ c < 0 ∧ ¬ (255 : Int32) < c) (hl : cs.length ≤ 4000) (he : e0 ≤ 4) (h1 : 0 < e0) (hn : e0 < cs.length) :
    MetFree l (⟨"java/lang/StringLatin1", "newString", "([BII)Ljava/lang/String;"⟩ : MethodName) (head1 (Jvm.Cond.code (⟨"java/lang/StringLatin1", "newString", "([BII)Ljava/lang/String;"⟩ : MethodName) jdk_43_method_47_code 3 (Option.some (FieldType.object "java/lang/String")) :: []) ({ frames := 3, cells := 2, slots := 8, locals := 92 } : Room)) (fun aa U => aa = #[(.ref t), (.int (0 : Int32)), (.int (Int32.ofNat e0))] ∧ Z.Warmed39 U.vm ∧ U.heap = h0) (fun _ _ _ _ _ => True) (fun _ U o U' => ∃ v L, o = .returned v ∧ (Q_rmNB Z t kb cs e0 h0) v U'.heap L ∧ FrameEnd U o U' L ({ frames := 3, cells := 2, slots := 8, locals := 92 } : Room).cells ({ frames := 3, cells := 2, slots := 8, locals := 92 } : Room).slots) := by
  refine own_walkN (by exact pnSL) ?_
  intro p e s m below meth c T0 X0 hx hby hml hret hlk hnm hown hZ e00 es0 F hF
  refine own_on (fun _ => castTop (efNS m t 0 _)) ?_
  have M0 := own_ext_refl h0
  have N0 := Fr.nil Z.heap.size
  refine own_iload_n X0.here hx (hb hby dNS_0) rfl (pc' := 1) rfl ?_
  refine own_ifne X0.here hx (hb hby dNS_1) (by decide) (pc' := 7) (by decide) (pc2 := 4) rfl (fun q1 => ?_) (fun q => absurd (own_inj (k := 0) (by omega) (by omega) q) (by omega))
  obtain ⟨T2, h2, X2, e2, E2, A2, D2, -, st2⟩ := newO X0 hx hZ hown (hw _ (List.mem_of_getElem? (i := 95) rfl)) (hw _ (List.mem_of_getElem? (i := 7) rfl)) (hw _ (List.mem_of_getElem? (i := 8) rfl)) e00 (g := (mkF m 7 #[.val (.ref t), .val (.int ((0 : Int32))), .val (.int (Int32.ofNat e0))] [])) rfl (hb hby dNS_7) (by decide) (by decide)
  obtain ⟨a2, g2⟩ : ∃ z, z = h0.size := ⟨_, rfl⟩
  rw [← g2] at A2 D2 st2
  have ne3 : t ≠ a2 := Nat.ne_of_lt (by rw [g2]; exact sA.lt)
  have ge4 : h0.size ≤ a2 := by rw [g2]; exact M0.1
  have f5 := own_ext_trans M0 E2
  have f6 := sA.ext E2
  have F2_0 : Fld Z h2 a2 "java/lang/String" "value" "[B" (.null) := (D2 (Or.inr (hw _ (List.mem_of_getElem? (i := 21) rfl))) (ty := .array .byte) (by decide))
  have F2_1 : Fld Z h2 a2 "java/lang/String" "coder" "B" (.int ((0 : Int32))) := (D2 (Or.inr (hw _ (List.mem_of_getElem? (i := 22) rfl))) (ty := .byte) (by decide))
  refine own_on st2 ?_
  show own_Go p e below F (T2.setTop (mkF m 10 #[.val (.ref t), .val (.int ((0 : Int32))), .val (.int (Int32.ofNat e0))] [(.ref a2)]))
  have gz_a2 : Z.heap.size ≤ a2 := Nat.le_trans EZ.1 ge4
  refine own_dup X2.here hx (hb hby dNS_10) rfl (pc' := 11) rfl ?_
  refine own_aload_n X2.here hx (hb hby dNS_11) rfl rfl (pc' := 12) rfl ?_
  refine own_iload_n X2.here hx (hb hby dNS_12) rfl (pc' := 13) rfl ?_
  refine own_iload_n X2.here hx (hb hby dNS_13) rfl (pc' := 14) rfl ?_
  refine own_iload_n X2.here hx (hb hby dNS_14) rfl (pc' := 15) rfl ?_
  refine own_iadd X2.here hx (hb hby dNS_15) (pc' := 16) rfl ?_
  rw [Int32.zero_add]
  show own_Go p e below F (T2.setTop (mkF m 16 #[.val (.ref t), .val (.int ((0 : Int32))), .val (.int (Int32.ofNat e0))] [(.int (Int32.ofNat e0)), (.int ((0 : Int32))), (.ref t), (.ref a2), (.ref a2)]))
  obtain ⟨_, _, ⟨T7, L7, k7, n7⟩, -, X7, ⟨Lc7, hQ7, l7, y7, z7⟩, st7⟩ := Jvm.LawKit.callS X2 hx (y := (⟨"java/util/Arrays", "copyOfRange", "([BII)[B"⟩ : MethodName)) hown (mvT hZ (hw _ (List.mem_of_getElem? (i := 96) rfl))) (mvT hZ (hw _ (List.mem_of_getElem? (i := 97) rfl))) (mvT hZ (hw _ (List.mem_of_getElem? (i := 98) rfl))) (mvT hZ (hw _ (List.mem_of_getElem? (i := 99) rfl))) (by decide) (backOf (W := 2) (rmCR l Z a0 hw t kb cs e0 h2 (own_ext_trans EZ f5) f6 hl he hn) hZ (hw _ (List.mem_of_getElem? (i := 99) rfl)) (hw _ (List.mem_of_getElem? (i := 98) rfl)) (by decide) (by decide)) (g := (mkF m 16 #[.val (.ref t), .val (.int ((0 : Int32))), .val (.int (Int32.ofNat e0))] [(.int (Int32.ofNat e0)), (.int ((0 : Int32))), (.ref t), (.ref a2), (.ref a2)])) rfl (by rw [hml]; rfl) (argsL := [(.ref t), (.int ((0 : Int32))), (.int (Int32.ofNat e0))]) (rest := [(.ref a2), (.ref a2)]) (lenOf pdRB rfl) rfl (by show 2 * 0 + _ ≤ _; exact Nat.le_of_eq rfl) (hb hby dNS_16) (fun _ _ => ⟨rfl, e2, (Nat.le_of_ble_eq_true rfl), (Nat.le_of_ble_eq_true rfl)⟩)
  dsimp only [Pt.U, Pt.locs, Pt.cells, Pt.slots] at X7 l7 y7 z7 st7 hQ7
  subst l7 y7 z7
  obtain ⟨t7, k7b, rfl, E7, N7, g7, V7⟩ := hQ7
  refine own_on (st7) ?_
  show own_Go p e below F (T7.setTop (mkF m 19 #[.val (.ref t), .val (.int ((0 : Int32))), .val (.int (Int32.ofNat e0))] [(.ref t7), (.ref a2), (.ref a2)]))
  have f8 := own_ext_trans f5 E7
  have f9 := f6.ext E7
  have f10 := A2.ext E7
  have f11 := F2_0.ext E7
  have f12 := F2_1.ext E7
  have N13 := Fr.app N0 N7
  have ne1 : a2 ≠ t7 := Exa.neArv f10 V7 (hw _ own_wiS)
  refine own_iconst X7.here hx (hb hby dNS_19) (v := 0) rfl (pc' := 20) rfl ?_
  obtain ⟨_, _, ⟨T14, L14, k14, n14⟩, -, X14, ⟨Lc14, hQ14, l14, y14, z14⟩, st14⟩ := X7.specialBack hx (y := (⟨"java/lang/String", "<init>", "([BB)V"⟩ : MethodName)) rfl hown (mvT hZ (hw _ (List.mem_of_getElem? (i := 111) rfl))) (mvT hZ (hw _ (List.mem_of_getElem? (i := 112) rfl))) (mvT hZ (hw _ (List.mem_of_getElem? (i := 113) rfl))) (by decide) (backOf (W := 1) (rmBB l Z a0 hw a2 t7 T7.heap gz_a2 f10 f11 f12) hZ (hw _ (List.mem_of_getElem? (i := 113) rfl)) (hw _ (List.mem_of_getElem? (i := 8) rfl)) (by decide) (by decide)) (g := (mkF m 20 #[.val (.ref t), .val (.int ((0 : Int32))), .val (.int (Int32.ofNat e0))] [(.int ((0 : Int32))), (.ref t7), (.ref a2), (.ref a2)])) rfl (by rw [hml]; rfl) (Steps.refl _) (a := a2) (argsL := [(.ref t7), (.int ((0 : Int32)))]) (rest := [(.ref a2)]) (lenOf pdBB rfl) rfl (by show 2 * 0 + _ ≤ _; exact Nat.le_of_eq rfl) (hb hby dNS_20) (fun _ _ => ⟨rfl, rfl, (Nat.le_of_ble_eq_true rfl), (Nat.le_of_ble_eq_true rfl)⟩)
  dsimp only [Pt.U, Pt.locs, Pt.cells, Pt.slots] at X14 l14 y14 z14 st14 hQ14
  subst l14 y14 z14
  obtain ⟨rfl, N14, K14, F14, G14⟩ := hQ14
  refine own_to st14 ?_
  show own_Go p e below F (T14.setTop (mkF m 23 #[.val (.ref t), .val (.int ((0 : Int32))), .val (.int (Int32.ofNat e0))] [(.ref a2)]))
  have f15 := own_ext_keep f8 K14 (fun y hy => by simp only [List.mem_cons, List.not_mem_nil, or_false] at hy; rcases hy with rfl <;> assumption)
  have f16 := f9.keep K14 (by simp only [List.mem_cons, List.not_mem_nil, or_false, not_or]; exact ne3)
  have f17 := f10.keep K14
  have f20 := V7.keep K14 (by simp only [List.mem_cons, List.not_mem_nil, or_false, not_or]; exact (Ne.symm ne1))
  have N21 := Fr.app N13 N14
  have hS : own_Str Z T14.heap a2 (cs.take e0) := ⟨t7, _, f17, F14, G14, by rw [List.length_take, Nat.min_eq_left (by omega)]; exact f20, fun c hc => hp c (List.mem_of_mem_take hc), by rw [List.length_take]; omega⟩
  exact own_retA X14 hx hlk hret rfl rfl (hb hby dNS_23) (fun t ht hE => hF t _ _ _ _ (by rw [ht, (rfl : _ = T14.heap)]; exact ⟨_, rfl, hS, f15, N21⟩) hE (by decide) (by decide))
def Q_rmNC (Z : State) (t : Addr) (h0 : Heap) (v : Option Value) (h : Heap) (L : List Loc) : Prop := ∃ x, v = some (.ref x) ∧ own_Str Z h x [] ∧ Ext h0 h ∧ Fr Z.heap.size L
set_option maxRecDepth 65536 in
set_option maxHeartbeats 40000000 in
theorem rmNC (l : Launch) (Z : State) (a0 : Array Value) (hw : ∀ d ∈ tables_1, d.before a0 Z = true) (hEL : EW Z a0 EL) (t : Addr) (h0 : Heap) :
    MetFree l (⟨"java/lang/StringLatin1", "newString", "([BII)Ljava/lang/String;"⟩ : MethodName) (head1 (Jvm.Cond.code (⟨"java/lang/StringLatin1", "newString", "([BII)Ljava/lang/String;"⟩ : MethodName) jdk_43_method_47_code 3 (Option.some (FieldType.object "java/lang/String")) :: []) ({ frames := 0, cells := 2, slots := 4, locals := 0 } : Room)) (fun aa U => aa = #[(.ref t), (.int (0 : Int32)), (.int (0 : Int32))] ∧ Z.Warmed39 U.vm ∧ U.heap = h0 ∧ CHv Z EL U.vm h0 ∧ ∀ yy ∈ ([] : List Addr), Safe Z EL U.vm h0 yy) (fun _ _ _ _ _ => True) (fun _ U o U' => ∃ v L, o = .returned v ∧ (Q_rmNC Z t h0) v U'.heap L ∧ CHr Z EL U.vm U.heap U'.vm U'.heap ∧ ReturnedEndW U o U' L ({ frames := 0, cells := 2, slots := 4, locals := 0 } : Room).cells ({ frames := 0, cells := 2, slots := 4, locals := 0 } : Room).slots) := by
  refine own_walkW (by exact pnSL) ?_
  intro p e s m below meth c T0 X0 hx hby hml hret hlk hnm hs0 e0 I0 hsf F hF
  refine own_on (fun _ => castTop (efNS m t 0 0)) ?_
  have M0 := own_ext_refl h0
  have N0 := Fr.nil Z.heap.size
  refine own_iload_n X0.here hx (hb hby dNS_0) rfl (pc' := 1) rfl ?_
  refine own_ifne X0.here hx (hb hby dNS_1) (by decide) (pc' := 7) (by decide) (pc2 := 4) rfl (fun q => absurd rfl q) (fun q1 => ?_)
  obtain ⟨b2, T2, t2, kb2, X2, E2, I2, C2, A2, Fc2, Fv2, V2, hn2, st2⟩ := own_ldcT X0 hx I0 (hw _ (List.mem_of_getElem? (i := 128) rfl)) (own_strW hw) e0 hEL (by simp [EL]) (vs := []) (z := 0) (by decide) (by decide) (by decide) (g := (mkF m 4 #[.val (.ref t), .val (.int ((0 : Int32))), .val (.int ((0 : Int32)))] [])) rfl (hb hby dNS_4) (n := 0) (by decide) (by decide) (by decide) (by decide)
  have f3 := own_ext_trans M0 E2
  refine own_on st2 ?_
  show own_Go p e below F (T2.setTop (mkF m 6 #[.val (.ref t), .val (.int ((0 : Int32))), .val (.int ((0 : Int32)))] [(.ref b2)]))
  exact own_retAW X2 hx hlk hEL I2 rfl hret rfl rfl (hb hby dNS_6) (fun t ht hC hE => hF t _ _ _ _ (by rw [ht]; exact ⟨_, rfl, ⟨t2, kb2, A2, Fv2, Fc2, V2, (fun _ q => nomatch q), (by decide)⟩, f3, N0⟩) hC hE (by decide) (by decide))
theorem dSu_0 : decode jdk_42_method_92_code 0 = .ok (.aload_n 0, 1) := by decide +kernel
theorem dSu_1 : decode jdk_42_method_92_code 1 = .ok (.invokevirtual 505, 3) := by decide +kernel
theorem dSu_4 : decode jdk_42_method_92_code 4 = .ok (.istore_n 3, 1) := by decide +kernel
theorem dSu_5 : decode jdk_42_method_92_code 5 = .ok (.iload_n 1, 1) := by decide +kernel
theorem dSu_6 : decode jdk_42_method_92_code 6 = .ok (.iload_n 2, 1) := by decide +kernel
theorem dSu_7 : decode jdk_42_method_92_code 7 = .ok (.iload_n 3, 1) := by decide +kernel
theorem dSu_8 : decode jdk_42_method_92_code 8 = .ok (.invokestatic 521, 3) := by decide +kernel
theorem dSu_11 : decode jdk_42_method_92_code 11 = .ok (.iload_n 1, 1) := by decide +kernel
theorem dSu_12 : decode jdk_42_method_92_code 12 = .ok (.ifCond .ne 10, 3) := by decide +kernel
theorem dSu_15 : decode jdk_42_method_92_code 15 = .ok (.iload_n 2, 1) := by decide +kernel
theorem dSu_16 : decode jdk_42_method_92_code 16 = .ok (.iload_n 3, 1) := by decide +kernel
theorem dSu_17 : decode jdk_42_method_92_code 17 = .ok (.if_icmp .ne 5, 3) := by decide +kernel
theorem dSu_20 : decode jdk_42_method_92_code 20 = .ok (.aload_n 0, 1) := by decide +kernel
theorem dSu_21 : decode jdk_42_method_92_code 21 = .ok (.areturn, 1) := by decide +kernel
theorem dSu_22 : decode jdk_42_method_92_code 22 = .ok (.iload_n 2, 1) := by decide +kernel
theorem dSu_23 : decode jdk_42_method_92_code 23 = .ok (.iload_n 1, 1) := by decide +kernel
theorem dSu_24 : decode jdk_42_method_92_code 24 = .ok (.isub, 1) := by decide +kernel
theorem dSu_25 : decode jdk_42_method_92_code 25 = .ok (.istore 4, 2) := by decide +kernel
theorem dSu_27 : decode jdk_42_method_92_code 27 = .ok (.aload_n 0, 1) := by decide +kernel
theorem dSu_28 : decode jdk_42_method_92_code 28 = .ok (.invokevirtual 492, 3) := by decide +kernel
theorem dSu_31 : decode jdk_42_method_92_code 31 = .ok (.ifCond .eq 16, 3) := by decide +kernel
theorem dSu_34 : decode jdk_42_method_92_code 34 = .ok (.aload_n 0, 1) := by decide +kernel
theorem dSu_35 : decode jdk_42_method_92_code 35 = .ok (.getfield 9, 3) := by decide +kernel
theorem dSu_38 : decode jdk_42_method_92_code 38 = .ok (.iload_n 1, 1) := by decide +kernel
theorem dSu_39 : decode jdk_42_method_92_code 39 = .ok (.iload 4, 2) := by decide +kernel
theorem dSu_41 : decode jdk_42_method_92_code 41 = .ok (.invokestatic 685, 3) := by decide +kernel
theorem dSu_44 : decode jdk_42_method_92_code 44 = .ok (.goto 13, 3) := by decide +kernel
theorem dSu_47 : decode jdk_42_method_92_code 47 = .ok (.aload_n 0, 1) := by decide +kernel
theorem dSu_48 : decode jdk_42_method_92_code 48 = .ok (.getfield 9, 3) := by decide +kernel
theorem dSu_51 : decode jdk_42_method_92_code 51 = .ok (.iload_n 1, 1) := by decide +kernel
theorem dSu_52 : decode jdk_42_method_92_code 52 = .ok (.iload 4, 2) := by decide +kernel
theorem dSu_54 : decode jdk_42_method_92_code 54 = .ok (.invokestatic 689, 3) := by decide +kernel
theorem dSu_57 : decode jdk_42_method_92_code 57 = .ok (.areturn, 1) := by decide +kernel
theorem efSu (m : MethodId) (x0 : Addr) (x1 : Int32) (x2 : Int32) : entryFrame m #[(.ref x0), (.int x1), (.int x2)] 5 = mkF m 0 #[.val (.ref x0), .val (.int x1), .val (.int x2), .unset, .unset] [] := by first | (simp [entryFrame, mkF, argsToLocals, Value.category]; done) | rfl
def Q_rmSA (Z : State) (x : Addr) (cs : List Int32) (h0 : Heap) (z0 : Int32) (fm : Value) (v : Option Value) (h : Heap) (L : List Loc) : Prop := v = some (.ref x) ∧ Fr Z.heap.size L ∧ h = h0
set_option maxRecDepth 65536 in
set_option maxHeartbeats 40000000 in
theorem rmSA (l : Launch) (Z : State) (a0 : Array Value) (hw : ∀ d ∈ tables_1, d.before a0 Z = true) (x : Addr) (cs : List Int32) (h0 : Heap) (EZ : Ext Z.heap h0) (z0 : Int32) (O1 : Sta Z Z.heap "java/lang/String" "COMPACT_STRINGS" "Z" (.int z0)) (P5 : ¬ z0 = 0) (fm : Value) (O2 : Sta Z Z.heap "jdk/internal/util/Preconditions" "SIOOBE_FORMATTER" "Ljava/util/function/BiFunction;" fm) (rf : fm.isRef = true) (S : own_Str Z h0 x cs) :
    MetFree l (⟨"java/lang/String", "substring", "(II)Ljava/lang/String;"⟩ : MethodName) (head1 (Jvm.Cond.code (⟨"java/lang/String", "substring", "(II)Ljava/lang/String;"⟩ : MethodName) jdk_42_method_92_code 5 (Option.some (FieldType.object "java/lang/String")) :: []) ({ frames := 2, cells := 0, slots := 0, locals := 36 } : Room)) (fun aa U => aa = #[(.ref x), (.int (0 : Int32)), (.int (Int32.ofNat cs.length))] ∧ Z.Warmed39 U.vm ∧ U.heap = h0) (fun _ _ _ _ _ => True) (fun _ U o U' => ∃ v L, o = .returned v ∧ (Q_rmSA Z x cs h0 z0 fm) v U'.heap L ∧ FrameEnd U o U' L ({ frames := 2, cells := 0, slots := 0, locals := 36 } : Room).cells ({ frames := 2, cells := 0, slots := 0, locals := 36 } : Room).slots) := by
  have S1 := S
  obtain ⟨t, kb, sE, sV, sC, sA, hp, hl⟩ := S
  refine own_walkN (by exact pnS) ?_
  intro p e s m below meth c T0 X0 hx hby hml hret hlk hnm hown hZ e00 es0 F hF
  refine own_on (fun _ => castTop (efSu m x 0 _)) ?_
  have M0 := own_ext_refl h0
  have N0 := Fr.nil Z.heap.size
  refine own_aload_n X0.here hx (hb hby dSu_0) rfl rfl (pc' := 1) rfl ?_
  obtain ⟨cq1, kq1, qa1, qb1, qc1⟩ := isOf hZ e00 S1.exa
  obtain ⟨_, _, ⟨T1, L1, k1, n1⟩, -, X1, ⟨Lc1, hQ1, l1, y1, z1⟩, st1⟩ := X0.virtualBack hx (y := (⟨"java/lang/String", "length", "()I"⟩ : MethodName)) (z := (⟨"java/lang/String", "length", "()I"⟩ : MethodName)) hown (mvT hZ (hw _ (List.mem_of_getElem? (i := 36) rfl))) (mvT hZ (hw _ (List.mem_of_getElem? (i := 37) rfl))) (notFace_of_selects (args := #[]) (mvT hZ (hw _ (List.mem_of_getElem? (i := 39) rfl)))) (mvT hZ (hw _ (List.mem_of_getElem? (i := 39) rfl))) (mvT hZ (hw _ (List.mem_of_getElem? (i := 38) rfl))) (by decide) (own_lenB (s := s) (W := 0) hZ hw S1 (O1.ext EZ) P5 (by decide) (by decide)) qa1 qc1 (g := (mkF m 1 #[.val (.ref x), .val (.int ((0 : Int32))), .val (.int (Int32.ofNat cs.length)), .unset, .unset] [(.ref x)])) rfl (by rw [hml]; rfl) (Steps.refl _) (argsL := []) (rest := []) (lenOf pdI rfl) rfl (by show 2 * 0 + _ ≤ _; exact Nat.le_of_eq rfl) (hb hby dSu_1) (fun _ _ => ⟨rfl, e00, (Nat.le_of_ble_eq_true rfl), (Nat.le_of_ble_eq_true rfl)⟩)
  dsimp only [Pt.U, Pt.locs, Pt.cells, Pt.slots] at X1 l1 y1 z1 st1 hQ1
  subst l1 y1 z1
  obtain ⟨rfl, rfl, E1⟩ := hQ1
  refine own_to st1 ?_
  show own_Go p e below F (T1.setTop (mkF m 4 #[.val (.ref x), .val (.int ((0 : Int32))), .val (.int (Int32.ofNat cs.length)), .unset, .unset] [(.int (Int32.ofNat cs.length))]))
  refine own_istore_n X1.here hx (hb hby dSu_4) (L' := #[.val (.ref x), .val (.int ((0 : Int32))), .val (.int (Int32.ofNat cs.length)), .val (.int (Int32.ofNat cs.length)), .unset]) rfl (pc' := 5) rfl ?_
  refine own_iload_n X1.here hx (hb hby dSu_5) rfl (pc' := 6) rfl ?_
  refine own_iload_n X1.here hx (hb hby dSu_6) rfl (pc' := 7) rfl ?_
  refine own_iload_n X1.here hx (hb hby dSu_7) rfl (pc' := 8) rfl ?_
  obtain ⟨_, _, ⟨T2, L2, k2, n2⟩, -, X2, ⟨Lc2, hQ2, l2, y2, z2⟩, st2⟩ := Jvm.LawKit.callS X1 hx (y := (⟨"java/lang/String", "checkBoundsBeginEnd", "(III)V"⟩ : MethodName)) hown (mvT hZ (hw _ (List.mem_of_getElem? (i := 73) rfl))) (mvT hZ (hw _ (List.mem_of_getElem? (i := 74) rfl))) (mvT hZ (hw _ (List.mem_of_getElem? (i := 8) rfl))) (mvT hZ (hw _ (List.mem_of_getElem? (i := 75) rfl))) (by decide) (backOf (W := 0) (rmCB l Z a0 hw (Int32.ofNat cs.length) (Int32.ofNat cs.length) h0 EZ fm O2 rf (by first | decide | exact own_nn (by omega)) (by first | exact own_nltN (by omega) (by omega) | exact own_nltN (j := 0) (by omega) (by omega))) hZ (hw _ (List.mem_of_getElem? (i := 75) rfl)) (hw _ (List.mem_of_getElem? (i := 8) rfl)) (by decide) (by decide)) (g := (mkF m 8 #[.val (.ref x), .val (.int ((0 : Int32))), .val (.int (Int32.ofNat cs.length)), .val (.int (Int32.ofNat cs.length)), .unset] [(.int (Int32.ofNat cs.length)), (.int (Int32.ofNat cs.length)), (.int ((0 : Int32)))])) rfl (by rw [hml]; rfl) (argsL := [(.int ((0 : Int32))), (.int (Int32.ofNat cs.length)), (.int (Int32.ofNat cs.length))]) (rest := []) (lenOf pdCB rfl) rfl (by show 2 * 0 + _ ≤ _; exact Nat.le_of_eq rfl) (hb hby dSu_8) (fun _ _ => ⟨rfl, E1, (Nat.le_of_ble_eq_true rfl), (Nat.le_of_ble_eq_true rfl)⟩)
  dsimp only [Pt.U, Pt.locs, Pt.cells, Pt.slots] at X2 l2 y2 z2 st2 hQ2
  subst l2 y2 z2
  obtain ⟨rfl, N2, E2⟩ := hQ2
  refine own_on (st2) ?_
  show own_Go p e below F (T2.setTop (mkF m 11 #[.val (.ref x), .val (.int ((0 : Int32))), .val (.int (Int32.ofNat cs.length)), .val (.int (Int32.ofNat cs.length)), .unset] []))
  have N3 := Fr.app N0 N2
  refine own_iload_n X2.here hx (hb hby dSu_11) rfl (pc' := 12) rfl ?_
  refine own_ifne X2.here hx (hb hby dSu_12) (by decide) (pc' := 22) (by decide) (pc2 := 15) rfl (fun q => absurd rfl q) (fun q4 => ?_)
  refine own_iload_n X2.here hx (hb hby dSu_15) rfl (pc' := 16) rfl ?_
  refine own_iload_n X2.here hx (hb hby dSu_16) rfl (pc' := 17) rfl ?_
  refine own_icmpne X2.here hx (hb hby dSu_17) (by decide) (pc' := 22) (by decide) (pc2 := 20) rfl (fun q => absurd rfl q) (fun q5 => ?_)
  refine own_aload_n X2.here hx (hb hby dSu_20) rfl rfl (pc' := 21) rfl ?_
  exact own_retA X2 hx hlk hret rfl rfl (hb hby dSu_21) (fun t ht hE => hF t _ _ _ _ (by rw [ht, (E2 : _ = h0)]; exact ⟨rfl, (by simpa using N3), rfl⟩) hE (by decide) (by decide))
def Q_rmSB (Z : State) (x : Addr) (cs : List Int32) (e0 : Nat) (h0 : Heap) (z0 : Int32) (fm : Value) (v : Option Value) (h : Heap) (L : List Loc) : Prop := ∃ y, v = some (.ref y) ∧ own_Str Z h y (cs.take e0) ∧ Ext h0 h ∧ Fr Z.heap.size L
set_option maxRecDepth 65536 in
set_option maxHeartbeats 40000000 in
theorem rmSB (l : Launch) (Z : State) (a0 : Array Value) (hw : ∀ d ∈ tables_1, d.before a0 Z = true) (x : Addr) (cs : List Int32) (e0 : Nat) (h0 : Heap) (EZ : Ext Z.heap h0) (z0 : Int32) (O1 : Sta Z Z.heap "java/lang/String" "COMPACT_STRINGS" "Z" (.int z0)) (P5 : ¬ z0 = 0) (fm : Value) (O2 : Sta Z Z.heap "jdk/internal/util/Preconditions" "SIOOBE_FORMATTER" "Ljava/util/function/BiFunction;" fm) (rf : fm.isRef = true) (S : own_Str Z h0 x cs) (he : e0 ≤ 4) (h1 : 0 < e0) (hn : e0 < cs.length) :
    MetFree l (⟨"java/lang/String", "substring", "(II)Ljava/lang/String;"⟩ : MethodName) (head1 (Jvm.Cond.code (⟨"java/lang/String", "substring", "(II)Ljava/lang/String;"⟩ : MethodName) jdk_42_method_92_code 5 (Option.some (FieldType.object "java/lang/String")) :: []) ({ frames := 4, cells := 2, slots := 8, locals := 106 } : Room)) (fun aa U => aa = #[(.ref x), (.int (0 : Int32)), (.int (Int32.ofNat e0))] ∧ Z.Warmed39 U.vm ∧ U.heap = h0) (fun _ _ _ _ _ => True) (fun _ U o U' => ∃ v L, o = .returned v ∧ (Q_rmSB Z x cs e0 h0 z0 fm) v U'.heap L ∧ FrameEnd U o U' L ({ frames := 4, cells := 2, slots := 8, locals := 106 } : Room).cells ({ frames := 4, cells := 2, slots := 8, locals := 106 } : Room).slots) := by
  have S1 := S
  obtain ⟨t, kb, sE, sV, sC, sA, hp, hl⟩ := S
  refine own_walkN (by exact pnS) ?_
  intro p e s m below meth c T0 X0 hx hby hml hret hlk hnm hown hZ e00 es0 F hF
  refine own_on (fun _ => castTop (efSu m x 0 _)) ?_
  have M0 := own_ext_refl h0
  have N0 := Fr.nil Z.heap.size
  refine own_aload_n X0.here hx (hb hby dSu_0) rfl rfl (pc' := 1) rfl ?_
  obtain ⟨cq1, kq1, qa1, qb1, qc1⟩ := isOf hZ e00 S1.exa
  obtain ⟨_, _, ⟨T1, L1, k1, n1⟩, -, X1, ⟨Lc1, hQ1, l1, y1, z1⟩, st1⟩ := X0.virtualBack hx (y := (⟨"java/lang/String", "length", "()I"⟩ : MethodName)) (z := (⟨"java/lang/String", "length", "()I"⟩ : MethodName)) hown (mvT hZ (hw _ (List.mem_of_getElem? (i := 36) rfl))) (mvT hZ (hw _ (List.mem_of_getElem? (i := 37) rfl))) (notFace_of_selects (args := #[]) (mvT hZ (hw _ (List.mem_of_getElem? (i := 39) rfl)))) (mvT hZ (hw _ (List.mem_of_getElem? (i := 39) rfl))) (mvT hZ (hw _ (List.mem_of_getElem? (i := 38) rfl))) (by decide) (own_lenB (s := s) (W := 0) hZ hw S1 (O1.ext EZ) P5 (by decide) (by decide)) qa1 qc1 (g := (mkF m 1 #[.val (.ref x), .val (.int ((0 : Int32))), .val (.int (Int32.ofNat e0)), .unset, .unset] [(.ref x)])) rfl (by rw [hml]; rfl) (Steps.refl _) (argsL := []) (rest := []) (lenOf pdI rfl) rfl (by show 2 * 0 + _ ≤ _; exact Nat.le_of_eq rfl) (hb hby dSu_1) (fun _ _ => ⟨rfl, e00, (Nat.le_of_ble_eq_true rfl), (Nat.le_of_ble_eq_true rfl)⟩)
  dsimp only [Pt.U, Pt.locs, Pt.cells, Pt.slots] at X1 l1 y1 z1 st1 hQ1
  subst l1 y1 z1
  obtain ⟨rfl, rfl, E1⟩ := hQ1
  refine own_to st1 ?_
  show own_Go p e below F (T1.setTop (mkF m 4 #[.val (.ref x), .val (.int ((0 : Int32))), .val (.int (Int32.ofNat e0)), .unset, .unset] [(.int (Int32.ofNat cs.length))]))
  refine own_istore_n X1.here hx (hb hby dSu_4) (L' := #[.val (.ref x), .val (.int ((0 : Int32))), .val (.int (Int32.ofNat e0)), .val (.int (Int32.ofNat cs.length)), .unset]) rfl (pc' := 5) rfl ?_
  refine own_iload_n X1.here hx (hb hby dSu_5) rfl (pc' := 6) rfl ?_
  refine own_iload_n X1.here hx (hb hby dSu_6) rfl (pc' := 7) rfl ?_
  refine own_iload_n X1.here hx (hb hby dSu_7) rfl (pc' := 8) rfl ?_
  obtain ⟨_, _, ⟨T2, L2, k2, n2⟩, -, X2, ⟨Lc2, hQ2, l2, y2, z2⟩, st2⟩ := Jvm.LawKit.callS X1 hx (y := (⟨"java/lang/String", "checkBoundsBeginEnd", "(III)V"⟩ : MethodName)) hown (mvT hZ (hw _ (List.mem_of_getElem? (i := 73) rfl))) (mvT hZ (hw _ (List.mem_of_getElem? (i := 74) rfl))) (mvT hZ (hw _ (List.mem_of_getElem? (i := 8) rfl))) (mvT hZ (hw _ (List.mem_of_getElem? (i := 75) rfl))) (by decide) (backOf (W := 0) (rmCB l Z a0 hw (Int32.ofNat e0) (Int32.ofNat cs.length) h0 EZ fm O2 rf (by first | decide | exact own_nn (by omega)) (by first | exact own_nltN (by omega) (by omega) | exact own_nltN (j := 0) (by omega) (by omega))) hZ (hw _ (List.mem_of_getElem? (i := 75) rfl)) (hw _ (List.mem_of_getElem? (i := 8) rfl)) (by decide) (by decide)) (g := (mkF m 8 #[.val (.ref x), .val (.int ((0 : Int32))), .val (.int (Int32.ofNat e0)), .val (.int (Int32.ofNat cs.length)), .unset] [(.int (Int32.ofNat cs.length)), (.int (Int32.ofNat e0)), (.int ((0 : Int32)))])) rfl (by rw [hml]; rfl) (argsL := [(.int ((0 : Int32))), (.int (Int32.ofNat e0)), (.int (Int32.ofNat cs.length))]) (rest := []) (lenOf pdCB rfl) rfl (by show 2 * 0 + _ ≤ _; exact Nat.le_of_eq rfl) (hb hby dSu_8) (fun _ _ => ⟨rfl, E1, (Nat.le_of_ble_eq_true rfl), (Nat.le_of_ble_eq_true rfl)⟩)
  dsimp only [Pt.U, Pt.locs, Pt.cells, Pt.slots] at X2 l2 y2 z2 st2 hQ2
  subst l2 y2 z2
  obtain ⟨rfl, N2, E2⟩ := hQ2
  refine own_on (st2) ?_
  show own_Go p e below F (T2.setTop (mkF m 11 #[.val (.ref x), .val (.int ((0 : Int32))), .val (.int (Int32.ofNat e0)), .val (.int (Int32.ofNat cs.length)), .unset] []))
  have N3 := Fr.app N0 N2
  refine own_iload_n X2.here hx (hb hby dSu_11) rfl (pc' := 12) rfl ?_
  refine own_ifne X2.here hx (hb hby dSu_12) (by decide) (pc' := 22) (by decide) (pc2 := 15) rfl (fun q => absurd rfl q) (fun q4 => ?_)
  refine own_iload_n X2.here hx (hb hby dSu_15) rfl (pc' := 16) rfl ?_
  refine own_iload_n X2.here hx (hb hby dSu_16) rfl (pc' := 17) rfl ?_
  refine own_icmpne X2.here hx (hb hby dSu_17) (by decide) (pc' := 22) (by decide) (pc2 := 20) rfl (fun q5 => ?_) (fun q => absurd (own_inj (by omega) (by omega) q) (by omega))
  refine own_iload_n X2.here hx (hb hby dSu_22) rfl (pc' := 23) rfl ?_
  refine own_iload_n X2.here hx (hb hby dSu_23) rfl (pc' := 24) rfl ?_
  refine own_isub X2.here hx (hb hby dSu_24) (pc' := 25) rfl ?_
  rw [Int32.sub_zero]
  show own_Go p e below F (T2.setTop (mkF m 25 #[.val (.ref x), .val (.int ((0 : Int32))), .val (.int (Int32.ofNat e0)), .val (.int (Int32.ofNat cs.length)), .unset] [(.int (Int32.ofNat e0))]))
  refine own_istore X2.here hx (hb hby dSu_25) (L' := #[.val (.ref x), .val (.int ((0 : Int32))), .val (.int (Int32.ofNat e0)), .val (.int (Int32.ofNat cs.length)), .val (.int (Int32.ofNat e0))]) rfl (pc' := 27) rfl ?_
  refine own_aload_n X2.here hx (hb hby dSu_27) rfl rfl (pc' := 28) rfl ?_
  obtain ⟨cq6, kq6, qa6, qb6, qc6⟩ := isOf hZ E2 sE
  obtain ⟨_, _, ⟨T6, L6, k6, n6⟩, -, X6, ⟨Lc6, hQ6, l6, y6, z6⟩, st6⟩ := X2.virtualBack hx (y := (⟨"java/lang/String", "isLatin1", "()Z"⟩ : MethodName)) (z := (⟨"java/lang/String", "isLatin1", "()Z"⟩ : MethodName)) hown (mvT hZ (hw _ (List.mem_of_getElem? (i := 52) rfl))) (mvT hZ (hw _ (List.mem_of_getElem? (i := 53) rfl))) (notFace_of_selects (args := #[]) (mvT hZ (hw _ (List.mem_of_getElem? (i := 55) rfl)))) (mvT hZ (hw _ (List.mem_of_getElem? (i := 55) rfl))) (mvT hZ (hw _ (List.mem_of_getElem? (i := 54) rfl))) (by decide) (backOf (W := 0) (rmIL l Z a0 hw x cs h0 EZ z0 O1 P5 S1) hZ (hw _ (List.mem_of_getElem? (i := 56) rfl)) (hw _ (List.mem_of_getElem? (i := 8) rfl)) (by decide) (by decide)) qa6 qc6 (g := (mkF m 28 #[.val (.ref x), .val (.int ((0 : Int32))), .val (.int (Int32.ofNat e0)), .val (.int (Int32.ofNat cs.length)), .val (.int (Int32.ofNat e0))] [(.ref x)])) rfl (by rw [hml]; rfl) (Steps.refl _) (argsL := []) (rest := []) (lenOf pdZ rfl) rfl (by show 2 * 0 + _ ≤ _; exact Nat.le_of_eq rfl) (hb hby dSu_28) (fun _ _ => ⟨rfl, E2, (Nat.le_of_ble_eq_true rfl), (Nat.le_of_ble_eq_true rfl)⟩)
  dsimp only [Pt.U, Pt.locs, Pt.cells, Pt.slots] at X6 l6 y6 z6 st6 hQ6
  subst l6 y6 z6
  obtain ⟨rfl, N6, E6⟩ := hQ6
  refine own_to st6 ?_
  show own_Go p e below F (T6.setTop (mkF m 31 #[.val (.ref x), .val (.int ((0 : Int32))), .val (.int (Int32.ofNat e0)), .val (.int (Int32.ofNat cs.length)), .val (.int (Int32.ofNat e0))] [(.int ((1 : Int32)))]))
  have N7 := Fr.app N3 N6
  refine own_ifeq X6.here hx (hb hby dSu_31) (by decide) (pc' := 47) (by decide) (pc2 := 34) rfl (fun q => absurd q (by decide)) (fun q8 => ?_)
  refine own_aload_n X6.here hx (hb hby dSu_34) rfl rfl (pc' := 35) rfl ?_
  obtain ⟨T9, X9, e9, st9⟩ := getF X6 hx hZ hown (host := "") (Or.inl (hw _ (List.mem_of_getElem? (i := 25) rfl))) Via.refl E6 sV (g := (mkF m 35 #[.val (.ref x), .val (.int ((0 : Int32))), .val (.int (Int32.ofNat e0)), .val (.int (Int32.ofNat cs.length)), .val (.int (Int32.ofNat e0))] [(.ref x)])) rfl rfl (hb hby dSu_35)
  refine own_on st9 ?_
  show own_Go p e below F (T9.setTop (mkF m 38 #[.val (.ref x), .val (.int ((0 : Int32))), .val (.int (Int32.ofNat e0)), .val (.int (Int32.ofNat cs.length)), .val (.int (Int32.ofNat e0))] [(.ref t)]))
  refine own_iload_n X9.here hx (hb hby dSu_38) rfl (pc' := 39) rfl ?_
  refine own_iload X9.here hx (hb hby dSu_39) rfl (pc' := 41) rfl ?_
  obtain ⟨_, _, ⟨T10, L10, k10, n10⟩, -, X10, ⟨Lc10, hQ10, l10, y10, z10⟩, st10⟩ := Jvm.LawKit.callS X9 hx (y := (⟨"java/lang/StringLatin1", "newString", "([BII)Ljava/lang/String;"⟩ : MethodName)) hown (mvT hZ (hw _ (List.mem_of_getElem? (i := 92) rfl))) (mvT hZ (hw _ (List.mem_of_getElem? (i := 93) rfl))) (mvT hZ (hw _ (List.mem_of_getElem? (i := 59) rfl))) (mvT hZ (hw _ (List.mem_of_getElem? (i := 94) rfl))) (by decide) (backOf (W := 0) (rmNB l Z a0 hw t kb cs e0 h0 EZ sA hp hl he h1 hn) hZ (hw _ (List.mem_of_getElem? (i := 94) rfl)) (hw _ (List.mem_of_getElem? (i := 59) rfl)) (by decide) (by decide)) (g := (mkF m 41 #[.val (.ref x), .val (.int ((0 : Int32))), .val (.int (Int32.ofNat e0)), .val (.int (Int32.ofNat cs.length)), .val (.int (Int32.ofNat e0))] [(.int (Int32.ofNat e0)), (.int ((0 : Int32))), (.ref t)])) rfl (by rw [hml]; rfl) (argsL := [(.ref t), (.int ((0 : Int32))), (.int (Int32.ofNat e0))]) (rest := []) (lenOf pdNS rfl) rfl (by show 2 * 0 + _ ≤ _; exact Nat.le_of_eq rfl) (hb hby dSu_41) (fun _ _ => ⟨rfl, e9, (Nat.le_of_ble_eq_true rfl), (Nat.le_of_ble_eq_true rfl)⟩)
  dsimp only [Pt.U, Pt.locs, Pt.cells, Pt.slots] at X10 l10 y10 z10 st10 hQ10
  subst l10 y10 z10
  obtain ⟨y10, rfl, S10, E10, N10⟩ := hQ10
  refine own_on (st10) ?_
  show own_Go p e below F (T10.setTop (mkF m 44 #[.val (.ref x), .val (.int ((0 : Int32))), .val (.int (Int32.ofNat e0)), .val (.int (Int32.ofNat cs.length)), .val (.int (Int32.ofNat e0))] [(.ref y10)]))
  have f11 := own_ext_trans M0 E10
  have f12 := sV.ext E10
  have f13 := sA.ext E10
  have N14 := Fr.app N7 N10
  refine own_goto X10.here hx (hb hby dSu_44) (by decide) (pc' := 57) (by decide) ?_
  exact own_retA X10 hx hlk hret rfl rfl (hb hby dSu_57) (fun t ht hE => hF t _ _ _ _ (by rw [ht, (rfl : _ = T10.heap)]; exact ⟨_, rfl, S10, f11, (by simpa using N14)⟩) hE (by decide) (by decide))
def Q_rmSC (Z : State) (x : Addr) (cs : List Int32) (h0 : Heap) (z0 : Int32) (fm : Value) (v : Option Value) (h : Heap) (L : List Loc) : Prop := ∃ y, v = some (.ref y) ∧ own_Str Z h y [] ∧ Ext h0 h ∧ Fr Z.heap.size L
set_option maxRecDepth 65536 in
set_option maxHeartbeats 40000000 in
theorem rmSC (l : Launch) (Z : State) (a0 : Array Value) (hw : ∀ d ∈ tables_1, d.before a0 Z = true) (hEL : EW Z a0 EL) (x : Addr) (cs : List Int32) (h0 : Heap) (EZ : Ext Z.heap h0) (z0 : Int32) (O1 : Sta Z Z.heap "java/lang/String" "COMPACT_STRINGS" "Z" (.int z0)) (P5 : ¬ z0 = 0) (fm : Value) (O2 : Sta Z Z.heap "jdk/internal/util/Preconditions" "SIOOBE_FORMATTER" "Ljava/util/function/BiFunction;" fm) (rf : fm.isRef = true) (S : own_Str Z h0 x cs) (hn : 0 < cs.length) :
    MetFree l (⟨"java/lang/String", "substring", "(II)Ljava/lang/String;"⟩ : MethodName) (head1 (Jvm.Cond.code (⟨"java/lang/String", "substring", "(II)Ljava/lang/String;"⟩ : MethodName) jdk_42_method_92_code 5 (Option.some (FieldType.object "java/lang/String")) :: []) ({ frames := 2, cells := 2, slots := 4, locals := 36 } : Room)) (fun aa U => aa = #[(.ref x), (.int (0 : Int32)), (.int (0 : Int32))] ∧ Z.Warmed39 U.vm ∧ U.heap = h0 ∧ CHv Z EL U.vm h0 ∧ ∀ yy ∈ ([] : List Addr), Safe Z EL U.vm h0 yy) (fun _ _ _ _ _ => True) (fun _ U o U' => ∃ v L, o = .returned v ∧ (Q_rmSC Z x cs h0 z0 fm) v U'.heap L ∧ CHr Z EL U.vm U.heap U'.vm U'.heap ∧ ReturnedEndW U o U' L ({ frames := 2, cells := 2, slots := 4, locals := 36 } : Room).cells ({ frames := 2, cells := 2, slots := 4, locals := 36 } : Room).slots) := by
  have S1 := S
  obtain ⟨t, kb, sE, sV, sC, sA, hp, hl⟩ := S
  refine own_walkW (by exact pnS) ?_
  intro p e s m below meth c T0 X0 hx hby hml hret hlk hnm hs0 e00 I0 hsf F hF
  refine own_on (fun _ => castTop (efSu m x 0 _)) ?_
  have M0 := own_ext_refl h0
  have N0 := Fr.nil Z.heap.size
  refine own_aload_n X0.here hx (hb hby dSu_0) rfl rfl (pc' := 1) rfl ?_
  obtain ⟨cq1, kq1, qa1, qb1, qc1⟩ := isOf I0.1 e00 S1.exa
  obtain ⟨_, _, ⟨T1, L1, k1, n1⟩, -, X1, ⟨Lc1, hQ1, l1, y1, z1⟩, st1⟩ := X0.virtualBack hx (y := (⟨"java/lang/String", "length", "()I"⟩ : MethodName)) (z := (⟨"java/lang/String", "length", "()I"⟩ : MethodName)) I0.2.1 (mvT I0.1 (hw _ (List.mem_of_getElem? (i := 36) rfl))) (mvT I0.1 (hw _ (List.mem_of_getElem? (i := 37) rfl))) (notFace_of_selects (args := #[]) (mvT I0.1 (hw _ (List.mem_of_getElem? (i := 39) rfl)))) (mvT I0.1 (hw _ (List.mem_of_getElem? (i := 39) rfl))) (mvT I0.1 (hw _ (List.mem_of_getElem? (i := 38) rfl))) (by decide) (own_lenB (s := s.setVm s.vm) (W := 0) I0.1 hw S1 (O1.ext EZ) P5 (by decide) (by decide)) qa1 qc1 (g := (mkF m 1 #[.val (.ref x), .val (.int ((0 : Int32))), .val (.int ((0 : Int32))), .unset, .unset] [(.ref x)])) rfl (by rw [hml]; rfl) (Steps.refl _) (argsL := []) (rest := []) (lenOf pdI rfl) rfl (by show 2 * 0 + _ ≤ _; exact Nat.le_of_eq rfl) (hb hby dSu_1) (fun _ _ => ⟨rfl, e00, (Nat.le_of_ble_eq_true rfl), (Nat.le_of_ble_eq_true rfl)⟩)
  dsimp only [Pt.U, Pt.locs, Pt.cells, Pt.slots] at X1 l1 y1 z1 st1 hQ1
  subst l1 y1 z1
  obtain ⟨rfl, rfl, E1⟩ := hQ1
  refine own_to st1 ?_
  show own_Go p e below F (T1.setTop (mkF m 4 #[.val (.ref x), .val (.int ((0 : Int32))), .val (.int ((0 : Int32))), .unset, .unset] [(.int (Int32.ofNat cs.length))]))
  refine own_istore_n X1.here hx (hb hby dSu_4) (L' := #[.val (.ref x), .val (.int ((0 : Int32))), .val (.int ((0 : Int32))), .val (.int (Int32.ofNat cs.length)), .unset]) rfl (pc' := 5) rfl ?_
  refine own_iload_n X1.here hx (hb hby dSu_5) rfl (pc' := 6) rfl ?_
  refine own_iload_n X1.here hx (hb hby dSu_6) rfl (pc' := 7) rfl ?_
  refine own_iload_n X1.here hx (hb hby dSu_7) rfl (pc' := 8) rfl ?_
  obtain ⟨_, _, ⟨T2, L2, k2, n2⟩, -, X2, ⟨Lc2, hQ2, l2, y2, z2⟩, st2⟩ := Jvm.LawKit.callS X1 hx (y := (⟨"java/lang/String", "checkBoundsBeginEnd", "(III)V"⟩ : MethodName)) I0.2.1 (mvT I0.1 (hw _ (List.mem_of_getElem? (i := 73) rfl))) (mvT I0.1 (hw _ (List.mem_of_getElem? (i := 74) rfl))) (mvT I0.1 (hw _ (List.mem_of_getElem? (i := 8) rfl))) (mvT I0.1 (hw _ (List.mem_of_getElem? (i := 75) rfl))) (by decide) (backOf (W := 0) (rmCB l Z a0 hw (0 : Int32) (Int32.ofNat cs.length) h0 EZ fm O2 rf (by first | decide | exact own_nn (by omega)) (by first | exact own_nltN (by omega) (by omega) | exact own_nltN (j := 0) (by omega) (by omega))) I0.1 (hw _ (List.mem_of_getElem? (i := 75) rfl)) (hw _ (List.mem_of_getElem? (i := 8) rfl)) (by decide) (by decide)) (g := (mkF m 8 #[.val (.ref x), .val (.int ((0 : Int32))), .val (.int ((0 : Int32))), .val (.int (Int32.ofNat cs.length)), .unset] [(.int (Int32.ofNat cs.length)), (.int ((0 : Int32))), (.int ((0 : Int32)))])) rfl (by rw [hml]; rfl) (argsL := [(.int ((0 : Int32))), (.int ((0 : Int32))), (.int (Int32.ofNat cs.length))]) (rest := []) (lenOf pdCB rfl) rfl (by show 2 * 0 + _ ≤ _; exact Nat.le_of_eq rfl) (hb hby dSu_8) (fun _ _ => ⟨rfl, E1, (Nat.le_of_ble_eq_true rfl), (Nat.le_of_ble_eq_true rfl)⟩)
  dsimp only [Pt.U, Pt.locs, Pt.cells, Pt.slots] at X2 l2 y2 z2 st2 hQ2
  subst l2 y2 z2
  obtain ⟨rfl, N2, E2⟩ := hQ2
  refine own_on (st2) ?_
  show own_Go p e below F (T2.setTop (mkF m 11 #[.val (.ref x), .val (.int ((0 : Int32))), .val (.int ((0 : Int32))), .val (.int (Int32.ofNat cs.length)), .unset] []))
  have N3 := Fr.app N0 N2
  refine own_iload_n X2.here hx (hb hby dSu_11) rfl (pc' := 12) rfl ?_
  refine own_ifne X2.here hx (hb hby dSu_12) (by decide) (pc' := 22) (by decide) (pc2 := 15) rfl (fun q => absurd rfl q) (fun q4 => ?_)
  refine own_iload_n X2.here hx (hb hby dSu_15) rfl (pc' := 16) rfl ?_
  refine own_iload_n X2.here hx (hb hby dSu_16) rfl (pc' := 17) rfl ?_
  refine own_icmpne X2.here hx (hb hby dSu_17) (by decide) (pc' := 22) (by decide) (pc2 := 20) rfl (fun q5 => ?_) (fun q => absurd (own_inj (j := 0) (by omega) (by omega) q) (by omega))
  refine own_iload_n X2.here hx (hb hby dSu_22) rfl (pc' := 23) rfl ?_
  refine own_iload_n X2.here hx (hb hby dSu_23) rfl (pc' := 24) rfl ?_
  refine own_isub X2.here hx (hb hby dSu_24) (pc' := 25) rfl ?_
  rw [Int32.sub_zero]
  show own_Go p e below F (T2.setTop (mkF m 25 #[.val (.ref x), .val (.int ((0 : Int32))), .val (.int ((0 : Int32))), .val (.int (Int32.ofNat cs.length)), .unset] [(.int ((0 : Int32)))]))
  refine own_istore X2.here hx (hb hby dSu_25) (L' := #[.val (.ref x), .val (.int ((0 : Int32))), .val (.int ((0 : Int32))), .val (.int (Int32.ofNat cs.length)), .val (.int ((0 : Int32)))]) rfl (pc' := 27) rfl ?_
  refine own_aload_n X2.here hx (hb hby dSu_27) rfl rfl (pc' := 28) rfl ?_
  obtain ⟨cq6, kq6, qa6, qb6, qc6⟩ := isOf I0.1 E2 sE
  obtain ⟨_, _, ⟨T6, L6, k6, n6⟩, -, X6, ⟨Lc6, hQ6, l6, y6, z6⟩, st6⟩ := X2.virtualBack hx (y := (⟨"java/lang/String", "isLatin1", "()Z"⟩ : MethodName)) (z := (⟨"java/lang/String", "isLatin1", "()Z"⟩ : MethodName)) I0.2.1 (mvT I0.1 (hw _ (List.mem_of_getElem? (i := 52) rfl))) (mvT I0.1 (hw _ (List.mem_of_getElem? (i := 53) rfl))) (notFace_of_selects (args := #[]) (mvT I0.1 (hw _ (List.mem_of_getElem? (i := 55) rfl)))) (mvT I0.1 (hw _ (List.mem_of_getElem? (i := 55) rfl))) (mvT I0.1 (hw _ (List.mem_of_getElem? (i := 54) rfl))) (by decide) (backOf (W := 0) (rmIL l Z a0 hw x cs h0 EZ z0 O1 P5 S1) I0.1 (hw _ (List.mem_of_getElem? (i := 56) rfl)) (hw _ (List.mem_of_getElem? (i := 8) rfl)) (by decide) (by decide)) qa6 qc6 (g := (mkF m 28 #[.val (.ref x), .val (.int ((0 : Int32))), .val (.int ((0 : Int32))), .val (.int (Int32.ofNat cs.length)), .val (.int ((0 : Int32)))] [(.ref x)])) rfl (by rw [hml]; rfl) (Steps.refl _) (argsL := []) (rest := []) (lenOf pdZ rfl) rfl (by show 2 * 0 + _ ≤ _; exact Nat.le_of_eq rfl) (hb hby dSu_28) (fun _ _ => ⟨rfl, E2, (Nat.le_of_ble_eq_true rfl), (Nat.le_of_ble_eq_true rfl)⟩)
  dsimp only [Pt.U, Pt.locs, Pt.cells, Pt.slots] at X6 l6 y6 z6 st6 hQ6
  subst l6 y6 z6
  obtain ⟨rfl, N6, E6⟩ := hQ6
  refine own_to st6 ?_
  show own_Go p e below F (T6.setTop (mkF m 31 #[.val (.ref x), .val (.int ((0 : Int32))), .val (.int ((0 : Int32))), .val (.int (Int32.ofNat cs.length)), .val (.int ((0 : Int32)))] [(.int ((1 : Int32)))]))
  have N7 := Fr.app N3 N6
  refine own_ifeq X6.here hx (hb hby dSu_31) (by decide) (pc' := 47) (by decide) (pc2 := 34) rfl (fun q => absurd q (by decide)) (fun q8 => ?_)
  refine own_aload_n X6.here hx (hb hby dSu_34) rfl rfl (pc' := 35) rfl ?_
  obtain ⟨T9, X9, e9, st9⟩ := getF X6 hx I0.1 I0.2.1 (host := "") (Or.inl (hw _ (List.mem_of_getElem? (i := 25) rfl))) Via.refl E6 sV (g := (mkF m 35 #[.val (.ref x), .val (.int ((0 : Int32))), .val (.int ((0 : Int32))), .val (.int (Int32.ofNat cs.length)), .val (.int ((0 : Int32)))] [(.ref x)])) rfl rfl (hb hby dSu_35)
  refine own_on st9 ?_
  show own_Go p e below F (T9.setTop (mkF m 38 #[.val (.ref x), .val (.int ((0 : Int32))), .val (.int ((0 : Int32))), .val (.int (Int32.ofNat cs.length)), .val (.int ((0 : Int32)))] [(.ref t)]))
  refine own_iload_n X9.here hx (hb hby dSu_38) rfl (pc' := 39) rfl ?_
  refine own_iload X9.here hx (hb hby dSu_39) rfl (pc' := 41) rfl ?_
  obtain ⟨_, _, ⟨T10, L10, k10, n10⟩, -, X10, hS10, hG10, ⟨Lc10, hQ10, l10, y10, z10, C10⟩, st10⟩ := callSS X9 hx (y := (⟨"java/lang/StringLatin1", "newString", "([BII)Ljava/lang/String;"⟩ : MethodName)) I0.2.1 (mvT I0.1 (hw _ (List.mem_of_getElem? (i := 92) rfl))) (mvT I0.1 (hw _ (List.mem_of_getElem? (i := 93) rfl))) (mvT I0.1 (hw _ (List.mem_of_getElem? (i := 59) rfl))) (mvT I0.1 (hw _ (List.mem_of_getElem? (i := 94) rfl))) (by decide) (own_backW (W := 0) (rmNC l Z a0 hw hEL t h0) I0.1 (hw _ (List.mem_of_getElem? (i := 94) rfl)) (hw _ (List.mem_of_getElem? (i := 59) rfl)) (by decide) (by decide) hEL I0.ch (fun _ q => nomatch q)) (g := (mkF m 41 #[.val (.ref x), .val (.int ((0 : Int32))), .val (.int ((0 : Int32))), .val (.int (Int32.ofNat cs.length)), .val (.int ((0 : Int32)))] [(.int ((0 : Int32))), (.int ((0 : Int32))), (.ref t)])) rfl (by rw [hml]; rfl) (argsL := [(.ref t), (.int ((0 : Int32))), (.int ((0 : Int32)))]) (rest := []) (lenOf pdNS rfl) rfl (by show 2 * 0 + _ ≤ _; exact Nat.le_of_eq rfl) (hb hby dSu_41) (fun _ _ => ⟨rfl, e9, (Nat.le_of_ble_eq_true rfl), (Nat.le_of_ble_eq_true rfl)⟩)
  dsimp only [Pt.U, Pt.locs, Pt.cells, Pt.slots] at X10 hS10 hG10 l10 y10 z10 C10 st10 hQ10
  subst l10 y10 z10
  replace X10 := (show Stand _ _ _ _ (s.setVm T10.vm) _ _ _ _ _ _ _ _ _ from X10)
  have I10 := I0.later hS10 (Nat.le_refl _) (by have q := hG10; rw [(e9 : _ = h0)] at q; exact q) C10
  obtain ⟨y10, rfl, S10, E10, N10⟩ := hQ10
  refine own_to st10 ?_
  show own_Go p e below F (T10.setTop (mkF m 44 #[.val (.ref x), .val (.int ((0 : Int32))), .val (.int ((0 : Int32))), .val (.int (Int32.ofNat cs.length)), .val (.int ((0 : Int32)))] [(.ref y10)]))
  have f11 := own_ext_trans M0 E10
  have f12 := sV.ext E10
  have f13 := sA.ext E10
  have N14 := Fr.app N7 N10
  refine own_goto X10.here hx (hb hby dSu_44) (by decide) (pc' := 57) (by decide) ?_
  exact own_retAW X10 hx hlk hEL I10 rfl hret rfl rfl (hb hby dSu_57) (fun t ht hC hE => hF t _ _ _ _ (by rw [ht]; exact ⟨_, rfl, S10, f11, (by simpa using N14)⟩) hC hE (by decide) (by decide))
theorem dRU_0 : decode prog_2_method_4_code 0 = .ok (.aload_n 0, 1) := by decide +kernel
theorem dRU_1 : decode prog_2_method_4_code 1 = .ok (.iconst 0, 1) := by decide +kernel
theorem dRU_2 : decode prog_2_method_4_code 2 = .ok (.aload_n 0, 1) := by decide +kernel
theorem dRU_3 : decode prog_2_method_4_code 3 = .ok (.bipush 47, 2) := by decide +kernel
theorem dRU_5 : decode prog_2_method_4_code 5 = .ok (.invokevirtual 34, 3) := by decide +kernel
theorem dRU_8 : decode prog_2_method_4_code 8 = .ok (.iconst 1, 1) := by decide +kernel
theorem dRU_9 : decode prog_2_method_4_code 9 = .ok (.iadd, 1) := by decide +kernel
theorem dRU_10 : decode prog_2_method_4_code 10 = .ok (.invokevirtual 38, 3) := by decide +kernel
theorem dRU_13 : decode prog_2_method_4_code 13 = .ok (.areturn, 1) := by decide +kernel
def Q_rmRA (Z : State) (x : Addr) (cs : List Int32) (h0 : Heap) (z0 : Int32) (fm : Value) (v : Option Value) (h : Heap) (L : List Loc) : Prop := v = some (.ref x) ∧ Fr Z.heap.size L ∧ h = h0
set_option maxRecDepth 65536 in
set_option maxHeartbeats 40000000 in
theorem rmRA (l : Launch) (Z : State) (a0 : Array Value) (hw : ∀ d ∈ tables_1, d.before a0 Z = true) (x : Addr) (cs : List Int32) (h0 : Heap) (EZ : Ext Z.heap h0) (z0 : Int32) (O1 : Sta Z Z.heap "java/lang/String" "COMPACT_STRINGS" "Z" (.int z0)) (P5 : ¬ z0 = 0) (fm : Value) (O2 : Sta Z Z.heap "jdk/internal/util/Preconditions" "SIOOBE_FORMATTER" "Ljava/util/function/BiFunction;" fm) (rf : fm.isRef = true) (S : own_Str Z h0 x cs) (hr : own_li cs cs.length + (1 : Int32) = Int32.ofNat cs.length) :
    MetFree l (⟨"com/example/cartulary/cartulary/RegisterUris", "registerBase", "(Ljava/lang/String;)Ljava/lang/String;"⟩ : MethodName) (head1 (Jvm.Cond.code (⟨"com/example/cartulary/cartulary/RegisterUris", "registerBase", "(Ljava/lang/String;)Ljava/lang/String;"⟩ : MethodName) prog_2_method_4_code 1 (Option.some (FieldType.object "java/lang/String")) :: []) ({ frames := 4, cells := 0, slots := 0, locals := 62 } : Room)) (fun aa U => aa = #[(.ref x)] ∧ Z.Warmed39 U.vm ∧ U.heap = h0) (fun _ _ _ _ _ => True) (fun _ U o U' => ∃ v L, o = .returned v ∧ (Q_rmRA Z x cs h0 z0 fm) v U'.heap L ∧ FrameEnd U o U' L ({ frames := 4, cells := 0, slots := 0, locals := 62 } : Room).cells ({ frames := 4, cells := 0, slots := 0, locals := 62 } : Room).slots) := by
  refine own_walkN (by exact pnRU) ?_
  intro p e s m below meth c T0 X0 hx hby hml hret hlk hnm hown hZ e00 es0 F hF
  refine own_on (fun _ => castTop (efR m x)) ?_
  have M0 := own_ext_refl h0
  have N0 := Fr.nil Z.heap.size
  refine own_aload_n X0.here hx (hb hby dRU_0) rfl rfl (pc' := 1) rfl ?_
  refine own_iconst X0.here hx (hb hby dRU_1) (v := 0) rfl (pc' := 2) rfl ?_
  refine own_aload_n X0.here hx (hb hby dRU_2) rfl rfl (pc' := 3) rfl ?_
  refine own_bipush X0.here hx (hb hby dRU_3) (v := 47) rfl (pc' := 5) rfl ?_
  obtain ⟨cq1, kq1, qa1, qb1, qc1⟩ := isOf hZ e00 S.exa
  obtain ⟨_, _, ⟨T1, L1, k1, n1⟩, -, X1, ⟨Lc1, hQ1, l1, y1, z1⟩, st1⟩ := X0.virtualBack hx (y := (⟨"java/lang/String", "lastIndexOf", "(I)I"⟩ : MethodName)) (z := (⟨"java/lang/String", "lastIndexOf", "(I)I"⟩ : MethodName)) hown (mvT hZ (hw _ (List.mem_of_getElem? (i := 31) rfl))) (mvT hZ (hw _ (List.mem_of_getElem? (i := 32) rfl))) (notFace_of_selects (args := #[]) (mvT hZ (hw _ (List.mem_of_getElem? (i := 34) rfl)))) (mvT hZ (hw _ (List.mem_of_getElem? (i := 34) rfl))) (mvT hZ (hw _ (List.mem_of_getElem? (i := 33) rfl))) (by decide) (backOf (W := 2) (rmL1 l Z a0 hw x cs h0 EZ z0 O1 P5 S) hZ (hw _ (List.mem_of_getElem? (i := 35) rfl)) (hw _ (List.mem_of_getElem? (i := 8) rfl)) (by decide) (by decide)) qa1 qc1 (g := (mkF m 5 #[.val (.ref x)] [(.int ((47 : Int32))), (.ref x), (.int ((0 : Int32))), (.ref x)])) rfl (by rw [hml]; rfl) (Steps.refl _) (argsL := [(.int ((47 : Int32)))]) (rest := [(.int ((0 : Int32))), (.ref x)]) (lenOf pdL1 rfl) rfl (by show 2 * 0 + _ ≤ _; exact Nat.le_of_eq rfl) (hb hby dRU_5) (fun _ _ => ⟨rfl, e00, (Nat.le_of_ble_eq_true rfl), (Nat.le_of_ble_eq_true rfl)⟩)
  dsimp only [Pt.U, Pt.locs, Pt.cells, Pt.slots] at X1 l1 y1 z1 st1 hQ1
  subst l1 y1 z1
  obtain ⟨rfl, N1, E1⟩ := hQ1
  refine own_to st1 ?_
  show own_Go p e below F (T1.setTop (mkF m 8 #[.val (.ref x)] [(.int (own_li cs cs.length)), (.int ((0 : Int32))), (.ref x)]))
  have N2 := Fr.app N0 N1
  refine own_iconst X1.here hx (hb hby dRU_8) (v := 1) rfl (pc' := 9) rfl ?_
  refine own_iadd X1.here hx (hb hby dRU_9) (pc' := 10) rfl ?_
  rw [hr]
  show own_Go p e below F (T1.setTop (mkF m 10 #[.val (.ref x)] [(.int (Int32.ofNat cs.length)), (.int ((0 : Int32))), (.ref x)]))
  obtain ⟨cq3, kq3, qa3, qb3, qc3⟩ := isOf hZ E1 S.exa
  obtain ⟨_, _, ⟨T3, L3, k3, n3⟩, -, X3, ⟨Lc3, hQ3, l3, y3, z3⟩, st3⟩ := X1.virtualBack hx (y := (⟨"java/lang/String", "substring", "(II)Ljava/lang/String;"⟩ : MethodName)) (z := (⟨"java/lang/String", "substring", "(II)Ljava/lang/String;"⟩ : MethodName)) hown (mvT hZ (hw _ (List.mem_of_getElem? (i := 68) rfl))) (mvT hZ (hw _ (List.mem_of_getElem? (i := 69) rfl))) (notFace_of_selects (args := #[]) (mvT hZ (hw _ (List.mem_of_getElem? (i := 71) rfl)))) (mvT hZ (hw _ (List.mem_of_getElem? (i := 71) rfl))) (mvT hZ (hw _ (List.mem_of_getElem? (i := 70) rfl))) (by decide) (backOf (W := 0) (rmSA l Z a0 hw x cs h0 EZ z0 O1 P5 fm O2 rf S) hZ (hw _ (List.mem_of_getElem? (i := 72) rfl)) (hw _ (List.mem_of_getElem? (i := 8) rfl)) (by decide) (by decide)) qa3 qc3 (g := (mkF m 10 #[.val (.ref x)] [(.int (Int32.ofNat cs.length)), (.int ((0 : Int32))), (.ref x)])) rfl (by rw [hml]; rfl) (Steps.refl _) (argsL := [(.int ((0 : Int32))), (.int (Int32.ofNat cs.length))]) (rest := []) (lenOf pdSu rfl) rfl (by show 2 * 0 + _ ≤ _; exact Nat.le_of_eq rfl) (hb hby dRU_10) (fun _ _ => ⟨rfl, E1, (Nat.le_of_ble_eq_true rfl), (Nat.le_of_ble_eq_true rfl)⟩)
  dsimp only [Pt.U, Pt.locs, Pt.cells, Pt.slots] at X3 l3 y3 z3 st3 hQ3
  subst l3 y3 z3
  obtain ⟨rfl, N3, E3⟩ := hQ3
  refine own_to st3 ?_
  show own_Go p e below F (T3.setTop (mkF m 13 #[.val (.ref x)] [(.ref x)]))
  have N4 := Fr.app N2 N3
  exact own_retA X3 hx hlk hret rfl rfl (hb hby dRU_13) (fun t ht hE => hF t _ _ _ _ (by rw [ht, (E3 : _ = h0)]; exact ⟨rfl, N4, rfl⟩) hE (by decide) (by decide))
def Q_rmRB2 (Z : State) (x : Addr) (cs : List Int32) (e0 : Nat) (h0 : Heap) (z0 : Int32) (fm : Value) (v : Option Value) (h : Heap) (L : List Loc) : Prop := ∃ y, v = some (.ref y) ∧ own_Str Z h y (cs.take e0) ∧ Ext h0 h ∧ Fr Z.heap.size L
set_option maxRecDepth 65536 in
set_option maxHeartbeats 40000000 in
theorem rmRB2 (l : Launch) (Z : State) (a0 : Array Value) (hw : ∀ d ∈ tables_1, d.before a0 Z = true) (x : Addr) (cs : List Int32) (e0 : Nat) (h0 : Heap) (EZ : Ext Z.heap h0) (z0 : Int32) (O1 : Sta Z Z.heap "java/lang/String" "COMPACT_STRINGS" "Z" (.int z0)) (P5 : ¬ z0 = 0) (fm : Value) (O2 : Sta Z Z.heap "jdk/internal/util/Preconditions" "SIOOBE_FORMATTER" "Ljava/util/function/BiFunction;" fm) (rf : fm.isRef = true) (S : own_Str Z h0 x cs) (he : e0 ≤ 4) (h1 : 0 < e0) (hn : e0 < cs.length) (hr : own_li cs cs.length + (1 : Int32) = Int32.ofNat e0) :
    MetFree l (⟨"com/example/cartulary/cartulary/RegisterUris", "registerBase", "(Ljava/lang/String;)Ljava/lang/String;"⟩ : MethodName) (head1 (Jvm.Cond.code (⟨"com/example/cartulary/cartulary/RegisterUris", "registerBase", "(Ljava/lang/String;)Ljava/lang/String;"⟩ : MethodName) prog_2_method_4_code 1 (Option.some (FieldType.object "java/lang/String")) :: []) ({ frames := 5, cells := 2, slots := 8, locals := 122 } : Room)) (fun aa U => aa = #[(.ref x)] ∧ Z.Warmed39 U.vm ∧ U.heap = h0) (fun _ _ _ _ _ => True) (fun _ U o U' => ∃ v L, o = .returned v ∧ (Q_rmRB2 Z x cs e0 h0 z0 fm) v U'.heap L ∧ FrameEnd U o U' L ({ frames := 5, cells := 2, slots := 8, locals := 122 } : Room).cells ({ frames := 5, cells := 2, slots := 8, locals := 122 } : Room).slots) := by
  refine own_walkN (by exact pnRU) ?_
  intro p e s m below meth c T0 X0 hx hby hml hret hlk hnm hown hZ e00 es0 F hF
  refine own_on (fun _ => castTop (efR m x)) ?_
  have M0 := own_ext_refl h0
  have N0 := Fr.nil Z.heap.size
  refine own_aload_n X0.here hx (hb hby dRU_0) rfl rfl (pc' := 1) rfl ?_
  refine own_iconst X0.here hx (hb hby dRU_1) (v := 0) rfl (pc' := 2) rfl ?_
  refine own_aload_n X0.here hx (hb hby dRU_2) rfl rfl (pc' := 3) rfl ?_
  refine own_bipush X0.here hx (hb hby dRU_3) (v := 47) rfl (pc' := 5) rfl ?_
  obtain ⟨cq1, kq1, qa1, qb1, qc1⟩ := isOf hZ e00 S.exa
  obtain ⟨_, _, ⟨T1, L1, k1, n1⟩, -, X1, ⟨Lc1, hQ1, l1, y1, z1⟩, st1⟩ := X0.virtualBack hx (y := (⟨"java/lang/String", "lastIndexOf", "(I)I"⟩ : MethodName)) (z := (⟨"java/lang/String", "lastIndexOf", "(I)I"⟩ : MethodName)) hown (mvT hZ (hw _ (List.mem_of_getElem? (i := 31) rfl))) (mvT hZ (hw _ (List.mem_of_getElem? (i := 32) rfl))) (notFace_of_selects (args := #[]) (mvT hZ (hw _ (List.mem_of_getElem? (i := 34) rfl)))) (mvT hZ (hw _ (List.mem_of_getElem? (i := 34) rfl))) (mvT hZ (hw _ (List.mem_of_getElem? (i := 33) rfl))) (by decide) (backOf (W := 2) (rmL1 l Z a0 hw x cs h0 EZ z0 O1 P5 S) hZ (hw _ (List.mem_of_getElem? (i := 35) rfl)) (hw _ (List.mem_of_getElem? (i := 8) rfl)) (by decide) (by decide)) qa1 qc1 (g := (mkF m 5 #[.val (.ref x)] [(.int ((47 : Int32))), (.ref x), (.int ((0 : Int32))), (.ref x)])) rfl (by rw [hml]; rfl) (Steps.refl _) (argsL := [(.int ((47 : Int32)))]) (rest := [(.int ((0 : Int32))), (.ref x)]) (lenOf pdL1 rfl) rfl (by show 2 * 0 + _ ≤ _; exact Nat.le_of_eq rfl) (hb hby dRU_5) (fun _ _ => ⟨rfl, e00, (Nat.le_of_ble_eq_true rfl), (Nat.le_of_ble_eq_true rfl)⟩)
  dsimp only [Pt.U, Pt.locs, Pt.cells, Pt.slots] at X1 l1 y1 z1 st1 hQ1
  subst l1 y1 z1
  obtain ⟨rfl, N1, E1⟩ := hQ1
  refine own_to st1 ?_
  show own_Go p e below F (T1.setTop (mkF m 8 #[.val (.ref x)] [(.int (own_li cs cs.length)), (.int ((0 : Int32))), (.ref x)]))
  have N2 := Fr.app N0 N1
  refine own_iconst X1.here hx (hb hby dRU_8) (v := 1) rfl (pc' := 9) rfl ?_
  refine own_iadd X1.here hx (hb hby dRU_9) (pc' := 10) rfl ?_
  rw [hr]
  show own_Go p e below F (T1.setTop (mkF m 10 #[.val (.ref x)] [(.int (Int32.ofNat e0)), (.int ((0 : Int32))), (.ref x)]))
  obtain ⟨cq3, kq3, qa3, qb3, qc3⟩ := isOf hZ E1 S.exa
  obtain ⟨_, _, ⟨T3, L3, k3, n3⟩, -, X3, ⟨Lc3, hQ3, l3, y3, z3⟩, st3⟩ := X1.virtualBack hx (y := (⟨"java/lang/String", "substring", "(II)Ljava/lang/String;"⟩ : MethodName)) (z := (⟨"java/lang/String", "substring", "(II)Ljava/lang/String;"⟩ : MethodName)) hown (mvT hZ (hw _ (List.mem_of_getElem? (i := 68) rfl))) (mvT hZ (hw _ (List.mem_of_getElem? (i := 69) rfl))) (notFace_of_selects (args := #[]) (mvT hZ (hw _ (List.mem_of_getElem? (i := 71) rfl)))) (mvT hZ (hw _ (List.mem_of_getElem? (i := 71) rfl))) (mvT hZ (hw _ (List.mem_of_getElem? (i := 70) rfl))) (by decide) (backOf (W := 0) (rmSB l Z a0 hw x cs e0 h0 EZ z0 O1 P5 fm O2 rf S he h1 hn) hZ (hw _ (List.mem_of_getElem? (i := 72) rfl)) (hw _ (List.mem_of_getElem? (i := 8) rfl)) (by decide) (by decide)) qa3 qc3 (g := (mkF m 10 #[.val (.ref x)] [(.int (Int32.ofNat e0)), (.int ((0 : Int32))), (.ref x)])) rfl (by rw [hml]; rfl) (Steps.refl _) (argsL := [(.int ((0 : Int32))), (.int (Int32.ofNat e0))]) (rest := []) (lenOf pdSu rfl) rfl (by show 2 * 0 + _ ≤ _; exact Nat.le_of_eq rfl) (hb hby dRU_10) (fun _ _ => ⟨rfl, E1, (Nat.le_of_ble_eq_true rfl), (Nat.le_of_ble_eq_true rfl)⟩)
  dsimp only [Pt.U, Pt.locs, Pt.cells, Pt.slots] at X3 l3 y3 z3 st3 hQ3
  subst l3 y3 z3
  obtain ⟨y3, rfl, S3, E3, N3⟩ := hQ3
  refine own_to st3 ?_
  show own_Go p e below F (T3.setTop (mkF m 13 #[.val (.ref x)] [(.ref y3)]))
  have f4 := own_ext_trans M0 E3
  have N5 := Fr.app N2 N3
  exact own_retA X3 hx hlk hret rfl rfl (hb hby dRU_13) (fun t ht hE => hF t _ _ _ _ (by rw [ht, (rfl : _ = T3.heap)]; exact ⟨_, rfl, S3, f4, N5⟩) hE (by decide) (by decide))
def Q_rmRC (Z : State) (x : Addr) (cs : List Int32) (h0 : Heap) (z0 : Int32) (fm : Value) (v : Option Value) (h : Heap) (L : List Loc) : Prop := ∃ y, v = some (.ref y) ∧ own_Str Z h y [] ∧ Ext h0 h ∧ Fr Z.heap.size L
set_option maxRecDepth 65536 in
set_option maxHeartbeats 40000000 in
theorem rmRC (l : Launch) (Z : State) (a0 : Array Value) (hw : ∀ d ∈ tables_1, d.before a0 Z = true) (hEL : EW Z a0 EL) (x : Addr) (cs : List Int32) (h0 : Heap) (EZ : Ext Z.heap h0) (z0 : Int32) (O1 : Sta Z Z.heap "java/lang/String" "COMPACT_STRINGS" "Z" (.int z0)) (P5 : ¬ z0 = 0) (fm : Value) (O2 : Sta Z Z.heap "jdk/internal/util/Preconditions" "SIOOBE_FORMATTER" "Ljava/util/function/BiFunction;" fm) (rf : fm.isRef = true) (S : own_Str Z h0 x cs) (hn : 0 < cs.length) (hr : own_li cs cs.length + (1 : Int32) = (0 : Int32)) :
    MetFree l (⟨"com/example/cartulary/cartulary/RegisterUris", "registerBase", "(Ljava/lang/String;)Ljava/lang/String;"⟩ : MethodName) (head1 (Jvm.Cond.code (⟨"com/example/cartulary/cartulary/RegisterUris", "registerBase", "(Ljava/lang/String;)Ljava/lang/String;"⟩ : MethodName) prog_2_method_4_code 1 (Option.some (FieldType.object "java/lang/String")) :: []) ({ frames := 4, cells := 2, slots := 4, locals := 62 } : Room)) (fun aa U => aa = #[(.ref x)] ∧ Z.Warmed39 U.vm ∧ U.heap = h0 ∧ CHv Z EL U.vm h0 ∧ ∀ yy ∈ ([] : List Addr), Safe Z EL U.vm h0 yy) (fun _ _ _ _ _ => True) (fun _ U o U' => ∃ v L, o = .returned v ∧ (Q_rmRC Z x cs h0 z0 fm) v U'.heap L ∧ CHr Z EL U.vm U.heap U'.vm U'.heap ∧ ReturnedEndW U o U' L ({ frames := 4, cells := 2, slots := 4, locals := 62 } : Room).cells ({ frames := 4, cells := 2, slots := 4, locals := 62 } : Room).slots) := by
  refine own_walkW (by exact pnRU) ?_
  intro p e s m below meth c T0 X0 hx hby hml hret hlk hnm hs0 e00 I0 hsf F hF
  refine own_on (fun _ => castTop (efR m x)) ?_
  have M0 := own_ext_refl h0
  have N0 := Fr.nil Z.heap.size
  refine own_aload_n X0.here hx (hb hby dRU_0) rfl rfl (pc' := 1) rfl ?_
  refine own_iconst X0.here hx (hb hby dRU_1) (v := 0) rfl (pc' := 2) rfl ?_
  refine own_aload_n X0.here hx (hb hby dRU_2) rfl rfl (pc' := 3) rfl ?_
  refine own_bipush X0.here hx (hb hby dRU_3) (v := 47) rfl (pc' := 5) rfl ?_
  obtain ⟨cq1, kq1, qa1, qb1, qc1⟩ := isOf I0.1 e00 S.exa
  obtain ⟨_, _, ⟨T1, L1, k1, n1⟩, -, X1, ⟨Lc1, hQ1, l1, y1, z1⟩, st1⟩ := X0.virtualBack hx (y := (⟨"java/lang/String", "lastIndexOf", "(I)I"⟩ : MethodName)) (z := (⟨"java/lang/String", "lastIndexOf", "(I)I"⟩ : MethodName)) I0.2.1 (mvT I0.1 (hw _ (List.mem_of_getElem? (i := 31) rfl))) (mvT I0.1 (hw _ (List.mem_of_getElem? (i := 32) rfl))) (notFace_of_selects (args := #[]) (mvT I0.1 (hw _ (List.mem_of_getElem? (i := 34) rfl)))) (mvT I0.1 (hw _ (List.mem_of_getElem? (i := 34) rfl))) (mvT I0.1 (hw _ (List.mem_of_getElem? (i := 33) rfl))) (by decide) (backOf (W := 2) (rmL1 l Z a0 hw x cs h0 EZ z0 O1 P5 S) I0.1 (hw _ (List.mem_of_getElem? (i := 35) rfl)) (hw _ (List.mem_of_getElem? (i := 8) rfl)) (by decide) (by decide)) qa1 qc1 (g := (mkF m 5 #[.val (.ref x)] [(.int ((47 : Int32))), (.ref x), (.int ((0 : Int32))), (.ref x)])) rfl (by rw [hml]; rfl) (Steps.refl _) (argsL := [(.int ((47 : Int32)))]) (rest := [(.int ((0 : Int32))), (.ref x)]) (lenOf pdL1 rfl) rfl (by show 2 * 0 + _ ≤ _; exact Nat.le_of_eq rfl) (hb hby dRU_5) (fun _ _ => ⟨rfl, e00, (Nat.le_of_ble_eq_true rfl), (Nat.le_of_ble_eq_true rfl)⟩)
  dsimp only [Pt.U, Pt.locs, Pt.cells, Pt.slots] at X1 l1 y1 z1 st1 hQ1
  subst l1 y1 z1
  obtain ⟨rfl, N1, E1⟩ := hQ1
  refine own_to st1 ?_
  show own_Go p e below F (T1.setTop (mkF m 8 #[.val (.ref x)] [(.int (own_li cs cs.length)), (.int ((0 : Int32))), (.ref x)]))
  have N2 := Fr.app N0 N1
  refine own_iconst X1.here hx (hb hby dRU_8) (v := 1) rfl (pc' := 9) rfl ?_
  refine own_iadd X1.here hx (hb hby dRU_9) (pc' := 10) rfl ?_
  rw [hr]
  show own_Go p e below F (T1.setTop (mkF m 10 #[.val (.ref x)] [(.int ((0 : Int32))), (.int ((0 : Int32))), (.ref x)]))
  obtain ⟨cq3, kq3, qa3, qb3, qc3⟩ := isOf (s := s.setVm s.vm) I0.1 E1 S.exa
  obtain ⟨_, _, ⟨T3, L3, k3, n3⟩, -, X3, hS3, hG3, ⟨Lc3, hQ3, l3, y3, z3, C3⟩, st3⟩ := X1.virtualBackS hx (y := (⟨"java/lang/String", "substring", "(II)Ljava/lang/String;"⟩ : MethodName)) (z := (⟨"java/lang/String", "substring", "(II)Ljava/lang/String;"⟩ : MethodName)) I0.2.1 (mvT I0.1 (hw _ (List.mem_of_getElem? (i := 68) rfl))) (mvT I0.1 (hw _ (List.mem_of_getElem? (i := 69) rfl))) (notFace_of_selects (args := #[]) (mvT I0.1 (hw _ (List.mem_of_getElem? (i := 71) rfl)))) (mvT I0.1 (hw _ (List.mem_of_getElem? (i := 71) rfl))) (mvT I0.1 (hw _ (List.mem_of_getElem? (i := 70) rfl))) (by decide) (own_backW (W := 0) (rmSC l Z a0 hw hEL x cs h0 EZ z0 O1 P5 fm O2 rf S hn) I0.1 (hw _ (List.mem_of_getElem? (i := 72) rfl)) (hw _ (List.mem_of_getElem? (i := 8) rfl)) (by decide) (by decide) hEL I0.ch (fun _ q => nomatch q)) qa3 qc3 (g := (mkF m 10 #[.val (.ref x)] [(.int ((0 : Int32))), (.int ((0 : Int32))), (.ref x)])) rfl (by rw [hml]; rfl) (Steps.refl _) (argsL := [(.int ((0 : Int32))), (.int ((0 : Int32)))]) (rest := []) (lenOf pdSu rfl) rfl (by show 2 * 0 + _ ≤ _; exact Nat.le_of_eq rfl) (hb hby dRU_10) (fun _ _ => ⟨rfl, E1, (Nat.le_of_ble_eq_true rfl), (Nat.le_of_ble_eq_true rfl)⟩)
  dsimp only [Pt.U, Pt.locs, Pt.cells, Pt.slots] at X3 hS3 hG3 l3 y3 z3 C3 st3 hQ3
  subst l3 y3 z3
  replace X3 := (show Stand _ _ _ _ (s.setVm T3.vm) _ _ _ _ _ _ _ _ _ from X3)
  have I3 := I0.later hS3 (Nat.le_refl _) (by have q := hG3; rw [(E1 : _ = h0)] at q; exact q) C3
  obtain ⟨y3, rfl, S3, E3, N3⟩ := hQ3
  refine own_to st3 ?_
  show own_Go p e below F (T3.setTop (mkF m 13 #[.val (.ref x)] [(.ref y3)]))
  have f4 := own_ext_trans M0 E3
  have N5 := Fr.app N2 N3
  exact own_retAW X3 hx hlk hEL I3 rfl hret rfl rfl (hb hby dRU_13) (fun t ht hC hE => hF t _ _ _ _ (by rw [ht]; exact ⟨_, rfl, S3, f4, N5⟩) hC hE (by decide) (by decide))
theorem dC_0 : decode method_2_code 0 = .ok (.iload_n 0, 1) := by decide +kernel
theorem dC_1 : decode method_2_code 1 = .ok (.iconst 1, 1) := by decide +kernel
theorem dC_2 : decode method_2_code 2 = .ok (.iand, 1) := by decide +kernel
theorem dC_3 : decode method_2_code 3 = .ok (.ifCond .eq 8, 3) := by decide +kernel
theorem dC_6 : decode method_2_code 6 = .ok (.bipush 47, 2) := by decide +kernel
theorem dC_8 : decode method_2_code 8 = .ok (.goto 11, 3) := by decide +kernel
theorem dC_11 : decode method_2_code 11 = .ok (.iload_n 0, 1) := by decide +kernel
theorem dC_12 : decode method_2_code 12 = .ok (.iconst 1, 1) := by decide +kernel
theorem dC_13 : decode method_2_code 13 = .ok (.iushr, 1) := by decide +kernel
theorem dC_14 : decode method_2_code 14 = .ok (.sipush 255, 3) := by decide +kernel
theorem dC_17 : decode method_2_code 17 = .ok (.iand, 1) := by decide +kernel
theorem dC_18 : decode method_2_code 18 = .ok (.i2c, 1) := by decide +kernel
theorem dC_19 : decode method_2_code 19 = .ok (.ireturn, 1) := by decide +kernel
theorem efC (m : MethodId) (x0 : Int32) : entryFrame m #[(.int x0)] 1 = mkF m 0 #[.val (.int x0)] [] := by first | (simp [entryFrame, mkF, argsToLocals, Value.category]; done) | rfl
def own_ch (p1 : Int32) : Int32 := if p1 &&& 1 = 0 then own_c (XT.ushr p1 (1 : Int32) &&& (255 : Int32)) else 47
theorem own_chp (p1 : Int32) : nar .char (own_ch p1) = own_ch p1 ∧ ¬ own_ch p1 < 0 ∧ ¬ (255 : Int32) < own_ch p1 := by
  unfold own_ch; split
  · exact ⟨own_nar _, own_and255 _⟩
  · decide
theorem own_nch {c : Int32} (h : nar .char c = c) : narrow .char (.int c) = .int c := by show Value.int (nar .char c) = _; rw [h]
def Q_rmC (Z : State) (p1 : Int32) (h0 : Heap) (v : Option Value) (h : Heap) (L : List Loc) : Prop := v = some (.int (own_ch p1)) ∧ Fr Z.heap.size L ∧ h = h0
set_option maxRecDepth 65536 in
set_option maxHeartbeats 40000000 in
theorem rmC (l : Launch) (Z : State) (a0 : Array Value) (hw : ∀ d ∈ tables_1, d.before a0 Z = true) (p1 : Int32) (h0 : Heap) :
    MetFree l (⟨"com/example/cartulary/cartulary/RegisterUrisRegisterBasePinLaw", "ch", "(I)C"⟩ : MethodName) (head1 (Jvm.Cond.code (⟨"com/example/cartulary/cartulary/RegisterUrisRegisterBasePinLaw", "ch", "(I)C"⟩ : MethodName) method_2_code 1 (Option.some FieldType.char) :: []) ({ frames := 0, cells := 0, slots := 0, locals := 0 } : Room)) (fun aa U => aa = #[(.int p1)] ∧ Z.Warmed39 U.vm ∧ U.heap = h0) (fun _ _ _ _ _ => True) (fun _ U o U' => ∃ v L, o = .returned v ∧ (Q_rmC Z p1 h0) v U'.heap L ∧ FrameEnd U o U' L ({ frames := 0, cells := 0, slots := 0, locals := 0 } : Room).cells ({ frames := 0, cells := 0, slots := 0, locals := 0 } : Room).slots) := by
  refine own_walkN (by exact pnL) ?_
  intro p e s m below meth c T0 X0 hx hby hml hret hlk hnm hown hZ e0 es0 F hF
  refine own_on (fun _ => castTop (efC m p1)) ?_
  refine own_iload_n X0.here hx (hb hby dC_0) rfl (pc' := 1) rfl ?_
  refine own_iconst X0.here hx (hb hby dC_1) (v := 1) rfl (pc' := 2) rfl ?_
  refine own_iand X0.here hx (hb hby dC_2) (pc' := 3) rfl ?_
  refine own_ifeq X0.here hx (hb hby dC_3) (by decide) (pc' := 11) (by decide) (pc2 := 6) rfl (fun q1 => ?_) (fun q1 => ?_)
  · refine own_iload_n X0.here hx (hb hby dC_11) rfl (pc' := 12) rfl ?_
    refine own_iconst X0.here hx (hb hby dC_12) (v := 1) rfl (pc' := 13) rfl ?_
    refine own_iushr X0.here hx (hb hby dC_13) (pc' := 14) rfl ?_
    refine own_sipush X0.here hx (hb hby dC_14) (v := 255) rfl (pc' := 17) rfl ?_
    refine own_iand X0.here hx (hb hby dC_17) (pc' := 18) rfl ?_
    refine own_i2c X0.here hx (hb hby dC_18) (pc' := 19) rfl ?_
    have hc : own_ch p1 = own_c ((XT.ushr p1 (1 : Int32)) &&& (255 : Int32)) := by simp [own_ch, q1]
    rw [← hc]
    show own_Go p e below F (T0.setTop (mkF m 19 #[.val (.int p1)] [(.int (own_ch p1))]))
    exact own_retC X0 hx hlk (own_nch (own_chp p1).1) hret (hb hby dC_19) (fun t ht hE => hF t _ _ _ _ (by rw [ht, (e0 : _ = h0)]; exact ⟨rfl, Fr.nil _, rfl⟩) hE (by decide) (by decide))
  · refine own_bipush X0.here hx (hb hby dC_6) (v := 47) rfl (pc' := 8) rfl ?_
    refine own_goto X0.here hx (hb hby dC_8) (by decide) (pc' := 19) (by decide) ?_
    have hc : own_ch p1 = (47 : Int32) := by simp [own_ch, q1]
    rw [← hc]
    show own_Go p e below F (T0.setTop (mkF m 19 #[.val (.int p1)] [(.int (own_ch p1))]))
    exact own_retC X0 hx hlk (own_nch (own_chp p1).1) hret (hb hby dC_19) (fun t ht hE => hF t _ _ _ _ (by rw [ht, (e0 : _ = h0)]; exact ⟨rfl, Fr.nil _, rfl⟩) hE (by decide) (by decide))
theorem own_mod5 (n : Int32) : (n &&& 2147483647) % 5 = 0 ∨ (n &&& 2147483647) % 5 = 1 ∨ (n &&& 2147483647) % 5 = 2 ∨ (n &&& 2147483647) % 5 = 3 ∨ (n &&& 2147483647) % 5 = 4 := by
  have h0 : 0 ≤ (n &&& 2147483647).toInt := (c_andS n 2147483647).2.2 (by decide)
  have h1 := (c_irem (n &&& 2147483647) 5 5 rfl).1 h0
  have e : ∀ k : Int32, ((n &&& 2147483647) % 5).toInt = k.toInt → (n &&& 2147483647) % 5 = k := fun k h => Int32.toInt_inj.mp h
  have : (n &&& 2147483647).toInt % 5 = 0 ∨ (n &&& 2147483647).toInt % 5 = 1 ∨ (n &&& 2147483647).toInt % 5 = 2 ∨ (n &&& 2147483647).toInt % 5 = 3 ∨ (n &&& 2147483647).toInt % 5 = 4 := by omega
  rcases this with h | h | h | h | h
  · exact Or.inl (e 0 (by rw [h1, h]; rfl))
  · exact Or.inr (Or.inl (e 1 (by rw [h1, h]; rfl)))
  · exact Or.inr (Or.inr (Or.inl (e 2 (by rw [h1, h]; rfl))))
  · exact Or.inr (Or.inr (Or.inr (Or.inl (e 3 (by rw [h1, h]; rfl)))))
  · exact Or.inr (Or.inr (Or.inr (Or.inr (e 4 (by rw [h1, h]; rfl)))))
theorem efL (m : MethodId) (x0 : Int32) (x1 : Int32) (x2 : Int32) (x3 : Int32) (x4 : Int32) : entryFrame m #[(.int x0), (.int x1), (.int x2), (.int x3), (.int x4)] 14 = mkF m 0 #[.val (.int x0), .val (.int x1), .val (.int x2), .val (.int x3), .val (.int x4), .unset, .unset, .unset, .unset, .unset, .unset, .unset, .unset, .unset] [] := by first | (simp [entryFrame, mkF, argsToLocals, Value.category]; done) | rfl
def Q_rmL (Z : State) (a b c1 d n : Int32) (h0 : Heap) (z0 : Int32) (fm : Value) (v : Option Value) (h : Heap) (L : List Loc) : Prop := v = some (.int 1) ∧ Fr Z.heap.size L
set_option maxRecDepth 65536 in
set_option maxHeartbeats 40000000 in
theorem rmL (l : Launch) (Z : State) (a0 : Array Value) (hw : ∀ d ∈ tables_1, d.before a0 Z = true) (hEL : EW Z a0 EL) (a b c1 d n : Int32) (h0 : Heap) (EZ : Ext Z.heap h0) (z0 : Int32) (O1 : Sta Z Z.heap "java/lang/String" "COMPACT_STRINGS" "Z" (.int z0)) (P5 : ¬ z0 = 0) (fm : Value) (O2 : Sta Z Z.heap "jdk/internal/util/Preconditions" "SIOOBE_FORMATTER" "Ljava/util/function/BiFunction;" fm) (rf : fm.isRef = true) :
    MetFree l x (head1 (Jvm.Cond.code x code maxLocals ret :: tables_1) room_1) (fun aa U => aa = #[(.int a), (.int b), (.int c1), (.int d), (.int n)] ∧ Z.Warmed39 U.vm ∧ U.heap = h0 ∧ CHv Z EL U.vm h0 ∧ ∀ yy ∈ ([] : List Addr), Safe Z EL U.vm h0 yy) (fun _ _ _ _ _ => True) (fun _ U o U' => ∃ v L, o = .returned v ∧ (Q_rmL Z a b c1 d n h0 z0 fm) v U'.heap L ∧ CHr Z EL U.vm U.heap U'.vm U'.heap ∧ ReturnedEndW U o U' L room_1.cells room_1.slots) := by
  refine own_walkW (by exact pnL) ?_
  intro p e s m below meth c T0 X0 hx hby hml hret hlk hnm hs0 e0 I0 hsf F hF
  refine own_on (fun _ => castTop (efL m a b c1 d n)) ?_
  have M0 := own_ext_refl h0
  have N0 := Fr.nil Z.heap.size
  have own_hws := own_hwsL hw
  refine own_iload_n X0.here hx (hb hby at_0) rfl (pc' := 1) rfl ?_
  obtain ⟨_, _, ⟨T1, L1, k1, n1⟩, -, X1, ⟨Lc1, hQ1, l1, y1, z1⟩, st1⟩ := Jvm.LawKit.callS X0 hx (y := (⟨"com/example/cartulary/cartulary/RegisterUrisRegisterBasePinLaw", "ch", "(I)C"⟩ : MethodName)) I0.2.1 (mvT I0.1 (hw _ (List.mem_of_getElem? (i := 0) rfl))) (mvT I0.1 (hw _ (List.mem_of_getElem? (i := 1) rfl))) (mvT I0.1 (hw _ (List.mem_of_getElem? (i := 2) rfl))) (mvT I0.1 (hw _ (List.mem_of_getElem? (i := 3) rfl))) (by decide) (backOf (W := 0) (rmC l Z a0 hw a h0) I0.1 (hw _ (List.mem_of_getElem? (i := 3) rfl)) (hw _ (List.mem_of_getElem? (i := 2) rfl)) (by decide) (by decide)) (g := (mkF m 1 #[.val (.int a), .val (.int b), .val (.int c1), .val (.int d), .val (.int n), .unset, .unset, .unset, .unset, .unset, .unset, .unset, .unset, .unset] [(.int a)])) rfl (by rw [hml]; rfl) (argsL := [(.int a)]) (rest := []) (lenOf pdCh rfl) rfl (by show 2 * 0 + _ ≤ _; exact Nat.le_of_eq rfl) (hb hby at_1) (fun _ _ => ⟨rfl, e0, (Nat.le_of_ble_eq_true rfl), (Nat.le_of_ble_eq_true rfl)⟩)
  dsimp only [Pt.U, Pt.locs, Pt.cells, Pt.slots] at X1 l1 y1 z1 st1 hQ1
  subst l1 y1 z1
  obtain ⟨rfl, N1, E1⟩ := hQ1
  refine own_on (st1) ?_
  show own_Go p e below F (T1.setTop (mkF m 4 #[.val (.int a), .val (.int b), .val (.int c1), .val (.int d), .val (.int n), .unset, .unset, .unset, .unset, .unset, .unset, .unset, .unset, .unset] [(.int (own_ch a))]))
  have N2 := Fr.app N0 N1
  refine own_istore X1.here hx (hb hby at_4) (L' := #[.val (.int a), .val (.int b), .val (.int c1), .val (.int d), .val (.int n), .val (.int (own_ch a)), .unset, .unset, .unset, .unset, .unset, .unset, .unset, .unset]) rfl (pc' := 6) rfl ?_
  refine own_iload_n X1.here hx (hb hby at_6) rfl (pc' := 7) rfl ?_
  obtain ⟨_, _, ⟨T3, L3, k3, n3⟩, -, X3, ⟨Lc3, hQ3, l3, y3, z3⟩, st3⟩ := Jvm.LawKit.callS X1 hx (y := (⟨"com/example/cartulary/cartulary/RegisterUrisRegisterBasePinLaw", "ch", "(I)C"⟩ : MethodName)) I0.2.1 (mvT I0.1 (hw _ (List.mem_of_getElem? (i := 0) rfl))) (mvT I0.1 (hw _ (List.mem_of_getElem? (i := 1) rfl))) (mvT I0.1 (hw _ (List.mem_of_getElem? (i := 2) rfl))) (mvT I0.1 (hw _ (List.mem_of_getElem? (i := 3) rfl))) (by decide) (backOf (W := 0) (rmC l Z a0 hw b h0) I0.1 (hw _ (List.mem_of_getElem? (i := 3) rfl)) (hw _ (List.mem_of_getElem? (i := 2) rfl)) (by decide) (by decide)) (g := (mkF m 7 #[.val (.int a), .val (.int b), .val (.int c1), .val (.int d), .val (.int n), .val (.int (own_ch a)), .unset, .unset, .unset, .unset, .unset, .unset, .unset, .unset] [(.int b)])) rfl (by rw [hml]; rfl) (argsL := [(.int b)]) (rest := []) (lenOf pdCh rfl) rfl (by show 2 * 0 + _ ≤ _; exact Nat.le_of_eq rfl) (hb hby at_7) (fun _ _ => ⟨rfl, E1, (Nat.le_of_ble_eq_true rfl), (Nat.le_of_ble_eq_true rfl)⟩)
  dsimp only [Pt.U, Pt.locs, Pt.cells, Pt.slots] at X3 l3 y3 z3 st3 hQ3
  subst l3 y3 z3
  obtain ⟨rfl, N3, E3⟩ := hQ3
  refine own_on (st3) ?_
  show own_Go p e below F (T3.setTop (mkF m 10 #[.val (.int a), .val (.int b), .val (.int c1), .val (.int d), .val (.int n), .val (.int (own_ch a)), .unset, .unset, .unset, .unset, .unset, .unset, .unset, .unset] [(.int (own_ch b))]))
  have N4 := Fr.app N2 N3
  refine own_istore X3.here hx (hb hby at_10) (L' := #[.val (.int a), .val (.int b), .val (.int c1), .val (.int d), .val (.int n), .val (.int (own_ch a)), .val (.int (own_ch b)), .unset, .unset, .unset, .unset, .unset, .unset, .unset]) rfl (pc' := 12) rfl ?_
  refine own_iload_n X3.here hx (hb hby at_12) rfl (pc' := 13) rfl ?_
  obtain ⟨_, _, ⟨T5, L5, k5, n5⟩, -, X5, ⟨Lc5, hQ5, l5, y5, z5⟩, st5⟩ := Jvm.LawKit.callS X3 hx (y := (⟨"com/example/cartulary/cartulary/RegisterUrisRegisterBasePinLaw", "ch", "(I)C"⟩ : MethodName)) I0.2.1 (mvT I0.1 (hw _ (List.mem_of_getElem? (i := 0) rfl))) (mvT I0.1 (hw _ (List.mem_of_getElem? (i := 1) rfl))) (mvT I0.1 (hw _ (List.mem_of_getElem? (i := 2) rfl))) (mvT I0.1 (hw _ (List.mem_of_getElem? (i := 3) rfl))) (by decide) (backOf (W := 0) (rmC l Z a0 hw c1 h0) I0.1 (hw _ (List.mem_of_getElem? (i := 3) rfl)) (hw _ (List.mem_of_getElem? (i := 2) rfl)) (by decide) (by decide)) (g := (mkF m 13 #[.val (.int a), .val (.int b), .val (.int c1), .val (.int d), .val (.int n), .val (.int (own_ch a)), .val (.int (own_ch b)), .unset, .unset, .unset, .unset, .unset, .unset, .unset] [(.int c1)])) rfl (by rw [hml]; rfl) (argsL := [(.int c1)]) (rest := []) (lenOf pdCh rfl) rfl (by show 2 * 0 + _ ≤ _; exact Nat.le_of_eq rfl) (hb hby at_13) (fun _ _ => ⟨rfl, E3, (Nat.le_of_ble_eq_true rfl), (Nat.le_of_ble_eq_true rfl)⟩)
  dsimp only [Pt.U, Pt.locs, Pt.cells, Pt.slots] at X5 l5 y5 z5 st5 hQ5
  subst l5 y5 z5
  obtain ⟨rfl, N5, E5⟩ := hQ5
  refine own_on (st5) ?_
  show own_Go p e below F (T5.setTop (mkF m 16 #[.val (.int a), .val (.int b), .val (.int c1), .val (.int d), .val (.int n), .val (.int (own_ch a)), .val (.int (own_ch b)), .unset, .unset, .unset, .unset, .unset, .unset, .unset] [(.int (own_ch c1))]))
  have N6 := Fr.app N4 N5
  refine own_istore X5.here hx (hb hby at_16) (L' := #[.val (.int a), .val (.int b), .val (.int c1), .val (.int d), .val (.int n), .val (.int (own_ch a)), .val (.int (own_ch b)), .val (.int (own_ch c1)), .unset, .unset, .unset, .unset, .unset, .unset]) rfl (pc' := 18) rfl ?_
  refine own_iload_n X5.here hx (hb hby at_18) rfl (pc' := 19) rfl ?_
  obtain ⟨_, _, ⟨T7, L7, k7, n7⟩, -, X7, ⟨Lc7, hQ7, l7, y7, z7⟩, st7⟩ := Jvm.LawKit.callS X5 hx (y := (⟨"com/example/cartulary/cartulary/RegisterUrisRegisterBasePinLaw", "ch", "(I)C"⟩ : MethodName)) I0.2.1 (mvT I0.1 (hw _ (List.mem_of_getElem? (i := 0) rfl))) (mvT I0.1 (hw _ (List.mem_of_getElem? (i := 1) rfl))) (mvT I0.1 (hw _ (List.mem_of_getElem? (i := 2) rfl))) (mvT I0.1 (hw _ (List.mem_of_getElem? (i := 3) rfl))) (by decide) (backOf (W := 0) (rmC l Z a0 hw d h0) I0.1 (hw _ (List.mem_of_getElem? (i := 3) rfl)) (hw _ (List.mem_of_getElem? (i := 2) rfl)) (by decide) (by decide)) (g := (mkF m 19 #[.val (.int a), .val (.int b), .val (.int c1), .val (.int d), .val (.int n), .val (.int (own_ch a)), .val (.int (own_ch b)), .val (.int (own_ch c1)), .unset, .unset, .unset, .unset, .unset, .unset] [(.int d)])) rfl (by rw [hml]; rfl) (argsL := [(.int d)]) (rest := []) (lenOf pdCh rfl) rfl (by show 2 * 0 + _ ≤ _; exact Nat.le_of_eq rfl) (hb hby at_19) (fun _ _ => ⟨rfl, E5, (Nat.le_of_ble_eq_true rfl), (Nat.le_of_ble_eq_true rfl)⟩)
  dsimp only [Pt.U, Pt.locs, Pt.cells, Pt.slots] at X7 l7 y7 z7 st7 hQ7
  subst l7 y7 z7
  obtain ⟨rfl, N7, E7⟩ := hQ7
  refine own_on (st7) ?_
  show own_Go p e below F (T7.setTop (mkF m 22 #[.val (.int a), .val (.int b), .val (.int c1), .val (.int d), .val (.int n), .val (.int (own_ch a)), .val (.int (own_ch b)), .val (.int (own_ch c1)), .unset, .unset, .unset, .unset, .unset, .unset] [(.int (own_ch d))]))
  have N8 := Fr.app N6 N7
  refine own_istore X7.here hx (hb hby at_22) (L' := #[.val (.int a), .val (.int b), .val (.int c1), .val (.int d), .val (.int n), .val (.int (own_ch a)), .val (.int (own_ch b)), .val (.int (own_ch c1)), .val (.int (own_ch d)), .unset, .unset, .unset, .unset, .unset]) rfl (pc' := 24) rfl ?_
  refine own_iload X7.here hx (hb hby at_24) rfl (pc' := 26) rfl ?_
  refine own_on (fun _ => X7.ldcI hx I0.2.1 (mv I0.1 (hw _ (List.mem_of_getElem? (i := 4) rfl))) (g := (mkF m 26 #[.val (.int a), .val (.int b), .val (.int c1), .val (.int d), .val (.int n), .val (.int (own_ch a)), .val (.int (own_ch b)), .val (.int (own_ch c1)), .val (.int (own_ch d)), .unset, .unset, .unset, .unset, .unset] [(.int n)])) rfl (hb hby at_26)) ?_
  show own_Go p e below F (T7.setTop (mkF m 28 #[.val (.int a), .val (.int b), .val (.int c1), .val (.int d), .val (.int n), .val (.int (own_ch a)), .val (.int (own_ch b)), .val (.int (own_ch c1)), .val (.int (own_ch d)), .unset, .unset, .unset, .unset, .unset] [(.int ((2147483647 : Int32))), (.int n)]))
  refine own_iand X7.here hx (hb hby at_28) (pc' := 29) rfl ?_
  refine own_iconst X7.here hx (hb hby at_29) (v := 5) rfl (pc' := 30) rfl ?_
  refine own_irem X7.here hx (hb hby at_30) (by decide) (pc' := 31) rfl ?_
  refine own_istore X7.here hx (hb hby at_31) (L' := #[.val (.int a), .val (.int b), .val (.int c1), .val (.int d), .val (.int n), .val (.int (own_ch a)), .val (.int (own_ch b)), .val (.int (own_ch c1)), .val (.int (own_ch d)), .val (.int ((n &&& (2147483647 : Int32)) % (5 : Int32))), .unset, .unset, .unset, .unset]) rfl (pc' := 33) rfl ?_
  obtain ⟨y0, ey0⟩ : ∃ c, c = own_ch a := ⟨_, rfl⟩
  have ny0 : nar .char y0 = y0 := by rw [ey0]; exact (own_chp _).1
  have py0 : ¬ y0 < 0 ∧ ¬ (255 : Int32) < y0 := by rw [ey0]; exact (own_chp _).2
  rw [← ey0]
  obtain ⟨y1, ey1⟩ : ∃ c, c = own_ch b := ⟨_, rfl⟩
  have ny1 : nar .char y1 = y1 := by rw [ey1]; exact (own_chp _).1
  have py1 : ¬ y1 < 0 ∧ ¬ (255 : Int32) < y1 := by rw [ey1]; exact (own_chp _).2
  rw [← ey1]
  obtain ⟨y2, ey2⟩ : ∃ c, c = own_ch c1 := ⟨_, rfl⟩
  have ny2 : nar .char y2 = y2 := by rw [ey2]; exact (own_chp _).1
  have py2 : ¬ y2 < 0 ∧ ¬ (255 : Int32) < y2 := by rw [ey2]; exact (own_chp _).2
  rw [← ey2]
  obtain ⟨y3, ey3⟩ : ∃ c, c = own_ch d := ⟨_, rfl⟩
  have ny3 : nar .char y3 = y3 := by rw [ey3]; exact (own_chp _).1
  have py3 : ¬ y3 < 0 ∧ ¬ (255 : Int32) < y3 := by rw [ey3]; exact (own_chp _).2
  rw [← ey3]
  rcases own_mod5 n with hn | hn | hn | hn | hn <;> rw [hn]
  · show own_Go p e below F (T7.setTop (mkF m 33 #[.val (.int a), .val (.int b), .val (.int c1), .val (.int d), .val (.int n), .val (.int y0), .val (.int y1), .val (.int y2), .val (.int y3), .val (.int ((0 : Int32))), .unset, .unset, .unset, .unset] []))
    refine own_iload X7.here hx (hb hby at_33) rfl (pc' := 35) rfl ?_
    refine own_ifne X7.here hx (hb hby at_35) (by decide) (pc' := 46) (by decide) (pc2 := 38) rfl (fun q => absurd rfl q) (fun q9 => ?_)
    refine own_iconst X7.here hx (hb hby at_38) (v := 0) rfl (pc' := 39) rfl ?_
    obtain ⟨T10, h10, k10, X10, e10, E10, A10, st10⟩ := newP X7 hx I0.1 (hw _ (List.mem_of_getElem? (i := 5) rfl)) E7 (g := (mkF m 39 #[.val (.int a), .val (.int b), .val (.int c1), .val (.int d), .val (.int n), .val (.int y0), .val (.int y1), .val (.int y2), .val (.int y3), .val (.int ((0 : Int32))), .unset, .unset, .unset, .unset] [(.int ((0 : Int32)))])) rfl (hb hby at_39) rfl (by decide : ¬ ((0 : Int32) < (0 : Int32))) (cap := 0) (by decide) (by decide) (by decide) (by decide)
    obtain ⟨a10, g10⟩ : ∃ z, z = h0.size := ⟨_, rfl⟩
    rw [← g10] at A10 st10
    have ge11 : h0.size ≤ a10 := by rw [g10]; exact M0.1
    have f12 := own_ext_trans M0 E10
    have J13 := I0.ext E10
    have V10 : Arv Z h10 a10 k10 .char (0 : Int32) [] (.int (0 : Int32)) := (Arv.new A10 (by decide)).pad (pad_rep [] (.int (0 : Int32)) 0)
    refine own_on st10 ?_
    show own_Go p e below F (T10.setTop (mkF m 41 #[.val (.int a), .val (.int b), .val (.int c1), .val (.int d), .val (.int n), .val (.int y0), .val (.int y1), .val (.int y2), .val (.int y3), .val (.int ((0 : Int32))), .unset, .unset, .unset, .unset] [(.ref a10)]))
    have gz_a10 : Z.heap.size ≤ a10 := Nat.le_trans EZ.1 ge11
    refine own_astore X10.here hx (hb hby at_41) rfl (L' := #[.val (.int a), .val (.int b), .val (.int c1), .val (.int d), .val (.int n), .val (.int y0), .val (.int y1), .val (.int y2), .val (.int y3), .val (.int ((0 : Int32))), .val (.ref a10), .unset, .unset, .unset]) rfl (pc' := 43) rfl ?_
    refine own_goto X10.here hx (hb hby at_43) (by decide) (pc' := 143) (by decide) ?_
    obtain ⟨T14, h14, X14, e14, E14, A14, D14, -, st14⟩ := newO X10 hx J13.1 J13.2.1 (hw _ (List.mem_of_getElem? (i := 6) rfl)) (hw _ (List.mem_of_getElem? (i := 7) rfl)) (hw _ (List.mem_of_getElem? (i := 8) rfl)) e10 (g := (mkF m 143 #[.val (.int a), .val (.int b), .val (.int c1), .val (.int d), .val (.int n), .val (.int y0), .val (.int y1), .val (.int y2), .val (.int y3), .val (.int ((0 : Int32))), .val (.ref a10), .unset, .unset, .unset] [])) rfl (hb hby at_143) (by decide) (by decide)
    obtain ⟨a14, g14⟩ : ∃ z, z = h10.size := ⟨_, rfl⟩
    rw [← g14] at A14 D14 st14
    have ne15 : a10 ≠ a14 := Nat.ne_of_lt (by rw [g14]; exact V10.lt)
    have ge16 : h0.size ≤ a14 := by rw [g14]; exact f12.1
    have sf14 := Safe.ext E14 J13.ch (Safe.new (Nat.le_of_eq g14.symm))
    have f17 := own_ext_trans f12 E14
    have f18 := V10.ext E14
    have J19 := J13.ext E14
    have F14_0 : Fld Z h14 a14 "java/lang/String" "value" "[B" (.null) := (D14 (Or.inr (hw _ (List.mem_of_getElem? (i := 21) rfl))) (ty := .array .byte) (by decide))
    have F14_1 : Fld Z h14 a14 "java/lang/String" "coder" "B" (.int ((0 : Int32))) := (D14 (Or.inr (hw _ (List.mem_of_getElem? (i := 22) rfl))) (ty := .byte) (by decide))
    refine own_on st14 ?_
    show own_Go p e below F (T14.setTop (mkF m 146 #[.val (.int a), .val (.int b), .val (.int c1), .val (.int d), .val (.int n), .val (.int y0), .val (.int y1), .val (.int y2), .val (.int y3), .val (.int ((0 : Int32))), .val (.ref a10), .unset, .unset, .unset] [(.ref a14)]))
    have gz_a14 : Z.heap.size ≤ a14 := Nat.le_trans EZ.1 ge16
    refine own_dup X14.here hx (hb hby at_146) rfl (pc' := 147) rfl ?_
    refine own_aload X14.here hx (hb hby at_147) rfl rfl (pc' := 149) rfl ?_
    obtain ⟨_, _, ⟨T20, L20, k20, n20⟩, -, X20, hS20, hG20, ⟨Lc20, hQ20, l20, y20, z20, C20⟩, st20⟩ := X14.specialBackS hx (y := (⟨"java/lang/String", "<init>", "([C)V"⟩ : MethodName)) rfl J19.2.1 (mvT J19.1 (hw _ (List.mem_of_getElem? (i := 9) rfl))) (mvT J19.1 (hw _ (List.mem_of_getElem? (i := 10) rfl))) (mvT J19.1 (hw _ (List.mem_of_getElem? (i := 11) rfl))) (by decide) (own_backW (W := 1) (rmE1 l Z a0 hw hEL a14 a10 k10 _ h14 gz_a14 A14 F14_0 F14_1 f18) J19.1 (hw _ (List.mem_of_getElem? (i := 11) rfl)) (hw _ (List.mem_of_getElem? (i := 8) rfl)) (by decide) (by decide) hEL J19.ch (fun y hy => by simp only [List.mem_cons, List.not_mem_nil, or_false] at hy; subst hy; exact ⟨A14.lt, sf14⟩)) (g := (mkF m 149 #[.val (.int a), .val (.int b), .val (.int c1), .val (.int d), .val (.int n), .val (.int y0), .val (.int y1), .val (.int y2), .val (.int y3), .val (.int ((0 : Int32))), .val (.ref a10), .unset, .unset, .unset] [(.ref a10), (.ref a14), (.ref a14)])) rfl (by rw [hml]; rfl) (Steps.refl _) (a := a14) (argsL := [(.ref a10)]) (rest := [(.ref a14)]) (lenOf pdE1 rfl) rfl (by show 2 * 0 + _ ≤ _; exact Nat.le_of_eq rfl) (hb hby at_149) (fun _ _ => ⟨rfl, e14, (Nat.le_of_ble_eq_true rfl), (Nat.le_of_ble_eq_true rfl)⟩)
    dsimp only [Pt.U, Pt.locs, Pt.cells, Pt.slots] at X20 hS20 hG20 l20 y20 z20 C20 st20 hQ20
    subst l20 y20 z20
    replace X20 := (show Stand _ _ _ _ (s.setVm T20.vm) _ _ _ _ _ _ _ _ _ from X20)
    have I20 := J19.later hS20 (Nat.le_refl _) (by have q := hG20; rw [(e14 : _ = h14)] at q; exact q) C20
    obtain ⟨rfl, N20, K20, S20⟩ := hQ20
    refine own_to st20 ?_
    show own_Go p e below F (T20.setTop (mkF m 152 #[.val (.int a), .val (.int b), .val (.int c1), .val (.int d), .val (.int n), .val (.int y0), .val (.int y1), .val (.int y2), .val (.int y3), .val (.int ((0 : Int32))), .val (.ref a10), .unset, .unset, .unset] [(.ref a14)]))
    have f21 := own_ext_keep f17 K20 (fun y hy => by simp only [List.mem_cons, List.not_mem_nil, or_false] at hy; rcases hy with rfl <;> assumption)
    have N22 := Fr.app N8 N20
    refine own_astore X20.here hx (hb hby at_152) rfl (L' := #[.val (.int a), .val (.int b), .val (.int c1), .val (.int d), .val (.int n), .val (.int y0), .val (.int y1), .val (.int y2), .val (.int y3), .val (.int ((0 : Int32))), .val (.ref a10), .val (.ref a14), .unset, .unset]) rfl (pc' := 154) rfl ?_
    refine own_aload X20.here hx (hb hby at_154) rfl rfl (pc' := 156) rfl ?_
    have S23 := S20
    obtain ⟨_, _, ⟨T24, L24, k24, n24⟩, -, X24, ⟨Lc24, hQ24, l24, y24, z24⟩, st24⟩ := Jvm.LawKit.callS X20 hx (y := (⟨"com/example/cartulary/cartulary/RegisterUris", "registerBase", "(Ljava/lang/String;)Ljava/lang/String;"⟩ : MethodName)) I20.2.1 (mvT I20.1 (hw _ (List.mem_of_getElem? (i := 27) rfl))) (mvT I20.1 (hw _ (List.mem_of_getElem? (i := 28) rfl))) (mvT I20.1 (hw _ (List.mem_of_getElem? (i := 29) rfl))) (mvT I20.1 (hw _ (List.mem_of_getElem? (i := 30) rfl))) (by decide) (backOf (W := 0) (rmRA l Z a0 hw a14 [] T20.heap (own_ext_trans EZ f21) z0 O1 P5 fm O2 rf S23 (by simp [own_li]; try decide)) I20.1 (hw _ (List.mem_of_getElem? (i := 30) rfl)) (hw _ (List.mem_of_getElem? (i := 29) rfl)) (by decide) (by decide)) (g := (mkF m 156 #[.val (.int a), .val (.int b), .val (.int c1), .val (.int d), .val (.int n), .val (.int y0), .val (.int y1), .val (.int y2), .val (.int y3), .val (.int ((0 : Int32))), .val (.ref a10), .val (.ref a14), .unset, .unset] [(.ref a14)])) rfl (by rw [hml]; rfl) (argsL := [(.ref a14)]) (rest := []) (lenOf pdRU rfl) rfl (by show 2 * 0 + _ ≤ _; exact Nat.le_of_eq rfl) (hb hby at_156) (fun _ _ => ⟨rfl, rfl, (Nat.le_of_ble_eq_true rfl), (Nat.le_of_ble_eq_true rfl)⟩)
    dsimp only [Pt.U, Pt.locs, Pt.cells, Pt.slots] at X24 l24 y24 z24 st24 hQ24
    subst l24 y24 z24
    obtain ⟨rfl, N24, E24⟩ := hQ24
    refine own_on (st24) ?_
    show own_Go p e below F (T24.setTop (mkF m 159 #[.val (.int a), .val (.int b), .val (.int c1), .val (.int d), .val (.int n), .val (.int y0), .val (.int y1), .val (.int y2), .val (.int y3), .val (.int ((0 : Int32))), .val (.ref a10), .val (.ref a14), .unset, .unset] [(.ref a14)]))
    have N25 := Fr.app N22 N24
    refine own_astore X24.here hx (hb hby at_159) rfl (L' := #[.val (.int a), .val (.int b), .val (.int c1), .val (.int d), .val (.int n), .val (.int y0), .val (.int y1), .val (.int y2), .val (.int y3), .val (.int ((0 : Int32))), .val (.ref a10), .val (.ref a14), .val (.ref a14), .unset]) rfl (pc' := 161) rfl ?_
    refine own_iconst X24.here hx (hb hby at_161) (v := 0) rfl (pc' := 162) rfl ?_
    refine own_istore X24.here hx (hb hby at_162) (L' := #[.val (.int a), .val (.int b), .val (.int c1), .val (.int d), .val (.int n), .val (.int y0), .val (.int y1), .val (.int y2), .val (.int y3), .val (.int ((0 : Int32))), .val (.ref a10), .val (.ref a14), .val (.ref a14), .val (.int ((0 : Int32)))]) rfl (pc' := 164) rfl ?_
    refine own_iload X24.here hx (hb hby at_164) rfl (pc' := 166) rfl ?_
    refine own_iconst X24.here hx (hb hby at_166) (v := 1) rfl (pc' := 167) rfl ?_
    refine own_icmplt X24.here hx (hb hby at_167) (by decide) (pc' := 180) (by decide) (pc2 := 170) rfl (fun q26 => ?_) (fun q => absurd (by decide) q)
    refine own_iload X24.here hx (hb hby at_180) rfl (pc' := 182) rfl ?_
    refine own_iconst X24.here hx (hb hby at_182) (v := 2) rfl (pc' := 183) rfl ?_
    refine own_icmplt X24.here hx (hb hby at_183) (by decide) (pc' := 196) (by decide) (pc2 := 186) rfl (fun q27 => ?_) (fun q => absurd (by decide) q)
    refine own_iload X24.here hx (hb hby at_196) rfl (pc' := 198) rfl ?_
    refine own_iconst X24.here hx (hb hby at_198) (v := 3) rfl (pc' := 199) rfl ?_
    refine own_icmplt X24.here hx (hb hby at_199) (by decide) (pc' := 212) (by decide) (pc2 := 202) rfl (fun q28 => ?_) (fun q => absurd (by decide) q)
    refine own_iload X24.here hx (hb hby at_212) rfl (pc' := 214) rfl ?_
    refine own_iconst X24.here hx (hb hby at_214) (v := 4) rfl (pc' := 215) rfl ?_
    refine own_icmplt X24.here hx (hb hby at_215) (by decide) (pc' := 228) (by decide) (pc2 := 218) rfl (fun q29 => ?_) (fun q => absurd (by decide) q)
    refine own_aload X24.here hx (hb hby at_228) rfl rfl (pc' := 230) rfl ?_
    obtain ⟨cq30, kq30, qa30, qb30, qc30⟩ := isOf I20.1 E24 S23.exa
    obtain ⟨_, _, ⟨T30, L30, k30, n30⟩, -, X30, ⟨Lc30, hQ30, l30, y30, z30⟩, st30⟩ := X24.virtualBack hx (y := (⟨"java/lang/String", "length", "()I"⟩ : MethodName)) (z := (⟨"java/lang/String", "length", "()I"⟩ : MethodName)) I20.2.1 (mvT I20.1 (hw _ (List.mem_of_getElem? (i := 81) rfl))) (mvT I20.1 (hw _ (List.mem_of_getElem? (i := 37) rfl))) (notFace_of_selects (args := #[]) (mvT I20.1 (hw _ (List.mem_of_getElem? (i := 39) rfl)))) (mvT I20.1 (hw _ (List.mem_of_getElem? (i := 39) rfl))) (mvT I20.1 (hw _ (List.mem_of_getElem? (i := 38) rfl))) (by decide) (own_lenB (s := s.setVm T20.vm) (W := 0) I20.1 hw S23 (O1.ext (own_ext_trans EZ f21)) P5 (by decide) (by decide)) qa30 qc30 (g := (mkF m 230 #[.val (.int a), .val (.int b), .val (.int c1), .val (.int d), .val (.int n), .val (.int y0), .val (.int y1), .val (.int y2), .val (.int y3), .val (.int ((0 : Int32))), .val (.ref a10), .val (.ref a14), .val (.ref a14), .val (.int ((0 : Int32)))] [(.ref a14)])) rfl (by rw [hml]; rfl) (Steps.refl _) (argsL := []) (rest := []) (lenOf pdI rfl) rfl (by show 2 * 0 + _ ≤ _; exact Nat.le_of_eq rfl) (hb hby at_230) (fun _ _ => ⟨rfl, E24, (Nat.le_of_ble_eq_true rfl), (Nat.le_of_ble_eq_true rfl)⟩)
    dsimp only [Pt.U, Pt.locs, Pt.cells, Pt.slots] at X30 l30 y30 z30 st30 hQ30
    subst l30 y30 z30
    obtain ⟨rfl, rfl, E30⟩ := hQ30
    refine own_to st30 ?_
    show own_Go p e below F (T30.setTop (mkF m 233 #[.val (.int a), .val (.int b), .val (.int c1), .val (.int d), .val (.int n), .val (.int y0), .val (.int y1), .val (.int y2), .val (.int y3), .val (.int ((0 : Int32))), .val (.ref a10), .val (.ref a14), .val (.ref a14), .val (.int ((0 : Int32)))] [(.int (Int32.ofNat 0))]))
    refine own_iload X30.here hx (hb hby at_233) rfl (pc' := 235) rfl ?_
    refine own_icmpeq X30.here hx (hb hby at_235) (by decide) (pc' := 240) (by decide) (pc2 := 238) rfl (fun q31 => ?_) (fun q => absurd rfl q)
    refine own_iload X30.here hx (hb hby at_240) rfl (pc' := 242) rfl ?_
    refine own_iconst X30.here hx (hb hby at_242) (v := 1) rfl (pc' := 243) rfl ?_
    refine own_icmplt X30.here hx (hb hby at_243) (by decide) (pc' := 257) (by decide) (pc2 := 246) rfl (fun q32 => ?_) (fun q => absurd (by decide) q)
    refine own_iload X30.here hx (hb hby at_257) rfl (pc' := 259) rfl ?_
    refine own_iconst X30.here hx (hb hby at_259) (v := 2) rfl (pc' := 260) rfl ?_
    refine own_icmplt X30.here hx (hb hby at_260) (by decide) (pc' := 274) (by decide) (pc2 := 263) rfl (fun q33 => ?_) (fun q => absurd (by decide) q)
    refine own_iload X30.here hx (hb hby at_274) rfl (pc' := 276) rfl ?_
    refine own_iconst X30.here hx (hb hby at_276) (v := 3) rfl (pc' := 277) rfl ?_
    refine own_icmplt X30.here hx (hb hby at_277) (by decide) (pc' := 291) (by decide) (pc2 := 280) rfl (fun q34 => ?_) (fun q => absurd (by decide) q)
    refine own_iload X30.here hx (hb hby at_291) rfl (pc' := 293) rfl ?_
    refine own_iconst X30.here hx (hb hby at_293) (v := 4) rfl (pc' := 294) rfl ?_
    refine own_icmplt X30.here hx (hb hby at_294) (by decide) (pc' := 308) (by decide) (pc2 := 297) rfl (fun q35 => ?_) (fun q => absurd (by decide) q)
    refine own_iconst X30.here hx (hb hby at_308) (v := 1) rfl (pc' := 309) rfl ?_
    refine own_goto X30.here hx (hb hby at_309) (by decide) (pc' := 313) (by decide) ?_
    exact own_retZW X30 hx hlk hEL I20 E30 (by decide) hret (hb hby at_313) (fun t ht hC hE => hF t _ _ _ _ (by rw [ht]; exact ⟨rfl, (by simpa using N25)⟩) hC hE (by decide) (by decide))
  · show own_Go p e below F (T7.setTop (mkF m 33 #[.val (.int a), .val (.int b), .val (.int c1), .val (.int d), .val (.int n), .val (.int y0), .val (.int y1), .val (.int y2), .val (.int y3), .val (.int ((1 : Int32))), .unset, .unset, .unset, .unset] []))
    refine own_iload X7.here hx (hb hby at_33) rfl (pc' := 35) rfl ?_
    refine own_ifne X7.here hx (hb hby at_35) (by decide) (pc' := 46) (by decide) (pc2 := 38) rfl (fun q36 => ?_) (fun q => absurd q (by decide))
    refine own_iload X7.here hx (hb hby at_46) rfl (pc' := 48) rfl ?_
    refine own_iconst X7.here hx (hb hby at_48) (v := 1) rfl (pc' := 49) rfl ?_
    refine own_icmpne X7.here hx (hb hby at_49) (by decide) (pc' := 65) (by decide) (pc2 := 52) rfl (fun q => absurd rfl q) (fun q37 => ?_)
    refine own_iconst X7.here hx (hb hby at_52) (v := 1) rfl (pc' := 53) rfl ?_
    obtain ⟨T38, h38, k38, X38, e38, E38, A38, st38⟩ := newP X7 hx I0.1 (hw _ (List.mem_of_getElem? (i := 5) rfl)) E7 (g := (mkF m 53 #[.val (.int a), .val (.int b), .val (.int c1), .val (.int d), .val (.int n), .val (.int y0), .val (.int y1), .val (.int y2), .val (.int y3), .val (.int ((1 : Int32))), .unset, .unset, .unset, .unset] [(.int ((1 : Int32)))])) rfl (hb hby at_53) rfl (by decide : ¬ ((1 : Int32) < (0 : Int32))) (cap := 1) (by decide) (by decide) (by decide) (by decide)
    obtain ⟨a38, g38⟩ : ∃ z, z = h0.size := ⟨_, rfl⟩
    rw [← g38] at A38 st38
    have ge39 : h0.size ≤ a38 := by rw [g38]; exact M0.1
    have f40 := own_ext_trans M0 E38
    have J41 := I0.ext E38
    have V38 : Arv Z h38 a38 k38 .char (1 : Int32) [.int (0 : Int32)] (.int (0 : Int32)) := (Arv.new A38 (by decide)).pad (pad_rep [] (.int (0 : Int32)) 1)
    refine own_on st38 ?_
    show own_Go p e below F (T38.setTop (mkF m 55 #[.val (.int a), .val (.int b), .val (.int c1), .val (.int d), .val (.int n), .val (.int y0), .val (.int y1), .val (.int y2), .val (.int y3), .val (.int ((1 : Int32))), .unset, .unset, .unset, .unset] [(.ref a38)]))
    have gz_a38 : Z.heap.size ≤ a38 := Nat.le_trans EZ.1 ge39
    refine own_dup X38.here hx (hb hby at_55) rfl (pc' := 56) rfl ?_
    refine own_iconst X38.here hx (hb hby at_56) (v := 0) rfl (pc' := 57) rfl ?_
    refine own_iload X38.here hx (hb hby at_57) rfl (pc' := 59) rfl ?_
    obtain ⟨T42, h42, X42, e42, W42, V42, st42⟩ := own_cast X38 hx J41.1 e38 V38 (i := 0) rfl (Nat.le_of_ble_eq_true rfl) (by decide) ny0 (g := (mkF m 59 #[.val (.int a), .val (.int b), .val (.int c1), .val (.int d), .val (.int n), .val (.int y0), .val (.int y1), .val (.int y2), .val (.int y3), .val (.int ((1 : Int32))), .unset, .unset, .unset, .unset] [(.int y0), (.int ((0 : Int32))), (.ref a38), (.ref a38)])) rfl rfl (hb hby at_59)
    replace V42 : Arv Z h42 a38 k38 .char (1 : Int32) [.int y0] (.int (0 : Int32)) := V42
    have f43 := own_ext_wr f40 W42 ge39
    have J44 := J41.wr W42 (Safe.arv J41.1.alike V38 (by decide))
    have N45 := own_Fr_snoc (sl := ((0 : Int32)).toNatClampNeg) N8 gz_a38
    refine own_on st42 ?_
    show own_Go p e below F (T42.setTop (mkF m 60 #[.val (.int a), .val (.int b), .val (.int c1), .val (.int d), .val (.int n), .val (.int y0), .val (.int y1), .val (.int y2), .val (.int y3), .val (.int ((1 : Int32))), .unset, .unset, .unset, .unset] [(.ref a38)]))
    refine own_astore X42.here hx (hb hby at_60) rfl (L' := #[.val (.int a), .val (.int b), .val (.int c1), .val (.int d), .val (.int n), .val (.int y0), .val (.int y1), .val (.int y2), .val (.int y3), .val (.int ((1 : Int32))), .val (.ref a38), .unset, .unset, .unset]) rfl (pc' := 62) rfl ?_
    refine own_goto X42.here hx (hb hby at_62) (by decide) (pc' := 143) (by decide) ?_
    obtain ⟨T46, h46, X46, e46, E46, A46, D46, -, st46⟩ := newO X42 hx J44.1 J44.2.1 (hw _ (List.mem_of_getElem? (i := 6) rfl)) (hw _ (List.mem_of_getElem? (i := 7) rfl)) (hw _ (List.mem_of_getElem? (i := 8) rfl)) e42 (g := (mkF m 143 #[.val (.int a), .val (.int b), .val (.int c1), .val (.int d), .val (.int n), .val (.int y0), .val (.int y1), .val (.int y2), .val (.int y3), .val (.int ((1 : Int32))), .val (.ref a38), .unset, .unset, .unset] [])) rfl (hb hby at_143) (by decide) (by decide)
    obtain ⟨a46, g46⟩ : ∃ z, z = h42.size := ⟨_, rfl⟩
    rw [← g46] at A46 D46 st46
    have ne47 : a38 ≠ a46 := Nat.ne_of_lt (by rw [g46]; exact V42.lt)
    have ge48 : h0.size ≤ a46 := by rw [g46]; exact f43.1
    have sf46 := Safe.ext E46 J44.ch (Safe.new (Nat.le_of_eq g46.symm))
    have f49 := own_ext_trans f43 E46
    have f50 := V42.ext E46
    have J51 := J44.ext E46
    have F46_0 : Fld Z h46 a46 "java/lang/String" "value" "[B" (.null) := (D46 (Or.inr (hw _ (List.mem_of_getElem? (i := 21) rfl))) (ty := .array .byte) (by decide))
    have F46_1 : Fld Z h46 a46 "java/lang/String" "coder" "B" (.int ((0 : Int32))) := (D46 (Or.inr (hw _ (List.mem_of_getElem? (i := 22) rfl))) (ty := .byte) (by decide))
    refine own_on st46 ?_
    show own_Go p e below F (T46.setTop (mkF m 146 #[.val (.int a), .val (.int b), .val (.int c1), .val (.int d), .val (.int n), .val (.int y0), .val (.int y1), .val (.int y2), .val (.int y3), .val (.int ((1 : Int32))), .val (.ref a38), .unset, .unset, .unset] [(.ref a46)]))
    have gz_a46 : Z.heap.size ≤ a46 := Nat.le_trans EZ.1 ge48
    refine own_dup X46.here hx (hb hby at_146) rfl (pc' := 147) rfl ?_
    refine own_aload X46.here hx (hb hby at_147) rfl rfl (pc' := 149) rfl ?_
    obtain ⟨_, _, ⟨T52, L52, k52, n52⟩, -, X52, ⟨Lc52, hQ52, l52, y52, z52⟩, st52⟩ := X46.specialBack hx (y := (⟨"java/lang/String", "<init>", "([C)V"⟩ : MethodName)) rfl J51.2.1 (mvT J51.1 (hw _ (List.mem_of_getElem? (i := 9) rfl))) (mvT J51.1 (hw _ (List.mem_of_getElem? (i := 10) rfl))) (mvT J51.1 (hw _ (List.mem_of_getElem? (i := 11) rfl))) (by decide) (StrChars.Road.backV (s := s.setVm s.vm) (W := 1) J51.1 own_hws (kI := 4) (hw _ own_wiS) (cs := ([y0] : List Int32)) (bs := ([y0] : List Int32).map (fun c => c.toInt8.toInt32)) (n := 1) gz_a46 (Nat.le_trans gz_a46 (Nat.le_of_lt (A46).lt)) A46 F46_0 F46_1 f50 (O1.ext (own_ext_trans EZ f49)) P5 rfl rfl (by decide) (by decide) (fun c hc => by simp only [List.mem_cons, List.not_mem_nil, or_false] at hc; rcases hc with rfl <;> assumption) rfl (by decide) (by decide)) (g := (mkF m 149 #[.val (.int a), .val (.int b), .val (.int c1), .val (.int d), .val (.int n), .val (.int y0), .val (.int y1), .val (.int y2), .val (.int y3), .val (.int ((1 : Int32))), .val (.ref a38), .unset, .unset, .unset] [(.ref a38), (.ref a46), (.ref a46)])) rfl (by rw [hml]; rfl) (Steps.refl _) (a := a46) (argsL := [(.ref a38)]) (rest := [(.ref a46)]) (lenOf pdE1 rfl) rfl (by show 2 * 0 + _ ≤ _; exact Nat.le_of_eq rfl) (hb hby at_149) (fun _ _ => ⟨rfl, e46, (Nat.le_of_ble_eq_true rfl), (Nat.le_of_ble_eq_true rfl)⟩)
    dsimp only [Pt.U, Pt.locs, Pt.cells, Pt.slots] at X52 l52 y52 z52 st52 hQ52
    subst l52 y52 z52
    obtain ⟨rfl, N52, K52, A52, C52, t52, kb52, _, _, _, V52, R52⟩ := hQ52
    refine own_to st52 ?_
    show own_Go p e below F (T52.setTop (mkF m 152 #[.val (.int a), .val (.int b), .val (.int c1), .val (.int d), .val (.int n), .val (.int y0), .val (.int y1), .val (.int y2), .val (.int y3), .val (.int ((1 : Int32))), .val (.ref a38), .unset, .unset, .unset] [(.ref a46)]))
    have f53 := own_ext_keep f49 K52 (fun y hy => by simp only [List.mem_cons, List.not_mem_nil, or_false] at hy; rcases hy with rfl <;> assumption)
    have f54 := f50.keep K52 (by simp only [List.mem_cons, List.not_mem_nil, or_false, not_or]; exact ne47)
    have f55 := A46.keep K52
    have f58 := Safe.keep K52 (sfS sf46 sf0) J51.ch sf46
    have J59 := J51.keep K52 (sfS sf46 sf0)
    have N60 := Fr.app N45 N52
    have S61 : own_Str Z T52.heap a46 [y0] := ⟨t52, kb52, A52, V52, C52, R52, (fun c hc => by simp only [List.mem_cons, List.not_mem_nil, or_false] at hc; rcases hc with rfl <;> assumption), Nat.le_of_ble_eq_true rfl⟩
    refine own_astore X52.here hx (hb hby at_152) rfl (L' := #[.val (.int a), .val (.int b), .val (.int c1), .val (.int d), .val (.int n), .val (.int y0), .val (.int y1), .val (.int y2), .val (.int y3), .val (.int ((1 : Int32))), .val (.ref a38), .val (.ref a46), .unset, .unset]) rfl (pc' := 154) rfl ?_
    refine own_aload X52.here hx (hb hby at_154) rfl rfl (pc' := 156) rfl ?_
    by_cases h1 : y0 = 47
    · have S62 := S61
      obtain ⟨_, _, ⟨T63, L63, k63, n63⟩, -, X63, ⟨Lc63, hQ63, l63, y63, z63⟩, st63⟩ := Jvm.LawKit.callS X52 hx (y := (⟨"com/example/cartulary/cartulary/RegisterUris", "registerBase", "(Ljava/lang/String;)Ljava/lang/String;"⟩ : MethodName)) J59.2.1 (mvT J59.1 (hw _ (List.mem_of_getElem? (i := 27) rfl))) (mvT J59.1 (hw _ (List.mem_of_getElem? (i := 28) rfl))) (mvT J59.1 (hw _ (List.mem_of_getElem? (i := 29) rfl))) (mvT J59.1 (hw _ (List.mem_of_getElem? (i := 30) rfl))) (by decide) (backOf (W := 0) (rmRA l Z a0 hw a46 [y0] T52.heap (own_ext_trans EZ f53) z0 O1 P5 fm O2 rf S62 (by simp [own_li, h1]; try decide)) J59.1 (hw _ (List.mem_of_getElem? (i := 30) rfl)) (hw _ (List.mem_of_getElem? (i := 29) rfl)) (by decide) (by decide)) (g := (mkF m 156 #[.val (.int a), .val (.int b), .val (.int c1), .val (.int d), .val (.int n), .val (.int y0), .val (.int y1), .val (.int y2), .val (.int y3), .val (.int ((1 : Int32))), .val (.ref a38), .val (.ref a46), .unset, .unset] [(.ref a46)])) rfl (by rw [hml]; rfl) (argsL := [(.ref a46)]) (rest := []) (lenOf pdRU rfl) rfl (by show 2 * 0 + _ ≤ _; exact Nat.le_of_eq rfl) (hb hby at_156) (fun _ _ => ⟨rfl, rfl, (Nat.le_of_ble_eq_true rfl), (Nat.le_of_ble_eq_true rfl)⟩)
      dsimp only [Pt.U, Pt.locs, Pt.cells, Pt.slots] at X63 l63 y63 z63 st63 hQ63
      subst l63 y63 z63
      obtain ⟨rfl, N63, E63⟩ := hQ63
      refine own_on (st63) ?_
      show own_Go p e below F (T63.setTop (mkF m 159 #[.val (.int a), .val (.int b), .val (.int c1), .val (.int d), .val (.int n), .val (.int y0), .val (.int y1), .val (.int y2), .val (.int y3), .val (.int ((1 : Int32))), .val (.ref a38), .val (.ref a46), .unset, .unset] [(.ref a46)]))
      have N64 := Fr.app N60 N63
      refine own_astore X63.here hx (hb hby at_159) rfl (L' := #[.val (.int a), .val (.int b), .val (.int c1), .val (.int d), .val (.int n), .val (.int y0), .val (.int y1), .val (.int y2), .val (.int y3), .val (.int ((1 : Int32))), .val (.ref a38), .val (.ref a46), .val (.ref a46), .unset]) rfl (pc' := 161) rfl ?_
      refine own_iconst X63.here hx (hb hby at_161) (v := 0) rfl (pc' := 162) rfl ?_
      refine own_istore X63.here hx (hb hby at_162) (L' := #[.val (.int a), .val (.int b), .val (.int c1), .val (.int d), .val (.int n), .val (.int y0), .val (.int y1), .val (.int y2), .val (.int y3), .val (.int ((1 : Int32))), .val (.ref a38), .val (.ref a46), .val (.ref a46), .val (.int ((0 : Int32)))]) rfl (pc' := 164) rfl ?_
      refine own_iload X63.here hx (hb hby at_164) rfl (pc' := 166) rfl ?_
      refine own_iconst X63.here hx (hb hby at_166) (v := 1) rfl (pc' := 167) rfl ?_
      refine own_icmplt X63.here hx (hb hby at_167) (by decide) (pc' := 180) (by decide) (pc2 := 170) rfl (fun q => absurd q (by decide)) (fun q65 => ?_)
      refine own_iload X63.here hx (hb hby at_170) rfl (pc' := 172) rfl ?_
      refine own_bipush X63.here hx (hb hby at_172) (v := 47) rfl (pc' := 174) rfl ?_
      refine own_icmpne X63.here hx (hb hby at_174) (by decide) (pc' := 180) (by decide) (pc2 := 177) rfl (fun q => absurd h1 q) (fun q66 => ?_)
      refine own_iconst X63.here hx (hb hby at_177) (v := 1) rfl (pc' := 178) rfl ?_
      refine own_istore X63.here hx (hb hby at_178) (L' := #[.val (.int a), .val (.int b), .val (.int c1), .val (.int d), .val (.int n), .val (.int y0), .val (.int y1), .val (.int y2), .val (.int y3), .val (.int ((1 : Int32))), .val (.ref a38), .val (.ref a46), .val (.ref a46), .val (.int ((1 : Int32)))]) rfl (pc' := 180) rfl ?_
      refine own_iload X63.here hx (hb hby at_180) rfl (pc' := 182) rfl ?_
      refine own_iconst X63.here hx (hb hby at_182) (v := 2) rfl (pc' := 183) rfl ?_
      refine own_icmplt X63.here hx (hb hby at_183) (by decide) (pc' := 196) (by decide) (pc2 := 186) rfl (fun q67 => ?_) (fun q => absurd (by decide) q)
      refine own_iload X63.here hx (hb hby at_196) rfl (pc' := 198) rfl ?_
      refine own_iconst X63.here hx (hb hby at_198) (v := 3) rfl (pc' := 199) rfl ?_
      refine own_icmplt X63.here hx (hb hby at_199) (by decide) (pc' := 212) (by decide) (pc2 := 202) rfl (fun q68 => ?_) (fun q => absurd (by decide) q)
      refine own_iload X63.here hx (hb hby at_212) rfl (pc' := 214) rfl ?_
      refine own_iconst X63.here hx (hb hby at_214) (v := 4) rfl (pc' := 215) rfl ?_
      refine own_icmplt X63.here hx (hb hby at_215) (by decide) (pc' := 228) (by decide) (pc2 := 218) rfl (fun q69 => ?_) (fun q => absurd (by decide) q)
      refine own_aload X63.here hx (hb hby at_228) rfl rfl (pc' := 230) rfl ?_
      obtain ⟨cq70, kq70, qa70, qb70, qc70⟩ := isOf J59.1 E63 S62.exa
      obtain ⟨_, _, ⟨T70, L70, k70, n70⟩, -, X70, ⟨Lc70, hQ70, l70, y70, z70⟩, st70⟩ := X63.virtualBack hx (y := (⟨"java/lang/String", "length", "()I"⟩ : MethodName)) (z := (⟨"java/lang/String", "length", "()I"⟩ : MethodName)) J59.2.1 (mvT J59.1 (hw _ (List.mem_of_getElem? (i := 81) rfl))) (mvT J59.1 (hw _ (List.mem_of_getElem? (i := 37) rfl))) (notFace_of_selects (args := #[]) (mvT J59.1 (hw _ (List.mem_of_getElem? (i := 39) rfl)))) (mvT J59.1 (hw _ (List.mem_of_getElem? (i := 39) rfl))) (mvT J59.1 (hw _ (List.mem_of_getElem? (i := 38) rfl))) (by decide) (own_lenB (s := s.setVm s.vm) (W := 0) J59.1 hw S62 (O1.ext (own_ext_trans EZ f53)) P5 (by decide) (by decide)) qa70 qc70 (g := (mkF m 230 #[.val (.int a), .val (.int b), .val (.int c1), .val (.int d), .val (.int n), .val (.int y0), .val (.int y1), .val (.int y2), .val (.int y3), .val (.int ((1 : Int32))), .val (.ref a38), .val (.ref a46), .val (.ref a46), .val (.int ((1 : Int32)))] [(.ref a46)])) rfl (by rw [hml]; rfl) (Steps.refl _) (argsL := []) (rest := []) (lenOf pdI rfl) rfl (by show 2 * 0 + _ ≤ _; exact Nat.le_of_eq rfl) (hb hby at_230) (fun _ _ => ⟨rfl, E63, (Nat.le_of_ble_eq_true rfl), (Nat.le_of_ble_eq_true rfl)⟩)
      dsimp only [Pt.U, Pt.locs, Pt.cells, Pt.slots] at X70 l70 y70 z70 st70 hQ70
      subst l70 y70 z70
      obtain ⟨rfl, rfl, E70⟩ := hQ70
      refine own_to st70 ?_
      show own_Go p e below F (T70.setTop (mkF m 233 #[.val (.int a), .val (.int b), .val (.int c1), .val (.int d), .val (.int n), .val (.int y0), .val (.int y1), .val (.int y2), .val (.int y3), .val (.int ((1 : Int32))), .val (.ref a38), .val (.ref a46), .val (.ref a46), .val (.int ((1 : Int32)))] [(.int (Int32.ofNat 1))]))
      refine own_iload X70.here hx (hb hby at_233) rfl (pc' := 235) rfl ?_
      refine own_icmpeq X70.here hx (hb hby at_235) (by decide) (pc' := 240) (by decide) (pc2 := 238) rfl (fun q71 => ?_) (fun q => absurd rfl q)
      refine own_iload X70.here hx (hb hby at_240) rfl (pc' := 242) rfl ?_
      refine own_iconst X70.here hx (hb hby at_242) (v := 1) rfl (pc' := 243) rfl ?_
      refine own_icmplt X70.here hx (hb hby at_243) (by decide) (pc' := 257) (by decide) (pc2 := 246) rfl (fun q => absurd q (by decide)) (fun q72 => ?_)
      refine own_aload X70.here hx (hb hby at_246) rfl rfl (pc' := 248) rfl ?_
      refine own_iconst X70.here hx (hb hby at_248) (v := 0) rfl (pc' := 249) rfl ?_
      obtain ⟨cq73, kq73, qa73, qb73, qc73⟩ := isOf J59.1 E70 S62.exa
      obtain ⟨_, _, ⟨T73, L73, k73, n73⟩, -, X73, ⟨Lc73, hQ73, l73, y73, z73⟩, st73⟩ := X70.virtualBack hx (y := (⟨"java/lang/String", "charAt", "(I)C"⟩ : MethodName)) (z := (⟨"java/lang/String", "charAt", "(I)C"⟩ : MethodName)) J59.2.1 (mvT J59.1 (hw _ (List.mem_of_getElem? (i := 114) rfl))) (mvT J59.1 (hw _ (List.mem_of_getElem? (i := 115) rfl))) (notFace_of_selects (args := #[]) (mvT J59.1 (hw _ (List.mem_of_getElem? (i := 117) rfl)))) (mvT J59.1 (hw _ (List.mem_of_getElem? (i := 117) rfl))) (mvT J59.1 (hw _ (List.mem_of_getElem? (i := 116) rfl))) (by decide) (own_chB (s := s.setVm s.vm) (W := 0) J59.1 hw S62 (O1.ext (own_ext_trans EZ f53)) P5 (O2.ext (own_ext_trans EZ f53)) rf (i := 0) (Nat.le_of_ble_eq_true rfl) rfl (by decide) (by decide)) qa73 qc73 (g := (mkF m 249 #[.val (.int a), .val (.int b), .val (.int c1), .val (.int d), .val (.int n), .val (.int y0), .val (.int y1), .val (.int y2), .val (.int y3), .val (.int ((1 : Int32))), .val (.ref a38), .val (.ref a46), .val (.ref a46), .val (.int ((1 : Int32)))] [(.int ((0 : Int32))), (.ref a46)])) rfl (by rw [hml]; rfl) (Steps.refl _) (argsL := [(.int ((0 : Int32)))]) (rest := []) (lenOf pdCh rfl) rfl (by show 2 * 0 + _ ≤ _; exact Nat.le_of_eq rfl) (hb hby at_249) (fun _ _ => ⟨rfl, E70, (Nat.le_of_ble_eq_true rfl), (Nat.le_of_ble_eq_true rfl)⟩)
      dsimp only [Pt.U, Pt.locs, Pt.cells, Pt.slots] at X73 l73 y73 z73 st73 hQ73
      subst l73 y73 z73
      obtain ⟨rfl, rfl, E73⟩ := hQ73
      refine own_to st73 ?_
      show own_Go p e below F (T73.setTop (mkF m 252 #[.val (.int a), .val (.int b), .val (.int c1), .val (.int d), .val (.int n), .val (.int y0), .val (.int y1), .val (.int y2), .val (.int y3), .val (.int ((1 : Int32))), .val (.ref a38), .val (.ref a46), .val (.ref a46), .val (.int ((1 : Int32)))] [(.int y0)]))
      refine own_iload X73.here hx (hb hby at_252) rfl (pc' := 254) rfl ?_
      refine own_icmpne X73.here hx (hb hby at_254) (by decide) (pc' := 312) (by decide) (pc2 := 257) rfl (fun q => absurd rfl q) (fun q74 => ?_)
      refine own_iload X73.here hx (hb hby at_257) rfl (pc' := 259) rfl ?_
      refine own_iconst X73.here hx (hb hby at_259) (v := 2) rfl (pc' := 260) rfl ?_
      refine own_icmplt X73.here hx (hb hby at_260) (by decide) (pc' := 274) (by decide) (pc2 := 263) rfl (fun q75 => ?_) (fun q => absurd (by decide) q)
      refine own_iload X73.here hx (hb hby at_274) rfl (pc' := 276) rfl ?_
      refine own_iconst X73.here hx (hb hby at_276) (v := 3) rfl (pc' := 277) rfl ?_
      refine own_icmplt X73.here hx (hb hby at_277) (by decide) (pc' := 291) (by decide) (pc2 := 280) rfl (fun q76 => ?_) (fun q => absurd (by decide) q)
      refine own_iload X73.here hx (hb hby at_291) rfl (pc' := 293) rfl ?_
      refine own_iconst X73.here hx (hb hby at_293) (v := 4) rfl (pc' := 294) rfl ?_
      refine own_icmplt X73.here hx (hb hby at_294) (by decide) (pc' := 308) (by decide) (pc2 := 297) rfl (fun q77 => ?_) (fun q => absurd (by decide) q)
      refine own_iconst X73.here hx (hb hby at_308) (v := 1) rfl (pc' := 309) rfl ?_
      refine own_goto X73.here hx (hb hby at_309) (by decide) (pc' := 313) (by decide) ?_
      exact own_retZW X73 hx hlk hEL J59 E73 (by decide) hret (hb hby at_313) (fun t ht hC hE => hF t _ _ _ _ (by rw [ht]; exact ⟨rfl, (by simpa using N64)⟩) hC hE (by decide) (by decide))
    · have S78 := S61
      obtain ⟨_, _, ⟨T79, L79, k79, n79⟩, -, X79, hS79, hG79, ⟨Lc79, hQ79, l79, y79, z79, C79⟩, st79⟩ := callSS X52 hx (y := (⟨"com/example/cartulary/cartulary/RegisterUris", "registerBase", "(Ljava/lang/String;)Ljava/lang/String;"⟩ : MethodName)) J59.2.1 (mvT J59.1 (hw _ (List.mem_of_getElem? (i := 27) rfl))) (mvT J59.1 (hw _ (List.mem_of_getElem? (i := 28) rfl))) (mvT J59.1 (hw _ (List.mem_of_getElem? (i := 29) rfl))) (mvT J59.1 (hw _ (List.mem_of_getElem? (i := 30) rfl))) (by decide) (own_backW (W := 0) (rmRC l Z a0 hw hEL a46 [y0] T52.heap (own_ext_trans EZ f53) z0 O1 P5 fm O2 rf S78 (Nat.le_of_ble_eq_true rfl) (by simp [own_li, h1]; try decide)) J59.1 (hw _ (List.mem_of_getElem? (i := 30) rfl)) (hw _ (List.mem_of_getElem? (i := 29) rfl)) (by decide) (by decide) hEL J59.ch (fun _ q => nomatch q)) (g := (mkF m 156 #[.val (.int a), .val (.int b), .val (.int c1), .val (.int d), .val (.int n), .val (.int y0), .val (.int y1), .val (.int y2), .val (.int y3), .val (.int ((1 : Int32))), .val (.ref a38), .val (.ref a46), .unset, .unset] [(.ref a46)])) rfl (by rw [hml]; rfl) (argsL := [(.ref a46)]) (rest := []) (lenOf pdRU rfl) rfl (by show 2 * 0 + _ ≤ _; exact Nat.le_of_eq rfl) (hb hby at_156) (fun _ _ => ⟨rfl, rfl, (Nat.le_of_ble_eq_true rfl), (Nat.le_of_ble_eq_true rfl)⟩)
      dsimp only [Pt.U, Pt.locs, Pt.cells, Pt.slots] at X79 hS79 hG79 l79 y79 z79 C79 st79 hQ79
      subst l79 y79 z79
      replace X79 := (show Stand _ _ _ _ (s.setVm T79.vm) _ _ _ _ _ _ _ _ _ from X79)
      have I79 := J59.later hS79 (Nat.le_refl _) (by have q := hG79; rw [(rfl : _ = T52.heap)] at q; exact q) C79
      obtain ⟨y79, rfl, S79, E79, N79⟩ := hQ79
      refine own_to st79 ?_
      show own_Go p e below F (T79.setTop (mkF m 159 #[.val (.int a), .val (.int b), .val (.int c1), .val (.int d), .val (.int n), .val (.int y0), .val (.int y1), .val (.int y2), .val (.int y3), .val (.int ((1 : Int32))), .val (.ref a38), .val (.ref a46), .unset, .unset] [(.ref y79)]))
      have f80 := own_ext_trans f53 E79
      have N81 := Fr.app N60 N79
      refine own_astore X79.here hx (hb hby at_159) rfl (L' := #[.val (.int a), .val (.int b), .val (.int c1), .val (.int d), .val (.int n), .val (.int y0), .val (.int y1), .val (.int y2), .val (.int y3), .val (.int ((1 : Int32))), .val (.ref a38), .val (.ref a46), .val (.ref y79), .unset]) rfl (pc' := 161) rfl ?_
      refine own_iconst X79.here hx (hb hby at_161) (v := 0) rfl (pc' := 162) rfl ?_
      refine own_istore X79.here hx (hb hby at_162) (L' := #[.val (.int a), .val (.int b), .val (.int c1), .val (.int d), .val (.int n), .val (.int y0), .val (.int y1), .val (.int y2), .val (.int y3), .val (.int ((1 : Int32))), .val (.ref a38), .val (.ref a46), .val (.ref y79), .val (.int ((0 : Int32)))]) rfl (pc' := 164) rfl ?_
      refine own_iload X79.here hx (hb hby at_164) rfl (pc' := 166) rfl ?_
      refine own_iconst X79.here hx (hb hby at_166) (v := 1) rfl (pc' := 167) rfl ?_
      refine own_icmplt X79.here hx (hb hby at_167) (by decide) (pc' := 180) (by decide) (pc2 := 170) rfl (fun q => absurd q (by decide)) (fun q82 => ?_)
      refine own_iload X79.here hx (hb hby at_170) rfl (pc' := 172) rfl ?_
      refine own_bipush X79.here hx (hb hby at_172) (v := 47) rfl (pc' := 174) rfl ?_
      refine own_icmpne X79.here hx (hb hby at_174) (by decide) (pc' := 180) (by decide) (pc2 := 177) rfl (fun q83 => ?_) (fun q => absurd q h1)
      refine own_iload X79.here hx (hb hby at_180) rfl (pc' := 182) rfl ?_
      refine own_iconst X79.here hx (hb hby at_182) (v := 2) rfl (pc' := 183) rfl ?_
      refine own_icmplt X79.here hx (hb hby at_183) (by decide) (pc' := 196) (by decide) (pc2 := 186) rfl (fun q84 => ?_) (fun q => absurd (by decide) q)
      refine own_iload X79.here hx (hb hby at_196) rfl (pc' := 198) rfl ?_
      refine own_iconst X79.here hx (hb hby at_198) (v := 3) rfl (pc' := 199) rfl ?_
      refine own_icmplt X79.here hx (hb hby at_199) (by decide) (pc' := 212) (by decide) (pc2 := 202) rfl (fun q85 => ?_) (fun q => absurd (by decide) q)
      refine own_iload X79.here hx (hb hby at_212) rfl (pc' := 214) rfl ?_
      refine own_iconst X79.here hx (hb hby at_214) (v := 4) rfl (pc' := 215) rfl ?_
      refine own_icmplt X79.here hx (hb hby at_215) (by decide) (pc' := 228) (by decide) (pc2 := 218) rfl (fun q86 => ?_) (fun q => absurd (by decide) q)
      refine own_aload X79.here hx (hb hby at_228) rfl rfl (pc' := 230) rfl ?_
      obtain ⟨cq87, kq87, qa87, qb87, qc87⟩ := isOf I79.1 rfl S79.exa
      obtain ⟨_, _, ⟨T87, L87, k87, n87⟩, -, X87, ⟨Lc87, hQ87, l87, y87, z87⟩, st87⟩ := X79.virtualBack hx (y := (⟨"java/lang/String", "length", "()I"⟩ : MethodName)) (z := (⟨"java/lang/String", "length", "()I"⟩ : MethodName)) I79.2.1 (mvT I79.1 (hw _ (List.mem_of_getElem? (i := 81) rfl))) (mvT I79.1 (hw _ (List.mem_of_getElem? (i := 37) rfl))) (notFace_of_selects (args := #[]) (mvT I79.1 (hw _ (List.mem_of_getElem? (i := 39) rfl)))) (mvT I79.1 (hw _ (List.mem_of_getElem? (i := 39) rfl))) (mvT I79.1 (hw _ (List.mem_of_getElem? (i := 38) rfl))) (by decide) (own_lenB (s := s.setVm T79.vm) (W := 0) I79.1 hw S79 (O1.ext (own_ext_trans EZ f80)) P5 (by decide) (by decide)) qa87 qc87 (g := (mkF m 230 #[.val (.int a), .val (.int b), .val (.int c1), .val (.int d), .val (.int n), .val (.int y0), .val (.int y1), .val (.int y2), .val (.int y3), .val (.int ((1 : Int32))), .val (.ref a38), .val (.ref a46), .val (.ref y79), .val (.int ((0 : Int32)))] [(.ref y79)])) rfl (by rw [hml]; rfl) (Steps.refl _) (argsL := []) (rest := []) (lenOf pdI rfl) rfl (by show 2 * 0 + _ ≤ _; exact Nat.le_of_eq rfl) (hb hby at_230) (fun _ _ => ⟨rfl, rfl, (Nat.le_of_ble_eq_true rfl), (Nat.le_of_ble_eq_true rfl)⟩)
      dsimp only [Pt.U, Pt.locs, Pt.cells, Pt.slots] at X87 l87 y87 z87 st87 hQ87
      subst l87 y87 z87
      obtain ⟨rfl, rfl, E87⟩ := hQ87
      refine own_to st87 ?_
      show own_Go p e below F (T87.setTop (mkF m 233 #[.val (.int a), .val (.int b), .val (.int c1), .val (.int d), .val (.int n), .val (.int y0), .val (.int y1), .val (.int y2), .val (.int y3), .val (.int ((1 : Int32))), .val (.ref a38), .val (.ref a46), .val (.ref y79), .val (.int ((0 : Int32)))] [(.int (Int32.ofNat 0))]))
      refine own_iload X87.here hx (hb hby at_233) rfl (pc' := 235) rfl ?_
      refine own_icmpeq X87.here hx (hb hby at_235) (by decide) (pc' := 240) (by decide) (pc2 := 238) rfl (fun q88 => ?_) (fun q => absurd rfl q)
      refine own_iload X87.here hx (hb hby at_240) rfl (pc' := 242) rfl ?_
      refine own_iconst X87.here hx (hb hby at_242) (v := 1) rfl (pc' := 243) rfl ?_
      refine own_icmplt X87.here hx (hb hby at_243) (by decide) (pc' := 257) (by decide) (pc2 := 246) rfl (fun q89 => ?_) (fun q => absurd (by decide) q)
      refine own_iload X87.here hx (hb hby at_257) rfl (pc' := 259) rfl ?_
      refine own_iconst X87.here hx (hb hby at_259) (v := 2) rfl (pc' := 260) rfl ?_
      refine own_icmplt X87.here hx (hb hby at_260) (by decide) (pc' := 274) (by decide) (pc2 := 263) rfl (fun q90 => ?_) (fun q => absurd (by decide) q)
      refine own_iload X87.here hx (hb hby at_274) rfl (pc' := 276) rfl ?_
      refine own_iconst X87.here hx (hb hby at_276) (v := 3) rfl (pc' := 277) rfl ?_
      refine own_icmplt X87.here hx (hb hby at_277) (by decide) (pc' := 291) (by decide) (pc2 := 280) rfl (fun q91 => ?_) (fun q => absurd (by decide) q)
      refine own_iload X87.here hx (hb hby at_291) rfl (pc' := 293) rfl ?_
      refine own_iconst X87.here hx (hb hby at_293) (v := 4) rfl (pc' := 294) rfl ?_
      refine own_icmplt X87.here hx (hb hby at_294) (by decide) (pc' := 308) (by decide) (pc2 := 297) rfl (fun q92 => ?_) (fun q => absurd (by decide) q)
      refine own_iconst X87.here hx (hb hby at_308) (v := 1) rfl (pc' := 309) rfl ?_
      refine own_goto X87.here hx (hb hby at_309) (by decide) (pc' := 313) (by decide) ?_
      exact own_retZW X87 hx hlk hEL I79 E87 (by decide) hret (hb hby at_313) (fun t ht hC hE => hF t _ _ _ _ (by rw [ht]; exact ⟨rfl, (by simpa using N81)⟩) hC hE (by decide) (by decide))
  · show own_Go p e below F (T7.setTop (mkF m 33 #[.val (.int a), .val (.int b), .val (.int c1), .val (.int d), .val (.int n), .val (.int y0), .val (.int y1), .val (.int y2), .val (.int y3), .val (.int ((2 : Int32))), .unset, .unset, .unset, .unset] []))
    refine own_iload X7.here hx (hb hby at_33) rfl (pc' := 35) rfl ?_
    refine own_ifne X7.here hx (hb hby at_35) (by decide) (pc' := 46) (by decide) (pc2 := 38) rfl (fun q93 => ?_) (fun q => absurd q (by decide))
    refine own_iload X7.here hx (hb hby at_46) rfl (pc' := 48) rfl ?_
    refine own_iconst X7.here hx (hb hby at_48) (v := 1) rfl (pc' := 49) rfl ?_
    refine own_icmpne X7.here hx (hb hby at_49) (by decide) (pc' := 65) (by decide) (pc2 := 52) rfl (fun q94 => ?_) (fun q => absurd q (by decide))
    refine own_iload X7.here hx (hb hby at_65) rfl (pc' := 67) rfl ?_
    refine own_iconst X7.here hx (hb hby at_67) (v := 2) rfl (pc' := 68) rfl ?_
    refine own_icmpne X7.here hx (hb hby at_68) (by decide) (pc' := 89) (by decide) (pc2 := 71) rfl (fun q => absurd rfl q) (fun q95 => ?_)
    refine own_iconst X7.here hx (hb hby at_71) (v := 2) rfl (pc' := 72) rfl ?_
    obtain ⟨T96, h96, k96, X96, e96, E96, A96, st96⟩ := newP X7 hx I0.1 (hw _ (List.mem_of_getElem? (i := 5) rfl)) E7 (g := (mkF m 72 #[.val (.int a), .val (.int b), .val (.int c1), .val (.int d), .val (.int n), .val (.int y0), .val (.int y1), .val (.int y2), .val (.int y3), .val (.int ((2 : Int32))), .unset, .unset, .unset, .unset] [(.int ((2 : Int32)))])) rfl (hb hby at_72) rfl (by decide : ¬ ((2 : Int32) < (0 : Int32))) (cap := 2) (by decide) (by decide) (by decide) (by decide)
    obtain ⟨a96, g96⟩ : ∃ z, z = h0.size := ⟨_, rfl⟩
    rw [← g96] at A96 st96
    have ge97 : h0.size ≤ a96 := by rw [g96]; exact M0.1
    have f98 := own_ext_trans M0 E96
    have J99 := I0.ext E96
    have V96 : Arv Z h96 a96 k96 .char (2 : Int32) [.int (0 : Int32), .int (0 : Int32)] (.int (0 : Int32)) := (Arv.new A96 (by decide)).pad (pad_rep [] (.int (0 : Int32)) 2)
    refine own_on st96 ?_
    show own_Go p e below F (T96.setTop (mkF m 74 #[.val (.int a), .val (.int b), .val (.int c1), .val (.int d), .val (.int n), .val (.int y0), .val (.int y1), .val (.int y2), .val (.int y3), .val (.int ((2 : Int32))), .unset, .unset, .unset, .unset] [(.ref a96)]))
    have gz_a96 : Z.heap.size ≤ a96 := Nat.le_trans EZ.1 ge97
    refine own_dup X96.here hx (hb hby at_74) rfl (pc' := 75) rfl ?_
    refine own_iconst X96.here hx (hb hby at_75) (v := 0) rfl (pc' := 76) rfl ?_
    refine own_iload X96.here hx (hb hby at_76) rfl (pc' := 78) rfl ?_
    obtain ⟨T100, h100, X100, e100, W100, V100, st100⟩ := own_cast X96 hx J99.1 e96 V96 (i := 0) rfl (Nat.le_of_ble_eq_true rfl) (by decide) ny0 (g := (mkF m 78 #[.val (.int a), .val (.int b), .val (.int c1), .val (.int d), .val (.int n), .val (.int y0), .val (.int y1), .val (.int y2), .val (.int y3), .val (.int ((2 : Int32))), .unset, .unset, .unset, .unset] [(.int y0), (.int ((0 : Int32))), (.ref a96), (.ref a96)])) rfl rfl (hb hby at_78)
    replace V100 : Arv Z h100 a96 k96 .char (2 : Int32) [.int y0, .int (0 : Int32)] (.int (0 : Int32)) := V100
    have f101 := own_ext_wr f98 W100 ge97
    have J102 := J99.wr W100 (Safe.arv J99.1.alike V96 (by decide))
    have N103 := own_Fr_snoc (sl := ((0 : Int32)).toNatClampNeg) N8 gz_a96
    refine own_on st100 ?_
    show own_Go p e below F (T100.setTop (mkF m 79 #[.val (.int a), .val (.int b), .val (.int c1), .val (.int d), .val (.int n), .val (.int y0), .val (.int y1), .val (.int y2), .val (.int y3), .val (.int ((2 : Int32))), .unset, .unset, .unset, .unset] [(.ref a96)]))
    refine own_dup X100.here hx (hb hby at_79) rfl (pc' := 80) rfl ?_
    refine own_iconst X100.here hx (hb hby at_80) (v := 1) rfl (pc' := 81) rfl ?_
    refine own_iload X100.here hx (hb hby at_81) rfl (pc' := 83) rfl ?_
    obtain ⟨T104, h104, X104, e104, W104, V104, st104⟩ := own_cast X100 hx J102.1 e100 V100 (i := 1) rfl (Nat.le_of_ble_eq_true rfl) (by decide) ny1 (g := (mkF m 83 #[.val (.int a), .val (.int b), .val (.int c1), .val (.int d), .val (.int n), .val (.int y0), .val (.int y1), .val (.int y2), .val (.int y3), .val (.int ((2 : Int32))), .unset, .unset, .unset, .unset] [(.int y1), (.int ((1 : Int32))), (.ref a96), (.ref a96)])) rfl rfl (hb hby at_83)
    replace V104 : Arv Z h104 a96 k96 .char (2 : Int32) [.int y0, .int y1] (.int (0 : Int32)) := V104
    have f105 := own_ext_wr f101 W104 ge97
    have J106 := J102.wr W104 (Safe.arv J102.1.alike V100 (by decide))
    have N107 := own_Fr_snoc (sl := ((1 : Int32)).toNatClampNeg) N103 gz_a96
    refine own_on st104 ?_
    show own_Go p e below F (T104.setTop (mkF m 84 #[.val (.int a), .val (.int b), .val (.int c1), .val (.int d), .val (.int n), .val (.int y0), .val (.int y1), .val (.int y2), .val (.int y3), .val (.int ((2 : Int32))), .unset, .unset, .unset, .unset] [(.ref a96)]))
    refine own_astore X104.here hx (hb hby at_84) rfl (L' := #[.val (.int a), .val (.int b), .val (.int c1), .val (.int d), .val (.int n), .val (.int y0), .val (.int y1), .val (.int y2), .val (.int y3), .val (.int ((2 : Int32))), .val (.ref a96), .unset, .unset, .unset]) rfl (pc' := 86) rfl ?_
    refine own_goto X104.here hx (hb hby at_86) (by decide) (pc' := 143) (by decide) ?_
    obtain ⟨T108, h108, X108, e108, E108, A108, D108, -, st108⟩ := newO X104 hx J106.1 J106.2.1 (hw _ (List.mem_of_getElem? (i := 6) rfl)) (hw _ (List.mem_of_getElem? (i := 7) rfl)) (hw _ (List.mem_of_getElem? (i := 8) rfl)) e104 (g := (mkF m 143 #[.val (.int a), .val (.int b), .val (.int c1), .val (.int d), .val (.int n), .val (.int y0), .val (.int y1), .val (.int y2), .val (.int y3), .val (.int ((2 : Int32))), .val (.ref a96), .unset, .unset, .unset] [])) rfl (hb hby at_143) (by decide) (by decide)
    obtain ⟨a108, g108⟩ : ∃ z, z = h104.size := ⟨_, rfl⟩
    rw [← g108] at A108 D108 st108
    have ne109 : a96 ≠ a108 := Nat.ne_of_lt (by rw [g108]; exact V104.lt)
    have ge110 : h0.size ≤ a108 := by rw [g108]; exact f105.1
    have sf108 := Safe.ext E108 J106.ch (Safe.new (Nat.le_of_eq g108.symm))
    have f111 := own_ext_trans f105 E108
    have f112 := V104.ext E108
    have J113 := J106.ext E108
    have F108_0 : Fld Z h108 a108 "java/lang/String" "value" "[B" (.null) := (D108 (Or.inr (hw _ (List.mem_of_getElem? (i := 21) rfl))) (ty := .array .byte) (by decide))
    have F108_1 : Fld Z h108 a108 "java/lang/String" "coder" "B" (.int ((0 : Int32))) := (D108 (Or.inr (hw _ (List.mem_of_getElem? (i := 22) rfl))) (ty := .byte) (by decide))
    refine own_on st108 ?_
    show own_Go p e below F (T108.setTop (mkF m 146 #[.val (.int a), .val (.int b), .val (.int c1), .val (.int d), .val (.int n), .val (.int y0), .val (.int y1), .val (.int y2), .val (.int y3), .val (.int ((2 : Int32))), .val (.ref a96), .unset, .unset, .unset] [(.ref a108)]))
    have gz_a108 : Z.heap.size ≤ a108 := Nat.le_trans EZ.1 ge110
    refine own_dup X108.here hx (hb hby at_146) rfl (pc' := 147) rfl ?_
    refine own_aload X108.here hx (hb hby at_147) rfl rfl (pc' := 149) rfl ?_
    obtain ⟨_, _, ⟨T114, L114, k114, n114⟩, -, X114, ⟨Lc114, hQ114, l114, y114, z114⟩, st114⟩ := X108.specialBack hx (y := (⟨"java/lang/String", "<init>", "([C)V"⟩ : MethodName)) rfl J113.2.1 (mvT J113.1 (hw _ (List.mem_of_getElem? (i := 9) rfl))) (mvT J113.1 (hw _ (List.mem_of_getElem? (i := 10) rfl))) (mvT J113.1 (hw _ (List.mem_of_getElem? (i := 11) rfl))) (by decide) (StrChars.Road.backV (s := s.setVm s.vm) (W := 1) J113.1 own_hws (kI := 4) (hw _ own_wiS) (cs := ([y0, y1] : List Int32)) (bs := ([y0, y1] : List Int32).map (fun c => c.toInt8.toInt32)) (n := 2) gz_a108 (Nat.le_trans gz_a108 (Nat.le_of_lt (A108).lt)) A108 F108_0 F108_1 f112 (O1.ext (own_ext_trans EZ f111)) P5 rfl rfl (by decide) (by decide) (fun c hc => by simp only [List.mem_cons, List.not_mem_nil, or_false] at hc; rcases hc with rfl | rfl <;> assumption) rfl (by decide) (by decide)) (g := (mkF m 149 #[.val (.int a), .val (.int b), .val (.int c1), .val (.int d), .val (.int n), .val (.int y0), .val (.int y1), .val (.int y2), .val (.int y3), .val (.int ((2 : Int32))), .val (.ref a96), .unset, .unset, .unset] [(.ref a96), (.ref a108), (.ref a108)])) rfl (by rw [hml]; rfl) (Steps.refl _) (a := a108) (argsL := [(.ref a96)]) (rest := [(.ref a108)]) (lenOf pdE1 rfl) rfl (by show 2 * 0 + _ ≤ _; exact Nat.le_of_eq rfl) (hb hby at_149) (fun _ _ => ⟨rfl, e108, (Nat.le_of_ble_eq_true rfl), (Nat.le_of_ble_eq_true rfl)⟩)
    dsimp only [Pt.U, Pt.locs, Pt.cells, Pt.slots] at X114 l114 y114 z114 st114 hQ114
    subst l114 y114 z114
    obtain ⟨rfl, N114, K114, A114, C114, t114, kb114, _, _, _, V114, R114⟩ := hQ114
    refine own_to st114 ?_
    show own_Go p e below F (T114.setTop (mkF m 152 #[.val (.int a), .val (.int b), .val (.int c1), .val (.int d), .val (.int n), .val (.int y0), .val (.int y1), .val (.int y2), .val (.int y3), .val (.int ((2 : Int32))), .val (.ref a96), .unset, .unset, .unset] [(.ref a108)]))
    have f115 := own_ext_keep f111 K114 (fun y hy => by simp only [List.mem_cons, List.not_mem_nil, or_false] at hy; rcases hy with rfl <;> assumption)
    have f116 := f112.keep K114 (by simp only [List.mem_cons, List.not_mem_nil, or_false, not_or]; exact ne109)
    have f117 := A108.keep K114
    have f120 := Safe.keep K114 (sfS sf108 sf0) J113.ch sf108
    have J121 := J113.keep K114 (sfS sf108 sf0)
    have N122 := Fr.app N107 N114
    have S123 : own_Str Z T114.heap a108 [y0, y1] := ⟨t114, kb114, A114, V114, C114, R114, (fun c hc => by simp only [List.mem_cons, List.not_mem_nil, or_false] at hc; rcases hc with rfl | rfl <;> assumption), Nat.le_of_ble_eq_true rfl⟩
    refine own_astore X114.here hx (hb hby at_152) rfl (L' := #[.val (.int a), .val (.int b), .val (.int c1), .val (.int d), .val (.int n), .val (.int y0), .val (.int y1), .val (.int y2), .val (.int y3), .val (.int ((2 : Int32))), .val (.ref a96), .val (.ref a108), .unset, .unset]) rfl (pc' := 154) rfl ?_
    refine own_aload X114.here hx (hb hby at_154) rfl rfl (pc' := 156) rfl ?_
    by_cases h2 : y1 = 47
    · have S124 := S123
      obtain ⟨_, _, ⟨T125, L125, k125, n125⟩, -, X125, ⟨Lc125, hQ125, l125, y125, z125⟩, st125⟩ := Jvm.LawKit.callS X114 hx (y := (⟨"com/example/cartulary/cartulary/RegisterUris", "registerBase", "(Ljava/lang/String;)Ljava/lang/String;"⟩ : MethodName)) J121.2.1 (mvT J121.1 (hw _ (List.mem_of_getElem? (i := 27) rfl))) (mvT J121.1 (hw _ (List.mem_of_getElem? (i := 28) rfl))) (mvT J121.1 (hw _ (List.mem_of_getElem? (i := 29) rfl))) (mvT J121.1 (hw _ (List.mem_of_getElem? (i := 30) rfl))) (by decide) (backOf (W := 0) (rmRA l Z a0 hw a108 [y0, y1] T114.heap (own_ext_trans EZ f115) z0 O1 P5 fm O2 rf S124 (by simp [own_li, h2]; try decide)) J121.1 (hw _ (List.mem_of_getElem? (i := 30) rfl)) (hw _ (List.mem_of_getElem? (i := 29) rfl)) (by decide) (by decide)) (g := (mkF m 156 #[.val (.int a), .val (.int b), .val (.int c1), .val (.int d), .val (.int n), .val (.int y0), .val (.int y1), .val (.int y2), .val (.int y3), .val (.int ((2 : Int32))), .val (.ref a96), .val (.ref a108), .unset, .unset] [(.ref a108)])) rfl (by rw [hml]; rfl) (argsL := [(.ref a108)]) (rest := []) (lenOf pdRU rfl) rfl (by show 2 * 0 + _ ≤ _; exact Nat.le_of_eq rfl) (hb hby at_156) (fun _ _ => ⟨rfl, rfl, (Nat.le_of_ble_eq_true rfl), (Nat.le_of_ble_eq_true rfl)⟩)
      dsimp only [Pt.U, Pt.locs, Pt.cells, Pt.slots] at X125 l125 y125 z125 st125 hQ125
      subst l125 y125 z125
      obtain ⟨rfl, N125, E125⟩ := hQ125
      refine own_on (st125) ?_
      show own_Go p e below F (T125.setTop (mkF m 159 #[.val (.int a), .val (.int b), .val (.int c1), .val (.int d), .val (.int n), .val (.int y0), .val (.int y1), .val (.int y2), .val (.int y3), .val (.int ((2 : Int32))), .val (.ref a96), .val (.ref a108), .unset, .unset] [(.ref a108)]))
      have N126 := Fr.app N122 N125
      refine own_astore X125.here hx (hb hby at_159) rfl (L' := #[.val (.int a), .val (.int b), .val (.int c1), .val (.int d), .val (.int n), .val (.int y0), .val (.int y1), .val (.int y2), .val (.int y3), .val (.int ((2 : Int32))), .val (.ref a96), .val (.ref a108), .val (.ref a108), .unset]) rfl (pc' := 161) rfl ?_
      refine own_iconst X125.here hx (hb hby at_161) (v := 0) rfl (pc' := 162) rfl ?_
      refine own_istore X125.here hx (hb hby at_162) (L' := #[.val (.int a), .val (.int b), .val (.int c1), .val (.int d), .val (.int n), .val (.int y0), .val (.int y1), .val (.int y2), .val (.int y3), .val (.int ((2 : Int32))), .val (.ref a96), .val (.ref a108), .val (.ref a108), .val (.int ((0 : Int32)))]) rfl (pc' := 164) rfl ?_
      refine own_iload X125.here hx (hb hby at_164) rfl (pc' := 166) rfl ?_
      refine own_iconst X125.here hx (hb hby at_166) (v := 1) rfl (pc' := 167) rfl ?_
      refine own_icmplt X125.here hx (hb hby at_167) (by decide) (pc' := 180) (by decide) (pc2 := 170) rfl (fun q => absurd q (by decide)) (fun q127 => ?_)
      refine own_iload X125.here hx (hb hby at_170) rfl (pc' := 172) rfl ?_
      refine own_bipush X125.here hx (hb hby at_172) (v := 47) rfl (pc' := 174) rfl ?_
      have J1_127 : ∀ (zz : Int32), own_Go p e below F (T125.setTop (mkF m 180 #[.val (.int a), .val (.int b), .val (.int c1), .val (.int d), .val (.int n), .val (.int y0), .val (.int y1), .val (.int y2), .val (.int y3), .val (.int ((2 : Int32))), .val (.ref a96), .val (.ref a108), .val (.ref a108), .val (.int zz)] [])) := by
        intro zz
        refine own_iload X125.here hx (hb hby at_180) rfl (pc' := 182) rfl ?_
        refine own_iconst X125.here hx (hb hby at_182) (v := 2) rfl (pc' := 183) rfl ?_
        refine own_icmplt X125.here hx (hb hby at_183) (by decide) (pc' := 196) (by decide) (pc2 := 186) rfl (fun q => absurd q (by decide)) (fun q128 => ?_)
        refine own_iload X125.here hx (hb hby at_186) rfl (pc' := 188) rfl ?_
        refine own_bipush X125.here hx (hb hby at_188) (v := 47) rfl (pc' := 190) rfl ?_
        refine own_icmpne X125.here hx (hb hby at_190) (by decide) (pc' := 196) (by decide) (pc2 := 193) rfl (fun q => absurd h2 q) (fun q129 => ?_)
        refine own_iconst X125.here hx (hb hby at_193) (v := 2) rfl (pc' := 194) rfl ?_
        refine own_istore X125.here hx (hb hby at_194) (L' := #[.val (.int a), .val (.int b), .val (.int c1), .val (.int d), .val (.int n), .val (.int y0), .val (.int y1), .val (.int y2), .val (.int y3), .val (.int ((2 : Int32))), .val (.ref a96), .val (.ref a108), .val (.ref a108), .val (.int ((2 : Int32)))]) rfl (pc' := 196) rfl ?_
        refine own_iload X125.here hx (hb hby at_196) rfl (pc' := 198) rfl ?_
        refine own_iconst X125.here hx (hb hby at_198) (v := 3) rfl (pc' := 199) rfl ?_
        refine own_icmplt X125.here hx (hb hby at_199) (by decide) (pc' := 212) (by decide) (pc2 := 202) rfl (fun q130 => ?_) (fun q => absurd (by decide) q)
        refine own_iload X125.here hx (hb hby at_212) rfl (pc' := 214) rfl ?_
        refine own_iconst X125.here hx (hb hby at_214) (v := 4) rfl (pc' := 215) rfl ?_
        refine own_icmplt X125.here hx (hb hby at_215) (by decide) (pc' := 228) (by decide) (pc2 := 218) rfl (fun q131 => ?_) (fun q => absurd (by decide) q)
        refine own_aload X125.here hx (hb hby at_228) rfl rfl (pc' := 230) rfl ?_
        obtain ⟨cq132, kq132, qa132, qb132, qc132⟩ := isOf J121.1 E125 S124.exa
        obtain ⟨_, _, ⟨T132, L132, k132, n132⟩, -, X132, ⟨Lc132, hQ132, l132, y132, z132⟩, st132⟩ := X125.virtualBack hx (y := (⟨"java/lang/String", "length", "()I"⟩ : MethodName)) (z := (⟨"java/lang/String", "length", "()I"⟩ : MethodName)) J121.2.1 (mvT J121.1 (hw _ (List.mem_of_getElem? (i := 81) rfl))) (mvT J121.1 (hw _ (List.mem_of_getElem? (i := 37) rfl))) (notFace_of_selects (args := #[]) (mvT J121.1 (hw _ (List.mem_of_getElem? (i := 39) rfl)))) (mvT J121.1 (hw _ (List.mem_of_getElem? (i := 39) rfl))) (mvT J121.1 (hw _ (List.mem_of_getElem? (i := 38) rfl))) (by decide) (own_lenB (s := s.setVm s.vm) (W := 0) J121.1 hw S124 (O1.ext (own_ext_trans EZ f115)) P5 (by decide) (by decide)) qa132 qc132 (g := (mkF m 230 #[.val (.int a), .val (.int b), .val (.int c1), .val (.int d), .val (.int n), .val (.int y0), .val (.int y1), .val (.int y2), .val (.int y3), .val (.int ((2 : Int32))), .val (.ref a96), .val (.ref a108), .val (.ref a108), .val (.int ((2 : Int32)))] [(.ref a108)])) rfl (by rw [hml]; rfl) (Steps.refl _) (argsL := []) (rest := []) (lenOf pdI rfl) rfl (by show 2 * 0 + _ ≤ _; exact Nat.le_of_eq rfl) (hb hby at_230) (fun _ _ => ⟨rfl, E125, (Nat.le_of_ble_eq_true rfl), (Nat.le_of_ble_eq_true rfl)⟩)
        dsimp only [Pt.U, Pt.locs, Pt.cells, Pt.slots] at X132 l132 y132 z132 st132 hQ132
        subst l132 y132 z132
        obtain ⟨rfl, rfl, E132⟩ := hQ132
        refine own_to st132 ?_
        show own_Go p e below F (T132.setTop (mkF m 233 #[.val (.int a), .val (.int b), .val (.int c1), .val (.int d), .val (.int n), .val (.int y0), .val (.int y1), .val (.int y2), .val (.int y3), .val (.int ((2 : Int32))), .val (.ref a96), .val (.ref a108), .val (.ref a108), .val (.int ((2 : Int32)))] [(.int (Int32.ofNat 2))]))
        refine own_iload X132.here hx (hb hby at_233) rfl (pc' := 235) rfl ?_
        refine own_icmpeq X132.here hx (hb hby at_235) (by decide) (pc' := 240) (by decide) (pc2 := 238) rfl (fun q133 => ?_) (fun q => absurd rfl q)
        refine own_iload X132.here hx (hb hby at_240) rfl (pc' := 242) rfl ?_
        refine own_iconst X132.here hx (hb hby at_242) (v := 1) rfl (pc' := 243) rfl ?_
        refine own_icmplt X132.here hx (hb hby at_243) (by decide) (pc' := 257) (by decide) (pc2 := 246) rfl (fun q => absurd q (by decide)) (fun q134 => ?_)
        refine own_aload X132.here hx (hb hby at_246) rfl rfl (pc' := 248) rfl ?_
        refine own_iconst X132.here hx (hb hby at_248) (v := 0) rfl (pc' := 249) rfl ?_
        obtain ⟨cq135, kq135, qa135, qb135, qc135⟩ := isOf J121.1 E132 S124.exa
        obtain ⟨_, _, ⟨T135, L135, k135, n135⟩, -, X135, ⟨Lc135, hQ135, l135, y135, z135⟩, st135⟩ := X132.virtualBack hx (y := (⟨"java/lang/String", "charAt", "(I)C"⟩ : MethodName)) (z := (⟨"java/lang/String", "charAt", "(I)C"⟩ : MethodName)) J121.2.1 (mvT J121.1 (hw _ (List.mem_of_getElem? (i := 114) rfl))) (mvT J121.1 (hw _ (List.mem_of_getElem? (i := 115) rfl))) (notFace_of_selects (args := #[]) (mvT J121.1 (hw _ (List.mem_of_getElem? (i := 117) rfl)))) (mvT J121.1 (hw _ (List.mem_of_getElem? (i := 117) rfl))) (mvT J121.1 (hw _ (List.mem_of_getElem? (i := 116) rfl))) (by decide) (own_chB (s := s.setVm s.vm) (W := 0) J121.1 hw S124 (O1.ext (own_ext_trans EZ f115)) P5 (O2.ext (own_ext_trans EZ f115)) rf (i := 0) (Nat.le_of_ble_eq_true rfl) rfl (by decide) (by decide)) qa135 qc135 (g := (mkF m 249 #[.val (.int a), .val (.int b), .val (.int c1), .val (.int d), .val (.int n), .val (.int y0), .val (.int y1), .val (.int y2), .val (.int y3), .val (.int ((2 : Int32))), .val (.ref a96), .val (.ref a108), .val (.ref a108), .val (.int ((2 : Int32)))] [(.int ((0 : Int32))), (.ref a108)])) rfl (by rw [hml]; rfl) (Steps.refl _) (argsL := [(.int ((0 : Int32)))]) (rest := []) (lenOf pdCh rfl) rfl (by show 2 * 0 + _ ≤ _; exact Nat.le_of_eq rfl) (hb hby at_249) (fun _ _ => ⟨rfl, E132, (Nat.le_of_ble_eq_true rfl), (Nat.le_of_ble_eq_true rfl)⟩)
        dsimp only [Pt.U, Pt.locs, Pt.cells, Pt.slots] at X135 l135 y135 z135 st135 hQ135
        subst l135 y135 z135
        obtain ⟨rfl, rfl, E135⟩ := hQ135
        refine own_to st135 ?_
        show own_Go p e below F (T135.setTop (mkF m 252 #[.val (.int a), .val (.int b), .val (.int c1), .val (.int d), .val (.int n), .val (.int y0), .val (.int y1), .val (.int y2), .val (.int y3), .val (.int ((2 : Int32))), .val (.ref a96), .val (.ref a108), .val (.ref a108), .val (.int ((2 : Int32)))] [(.int y0)]))
        refine own_iload X135.here hx (hb hby at_252) rfl (pc' := 254) rfl ?_
        refine own_icmpne X135.here hx (hb hby at_254) (by decide) (pc' := 312) (by decide) (pc2 := 257) rfl (fun q => absurd rfl q) (fun q136 => ?_)
        refine own_iload X135.here hx (hb hby at_257) rfl (pc' := 259) rfl ?_
        refine own_iconst X135.here hx (hb hby at_259) (v := 2) rfl (pc' := 260) rfl ?_
        refine own_icmplt X135.here hx (hb hby at_260) (by decide) (pc' := 274) (by decide) (pc2 := 263) rfl (fun q => absurd q (by decide)) (fun q137 => ?_)
        refine own_aload X135.here hx (hb hby at_263) rfl rfl (pc' := 265) rfl ?_
        refine own_iconst X135.here hx (hb hby at_265) (v := 1) rfl (pc' := 266) rfl ?_
        obtain ⟨cq138, kq138, qa138, qb138, qc138⟩ := isOf J121.1 E135 S124.exa
        obtain ⟨_, _, ⟨T138, L138, k138, n138⟩, -, X138, ⟨Lc138, hQ138, l138, y138, z138⟩, st138⟩ := X135.virtualBack hx (y := (⟨"java/lang/String", "charAt", "(I)C"⟩ : MethodName)) (z := (⟨"java/lang/String", "charAt", "(I)C"⟩ : MethodName)) J121.2.1 (mvT J121.1 (hw _ (List.mem_of_getElem? (i := 114) rfl))) (mvT J121.1 (hw _ (List.mem_of_getElem? (i := 115) rfl))) (notFace_of_selects (args := #[]) (mvT J121.1 (hw _ (List.mem_of_getElem? (i := 117) rfl)))) (mvT J121.1 (hw _ (List.mem_of_getElem? (i := 117) rfl))) (mvT J121.1 (hw _ (List.mem_of_getElem? (i := 116) rfl))) (by decide) (own_chB (s := s.setVm s.vm) (W := 0) J121.1 hw S124 (O1.ext (own_ext_trans EZ f115)) P5 (O2.ext (own_ext_trans EZ f115)) rf (i := 1) (Nat.le_of_ble_eq_true rfl) rfl (by decide) (by decide)) qa138 qc138 (g := (mkF m 266 #[.val (.int a), .val (.int b), .val (.int c1), .val (.int d), .val (.int n), .val (.int y0), .val (.int y1), .val (.int y2), .val (.int y3), .val (.int ((2 : Int32))), .val (.ref a96), .val (.ref a108), .val (.ref a108), .val (.int ((2 : Int32)))] [(.int ((1 : Int32))), (.ref a108)])) rfl (by rw [hml]; rfl) (Steps.refl _) (argsL := [(.int ((1 : Int32)))]) (rest := []) (lenOf pdCh rfl) rfl (by show 2 * 0 + _ ≤ _; exact Nat.le_of_eq rfl) (hb hby at_266) (fun _ _ => ⟨rfl, E135, (Nat.le_of_ble_eq_true rfl), (Nat.le_of_ble_eq_true rfl)⟩)
        dsimp only [Pt.U, Pt.locs, Pt.cells, Pt.slots] at X138 l138 y138 z138 st138 hQ138
        subst l138 y138 z138
        obtain ⟨rfl, rfl, E138⟩ := hQ138
        refine own_to st138 ?_
        show own_Go p e below F (T138.setTop (mkF m 269 #[.val (.int a), .val (.int b), .val (.int c1), .val (.int d), .val (.int n), .val (.int y0), .val (.int y1), .val (.int y2), .val (.int y3), .val (.int ((2 : Int32))), .val (.ref a96), .val (.ref a108), .val (.ref a108), .val (.int ((2 : Int32)))] [(.int y1)]))
        refine own_iload X138.here hx (hb hby at_269) rfl (pc' := 271) rfl ?_
        refine own_icmpne X138.here hx (hb hby at_271) (by decide) (pc' := 312) (by decide) (pc2 := 274) rfl (fun q => absurd rfl q) (fun q139 => ?_)
        refine own_iload X138.here hx (hb hby at_274) rfl (pc' := 276) rfl ?_
        refine own_iconst X138.here hx (hb hby at_276) (v := 3) rfl (pc' := 277) rfl ?_
        refine own_icmplt X138.here hx (hb hby at_277) (by decide) (pc' := 291) (by decide) (pc2 := 280) rfl (fun q140 => ?_) (fun q => absurd (by decide) q)
        refine own_iload X138.here hx (hb hby at_291) rfl (pc' := 293) rfl ?_
        refine own_iconst X138.here hx (hb hby at_293) (v := 4) rfl (pc' := 294) rfl ?_
        refine own_icmplt X138.here hx (hb hby at_294) (by decide) (pc' := 308) (by decide) (pc2 := 297) rfl (fun q141 => ?_) (fun q => absurd (by decide) q)
        refine own_iconst X138.here hx (hb hby at_308) (v := 1) rfl (pc' := 309) rfl ?_
        refine own_goto X138.here hx (hb hby at_309) (by decide) (pc' := 313) (by decide) ?_
        exact own_retZW X138 hx hlk hEL J121 E138 (by decide) hret (hb hby at_313) (fun t ht hC hE => hF t _ _ _ _ (by rw [ht]; exact ⟨rfl, (by simpa using N126)⟩) hC hE (by decide) (by decide))
      refine own_icmpne X125.here hx (hb hby at_174) (by decide) (pc' := 180) (by decide) (pc2 := 177) rfl (fun q142 => ?_) (fun q142 => ?_)
      · exact J1_127 _
      · refine own_iconst X125.here hx (hb hby at_177) (v := 1) rfl (pc' := 178) rfl ?_
        refine own_istore X125.here hx (hb hby at_178) (L' := #[.val (.int a), .val (.int b), .val (.int c1), .val (.int d), .val (.int n), .val (.int y0), .val (.int y1), .val (.int y2), .val (.int y3), .val (.int ((2 : Int32))), .val (.ref a96), .val (.ref a108), .val (.ref a108), .val (.int ((1 : Int32)))]) rfl (pc' := 180) rfl ?_
        exact J1_127 _
    · by_cases h1 : y0 = 47
      · have S143 := S123
        obtain ⟨_, _, ⟨T144, L144, k144, n144⟩, -, X144, ⟨Lc144, hQ144, l144, y144, z144⟩, st144⟩ := Jvm.LawKit.callS X114 hx (y := (⟨"com/example/cartulary/cartulary/RegisterUris", "registerBase", "(Ljava/lang/String;)Ljava/lang/String;"⟩ : MethodName)) J121.2.1 (mvT J121.1 (hw _ (List.mem_of_getElem? (i := 27) rfl))) (mvT J121.1 (hw _ (List.mem_of_getElem? (i := 28) rfl))) (mvT J121.1 (hw _ (List.mem_of_getElem? (i := 29) rfl))) (mvT J121.1 (hw _ (List.mem_of_getElem? (i := 30) rfl))) (by decide) (backOf (W := 0) (rmRB2 l Z a0 hw a108 [y0, y1] 1 T114.heap (own_ext_trans EZ f115) z0 O1 P5 fm O2 rf S143 (by decide) (by decide) (Nat.le_of_ble_eq_true rfl) (by simp [own_li, h2, h1]; try decide)) J121.1 (hw _ (List.mem_of_getElem? (i := 30) rfl)) (hw _ (List.mem_of_getElem? (i := 29) rfl)) (by decide) (by decide)) (g := (mkF m 156 #[.val (.int a), .val (.int b), .val (.int c1), .val (.int d), .val (.int n), .val (.int y0), .val (.int y1), .val (.int y2), .val (.int y3), .val (.int ((2 : Int32))), .val (.ref a96), .val (.ref a108), .unset, .unset] [(.ref a108)])) rfl (by rw [hml]; rfl) (argsL := [(.ref a108)]) (rest := []) (lenOf pdRU rfl) rfl (by show 2 * 0 + _ ≤ _; exact Nat.le_of_eq rfl) (hb hby at_156) (fun _ _ => ⟨rfl, rfl, (Nat.le_of_ble_eq_true rfl), (Nat.le_of_ble_eq_true rfl)⟩)
        dsimp only [Pt.U, Pt.locs, Pt.cells, Pt.slots] at X144 l144 y144 z144 st144 hQ144
        subst l144 y144 z144
        obtain ⟨y144, rfl, S144, E144, N144⟩ := hQ144
        refine own_on (st144) ?_
        show own_Go p e below F (T144.setTop (mkF m 159 #[.val (.int a), .val (.int b), .val (.int c1), .val (.int d), .val (.int n), .val (.int y0), .val (.int y1), .val (.int y2), .val (.int y3), .val (.int ((2 : Int32))), .val (.ref a96), .val (.ref a108), .unset, .unset] [(.ref y144)]))
        have f145 := own_ext_trans f115 E144
        have J146 := J121.ext E144
        have N147 := Fr.app N122 N144
        refine own_astore X144.here hx (hb hby at_159) rfl (L' := #[.val (.int a), .val (.int b), .val (.int c1), .val (.int d), .val (.int n), .val (.int y0), .val (.int y1), .val (.int y2), .val (.int y3), .val (.int ((2 : Int32))), .val (.ref a96), .val (.ref a108), .val (.ref y144), .unset]) rfl (pc' := 161) rfl ?_
        refine own_iconst X144.here hx (hb hby at_161) (v := 0) rfl (pc' := 162) rfl ?_
        refine own_istore X144.here hx (hb hby at_162) (L' := #[.val (.int a), .val (.int b), .val (.int c1), .val (.int d), .val (.int n), .val (.int y0), .val (.int y1), .val (.int y2), .val (.int y3), .val (.int ((2 : Int32))), .val (.ref a96), .val (.ref a108), .val (.ref y144), .val (.int ((0 : Int32)))]) rfl (pc' := 164) rfl ?_
        refine own_iload X144.here hx (hb hby at_164) rfl (pc' := 166) rfl ?_
        refine own_iconst X144.here hx (hb hby at_166) (v := 1) rfl (pc' := 167) rfl ?_
        refine own_icmplt X144.here hx (hb hby at_167) (by decide) (pc' := 180) (by decide) (pc2 := 170) rfl (fun q => absurd q (by decide)) (fun q148 => ?_)
        refine own_iload X144.here hx (hb hby at_170) rfl (pc' := 172) rfl ?_
        refine own_bipush X144.here hx (hb hby at_172) (v := 47) rfl (pc' := 174) rfl ?_
        refine own_icmpne X144.here hx (hb hby at_174) (by decide) (pc' := 180) (by decide) (pc2 := 177) rfl (fun q => absurd h1 q) (fun q149 => ?_)
        refine own_iconst X144.here hx (hb hby at_177) (v := 1) rfl (pc' := 178) rfl ?_
        refine own_istore X144.here hx (hb hby at_178) (L' := #[.val (.int a), .val (.int b), .val (.int c1), .val (.int d), .val (.int n), .val (.int y0), .val (.int y1), .val (.int y2), .val (.int y3), .val (.int ((2 : Int32))), .val (.ref a96), .val (.ref a108), .val (.ref y144), .val (.int ((1 : Int32)))]) rfl (pc' := 180) rfl ?_
        refine own_iload X144.here hx (hb hby at_180) rfl (pc' := 182) rfl ?_
        refine own_iconst X144.here hx (hb hby at_182) (v := 2) rfl (pc' := 183) rfl ?_
        refine own_icmplt X144.here hx (hb hby at_183) (by decide) (pc' := 196) (by decide) (pc2 := 186) rfl (fun q => absurd q (by decide)) (fun q150 => ?_)
        refine own_iload X144.here hx (hb hby at_186) rfl (pc' := 188) rfl ?_
        refine own_bipush X144.here hx (hb hby at_188) (v := 47) rfl (pc' := 190) rfl ?_
        refine own_icmpne X144.here hx (hb hby at_190) (by decide) (pc' := 196) (by decide) (pc2 := 193) rfl (fun q151 => ?_) (fun q => absurd q h2)
        refine own_iload X144.here hx (hb hby at_196) rfl (pc' := 198) rfl ?_
        refine own_iconst X144.here hx (hb hby at_198) (v := 3) rfl (pc' := 199) rfl ?_
        refine own_icmplt X144.here hx (hb hby at_199) (by decide) (pc' := 212) (by decide) (pc2 := 202) rfl (fun q152 => ?_) (fun q => absurd (by decide) q)
        refine own_iload X144.here hx (hb hby at_212) rfl (pc' := 214) rfl ?_
        refine own_iconst X144.here hx (hb hby at_214) (v := 4) rfl (pc' := 215) rfl ?_
        refine own_icmplt X144.here hx (hb hby at_215) (by decide) (pc' := 228) (by decide) (pc2 := 218) rfl (fun q153 => ?_) (fun q => absurd (by decide) q)
        refine own_aload X144.here hx (hb hby at_228) rfl rfl (pc' := 230) rfl ?_
        obtain ⟨cq154, kq154, qa154, qb154, qc154⟩ := isOf J146.1 rfl S144.exa
        obtain ⟨_, _, ⟨T154, L154, k154, n154⟩, -, X154, ⟨Lc154, hQ154, l154, y154, z154⟩, st154⟩ := X144.virtualBack hx (y := (⟨"java/lang/String", "length", "()I"⟩ : MethodName)) (z := (⟨"java/lang/String", "length", "()I"⟩ : MethodName)) J146.2.1 (mvT J146.1 (hw _ (List.mem_of_getElem? (i := 81) rfl))) (mvT J146.1 (hw _ (List.mem_of_getElem? (i := 37) rfl))) (notFace_of_selects (args := #[]) (mvT J146.1 (hw _ (List.mem_of_getElem? (i := 39) rfl)))) (mvT J146.1 (hw _ (List.mem_of_getElem? (i := 39) rfl))) (mvT J146.1 (hw _ (List.mem_of_getElem? (i := 38) rfl))) (by decide) (own_lenB (s := s.setVm s.vm) (W := 0) J146.1 hw S144 (O1.ext (own_ext_trans EZ f145)) P5 (by decide) (by decide)) qa154 qc154 (g := (mkF m 230 #[.val (.int a), .val (.int b), .val (.int c1), .val (.int d), .val (.int n), .val (.int y0), .val (.int y1), .val (.int y2), .val (.int y3), .val (.int ((2 : Int32))), .val (.ref a96), .val (.ref a108), .val (.ref y144), .val (.int ((1 : Int32)))] [(.ref y144)])) rfl (by rw [hml]; rfl) (Steps.refl _) (argsL := []) (rest := []) (lenOf pdI rfl) rfl (by show 2 * 0 + _ ≤ _; exact Nat.le_of_eq rfl) (hb hby at_230) (fun _ _ => ⟨rfl, rfl, (Nat.le_of_ble_eq_true rfl), (Nat.le_of_ble_eq_true rfl)⟩)
        dsimp only [Pt.U, Pt.locs, Pt.cells, Pt.slots] at X154 l154 y154 z154 st154 hQ154
        subst l154 y154 z154
        obtain ⟨rfl, rfl, E154⟩ := hQ154
        refine own_to st154 ?_
        show own_Go p e below F (T154.setTop (mkF m 233 #[.val (.int a), .val (.int b), .val (.int c1), .val (.int d), .val (.int n), .val (.int y0), .val (.int y1), .val (.int y2), .val (.int y3), .val (.int ((2 : Int32))), .val (.ref a96), .val (.ref a108), .val (.ref y144), .val (.int ((1 : Int32)))] [(.int (Int32.ofNat 1))]))
        refine own_iload X154.here hx (hb hby at_233) rfl (pc' := 235) rfl ?_
        refine own_icmpeq X154.here hx (hb hby at_235) (by decide) (pc' := 240) (by decide) (pc2 := 238) rfl (fun q155 => ?_) (fun q => absurd rfl q)
        refine own_iload X154.here hx (hb hby at_240) rfl (pc' := 242) rfl ?_
        refine own_iconst X154.here hx (hb hby at_242) (v := 1) rfl (pc' := 243) rfl ?_
        refine own_icmplt X154.here hx (hb hby at_243) (by decide) (pc' := 257) (by decide) (pc2 := 246) rfl (fun q => absurd q (by decide)) (fun q156 => ?_)
        refine own_aload X154.here hx (hb hby at_246) rfl rfl (pc' := 248) rfl ?_
        refine own_iconst X154.here hx (hb hby at_248) (v := 0) rfl (pc' := 249) rfl ?_
        obtain ⟨cq157, kq157, qa157, qb157, qc157⟩ := isOf J146.1 E154 S144.exa
        obtain ⟨_, _, ⟨T157, L157, k157, n157⟩, -, X157, ⟨Lc157, hQ157, l157, y157, z157⟩, st157⟩ := X154.virtualBack hx (y := (⟨"java/lang/String", "charAt", "(I)C"⟩ : MethodName)) (z := (⟨"java/lang/String", "charAt", "(I)C"⟩ : MethodName)) J146.2.1 (mvT J146.1 (hw _ (List.mem_of_getElem? (i := 114) rfl))) (mvT J146.1 (hw _ (List.mem_of_getElem? (i := 115) rfl))) (notFace_of_selects (args := #[]) (mvT J146.1 (hw _ (List.mem_of_getElem? (i := 117) rfl)))) (mvT J146.1 (hw _ (List.mem_of_getElem? (i := 117) rfl))) (mvT J146.1 (hw _ (List.mem_of_getElem? (i := 116) rfl))) (by decide) (own_chB (s := s.setVm s.vm) (W := 0) J146.1 hw S144 (O1.ext (own_ext_trans EZ f145)) P5 (O2.ext (own_ext_trans EZ f145)) rf (i := 0) (Nat.le_of_ble_eq_true rfl) rfl (by decide) (by decide)) qa157 qc157 (g := (mkF m 249 #[.val (.int a), .val (.int b), .val (.int c1), .val (.int d), .val (.int n), .val (.int y0), .val (.int y1), .val (.int y2), .val (.int y3), .val (.int ((2 : Int32))), .val (.ref a96), .val (.ref a108), .val (.ref y144), .val (.int ((1 : Int32)))] [(.int ((0 : Int32))), (.ref y144)])) rfl (by rw [hml]; rfl) (Steps.refl _) (argsL := [(.int ((0 : Int32)))]) (rest := []) (lenOf pdCh rfl) rfl (by show 2 * 0 + _ ≤ _; exact Nat.le_of_eq rfl) (hb hby at_249) (fun _ _ => ⟨rfl, E154, (Nat.le_of_ble_eq_true rfl), (Nat.le_of_ble_eq_true rfl)⟩)
        dsimp only [Pt.U, Pt.locs, Pt.cells, Pt.slots] at X157 l157 y157 z157 st157 hQ157
        subst l157 y157 z157
        obtain ⟨rfl, rfl, E157⟩ := hQ157
        refine own_to st157 ?_
        show own_Go p e below F (T157.setTop (mkF m 252 #[.val (.int a), .val (.int b), .val (.int c1), .val (.int d), .val (.int n), .val (.int y0), .val (.int y1), .val (.int y2), .val (.int y3), .val (.int ((2 : Int32))), .val (.ref a96), .val (.ref a108), .val (.ref y144), .val (.int ((1 : Int32)))] [(.int y0)]))
        refine own_iload X157.here hx (hb hby at_252) rfl (pc' := 254) rfl ?_
        refine own_icmpne X157.here hx (hb hby at_254) (by decide) (pc' := 312) (by decide) (pc2 := 257) rfl (fun q => absurd rfl q) (fun q158 => ?_)
        refine own_iload X157.here hx (hb hby at_257) rfl (pc' := 259) rfl ?_
        refine own_iconst X157.here hx (hb hby at_259) (v := 2) rfl (pc' := 260) rfl ?_
        refine own_icmplt X157.here hx (hb hby at_260) (by decide) (pc' := 274) (by decide) (pc2 := 263) rfl (fun q159 => ?_) (fun q => absurd (by decide) q)
        refine own_iload X157.here hx (hb hby at_274) rfl (pc' := 276) rfl ?_
        refine own_iconst X157.here hx (hb hby at_276) (v := 3) rfl (pc' := 277) rfl ?_
        refine own_icmplt X157.here hx (hb hby at_277) (by decide) (pc' := 291) (by decide) (pc2 := 280) rfl (fun q160 => ?_) (fun q => absurd (by decide) q)
        refine own_iload X157.here hx (hb hby at_291) rfl (pc' := 293) rfl ?_
        refine own_iconst X157.here hx (hb hby at_293) (v := 4) rfl (pc' := 294) rfl ?_
        refine own_icmplt X157.here hx (hb hby at_294) (by decide) (pc' := 308) (by decide) (pc2 := 297) rfl (fun q161 => ?_) (fun q => absurd (by decide) q)
        refine own_iconst X157.here hx (hb hby at_308) (v := 1) rfl (pc' := 309) rfl ?_
        refine own_goto X157.here hx (hb hby at_309) (by decide) (pc' := 313) (by decide) ?_
        exact own_retZW X157 hx hlk hEL J146 E157 (by decide) hret (hb hby at_313) (fun t ht hC hE => hF t _ _ _ _ (by rw [ht]; exact ⟨rfl, (by simpa using N147)⟩) hC hE (by decide) (by decide))
      · have S162 := S123
        obtain ⟨_, _, ⟨T163, L163, k163, n163⟩, -, X163, hS163, hG163, ⟨Lc163, hQ163, l163, y163, z163, C163⟩, st163⟩ := callSS X114 hx (y := (⟨"com/example/cartulary/cartulary/RegisterUris", "registerBase", "(Ljava/lang/String;)Ljava/lang/String;"⟩ : MethodName)) J121.2.1 (mvT J121.1 (hw _ (List.mem_of_getElem? (i := 27) rfl))) (mvT J121.1 (hw _ (List.mem_of_getElem? (i := 28) rfl))) (mvT J121.1 (hw _ (List.mem_of_getElem? (i := 29) rfl))) (mvT J121.1 (hw _ (List.mem_of_getElem? (i := 30) rfl))) (by decide) (own_backW (W := 0) (rmRC l Z a0 hw hEL a108 [y0, y1] T114.heap (own_ext_trans EZ f115) z0 O1 P5 fm O2 rf S162 (Nat.le_of_ble_eq_true rfl) (by simp [own_li, h2, h1]; try decide)) J121.1 (hw _ (List.mem_of_getElem? (i := 30) rfl)) (hw _ (List.mem_of_getElem? (i := 29) rfl)) (by decide) (by decide) hEL J121.ch (fun _ q => nomatch q)) (g := (mkF m 156 #[.val (.int a), .val (.int b), .val (.int c1), .val (.int d), .val (.int n), .val (.int y0), .val (.int y1), .val (.int y2), .val (.int y3), .val (.int ((2 : Int32))), .val (.ref a96), .val (.ref a108), .unset, .unset] [(.ref a108)])) rfl (by rw [hml]; rfl) (argsL := [(.ref a108)]) (rest := []) (lenOf pdRU rfl) rfl (by show 2 * 0 + _ ≤ _; exact Nat.le_of_eq rfl) (hb hby at_156) (fun _ _ => ⟨rfl, rfl, (Nat.le_of_ble_eq_true rfl), (Nat.le_of_ble_eq_true rfl)⟩)
        dsimp only [Pt.U, Pt.locs, Pt.cells, Pt.slots] at X163 hS163 hG163 l163 y163 z163 C163 st163 hQ163
        subst l163 y163 z163
        replace X163 := (show Stand _ _ _ _ (s.setVm T163.vm) _ _ _ _ _ _ _ _ _ from X163)
        have I163 := J121.later hS163 (Nat.le_refl _) (by have q := hG163; rw [(rfl : _ = T114.heap)] at q; exact q) C163
        obtain ⟨y163, rfl, S163, E163, N163⟩ := hQ163
        refine own_to st163 ?_
        show own_Go p e below F (T163.setTop (mkF m 159 #[.val (.int a), .val (.int b), .val (.int c1), .val (.int d), .val (.int n), .val (.int y0), .val (.int y1), .val (.int y2), .val (.int y3), .val (.int ((2 : Int32))), .val (.ref a96), .val (.ref a108), .unset, .unset] [(.ref y163)]))
        have f164 := own_ext_trans f115 E163
        have N165 := Fr.app N122 N163
        refine own_astore X163.here hx (hb hby at_159) rfl (L' := #[.val (.int a), .val (.int b), .val (.int c1), .val (.int d), .val (.int n), .val (.int y0), .val (.int y1), .val (.int y2), .val (.int y3), .val (.int ((2 : Int32))), .val (.ref a96), .val (.ref a108), .val (.ref y163), .unset]) rfl (pc' := 161) rfl ?_
        refine own_iconst X163.here hx (hb hby at_161) (v := 0) rfl (pc' := 162) rfl ?_
        refine own_istore X163.here hx (hb hby at_162) (L' := #[.val (.int a), .val (.int b), .val (.int c1), .val (.int d), .val (.int n), .val (.int y0), .val (.int y1), .val (.int y2), .val (.int y3), .val (.int ((2 : Int32))), .val (.ref a96), .val (.ref a108), .val (.ref y163), .val (.int ((0 : Int32)))]) rfl (pc' := 164) rfl ?_
        refine own_iload X163.here hx (hb hby at_164) rfl (pc' := 166) rfl ?_
        refine own_iconst X163.here hx (hb hby at_166) (v := 1) rfl (pc' := 167) rfl ?_
        refine own_icmplt X163.here hx (hb hby at_167) (by decide) (pc' := 180) (by decide) (pc2 := 170) rfl (fun q => absurd q (by decide)) (fun q166 => ?_)
        refine own_iload X163.here hx (hb hby at_170) rfl (pc' := 172) rfl ?_
        refine own_bipush X163.here hx (hb hby at_172) (v := 47) rfl (pc' := 174) rfl ?_
        refine own_icmpne X163.here hx (hb hby at_174) (by decide) (pc' := 180) (by decide) (pc2 := 177) rfl (fun q167 => ?_) (fun q => absurd q h1)
        refine own_iload X163.here hx (hb hby at_180) rfl (pc' := 182) rfl ?_
        refine own_iconst X163.here hx (hb hby at_182) (v := 2) rfl (pc' := 183) rfl ?_
        refine own_icmplt X163.here hx (hb hby at_183) (by decide) (pc' := 196) (by decide) (pc2 := 186) rfl (fun q => absurd q (by decide)) (fun q168 => ?_)
        refine own_iload X163.here hx (hb hby at_186) rfl (pc' := 188) rfl ?_
        refine own_bipush X163.here hx (hb hby at_188) (v := 47) rfl (pc' := 190) rfl ?_
        refine own_icmpne X163.here hx (hb hby at_190) (by decide) (pc' := 196) (by decide) (pc2 := 193) rfl (fun q169 => ?_) (fun q => absurd q h2)
        refine own_iload X163.here hx (hb hby at_196) rfl (pc' := 198) rfl ?_
        refine own_iconst X163.here hx (hb hby at_198) (v := 3) rfl (pc' := 199) rfl ?_
        refine own_icmplt X163.here hx (hb hby at_199) (by decide) (pc' := 212) (by decide) (pc2 := 202) rfl (fun q170 => ?_) (fun q => absurd (by decide) q)
        refine own_iload X163.here hx (hb hby at_212) rfl (pc' := 214) rfl ?_
        refine own_iconst X163.here hx (hb hby at_214) (v := 4) rfl (pc' := 215) rfl ?_
        refine own_icmplt X163.here hx (hb hby at_215) (by decide) (pc' := 228) (by decide) (pc2 := 218) rfl (fun q171 => ?_) (fun q => absurd (by decide) q)
        refine own_aload X163.here hx (hb hby at_228) rfl rfl (pc' := 230) rfl ?_
        obtain ⟨cq172, kq172, qa172, qb172, qc172⟩ := isOf I163.1 rfl S163.exa
        obtain ⟨_, _, ⟨T172, L172, k172, n172⟩, -, X172, ⟨Lc172, hQ172, l172, y172, z172⟩, st172⟩ := X163.virtualBack hx (y := (⟨"java/lang/String", "length", "()I"⟩ : MethodName)) (z := (⟨"java/lang/String", "length", "()I"⟩ : MethodName)) I163.2.1 (mvT I163.1 (hw _ (List.mem_of_getElem? (i := 81) rfl))) (mvT I163.1 (hw _ (List.mem_of_getElem? (i := 37) rfl))) (notFace_of_selects (args := #[]) (mvT I163.1 (hw _ (List.mem_of_getElem? (i := 39) rfl)))) (mvT I163.1 (hw _ (List.mem_of_getElem? (i := 39) rfl))) (mvT I163.1 (hw _ (List.mem_of_getElem? (i := 38) rfl))) (by decide) (own_lenB (s := s.setVm T163.vm) (W := 0) I163.1 hw S163 (O1.ext (own_ext_trans EZ f164)) P5 (by decide) (by decide)) qa172 qc172 (g := (mkF m 230 #[.val (.int a), .val (.int b), .val (.int c1), .val (.int d), .val (.int n), .val (.int y0), .val (.int y1), .val (.int y2), .val (.int y3), .val (.int ((2 : Int32))), .val (.ref a96), .val (.ref a108), .val (.ref y163), .val (.int ((0 : Int32)))] [(.ref y163)])) rfl (by rw [hml]; rfl) (Steps.refl _) (argsL := []) (rest := []) (lenOf pdI rfl) rfl (by show 2 * 0 + _ ≤ _; exact Nat.le_of_eq rfl) (hb hby at_230) (fun _ _ => ⟨rfl, rfl, (Nat.le_of_ble_eq_true rfl), (Nat.le_of_ble_eq_true rfl)⟩)
        dsimp only [Pt.U, Pt.locs, Pt.cells, Pt.slots] at X172 l172 y172 z172 st172 hQ172
        subst l172 y172 z172
        obtain ⟨rfl, rfl, E172⟩ := hQ172
        refine own_to st172 ?_
        show own_Go p e below F (T172.setTop (mkF m 233 #[.val (.int a), .val (.int b), .val (.int c1), .val (.int d), .val (.int n), .val (.int y0), .val (.int y1), .val (.int y2), .val (.int y3), .val (.int ((2 : Int32))), .val (.ref a96), .val (.ref a108), .val (.ref y163), .val (.int ((0 : Int32)))] [(.int (Int32.ofNat 0))]))
        refine own_iload X172.here hx (hb hby at_233) rfl (pc' := 235) rfl ?_
        refine own_icmpeq X172.here hx (hb hby at_235) (by decide) (pc' := 240) (by decide) (pc2 := 238) rfl (fun q173 => ?_) (fun q => absurd rfl q)
        refine own_iload X172.here hx (hb hby at_240) rfl (pc' := 242) rfl ?_
        refine own_iconst X172.here hx (hb hby at_242) (v := 1) rfl (pc' := 243) rfl ?_
        refine own_icmplt X172.here hx (hb hby at_243) (by decide) (pc' := 257) (by decide) (pc2 := 246) rfl (fun q174 => ?_) (fun q => absurd (by decide) q)
        refine own_iload X172.here hx (hb hby at_257) rfl (pc' := 259) rfl ?_
        refine own_iconst X172.here hx (hb hby at_259) (v := 2) rfl (pc' := 260) rfl ?_
        refine own_icmplt X172.here hx (hb hby at_260) (by decide) (pc' := 274) (by decide) (pc2 := 263) rfl (fun q175 => ?_) (fun q => absurd (by decide) q)
        refine own_iload X172.here hx (hb hby at_274) rfl (pc' := 276) rfl ?_
        refine own_iconst X172.here hx (hb hby at_276) (v := 3) rfl (pc' := 277) rfl ?_
        refine own_icmplt X172.here hx (hb hby at_277) (by decide) (pc' := 291) (by decide) (pc2 := 280) rfl (fun q176 => ?_) (fun q => absurd (by decide) q)
        refine own_iload X172.here hx (hb hby at_291) rfl (pc' := 293) rfl ?_
        refine own_iconst X172.here hx (hb hby at_293) (v := 4) rfl (pc' := 294) rfl ?_
        refine own_icmplt X172.here hx (hb hby at_294) (by decide) (pc' := 308) (by decide) (pc2 := 297) rfl (fun q177 => ?_) (fun q => absurd (by decide) q)
        refine own_iconst X172.here hx (hb hby at_308) (v := 1) rfl (pc' := 309) rfl ?_
        refine own_goto X172.here hx (hb hby at_309) (by decide) (pc' := 313) (by decide) ?_
        exact own_retZW X172 hx hlk hEL I163 E172 (by decide) hret (hb hby at_313) (fun t ht hC hE => hF t _ _ _ _ (by rw [ht]; exact ⟨rfl, (by simpa using N165)⟩) hC hE (by decide) (by decide))
  · show own_Go p e below F (T7.setTop (mkF m 33 #[.val (.int a), .val (.int b), .val (.int c1), .val (.int d), .val (.int n), .val (.int y0), .val (.int y1), .val (.int y2), .val (.int y3), .val (.int ((3 : Int32))), .unset, .unset, .unset, .unset] []))
    refine own_iload X7.here hx (hb hby at_33) rfl (pc' := 35) rfl ?_
    refine own_ifne X7.here hx (hb hby at_35) (by decide) (pc' := 46) (by decide) (pc2 := 38) rfl (fun q178 => ?_) (fun q => absurd q (by decide))
    refine own_iload X7.here hx (hb hby at_46) rfl (pc' := 48) rfl ?_
    refine own_iconst X7.here hx (hb hby at_48) (v := 1) rfl (pc' := 49) rfl ?_
    refine own_icmpne X7.here hx (hb hby at_49) (by decide) (pc' := 65) (by decide) (pc2 := 52) rfl (fun q179 => ?_) (fun q => absurd q (by decide))
    refine own_iload X7.here hx (hb hby at_65) rfl (pc' := 67) rfl ?_
    refine own_iconst X7.here hx (hb hby at_67) (v := 2) rfl (pc' := 68) rfl ?_
    refine own_icmpne X7.here hx (hb hby at_68) (by decide) (pc' := 89) (by decide) (pc2 := 71) rfl (fun q180 => ?_) (fun q => absurd q (by decide))
    refine own_iload X7.here hx (hb hby at_89) rfl (pc' := 91) rfl ?_
    refine own_iconst X7.here hx (hb hby at_91) (v := 3) rfl (pc' := 92) rfl ?_
    refine own_icmpne X7.here hx (hb hby at_92) (by decide) (pc' := 118) (by decide) (pc2 := 95) rfl (fun q => absurd rfl q) (fun q181 => ?_)
    refine own_iconst X7.here hx (hb hby at_95) (v := 3) rfl (pc' := 96) rfl ?_
    obtain ⟨T182, h182, k182, X182, e182, E182, A182, st182⟩ := newP X7 hx I0.1 (hw _ (List.mem_of_getElem? (i := 5) rfl)) E7 (g := (mkF m 96 #[.val (.int a), .val (.int b), .val (.int c1), .val (.int d), .val (.int n), .val (.int y0), .val (.int y1), .val (.int y2), .val (.int y3), .val (.int ((3 : Int32))), .unset, .unset, .unset, .unset] [(.int ((3 : Int32)))])) rfl (hb hby at_96) rfl (by decide : ¬ ((3 : Int32) < (0 : Int32))) (cap := 3) (by decide) (by decide) (by decide) (by decide)
    obtain ⟨a182, g182⟩ : ∃ z, z = h0.size := ⟨_, rfl⟩
    rw [← g182] at A182 st182
    have ge183 : h0.size ≤ a182 := by rw [g182]; exact M0.1
    have f184 := own_ext_trans M0 E182
    have J185 := I0.ext E182
    have V182 : Arv Z h182 a182 k182 .char (3 : Int32) [.int (0 : Int32), .int (0 : Int32), .int (0 : Int32)] (.int (0 : Int32)) := (Arv.new A182 (by decide)).pad (pad_rep [] (.int (0 : Int32)) 3)
    refine own_on st182 ?_
    show own_Go p e below F (T182.setTop (mkF m 98 #[.val (.int a), .val (.int b), .val (.int c1), .val (.int d), .val (.int n), .val (.int y0), .val (.int y1), .val (.int y2), .val (.int y3), .val (.int ((3 : Int32))), .unset, .unset, .unset, .unset] [(.ref a182)]))
    have gz_a182 : Z.heap.size ≤ a182 := Nat.le_trans EZ.1 ge183
    refine own_dup X182.here hx (hb hby at_98) rfl (pc' := 99) rfl ?_
    refine own_iconst X182.here hx (hb hby at_99) (v := 0) rfl (pc' := 100) rfl ?_
    refine own_iload X182.here hx (hb hby at_100) rfl (pc' := 102) rfl ?_
    obtain ⟨T186, h186, X186, e186, W186, V186, st186⟩ := own_cast X182 hx J185.1 e182 V182 (i := 0) rfl (Nat.le_of_ble_eq_true rfl) (by decide) ny0 (g := (mkF m 102 #[.val (.int a), .val (.int b), .val (.int c1), .val (.int d), .val (.int n), .val (.int y0), .val (.int y1), .val (.int y2), .val (.int y3), .val (.int ((3 : Int32))), .unset, .unset, .unset, .unset] [(.int y0), (.int ((0 : Int32))), (.ref a182), (.ref a182)])) rfl rfl (hb hby at_102)
    replace V186 : Arv Z h186 a182 k182 .char (3 : Int32) [.int y0, .int (0 : Int32), .int (0 : Int32)] (.int (0 : Int32)) := V186
    have f187 := own_ext_wr f184 W186 ge183
    have J188 := J185.wr W186 (Safe.arv J185.1.alike V182 (by decide))
    have N189 := own_Fr_snoc (sl := ((0 : Int32)).toNatClampNeg) N8 gz_a182
    refine own_on st186 ?_
    show own_Go p e below F (T186.setTop (mkF m 103 #[.val (.int a), .val (.int b), .val (.int c1), .val (.int d), .val (.int n), .val (.int y0), .val (.int y1), .val (.int y2), .val (.int y3), .val (.int ((3 : Int32))), .unset, .unset, .unset, .unset] [(.ref a182)]))
    refine own_dup X186.here hx (hb hby at_103) rfl (pc' := 104) rfl ?_
    refine own_iconst X186.here hx (hb hby at_104) (v := 1) rfl (pc' := 105) rfl ?_
    refine own_iload X186.here hx (hb hby at_105) rfl (pc' := 107) rfl ?_
    obtain ⟨T190, h190, X190, e190, W190, V190, st190⟩ := own_cast X186 hx J188.1 e186 V186 (i := 1) rfl (Nat.le_of_ble_eq_true rfl) (by decide) ny1 (g := (mkF m 107 #[.val (.int a), .val (.int b), .val (.int c1), .val (.int d), .val (.int n), .val (.int y0), .val (.int y1), .val (.int y2), .val (.int y3), .val (.int ((3 : Int32))), .unset, .unset, .unset, .unset] [(.int y1), (.int ((1 : Int32))), (.ref a182), (.ref a182)])) rfl rfl (hb hby at_107)
    replace V190 : Arv Z h190 a182 k182 .char (3 : Int32) [.int y0, .int y1, .int (0 : Int32)] (.int (0 : Int32)) := V190
    have f191 := own_ext_wr f187 W190 ge183
    have J192 := J188.wr W190 (Safe.arv J188.1.alike V186 (by decide))
    have N193 := own_Fr_snoc (sl := ((1 : Int32)).toNatClampNeg) N189 gz_a182
    refine own_on st190 ?_
    show own_Go p e below F (T190.setTop (mkF m 108 #[.val (.int a), .val (.int b), .val (.int c1), .val (.int d), .val (.int n), .val (.int y0), .val (.int y1), .val (.int y2), .val (.int y3), .val (.int ((3 : Int32))), .unset, .unset, .unset, .unset] [(.ref a182)]))
    refine own_dup X190.here hx (hb hby at_108) rfl (pc' := 109) rfl ?_
    refine own_iconst X190.here hx (hb hby at_109) (v := 2) rfl (pc' := 110) rfl ?_
    refine own_iload X190.here hx (hb hby at_110) rfl (pc' := 112) rfl ?_
    obtain ⟨T194, h194, X194, e194, W194, V194, st194⟩ := own_cast X190 hx J192.1 e190 V190 (i := 2) rfl (Nat.le_of_ble_eq_true rfl) (by decide) ny2 (g := (mkF m 112 #[.val (.int a), .val (.int b), .val (.int c1), .val (.int d), .val (.int n), .val (.int y0), .val (.int y1), .val (.int y2), .val (.int y3), .val (.int ((3 : Int32))), .unset, .unset, .unset, .unset] [(.int y2), (.int ((2 : Int32))), (.ref a182), (.ref a182)])) rfl rfl (hb hby at_112)
    replace V194 : Arv Z h194 a182 k182 .char (3 : Int32) [.int y0, .int y1, .int y2] (.int (0 : Int32)) := V194
    have f195 := own_ext_wr f191 W194 ge183
    have J196 := J192.wr W194 (Safe.arv J192.1.alike V190 (by decide))
    have N197 := own_Fr_snoc (sl := ((2 : Int32)).toNatClampNeg) N193 gz_a182
    refine own_on st194 ?_
    show own_Go p e below F (T194.setTop (mkF m 113 #[.val (.int a), .val (.int b), .val (.int c1), .val (.int d), .val (.int n), .val (.int y0), .val (.int y1), .val (.int y2), .val (.int y3), .val (.int ((3 : Int32))), .unset, .unset, .unset, .unset] [(.ref a182)]))
    refine own_astore X194.here hx (hb hby at_113) rfl (L' := #[.val (.int a), .val (.int b), .val (.int c1), .val (.int d), .val (.int n), .val (.int y0), .val (.int y1), .val (.int y2), .val (.int y3), .val (.int ((3 : Int32))), .val (.ref a182), .unset, .unset, .unset]) rfl (pc' := 115) rfl ?_
    refine own_goto X194.here hx (hb hby at_115) (by decide) (pc' := 143) (by decide) ?_
    obtain ⟨T198, h198, X198, e198, E198, A198, D198, -, st198⟩ := newO X194 hx J196.1 J196.2.1 (hw _ (List.mem_of_getElem? (i := 6) rfl)) (hw _ (List.mem_of_getElem? (i := 7) rfl)) (hw _ (List.mem_of_getElem? (i := 8) rfl)) e194 (g := (mkF m 143 #[.val (.int a), .val (.int b), .val (.int c1), .val (.int d), .val (.int n), .val (.int y0), .val (.int y1), .val (.int y2), .val (.int y3), .val (.int ((3 : Int32))), .val (.ref a182), .unset, .unset, .unset] [])) rfl (hb hby at_143) (by decide) (by decide)
    obtain ⟨a198, g198⟩ : ∃ z, z = h194.size := ⟨_, rfl⟩
    rw [← g198] at A198 D198 st198
    have ne199 : a182 ≠ a198 := Nat.ne_of_lt (by rw [g198]; exact V194.lt)
    have ge200 : h0.size ≤ a198 := by rw [g198]; exact f195.1
    have sf198 := Safe.ext E198 J196.ch (Safe.new (Nat.le_of_eq g198.symm))
    have f201 := own_ext_trans f195 E198
    have f202 := V194.ext E198
    have J203 := J196.ext E198
    have F198_0 : Fld Z h198 a198 "java/lang/String" "value" "[B" (.null) := (D198 (Or.inr (hw _ (List.mem_of_getElem? (i := 21) rfl))) (ty := .array .byte) (by decide))
    have F198_1 : Fld Z h198 a198 "java/lang/String" "coder" "B" (.int ((0 : Int32))) := (D198 (Or.inr (hw _ (List.mem_of_getElem? (i := 22) rfl))) (ty := .byte) (by decide))
    refine own_on st198 ?_
    show own_Go p e below F (T198.setTop (mkF m 146 #[.val (.int a), .val (.int b), .val (.int c1), .val (.int d), .val (.int n), .val (.int y0), .val (.int y1), .val (.int y2), .val (.int y3), .val (.int ((3 : Int32))), .val (.ref a182), .unset, .unset, .unset] [(.ref a198)]))
    have gz_a198 : Z.heap.size ≤ a198 := Nat.le_trans EZ.1 ge200
    refine own_dup X198.here hx (hb hby at_146) rfl (pc' := 147) rfl ?_
    refine own_aload X198.here hx (hb hby at_147) rfl rfl (pc' := 149) rfl ?_
    obtain ⟨_, _, ⟨T204, L204, k204, n204⟩, -, X204, ⟨Lc204, hQ204, l204, y204, z204⟩, st204⟩ := X198.specialBack hx (y := (⟨"java/lang/String", "<init>", "([C)V"⟩ : MethodName)) rfl J203.2.1 (mvT J203.1 (hw _ (List.mem_of_getElem? (i := 9) rfl))) (mvT J203.1 (hw _ (List.mem_of_getElem? (i := 10) rfl))) (mvT J203.1 (hw _ (List.mem_of_getElem? (i := 11) rfl))) (by decide) (StrChars.Road.backV (s := s.setVm s.vm) (W := 1) J203.1 own_hws (kI := 4) (hw _ own_wiS) (cs := ([y0, y1, y2] : List Int32)) (bs := ([y0, y1, y2] : List Int32).map (fun c => c.toInt8.toInt32)) (n := 3) gz_a198 (Nat.le_trans gz_a198 (Nat.le_of_lt (A198).lt)) A198 F198_0 F198_1 f202 (O1.ext (own_ext_trans EZ f201)) P5 rfl rfl (by decide) (by decide) (fun c hc => by simp only [List.mem_cons, List.not_mem_nil, or_false] at hc; rcases hc with rfl | rfl | rfl <;> assumption) rfl (by decide) (by decide)) (g := (mkF m 149 #[.val (.int a), .val (.int b), .val (.int c1), .val (.int d), .val (.int n), .val (.int y0), .val (.int y1), .val (.int y2), .val (.int y3), .val (.int ((3 : Int32))), .val (.ref a182), .unset, .unset, .unset] [(.ref a182), (.ref a198), (.ref a198)])) rfl (by rw [hml]; rfl) (Steps.refl _) (a := a198) (argsL := [(.ref a182)]) (rest := [(.ref a198)]) (lenOf pdE1 rfl) rfl (by show 2 * 0 + _ ≤ _; exact Nat.le_of_eq rfl) (hb hby at_149) (fun _ _ => ⟨rfl, e198, (Nat.le_of_ble_eq_true rfl), (Nat.le_of_ble_eq_true rfl)⟩)
    dsimp only [Pt.U, Pt.locs, Pt.cells, Pt.slots] at X204 l204 y204 z204 st204 hQ204
    subst l204 y204 z204
    obtain ⟨rfl, N204, K204, A204, C204, t204, kb204, _, _, _, V204, R204⟩ := hQ204
    refine own_to st204 ?_
    show own_Go p e below F (T204.setTop (mkF m 152 #[.val (.int a), .val (.int b), .val (.int c1), .val (.int d), .val (.int n), .val (.int y0), .val (.int y1), .val (.int y2), .val (.int y3), .val (.int ((3 : Int32))), .val (.ref a182), .unset, .unset, .unset] [(.ref a198)]))
    have f205 := own_ext_keep f201 K204 (fun y hy => by simp only [List.mem_cons, List.not_mem_nil, or_false] at hy; rcases hy with rfl <;> assumption)
    have f206 := f202.keep K204 (by simp only [List.mem_cons, List.not_mem_nil, or_false, not_or]; exact ne199)
    have f207 := A198.keep K204
    have f210 := Safe.keep K204 (sfS sf198 sf0) J203.ch sf198
    have J211 := J203.keep K204 (sfS sf198 sf0)
    have N212 := Fr.app N197 N204
    have S213 : own_Str Z T204.heap a198 [y0, y1, y2] := ⟨t204, kb204, A204, V204, C204, R204, (fun c hc => by simp only [List.mem_cons, List.not_mem_nil, or_false] at hc; rcases hc with rfl | rfl | rfl <;> assumption), Nat.le_of_ble_eq_true rfl⟩
    refine own_astore X204.here hx (hb hby at_152) rfl (L' := #[.val (.int a), .val (.int b), .val (.int c1), .val (.int d), .val (.int n), .val (.int y0), .val (.int y1), .val (.int y2), .val (.int y3), .val (.int ((3 : Int32))), .val (.ref a182), .val (.ref a198), .unset, .unset]) rfl (pc' := 154) rfl ?_
    refine own_aload X204.here hx (hb hby at_154) rfl rfl (pc' := 156) rfl ?_
    by_cases h3 : y2 = 47
    · have S214 := S213
      obtain ⟨_, _, ⟨T215, L215, k215, n215⟩, -, X215, ⟨Lc215, hQ215, l215, y215, z215⟩, st215⟩ := Jvm.LawKit.callS X204 hx (y := (⟨"com/example/cartulary/cartulary/RegisterUris", "registerBase", "(Ljava/lang/String;)Ljava/lang/String;"⟩ : MethodName)) J211.2.1 (mvT J211.1 (hw _ (List.mem_of_getElem? (i := 27) rfl))) (mvT J211.1 (hw _ (List.mem_of_getElem? (i := 28) rfl))) (mvT J211.1 (hw _ (List.mem_of_getElem? (i := 29) rfl))) (mvT J211.1 (hw _ (List.mem_of_getElem? (i := 30) rfl))) (by decide) (backOf (W := 0) (rmRA l Z a0 hw a198 [y0, y1, y2] T204.heap (own_ext_trans EZ f205) z0 O1 P5 fm O2 rf S214 (by simp [own_li, h3]; try decide)) J211.1 (hw _ (List.mem_of_getElem? (i := 30) rfl)) (hw _ (List.mem_of_getElem? (i := 29) rfl)) (by decide) (by decide)) (g := (mkF m 156 #[.val (.int a), .val (.int b), .val (.int c1), .val (.int d), .val (.int n), .val (.int y0), .val (.int y1), .val (.int y2), .val (.int y3), .val (.int ((3 : Int32))), .val (.ref a182), .val (.ref a198), .unset, .unset] [(.ref a198)])) rfl (by rw [hml]; rfl) (argsL := [(.ref a198)]) (rest := []) (lenOf pdRU rfl) rfl (by show 2 * 0 + _ ≤ _; exact Nat.le_of_eq rfl) (hb hby at_156) (fun _ _ => ⟨rfl, rfl, (Nat.le_of_ble_eq_true rfl), (Nat.le_of_ble_eq_true rfl)⟩)
      dsimp only [Pt.U, Pt.locs, Pt.cells, Pt.slots] at X215 l215 y215 z215 st215 hQ215
      subst l215 y215 z215
      obtain ⟨rfl, N215, E215⟩ := hQ215
      refine own_on (st215) ?_
      show own_Go p e below F (T215.setTop (mkF m 159 #[.val (.int a), .val (.int b), .val (.int c1), .val (.int d), .val (.int n), .val (.int y0), .val (.int y1), .val (.int y2), .val (.int y3), .val (.int ((3 : Int32))), .val (.ref a182), .val (.ref a198), .unset, .unset] [(.ref a198)]))
      have N216 := Fr.app N212 N215
      refine own_astore X215.here hx (hb hby at_159) rfl (L' := #[.val (.int a), .val (.int b), .val (.int c1), .val (.int d), .val (.int n), .val (.int y0), .val (.int y1), .val (.int y2), .val (.int y3), .val (.int ((3 : Int32))), .val (.ref a182), .val (.ref a198), .val (.ref a198), .unset]) rfl (pc' := 161) rfl ?_
      refine own_iconst X215.here hx (hb hby at_161) (v := 0) rfl (pc' := 162) rfl ?_
      refine own_istore X215.here hx (hb hby at_162) (L' := #[.val (.int a), .val (.int b), .val (.int c1), .val (.int d), .val (.int n), .val (.int y0), .val (.int y1), .val (.int y2), .val (.int y3), .val (.int ((3 : Int32))), .val (.ref a182), .val (.ref a198), .val (.ref a198), .val (.int ((0 : Int32)))]) rfl (pc' := 164) rfl ?_
      refine own_iload X215.here hx (hb hby at_164) rfl (pc' := 166) rfl ?_
      refine own_iconst X215.here hx (hb hby at_166) (v := 1) rfl (pc' := 167) rfl ?_
      refine own_icmplt X215.here hx (hb hby at_167) (by decide) (pc' := 180) (by decide) (pc2 := 170) rfl (fun q => absurd q (by decide)) (fun q217 => ?_)
      refine own_iload X215.here hx (hb hby at_170) rfl (pc' := 172) rfl ?_
      refine own_bipush X215.here hx (hb hby at_172) (v := 47) rfl (pc' := 174) rfl ?_
      have J1_217 : ∀ (zz : Int32), own_Go p e below F (T215.setTop (mkF m 180 #[.val (.int a), .val (.int b), .val (.int c1), .val (.int d), .val (.int n), .val (.int y0), .val (.int y1), .val (.int y2), .val (.int y3), .val (.int ((3 : Int32))), .val (.ref a182), .val (.ref a198), .val (.ref a198), .val (.int zz)] [])) := by
        intro zz
        refine own_iload X215.here hx (hb hby at_180) rfl (pc' := 182) rfl ?_
        refine own_iconst X215.here hx (hb hby at_182) (v := 2) rfl (pc' := 183) rfl ?_
        refine own_icmplt X215.here hx (hb hby at_183) (by decide) (pc' := 196) (by decide) (pc2 := 186) rfl (fun q => absurd q (by decide)) (fun q218 => ?_)
        refine own_iload X215.here hx (hb hby at_186) rfl (pc' := 188) rfl ?_
        refine own_bipush X215.here hx (hb hby at_188) (v := 47) rfl (pc' := 190) rfl ?_
        have J2_218 : ∀ (zz : Int32), own_Go p e below F (T215.setTop (mkF m 196 #[.val (.int a), .val (.int b), .val (.int c1), .val (.int d), .val (.int n), .val (.int y0), .val (.int y1), .val (.int y2), .val (.int y3), .val (.int ((3 : Int32))), .val (.ref a182), .val (.ref a198), .val (.ref a198), .val (.int zz)] [])) := by
          intro zz
          refine own_iload X215.here hx (hb hby at_196) rfl (pc' := 198) rfl ?_
          refine own_iconst X215.here hx (hb hby at_198) (v := 3) rfl (pc' := 199) rfl ?_
          refine own_icmplt X215.here hx (hb hby at_199) (by decide) (pc' := 212) (by decide) (pc2 := 202) rfl (fun q => absurd q (by decide)) (fun q219 => ?_)
          refine own_iload X215.here hx (hb hby at_202) rfl (pc' := 204) rfl ?_
          refine own_bipush X215.here hx (hb hby at_204) (v := 47) rfl (pc' := 206) rfl ?_
          refine own_icmpne X215.here hx (hb hby at_206) (by decide) (pc' := 212) (by decide) (pc2 := 209) rfl (fun q => absurd h3 q) (fun q220 => ?_)
          refine own_iconst X215.here hx (hb hby at_209) (v := 3) rfl (pc' := 210) rfl ?_
          refine own_istore X215.here hx (hb hby at_210) (L' := #[.val (.int a), .val (.int b), .val (.int c1), .val (.int d), .val (.int n), .val (.int y0), .val (.int y1), .val (.int y2), .val (.int y3), .val (.int ((3 : Int32))), .val (.ref a182), .val (.ref a198), .val (.ref a198), .val (.int ((3 : Int32)))]) rfl (pc' := 212) rfl ?_
          refine own_iload X215.here hx (hb hby at_212) rfl (pc' := 214) rfl ?_
          refine own_iconst X215.here hx (hb hby at_214) (v := 4) rfl (pc' := 215) rfl ?_
          refine own_icmplt X215.here hx (hb hby at_215) (by decide) (pc' := 228) (by decide) (pc2 := 218) rfl (fun q221 => ?_) (fun q => absurd (by decide) q)
          refine own_aload X215.here hx (hb hby at_228) rfl rfl (pc' := 230) rfl ?_
          obtain ⟨cq222, kq222, qa222, qb222, qc222⟩ := isOf J211.1 E215 S214.exa
          obtain ⟨_, _, ⟨T222, L222, k222, n222⟩, -, X222, ⟨Lc222, hQ222, l222, y222, z222⟩, st222⟩ := X215.virtualBack hx (y := (⟨"java/lang/String", "length", "()I"⟩ : MethodName)) (z := (⟨"java/lang/String", "length", "()I"⟩ : MethodName)) J211.2.1 (mvT J211.1 (hw _ (List.mem_of_getElem? (i := 81) rfl))) (mvT J211.1 (hw _ (List.mem_of_getElem? (i := 37) rfl))) (notFace_of_selects (args := #[]) (mvT J211.1 (hw _ (List.mem_of_getElem? (i := 39) rfl)))) (mvT J211.1 (hw _ (List.mem_of_getElem? (i := 39) rfl))) (mvT J211.1 (hw _ (List.mem_of_getElem? (i := 38) rfl))) (by decide) (own_lenB (s := s.setVm s.vm) (W := 0) J211.1 hw S214 (O1.ext (own_ext_trans EZ f205)) P5 (by decide) (by decide)) qa222 qc222 (g := (mkF m 230 #[.val (.int a), .val (.int b), .val (.int c1), .val (.int d), .val (.int n), .val (.int y0), .val (.int y1), .val (.int y2), .val (.int y3), .val (.int ((3 : Int32))), .val (.ref a182), .val (.ref a198), .val (.ref a198), .val (.int ((3 : Int32)))] [(.ref a198)])) rfl (by rw [hml]; rfl) (Steps.refl _) (argsL := []) (rest := []) (lenOf pdI rfl) rfl (by show 2 * 0 + _ ≤ _; exact Nat.le_of_eq rfl) (hb hby at_230) (fun _ _ => ⟨rfl, E215, (Nat.le_of_ble_eq_true rfl), (Nat.le_of_ble_eq_true rfl)⟩)
          dsimp only [Pt.U, Pt.locs, Pt.cells, Pt.slots] at X222 l222 y222 z222 st222 hQ222
          subst l222 y222 z222
          obtain ⟨rfl, rfl, E222⟩ := hQ222
          refine own_to st222 ?_
          show own_Go p e below F (T222.setTop (mkF m 233 #[.val (.int a), .val (.int b), .val (.int c1), .val (.int d), .val (.int n), .val (.int y0), .val (.int y1), .val (.int y2), .val (.int y3), .val (.int ((3 : Int32))), .val (.ref a182), .val (.ref a198), .val (.ref a198), .val (.int ((3 : Int32)))] [(.int (Int32.ofNat 3))]))
          refine own_iload X222.here hx (hb hby at_233) rfl (pc' := 235) rfl ?_
          refine own_icmpeq X222.here hx (hb hby at_235) (by decide) (pc' := 240) (by decide) (pc2 := 238) rfl (fun q223 => ?_) (fun q => absurd rfl q)
          refine own_iload X222.here hx (hb hby at_240) rfl (pc' := 242) rfl ?_
          refine own_iconst X222.here hx (hb hby at_242) (v := 1) rfl (pc' := 243) rfl ?_
          refine own_icmplt X222.here hx (hb hby at_243) (by decide) (pc' := 257) (by decide) (pc2 := 246) rfl (fun q => absurd q (by decide)) (fun q224 => ?_)
          refine own_aload X222.here hx (hb hby at_246) rfl rfl (pc' := 248) rfl ?_
          refine own_iconst X222.here hx (hb hby at_248) (v := 0) rfl (pc' := 249) rfl ?_
          obtain ⟨cq225, kq225, qa225, qb225, qc225⟩ := isOf J211.1 E222 S214.exa
          obtain ⟨_, _, ⟨T225, L225, k225, n225⟩, -, X225, ⟨Lc225, hQ225, l225, y225, z225⟩, st225⟩ := X222.virtualBack hx (y := (⟨"java/lang/String", "charAt", "(I)C"⟩ : MethodName)) (z := (⟨"java/lang/String", "charAt", "(I)C"⟩ : MethodName)) J211.2.1 (mvT J211.1 (hw _ (List.mem_of_getElem? (i := 114) rfl))) (mvT J211.1 (hw _ (List.mem_of_getElem? (i := 115) rfl))) (notFace_of_selects (args := #[]) (mvT J211.1 (hw _ (List.mem_of_getElem? (i := 117) rfl)))) (mvT J211.1 (hw _ (List.mem_of_getElem? (i := 117) rfl))) (mvT J211.1 (hw _ (List.mem_of_getElem? (i := 116) rfl))) (by decide) (own_chB (s := s.setVm s.vm) (W := 0) J211.1 hw S214 (O1.ext (own_ext_trans EZ f205)) P5 (O2.ext (own_ext_trans EZ f205)) rf (i := 0) (Nat.le_of_ble_eq_true rfl) rfl (by decide) (by decide)) qa225 qc225 (g := (mkF m 249 #[.val (.int a), .val (.int b), .val (.int c1), .val (.int d), .val (.int n), .val (.int y0), .val (.int y1), .val (.int y2), .val (.int y3), .val (.int ((3 : Int32))), .val (.ref a182), .val (.ref a198), .val (.ref a198), .val (.int ((3 : Int32)))] [(.int ((0 : Int32))), (.ref a198)])) rfl (by rw [hml]; rfl) (Steps.refl _) (argsL := [(.int ((0 : Int32)))]) (rest := []) (lenOf pdCh rfl) rfl (by show 2 * 0 + _ ≤ _; exact Nat.le_of_eq rfl) (hb hby at_249) (fun _ _ => ⟨rfl, E222, (Nat.le_of_ble_eq_true rfl), (Nat.le_of_ble_eq_true rfl)⟩)
          dsimp only [Pt.U, Pt.locs, Pt.cells, Pt.slots] at X225 l225 y225 z225 st225 hQ225
          subst l225 y225 z225
          obtain ⟨rfl, rfl, E225⟩ := hQ225
          refine own_to st225 ?_
          show own_Go p e below F (T225.setTop (mkF m 252 #[.val (.int a), .val (.int b), .val (.int c1), .val (.int d), .val (.int n), .val (.int y0), .val (.int y1), .val (.int y2), .val (.int y3), .val (.int ((3 : Int32))), .val (.ref a182), .val (.ref a198), .val (.ref a198), .val (.int ((3 : Int32)))] [(.int y0)]))
          refine own_iload X225.here hx (hb hby at_252) rfl (pc' := 254) rfl ?_
          refine own_icmpne X225.here hx (hb hby at_254) (by decide) (pc' := 312) (by decide) (pc2 := 257) rfl (fun q => absurd rfl q) (fun q226 => ?_)
          refine own_iload X225.here hx (hb hby at_257) rfl (pc' := 259) rfl ?_
          refine own_iconst X225.here hx (hb hby at_259) (v := 2) rfl (pc' := 260) rfl ?_
          refine own_icmplt X225.here hx (hb hby at_260) (by decide) (pc' := 274) (by decide) (pc2 := 263) rfl (fun q => absurd q (by decide)) (fun q227 => ?_)
          refine own_aload X225.here hx (hb hby at_263) rfl rfl (pc' := 265) rfl ?_
          refine own_iconst X225.here hx (hb hby at_265) (v := 1) rfl (pc' := 266) rfl ?_
          obtain ⟨cq228, kq228, qa228, qb228, qc228⟩ := isOf J211.1 E225 S214.exa
          obtain ⟨_, _, ⟨T228, L228, k228, n228⟩, -, X228, ⟨Lc228, hQ228, l228, y228, z228⟩, st228⟩ := X225.virtualBack hx (y := (⟨"java/lang/String", "charAt", "(I)C"⟩ : MethodName)) (z := (⟨"java/lang/String", "charAt", "(I)C"⟩ : MethodName)) J211.2.1 (mvT J211.1 (hw _ (List.mem_of_getElem? (i := 114) rfl))) (mvT J211.1 (hw _ (List.mem_of_getElem? (i := 115) rfl))) (notFace_of_selects (args := #[]) (mvT J211.1 (hw _ (List.mem_of_getElem? (i := 117) rfl)))) (mvT J211.1 (hw _ (List.mem_of_getElem? (i := 117) rfl))) (mvT J211.1 (hw _ (List.mem_of_getElem? (i := 116) rfl))) (by decide) (own_chB (s := s.setVm s.vm) (W := 0) J211.1 hw S214 (O1.ext (own_ext_trans EZ f205)) P5 (O2.ext (own_ext_trans EZ f205)) rf (i := 1) (Nat.le_of_ble_eq_true rfl) rfl (by decide) (by decide)) qa228 qc228 (g := (mkF m 266 #[.val (.int a), .val (.int b), .val (.int c1), .val (.int d), .val (.int n), .val (.int y0), .val (.int y1), .val (.int y2), .val (.int y3), .val (.int ((3 : Int32))), .val (.ref a182), .val (.ref a198), .val (.ref a198), .val (.int ((3 : Int32)))] [(.int ((1 : Int32))), (.ref a198)])) rfl (by rw [hml]; rfl) (Steps.refl _) (argsL := [(.int ((1 : Int32)))]) (rest := []) (lenOf pdCh rfl) rfl (by show 2 * 0 + _ ≤ _; exact Nat.le_of_eq rfl) (hb hby at_266) (fun _ _ => ⟨rfl, E225, (Nat.le_of_ble_eq_true rfl), (Nat.le_of_ble_eq_true rfl)⟩)
          dsimp only [Pt.U, Pt.locs, Pt.cells, Pt.slots] at X228 l228 y228 z228 st228 hQ228
          subst l228 y228 z228
          obtain ⟨rfl, rfl, E228⟩ := hQ228
          refine own_to st228 ?_
          show own_Go p e below F (T228.setTop (mkF m 269 #[.val (.int a), .val (.int b), .val (.int c1), .val (.int d), .val (.int n), .val (.int y0), .val (.int y1), .val (.int y2), .val (.int y3), .val (.int ((3 : Int32))), .val (.ref a182), .val (.ref a198), .val (.ref a198), .val (.int ((3 : Int32)))] [(.int y1)]))
          refine own_iload X228.here hx (hb hby at_269) rfl (pc' := 271) rfl ?_
          refine own_icmpne X228.here hx (hb hby at_271) (by decide) (pc' := 312) (by decide) (pc2 := 274) rfl (fun q => absurd rfl q) (fun q229 => ?_)
          refine own_iload X228.here hx (hb hby at_274) rfl (pc' := 276) rfl ?_
          refine own_iconst X228.here hx (hb hby at_276) (v := 3) rfl (pc' := 277) rfl ?_
          refine own_icmplt X228.here hx (hb hby at_277) (by decide) (pc' := 291) (by decide) (pc2 := 280) rfl (fun q => absurd q (by decide)) (fun q230 => ?_)
          refine own_aload X228.here hx (hb hby at_280) rfl rfl (pc' := 282) rfl ?_
          refine own_iconst X228.here hx (hb hby at_282) (v := 2) rfl (pc' := 283) rfl ?_
          obtain ⟨cq231, kq231, qa231, qb231, qc231⟩ := isOf J211.1 E228 S214.exa
          obtain ⟨_, _, ⟨T231, L231, k231, n231⟩, -, X231, ⟨Lc231, hQ231, l231, y231, z231⟩, st231⟩ := X228.virtualBack hx (y := (⟨"java/lang/String", "charAt", "(I)C"⟩ : MethodName)) (z := (⟨"java/lang/String", "charAt", "(I)C"⟩ : MethodName)) J211.2.1 (mvT J211.1 (hw _ (List.mem_of_getElem? (i := 114) rfl))) (mvT J211.1 (hw _ (List.mem_of_getElem? (i := 115) rfl))) (notFace_of_selects (args := #[]) (mvT J211.1 (hw _ (List.mem_of_getElem? (i := 117) rfl)))) (mvT J211.1 (hw _ (List.mem_of_getElem? (i := 117) rfl))) (mvT J211.1 (hw _ (List.mem_of_getElem? (i := 116) rfl))) (by decide) (own_chB (s := s.setVm s.vm) (W := 0) J211.1 hw S214 (O1.ext (own_ext_trans EZ f205)) P5 (O2.ext (own_ext_trans EZ f205)) rf (i := 2) (Nat.le_of_ble_eq_true rfl) rfl (by decide) (by decide)) qa231 qc231 (g := (mkF m 283 #[.val (.int a), .val (.int b), .val (.int c1), .val (.int d), .val (.int n), .val (.int y0), .val (.int y1), .val (.int y2), .val (.int y3), .val (.int ((3 : Int32))), .val (.ref a182), .val (.ref a198), .val (.ref a198), .val (.int ((3 : Int32)))] [(.int ((2 : Int32))), (.ref a198)])) rfl (by rw [hml]; rfl) (Steps.refl _) (argsL := [(.int ((2 : Int32)))]) (rest := []) (lenOf pdCh rfl) rfl (by show 2 * 0 + _ ≤ _; exact Nat.le_of_eq rfl) (hb hby at_283) (fun _ _ => ⟨rfl, E228, (Nat.le_of_ble_eq_true rfl), (Nat.le_of_ble_eq_true rfl)⟩)
          dsimp only [Pt.U, Pt.locs, Pt.cells, Pt.slots] at X231 l231 y231 z231 st231 hQ231
          subst l231 y231 z231
          obtain ⟨rfl, rfl, E231⟩ := hQ231
          refine own_to st231 ?_
          show own_Go p e below F (T231.setTop (mkF m 286 #[.val (.int a), .val (.int b), .val (.int c1), .val (.int d), .val (.int n), .val (.int y0), .val (.int y1), .val (.int y2), .val (.int y3), .val (.int ((3 : Int32))), .val (.ref a182), .val (.ref a198), .val (.ref a198), .val (.int ((3 : Int32)))] [(.int y2)]))
          refine own_iload X231.here hx (hb hby at_286) rfl (pc' := 288) rfl ?_
          refine own_icmpne X231.here hx (hb hby at_288) (by decide) (pc' := 312) (by decide) (pc2 := 291) rfl (fun q => absurd rfl q) (fun q232 => ?_)
          refine own_iload X231.here hx (hb hby at_291) rfl (pc' := 293) rfl ?_
          refine own_iconst X231.here hx (hb hby at_293) (v := 4) rfl (pc' := 294) rfl ?_
          refine own_icmplt X231.here hx (hb hby at_294) (by decide) (pc' := 308) (by decide) (pc2 := 297) rfl (fun q233 => ?_) (fun q => absurd (by decide) q)
          refine own_iconst X231.here hx (hb hby at_308) (v := 1) rfl (pc' := 309) rfl ?_
          refine own_goto X231.here hx (hb hby at_309) (by decide) (pc' := 313) (by decide) ?_
          exact own_retZW X231 hx hlk hEL J211 E231 (by decide) hret (hb hby at_313) (fun t ht hC hE => hF t _ _ _ _ (by rw [ht]; exact ⟨rfl, (by simpa using N216)⟩) hC hE (by decide) (by decide))
        refine own_icmpne X215.here hx (hb hby at_190) (by decide) (pc' := 196) (by decide) (pc2 := 193) rfl (fun q234 => ?_) (fun q234 => ?_)
        · exact J2_218 _
        · refine own_iconst X215.here hx (hb hby at_193) (v := 2) rfl (pc' := 194) rfl ?_
          refine own_istore X215.here hx (hb hby at_194) (L' := #[.val (.int a), .val (.int b), .val (.int c1), .val (.int d), .val (.int n), .val (.int y0), .val (.int y1), .val (.int y2), .val (.int y3), .val (.int ((3 : Int32))), .val (.ref a182), .val (.ref a198), .val (.ref a198), .val (.int ((2 : Int32)))]) rfl (pc' := 196) rfl ?_
          exact J2_218 _
      refine own_icmpne X215.here hx (hb hby at_174) (by decide) (pc' := 180) (by decide) (pc2 := 177) rfl (fun q235 => ?_) (fun q235 => ?_)
      · exact J1_217 _
      · refine own_iconst X215.here hx (hb hby at_177) (v := 1) rfl (pc' := 178) rfl ?_
        refine own_istore X215.here hx (hb hby at_178) (L' := #[.val (.int a), .val (.int b), .val (.int c1), .val (.int d), .val (.int n), .val (.int y0), .val (.int y1), .val (.int y2), .val (.int y3), .val (.int ((3 : Int32))), .val (.ref a182), .val (.ref a198), .val (.ref a198), .val (.int ((1 : Int32)))]) rfl (pc' := 180) rfl ?_
        exact J1_217 _
    · by_cases h2 : y1 = 47
      · have S236 := S213
        obtain ⟨_, _, ⟨T237, L237, k237, n237⟩, -, X237, ⟨Lc237, hQ237, l237, y237, z237⟩, st237⟩ := Jvm.LawKit.callS X204 hx (y := (⟨"com/example/cartulary/cartulary/RegisterUris", "registerBase", "(Ljava/lang/String;)Ljava/lang/String;"⟩ : MethodName)) J211.2.1 (mvT J211.1 (hw _ (List.mem_of_getElem? (i := 27) rfl))) (mvT J211.1 (hw _ (List.mem_of_getElem? (i := 28) rfl))) (mvT J211.1 (hw _ (List.mem_of_getElem? (i := 29) rfl))) (mvT J211.1 (hw _ (List.mem_of_getElem? (i := 30) rfl))) (by decide) (backOf (W := 0) (rmRB2 l Z a0 hw a198 [y0, y1, y2] 2 T204.heap (own_ext_trans EZ f205) z0 O1 P5 fm O2 rf S236 (by decide) (by decide) (Nat.le_of_ble_eq_true rfl) (by simp [own_li, h3, h2]; try decide)) J211.1 (hw _ (List.mem_of_getElem? (i := 30) rfl)) (hw _ (List.mem_of_getElem? (i := 29) rfl)) (by decide) (by decide)) (g := (mkF m 156 #[.val (.int a), .val (.int b), .val (.int c1), .val (.int d), .val (.int n), .val (.int y0), .val (.int y1), .val (.int y2), .val (.int y3), .val (.int ((3 : Int32))), .val (.ref a182), .val (.ref a198), .unset, .unset] [(.ref a198)])) rfl (by rw [hml]; rfl) (argsL := [(.ref a198)]) (rest := []) (lenOf pdRU rfl) rfl (by show 2 * 0 + _ ≤ _; exact Nat.le_of_eq rfl) (hb hby at_156) (fun _ _ => ⟨rfl, rfl, (Nat.le_of_ble_eq_true rfl), (Nat.le_of_ble_eq_true rfl)⟩)
        dsimp only [Pt.U, Pt.locs, Pt.cells, Pt.slots] at X237 l237 y237 z237 st237 hQ237
        subst l237 y237 z237
        obtain ⟨y237, rfl, S237, E237, N237⟩ := hQ237
        refine own_on (st237) ?_
        show own_Go p e below F (T237.setTop (mkF m 159 #[.val (.int a), .val (.int b), .val (.int c1), .val (.int d), .val (.int n), .val (.int y0), .val (.int y1), .val (.int y2), .val (.int y3), .val (.int ((3 : Int32))), .val (.ref a182), .val (.ref a198), .unset, .unset] [(.ref y237)]))
        have f238 := own_ext_trans f205 E237
        have J239 := J211.ext E237
        have N240 := Fr.app N212 N237
        refine own_astore X237.here hx (hb hby at_159) rfl (L' := #[.val (.int a), .val (.int b), .val (.int c1), .val (.int d), .val (.int n), .val (.int y0), .val (.int y1), .val (.int y2), .val (.int y3), .val (.int ((3 : Int32))), .val (.ref a182), .val (.ref a198), .val (.ref y237), .unset]) rfl (pc' := 161) rfl ?_
        refine own_iconst X237.here hx (hb hby at_161) (v := 0) rfl (pc' := 162) rfl ?_
        refine own_istore X237.here hx (hb hby at_162) (L' := #[.val (.int a), .val (.int b), .val (.int c1), .val (.int d), .val (.int n), .val (.int y0), .val (.int y1), .val (.int y2), .val (.int y3), .val (.int ((3 : Int32))), .val (.ref a182), .val (.ref a198), .val (.ref y237), .val (.int ((0 : Int32)))]) rfl (pc' := 164) rfl ?_
        refine own_iload X237.here hx (hb hby at_164) rfl (pc' := 166) rfl ?_
        refine own_iconst X237.here hx (hb hby at_166) (v := 1) rfl (pc' := 167) rfl ?_
        refine own_icmplt X237.here hx (hb hby at_167) (by decide) (pc' := 180) (by decide) (pc2 := 170) rfl (fun q => absurd q (by decide)) (fun q241 => ?_)
        refine own_iload X237.here hx (hb hby at_170) rfl (pc' := 172) rfl ?_
        refine own_bipush X237.here hx (hb hby at_172) (v := 47) rfl (pc' := 174) rfl ?_
        have J1_241 : ∀ (zz : Int32), own_Go p e below F (T237.setTop (mkF m 180 #[.val (.int a), .val (.int b), .val (.int c1), .val (.int d), .val (.int n), .val (.int y0), .val (.int y1), .val (.int y2), .val (.int y3), .val (.int ((3 : Int32))), .val (.ref a182), .val (.ref a198), .val (.ref y237), .val (.int zz)] [])) := by
          intro zz
          refine own_iload X237.here hx (hb hby at_180) rfl (pc' := 182) rfl ?_
          refine own_iconst X237.here hx (hb hby at_182) (v := 2) rfl (pc' := 183) rfl ?_
          refine own_icmplt X237.here hx (hb hby at_183) (by decide) (pc' := 196) (by decide) (pc2 := 186) rfl (fun q => absurd q (by decide)) (fun q242 => ?_)
          refine own_iload X237.here hx (hb hby at_186) rfl (pc' := 188) rfl ?_
          refine own_bipush X237.here hx (hb hby at_188) (v := 47) rfl (pc' := 190) rfl ?_
          refine own_icmpne X237.here hx (hb hby at_190) (by decide) (pc' := 196) (by decide) (pc2 := 193) rfl (fun q => absurd h2 q) (fun q243 => ?_)
          refine own_iconst X237.here hx (hb hby at_193) (v := 2) rfl (pc' := 194) rfl ?_
          refine own_istore X237.here hx (hb hby at_194) (L' := #[.val (.int a), .val (.int b), .val (.int c1), .val (.int d), .val (.int n), .val (.int y0), .val (.int y1), .val (.int y2), .val (.int y3), .val (.int ((3 : Int32))), .val (.ref a182), .val (.ref a198), .val (.ref y237), .val (.int ((2 : Int32)))]) rfl (pc' := 196) rfl ?_
          refine own_iload X237.here hx (hb hby at_196) rfl (pc' := 198) rfl ?_
          refine own_iconst X237.here hx (hb hby at_198) (v := 3) rfl (pc' := 199) rfl ?_
          refine own_icmplt X237.here hx (hb hby at_199) (by decide) (pc' := 212) (by decide) (pc2 := 202) rfl (fun q => absurd q (by decide)) (fun q244 => ?_)
          refine own_iload X237.here hx (hb hby at_202) rfl (pc' := 204) rfl ?_
          refine own_bipush X237.here hx (hb hby at_204) (v := 47) rfl (pc' := 206) rfl ?_
          refine own_icmpne X237.here hx (hb hby at_206) (by decide) (pc' := 212) (by decide) (pc2 := 209) rfl (fun q245 => ?_) (fun q => absurd q h3)
          refine own_iload X237.here hx (hb hby at_212) rfl (pc' := 214) rfl ?_
          refine own_iconst X237.here hx (hb hby at_214) (v := 4) rfl (pc' := 215) rfl ?_
          refine own_icmplt X237.here hx (hb hby at_215) (by decide) (pc' := 228) (by decide) (pc2 := 218) rfl (fun q246 => ?_) (fun q => absurd (by decide) q)
          refine own_aload X237.here hx (hb hby at_228) rfl rfl (pc' := 230) rfl ?_
          obtain ⟨cq247, kq247, qa247, qb247, qc247⟩ := isOf J239.1 rfl S237.exa
          obtain ⟨_, _, ⟨T247, L247, k247, n247⟩, -, X247, ⟨Lc247, hQ247, l247, y247, z247⟩, st247⟩ := X237.virtualBack hx (y := (⟨"java/lang/String", "length", "()I"⟩ : MethodName)) (z := (⟨"java/lang/String", "length", "()I"⟩ : MethodName)) J239.2.1 (mvT J239.1 (hw _ (List.mem_of_getElem? (i := 81) rfl))) (mvT J239.1 (hw _ (List.mem_of_getElem? (i := 37) rfl))) (notFace_of_selects (args := #[]) (mvT J239.1 (hw _ (List.mem_of_getElem? (i := 39) rfl)))) (mvT J239.1 (hw _ (List.mem_of_getElem? (i := 39) rfl))) (mvT J239.1 (hw _ (List.mem_of_getElem? (i := 38) rfl))) (by decide) (own_lenB (s := s.setVm s.vm) (W := 0) J239.1 hw S237 (O1.ext (own_ext_trans EZ f238)) P5 (by decide) (by decide)) qa247 qc247 (g := (mkF m 230 #[.val (.int a), .val (.int b), .val (.int c1), .val (.int d), .val (.int n), .val (.int y0), .val (.int y1), .val (.int y2), .val (.int y3), .val (.int ((3 : Int32))), .val (.ref a182), .val (.ref a198), .val (.ref y237), .val (.int ((2 : Int32)))] [(.ref y237)])) rfl (by rw [hml]; rfl) (Steps.refl _) (argsL := []) (rest := []) (lenOf pdI rfl) rfl (by show 2 * 0 + _ ≤ _; exact Nat.le_of_eq rfl) (hb hby at_230) (fun _ _ => ⟨rfl, rfl, (Nat.le_of_ble_eq_true rfl), (Nat.le_of_ble_eq_true rfl)⟩)
          dsimp only [Pt.U, Pt.locs, Pt.cells, Pt.slots] at X247 l247 y247 z247 st247 hQ247
          subst l247 y247 z247
          obtain ⟨rfl, rfl, E247⟩ := hQ247
          refine own_to st247 ?_
          show own_Go p e below F (T247.setTop (mkF m 233 #[.val (.int a), .val (.int b), .val (.int c1), .val (.int d), .val (.int n), .val (.int y0), .val (.int y1), .val (.int y2), .val (.int y3), .val (.int ((3 : Int32))), .val (.ref a182), .val (.ref a198), .val (.ref y237), .val (.int ((2 : Int32)))] [(.int (Int32.ofNat 2))]))
          refine own_iload X247.here hx (hb hby at_233) rfl (pc' := 235) rfl ?_
          refine own_icmpeq X247.here hx (hb hby at_235) (by decide) (pc' := 240) (by decide) (pc2 := 238) rfl (fun q248 => ?_) (fun q => absurd rfl q)
          refine own_iload X247.here hx (hb hby at_240) rfl (pc' := 242) rfl ?_
          refine own_iconst X247.here hx (hb hby at_242) (v := 1) rfl (pc' := 243) rfl ?_
          refine own_icmplt X247.here hx (hb hby at_243) (by decide) (pc' := 257) (by decide) (pc2 := 246) rfl (fun q => absurd q (by decide)) (fun q249 => ?_)
          refine own_aload X247.here hx (hb hby at_246) rfl rfl (pc' := 248) rfl ?_
          refine own_iconst X247.here hx (hb hby at_248) (v := 0) rfl (pc' := 249) rfl ?_
          obtain ⟨cq250, kq250, qa250, qb250, qc250⟩ := isOf J239.1 E247 S237.exa
          obtain ⟨_, _, ⟨T250, L250, k250, n250⟩, -, X250, ⟨Lc250, hQ250, l250, y250, z250⟩, st250⟩ := X247.virtualBack hx (y := (⟨"java/lang/String", "charAt", "(I)C"⟩ : MethodName)) (z := (⟨"java/lang/String", "charAt", "(I)C"⟩ : MethodName)) J239.2.1 (mvT J239.1 (hw _ (List.mem_of_getElem? (i := 114) rfl))) (mvT J239.1 (hw _ (List.mem_of_getElem? (i := 115) rfl))) (notFace_of_selects (args := #[]) (mvT J239.1 (hw _ (List.mem_of_getElem? (i := 117) rfl)))) (mvT J239.1 (hw _ (List.mem_of_getElem? (i := 117) rfl))) (mvT J239.1 (hw _ (List.mem_of_getElem? (i := 116) rfl))) (by decide) (own_chB (s := s.setVm s.vm) (W := 0) J239.1 hw S237 (O1.ext (own_ext_trans EZ f238)) P5 (O2.ext (own_ext_trans EZ f238)) rf (i := 0) (Nat.le_of_ble_eq_true rfl) rfl (by decide) (by decide)) qa250 qc250 (g := (mkF m 249 #[.val (.int a), .val (.int b), .val (.int c1), .val (.int d), .val (.int n), .val (.int y0), .val (.int y1), .val (.int y2), .val (.int y3), .val (.int ((3 : Int32))), .val (.ref a182), .val (.ref a198), .val (.ref y237), .val (.int ((2 : Int32)))] [(.int ((0 : Int32))), (.ref y237)])) rfl (by rw [hml]; rfl) (Steps.refl _) (argsL := [(.int ((0 : Int32)))]) (rest := []) (lenOf pdCh rfl) rfl (by show 2 * 0 + _ ≤ _; exact Nat.le_of_eq rfl) (hb hby at_249) (fun _ _ => ⟨rfl, E247, (Nat.le_of_ble_eq_true rfl), (Nat.le_of_ble_eq_true rfl)⟩)
          dsimp only [Pt.U, Pt.locs, Pt.cells, Pt.slots] at X250 l250 y250 z250 st250 hQ250
          subst l250 y250 z250
          obtain ⟨rfl, rfl, E250⟩ := hQ250
          refine own_to st250 ?_
          show own_Go p e below F (T250.setTop (mkF m 252 #[.val (.int a), .val (.int b), .val (.int c1), .val (.int d), .val (.int n), .val (.int y0), .val (.int y1), .val (.int y2), .val (.int y3), .val (.int ((3 : Int32))), .val (.ref a182), .val (.ref a198), .val (.ref y237), .val (.int ((2 : Int32)))] [(.int y0)]))
          refine own_iload X250.here hx (hb hby at_252) rfl (pc' := 254) rfl ?_
          refine own_icmpne X250.here hx (hb hby at_254) (by decide) (pc' := 312) (by decide) (pc2 := 257) rfl (fun q => absurd rfl q) (fun q251 => ?_)
          refine own_iload X250.here hx (hb hby at_257) rfl (pc' := 259) rfl ?_
          refine own_iconst X250.here hx (hb hby at_259) (v := 2) rfl (pc' := 260) rfl ?_
          refine own_icmplt X250.here hx (hb hby at_260) (by decide) (pc' := 274) (by decide) (pc2 := 263) rfl (fun q => absurd q (by decide)) (fun q252 => ?_)
          refine own_aload X250.here hx (hb hby at_263) rfl rfl (pc' := 265) rfl ?_
          refine own_iconst X250.here hx (hb hby at_265) (v := 1) rfl (pc' := 266) rfl ?_
          obtain ⟨cq253, kq253, qa253, qb253, qc253⟩ := isOf J239.1 E250 S237.exa
          obtain ⟨_, _, ⟨T253, L253, k253, n253⟩, -, X253, ⟨Lc253, hQ253, l253, y253, z253⟩, st253⟩ := X250.virtualBack hx (y := (⟨"java/lang/String", "charAt", "(I)C"⟩ : MethodName)) (z := (⟨"java/lang/String", "charAt", "(I)C"⟩ : MethodName)) J239.2.1 (mvT J239.1 (hw _ (List.mem_of_getElem? (i := 114) rfl))) (mvT J239.1 (hw _ (List.mem_of_getElem? (i := 115) rfl))) (notFace_of_selects (args := #[]) (mvT J239.1 (hw _ (List.mem_of_getElem? (i := 117) rfl)))) (mvT J239.1 (hw _ (List.mem_of_getElem? (i := 117) rfl))) (mvT J239.1 (hw _ (List.mem_of_getElem? (i := 116) rfl))) (by decide) (own_chB (s := s.setVm s.vm) (W := 0) J239.1 hw S237 (O1.ext (own_ext_trans EZ f238)) P5 (O2.ext (own_ext_trans EZ f238)) rf (i := 1) (Nat.le_of_ble_eq_true rfl) rfl (by decide) (by decide)) qa253 qc253 (g := (mkF m 266 #[.val (.int a), .val (.int b), .val (.int c1), .val (.int d), .val (.int n), .val (.int y0), .val (.int y1), .val (.int y2), .val (.int y3), .val (.int ((3 : Int32))), .val (.ref a182), .val (.ref a198), .val (.ref y237), .val (.int ((2 : Int32)))] [(.int ((1 : Int32))), (.ref y237)])) rfl (by rw [hml]; rfl) (Steps.refl _) (argsL := [(.int ((1 : Int32)))]) (rest := []) (lenOf pdCh rfl) rfl (by show 2 * 0 + _ ≤ _; exact Nat.le_of_eq rfl) (hb hby at_266) (fun _ _ => ⟨rfl, E250, (Nat.le_of_ble_eq_true rfl), (Nat.le_of_ble_eq_true rfl)⟩)
          dsimp only [Pt.U, Pt.locs, Pt.cells, Pt.slots] at X253 l253 y253 z253 st253 hQ253
          subst l253 y253 z253
          obtain ⟨rfl, rfl, E253⟩ := hQ253
          refine own_to st253 ?_
          show own_Go p e below F (T253.setTop (mkF m 269 #[.val (.int a), .val (.int b), .val (.int c1), .val (.int d), .val (.int n), .val (.int y0), .val (.int y1), .val (.int y2), .val (.int y3), .val (.int ((3 : Int32))), .val (.ref a182), .val (.ref a198), .val (.ref y237), .val (.int ((2 : Int32)))] [(.int y1)]))
          refine own_iload X253.here hx (hb hby at_269) rfl (pc' := 271) rfl ?_
          refine own_icmpne X253.here hx (hb hby at_271) (by decide) (pc' := 312) (by decide) (pc2 := 274) rfl (fun q => absurd rfl q) (fun q254 => ?_)
          refine own_iload X253.here hx (hb hby at_274) rfl (pc' := 276) rfl ?_
          refine own_iconst X253.here hx (hb hby at_276) (v := 3) rfl (pc' := 277) rfl ?_
          refine own_icmplt X253.here hx (hb hby at_277) (by decide) (pc' := 291) (by decide) (pc2 := 280) rfl (fun q255 => ?_) (fun q => absurd (by decide) q)
          refine own_iload X253.here hx (hb hby at_291) rfl (pc' := 293) rfl ?_
          refine own_iconst X253.here hx (hb hby at_293) (v := 4) rfl (pc' := 294) rfl ?_
          refine own_icmplt X253.here hx (hb hby at_294) (by decide) (pc' := 308) (by decide) (pc2 := 297) rfl (fun q256 => ?_) (fun q => absurd (by decide) q)
          refine own_iconst X253.here hx (hb hby at_308) (v := 1) rfl (pc' := 309) rfl ?_
          refine own_goto X253.here hx (hb hby at_309) (by decide) (pc' := 313) (by decide) ?_
          exact own_retZW X253 hx hlk hEL J239 E253 (by decide) hret (hb hby at_313) (fun t ht hC hE => hF t _ _ _ _ (by rw [ht]; exact ⟨rfl, (by simpa using N240)⟩) hC hE (by decide) (by decide))
        refine own_icmpne X237.here hx (hb hby at_174) (by decide) (pc' := 180) (by decide) (pc2 := 177) rfl (fun q257 => ?_) (fun q257 => ?_)
        · exact J1_241 _
        · refine own_iconst X237.here hx (hb hby at_177) (v := 1) rfl (pc' := 178) rfl ?_
          refine own_istore X237.here hx (hb hby at_178) (L' := #[.val (.int a), .val (.int b), .val (.int c1), .val (.int d), .val (.int n), .val (.int y0), .val (.int y1), .val (.int y2), .val (.int y3), .val (.int ((3 : Int32))), .val (.ref a182), .val (.ref a198), .val (.ref y237), .val (.int ((1 : Int32)))]) rfl (pc' := 180) rfl ?_
          exact J1_241 _
      · by_cases h1 : y0 = 47
        · have S258 := S213
          obtain ⟨_, _, ⟨T259, L259, k259, n259⟩, -, X259, ⟨Lc259, hQ259, l259, y259, z259⟩, st259⟩ := Jvm.LawKit.callS X204 hx (y := (⟨"com/example/cartulary/cartulary/RegisterUris", "registerBase", "(Ljava/lang/String;)Ljava/lang/String;"⟩ : MethodName)) J211.2.1 (mvT J211.1 (hw _ (List.mem_of_getElem? (i := 27) rfl))) (mvT J211.1 (hw _ (List.mem_of_getElem? (i := 28) rfl))) (mvT J211.1 (hw _ (List.mem_of_getElem? (i := 29) rfl))) (mvT J211.1 (hw _ (List.mem_of_getElem? (i := 30) rfl))) (by decide) (backOf (W := 0) (rmRB2 l Z a0 hw a198 [y0, y1, y2] 1 T204.heap (own_ext_trans EZ f205) z0 O1 P5 fm O2 rf S258 (by decide) (by decide) (Nat.le_of_ble_eq_true rfl) (by simp [own_li, h3, h2, h1]; try decide)) J211.1 (hw _ (List.mem_of_getElem? (i := 30) rfl)) (hw _ (List.mem_of_getElem? (i := 29) rfl)) (by decide) (by decide)) (g := (mkF m 156 #[.val (.int a), .val (.int b), .val (.int c1), .val (.int d), .val (.int n), .val (.int y0), .val (.int y1), .val (.int y2), .val (.int y3), .val (.int ((3 : Int32))), .val (.ref a182), .val (.ref a198), .unset, .unset] [(.ref a198)])) rfl (by rw [hml]; rfl) (argsL := [(.ref a198)]) (rest := []) (lenOf pdRU rfl) rfl (by show 2 * 0 + _ ≤ _; exact Nat.le_of_eq rfl) (hb hby at_156) (fun _ _ => ⟨rfl, rfl, (Nat.le_of_ble_eq_true rfl), (Nat.le_of_ble_eq_true rfl)⟩)
          dsimp only [Pt.U, Pt.locs, Pt.cells, Pt.slots] at X259 l259 y259 z259 st259 hQ259
          subst l259 y259 z259
          obtain ⟨y259, rfl, S259, E259, N259⟩ := hQ259
          refine own_on (st259) ?_
          show own_Go p e below F (T259.setTop (mkF m 159 #[.val (.int a), .val (.int b), .val (.int c1), .val (.int d), .val (.int n), .val (.int y0), .val (.int y1), .val (.int y2), .val (.int y3), .val (.int ((3 : Int32))), .val (.ref a182), .val (.ref a198), .unset, .unset] [(.ref y259)]))
          have f260 := own_ext_trans f205 E259
          have J261 := J211.ext E259
          have N262 := Fr.app N212 N259
          refine own_astore X259.here hx (hb hby at_159) rfl (L' := #[.val (.int a), .val (.int b), .val (.int c1), .val (.int d), .val (.int n), .val (.int y0), .val (.int y1), .val (.int y2), .val (.int y3), .val (.int ((3 : Int32))), .val (.ref a182), .val (.ref a198), .val (.ref y259), .unset]) rfl (pc' := 161) rfl ?_
          refine own_iconst X259.here hx (hb hby at_161) (v := 0) rfl (pc' := 162) rfl ?_
          refine own_istore X259.here hx (hb hby at_162) (L' := #[.val (.int a), .val (.int b), .val (.int c1), .val (.int d), .val (.int n), .val (.int y0), .val (.int y1), .val (.int y2), .val (.int y3), .val (.int ((3 : Int32))), .val (.ref a182), .val (.ref a198), .val (.ref y259), .val (.int ((0 : Int32)))]) rfl (pc' := 164) rfl ?_
          refine own_iload X259.here hx (hb hby at_164) rfl (pc' := 166) rfl ?_
          refine own_iconst X259.here hx (hb hby at_166) (v := 1) rfl (pc' := 167) rfl ?_
          refine own_icmplt X259.here hx (hb hby at_167) (by decide) (pc' := 180) (by decide) (pc2 := 170) rfl (fun q => absurd q (by decide)) (fun q263 => ?_)
          refine own_iload X259.here hx (hb hby at_170) rfl (pc' := 172) rfl ?_
          refine own_bipush X259.here hx (hb hby at_172) (v := 47) rfl (pc' := 174) rfl ?_
          refine own_icmpne X259.here hx (hb hby at_174) (by decide) (pc' := 180) (by decide) (pc2 := 177) rfl (fun q => absurd h1 q) (fun q264 => ?_)
          refine own_iconst X259.here hx (hb hby at_177) (v := 1) rfl (pc' := 178) rfl ?_
          refine own_istore X259.here hx (hb hby at_178) (L' := #[.val (.int a), .val (.int b), .val (.int c1), .val (.int d), .val (.int n), .val (.int y0), .val (.int y1), .val (.int y2), .val (.int y3), .val (.int ((3 : Int32))), .val (.ref a182), .val (.ref a198), .val (.ref y259), .val (.int ((1 : Int32)))]) rfl (pc' := 180) rfl ?_
          refine own_iload X259.here hx (hb hby at_180) rfl (pc' := 182) rfl ?_
          refine own_iconst X259.here hx (hb hby at_182) (v := 2) rfl (pc' := 183) rfl ?_
          refine own_icmplt X259.here hx (hb hby at_183) (by decide) (pc' := 196) (by decide) (pc2 := 186) rfl (fun q => absurd q (by decide)) (fun q265 => ?_)
          refine own_iload X259.here hx (hb hby at_186) rfl (pc' := 188) rfl ?_
          refine own_bipush X259.here hx (hb hby at_188) (v := 47) rfl (pc' := 190) rfl ?_
          refine own_icmpne X259.here hx (hb hby at_190) (by decide) (pc' := 196) (by decide) (pc2 := 193) rfl (fun q266 => ?_) (fun q => absurd q h2)
          refine own_iload X259.here hx (hb hby at_196) rfl (pc' := 198) rfl ?_
          refine own_iconst X259.here hx (hb hby at_198) (v := 3) rfl (pc' := 199) rfl ?_
          refine own_icmplt X259.here hx (hb hby at_199) (by decide) (pc' := 212) (by decide) (pc2 := 202) rfl (fun q => absurd q (by decide)) (fun q267 => ?_)
          refine own_iload X259.here hx (hb hby at_202) rfl (pc' := 204) rfl ?_
          refine own_bipush X259.here hx (hb hby at_204) (v := 47) rfl (pc' := 206) rfl ?_
          refine own_icmpne X259.here hx (hb hby at_206) (by decide) (pc' := 212) (by decide) (pc2 := 209) rfl (fun q268 => ?_) (fun q => absurd q h3)
          refine own_iload X259.here hx (hb hby at_212) rfl (pc' := 214) rfl ?_
          refine own_iconst X259.here hx (hb hby at_214) (v := 4) rfl (pc' := 215) rfl ?_
          refine own_icmplt X259.here hx (hb hby at_215) (by decide) (pc' := 228) (by decide) (pc2 := 218) rfl (fun q269 => ?_) (fun q => absurd (by decide) q)
          refine own_aload X259.here hx (hb hby at_228) rfl rfl (pc' := 230) rfl ?_
          obtain ⟨cq270, kq270, qa270, qb270, qc270⟩ := isOf J261.1 rfl S259.exa
          obtain ⟨_, _, ⟨T270, L270, k270, n270⟩, -, X270, ⟨Lc270, hQ270, l270, y270, z270⟩, st270⟩ := X259.virtualBack hx (y := (⟨"java/lang/String", "length", "()I"⟩ : MethodName)) (z := (⟨"java/lang/String", "length", "()I"⟩ : MethodName)) J261.2.1 (mvT J261.1 (hw _ (List.mem_of_getElem? (i := 81) rfl))) (mvT J261.1 (hw _ (List.mem_of_getElem? (i := 37) rfl))) (notFace_of_selects (args := #[]) (mvT J261.1 (hw _ (List.mem_of_getElem? (i := 39) rfl)))) (mvT J261.1 (hw _ (List.mem_of_getElem? (i := 39) rfl))) (mvT J261.1 (hw _ (List.mem_of_getElem? (i := 38) rfl))) (by decide) (own_lenB (s := s.setVm s.vm) (W := 0) J261.1 hw S259 (O1.ext (own_ext_trans EZ f260)) P5 (by decide) (by decide)) qa270 qc270 (g := (mkF m 230 #[.val (.int a), .val (.int b), .val (.int c1), .val (.int d), .val (.int n), .val (.int y0), .val (.int y1), .val (.int y2), .val (.int y3), .val (.int ((3 : Int32))), .val (.ref a182), .val (.ref a198), .val (.ref y259), .val (.int ((1 : Int32)))] [(.ref y259)])) rfl (by rw [hml]; rfl) (Steps.refl _) (argsL := []) (rest := []) (lenOf pdI rfl) rfl (by show 2 * 0 + _ ≤ _; exact Nat.le_of_eq rfl) (hb hby at_230) (fun _ _ => ⟨rfl, rfl, (Nat.le_of_ble_eq_true rfl), (Nat.le_of_ble_eq_true rfl)⟩)
          dsimp only [Pt.U, Pt.locs, Pt.cells, Pt.slots] at X270 l270 y270 z270 st270 hQ270
          subst l270 y270 z270
          obtain ⟨rfl, rfl, E270⟩ := hQ270
          refine own_to st270 ?_
          show own_Go p e below F (T270.setTop (mkF m 233 #[.val (.int a), .val (.int b), .val (.int c1), .val (.int d), .val (.int n), .val (.int y0), .val (.int y1), .val (.int y2), .val (.int y3), .val (.int ((3 : Int32))), .val (.ref a182), .val (.ref a198), .val (.ref y259), .val (.int ((1 : Int32)))] [(.int (Int32.ofNat 1))]))
          refine own_iload X270.here hx (hb hby at_233) rfl (pc' := 235) rfl ?_
          refine own_icmpeq X270.here hx (hb hby at_235) (by decide) (pc' := 240) (by decide) (pc2 := 238) rfl (fun q271 => ?_) (fun q => absurd rfl q)
          refine own_iload X270.here hx (hb hby at_240) rfl (pc' := 242) rfl ?_
          refine own_iconst X270.here hx (hb hby at_242) (v := 1) rfl (pc' := 243) rfl ?_
          refine own_icmplt X270.here hx (hb hby at_243) (by decide) (pc' := 257) (by decide) (pc2 := 246) rfl (fun q => absurd q (by decide)) (fun q272 => ?_)
          refine own_aload X270.here hx (hb hby at_246) rfl rfl (pc' := 248) rfl ?_
          refine own_iconst X270.here hx (hb hby at_248) (v := 0) rfl (pc' := 249) rfl ?_
          obtain ⟨cq273, kq273, qa273, qb273, qc273⟩ := isOf J261.1 E270 S259.exa
          obtain ⟨_, _, ⟨T273, L273, k273, n273⟩, -, X273, ⟨Lc273, hQ273, l273, y273, z273⟩, st273⟩ := X270.virtualBack hx (y := (⟨"java/lang/String", "charAt", "(I)C"⟩ : MethodName)) (z := (⟨"java/lang/String", "charAt", "(I)C"⟩ : MethodName)) J261.2.1 (mvT J261.1 (hw _ (List.mem_of_getElem? (i := 114) rfl))) (mvT J261.1 (hw _ (List.mem_of_getElem? (i := 115) rfl))) (notFace_of_selects (args := #[]) (mvT J261.1 (hw _ (List.mem_of_getElem? (i := 117) rfl)))) (mvT J261.1 (hw _ (List.mem_of_getElem? (i := 117) rfl))) (mvT J261.1 (hw _ (List.mem_of_getElem? (i := 116) rfl))) (by decide) (own_chB (s := s.setVm s.vm) (W := 0) J261.1 hw S259 (O1.ext (own_ext_trans EZ f260)) P5 (O2.ext (own_ext_trans EZ f260)) rf (i := 0) (Nat.le_of_ble_eq_true rfl) rfl (by decide) (by decide)) qa273 qc273 (g := (mkF m 249 #[.val (.int a), .val (.int b), .val (.int c1), .val (.int d), .val (.int n), .val (.int y0), .val (.int y1), .val (.int y2), .val (.int y3), .val (.int ((3 : Int32))), .val (.ref a182), .val (.ref a198), .val (.ref y259), .val (.int ((1 : Int32)))] [(.int ((0 : Int32))), (.ref y259)])) rfl (by rw [hml]; rfl) (Steps.refl _) (argsL := [(.int ((0 : Int32)))]) (rest := []) (lenOf pdCh rfl) rfl (by show 2 * 0 + _ ≤ _; exact Nat.le_of_eq rfl) (hb hby at_249) (fun _ _ => ⟨rfl, E270, (Nat.le_of_ble_eq_true rfl), (Nat.le_of_ble_eq_true rfl)⟩)
          dsimp only [Pt.U, Pt.locs, Pt.cells, Pt.slots] at X273 l273 y273 z273 st273 hQ273
          subst l273 y273 z273
          obtain ⟨rfl, rfl, E273⟩ := hQ273
          refine own_to st273 ?_
          show own_Go p e below F (T273.setTop (mkF m 252 #[.val (.int a), .val (.int b), .val (.int c1), .val (.int d), .val (.int n), .val (.int y0), .val (.int y1), .val (.int y2), .val (.int y3), .val (.int ((3 : Int32))), .val (.ref a182), .val (.ref a198), .val (.ref y259), .val (.int ((1 : Int32)))] [(.int y0)]))
          refine own_iload X273.here hx (hb hby at_252) rfl (pc' := 254) rfl ?_
          refine own_icmpne X273.here hx (hb hby at_254) (by decide) (pc' := 312) (by decide) (pc2 := 257) rfl (fun q => absurd rfl q) (fun q274 => ?_)
          refine own_iload X273.here hx (hb hby at_257) rfl (pc' := 259) rfl ?_
          refine own_iconst X273.here hx (hb hby at_259) (v := 2) rfl (pc' := 260) rfl ?_
          refine own_icmplt X273.here hx (hb hby at_260) (by decide) (pc' := 274) (by decide) (pc2 := 263) rfl (fun q275 => ?_) (fun q => absurd (by decide) q)
          refine own_iload X273.here hx (hb hby at_274) rfl (pc' := 276) rfl ?_
          refine own_iconst X273.here hx (hb hby at_276) (v := 3) rfl (pc' := 277) rfl ?_
          refine own_icmplt X273.here hx (hb hby at_277) (by decide) (pc' := 291) (by decide) (pc2 := 280) rfl (fun q276 => ?_) (fun q => absurd (by decide) q)
          refine own_iload X273.here hx (hb hby at_291) rfl (pc' := 293) rfl ?_
          refine own_iconst X273.here hx (hb hby at_293) (v := 4) rfl (pc' := 294) rfl ?_
          refine own_icmplt X273.here hx (hb hby at_294) (by decide) (pc' := 308) (by decide) (pc2 := 297) rfl (fun q277 => ?_) (fun q => absurd (by decide) q)
          refine own_iconst X273.here hx (hb hby at_308) (v := 1) rfl (pc' := 309) rfl ?_
          refine own_goto X273.here hx (hb hby at_309) (by decide) (pc' := 313) (by decide) ?_
          exact own_retZW X273 hx hlk hEL J261 E273 (by decide) hret (hb hby at_313) (fun t ht hC hE => hF t _ _ _ _ (by rw [ht]; exact ⟨rfl, (by simpa using N262)⟩) hC hE (by decide) (by decide))
        · have S278 := S213
          obtain ⟨_, _, ⟨T279, L279, k279, n279⟩, -, X279, hS279, hG279, ⟨Lc279, hQ279, l279, y279, z279, C279⟩, st279⟩ := callSS X204 hx (y := (⟨"com/example/cartulary/cartulary/RegisterUris", "registerBase", "(Ljava/lang/String;)Ljava/lang/String;"⟩ : MethodName)) J211.2.1 (mvT J211.1 (hw _ (List.mem_of_getElem? (i := 27) rfl))) (mvT J211.1 (hw _ (List.mem_of_getElem? (i := 28) rfl))) (mvT J211.1 (hw _ (List.mem_of_getElem? (i := 29) rfl))) (mvT J211.1 (hw _ (List.mem_of_getElem? (i := 30) rfl))) (by decide) (own_backW (W := 0) (rmRC l Z a0 hw hEL a198 [y0, y1, y2] T204.heap (own_ext_trans EZ f205) z0 O1 P5 fm O2 rf S278 (Nat.le_of_ble_eq_true rfl) (by simp [own_li, h3, h2, h1]; try decide)) J211.1 (hw _ (List.mem_of_getElem? (i := 30) rfl)) (hw _ (List.mem_of_getElem? (i := 29) rfl)) (by decide) (by decide) hEL J211.ch (fun _ q => nomatch q)) (g := (mkF m 156 #[.val (.int a), .val (.int b), .val (.int c1), .val (.int d), .val (.int n), .val (.int y0), .val (.int y1), .val (.int y2), .val (.int y3), .val (.int ((3 : Int32))), .val (.ref a182), .val (.ref a198), .unset, .unset] [(.ref a198)])) rfl (by rw [hml]; rfl) (argsL := [(.ref a198)]) (rest := []) (lenOf pdRU rfl) rfl (by show 2 * 0 + _ ≤ _; exact Nat.le_of_eq rfl) (hb hby at_156) (fun _ _ => ⟨rfl, rfl, (Nat.le_of_ble_eq_true rfl), (Nat.le_of_ble_eq_true rfl)⟩)
          dsimp only [Pt.U, Pt.locs, Pt.cells, Pt.slots] at X279 hS279 hG279 l279 y279 z279 C279 st279 hQ279
          subst l279 y279 z279
          replace X279 := (show Stand _ _ _ _ (s.setVm T279.vm) _ _ _ _ _ _ _ _ _ from X279)
          have I279 := J211.later hS279 (Nat.le_refl _) (by have q := hG279; rw [(rfl : _ = T204.heap)] at q; exact q) C279
          obtain ⟨y279, rfl, S279, E279, N279⟩ := hQ279
          refine own_to st279 ?_
          show own_Go p e below F (T279.setTop (mkF m 159 #[.val (.int a), .val (.int b), .val (.int c1), .val (.int d), .val (.int n), .val (.int y0), .val (.int y1), .val (.int y2), .val (.int y3), .val (.int ((3 : Int32))), .val (.ref a182), .val (.ref a198), .unset, .unset] [(.ref y279)]))
          have f280 := own_ext_trans f205 E279
          have N281 := Fr.app N212 N279
          refine own_astore X279.here hx (hb hby at_159) rfl (L' := #[.val (.int a), .val (.int b), .val (.int c1), .val (.int d), .val (.int n), .val (.int y0), .val (.int y1), .val (.int y2), .val (.int y3), .val (.int ((3 : Int32))), .val (.ref a182), .val (.ref a198), .val (.ref y279), .unset]) rfl (pc' := 161) rfl ?_
          refine own_iconst X279.here hx (hb hby at_161) (v := 0) rfl (pc' := 162) rfl ?_
          refine own_istore X279.here hx (hb hby at_162) (L' := #[.val (.int a), .val (.int b), .val (.int c1), .val (.int d), .val (.int n), .val (.int y0), .val (.int y1), .val (.int y2), .val (.int y3), .val (.int ((3 : Int32))), .val (.ref a182), .val (.ref a198), .val (.ref y279), .val (.int ((0 : Int32)))]) rfl (pc' := 164) rfl ?_
          refine own_iload X279.here hx (hb hby at_164) rfl (pc' := 166) rfl ?_
          refine own_iconst X279.here hx (hb hby at_166) (v := 1) rfl (pc' := 167) rfl ?_
          refine own_icmplt X279.here hx (hb hby at_167) (by decide) (pc' := 180) (by decide) (pc2 := 170) rfl (fun q => absurd q (by decide)) (fun q282 => ?_)
          refine own_iload X279.here hx (hb hby at_170) rfl (pc' := 172) rfl ?_
          refine own_bipush X279.here hx (hb hby at_172) (v := 47) rfl (pc' := 174) rfl ?_
          refine own_icmpne X279.here hx (hb hby at_174) (by decide) (pc' := 180) (by decide) (pc2 := 177) rfl (fun q283 => ?_) (fun q => absurd q h1)
          refine own_iload X279.here hx (hb hby at_180) rfl (pc' := 182) rfl ?_
          refine own_iconst X279.here hx (hb hby at_182) (v := 2) rfl (pc' := 183) rfl ?_
          refine own_icmplt X279.here hx (hb hby at_183) (by decide) (pc' := 196) (by decide) (pc2 := 186) rfl (fun q => absurd q (by decide)) (fun q284 => ?_)
          refine own_iload X279.here hx (hb hby at_186) rfl (pc' := 188) rfl ?_
          refine own_bipush X279.here hx (hb hby at_188) (v := 47) rfl (pc' := 190) rfl ?_
          refine own_icmpne X279.here hx (hb hby at_190) (by decide) (pc' := 196) (by decide) (pc2 := 193) rfl (fun q285 => ?_) (fun q => absurd q h2)
          refine own_iload X279.here hx (hb hby at_196) rfl (pc' := 198) rfl ?_
          refine own_iconst X279.here hx (hb hby at_198) (v := 3) rfl (pc' := 199) rfl ?_
          refine own_icmplt X279.here hx (hb hby at_199) (by decide) (pc' := 212) (by decide) (pc2 := 202) rfl (fun q => absurd q (by decide)) (fun q286 => ?_)
          refine own_iload X279.here hx (hb hby at_202) rfl (pc' := 204) rfl ?_
          refine own_bipush X279.here hx (hb hby at_204) (v := 47) rfl (pc' := 206) rfl ?_
          refine own_icmpne X279.here hx (hb hby at_206) (by decide) (pc' := 212) (by decide) (pc2 := 209) rfl (fun q287 => ?_) (fun q => absurd q h3)
          refine own_iload X279.here hx (hb hby at_212) rfl (pc' := 214) rfl ?_
          refine own_iconst X279.here hx (hb hby at_214) (v := 4) rfl (pc' := 215) rfl ?_
          refine own_icmplt X279.here hx (hb hby at_215) (by decide) (pc' := 228) (by decide) (pc2 := 218) rfl (fun q288 => ?_) (fun q => absurd (by decide) q)
          refine own_aload X279.here hx (hb hby at_228) rfl rfl (pc' := 230) rfl ?_
          obtain ⟨cq289, kq289, qa289, qb289, qc289⟩ := isOf I279.1 rfl S279.exa
          obtain ⟨_, _, ⟨T289, L289, k289, n289⟩, -, X289, ⟨Lc289, hQ289, l289, y289, z289⟩, st289⟩ := X279.virtualBack hx (y := (⟨"java/lang/String", "length", "()I"⟩ : MethodName)) (z := (⟨"java/lang/String", "length", "()I"⟩ : MethodName)) I279.2.1 (mvT I279.1 (hw _ (List.mem_of_getElem? (i := 81) rfl))) (mvT I279.1 (hw _ (List.mem_of_getElem? (i := 37) rfl))) (notFace_of_selects (args := #[]) (mvT I279.1 (hw _ (List.mem_of_getElem? (i := 39) rfl)))) (mvT I279.1 (hw _ (List.mem_of_getElem? (i := 39) rfl))) (mvT I279.1 (hw _ (List.mem_of_getElem? (i := 38) rfl))) (by decide) (own_lenB (s := s.setVm T279.vm) (W := 0) I279.1 hw S279 (O1.ext (own_ext_trans EZ f280)) P5 (by decide) (by decide)) qa289 qc289 (g := (mkF m 230 #[.val (.int a), .val (.int b), .val (.int c1), .val (.int d), .val (.int n), .val (.int y0), .val (.int y1), .val (.int y2), .val (.int y3), .val (.int ((3 : Int32))), .val (.ref a182), .val (.ref a198), .val (.ref y279), .val (.int ((0 : Int32)))] [(.ref y279)])) rfl (by rw [hml]; rfl) (Steps.refl _) (argsL := []) (rest := []) (lenOf pdI rfl) rfl (by show 2 * 0 + _ ≤ _; exact Nat.le_of_eq rfl) (hb hby at_230) (fun _ _ => ⟨rfl, rfl, (Nat.le_of_ble_eq_true rfl), (Nat.le_of_ble_eq_true rfl)⟩)
          dsimp only [Pt.U, Pt.locs, Pt.cells, Pt.slots] at X289 l289 y289 z289 st289 hQ289
          subst l289 y289 z289
          obtain ⟨rfl, rfl, E289⟩ := hQ289
          refine own_to st289 ?_
          show own_Go p e below F (T289.setTop (mkF m 233 #[.val (.int a), .val (.int b), .val (.int c1), .val (.int d), .val (.int n), .val (.int y0), .val (.int y1), .val (.int y2), .val (.int y3), .val (.int ((3 : Int32))), .val (.ref a182), .val (.ref a198), .val (.ref y279), .val (.int ((0 : Int32)))] [(.int (Int32.ofNat 0))]))
          refine own_iload X289.here hx (hb hby at_233) rfl (pc' := 235) rfl ?_
          refine own_icmpeq X289.here hx (hb hby at_235) (by decide) (pc' := 240) (by decide) (pc2 := 238) rfl (fun q290 => ?_) (fun q => absurd rfl q)
          refine own_iload X289.here hx (hb hby at_240) rfl (pc' := 242) rfl ?_
          refine own_iconst X289.here hx (hb hby at_242) (v := 1) rfl (pc' := 243) rfl ?_
          refine own_icmplt X289.here hx (hb hby at_243) (by decide) (pc' := 257) (by decide) (pc2 := 246) rfl (fun q291 => ?_) (fun q => absurd (by decide) q)
          refine own_iload X289.here hx (hb hby at_257) rfl (pc' := 259) rfl ?_
          refine own_iconst X289.here hx (hb hby at_259) (v := 2) rfl (pc' := 260) rfl ?_
          refine own_icmplt X289.here hx (hb hby at_260) (by decide) (pc' := 274) (by decide) (pc2 := 263) rfl (fun q292 => ?_) (fun q => absurd (by decide) q)
          refine own_iload X289.here hx (hb hby at_274) rfl (pc' := 276) rfl ?_
          refine own_iconst X289.here hx (hb hby at_276) (v := 3) rfl (pc' := 277) rfl ?_
          refine own_icmplt X289.here hx (hb hby at_277) (by decide) (pc' := 291) (by decide) (pc2 := 280) rfl (fun q293 => ?_) (fun q => absurd (by decide) q)
          refine own_iload X289.here hx (hb hby at_291) rfl (pc' := 293) rfl ?_
          refine own_iconst X289.here hx (hb hby at_293) (v := 4) rfl (pc' := 294) rfl ?_
          refine own_icmplt X289.here hx (hb hby at_294) (by decide) (pc' := 308) (by decide) (pc2 := 297) rfl (fun q294 => ?_) (fun q => absurd (by decide) q)
          refine own_iconst X289.here hx (hb hby at_308) (v := 1) rfl (pc' := 309) rfl ?_
          refine own_goto X289.here hx (hb hby at_309) (by decide) (pc' := 313) (by decide) ?_
          exact own_retZW X289 hx hlk hEL I279 E289 (by decide) hret (hb hby at_313) (fun t ht hC hE => hF t _ _ _ _ (by rw [ht]; exact ⟨rfl, (by simpa using N281)⟩) hC hE (by decide) (by decide))
  · show own_Go p e below F (T7.setTop (mkF m 33 #[.val (.int a), .val (.int b), .val (.int c1), .val (.int d), .val (.int n), .val (.int y0), .val (.int y1), .val (.int y2), .val (.int y3), .val (.int ((4 : Int32))), .unset, .unset, .unset, .unset] []))
    refine own_iload X7.here hx (hb hby at_33) rfl (pc' := 35) rfl ?_
    refine own_ifne X7.here hx (hb hby at_35) (by decide) (pc' := 46) (by decide) (pc2 := 38) rfl (fun q295 => ?_) (fun q => absurd q (by decide))
    refine own_iload X7.here hx (hb hby at_46) rfl (pc' := 48) rfl ?_
    refine own_iconst X7.here hx (hb hby at_48) (v := 1) rfl (pc' := 49) rfl ?_
    refine own_icmpne X7.here hx (hb hby at_49) (by decide) (pc' := 65) (by decide) (pc2 := 52) rfl (fun q296 => ?_) (fun q => absurd q (by decide))
    refine own_iload X7.here hx (hb hby at_65) rfl (pc' := 67) rfl ?_
    refine own_iconst X7.here hx (hb hby at_67) (v := 2) rfl (pc' := 68) rfl ?_
    refine own_icmpne X7.here hx (hb hby at_68) (by decide) (pc' := 89) (by decide) (pc2 := 71) rfl (fun q297 => ?_) (fun q => absurd q (by decide))
    refine own_iload X7.here hx (hb hby at_89) rfl (pc' := 91) rfl ?_
    refine own_iconst X7.here hx (hb hby at_91) (v := 3) rfl (pc' := 92) rfl ?_
    refine own_icmpne X7.here hx (hb hby at_92) (by decide) (pc' := 118) (by decide) (pc2 := 95) rfl (fun q298 => ?_) (fun q => absurd q (by decide))
    refine own_iconst X7.here hx (hb hby at_118) (v := 4) rfl (pc' := 119) rfl ?_
    obtain ⟨T299, h299, k299, X299, e299, E299, A299, st299⟩ := newP X7 hx I0.1 (hw _ (List.mem_of_getElem? (i := 5) rfl)) E7 (g := (mkF m 119 #[.val (.int a), .val (.int b), .val (.int c1), .val (.int d), .val (.int n), .val (.int y0), .val (.int y1), .val (.int y2), .val (.int y3), .val (.int ((4 : Int32))), .unset, .unset, .unset, .unset] [(.int ((4 : Int32)))])) rfl (hb hby at_119) rfl (by decide : ¬ ((4 : Int32) < (0 : Int32))) (cap := 4) (by decide) (by decide) (by decide) (by decide)
    obtain ⟨a299, g299⟩ : ∃ z, z = h0.size := ⟨_, rfl⟩
    rw [← g299] at A299 st299
    have ge300 : h0.size ≤ a299 := by rw [g299]; exact M0.1
    have f301 := own_ext_trans M0 E299
    have J302 := I0.ext E299
    have V299 : Arv Z h299 a299 k299 .char (4 : Int32) [.int (0 : Int32), .int (0 : Int32), .int (0 : Int32), .int (0 : Int32)] (.int (0 : Int32)) := (Arv.new A299 (by decide)).pad (pad_rep [] (.int (0 : Int32)) 4)
    refine own_on st299 ?_
    show own_Go p e below F (T299.setTop (mkF m 121 #[.val (.int a), .val (.int b), .val (.int c1), .val (.int d), .val (.int n), .val (.int y0), .val (.int y1), .val (.int y2), .val (.int y3), .val (.int ((4 : Int32))), .unset, .unset, .unset, .unset] [(.ref a299)]))
    have gz_a299 : Z.heap.size ≤ a299 := Nat.le_trans EZ.1 ge300
    refine own_dup X299.here hx (hb hby at_121) rfl (pc' := 122) rfl ?_
    refine own_iconst X299.here hx (hb hby at_122) (v := 0) rfl (pc' := 123) rfl ?_
    refine own_iload X299.here hx (hb hby at_123) rfl (pc' := 125) rfl ?_
    obtain ⟨T303, h303, X303, e303, W303, V303, st303⟩ := own_cast X299 hx J302.1 e299 V299 (i := 0) rfl (Nat.le_of_ble_eq_true rfl) (by decide) ny0 (g := (mkF m 125 #[.val (.int a), .val (.int b), .val (.int c1), .val (.int d), .val (.int n), .val (.int y0), .val (.int y1), .val (.int y2), .val (.int y3), .val (.int ((4 : Int32))), .unset, .unset, .unset, .unset] [(.int y0), (.int ((0 : Int32))), (.ref a299), (.ref a299)])) rfl rfl (hb hby at_125)
    replace V303 : Arv Z h303 a299 k299 .char (4 : Int32) [.int y0, .int (0 : Int32), .int (0 : Int32), .int (0 : Int32)] (.int (0 : Int32)) := V303
    have f304 := own_ext_wr f301 W303 ge300
    have J305 := J302.wr W303 (Safe.arv J302.1.alike V299 (by decide))
    have N306 := own_Fr_snoc (sl := ((0 : Int32)).toNatClampNeg) N8 gz_a299
    refine own_on st303 ?_
    show own_Go p e below F (T303.setTop (mkF m 126 #[.val (.int a), .val (.int b), .val (.int c1), .val (.int d), .val (.int n), .val (.int y0), .val (.int y1), .val (.int y2), .val (.int y3), .val (.int ((4 : Int32))), .unset, .unset, .unset, .unset] [(.ref a299)]))
    refine own_dup X303.here hx (hb hby at_126) rfl (pc' := 127) rfl ?_
    refine own_iconst X303.here hx (hb hby at_127) (v := 1) rfl (pc' := 128) rfl ?_
    refine own_iload X303.here hx (hb hby at_128) rfl (pc' := 130) rfl ?_
    obtain ⟨T307, h307, X307, e307, W307, V307, st307⟩ := own_cast X303 hx J305.1 e303 V303 (i := 1) rfl (Nat.le_of_ble_eq_true rfl) (by decide) ny1 (g := (mkF m 130 #[.val (.int a), .val (.int b), .val (.int c1), .val (.int d), .val (.int n), .val (.int y0), .val (.int y1), .val (.int y2), .val (.int y3), .val (.int ((4 : Int32))), .unset, .unset, .unset, .unset] [(.int y1), (.int ((1 : Int32))), (.ref a299), (.ref a299)])) rfl rfl (hb hby at_130)
    replace V307 : Arv Z h307 a299 k299 .char (4 : Int32) [.int y0, .int y1, .int (0 : Int32), .int (0 : Int32)] (.int (0 : Int32)) := V307
    have f308 := own_ext_wr f304 W307 ge300
    have J309 := J305.wr W307 (Safe.arv J305.1.alike V303 (by decide))
    have N310 := own_Fr_snoc (sl := ((1 : Int32)).toNatClampNeg) N306 gz_a299
    refine own_on st307 ?_
    show own_Go p e below F (T307.setTop (mkF m 131 #[.val (.int a), .val (.int b), .val (.int c1), .val (.int d), .val (.int n), .val (.int y0), .val (.int y1), .val (.int y2), .val (.int y3), .val (.int ((4 : Int32))), .unset, .unset, .unset, .unset] [(.ref a299)]))
    refine own_dup X307.here hx (hb hby at_131) rfl (pc' := 132) rfl ?_
    refine own_iconst X307.here hx (hb hby at_132) (v := 2) rfl (pc' := 133) rfl ?_
    refine own_iload X307.here hx (hb hby at_133) rfl (pc' := 135) rfl ?_
    obtain ⟨T311, h311, X311, e311, W311, V311, st311⟩ := own_cast X307 hx J309.1 e307 V307 (i := 2) rfl (Nat.le_of_ble_eq_true rfl) (by decide) ny2 (g := (mkF m 135 #[.val (.int a), .val (.int b), .val (.int c1), .val (.int d), .val (.int n), .val (.int y0), .val (.int y1), .val (.int y2), .val (.int y3), .val (.int ((4 : Int32))), .unset, .unset, .unset, .unset] [(.int y2), (.int ((2 : Int32))), (.ref a299), (.ref a299)])) rfl rfl (hb hby at_135)
    replace V311 : Arv Z h311 a299 k299 .char (4 : Int32) [.int y0, .int y1, .int y2, .int (0 : Int32)] (.int (0 : Int32)) := V311
    have f312 := own_ext_wr f308 W311 ge300
    have J313 := J309.wr W311 (Safe.arv J309.1.alike V307 (by decide))
    have N314 := own_Fr_snoc (sl := ((2 : Int32)).toNatClampNeg) N310 gz_a299
    refine own_on st311 ?_
    show own_Go p e below F (T311.setTop (mkF m 136 #[.val (.int a), .val (.int b), .val (.int c1), .val (.int d), .val (.int n), .val (.int y0), .val (.int y1), .val (.int y2), .val (.int y3), .val (.int ((4 : Int32))), .unset, .unset, .unset, .unset] [(.ref a299)]))
    refine own_dup X311.here hx (hb hby at_136) rfl (pc' := 137) rfl ?_
    refine own_iconst X311.here hx (hb hby at_137) (v := 3) rfl (pc' := 138) rfl ?_
    refine own_iload X311.here hx (hb hby at_138) rfl (pc' := 140) rfl ?_
    obtain ⟨T315, h315, X315, e315, W315, V315, st315⟩ := own_cast X311 hx J313.1 e311 V311 (i := 3) rfl (Nat.le_of_ble_eq_true rfl) (by decide) ny3 (g := (mkF m 140 #[.val (.int a), .val (.int b), .val (.int c1), .val (.int d), .val (.int n), .val (.int y0), .val (.int y1), .val (.int y2), .val (.int y3), .val (.int ((4 : Int32))), .unset, .unset, .unset, .unset] [(.int y3), (.int ((3 : Int32))), (.ref a299), (.ref a299)])) rfl rfl (hb hby at_140)
    replace V315 : Arv Z h315 a299 k299 .char (4 : Int32) [.int y0, .int y1, .int y2, .int y3] (.int (0 : Int32)) := V315
    have f316 := own_ext_wr f312 W315 ge300
    have J317 := J313.wr W315 (Safe.arv J313.1.alike V311 (by decide))
    have N318 := own_Fr_snoc (sl := ((3 : Int32)).toNatClampNeg) N314 gz_a299
    refine own_on st315 ?_
    show own_Go p e below F (T315.setTop (mkF m 141 #[.val (.int a), .val (.int b), .val (.int c1), .val (.int d), .val (.int n), .val (.int y0), .val (.int y1), .val (.int y2), .val (.int y3), .val (.int ((4 : Int32))), .unset, .unset, .unset, .unset] [(.ref a299)]))
    refine own_astore X315.here hx (hb hby at_141) rfl (L' := #[.val (.int a), .val (.int b), .val (.int c1), .val (.int d), .val (.int n), .val (.int y0), .val (.int y1), .val (.int y2), .val (.int y3), .val (.int ((4 : Int32))), .val (.ref a299), .unset, .unset, .unset]) rfl (pc' := 143) rfl ?_
    obtain ⟨T319, h319, X319, e319, E319, A319, D319, -, st319⟩ := newO X315 hx J317.1 J317.2.1 (hw _ (List.mem_of_getElem? (i := 6) rfl)) (hw _ (List.mem_of_getElem? (i := 7) rfl)) (hw _ (List.mem_of_getElem? (i := 8) rfl)) e315 (g := (mkF m 143 #[.val (.int a), .val (.int b), .val (.int c1), .val (.int d), .val (.int n), .val (.int y0), .val (.int y1), .val (.int y2), .val (.int y3), .val (.int ((4 : Int32))), .val (.ref a299), .unset, .unset, .unset] [])) rfl (hb hby at_143) (by decide) (by decide)
    obtain ⟨a319, g319⟩ : ∃ z, z = h315.size := ⟨_, rfl⟩
    rw [← g319] at A319 D319 st319
    have ne320 : a299 ≠ a319 := Nat.ne_of_lt (by rw [g319]; exact V315.lt)
    have ge321 : h0.size ≤ a319 := by rw [g319]; exact f316.1
    have sf319 := Safe.ext E319 J317.ch (Safe.new (Nat.le_of_eq g319.symm))
    have f322 := own_ext_trans f316 E319
    have f323 := V315.ext E319
    have J324 := J317.ext E319
    have F319_0 : Fld Z h319 a319 "java/lang/String" "value" "[B" (.null) := (D319 (Or.inr (hw _ (List.mem_of_getElem? (i := 21) rfl))) (ty := .array .byte) (by decide))
    have F319_1 : Fld Z h319 a319 "java/lang/String" "coder" "B" (.int ((0 : Int32))) := (D319 (Or.inr (hw _ (List.mem_of_getElem? (i := 22) rfl))) (ty := .byte) (by decide))
    refine own_on st319 ?_
    show own_Go p e below F (T319.setTop (mkF m 146 #[.val (.int a), .val (.int b), .val (.int c1), .val (.int d), .val (.int n), .val (.int y0), .val (.int y1), .val (.int y2), .val (.int y3), .val (.int ((4 : Int32))), .val (.ref a299), .unset, .unset, .unset] [(.ref a319)]))
    have gz_a319 : Z.heap.size ≤ a319 := Nat.le_trans EZ.1 ge321
    refine own_dup X319.here hx (hb hby at_146) rfl (pc' := 147) rfl ?_
    refine own_aload X319.here hx (hb hby at_147) rfl rfl (pc' := 149) rfl ?_
    obtain ⟨_, _, ⟨T325, L325, k325, n325⟩, -, X325, ⟨Lc325, hQ325, l325, y325, z325⟩, st325⟩ := X319.specialBack hx (y := (⟨"java/lang/String", "<init>", "([C)V"⟩ : MethodName)) rfl J324.2.1 (mvT J324.1 (hw _ (List.mem_of_getElem? (i := 9) rfl))) (mvT J324.1 (hw _ (List.mem_of_getElem? (i := 10) rfl))) (mvT J324.1 (hw _ (List.mem_of_getElem? (i := 11) rfl))) (by decide) (StrChars.Road.backV (s := s.setVm s.vm) (W := 1) J324.1 own_hws (kI := 4) (hw _ own_wiS) (cs := ([y0, y1, y2, y3] : List Int32)) (bs := ([y0, y1, y2, y3] : List Int32).map (fun c => c.toInt8.toInt32)) (n := 4) gz_a319 (Nat.le_trans gz_a319 (Nat.le_of_lt (A319).lt)) A319 F319_0 F319_1 f323 (O1.ext (own_ext_trans EZ f322)) P5 rfl rfl (by decide) (by decide) (fun c hc => by simp only [List.mem_cons, List.not_mem_nil, or_false] at hc; rcases hc with rfl | rfl | rfl | rfl <;> assumption) rfl (by decide) (by decide)) (g := (mkF m 149 #[.val (.int a), .val (.int b), .val (.int c1), .val (.int d), .val (.int n), .val (.int y0), .val (.int y1), .val (.int y2), .val (.int y3), .val (.int ((4 : Int32))), .val (.ref a299), .unset, .unset, .unset] [(.ref a299), (.ref a319), (.ref a319)])) rfl (by rw [hml]; rfl) (Steps.refl _) (a := a319) (argsL := [(.ref a299)]) (rest := [(.ref a319)]) (lenOf pdE1 rfl) rfl (by show 2 * 0 + _ ≤ _; exact Nat.le_of_eq rfl) (hb hby at_149) (fun _ _ => ⟨rfl, e319, (Nat.le_of_ble_eq_true rfl), (Nat.le_of_ble_eq_true rfl)⟩)
    dsimp only [Pt.U, Pt.locs, Pt.cells, Pt.slots] at X325 l325 y325 z325 st325 hQ325
    subst l325 y325 z325
    obtain ⟨rfl, N325, K325, A325, C325, t325, kb325, _, _, _, V325, R325⟩ := hQ325
    refine own_to st325 ?_
    show own_Go p e below F (T325.setTop (mkF m 152 #[.val (.int a), .val (.int b), .val (.int c1), .val (.int d), .val (.int n), .val (.int y0), .val (.int y1), .val (.int y2), .val (.int y3), .val (.int ((4 : Int32))), .val (.ref a299), .unset, .unset, .unset] [(.ref a319)]))
    have f326 := own_ext_keep f322 K325 (fun y hy => by simp only [List.mem_cons, List.not_mem_nil, or_false] at hy; rcases hy with rfl <;> assumption)
    have f327 := f323.keep K325 (by simp only [List.mem_cons, List.not_mem_nil, or_false, not_or]; exact ne320)
    have f328 := A319.keep K325
    have f331 := Safe.keep K325 (sfS sf319 sf0) J324.ch sf319
    have J332 := J324.keep K325 (sfS sf319 sf0)
    have N333 := Fr.app N318 N325
    have S334 : own_Str Z T325.heap a319 [y0, y1, y2, y3] := ⟨t325, kb325, A325, V325, C325, R325, (fun c hc => by simp only [List.mem_cons, List.not_mem_nil, or_false] at hc; rcases hc with rfl | rfl | rfl | rfl <;> assumption), Nat.le_of_ble_eq_true rfl⟩
    refine own_astore X325.here hx (hb hby at_152) rfl (L' := #[.val (.int a), .val (.int b), .val (.int c1), .val (.int d), .val (.int n), .val (.int y0), .val (.int y1), .val (.int y2), .val (.int y3), .val (.int ((4 : Int32))), .val (.ref a299), .val (.ref a319), .unset, .unset]) rfl (pc' := 154) rfl ?_
    refine own_aload X325.here hx (hb hby at_154) rfl rfl (pc' := 156) rfl ?_
    by_cases h4 : y3 = 47
    · have S335 := S334
      obtain ⟨_, _, ⟨T336, L336, k336, n336⟩, -, X336, ⟨Lc336, hQ336, l336, y336, z336⟩, st336⟩ := Jvm.LawKit.callS X325 hx (y := (⟨"com/example/cartulary/cartulary/RegisterUris", "registerBase", "(Ljava/lang/String;)Ljava/lang/String;"⟩ : MethodName)) J332.2.1 (mvT J332.1 (hw _ (List.mem_of_getElem? (i := 27) rfl))) (mvT J332.1 (hw _ (List.mem_of_getElem? (i := 28) rfl))) (mvT J332.1 (hw _ (List.mem_of_getElem? (i := 29) rfl))) (mvT J332.1 (hw _ (List.mem_of_getElem? (i := 30) rfl))) (by decide) (backOf (W := 0) (rmRA l Z a0 hw a319 [y0, y1, y2, y3] T325.heap (own_ext_trans EZ f326) z0 O1 P5 fm O2 rf S335 (by simp [own_li, h4]; try decide)) J332.1 (hw _ (List.mem_of_getElem? (i := 30) rfl)) (hw _ (List.mem_of_getElem? (i := 29) rfl)) (by decide) (by decide)) (g := (mkF m 156 #[.val (.int a), .val (.int b), .val (.int c1), .val (.int d), .val (.int n), .val (.int y0), .val (.int y1), .val (.int y2), .val (.int y3), .val (.int ((4 : Int32))), .val (.ref a299), .val (.ref a319), .unset, .unset] [(.ref a319)])) rfl (by rw [hml]; rfl) (argsL := [(.ref a319)]) (rest := []) (lenOf pdRU rfl) rfl (by show 2 * 0 + _ ≤ _; exact Nat.le_of_eq rfl) (hb hby at_156) (fun _ _ => ⟨rfl, rfl, (Nat.le_of_ble_eq_true rfl), (Nat.le_of_ble_eq_true rfl)⟩)
      dsimp only [Pt.U, Pt.locs, Pt.cells, Pt.slots] at X336 l336 y336 z336 st336 hQ336
      subst l336 y336 z336
      obtain ⟨rfl, N336, E336⟩ := hQ336
      refine own_on (st336) ?_
      show own_Go p e below F (T336.setTop (mkF m 159 #[.val (.int a), .val (.int b), .val (.int c1), .val (.int d), .val (.int n), .val (.int y0), .val (.int y1), .val (.int y2), .val (.int y3), .val (.int ((4 : Int32))), .val (.ref a299), .val (.ref a319), .unset, .unset] [(.ref a319)]))
      have N337 := Fr.app N333 N336
      refine own_astore X336.here hx (hb hby at_159) rfl (L' := #[.val (.int a), .val (.int b), .val (.int c1), .val (.int d), .val (.int n), .val (.int y0), .val (.int y1), .val (.int y2), .val (.int y3), .val (.int ((4 : Int32))), .val (.ref a299), .val (.ref a319), .val (.ref a319), .unset]) rfl (pc' := 161) rfl ?_
      refine own_iconst X336.here hx (hb hby at_161) (v := 0) rfl (pc' := 162) rfl ?_
      refine own_istore X336.here hx (hb hby at_162) (L' := #[.val (.int a), .val (.int b), .val (.int c1), .val (.int d), .val (.int n), .val (.int y0), .val (.int y1), .val (.int y2), .val (.int y3), .val (.int ((4 : Int32))), .val (.ref a299), .val (.ref a319), .val (.ref a319), .val (.int ((0 : Int32)))]) rfl (pc' := 164) rfl ?_
      refine own_iload X336.here hx (hb hby at_164) rfl (pc' := 166) rfl ?_
      refine own_iconst X336.here hx (hb hby at_166) (v := 1) rfl (pc' := 167) rfl ?_
      refine own_icmplt X336.here hx (hb hby at_167) (by decide) (pc' := 180) (by decide) (pc2 := 170) rfl (fun q => absurd q (by decide)) (fun q338 => ?_)
      refine own_iload X336.here hx (hb hby at_170) rfl (pc' := 172) rfl ?_
      refine own_bipush X336.here hx (hb hby at_172) (v := 47) rfl (pc' := 174) rfl ?_
      have J1_338 : ∀ (zz : Int32), own_Go p e below F (T336.setTop (mkF m 180 #[.val (.int a), .val (.int b), .val (.int c1), .val (.int d), .val (.int n), .val (.int y0), .val (.int y1), .val (.int y2), .val (.int y3), .val (.int ((4 : Int32))), .val (.ref a299), .val (.ref a319), .val (.ref a319), .val (.int zz)] [])) := by
        intro zz
        refine own_iload X336.here hx (hb hby at_180) rfl (pc' := 182) rfl ?_
        refine own_iconst X336.here hx (hb hby at_182) (v := 2) rfl (pc' := 183) rfl ?_
        refine own_icmplt X336.here hx (hb hby at_183) (by decide) (pc' := 196) (by decide) (pc2 := 186) rfl (fun q => absurd q (by decide)) (fun q339 => ?_)
        refine own_iload X336.here hx (hb hby at_186) rfl (pc' := 188) rfl ?_
        refine own_bipush X336.here hx (hb hby at_188) (v := 47) rfl (pc' := 190) rfl ?_
        have J2_339 : ∀ (zz : Int32), own_Go p e below F (T336.setTop (mkF m 196 #[.val (.int a), .val (.int b), .val (.int c1), .val (.int d), .val (.int n), .val (.int y0), .val (.int y1), .val (.int y2), .val (.int y3), .val (.int ((4 : Int32))), .val (.ref a299), .val (.ref a319), .val (.ref a319), .val (.int zz)] [])) := by
          intro zz
          refine own_iload X336.here hx (hb hby at_196) rfl (pc' := 198) rfl ?_
          refine own_iconst X336.here hx (hb hby at_198) (v := 3) rfl (pc' := 199) rfl ?_
          refine own_icmplt X336.here hx (hb hby at_199) (by decide) (pc' := 212) (by decide) (pc2 := 202) rfl (fun q => absurd q (by decide)) (fun q340 => ?_)
          refine own_iload X336.here hx (hb hby at_202) rfl (pc' := 204) rfl ?_
          refine own_bipush X336.here hx (hb hby at_204) (v := 47) rfl (pc' := 206) rfl ?_
          have J3_340 : ∀ (zz : Int32), own_Go p e below F (T336.setTop (mkF m 212 #[.val (.int a), .val (.int b), .val (.int c1), .val (.int d), .val (.int n), .val (.int y0), .val (.int y1), .val (.int y2), .val (.int y3), .val (.int ((4 : Int32))), .val (.ref a299), .val (.ref a319), .val (.ref a319), .val (.int zz)] [])) := by
            intro zz
            refine own_iload X336.here hx (hb hby at_212) rfl (pc' := 214) rfl ?_
            refine own_iconst X336.here hx (hb hby at_214) (v := 4) rfl (pc' := 215) rfl ?_
            refine own_icmplt X336.here hx (hb hby at_215) (by decide) (pc' := 228) (by decide) (pc2 := 218) rfl (fun q => absurd q (by decide)) (fun q341 => ?_)
            refine own_iload X336.here hx (hb hby at_218) rfl (pc' := 220) rfl ?_
            refine own_bipush X336.here hx (hb hby at_220) (v := 47) rfl (pc' := 222) rfl ?_
            refine own_icmpne X336.here hx (hb hby at_222) (by decide) (pc' := 228) (by decide) (pc2 := 225) rfl (fun q => absurd h4 q) (fun q342 => ?_)
            refine own_iconst X336.here hx (hb hby at_225) (v := 4) rfl (pc' := 226) rfl ?_
            refine own_istore X336.here hx (hb hby at_226) (L' := #[.val (.int a), .val (.int b), .val (.int c1), .val (.int d), .val (.int n), .val (.int y0), .val (.int y1), .val (.int y2), .val (.int y3), .val (.int ((4 : Int32))), .val (.ref a299), .val (.ref a319), .val (.ref a319), .val (.int ((4 : Int32)))]) rfl (pc' := 228) rfl ?_
            refine own_aload X336.here hx (hb hby at_228) rfl rfl (pc' := 230) rfl ?_
            obtain ⟨cq343, kq343, qa343, qb343, qc343⟩ := isOf J332.1 E336 S335.exa
            obtain ⟨_, _, ⟨T343, L343, k343, n343⟩, -, X343, ⟨Lc343, hQ343, l343, y343, z343⟩, st343⟩ := X336.virtualBack hx (y := (⟨"java/lang/String", "length", "()I"⟩ : MethodName)) (z := (⟨"java/lang/String", "length", "()I"⟩ : MethodName)) J332.2.1 (mvT J332.1 (hw _ (List.mem_of_getElem? (i := 81) rfl))) (mvT J332.1 (hw _ (List.mem_of_getElem? (i := 37) rfl))) (notFace_of_selects (args := #[]) (mvT J332.1 (hw _ (List.mem_of_getElem? (i := 39) rfl)))) (mvT J332.1 (hw _ (List.mem_of_getElem? (i := 39) rfl))) (mvT J332.1 (hw _ (List.mem_of_getElem? (i := 38) rfl))) (by decide) (own_lenB (s := s.setVm s.vm) (W := 0) J332.1 hw S335 (O1.ext (own_ext_trans EZ f326)) P5 (by decide) (by decide)) qa343 qc343 (g := (mkF m 230 #[.val (.int a), .val (.int b), .val (.int c1), .val (.int d), .val (.int n), .val (.int y0), .val (.int y1), .val (.int y2), .val (.int y3), .val (.int ((4 : Int32))), .val (.ref a299), .val (.ref a319), .val (.ref a319), .val (.int ((4 : Int32)))] [(.ref a319)])) rfl (by rw [hml]; rfl) (Steps.refl _) (argsL := []) (rest := []) (lenOf pdI rfl) rfl (by show 2 * 0 + _ ≤ _; exact Nat.le_of_eq rfl) (hb hby at_230) (fun _ _ => ⟨rfl, E336, (Nat.le_of_ble_eq_true rfl), (Nat.le_of_ble_eq_true rfl)⟩)
            dsimp only [Pt.U, Pt.locs, Pt.cells, Pt.slots] at X343 l343 y343 z343 st343 hQ343
            subst l343 y343 z343
            obtain ⟨rfl, rfl, E343⟩ := hQ343
            refine own_to st343 ?_
            show own_Go p e below F (T343.setTop (mkF m 233 #[.val (.int a), .val (.int b), .val (.int c1), .val (.int d), .val (.int n), .val (.int y0), .val (.int y1), .val (.int y2), .val (.int y3), .val (.int ((4 : Int32))), .val (.ref a299), .val (.ref a319), .val (.ref a319), .val (.int ((4 : Int32)))] [(.int (Int32.ofNat 4))]))
            refine own_iload X343.here hx (hb hby at_233) rfl (pc' := 235) rfl ?_
            refine own_icmpeq X343.here hx (hb hby at_235) (by decide) (pc' := 240) (by decide) (pc2 := 238) rfl (fun q344 => ?_) (fun q => absurd rfl q)
            refine own_iload X343.here hx (hb hby at_240) rfl (pc' := 242) rfl ?_
            refine own_iconst X343.here hx (hb hby at_242) (v := 1) rfl (pc' := 243) rfl ?_
            refine own_icmplt X343.here hx (hb hby at_243) (by decide) (pc' := 257) (by decide) (pc2 := 246) rfl (fun q => absurd q (by decide)) (fun q345 => ?_)
            refine own_aload X343.here hx (hb hby at_246) rfl rfl (pc' := 248) rfl ?_
            refine own_iconst X343.here hx (hb hby at_248) (v := 0) rfl (pc' := 249) rfl ?_
            obtain ⟨cq346, kq346, qa346, qb346, qc346⟩ := isOf J332.1 E343 S335.exa
            obtain ⟨_, _, ⟨T346, L346, k346, n346⟩, -, X346, ⟨Lc346, hQ346, l346, y346, z346⟩, st346⟩ := X343.virtualBack hx (y := (⟨"java/lang/String", "charAt", "(I)C"⟩ : MethodName)) (z := (⟨"java/lang/String", "charAt", "(I)C"⟩ : MethodName)) J332.2.1 (mvT J332.1 (hw _ (List.mem_of_getElem? (i := 114) rfl))) (mvT J332.1 (hw _ (List.mem_of_getElem? (i := 115) rfl))) (notFace_of_selects (args := #[]) (mvT J332.1 (hw _ (List.mem_of_getElem? (i := 117) rfl)))) (mvT J332.1 (hw _ (List.mem_of_getElem? (i := 117) rfl))) (mvT J332.1 (hw _ (List.mem_of_getElem? (i := 116) rfl))) (by decide) (own_chB (s := s.setVm s.vm) (W := 0) J332.1 hw S335 (O1.ext (own_ext_trans EZ f326)) P5 (O2.ext (own_ext_trans EZ f326)) rf (i := 0) (Nat.le_of_ble_eq_true rfl) rfl (by decide) (by decide)) qa346 qc346 (g := (mkF m 249 #[.val (.int a), .val (.int b), .val (.int c1), .val (.int d), .val (.int n), .val (.int y0), .val (.int y1), .val (.int y2), .val (.int y3), .val (.int ((4 : Int32))), .val (.ref a299), .val (.ref a319), .val (.ref a319), .val (.int ((4 : Int32)))] [(.int ((0 : Int32))), (.ref a319)])) rfl (by rw [hml]; rfl) (Steps.refl _) (argsL := [(.int ((0 : Int32)))]) (rest := []) (lenOf pdCh rfl) rfl (by show 2 * 0 + _ ≤ _; exact Nat.le_of_eq rfl) (hb hby at_249) (fun _ _ => ⟨rfl, E343, (Nat.le_of_ble_eq_true rfl), (Nat.le_of_ble_eq_true rfl)⟩)
            dsimp only [Pt.U, Pt.locs, Pt.cells, Pt.slots] at X346 l346 y346 z346 st346 hQ346
            subst l346 y346 z346
            obtain ⟨rfl, rfl, E346⟩ := hQ346
            refine own_to st346 ?_
            show own_Go p e below F (T346.setTop (mkF m 252 #[.val (.int a), .val (.int b), .val (.int c1), .val (.int d), .val (.int n), .val (.int y0), .val (.int y1), .val (.int y2), .val (.int y3), .val (.int ((4 : Int32))), .val (.ref a299), .val (.ref a319), .val (.ref a319), .val (.int ((4 : Int32)))] [(.int y0)]))
            refine own_iload X346.here hx (hb hby at_252) rfl (pc' := 254) rfl ?_
            refine own_icmpne X346.here hx (hb hby at_254) (by decide) (pc' := 312) (by decide) (pc2 := 257) rfl (fun q => absurd rfl q) (fun q347 => ?_)
            refine own_iload X346.here hx (hb hby at_257) rfl (pc' := 259) rfl ?_
            refine own_iconst X346.here hx (hb hby at_259) (v := 2) rfl (pc' := 260) rfl ?_
            refine own_icmplt X346.here hx (hb hby at_260) (by decide) (pc' := 274) (by decide) (pc2 := 263) rfl (fun q => absurd q (by decide)) (fun q348 => ?_)
            refine own_aload X346.here hx (hb hby at_263) rfl rfl (pc' := 265) rfl ?_
            refine own_iconst X346.here hx (hb hby at_265) (v := 1) rfl (pc' := 266) rfl ?_
            obtain ⟨cq349, kq349, qa349, qb349, qc349⟩ := isOf J332.1 E346 S335.exa
            obtain ⟨_, _, ⟨T349, L349, k349, n349⟩, -, X349, ⟨Lc349, hQ349, l349, y349, z349⟩, st349⟩ := X346.virtualBack hx (y := (⟨"java/lang/String", "charAt", "(I)C"⟩ : MethodName)) (z := (⟨"java/lang/String", "charAt", "(I)C"⟩ : MethodName)) J332.2.1 (mvT J332.1 (hw _ (List.mem_of_getElem? (i := 114) rfl))) (mvT J332.1 (hw _ (List.mem_of_getElem? (i := 115) rfl))) (notFace_of_selects (args := #[]) (mvT J332.1 (hw _ (List.mem_of_getElem? (i := 117) rfl)))) (mvT J332.1 (hw _ (List.mem_of_getElem? (i := 117) rfl))) (mvT J332.1 (hw _ (List.mem_of_getElem? (i := 116) rfl))) (by decide) (own_chB (s := s.setVm s.vm) (W := 0) J332.1 hw S335 (O1.ext (own_ext_trans EZ f326)) P5 (O2.ext (own_ext_trans EZ f326)) rf (i := 1) (Nat.le_of_ble_eq_true rfl) rfl (by decide) (by decide)) qa349 qc349 (g := (mkF m 266 #[.val (.int a), .val (.int b), .val (.int c1), .val (.int d), .val (.int n), .val (.int y0), .val (.int y1), .val (.int y2), .val (.int y3), .val (.int ((4 : Int32))), .val (.ref a299), .val (.ref a319), .val (.ref a319), .val (.int ((4 : Int32)))] [(.int ((1 : Int32))), (.ref a319)])) rfl (by rw [hml]; rfl) (Steps.refl _) (argsL := [(.int ((1 : Int32)))]) (rest := []) (lenOf pdCh rfl) rfl (by show 2 * 0 + _ ≤ _; exact Nat.le_of_eq rfl) (hb hby at_266) (fun _ _ => ⟨rfl, E346, (Nat.le_of_ble_eq_true rfl), (Nat.le_of_ble_eq_true rfl)⟩)
            dsimp only [Pt.U, Pt.locs, Pt.cells, Pt.slots] at X349 l349 y349 z349 st349 hQ349
            subst l349 y349 z349
            obtain ⟨rfl, rfl, E349⟩ := hQ349
            refine own_to st349 ?_
            show own_Go p e below F (T349.setTop (mkF m 269 #[.val (.int a), .val (.int b), .val (.int c1), .val (.int d), .val (.int n), .val (.int y0), .val (.int y1), .val (.int y2), .val (.int y3), .val (.int ((4 : Int32))), .val (.ref a299), .val (.ref a319), .val (.ref a319), .val (.int ((4 : Int32)))] [(.int y1)]))
            refine own_iload X349.here hx (hb hby at_269) rfl (pc' := 271) rfl ?_
            refine own_icmpne X349.here hx (hb hby at_271) (by decide) (pc' := 312) (by decide) (pc2 := 274) rfl (fun q => absurd rfl q) (fun q350 => ?_)
            refine own_iload X349.here hx (hb hby at_274) rfl (pc' := 276) rfl ?_
            refine own_iconst X349.here hx (hb hby at_276) (v := 3) rfl (pc' := 277) rfl ?_
            refine own_icmplt X349.here hx (hb hby at_277) (by decide) (pc' := 291) (by decide) (pc2 := 280) rfl (fun q => absurd q (by decide)) (fun q351 => ?_)
            refine own_aload X349.here hx (hb hby at_280) rfl rfl (pc' := 282) rfl ?_
            refine own_iconst X349.here hx (hb hby at_282) (v := 2) rfl (pc' := 283) rfl ?_
            obtain ⟨cq352, kq352, qa352, qb352, qc352⟩ := isOf J332.1 E349 S335.exa
            obtain ⟨_, _, ⟨T352, L352, k352, n352⟩, -, X352, ⟨Lc352, hQ352, l352, y352, z352⟩, st352⟩ := X349.virtualBack hx (y := (⟨"java/lang/String", "charAt", "(I)C"⟩ : MethodName)) (z := (⟨"java/lang/String", "charAt", "(I)C"⟩ : MethodName)) J332.2.1 (mvT J332.1 (hw _ (List.mem_of_getElem? (i := 114) rfl))) (mvT J332.1 (hw _ (List.mem_of_getElem? (i := 115) rfl))) (notFace_of_selects (args := #[]) (mvT J332.1 (hw _ (List.mem_of_getElem? (i := 117) rfl)))) (mvT J332.1 (hw _ (List.mem_of_getElem? (i := 117) rfl))) (mvT J332.1 (hw _ (List.mem_of_getElem? (i := 116) rfl))) (by decide) (own_chB (s := s.setVm s.vm) (W := 0) J332.1 hw S335 (O1.ext (own_ext_trans EZ f326)) P5 (O2.ext (own_ext_trans EZ f326)) rf (i := 2) (Nat.le_of_ble_eq_true rfl) rfl (by decide) (by decide)) qa352 qc352 (g := (mkF m 283 #[.val (.int a), .val (.int b), .val (.int c1), .val (.int d), .val (.int n), .val (.int y0), .val (.int y1), .val (.int y2), .val (.int y3), .val (.int ((4 : Int32))), .val (.ref a299), .val (.ref a319), .val (.ref a319), .val (.int ((4 : Int32)))] [(.int ((2 : Int32))), (.ref a319)])) rfl (by rw [hml]; rfl) (Steps.refl _) (argsL := [(.int ((2 : Int32)))]) (rest := []) (lenOf pdCh rfl) rfl (by show 2 * 0 + _ ≤ _; exact Nat.le_of_eq rfl) (hb hby at_283) (fun _ _ => ⟨rfl, E349, (Nat.le_of_ble_eq_true rfl), (Nat.le_of_ble_eq_true rfl)⟩)
            dsimp only [Pt.U, Pt.locs, Pt.cells, Pt.slots] at X352 l352 y352 z352 st352 hQ352
            subst l352 y352 z352
            obtain ⟨rfl, rfl, E352⟩ := hQ352
            refine own_to st352 ?_
            show own_Go p e below F (T352.setTop (mkF m 286 #[.val (.int a), .val (.int b), .val (.int c1), .val (.int d), .val (.int n), .val (.int y0), .val (.int y1), .val (.int y2), .val (.int y3), .val (.int ((4 : Int32))), .val (.ref a299), .val (.ref a319), .val (.ref a319), .val (.int ((4 : Int32)))] [(.int y2)]))
            refine own_iload X352.here hx (hb hby at_286) rfl (pc' := 288) rfl ?_
            refine own_icmpne X352.here hx (hb hby at_288) (by decide) (pc' := 312) (by decide) (pc2 := 291) rfl (fun q => absurd rfl q) (fun q353 => ?_)
            refine own_iload X352.here hx (hb hby at_291) rfl (pc' := 293) rfl ?_
            refine own_iconst X352.here hx (hb hby at_293) (v := 4) rfl (pc' := 294) rfl ?_
            refine own_icmplt X352.here hx (hb hby at_294) (by decide) (pc' := 308) (by decide) (pc2 := 297) rfl (fun q => absurd q (by decide)) (fun q354 => ?_)
            refine own_aload X352.here hx (hb hby at_297) rfl rfl (pc' := 299) rfl ?_
            refine own_iconst X352.here hx (hb hby at_299) (v := 3) rfl (pc' := 300) rfl ?_
            obtain ⟨cq355, kq355, qa355, qb355, qc355⟩ := isOf J332.1 E352 S335.exa
            obtain ⟨_, _, ⟨T355, L355, k355, n355⟩, -, X355, ⟨Lc355, hQ355, l355, y355, z355⟩, st355⟩ := X352.virtualBack hx (y := (⟨"java/lang/String", "charAt", "(I)C"⟩ : MethodName)) (z := (⟨"java/lang/String", "charAt", "(I)C"⟩ : MethodName)) J332.2.1 (mvT J332.1 (hw _ (List.mem_of_getElem? (i := 114) rfl))) (mvT J332.1 (hw _ (List.mem_of_getElem? (i := 115) rfl))) (notFace_of_selects (args := #[]) (mvT J332.1 (hw _ (List.mem_of_getElem? (i := 117) rfl)))) (mvT J332.1 (hw _ (List.mem_of_getElem? (i := 117) rfl))) (mvT J332.1 (hw _ (List.mem_of_getElem? (i := 116) rfl))) (by decide) (own_chB (s := s.setVm s.vm) (W := 0) J332.1 hw S335 (O1.ext (own_ext_trans EZ f326)) P5 (O2.ext (own_ext_trans EZ f326)) rf (i := 3) (Nat.le_of_ble_eq_true rfl) rfl (by decide) (by decide)) qa355 qc355 (g := (mkF m 300 #[.val (.int a), .val (.int b), .val (.int c1), .val (.int d), .val (.int n), .val (.int y0), .val (.int y1), .val (.int y2), .val (.int y3), .val (.int ((4 : Int32))), .val (.ref a299), .val (.ref a319), .val (.ref a319), .val (.int ((4 : Int32)))] [(.int ((3 : Int32))), (.ref a319)])) rfl (by rw [hml]; rfl) (Steps.refl _) (argsL := [(.int ((3 : Int32)))]) (rest := []) (lenOf pdCh rfl) rfl (by show 2 * 0 + _ ≤ _; exact Nat.le_of_eq rfl) (hb hby at_300) (fun _ _ => ⟨rfl, E352, (Nat.le_of_ble_eq_true rfl), (Nat.le_of_ble_eq_true rfl)⟩)
            dsimp only [Pt.U, Pt.locs, Pt.cells, Pt.slots] at X355 l355 y355 z355 st355 hQ355
            subst l355 y355 z355
            obtain ⟨rfl, rfl, E355⟩ := hQ355
            refine own_to st355 ?_
            show own_Go p e below F (T355.setTop (mkF m 303 #[.val (.int a), .val (.int b), .val (.int c1), .val (.int d), .val (.int n), .val (.int y0), .val (.int y1), .val (.int y2), .val (.int y3), .val (.int ((4 : Int32))), .val (.ref a299), .val (.ref a319), .val (.ref a319), .val (.int ((4 : Int32)))] [(.int y3)]))
            refine own_iload X355.here hx (hb hby at_303) rfl (pc' := 305) rfl ?_
            refine own_icmpne X355.here hx (hb hby at_305) (by decide) (pc' := 312) (by decide) (pc2 := 308) rfl (fun q => absurd rfl q) (fun q356 => ?_)
            refine own_iconst X355.here hx (hb hby at_308) (v := 1) rfl (pc' := 309) rfl ?_
            refine own_goto X355.here hx (hb hby at_309) (by decide) (pc' := 313) (by decide) ?_
            exact own_retZW X355 hx hlk hEL J332 E355 (by decide) hret (hb hby at_313) (fun t ht hC hE => hF t _ _ _ _ (by rw [ht]; exact ⟨rfl, (by simpa using N337)⟩) hC hE (by decide) (by decide))
          refine own_icmpne X336.here hx (hb hby at_206) (by decide) (pc' := 212) (by decide) (pc2 := 209) rfl (fun q357 => ?_) (fun q357 => ?_)
          · exact J3_340 _
          · refine own_iconst X336.here hx (hb hby at_209) (v := 3) rfl (pc' := 210) rfl ?_
            refine own_istore X336.here hx (hb hby at_210) (L' := #[.val (.int a), .val (.int b), .val (.int c1), .val (.int d), .val (.int n), .val (.int y0), .val (.int y1), .val (.int y2), .val (.int y3), .val (.int ((4 : Int32))), .val (.ref a299), .val (.ref a319), .val (.ref a319), .val (.int ((3 : Int32)))]) rfl (pc' := 212) rfl ?_
            exact J3_340 _
        refine own_icmpne X336.here hx (hb hby at_190) (by decide) (pc' := 196) (by decide) (pc2 := 193) rfl (fun q358 => ?_) (fun q358 => ?_)
        · exact J2_339 _
        · refine own_iconst X336.here hx (hb hby at_193) (v := 2) rfl (pc' := 194) rfl ?_
          refine own_istore X336.here hx (hb hby at_194) (L' := #[.val (.int a), .val (.int b), .val (.int c1), .val (.int d), .val (.int n), .val (.int y0), .val (.int y1), .val (.int y2), .val (.int y3), .val (.int ((4 : Int32))), .val (.ref a299), .val (.ref a319), .val (.ref a319), .val (.int ((2 : Int32)))]) rfl (pc' := 196) rfl ?_
          exact J2_339 _
      refine own_icmpne X336.here hx (hb hby at_174) (by decide) (pc' := 180) (by decide) (pc2 := 177) rfl (fun q359 => ?_) (fun q359 => ?_)
      · exact J1_338 _
      · refine own_iconst X336.here hx (hb hby at_177) (v := 1) rfl (pc' := 178) rfl ?_
        refine own_istore X336.here hx (hb hby at_178) (L' := #[.val (.int a), .val (.int b), .val (.int c1), .val (.int d), .val (.int n), .val (.int y0), .val (.int y1), .val (.int y2), .val (.int y3), .val (.int ((4 : Int32))), .val (.ref a299), .val (.ref a319), .val (.ref a319), .val (.int ((1 : Int32)))]) rfl (pc' := 180) rfl ?_
        exact J1_338 _
    · by_cases h3 : y2 = 47
      · have S360 := S334
        obtain ⟨_, _, ⟨T361, L361, k361, n361⟩, -, X361, ⟨Lc361, hQ361, l361, y361, z361⟩, st361⟩ := Jvm.LawKit.callS X325 hx (y := (⟨"com/example/cartulary/cartulary/RegisterUris", "registerBase", "(Ljava/lang/String;)Ljava/lang/String;"⟩ : MethodName)) J332.2.1 (mvT J332.1 (hw _ (List.mem_of_getElem? (i := 27) rfl))) (mvT J332.1 (hw _ (List.mem_of_getElem? (i := 28) rfl))) (mvT J332.1 (hw _ (List.mem_of_getElem? (i := 29) rfl))) (mvT J332.1 (hw _ (List.mem_of_getElem? (i := 30) rfl))) (by decide) (backOf (W := 0) (rmRB2 l Z a0 hw a319 [y0, y1, y2, y3] 3 T325.heap (own_ext_trans EZ f326) z0 O1 P5 fm O2 rf S360 (by decide) (by decide) (Nat.le_of_ble_eq_true rfl) (by simp [own_li, h4, h3]; try decide)) J332.1 (hw _ (List.mem_of_getElem? (i := 30) rfl)) (hw _ (List.mem_of_getElem? (i := 29) rfl)) (by decide) (by decide)) (g := (mkF m 156 #[.val (.int a), .val (.int b), .val (.int c1), .val (.int d), .val (.int n), .val (.int y0), .val (.int y1), .val (.int y2), .val (.int y3), .val (.int ((4 : Int32))), .val (.ref a299), .val (.ref a319), .unset, .unset] [(.ref a319)])) rfl (by rw [hml]; rfl) (argsL := [(.ref a319)]) (rest := []) (lenOf pdRU rfl) rfl (by show 2 * 0 + _ ≤ _; exact Nat.le_of_eq rfl) (hb hby at_156) (fun _ _ => ⟨rfl, rfl, (Nat.le_of_ble_eq_true rfl), (Nat.le_of_ble_eq_true rfl)⟩)
        dsimp only [Pt.U, Pt.locs, Pt.cells, Pt.slots] at X361 l361 y361 z361 st361 hQ361
        subst l361 y361 z361
        obtain ⟨y361, rfl, S361, E361, N361⟩ := hQ361
        refine own_on (st361) ?_
        show own_Go p e below F (T361.setTop (mkF m 159 #[.val (.int a), .val (.int b), .val (.int c1), .val (.int d), .val (.int n), .val (.int y0), .val (.int y1), .val (.int y2), .val (.int y3), .val (.int ((4 : Int32))), .val (.ref a299), .val (.ref a319), .unset, .unset] [(.ref y361)]))
        have f362 := own_ext_trans f326 E361
        have J363 := J332.ext E361
        have N364 := Fr.app N333 N361
        refine own_astore X361.here hx (hb hby at_159) rfl (L' := #[.val (.int a), .val (.int b), .val (.int c1), .val (.int d), .val (.int n), .val (.int y0), .val (.int y1), .val (.int y2), .val (.int y3), .val (.int ((4 : Int32))), .val (.ref a299), .val (.ref a319), .val (.ref y361), .unset]) rfl (pc' := 161) rfl ?_
        refine own_iconst X361.here hx (hb hby at_161) (v := 0) rfl (pc' := 162) rfl ?_
        refine own_istore X361.here hx (hb hby at_162) (L' := #[.val (.int a), .val (.int b), .val (.int c1), .val (.int d), .val (.int n), .val (.int y0), .val (.int y1), .val (.int y2), .val (.int y3), .val (.int ((4 : Int32))), .val (.ref a299), .val (.ref a319), .val (.ref y361), .val (.int ((0 : Int32)))]) rfl (pc' := 164) rfl ?_
        refine own_iload X361.here hx (hb hby at_164) rfl (pc' := 166) rfl ?_
        refine own_iconst X361.here hx (hb hby at_166) (v := 1) rfl (pc' := 167) rfl ?_
        refine own_icmplt X361.here hx (hb hby at_167) (by decide) (pc' := 180) (by decide) (pc2 := 170) rfl (fun q => absurd q (by decide)) (fun q365 => ?_)
        refine own_iload X361.here hx (hb hby at_170) rfl (pc' := 172) rfl ?_
        refine own_bipush X361.here hx (hb hby at_172) (v := 47) rfl (pc' := 174) rfl ?_
        have J1_365 : ∀ (zz : Int32), own_Go p e below F (T361.setTop (mkF m 180 #[.val (.int a), .val (.int b), .val (.int c1), .val (.int d), .val (.int n), .val (.int y0), .val (.int y1), .val (.int y2), .val (.int y3), .val (.int ((4 : Int32))), .val (.ref a299), .val (.ref a319), .val (.ref y361), .val (.int zz)] [])) := by
          intro zz
          refine own_iload X361.here hx (hb hby at_180) rfl (pc' := 182) rfl ?_
          refine own_iconst X361.here hx (hb hby at_182) (v := 2) rfl (pc' := 183) rfl ?_
          refine own_icmplt X361.here hx (hb hby at_183) (by decide) (pc' := 196) (by decide) (pc2 := 186) rfl (fun q => absurd q (by decide)) (fun q366 => ?_)
          refine own_iload X361.here hx (hb hby at_186) rfl (pc' := 188) rfl ?_
          refine own_bipush X361.here hx (hb hby at_188) (v := 47) rfl (pc' := 190) rfl ?_
          have J2_366 : ∀ (zz : Int32), own_Go p e below F (T361.setTop (mkF m 196 #[.val (.int a), .val (.int b), .val (.int c1), .val (.int d), .val (.int n), .val (.int y0), .val (.int y1), .val (.int y2), .val (.int y3), .val (.int ((4 : Int32))), .val (.ref a299), .val (.ref a319), .val (.ref y361), .val (.int zz)] [])) := by
            intro zz
            refine own_iload X361.here hx (hb hby at_196) rfl (pc' := 198) rfl ?_
            refine own_iconst X361.here hx (hb hby at_198) (v := 3) rfl (pc' := 199) rfl ?_
            refine own_icmplt X361.here hx (hb hby at_199) (by decide) (pc' := 212) (by decide) (pc2 := 202) rfl (fun q => absurd q (by decide)) (fun q367 => ?_)
            refine own_iload X361.here hx (hb hby at_202) rfl (pc' := 204) rfl ?_
            refine own_bipush X361.here hx (hb hby at_204) (v := 47) rfl (pc' := 206) rfl ?_
            refine own_icmpne X361.here hx (hb hby at_206) (by decide) (pc' := 212) (by decide) (pc2 := 209) rfl (fun q => absurd h3 q) (fun q368 => ?_)
            refine own_iconst X361.here hx (hb hby at_209) (v := 3) rfl (pc' := 210) rfl ?_
            refine own_istore X361.here hx (hb hby at_210) (L' := #[.val (.int a), .val (.int b), .val (.int c1), .val (.int d), .val (.int n), .val (.int y0), .val (.int y1), .val (.int y2), .val (.int y3), .val (.int ((4 : Int32))), .val (.ref a299), .val (.ref a319), .val (.ref y361), .val (.int ((3 : Int32)))]) rfl (pc' := 212) rfl ?_
            refine own_iload X361.here hx (hb hby at_212) rfl (pc' := 214) rfl ?_
            refine own_iconst X361.here hx (hb hby at_214) (v := 4) rfl (pc' := 215) rfl ?_
            refine own_icmplt X361.here hx (hb hby at_215) (by decide) (pc' := 228) (by decide) (pc2 := 218) rfl (fun q => absurd q (by decide)) (fun q369 => ?_)
            refine own_iload X361.here hx (hb hby at_218) rfl (pc' := 220) rfl ?_
            refine own_bipush X361.here hx (hb hby at_220) (v := 47) rfl (pc' := 222) rfl ?_
            refine own_icmpne X361.here hx (hb hby at_222) (by decide) (pc' := 228) (by decide) (pc2 := 225) rfl (fun q370 => ?_) (fun q => absurd q h4)
            refine own_aload X361.here hx (hb hby at_228) rfl rfl (pc' := 230) rfl ?_
            obtain ⟨cq371, kq371, qa371, qb371, qc371⟩ := isOf J363.1 rfl S361.exa
            obtain ⟨_, _, ⟨T371, L371, k371, n371⟩, -, X371, ⟨Lc371, hQ371, l371, y371, z371⟩, st371⟩ := X361.virtualBack hx (y := (⟨"java/lang/String", "length", "()I"⟩ : MethodName)) (z := (⟨"java/lang/String", "length", "()I"⟩ : MethodName)) J363.2.1 (mvT J363.1 (hw _ (List.mem_of_getElem? (i := 81) rfl))) (mvT J363.1 (hw _ (List.mem_of_getElem? (i := 37) rfl))) (notFace_of_selects (args := #[]) (mvT J363.1 (hw _ (List.mem_of_getElem? (i := 39) rfl)))) (mvT J363.1 (hw _ (List.mem_of_getElem? (i := 39) rfl))) (mvT J363.1 (hw _ (List.mem_of_getElem? (i := 38) rfl))) (by decide) (own_lenB (s := s.setVm s.vm) (W := 0) J363.1 hw S361 (O1.ext (own_ext_trans EZ f362)) P5 (by decide) (by decide)) qa371 qc371 (g := (mkF m 230 #[.val (.int a), .val (.int b), .val (.int c1), .val (.int d), .val (.int n), .val (.int y0), .val (.int y1), .val (.int y2), .val (.int y3), .val (.int ((4 : Int32))), .val (.ref a299), .val (.ref a319), .val (.ref y361), .val (.int ((3 : Int32)))] [(.ref y361)])) rfl (by rw [hml]; rfl) (Steps.refl _) (argsL := []) (rest := []) (lenOf pdI rfl) rfl (by show 2 * 0 + _ ≤ _; exact Nat.le_of_eq rfl) (hb hby at_230) (fun _ _ => ⟨rfl, rfl, (Nat.le_of_ble_eq_true rfl), (Nat.le_of_ble_eq_true rfl)⟩)
            dsimp only [Pt.U, Pt.locs, Pt.cells, Pt.slots] at X371 l371 y371 z371 st371 hQ371
            subst l371 y371 z371
            obtain ⟨rfl, rfl, E371⟩ := hQ371
            refine own_to st371 ?_
            show own_Go p e below F (T371.setTop (mkF m 233 #[.val (.int a), .val (.int b), .val (.int c1), .val (.int d), .val (.int n), .val (.int y0), .val (.int y1), .val (.int y2), .val (.int y3), .val (.int ((4 : Int32))), .val (.ref a299), .val (.ref a319), .val (.ref y361), .val (.int ((3 : Int32)))] [(.int (Int32.ofNat 3))]))
            refine own_iload X371.here hx (hb hby at_233) rfl (pc' := 235) rfl ?_
            refine own_icmpeq X371.here hx (hb hby at_235) (by decide) (pc' := 240) (by decide) (pc2 := 238) rfl (fun q372 => ?_) (fun q => absurd rfl q)
            refine own_iload X371.here hx (hb hby at_240) rfl (pc' := 242) rfl ?_
            refine own_iconst X371.here hx (hb hby at_242) (v := 1) rfl (pc' := 243) rfl ?_
            refine own_icmplt X371.here hx (hb hby at_243) (by decide) (pc' := 257) (by decide) (pc2 := 246) rfl (fun q => absurd q (by decide)) (fun q373 => ?_)
            refine own_aload X371.here hx (hb hby at_246) rfl rfl (pc' := 248) rfl ?_
            refine own_iconst X371.here hx (hb hby at_248) (v := 0) rfl (pc' := 249) rfl ?_
            obtain ⟨cq374, kq374, qa374, qb374, qc374⟩ := isOf J363.1 E371 S361.exa
            obtain ⟨_, _, ⟨T374, L374, k374, n374⟩, -, X374, ⟨Lc374, hQ374, l374, y374, z374⟩, st374⟩ := X371.virtualBack hx (y := (⟨"java/lang/String", "charAt", "(I)C"⟩ : MethodName)) (z := (⟨"java/lang/String", "charAt", "(I)C"⟩ : MethodName)) J363.2.1 (mvT J363.1 (hw _ (List.mem_of_getElem? (i := 114) rfl))) (mvT J363.1 (hw _ (List.mem_of_getElem? (i := 115) rfl))) (notFace_of_selects (args := #[]) (mvT J363.1 (hw _ (List.mem_of_getElem? (i := 117) rfl)))) (mvT J363.1 (hw _ (List.mem_of_getElem? (i := 117) rfl))) (mvT J363.1 (hw _ (List.mem_of_getElem? (i := 116) rfl))) (by decide) (own_chB (s := s.setVm s.vm) (W := 0) J363.1 hw S361 (O1.ext (own_ext_trans EZ f362)) P5 (O2.ext (own_ext_trans EZ f362)) rf (i := 0) (Nat.le_of_ble_eq_true rfl) rfl (by decide) (by decide)) qa374 qc374 (g := (mkF m 249 #[.val (.int a), .val (.int b), .val (.int c1), .val (.int d), .val (.int n), .val (.int y0), .val (.int y1), .val (.int y2), .val (.int y3), .val (.int ((4 : Int32))), .val (.ref a299), .val (.ref a319), .val (.ref y361), .val (.int ((3 : Int32)))] [(.int ((0 : Int32))), (.ref y361)])) rfl (by rw [hml]; rfl) (Steps.refl _) (argsL := [(.int ((0 : Int32)))]) (rest := []) (lenOf pdCh rfl) rfl (by show 2 * 0 + _ ≤ _; exact Nat.le_of_eq rfl) (hb hby at_249) (fun _ _ => ⟨rfl, E371, (Nat.le_of_ble_eq_true rfl), (Nat.le_of_ble_eq_true rfl)⟩)
            dsimp only [Pt.U, Pt.locs, Pt.cells, Pt.slots] at X374 l374 y374 z374 st374 hQ374
            subst l374 y374 z374
            obtain ⟨rfl, rfl, E374⟩ := hQ374
            refine own_to st374 ?_
            show own_Go p e below F (T374.setTop (mkF m 252 #[.val (.int a), .val (.int b), .val (.int c1), .val (.int d), .val (.int n), .val (.int y0), .val (.int y1), .val (.int y2), .val (.int y3), .val (.int ((4 : Int32))), .val (.ref a299), .val (.ref a319), .val (.ref y361), .val (.int ((3 : Int32)))] [(.int y0)]))
            refine own_iload X374.here hx (hb hby at_252) rfl (pc' := 254) rfl ?_
            refine own_icmpne X374.here hx (hb hby at_254) (by decide) (pc' := 312) (by decide) (pc2 := 257) rfl (fun q => absurd rfl q) (fun q375 => ?_)
            refine own_iload X374.here hx (hb hby at_257) rfl (pc' := 259) rfl ?_
            refine own_iconst X374.here hx (hb hby at_259) (v := 2) rfl (pc' := 260) rfl ?_
            refine own_icmplt X374.here hx (hb hby at_260) (by decide) (pc' := 274) (by decide) (pc2 := 263) rfl (fun q => absurd q (by decide)) (fun q376 => ?_)
            refine own_aload X374.here hx (hb hby at_263) rfl rfl (pc' := 265) rfl ?_
            refine own_iconst X374.here hx (hb hby at_265) (v := 1) rfl (pc' := 266) rfl ?_
            obtain ⟨cq377, kq377, qa377, qb377, qc377⟩ := isOf J363.1 E374 S361.exa
            obtain ⟨_, _, ⟨T377, L377, k377, n377⟩, -, X377, ⟨Lc377, hQ377, l377, y377, z377⟩, st377⟩ := X374.virtualBack hx (y := (⟨"java/lang/String", "charAt", "(I)C"⟩ : MethodName)) (z := (⟨"java/lang/String", "charAt", "(I)C"⟩ : MethodName)) J363.2.1 (mvT J363.1 (hw _ (List.mem_of_getElem? (i := 114) rfl))) (mvT J363.1 (hw _ (List.mem_of_getElem? (i := 115) rfl))) (notFace_of_selects (args := #[]) (mvT J363.1 (hw _ (List.mem_of_getElem? (i := 117) rfl)))) (mvT J363.1 (hw _ (List.mem_of_getElem? (i := 117) rfl))) (mvT J363.1 (hw _ (List.mem_of_getElem? (i := 116) rfl))) (by decide) (own_chB (s := s.setVm s.vm) (W := 0) J363.1 hw S361 (O1.ext (own_ext_trans EZ f362)) P5 (O2.ext (own_ext_trans EZ f362)) rf (i := 1) (Nat.le_of_ble_eq_true rfl) rfl (by decide) (by decide)) qa377 qc377 (g := (mkF m 266 #[.val (.int a), .val (.int b), .val (.int c1), .val (.int d), .val (.int n), .val (.int y0), .val (.int y1), .val (.int y2), .val (.int y3), .val (.int ((4 : Int32))), .val (.ref a299), .val (.ref a319), .val (.ref y361), .val (.int ((3 : Int32)))] [(.int ((1 : Int32))), (.ref y361)])) rfl (by rw [hml]; rfl) (Steps.refl _) (argsL := [(.int ((1 : Int32)))]) (rest := []) (lenOf pdCh rfl) rfl (by show 2 * 0 + _ ≤ _; exact Nat.le_of_eq rfl) (hb hby at_266) (fun _ _ => ⟨rfl, E374, (Nat.le_of_ble_eq_true rfl), (Nat.le_of_ble_eq_true rfl)⟩)
            dsimp only [Pt.U, Pt.locs, Pt.cells, Pt.slots] at X377 l377 y377 z377 st377 hQ377
            subst l377 y377 z377
            obtain ⟨rfl, rfl, E377⟩ := hQ377
            refine own_to st377 ?_
            show own_Go p e below F (T377.setTop (mkF m 269 #[.val (.int a), .val (.int b), .val (.int c1), .val (.int d), .val (.int n), .val (.int y0), .val (.int y1), .val (.int y2), .val (.int y3), .val (.int ((4 : Int32))), .val (.ref a299), .val (.ref a319), .val (.ref y361), .val (.int ((3 : Int32)))] [(.int y1)]))
            refine own_iload X377.here hx (hb hby at_269) rfl (pc' := 271) rfl ?_
            refine own_icmpne X377.here hx (hb hby at_271) (by decide) (pc' := 312) (by decide) (pc2 := 274) rfl (fun q => absurd rfl q) (fun q378 => ?_)
            refine own_iload X377.here hx (hb hby at_274) rfl (pc' := 276) rfl ?_
            refine own_iconst X377.here hx (hb hby at_276) (v := 3) rfl (pc' := 277) rfl ?_
            refine own_icmplt X377.here hx (hb hby at_277) (by decide) (pc' := 291) (by decide) (pc2 := 280) rfl (fun q => absurd q (by decide)) (fun q379 => ?_)
            refine own_aload X377.here hx (hb hby at_280) rfl rfl (pc' := 282) rfl ?_
            refine own_iconst X377.here hx (hb hby at_282) (v := 2) rfl (pc' := 283) rfl ?_
            obtain ⟨cq380, kq380, qa380, qb380, qc380⟩ := isOf J363.1 E377 S361.exa
            obtain ⟨_, _, ⟨T380, L380, k380, n380⟩, -, X380, ⟨Lc380, hQ380, l380, y380, z380⟩, st380⟩ := X377.virtualBack hx (y := (⟨"java/lang/String", "charAt", "(I)C"⟩ : MethodName)) (z := (⟨"java/lang/String", "charAt", "(I)C"⟩ : MethodName)) J363.2.1 (mvT J363.1 (hw _ (List.mem_of_getElem? (i := 114) rfl))) (mvT J363.1 (hw _ (List.mem_of_getElem? (i := 115) rfl))) (notFace_of_selects (args := #[]) (mvT J363.1 (hw _ (List.mem_of_getElem? (i := 117) rfl)))) (mvT J363.1 (hw _ (List.mem_of_getElem? (i := 117) rfl))) (mvT J363.1 (hw _ (List.mem_of_getElem? (i := 116) rfl))) (by decide) (own_chB (s := s.setVm s.vm) (W := 0) J363.1 hw S361 (O1.ext (own_ext_trans EZ f362)) P5 (O2.ext (own_ext_trans EZ f362)) rf (i := 2) (Nat.le_of_ble_eq_true rfl) rfl (by decide) (by decide)) qa380 qc380 (g := (mkF m 283 #[.val (.int a), .val (.int b), .val (.int c1), .val (.int d), .val (.int n), .val (.int y0), .val (.int y1), .val (.int y2), .val (.int y3), .val (.int ((4 : Int32))), .val (.ref a299), .val (.ref a319), .val (.ref y361), .val (.int ((3 : Int32)))] [(.int ((2 : Int32))), (.ref y361)])) rfl (by rw [hml]; rfl) (Steps.refl _) (argsL := [(.int ((2 : Int32)))]) (rest := []) (lenOf pdCh rfl) rfl (by show 2 * 0 + _ ≤ _; exact Nat.le_of_eq rfl) (hb hby at_283) (fun _ _ => ⟨rfl, E377, (Nat.le_of_ble_eq_true rfl), (Nat.le_of_ble_eq_true rfl)⟩)
            dsimp only [Pt.U, Pt.locs, Pt.cells, Pt.slots] at X380 l380 y380 z380 st380 hQ380
            subst l380 y380 z380
            obtain ⟨rfl, rfl, E380⟩ := hQ380
            refine own_to st380 ?_
            show own_Go p e below F (T380.setTop (mkF m 286 #[.val (.int a), .val (.int b), .val (.int c1), .val (.int d), .val (.int n), .val (.int y0), .val (.int y1), .val (.int y2), .val (.int y3), .val (.int ((4 : Int32))), .val (.ref a299), .val (.ref a319), .val (.ref y361), .val (.int ((3 : Int32)))] [(.int y2)]))
            refine own_iload X380.here hx (hb hby at_286) rfl (pc' := 288) rfl ?_
            refine own_icmpne X380.here hx (hb hby at_288) (by decide) (pc' := 312) (by decide) (pc2 := 291) rfl (fun q => absurd rfl q) (fun q381 => ?_)
            refine own_iload X380.here hx (hb hby at_291) rfl (pc' := 293) rfl ?_
            refine own_iconst X380.here hx (hb hby at_293) (v := 4) rfl (pc' := 294) rfl ?_
            refine own_icmplt X380.here hx (hb hby at_294) (by decide) (pc' := 308) (by decide) (pc2 := 297) rfl (fun q382 => ?_) (fun q => absurd (by decide) q)
            refine own_iconst X380.here hx (hb hby at_308) (v := 1) rfl (pc' := 309) rfl ?_
            refine own_goto X380.here hx (hb hby at_309) (by decide) (pc' := 313) (by decide) ?_
            exact own_retZW X380 hx hlk hEL J363 E380 (by decide) hret (hb hby at_313) (fun t ht hC hE => hF t _ _ _ _ (by rw [ht]; exact ⟨rfl, (by simpa using N364)⟩) hC hE (by decide) (by decide))
          refine own_icmpne X361.here hx (hb hby at_190) (by decide) (pc' := 196) (by decide) (pc2 := 193) rfl (fun q383 => ?_) (fun q383 => ?_)
          · exact J2_366 _
          · refine own_iconst X361.here hx (hb hby at_193) (v := 2) rfl (pc' := 194) rfl ?_
            refine own_istore X361.here hx (hb hby at_194) (L' := #[.val (.int a), .val (.int b), .val (.int c1), .val (.int d), .val (.int n), .val (.int y0), .val (.int y1), .val (.int y2), .val (.int y3), .val (.int ((4 : Int32))), .val (.ref a299), .val (.ref a319), .val (.ref y361), .val (.int ((2 : Int32)))]) rfl (pc' := 196) rfl ?_
            exact J2_366 _
        refine own_icmpne X361.here hx (hb hby at_174) (by decide) (pc' := 180) (by decide) (pc2 := 177) rfl (fun q384 => ?_) (fun q384 => ?_)
        · exact J1_365 _
        · refine own_iconst X361.here hx (hb hby at_177) (v := 1) rfl (pc' := 178) rfl ?_
          refine own_istore X361.here hx (hb hby at_178) (L' := #[.val (.int a), .val (.int b), .val (.int c1), .val (.int d), .val (.int n), .val (.int y0), .val (.int y1), .val (.int y2), .val (.int y3), .val (.int ((4 : Int32))), .val (.ref a299), .val (.ref a319), .val (.ref y361), .val (.int ((1 : Int32)))]) rfl (pc' := 180) rfl ?_
          exact J1_365 _
      · by_cases h2 : y1 = 47
        · have S385 := S334
          obtain ⟨_, _, ⟨T386, L386, k386, n386⟩, -, X386, ⟨Lc386, hQ386, l386, y386, z386⟩, st386⟩ := Jvm.LawKit.callS X325 hx (y := (⟨"com/example/cartulary/cartulary/RegisterUris", "registerBase", "(Ljava/lang/String;)Ljava/lang/String;"⟩ : MethodName)) J332.2.1 (mvT J332.1 (hw _ (List.mem_of_getElem? (i := 27) rfl))) (mvT J332.1 (hw _ (List.mem_of_getElem? (i := 28) rfl))) (mvT J332.1 (hw _ (List.mem_of_getElem? (i := 29) rfl))) (mvT J332.1 (hw _ (List.mem_of_getElem? (i := 30) rfl))) (by decide) (backOf (W := 0) (rmRB2 l Z a0 hw a319 [y0, y1, y2, y3] 2 T325.heap (own_ext_trans EZ f326) z0 O1 P5 fm O2 rf S385 (by decide) (by decide) (Nat.le_of_ble_eq_true rfl) (by simp [own_li, h4, h3, h2]; try decide)) J332.1 (hw _ (List.mem_of_getElem? (i := 30) rfl)) (hw _ (List.mem_of_getElem? (i := 29) rfl)) (by decide) (by decide)) (g := (mkF m 156 #[.val (.int a), .val (.int b), .val (.int c1), .val (.int d), .val (.int n), .val (.int y0), .val (.int y1), .val (.int y2), .val (.int y3), .val (.int ((4 : Int32))), .val (.ref a299), .val (.ref a319), .unset, .unset] [(.ref a319)])) rfl (by rw [hml]; rfl) (argsL := [(.ref a319)]) (rest := []) (lenOf pdRU rfl) rfl (by show 2 * 0 + _ ≤ _; exact Nat.le_of_eq rfl) (hb hby at_156) (fun _ _ => ⟨rfl, rfl, (Nat.le_of_ble_eq_true rfl), (Nat.le_of_ble_eq_true rfl)⟩)
          dsimp only [Pt.U, Pt.locs, Pt.cells, Pt.slots] at X386 l386 y386 z386 st386 hQ386
          subst l386 y386 z386
          obtain ⟨y386, rfl, S386, E386, N386⟩ := hQ386
          refine own_on (st386) ?_
          show own_Go p e below F (T386.setTop (mkF m 159 #[.val (.int a), .val (.int b), .val (.int c1), .val (.int d), .val (.int n), .val (.int y0), .val (.int y1), .val (.int y2), .val (.int y3), .val (.int ((4 : Int32))), .val (.ref a299), .val (.ref a319), .unset, .unset] [(.ref y386)]))
          have f387 := own_ext_trans f326 E386
          have J388 := J332.ext E386
          have N389 := Fr.app N333 N386
          refine own_astore X386.here hx (hb hby at_159) rfl (L' := #[.val (.int a), .val (.int b), .val (.int c1), .val (.int d), .val (.int n), .val (.int y0), .val (.int y1), .val (.int y2), .val (.int y3), .val (.int ((4 : Int32))), .val (.ref a299), .val (.ref a319), .val (.ref y386), .unset]) rfl (pc' := 161) rfl ?_
          refine own_iconst X386.here hx (hb hby at_161) (v := 0) rfl (pc' := 162) rfl ?_
          refine own_istore X386.here hx (hb hby at_162) (L' := #[.val (.int a), .val (.int b), .val (.int c1), .val (.int d), .val (.int n), .val (.int y0), .val (.int y1), .val (.int y2), .val (.int y3), .val (.int ((4 : Int32))), .val (.ref a299), .val (.ref a319), .val (.ref y386), .val (.int ((0 : Int32)))]) rfl (pc' := 164) rfl ?_
          refine own_iload X386.here hx (hb hby at_164) rfl (pc' := 166) rfl ?_
          refine own_iconst X386.here hx (hb hby at_166) (v := 1) rfl (pc' := 167) rfl ?_
          refine own_icmplt X386.here hx (hb hby at_167) (by decide) (pc' := 180) (by decide) (pc2 := 170) rfl (fun q => absurd q (by decide)) (fun q390 => ?_)
          refine own_iload X386.here hx (hb hby at_170) rfl (pc' := 172) rfl ?_
          refine own_bipush X386.here hx (hb hby at_172) (v := 47) rfl (pc' := 174) rfl ?_
          have J1_390 : ∀ (zz : Int32), own_Go p e below F (T386.setTop (mkF m 180 #[.val (.int a), .val (.int b), .val (.int c1), .val (.int d), .val (.int n), .val (.int y0), .val (.int y1), .val (.int y2), .val (.int y3), .val (.int ((4 : Int32))), .val (.ref a299), .val (.ref a319), .val (.ref y386), .val (.int zz)] [])) := by
            intro zz
            refine own_iload X386.here hx (hb hby at_180) rfl (pc' := 182) rfl ?_
            refine own_iconst X386.here hx (hb hby at_182) (v := 2) rfl (pc' := 183) rfl ?_
            refine own_icmplt X386.here hx (hb hby at_183) (by decide) (pc' := 196) (by decide) (pc2 := 186) rfl (fun q => absurd q (by decide)) (fun q391 => ?_)
            refine own_iload X386.here hx (hb hby at_186) rfl (pc' := 188) rfl ?_
            refine own_bipush X386.here hx (hb hby at_188) (v := 47) rfl (pc' := 190) rfl ?_
            refine own_icmpne X386.here hx (hb hby at_190) (by decide) (pc' := 196) (by decide) (pc2 := 193) rfl (fun q => absurd h2 q) (fun q392 => ?_)
            refine own_iconst X386.here hx (hb hby at_193) (v := 2) rfl (pc' := 194) rfl ?_
            refine own_istore X386.here hx (hb hby at_194) (L' := #[.val (.int a), .val (.int b), .val (.int c1), .val (.int d), .val (.int n), .val (.int y0), .val (.int y1), .val (.int y2), .val (.int y3), .val (.int ((4 : Int32))), .val (.ref a299), .val (.ref a319), .val (.ref y386), .val (.int ((2 : Int32)))]) rfl (pc' := 196) rfl ?_
            refine own_iload X386.here hx (hb hby at_196) rfl (pc' := 198) rfl ?_
            refine own_iconst X386.here hx (hb hby at_198) (v := 3) rfl (pc' := 199) rfl ?_
            refine own_icmplt X386.here hx (hb hby at_199) (by decide) (pc' := 212) (by decide) (pc2 := 202) rfl (fun q => absurd q (by decide)) (fun q393 => ?_)
            refine own_iload X386.here hx (hb hby at_202) rfl (pc' := 204) rfl ?_
            refine own_bipush X386.here hx (hb hby at_204) (v := 47) rfl (pc' := 206) rfl ?_
            refine own_icmpne X386.here hx (hb hby at_206) (by decide) (pc' := 212) (by decide) (pc2 := 209) rfl (fun q394 => ?_) (fun q => absurd q h3)
            refine own_iload X386.here hx (hb hby at_212) rfl (pc' := 214) rfl ?_
            refine own_iconst X386.here hx (hb hby at_214) (v := 4) rfl (pc' := 215) rfl ?_
            refine own_icmplt X386.here hx (hb hby at_215) (by decide) (pc' := 228) (by decide) (pc2 := 218) rfl (fun q => absurd q (by decide)) (fun q395 => ?_)
            refine own_iload X386.here hx (hb hby at_218) rfl (pc' := 220) rfl ?_
            refine own_bipush X386.here hx (hb hby at_220) (v := 47) rfl (pc' := 222) rfl ?_
            refine own_icmpne X386.here hx (hb hby at_222) (by decide) (pc' := 228) (by decide) (pc2 := 225) rfl (fun q396 => ?_) (fun q => absurd q h4)
            refine own_aload X386.here hx (hb hby at_228) rfl rfl (pc' := 230) rfl ?_
            obtain ⟨cq397, kq397, qa397, qb397, qc397⟩ := isOf J388.1 rfl S386.exa
            obtain ⟨_, _, ⟨T397, L397, k397, n397⟩, -, X397, ⟨Lc397, hQ397, l397, y397, z397⟩, st397⟩ := X386.virtualBack hx (y := (⟨"java/lang/String", "length", "()I"⟩ : MethodName)) (z := (⟨"java/lang/String", "length", "()I"⟩ : MethodName)) J388.2.1 (mvT J388.1 (hw _ (List.mem_of_getElem? (i := 81) rfl))) (mvT J388.1 (hw _ (List.mem_of_getElem? (i := 37) rfl))) (notFace_of_selects (args := #[]) (mvT J388.1 (hw _ (List.mem_of_getElem? (i := 39) rfl)))) (mvT J388.1 (hw _ (List.mem_of_getElem? (i := 39) rfl))) (mvT J388.1 (hw _ (List.mem_of_getElem? (i := 38) rfl))) (by decide) (own_lenB (s := s.setVm s.vm) (W := 0) J388.1 hw S386 (O1.ext (own_ext_trans EZ f387)) P5 (by decide) (by decide)) qa397 qc397 (g := (mkF m 230 #[.val (.int a), .val (.int b), .val (.int c1), .val (.int d), .val (.int n), .val (.int y0), .val (.int y1), .val (.int y2), .val (.int y3), .val (.int ((4 : Int32))), .val (.ref a299), .val (.ref a319), .val (.ref y386), .val (.int ((2 : Int32)))] [(.ref y386)])) rfl (by rw [hml]; rfl) (Steps.refl _) (argsL := []) (rest := []) (lenOf pdI rfl) rfl (by show 2 * 0 + _ ≤ _; exact Nat.le_of_eq rfl) (hb hby at_230) (fun _ _ => ⟨rfl, rfl, (Nat.le_of_ble_eq_true rfl), (Nat.le_of_ble_eq_true rfl)⟩)
            dsimp only [Pt.U, Pt.locs, Pt.cells, Pt.slots] at X397 l397 y397 z397 st397 hQ397
            subst l397 y397 z397
            obtain ⟨rfl, rfl, E397⟩ := hQ397
            refine own_to st397 ?_
            show own_Go p e below F (T397.setTop (mkF m 233 #[.val (.int a), .val (.int b), .val (.int c1), .val (.int d), .val (.int n), .val (.int y0), .val (.int y1), .val (.int y2), .val (.int y3), .val (.int ((4 : Int32))), .val (.ref a299), .val (.ref a319), .val (.ref y386), .val (.int ((2 : Int32)))] [(.int (Int32.ofNat 2))]))
            refine own_iload X397.here hx (hb hby at_233) rfl (pc' := 235) rfl ?_
            refine own_icmpeq X397.here hx (hb hby at_235) (by decide) (pc' := 240) (by decide) (pc2 := 238) rfl (fun q398 => ?_) (fun q => absurd rfl q)
            refine own_iload X397.here hx (hb hby at_240) rfl (pc' := 242) rfl ?_
            refine own_iconst X397.here hx (hb hby at_242) (v := 1) rfl (pc' := 243) rfl ?_
            refine own_icmplt X397.here hx (hb hby at_243) (by decide) (pc' := 257) (by decide) (pc2 := 246) rfl (fun q => absurd q (by decide)) (fun q399 => ?_)
            refine own_aload X397.here hx (hb hby at_246) rfl rfl (pc' := 248) rfl ?_
            refine own_iconst X397.here hx (hb hby at_248) (v := 0) rfl (pc' := 249) rfl ?_
            obtain ⟨cq400, kq400, qa400, qb400, qc400⟩ := isOf J388.1 E397 S386.exa
            obtain ⟨_, _, ⟨T400, L400, k400, n400⟩, -, X400, ⟨Lc400, hQ400, l400, y400, z400⟩, st400⟩ := X397.virtualBack hx (y := (⟨"java/lang/String", "charAt", "(I)C"⟩ : MethodName)) (z := (⟨"java/lang/String", "charAt", "(I)C"⟩ : MethodName)) J388.2.1 (mvT J388.1 (hw _ (List.mem_of_getElem? (i := 114) rfl))) (mvT J388.1 (hw _ (List.mem_of_getElem? (i := 115) rfl))) (notFace_of_selects (args := #[]) (mvT J388.1 (hw _ (List.mem_of_getElem? (i := 117) rfl)))) (mvT J388.1 (hw _ (List.mem_of_getElem? (i := 117) rfl))) (mvT J388.1 (hw _ (List.mem_of_getElem? (i := 116) rfl))) (by decide) (own_chB (s := s.setVm s.vm) (W := 0) J388.1 hw S386 (O1.ext (own_ext_trans EZ f387)) P5 (O2.ext (own_ext_trans EZ f387)) rf (i := 0) (Nat.le_of_ble_eq_true rfl) rfl (by decide) (by decide)) qa400 qc400 (g := (mkF m 249 #[.val (.int a), .val (.int b), .val (.int c1), .val (.int d), .val (.int n), .val (.int y0), .val (.int y1), .val (.int y2), .val (.int y3), .val (.int ((4 : Int32))), .val (.ref a299), .val (.ref a319), .val (.ref y386), .val (.int ((2 : Int32)))] [(.int ((0 : Int32))), (.ref y386)])) rfl (by rw [hml]; rfl) (Steps.refl _) (argsL := [(.int ((0 : Int32)))]) (rest := []) (lenOf pdCh rfl) rfl (by show 2 * 0 + _ ≤ _; exact Nat.le_of_eq rfl) (hb hby at_249) (fun _ _ => ⟨rfl, E397, (Nat.le_of_ble_eq_true rfl), (Nat.le_of_ble_eq_true rfl)⟩)
            dsimp only [Pt.U, Pt.locs, Pt.cells, Pt.slots] at X400 l400 y400 z400 st400 hQ400
            subst l400 y400 z400
            obtain ⟨rfl, rfl, E400⟩ := hQ400
            refine own_to st400 ?_
            show own_Go p e below F (T400.setTop (mkF m 252 #[.val (.int a), .val (.int b), .val (.int c1), .val (.int d), .val (.int n), .val (.int y0), .val (.int y1), .val (.int y2), .val (.int y3), .val (.int ((4 : Int32))), .val (.ref a299), .val (.ref a319), .val (.ref y386), .val (.int ((2 : Int32)))] [(.int y0)]))
            refine own_iload X400.here hx (hb hby at_252) rfl (pc' := 254) rfl ?_
            refine own_icmpne X400.here hx (hb hby at_254) (by decide) (pc' := 312) (by decide) (pc2 := 257) rfl (fun q => absurd rfl q) (fun q401 => ?_)
            refine own_iload X400.here hx (hb hby at_257) rfl (pc' := 259) rfl ?_
            refine own_iconst X400.here hx (hb hby at_259) (v := 2) rfl (pc' := 260) rfl ?_
            refine own_icmplt X400.here hx (hb hby at_260) (by decide) (pc' := 274) (by decide) (pc2 := 263) rfl (fun q => absurd q (by decide)) (fun q402 => ?_)
            refine own_aload X400.here hx (hb hby at_263) rfl rfl (pc' := 265) rfl ?_
            refine own_iconst X400.here hx (hb hby at_265) (v := 1) rfl (pc' := 266) rfl ?_
            obtain ⟨cq403, kq403, qa403, qb403, qc403⟩ := isOf J388.1 E400 S386.exa
            obtain ⟨_, _, ⟨T403, L403, k403, n403⟩, -, X403, ⟨Lc403, hQ403, l403, y403, z403⟩, st403⟩ := X400.virtualBack hx (y := (⟨"java/lang/String", "charAt", "(I)C"⟩ : MethodName)) (z := (⟨"java/lang/String", "charAt", "(I)C"⟩ : MethodName)) J388.2.1 (mvT J388.1 (hw _ (List.mem_of_getElem? (i := 114) rfl))) (mvT J388.1 (hw _ (List.mem_of_getElem? (i := 115) rfl))) (notFace_of_selects (args := #[]) (mvT J388.1 (hw _ (List.mem_of_getElem? (i := 117) rfl)))) (mvT J388.1 (hw _ (List.mem_of_getElem? (i := 117) rfl))) (mvT J388.1 (hw _ (List.mem_of_getElem? (i := 116) rfl))) (by decide) (own_chB (s := s.setVm s.vm) (W := 0) J388.1 hw S386 (O1.ext (own_ext_trans EZ f387)) P5 (O2.ext (own_ext_trans EZ f387)) rf (i := 1) (Nat.le_of_ble_eq_true rfl) rfl (by decide) (by decide)) qa403 qc403 (g := (mkF m 266 #[.val (.int a), .val (.int b), .val (.int c1), .val (.int d), .val (.int n), .val (.int y0), .val (.int y1), .val (.int y2), .val (.int y3), .val (.int ((4 : Int32))), .val (.ref a299), .val (.ref a319), .val (.ref y386), .val (.int ((2 : Int32)))] [(.int ((1 : Int32))), (.ref y386)])) rfl (by rw [hml]; rfl) (Steps.refl _) (argsL := [(.int ((1 : Int32)))]) (rest := []) (lenOf pdCh rfl) rfl (by show 2 * 0 + _ ≤ _; exact Nat.le_of_eq rfl) (hb hby at_266) (fun _ _ => ⟨rfl, E400, (Nat.le_of_ble_eq_true rfl), (Nat.le_of_ble_eq_true rfl)⟩)
            dsimp only [Pt.U, Pt.locs, Pt.cells, Pt.slots] at X403 l403 y403 z403 st403 hQ403
            subst l403 y403 z403
            obtain ⟨rfl, rfl, E403⟩ := hQ403
            refine own_to st403 ?_
            show own_Go p e below F (T403.setTop (mkF m 269 #[.val (.int a), .val (.int b), .val (.int c1), .val (.int d), .val (.int n), .val (.int y0), .val (.int y1), .val (.int y2), .val (.int y3), .val (.int ((4 : Int32))), .val (.ref a299), .val (.ref a319), .val (.ref y386), .val (.int ((2 : Int32)))] [(.int y1)]))
            refine own_iload X403.here hx (hb hby at_269) rfl (pc' := 271) rfl ?_
            refine own_icmpne X403.here hx (hb hby at_271) (by decide) (pc' := 312) (by decide) (pc2 := 274) rfl (fun q => absurd rfl q) (fun q404 => ?_)
            refine own_iload X403.here hx (hb hby at_274) rfl (pc' := 276) rfl ?_
            refine own_iconst X403.here hx (hb hby at_276) (v := 3) rfl (pc' := 277) rfl ?_
            refine own_icmplt X403.here hx (hb hby at_277) (by decide) (pc' := 291) (by decide) (pc2 := 280) rfl (fun q405 => ?_) (fun q => absurd (by decide) q)
            refine own_iload X403.here hx (hb hby at_291) rfl (pc' := 293) rfl ?_
            refine own_iconst X403.here hx (hb hby at_293) (v := 4) rfl (pc' := 294) rfl ?_
            refine own_icmplt X403.here hx (hb hby at_294) (by decide) (pc' := 308) (by decide) (pc2 := 297) rfl (fun q406 => ?_) (fun q => absurd (by decide) q)
            refine own_iconst X403.here hx (hb hby at_308) (v := 1) rfl (pc' := 309) rfl ?_
            refine own_goto X403.here hx (hb hby at_309) (by decide) (pc' := 313) (by decide) ?_
            exact own_retZW X403 hx hlk hEL J388 E403 (by decide) hret (hb hby at_313) (fun t ht hC hE => hF t _ _ _ _ (by rw [ht]; exact ⟨rfl, (by simpa using N389)⟩) hC hE (by decide) (by decide))
          refine own_icmpne X386.here hx (hb hby at_174) (by decide) (pc' := 180) (by decide) (pc2 := 177) rfl (fun q407 => ?_) (fun q407 => ?_)
          · exact J1_390 _
          · refine own_iconst X386.here hx (hb hby at_177) (v := 1) rfl (pc' := 178) rfl ?_
            refine own_istore X386.here hx (hb hby at_178) (L' := #[.val (.int a), .val (.int b), .val (.int c1), .val (.int d), .val (.int n), .val (.int y0), .val (.int y1), .val (.int y2), .val (.int y3), .val (.int ((4 : Int32))), .val (.ref a299), .val (.ref a319), .val (.ref y386), .val (.int ((1 : Int32)))]) rfl (pc' := 180) rfl ?_
            exact J1_390 _
        · by_cases h1 : y0 = 47
          · have S408 := S334
            obtain ⟨_, _, ⟨T409, L409, k409, n409⟩, -, X409, ⟨Lc409, hQ409, l409, y409, z409⟩, st409⟩ := Jvm.LawKit.callS X325 hx (y := (⟨"com/example/cartulary/cartulary/RegisterUris", "registerBase", "(Ljava/lang/String;)Ljava/lang/String;"⟩ : MethodName)) J332.2.1 (mvT J332.1 (hw _ (List.mem_of_getElem? (i := 27) rfl))) (mvT J332.1 (hw _ (List.mem_of_getElem? (i := 28) rfl))) (mvT J332.1 (hw _ (List.mem_of_getElem? (i := 29) rfl))) (mvT J332.1 (hw _ (List.mem_of_getElem? (i := 30) rfl))) (by decide) (backOf (W := 0) (rmRB2 l Z a0 hw a319 [y0, y1, y2, y3] 1 T325.heap (own_ext_trans EZ f326) z0 O1 P5 fm O2 rf S408 (by decide) (by decide) (Nat.le_of_ble_eq_true rfl) (by simp [own_li, h4, h3, h2, h1]; try decide)) J332.1 (hw _ (List.mem_of_getElem? (i := 30) rfl)) (hw _ (List.mem_of_getElem? (i := 29) rfl)) (by decide) (by decide)) (g := (mkF m 156 #[.val (.int a), .val (.int b), .val (.int c1), .val (.int d), .val (.int n), .val (.int y0), .val (.int y1), .val (.int y2), .val (.int y3), .val (.int ((4 : Int32))), .val (.ref a299), .val (.ref a319), .unset, .unset] [(.ref a319)])) rfl (by rw [hml]; rfl) (argsL := [(.ref a319)]) (rest := []) (lenOf pdRU rfl) rfl (by show 2 * 0 + _ ≤ _; exact Nat.le_of_eq rfl) (hb hby at_156) (fun _ _ => ⟨rfl, rfl, (Nat.le_of_ble_eq_true rfl), (Nat.le_of_ble_eq_true rfl)⟩)
            dsimp only [Pt.U, Pt.locs, Pt.cells, Pt.slots] at X409 l409 y409 z409 st409 hQ409
            subst l409 y409 z409
            obtain ⟨y409, rfl, S409, E409, N409⟩ := hQ409
            refine own_on (st409) ?_
            show own_Go p e below F (T409.setTop (mkF m 159 #[.val (.int a), .val (.int b), .val (.int c1), .val (.int d), .val (.int n), .val (.int y0), .val (.int y1), .val (.int y2), .val (.int y3), .val (.int ((4 : Int32))), .val (.ref a299), .val (.ref a319), .unset, .unset] [(.ref y409)]))
            have f410 := own_ext_trans f326 E409
            have J411 := J332.ext E409
            have N412 := Fr.app N333 N409
            refine own_astore X409.here hx (hb hby at_159) rfl (L' := #[.val (.int a), .val (.int b), .val (.int c1), .val (.int d), .val (.int n), .val (.int y0), .val (.int y1), .val (.int y2), .val (.int y3), .val (.int ((4 : Int32))), .val (.ref a299), .val (.ref a319), .val (.ref y409), .unset]) rfl (pc' := 161) rfl ?_
            refine own_iconst X409.here hx (hb hby at_161) (v := 0) rfl (pc' := 162) rfl ?_
            refine own_istore X409.here hx (hb hby at_162) (L' := #[.val (.int a), .val (.int b), .val (.int c1), .val (.int d), .val (.int n), .val (.int y0), .val (.int y1), .val (.int y2), .val (.int y3), .val (.int ((4 : Int32))), .val (.ref a299), .val (.ref a319), .val (.ref y409), .val (.int ((0 : Int32)))]) rfl (pc' := 164) rfl ?_
            refine own_iload X409.here hx (hb hby at_164) rfl (pc' := 166) rfl ?_
            refine own_iconst X409.here hx (hb hby at_166) (v := 1) rfl (pc' := 167) rfl ?_
            refine own_icmplt X409.here hx (hb hby at_167) (by decide) (pc' := 180) (by decide) (pc2 := 170) rfl (fun q => absurd q (by decide)) (fun q413 => ?_)
            refine own_iload X409.here hx (hb hby at_170) rfl (pc' := 172) rfl ?_
            refine own_bipush X409.here hx (hb hby at_172) (v := 47) rfl (pc' := 174) rfl ?_
            refine own_icmpne X409.here hx (hb hby at_174) (by decide) (pc' := 180) (by decide) (pc2 := 177) rfl (fun q => absurd h1 q) (fun q414 => ?_)
            refine own_iconst X409.here hx (hb hby at_177) (v := 1) rfl (pc' := 178) rfl ?_
            refine own_istore X409.here hx (hb hby at_178) (L' := #[.val (.int a), .val (.int b), .val (.int c1), .val (.int d), .val (.int n), .val (.int y0), .val (.int y1), .val (.int y2), .val (.int y3), .val (.int ((4 : Int32))), .val (.ref a299), .val (.ref a319), .val (.ref y409), .val (.int ((1 : Int32)))]) rfl (pc' := 180) rfl ?_
            refine own_iload X409.here hx (hb hby at_180) rfl (pc' := 182) rfl ?_
            refine own_iconst X409.here hx (hb hby at_182) (v := 2) rfl (pc' := 183) rfl ?_
            refine own_icmplt X409.here hx (hb hby at_183) (by decide) (pc' := 196) (by decide) (pc2 := 186) rfl (fun q => absurd q (by decide)) (fun q415 => ?_)
            refine own_iload X409.here hx (hb hby at_186) rfl (pc' := 188) rfl ?_
            refine own_bipush X409.here hx (hb hby at_188) (v := 47) rfl (pc' := 190) rfl ?_
            refine own_icmpne X409.here hx (hb hby at_190) (by decide) (pc' := 196) (by decide) (pc2 := 193) rfl (fun q416 => ?_) (fun q => absurd q h2)
            refine own_iload X409.here hx (hb hby at_196) rfl (pc' := 198) rfl ?_
            refine own_iconst X409.here hx (hb hby at_198) (v := 3) rfl (pc' := 199) rfl ?_
            refine own_icmplt X409.here hx (hb hby at_199) (by decide) (pc' := 212) (by decide) (pc2 := 202) rfl (fun q => absurd q (by decide)) (fun q417 => ?_)
            refine own_iload X409.here hx (hb hby at_202) rfl (pc' := 204) rfl ?_
            refine own_bipush X409.here hx (hb hby at_204) (v := 47) rfl (pc' := 206) rfl ?_
            refine own_icmpne X409.here hx (hb hby at_206) (by decide) (pc' := 212) (by decide) (pc2 := 209) rfl (fun q418 => ?_) (fun q => absurd q h3)
            refine own_iload X409.here hx (hb hby at_212) rfl (pc' := 214) rfl ?_
            refine own_iconst X409.here hx (hb hby at_214) (v := 4) rfl (pc' := 215) rfl ?_
            refine own_icmplt X409.here hx (hb hby at_215) (by decide) (pc' := 228) (by decide) (pc2 := 218) rfl (fun q => absurd q (by decide)) (fun q419 => ?_)
            refine own_iload X409.here hx (hb hby at_218) rfl (pc' := 220) rfl ?_
            refine own_bipush X409.here hx (hb hby at_220) (v := 47) rfl (pc' := 222) rfl ?_
            refine own_icmpne X409.here hx (hb hby at_222) (by decide) (pc' := 228) (by decide) (pc2 := 225) rfl (fun q420 => ?_) (fun q => absurd q h4)
            refine own_aload X409.here hx (hb hby at_228) rfl rfl (pc' := 230) rfl ?_
            obtain ⟨cq421, kq421, qa421, qb421, qc421⟩ := isOf J411.1 rfl S409.exa
            obtain ⟨_, _, ⟨T421, L421, k421, n421⟩, -, X421, ⟨Lc421, hQ421, l421, y421, z421⟩, st421⟩ := X409.virtualBack hx (y := (⟨"java/lang/String", "length", "()I"⟩ : MethodName)) (z := (⟨"java/lang/String", "length", "()I"⟩ : MethodName)) J411.2.1 (mvT J411.1 (hw _ (List.mem_of_getElem? (i := 81) rfl))) (mvT J411.1 (hw _ (List.mem_of_getElem? (i := 37) rfl))) (notFace_of_selects (args := #[]) (mvT J411.1 (hw _ (List.mem_of_getElem? (i := 39) rfl)))) (mvT J411.1 (hw _ (List.mem_of_getElem? (i := 39) rfl))) (mvT J411.1 (hw _ (List.mem_of_getElem? (i := 38) rfl))) (by decide) (own_lenB (s := s.setVm s.vm) (W := 0) J411.1 hw S409 (O1.ext (own_ext_trans EZ f410)) P5 (by decide) (by decide)) qa421 qc421 (g := (mkF m 230 #[.val (.int a), .val (.int b), .val (.int c1), .val (.int d), .val (.int n), .val (.int y0), .val (.int y1), .val (.int y2), .val (.int y3), .val (.int ((4 : Int32))), .val (.ref a299), .val (.ref a319), .val (.ref y409), .val (.int ((1 : Int32)))] [(.ref y409)])) rfl (by rw [hml]; rfl) (Steps.refl _) (argsL := []) (rest := []) (lenOf pdI rfl) rfl (by show 2 * 0 + _ ≤ _; exact Nat.le_of_eq rfl) (hb hby at_230) (fun _ _ => ⟨rfl, rfl, (Nat.le_of_ble_eq_true rfl), (Nat.le_of_ble_eq_true rfl)⟩)
            dsimp only [Pt.U, Pt.locs, Pt.cells, Pt.slots] at X421 l421 y421 z421 st421 hQ421
            subst l421 y421 z421
            obtain ⟨rfl, rfl, E421⟩ := hQ421
            refine own_to st421 ?_
            show own_Go p e below F (T421.setTop (mkF m 233 #[.val (.int a), .val (.int b), .val (.int c1), .val (.int d), .val (.int n), .val (.int y0), .val (.int y1), .val (.int y2), .val (.int y3), .val (.int ((4 : Int32))), .val (.ref a299), .val (.ref a319), .val (.ref y409), .val (.int ((1 : Int32)))] [(.int (Int32.ofNat 1))]))
            refine own_iload X421.here hx (hb hby at_233) rfl (pc' := 235) rfl ?_
            refine own_icmpeq X421.here hx (hb hby at_235) (by decide) (pc' := 240) (by decide) (pc2 := 238) rfl (fun q422 => ?_) (fun q => absurd rfl q)
            refine own_iload X421.here hx (hb hby at_240) rfl (pc' := 242) rfl ?_
            refine own_iconst X421.here hx (hb hby at_242) (v := 1) rfl (pc' := 243) rfl ?_
            refine own_icmplt X421.here hx (hb hby at_243) (by decide) (pc' := 257) (by decide) (pc2 := 246) rfl (fun q => absurd q (by decide)) (fun q423 => ?_)
            refine own_aload X421.here hx (hb hby at_246) rfl rfl (pc' := 248) rfl ?_
            refine own_iconst X421.here hx (hb hby at_248) (v := 0) rfl (pc' := 249) rfl ?_
            obtain ⟨cq424, kq424, qa424, qb424, qc424⟩ := isOf J411.1 E421 S409.exa
            obtain ⟨_, _, ⟨T424, L424, k424, n424⟩, -, X424, ⟨Lc424, hQ424, l424, y424, z424⟩, st424⟩ := X421.virtualBack hx (y := (⟨"java/lang/String", "charAt", "(I)C"⟩ : MethodName)) (z := (⟨"java/lang/String", "charAt", "(I)C"⟩ : MethodName)) J411.2.1 (mvT J411.1 (hw _ (List.mem_of_getElem? (i := 114) rfl))) (mvT J411.1 (hw _ (List.mem_of_getElem? (i := 115) rfl))) (notFace_of_selects (args := #[]) (mvT J411.1 (hw _ (List.mem_of_getElem? (i := 117) rfl)))) (mvT J411.1 (hw _ (List.mem_of_getElem? (i := 117) rfl))) (mvT J411.1 (hw _ (List.mem_of_getElem? (i := 116) rfl))) (by decide) (own_chB (s := s.setVm s.vm) (W := 0) J411.1 hw S409 (O1.ext (own_ext_trans EZ f410)) P5 (O2.ext (own_ext_trans EZ f410)) rf (i := 0) (Nat.le_of_ble_eq_true rfl) rfl (by decide) (by decide)) qa424 qc424 (g := (mkF m 249 #[.val (.int a), .val (.int b), .val (.int c1), .val (.int d), .val (.int n), .val (.int y0), .val (.int y1), .val (.int y2), .val (.int y3), .val (.int ((4 : Int32))), .val (.ref a299), .val (.ref a319), .val (.ref y409), .val (.int ((1 : Int32)))] [(.int ((0 : Int32))), (.ref y409)])) rfl (by rw [hml]; rfl) (Steps.refl _) (argsL := [(.int ((0 : Int32)))]) (rest := []) (lenOf pdCh rfl) rfl (by show 2 * 0 + _ ≤ _; exact Nat.le_of_eq rfl) (hb hby at_249) (fun _ _ => ⟨rfl, E421, (Nat.le_of_ble_eq_true rfl), (Nat.le_of_ble_eq_true rfl)⟩)
            dsimp only [Pt.U, Pt.locs, Pt.cells, Pt.slots] at X424 l424 y424 z424 st424 hQ424
            subst l424 y424 z424
            obtain ⟨rfl, rfl, E424⟩ := hQ424
            refine own_to st424 ?_
            show own_Go p e below F (T424.setTop (mkF m 252 #[.val (.int a), .val (.int b), .val (.int c1), .val (.int d), .val (.int n), .val (.int y0), .val (.int y1), .val (.int y2), .val (.int y3), .val (.int ((4 : Int32))), .val (.ref a299), .val (.ref a319), .val (.ref y409), .val (.int ((1 : Int32)))] [(.int y0)]))
            refine own_iload X424.here hx (hb hby at_252) rfl (pc' := 254) rfl ?_
            refine own_icmpne X424.here hx (hb hby at_254) (by decide) (pc' := 312) (by decide) (pc2 := 257) rfl (fun q => absurd rfl q) (fun q425 => ?_)
            refine own_iload X424.here hx (hb hby at_257) rfl (pc' := 259) rfl ?_
            refine own_iconst X424.here hx (hb hby at_259) (v := 2) rfl (pc' := 260) rfl ?_
            refine own_icmplt X424.here hx (hb hby at_260) (by decide) (pc' := 274) (by decide) (pc2 := 263) rfl (fun q426 => ?_) (fun q => absurd (by decide) q)
            refine own_iload X424.here hx (hb hby at_274) rfl (pc' := 276) rfl ?_
            refine own_iconst X424.here hx (hb hby at_276) (v := 3) rfl (pc' := 277) rfl ?_
            refine own_icmplt X424.here hx (hb hby at_277) (by decide) (pc' := 291) (by decide) (pc2 := 280) rfl (fun q427 => ?_) (fun q => absurd (by decide) q)
            refine own_iload X424.here hx (hb hby at_291) rfl (pc' := 293) rfl ?_
            refine own_iconst X424.here hx (hb hby at_293) (v := 4) rfl (pc' := 294) rfl ?_
            refine own_icmplt X424.here hx (hb hby at_294) (by decide) (pc' := 308) (by decide) (pc2 := 297) rfl (fun q428 => ?_) (fun q => absurd (by decide) q)
            refine own_iconst X424.here hx (hb hby at_308) (v := 1) rfl (pc' := 309) rfl ?_
            refine own_goto X424.here hx (hb hby at_309) (by decide) (pc' := 313) (by decide) ?_
            exact own_retZW X424 hx hlk hEL J411 E424 (by decide) hret (hb hby at_313) (fun t ht hC hE => hF t _ _ _ _ (by rw [ht]; exact ⟨rfl, (by simpa using N412)⟩) hC hE (by decide) (by decide))
          · have S429 := S334
            obtain ⟨_, _, ⟨T430, L430, k430, n430⟩, -, X430, hS430, hG430, ⟨Lc430, hQ430, l430, y430, z430, C430⟩, st430⟩ := callSS X325 hx (y := (⟨"com/example/cartulary/cartulary/RegisterUris", "registerBase", "(Ljava/lang/String;)Ljava/lang/String;"⟩ : MethodName)) J332.2.1 (mvT J332.1 (hw _ (List.mem_of_getElem? (i := 27) rfl))) (mvT J332.1 (hw _ (List.mem_of_getElem? (i := 28) rfl))) (mvT J332.1 (hw _ (List.mem_of_getElem? (i := 29) rfl))) (mvT J332.1 (hw _ (List.mem_of_getElem? (i := 30) rfl))) (by decide) (own_backW (W := 0) (rmRC l Z a0 hw hEL a319 [y0, y1, y2, y3] T325.heap (own_ext_trans EZ f326) z0 O1 P5 fm O2 rf S429 (Nat.le_of_ble_eq_true rfl) (by simp [own_li, h4, h3, h2, h1]; try decide)) J332.1 (hw _ (List.mem_of_getElem? (i := 30) rfl)) (hw _ (List.mem_of_getElem? (i := 29) rfl)) (by decide) (by decide) hEL J332.ch (fun _ q => nomatch q)) (g := (mkF m 156 #[.val (.int a), .val (.int b), .val (.int c1), .val (.int d), .val (.int n), .val (.int y0), .val (.int y1), .val (.int y2), .val (.int y3), .val (.int ((4 : Int32))), .val (.ref a299), .val (.ref a319), .unset, .unset] [(.ref a319)])) rfl (by rw [hml]; rfl) (argsL := [(.ref a319)]) (rest := []) (lenOf pdRU rfl) rfl (by show 2 * 0 + _ ≤ _; exact Nat.le_of_eq rfl) (hb hby at_156) (fun _ _ => ⟨rfl, rfl, (Nat.le_of_ble_eq_true rfl), (Nat.le_of_ble_eq_true rfl)⟩)
            dsimp only [Pt.U, Pt.locs, Pt.cells, Pt.slots] at X430 hS430 hG430 l430 y430 z430 C430 st430 hQ430
            subst l430 y430 z430
            replace X430 := (show Stand _ _ _ _ (s.setVm T430.vm) _ _ _ _ _ _ _ _ _ from X430)
            have I430 := J332.later hS430 (Nat.le_refl _) (by have q := hG430; rw [(rfl : _ = T325.heap)] at q; exact q) C430
            obtain ⟨y430, rfl, S430, E430, N430⟩ := hQ430
            refine own_to st430 ?_
            show own_Go p e below F (T430.setTop (mkF m 159 #[.val (.int a), .val (.int b), .val (.int c1), .val (.int d), .val (.int n), .val (.int y0), .val (.int y1), .val (.int y2), .val (.int y3), .val (.int ((4 : Int32))), .val (.ref a299), .val (.ref a319), .unset, .unset] [(.ref y430)]))
            have f431 := own_ext_trans f326 E430
            have N432 := Fr.app N333 N430
            refine own_astore X430.here hx (hb hby at_159) rfl (L' := #[.val (.int a), .val (.int b), .val (.int c1), .val (.int d), .val (.int n), .val (.int y0), .val (.int y1), .val (.int y2), .val (.int y3), .val (.int ((4 : Int32))), .val (.ref a299), .val (.ref a319), .val (.ref y430), .unset]) rfl (pc' := 161) rfl ?_
            refine own_iconst X430.here hx (hb hby at_161) (v := 0) rfl (pc' := 162) rfl ?_
            refine own_istore X430.here hx (hb hby at_162) (L' := #[.val (.int a), .val (.int b), .val (.int c1), .val (.int d), .val (.int n), .val (.int y0), .val (.int y1), .val (.int y2), .val (.int y3), .val (.int ((4 : Int32))), .val (.ref a299), .val (.ref a319), .val (.ref y430), .val (.int ((0 : Int32)))]) rfl (pc' := 164) rfl ?_
            refine own_iload X430.here hx (hb hby at_164) rfl (pc' := 166) rfl ?_
            refine own_iconst X430.here hx (hb hby at_166) (v := 1) rfl (pc' := 167) rfl ?_
            refine own_icmplt X430.here hx (hb hby at_167) (by decide) (pc' := 180) (by decide) (pc2 := 170) rfl (fun q => absurd q (by decide)) (fun q433 => ?_)
            refine own_iload X430.here hx (hb hby at_170) rfl (pc' := 172) rfl ?_
            refine own_bipush X430.here hx (hb hby at_172) (v := 47) rfl (pc' := 174) rfl ?_
            refine own_icmpne X430.here hx (hb hby at_174) (by decide) (pc' := 180) (by decide) (pc2 := 177) rfl (fun q434 => ?_) (fun q => absurd q h1)
            refine own_iload X430.here hx (hb hby at_180) rfl (pc' := 182) rfl ?_
            refine own_iconst X430.here hx (hb hby at_182) (v := 2) rfl (pc' := 183) rfl ?_
            refine own_icmplt X430.here hx (hb hby at_183) (by decide) (pc' := 196) (by decide) (pc2 := 186) rfl (fun q => absurd q (by decide)) (fun q435 => ?_)
            refine own_iload X430.here hx (hb hby at_186) rfl (pc' := 188) rfl ?_
            refine own_bipush X430.here hx (hb hby at_188) (v := 47) rfl (pc' := 190) rfl ?_
            refine own_icmpne X430.here hx (hb hby at_190) (by decide) (pc' := 196) (by decide) (pc2 := 193) rfl (fun q436 => ?_) (fun q => absurd q h2)
            refine own_iload X430.here hx (hb hby at_196) rfl (pc' := 198) rfl ?_
            refine own_iconst X430.here hx (hb hby at_198) (v := 3) rfl (pc' := 199) rfl ?_
            refine own_icmplt X430.here hx (hb hby at_199) (by decide) (pc' := 212) (by decide) (pc2 := 202) rfl (fun q => absurd q (by decide)) (fun q437 => ?_)
            refine own_iload X430.here hx (hb hby at_202) rfl (pc' := 204) rfl ?_
            refine own_bipush X430.here hx (hb hby at_204) (v := 47) rfl (pc' := 206) rfl ?_
            refine own_icmpne X430.here hx (hb hby at_206) (by decide) (pc' := 212) (by decide) (pc2 := 209) rfl (fun q438 => ?_) (fun q => absurd q h3)
            refine own_iload X430.here hx (hb hby at_212) rfl (pc' := 214) rfl ?_
            refine own_iconst X430.here hx (hb hby at_214) (v := 4) rfl (pc' := 215) rfl ?_
            refine own_icmplt X430.here hx (hb hby at_215) (by decide) (pc' := 228) (by decide) (pc2 := 218) rfl (fun q => absurd q (by decide)) (fun q439 => ?_)
            refine own_iload X430.here hx (hb hby at_218) rfl (pc' := 220) rfl ?_
            refine own_bipush X430.here hx (hb hby at_220) (v := 47) rfl (pc' := 222) rfl ?_
            refine own_icmpne X430.here hx (hb hby at_222) (by decide) (pc' := 228) (by decide) (pc2 := 225) rfl (fun q440 => ?_) (fun q => absurd q h4)
            refine own_aload X430.here hx (hb hby at_228) rfl rfl (pc' := 230) rfl ?_
            obtain ⟨cq441, kq441, qa441, qb441, qc441⟩ := isOf I430.1 rfl S430.exa
            obtain ⟨_, _, ⟨T441, L441, k441, n441⟩, -, X441, ⟨Lc441, hQ441, l441, y441, z441⟩, st441⟩ := X430.virtualBack hx (y := (⟨"java/lang/String", "length", "()I"⟩ : MethodName)) (z := (⟨"java/lang/String", "length", "()I"⟩ : MethodName)) I430.2.1 (mvT I430.1 (hw _ (List.mem_of_getElem? (i := 81) rfl))) (mvT I430.1 (hw _ (List.mem_of_getElem? (i := 37) rfl))) (notFace_of_selects (args := #[]) (mvT I430.1 (hw _ (List.mem_of_getElem? (i := 39) rfl)))) (mvT I430.1 (hw _ (List.mem_of_getElem? (i := 39) rfl))) (mvT I430.1 (hw _ (List.mem_of_getElem? (i := 38) rfl))) (by decide) (own_lenB (s := s.setVm T430.vm) (W := 0) I430.1 hw S430 (O1.ext (own_ext_trans EZ f431)) P5 (by decide) (by decide)) qa441 qc441 (g := (mkF m 230 #[.val (.int a), .val (.int b), .val (.int c1), .val (.int d), .val (.int n), .val (.int y0), .val (.int y1), .val (.int y2), .val (.int y3), .val (.int ((4 : Int32))), .val (.ref a299), .val (.ref a319), .val (.ref y430), .val (.int ((0 : Int32)))] [(.ref y430)])) rfl (by rw [hml]; rfl) (Steps.refl _) (argsL := []) (rest := []) (lenOf pdI rfl) rfl (by show 2 * 0 + _ ≤ _; exact Nat.le_of_eq rfl) (hb hby at_230) (fun _ _ => ⟨rfl, rfl, (Nat.le_of_ble_eq_true rfl), (Nat.le_of_ble_eq_true rfl)⟩)
            dsimp only [Pt.U, Pt.locs, Pt.cells, Pt.slots] at X441 l441 y441 z441 st441 hQ441
            subst l441 y441 z441
            obtain ⟨rfl, rfl, E441⟩ := hQ441
            refine own_to st441 ?_
            show own_Go p e below F (T441.setTop (mkF m 233 #[.val (.int a), .val (.int b), .val (.int c1), .val (.int d), .val (.int n), .val (.int y0), .val (.int y1), .val (.int y2), .val (.int y3), .val (.int ((4 : Int32))), .val (.ref a299), .val (.ref a319), .val (.ref y430), .val (.int ((0 : Int32)))] [(.int (Int32.ofNat 0))]))
            refine own_iload X441.here hx (hb hby at_233) rfl (pc' := 235) rfl ?_
            refine own_icmpeq X441.here hx (hb hby at_235) (by decide) (pc' := 240) (by decide) (pc2 := 238) rfl (fun q442 => ?_) (fun q => absurd rfl q)
            refine own_iload X441.here hx (hb hby at_240) rfl (pc' := 242) rfl ?_
            refine own_iconst X441.here hx (hb hby at_242) (v := 1) rfl (pc' := 243) rfl ?_
            refine own_icmplt X441.here hx (hb hby at_243) (by decide) (pc' := 257) (by decide) (pc2 := 246) rfl (fun q443 => ?_) (fun q => absurd (by decide) q)
            refine own_iload X441.here hx (hb hby at_257) rfl (pc' := 259) rfl ?_
            refine own_iconst X441.here hx (hb hby at_259) (v := 2) rfl (pc' := 260) rfl ?_
            refine own_icmplt X441.here hx (hb hby at_260) (by decide) (pc' := 274) (by decide) (pc2 := 263) rfl (fun q444 => ?_) (fun q => absurd (by decide) q)
            refine own_iload X441.here hx (hb hby at_274) rfl (pc' := 276) rfl ?_
            refine own_iconst X441.here hx (hb hby at_276) (v := 3) rfl (pc' := 277) rfl ?_
            refine own_icmplt X441.here hx (hb hby at_277) (by decide) (pc' := 291) (by decide) (pc2 := 280) rfl (fun q445 => ?_) (fun q => absurd (by decide) q)
            refine own_iload X441.here hx (hb hby at_291) rfl (pc' := 293) rfl ?_
            refine own_iconst X441.here hx (hb hby at_293) (v := 4) rfl (pc' := 294) rfl ?_
            refine own_icmplt X441.here hx (hb hby at_294) (by decide) (pc' := 308) (by decide) (pc2 := 297) rfl (fun q446 => ?_) (fun q => absurd (by decide) q)
            refine own_iconst X441.here hx (hb hby at_308) (v := 1) rfl (pc' := 309) rfl ?_
            refine own_goto X441.here hx (hb hby at_309) (by decide) (pc' := 313) (by decide) ?_
            exact own_retZW X441 hx hlk hEL I430 E441 (by decide) hret (hb hby at_313) (fun t ht hC hE => hF t _ _ _ _ (by rw [ht]; exact ⟨rfl, (by simpa using N432)⟩) hC hE (by decide) (by decide))
set_option maxRecDepth 65536 in
set_option maxHeartbeats 40000000 in
theorem comes_1 {Post : Tables → Env → Array Value → State → Outcome → State → Prop} (hpost : ∀ tb e args s v u, (limb_1_1.after args s (.returned v) u = true ∧ limb_1_2.after args s (.returned v) u = true ∧ True) → FramedW s (.returned v) u (Jvm.fieldLocs frame_1_writes args s ++ Jvm.arrayLocs frame_1_arrays args s ++ Jvm.staticLocs frame_1_statics s) 24 2176 → Post tb e args s (.returned v) u) :
    ArmFor flags0 classFile x code maxLocals ret World_1 tables_1 room_1 Calls_1 rest_1 Pre_1 Post := by
  intro l hfl _ _ p e ha hc hk s m args below hf hA hF happ hP
  obtain ⟨hcalls, hrest, hpre⟩ := hP
  obtain ⟨-, -, -, hnamed, -, -, -, hat⟩ := (Spec.applies_iff hf).mp happ
  obtain ⟨hg, hn⟩ := and_e (Cond.before_iff.mp (show (Jvm.Cond.and given_1 narrow_1).before args s = true from hpre))
  obtain ⟨g1, g2⟩ := and_e hg
  obtain ⟨w0, w1, w2, w3, w4, rfl⟩ : ∃ w0 w1 w2 w3 w4 : Value, args = #[w0, w1, w2, w3, w4] := by
    have hs : args.size = 5 := by simpa [Cond.value, given_1] using g1
    obtain ⟨L⟩ := args
    match L, hs with
    | [w0, w1, w2, w3, w4], _ => exact ⟨w0, w1, w2, w3, w4, rfl⟩
  have hw := fun d (hd : d ∈ tables_1) => atoms_spec (ws := Jvm.Cond.code x code maxLocals ret :: tables_1) hat d (List.mem_cons_of_mem _ hd)
  have hfit : Fit s := fun {y c} hc i hi => by
    obtain ⟨ha, rfl⟩ := Array.getElem?_eq_some_iff.mp hc
    have q := List.all_eq_true.mp ((Array.all_eq_true_iff_forall_mem.mp hF) _ (Array.getElem_mem ha)) i (List.mem_range.mpr hi)
    simpa [Array.getElem?_eq_getElem hi] using q
  obtain ⟨a0, g3⟩ := and_e g2
  obtain ⟨i0, b0⟩ := is_v a0
  obtain rfl : w0 = (.int i0) := Option.some.inj b0
  obtain ⟨a1, g4⟩ := and_e g3
  obtain ⟨i1, b1⟩ := is_v a1
  obtain rfl : w1 = (.int i1) := Option.some.inj b1
  obtain ⟨a2, g5⟩ := and_e g4
  obtain ⟨i2, b2⟩ := is_v a2
  obtain rfl : w2 = (.int i2) := Option.some.inj b2
  obtain ⟨a3, g6⟩ := and_e g5
  obtain ⟨i3, b3⟩ := is_v a3
  obtain rfl : w3 = (.int i3) := Option.some.inj b3
  obtain ⟨i4, b4⟩ := is_v g6
  obtain rfl : w4 = (.int i4) := Option.some.inj b4
  obtain ⟨hsets, -⟩ := atoms_of _ (rest_1_c_eq ▸ (show rest_1_c.before _ s = true from hrest))
  have hz0 := not_v (Cond.before_iff.mp (hsets _ (List.mem_of_getElem? (i := 2) rfl)))
  obtain ⟨z0, ez0⟩ := is_v (Cond.before_iff.mp (hsets _ (List.mem_of_getElem? (i := 1) rfl)))
  have O1 : Sta s s.heap "java/lang/String" "COMPACT_STRINGS" "Z" (.int z0) := Sta.start ez0 (Or.inl (hsets _ (List.mem_of_getElem? (i := 0) rfl)))
  obtain ⟨fm, efm, rf⟩ := isR_v (Cond.before_iff.mp (hsets _ (List.mem_of_getElem? (i := 8) rfl)))
  have O2 : Sta s s.heap "jdk/internal/util/Preconditions" "SIOOBE_FORMATTER" "Ljava/util/function/BiFunction;" fm := Sta.start efm (Or.inl (hsets _ (List.mem_of_getElem? (i := 7) rfl)))
  have P5 : ¬ (z0 = (0 : Int32)) := gotF (Cond.eq_ints ez0 (Term.int_eval (0))) hz0
  have hcw : Jvm.Lit.compactW.before _ s = true := hsets _ (List.mem_of_getElem? (i := 2) rfl)
  have hEL : EW s _ EL := EW.cons (hw _ (List.mem_of_getElem? (i := 19) rfl)) (by decide) (EW.cons (hw _ (List.mem_of_getElem? (i := 128) rfl)) (by decide) (EW.nil))
  have hC : CHv s EL s.vm s.heap := CHv.start hEL (fun q hq => by
    simp only [EL, List.mem_cons, List.not_mem_nil, or_false] at hq
    exact hcalls.1 q (by rcases hq with rfl | rfl <;> simp [consts_1])) hcw (hw _ (by decide +kernel)) (hw _ own_wiS)
  obtain ⟨n, o, h1, h2, h3, _, L, rfl, ⟨rfl, N⟩, -, hq⟩ := rmL l s _ hw hEL i0 i1 i2 i3 i4 s.heap (own_ext_refl _) z0 O1 P5 fm O2 rf p e ha hc hk s m _ below hf ((Spec.applies_iff_loose hf).mp happ).1 ⟨rfl, State.Warmed39.refl s, rfl, hC, fun _ q => nomatch q⟩ trivial
  refine ⟨n, _, h1, h2, h3, hpost _ _ _ _ _ _ ⟨Cond.after_iff.mpr rfl, Cond.after_iff.mpr (eq_i res_at (Term.int_eval (1)) rfl), trivial⟩ ⟨hq.1, hq.2.1, hq.2.2.1, hq.2.2.2.sift fun y hy => Or.inr (N y hy)⟩⟩
theorem main_1_1 : Claimed_1_1 := comes_1 fun _ _ _ _ _ _ h hF => ⟨h.1, hF⟩
theorem main_1_2 : Claimed_1_2 := comes_1 fun _ _ _ _ _ _ h hF => ⟨h.2.1, hF⟩
end Jvm.Pilot.@@N@@
namespace Jvm.Pilot.@@N@@
open Jvm Jvm.ClassFile Sem Op Lib Jvm.Free Jvm.Stand Jvm.Pilot.@@N@@.Jvm.D
/-! MADE BY PROGRAM (witnessworld.py) out of the Statement's table words and the real class files: 23 classes; the members and pool entries that the words name. The judged class is class 1, her method 2. -/
namespace start1
open Jvm.ClassFile
def u (s : String) : CpInfo := .utf8 (stringToUtf16 s)
/-- a pool by its gaps: so many unusable entries, then the entry; so many at the end -/
def gap : Nat → List CpInfo → List CpInfo
  | 0, r => r
  | n + 1, r => .unusable :: gap n r
def poolList (es : List (Nat × CpInfo)) (last : Nat) : List CpInfo := es.foldr (fun e r => gap e.1 (e.2 :: r)) (gap last [])
def pool (es : List (Nat × CpInfo)) (last : Nat) : Array CpInfo := ⟨poolList es last⟩
def fileOf (pool : Array CpInfo) (this : Nat) (attrs : Array Attribute := #[]) (ms : Array MethodInfo := #[]) (fl : Nat := 33) (sup : Nat := 0) (ifs : Array Nat := #[]) (fds : Array FieldInfo := #[]) : ClassFile where
  minorVersion := 0
  majorVersion := 65
  constantPool := pool
  accessFlags := fl
  thisClass := this
  superClass := sup
  interfaces := ifs
  fields := fds
  methods := ms
  attributes := attrs
def plain (name : String) (sup : Option ClassId) : Class where
  name := name
  kind := .ordinary
  loader := none
  accessFlags := 33
  super := sup
  interfaces := #[]
  cf := none
  fields := #[]
  methods := #[]
  instanceTypes := #[]
  staticTypes := #[]
  resolved := #[]
  callSites := []
  init := .initialized
  statics := none
  mirror := none

def pool0 : Array CpInfo := pool [(5, u "<init>"), (0, u "()V"), (1, .class_ 10), (1, u "java/lang/Object")] 113

def k0c0 : Code := { maxStack := 0, maxLocals := 1, code := object_method_1_code, exceptionTable := #[], attributes := #[] }
def k0m0 : Method := { name := "<init>", desc := "()V", sig := { parameters := [], returnType := none }, accessFlags := 1, code := some k0c0 }
/-- java/lang/Object -/
def k0 : Class := { plain "java/lang/Object" none with
  accessFlags := 33
  interfaces := #[]
  cf := some (fileOf pool0 8 #[] #[{ accessFlags := 1, nameIndex := 5, descriptorIndex := 6, attributes := #[] }] 33 0 #[] #[])
  fields := #[]
  methods := #[k0m0]
  instanceTypes := #[]
  staticTypes := #[]
  resolved := Array.replicate 124 none
  statics := none }

def pool1 : Array CpInfo := pool [(2, .class_ 4), (1, u "java/lang/Object"), (0, u "<init>"), (0, u "()V"), (0, .methodref 8 9), (0, .class_ 10), (0, .nameAndType 11 12), (0, u "com/example/cartulary/cartulary/RegisterUrisRegisterBasePinLaw"), (0, u "ch"), (0, u "(I)C"), (0, .integer 2147483647), (0, .class_ 15), (0, u "java/lang/String"), (0, .methodref 14 17), (0, .nameAndType 5 18), (0, u "([C)V"), (0, .methodref 20 21), (0, .class_ 22), (0, .nameAndType 23 24), (0, u "com/example/cartulary/cartulary/RegisterUris"), (0, u "registerBase"), (0, u "(Ljava/lang/String;)Ljava/lang/String;"), (0, .methodref 14 26), (0, .nameAndType 27 28), (0, u "length"), (0, u "()I"), (0, .methodref 14 30), (0, .nameAndType 31 12), (0, u "charAt"), (3, u "law"), (0, u "(IIIII)Z")] 4

def k1m0 : Method := { name := "<init>", desc := "()V", sig := { parameters := [], returnType := none }, accessFlags := 2, code := none }
def k1c1 : Code := { maxStack := 2, maxLocals := 1, code := method_2_code, exceptionTable := #[], attributes := #[] }
def k1m1 : Method := { name := "ch", desc := "(I)C", sig := { parameters := [.int], returnType := some .char }, accessFlags := 10, code := some k1c1 }
def k1c2 : Code := { maxStack := 4, maxLocals := 14, code := code, exceptionTable := #[], attributes := #[] }
def k1m2 : Method := { name := "law", desc := "(IIIII)Z", sig := { parameters := [.int, .int, .int, .int, .int], returnType := some .boolean }, accessFlags := 9, code := some k1c2 }
/-- com/example/cartulary/cartulary/RegisterUrisRegisterBasePinLaw -/
def k1 : Class := { plain "com/example/cartulary/cartulary/RegisterUrisRegisterBasePinLaw" (some 0) with
  accessFlags := 49
  interfaces := #[]
  cf := some (fileOf pool1 8 #[] #[{ accessFlags := 2, nameIndex := 5, descriptorIndex := 6, attributes := #[] }, { accessFlags := 10, nameIndex := 11, descriptorIndex := 12, attributes := #[] }, { accessFlags := 9, nameIndex := 35, descriptorIndex := 36, attributes := #[] }] 49 2 #[] #[])
  fields := #[]
  methods := #[k1m0, k1m1, k1m2]
  instanceTypes := #[]
  staticTypes := #[]
  resolved := Array.replicate 41 none
  statics := none }

def pool2 : Array CpInfo := pool [(1, .class_ 2), (0, u "java/io/Serializable"), (0, .class_ 4), (0, u "java/lang/Object")] 2

/-- java/io/Serializable -/
def k2 : Class := { plain "java/io/Serializable" (some 0) with
  accessFlags := 1537
  interfaces := #[]
  cf := some (fileOf pool2 1 #[] #[] 1537 3 #[] #[])
  fields := #[]
  methods := #[]
  instanceTypes := #[]
  staticTypes := #[]
  resolved := Array.replicate 7 none
  statics := none }

def pool3 : Array CpInfo := pool [(1, .class_ 2), (0, u "java/lang/Comparable"), (0, .class_ 4), (0, u "java/lang/Object")] 7

/-- java/lang/Comparable -/
def k3 : Class := { plain "java/lang/Comparable" (some 0) with
  accessFlags := 1537
  interfaces := #[]
  cf := some (fileOf pool3 1 #[] #[] 1537 3 #[] #[])
  fields := #[]
  methods := #[]
  instanceTypes := #[]
  staticTypes := #[]
  resolved := Array.replicate 12 none
  statics := none }

def pool4 : Array CpInfo := pool [(2, .class_ 4), (1, u "java/lang/CharSequence"), (42, .class_ 48), (0, u "java/lang/CharSequence$1CodePointIterator"), (10, .class_ 60), (0, u "java/lang/CharSequence$1CharIterator"), (5, .class_ 67), (0, u "java/lang/Object")] 63

/-- java/lang/CharSequence -/
def k4 : Class := { plain "java/lang/CharSequence" (some 0) with
  accessFlags := 1537
  interfaces := #[]
  cf := some (fileOf pool4 2 #[.nestMembers #[47, 59]] #[] 1537 66 #[] #[])
  fields := #[]
  methods := #[]
  instanceTypes := #[]
  staticTypes := #[]
  resolved := Array.replicate 131 none
  statics := none }

def pool5 : Array CpInfo := pool [(1, .class_ 2), (0, u "java/lang/constant/Constable"), (0, .class_ 4), (0, u "java/lang/Object")] 6

/-- java/lang/constant/Constable -/
def k5 : Class := { plain "java/lang/constant/Constable" (some 0) with
  accessFlags := 1537
  interfaces := #[]
  cf := some (fileOf pool5 1 #[] #[] 1537 3 #[] #[])
  fields := #[]
  methods := #[]
  instanceTypes := #[]
  staticTypes := #[]
  resolved := Array.replicate 11 none
  statics := none }

def pool6 : Array CpInfo := pool [(1, .class_ 2), (0, u "java/lang/constant/ConstantDesc"), (0, .class_ 4), (0, u "java/lang/Object")] 32

/-- java/lang/constant/ConstantDesc -/
def k6 : Class := { plain "java/lang/constant/ConstantDesc" (some 0) with
  accessFlags := 1537
  interfaces := #[]
  cf := some (fileOf pool6 1 #[] #[] 1537 3 #[] #[])
  fields := #[]
  methods := #[]
  instanceTypes := #[]
  staticTypes := #[]
  resolved := Array.replicate 37 none
  statics := none }

def pool7 : Array CpInfo := pool [(1, .methodref 2 3), (0, .class_ 4), (0, .nameAndType 5 6), (0, u "java/lang/Object"), (0, u "<init>"), (0, u "()V"), (0, .string 8), (0, u ""), (0, .fieldref 10 11), (0, .class_ 12), (0, .nameAndType 13 14), (0, u "java/lang/String"), (0, u "value"), (0, u "[B"), (0, .fieldref 10 16), (0, .nameAndType 17 18), (0, u "coder"), (0, u "B"), (2, u "hash"), (0, u "I"), (2, u "hashIsZero"), (0, u "Z"), (0, .methodref 10 28), (0, .nameAndType 5 29), (0, u "([CIILjava/lang/Void;)V"), (8, .fieldref 10 39), (0, .nameAndType 40 26), (0, u "COMPACT_STRINGS"), (1, .class_ 44), (1, u "java/lang/StringUTF16"), (0, u "compress"), (1, .methodref 42 48), (0, .nameAndType 49 50), (0, u "coderFromArrayLen"), (0, u "([BI)B"), (46, u "([BII)I"), (9, .class_ 109), (1, u "java/lang/StringLatin1"), (32, u "()Z"), (34, .methodref 42 178), (0, .nameAndType 45 179), (0, u "([CII)[B"), (31, u "([BB)V"), (122, u "()I"), (0, .methodref 10 336), (0, .nameAndType 17 337), (0, u "()B"), (25, u "([BI)C"), (27, u "(II)V"), (35, u "(I)C"), (64, .methodref 10 493), (0, .nameAndType 494 142), (0, u "isLatin1"), (0, .methodref 107 496), (0, .nameAndType 497 363), (0, u "charAt"), (3, u "checkIndex"), (3, .methodref 10 506), (0, .nameAndType 507 334), (0, u "length"), (5, u "checkFromToIndex"), (7, .methodref 10 522), (0, .nameAndType 523 524), (0, u "checkBoundsBeginEnd"), (0, u "(III)V"), (50, .class_ 576), (0, u "java/lang/CharSequence"), (22, u "CASE_INSENSITIVE_ORDER"), (0, u "Ljava/util/Comparator;"), (35, u "(II)I"), (4, .methodref 10 642), (0, .nameAndType 643 636), (0, u "lastIndexOf"), (0, .methodref 107 645), (0, .nameAndType 643 97), (37, u "substring"), (0, u "(II)Ljava/lang/String;"), (0, .methodref 107 686), (0, .nameAndType 687 688), (0, u "newString"), (0, u "([BII)Ljava/lang/String;"), (76, u "(I)I"), (244, u "([C)V"), (42, .fieldref 1054 1055), (0, .class_ 1056), (0, .nameAndType 1057 1058), (0, u "jdk/internal/util/Preconditions"), (0, u "SIOOBE_FORMATTER"), (0, u "Ljava/util/function/BiFunction;"), (0, .methodref 1054 1060), (0, .nameAndType 501 1061), (0, u "(IILjava/util/function/BiFunction;)I"), (0, .methodref 1054 1063), (0, .nameAndType 513 1064), (0, u "(IIILjava/util/function/BiFunction;)I"), (36, u "serialPersistentFields"), (0, u "[Ljava/io/ObjectStreamField;"), (0, .class_ 1104), (0, u "java/lang/String$CaseInsensitiveComparator"), (1, .class_ 1107), (0, u "java/io/Serializable"), (0, .class_ 1109), (0, u "java/lang/Comparable"), (0, .class_ 1111), (0, u "java/lang/constant/Constable"), (0, .class_ 1113), (0, u "java/lang/constant/ConstantDesc"), (2, u "serialVersionUID"), (0, u "J"), (3, u "REPL"), (0, u "C"), (2, u "LATIN1"), (1, u "UTF16")] 323

def k7m0 : Method := { name := "<init>", desc := "()V", sig := { parameters := [], returnType := none }, accessFlags := 1, code := none }
def k7c1 : Code := { maxStack := 5, maxLocals := 2, code := jdk_42_method_3_code, exceptionTable := #[], attributes := #[] }
def k7m1 : Method := { name := "<init>", desc := "([C)V", sig := { parameters := [(.array .char)], returnType := none }, accessFlags := 1, code := some k7c1 }
def k7c2 : Code := { maxStack := 2, maxLocals := 1, code := jdk_42_method_54_code, exceptionTable := #[], attributes := #[] }
def k7m2 : Method := { name := "length", desc := "()I", sig := { parameters := [], returnType := some .int }, accessFlags := 1, code := some k7c2 }
def k7c3 : Code := { maxStack := 2, maxLocals := 2, code := jdk_42_method_56_code, exceptionTable := #[], attributes := #[] }
def k7m3 : Method := { name := "charAt", desc := "(I)C", sig := { parameters := [.int], returnType := some .char }, accessFlags := 1, code := some k7c3 }
def k7c4 : Code := { maxStack := 4, maxLocals := 2, code := jdk_42_method_82_code, exceptionTable := #[], attributes := #[] }
def k7m4 : Method := { name := "lastIndexOf", desc := "(I)I", sig := { parameters := [.int], returnType := some .int }, accessFlags := 1, code := some k7c4 }
def k7c5 : Code := { maxStack := 3, maxLocals := 3, code := jdk_42_method_83_code, exceptionTable := #[], attributes := #[] }
def k7m5 : Method := { name := "lastIndexOf", desc := "(II)I", sig := { parameters := [.int, .int], returnType := some .int }, accessFlags := 1, code := some k7c5 }
def k7c6 : Code := { maxStack := 3, maxLocals := 5, code := jdk_42_method_92_code, exceptionTable := #[], attributes := #[] }
def k7m6 : Method := { name := "substring", desc := "(II)Ljava/lang/String;", sig := { parameters := [.int, .int], returnType := some (.object "java/lang/String") }, accessFlags := 1, code := some k7c6 }
def k7c7 : Code := { maxStack := 4, maxLocals := 6, code := jdk_42_method_149_code, exceptionTable := #[], attributes := #[] }
def k7m7 : Method := { name := "<init>", desc := "([CIILjava/lang/Void;)V", sig := { parameters := [(.array .char), .int, .int, (.object "java/lang/Void")], returnType := none }, accessFlags := 2, code := some k7c7 }
def k7c8 : Code := { maxStack := 2, maxLocals := 3, code := jdk_42_method_151_code, exceptionTable := #[], attributes := #[] }
def k7m8 : Method := { name := "<init>", desc := "([BB)V", sig := { parameters := [(.array .byte), .byte], returnType := none }, accessFlags := 0, code := some k7c8 }
def k7c9 : Code := { maxStack := 1, maxLocals := 1, code := jdk_42_method_152_code, exceptionTable := #[], attributes := #[] }
def k7m9 : Method := { name := "coder", desc := "()B", sig := { parameters := [], returnType := some .byte }, accessFlags := 0, code := some k7c9 }
def k7c10 : Code := { maxStack := 1, maxLocals := 1, code := jdk_42_method_154_code, exceptionTable := #[], attributes := #[] }
def k7m10 : Method := { name := "isLatin1", desc := "()Z", sig := { parameters := [], returnType := some .boolean }, accessFlags := 0, code := some k7c10 }
def k7c11 : Code := { maxStack := 3, maxLocals := 2, code := jdk_42_method_155_code, exceptionTable := #[], attributes := #[] }
def k7m11 : Method := { name := "checkIndex", desc := "(II)V", sig := { parameters := [.int, .int], returnType := none }, accessFlags := 8, code := some k7c11 }
def k7c12 : Code := { maxStack := 4, maxLocals := 3, code := jdk_42_method_158_code, exceptionTable := #[], attributes := #[] }
def k7m12 : Method := { name := "checkBoundsBeginEnd", desc := "(III)V", sig := { parameters := [.int, .int, .int], returnType := none }, accessFlags := 8, code := some k7c12 }
/-- java/lang/String -/
def k7 : Class := { plain "java/lang/String" (some 0) with
  accessFlags := 49
  interfaces := #[2, 3, 4, 5, 6]
  cf := some (fileOf pool7 10 #[.nestMembers #[1103]] #[{ accessFlags := 1, nameIndex := 5, descriptorIndex := 6, attributes := #[] }, { accessFlags := 1, nameIndex := 5, descriptorIndex := 1010, attributes := #[] }, { accessFlags := 1, nameIndex := 507, descriptorIndex := 334, attributes := #[] }, { accessFlags := 1, nameIndex := 497, descriptorIndex := 427, attributes := #[] }, { accessFlags := 1, nameIndex := 643, descriptorIndex := 765, attributes := #[] }, { accessFlags := 1, nameIndex := 643, descriptorIndex := 636, attributes := #[] }, { accessFlags := 1, nameIndex := 683, descriptorIndex := 684, attributes := #[] }, { accessFlags := 2, nameIndex := 5, descriptorIndex := 29, attributes := #[] }, { accessFlags := 0, nameIndex := 5, descriptorIndex := 211, attributes := #[] }, { accessFlags := 0, nameIndex := 17, descriptorIndex := 337, attributes := #[] }, { accessFlags := 0, nameIndex := 494, descriptorIndex := 142, attributes := #[] }, { accessFlags := 8, nameIndex := 501, descriptorIndex := 391, attributes := #[] }, { accessFlags := 8, nameIndex := 523, descriptorIndex := 524, attributes := #[] }] 49 2 #[1106, 1108, 575, 1110, 1112] #[{ accessFlags := 18, nameIndex := 13, descriptorIndex := 14, attributes := #[] }, { accessFlags := 18, nameIndex := 17, descriptorIndex := 18, attributes := #[] }, { accessFlags := 2, nameIndex := 21, descriptorIndex := 22, attributes := #[] }, { accessFlags := 2, nameIndex := 25, descriptorIndex := 26, attributes := #[] }, { accessFlags := 26, nameIndex := 1116, descriptorIndex := 1117, attributes := #[] }, { accessFlags := 24, nameIndex := 40, descriptorIndex := 26, attributes := #[] }, { accessFlags := 26, nameIndex := 1101, descriptorIndex := 1102, attributes := #[] }, { accessFlags := 26, nameIndex := 1121, descriptorIndex := 1122, attributes := #[] }, { accessFlags := 25, nameIndex := 599, descriptorIndex := 600, attributes := #[] }, { accessFlags := 24, nameIndex := 1125, descriptorIndex := 18, attributes := #[] }, { accessFlags := 24, nameIndex := 1127, descriptorIndex := 18, attributes := #[] }])
  fields := #[{ name := "value", type := (.array .byte), accessFlags := 18, slot := 0, constantValue := 0 }, { name := "coder", type := .byte, accessFlags := 18, slot := 1, constantValue := 0 }, { name := "hash", type := .int, accessFlags := 2, slot := 2, constantValue := 0 }, { name := "hashIsZero", type := .boolean, accessFlags := 2, slot := 3, constantValue := 0 }, { name := "serialVersionUID", type := .long, accessFlags := 26, slot := 0, constantValue := 0 }, { name := "COMPACT_STRINGS", type := .boolean, accessFlags := 24, slot := 1, constantValue := 0 }, { name := "serialPersistentFields", type := (.array (.object "java/io/ObjectStreamField")), accessFlags := 26, slot := 2, constantValue := 0 }, { name := "REPL", type := .char, accessFlags := 26, slot := 3, constantValue := 0 }, { name := "CASE_INSENSITIVE_ORDER", type := (.object "java/util/Comparator"), accessFlags := 25, slot := 4, constantValue := 0 }, { name := "LATIN1", type := .byte, accessFlags := 24, slot := 5, constantValue := 0 }, { name := "UTF16", type := .byte, accessFlags := 24, slot := 6, constantValue := 0 }]
  methods := #[k7m0, k7m1, k7m2, k7m3, k7m4, k7m5, k7m6, k7m7, k7m8, k7m9, k7m10, k7m11, k7m12]
  instanceTypes := #[(.array .byte), .byte, .int, .boolean]
  staticTypes := #[.long, .boolean, (.array (.object "java/io/ObjectStreamField")), .char, (.object "java/util/Comparator"), .byte, .byte]
  resolved := Array.replicate 1451 none
  statics := some 0 }

def pool8 : Array CpInfo := pool [(2, .class_ 4), (1, u "java/lang/Object"), (0, u "<init>"), (0, u "()V"), (3, .class_ 12), (1, u "java/lang/String"), (5, u "(Ljava/lang/String;)Ljava/lang/String;"), (13, u "substring"), (1, .methodref 10 35), (0, .nameAndType 36 37), (0, u "lastIndexOf"), (0, u "(I)I"), (0, .methodref 10 39), (0, .nameAndType 32 40), (0, u "(II)Ljava/lang/String;"), (1, .class_ 44), (1, u "com/example/cartulary/cartulary/RegisterUris"), (13, u "registerBase")] 26

def k8m0 : Method := { name := "<init>", desc := "()V", sig := { parameters := [], returnType := none }, accessFlags := 2, code := none }
def k8c1 : Code := { maxStack := 4, maxLocals := 1, code := prog_2_method_4_code, exceptionTable := #[], attributes := #[] }
def k8m1 : Method := { name := "registerBase", desc := "(Ljava/lang/String;)Ljava/lang/String;", sig := { parameters := [(.object "java/lang/String")], returnType := some (.object "java/lang/String") }, accessFlags := 8, code := some k8c1 }
/-- com/example/cartulary/cartulary/RegisterUris -/
def k8 : Class := { plain "com/example/cartulary/cartulary/RegisterUris" (some 0) with
  accessFlags := 48
  interfaces := #[]
  cf := some (fileOf pool8 42 #[] #[{ accessFlags := 2, nameIndex := 5, descriptorIndex := 6, attributes := #[] }, { accessFlags := 8, nameIndex := 58, descriptorIndex := 18, attributes := #[] }] 48 2 #[] #[])
  fields := #[]
  methods := #[k8m0, k8m1]
  instanceTypes := #[]
  staticTypes := #[]
  resolved := Array.replicate 85 none
  statics := none }

def pool9 : Array CpInfo := pool [(1, .class_ 2), (0, u "java/lang/String"), (1, .class_ 6), (1, u "java/lang/Object"), (0, u "<init>"), (0, u "()V"), (0, .methodref 1 10), (0, .nameAndType 11 12), (0, u "checkIndex"), (0, u "(II)V"), (1, .class_ 16), (1, u "java/lang/StringLatin1"), (21, .methodref 39 40), (0, .class_ 41), (0, .nameAndType 42 43), (0, u "java/lang/Math"), (0, u "min"), (0, u "(II)I"), (9, u "([BI)C"), (34, .methodref 14 89), (0, .nameAndType 90 91), (0, u "canEncode"), (0, u "(I)Z"), (20, .methodref 1 113), (0, .nameAndType 7 114), (0, u "([BB)V"), (6, u "$assertionsDisabled"), (0, u "Z"), (8, .class_ 133), (1, u "java/util/Arrays"), (17, .string 152), (0, u ""), (43, u "newString"), (0, u "([BII)Ljava/lang/String;"), (23, .class_ 223), (1, u "java/lang/StringLatin1$LinesSpliterator"), (8, .methodref 131 233), (0, .nameAndType 234 235), (0, u "copyOfRange"), (0, u "([BII)[B"), (16, u "charAt"), (8, u "([BII)I"), (47, u "lastIndexOf"), (80, .class_ 391), (0, u "java/lang/StringLatin1$CharsSpliterator")] 3

def k9m0 : Method := { name := "<init>", desc := "()V", sig := { parameters := [], returnType := none }, accessFlags := 0, code := none }
def k9c1 : Code := { maxStack := 2, maxLocals := 2, code := jdk_43_method_2_code, exceptionTable := #[], attributes := #[] }
def k9m1 : Method := { name := "charAt", desc := "([BI)C", sig := { parameters := [(.array .byte), .int], returnType := some .char }, accessFlags := 9, code := some k9c1 }
def k9c2 : Code := { maxStack := 2, maxLocals := 1, code := jdk_43_method_4_code, exceptionTable := #[], attributes := #[] }
def k9m2 : Method := { name := "canEncode", desc := "(I)Z", sig := { parameters := [.int], returnType := some .boolean }, accessFlags := 9, code := some k9c2 }
def k9c3 : Code := { maxStack := 3, maxLocals := 4, code := jdk_43_method_27_code, exceptionTable := #[], attributes := #[] }
def k9m3 : Method := { name := "lastIndexOf", desc := "([BII)I", sig := { parameters := [(.array .byte), .int, .int], returnType := some .int }, accessFlags := 9, code := some k9c3 }
def k9c4 : Code := { maxStack := 6, maxLocals := 3, code := jdk_43_method_47_code, exceptionTable := #[], attributes := #[] }
def k9m4 : Method := { name := "newString", desc := "([BII)Ljava/lang/String;", sig := { parameters := [(.array .byte), .int, .int], returnType := some (.object "java/lang/String") }, accessFlags := 9, code := some k9c4 }
/-- java/lang/StringLatin1 -/
def k9 : Class := { plain "java/lang/StringLatin1" (some 0) with
  accessFlags := 48
  interfaces := #[]
  cf := some (fileOf pool9 14 #[.nestMembers #[390, 221]] #[{ accessFlags := 0, nameIndex := 7, descriptorIndex := 8, attributes := #[] }, { accessFlags := 9, nameIndex := 252, descriptorIndex := 53, attributes := #[] }, { accessFlags := 9, nameIndex := 90, descriptorIndex := 91, attributes := #[] }, { accessFlags := 9, nameIndex := 309, descriptorIndex := 261, attributes := #[] }, { accessFlags := 9, nameIndex := 196, descriptorIndex := 197, attributes := #[] }] 48 4 #[] #[{ accessFlags := 4120, nameIndex := 121, descriptorIndex := 122, attributes := #[] }])
  fields := #[{ name := "$assertionsDisabled", type := .boolean, accessFlags := 4120, slot := 0, constantValue := 0 }]
  methods := #[k9m0, k9m1, k9m2, k9m3, k9m4]
  instanceTypes := #[]
  staticTypes := #[.boolean]
  resolved := Array.replicate 395 none
  statics := none }

def pool10 : Array CpInfo := pool [(1, .class_ 2), (0, u "java/lang/Math"), (1, .class_ 6), (1, u "java/lang/Object"), (0, u "<init>"), (0, u "()V"), (89, .class_ 100), (1, u "java/lang/Math$RandomNumberGeneratorHolder"), (71, u "negativeZeroFloatBits"), (0, u "J"), (2, u "negativeZeroDoubleBits"), (24, u "min"), (43, u "$assertionsDisabled"), (0, u "Z"), (88, u "(II)I"), (2, u "twoToTheDoubleScaleDown"), (0, u "D"), (4, u "twoToTheDoubleScaleUp"), (9, u "E"), (3, u "PI"), (2, u "TAU"), (2, u "DEGREES_TO_RADIANS"), (0, u "RADIANS_TO_DEGREES")] 94

def k10m0 : Method := { name := "<init>", desc := "()V", sig := { parameters := [], returnType := none }, accessFlags := 2, code := none }
def k10c1 : Code := { maxStack := 2, maxLocals := 2, code := jdk_29_method_69_code, exceptionTable := #[], attributes := #[] }
def k10m1 : Method := { name := "min", desc := "(II)I", sig := { parameters := [.int, .int], returnType := some .int }, accessFlags := 9, code := some k10c1 }
/-- java/lang/Math -/
def k10 : Class := { plain "java/lang/Math" (some 0) with
  accessFlags := 49
  interfaces := #[]
  cf := some (fileOf pool10 1 #[.nestMembers #[98]] #[{ accessFlags := 2, nameIndex := 7, descriptorIndex := 8, attributes := #[] }, { accessFlags := 9, nameIndex := 201, descriptorIndex := 335, attributes := #[] }] 49 4 #[] #[{ accessFlags := 25, nameIndex := 354, descriptorIndex := 339, attributes := #[] }, { accessFlags := 25, nameIndex := 358, descriptorIndex := 339, attributes := #[] }, { accessFlags := 25, nameIndex := 361, descriptorIndex := 339, attributes := #[] }, { accessFlags := 26, nameIndex := 364, descriptorIndex := 339, attributes := #[] }, { accessFlags := 26, nameIndex := 365, descriptorIndex := 339, attributes := #[] }, { accessFlags := 26, nameIndex := 172, descriptorIndex := 173, attributes := #[] }, { accessFlags := 26, nameIndex := 176, descriptorIndex := 173, attributes := #[] }, { accessFlags := 8, nameIndex := 344, descriptorIndex := 339, attributes := #[] }, { accessFlags := 8, nameIndex := 338, descriptorIndex := 339, attributes := #[] }, { accessFlags := 4120, nameIndex := 245, descriptorIndex := 246, attributes := #[] }])
  fields := #[{ name := "E", type := .double, accessFlags := 25, slot := 0, constantValue := 0 }, { name := "PI", type := .double, accessFlags := 25, slot := 1, constantValue := 0 }, { name := "TAU", type := .double, accessFlags := 25, slot := 2, constantValue := 0 }, { name := "DEGREES_TO_RADIANS", type := .double, accessFlags := 26, slot := 3, constantValue := 0 }, { name := "RADIANS_TO_DEGREES", type := .double, accessFlags := 26, slot := 4, constantValue := 0 }, { name := "negativeZeroFloatBits", type := .long, accessFlags := 26, slot := 5, constantValue := 0 }, { name := "negativeZeroDoubleBits", type := .long, accessFlags := 26, slot := 6, constantValue := 0 }, { name := "twoToTheDoubleScaleUp", type := .double, accessFlags := 8, slot := 7, constantValue := 0 }, { name := "twoToTheDoubleScaleDown", type := .double, accessFlags := 8, slot := 8, constantValue := 0 }, { name := "$assertionsDisabled", type := .boolean, accessFlags := 4120, slot := 9, constantValue := 0 }]
  methods := #[k10m0, k10m1]
  instanceTypes := #[]
  staticTypes := #[.double, .double, .double, .double, .double, .long, .long, .double, .double, .boolean]
  resolved := Array.replicate 460 none
  statics := none }

def pool11 : Array CpInfo := pool [(2, .class_ 4), (1, u "java/lang/Object"), (0, u "<init>"), (0, u "()V"), (17, .class_ 26), (1, u "jdk/internal/util/Preconditions"), (6, u "checkIndex"), (13, u "checkFromToIndex"), (7, .class_ 56), (0, u "jdk/internal/util/Preconditions$4"), (57, .class_ 115), (0, u "jdk/internal/util/Preconditions$1"), (7, u "SIOOBE_FORMATTER"), (0, u "Ljava/util/function/BiFunction;"), (0, .class_ 126), (0, u "jdk/internal/util/Preconditions$2"), (3, u "AIOOBE_FORMATTER"), (0, .class_ 132), (0, u "jdk/internal/util/Preconditions$3"), (3, u "IOOBE_FORMATTER"), (41, u "(IILjava/util/function/BiFunction;)I"), (4, u "(IIILjava/util/function/BiFunction;)I")] 10

def k11m0 : Method := { name := "<init>", desc := "()V", sig := { parameters := [], returnType := none }, accessFlags := 1, code := none }
def k11c1 : Code := { maxStack := 3, maxLocals := 3, code := jdk_41_method_11_code, exceptionTable := #[], attributes := #[] }
def k11m1 : Method := { name := "checkIndex", desc := "(IILjava/util/function/BiFunction;)I", sig := { parameters := [.int, .int, (.object "java/util/function/BiFunction")], returnType := some .int }, accessFlags := 9, code := some k11c1 }
def k11c2 : Code := { maxStack := 4, maxLocals := 4, code := jdk_41_method_12_code, exceptionTable := #[], attributes := #[] }
def k11m2 : Method := { name := "checkFromToIndex", desc := "(IIILjava/util/function/BiFunction;)I", sig := { parameters := [.int, .int, .int, (.object "java/util/function/BiFunction")], returnType := some .int }, accessFlags := 9, code := some k11c2 }
/-- jdk/internal/util/Preconditions -/
def k11 : Class := { plain "jdk/internal/util/Preconditions" (some 0) with
  accessFlags := 33
  interfaces := #[]
  cf := some (fileOf pool11 24 #[.nestMembers #[55, 131, 125, 114]] #[{ accessFlags := 1, nameIndex := 5, descriptorIndex := 6, attributes := #[] }, { accessFlags := 9, nameIndex := 33, descriptorIndex := 178, attributes := #[] }, { accessFlags := 9, nameIndex := 47, descriptorIndex := 183, attributes := #[] }] 33 2 #[] #[{ accessFlags := 25, nameIndex := 123, descriptorIndex := 124, attributes := #[] }, { accessFlags := 25, nameIndex := 130, descriptorIndex := 124, attributes := #[] }, { accessFlags := 25, nameIndex := 136, descriptorIndex := 124, attributes := #[] }])
  fields := #[{ name := "SIOOBE_FORMATTER", type := (.object "java/util/function/BiFunction"), accessFlags := 25, slot := 0, constantValue := 0 }, { name := "AIOOBE_FORMATTER", type := (.object "java/util/function/BiFunction"), accessFlags := 25, slot := 1, constantValue := 0 }, { name := "IOOBE_FORMATTER", type := (.object "java/util/function/BiFunction"), accessFlags := 25, slot := 2, constantValue := 0 }]
  methods := #[k11m0, k11m1, k11m2]
  instanceTypes := #[]
  staticTypes := #[(.object "java/util/function/BiFunction"), (.object "java/util/function/BiFunction"), (.object "java/util/function/BiFunction")]
  resolved := Array.replicate 194 none
  statics := some 1 }

def pool12 : Array CpInfo := pool [(6, .class_ 8), (1, u "java/lang/Object"), (0, u "<init>"), (0, u "()V"), (1, .class_ 14), (1, u "java/lang/StringUTF16"), (31, u "$assertionsDisabled"), (0, u "Z"), (13, u "HI_BYTE_SHIFT"), (0, u "I"), (2, u "LO_BYTE_SHIFT"), (49, .methodref 12 116), (0, .nameAndType 117 118), (0, u "compress"), (0, u "([CI[BII)I"), (3, u "([CII)[B"), (138, u "coderFromArrayLen"), (0, u "([BI)B"), (106, .class_ 371), (1, u "java/lang/StringUTF16$LinesSpliterator"), (58, u "MAX_LENGTH"), (196, .class_ 628), (0, u "java/lang/StringUTF16$CodePointsSpliterator"), (0, .class_ 630), (0, u "java/lang/StringUTF16$CharsSpliterator")] 4

def k12m0 : Method := { name := "<init>", desc := "()V", sig := { parameters := [], returnType := none }, accessFlags := 0, code := none }
def k12c1 : Code := { maxStack := 2, maxLocals := 2, code := jdk_52_method_15_code, exceptionTable := #[], attributes := #[] }
def k12m1 : Method := { name := "coderFromArrayLen", desc := "([BI)B", sig := { parameters := [(.array .byte), .int], returnType := some .byte }, accessFlags := 8, code := some k12c1 }
def k12c2 : Code := { maxStack := 5, maxLocals := 6, code := jdk_52_method_16_code, exceptionTable := #[], attributes := #[] }
def k12m2 : Method := { name := "compress", desc := "([CII)[B", sig := { parameters := [(.array .char), .int, .int], returnType := some (.array .byte) }, accessFlags := 9, code := some k12c2 }
def k12c3 : Code := { maxStack := 3, maxLocals := 7, code := jdk_52_method_21_code, exceptionTable := #[], attributes := #[] }
def k12m3 : Method := { name := "compress", desc := "([CI[BII)I", sig := { parameters := [(.array .char), .int, (.array .byte), .int, .int], returnType := some .int }, accessFlags := 9, code := some k12c3 }
/-- java/lang/StringUTF16 -/
def k12 : Class := { plain "java/lang/StringUTF16" (some 0) with
  accessFlags := 48
  interfaces := #[]
  cf := some (fileOf pool12 12 #[.nestMembers #[627, 629, 369]] #[{ accessFlags := 0, nameIndex := 9, descriptorIndex := 10, attributes := #[] }, { accessFlags := 8, nameIndex := 261, descriptorIndex := 262, attributes := #[] }, { accessFlags := 9, nameIndex := 117, descriptorIndex := 122, attributes := #[] }, { accessFlags := 9, nameIndex := 117, descriptorIndex := 118, attributes := #[] }] 48 6 #[] #[{ accessFlags := 26, nameIndex := 61, descriptorIndex := 62, attributes := #[] }, { accessFlags := 26, nameIndex := 65, descriptorIndex := 62, attributes := #[] }, { accessFlags := 24, nameIndex := 430, descriptorIndex := 62, attributes := #[] }, { accessFlags := 4120, nameIndex := 46, descriptorIndex := 47, attributes := #[] }])
  fields := #[{ name := "HI_BYTE_SHIFT", type := .int, accessFlags := 26, slot := 0, constantValue := 0 }, { name := "LO_BYTE_SHIFT", type := .int, accessFlags := 26, slot := 1, constantValue := 0 }, { name := "MAX_LENGTH", type := .int, accessFlags := 24, slot := 2, constantValue := 0 }, { name := "$assertionsDisabled", type := .boolean, accessFlags := 4120, slot := 3, constantValue := 0 }]
  methods := #[k12m0, k12m1, k12m2, k12m3]
  instanceTypes := #[]
  staticTypes := #[.int, .int, .int, .boolean]
  resolved := Array.replicate 635 none
  statics := none }

def pool13 : Array CpInfo := pool [(2, .class_ 4), (1, u "java/lang/Object"), (0, u "<init>"), (0, u "()V"), (7, .class_ 16), (1, u "java/util/Arrays"), (57, .class_ 76), (1, u "java/util/Arrays$NaturalOrder"), (36, .class_ 115), (1, u "java/util/Arrays$LegacyMergeSort"), (1, u "Z"), (21, u "copyOfRange"), (10, .methodref 151 152), (0, .class_ 153), (0, .nameAndType 154 155), (0, u "java/lang/System"), (0, u "arraycopy"), (0, u "(Ljava/lang/Object;ILjava/lang/Object;II)V"), (148, .methodref 305 306), (0, .class_ 307), (0, .nameAndType 308 309), (0, u "java/lang/Math"), (0, u "min"), (0, u "(II)I"), (29, .methodref 14 340), (0, .nameAndType 341 342), (0, u "copyOfRangeByte"), (0, u "([BII)[B"), (0, .methodref 14 344), (0, .nameAndType 345 346), (0, u "checkLength"), (0, u "(II)V"), (28, .class_ 376), (0, u "java/util/Arrays$ArrayList"), (68, u "$assertionsDisabled"), (269, u "MIN_ARRAY_SORT_GRAN"), (0, u "I"), (2, u "INSERTIONSORT_THRESHOLD"), (255, .class_ 976), (0, u "java/util/Arrays$ArrayItr")] 52

def k13m0 : Method := { name := "<init>", desc := "()V", sig := { parameters := [], returnType := none }, accessFlags := 2, code := none }
def k13c1 : Code := { maxStack := 4, maxLocals := 2, code := jdk_65_method_131_code, exceptionTable := #[], attributes := #[] }
def k13m1 : Method := { name := "checkLength", desc := "(II)V", sig := { parameters := [.int, .int], returnType := none }, accessFlags := 10, code := some k13c1 }
def k13c2 : Code := { maxStack := 3, maxLocals := 3, code := jdk_65_method_132_code, exceptionTable := #[], attributes := #[] }
def k13m2 : Method := { name := "copyOfRange", desc := "([BII)[B", sig := { parameters := [(.array .byte), .int, .int], returnType := some (.array .byte) }, accessFlags := 9, code := some k13c2 }
def k13c3 : Code := { maxStack := 6, maxLocals := 5, code := jdk_65_method_133_code, exceptionTable := #[], attributes := #[] }
def k13m3 : Method := { name := "copyOfRangeByte", desc := "([BII)[B", sig := { parameters := [(.array .byte), .int, .int], returnType := some (.array .byte) }, accessFlags := 10, code := some k13c3 }
/-- java/util/Arrays -/
def k13 : Class := { plain "java/util/Arrays" (some 0) with
  accessFlags := 49
  interfaces := #[]
  cf := some (fileOf pool13 14 #[.nestMembers #[975, 375, 113, 74]] #[{ accessFlags := 2, nameIndex := 5, descriptorIndex := 6, attributes := #[] }, { accessFlags := 10, nameIndex := 345, descriptorIndex := 346, attributes := #[] }, { accessFlags := 9, nameIndex := 139, descriptorIndex := 342, attributes := #[] }, { accessFlags := 10, nameIndex := 341, descriptorIndex := 342, attributes := #[] }] 49 2 #[] #[{ accessFlags := 26, nameIndex := 715, descriptorIndex := 716, attributes := #[] }, { accessFlags := 26, nameIndex := 719, descriptorIndex := 716, attributes := #[] }, { accessFlags := 4120, nameIndex := 445, descriptorIndex := 117, attributes := #[] }])
  fields := #[{ name := "MIN_ARRAY_SORT_GRAN", type := .int, accessFlags := 26, slot := 0, constantValue := 0 }, { name := "INSERTIONSORT_THRESHOLD", type := .int, accessFlags := 26, slot := 1, constantValue := 0 }, { name := "$assertionsDisabled", type := .boolean, accessFlags := 4120, slot := 2, constantValue := 0 }]
  methods := #[k13m0, k13m1, k13m2, k13m3]
  instanceTypes := #[]
  staticTypes := #[.int, .int, .boolean]
  resolved := Array.replicate 1029 none
  statics := none }

def pool14 : Array CpInfo := pool [(2, .class_ 4), (1, u "java/lang/Object"), (0, u "<init>"), (0, u "()V"), (1, .class_ 10), (1, u "java/lang/System"), (0, u "allowSecurityManager"), (0, u "I"), (16, u "cons"), (0, u "Ljava/io/Console;"), (77, .class_ 110), (1, u "java/lang/System$CallersHolder"), (43, u "initialErrStream"), (0, u "Ljava/io/PrintStream;"), (19, u "security"), (0, u "Ljava/lang/SecurityManager;"), (31, .class_ 209), (0, u "java/lang/System$1"), (7, u "props"), (0, u "Ljava/util/Properties;"), (2, u "lineSeparator"), (0, u "Ljava/lang/String;"), (96, .class_ 321), (1, u "java/lang/System$LoggerFinder"), (5, .class_ 328), (0, u "java/lang/System$Logger"), (67, u "err"), (2, u "out"), (91, u "notSupportedJnuEncoding"), (15, u "in"), (17, u "initialIn"), (0, u "Ljava/io/InputStream;"), (35, u "bootLayer"), (0, u "Ljava/lang/ModuleLayer;"), (99, .class_ 664), (0, u "java/lang/System$2"), (9, u "NEVER"), (2, u "MAYBE"), (49, u "arraycopy"), (0, u "(Ljava/lang/Object;ILjava/lang/Object;II)V"), (72, .class_ 802), (0, u "java/lang/System$Logger$Level")] 31

def k14m0 : Method := { name := "<init>", desc := "()V", sig := { parameters := [], returnType := none }, accessFlags := 2, code := none }
def k14m1 : Method := { name := "arraycopy", desc := "(Ljava/lang/Object;ILjava/lang/Object;II)V", sig := { parameters := [(.object "java/lang/Object"), .int, (.object "java/lang/Object"), .int, .int], returnType := none }, accessFlags := 265, code := none }
/-- java/lang/System -/
def k14 : Class := { plain "java/lang/System" (some 0) with
  accessFlags := 49
  interfaces := #[]
  cf := some (fileOf pool14 8 #[.nestMembers #[319, 327, 801, 108, 663, 208]] #[{ accessFlags := 2, nameIndex := 5, descriptorIndex := 6, attributes := #[] }, { accessFlags := 265, nameIndex := 727, descriptorIndex := 728, attributes := #[] }] 49 2 #[] #[{ accessFlags := 25, nameIndex := 507, descriptorIndex := 526, attributes := #[] }, { accessFlags := 25, nameIndex := 399, descriptorIndex := 155, attributes := #[] }, { accessFlags := 25, nameIndex := 396, descriptorIndex := 155, attributes := #[] }, { accessFlags := 10, nameIndex := 525, descriptorIndex := 526, attributes := #[] }, { accessFlags := 26, nameIndex := 674, descriptorIndex := 12, attributes := #[] }, { accessFlags := 26, nameIndex := 677, descriptorIndex := 12, attributes := #[] }, { accessFlags := 10, nameIndex := 11, descriptorIndex := 12, attributes := #[] }, { accessFlags := 74, nameIndex := 175, descriptorIndex := 176, attributes := #[] }, { accessFlags := 10, nameIndex := 491, descriptorIndex := 222, attributes := #[] }, { accessFlags := 74, nameIndex := 29, descriptorIndex := 30, attributes := #[] }, { accessFlags := 74, nameIndex := 154, descriptorIndex := 155, attributes := #[] }, { accessFlags := 10, nameIndex := 217, descriptorIndex := 218, attributes := #[] }, { accessFlags := 10, nameIndex := 221, descriptorIndex := 222, attributes := #[] }, { accessFlags := 8, nameIndex := 562, descriptorIndex := 563, attributes := #[] }])
  fields := #[{ name := "in", type := (.object "java/io/InputStream"), accessFlags := 25, slot := 0, constantValue := 0 }, { name := "out", type := (.object "java/io/PrintStream"), accessFlags := 25, slot := 1, constantValue := 0 }, { name := "err", type := (.object "java/io/PrintStream"), accessFlags := 25, slot := 2, constantValue := 0 }, { name := "initialIn", type := (.object "java/io/InputStream"), accessFlags := 10, slot := 3, constantValue := 0 }, { name := "NEVER", type := .int, accessFlags := 26, slot := 4, constantValue := 0 }, { name := "MAYBE", type := .int, accessFlags := 26, slot := 5, constantValue := 0 }, { name := "allowSecurityManager", type := .int, accessFlags := 10, slot := 6, constantValue := 0 }, { name := "security", type := (.object "java/lang/SecurityManager"), accessFlags := 74, slot := 7, constantValue := 0 }, { name := "notSupportedJnuEncoding", type := (.object "java/lang/String"), accessFlags := 10, slot := 8, constantValue := 0 }, { name := "cons", type := (.object "java/io/Console"), accessFlags := 74, slot := 9, constantValue := 0 }, { name := "initialErrStream", type := (.object "java/io/PrintStream"), accessFlags := 74, slot := 10, constantValue := 0 }, { name := "props", type := (.object "java/util/Properties"), accessFlags := 10, slot := 11, constantValue := 0 }, { name := "lineSeparator", type := (.object "java/lang/String"), accessFlags := 10, slot := 12, constantValue := 0 }, { name := "bootLayer", type := (.object "java/lang/ModuleLayer"), accessFlags := 8, slot := 13, constantValue := 0 }]
  methods := #[k14m0, k14m1]
  instanceTypes := #[]
  staticTypes := #[(.object "java/io/InputStream"), (.object "java/io/PrintStream"), (.object "java/io/PrintStream"), (.object "java/io/InputStream"), .int, .int, .int, (.object "java/lang/SecurityManager"), (.object "java/lang/String"), (.object "java/io/Console"), (.object "java/io/PrintStream"), (.object "java/util/Properties"), (.object "java/lang/String"), (.object "java/lang/ModuleLayer")]
  resolved := Array.replicate 834 none
  statics := none }

def pool15 : Array CpInfo := pool [(9, u "<init>"), (6, .class_ 18), (1, u "java/lang/Object"), (0, u "()V"), (1, .class_ 23), (1, u "jdk/internal/util/ArraysSupport"), (0, u "LOG2_ARRAY_LONG_INDEX_SCALE"), (0, u "I"), (2, u "U"), (0, u "Ljdk/internal/misc/Unsafe;"), (8, u "BIG_ENDIAN"), (0, u "Z"), (8, u "LOG2_BYTE_BIT_SIZE"), (4, u "LOG2_ARRAY_INT_INDEX_SCALE"), (54, u "JLA"), (0, u "Ljdk/internal/access/JavaLangAccess;"), (11, u "LOG2_ARRAY_BOOLEAN_INDEX_SCALE"), (9, u "LOG2_ARRAY_BYTE_INDEX_SCALE"), (5, u "LOG2_ARRAY_CHAR_INDEX_SCALE"), (5, u "LOG2_ARRAY_SHORT_INDEX_SCALE"), (18, u "LOG2_ARRAY_FLOAT_INDEX_SCALE"), (24, u "LOG2_ARRAY_DOUBLE_INDEX_SCALE"), (89, u "T_BOOLEAN"), (2, u "T_CHAR"), (1, u "T_FLOAT"), (1, u "T_DOUBLE"), (1, u "T_BYTE"), (1, u "T_SHORT"), (1, u "T_INT"), (1, u "T_LONG"), (1, u "SOFT_MAX_ARRAY_LENGTH")] 83

def k15m0 : Method := { name := "<init>", desc := "()V", sig := { parameters := [], returnType := none }, accessFlags := 2, code := none }
/-- jdk/internal/util/ArraysSupport -/
def k15 : Class := { plain "jdk/internal/util/ArraysSupport" (some 0) with
  accessFlags := 33
  interfaces := #[]
  cf := some (fileOf pool15 21 #[] #[{ accessFlags := 2, nameIndex := 9, descriptorIndex := 19, attributes := #[] }] 33 16 #[] #[{ accessFlags := 24, nameIndex := 28, descriptorIndex := 29, attributes := #[] }, { accessFlags := 26, nameIndex := 38, descriptorIndex := 39, attributes := #[] }, { accessFlags := 25, nameIndex := 121, descriptorIndex := 25, attributes := #[] }, { accessFlags := 25, nameIndex := 131, descriptorIndex := 25, attributes := #[] }, { accessFlags := 25, nameIndex := 137, descriptorIndex := 25, attributes := #[] }, { accessFlags := 25, nameIndex := 143, descriptorIndex := 25, attributes := #[] }, { accessFlags := 25, nameIndex := 53, descriptorIndex := 25, attributes := #[] }, { accessFlags := 25, nameIndex := 24, descriptorIndex := 25, attributes := #[] }, { accessFlags := 25, nameIndex := 162, descriptorIndex := 25, attributes := #[] }, { accessFlags := 25, nameIndex := 187, descriptorIndex := 25, attributes := #[] }, { accessFlags := 26, nameIndex := 48, descriptorIndex := 25, attributes := #[] }, { accessFlags := 25, nameIndex := 277, descriptorIndex := 25, attributes := #[] }, { accessFlags := 25, nameIndex := 280, descriptorIndex := 25, attributes := #[] }, { accessFlags := 25, nameIndex := 282, descriptorIndex := 25, attributes := #[] }, { accessFlags := 25, nameIndex := 284, descriptorIndex := 25, attributes := #[] }, { accessFlags := 25, nameIndex := 286, descriptorIndex := 25, attributes := #[] }, { accessFlags := 25, nameIndex := 288, descriptorIndex := 25, attributes := #[] }, { accessFlags := 25, nameIndex := 290, descriptorIndex := 25, attributes := #[] }, { accessFlags := 25, nameIndex := 292, descriptorIndex := 25, attributes := #[] }, { accessFlags := 26, nameIndex := 108, descriptorIndex := 109, attributes := #[] }, { accessFlags := 25, nameIndex := 294, descriptorIndex := 25, attributes := #[] }])
  fields := #[{ name := "U", type := (.object "jdk/internal/misc/Unsafe"), accessFlags := 24, slot := 0, constantValue := 0 }, { name := "BIG_ENDIAN", type := .boolean, accessFlags := 26, slot := 1, constantValue := 0 }, { name := "LOG2_ARRAY_BOOLEAN_INDEX_SCALE", type := .int, accessFlags := 25, slot := 2, constantValue := 0 }, { name := "LOG2_ARRAY_BYTE_INDEX_SCALE", type := .int, accessFlags := 25, slot := 3, constantValue := 0 }, { name := "LOG2_ARRAY_CHAR_INDEX_SCALE", type := .int, accessFlags := 25, slot := 4, constantValue := 0 }, { name := "LOG2_ARRAY_SHORT_INDEX_SCALE", type := .int, accessFlags := 25, slot := 5, constantValue := 0 }, { name := "LOG2_ARRAY_INT_INDEX_SCALE", type := .int, accessFlags := 25, slot := 6, constantValue := 0 }, { name := "LOG2_ARRAY_LONG_INDEX_SCALE", type := .int, accessFlags := 25, slot := 7, constantValue := 0 }, { name := "LOG2_ARRAY_FLOAT_INDEX_SCALE", type := .int, accessFlags := 25, slot := 8, constantValue := 0 }, { name := "LOG2_ARRAY_DOUBLE_INDEX_SCALE", type := .int, accessFlags := 25, slot := 9, constantValue := 0 }, { name := "LOG2_BYTE_BIT_SIZE", type := .int, accessFlags := 26, slot := 10, constantValue := 0 }, { name := "T_BOOLEAN", type := .int, accessFlags := 25, slot := 11, constantValue := 0 }, { name := "T_CHAR", type := .int, accessFlags := 25, slot := 12, constantValue := 0 }, { name := "T_FLOAT", type := .int, accessFlags := 25, slot := 13, constantValue := 0 }, { name := "T_DOUBLE", type := .int, accessFlags := 25, slot := 14, constantValue := 0 }, { name := "T_BYTE", type := .int, accessFlags := 25, slot := 15, constantValue := 0 }, { name := "T_SHORT", type := .int, accessFlags := 25, slot := 16, constantValue := 0 }, { name := "T_INT", type := .int, accessFlags := 25, slot := 17, constantValue := 0 }, { name := "T_LONG", type := .int, accessFlags := 25, slot := 18, constantValue := 0 }, { name := "JLA", type := (.object "jdk/internal/access/JavaLangAccess"), accessFlags := 26, slot := 19, constantValue := 0 }, { name := "SOFT_MAX_ARRAY_LENGTH", type := .int, accessFlags := 25, slot := 20, constantValue := 0 }]
  methods := #[k15m0]
  instanceTypes := #[]
  staticTypes := #[(.object "jdk/internal/misc/Unsafe"), .boolean, .int, .int, .int, .int, .int, .int, .int, .int, .int, .int, .int, .int, .int, .int, .int, .int, .int, (.object "jdk/internal/access/JavaLangAccess"), .int]
  resolved := Array.replicate 378 none
  statics := none }

def pool16 : Array CpInfo := pool [(1, u "java/lang/Cloneable"), (0, .class_ 1), (0, u "java/lang/Object"), (0, .class_ 3)] 3

/-- java/lang/Cloneable -/
def k16 : Class := { plain "java/lang/Cloneable" (some 0) with
  accessFlags := 1537
  interfaces := #[]
  cf := some (fileOf pool16 2 #[] #[] 1537 4 #[] #[])
  fields := #[]
  methods := #[]
  instanceTypes := #[]
  staticTypes := #[]
  resolved := Array.replicate 8 none
  statics := none }

/-- the primitive byte -/
def k17 : Class := { plain "byte" none with kind := .primitive 'B', accessFlags := 0x411 }
/-- [B -/
def k18 : Class := { plain "[B" (some 0) with kind := .array 17 .byte, interfaces := #[16, 2], accessFlags := 1041 }

/-- the primitive char -/
def k19 : Class := { plain "char" none with kind := .primitive 'C', accessFlags := 0x411 }
/-- [C -/
def k20 : Class := { plain "[C" (some 0) with kind := .array 19 .char, interfaces := #[16, 2], accessFlags := 1041 }

/-- the primitive int -/
def k21 : Class := { plain "int" none with kind := .primitive 'I', accessFlags := 0x411 }
/-- [I -/
def k22 : Class := { plain "[I" (some 0) with kind := .array 21 .int, interfaces := #[16, 2], accessFlags := 1041 }

def heap : Heap := #[{ cls := 7, slots := #[.long 0, .int 1, .null, .int 0, .null, .int 0, .int 0], vm := .statics 7 },
  { cls := 11, slots := #[.null, .null, .null], vm := .statics 11 }]
def classes : Array Class := #[k0, k1, k2, k3, k4, k5, k6, k7, k8, k9, k10, k11, k12, k13, k14, k15, k16, k17, k18, k19, k20, k21, k22]
def interned : List (Array UInt16 × Addr) := []
def slotsUsed : Nat := 10
def theMethod : MethodId := ⟨1, 2⟩
def args0 : Array Value := #[.int 2, .int 1, .int 4, .int 6, .int 3]
def aboutOver (below : List Frame) : State where
  vm := { classes := classes, interned := interned.toArray }
  heap := heap
  slotsUsed := slotsUsed
  threads := #[{ frames := .invoking theMethod args0 :: below }]
def below0 : List Frame := [.native { method := ⟨0, 0⟩, args := #[] }]
def about1 : State := aboutOver below0
def p0 : Program := .bare "" "" ""
def e0 : Env := launch0.env 0 0 0
theorem w_frames : about1.frames = Frame.invoking theMethod args0 :: below0 := rfl
set_option maxRecDepth 65536 in
theorem w_args : argsFit about1.vm theMethod args0 = true := by decide +kernel
set_option maxRecDepth 65536 in
theorem w_heap : heapFits about1 = true := by decide +kernel
set_option maxRecDepth 65536 in
theorem w_runnable : about1.curStatus? = some .runnable := by decide +kernel
set_option maxRecDepth 65536 in
theorem w_alone : about1.alone = true := by decide +kernel
set_option maxRecDepth 65536 in
theorem w_named : about1.methodNamed? x = some theMethod := by decide +kernel
set_option maxRecDepth 65536 in
theorem w_hears : about1.hears theMethod below0 = true := by decide +kernel
set_option maxRecDepth 65536 in
theorem w_ripe : about1.ripe theMethod args0 below0 = true := by decide +kernel
theorem w_running : about1.status = .running := rfl
set_option maxRecDepth 65536 in
theorem w_room : about1.hasRoom e0.platform room_1 = true :=
  launch0.hasRoom_least _ room_1 (by decide +kernel) (by decide +kernel) (by decide +kernel) (by decide +kernel) (by decide +kernel) (by decide +kernel)
theorem allAtoms_all (ts : List Jvm.Cond) (a : Array Jvm.Value) (st : Jvm.State) : (allAtoms ts).before a st = ts.all (fun c => c.before a st) := by
  induction ts with
  | nil => rfl
  | cons c t ih =>
    show (Jvm.Cond.and c (allAtoms t)).before a st = _
    rw [Jvm.Cond.before_and, ih, List.all_cons]
def words1 : List Jvm.Cond := Jvm.Cond.code x code maxLocals ret :: tables_1
/-- a 'code' word, met by the world's own term for the bytes: nothing is compared byte by byte -/
theorem code_word {y : MethodName} {bytes : ByteArray} {mx : Nat} {rt : Option FieldType} {a : Array Value} {s : State} {m : MethodId} {meth : Method} {c : Code} (h1 : s.methodNamed? y = some m) (h2 : s.vm.method? m = some meth) (h3 : meth.code = some c) (h4 : c.code = bytes)
    (h5 : (c.maxLocals == mx && c.exceptionTable.isEmpty && decide (c.maxStack ≤ mostOperands) && decide (meth.sig.returnType = rt) && !meth.locks && decide (parseMethodDescriptor y.desc = some meth.sig)) = true) : (Jvm.Cond.code y bytes mx rt).before a s = true := by
  simp only [Bool.and_eq_true, beq_iff_eq, Bool.not_eq_true', decide_eq_true_eq] at h5
  obtain ⟨⟨⟨⟨⟨g1, g2⟩, g3⟩, g4⟩, g5⟩, g6⟩ := h5
  simp [Cond.before, Cond.holds, Cond.value, h1, h2, h3, h4, g1, g2, g3, g4, g5, g6]
def isCode : Jvm.Cond → Bool
  | .code _ _ _ _ => true
  | _ => false
theorem all_split {L : List Jvm.Cond} {P : Jvm.Cond → Bool} (h1 : L.all (fun c => isCode c || P c) = true) (h2 : ∀ c ∈ L.filter isCode, P c = true) : L.all P = true := by
  refine List.all_eq_true.mpr fun c hc => ?_
  have h := List.all_eq_true.mp h1 c hc
  rcases Bool.eq_false_or_eq_true (isCode c) with hi | hi
  · exact h2 c (List.mem_filter.mpr ⟨hc, hi⟩)
  · simpa [hi] using h
set_option maxRecDepth 65536 in
theorem w_c0 : (Jvm.Cond.code x code maxLocals ret).before args0 about1 = true := code_word (m := ⟨1, 2⟩) (meth := k1m2) (c := k1c2) (by decide +kernel) rfl rfl rfl (by decide +kernel)
set_option maxRecDepth 65536 in
theorem w_c1 : (Jvm.Cond.code ({ cls := "com/example/cartulary/cartulary/RegisterUrisRegisterBasePinLaw", name := "ch", desc := "(I)C" } : Jvm.MethodName) method_2_code (1 : Nat) (Option.some Jvm.ClassFile.FieldType.char)).before args0 about1 = true := code_word (m := ⟨1, 1⟩) (meth := k1m1) (c := k1c1) (by decide +kernel) rfl rfl rfl (by decide +kernel)
set_option maxRecDepth 65536 in
theorem w_c2 : (Jvm.Cond.code ({ cls := "java/lang/String", name := "<init>", desc := "([C)V" } : Jvm.MethodName) jdk_42_method_3_code (2 : Nat) (Option.none : Option Jvm.ClassFile.FieldType)).before args0 about1 = true := code_word (m := ⟨7, 1⟩) (meth := k7m1) (c := k7c1) (by decide +kernel) rfl rfl rfl (by decide +kernel)
set_option maxRecDepth 65536 in
theorem w_c3 : (Jvm.Cond.code ({ cls := "java/lang/String", name := "<init>", desc := "([CIILjava/lang/Void;)V" } : Jvm.MethodName) jdk_42_method_149_code (6 : Nat) (Option.none : Option Jvm.ClassFile.FieldType)).before args0 about1 = true := code_word (m := ⟨7, 7⟩) (meth := k7m7) (c := k7c7) (by decide +kernel) rfl rfl rfl (by decide +kernel)
set_option maxRecDepth 65536 in
theorem w_c4 : (Jvm.Cond.code ({ cls := "java/lang/Object", name := "<init>", desc := "()V" } : Jvm.MethodName) object_method_1_code (1 : Nat) (Option.none : Option Jvm.ClassFile.FieldType)).before args0 about1 = true := code_word (m := ⟨0, 0⟩) (meth := k0m0) (c := k0c0) (by decide +kernel) rfl rfl rfl (by decide +kernel)
set_option maxRecDepth 65536 in
theorem w_c5 : (Jvm.Cond.code ({ cls := "com/example/cartulary/cartulary/RegisterUris", name := "registerBase", desc := "(Ljava/lang/String;)Ljava/lang/String;" } : Jvm.MethodName) prog_2_method_4_code (1 : Nat) (Option.some (Jvm.ClassFile.FieldType.object "java/lang/String"))).before args0 about1 = true := code_word (m := ⟨8, 1⟩) (meth := k8m1) (c := k8c1) (by decide +kernel) rfl rfl rfl (by decide +kernel)
set_option maxRecDepth 65536 in
theorem w_c6 : (Jvm.Cond.code ({ cls := "java/lang/String", name := "lastIndexOf", desc := "(I)I" } : Jvm.MethodName) jdk_42_method_82_code (2 : Nat) (Option.some Jvm.ClassFile.FieldType.int)).before args0 about1 = true := code_word (m := ⟨7, 4⟩) (meth := k7m4) (c := k7c4) (by decide +kernel) rfl rfl rfl (by decide +kernel)
set_option maxRecDepth 65536 in
theorem w_c7 : (Jvm.Cond.code ({ cls := "java/lang/String", name := "length", desc := "()I" } : Jvm.MethodName) jdk_42_method_54_code (1 : Nat) (Option.some Jvm.ClassFile.FieldType.int)).before args0 about1 = true := code_word (m := ⟨7, 2⟩) (meth := k7m2) (c := k7c2) (by decide +kernel) rfl rfl rfl (by decide +kernel)
set_option maxRecDepth 65536 in
theorem w_c8 : (Jvm.Cond.code ({ cls := "java/lang/String", name := "coder", desc := "()B" } : Jvm.MethodName) jdk_42_method_152_code (1 : Nat) (Option.some Jvm.ClassFile.FieldType.byte)).before args0 about1 = true := code_word (m := ⟨7, 9⟩) (meth := k7m9) (c := k7c9) (by decide +kernel) rfl rfl rfl (by decide +kernel)
set_option maxRecDepth 65536 in
theorem w_c9 : (Jvm.Cond.code ({ cls := "java/lang/String", name := "lastIndexOf", desc := "(II)I" } : Jvm.MethodName) jdk_42_method_83_code (3 : Nat) (Option.some Jvm.ClassFile.FieldType.int)).before args0 about1 = true := code_word (m := ⟨7, 5⟩) (meth := k7m5) (c := k7c5) (by decide +kernel) rfl rfl rfl (by decide +kernel)
set_option maxRecDepth 65536 in
theorem w_c10 : (Jvm.Cond.code ({ cls := "java/lang/String", name := "isLatin1", desc := "()Z" } : Jvm.MethodName) jdk_42_method_154_code (1 : Nat) (Option.some Jvm.ClassFile.FieldType.boolean)).before args0 about1 = true := code_word (m := ⟨7, 10⟩) (meth := k7m10) (c := k7c10) (by decide +kernel) rfl rfl rfl (by decide +kernel)
set_option maxRecDepth 65536 in
theorem w_c11 : (Jvm.Cond.code ({ cls := "java/lang/StringLatin1", name := "lastIndexOf", desc := "([BII)I" } : Jvm.MethodName) jdk_43_method_27_code (4 : Nat) (Option.some Jvm.ClassFile.FieldType.int)).before args0 about1 = true := code_word (m := ⟨9, 3⟩) (meth := k9m3) (c := k9c3) (by decide +kernel) rfl rfl rfl (by decide +kernel)
set_option maxRecDepth 65536 in
theorem w_c12 : (Jvm.Cond.code ({ cls := "java/lang/StringLatin1", name := "canEncode", desc := "(I)Z" } : Jvm.MethodName) jdk_43_method_4_code (1 : Nat) (Option.some Jvm.ClassFile.FieldType.boolean)).before args0 about1 = true := code_word (m := ⟨9, 2⟩) (meth := k9m2) (c := k9c2) (by decide +kernel) rfl rfl rfl (by decide +kernel)
set_option maxRecDepth 65536 in
theorem w_c13 : (Jvm.Cond.code ({ cls := "java/lang/Math", name := "min", desc := "(II)I" } : Jvm.MethodName) jdk_29_method_69_code (2 : Nat) (Option.some Jvm.ClassFile.FieldType.int)).before args0 about1 = true := code_word (m := ⟨10, 1⟩) (meth := k10m1) (c := k10c1) (by decide +kernel) rfl rfl rfl (by decide +kernel)
set_option maxRecDepth 65536 in
theorem w_c14 : (Jvm.Cond.code ({ cls := "java/lang/String", name := "substring", desc := "(II)Ljava/lang/String;" } : Jvm.MethodName) jdk_42_method_92_code (5 : Nat) (Option.some (Jvm.ClassFile.FieldType.object "java/lang/String"))).before args0 about1 = true := code_word (m := ⟨7, 6⟩) (meth := k7m6) (c := k7c6) (by decide +kernel) rfl rfl rfl (by decide +kernel)
set_option maxRecDepth 65536 in
theorem w_c15 : (Jvm.Cond.code ({ cls := "java/lang/String", name := "checkBoundsBeginEnd", desc := "(III)V" } : Jvm.MethodName) jdk_42_method_158_code (3 : Nat) (Option.none : Option Jvm.ClassFile.FieldType)).before args0 about1 = true := code_word (m := ⟨7, 12⟩) (meth := k7m12) (c := k7c12) (by decide +kernel) rfl rfl rfl (by decide +kernel)
set_option maxRecDepth 65536 in
theorem w_c16 : (Jvm.Cond.code ({ cls := "jdk/internal/util/Preconditions", name := "checkFromToIndex", desc := "(IIILjava/util/function/BiFunction;)I" } : Jvm.MethodName) jdk_41_method_12_code (4 : Nat) (Option.some Jvm.ClassFile.FieldType.int)).before args0 about1 = true := code_word (m := ⟨11, 2⟩) (meth := k11m2) (c := k11c2) (by decide +kernel) rfl rfl rfl (by decide +kernel)
set_option maxRecDepth 65536 in
theorem w_c17 : (Jvm.Cond.code ({ cls := "java/lang/StringUTF16", name := "compress", desc := "([CII)[B" } : Jvm.MethodName) jdk_52_method_16_code (6 : Nat) (Option.some (Jvm.ClassFile.FieldType.array Jvm.ClassFile.FieldType.byte))).before args0 about1 = true := code_word (m := ⟨12, 2⟩) (meth := k12m2) (c := k12c2) (by decide +kernel) rfl rfl rfl (by decide +kernel)
set_option maxRecDepth 65536 in
theorem w_c18 : (Jvm.Cond.code ({ cls := "java/lang/StringUTF16", name := "compress", desc := "([CI[BII)I" } : Jvm.MethodName) jdk_52_method_21_code (7 : Nat) (Option.some Jvm.ClassFile.FieldType.int)).before args0 about1 = true := code_word (m := ⟨12, 3⟩) (meth := k12m3) (c := k12c3) (by decide +kernel) rfl rfl rfl (by decide +kernel)
set_option maxRecDepth 65536 in
theorem w_c19 : (Jvm.Cond.code ({ cls := "java/lang/StringUTF16", name := "coderFromArrayLen", desc := "([BI)B" } : Jvm.MethodName) jdk_52_method_15_code (2 : Nat) (Option.some Jvm.ClassFile.FieldType.byte)).before args0 about1 = true := code_word (m := ⟨12, 1⟩) (meth := k12m1) (c := k12c1) (by decide +kernel) rfl rfl rfl (by decide +kernel)
set_option maxRecDepth 65536 in
theorem w_c20 : (Jvm.Cond.code ({ cls := "java/lang/StringLatin1", name := "newString", desc := "([BII)Ljava/lang/String;" } : Jvm.MethodName) jdk_43_method_47_code (3 : Nat) (Option.some (Jvm.ClassFile.FieldType.object "java/lang/String"))).before args0 about1 = true := code_word (m := ⟨9, 4⟩) (meth := k9m4) (c := k9c4) (by decide +kernel) rfl rfl rfl (by decide +kernel)
set_option maxRecDepth 65536 in
theorem w_c21 : (Jvm.Cond.code ({ cls := "java/util/Arrays", name := "copyOfRange", desc := "([BII)[B" } : Jvm.MethodName) jdk_65_method_132_code (3 : Nat) (Option.some (Jvm.ClassFile.FieldType.array Jvm.ClassFile.FieldType.byte))).before args0 about1 = true := code_word (m := ⟨13, 2⟩) (meth := k13m2) (c := k13c2) (by decide +kernel) rfl rfl rfl (by decide +kernel)
set_option maxRecDepth 65536 in
theorem w_c22 : (Jvm.Cond.code ({ cls := "java/util/Arrays", name := "copyOfRangeByte", desc := "([BII)[B" } : Jvm.MethodName) jdk_65_method_133_code (5 : Nat) (Option.some (Jvm.ClassFile.FieldType.array Jvm.ClassFile.FieldType.byte))).before args0 about1 = true := code_word (m := ⟨13, 3⟩) (meth := k13m3) (c := k13c3) (by decide +kernel) rfl rfl rfl (by decide +kernel)
set_option maxRecDepth 65536 in
theorem w_c23 : (Jvm.Cond.code ({ cls := "java/util/Arrays", name := "checkLength", desc := "(II)V" } : Jvm.MethodName) jdk_65_method_131_code (2 : Nat) (Option.none : Option Jvm.ClassFile.FieldType)).before args0 about1 = true := code_word (m := ⟨13, 1⟩) (meth := k13m1) (c := k13c1) (by decide +kernel) rfl rfl rfl (by decide +kernel)
set_option maxRecDepth 65536 in
theorem w_c24 : (Jvm.Cond.code ({ cls := "java/lang/String", name := "<init>", desc := "([BB)V" } : Jvm.MethodName) jdk_42_method_151_code (3 : Nat) (Option.none : Option Jvm.ClassFile.FieldType)).before args0 about1 = true := code_word (m := ⟨7, 8⟩) (meth := k7m8) (c := k7c8) (by decide +kernel) rfl rfl rfl (by decide +kernel)
set_option maxRecDepth 65536 in
theorem w_c25 : (Jvm.Cond.code ({ cls := "java/lang/String", name := "charAt", desc := "(I)C" } : Jvm.MethodName) jdk_42_method_56_code (2 : Nat) (Option.some Jvm.ClassFile.FieldType.char)).before args0 about1 = true := code_word (m := ⟨7, 3⟩) (meth := k7m3) (c := k7c3) (by decide +kernel) rfl rfl rfl (by decide +kernel)
set_option maxRecDepth 65536 in
theorem w_c26 : (Jvm.Cond.code ({ cls := "java/lang/StringLatin1", name := "charAt", desc := "([BI)C" } : Jvm.MethodName) jdk_43_method_2_code (2 : Nat) (Option.some Jvm.ClassFile.FieldType.char)).before args0 about1 = true := code_word (m := ⟨9, 1⟩) (meth := k9m1) (c := k9c1) (by decide +kernel) rfl rfl rfl (by decide +kernel)
set_option maxRecDepth 65536 in
theorem w_c27 : (Jvm.Cond.code ({ cls := "java/lang/String", name := "checkIndex", desc := "(II)V" } : Jvm.MethodName) jdk_42_method_155_code (2 : Nat) (Option.none : Option Jvm.ClassFile.FieldType)).before args0 about1 = true := code_word (m := ⟨7, 11⟩) (meth := k7m11) (c := k7c11) (by decide +kernel) rfl rfl rfl (by decide +kernel)
set_option maxRecDepth 65536 in
theorem w_c28 : (Jvm.Cond.code ({ cls := "jdk/internal/util/Preconditions", name := "checkIndex", desc := "(IILjava/util/function/BiFunction;)I" } : Jvm.MethodName) jdk_41_method_11_code (3 : Nat) (Option.some Jvm.ClassFile.FieldType.int)).before args0 about1 = true := code_word (m := ⟨11, 1⟩) (meth := k11m1) (c := k11c1) (by decide +kernel) rfl rfl rfl (by decide +kernel)
def codes1 : List Jvm.Cond := [Jvm.Cond.code x code maxLocals ret, Jvm.Cond.code ({ cls := "com/example/cartulary/cartulary/RegisterUrisRegisterBasePinLaw", name := "ch", desc := "(I)C" } : Jvm.MethodName) method_2_code (1 : Nat) (Option.some Jvm.ClassFile.FieldType.char), Jvm.Cond.code ({ cls := "java/lang/String", name := "<init>", desc := "([C)V" } : Jvm.MethodName) jdk_42_method_3_code (2 : Nat) (Option.none : Option Jvm.ClassFile.FieldType), Jvm.Cond.code ({ cls := "java/lang/String", name := "<init>", desc := "([CIILjava/lang/Void;)V" } : Jvm.MethodName) jdk_42_method_149_code (6 : Nat) (Option.none : Option Jvm.ClassFile.FieldType), Jvm.Cond.code ({ cls := "java/lang/Object", name := "<init>", desc := "()V" } : Jvm.MethodName) object_method_1_code (1 : Nat) (Option.none : Option Jvm.ClassFile.FieldType), Jvm.Cond.code ({ cls := "com/example/cartulary/cartulary/RegisterUris", name := "registerBase", desc := "(Ljava/lang/String;)Ljava/lang/String;" } : Jvm.MethodName) prog_2_method_4_code (1 : Nat) (Option.some (Jvm.ClassFile.FieldType.object "java/lang/String")), Jvm.Cond.code ({ cls := "java/lang/String", name := "lastIndexOf", desc := "(I)I" } : Jvm.MethodName) jdk_42_method_82_code (2 : Nat) (Option.some Jvm.ClassFile.FieldType.int), Jvm.Cond.code ({ cls := "java/lang/String", name := "length", desc := "()I" } : Jvm.MethodName) jdk_42_method_54_code (1 : Nat) (Option.some Jvm.ClassFile.FieldType.int), Jvm.Cond.code ({ cls := "java/lang/String", name := "coder", desc := "()B" } : Jvm.MethodName) jdk_42_method_152_code (1 : Nat) (Option.some Jvm.ClassFile.FieldType.byte), Jvm.Cond.code ({ cls := "java/lang/String", name := "lastIndexOf", desc := "(II)I" } : Jvm.MethodName) jdk_42_method_83_code (3 : Nat) (Option.some Jvm.ClassFile.FieldType.int), Jvm.Cond.code ({ cls := "java/lang/String", name := "isLatin1", desc := "()Z" } : Jvm.MethodName) jdk_42_method_154_code (1 : Nat) (Option.some Jvm.ClassFile.FieldType.boolean), Jvm.Cond.code ({ cls := "java/lang/StringLatin1", name := "lastIndexOf", desc := "([BII)I" } : Jvm.MethodName) jdk_43_method_27_code (4 : Nat) (Option.some Jvm.ClassFile.FieldType.int), Jvm.Cond.code ({ cls := "java/lang/StringLatin1", name := "canEncode", desc := "(I)Z" } : Jvm.MethodName) jdk_43_method_4_code (1 : Nat) (Option.some Jvm.ClassFile.FieldType.boolean), Jvm.Cond.code ({ cls := "java/lang/Math", name := "min", desc := "(II)I" } : Jvm.MethodName) jdk_29_method_69_code (2 : Nat) (Option.some Jvm.ClassFile.FieldType.int), Jvm.Cond.code ({ cls := "java/lang/String", name := "substring", desc := "(II)Ljava/lang/String;" } : Jvm.MethodName) jdk_42_method_92_code (5 : Nat) (Option.some (Jvm.ClassFile.FieldType.object "java/lang/String")), Jvm.Cond.code ({ cls := "java/lang/String", name := "checkBoundsBeginEnd", desc := "(III)V" } : Jvm.MethodName) jdk_42_method_158_code (3 : Nat) (Option.none : Option Jvm.ClassFile.FieldType), Jvm.Cond.code ({ cls := "jdk/internal/util/Preconditions", name := "checkFromToIndex", desc := "(IIILjava/util/function/BiFunction;)I" } : Jvm.MethodName) jdk_41_method_12_code (4 : Nat) (Option.some Jvm.ClassFile.FieldType.int), Jvm.Cond.code ({ cls := "java/lang/StringUTF16", name := "compress", desc := "([CII)[B" } : Jvm.MethodName) jdk_52_method_16_code (6 : Nat) (Option.some (Jvm.ClassFile.FieldType.array Jvm.ClassFile.FieldType.byte)), Jvm.Cond.code ({ cls := "java/lang/StringUTF16", name := "compress", desc := "([CI[BII)I" } : Jvm.MethodName) jdk_52_method_21_code (7 : Nat) (Option.some Jvm.ClassFile.FieldType.int), Jvm.Cond.code ({ cls := "java/lang/StringUTF16", name := "coderFromArrayLen", desc := "([BI)B" } : Jvm.MethodName) jdk_52_method_15_code (2 : Nat) (Option.some Jvm.ClassFile.FieldType.byte), Jvm.Cond.code ({ cls := "java/lang/StringLatin1", name := "newString", desc := "([BII)Ljava/lang/String;" } : Jvm.MethodName) jdk_43_method_47_code (3 : Nat) (Option.some (Jvm.ClassFile.FieldType.object "java/lang/String")), Jvm.Cond.code ({ cls := "java/util/Arrays", name := "copyOfRange", desc := "([BII)[B" } : Jvm.MethodName) jdk_65_method_132_code (3 : Nat) (Option.some (Jvm.ClassFile.FieldType.array Jvm.ClassFile.FieldType.byte)), Jvm.Cond.code ({ cls := "java/util/Arrays", name := "copyOfRangeByte", desc := "([BII)[B" } : Jvm.MethodName) jdk_65_method_133_code (5 : Nat) (Option.some (Jvm.ClassFile.FieldType.array Jvm.ClassFile.FieldType.byte)), Jvm.Cond.code ({ cls := "java/util/Arrays", name := "checkLength", desc := "(II)V" } : Jvm.MethodName) jdk_65_method_131_code (2 : Nat) (Option.none : Option Jvm.ClassFile.FieldType), Jvm.Cond.code ({ cls := "java/lang/String", name := "<init>", desc := "([BB)V" } : Jvm.MethodName) jdk_42_method_151_code (3 : Nat) (Option.none : Option Jvm.ClassFile.FieldType), Jvm.Cond.code ({ cls := "java/lang/String", name := "charAt", desc := "(I)C" } : Jvm.MethodName) jdk_42_method_56_code (2 : Nat) (Option.some Jvm.ClassFile.FieldType.char), Jvm.Cond.code ({ cls := "java/lang/StringLatin1", name := "charAt", desc := "([BI)C" } : Jvm.MethodName) jdk_43_method_2_code (2 : Nat) (Option.some Jvm.ClassFile.FieldType.char), Jvm.Cond.code ({ cls := "java/lang/String", name := "checkIndex", desc := "(II)V" } : Jvm.MethodName) jdk_42_method_155_code (2 : Nat) (Option.none : Option Jvm.ClassFile.FieldType), Jvm.Cond.code ({ cls := "jdk/internal/util/Preconditions", name := "checkIndex", desc := "(IILjava/util/function/BiFunction;)I" } : Jvm.MethodName) jdk_41_method_11_code (3 : Nat) (Option.some Jvm.ClassFile.FieldType.int)]
set_option maxRecDepth 65536 in
theorem codes_eq : words1.filter isCode = codes1 := rfl
theorem w_codes : ∀ c ∈ words1.filter isCode, c.before args0 about1 = true := by
  rw [codes_eq]
  intro c hc
  simp only [codes1, List.mem_cons, List.not_mem_nil, or_false] at hc
  rcases hc with rfl | rfl | rfl | rfl | rfl | rfl | rfl | rfl | rfl | rfl | rfl | rfl | rfl | rfl | rfl | rfl | rfl | rfl | rfl | rfl | rfl | rfl | rfl | rfl | rfl | rfl | rfl | rfl | rfl
  · exact w_c0
  · exact w_c1
  · exact w_c2
  · exact w_c3
  · exact w_c4
  · exact w_c5
  · exact w_c6
  · exact w_c7
  · exact w_c8
  · exact w_c9
  · exact w_c10
  · exact w_c11
  · exact w_c12
  · exact w_c13
  · exact w_c14
  · exact w_c15
  · exact w_c16
  · exact w_c17
  · exact w_c18
  · exact w_c19
  · exact w_c20
  · exact w_c21
  · exact w_c22
  · exact w_c23
  · exact w_c24
  · exact w_c25
  · exact w_c26
  · exact w_c27
  · exact w_c28
set_option maxRecDepth 65536 in
theorem w_t1 : (words1.take 24).all (fun c => isCode c || c.before args0 about1) = true := by decide +kernel
set_option maxRecDepth 65536 in
theorem w_t2 : ((words1.drop 24).take 24).all (fun c => isCode c || c.before args0 about1) = true := by decide +kernel
set_option maxRecDepth 65536 in
theorem w_t3 : (((words1.drop 24).drop 24).take 24).all (fun c => isCode c || c.before args0 about1) = true := by decide +kernel
set_option maxRecDepth 65536 in
theorem w_t4 : ((((words1.drop 24).drop 24).drop 24).take 24).all (fun c => isCode c || c.before args0 about1) = true := by decide +kernel
set_option maxRecDepth 65536 in
theorem w_t5 : (((((words1.drop 24).drop 24).drop 24).drop 24).take 24).all (fun c => isCode c || c.before args0 about1) = true := by decide +kernel
set_option maxRecDepth 65536 in
theorem w_t6 : (((((words1.drop 24).drop 24).drop 24).drop 24).drop 24).all (fun c => isCode c || c.before args0 about1) = true := by decide +kernel
theorem w_tables : (allAtoms (Jvm.Cond.code x code maxLocals ret :: tables_1)).before args0 about1 = true := by
  rw [allAtoms_all]
  show words1.all (fun c => c.before args0 about1) = true
  refine all_split ?_ w_codes
  rw [← List.take_append_drop 24 words1, List.all_append, w_t1, ← List.take_append_drop 24 (words1.drop 24), List.all_append, w_t2, ← List.take_append_drop 24 ((words1.drop 24).drop 24), List.all_append, w_t3, ← List.take_append_drop 24 (((words1.drop 24).drop 24).drop 24), List.all_append, w_t4, ← List.take_append_drop 24 ((((words1.drop 24).drop 24).drop 24).drop 24), List.all_append, w_t5, w_t6]
  rfl
set_option maxRecDepth 65536 in
theorem w_rest : rest_1_c.before args0 about1 = true := by decide +kernel
set_option maxRecDepth 65536 in
theorem w_case : (Jvm.Cond.and given_1 narrow_1).before args0 about1 = true := by decide +kernel
set_option maxRecDepth 65536 in
theorem w_consts : constsHeld consts_1 about1 := Jvm.Lit.constsHeldB_iff.mp (by decide +kernel)
theorem w_applies : (headSpec (Jvm.Cond.code x code maxLocals ret :: tables_1) room_1).applies x e0.platform about1 = true :=
  (Spec.applies_iff w_frames).mpr ⟨w_running, w_runnable, w_alone, w_named, w_hears, w_ripe, w_room, w_tables⟩
theorem atStart : AtStart classFile x code maxLocals ret World_1 tables_1 room_1 Calls_1 rest_1 Pre_1 launch0 p0 e0 about1 theMethod args0 below0 :=
  ⟨lists_1, trivial, launch0.admits_env _ _ _, launch0.least_env, fairChoices_fair.cas, fairChoices_fair.clock, w_frames, w_args, w_heap, w_applies, ⟨w_consts, trivial⟩, w_rest, w_case⟩
end start1
theorem witness_1 : WitnessClaimed_1 := ⟨start1.p0, start1.e0, start1.about1, start1.theMethod, start1.args0, start1.below0, start1.atStart⟩
end Jvm.Pilot.@@N@@
