import JvmDerived
import JvmDerived.Pilot.@@N@@Statement
import JvmDerived.Pilot.@@N@@Code
set_option linter.unusedVariables false
set_option linter.unusedSimpArgs false
/- laws to paste: Road.backV, Road.lenW, Road.chN, Road.codOf (cut by pick.py; bodies as the Statement names them) -/
namespace Jvm.Pilot.@@N@@
namespace StrChars
open Jvm Sem ClassFile Op Lib Jvm.Stand Jvm.Free.XT Jvm.Free.ALB Jvm.Free.JM Jvm.Free
open Jvm.Lib.Cold (StaticIs)
/-- a char array whose places are chars -/
def Ch (a : Addr) (A : Cell) (U : State) : Prop := Arr .char a A U ∧ Typed .char A
theorem Ch.mv {a : Addr} {A : Cell} {U U' : State} (h : Ch a A U) (hal : U.vm.Alike U'.vm) (hh : U'.heap = U.heap) : Ch a A U' := ⟨h.1.mv hal hh, h.2⟩
theorem Ch.keep {a : Addr} {A : Cell} {U U' : State} (h : Ch a A U) (hal : U.vm.Alike U'.vm) (hk : U'.heap[a]? = some A) : Ch a A U' := ⟨h.1.keep hal hk, h.2⟩
/-- what place i of a char[]'s cell holds -/
def cv (A : Cell) (i : Nat) : Int32 := match A.slots[i]? with | some (.int x) => x | _ => 0
theorem Ch.get {a : Addr} {A : Cell} {U : State} (h : Ch a A U) {i : Nat} (hi : i < A.slots.size) : A.slots[i]? = some (.int (cv A i)) := by
  have e := Array.getElem?_eq_getElem hi
  have f := h.2 i _ e
  unfold cv; rw [e]
  generalize A.slots[i] = v at f
  cases v <;> simp [fits] at f ⊢
/-- the byte that i2b leaves of a char -/
def lo8 (x : Int32) : Int32 := x.toInt8.toInt32
theorem fits_lo8 (y : Int32) : fits .byte (.int (lo8 y)) = true := by
  have h1 := y.toInt8.le_toInt
  have h2 := y.toInt8.toInt_lt
  simp only [lo8, fits, Bool.and_eq_true, decide_eq_true_eq, Int32.le_iff_toInt_le, Int8.toInt_toInt32, show (-128 : Int32).toInt = -128 from by decide, show (127 : Int32).toInt = 127 from by decide]
  omega
/-- A' is A but that each place j of lo .. hi - 1 holds f j -/
def Laid (A A' : Cell) (lo hi : Nat) (f : Nat → Value) : Prop := A'.cls = A.cls ∧ A'.vm = A.vm ∧ A'.slots.size = A.slots.size ∧ ∀ i, A'.slots[i]? = if lo ≤ i ∧ i < hi then some (f i) else A.slots[i]?
theorem Laid.zero (A : Cell) (lo : Nat) (f : Nat → Value) : Laid A A lo (lo + 0) f := ⟨rfl, rfl, rfl, fun i => by rw [if_neg (by omega)]⟩
theorem Laid.step {A Ak : Cell} {lo k : Nat} {f : Nat → Value} {v : Value} (h : Laid A Ak lo k f) (hlo : lo ≤ k) (hk : k < Ak.slots.size) (hv : v = f k) : Laid A (Ak.setSlot k v) lo (k + 1) f := by
  refine ⟨h.1, h.2.1, by simpa [Cell.setSlot] using h.2.2.1, fun i => ?_⟩
  by_cases e : k = i
  · subst e; rw [Cell.slots_setSlot_self v hk, if_pos (by omega), hv]
  · rw [Cell.slots_setSlot_ne v e, h.2.2.2 i]
    by_cases q : lo ≤ i ∧ i < k
    · rw [if_pos q, if_pos (by omega)]
    · rw [if_neg q, if_neg (by omega)]
def U16 : String := "java/lang/StringUTF16"
namespace Cmp5
def yN : MethodName := ⟨"java/lang/StringUTF16", "compress", "([CI[BII)I"⟩
abbrev yB : ByteArray := jdk_52_method_21_code
theorem d0 : decode yB 0 = .ok (.iconst 0, 1) := by decide +kernel
theorem d1 : decode yB 1 = .ok (.istore 5, 2) := by decide +kernel
theorem d3 : decode yB 3 = .ok (.iload 5, 2) := by decide +kernel
theorem d5 : decode yB 5 = .ok (.iload 4, 2) := by decide +kernel
theorem d7 : decode yB 7 = .ok (.if_icmp (.ge) 37, 3) := by decide +kernel
theorem d10 : decode yB 10 = .ok (.aload_n 0, 1) := by decide +kernel
theorem d11 : decode yB 11 = .ok (.iload_n 1, 1) := by decide +kernel
theorem d12 : decode yB 12 = .ok (.caload, 1) := by decide +kernel
theorem d13 : decode yB 13 = .ok (.istore 6, 2) := by decide +kernel
theorem d15 : decode yB 15 = .ok (.iload 6, 2) := by decide +kernel
theorem d17 : decode yB 17 = .ok (.sipush 255, 3) := by decide +kernel
theorem d20 : decode yB 20 = .ok (.if_icmp (.le) 6, 3) := by decide +kernel
theorem d26 : decode yB 26 = .ok (.aload_n 2, 1) := by decide +kernel
theorem d27 : decode yB 27 = .ok (.iload_n 3, 1) := by decide +kernel
theorem d28 : decode yB 28 = .ok (.iload 6, 2) := by decide +kernel
theorem d30 : decode yB 30 = .ok (.i2b, 1) := by decide +kernel
theorem d31 : decode yB 31 = .ok (.bastore, 1) := by decide +kernel
theorem d32 : decode yB 32 = .ok (.iinc 1 1, 3) := by decide +kernel
theorem d35 : decode yB 35 = .ok (.iinc 3 1, 3) := by decide +kernel
theorem d38 : decode yB 38 = .ok (.iinc 5 1, 3) := by decide +kernel
theorem d41 : decode yB 41 = .ok (.goto (-38), 3) := by decide +kernel
theorem d44 : decode yB 44 = .ok (.iload 4, 2) := by decide +kernel
theorem d46 : decode yB 46 = .ok (.ireturn, 1) := by decide +kernel
def site : List Cond := []
def tab : Cond := tabOf yN yB 7 (some .int) site
def P (b : Addr) (A : Cell) (d : Addr) (B : Cell) (o q len : Nat) (args : Array Value) (s : State) : Prop := args = #[.ref b, .int (Int32.ofNat o), .ref d, .int (Int32.ofNat q), .int (Int32.ofNat len)] ∧ Ch b A s ∧ Arr .byte d B s ∧ b ≠ d ∧ o + len ≤ A.slots.size ∧ q + len ≤ B.slots.size ∧ ∀ i, i < len → ¬ 255 < cv A (o + i)
def E (b : Addr) (A : Cell) (d : Addr) (B : Cell) (o q len : Nat) (r : Option Value) (s u : State) : Prop := r = some (.int (Int32.ofNat len)) ∧ ∃ B', Put d B' s u ∧ Laid B B' q (q + len) (fun j => Value.int (lo8 (cv A (o + (j - q)))))
/-- no char of the range above 255: len; the places written hold each char's low byte -/
theorem law (l : Launch) (b : Addr) (A : Cell) (d : Addr) (B : Cell) (o q len : Nat) : Law l yN 5 5 0 0 yB 7 (some .int) site (P b A d B o q len) (E b A d B o q len) (copyLocs d q len) 0 0 := by
  refine Law.of_walk (plainFor_of_name (by decide +kernel)) (by decide +kernel) (by decide +kernel) (by decide) (fun _ _ h => by rw [h.1]; rfl) (fun _ U U' hal hh h => ⟨h.1, h.2.1.mv hal hh, h.2.2.1.mv hal hh, h.2.2.2⟩) (fun r U U' V V' h1 hal h2 h => ⟨h.1, h.2.elim fun B' q => ⟨B', q.1.mv h1 h2, q.2⟩⟩) ?_
  intro p e s m args below meth c s₁ X0 hexec hbytes hml hret hlk hnm hown hh0 W hP
  obtain ⟨rfl, hA, hB, hne, l1, l2, hp⟩ := hP
  have c1 : Steps p.tables e below (s₁.setTop (entryFrame m #[.ref b, .int (Int32.ofNat o), .ref d, .int (Int32.ofNat q), .int (Int32.ofNat len)] 7)) (s₁.setTop (mkF m 0 #[.val (.ref b), .val (.int (Int32.ofNat o)), .val (.ref d), .val (.int (Int32.ofNat q)), .val (.int (Int32.ofNat len)), .unset, .unset] [])) := entry rfl
  have hA0 := hA.1.mv X0.warmed.alike hh0
  have hB0 := hB.mv X0.warmed.alike hh0
  have a31 := hA.1.2.2.2
  have c2 : Steps p.tables e below (s₁.setTop (entryFrame m #[.ref b, .int (Int32.ofNat o), .ref d, .int (Int32.ofNat q), .int (Int32.ofNat len)] 7)) (s₁.setTop (mkF m 3 #[.val (.ref b), .val (.int (Int32.ofNat o)), .val (.ref d), .val (.int (Int32.ofNat q)), .val (.int (Int32.ofNat len)), .val (.int 0), .unset] [])) := c1.trans (by
    refine iconstV X0.here hexec rfl 0 (hb hbytes d0) (by decide) ?_
    refine XS.istore X0.here hexec rfl (hb hbytes d1) rfl rfl ?_
    exact Steps.refl _)
  have loop : ∀ (r i : Nat), i + r = len → ∀ (z : Slot), (z = .unset ∨ ∃ w, z = .val w ∧ w.category = 1) → ∀ (Tl : State) (Bk : Cell), Stand p l e { frames := 0, locals := 0, cells := 0, slots := 0 } s m #[.ref b, .int (Int32.ofNat o), .ref d, .int (Int32.ofNat q), .int (Int32.ofNat len)] below meth c Tl ([] ++ copyLocs d q i) 0 0 → Put d Bk s₁ Tl → Laid B Bk q (q + i) (fun j => Value.int (lo8 (cv A (o + (j - q))))) →
      Steps p.tables e below (s₁.setTop (entryFrame m #[.ref b, .int (Int32.ofNat o), .ref d, .int (Int32.ofNat q), .int (Int32.ofNat len)] 7)) (Tl.setTop (mkF m 3 #[.val (.ref b), .val (.int (Int32.ofNat (o + i))), .val (.ref d), .val (.int (Int32.ofNat (q + i))), .val (.int (Int32.ofNat len)), .val (.int (Int32.ofNat i)), z] [])) → ∃ (T' : State) (B' : Cell) (z' : Slot), Stand p l e { frames := 0, locals := 0, cells := 0, slots := 0 } s m #[.ref b, .int (Int32.ofNat o), .ref d, .int (Int32.ofNat q), .int (Int32.ofNat len)] below meth c T' ([] ++ copyLocs d q len) 0 0 ∧ Put d B' s₁ T' ∧ Laid B B' q (q + len) (fun j => Value.int (lo8 (cv A (o + (j - q))))) ∧
      Steps p.tables e below (s₁.setTop (entryFrame m #[.ref b, .int (Int32.ofNat o), .ref d, .int (Int32.ofNat q), .int (Int32.ofNat len)] 7)) (T'.setTop (mkF m 3 #[.val (.ref b), .val (.int (Int32.ofNat (o + len))), .val (.ref d), .val (.int (Int32.ofNat (q + len))), .val (.int (Int32.ofNat len)), .val (.int (Int32.ofNat len)), z'] [])) := by
    intro r
    induction r with
    | zero =>
      intro i hi z hz Tl Bk Xl pl fl cl
      have hil : i = len := by omega
      rw [hil] at Xl fl cl
      exact ⟨Tl, Bk, z, Xl, pl, fl, cl⟩
    | succ r ih =>
      intro i hi z hz Tl Bk Xl pl fl cl
      have all := X0.warmed.alike.symm.trans Xl.warmed.alike
      have hAl := hA0.keep all (pl.other hne hA0.1)
      have hBk := hB0.like all pl.1 fl.1 fl.2.1 fl.2.2.1
      have hlt : q + i < Bk.slots.size := by rw [fl.2.2.1]; omega
      have c3 : Steps p.tables e below (s₁.setTop (entryFrame m #[.ref b, .int (Int32.ofNat o), .ref d, .int (Int32.ofNat q), .int (Int32.ofNat len)] 7)) (Tl.setTop (mkF m 12 #[.val (.ref b), .val (.int (Int32.ofNat (o + i))), .val (.ref d), .val (.int (Int32.ofNat (q + i))), .val (.int (Int32.ofNat len)), .val (.int (Int32.ofNat i)), z] [.int (Int32.ofNat (o + i)), .ref b])) := cl.trans (by
        refine XS.iload Xl.here hexec rfl (hb hbytes d3) rfl ?_
        refine XS.iload Xl.here hexec rfl (hb hbytes d5) rfl ?_
        refine XS.icmpNo Xl.here hexec rfl (hb hbytes d7) rfl (ii_ge_f (lt32 (by omega) (by omega))) ?_
        refine XS.aloadN Xl.here hexec rfl (hb hbytes d10) rfl rfl ?_
        refine XS.iloadN Xl.here hexec rfl (hb hbytes d11) rfl ?_
        exact Steps.refl _)
      have c4 : Steps p.tables e below (s₁.setTop (entryFrame m #[.ref b, .int (Int32.ofNat o), .ref d, .int (Int32.ofNat q), .int (Int32.ofNat len)] 7)) (Tl.setTop (mkF m 13 #[.val (.ref b), .val (.int (Int32.ofNat (o + i))), .val (.ref d), .val (.int (Int32.ofNat (q + i))), .val (.int (Int32.ofNat len)), .val (.int (Int32.ofNat i)), z] [.int (cv A (o + i))])) := c3.trans (by
        refine Xl.aget hexec hAl rfl (hA.get (i := o + i) (by omega)) rfl rfl (hb hbytes d12) ?_
        exact Steps.refl _)
      have c5 : Steps p.tables e below (s₁.setTop (entryFrame m #[.ref b, .int (Int32.ofNat o), .ref d, .int (Int32.ofNat q), .int (Int32.ofNat len)] 7)) (Tl.setTop (mkF m 15 #[.val (.ref b), .val (.int (Int32.ofNat (o + i))), .val (.ref d), .val (.int (Int32.ofNat (q + i))), .val (.int (Int32.ofNat len)), .val (.int (Int32.ofNat i)), .val (.int (cv A (o + i)))] [])) := c4.trans (by
        refine XS.istoreS Xl.here hexec rfl (hb hbytes d13) rfl rfl hz ?_
        exact Steps.refl _)
      have c6 : Steps p.tables e below (s₁.setTop (entryFrame m #[.ref b, .int (Int32.ofNat o), .ref d, .int (Int32.ofNat q), .int (Int32.ofNat len)] 7)) (Tl.setTop (mkF m 31 #[.val (.ref b), .val (.int (Int32.ofNat (o + i))), .val (.ref d), .val (.int (Int32.ofNat (q + i))), .val (.int (Int32.ofNat len)), .val (.int (Int32.ofNat i)), .val (.int (cv A (o + i)))] [.int (lo8 (cv A (o + i))), .int (Int32.ofNat (q + i)), .ref d])) := c5.trans (by
        refine XS.iload Xl.here hexec rfl (hb hbytes d15) rfl ?_
        refine sipushV Xl.here hexec rfl 255 (hb hbytes d17) (by decide) ?_
        refine XS.icmpYes Xl.here hexec rfl (pc0 := 20) rfl (hb hbytes d20) rfl (ii_le_t (hp i (by omega))) (by decide) rfl ?_
        refine XS.aloadN Xl.here hexec rfl (hb hbytes d26) rfl rfl ?_
        refine XS.iloadN Xl.here hexec rfl (hb hbytes d27) rfl ?_
        refine XS.iload Xl.here hexec rfl (hb hbytes d28) rfl ?_
        refine i2b Xl.here hexec rfl (hb hbytes d30) rfl ?_
        exact Steps.refl _)
      obtain ⟨T7, X7, p7, st7⟩ := Xl.aput hexec hBk rfl hlt rfl (fits_lo8 (cv A (o + i))) (g := (mkF m 31 #[.val (.ref b), .val (.int (Int32.ofNat (o + i))), .val (.ref d), .val (.int (Int32.ofNat (q + i))), .val (.int (Int32.ofNat len)), .val (.int (Int32.ofNat i)), .val (.int (cv A (o + i)))] [.int (lo8 (cv A (o + i))), .int (Int32.ofNat (q + i)), .ref d])) rfl (rest := []) rfl (hb hbytes d31)
      have c8 : Steps p.tables e below (s₁.setTop (entryFrame m #[.ref b, .int (Int32.ofNat o), .ref d, .int (Int32.ofNat q), .int (Int32.ofNat len)] 7)) (T7.setTop (mkF m 32 #[.val (.ref b), .val (.int (Int32.ofNat (o + i))), .val (.ref d), .val (.int (Int32.ofNat (q + i))), .val (.int (Int32.ofNat len)), .val (.int (Int32.ofNat i)), .val (.int (cv A (o + i)))] [])) := c6.trans (st7 _ (Steps.refl _))
      have c9 : Steps p.tables e below (s₁.setTop (entryFrame m #[.ref b, .int (Int32.ofNat o), .ref d, .int (Int32.ofNat q), .int (Int32.ofNat len)] 7)) (T7.setTop (mkF m 3 #[.val (.ref b), .val (.int (Int32.ofNat (o + i) + 1)), .val (.ref d), .val (.int (Int32.ofNat (q + i) + 1)), .val (.int (Int32.ofNat len)), .val (.int (Int32.ofNat i + 1)), .val (.int (cv A (o + i)))] [])) := c8.trans (by
        refine iincV X7.here hexec rfl 1 (hb hbytes d32) (by decide) rfl rfl ?_
        refine iincV X7.here hexec rfl 1 (hb hbytes d35) (by decide) rfl rfl ?_
        refine iincV X7.here hexec rfl 1 (hb hbytes d38) (by decide) rfl rfl ?_
        refine XS.goto X7.here hexec rfl (pc0 := 41) rfl (hb hbytes d41) (by decide) rfl ?_
        exact Steps.refl _)
      have c10 : Steps p.tables e below (s₁.setTop (entryFrame m #[.ref b, .int (Int32.ofNat o), .ref d, .int (Int32.ofNat q), .int (Int32.ofNat len)] 7)) (T7.setTop (mkF m 3 #[.val (.ref b), .val (.int (Int32.ofNat (o + (i + 1)))), .val (.ref d), .val (.int (Int32.ofNat (q + (i + 1)))), .val (.int (Int32.ofNat len)), .val (.int (Int32.ofNat (i + 1))), .val (.int (cv A (o + i)))] [])) := by
        have := c9
        rw [succ32, succ32, succ32] at this
        exact this
      exact ih (i + 1) (by omega) _ (Or.inr ⟨_, rfl, rfl⟩) T7 _ (by rw [copyLocs_step, ← List.append_assoc]; exact X7) (pl.trans p7) (fl.step (by omega) hlt (by simp)) c10
  obtain ⟨T9, B9, z9, X9, p9, f9, g9⟩ := loop len 0 (by omega) .unset (Or.inl rfl) s₁ B (by simpa [copyLocs] using X0) ⟨hB0.1, fun _ _ => rfl, rfl⟩ (Laid.zero _ _ _) c2
  have c11 : Steps p.tables e below (s₁.setTop (entryFrame m #[.ref b, .int (Int32.ofNat o), .ref d, .int (Int32.ofNat q), .int (Int32.ofNat len)] 7)) (T9.setTop (mkF m 46 #[.val (.ref b), .val (.int (Int32.ofNat (o + len))), .val (.ref d), .val (.int (Int32.ofNat (q + len))), .val (.int (Int32.ofNat len)), .val (.int (Int32.ofNat len)), z9] [.int (Int32.ofNat len)])) := g9.trans (by
    refine XS.iload X9.here hexec rfl (hb hbytes d3) rfl ?_
    refine XS.iload X9.here hexec rfl (hb hbytes d5) rfl ?_
    refine XS.icmpYes X9.here hexec rfl (pc0 := 7) rfl (hb hbytes d7) rfl (ii_ge_t (nlt32 (by omega) (Nat.le_refl _))) (by decide) rfl ?_
    refine XS.iload X9.here hexec rfl (hb hbytes d44) rfl ?_
    exact Steps.refl _)
  exact ⟨T9, some (.int (Int32.ofNat len)), _, _, _, X9, by simp, rfl, rfl, (fun h => by cases h), ⟨rfl, B9, p9.from hh0, f9⟩, fun fs hl => c11.trans (X9.ireturnOut hexec hret rfl (Or.inl rfl) (hb hbytes d46) hl)⟩
end Cmp5
namespace Cmp3
def yN : MethodName := ⟨"java/lang/StringUTF16", "compress", "([CII)[B"⟩
abbrev yB : ByteArray := jdk_52_method_16_code
theorem d0 : decode yB 0 = .ok (.iload_n 2, 1) := by decide +kernel
theorem d1 : decode yB 1 = .ok (.newarray .byte, 2) := by decide +kernel
theorem d3 : decode yB 3 = .ok (.astore_n 3, 1) := by decide +kernel
theorem d4 : decode yB 4 = .ok (.aload_n 0, 1) := by decide +kernel
theorem d5 : decode yB 5 = .ok (.iload_n 1, 1) := by decide +kernel
theorem d6 : decode yB 6 = .ok (.aload_n 3, 1) := by decide +kernel
theorem d7 : decode yB 7 = .ok (.iconst 0, 1) := by decide +kernel
theorem d8 : decode yB 8 = .ok (.iload_n 2, 1) := by decide +kernel
theorem d9 : decode yB 9 = .ok (.invokestatic 115, 3) := by decide +kernel
theorem d12 : decode yB 12 = .ok (.istore 4, 2) := by decide +kernel
theorem d14 : decode yB 14 = .ok (.iload 4, 2) := by decide +kernel
theorem d16 : decode yB 16 = .ok (.iload_n 2, 1) := by decide +kernel
theorem d17 : decode yB 17 = .ok (.if_icmp (.eq) 40, 3) := by decide +kernel
theorem d57 : decode yB 57 = .ok (.aload_n 3, 1) := by decide +kernel
theorem d58 : decode yB 58 = .ok (.areturn, 1) := by decide +kernel
def site : List Cond := [.arrayClass .byte, Cmp5.tab] ++ staticW U16 115 Cmp5.yN
def tab : Cond := tabOf yN yB 6 (some (.array .byte)) site
def P (b : Addr) (A : Cell) (o len : Nat) (args : Array Value) (s : State) : Prop := args = #[.ref b, .int (Int32.ofNat o), .int (Int32.ofNat len)] ∧ Ch b A s ∧ o + len ≤ A.slots.size ∧ len ≤ 536870912 ∧ ∀ i, i < len → ¬ 255 < cv A (o + i)
def E (b : Addr) (A : Cell) (o len : Nat) (r : Option Value) (s u : State) : Prop := NewArr .byte "[B" len (fun j => .int (lo8 (cv A (o + j)))) r s u ∧ u.heap.size = s.heap.size + 1
/-- no char of the range above 255: a new byte[] of their low bytes -/
theorem law (l : Launch) (b : Addr) (A : Cell) (o len : Nat) : Law l yN 3 3 1 18 yB 6 (some (.array .byte)) site (P b A o len) (E b A o len) [] 1 len := by
  refine Law.of_walk (plainFor_of_name (by decide +kernel)) (by decide +kernel) (by decide +kernel) (by decide) (fun _ _ h => by rw [h.1]; rfl) (fun _ U U' hal hh h => ⟨h.1, h.2.1.mv hal hh, h.2.2⟩) (fun r U U' V V' h1 hal h2 h => ⟨NewArr.mv r U U' V V' h1 hal h2 h.1, by rw [h1, h2]; exact h.2⟩) ?_
  intro p e s m args below meth c s₁ X0 hexec hbytes hml hret hlk hnm hown hh0 W hP
  obtain ⟨rfl, hA, l1, l2, hp⟩ := hP
  have a31 := hA.1.2.2.2
  have c1 : Steps p.tables e below (s₁.setTop (entryFrame m #[.ref b, .int (Int32.ofNat o), .int (Int32.ofNat len)] 6)) (s₁.setTop (mkF m 0 #[.val (.ref b), .val (.int (Int32.ofNat o)), .val (.int (Int32.ofNat len)), .unset, .unset, .unset] [])) := entry rfl
  have c2 : Steps p.tables e below (s₁.setTop (entryFrame m #[.ref b, .int (Int32.ofNat o), .int (Int32.ofNat len)] 6)) (s₁.setTop (mkF m 1 #[.val (.ref b), .val (.int (Int32.ofNat o)), .val (.int (Int32.ofNat len)), .unset, .unset, .unset] [.int (Int32.ofNat len)])) := c1.trans (by
    refine XS.iloadN X0.here hexec rfl (hb hbytes d0) rfl ?_
    exact Steps.refl _)
  obtain ⟨T3, B3, X3, ba3, bs3, bv3, bh3, bf3, st3⟩ := X0.anew hexec (atype := .byte) (wk W (.arrayClass .byte)) rfl (by show len * 1 ≤ _; omega) (by omega) (g := (mkF m 1 #[.val (.ref b), .val (.int (Int32.ofNat o)), .val (.int (Int32.ofNat len)), .unset, .unset, .unset] [.int (Int32.ofNat len)])) rfl (hb hbytes d1) (rest := []) rfl (Nat.le_refl _) (by show 0 + len ≤ len; omega)
  rw [hh0] at ba3 st3
  have kp3 : XT.Kept s T3 := (XT.Kept.of_eq hh0).push bh3
  have hA3 := hA.keep X3.warmed.alike (kp3 _ _ hA.1.1)
  have hne : b ≠ s.heap.size := hA.1.ne
  have c4 : Steps p.tables e below (s₁.setTop (entryFrame m #[.ref b, .int (Int32.ofNat o), .int (Int32.ofNat len)] 6)) (T3.setTop (mkF m 3 #[.val (.ref b), .val (.int (Int32.ofNat o)), .val (.int (Int32.ofNat len)), .unset, .unset, .unset] [.ref s.heap.size])) := c2.trans (st3 _ (Steps.refl _))
  have c5 : Steps p.tables e below (s₁.setTop (entryFrame m #[.ref b, .int (Int32.ofNat o), .int (Int32.ofNat len)] 6)) (T3.setTop (mkF m 9 #[.val (.ref b), .val (.int (Int32.ofNat o)), .val (.int (Int32.ofNat len)), .val (.ref s.heap.size), .unset, .unset] [.int (Int32.ofNat len), .int 0, .ref s.heap.size, .int (Int32.ofNat o), .ref b])) := c4.trans (by
    refine XS.astoreN X3.here hexec rfl (hb hbytes d3) rfl rfl rfl ?_
    refine XS.aloadN X3.here hexec rfl (hb hbytes d4) rfl rfl ?_
    refine XS.iloadN X3.here hexec rfl (hb hbytes d5) rfl ?_
    refine XS.aloadN X3.here hexec rfl (hb hbytes d6) rfl rfl ?_
    refine iconstV X3.here hexec rfl 0 (hb hbytes d7) (by decide) ?_
    refine XS.iloadN X3.here hexec rfl (hb hbytes d8) rfl ?_
    exact Steps.refl _)
  obtain ⟨v6, T6, X6, E6, g6⟩ := X3.callS hexec (Cmp5.law l b A s.heap.size B3 o 0 len) hown (wks W (staticW U16 115 Cmp5.yN)) (wk W Cmp5.tab) (W := 0) (Nat.le_of_ble_eq_true rfl) (Nat.le_of_ble_eq_true rfl) (Nat.le_refl _) (by show 0 + len + 0 ≤ len; omega) (g := (mkF m 9 #[.val (.ref b), .val (.int (Int32.ofNat o)), .val (.int (Int32.ofNat len)), .val (.ref s.heap.size), .unset, .unset] [.int (Int32.ofNat len), .int (Int32.ofNat 0), .ref s.heap.size, .int (Int32.ofNat o), .ref b])) rfl (by rw [hml]; rfl) c5 (argsL := [.ref b, .int (Int32.ofNat o), .ref s.heap.size, .int (Int32.ofNat 0), .int (Int32.ofNat len)]) (rest := []) rfl rfl (by show 2 * 0 + 0 ≤ _; decide) (hb hbytes d9) (⟨rfl, hA3, ba3, hne, l1, by rw [bs3]; simp, hp⟩)
  obtain ⟨rfl, B6, p6, f6⟩ := E6
  have c7 : Steps p.tables e below (s₁.setTop (entryFrame m #[.ref b, .int (Int32.ofNat o), .int (Int32.ofNat len)] 6)) (T6.setTop (mkF m 12 #[.val (.ref b), .val (.int (Int32.ofNat o)), .val (.int (Int32.ofNat len)), .val (.ref s.heap.size), .unset, .unset] [.int (Int32.ofNat len)])) := g6
  have c8 : Steps p.tables e below (s₁.setTop (entryFrame m #[.ref b, .int (Int32.ofNat o), .int (Int32.ofNat len)] 6)) (T6.setTop (mkF m 58 #[.val (.ref b), .val (.int (Int32.ofNat o)), .val (.int (Int32.ofNat len)), .val (.ref s.heap.size), .val (.int (Int32.ofNat len)), .unset] [.ref s.heap.size])) := c7.trans (by
    refine XS.istore X6.here hexec rfl (hb hbytes d12) rfl rfl ?_
    refine XS.iload X6.here hexec rfl (hb hbytes d14) rfl ?_
    refine XS.iloadN X6.here hexec rfl (hb hbytes d16) rfl ?_
    refine XS.icmpYes X6.here hexec rfl (pc0 := 17) rfl (hb hbytes d17) rfl (ii_eq_t rfl) (by decide) rfl ?_
    refine XS.aloadN X6.here hexec rfl (hb hbytes d57) rfl rfl ?_
    exact Steps.refl _)
  have X8 := X6.wide (L' := []) (cells' := 1) (slots' := len) (fun x hx hlt => by
    simp only [List.nil_append, copyLocs, List.mem_map, List.mem_range] at hx
    obtain ⟨i, -, rfl⟩ := hx
    exact absurd hlt (Nat.lt_irrefl _)) (Nat.le_refl _) (by omega)
  exact ⟨T6, some (.ref s.heap.size), _, _, _, X8, rfl, rfl, rfl, (fun h => by cases h), ⟨⟨rfl, B6, ba3.like (X3.warmed.alike.symm.trans X6.warmed.alike) p6.1 f6.1 f6.2.1 f6.2.2.1, f6.2.1.trans bv3, by rw [X6.warmed.alike.findClass, f6.1]; exact bf3, by rw [f6.2.2.1, bs3]; simp, fun j hj => by rw [f6.2.2.2 j, if_pos (by omega)]; rfl, kp3.put p6 (Nat.le_refl _)⟩, by rw [p6.2.2, bh3, hh0]; simp⟩, fun fs hl => c8.trans (X8.areturnOut hexec rfl hret rfl (hb hbytes d58) hl)⟩
end Cmp3
namespace CodL
def yN : MethodName := ⟨"java/lang/StringUTF16", "coderFromArrayLen", "([BI)B"⟩
abbrev yB : ByteArray := jdk_52_method_15_code
theorem d0 : decode yB 0 = .ok (.iload_n 1, 1) := by decide +kernel
theorem d1 : decode yB 1 = .ok (.aload_n 0, 1) := by decide +kernel
theorem d2 : decode yB 2 = .ok (.arraylength, 1) := by decide +kernel
theorem d3 : decode yB 3 = .ok (.isub, 1) := by decide +kernel
theorem d4 : decode yB 4 = .ok (.bipush 31, 2) := by decide +kernel
theorem d6 : decode yB 6 = .ok (.iushr, 1) := by decide +kernel
theorem d7 : decode yB 7 = .ok (.i2b, 1) := by decide +kernel
theorem d8 : decode yB 8 = .ok (.ireturn, 1) := by decide +kernel
def site : List Cond := []
def tab : Cond := tabOf yN yB 2 (some .byte) site
def P (d : Addr) (B : Cell) (args : Array Value) (s : State) : Prop := args = #[.ref d, .int (Int32.ofNat B.slots.size)] ∧ Arr .byte d B s
def E (r : Option Value) (s u : State) : Prop := XT.PureE (some (.int 0)) r s u
/-- an array as long as the number of chars: LATIN1 -/
theorem law (l : Launch) (d : Addr) (B : Cell) : Law l yN 2 2 0 0 yB 2 (some .byte) site (P d B) E [] 0 0 := by
  refine Law.of_walk (plainFor_of_name (by decide +kernel)) (by decide +kernel) (by decide +kernel) (by decide) (fun _ _ h => by rw [h.1]; rfl) (fun _ U U' hal hh h => ⟨h.1, h.2.mv hal hh⟩) (fun r U U' V V' h1 hal h2 h => XT.PureE.mv r U U' V V' h1 hal h2 h) ?_
  intro p e s m args below meth c s₁ X0 hexec hbytes hml hret hlk hnm hown hh0 W hP
  obtain ⟨rfl, hB⟩ := hP
  have hB0 := hB.mv X0.warmed.alike hh0
  have c1 : Steps p.tables e below (s₁.setTop (entryFrame m #[.ref d, .int (Int32.ofNat B.slots.size)] 2)) (s₁.setTop (mkF m 0 #[.val (.ref d), .val (.int (Int32.ofNat B.slots.size))] [])) := entry rfl
  have c2 : Steps p.tables e below (s₁.setTop (entryFrame m #[.ref d, .int (Int32.ofNat B.slots.size)] 2)) (s₁.setTop (mkF m 2 #[.val (.ref d), .val (.int (Int32.ofNat B.slots.size))] [.ref d, .int (Int32.ofNat B.slots.size)])) := c1.trans (by
    refine XS.iloadN X0.here hexec rfl (hb hbytes d0) rfl ?_
    refine XS.aloadN X0.here hexec rfl (hb hbytes d1) rfl rfl ?_
    exact Steps.refl _)
  have c3 : Steps p.tables e below (s₁.setTop (entryFrame m #[.ref d, .int (Int32.ofNat B.slots.size)] 2)) (s₁.setTop (mkF m 8 #[.val (.ref d), .val (.int (Int32.ofNat B.slots.size))] [.int (lo8 (ushr (Int32.ofNat B.slots.size - Int32.ofNat B.slots.size) 31))])) := c2.trans (by
    refine X0.alen hexec hB0 rfl rfl (hb hbytes d2) ?_
    refine XS.isub X0.here hexec rfl (hb hbytes d3) rfl ?_
    refine bipushV X0.here hexec rfl 31 (hb hbytes d4) (by decide) ?_
    refine iushr X0.here hexec rfl (hb hbytes d6) rfl ?_
    refine i2b X0.here hexec rfl (hb hbytes d7) rfl ?_
    exact Steps.refl _)
  have e0 : lo8 (ushr (Int32.ofNat B.slots.size - Int32.ofNat B.slots.size) 31) = 0 := by rw [Int32.sub_self]; decide
  rw [e0] at c3
  exact ⟨s₁, some (.int 0), _, _, _, X0, rfl, rfl, rfl, (fun h => by cases h), ⟨rfl, hh0⟩, fun fs hl => c3.trans (X0.ireturnOut hexec hret rfl (Or.inr (Or.inr (Or.inl rfl))) (hb hbytes d8) hl)⟩
end CodL
/-- the String at a is Latin-1 over a new byte[] (the heap's one new cell): the low bytes of the len chars of A from o on; every cell but a is kept -/
def Got (a : Addr) (D : Cell) (fV fC : Field) (A : Cell) (o len : Nat) (r : Option Value) (s u : State) : Prop := r = none ∧ ∃ D' V : Cell, Blank "java/lang/String" a D' u ∧ Same D D' [fV.slot, fC.slot] ∧ D'.slots[fV.slot]? = some (.ref s.heap.size) ∧ D'.slots[fC.slot]? = some (.int 0) ∧ Arr .byte s.heap.size V u ∧ V.vm = .none ∧ u.vm.findClass "[B" = some V.cls ∧ V.slots.size = len ∧ (∀ j, j < len → V.slots[j]? = some (.int (lo8 (cv A (o + j))))) ∧ (∀ (y : Addr) (c : Cell), y ≠ a → s.heap[y]? = some c → u.heap[y]? = some c) ∧ u.heap.size = s.heap.size + 1
theorem Got.mv {a : Addr} {D A : Cell} {fV fC : Field} {o len : Nat} : ∀ r (U U' V V' : State), U'.heap = U.heap → V.vm.Alike V'.vm → V'.heap = V.heap → Got a D fV fC A o len r U V → Got a D fV fC A o len r U' V' :=
  fun r U U' V V' h1 hal h2 ⟨e0, D', X, a1, a2, a3, a4, a5, a6, a7, a8, a9, a10, a11⟩ => ⟨e0, D', X, a1.mv hal h2, a2, by rw [h1]; exact a3, a4, by rw [h1]; exact a5.mv hal h2, a6, by rw [hal.findClass]; exact a7, a8, a9, by rw [h1, h2]; exact a10, by rw [h1, h2]; exact a11⟩
namespace New4
def yN : MethodName := ⟨"java/lang/String", "<init>", "([CIILjava/lang/Void;)V"⟩
abbrev yB : ByteArray := jdk_42_method_149_code
theorem d0 : decode yB 0 = .ok (.aload_n 0, 1) := by decide +kernel
theorem d1 : decode yB 1 = .ok (.invokespecial 1, 3) := by decide +kernel
theorem d4 : decode yB 4 = .ok (.iload_n 3, 1) := by decide +kernel
theorem d5 : decode yB 5 = .ok (.ifCond (.ne) 22, 3) := by decide +kernel
theorem d27 : decode yB 27 = .ok (.getstatic 38, 3) := by decide +kernel
theorem d30 : decode yB 30 = .ok (.ifCond (.eq) 28, 3) := by decide +kernel
theorem d33 : decode yB 33 = .ok (.aload_n 1, 1) := by decide +kernel
theorem d34 : decode yB 34 = .ok (.iload_n 2, 1) := by decide +kernel
theorem d35 : decode yB 35 = .ok (.iload_n 3, 1) := by decide +kernel
theorem d36 : decode yB 36 = .ok (.invokestatic 177, 3) := by decide +kernel
theorem d39 : decode yB 39 = .ok (.astore 5, 2) := by decide +kernel
theorem d41 : decode yB 41 = .ok (.aload_n 0, 1) := by decide +kernel
theorem d42 : decode yB 42 = .ok (.aload 5, 2) := by decide +kernel
theorem d44 : decode yB 44 = .ok (.iload_n 3, 1) := by decide +kernel
theorem d45 : decode yB 45 = .ok (.invokestatic 47, 3) := by decide +kernel
theorem d48 : decode yB 48 = .ok (.putfield 15, 3) := by decide +kernel
theorem d51 : decode yB 51 = .ok (.aload_n 0, 1) := by decide +kernel
theorem d52 : decode yB 52 = .ok (.aload 5, 2) := by decide +kernel
theorem d54 : decode yB 54 = .ok (.putfield 9, 3) := by decide +kernel
theorem d57 : decode yB 57 = .ok (.return_, 1) := by decide +kernel
def site : List Cond := [.fieldLink "java/lang/String" 38 "java/lang/String" "COMPACT_STRINGS" "Z", Cmp3.tab, CodL.tab, .laysFinal "java/lang/String" "java/lang/String" "value" "[B", .fieldLink "java/lang/String" 9 "java/lang/String" "value" "[B", .laysFinal "java/lang/String" "java/lang/String" "coder" "B", .fieldLink "java/lang/String" 15 "java/lang/String" "coder" "B"] ++ objW "java/lang/String" 1 ++ staticW "java/lang/String" 177 Cmp3.yN ++ staticW "java/lang/String" 47 CodL.yN
def tab : Cond := tabOf yN yB 6 none site
def P (a : Addr) (D : Cell) (fV fC : Field) (b : Addr) (A : Cell) (z : Int32) (o len : Nat) (args : Array Value) (s : State) : Prop := args = #[.ref a, .ref b, .int (Int32.ofNat o), .int (Int32.ofNat len), .null] ∧ Blank "java/lang/String" a D s ∧ Found "java/lang/String" "value" "[B" fV s ∧ Found "java/lang/String" "coder" "B" fC s ∧ Ch b A s ∧ StaticIs s "java/lang/String" "COMPACT_STRINGS" "Z" (.int z) ∧ ¬ z = 0 ∧ 0 < len ∧ o + len ≤ A.slots.size ∧ len ≤ 536870912 ∧ ∀ i, i < len → ¬ 255 < cv A (o + i)
def E (a : Addr) (D : Cell) (fV fC : Field) (A : Cell) (o len : Nat) (r : Option Value) (s u : State) : Prop := Got a D fV fC A o len r s u
/-- len > 0, no char of the range above 255: a Latin-1 String of their low bytes -/
theorem law (l : Launch) (a : Addr) (D : Cell) (fV fC : Field) (b : Addr) (A : Cell) (z : Int32) (o len : Nat) : Law l yN 5 4 2 35 yB 6 none site (P a D fV fC b A z o len) (E a D fV fC A o len) [⟨a, fC.slot⟩, ⟨a, fV.slot⟩] 1 len := by
  refine Law.of_walk (plainFor_of_name (by decide +kernel)) (by decide +kernel) (by decide +kernel) (by decide) (fun _ _ h => by rw [h.1]; rfl) (fun _ U U' hal hh h => ⟨h.1, h.2.1.mv hal hh, h.2.2.1.al hal, h.2.2.2.1.al hal, h.2.2.2.2.1.mv hal hh, h.2.2.2.2.2.1.there hal hh, h.2.2.2.2.2.2⟩) (fun r U U' V V' h1 hal h2 h => Got.mv r U U' V V' h1 hal h2 h) ?_
  intro p e s m args below meth c s₁ X0 hexec hbytes hml hret hlk hnm hown hh0 W hP
  obtain ⟨rfl, hB, f1, f2, hA, s1, hz, l0, l1, l2, hp⟩ := hP
  have a31 := hA.1.2.2.2
  have c1 : Steps p.tables e below (s₁.setTop (entryFrame m #[.ref a, .ref b, .int (Int32.ofNat o), .int (Int32.ofNat len), .null] 6)) (s₁.setTop (mkF m 0 #[.val (.ref a), .val (.ref b), .val (.int (Int32.ofNat o)), .val (.int (Int32.ofNat len)), .val .null, .unset] [])) := entry rfl
  have c2 : Steps p.tables e below (s₁.setTop (entryFrame m #[.ref a, .ref b, .int (Int32.ofNat o), .int (Int32.ofNat len), .null] 6)) (s₁.setTop (mkF m 1 #[.val (.ref a), .val (.ref b), .val (.int (Int32.ofNat o)), .val (.int (Int32.ofNat len)), .val .null, .unset] [.ref a])) := c1.trans (by
    refine XS.aloadN X0.here hexec rfl (hb hbytes d0) rfl rfl ?_
    exact Steps.refl _)
  obtain ⟨T3, X3, q3, st3⟩ := X0.oinit hexec hown (wks W (objW "java/lang/String" 1)) (g := (mkF m 1 #[.val (.ref a), .val (.ref b), .val (.int (Int32.ofNat o)), .val (.int (Int32.ofNat len)), .val .null, .unset] [.ref a])) rfl (by rw [hml]; rfl) (rest := []) rfl (hb hbytes d1) (W := 0) (by show 2 * 0 + 0 ≤ _; decide) (Nat.le_of_ble_eq_true rfl) (Nat.le_of_ble_eq_true rfl)
  have hh3 := q3.trans hh0
  have c4 : Steps p.tables e below (s₁.setTop (entryFrame m #[.ref a, .ref b, .int (Int32.ofNat o), .int (Int32.ofNat len), .null] 6)) (T3.setTop (mkF m 27 #[.val (.ref a), .val (.ref b), .val (.int (Int32.ofNat o)), .val (.int (Int32.ofNat len)), .val .null, .unset] [])) := (c2.trans (st3 _ (Steps.refl _))).trans (by
    refine XS.iloadN X3.here hexec rfl (hb hbytes d4) rfl ?_
    refine XS.ifYes X3.here hexec rfl (pc0 := 5) rfl (hb hbytes d5) rfl (i0_ne_t (nz32 (by omega) l0)) (by decide) rfl ?_
    exact Steps.refl _)
  obtain ⟨T5, X5, q5, st5⟩ := X3.sget hexec hown (wk W (.fieldLink "java/lang/String" 38 "java/lang/String" "COMPACT_STRINGS" "Z")) s1 (fun _ _ h => by rw [hh3]; exact h) (g := (mkF m 27 #[.val (.ref a), .val (.ref b), .val (.int (Int32.ofNat o)), .val (.int (Int32.ofNat len)), .val .null, .unset] [])) rfl (hb hbytes d27)
  have hh5 := q5.trans hh3
  have c6 : Steps p.tables e below (s₁.setTop (entryFrame m #[.ref a, .ref b, .int (Int32.ofNat o), .int (Int32.ofNat len), .null] 6)) (T5.setTop (mkF m 30 #[.val (.ref a), .val (.ref b), .val (.int (Int32.ofNat o)), .val (.int (Int32.ofNat len)), .val .null, .unset] [.int z])) := c4.trans (st5 _ (Steps.refl _))
  have c7 : Steps p.tables e below (s₁.setTop (entryFrame m #[.ref a, .ref b, .int (Int32.ofNat o), .int (Int32.ofNat len), .null] 6)) (T5.setTop (mkF m 36 #[.val (.ref a), .val (.ref b), .val (.int (Int32.ofNat o)), .val (.int (Int32.ofNat len)), .val .null, .unset] [.int (Int32.ofNat len), .int (Int32.ofNat o), .ref b])) := c6.trans (by
    refine XS.ifNo X5.here hexec rfl (hb hbytes d30) rfl (i0_eq_f hz) ?_
    refine XS.aloadN X5.here hexec rfl (hb hbytes d33) rfl rfl ?_
    refine XS.iloadN X5.here hexec rfl (hb hbytes d34) rfl ?_
    refine XS.iloadN X5.here hexec rfl (hb hbytes d35) rfl ?_
    exact Steps.refl _)
  obtain ⟨v8, T8, X8, E8, g8⟩ := X5.callS hexec (Cmp3.law l b A o len) hown (wks W (staticW "java/lang/String" 177 Cmp3.yN)) (wk W Cmp3.tab) (W := 0) (Nat.le_of_ble_eq_true rfl) (Nat.le_of_ble_eq_true rfl) (Nat.le_refl _) (by show 0 + len ≤ len; omega) (g := (mkF m 36 #[.val (.ref a), .val (.ref b), .val (.int (Int32.ofNat o)), .val (.int (Int32.ofNat len)), .val .null, .unset] [.int (Int32.ofNat len), .int (Int32.ofNat o), .ref b])) rfl (by rw [hml]; rfl) c7 (argsL := [.ref b, .int (Int32.ofNat o), .int (Int32.ofNat len)]) (rest := []) rfl rfl (by show 2 * 0 + 0 ≤ _; decide) (hb hbytes d36) (⟨rfl, hA.mv X5.warmed.alike hh5, l1, l2, hp⟩)
  obtain ⟨e8, z8⟩ := E8
  obtain ⟨rfl, N, n1, n2, n3, n4, n5, n6⟩ := NewArr.mv _ T5 s _ _ hh5.symm (Vm.Alike.refl _) rfl e8
  rw [hh5] at z8
  have hB1 := hB.keep X8.warmed.alike (n6 _ _ hB.1)
  have hne : s.heap.size ≠ a := (Nat.ne_of_lt (Array.getElem?_eq_some_iff.mp hB.1).1).symm
  have c9 : Steps p.tables e below (s₁.setTop (entryFrame m #[.ref a, .ref b, .int (Int32.ofNat o), .int (Int32.ofNat len), .null] 6)) (T8.setTop (mkF m 39 #[.val (.ref a), .val (.ref b), .val (.int (Int32.ofNat o)), .val (.int (Int32.ofNat len)), .val .null, .unset] [.ref s.heap.size])) := g8
  have c10 : Steps p.tables e below (s₁.setTop (entryFrame m #[.ref a, .ref b, .int (Int32.ofNat o), .int (Int32.ofNat len), .null] 6)) (T8.setTop (mkF m 45 #[.val (.ref a), .val (.ref b), .val (.int (Int32.ofNat o)), .val (.int (Int32.ofNat len)), .val .null, .val (.ref s.heap.size)] [.int (Int32.ofNat N.slots.size), .ref s.heap.size, .ref a])) := by
    have hc : Steps p.tables e below (s₁.setTop (entryFrame m #[.ref a, .ref b, .int (Int32.ofNat o), .int (Int32.ofNat len), .null] 6)) (T8.setTop (mkF m 45 #[.val (.ref a), .val (.ref b), .val (.int (Int32.ofNat o)), .val (.int (Int32.ofNat len)), .val .null, .val (.ref s.heap.size)] [.int (Int32.ofNat len), .ref s.heap.size, .ref a])) := c9.trans (by
      refine XS.astore X8.here hexec rfl (hb hbytes d39) rfl rfl rfl ?_
      refine XS.aloadN X8.here hexec rfl (hb hbytes d41) rfl rfl ?_
      refine XS.aload X8.here hexec rfl (hb hbytes d42) rfl rfl ?_
      refine XS.iloadN X8.here hexec rfl (hb hbytes d44) rfl ?_
      exact Steps.refl _)
    rw [n4]; exact hc
  obtain ⟨v11, T11, X11, E11, g11⟩ := X8.callS hexec (CodL.law l s.heap.size N) hown (wks W (staticW "java/lang/String" 47 CodL.yN)) (wk W CodL.tab) (W := 1) (Nat.le_of_ble_eq_true rfl) (Nat.le_of_ble_eq_true rfl) (Nat.le_refl _) (by show 0 + len + 0 ≤ len; omega) (g := (mkF m 45 #[.val (.ref a), .val (.ref b), .val (.int (Int32.ofNat o)), .val (.int (Int32.ofNat len)), .val .null, .val (.ref s.heap.size)] [.int (Int32.ofNat N.slots.size), .ref s.heap.size, .ref a])) rfl (by rw [hml]; rfl) c10 (argsL := [.ref s.heap.size, .int (Int32.ofNat N.slots.size)]) (rest := [.ref a]) rfl rfl (by show 2 * 0 + (1 + 0) ≤ _; decide) (hb hbytes d45) (⟨rfl, n1⟩)
  obtain ⟨rfl, q11⟩ := E11
  have hB11 := hB1.mv (X8.warmed.alike.symm.trans X11.warmed.alike) q11
  have c12 : Steps p.tables e below (s₁.setTop (entryFrame m #[.ref a, .ref b, .int (Int32.ofNat o), .int (Int32.ofNat len), .null] 6)) (T11.setTop (mkF m 48 #[.val (.ref a), .val (.ref b), .val (.int (Int32.ofNat o)), .val (.int (Int32.ofNat len)), .val .null, .val (.ref s.heap.size)] [.int 0, .ref a])) := g11
  obtain ⟨T13, X13, p13, bl13, sl13, st13⟩ := X11.finit hexec hown (wk W (.fieldLink "java/lang/String" 15 "java/lang/String" "coder" "B")) (Or.inr ⟨_, (wk W (.laysFinal "java/lang/String" "java/lang/String" "coder" "B"))⟩) (Or.inl ⟨rfl, hnm⟩) f2 (Or.inl rfl) hB11 (t := .byte) (by decide +kernel) rfl (g := (mkF m 48 #[.val (.ref a), .val (.ref b), .val (.int (Int32.ofNat o)), .val (.int (Int32.ofNat len)), .val .null, .val (.ref s.heap.size)] [.int 0, .ref a])) rfl (rest := []) rfl (hb hbytes d48)
  have c14 : Steps p.tables e below (s₁.setTop (entryFrame m #[.ref a, .ref b, .int (Int32.ofNat o), .int (Int32.ofNat len), .null] 6)) (T13.setTop (mkF m 54 #[.val (.ref a), .val (.ref b), .val (.int (Int32.ofNat o)), .val (.int (Int32.ofNat len)), .val .null, .val (.ref s.heap.size)] [.ref s.heap.size, .ref a])) := (c12.trans (st13 _ (Steps.refl _))).trans (by
    refine XS.aloadN X13.here hexec rfl (hb hbytes d51) rfl rfl ?_
    refine XS.aload X13.here hexec rfl (hb hbytes d52) rfl rfl ?_
    exact Steps.refl _)
  obtain ⟨T15, X15, p15, bl15, sl15, st15⟩ := X13.finit hexec hown (wk W (.fieldLink "java/lang/String" 9 "java/lang/String" "value" "[B")) (Or.inr ⟨_, (wk W (.laysFinal "java/lang/String" "java/lang/String" "value" "[B"))⟩) (Or.inl ⟨rfl, hnm⟩) f1 (Or.inl rfl) bl13 (t := (.array .byte)) (by decide +kernel) rfl (g := (mkF m 54 #[.val (.ref a), .val (.ref b), .val (.int (Int32.ofNat o)), .val (.int (Int32.ofNat len)), .val .null, .val (.ref s.heap.size)] [.ref s.heap.size, .ref a])) rfl (rest := []) rfl (hb hbytes d54)
  have c16 : Steps p.tables e below (s₁.setTop (entryFrame m #[.ref a, .ref b, .int (Int32.ofNat o), .int (Int32.ofNat len), .null] 6)) (T15.setTop (mkF m 57 #[.val (.ref a), .val (.ref b), .val (.int (Int32.ofNat o)), .val (.int (Int32.ofNat len)), .val .null, .val (.ref s.heap.size)] [])) := c14.trans (st15 _ (Steps.refl _))
  have ap := apart (Or.inr ⟨_, (wk W (.laysFinal "java/lang/String" "java/lang/String" "value" "[B"))⟩) (Or.inr ⟨_, (wk W (.laysFinal "java/lang/String" "java/lang/String" "coder" "B"))⟩) f1 f2 (t₁ := .array .byte) (t₂ := .byte) (by decide +kernel) (by decide +kernel) (by decide)
  have al := X8.warmed.alike.symm.trans X15.warmed.alike
  have n7 : T11.heap[s.heap.size]? = some N := by rw [q11]; exact n1.1
  exact ⟨T15, none, _, _, _, X15, by simp, rfl, by omega, (fun _ => rfl), ⟨rfl, _, N, bl15, ((Same.refl D _).set _ (by simp)).set _ (by simp), sl15, (Cell.slots_setSlot_ne _ ap).trans sl13, n1.keep al (p15.other hne (p13.other hne n7)), n2, by rw [al.findClass]; exact n3, n4, n5, fun y c h1 h2 => p15.other h1 (p13.other h1 (by rw [q11]; exact n6 y c h2)), by rw [p15.2.2, p13.2.2, q11]; exact z8⟩, fun fs hl => c16.trans (X15.returnOut hexec hret (hb hbytes d57) hl)⟩
end New4
namespace New1
def yN : MethodName := ⟨"java/lang/String", "<init>", "([C)V"⟩
abbrev yB : ByteArray := jdk_42_method_3_code
theorem d0 : decode yB 0 = .ok (.aload_n 0, 1) := by decide +kernel
theorem d1 : decode yB 1 = .ok (.aload_n 1, 1) := by decide +kernel
theorem d2 : decode yB 2 = .ok (.iconst 0, 1) := by decide +kernel
theorem d3 : decode yB 3 = .ok (.aload_n 1, 1) := by decide +kernel
theorem d4 : decode yB 4 = .ok (.arraylength, 1) := by decide +kernel
theorem d5 : decode yB 5 = .ok (.aconst_null, 1) := by decide +kernel
theorem d6 : decode yB 6 = .ok (.invokespecial 27, 3) := by decide +kernel
theorem d9 : decode yB 9 = .ok (.return_, 1) := by decide +kernel
def site : List Cond := [New4.tab] ++ initW "java/lang/String" 27 New4.yN
def tab : Cond := tabOf yN yB 2 none site
def P (a : Addr) (D : Cell) (fV fC : Field) (b : Addr) (A : Cell) (z : Int32) (args : Array Value) (s : State) : Prop := args = #[.ref a, .ref b] ∧ Blank "java/lang/String" a D s ∧ Found "java/lang/String" "value" "[B" fV s ∧ Found "java/lang/String" "coder" "B" fC s ∧ Ch b A s ∧ StaticIs s "java/lang/String" "COMPACT_STRINGS" "Z" (.int z) ∧ ¬ z = 0 ∧ 0 < A.slots.size ∧ A.slots.size ≤ 536870912 ∧ ∀ i, i < A.slots.size → ¬ 255 < cv A i
def E (a : Addr) (D : Cell) (fV fC : Field) (A : Cell) (r : Option Value) (s u : State) : Prop := Got a D fV fC A 0 A.slots.size r s u
/-- new String(chars), not empty, no char above 255: a Latin-1 String of their low bytes -/
theorem law (l : Launch) (a : Addr) (D : Cell) (fV fC : Field) (b : Addr) (A : Cell) (z : Int32) : Law l yN 2 1 3 52 yB 2 none site (P a D fV fC b A z) (E a D fV fC A) [⟨a, fC.slot⟩, ⟨a, fV.slot⟩] 1 A.slots.size := by
  refine Law.of_walk (plainFor_of_name (by decide +kernel)) (by decide +kernel) (by decide +kernel) (by decide) (fun _ _ h => by rw [h.1]; rfl) (fun _ U U' hal hh h => ⟨h.1, h.2.1.mv hal hh, h.2.2.1.al hal, h.2.2.2.1.al hal, h.2.2.2.2.1.mv hal hh, h.2.2.2.2.2.1.there hal hh, h.2.2.2.2.2.2⟩) (fun r U U' V V' h1 hal h2 h => Got.mv r U U' V V' h1 hal h2 h) ?_
  intro p e s m args below meth c s₁ X0 hexec hbytes hml hret hlk hnm hown hh0 W hP
  obtain ⟨rfl, hB, f1, f2, hA, s1, hz, l0, l2, hp⟩ := hP
  have c1 : Steps p.tables e below (s₁.setTop (entryFrame m #[.ref a, .ref b] 2)) (s₁.setTop (mkF m 0 #[.val (.ref a), .val (.ref b)] [])) := entry rfl
  have c2 : Steps p.tables e below (s₁.setTop (entryFrame m #[.ref a, .ref b] 2)) (s₁.setTop (mkF m 6 #[.val (.ref a), .val (.ref b)] [.null, .int (Int32.ofNat A.slots.size), .int 0, .ref b, .ref a])) := c1.trans (by
    refine XS.aloadN X0.here hexec rfl (hb hbytes d0) rfl rfl ?_
    refine XS.aloadN X0.here hexec rfl (hb hbytes d1) rfl rfl ?_
    refine iconstV X0.here hexec rfl 0 (hb hbytes d2) (by decide) ?_
    refine XS.aloadN X0.here hexec rfl (hb hbytes d3) rfl rfl ?_
    refine X0.alen hexec (hA.1.mv X0.warmed.alike hh0) rfl rfl (hb hbytes d4) ?_
    refine XS.aconstNull X0.here hexec rfl (hb hbytes d5) ?_
    exact Steps.refl _)
  obtain ⟨v3, T3, X3, E3, g3⟩ := X0.callN hexec (New4.law l a D fV fC b A z 0 A.slots.size) rfl hown (wks W (initW "java/lang/String" 27 New4.yN)) (W New4.tab (by simp only [site, List.mem_cons, List.mem_append, true_or, or_true])) (W := 0) (Nat.le_of_ble_eq_true rfl) (Nat.le_of_ble_eq_true rfl) (Nat.le_refl _) (by show 0 + A.slots.size ≤ A.slots.size; omega) (g := (mkF m 6 #[.val (.ref a), .val (.ref b)] [.null, .int (Int32.ofNat A.slots.size), .int (Int32.ofNat 0), .ref b, .ref a])) rfl (by rw [hml]; rfl) c2 (argsL := [.ref b, .int (Int32.ofNat 0), .int (Int32.ofNat A.slots.size), .null]) (rest := []) rfl rfl (by show 2 * 0 + 0 ≤ _; decide) (hb hbytes d6) (⟨rfl, hB.mv X0.warmed.alike hh0, f1.al X0.warmed.alike, f2.al X0.warmed.alike, hA.mv X0.warmed.alike hh0, s1.there X0.warmed.alike hh0, hz, l0, by omega, l2, fun i hi => by rw [Nat.zero_add]; exact hp i hi⟩)
  have e0 := Got.mv _ s₁ s _ _ hh0.symm (Vm.Alike.refl _) rfl E3
  obtain rfl := e0.1
  have c4 : Steps p.tables e below (s₁.setTop (entryFrame m #[.ref a, .ref b] 2)) (T3.setTop (mkF m 9 #[.val (.ref a), .val (.ref b)] [])) := g3
  exact ⟨T3, none, _, _, _, X3, by simp, rfl, by omega, (fun _ => rfl), e0, fun fs hl => c4.trans (X3.returnOut hexec hret (hb hbytes d9) hl)⟩
theorem pays {l : Launch} {R : Room} {p : Program} {e : Env} {below : List Frame} {s : State} {sargs : Array Value} {len W : Nat} (a : Addr) (D : Cell) (fV fC : Field) (b : Addr) (A : Cell) (z : Int32) (htab : tab.before sargs s = true) (hfr : 4 ≤ R.frames) (hlo : W + 65 ≤ R.locals) :
    Back l R p e below s sargs yN len W (fun A₁ a₁ => A₁.cells + 1 ≤ R.cells ∧ A₁.slots + A.slots.size ≤ R.slots ∧ P a D fV fC b A z a₁ A₁.U) (fun A₁ _ v₁ B₁ => E a D fV fC A v₁ A₁.U B₁.U ∧ B₁.locs = A₁.locs ++ [⟨a, fC.slot⟩, ⟨a, fV.slot⟩] ∧ B₁.cells = A₁.cells + 1 ∧ B₁.slots = A₁.slots + A.slots.size) :=
  (law l a D fV fC b A z).pays htab hfr (by omega)
end New1
/-- the byte, read back as charAt reads it, is the char -/
theorem lo8_mask {x : Int32} (h0 : ¬ x < 0) (h1 : ¬ 255 < x) : lo8 x &&& 255 = x := by
  have t : ∀ k : Fin 256, lo8 (Int32.ofNat k.val) &&& 255 = Int32.ofNat k.val := by decide +kernel
  rw [Int32.lt_iff_toInt_lt] at h0 h1
  have e0 : (0 : Int32).toInt = 0 := rfl
  have e1 : (255 : Int32).toInt = 255 := rfl
  obtain ⟨k, hk⟩ : ∃ k : Nat, x.toInt = k := ⟨x.toInt.toNat, by omega⟩
  have hx : x = Int32.ofNat k := Int32.toInt_inj.mp (by rw [hk, Int32.toInt_ofNat_small (by omega)])
  rw [hx]
  exact t ⟨k, by omega⟩
end StrChars
namespace StrChars.Road
open Jvm Sem ClassFile Op Lib Jvm.Stand Jvm.Free Jvm.Free.XT
open Jvm.Lib.Cold (StaticIs)
abbrev ST : String := "java/lang/String"
/-- every table word that New1's law asks, flat -/
abbrev words : List Jvm.Cond := [.code New1.yN New1.yB 2 none, .initialized ST, .methodLink ST 27 New4.yN, .instanceMethod New4.yN,
  .code New4.yN New4.yB 6 none, .fieldLink ST 38 ST "COMPACT_STRINGS" "Z", .laysFinal ST ST "value" "[B", .fieldLink ST 9 ST "value" "[B", .laysFinal ST ST "coder" "B", .fieldLink ST 15 ST "coder" "B",
  .methodLink ST 1 Lib.objectInit, .instanceMethod Lib.objectInit, .code Lib.objectInit ⟨#[0xb1]⟩ 1 none, .methodLink ST 177 Cmp3.yN, .static Cmp3.yN, .methodLink ST 47 CodL.yN, .static CodL.yN,
  .code Cmp3.yN Cmp3.yB 6 (some (.array .byte)), .initialized U16, .arrayClass .byte, .methodLink U16 115 Cmp5.yN, .static Cmp5.yN, .code Cmp5.yN Cmp5.yB 7 (some .int), .code CodL.yN CodL.yB 2 (some .byte)]
theorem tab_of {a : Array Value} {s : State} (h : ∀ w ∈ words, w.before a s = true) : New1.tab.before a s = true := by
  have h5 : Cmp5.tab.before a s = true := unparts (wk h (.code Cmp5.yN Cmp5.yB 7 (some .int))) (wks h (.initialized Cmp5.yN.cls :: Cmp5.site))
  have hc : CodL.tab.before a s = true := unparts (wk h (.code CodL.yN CodL.yB 2 (some .byte))) (wks h (.initialized CodL.yN.cls :: CodL.site))
  have q5 : ∀ w ∈ Cmp5.tab :: words, w.before a s = true := fun w hw => (List.mem_cons.mp hw).elim (fun e => e ▸ h5) (h w)
  have h3 : Cmp3.tab.before a s = true := unparts (wk q5 (.code Cmp3.yN Cmp3.yB 6 (some (.array .byte)))) (wks q5 (.initialized Cmp3.yN.cls :: Cmp3.site))
  have q3 : ∀ w ∈ Cmp3.tab :: CodL.tab :: words, w.before a s = true := fun w hw => (List.mem_cons.mp hw).elim (fun e => e ▸ h3) fun hw => (List.mem_cons.mp hw).elim (fun e => e ▸ hc) (h w)
  have h4 : New4.tab.before a s = true := unparts (wk q3 (.code New4.yN New4.yB 6 none)) (wks q3 (.initialized New4.yN.cls :: New4.site))
  have q4 : ∀ w ∈ New4.tab :: words, w.before a s = true := fun w hw => (List.mem_cons.mp hw).elim (fun e => e ▸ h4) (h w)
  exact unparts (wk q4 (.code New1.yN New1.yB 2 none)) (wks q4 (.initialized New1.yN.cls :: New1.site))
/-- the words ride from the start Z to the walk's own state -/
theorem moved {Z s : State} {a0 args : Array Value} (hZ : Z.Warmed39 s.vm) (hw : ∀ d ∈ words, d.before a0 Z = true) : ∀ d ∈ words, d.before args s = true := fun d hd => by
  have q := hw d hd
  have t : ∀ d ∈ words, d = .arrayClass .byte ∨ (d.onTables && d.keepsFace) = true := by decide +kernel
  rcases t d hd with rfl | t
  · exact RoadKit.mvA hZ q
  · exact RoadKit.mv hZ q t
/-- WHAT COMES BACK, over the tables of the start Z: h the heap at the call, h' behind it -/
def Q (Z : State) (x : Addr) (A : Cell) (h : Heap) (v : Option Value) (h' : Heap) (L : List Loc) : Prop := v = none ∧ (∀ y ∈ L, y.base = x) ∧ RoadKit.Keep h h' [x] ∧ h'.size = h.size + 1 ∧ RoadKit.Exa Z h' x ST ∧ RoadKit.Fld Z h' x ST "value" "[B" (.ref h.size) ∧ RoadKit.Fld Z h' x ST "coder" "B" (.int 0) ∧
  (∃ V : Cell, RoadKit.Arr Z h' h.size V .byte ∧ V.vm = .none ∧ Z.vm.findClass "[B" = some V.cls ∧ V.slots.size = A.slots.size ∧ ∀ j, j < A.slots.size → V.slots[j]? = some (.int (lo8 (cv A j)))) ∧
  ∀ (O n d : String) (w : Value), RoadKit.Fld Z h x O n d w → RoadKit.slotOf Z O n d ≠ RoadKit.slotOf Z ST "value" "[B" → RoadKit.slotOf Z O n d ≠ RoadKit.slotOf Z ST "coder" "B" → RoadKit.Fld Z h' x O n d w
/-- **new String(chars) AT A CALL, IN THE ROAD'S FORM**: for specialBack behind newO: x the fresh String, b the char[] with the cell A -/
theorem back {p : Program} {l : Launch} {e : Env} {R : Room} {s : State} {args : Array Value} {below : List Frame} {len W : Nat} {Z : State} {a0 : Array Value} {h : Heap} (hZ : Z.Warmed39 s.vm) (hw : ∀ d ∈ words, d.before a0 Z = true) {kI : Nat} (wi : (Jvm.Cond.instantiable ST kI).before a0 Z = true)
    {x b : Addr} {A : Cell} {z : Int32} {v0 c0 : Value} (E : RoadKit.Exa Z h x ST) (V : RoadKit.Fld Z h x ST "value" "[B" v0) (C : RoadKit.Fld Z h x ST "coder" "B" c0) (K : RoadKit.Arr Z h b A .char) (hty : Typed .char A) (S : RoadKit.Sta Z h ST "COMPACT_STRINGS" "Z" (.int z)) (hz : ¬ z = 0)
    (l0 : 0 < A.slots.size) (l2 : A.slots.size ≤ 536870912) (hp : ∀ i, i < A.slots.size → ¬ 255 < cv A i) (hfr : 4 ≤ R.frames) (hlo : W + 65 ≤ R.locals) :
    Back l R p e below s args New1.yN len W (fun P a => a = #[.ref x, .ref b] ∧ P.U.heap = h ∧ P.cells + 1 ≤ R.cells ∧ P.slots + A.slots.size ≤ R.slots)
      (fun P _ v B => ∃ L, Q Z x A h v B.U.heap L ∧ B.locs = P.locs ++ L ∧ B.cells = P.cells + 1 ∧ B.slots = P.slots + A.slots.size) := by
  intro m meth c P g ig mk a X hg hsize hdg hW hn hp'
  obtain ⟨rfl, rfl, r1, r2⟩ := hp'
  have al : Z.vm.Alike P.U.vm := hZ.alike.trans X.warmed.alike
  obtain ⟨D, cfV, kV, iV, fV, hD, gV, stV, knV, obV, asV, slV⟩ := id V
  obtain ⟨D', cfC, kC, iC, fC, hD', gC, stC, -, -, asC, slC⟩ := id C
  cases hD.symm.trans hD'
  obtain ⟨D2, kD, e1, e2, e3, e4, e5⟩ := id E
  cases hD.symm.trans e1
  obtain ⟨c2, k2, i1, i2, i3, -⟩ := Cond.instantiable_spec wi
  cases e2.symm.trans i1
  cases e3.symm.trans i2
  obtain ⟨kU, u1, u2⟩ := al.2.2 _ _ e3
  have hB : Blank ST x D P.U := ⟨hD, ⟨knV, fun q hq => by rw [hq] at obV; cases obV⟩, by rw [al.findClass]; exact e2, kU, u1, by rw [u2]; exact i3, by rw [u2]; exact e5 i3⟩
  have F1 : Found ST "value" "[B" fV P.U := ⟨SBG.found_only al ⟨cfV, kV, iV, gV⟩, stV⟩
  have F2 : Found ST "coder" "B" fC P.U := ⟨SBG.found_only al ⟨cfC, kC, iC, gC⟩, stC⟩
  have hA : Ch b A P.U := ⟨⟨K.1, State.isArrayOf_alike al K.2.1, K.2.2, by omega⟩, hty⟩
  have hS : StaticIs P.U ST "COMPACT_STRINGS" "Z" (.int z) := by
    obtain ⟨cfS, iS, kS, fS, st, cS, t1, t2, t3, t4, t5, t6, t7⟩ := S
    exact StaticIs.there (s := { Z with heap := P.U.heap }) ⟨cfS, iS, kS, fS, st, cS, t1, t2, t3, t4, t5, (fun q => by rw [q] at t6; cases t6), t7⟩ al rfl
  obtain ⟨v, B, X', ⟨⟨hv, E', V', q1, q2, q3, q4, q5, q6, q7, q8, q9, q10, q11⟩, hl, hc, hs⟩, st⟩ := New1.pays x D fV fC b A z (tab_of (moved hZ hw)) hfr hlo m meth c P g ig mk _ X hg hsize hdg hW hn ⟨r1, r2, rfl, hB, F1, F2, hA, hS, hz, l0, l2, hp⟩
  have al' : Z.vm.Alike B.U.vm := hZ.alike.trans X'.warmed.alike
  have hsz : E'.slots.size = D.slots.size := by
    obtain ⟨-, -, -, kB, w1, w2, w3⟩ := q1
    obtain ⟨kB', y1, y2⟩ := al'.2.2 _ _ e3
    rw [q2.2.1] at w1
    cases w1.symm.trans y1
    rw [w3, e5 i3, y2]
  refine ⟨v, B, X', ⟨_, ⟨hv, ?_, ⟨by omega, fun y cy hy hn' => q10 y cy (by simpa using hn') hy, fun y cy hy => ?_⟩, q11, ⟨E', _, q1.1, by rw [q2.2.1]; exact e2, by rw [q2.2.1]; exact e3, by rw [q2.1]; exact obV, fun _ => by rw [hsz]; exact e5 i3⟩,
    ⟨E', cfV, kV, iV, fV, q1.1, gV, stV, by rw [q2.1]; exact knV, by rw [q2.1]; exact obV, by rw [q2.2.1]; exact asV, q3⟩, ⟨E', cfC, kC, iC, fC, q1.1, gC, stC, by rw [q2.1]; exact knV, by rw [q2.1]; exact obV, by rw [q2.2.1]; exact asC, q4⟩,
    ⟨V', ⟨q5.1, State.isArrayOf_alike al'.symm q5.2.1, q5.2.2.1⟩, q6, by rw [← al'.findClass]; exact q7, q8, fun j hj => by have := q9 j hj; rwa [Nat.zero_add] at this⟩, fun O n d w F n1 n2 => ?_⟩, hl, hc, hs⟩, st⟩
  · intro y hy
    simp only [List.mem_cons, List.not_mem_nil, or_false] at hy
    rcases hy with rfl | rfl <;> rfl
  · by_cases q : y = x
    · subst q
      cases hD.symm.trans hy
      exact ⟨E', q1.1, q2.2.1, q2.1, hsz⟩
    · exact ⟨cy, q10 y cy q hy, rfl, rfl, rfl⟩
  · obtain ⟨D3, cf, k, i, f, g1, g2, g3, g4, g5, g6, g7⟩ := F
    cases hD.symm.trans g1
    simp only [RoadKit.slotOf, g2, gV, gC, Option.map_some, Option.getD_some] at n1 n2
    exact ⟨E', cf, k, i, f, q1.1, g2, g3, by rw [q2.1]; exact g4, by rw [q2.1]; exact g5, by rw [q2.2.1]; exact g6, by rw [q2.2.2 f.slot (by simp [n1, n2])]; exact g7⟩
end StrChars.Road
namespace StrChars.Road
open Jvm Sem ClassFile Op Lib Jvm.Stand Jvm.Free Jvm.Free.XT
/-- WHAT COMES BACK, the byte[] as a list of values -/
def QA (Z : State) (x : Addr) (zn : Int32) (cs : List Int32) (h : Heap) (v : Option Value) (h' : Heap) (L : List Loc) : Prop := v = none ∧ (∀ y ∈ L, y.base = x) ∧ RoadKit.Keep h h' [x] ∧ h'.size = h.size + 1 ∧ RoadKit.Exa Z h' x ST ∧ RoadKit.Fld Z h' x ST "value" "[B" (.ref h.size) ∧ RoadKit.Fld Z h' x ST "coder" "B" (.int 0) ∧
  (∃ kb, Z.vm.findClass "[B" = some kb ∧ RoadKit.Arv Z h' h.size kb .byte zn (cs.map fun c => .int (lo8 c)) (.int 0)) ∧
  ∀ (O n d : String) (w : Value), RoadKit.Fld Z h x O n d w → RoadKit.slotOf Z O n d ≠ RoadKit.slotOf Z ST "value" "[B" → RoadKit.slotOf Z O n d ≠ RoadKit.slotOf Z ST "coder" "B" → RoadKit.Fld Z h' x O n d w
/-- **new String(chars) AT A CALL, THE ARRAYS AS LISTS**: the char[] at b holds cs, not empty, no char above 255 -/
theorem backArv {p : Program} {l : Launch} {e : Env} {R : Room} {s : State} {args : Array Value} {below : List Frame} {len W : Nat} {Z : State} {a0 : Array Value} {h : Heap} (hZ : Z.Warmed39 s.vm) (hw : ∀ d ∈ words, d.before a0 Z = true) {kI : Nat} (wi : (Jvm.Cond.instantiable ST kI).before a0 Z = true)
    {x b : Addr} {k : ClassId} {zn z : Int32} {cs : List Int32} {dv v0 c0 : Value} (E : RoadKit.Exa Z h x ST) (V : RoadKit.Fld Z h x ST "value" "[B" v0) (C : RoadKit.Fld Z h x ST "coder" "B" c0) (K : RoadKit.Arv Z h b k .char zn (cs.map Value.int) dv) (S : RoadKit.Sta Z h ST "COMPACT_STRINGS" "Z" (.int z)) (hz : ¬ z = 0)
    (hlen : zn.toNatClampNeg = cs.length) (h0 : 0 < cs.length) (hbig : cs.length ≤ 536870912) (hall : ∀ c ∈ cs, ¬ 255 < c) (hfr : 4 ≤ R.frames) (hlo : W + 65 ≤ R.locals) :
    Back l R p e below s args New1.yN len W (fun P a => a = #[.ref x, .ref b] ∧ P.U.heap = h ∧ P.cells + 1 ≤ R.cells ∧ P.slots + cs.length ≤ R.slots)
      (fun P _ v B => ∃ L, QA Z x zn cs h v B.U.heap L ∧ B.locs = P.locs ++ L ∧ B.cells = P.cells + 1 ∧ B.slots = P.slots + cs.length) := by
  obtain ⟨A, K1, K2, K3, K4, K5, K6⟩ := K
  have e : A.slots.size = cs.length := K3.trans hlen
  have hat : ∀ (i : Nat) (hi : i < cs.length), A.slots[i]? = some (.int cs[i]) := fun i hi => by rw [K5 i (by omega)]; simp [List.getD_eq_getElem?_getD, hi]
  have hcv : ∀ (i : Nat) (hi : i < cs.length), cv A i = cs[i] := fun i hi => by unfold cv; rw [hat i hi]
  have hty : Typed .char A := fun i v hv => by
    have hi : i < A.slots.size := (Array.getElem?_eq_some_iff.mp hv).1
    have q := K5 i hi
    rw [hv] at q
    rw [Option.some.inj q]
    exact K6 i hi
  refine Back.mono (back hZ hw wi E V C K1 hty S hz (by omega) (by omega) (fun i hi => by rw [hcv i (by omega)]; exact hall _ (List.getElem_mem _)) hfr hlo) (fun P a hp => ⟨hp.1, hp.2.1, hp.2.2.1, by rw [e]; exact hp.2.2.2⟩) (fun P a v B hp hq => ?_)
  obtain ⟨L, ⟨q1, q2, q3, q4, q5, q6, q7, ⟨V', v1, v2, v3, v4, v5⟩, q9⟩, hl, hc, hs⟩ := hq
  refine ⟨L, ⟨q1, q2, q3, q4, q5, q6, q7, ⟨V'.cls, v3, V', v1, rfl, by rw [v4, e, hlen], K4, fun i hi => ?_, fun i hi => ?_⟩, q9⟩, hl, hc, by rw [hs, e]⟩
  · have hi' : i < cs.length := by omega
    rw [v5 i (by omega), hcv i hi']; simp [List.getD_eq_getElem?_getD, hi']
  · have hi' : i < cs.length := by omega
    simp only [List.getD_eq_getElem?_getD, List.getElem?_map, List.getElem?_eq_getElem hi', Option.map_some, Option.getD_some]
    exact fits_lo8 _
end StrChars.Road
namespace StrChars.Road
open Jvm Sem ClassFile Op Lib Jvm.Stand Jvm.Free Jvm.Free.XT
/-- WHAT COMES BACK, in the writer's own shape -/
def QV (Z : State) (x : Addr) (N : Int32) (bs : List Int32) (h : Heap) (n0 : Nat) (v : Option Value) (h' : Heap) (L : List Loc) : Prop := v = none ∧ RoadKit.Fr n0 L ∧ RoadKit.Keep h h' [x] ∧ RoadKit.Exa Z h' x ST ∧ RoadKit.Fld Z h' x ST "coder" "B" (.int 0) ∧
  ∃ (t : Addr) (kb : ClassId), n0 ≤ t ∧ h.size ≤ t ∧ ¬ t = x ∧ RoadKit.Fld Z h' x ST "value" "[B" (.ref t) ∧ RoadKit.Arv Z h' t kb .byte N (bs.map Value.int) (.int 0)
/-- **new String(chars) AT A CALL, FOR THE WRITER**: a char[] of n known ints, each 0 to 255 -/
theorem backV {p : Program} {l : Launch} {e : Env} {R : Room} {s : State} {args : Array Value} {below : List Frame} {len W : Nat} {Z : State} {a0 : Array Value} {h : Heap} (hZ : Z.Warmed39 s.vm) (hw : ∀ d ∈ words, d.before a0 Z = true) {kI : Nat} (wi : (Jvm.Cond.instantiable ST kI).before a0 Z = true)
    {x b : Addr} {kC : ClassId} {cs bs : List Int32} {d v0 c0 : Value} {z N : Int32} {n n0 : Nat} (hx0 : n0 ≤ x) (hh0 : n0 ≤ h.size) (E : RoadKit.Exa Z h x ST) (V : RoadKit.Fld Z h x ST "value" "[B" v0) (C : RoadKit.Fld Z h x ST "coder" "B" c0) (K : RoadKit.Arv Z h b kC .char N (cs.map Value.int) d) (S : RoadKit.Sta Z h ST "COMPACT_STRINGS" "Z" (.int z)) (hz : ¬ z = 0)
    (hn : cs.length = n) (hN : N = Int32.ofNat n) (l0 : 0 < n) (l2 : n ≤ 4000) (hp : ∀ c ∈ cs, ¬ c < 0 ∧ ¬ (255 : Int32) < c) (hb : bs = cs.map (fun c => c.toInt8.toInt32)) (hfr : 4 ≤ R.frames) (hlo : W + 65 ≤ R.locals) :
    Back l R p e below s args (⟨"java/lang/String", "<init>", "([C)V"⟩ : MethodName) len W (fun P a => a = #[.ref x, .ref b] ∧ P.U.heap = h ∧ P.cells + 1 ≤ R.cells ∧ P.slots + n ≤ R.slots)
      (fun P _ v B => ∃ L, QV Z x N bs h n0 v B.U.heap L ∧ B.locs = P.locs ++ L ∧ B.cells = P.cells + 1 ∧ B.slots = P.slots + n) := by
  subst hn hN hb
  refine Back.mono (backArv hZ hw wi E V C K S hz (n32 (by omega)) l0 (by omega) (fun c hc => (hp c hc).2) hfr hlo) (fun P a hp => hp) (fun P a v B hp hq => ?_)
  obtain ⟨L, ⟨q1, q2, q3, q4, q5, q6, q7, ⟨kb, v1, v2⟩, q9⟩, hl, hc, hs⟩ := hq
  exact ⟨L, ⟨q1, fun y hy => by rw [q2 y hy]; exact hx0, q3, q5, q7, h.size, kb, hh0, Nat.le_refl _, Nat.ne_of_gt E.lt, q6, by rw [List.map_map]; exact v2⟩, hl, hc, hs⟩
end StrChars.Road
namespace StrChars
open Jvm Sem ClassFile Op Lib Jvm.Stand Jvm.Free.XT Jvm.Free.ALB Jvm.Free.JM Jvm.Free
open Jvm.Lib.Cold (StaticIs)
def hi8 (x : Int32) : Int32 := lo8 (x >>> ((8 : Int32) &&& 31))
/-- what StringUTF16.getChar makes of two bytes -/
def pairCh (u v : Int32) : Int32 := (((u &&& 255) <<< ((0 : Int32) &&& 31)) ||| ((v &&& 255) <<< ((8 : Int32) &&& 31))).toUInt32.toUInt16.toUInt32.toInt32
theorem shr0 (c : Int32) : c >>> ((0 : Int32) &&& 31) = c := by
  have e : ((0 : Int32) &&& 31) = 0 := by decide
  rw [e]
  apply Int32.toBitVec_inj.mp
  rw [Int32.toBitVec_shiftRight]
  have e1 : ((0 : Int32).toBitVec.smod 32) = 0#32 := by decide
  rw [e1, BitVec.sshiftRight_eq']
  exact BitVec.sshiftRight_zero
theorem lo8_and (x : Int32) : (lo8 x &&& 255).toBitVec.toNat = x.toBitVec.toNat % 256 := by
  have h : (lo8 x).toBitVec = (x.toBitVec.signExtend 8).signExtend 32 := by rw [lo8, Int8.toBitVec_toInt32, Int32.toBitVec_toInt8]
  rw [Int32.toBitVec_and, BitVec.toNat_and, h]
  have e : ((x.toBitVec.signExtend 8).signExtend 32).toNat % 256 = x.toBitVec.toNat % 256 := by
    rw [BitVec.toNat_signExtend]
    have hlt := x.toBitVec.isLt
    simp only [BitVec.toNat_setWidth, BitVec.toNat_signExtend]
    split <;> split <;> omega
  rw [← e]
  exact Nat.and_two_pow_sub_one_eq_mod _ 8
theorem pair_says {c : Int32} (h0 : ¬ c < 0) (h1 : ¬ 65535 < c) : pairCh (lo8 c) (hi8 c) = c := by
  rw [Int32.lt_iff_toInt_lt] at h0 h1
  have e0 : (0 : Int32).toInt = 0 := rfl
  have e1 : (65535 : Int32).toInt = 65535 := rfl
  have hc : c.toInt = c.toBitVec.toNat := by
    have := c.toBitVec.isLt
    have e : c.toInt = c.toBitVec.toInt := rfl
    rw [e] at h0 h1
    rw [e]
    rw [BitVec.toInt_eq_toNat_cond] at h0 h1 ⊢
    split at h0 <;> split <;> omega
  have hn : c.toBitVec.toNat < 65536 := by omega
  have a1 := lo8_and c
  have a2 : (hi8 c &&& 255).toBitVec.toNat = c.toBitVec.toNat / 256 := by
    rw [hi8, lo8_and]
    have e : ((8 : Int32) &&& 31) = 8 := by decide
    rw [e, Int32.toBitVec_shiftRight]
    have e2 : ((8 : Int32).toBitVec.smod 32) = 8#32 := by decide
    rw [e2, BitVec.sshiftRight_eq', BitVec.toNat_sshiftRight_of_msb_false (by rw [BitVec.msb_eq_false_iff_two_mul_lt]; omega)]
    show c.toBitVec.toNat >>> 8 % 256 = _
    rw [Nat.shiftRight_eq_div_pow]
    omega
  unfold pairCh
  apply Int32.toBitVec_inj.mp
  apply BitVec.eq_of_toNat_eq
  have f0 : ((0 : Int32) &&& 31) = 0 := by decide
  have f8 : ((8 : Int32) &&& 31) = 8 := by decide
  rw [f0, f8]
  have g : (((lo8 c &&& 255) <<< (0 : Int32)) ||| ((hi8 c &&& 255) <<< (8 : Int32))).toBitVec.toNat = c.toBitVec.toNat := by
    rw [Int32.toBitVec_or, Int32.toBitVec_shiftLeft, Int32.toBitVec_shiftLeft]
    have s0 : ((0 : Int32).toBitVec.smod 32) = 0#32 := by decide
    have s8 : ((8 : Int32).toBitVec.smod 32) = 8#32 := by decide
    rw [s0, s8, BitVec.toNat_or]
    simp only [BitVec.shiftLeft_eq', BitVec.toNat_shiftLeft, a1, a2]
    show (c.toBitVec.toNat % 256) <<< 0 % 2 ^ 32 ||| (c.toBitVec.toNat / 256) <<< 8 % 2 ^ 32 = _
    rw [Nat.shiftLeft_zero, Nat.mod_eq_of_lt (show c.toBitVec.toNat % 256 < 2 ^ 32 by omega), Nat.mod_eq_of_lt (show (c.toBitVec.toNat / 256) <<< 8 < 2 ^ 32 by rw [Nat.shiftLeft_eq]; omega), Nat.or_comm, ← Nat.shiftLeft_add_eq_or_of_lt (by omega), Nat.shiftLeft_eq]
    omega
  show BitVec.toNat (((((lo8 c &&& 255) <<< (0 : Int32)) ||| ((hi8 c &&& 255) <<< (8 : Int32))).toBitVec.setWidth 16).setWidth 32) = _
  rw [BitVec.toNat_setWidth, BitVec.toNat_setWidth, g]
  omega
end StrChars
namespace StrChars
open Jvm Sem ClassFile Op Lib Jvm.Stand Jvm.Free.XT Jvm.Free.ALB Jvm.Free.JM Jvm.Free
open Jvm.Lib.Cold (StaticIs)
theorem shr1 {n : Nat} (h : 2 * n < 2 ^ 31) : Int32.ofNat (2 * n) >>> ((1 : Int32) &&& 31) = Int32.ofNat n := by
  have e : ((1 : Int32) &&& 31) = 1 := by decide
  rw [e]
  apply Int32.toBitVec_inj.mp
  rw [Int32.toBitVec_shiftRight]
  have e1 : ((1 : Int32).toBitVec.smod 32) = 1#32 := by decide
  have hm : (BitVec.ofNat 32 (2 * n)).toNat = 2 * n := by rw [BitVec.toNat_ofNat, Nat.mod_eq_of_lt (by omega)]
  rw [e1, BitVec.sshiftRight_eq']
  apply BitVec.eq_of_toNat_eq
  show ((BitVec.ofNat 32 (2 * n)).sshiftRight 1).toNat = (BitVec.ofNat 32 n).toNat
  rw [BitVec.toNat_sshiftRight_of_msb_false (by rw [BitVec.msb_eq_false_iff_two_mul_lt, hm]; omega), hm, BitVec.toNat_ofNat, Nat.shiftRight_eq_div_pow]
  omega
/-- charAt's cast of a byte read back -/
def chr8 (u : Int32) : Int32 := (u &&& 255).toUInt32.toUInt16.toUInt32.toInt32
theorem chr8_lo8 {c : Int32} (h0 : ¬ c < 0) (h1 : ¬ 255 < c) : chr8 (lo8 c) = c := by
  have t : ∀ k : Fin 256, (Int32.ofNat k.val).toUInt32.toUInt16.toUInt32.toInt32 = Int32.ofNat k.val := by decide +kernel
  unfold chr8
  rw [lo8_mask h0 h1]
  rw [Int32.lt_iff_toInt_lt] at h0 h1
  have e0 : (0 : Int32).toInt = 0 := rfl
  have e1 : (255 : Int32).toInt = 255 := rfl
  obtain ⟨k, hk⟩ : ∃ k : Nat, c.toInt = k := ⟨c.toInt.toNat, by omega⟩
  have hx : c = Int32.ofNat k := Int32.toInt_inj.mp (by rw [hk, Int32.toInt_ofNat_small (by omega)])
  rw [hx]
  exact t ⟨k, by omega⟩
theorem narrow_ch {c : Int32} (h0 : ¬ c < 0) (h1 : ¬ 65535 < c) : narrow .char (.int c) = .int c := by
  have q : narrow .char (.int (pairCh (lo8 c) (hi8 c))) = .int (pairCh (lo8 c) (hi8 c)) := narrow_c _
  rwa [pair_says h0 h1] at q
/-- the array's cell V codes the n chars f 0 .. f (n - 1) by the coder cd, as the JDK does: coder 1 just where some char is above 255 -/
def Cod (cd : Int32) (n : Nat) (f : Nat → Int32) (V : Cell) : Prop := (cd = 0 ∧ V.slots.size = n ∧ ∀ j, j < n → V.slots[j]? = some (.int (lo8 (f j))) ∧ ¬ 255 < f j) ∨ (cd = 1 ∧ V.slots.size = 2 * n ∧ (∀ j, j < n → V.slots[2 * j]? = some (.int (lo8 (f j))) ∧ V.slots[2 * j + 1]? = some (.int (hi8 (f j)))) ∧ ∃ j, j < n ∧ 255 < f j)
theorem Cod.cd {cd : Int32} {n : Nat} {f : Nat → Int32} {V : Cell} (h : Cod cd n f V) : cd = 0 ∨ cd = 1 := h.imp (fun q => q.1) fun q => q.1
theorem Cod.len {cd : Int32} {n : Nat} {f : Nat → Int32} {V : Cell} (h : Cod cd n f V) (hs : V.slots.size < 2 ^ 31) : Int32.ofNat V.slots.size >>> (cd &&& 31) = Int32.ofNat n := by
  rcases h with ⟨rfl, h, -⟩ | ⟨rfl, h, -⟩
  · rw [shr0, h]
  · rw [h, shr1 (by omega)]
/-- **x is a String of the n chars f 0 .. f (n - 1)**, Latin-1 or UTF-16; its array at t has the cell V -/
def Txt (x t : Addr) (V : Cell) (cd : Int32) (n : Nat) (f : Nat → Int32) (U : State) : Prop := Exact "java/lang/String" x U ∧ Has x "java/lang/String" "value" "[B" (.ref t) U ∧ Has x "java/lang/String" "coder" "B" (.int cd) U ∧ XT.Arr .byte t V U ∧ Cod cd n f V ∧ ∀ j, j < n → ¬ f j < 0 ∧ ¬ 65535 < f j
theorem Txt.mv {x t : Addr} {V : Cell} {cd : Int32} {n : Nat} {f : Nat → Int32} {U U' : State} (h : Txt x t V cd n f U) (hal : U.vm.Alike U'.vm) (hh : U'.heap = U.heap) : Txt x t V cd n f U' := ⟨h.1.mv hal hh, h.2.1.mv hal hh, h.2.2.1.mv hal hh, h.2.2.2.1.mv hal hh, h.2.2.2.2⟩
namespace Cdr
def yN : MethodName := ⟨"java/lang/String", "coder", "()B"⟩
abbrev yB : ByteArray := jdk_42_method_152_code
theorem d0 : decode yB 0 = .ok (.getstatic 38, 3) := by decide +kernel
theorem d3 : decode yB 3 = .ok (.ifCond (.eq) 10, 3) := by decide +kernel
theorem d6 : decode yB 6 = .ok (.aload_n 0, 1) := by decide +kernel
theorem d7 : decode yB 7 = .ok (.getfield 15, 3) := by decide +kernel
theorem d10 : decode yB 10 = .ok (.goto 4, 3) := by decide +kernel
theorem d14 : decode yB 14 = .ok (.ireturn, 1) := by decide +kernel
def site : List Cond := [.fieldLink "java/lang/String" 38 "java/lang/String" "COMPACT_STRINGS" "Z", .fieldLink "java/lang/String" 15 "java/lang/String" "coder" "B"]
def tab : Cond := tabOf yN yB 1 (some .byte) site
def P (x : Addr) (cd z : Int32) (args : Array Value) (s : State) : Prop := args = #[.ref x] ∧ Has x "java/lang/String" "coder" "B" (.int cd) s ∧ (cd = 0 ∨ cd = 1) ∧ StaticIs s "java/lang/String" "COMPACT_STRINGS" "Z" (.int z) ∧ ¬ z = 0
def E (cd : Int32) (r : Option Value) (s u : State) : Prop := XT.PureE (some (.int cd)) r s u
theorem law (l : Launch) (x : Addr) (cd z : Int32) : Law l yN 1 0 0 0 yB 1 (some .byte) site (P x cd z) (E cd) [] 0 0 := by
  refine Law.of_walk (plainFor_of_name (by decide +kernel)) (by decide +kernel) (by decide +kernel) (by decide) (fun _ _ h => by rw [h.1]; rfl) (fun _ U U' hal hh h => ⟨h.1, h.2.1.mv hal hh, h.2.2.1, h.2.2.2.1.there hal hh, h.2.2.2.2⟩) (fun r U U' V V' h1 hal h2 h => XT.PureE.mv r U U' V V' h1 hal h2 h) ?_
  intro p e s m args below meth c s₁ X0 hexec hbytes hml hret hlk hnm hown hh0 W hP
  obtain ⟨rfl, hx, hc, s1, hz⟩ := hP
  have c1 : Steps p.tables e below (s₁.setTop (entryFrame m #[.ref x] 1)) (s₁.setTop (mkF m 0 #[.val (.ref x)] [])) := entry rfl
  obtain ⟨T2, X2, q2, st2⟩ := X0.sget hexec hown (wk W (.fieldLink "java/lang/String" 38 "java/lang/String" "COMPACT_STRINGS" "Z")) s1 (fun _ _ h => by rw [hh0]; exact h) (g := (mkF m 0 #[.val (.ref x)] [])) rfl (hb hbytes d0)
  have hh2 := q2.trans hh0
  have c3 : Steps p.tables e below (s₁.setTop (entryFrame m #[.ref x] 1)) (T2.setTop (mkF m 7 #[.val (.ref x)] [.ref x])) := (c1.trans (st2 _ (Steps.refl _))).trans (by
    refine XS.ifNo X2.here hexec rfl (hb hbytes d3) rfl (i0_eq_f hz) ?_
    refine XS.aloadN X2.here hexec rfl (hb hbytes d6) rfl rfl ?_
    exact Steps.refl _)
  obtain ⟨T4, X4, q4, st4⟩ := X2.hget hexec hown (wk W (.fieldLink "java/lang/String" 15 "java/lang/String" "coder" "B")) (hx.mv X2.warmed.alike hh2) (g := (mkF m 7 #[.val (.ref x)] [.ref x])) rfl (rest := []) rfl (hb hbytes d7)
  have c5 : Steps p.tables e below (s₁.setTop (entryFrame m #[.ref x] 1)) (T4.setTop (mkF m 14 #[.val (.ref x)] [.int cd])) := (c3.trans (st4 _ (Steps.refl _))).trans (by
    refine XS.goto X4.here hexec rfl (pc0 := 10) rfl (hb hbytes d10) (by decide) rfl ?_
    exact Steps.refl _)
  exact ⟨T4, some (.int cd), _, _, _, X4, rfl, rfl, rfl, (fun h => by cases h), ⟨rfl, q4.trans hh2⟩, fun fs hl => c5.trans (X4.ireturnOut hexec hret (by rcases hc with rfl | rfl <;> rfl) (Or.inr (Or.inr (Or.inl rfl))) (hb hbytes d14) hl)⟩
end Cdr
namespace Len
def yN : MethodName := ⟨"java/lang/String", "length", "()I"⟩
abbrev yB : ByteArray := jdk_42_method_54_code
theorem d0 : decode yB 0 = .ok (.aload_n 0, 1) := by decide +kernel
theorem d1 : decode yB 1 = .ok (.getfield 9, 3) := by decide +kernel
theorem d4 : decode yB 4 = .ok (.arraylength, 1) := by decide +kernel
theorem d5 : decode yB 5 = .ok (.aload_n 0, 1) := by decide +kernel
theorem d6 : decode yB 6 = .ok (.invokevirtual 335, 3) := by decide +kernel
theorem d9 : decode yB 9 = .ok (.ishr, 1) := by decide +kernel
theorem d10 : decode yB 10 = .ok (.ireturn, 1) := by decide +kernel
def site : List Cond := [.fieldLink "java/lang/String" 9 "java/lang/String" "value" "[B", Cdr.tab] ++ virtW "java/lang/String" 335 "java/lang/String" Cdr.yN Cdr.yN
def tab : Cond := tabOf yN yB 1 (some .int) site
def P (x t : Addr) (V : Cell) (cd : Int32) (n : Nat) (f : Nat → Int32) (z : Int32) (args : Array Value) (s : State) : Prop := args = #[.ref x] ∧ Txt x t V cd n f s ∧ StaticIs s "java/lang/String" "COMPACT_STRINGS" "Z" (.int z) ∧ ¬ z = 0
def E (n : Nat) (r : Option Value) (s u : State) : Prop := XT.PureE (some (.int (Int32.ofNat n))) r s u
/-- length() of a String of n chars, in either coding -/
theorem law (l : Launch) (x t : Addr) (V : Cell) (cd : Int32) (n : Nat) (f : Nat → Int32) (z : Int32) : Law l yN 1 0 1 13 yB 1 (some .int) site (P x t V cd n f z) (E n) [] 0 0 := by
  refine Law.of_walk (plainFor_of_name (by decide +kernel)) (by decide +kernel) (by decide +kernel) (by decide) (fun _ _ h => by rw [h.1]; rfl) (fun _ U U' hal hh h => ⟨h.1, h.2.1.mv hal hh, h.2.2.1.there hal hh, h.2.2.2⟩) (fun r U U' V V' h1 hal h2 h => XT.PureE.mv r U U' V V' h1 hal h2 h) ?_
  intro p e s m args below meth c s₁ X0 hexec hbytes hml hret hlk hnm hown hh0 W hP
  obtain ⟨rfl, hx, s1, hz⟩ := hP
  have v31 := hx.2.2.2.1.2.2.2
  have c1 : Steps p.tables e below (s₁.setTop (entryFrame m #[.ref x] 1)) (s₁.setTop (mkF m 1 #[.val (.ref x)] [.ref x])) := Steps.trans (entry rfl) (by
    show Steps p.tables e below (s₁.setTop (mkF m 0 #[.val (.ref x)] [])) _
    refine XS.aloadN X0.here hexec rfl (hb hbytes d0) rfl rfl ?_
    exact Steps.refl _)
  obtain ⟨T2, X2, q2, st2⟩ := X0.hget hexec hown (wk W (.fieldLink "java/lang/String" 9 "java/lang/String" "value" "[B")) (hx.mv X0.warmed.alike hh0).2.1 (g := (mkF m 1 #[.val (.ref x)] [.ref x])) rfl (rest := []) rfl (hb hbytes d1)
  have hh2 := q2.trans hh0
  have hx2 := hx.mv X2.warmed.alike hh2
  have c3 : Steps p.tables e below (s₁.setTop (entryFrame m #[.ref x] 1)) (T2.setTop (mkF m 6 #[.val (.ref x)] [.ref x, .int (Int32.ofNat V.slots.size)])) := (c1.trans (st2 _ (Steps.refl _))).trans (by
    refine X2.alen hexec hx2.2.2.2.1 rfl rfl (hb hbytes d4) ?_
    refine XS.aloadN X2.here hexec rfl (hb hbytes d5) rfl rfl ?_
    exact Steps.refl _)
  obtain ⟨v4, T4, X4, E4, g4⟩ := X2.callV hexec (Cdr.law l x cd z) hown (wks W (virtW "java/lang/String" 335 "java/lang/String" Cdr.yN Cdr.yN)) rfl (by decide) (wk W Cdr.tab) (W := 1) (Nat.le_of_ble_eq_true rfl) (Nat.le_of_ble_eq_true rfl) (Nat.le_refl _) (Nat.le_refl _) (hx2.1.fc X2.warmed.alike) hx2.1.is (g := (mkF m 6 #[.val (.ref x)] [.ref x, .int (Int32.ofNat V.slots.size)])) rfl (by rw [hml]; rfl) c3 (argsL := []) (rest := [.int (Int32.ofNat V.slots.size)]) rfl rfl (by show 2 * 0 + (1 + 0) ≤ _; decide) (hb hbytes d6) (⟨rfl, hx2.2.2.1, hx.2.2.2.2.1.cd, s1.there X2.warmed.alike hh2, hz⟩)
  obtain ⟨rfl, q4⟩ := E4
  have c5 : Steps p.tables e below (s₁.setTop (entryFrame m #[.ref x] 1)) (T4.setTop (mkF m 10 #[.val (.ref x)] [.int (Int32.ofNat V.slots.size >>> (cd &&& 31))])) := Steps.trans g4 (by
    refine ishr X4.here hexec rfl (hb hbytes d9) rfl ?_
    exact Steps.refl _)
  rw [hx.2.2.2.2.1.len v31] at c5
  exact ⟨T4, some (.int (Int32.ofNat n)), _, _, _, X4, rfl, rfl, rfl, (fun h => by cases h), ⟨rfl, q4.trans hh2⟩, fun fs hl => c5.trans (X4.ireturnOut hexec hret rfl (Or.inl rfl) (hb hbytes d10) hl)⟩
theorem pays {l : Launch} {R : Room} {p : Program} {e : Env} {below : List Frame} {s : State} {sargs : Array Value} {len W : Nat} (x t : Addr) (V : Cell) (cd : Int32) (n : Nat) (f : Nat → Int32) (z : Int32) (htab : tab.before sargs s = true) (hfr : 2 ≤ R.frames) (hlo : W + 25 ≤ R.locals) :
    Back l R p e below s sargs yN len W (fun A₁ a₁ => A₁.cells + 0 ≤ R.cells ∧ A₁.slots + 0 ≤ R.slots ∧ P x t V cd n f z a₁ A₁.U) (fun A₁ _ v₁ B₁ => E n v₁ A₁.U B₁.U ∧ B₁.locs = A₁.locs ++ [] ∧ B₁.cells = A₁.cells + 0 ∧ B₁.slots = A₁.slots + 0) :=
  (law l x t V cd n f z).pays htab hfr (by omega)
end Len
namespace IsL
def yN : MethodName := ⟨"java/lang/String", "isLatin1", "()Z"⟩
abbrev yB : ByteArray := jdk_42_method_154_code
theorem d0 : decode yB 0 = .ok (.getstatic 38, 3) := by decide +kernel
theorem d3 : decode yB 3 = .ok (.ifCond (.eq) 14, 3) := by decide +kernel
theorem d6 : decode yB 6 = .ok (.aload_n 0, 1) := by decide +kernel
theorem d7 : decode yB 7 = .ok (.getfield 15, 3) := by decide +kernel
theorem d10 : decode yB 10 = .ok (.ifCond (.ne) 7, 3) := by decide +kernel
theorem d13 : decode yB 13 = .ok (.iconst 1, 1) := by decide +kernel
theorem d14 : decode yB 14 = .ok (.goto 4, 3) := by decide +kernel
theorem d17 : decode yB 17 = .ok (.iconst 0, 1) := by decide +kernel
theorem d18 : decode yB 18 = .ok (.ireturn, 1) := by decide +kernel
def site : List Cond := [.fieldLink "java/lang/String" 38 "java/lang/String" "COMPACT_STRINGS" "Z", .fieldLink "java/lang/String" 15 "java/lang/String" "coder" "B"]
def tab : Cond := tabOf yN yB 1 (some .boolean) site
def P (x : Addr) (cd z : Int32) (args : Array Value) (s : State) : Prop := args = #[.ref x] ∧ Has x "java/lang/String" "coder" "B" (.int cd) s ∧ (cd = 0 ∨ cd = 1) ∧ StaticIs s "java/lang/String" "COMPACT_STRINGS" "Z" (.int z) ∧ ¬ z = 0
def E (cd : Int32) (r : Option Value) (s u : State) : Prop := XT.PureE (some (.int (1 - cd))) r s u
theorem law (l : Launch) (x : Addr) (cd z : Int32) : Law l yN 1 0 0 0 yB 1 (some .boolean) site (P x cd z) (E cd) [] 0 0 := by
  refine Law.of_walk (plainFor_of_name (by decide +kernel)) (by decide +kernel) (by decide +kernel) (by decide) (fun _ _ h => by rw [h.1]; rfl) (fun _ U U' hal hh h => ⟨h.1, h.2.1.mv hal hh, h.2.2.1, h.2.2.2.1.there hal hh, h.2.2.2.2⟩) (fun r U U' V V' h1 hal h2 h => XT.PureE.mv r U U' V V' h1 hal h2 h) ?_
  intro p e s m args below meth c s₁ X0 hexec hbytes hml hret hlk hnm hown hh0 W hP
  obtain ⟨rfl, hx, hc, s1, hz⟩ := hP
  have c1 : Steps p.tables e below (s₁.setTop (entryFrame m #[.ref x] 1)) (s₁.setTop (mkF m 0 #[.val (.ref x)] [])) := entry rfl
  obtain ⟨T2, X2, q2, st2⟩ := X0.sget hexec hown (wk W (.fieldLink "java/lang/String" 38 "java/lang/String" "COMPACT_STRINGS" "Z")) s1 (fun _ _ h => by rw [hh0]; exact h) (g := (mkF m 0 #[.val (.ref x)] [])) rfl (hb hbytes d0)
  have hh2 := q2.trans hh0
  have c3 : Steps p.tables e below (s₁.setTop (entryFrame m #[.ref x] 1)) (T2.setTop (mkF m 7 #[.val (.ref x)] [.ref x])) := (c1.trans (st2 _ (Steps.refl _))).trans (by
    refine XS.ifNo X2.here hexec rfl (hb hbytes d3) rfl (i0_eq_f hz) ?_
    refine XS.aloadN X2.here hexec rfl (hb hbytes d6) rfl rfl ?_
    exact Steps.refl _)
  obtain ⟨T4, X4, q4, st4⟩ := X2.hget hexec hown (wk W (.fieldLink "java/lang/String" 15 "java/lang/String" "coder" "B")) (hx.mv X2.warmed.alike hh2) (g := (mkF m 7 #[.val (.ref x)] [.ref x])) rfl (rest := []) rfl (hb hbytes d7)
  have c5 : Steps p.tables e below (s₁.setTop (entryFrame m #[.ref x] 1)) (T4.setTop (mkF m 10 #[.val (.ref x)] [.int cd])) := c3.trans (st4 _ (Steps.refl _))
  have c6 : Steps p.tables e below (s₁.setTop (entryFrame m #[.ref x] 1)) (T4.setTop (mkF m 18 #[.val (.ref x)] [.int (1 - cd)])) := by
    rcases hc with rfl | rfl
    · exact c5.trans (by
        refine XS.ifNo X4.here hexec rfl (hb hbytes d10) rfl (i0_ne_f rfl) ?_
        refine iconstV X4.here hexec rfl 1 (hb hbytes d13) (by decide) ?_
        refine XS.goto X4.here hexec rfl (pc0 := 14) rfl (hb hbytes d14) (by decide) rfl ?_
        exact Steps.refl _)
    · exact c5.trans (by
        refine XS.ifYes X4.here hexec rfl (pc0 := 10) rfl (hb hbytes d10) rfl (i0_ne_t (by decide)) (by decide) rfl ?_
        refine iconstV X4.here hexec rfl 0 (hb hbytes d17) (by decide) ?_
        exact Steps.refl _)
  exact ⟨T4, some (.int (1 - cd)), _, _, _, X4, rfl, rfl, rfl, (fun h => by cases h), ⟨rfl, q4.trans hh2⟩, fun fs hl => c6.trans (X4.ireturnOut hexec hret (by rcases hc with rfl | rfl <;> rfl) (Or.inr (Or.inl rfl)) (hb hbytes d18) hl)⟩
end IsL
namespace LChA
def yN : MethodName := ⟨"java/lang/StringLatin1", "charAt", "([BI)C"⟩
abbrev yB : ByteArray := jdk_43_method_2_code
theorem d0 : decode yB 0 = .ok (.iload_n 1, 1) := by decide +kernel
theorem d1 : decode yB 1 = .ok (.aload_n 0, 1) := by decide +kernel
theorem d2 : decode yB 2 = .ok (.arraylength, 1) := by decide +kernel
theorem d3 : decode yB 3 = .ok (.invokestatic 9, 3) := by decide +kernel
theorem d6 : decode yB 6 = .ok (.aload_n 0, 1) := by decide +kernel
theorem d7 : decode yB 7 = .ok (.iload_n 1, 1) := by decide +kernel
theorem d8 : decode yB 8 = .ok (.baload, 1) := by decide +kernel
theorem d9 : decode yB 9 = .ok (.sipush 255, 3) := by decide +kernel
theorem d12 : decode yB 12 = .ok (.iand, 1) := by decide +kernel
theorem d13 : decode yB 13 = .ok (.i2c, 1) := by decide +kernel
theorem d14 : decode yB 14 = .ok (.ireturn, 1) := by decide +kernel
def site : List Cond := [JO.Str_checkIndex.tab] ++ staticW "java/lang/StringLatin1" 9 JO.Str_checkIndex.yN
def tab : Cond := tabOf yN yB 2 (some .char) site
def P (t : Addr) (V : Cell) (i : Nat) (u : Int32) (fm : Value) (args : Array Value) (s : State) : Prop := args = #[.ref t, .int (Int32.ofNat i)] ∧ XT.Arr .byte t V s ∧ V.slots[i]? = some (.int u) ∧ (StaticIs s "jdk/internal/util/Preconditions" "SIOOBE_FORMATTER" "Ljava/util/function/BiFunction;" fm ∧ fm.isRef = true)
def E (u : Int32) (r : Option Value) (s w : State) : Prop := XT.PureE (some (.int (chr8 u))) r s w
theorem law (l : Launch) (t : Addr) (V : Cell) (i : Nat) (u : Int32) (fm : Value) : Law l yN 2 2 2 27 yB 2 (some .char) site (P t V i u fm) (E u) [] 0 0 := by
  refine Law.of_walk (plainFor_of_name (by decide +kernel)) (by decide +kernel) (by decide +kernel) (by decide) (fun _ _ h => by rw [h.1]; rfl) (fun _ U U' hal hh h => ⟨h.1, h.2.1.mv hal hh, h.2.2.1, h.2.2.2.1.there hal hh, h.2.2.2.2⟩) (fun r U U' V V' h1 hal h2 h => XT.PureE.mv r U U' V V' h1 hal h2 h) ?_
  intro p e s m args below meth c s₁ X0 hexec hbytes hml hret hlk hnm hown hh0 W hP
  obtain ⟨rfl, hV, hu, s1, rf⟩ := hP
  have v31 := hV.2.2.2
  have hi : i < V.slots.size := (Array.getElem?_eq_some_iff.mp hu).1
  have c1 : Steps p.tables e below (s₁.setTop (entryFrame m #[.ref t, .int (Int32.ofNat i)] 2)) (s₁.setTop (mkF m 0 #[.val (.ref t), .val (.int (Int32.ofNat i))] [])) := entry rfl
  have c2 : Steps p.tables e below (s₁.setTop (entryFrame m #[.ref t, .int (Int32.ofNat i)] 2)) (s₁.setTop (mkF m 3 #[.val (.ref t), .val (.int (Int32.ofNat i))] [.int (Int32.ofNat V.slots.size), .int (Int32.ofNat i)])) := c1.trans (by
    refine XS.iloadN X0.here hexec rfl (hb hbytes d0) rfl ?_
    refine XS.aloadN X0.here hexec rfl (hb hbytes d1) rfl rfl ?_
    refine X0.alen hexec (hV.mv X0.warmed.alike hh0) rfl rfl (hb hbytes d2) ?_
    exact Steps.refl _)
  obtain ⟨v3, T3, X3, E3, g3⟩ := X0.callS hexec (JO.Str_checkIndex.law l (Int32.ofNat i) (Int32.ofNat V.slots.size) fm) hown (wks W (staticW "java/lang/StringLatin1" 9 JO.Str_checkIndex.yN)) (wk W JO.Str_checkIndex.tab) (W := 0) (Nat.le_of_ble_eq_true rfl) (Nat.le_of_ble_eq_true rfl) (Nat.le_refl _) (Nat.le_refl _) (g := (mkF m 3 #[.val (.ref t), .val (.int (Int32.ofNat i))] [.int (Int32.ofNat V.slots.size), .int (Int32.ofNat i)])) rfl (by rw [hml]; rfl) c2 (argsL := [.int (Int32.ofNat i), .int (Int32.ofNat V.slots.size)]) (rest := []) rfl rfl (by show 2 * 0 + 0 ≤ _; decide) (hb hbytes d3) (⟨rfl, rf, s1.there X0.warmed.alike hh0, Int32.ofNat_not_neg (by omega), lt32 v31 hi⟩)
  obtain ⟨rfl, q3⟩ := E3
  have hh3 := q3.trans hh0
  have c4 : Steps p.tables e below (s₁.setTop (entryFrame m #[.ref t, .int (Int32.ofNat i)] 2)) (T3.setTop (mkF m 14 #[.val (.ref t), .val (.int (Int32.ofNat i))] [.int (chr8 u)])) := Steps.trans g3 (by
    refine XS.aloadN X3.here hexec rfl (hb hbytes d6) rfl rfl ?_
    refine XS.iloadN X3.here hexec rfl (hb hbytes d7) rfl ?_
    refine X3.aget hexec (hV.mv X3.warmed.alike hh3) rfl hu rfl rfl (hb hbytes d8) ?_
    refine sipushV X3.here hexec rfl 255 (hb hbytes d9) (by decide) ?_
    refine XS.iand X3.here hexec rfl (hb hbytes d12) rfl ?_
    refine i2c X3.here hexec rfl (hb hbytes d13) rfl ?_
    exact Steps.refl _)
  exact ⟨T3, some (.int (chr8 u)), _, _, _, X3, rfl, rfl, rfl, (fun h => by cases h), ⟨rfl, hh3⟩, fun fs hl => c4.trans (X3.ireturnOut hexec hret (narrow_c _) (Or.inr (Or.inr (Or.inr (Or.inl rfl)))) (hb hbytes d14) hl)⟩
end LChA
end StrChars
namespace StrChars.Road
open Jvm Sem ClassFile Op Lib Jvm.Stand Jvm.Free Jvm.Free.XT
open Jvm.Lib.Cold (StaticIs)
theorem consq {a : Array Value} {s : State} {c : Jvm.Cond} {L : List Jvm.Cond} (h0 : c.before a s = true) (h : ∀ w ∈ L, w.before a s = true) : ∀ w ∈ c :: L, w.before a s = true := fun w hw => (List.mem_cons.mp hw).elim (fun e => e ▸ h0) (h w)
/-- the words of String.length(), either coding -/
abbrev wordsLen : List Jvm.Cond := [.code Len.yN Len.yB 1 (some .int), .initialized ST, .fieldLink ST 9 ST "value" "[B", .fieldLink ST 38 ST "COMPACT_STRINGS" "Z", .fieldLink ST 15 ST "coder" "B", .code Cdr.yN Cdr.yB 1 (some .byte), .methodLink ST 335 Cdr.yN, .declares Cdr.yN, .selects ST Cdr.yN Cdr.yN, .instanceMethod Cdr.yN]
theorem tabLen_of {a : Array Value} {s : State} (h : ∀ w ∈ wordsLen, w.before a s = true) : Len.tab.before a s = true := by
  have hc : Cdr.tab.before a s = true := unparts (wk h (.code Cdr.yN Cdr.yB 1 (some .byte))) (wks h (.initialized Cdr.yN.cls :: Cdr.site))
  have q := consq hc h
  exact unparts (wk q (.code Len.yN Len.yB 1 (some .int))) (wks q (.initialized Len.yN.cls :: Len.site))
theorem movedLen {Z s : State} {a0 args : Array Value} (hZ : Z.Warmed39 s.vm) (hw : ∀ d ∈ wordsLen, d.before a0 Z = true) : ∀ d ∈ wordsLen, d.before args s = true := fun d hd => by
  have q := hw d hd
  have t : ∀ d ∈ wordsLen, d = .arrayClass .byte ∨ (d.onTables && d.keepsFace) = true := by decide +kernel
  rcases t d hd with rfl | t
  · exact RoadKit.mvA hZ q
  · exact RoadKit.mv hZ q t
/-- the bytes of the chars cs, low before high -/
def wideBytes : List Int32 → List Value
  | [] => []
  | c :: cs => .int (lo8 c) :: .int (hi8 c) :: wideBytes cs
theorem wide_lo (d : Value) : ∀ (cs : List Int32) (j : Nat), j < cs.length → (wideBytes cs).getD (2 * j) d = .int (lo8 (cs.getD j 0))
  | [], j, h => absurd h (Nat.not_lt_zero j)
  | c :: cs, 0, _ => rfl
  | c :: cs, j + 1, h => by
    have q := wide_lo d cs j (by simpa using h)
    rw [show 2 * (j + 1) = 2 * j + 1 + 1 from by omega]
    simpa [wideBytes] using q
theorem wide_hi (d : Value) : ∀ (cs : List Int32) (j : Nat), j < cs.length → (wideBytes cs).getD (2 * j + 1) d = .int (hi8 (cs.getD j 0))
  | [], j, h => absurd h (Nat.not_lt_zero j)
  | c :: cs, 0, _ => rfl
  | c :: cs, j + 1, h => by
    have q := wide_hi d cs j (by simpa using h)
    rw [show 2 * (j + 1) + 1 = 2 * j + 1 + 1 + 1 from by omega]
    simpa [wideBytes] using q
theorem low_at (d : Value) (cs : List Int32) (j : Nat) (h : j < cs.length) : (cs.map fun c => Value.int (lo8 c)).getD j d = .int (lo8 (cs.getD j 0)) := by
  simp [List.getD_eq_getElem?_getD, h]
/-- an array of N2 bytes vs codes the chars cs by the coder cd -/
def CodA (cs : List Int32) (cd N2 : Int32) (vs : List Value) : Prop := (cd = 0 ∧ N2 = Int32.ofNat cs.length ∧ vs = (cs.map fun c => Value.int (lo8 c)) ∧ ∀ c ∈ cs, ¬ 255 < c) ∨ (cd = 1 ∧ N2 = Int32.ofNat (2 * cs.length) ∧ vs = wideBytes cs ∧ ∃ c ∈ cs, 255 < c)
theorem CodA.cod {cs : List Int32} {cd N2 : Int32} {vs : List Value} {V : Cell} (h : CodA cs cd N2 vs) (hn : 2 * cs.length < 2 ^ 31) (hs : V.slots.size = N2.toNatClampNeg) (hv : RoadKit.Has V vs (.int 0)) : Cod cd cs.length (fun j => cs.getD j 0) V := by
  rcases h with ⟨rfl, rfl, rfl, h⟩ | ⟨rfl, rfl, rfl, c, hc, hw⟩
  · rw [n32 (by omega)] at hs
    exact Or.inl ⟨rfl, hs, fun j hj => ⟨by rw [hv j (by omega), low_at _ _ _ hj], by
      have e : cs.getD j 0 = cs[j] := by simp [List.getD_eq_getElem?_getD, hj]
      show ¬ 255 < cs.getD j 0
      rw [e]; exact h _ (List.getElem_mem _)⟩⟩
  · rw [n32 (by omega)] at hs
    obtain ⟨j, hj, rfl⟩ := List.getElem_of_mem hc
    exact Or.inr ⟨rfl, hs, fun j hj => ⟨by rw [hv _ (by omega), wide_lo _ _ _ hj], by rw [hv _ (by omega), wide_hi _ _ _ hj]⟩, j, hj, by
      have e : cs.getD j 0 = cs[j] := by simp [List.getD_eq_getElem?_getD, hj]
      show 255 < cs.getD j 0
      rw [e]; exact hw⟩
/-- an object of exactly java/lang/String, its two fields found: as the laws ask it -/
theorem strObj {Z U : State} {a0 : Array Value} {kI : Nat} (wi : (Jvm.Cond.instantiable ST kI).before a0 Z = true) (al : Z.vm.Alike U.vm) {x : Addr} {v0 c0 : Value} (E : RoadKit.Exa Z U.heap x ST) (V : RoadKit.Fld Z U.heap x ST "value" "[B" v0) (C : RoadKit.Fld Z U.heap x ST "coder" "B" c0) :
    ∃ (D : Cell) (fV fC : Field), Blank ST x D U ∧ Found ST "value" "[B" fV U ∧ Found ST "coder" "B" fC U ∧ D.slots[fV.slot]? = some v0 ∧ D.slots[fC.slot]? = some c0 ∧ RoadKit.slotOf Z ST "value" "[B" = fV.slot ∧ RoadKit.slotOf Z ST "coder" "B" = fC.slot := by
  obtain ⟨D, cfV, kV, iV, fV, hD, gV, stV, knV, obV, asV, slV⟩ := V
  obtain ⟨D', cfC, kC, iC, fC, hD', gC, stC, -, -, asC, slC⟩ := C
  cases hD.symm.trans hD'
  obtain ⟨D2, kD, e1, e2, e3, e4, e5⟩ := E
  cases hD.symm.trans e1
  obtain ⟨c2, k2, i1, i2, i3, -⟩ := Cond.instantiable_spec wi
  cases e2.symm.trans i1
  cases e3.symm.trans i2
  obtain ⟨kU, u1, u2⟩ := al.2.2 _ _ e3
  exact ⟨D, fV, fC, ⟨hD, ⟨knV, fun q hq => by rw [hq] at obV; cases obV⟩, by rw [al.findClass]; exact e2, kU, u1, by rw [u2]; exact i3, by rw [u2]; exact e5 i3⟩, ⟨SBG.found_only al ⟨cfV, kV, iV, gV⟩, stV⟩, ⟨SBG.found_only al ⟨cfC, kC, iC, gC⟩, stC⟩, slV, slC, by simp [RoadKit.slotOf, gV], by simp [RoadKit.slotOf, gC]⟩
theorem sta_is {Z U : State} (al : Z.vm.Alike U.vm) {C n d : String} {v : Value} (S : RoadKit.Sta Z U.heap C n d v) : StaticIs U C n d v := by
  obtain ⟨cfS, iS, kS, fS, st, cS, t1, t2, t3, t4, t5, t6, t7⟩ := S
  exact StaticIs.there (s := { Z with heap := U.heap }) ⟨cfS, iS, kS, fS, st, cS, t1, t2, t3, t4, t5, (fun q => by rw [q] at t6; cases t6), t7⟩ al rfl
/-- **length() OF SUCH A STRING** -/
theorem lenW {p : Program} {l : Launch} {e : Env} {R : Room} {s : State} {args : Array Value} {below : List Frame} {len W : Nat} {Z : State} {a0 : Array Value} {h : Heap} (hZ : Z.Warmed39 s.vm) (hw : ∀ d ∈ wordsLen, d.before a0 Z = true) {kI : Nat} (wi : (Jvm.Cond.instantiable ST kI).before a0 Z = true)
    {x t : Addr} {kb : ClassId} {cs : List Int32} {cd N2 z : Int32} {vs : List Value} (E : RoadKit.Exa Z h x ST) (V : RoadKit.Fld Z h x ST "value" "[B" (.ref t)) (C : RoadKit.Fld Z h x ST "coder" "B" (.int cd)) (K : RoadKit.Arv Z h t kb .byte N2 vs (.int 0)) (hc : CodA cs cd N2 vs) (hb : ∀ c ∈ cs, ¬ c < 0 ∧ ¬ (65535 : Int32) < c)
    (S : RoadKit.Sta Z h ST "COMPACT_STRINGS" "Z" (.int z)) (hz : ¬ z = 0) (l2 : cs.length ≤ 4000) (hfr : 2 ≤ R.frames) (hlo : W + 25 ≤ R.locals) :
    Back l R p e below s args (⟨"java/lang/String", "length", "()I"⟩ : MethodName) len W (fun P a => a = #[.ref x] ∧ P.U.heap = h ∧ P.cells + 0 ≤ R.cells ∧ P.slots + 0 ≤ R.slots)
      (fun P _ v B => ∃ L, (v = some (.int (Int32.ofNat cs.length)) ∧ L = [] ∧ B.U.heap = h) ∧ B.locs = P.locs ++ L ∧ B.cells = P.cells + 0 ∧ B.slots = P.slots + 0) := by
  obtain ⟨A, K1, K2, K3, K4, K5, K6⟩ := K
  have hcod := hc.cod (by omega) K3 K5
  intro m meth c P g ig mk a X hg hsize hdg hW hn hp'
  obtain ⟨rfl, rfl, r1, r2⟩ := hp'
  have al : Z.vm.Alike P.U.vm := hZ.alike.trans X.warmed.alike
  obtain ⟨D, fV, fC, hB, F1, F2, g1, g2, -, -⟩ := strObj wi al E V C
  have hx : Txt x t A cd cs.length (fun j => cs.getD j 0) P.U := ⟨⟨_, hB.2.2.1, D, hB.1, rfl, by cases q : D.vm <;> first | rfl | exact absurd q (hB.2.1.2 _)⟩, Has.of hB F1 g1, Has.of hB F2 g2, ⟨K1.1, State.isArrayOf_alike al K1.2.1, K1.2.2, by rcases hcod with ⟨-, q, -⟩ | ⟨-, q, -⟩ <;> omega⟩, hcod, fun j hj => by
    have e : cs.getD j 0 = cs[j] := by simp [List.getD_eq_getElem?_getD, hj]
    show ¬ cs.getD j 0 < 0 ∧ ¬ 65535 < cs.getD j 0
    rw [e]; exact hb _ (List.getElem_mem _)⟩
  obtain ⟨v, B, X', ⟨⟨hv, hh⟩, hl, hk, hs⟩, st⟩ := Len.pays x t A cd cs.length (fun j => cs.getD j 0) z (tabLen_of (movedLen hZ hw)) hfr hlo m meth c P g ig mk _ X hg hsize hdg hW hn ⟨r1, r2, rfl, hx, sta_is al S, hz⟩
  exact ⟨v, B, X', ⟨[], ⟨hv, rfl, hh⟩, hl, hk, hs⟩, st⟩
end StrChars.Road
namespace StrChars.Road
open Jvm Sem ClassFile Op Lib Jvm.Stand Jvm.Free Jvm.Free.XT
open Jvm.Lib.Cold (StaticIs)
/-- the road's facts of a String, as the laws ask it -/
theorem txt_of {Z U : State} {a0 : Array Value} {kI : Nat} (wi : (Jvm.Cond.instantiable ST kI).before a0 Z = true) (al : Z.vm.Alike U.vm) {x t : Addr} {kb : ClassId} {cs : List Int32} {cd N2 : Int32} {vs : List Value} (E : RoadKit.Exa Z U.heap x ST) (V : RoadKit.Fld Z U.heap x ST "value" "[B" (.ref t)) (C : RoadKit.Fld Z U.heap x ST "coder" "B" (.int cd)) (K : RoadKit.Arv Z U.heap t kb .byte N2 vs (.int 0)) (hc : CodA cs cd N2 vs) (hb : ∀ c ∈ cs, ¬ c < 0 ∧ ¬ (65535 : Int32) < c) (l2 : cs.length ≤ 4000) :
    ∃ A, Txt x t A cd cs.length (fun j => cs.getD j 0) U := by
  obtain ⟨A, K1, K2, K3, K4, K5, K6⟩ := K
  have hcod := hc.cod (by omega) K3 K5
  obtain ⟨D, fV, fC, hB, F1, F2, g1, g2, -, -⟩ := strObj wi al E V C
  exact ⟨A, ⟨_, hB.2.2.1, D, hB.1, rfl, by cases q : D.vm <;> first | rfl | exact absurd q (hB.2.1.2 _)⟩, Has.of hB F1 g1, Has.of hB F2 g2, ⟨K1.1, State.isArrayOf_alike al K1.2.1, K1.2.2, by rcases hcod with ⟨-, q, -⟩ | ⟨-, q, -⟩ <;> omega⟩, hcod, fun j hj => by
    have e : cs.getD j 0 = cs[j] := by simp [List.getD_eq_getElem?_getD, hj]
    show ¬ cs.getD j 0 < 0 ∧ ¬ 65535 < cs.getD j 0
    rw [e]; exact hb _ (List.getElem_mem _)⟩
end StrChars.Road
namespace StrChars
open Jvm Sem ClassFile Op Lib Jvm.Stand Jvm.Free.XT Jvm.Free.ALB Jvm.Free.JM Jvm.Free
open Jvm.Lib.Cold (StaticIs)
namespace ChN
def yN : MethodName := ⟨"java/lang/String", "charAt", "(I)C"⟩
abbrev yB : ByteArray := jdk_42_method_56_code
theorem d0 : decode yB 0 = .ok (.aload_n 0, 1) := by decide +kernel
theorem d1 : decode yB 1 = .ok (.invokevirtual 492, 3) := by decide +kernel
theorem d4 : decode yB 4 = .ok (.ifCond (.eq) 12, 3) := by decide +kernel
theorem d7 : decode yB 7 = .ok (.aload_n 0, 1) := by decide +kernel
theorem d8 : decode yB 8 = .ok (.getfield 9, 3) := by decide +kernel
theorem d11 : decode yB 11 = .ok (.iload_n 1, 1) := by decide +kernel
theorem d12 : decode yB 12 = .ok (.invokestatic 495, 3) := by decide +kernel
theorem d15 : decode yB 15 = .ok (.ireturn, 1) := by decide +kernel
def site : List Cond := [.fieldLink "java/lang/String" 9 "java/lang/String" "value" "[B", IsL.tab, LChA.tab] ++ virtW "java/lang/String" 492 "java/lang/String" IsL.yN IsL.yN ++ staticW "java/lang/String" 495 LChA.yN
def tab : Cond := tabOf yN yB 2 (some .char) site
def P (x t : Addr) (V : Cell) (n : Nat) (f : Nat → Int32) (z : Int32) (fm : Value) (i : Nat) (args : Array Value) (s : State) : Prop := args = #[.ref x, .int (Int32.ofNat i)] ∧ Txt x t V 0 n f s ∧ i < n ∧ StaticIs s "java/lang/String" "COMPACT_STRINGS" "Z" (.int z) ∧ ¬ z = 0 ∧ StaticIs s "jdk/internal/util/Preconditions" "SIOOBE_FORMATTER" "Ljava/util/function/BiFunction;" fm ∧ fm.isRef = true
def E (f : Nat → Int32) (i : Nat) (r : Option Value) (s u : State) : Prop := XT.PureE (some (.int (f i))) r s u
/-- charAt(i) of a Latin-1 String of n chars, i < n: f i -/
theorem law (l : Launch) (x t : Addr) (V : Cell) (n : Nat) (f : Nat → Int32) (z : Int32) (fm : Value) (i : Nat) : Law l yN 2 1 3 40 yB 2 (some .char) site (P x t V n f z fm i) (E f i) [] 0 0 := by
  refine Law.of_walk (plainFor_of_name (by decide +kernel)) (by decide +kernel) (by decide +kernel) (by decide) (fun _ _ h => by rw [h.1]; rfl) (fun _ U U' hal hh h => ⟨h.1, h.2.1.mv hal hh, h.2.2.1, h.2.2.2.1.there hal hh, h.2.2.2.2.1, h.2.2.2.2.2.1.there hal hh, h.2.2.2.2.2.2⟩) (fun r U U' V V' h1 hal h2 h => XT.PureE.mv r U U' V V' h1 hal h2 h) ?_
  intro p e s m args below meth c s₁ X0 hexec hbytes hml hret hlk hnm hown hh0 W hP
  obtain ⟨rfl, hx, hi, s1, hz, s3, rf⟩ := hP
  have v31 := hx.2.2.2.1.2.2.2
  have hr := hx.2.2.2.2.2 i hi
  have hx0 := hx.mv X0.warmed.alike hh0
  have c1 : Steps p.tables e below (s₁.setTop (entryFrame m #[.ref x, .int (Int32.ofNat i)] 2)) (s₁.setTop (mkF m 1 #[.val (.ref x), .val (.int (Int32.ofNat i))] [.ref x])) := Steps.trans (entry rfl) (by
    show Steps p.tables e below (s₁.setTop (mkF m 0 #[.val (.ref x), .val (.int (Int32.ofNat i))] [])) _
    refine XS.aloadN X0.here hexec rfl (hb hbytes d0) rfl rfl ?_
    exact Steps.refl _)
  obtain ⟨v2, T2, X2, E2, g2⟩ := X0.callV hexec (IsL.law l x 0 z) hown (wks W (virtW "java/lang/String" 492 "java/lang/String" IsL.yN IsL.yN)) rfl (by decide) (wk W IsL.tab) (W := 0) (Nat.le_of_ble_eq_true rfl) (Nat.le_of_ble_eq_true rfl) (Nat.le_refl _) (Nat.le_refl _) (hx0.1.fc X0.warmed.alike) hx0.1.is (g := (mkF m 1 #[.val (.ref x), .val (.int (Int32.ofNat i))] [.ref x])) rfl (by rw [hml]; rfl) c1 (argsL := []) (rest := []) rfl rfl (by show 2 * 0 + 0 ≤ _; decide) (hb hbytes d1) (⟨rfl, hx0.2.2.1, hx.2.2.2.2.1.cd, s1.there X0.warmed.alike hh0, hz⟩)
  obtain ⟨rfl, q2⟩ := E2
  have hh2 := q2.trans hh0
  have hx2 := hx.mv X2.warmed.alike hh2
  obtain ⟨-, k1, k2⟩ | ⟨k0, -⟩ := hx.2.2.2.2.1
  · have c3 : Steps p.tables e below (s₁.setTop (entryFrame m #[.ref x, .int (Int32.ofNat i)] 2)) (T2.setTop (mkF m 8 #[.val (.ref x), .val (.int (Int32.ofNat i))] [.ref x])) := Steps.trans g2 (by
      refine XS.ifNo X2.here hexec rfl (hb hbytes d4) rfl (i0_eq_f (by decide)) ?_
      refine XS.aloadN X2.here hexec rfl (hb hbytes d7) rfl rfl ?_
      exact Steps.refl _)
    obtain ⟨T4, X4, q4, st4⟩ := X2.hget hexec hown (wk W (.fieldLink "java/lang/String" 9 "java/lang/String" "value" "[B")) hx2.2.1 (g := (mkF m 8 #[.val (.ref x), .val (.int (Int32.ofNat i))] [.ref x])) rfl (rest := []) rfl (hb hbytes d8)
    have hh4 := q4.trans hh2
    have c5 : Steps p.tables e below (s₁.setTop (entryFrame m #[.ref x, .int (Int32.ofNat i)] 2)) (T4.setTop (mkF m 12 #[.val (.ref x), .val (.int (Int32.ofNat i))] [.int (Int32.ofNat i), .ref t])) := (c3.trans (st4 _ (Steps.refl _))).trans (by
      refine XS.iloadN X4.here hexec rfl (hb hbytes d11) rfl ?_
      exact Steps.refl _)
    obtain ⟨v6, T6, X6, E6, g6⟩ := X4.callS hexec (LChA.law l t V i (lo8 (f i)) fm) hown (wks W (staticW "java/lang/String" 495 LChA.yN)) (wk W LChA.tab) (W := 0) (Nat.le_of_ble_eq_true rfl) (Nat.le_of_ble_eq_true rfl) (Nat.le_refl _) (Nat.le_refl _) (g := (mkF m 12 #[.val (.ref x), .val (.int (Int32.ofNat i))] [.int (Int32.ofNat i), .ref t])) rfl (by rw [hml]; rfl) c5 (argsL := [.ref t, .int (Int32.ofNat i)]) (rest := []) rfl rfl (by show 2 * 0 + 0 ≤ _; decide) (hb hbytes d12) (⟨rfl, hx.2.2.2.1.mv X4.warmed.alike hh4, (k2 i hi).1, s3.there X4.warmed.alike hh4, rf⟩)
    obtain ⟨rfl, q6⟩ := E6
    rw [chr8_lo8 hr.1 (k2 i hi).2] at g6
    exact ⟨T6, some (.int (f i)), _, _, _, X6, rfl, rfl, rfl, (fun h => by cases h), ⟨rfl, q6.trans hh4⟩, fun fs hl => Steps.trans g6 (X6.ireturnOut hexec hret (narrow_ch hr.1 hr.2) (Or.inr (Or.inr (Or.inr (Or.inl rfl)))) (hb hbytes d15) hl)⟩
  · exact absurd k0 (by decide)
theorem pays {l : Launch} {R : Room} {p : Program} {e : Env} {below : List Frame} {s : State} {sargs : Array Value} {len W : Nat} (x t : Addr) (V : Cell) (n : Nat) (f : Nat → Int32) (z : Int32) (fm : Value) (i : Nat) (htab : tab.before sargs s = true) (hfr : 4 ≤ R.frames) (hlo : W + 53 ≤ R.locals) :
    Back l R p e below s sargs yN len W (fun A₁ a₁ => A₁.cells + 0 ≤ R.cells ∧ A₁.slots + 0 ≤ R.slots ∧ P x t V n f z fm i a₁ A₁.U) (fun A₁ _ v₁ B₁ => E f i v₁ A₁.U B₁.U ∧ B₁.locs = A₁.locs ++ [] ∧ B₁.cells = A₁.cells + 0 ∧ B₁.slots = A₁.slots + 0) :=
  (law l x t V n f z fm i).pays htab hfr (by omega)
end ChN
end StrChars
namespace StrChars.Road
open Jvm Sem ClassFile Op Lib Jvm.Stand Jvm.Free Jvm.Free.XT
open Jvm.Lib.Cold (StaticIs)
/-- the words of String.charAt(int), the Latin-1 road alone -/
abbrev wordsChN : List Jvm.Cond := [.code ChN.yN ChN.yB 2 (some .char), .initialized ST, .fieldLink ST 9 ST "value" "[B", .fieldLink ST 38 ST "COMPACT_STRINGS" "Z", .fieldLink ST 15 ST "coder" "B", .code IsL.yN IsL.yB 1 (some .boolean), .methodLink ST 492 IsL.yN, .declares IsL.yN, .selects ST IsL.yN IsL.yN, .instanceMethod IsL.yN,
  .methodLink ST 495 LChA.yN, .static LChA.yN, .code LChA.yN LChA.yB 2 (some .char), .initialized "java/lang/StringLatin1", .methodLink "java/lang/StringLatin1" 9 JO.Str_checkIndex.yN, .static JO.Str_checkIndex.yN, .code JO.Str_checkIndex.yN JO.Str_checkIndex.yB 2 none,
  .fieldLink ST 1053 "jdk/internal/util/Preconditions" "SIOOBE_FORMATTER" "Ljava/util/function/BiFunction;", .methodLink ST 1059 JC.PreCheck.yN, .static JC.PreCheck.yN, .code JC.PreCheck.yN JC.PreCheck.yB 3 (some .int), .initialized "jdk/internal/util/Preconditions"]
theorem tabChN_of {a : Array Value} {s : State} (h : ∀ w ∈ wordsChN, w.before a s = true) : ChN.tab.before a s = true := by
  have hp : JC.PreCheck.tab.before a s = true := unparts (wk h (.code JC.PreCheck.yN JC.PreCheck.yB 3 (some .int))) (wks h (.initialized JC.PreCheck.yN.cls :: JC.PreCheck.site))
  have qk := consq hp h
  have hk : JO.Str_checkIndex.tab.before a s = true := unparts (wk qk (.code JO.Str_checkIndex.yN JO.Str_checkIndex.yB 2 none)) (wks qk (.initialized JO.Str_checkIndex.yN.cls :: JO.Str_checkIndex.site))
  have ql := consq hk h
  have hl : LChA.tab.before a s = true := unparts (wk ql (.code LChA.yN LChA.yB 2 (some .char))) (wks ql (.initialized LChA.yN.cls :: LChA.site))
  have hi : IsL.tab.before a s = true := unparts (wk h (.code IsL.yN IsL.yB 1 (some .boolean))) (wks h (.initialized IsL.yN.cls :: IsL.site))
  have q := consq hi (consq hl h)
  exact unparts (wk q (.code ChN.yN ChN.yB 2 (some .char))) (wks q (.initialized ChN.yN.cls :: ChN.site))
theorem movedChN {Z s : State} {a0 args : Array Value} (hZ : Z.Warmed39 s.vm) (hw : ∀ d ∈ wordsChN, d.before a0 Z = true) : ∀ d ∈ wordsChN, d.before args s = true := fun d hd => by
  have t : ∀ d ∈ wordsChN, (d.onTables && d.keepsFace) = true := by decide +kernel
  exact RoadKit.mv hZ (hw d hd) (t d hd)
/-- **charAt(i) OF A LATIN-1 STRING**, i < n: the char -/
theorem chN {p : Program} {l : Launch} {e : Env} {R : Room} {s : State} {args : Array Value} {below : List Frame} {len W : Nat} {Z : State} {a0 : Array Value} {h : Heap} (hZ : Z.Warmed39 s.vm) (hw : ∀ d ∈ wordsChN, d.before a0 Z = true) {kI : Nat} (wi : (Jvm.Cond.instantiable ST kI).before a0 Z = true)
    {x t : Addr} {kb : ClassId} {cs : List Int32} {N2 z : Int32} {vs : List Value} {fm : Value} {i : Nat} {j : Int32} (E : RoadKit.Exa Z h x ST) (V : RoadKit.Fld Z h x ST "value" "[B" (.ref t)) (C : RoadKit.Fld Z h x ST "coder" "B" (.int 0)) (K : RoadKit.Arv Z h t kb .byte N2 vs (.int 0)) (hc : CodA cs 0 N2 vs) (hb : ∀ c ∈ cs, ¬ c < 0 ∧ ¬ (65535 : Int32) < c)
    (S : RoadKit.Sta Z h ST "COMPACT_STRINGS" "Z" (.int z)) (hz : ¬ z = 0) (F : RoadKit.Sta Z h "jdk/internal/util/Preconditions" "SIOOBE_FORMATTER" "Ljava/util/function/BiFunction;" fm) (rf : fm.isRef = true) (l2 : cs.length ≤ 4000) (hi : i < cs.length) (hj : j = Int32.ofNat i) (hfr : 4 ≤ R.frames) (hlo : W + 53 ≤ R.locals) :
    Back l R p e below s args (⟨"java/lang/String", "charAt", "(I)C"⟩ : MethodName) len W (fun P a => a = #[.ref x, .int j] ∧ P.U.heap = h ∧ P.cells + 0 ≤ R.cells ∧ P.slots + 0 ≤ R.slots)
      (fun P _ v B => ∃ L, (v = some (.int (cs.getD i 0)) ∧ L = [] ∧ B.U.heap = h) ∧ B.locs = P.locs ++ L ∧ B.cells = P.cells + 0 ∧ B.slots = P.slots + 0) := by
  subst hj
  intro m meth c P g ig mk a X hg hsize hdg hW hn hp'
  obtain ⟨rfl, rfl, r1, r2⟩ := hp'
  have al : Z.vm.Alike P.U.vm := hZ.alike.trans X.warmed.alike
  obtain ⟨A, hx⟩ := txt_of wi al E V C K hc hb l2
  obtain ⟨v, B, X', ⟨⟨hv, hh⟩, hl, hk, hs⟩, st⟩ := ChN.pays x t A cs.length (fun j => cs.getD j 0) z fm i (tabChN_of (movedChN hZ hw)) hfr hlo m meth c P g ig mk _ X hg hsize hdg hW hn ⟨r1, r2, rfl, hx, hi, sta_is al S, hz, sta_is al F, rf⟩
  exact ⟨v, B, X', ⟨[], ⟨hv, rfl, hh⟩, hl, hk, hs⟩, st⟩
/-- what backV says of its String, as the contracts of this text ask it: cs's low bytes, coder 0 -/
theorem codOf {cs : List Int32} {n : Nat} (hn : cs.length = n) (hb : ∀ c ∈ cs, ¬ 255 < c) : CodA cs 0 (Int32.ofNat n) ((cs.map lo8).map Value.int) := Or.inl ⟨rfl, by rw [hn], by simp [List.map_map, Function.comp_def], hb⟩
end StrChars.Road
end Jvm.Pilot.@@N@@
namespace Jvm.Pilot.@@N@@
open Jvm Jvm.ClassFile Sem Op Lib Jvm.Free Jvm.Stand Jvm.LawKit Jvm.RoadKit Bundle Jvm.Pilot.@@N@@.Jvm.D
section OwnGo
variable {p : Program} {e : Env} {below : List Frame} {F : State → Outcome → Prop} {m : MethodId} {c : Code} {T U V : State} {pc pc' pc2 : Nat} {Ls L' : Array Slot} {st : List Value}
/-- from here the walk comes to an end that F takes -/
def own_Go (p : Program) (e : Env) (below : List Frame) (F : State → Outcome → Prop) (U : State) : Prop := ∃ (t : State) (o : Outcome), Steps p.tables e below U t ∧ t.status = .running ∧ Ended t below o ∧ F t o
theorem own_on (h : ∀ t, Steps p.tables e below V t → Steps p.tables e below U t) (g : own_Go p e below F V) : own_Go p e below F U := by
  obtain ⟨t, o, h1, r⟩ := g; exact ⟨t, o, h t h1, r⟩
theorem own_to (h : Steps p.tables e below U V) (g : own_Go p e below F V) : own_Go p e below F U := by
  obtain ⟨t, o, h1, r⟩ := g; exact ⟨t, o, h.trans h1, r⟩
theorem own_aload_n (h : At T m c below) (hx : p.tables.exec = Jvm.exec) {k : Fin 4} {v : Value} (hd : decode c.code pc = .ok (.aload_n k, 1)) (hl : Ls[k.val]? = some (.val v)) (hv : v.isRef = true) (hp : pc + 1 = pc') (K : own_Go p e below F (T.setTop (mkF m pc' Ls (v :: st)))) : own_Go p e below F (T.setTop (mkF m pc Ls st)) := by
  subst hp; exact own_on (fun _ => XS.aloadN h hx rfl hd hl hv) K
theorem own_aload (h : At T m c below) (hx : p.tables.exec = Jvm.exec) {k : Nat} {v : Value} (hd : decode c.code pc = .ok (.aload k, 2)) (hl : Ls[k]? = some (.val v)) (hv : v.isRef = true) (hp : pc + 2 = pc') (K : own_Go p e below F (T.setTop (mkF m pc' Ls (v :: st)))) : own_Go p e below F (T.setTop (mkF m pc Ls st)) := by
  subst hp; exact own_on (fun _ => XS.aload h hx rfl hd hl hv) K
theorem own_iload_n (h : At T m c below) (hx : p.tables.exec = Jvm.exec) {k : Fin 4} {v : Int32} (hd : decode c.code pc = .ok (.iload_n k, 1)) (hl : Ls[k.val]? = some (.val (.int v))) (hp : pc + 1 = pc') (K : own_Go p e below F (T.setTop (mkF m pc' Ls (.int v :: st)))) : own_Go p e below F (T.setTop (mkF m pc Ls st)) := by
  subst hp; exact own_on (fun _ => XS.iloadN h hx rfl hd hl) K
theorem own_iload (h : At T m c below) (hx : p.tables.exec = Jvm.exec) {k : Nat} {v : Int32} (hd : decode c.code pc = .ok (.iload k, 2)) (hl : Ls[k]? = some (.val (.int v))) (hp : pc + 2 = pc') (K : own_Go p e below F (T.setTop (mkF m pc' Ls (.int v :: st)))) : own_Go p e below F (T.setTop (mkF m pc Ls st)) := by
  subst hp; exact own_on (fun _ => XS.iload h hx rfl hd hl) K
theorem own_lload_n (h : At T m c below) (hx : p.tables.exec = Jvm.exec) {k : Fin 4} {v : Int64} (hd : decode c.code pc = .ok (.lload_n k, 1)) (hl : Ls[k.val]? = some (.val (.long v))) (hp : pc + 1 = pc') (K : own_Go p e below F (T.setTop (mkF m pc' Ls (.long v :: st)))) : own_Go p e below F (T.setTop (mkF m pc Ls st)) := by
  subst hp; exact own_on (fun _ => XT.lloadN h hx rfl hd hl) K
theorem own_lload (h : At T m c below) (hx : p.tables.exec = Jvm.exec) {k : Nat} {v : Int64} (hd : decode c.code pc = .ok (.lload k, 2)) (hl : Ls[k]? = some (.val (.long v))) (hp : pc + 2 = pc') (K : own_Go p e below F (T.setTop (mkF m pc' Ls (.long v :: st)))) : own_Go p e below F (T.setTop (mkF m pc Ls st)) := by
  subst hp; exact own_on (fun _ => XT.lload h hx rfl hd hl) K
theorem own_dload_n (h : At T m c below) (hx : p.tables.exec = Jvm.exec) {k : Fin 4} {v : UInt64} (hd : decode c.code pc = .ok (.dload_n k, 1)) (hl : Ls[k.val]? = some (.val (.double v))) (hp : pc + 1 = pc') (K : own_Go p e below F (T.setTop (mkF m pc' Ls (.double v :: st)))) : own_Go p e below F (T.setTop (mkF m pc Ls st)) := by
  subst hp; exact own_on (fun _ => XS.dloadN h hx rfl hd hl) K
theorem own_dload (h : At T m c below) (hx : p.tables.exec = Jvm.exec) {k : Nat} {v : UInt64} (hd : decode c.code pc = .ok (.dload k, 2)) (hl : Ls[k]? = some (.val (.double v))) (hp : pc + 2 = pc') (K : own_Go p e below F (T.setTop (mkF m pc' Ls (.double v :: st)))) : own_Go p e below F (T.setTop (mkF m pc Ls st)) := by
  subst hp; exact own_on (fun _ => XS.dload h hx rfl hd hl) K
theorem own_iconst (h : At T m c below) (hx : p.tables.exec = Jvm.exec) {i : Int} {v : Int32} (hd : decode c.code pc = .ok (.iconst i, 1)) (hv : Int32.ofInt i = v) (hp : pc + 1 = pc') (K : own_Go p e below F (T.setTop (mkF m pc' Ls (.int v :: st)))) : own_Go p e below F (T.setTop (mkF m pc Ls st)) := by
  subst hp hv; exact own_on (fun _ => XS.iconst h hx rfl hd) K
theorem own_bipush (h : At T m c below) (hx : p.tables.exec = Jvm.exec) {i : Int} {v : Int32} (hd : decode c.code pc = .ok (.bipush i, 2)) (hv : (Int8.ofInt i).toInt32 = v) (hp : pc + 2 = pc') (K : own_Go p e below F (T.setTop (mkF m pc' Ls (.int v :: st)))) : own_Go p e below F (T.setTop (mkF m pc Ls st)) := by
  subst hp hv; exact own_on (fun _ => XS.bipush h hx rfl hd) K
theorem own_sipush (h : At T m c below) (hx : p.tables.exec = Jvm.exec) {i : Int} {v : Int32} (hd : decode c.code pc = .ok (.sipush i, 3)) (hv : (Int16.ofInt i).toInt32 = v) (hp : pc + 3 = pc') (K : own_Go p e below F (T.setTop (mkF m pc' Ls (.int v :: st)))) : own_Go p e below F (T.setTop (mkF m pc Ls st)) := by
  subst hp hv; exact own_on (fun _ => XS.sipush h hx rfl hd) K
theorem own_lconst (h : At T m c below) (hx : p.tables.exec = Jvm.exec) {k : Fin 2} {v : Int64} (hd : decode c.code pc = .ok (.lconst k, 1)) (hv : Int64.ofNat k = v) (hp : pc + 1 = pc') (K : own_Go p e below F (T.setTop (mkF m pc' Ls (.long v :: st)))) : own_Go p e below F (T.setTop (mkF m pc Ls st)) := by
  subst hp hv; exact own_on (fun _ => XT.lconst h hx rfl hd) K
theorem own_aconst_null (h : At T m c below) (hx : p.tables.exec = Jvm.exec) (hd : decode c.code pc = .ok (.aconst_null, 1)) (hp : pc + 1 = pc') (K : own_Go p e below F (T.setTop (mkF m pc' Ls (.null :: st)))) : own_Go p e below F (T.setTop (mkF m pc Ls st)) := by
  subst hp; exact own_on (fun _ => XS.aconstNull h hx rfl hd) K
theorem own_iadd (h : At T m c below) (hx : p.tables.exec = Jvm.exec) {x y : Int32} (hd : decode c.code pc = .ok (.iadd, 1)) (hp : pc + 1 = pc') (K : own_Go p e below F (T.setTop (mkF m pc' Ls (.int (x + y) :: st)))) : own_Go p e below F (T.setTop (mkF m pc Ls (.int y :: .int x :: st))) := by
  subst hp; exact own_on (fun _ => XS.iadd h hx rfl hd rfl) K
theorem own_isub (h : At T m c below) (hx : p.tables.exec = Jvm.exec) {x y : Int32} (hd : decode c.code pc = .ok (.isub, 1)) (hp : pc + 1 = pc') (K : own_Go p e below F (T.setTop (mkF m pc' Ls (.int (x - y) :: st)))) : own_Go p e below F (T.setTop (mkF m pc Ls (.int y :: .int x :: st))) := by
  subst hp; exact own_on (fun _ => XS.isub h hx rfl hd rfl) K
theorem own_imul (h : At T m c below) (hx : p.tables.exec = Jvm.exec) {x y : Int32} (hd : decode c.code pc = .ok (.imul, 1)) (hp : pc + 1 = pc') (K : own_Go p e below F (T.setTop (mkF m pc' Ls (.int (x * y) :: st)))) : own_Go p e below F (T.setTop (mkF m pc Ls (.int y :: .int x :: st))) := by
  subst hp; exact own_on (fun _ => XS.imul h hx rfl hd rfl) K
theorem own_irem (h : At T m c below) (hx : p.tables.exec = Jvm.exec) {x y : Int32} (hd : decode c.code pc = .ok (.irem, 1)) (hy : y ≠ 0) (hp : pc + 1 = pc') (K : own_Go p e below F (T.setTop (mkF m pc' Ls (.int (x % y) :: st)))) : own_Go p e below F (T.setTop (mkF m pc Ls (.int y :: .int x :: st))) := by
  subst hp; exact own_on (fun _ hr => XS.irem h hx rfl hd rfl hy (by rw [show x - x / y * y = x % y from irem_eq_mod x y]; exact hr)) K
theorem own_iand (h : At T m c below) (hx : p.tables.exec = Jvm.exec) {x y : Int32} (hd : decode c.code pc = .ok (.iand, 1)) (hp : pc + 1 = pc') (K : own_Go p e below F (T.setTop (mkF m pc' Ls (.int (x &&& y) :: st)))) : own_Go p e below F (T.setTop (mkF m pc Ls (.int y :: .int x :: st))) := by
  subst hp; exact own_on (fun _ => XS.iand h hx rfl hd rfl) K
theorem own_ior (h : At T m c below) (hx : p.tables.exec = Jvm.exec) {x y : Int32} (hd : decode c.code pc = .ok (.ior, 1)) (hp : pc + 1 = pc') (K : own_Go p e below F (T.setTop (mkF m pc' Ls (.int (x ||| y) :: st)))) : own_Go p e below F (T.setTop (mkF m pc Ls (.int y :: .int x :: st))) := by
  subst hp; exact own_on (fun _ => XT.ior h hx rfl hd rfl) K
theorem own_ishl (h : At T m c below) (hx : p.tables.exec = Jvm.exec) {x y : Int32} (hd : decode c.code pc = .ok (.ishl, 1)) (hp : pc + 1 = pc') (K : own_Go p e below F (T.setTop (mkF m pc' Ls (.int (x <<< (y &&& 31)) :: st)))) : own_Go p e below F (T.setTop (mkF m pc Ls (.int y :: .int x :: st))) := by
  subst hp; exact own_on (fun _ => XT.ishl h hx rfl hd rfl) K
theorem own_ishr (h : At T m c below) (hx : p.tables.exec = Jvm.exec) {x y : Int32} (hd : decode c.code pc = .ok (.ishr, 1)) (hp : pc + 1 = pc') (K : own_Go p e below F (T.setTop (mkF m pc' Ls (.int (x >>> (y &&& 31)) :: st)))) : own_Go p e below F (T.setTop (mkF m pc Ls (.int y :: .int x :: st))) := by
  subst hp; exact own_on (fun _ => XT.ishr h hx rfl hd rfl) K
theorem own_iushr (h : At T m c below) (hx : p.tables.exec = Jvm.exec) {x y : Int32} (hd : decode c.code pc = .ok (.iushr, 1)) (hp : pc + 1 = pc') (K : own_Go p e below F (T.setTop (mkF m pc' Ls (.int (XT.ushr x y) :: st)))) : own_Go p e below F (T.setTop (mkF m pc Ls (.int y :: .int x :: st))) := by
  subst hp; exact own_on (fun _ => XT.iushr h hx rfl hd rfl) K
theorem own_i2l (h : At T m c below) (hx : p.tables.exec = Jvm.exec) {x : Int32} (hd : decode c.code pc = .ok (.i2l, 1)) (hp : pc + 1 = pc') (K : own_Go p e below F (T.setTop (mkF m pc' Ls (.long x.toInt64 :: st)))) : own_Go p e below F (T.setTop (mkF m pc Ls (.int x :: st))) := by
  subst hp; exact own_on (fun _ => XT.i2l h hx rfl hd rfl) K
theorem own_l2i (h : At T m c below) (hx : p.tables.exec = Jvm.exec) {x : Int64} (hd : decode c.code pc = .ok (.l2i, 1)) (hp : pc + 1 = pc') (K : own_Go p e below F (T.setTop (mkF m pc' Ls (.int x.toInt32 :: st)))) : own_Go p e below F (T.setTop (mkF m pc Ls (.long x :: st))) := by
  subst hp; exact own_on (fun _ => XT.l2i h hx rfl hd rfl) K
/-- (char) x -/
def own_c (x : Int32) : Int32 := x.toUInt32.toUInt16.toUInt32.toInt32
theorem own_i2c (h : At T m c below) (hx : p.tables.exec = Jvm.exec) {x : Int32} (hd : decode c.code pc = .ok (.i2c, 1)) (hp : pc + 1 = pc') (K : own_Go p e below F (T.setTop (mkF m pc' Ls (.int (own_c x) :: st)))) : own_Go p e below F (T.setTop (mkF m pc Ls (.int x :: st))) := by
  subst hp; exact own_on (fun _ => XT.i2c h hx rfl hd rfl) K
theorem own_i2b (h : At T m c below) (hx : p.tables.exec = Jvm.exec) {x : Int32} (hd : decode c.code pc = .ok (.i2b, 1)) (hp : pc + 1 = pc') (K : own_Go p e below F (T.setTop (mkF m pc' Ls (.int x.toInt8.toInt32 :: st)))) : own_Go p e below F (T.setTop (mkF m pc Ls (.int x :: st))) := by
  subst hp; exact own_on (fun _ => XT.i2b h hx rfl hd rfl) K
theorem own_i2d (h : At T m c below) (hx : p.tables.exec = Jvm.exec) {x : Int32} (hd : decode c.code pc = .ok (.i2d, 1)) (hp : pc + 1 = pc') (K : own_Go p e below F (T.setTop (mkF m pc' Ls (.double (FP.i2d x) :: st)))) : own_Go p e below F (T.setTop (mkF m pc Ls (.int x :: st))) := by
  subst hp; exact own_on (fun _ => XS.i2dS h hx rfl hd rfl rfl) K
theorem own_l2d (h : At T m c below) (hx : p.tables.exec = Jvm.exec) {x : Int64} (hd : decode c.code pc = .ok (.l2d, 1)) (hp : pc + 1 = pc') (K : own_Go p e below F (T.setTop (mkF m pc' Ls (.double (FP.l2d x) :: st)))) : own_Go p e below F (T.setTop (mkF m pc Ls (.long x :: st))) := by
  subst hp; exact own_on (fun _ => XS.l2dS h hx rfl hd rfl rfl) K
theorem own_dneg (h : At T m c below) (hx : p.tables.exec = Jvm.exec) {x : UInt64} (hd : decode c.code pc = .ok (.dneg, 1)) (hp : pc + 1 = pc') (K : own_Go p e below F (T.setTop (mkF m pc' Ls (.double (FP.dneg x) :: st)))) : own_Go p e below F (T.setTop (mkF m pc Ls (.double x :: st))) := by
  subst hp; exact own_on (fun _ => XS.dnegS h hx rfl hd rfl rfl) K
theorem own_dcmp (h : At T m c below) (hx : p.tables.exec = Jvm.exec) {o : CmpOp} {x y : UInt64} {v : Int32} (hd : decode c.code pc = .ok (.dcmp o, 1)) (hv : cmpValue (FP.dcmp x y) o = v) (hp : pc + 1 = pc') (K : own_Go p e below F (T.setTop (mkF m pc' Ls (.int v :: st)))) : own_Go p e below F (T.setTop (mkF m pc Ls (.double y :: .double x :: st))) := by
  subst hp; exact own_on (fun _ => XS.dcmpS h hx rfl hd rfl hv) K
theorem own_dmul (h : At T m c below) (hx : p.tables.exec = Jvm.exec) {x y : UInt64} (hd : decode c.code pc = .ok (.dmul, 1)) (hn : Jvm.Free.Fl.NoNaN64 (FP.dmul x y)) (hp : pc + 1 = pc') (K : own_Go p e below F (T.setTop (mkF m pc' Ls (.double (FP.dmul x y) :: st)))) : own_Go p e below F (T.setTop (mkF m pc Ls (.double y :: .double x :: st))) := by
  subst hp; exact own_on (fun _ => XS.dmulS h hx rfl hd rfl hn rfl) K
theorem own_ddiv (h : At T m c below) (hx : p.tables.exec = Jvm.exec) {x y : UInt64} (hd : decode c.code pc = .ok (.ddiv, 1)) (hn : Jvm.Free.Fl.NoNaN64 (FP.ddiv x y)) (hp : pc + 1 = pc') (K : own_Go p e below F (T.setTop (mkF m pc' Ls (.double (FP.ddiv x y) :: st)))) : own_Go p e below F (T.setTop (mkF m pc Ls (.double y :: .double x :: st))) := by
  subst hp; exact own_on (fun _ => XS.ddivS h hx rfl hd rfl hn rfl) K
theorem own_ladd (h : At T m c below) (hx : p.tables.exec = Jvm.exec) {x y : Int64} (hd : decode c.code pc = .ok (.ladd, 1)) (hp : pc + 1 = pc') (K : own_Go p e below F (T.setTop (mkF m pc' Ls (.long (x + y) :: st)))) : own_Go p e below F (T.setTop (mkF m pc Ls (.long y :: .long x :: st))) := by
  subst hp; exact own_on (fun _ => XT.ladd h hx rfl hd rfl) K
theorem own_lsub (h : At T m c below) (hx : p.tables.exec = Jvm.exec) {x y : Int64} (hd : decode c.code pc = .ok (.lsub, 1)) (hp : pc + 1 = pc') (K : own_Go p e below F (T.setTop (mkF m pc' Ls (.long (x - y) :: st)))) : own_Go p e below F (T.setTop (mkF m pc Ls (.long y :: .long x :: st))) := by
  subst hp; exact own_on (fun _ => XT.lsub h hx rfl hd rfl) K
theorem own_lmul (h : At T m c below) (hx : p.tables.exec = Jvm.exec) {x y : Int64} (hd : decode c.code pc = .ok (.lmul, 1)) (hp : pc + 1 = pc') (K : own_Go p e below F (T.setTop (mkF m pc' Ls (.long (x * y) :: st)))) : own_Go p e below F (T.setTop (mkF m pc Ls (.long y :: .long x :: st))) := by
  subst hp; exact own_on (fun _ => XT.lmul h hx rfl hd rfl) K
theorem own_land (h : At T m c below) (hx : p.tables.exec = Jvm.exec) {x y : Int64} (hd : decode c.code pc = .ok (.land, 1)) (hp : pc + 1 = pc') (K : own_Go p e below F (T.setTop (mkF m pc' Ls (.long (x &&& y) :: st)))) : own_Go p e below F (T.setTop (mkF m pc Ls (.long y :: .long x :: st))) := by
  subst hp; exact own_on (fun _ => XT.land h hx rfl hd rfl) K
theorem own_lneg (h : At T m c below) (hx : p.tables.exec = Jvm.exec) {x : Int64} (hd : decode c.code pc = .ok (.lneg, 1)) (hp : pc + 1 = pc') (K : own_Go p e below F (T.setTop (mkF m pc' Ls (.long (-x) :: st)))) : own_Go p e below F (T.setTop (mkF m pc Ls (.long x :: st))) := by
  subst hp; exact own_on (fun _ => XT.lneg h hx rfl hd rfl) K
theorem own_lushr (h : At T m c below) (hx : p.tables.exec = Jvm.exec) {x : Int64} {y : Int32} (hd : decode c.code pc = .ok (.lushr, 1)) (hp : pc + 1 = pc') (K : own_Go p e below F (T.setTop (mkF m pc' Ls (.long (XT.ushrL x y) :: st)))) : own_Go p e below F (T.setTop (mkF m pc Ls (.int y :: .long x :: st))) := by
  subst hp; exact own_on (fun _ => XT.lushr h hx rfl hd rfl) K
theorem own_lcmp (h : At T m c below) (hx : p.tables.exec = Jvm.exec) {x y : Int64} (hd : decode c.code pc = .ok (.lcmp, 1)) (hp : pc + 1 = pc') (K : own_Go p e below F (T.setTop (mkF m pc' Ls (.int (XT.cmpL x y) :: st)))) : own_Go p e below F (T.setTop (mkF m pc Ls (.long y :: .long x :: st))) := by
  subst hp; exact own_on (fun _ => XT.lcmp h hx rfl hd rfl) K
theorem own_dup (h : At T m c below) (hx : p.tables.exec = Jvm.exec) {x : Value} (hd : decode c.code pc = .ok (.dup, 1)) (hc : x.category = 1) (hp : pc + 1 = pc') (K : own_Go p e below F (T.setTop (mkF m pc' Ls (x :: x :: st)))) : own_Go p e below F (T.setTop (mkF m pc Ls (x :: st))) := by
  subst hp; exact own_on (fun _ => XS.dup h hx rfl hd rfl hc) K
theorem own_pop (h : At T m c below) (hx : p.tables.exec = Jvm.exec) {x : Value} (hd : decode c.code pc = .ok (.pop, 1)) (hc : x.category = 1) (hp : pc + 1 = pc') (K : own_Go p e below F (T.setTop (mkF m pc' Ls st))) : own_Go p e below F (T.setTop (mkF m pc Ls (x :: st))) := by
  subst hp; exact own_on (fun _ => XT.pop h hx rfl hd rfl hc) K
theorem own_istore_n (h : At T m c below) (hx : p.tables.exec = Jvm.exec) {k : Fin 4} {x : Int32} (hd : decode c.code pc = .ok (.istore_n k, 1)) (hl : storeLocals Ls k.val (.int x) = some L') (hp : pc + 1 = pc') (K : own_Go p e below F (T.setTop (mkF m pc' L' st))) : own_Go p e below F (T.setTop (mkF m pc Ls (.int x :: st))) := by
  subst hp; exact own_on (fun _ => XS.istoreN h hx rfl hd rfl hl) K
theorem own_istore (h : At T m c below) (hx : p.tables.exec = Jvm.exec) {k : Nat} {x : Int32} (hd : decode c.code pc = .ok (.istore k, 2)) (hl : storeLocals Ls k (.int x) = some L') (hp : pc + 2 = pc') (K : own_Go p e below F (T.setTop (mkF m pc' L' st))) : own_Go p e below F (T.setTop (mkF m pc Ls (.int x :: st))) := by
  subst hp; exact own_on (fun _ => XS.istore h hx rfl hd rfl hl) K
theorem own_astore_n (h : At T m c below) (hx : p.tables.exec = Jvm.exec) {k : Fin 4} {x : Value} (hd : decode c.code pc = .ok (.astore_n k, 1)) (hv : x.isRef = true) (hl : storeLocals Ls k.val x = some L') (hp : pc + 1 = pc') (K : own_Go p e below F (T.setTop (mkF m pc' L' st))) : own_Go p e below F (T.setTop (mkF m pc Ls (x :: st))) := by
  subst hp; exact own_on (fun _ => XS.astoreN h hx rfl hd rfl hv hl) K
theorem own_astore (h : At T m c below) (hx : p.tables.exec = Jvm.exec) {k : Nat} {x : Value} (hd : decode c.code pc = .ok (.astore k, 2)) (hv : x.isRef = true) (hl : storeLocals Ls k x = some L') (hp : pc + 2 = pc') (K : own_Go p e below F (T.setTop (mkF m pc' L' st))) : own_Go p e below F (T.setTop (mkF m pc Ls (x :: st))) := by
  subst hp; exact own_on (fun _ => XS.astore h hx rfl hd rfl hv hl) K
theorem own_lstore_n (h : At T m c below) (hx : p.tables.exec = Jvm.exec) {k : Fin 4} {x : Int64} (hd : decode c.code pc = .ok (.lstore_n k, 1)) (hl : storeLocals Ls k.val (.long x) = some L') (hp : pc + 1 = pc') (K : own_Go p e below F (T.setTop (mkF m pc' L' st))) : own_Go p e below F (T.setTop (mkF m pc Ls (.long x :: st))) := by
  subst hp; exact own_on (fun _ => XT.lstoreN h hx rfl hd rfl hl) K
theorem own_lstore (h : At T m c below) (hx : p.tables.exec = Jvm.exec) {k : Nat} {x : Int64} (hd : decode c.code pc = .ok (.lstore k, 2)) (hl : storeLocals Ls k (.long x) = some L') (hp : pc + 2 = pc') (K : own_Go p e below F (T.setTop (mkF m pc' L' st))) : own_Go p e below F (T.setTop (mkF m pc Ls (.long x :: st))) := by
  subst hp; exact own_on (fun _ => XT.lstore h hx rfl hd rfl hl) K
theorem own_dstore (h : At T m c below) (hx : p.tables.exec = Jvm.exec) {k : Nat} {x : UInt64} (hd : decode c.code pc = .ok (.dstore k, 2)) (hl : storeLocals Ls k (.double x) = some L') (hp : pc + 2 = pc') (K : own_Go p e below F (T.setTop (mkF m pc' L' st))) : own_Go p e below F (T.setTop (mkF m pc Ls (.double x :: st))) := by
  subst hp; exact own_on (fun _ => XS.dstore h hx rfl hd rfl hl) K
theorem own_iinc (h : At T m c below) (hx : p.tables.exec = Jvm.exec) {k : Nat} {i : Int} {x y : Int32} (hd : decode c.code pc = .ok (.iinc k i, 3)) (hl : Ls[k]? = some (.val (.int x))) (hy : x + Int32.ofInt i = y) (hl' : storeLocals Ls k (.int y) = some L') (hp : pc + 3 = pc') (K : own_Go p e below F (T.setTop (mkF m pc' L' st))) : own_Go p e below F (T.setTop (mkF m pc Ls st)) := by
  subst hp hy; exact own_on (fun _ => XS.iinc h hx rfl hd hl hl') K
theorem own_goto (h : At T m c below) (hx : p.tables.exec = Jvm.exec) {o : Int} (hd : decode c.code pc = .ok (.goto o, 3)) (ho : 0 ≤ (pc : Int) + o) (hp : ((pc : Int) + o).toNat = pc') (K : own_Go p e below F (T.setTop (mkF m pc' Ls st))) : own_Go p e below F (T.setTop (mkF m pc Ls st)) :=
  own_on (fun _ => XS.goto h hx rfl rfl hd ho hp) K
theorem own_if (h : At T m c below) (hx : p.tables.exec = Jvm.exec) {cd : ClassFile.Cond} {x : Int32} {o : Int} (hd : decode c.code pc = .ok (.ifCond cd o, 3)) (ho : 0 ≤ (pc : Int) + o) (hp : ((pc : Int) + o).toNat = pc') (hp2 : pc + 3 = pc2)
    (Y : ifCond.holds cd x = true → own_Go p e below F (T.setTop (mkF m pc' Ls st))) (N : ifCond.holds cd x = false → own_Go p e below F (T.setTop (mkF m pc2 Ls st))) : own_Go p e below F (T.setTop (mkF m pc Ls (.int x :: st))) := by
  subst hp2
  cases hc : ifCond.holds cd x with
  | true => exact own_on (fun _ => XS.ifYes h hx rfl rfl hd rfl hc ho hp) (Y hc)
  | false => exact own_on (fun _ => XS.ifNo h hx rfl hd rfl hc) (N hc)
theorem own_icmp (h : At T m c below) (hx : p.tables.exec = Jvm.exec) {cd : ClassFile.Cond} {x y : Int32} {o : Int} (hd : decode c.code pc = .ok (.if_icmp cd o, 3)) (ho : 0 ≤ (pc : Int) + o) (hp : ((pc : Int) + o).toNat = pc') (hp2 : pc + 3 = pc2)
    (Y : if_icmp.holds cd x y = true → own_Go p e below F (T.setTop (mkF m pc' Ls st))) (N : if_icmp.holds cd x y = false → own_Go p e below F (T.setTop (mkF m pc2 Ls st))) : own_Go p e below F (T.setTop (mkF m pc Ls (.int y :: .int x :: st))) := by
  subst hp2
  cases hc : if_icmp.holds cd x y with
  | true => exact own_on (fun _ => XS.icmpYes h hx rfl rfl hd rfl hc ho hp) (Y hc)
  | false => exact own_on (fun _ => XS.icmpNo h hx rfl hd rfl hc) (N hc)
theorem own_ifeq (h : At T m c below) (hx : p.tables.exec = Jvm.exec) {x : Int32} {o : Int} (hd : decode c.code pc = .ok (.ifCond .eq o, 3)) (ho : 0 ≤ (pc : Int) + o) (hp : ((pc : Int) + o).toNat = pc') (hp2 : pc + 3 = pc2)
    (Y : x = 0 → own_Go p e below F (T.setTop (mkF m pc' Ls st))) (N : ¬ x = 0 → own_Go p e below F (T.setTop (mkF m pc2 Ls st))) : own_Go p e below F (T.setTop (mkF m pc Ls (.int x :: st))) :=
  own_if h hx hd ho hp hp2 (fun q => Y (by simpa [ifCond.holds] using q)) (fun q => N (by simpa [ifCond.holds] using q))
theorem own_ifne (h : At T m c below) (hx : p.tables.exec = Jvm.exec) {x : Int32} {o : Int} (hd : decode c.code pc = .ok (.ifCond .ne o, 3)) (ho : 0 ≤ (pc : Int) + o) (hp : ((pc : Int) + o).toNat = pc') (hp2 : pc + 3 = pc2)
    (Y : ¬ x = 0 → own_Go p e below F (T.setTop (mkF m pc' Ls st))) (N : x = 0 → own_Go p e below F (T.setTop (mkF m pc2 Ls st))) : own_Go p e below F (T.setTop (mkF m pc Ls (.int x :: st))) :=
  own_if h hx hd ho hp hp2 (fun q => Y (by simpa [ifCond.holds] using q)) (fun q => N (by simpa [ifCond.holds] using q))
theorem own_iflt (h : At T m c below) (hx : p.tables.exec = Jvm.exec) {x : Int32} {o : Int} (hd : decode c.code pc = .ok (.ifCond .lt o, 3)) (ho : 0 ≤ (pc : Int) + o) (hp : ((pc : Int) + o).toNat = pc') (hp2 : pc + 3 = pc2)
    (Y : x < 0 → own_Go p e below F (T.setTop (mkF m pc' Ls st))) (N : ¬ x < 0 → own_Go p e below F (T.setTop (mkF m pc2 Ls st))) : own_Go p e below F (T.setTop (mkF m pc Ls (.int x :: st))) :=
  own_if h hx hd ho hp hp2 (fun q => Y (of_decide_eq_true q)) (fun q => N (of_decide_eq_false q))
theorem own_ifge (h : At T m c below) (hx : p.tables.exec = Jvm.exec) {x : Int32} {o : Int} (hd : decode c.code pc = .ok (.ifCond .ge o, 3)) (ho : 0 ≤ (pc : Int) + o) (hp : ((pc : Int) + o).toNat = pc') (hp2 : pc + 3 = pc2)
    (Y : ¬ x < 0 → own_Go p e below F (T.setTop (mkF m pc' Ls st))) (N : x < 0 → own_Go p e below F (T.setTop (mkF m pc2 Ls st))) : own_Go p e below F (T.setTop (mkF m pc Ls (.int x :: st))) :=
  own_if h hx hd ho hp hp2 (fun q => Y (Int32.not_lt.mpr (of_decide_eq_true q))) (fun q => N (Int32.not_le.mp (of_decide_eq_false q)))
theorem own_ifgt (h : At T m c below) (hx : p.tables.exec = Jvm.exec) {x : Int32} {o : Int} (hd : decode c.code pc = .ok (.ifCond .gt o, 3)) (ho : 0 ≤ (pc : Int) + o) (hp : ((pc : Int) + o).toNat = pc') (hp2 : pc + 3 = pc2)
    (Y : 0 < x → own_Go p e below F (T.setTop (mkF m pc' Ls st))) (N : ¬ 0 < x → own_Go p e below F (T.setTop (mkF m pc2 Ls st))) : own_Go p e below F (T.setTop (mkF m pc Ls (.int x :: st))) :=
  own_if h hx hd ho hp hp2 (fun q => Y (of_decide_eq_true q)) (fun q => N (of_decide_eq_false q))
theorem own_ifle (h : At T m c below) (hx : p.tables.exec = Jvm.exec) {x : Int32} {o : Int} (hd : decode c.code pc = .ok (.ifCond .le o, 3)) (ho : 0 ≤ (pc : Int) + o) (hp : ((pc : Int) + o).toNat = pc') (hp2 : pc + 3 = pc2)
    (Y : ¬ 0 < x → own_Go p e below F (T.setTop (mkF m pc' Ls st))) (N : 0 < x → own_Go p e below F (T.setTop (mkF m pc2 Ls st))) : own_Go p e below F (T.setTop (mkF m pc Ls (.int x :: st))) :=
  own_if h hx hd ho hp hp2 (fun q => Y (Int32.not_lt.mpr (of_decide_eq_true q))) (fun q => N (Int32.not_le.mp (of_decide_eq_false q)))
theorem own_icmpeq (h : At T m c below) (hx : p.tables.exec = Jvm.exec) {x y : Int32} {o : Int} (hd : decode c.code pc = .ok (.if_icmp .eq o, 3)) (ho : 0 ≤ (pc : Int) + o) (hp : ((pc : Int) + o).toNat = pc') (hp2 : pc + 3 = pc2)
    (Y : x = y → own_Go p e below F (T.setTop (mkF m pc' Ls st))) (N : ¬ x = y → own_Go p e below F (T.setTop (mkF m pc2 Ls st))) : own_Go p e below F (T.setTop (mkF m pc Ls (.int y :: .int x :: st))) :=
  own_icmp h hx hd ho hp hp2 (fun q => Y (by simpa [if_icmp.holds] using q)) (fun q => N (by simpa [if_icmp.holds] using q))
theorem own_icmpne (h : At T m c below) (hx : p.tables.exec = Jvm.exec) {x y : Int32} {o : Int} (hd : decode c.code pc = .ok (.if_icmp .ne o, 3)) (ho : 0 ≤ (pc : Int) + o) (hp : ((pc : Int) + o).toNat = pc') (hp2 : pc + 3 = pc2)
    (Y : ¬ x = y → own_Go p e below F (T.setTop (mkF m pc' Ls st))) (N : x = y → own_Go p e below F (T.setTop (mkF m pc2 Ls st))) : own_Go p e below F (T.setTop (mkF m pc Ls (.int y :: .int x :: st))) :=
  own_icmp h hx hd ho hp hp2 (fun q => Y (by simpa [if_icmp.holds] using q)) (fun q => N (by simpa [if_icmp.holds] using q))
theorem own_icmplt (h : At T m c below) (hx : p.tables.exec = Jvm.exec) {x y : Int32} {o : Int} (hd : decode c.code pc = .ok (.if_icmp .lt o, 3)) (ho : 0 ≤ (pc : Int) + o) (hp : ((pc : Int) + o).toNat = pc') (hp2 : pc + 3 = pc2)
    (Y : x < y → own_Go p e below F (T.setTop (mkF m pc' Ls st))) (N : ¬ x < y → own_Go p e below F (T.setTop (mkF m pc2 Ls st))) : own_Go p e below F (T.setTop (mkF m pc Ls (.int y :: .int x :: st))) :=
  own_icmp h hx hd ho hp hp2 (fun q => Y (of_decide_eq_true q)) (fun q => N (of_decide_eq_false q))
theorem own_icmpge (h : At T m c below) (hx : p.tables.exec = Jvm.exec) {x y : Int32} {o : Int} (hd : decode c.code pc = .ok (.if_icmp .ge o, 3)) (ho : 0 ≤ (pc : Int) + o) (hp : ((pc : Int) + o).toNat = pc') (hp2 : pc + 3 = pc2)
    (Y : ¬ x < y → own_Go p e below F (T.setTop (mkF m pc' Ls st))) (N : x < y → own_Go p e below F (T.setTop (mkF m pc2 Ls st))) : own_Go p e below F (T.setTop (mkF m pc Ls (.int y :: .int x :: st))) :=
  own_icmp h hx hd ho hp hp2 (fun q => Y (Int32.not_lt.mpr (of_decide_eq_true q))) (fun q => N (Int32.not_le.mp (of_decide_eq_false q)))
theorem own_icmpgt (h : At T m c below) (hx : p.tables.exec = Jvm.exec) {x y : Int32} {o : Int} (hd : decode c.code pc = .ok (.if_icmp .gt o, 3)) (ho : 0 ≤ (pc : Int) + o) (hp : ((pc : Int) + o).toNat = pc') (hp2 : pc + 3 = pc2)
    (Y : y < x → own_Go p e below F (T.setTop (mkF m pc' Ls st))) (N : ¬ y < x → own_Go p e below F (T.setTop (mkF m pc2 Ls st))) : own_Go p e below F (T.setTop (mkF m pc Ls (.int y :: .int x :: st))) :=
  own_icmp h hx hd ho hp hp2 (fun q => Y (of_decide_eq_true q)) (fun q => N (of_decide_eq_false q))
theorem own_icmple (h : At T m c below) (hx : p.tables.exec = Jvm.exec) {x y : Int32} {o : Int} (hd : decode c.code pc = .ok (.if_icmp .le o, 3)) (ho : 0 ≤ (pc : Int) + o) (hp : ((pc : Int) + o).toNat = pc') (hp2 : pc + 3 = pc2)
    (Y : ¬ y < x → own_Go p e below F (T.setTop (mkF m pc' Ls st))) (N : y < x → own_Go p e below F (T.setTop (mkF m pc2 Ls st))) : own_Go p e below F (T.setTop (mkF m pc Ls (.int y :: .int x :: st))) :=
  own_icmp h hx hd ho hp hp2 (fun q => Y (Int32.not_lt.mpr (of_decide_eq_true q))) (fun q => N (Int32.not_le.mp (of_decide_eq_false q)))
theorem own_ifnonnull (h : At T m c below) (hx : p.tables.exec = Jvm.exec) {x : Value} (hr : x.isRef = true) {o : Int} (hd : decode c.code pc = .ok (.ifnonnull o, 3)) (ho : 0 ≤ (pc : Int) + o) (hp : ((pc : Int) + o).toNat = pc') (hp2 : pc + 3 = pc2)
    (Y : ¬ x = .null → own_Go p e below F (T.setTop (mkF m pc' Ls st))) (N : x = .null → own_Go p e below F (T.setTop (mkF m pc2 Ls st))) : own_Go p e below F (T.setTop (mkF m pc Ls (x :: st))) := by
  subst hp2
  rcases ref_cases hr with rfl | ⟨a, rfl⟩
  · exact own_on (fun _ => XT.ifnonnullNo h hx rfl hd rfl) (N rfl)
  · exact own_on (fun _ => XT.ifnonnullYes h hx rfl rfl hd rfl ho hp) (Y (fun q => nomatch q))
theorem own_ifnull (h : At T m c below) (hx : p.tables.exec = Jvm.exec) {x : Value} (hr : x.isRef = true) {o : Int} (hd : decode c.code pc = .ok (.ifnull o, 3)) (ho : 0 ≤ (pc : Int) + o) (hp : ((pc : Int) + o).toNat = pc') (hp2 : pc + 3 = pc2)
    (Y : x = .null → own_Go p e below F (T.setTop (mkF m pc' Ls st))) (N : ¬ x = .null → own_Go p e below F (T.setTop (mkF m pc2 Ls st))) : own_Go p e below F (T.setTop (mkF m pc Ls (x :: st))) := by
  subst hp2
  rcases ref_cases hr with rfl | ⟨a, rfl⟩
  · exact own_on (fun _ => XS.ifnullYes h hx rfl rfl hd rfl ho hp) (Y rfl)
  · exact own_on (fun _ => XS.ifnullNo h hx rfl hd rfl) (N (fun q => nomatch q))
theorem own_acmpeq (h : At T m c below) (hx : p.tables.exec = Jvm.exec) {x y : Value} (hr : x.isRef = true) (hr' : y.isRef = true) {o : Int} (hd : decode c.code pc = .ok (.if_acmp .eq o, 3)) (ho : 0 ≤ (pc : Int) + o) (hp : ((pc : Int) + o).toNat = pc') (hp2 : pc + 3 = pc2)
    (Y : x = y → own_Go p e below F (T.setTop (mkF m pc' Ls st))) (N : ¬ x = y → own_Go p e below F (T.setTop (mkF m pc2 Ls st))) : own_Go p e below F (T.setTop (mkF m pc Ls (y :: x :: st))) := by
  subst hp2
  by_cases q : x = y
  · exact own_on (fun _ => XT.acmpYes h hx rfl rfl hd rfl hr hr' (by simp [XT.acmp, q]) ho hp) (Y q)
  · exact own_on (fun _ => XT.acmpNo h hx rfl hd rfl hr hr' (by simp [XT.acmp, q])) (N q)
theorem own_acmpne (h : At T m c below) (hx : p.tables.exec = Jvm.exec) {x y : Value} (hr : x.isRef = true) (hr' : y.isRef = true) {o : Int} (hd : decode c.code pc = .ok (.if_acmp .ne o, 3)) (ho : 0 ≤ (pc : Int) + o) (hp : ((pc : Int) + o).toNat = pc') (hp2 : pc + 3 = pc2)
    (Y : ¬ x = y → own_Go p e below F (T.setTop (mkF m pc' Ls st))) (N : x = y → own_Go p e below F (T.setTop (mkF m pc2 Ls st))) : own_Go p e below F (T.setTop (mkF m pc Ls (y :: x :: st))) := by
  subst hp2
  by_cases q : x = y
  · exact own_on (fun _ => XT.acmpNo h hx rfl hd rfl hr hr' (by simp [XT.acmp, q])) (N q)
  · exact own_on (fun _ => XT.acmpYes h hx rfl rfl hd rfl hr hr' (by simp [XT.acmp, q]) ho hp) (Y q)
end OwnGo
section OwnEnd
variable {p : Program} {l : Launch} {e : Env} {R : Room} {s : State} {m : MethodId} {args : Array Value} {below : List Frame} {meth : Method} {c : Code} {T : State} {locs : List Loc} {cells slots : Nat} {F : State → Outcome → Prop} {pc : Nat} {Ls : Array Slot} {st : List Value}
/-- a narrow contract's walk begins -/
theorem own_enter {Q : Option Value → Heap → List Loc → Prop} {U : State} {cz sz : Nat}
    (K : ∀ F : State → Outcome → Prop, (∀ (t : State) (v : Option Value) (L : List Loc) (k n : Nat), Q v t.heap L → FrameEnd s (.returned v) t L k n → k ≤ cz → n ≤ sz → F t (.returned v)) → own_Go p e below F U) :
    ∃ (s₂ : State) (o : Outcome), Steps p.tables e below U s₂ ∧ s₂.status = .running ∧ Ended s₂ below o ∧ ∃ (v : Option Value) (L : List Loc), o = .returned v ∧ Q v s₂.heap L ∧ FrameEnd s o s₂ L cz sz := by
  obtain ⟨t, o, h1, h2, h3, v, L, k, n, rfl, hq, hf, hk, hn⟩ := K (fun t o => ∃ v L k n, o = .returned v ∧ Q v t.heap L ∧ FrameEnd s (.returned v) t L k n ∧ k ≤ cz ∧ n ≤ sz) (fun t v L k n a b c d => ⟨v, L, k, n, rfl, a, b, c, d⟩)
  exact ⟨t, _, h1, h2, h3, v, L, rfl, hq, hf.1, hf.2.1, hf.2.2.mono hk hn⟩
theorem own_ret (X : Stand p l e R s m args below meth c T locs cells slots) (hx : p.tables.exec = Jvm.exec) (hlk : meth.locks = false) {w : Value} {t : FieldType} {i : Instr} (hret : meth.sig.returnType = some t) (hn : narrow t w = w)
    (hi : (i = .ireturn ∧ (t = .int ∨ t = .boolean ∨ t = .byte ∨ t = .char ∨ t = .short) ∧ ∃ z, w = .int z) ∨ (i = .lreturn ∧ t = .long ∧ ∃ z, w = .long z) ∨ (i = .dreturn ∧ t = .double ∧ ∃ z, w = .double z) ∨ (i = .freturn ∧ t = .float ∧ ∃ z, w = .float z) ∨ (i = .areturn ∧ t.isReference = true ∧ w.isRef = true))
    (hd : decode c.code pc = .ok (i, 1)) (K : ∀ t : State, t.heap = T.heap → FrameEnd s (.returned (some w)) t locs cells slots → F t (.returned (some w))) : own_Go p e below F (T.setTop (mkF m pc Ls (w :: st))) := by
  obtain ⟨fs, hr, hrun, hended, hW, hsame⟩ := X.leave (v := some w) (fun h => by rw [hret] at h; cases h) hlk
  exact ⟨_, _, retOut X hx hret hn hi hd hr, hrun, hended, K _ rfl ⟨⟨_, rfl⟩, hW, hsame⟩⟩
theorem own_retI (X : Stand p l e R s m args below meth c T locs cells slots) (hx : p.tables.exec = Jvm.exec) (hlk : meth.locks = false) {z : Int32} (hret : meth.sig.returnType = some .int) (hd : decode c.code pc = .ok (.ireturn, 1)) (K : ∀ t : State, t.heap = T.heap → FrameEnd s (.returned (some (.int z))) t locs cells slots → F t (.returned (some (.int z)))) : own_Go p e below F (T.setTop (mkF m pc Ls (.int z :: st))) :=
  own_ret X hx hlk hret rfl (Or.inl ⟨rfl, Or.inl rfl, _, rfl⟩) hd K
theorem own_retZ (X : Stand p l e R s m args below meth c T locs cells slots) (hx : p.tables.exec = Jvm.exec) (hlk : meth.locks = false) {z : Int32} (hz : z = 0 ∨ z = 1) (hret : meth.sig.returnType = some .boolean) (hd : decode c.code pc = .ok (.ireturn, 1)) (K : ∀ t : State, t.heap = T.heap → FrameEnd s (.returned (some (.int z))) t locs cells slots → F t (.returned (some (.int z)))) : own_Go p e below F (T.setTop (mkF m pc Ls (.int z :: st))) :=
  own_ret X hx hlk hret (by rcases hz with rfl | rfl <;> rfl) (Or.inl ⟨rfl, Or.inr (Or.inl rfl), _, rfl⟩) hd K
theorem own_retC (X : Stand p l e R s m args below meth c T locs cells slots) (hx : p.tables.exec = Jvm.exec) (hlk : meth.locks = false) {z : Int32} (hz : narrow .char (.int z) = .int z) (hret : meth.sig.returnType = some .char) (hd : decode c.code pc = .ok (.ireturn, 1)) (K : ∀ t : State, t.heap = T.heap → FrameEnd s (.returned (some (.int z))) t locs cells slots → F t (.returned (some (.int z)))) : own_Go p e below F (T.setTop (mkF m pc Ls (.int z :: st))) :=
  own_ret X hx hlk hret hz (Or.inl ⟨rfl, Or.inr (Or.inr (Or.inr (Or.inl rfl))), _, rfl⟩) hd K
theorem own_retA (X : Stand p l e R s m args below meth c T locs cells slots) (hx : p.tables.exec = Jvm.exec) (hlk : meth.locks = false) {w : Value} {t : FieldType} (hret : meth.sig.returnType = some t) (ht : t.isReference = true) (hw : w.isRef = true) (hd : decode c.code pc = .ok (.areturn, 1)) (K : ∀ t : State, t.heap = T.heap → FrameEnd s (.returned (some w)) t locs cells slots → F t (.returned (some w))) : own_Go p e below F (T.setTop (mkF m pc Ls (w :: st))) :=
  own_ret X hx hlk hret (by rcases ref_cases hw with rfl | ⟨a, rfl⟩ <;> cases t <;> first | rfl | (cases ht; done)) (Or.inr (Or.inr (Or.inr (Or.inr ⟨rfl, ht, hw⟩)))) hd K
theorem own_retV (X : Stand p l e R s m args below meth c T locs cells slots) (hx : p.tables.exec = Jvm.exec) (hlk : meth.locks = false) (hret : meth.sig.returnType = none) (hd : decode c.code pc = .ok (.return_, 1)) (K : ∀ t : State, t.heap = T.heap → FrameEnd s (.returned none) t locs cells slots → F t (.returned none)) : own_Go p e below F (T.setTop (mkF m pc Ls [])) := by
  obtain ⟨fs, hr, hrun, hended, hW, hsame⟩ := X.leave (v := none) (fun _ => rfl) hlk
  exact ⟨_, _, X.returnOut hx hret hd hr, hrun, hended, K _ rfl ⟨⟨_, rfl⟩, hW, hsame⟩⟩
end OwnEnd
end Jvm.Pilot.@@N@@
namespace Jvm.Pilot.@@N@@
open Jvm Jvm.ClassFile Sem Op Lib Jvm.Free Jvm.Stand Jvm.LawKit Jvm.RoadKit Bundle Jvm.Pilot.@@N@@.Jvm.D
/-- a narrow contract, from its walk -/
theorem own_walkP {l : Launch} {y : MethodName} {bytes : ByteArray} {maxL : Nat} {ret : Option FieldType} {ws : List Jvm.Cond} {rm : Room} {Z : State} {as' : Array Value} {h : Heap} {Q : Option Value → Heap → List Loc → Prop} (hpl : plainFor y = true)
    (K : ∀ (p : Program) (e : Env) (s : State) (m : MethodId) (below : List Frame) (meth : Method) (c : Code) (T : State), Stand p l e rm s m as' below meth c T [] 0 0 → p.tables.exec = Jvm.exec → c.code = bytes → c.maxLocals = maxL → meth.sig.returnType = ret → meth.locks = false → meth.name = y.name → s.vm.findClass y.cls = some m.cls → Z.Warmed39 s.vm → T.heap = h → s.heap = h →
      ∀ F : State → Outcome → Prop, (∀ (t : State) (v : Option Value) (L : List Loc) (k n : Nat), Q v t.heap L → FrameEnd s (.returned v) t L k n → k ≤ rm.cells → n ≤ rm.slots → F t (.returned v)) → own_Go p e below F (T.setTop (entryFrame m as' maxL))) :
    MetFree l y (head1 (Jvm.Cond.code y bytes maxL ret :: ws) rm) (fun a U => a = as' ∧ Z.Warmed39 U.vm ∧ U.heap = h) (fun _ _ _ _ _ => True) (fun _ U o U' => ∃ v L, o = .returned v ∧ Q v U'.heap L ∧ FrameEnd U o U' L rm.cells rm.slots) := by
  refine MetFree.of_bodySF (hpl) hisR ?_
  intro p e s m args below meth c s₁ Bd hml0 hP hK
  obtain ⟨rfl, hZ, hh⟩ := hP
  exact own_enter (fun F hF => K p e s m below meth c s₁ (Stand.of_body Bd) Bd.exec Bd.bytes hml0 Bd.returns (BodyLoose.notSynchronized Bd) (name_of_methodNamed Bd.named Bd.method).1 (findClass_of_methodNamed Bd.named) hZ (by rw [← hh, Bd.state]; rfl) hh F hF)
theorem own_walkN {l : Launch} {y : MethodName} {bytes : ByteArray} {maxL : Nat} {ret : Option FieldType} {ws : List Jvm.Cond} {rm : Room} {Z : State} {as' : Array Value} {h : Heap} {Q : Option Value → Heap → List Loc → Prop} (hpl : plainName y.cls = true)
    (K : ∀ (p : Program) (e : Env) (s : State) (m : MethodId) (below : List Frame) (meth : Method) (c : Code) (T : State), Stand p l e rm s m as' below meth c T [] 0 0 → p.tables.exec = Jvm.exec → c.code = bytes → c.maxLocals = maxL → meth.sig.returnType = ret → meth.locks = false → meth.name = y.name → s.vm.findClass y.cls = some m.cls → Z.Warmed39 s.vm → T.heap = h → s.heap = h →
      ∀ F : State → Outcome → Prop, (∀ (t : State) (v : Option Value) (L : List Loc) (k n : Nat), Q v t.heap L → FrameEnd s (.returned v) t L k n → k ≤ rm.cells → n ≤ rm.slots → F t (.returned v)) → own_Go p e below F (T.setTop (entryFrame m as' maxL))) :
    MetFree l y (head1 (Jvm.Cond.code y bytes maxL ret :: ws) rm) (fun a U => a = as' ∧ Z.Warmed39 U.vm ∧ U.heap = h) (fun _ _ _ _ _ => True) (fun _ U o U' => ∃ v L, o = .returned v ∧ Q v U'.heap L ∧ FrameEnd U o U' L rm.cells rm.slots) :=
  own_walkP (plainFor_of_name hpl) K
end Jvm.Pilot.@@N@@
namespace Jvm.Pilot.@@N@@
open Jvm Jvm.ClassFile Sem Op Lib Jvm.Free Jvm.Stand Jvm.LawKit Jvm.RoadKit Bundle Jvm.Pilot.@@N@@.Jvm.D
/-- getstatic through a nest-mate's entry -/
theorem own_getSN {p : Program} {l : Launch} {e : Env} {R : Room} {s : State} {m : MethodId} {args : Array Value} {below : List Frame} {meth : Method} {c : Code} {T : State} {locs : List Loc} {cells slots : Nat} {Z : State} {a0 : Array Value} {h : Heap}
    (X : Stand p l e R s m args below meth c T locs cells slots) (hx : p.tables.exec = Jvm.exec) (hZ : Z.Warmed39 s.vm) {own O n d host : String} {index : Nat} (hown : s.vm.findClass own = some m.cls) (w : (Jvm.Cond.fieldLinkNest own index O n d host).before a0 Z = true)
    (eT : T.heap = h) {v : Value} (F : Sta Z h O n d v) {g : JFrame} (hg : g.method = m) (hd : decode c.code g.pc = .ok (.getstatic index, 3)) : ∃ T', Stand p l e R s m args below meth c T' locs cells slots ∧ T'.heap = h ∧ ∀ target, Steps p.tables e below (T'.setTop { g with pc := g.pc + 3, stack := v :: g.stack }) target → Steps p.tables e below (T.setTop g) target := by
  obtain ⟨cf, i, k, f, st, cell, h1, h2, h3, h4, h5, h6, h7⟩ := F
  obtain ⟨k', hi, ek⟩ := State.fieldFound?_setVm (s := Z) hZ.alike h1
  obtain ⟨vm', X', stp⟩ := X.getstaticNest hx hown (mvN hZ w) hi h2 (by rw [ek]; exact h3) (a₁ := st) (by rw [ek]; exact h4) (by rw [eT]; exact h5) (fun q => by rw [q] at h6; cases h6) h7 hg hd
  exact ⟨_, X', eT, stp⟩
end Jvm.Pilot.@@N@@
namespace Jvm.Pilot.@@N@@
open Jvm Jvm.ClassFile Sem Op Lib Jvm.Free Jvm.Stand Jvm.LawKit Jvm.RoadKit Bundle Jvm.Pilot.@@N@@.Jvm.D
theorem own_fldnull {Z : State} {args : Array Value} {t : Term} {C n d : String} {a : Addr} (ev : t.eval args Z none [] Z = some (.ref a)) (h : (Jvm.Cond.eq (.field t C n d) .null).value args Z none Z [] = some true) : Fld Z Z.heap a C n d .null := by
  cases hf : Z.fieldOf? a C n d with
  | none => simp [Cond.value, Term.eval, ev, hf] at h
  | some v =>
    cases v <;> simp [Cond.value, Term.eval, ev, hf] at h
    exact Fld.start hf
end Jvm.Pilot.@@N@@
namespace Jvm.Pilot.@@N@@
theorem own_cat1 {v : Jvm.Value} (h : v.isRef = true) : v.category = 1 := by cases v <;> first | rfl | (cases h; done)
end Jvm.Pilot.@@N@@
namespace Jvm.Pilot.@@N@@
open Jvm Jvm.ClassFile Sem Op Lib Jvm.Free Jvm.Stand Jvm.LawKit Jvm.RoadKit Bundle Jvm.Pilot.@@N@@.Jvm.D
section OwnWide
variable {p : Program} {l : Launch} {e : Env} {R : Room} {s : State} {m : MethodId} {args : Array Value} {below : List Frame} {meth : Method} {c : Code} {T : State} {locs : List Loc} {cells slots : Nat} {F : State → Outcome → Prop} {pc : Nat} {Ls : Array Slot} {st : List Value}
  {Z : State} {a0 : Array Value} {EL : List (String × Nat)} {vm vm0 vm1 : Vm} {h h' h2 : Heap} {own : String} {ws : List Addr} {a : Addr} {sl : Nat} {v : Value}
theorem own_ext_refl (h : Heap) : Ext h h := ⟨Nat.le_refl _, fun _ _ q => q⟩
theorem own_ext_trans (A : Ext h h') (B : Ext h' h2) : Ext h h2 := ⟨Nat.le_trans A.1 B.1, fun x c q => B.2 x c (A.2 x c q)⟩
theorem own_ext_keep (A : Ext h h') (K : Keep h' h2 ws) (q : ∀ x ∈ ws, h.size ≤ x) : Ext h h2 :=
  ⟨Nat.le_trans A.1 K.1, fun x c r => K.2.1 x c (A.2 x c r) fun z => absurd (Array.getElem?_eq_some_iff.mp r).1 (Nat.not_lt.mpr (q x z))⟩
theorem own_ext_wr (A : Ext h h') (W : Wr h' h2 a sl v) (q : h.size ≤ a) : Ext h h2 := own_ext_keep A (Keep.of_wr W) fun x hx => by cases List.mem_singleton.mp hx; exact q
theorem own_keep_ext (E : Ext h h') : Keep h h' ws := ⟨E.1, fun x c q _ => E.2 x c q, fun x c q => ⟨c, E.2 x c q, rfl, rfl, rfl⟩⟩
theorem own_since0 (s : State) : s.Since s.vm 0 := (State.WarmedH.refl s).since 0
/-- what a walk that may intern bears: the tables vm since s, the heap h -/
def own_I (s Z : State) (EL : List (String × Nat)) (vm : Vm) (h : Heap) (own : String) (m : MethodId) : Prop :=
  Z.Warmed39 vm ∧ vm.findClass own = some m.cls ∧ (∃ k0, s.Since vm k0 ∧ k0 ≤ h.size) ∧ CHr Z EL s.vm s.heap vm h
theorem own_I.ext (I : own_I s Z EL vm h own m) (E : Ext h h') : own_I s Z EL vm h' own m := by
  obtain ⟨i1, i2, ⟨k, i3, i4⟩, i5⟩ := I
  exact ⟨i1, i2, ⟨k, i3, Nat.le_trans i4 E.1⟩, i5.trans (CHr.ext E i5.1)⟩
theorem own_I.wr (I : own_I s Z EL vm h own m) (W : Wr h h' a sl v) (S : Safe Z EL vm h a) : own_I s Z EL vm h' own m := by
  obtain ⟨i1, i2, ⟨k, i3, i4⟩, i5⟩ := I
  exact ⟨i1, i2, ⟨k, i3, by rw [W.size]; exact i4⟩, i5.trans (CHr.wr W S i5.1)⟩
theorem own_I.keep (I : own_I s Z EL vm h own m) (K : Keep h h' ws) (S : ∀ x ∈ ws, Safe Z EL vm h x) : own_I s Z EL vm h' own m := by
  obtain ⟨i1, i2, ⟨k, i3, i4⟩, i5⟩ := I
  exact ⟨i1, i2, ⟨k, i3, Nat.le_trans i4 K.1⟩, i5.trans (CHr.keep K S i5.1)⟩
theorem own_I.later (I : own_I s Z EL vm0 h own m) {n : Nat} (S : (s.setVm vm0).Since vm1 n) (hn : n ≤ h'.size) (hg : h.size ≤ n) (C : CHr Z EL vm0 h vm1 h') : own_I s Z EL vm1 h' own m := by
  obtain ⟨i1, i2, ⟨k, i3, i4⟩, i5⟩ := I
  exact ⟨State.Warmed39.trans (t := s.setVm vm0) i1 S.1, (S.1.alike.findClass _ _).trans i2, ⟨n, i3.trans S (Nat.le_trans i4 hg), hn⟩, i5.trans C⟩
theorem own_I.safe (I : own_I s Z EL vm h own m) {x : Addr} (hx : x < s.heap.size) (S : Safe Z EL s.vm s.heap x) : Safe Z EL vm h x := I.2.2.2.safe hx S
theorem own_I.ch (I : own_I s Z EL vm h own m) : CHv Z EL vm h := I.2.2.2.1
/-- a wide contract's use -/
theorem own_backW {y : MethodName} {bytes : ByteArray} {maxL : Nat} {ret : Option FieldType} {rm : Room} {len W : Nat} {as' : Array Value} {sf : List Addr} {Q : Option Value → Heap → List Loc → Prop}
    (hM : MetFree l y (head1 [Jvm.Cond.code y bytes maxL ret] rm) (fun a U => a = as' ∧ Z.Warmed39 U.vm ∧ U.heap = h ∧ CHv Z EL U.vm h ∧ ∀ x ∈ sf, Safe Z EL U.vm h x) (fun _ _ _ _ _ => True) (fun _ U o U' => ∃ v L, o = .returned v ∧ Q v U'.heap L ∧ CHr Z EL U.vm U.heap U'.vm U'.heap ∧ ReturnedEndW U o U' L rm.cells rm.slots))
    (hZ : Z.Warmed39 vm0) (wc : (Jvm.Cond.code y bytes maxL ret).before a0 Z = true) (wz : (Jvm.Cond.initialized y.cls).before a0 Z = true) (hf : rm.frames + 1 ≤ R.frames) (hl : W + (maxL + 11) + rm.locals ≤ R.locals) (hEL : EW Z a0 EL) (H : CHv Z EL vm0 h) (HS : ∀ x ∈ sf, x < h.size ∧ Safe Z EL vm0 h x) :
    BackS l R p e below (s.setVm vm0) args y len W (fun A a => a = as' ∧ A.U.heap = h ∧ A.cells + rm.cells ≤ R.cells ∧ A.slots + rm.slots ≤ R.slots)
      (fun A _ v B => ∃ L, Q v B.U.heap L ∧ B.locs = A.locs ++ L ∧ B.cells = A.cells + rm.cells ∧ B.slots = A.slots + rm.slots ∧ CHr Z EL vm0 h B.U.vm B.U.heap) :=
  BackS.of_freeW (bytes := bytes) (maxL := maxL) (ret := ret) (E := fun _ first o t L k n => k = rm.cells ∧ n = rm.slots ∧ (∃ v, o = .returned v ∧ Q v t.heap L) ∧ CHr Z EL first.vm first.heap t.vm t.heap) hM hf hl
    (fun m meth c A a Y hp => have hU : Z.Warmed39 A.U.vm := wtrans (s := s.setVm vm0) hZ Y.warmed
      ⟨by show (Jvm.Cond.and _ .tt).before a A.U = true; rw [Cond.before_and, mv hU wc]; rfl, mv hU wc, mv hU wz, hp.2.2.1, hp.2.2.2⟩)
    (fun m meth c A a g mk Y hp => ⟨hp.1, wtrans (s := s.setVm vm0) hZ Y.warmed, hp.2.1, (CHv.at Y hZ hEL H).1, fun x hx => (CHv.at Y hZ hEL H).safe (HS x hx).1 (HS x hx).2⟩) (fun _ _ _ _ _ _ _ _ _ => trivial)
    (fun _ _ _ _ ⟨v, L, h1, h2, h3, h4⟩ => ⟨L, _, _, h4, rfl, rfl, ⟨v, h1, h2⟩, h3⟩)
    (fun m meth c A a g mk v t L k n Y hp _ _ ⟨e1, e2, ⟨v', e3, e4⟩, e5⟩ => by
      cases e3; subst e1 e2
      refine ⟨L, e4, rfl, rfl, rfl, (CHv.at Y hZ hEL H).trans ?_⟩
      rw [← hp.2.1]; exact e5)
theorem own_enterW {Q : Option Value → Heap → List Loc → Prop} {U : State} {cz sz : Nat}
    (K : ∀ F : State → Outcome → Prop, (∀ (t : State) (v : Option Value) (L : List Loc) (k n : Nat), Q v t.heap L → CHr Z EL s.vm s.heap t.vm t.heap → ReturnedEndW s (.returned v) t L k n → k ≤ cz → n ≤ sz → F t (.returned v)) → own_Go p e below F U) :
    ∃ (s₂ : State) (o : Outcome), Steps p.tables e below U s₂ ∧ s₂.status = .running ∧ Ended s₂ below o ∧ ∃ (v : Option Value) (L : List Loc), o = .returned v ∧ Q v s₂.heap L ∧ CHr Z EL s.vm s.heap s₂.vm s₂.heap ∧ ReturnedEndW s o s₂ L cz sz := by
  obtain ⟨t, o, h1, h2, h3, v, L, k, n, rfl, hq, hc, hf, hk, hn⟩ := K (fun t o => ∃ v L k n, o = .returned v ∧ Q v t.heap L ∧ CHr Z EL s.vm s.heap t.vm t.heap ∧ ReturnedEndW s (.returned v) t L k n ∧ k ≤ cz ∧ n ≤ sz) (fun t v L k n a b c d f => ⟨v, L, k, n, rfl, a, b, c, d, f⟩)
  exact ⟨t, _, h1, h2, h3, v, L, rfl, hq, hc, hf.1, hf.2.1, hf.2.2.1, hf.2.2.2.mono hk hn⟩
/-- a wide contract, from its walk -/
theorem own_walkW {y : MethodName} {bytes : ByteArray} {maxL : Nat} {ret : Option FieldType} {wl : List Jvm.Cond} {rm : Room} {as' : Array Value} {sf : List Addr} {Q : Option Value → Heap → List Loc → Prop} (hpl : plainName y.cls = true)
    (K : ∀ (p : Program) (e : Env) (s : State) (m : MethodId) (below : List Frame) (meth : Method) (c : Code) (T : State), Stand p l e rm (s.setVm s.vm) m as' below meth c T [] 0 0 → p.tables.exec = Jvm.exec → c.code = bytes → c.maxLocals = maxL → meth.sig.returnType = ret → meth.locks = false → meth.name = y.name → s.heap = h → T.heap = h → own_I s Z EL s.vm h y.cls m → (∀ x ∈ sf, Safe Z EL s.vm h x) →
      ∀ F : State → Outcome → Prop, (∀ (t : State) (v : Option Value) (L : List Loc) (k n : Nat), Q v t.heap L → CHr Z EL s.vm s.heap t.vm t.heap → ReturnedEndW s (.returned v) t L k n → k ≤ rm.cells → n ≤ rm.slots → F t (.returned v)) → own_Go p e below F (T.setTop (entryFrame m as' maxL))) :
    MetFree l y (head1 (Jvm.Cond.code y bytes maxL ret :: wl) rm) (fun a U => a = as' ∧ Z.Warmed39 U.vm ∧ U.heap = h ∧ CHv Z EL U.vm h ∧ ∀ x ∈ sf, Safe Z EL U.vm h x) (fun _ _ _ _ _ => True) (fun _ U o U' => ∃ v L, o = .returned v ∧ Q v U'.heap L ∧ CHr Z EL U.vm U.heap U'.vm U'.heap ∧ ReturnedEndW U o U' L rm.cells rm.slots) := by
  refine MetFree.of_bodySF (plainFor_of_name hpl) hisR ?_
  intro p e s m args below meth c s₁ Bd hml0 hP hK
  obtain ⟨rfl, hZ, hh, hC, hsf⟩ := hP
  have X0 : Stand p l e rm s m args below meth c s₁ [] 0 0 := Stand.of_body Bd
  refine own_enterW (fun F hF => K p e s m below meth c s₁ X0 Bd.exec Bd.bytes hml0 Bd.returns (BodyLoose.notSynchronized Bd) (name_of_methodNamed Bd.named Bd.method).1 hh (by rw [← hh, Bd.state]; rfl) ⟨hZ, findClass_of_methodNamed Bd.named, ⟨0, own_since0 s, Nat.zero_le _⟩, ?_⟩ hsf F hF)
  rw [hh]; exact CHr.refl hC
theorem own_retW (X : Stand p l e R (s.setVm vm) m args below meth c T locs cells slots) (hx : p.tables.exec = Jvm.exec) (hlk : meth.locks = false) (hEL : EW Z a0 EL) (I : own_I s Z EL vm h own m) (eT : T.heap = h) {w : Value} {t : FieldType} {i : Instr} (hret : meth.sig.returnType = some t) (hn : narrow t w = w)
    (hi : (i = .ireturn ∧ (t = .int ∨ t = .boolean ∨ t = .byte ∨ t = .char ∨ t = .short) ∧ ∃ z, w = .int z) ∨ (i = .lreturn ∧ t = .long ∧ ∃ z, w = .long z) ∨ (i = .dreturn ∧ t = .double ∧ ∃ z, w = .double z) ∨ (i = .freturn ∧ t = .float ∧ ∃ z, w = .float z) ∨ (i = .areturn ∧ t.isReference = true ∧ w.isRef = true))
    (hd : decode c.code pc = .ok (i, 1)) (K : ∀ t : State, t.heap = h → CHr Z EL s.vm s.heap t.vm t.heap → ReturnedEndW s (.returned (some w)) t locs cells slots → F t (.returned (some w))) : own_Go p e below F (T.setTop (mkF m pc Ls (w :: st))) := by
  obtain ⟨i1, i2, ⟨k, i3, i4⟩, i5⟩ := I
  obtain ⟨fs, hr, hrun, hended, hE⟩ := X.leaveW i3 (by rw [eT]; exact i4) (v := some w) (fun h => by rw [hret] at h; cases h) hlk
  refine ⟨_, _, retOut X hx hret hn hi hd hr, hrun, hended, K _ eT ?_ hE⟩
  show CHr Z EL s.vm s.heap T.vm T.heap
  rw [eT]; exact i5.trans (CHv.at X i1 hEL i5.1)
theorem own_retVW (X : Stand p l e R (s.setVm vm) m args below meth c T locs cells slots) (hx : p.tables.exec = Jvm.exec) (hlk : meth.locks = false) (hEL : EW Z a0 EL) (I : own_I s Z EL vm h own m) (eT : T.heap = h) (hret : meth.sig.returnType = none)
    (hd : decode c.code pc = .ok (.return_, 1)) (K : ∀ t : State, t.heap = h → CHr Z EL s.vm s.heap t.vm t.heap → ReturnedEndW s (.returned none) t locs cells slots → F t (.returned none)) : own_Go p e below F (T.setTop (mkF m pc Ls [])) := by
  obtain ⟨i1, i2, ⟨k, i3, i4⟩, i5⟩ := I
  obtain ⟨fs, hr, hrun, hended, hE⟩ := X.leaveW i3 (by rw [eT]; exact i4) (v := none) (fun _ => rfl) hlk
  refine ⟨_, _, X.returnOut hx hret hd hr, hrun, hended, K _ eT ?_ hE⟩
  show CHr Z EL s.vm s.heap T.vm T.heap
  rw [eT]; exact i5.trans (CHv.at X i1 hEL i5.1)
theorem own_retAW (X : Stand p l e R (s.setVm vm) m args below meth c T locs cells slots) (hx : p.tables.exec = Jvm.exec) (hlk : meth.locks = false) (hEL : EW Z a0 EL) (I : own_I s Z EL vm h own m) (eT : T.heap = h) {w : Value} {t : FieldType} (hret : meth.sig.returnType = some t) (ht : t.isReference = true) (hw : w.isRef = true)
    (hd : decode c.code pc = .ok (.areturn, 1)) (K : ∀ t : State, t.heap = h → CHr Z EL s.vm s.heap t.vm t.heap → ReturnedEndW s (.returned (some w)) t locs cells slots → F t (.returned (some w))) : own_Go p e below F (T.setTop (mkF m pc Ls (w :: st))) :=
  own_retW X hx hlk hEL I eT hret (by rcases ref_cases hw with rfl | ⟨a, rfl⟩ <;> cases t <;> first | rfl | (cases ht; done)) (Or.inr (Or.inr (Or.inr (Or.inr ⟨rfl, ht, hw⟩)))) hd K
theorem own_retIW (X : Stand p l e R (s.setVm vm) m args below meth c T locs cells slots) (hx : p.tables.exec = Jvm.exec) (hlk : meth.locks = false) (hEL : EW Z a0 EL) (I : own_I s Z EL vm h own m) (eT : T.heap = h) {z : Int32} (hret : meth.sig.returnType = some .int)
    (hd : decode c.code pc = .ok (.ireturn, 1)) (K : ∀ t : State, t.heap = h → CHr Z EL s.vm s.heap t.vm t.heap → ReturnedEndW s (.returned (some (.int z))) t locs cells slots → F t (.returned (some (.int z)))) : own_Go p e below F (T.setTop (mkF m pc Ls (.int z :: st))) :=
  own_retW X hx hlk hEL I eT hret rfl (Or.inl ⟨rfl, Or.inl rfl, _, rfl⟩) hd K
theorem own_retZW (X : Stand p l e R (s.setVm vm) m args below meth c T locs cells slots) (hx : p.tables.exec = Jvm.exec) (hlk : meth.locks = false) (hEL : EW Z a0 EL) (I : own_I s Z EL vm h own m) (eT : T.heap = h) {z : Int32} (hz : z = 0 ∨ z = 1) (hret : meth.sig.returnType = some .boolean)
    (hd : decode c.code pc = .ok (.ireturn, 1)) (K : ∀ t : State, t.heap = h → CHr Z EL s.vm s.heap t.vm t.heap → ReturnedEndW s (.returned (some (.int z))) t locs cells slots → F t (.returned (some (.int z)))) : own_Go p e below F (T.setTop (mkF m pc Ls (.int z :: st))) :=
  own_retW X hx hlk hEL I eT hret (by rcases hz with rfl | rfl <;> rfl) (Or.inl ⟨rfl, Or.inr (Or.inl rfl), _, rfl⟩) hd K
/-- ldc of a String constant, its text unread -/
theorem own_ldcO (X : Stand p l e R (s.setVm vm0) m args below meth c T locs cells slots) (hx : p.tables.exec = Jvm.exec) (I : own_I s Z EL vm0 h own m) {text : String} {index : Nat} (w : (Jvm.Cond.stringLink own index text).before a0 Z = true) (wS : ∀ a ∈ Bundle.stringAtoms, a.before a0 Z = true)
    (eT : T.heap = h) (hEL : EW Z a0 EL) {g : JFrame} (hg : g.method = m) (hd : decode c.code g.pc = .ok (.ldc index, 2)) {n : Nat} (hn : 4 * text.toList.length ≤ n) (hbig : n ≤ 536870912) (hc : cells + 2 ≤ R.cells) (hl : slots + (n + 4) ≤ R.slots) :
    ∃ (a : Addr) (T' : State), Stand p l e R (s.setVm T'.vm) m args below meth c T' locs (cells + 2) (slots + (n + 4)) ∧ Ext h T'.heap ∧ own_I s Z EL T'.vm T'.heap own m ∧ CHr Z EL vm0 h T'.vm T'.heap ∧
      ∀ target, Steps p.tables e below (T'.setTop { g with pc := g.pc + 2, stack := .ref a :: g.stack }) target → Steps p.tables e below (T.setTop g) target := by
  obtain ⟨i1, i2, ⟨k, i3, i4⟩, i5⟩ := I
  obtain ⟨a, T', h', k1, X', rfl, E, hS, hk, hW, hf, hC, -, st⟩ := ldcOH X hx i1 i2 w wS eT i3 i4 hEL i5.1 hg hd hn hbig hc hl
  exact ⟨a, T', X', E, ⟨hW, hf, ⟨k1, hS, hk⟩, i5.trans hC⟩, hC, st⟩
end OwnWide
end Jvm.Pilot.@@N@@
namespace Jvm.Pilot.@@N@@
open Jvm Jvm.ClassFile Sem Op Lib Jvm.Free Jvm.Stand Jvm.LawKit Jvm.RoadKit Bundle Jvm.Pilot.@@N@@.Jvm.D
/-- ldc of a String constant of EL, its text read -/
theorem own_ldcT {p : Program} {l : Launch} {e : Env} {R : Room} {s : State} {m : MethodId} {args : Array Value} {below : List Frame} {meth : Method} {c : Code} {T : State} {locs : List Loc} {cells slots : Nat} {Z : State} {a0 : Array Value} {EL : List (String × Nat)} {vm0 : Vm} {h : Heap} {own : String}
    (X : Stand p l e R (s.setVm vm0) m args below meth c T locs cells slots) (hx : p.tables.exec = Jvm.exec) (I : own_I s Z EL vm0 h own m) {text : String} {index : Nat} (w : (Jvm.Cond.stringLink own index text).before a0 Z = true) (wS : ∀ a ∈ Bundle.stringAtoms, a.before a0 Z = true)
    (eT : T.heap = h) (hEL : EW Z a0 EL) (hmem : (own, index) ∈ EL) {vs : List Value} {z : Int32} (ht : (∀ c ∈ text.toList, c.toNat < 256) ∧ text.toList.map (fun c => Value.int (Jvm.Lit.byteI c.toNat.toUInt16)) = vs) (hz : ¬ z < 0) (hl : z.toNatClampNeg = vs.length)
    {g : JFrame} (hg : g.method = m) (hd : decode c.code g.pc = .ok (.ldc index, 2)) {n : Nat} (hn : 4 * text.toList.length ≤ n) (hbig : n ≤ 536870912) (hc : cells + 2 ≤ R.cells) (hl' : slots + (n + 4) ≤ R.slots) :
    ∃ (a : Addr) (T' : State) (b : Addr) (k : ClassId), Stand p l e R (s.setVm T'.vm) m args below meth c T' locs (cells + 2) (slots + (n + 4)) ∧ Ext h T'.heap ∧ own_I s Z EL T'.vm T'.heap own m ∧ CHr Z EL vm0 h T'.vm T'.heap ∧
      Exa Z T'.heap a "java/lang/String" ∧ Fld Z T'.heap a "java/lang/String" "coder" "B" (.int 0) ∧ Fld Z T'.heap a "java/lang/String" "value" "[B" (.ref b) ∧ Arv Z T'.heap b k .byte z vs (.int 0) ∧ (∀ x, Safe Z EL T'.vm T'.heap x → x ≠ a ∧ x ≠ b) ∧
      ∀ target, Steps p.tables e below (T'.setTop { g with pc := g.pc + 2, stack := .ref a :: g.stack }) target → Steps p.tables e below (T.setTop g) target := by
  obtain ⟨i1, i2, ⟨k, i3, i4⟩, i5⟩ := I
  obtain ⟨a, T', h', k1, b, kb, X', rfl, E, hS, hk, hW, hf, q1, q2, q3, q4, -, -, hC, -, hne, st⟩ := ldcCH X hx i1 i2 w wS eT i3 i4 hEL hmem i5.1 ht hz hl hg hd hn hbig hc hl'
  exact ⟨a, T', b, kb, X', E, ⟨hW, hf, ⟨k1, hS, hk⟩, i5.trans hC⟩, hC, q1, q2, q3, q4, hne, st⟩
theorem own_strW {Z : State} {a0 : Array Value} (hw : ∀ d ∈ tables_1, d.before a0 Z = true) : ∀ a ∈ Bundle.stringAtoms, a.before a0 Z = true := fun d hd => hw d ((by decide +kernel : ∀ d ∈ Bundle.stringAtoms, d ∈ tables_1) d hd)
end Jvm.Pilot.@@N@@
namespace Jvm.Pilot.@@N@@
open Jvm Jvm.ClassFile Sem Op Lib Jvm.Free Jvm.Stand Jvm.LawKit Jvm.RoadKit Bundle Jvm.Pilot.@@N@@.Jvm.D
section OwnArr
variable {p : Program} {l : Launch} {e : Env} {R : Room} {s : State} {m : MethodId} {args : Array Value} {below : List Frame} {meth : Method} {c : Code} {T : State} {locs : List Loc} {cells slots : Nat} {F : State → Outcome → Prop} {pc pc' : Nat} {Ls : Array Slot} {st : List Value}
  {Z : State} {a0 : Array Value} {h h' : Heap} {a : Addr} {k : ClassId} {ty : FieldType} {z j : Int32} {vs : List Value} {dv : Value}
theorem own_alen (X : Stand p l e R s m args below meth c T locs cells slots) (hx : p.tables.exec = Jvm.exec) (hZ : Z.Warmed39 s.vm) (eT : T.heap = h) (V : Arv Z h a k ty z vs dv) (hd : decode c.code pc = .ok (.arraylength, 1)) (hp : pc + 1 = pc') (K : own_Go p e below F (T.setTop (mkF m pc' Ls (.int z :: st)))) : own_Go p e below F (T.setTop (mkF m pc Ls (.ref a :: st))) := by
  subst hp
  obtain ⟨cl, A, -, S, q, -⟩ := V
  refine own_on (fun t => X.arraylength hx (cell := cl) (by rw [eT]; exact A.1) (State.isArrayOf_alike hZ.alike A.2.1) (g := mkF m pc Ls (.ref a :: st)) rfl (rest := st) rfl hd t) ?_
  rw [len_of S q]; exact K
theorem own_caload (X : Stand p l e R s m args below meth c T locs cells slots) (hx : p.tables.exec = Jvm.exec) (hZ : Z.Warmed39 s.vm) (eT : T.heap = h) (V : Arv Z h a k .char z vs dv) {w : Int32} (hin : ¬ j < 0 ∧ j < z) (hw : vs.getD j.toNatClampNeg dv = .int w) (hd : decode c.code pc = .ok (.caload, 1)) (hp : pc + 1 = pc') (K : own_Go p e below F (T.setTop (mkF m pc' Ls (.int w :: st)))) : own_Go p e below F (T.setTop (mkF m pc Ls (.int j :: .ref a :: st))) := by
  subst hp
  obtain ⟨cl, A, -, S, q, H, -⟩ := V
  have hb := inb_of S hin
  have hat : cl.slots[j.toNatClampNeg]? = some (.int w) := by rw [H _ (Nat.lt_of_not_le fun y => hb (Or.inr y)), hw]
  exact own_on (fun t => X.caload hx (j := j) (v := .int w) (by rw [eT]; exact A.1) (State.isArrayOf_alike hZ.alike A.2.1) A.2.2 hb hat (g := mkF m pc Ls (.int j :: .ref a :: st)) rfl rfl hd t) K
theorem own_baload (X : Stand p l e R s m args below meth c T locs cells slots) (hx : p.tables.exec = Jvm.exec) (hZ : Z.Warmed39 s.vm) (eT : T.heap = h) (V : Arv Z h a k .byte z vs dv) {w : Int32} (hin : ¬ j < 0 ∧ j < z) (hw : vs.getD j.toNatClampNeg dv = .int w) (hd : decode c.code pc = .ok (.baload, 1)) (hp : pc + 1 = pc') (K : own_Go p e below F (T.setTop (mkF m pc' Ls (.int w :: st)))) : own_Go p e below F (T.setTop (mkF m pc Ls (.int j :: .ref a :: st))) := by
  subst hp
  obtain ⟨cl, A, -, S, q, H, -⟩ := V
  have hb := inb_of S hin
  have hat : cl.slots[j.toNatClampNeg]? = some (.int w) := by rw [H _ (Nat.lt_of_not_le fun y => hb (Or.inr y)), hw]
  exact own_on (fun t => X.baloadBytes hx (j := j) (v := .int w) (by rw [eT]; exact A.1) (State.isArrayOf_alike hZ.alike A.2.1) A.2.2 hb hat (g := mkF m pc Ls (.int j :: .ref a :: st)) rfl rfl hd t) K
theorem own_cast (X : Stand p l e R s m args below meth c T locs cells slots) (hx : p.tables.exec = Jvm.exec) (hZ : Z.Warmed39 s.vm) (eT : T.heap = h) (V : Arv Z h a k .char z vs dv) {i : Nat} {w : Int32} (hj : j.toNatClampNeg = i) (hi : i < vs.length) (hin : ¬ j < 0 ∧ j < z) (hw : nar .char w = w)
    {g : JFrame} (hg : g.method = m) {rest : List Value} (hs : g.stack = .int w :: .int j :: .ref a :: rest) (hd : decode c.code g.pc = .ok (.castore, 1)) :
    ∃ T' h', Stand p l e R s m args below meth c T' (locs ++ [⟨a, j.toNatClampNeg⟩]) cells slots ∧ T'.heap = h' ∧ Wr h h' a j.toNatClampNeg (.int w) ∧ Arv Z h' a k .char z (vs.set i (.int w)) dv ∧ ∀ target, Steps p.tables e below (T'.setTop { g with pc := g.pc + 1, stack := rest }) target → Steps p.tables e below (T.setTop g) target := by
  obtain ⟨cl, A, q1, S, q3, H, G⟩ := V
  obtain ⟨T', h', X', e', W, st⟩ := stC X hx hZ eT A (inb_of S hin) hg hs hd
  rw [hw] at W
  exact ⟨T', h', X', e', W, Arv.set A q1 S q3 H G (by rw [← hw]; exact fits_nar_char _) W i hj hi, st⟩
theorem own_Fr_snoc {n0 : Nat} {L : List Loc} {sl : Nat} (N : Fr n0 L) (q : n0 ≤ a) : Fr n0 (L ++ [⟨a, sl⟩]) := N.app fun y hy => by cases List.mem_singleton.mp hy; exact q
end OwnArr
theorem own_nar (x : Int32) : nar .char (own_c x) = own_c x := by
  have h : (own_c x).toUInt32.toUInt16 = x.toUInt32.toUInt16 := by
    show (x.toUInt32.toUInt16.toUInt32).toUInt16 = _
    generalize x.toUInt32.toUInt16 = w
    simp
  exact congrArg (fun u : UInt16 => u.toUInt32.toInt32) h
theorem own_and255 (x : Int32) : ¬ own_c (x &&& (255 : Int32)) < 0 ∧ ¬ (255 : Int32) < own_c (x &&& (255 : Int32)) := by
  have t : ∀ k : Fin 256, ¬ own_c (Int32.ofNat k.val) < 0 ∧ ¬ (255 : Int32) < own_c (Int32.ofNat k.val) := by decide +kernel
  have h : (x &&& 255).toBitVec.toNat < 256 := by
    simp only [Int32.toBitVec_and, BitVec.toNat_and]
    exact Nat.lt_succ_of_le Nat.and_le_right
  have e : (x &&& 255) = Int32.ofNat (x &&& 255).toBitVec.toNat := by
    apply Int32.toBitVec_inj.mp
    show _ = BitVec.ofNat 32 _
    rw [BitVec.ofNat_toNat]; simp
  rw [e]
  exact t ⟨_, h⟩
/-- x & 3 is one of four -/
theorem own_and3c (x : Int32) : x &&& 3 = 0 ∨ x &&& 3 = 1 ∨ x &&& 3 = 2 ∨ x &&& 3 = 3 := by
  have h : (x &&& 3).toBitVec.toNat ≤ 3 := by
    simp only [Int32.toBitVec_and, BitVec.toNat_and]
    exact Nat.and_le_right
  have e : (x &&& 3) = Int32.ofNat (x &&& 3).toBitVec.toNat := by
    apply Int32.toBitVec_inj.mp
    show _ = BitVec.ofNat 32 _
    rw [BitVec.ofNat_toNat]; simp
  rw [e]
  generalize (x &&& 3).toBitVec.toNat = n at h
  have : n = 0 ∨ n = 1 ∨ n = 2 ∨ n = 3 := by omega
  rcases this with rfl | rfl | rfl | rfl <;> decide
theorem own_up (cs : List Int32) (h : ∀ c ∈ cs, ¬ c < 0 ∧ ¬ (255 : Int32) < c) : ∀ c ∈ cs, ¬ c < 0 ∧ ¬ (65535 : Int32) < c := fun c hc => ⟨(h c hc).1, fun q => (h c hc).2 (by rw [Int32.lt_iff_toInt_lt] at q ⊢; have e1 : (65535 : Int32).toInt = 65535 := rfl; have e2 : (255 : Int32).toInt = 255 := rfl; omega)⟩
/-- x is a Latin-1 String of the chars cs -/
def own_Str (Z : State) (h : Heap) (x : Addr) (cs : List Int32) : Prop := ∃ (t : Addr) (kb : ClassId), Exa Z h x "java/lang/String" ∧ Fld Z h x "java/lang/String" "value" "[B" (.ref t) ∧ Fld Z h x "java/lang/String" "coder" "B" (.int 0) ∧ Arv Z h t kb .byte (Int32.ofNat cs.length) ((cs.map fun c => c.toInt8.toInt32).map Value.int) (.int 0) ∧ (∀ c ∈ cs, ¬ c < 0 ∧ ¬ (255 : Int32) < c) ∧ cs.length ≤ 4000
theorem own_Str.ext {Z : State} {h h' : Heap} {x : Addr} {cs : List Int32} (S : own_Str Z h x cs) (E : Ext h h') : own_Str Z h' x cs := by
  obtain ⟨t, kb, s1, s2, s3, s4, r⟩ := S; exact ⟨t, kb, s1.ext E, s2.ext E, s3.ext E, s4.ext E, r⟩
theorem own_Str.exa {Z : State} {h : Heap} {x : Addr} {cs : List Int32} (S : own_Str Z h x cs) : Exa Z h x "java/lang/String" := by obtain ⟨_, _, q, -⟩ := S; exact q
theorem own_wiS : Jvm.Cond.instantiable "java/lang/String" 4 ∈ tables_1 := by decide +kernel
end Jvm.Pilot.@@N@@
namespace Jvm.Pilot.@@N@@
open Jvm Jvm.ClassFile Sem Op Lib Jvm.Free Jvm.Stand Jvm.LawKit Jvm.RoadKit Bundle Jvm.Pilot.@@N@@.Jvm.D
theorem own_lenB {p : Program} {l : Launch} {e : Env} {R : Room} {s : State} {args : Array Value} {below : List Frame} {len W : Nat} {Z : State} {a0 : Array Value} {h : Heap} (hZ : Z.Warmed39 s.vm) (hw : ∀ d ∈ tables_1, d.before a0 Z = true) {x : Addr} {cs : List Int32} {z : Int32} (S : own_Str Z h x cs)
    (O : Sta Z h "java/lang/String" "COMPACT_STRINGS" "Z" (.int z)) (hz : ¬ z = 0) (hfr : 2 ≤ R.frames) (hlo : W + 25 ≤ R.locals) :
    Back l R p e below s args (⟨"java/lang/String", "length", "()I"⟩ : MethodName) len W (fun P a => a = #[.ref x] ∧ P.U.heap = h ∧ P.cells + 0 ≤ R.cells ∧ P.slots + 0 ≤ R.slots)
      (fun P _ v B => ∃ L, (v = some (.int (Int32.ofNat cs.length)) ∧ L = [] ∧ B.U.heap = h) ∧ B.locs = P.locs ++ L ∧ B.cells = P.cells + 0 ∧ B.slots = P.slots + 0) := by
  obtain ⟨t, kb, E, V, C, K, hp, hl⟩ := S
  exact StrChars.Road.lenW hZ (fun d hd => hw d ((by decide +kernel : ∀ d ∈ StrChars.Road.wordsLen, d ∈ tables_1) d hd)) (kI := 4) (hw _ own_wiS) E V C K (StrChars.Road.codOf rfl (fun c hc => (hp c hc).2)) (own_up _ hp) O hz hl hfr hlo
end Jvm.Pilot.@@N@@
namespace Jvm.Pilot.@@N@@
open Jvm Jvm.ClassFile Sem Op Lib Jvm.Free Jvm.Stand Jvm.LawKit Jvm.RoadKit Bundle Jvm.Pilot.@@N@@.Jvm.D
theorem own_chB {p : Program} {l : Launch} {e : Env} {R : Room} {s : State} {args : Array Value} {below : List Frame} {len W : Nat} {Z : State} {a0 : Array Value} {h : Heap} (hZ : Z.Warmed39 s.vm) (hw : ∀ d ∈ tables_1, d.before a0 Z = true) {x : Addr} {cs : List Int32} {z : Int32} {fm : Value} (S : own_Str Z h x cs)
    (O : Sta Z h "java/lang/String" "COMPACT_STRINGS" "Z" (.int z)) (hz : ¬ z = 0) (O2 : Sta Z h "jdk/internal/util/Preconditions" "SIOOBE_FORMATTER" "Ljava/util/function/BiFunction;" fm) (rf : fm.isRef = true) {i : Nat} {j : Int32} (hi : i < cs.length) (hj : j = Int32.ofNat i) (hfr : 4 ≤ R.frames) (hlo : W + 53 ≤ R.locals) :
    Back l R p e below s args (⟨"java/lang/String", "charAt", "(I)C"⟩ : MethodName) len W (fun P a => a = #[.ref x, .int j] ∧ P.U.heap = h ∧ P.cells + 0 ≤ R.cells ∧ P.slots + 0 ≤ R.slots)
      (fun P _ v B => ∃ L, (v = some (.int (cs.getD i 0)) ∧ L = [] ∧ B.U.heap = h) ∧ B.locs = P.locs ++ L ∧ B.cells = P.cells + 0 ∧ B.slots = P.slots + 0) := by
  obtain ⟨t, kb, E, V, C, K, hp, hl⟩ := S
  exact StrChars.Road.chN hZ (fun d hd => hw d ((by decide +kernel : ∀ d ∈ StrChars.Road.wordsChN, d ∈ tables_1) d hd)) (kI := 4) (hw _ own_wiS) E V C K (StrChars.Road.codOf rfl (fun c hc => (hp c hc).2)) (own_up _ hp) O hz O2 rf hl hi hj hfr hlo
end Jvm.Pilot.@@N@@
namespace Jvm.Pilot.@@N@@
open Jvm Jvm.ClassFile Sem Op Lib Jvm.Free Jvm.Stand Jvm.LawKit Jvm.RoadKit Bundle Jvm.Pilot.@@N@@.Jvm.D
theorem own_toInt {k : Nat} (h : k ≤ 100000) : (Int32.ofNat k).toInt = k := Int32.toInt_ofNat_of_lt (by omega)
theorem own_nn {k : Nat} (h : k ≤ 100000) : ¬ Int32.ofNat k < 0 := by
  rw [Int32.lt_iff_toInt_lt, own_toInt h]; have : (0 : Int32).toInt = 0 := rfl; omega
theorem own_tn {k : Nat} (h : k ≤ 100000) : (Int32.ofNat k).toNatClampNeg = k := by
  simp only [Int32.toNatClampNeg, own_toInt h]; omega
theorem own_ltN {j k : Nat} (h : j < k) (hk : k ≤ 100000) : Int32.ofNat j < Int32.ofNat k := by
  rw [Int32.lt_iff_toInt_lt, own_toInt hk, own_toInt (by omega)]; omega
theorem own_nltN {j k : Nat} (h : j ≤ k) (hk : k ≤ 100000) : ¬ Int32.ofNat k < Int32.ofNat j := by
  rw [Int32.lt_iff_toInt_lt, own_toInt hk, own_toInt (by omega)]; omega
theorem own_inj {j k : Nat} (hj : j ≤ 100000) (hk : k ≤ 100000) (h : Int32.ofNat j = Int32.ofNat k) : j = k := by
  have := congrArg Int32.toInt h; rw [own_toInt hj, own_toInt hk] at this; omega
theorem own_pred (k : Nat) : Int32.ofNat (k + 1) - 1 = Int32.ofNat k := by
  rw [Int32.ofNat_add]; exact Int32.add_sub_cancel _ _
theorem own_dec (x : Int32) : x + Int32.ofInt (-1) = x - 1 := by
  rw [Int32.sub_eq_add_neg]; rfl
theorem own_inc (k : Nat) : Int32.ofNat k + (1 : Int32) = Int32.ofNat (k + 1) := by rw [Int32.ofNat_add]; rfl
theorem own_bget (cs : List Int32) {k : Nat} (h : k < cs.length) : ((cs.map fun c => c.toInt8.toInt32).map Value.int).getD k (.int 0) = .int ((cs.getD k 0).toInt8.toInt32) := by
  simp [List.getD_eq_getElem?_getD, h]
theorem own_b {c d : Int32} (h0 : ¬ c < 0) (h1 : ¬ (255 : Int32) < c) (g0 : ¬ d < 0) (g1 : ¬ (255 : Int32) < d) (h : c.toInt8.toInt32 = d.toInt8.toInt32) : c = d := by
  have e : ∀ x : Int32, ¬ x < 0 → ¬ (255 : Int32) < x → ∃ k : Fin 256, x = Int32.ofNat k.val := fun x a b => by
    rw [Int32.lt_iff_toInt_lt] at a b
    have z0 : (0 : Int32).toInt = 0 := rfl
    have z1 : (255 : Int32).toInt = 255 := rfl
    refine ⟨⟨x.toInt.toNat, by omega⟩, ?_⟩
    apply Int32.toInt_inj.mp
    rw [own_toInt (by show x.toInt.toNat ≤ 100000; omega)]; show _ = ((x.toInt.toNat : Nat) : Int); omega
  obtain ⟨i, rfl⟩ := e c h0 h1
  obtain ⟨j, rfl⟩ := e d g0 g1
  have t : ∀ i : Fin 256, (Int32.ofNat i.val).toInt8.toUInt8.toNat = i.val := by decide +kernel
  have h8 : (Int32.ofNat i.val).toInt8 = (Int32.ofNat j.val).toInt8 := by
    have := congrArg Int32.toInt8 h; simpa using this
  have h9 : i.val = j.val := by rw [← t i, ← t j, h8]
  rw [h9]
theorem own_mem {cs : List Int32} {k : Nat} (h : k < cs.length) : cs.getD k 0 ∈ cs := by
  rw [List.getD_eq_getElem?_getD, List.getElem?_eq_getElem h]; exact List.getElem_mem h
theorem own_takeB (cs : List Int32) {e : Nat} (h : e ≤ cs.length) : (List.range e).map (fun i => ((cs.map fun c => c.toInt8.toInt32).map Value.int).getD (0 + i) (.int 0)) = ((cs.take e).map fun c => c.toInt8.toInt32).map Value.int := by
  apply List.ext_getElem
  · simp; omega
  · intro i h1 h2
    have hi : i < e := by simpa using h1
    have hj : i < cs.length := by omega
    simp [List.getD_eq_getElem?_getD, hj]
end Jvm.Pilot.@@N@@
namespace Jvm.Pilot.@@N@@
open Jvm Jvm.ClassFile Sem Op Lib Jvm.Free Jvm.Stand Jvm.LawKit Jvm.RoadKit Bundle Jvm.Pilot.@@N@@.Jvm.D
theorem own_nf {s : State} {args : Array Value} {C : String} {v z y : MethodName} (hsel : (Jvm.Cond.selects C v z).before args s = true) (hc : y.cls = z.cls) : NotFace s y := fun r0 h0 => by
  obtain ⟨c2, r2, m2, -, -, q3, -, kP, hkP, hkPi⟩ := Cond.selects_spec hsel
  have e : m2.cls = r0.cls := Option.some.inj ((findClass_of_methodNamed q3).symm.trans (by rw [← hc]; exact findClass_of_methodNamed h0))
  exact ⟨kP, by rw [← e]; exact hkP, hkPi⟩
theorem own_sameM {s : State} {args : Array Value} {C : String} {v z y : MethodName} (hsel : (Jvm.Cond.selects C v z).before args s = true) (hc : y.cls = z.cls) (hinst : (Jvm.Cond.instanceMethod y).before args s = true) (hy : y.cls ≠ "java/lang/invoke/MethodHandle" ∧ y.cls ≠ "java/lang/invoke/VarHandle") : (Jvm.Cond.sameMethod y.cls y.cls y.name y.desc).before args s = true := by
  obtain ⟨mk, methM, hnamed, hmethM, -, -⟩ := Cond.instanceMethod_spec hinst
  obtain ⟨k, hk, hki⟩ := own_nf hsel hc mk hnamed
  have hfound : s.methodFound? y.cls y.name y.desc = some mk := State.methodFound?_of_named hnamed hy
  have hf := findClass_of_methodNamed hnamed
  have hn : s.methodNamed? ⟨y.cls, y.name, y.desc⟩ = some mk := hnamed
  simp [Cond.before, Cond.holds, Cond.value, hf, hfound, hn, hk, hki]
theorem own_selfSel {s : State} {args : Array Value} {C : String} {y : MethodName} (hsel : (Jvm.Cond.selects C y y).before args s = true) (hinst : (Jvm.Cond.instanceMethod y).before args s = true) (hp : s.PrivateAt y) (hy : y.cls ≠ "java/lang/invoke/MethodHandle" ∧ y.cls ≠ "java/lang/invoke/VarHandle") : (Jvm.Cond.selects y.cls y y).before args s = true := by
  obtain ⟨c2, r2, m2, -, -, q3, -, kP, hkP, hkPi⟩ := Cond.selects_spec hsel
  exact selects_self_of_private (findClass_of_methodNamed q3) hkP hkPi hp hinst hy
abbrev own_B (cs : List Int32) : List Value := (cs.map fun c => c.toInt8.toInt32).map Value.int
def own_pad (cs : List Int32) : List Int32 := cs ++ List.replicate (16 - cs.length) 0
theorem own_padL {cs : List Int32} (h : cs.length ≤ 16) : (own_pad cs).length = 16 := by simp [own_pad]; omega
theorem own_padT (cs : List Int32) : (own_pad cs).take cs.length = cs := by simp [own_pad]
theorem own_padC (cs ds : List Int32) (h : cs.length + ds.length ≤ 16) : (own_B (own_pad cs)).take cs.length ++ own_B ds ++ (own_B (own_pad cs)).drop (cs.length + ds.length) = own_B (own_pad (cs ++ ds)) := by
  have e : (own_pad cs).drop (cs.length + ds.length) = List.replicate (16 - (cs ++ ds).length) 0 := by
    simp only [own_pad, ← List.drop_drop, List.drop_left, List.drop_replicate, List.length_append]; congr 1; omega
  show _ = own_B ((cs ++ ds) ++ List.replicate (16 - (cs ++ ds).length) 0)
  rw [← e]
  have e2 : (own_pad cs).take cs.length = cs := own_padT cs
  simp only [own_B, ← List.map_take, ← List.map_drop, e2, List.map_append]
theorem own_takeB0 (cs : List Int32) : (List.range cs.length).map (fun i => (own_B cs).getD (0 + i) (.int 0)) = own_B cs := by
  have := own_takeB cs (Nat.le_refl cs.length)
  rw [List.take_length] at this; exact this
/-- b is a StringBuilder over the byte[] t of 16, holding cs -/
def own_SB (Z : State) (h : Heap) (b t : Addr) (k : ClassId) (cs : List Int32) : Prop := Exa Z h b "java/lang/StringBuilder" ∧ Fld Z h b "java/lang/AbstractStringBuilder" "value" "[B" (.ref t) ∧ Fld Z h b "java/lang/AbstractStringBuilder" "coder" "B" (.int 0) ∧ Fld Z h b "java/lang/AbstractStringBuilder" "count" "I" (.int (Int32.ofNat cs.length)) ∧ Arv Z h t k .byte (16 : Int32) (own_B (own_pad cs)) (.int 0) ∧ (∀ c ∈ cs, ¬ c < 0 ∧ ¬ (255 : Int32) < c) ∧ cs.length ≤ 15
theorem own_SB.ext {Z : State} {h h' : Heap} {b t : Addr} {k : ClassId} {cs : List Int32} (S : own_SB Z h b t k cs) (E : Ext h h') : own_SB Z h' b t k cs := ⟨S.1.ext E, S.2.1.ext E, S.2.2.1.ext E, S.2.2.2.1.ext E, S.2.2.2.2.1.ext E, S.2.2.2.2.2⟩
theorem own_shl0 (x : Int32) : x <<< ((0 : Int32) &&& 31) = x := by
  apply Int32.toBitVec_inj.mp; simp
theorem own_shr0 (x : Int32) : x >>> ((0 : Int32) &&& 31) = x := by
  apply Int32.toBitVec_inj.mp; simp
theorem own_ofadd (j k : Nat) : Int32.ofNat j + Int32.ofNat k = Int32.ofNat (j + k) := (Int32.ofNat_add j k).symm
theorem own_sub16 {k : Nat} (h : k ≤ 16) : ¬ (0 : Int32) < Int32.ofNat k - 16 := by
  have : ∀ k : Fin 17, ¬ (0 : Int32) < Int32.ofNat k.val - 16 := by decide +kernel
  exact this ⟨k, by omega⟩
end Jvm.Pilot.@@N@@
namespace Jvm.Pilot.@@N@@
open Jvm Jvm.ClassFile Sem Op Lib Jvm.Free Jvm.Stand Jvm.LawKit Jvm.RoadKit Bundle Jvm.Pilot.@@N@@.Jvm.D
abbrev EL : List (String × Nat) := [("java/lang/String", 7), ("com/example/cartulary/cartulary/RegisterUris", 7)]
theorem own_hwsL {Z : State} {a0 : Array Value} (hw : ∀ d ∈ tables_1, d.before a0 Z = true) : ∀ d ∈ StrChars.Road.words, d.before a0 Z = true := fun d hd => hw d ((by decide +kernel : ∀ d ∈ StrChars.Road.words, d ∈ tables_1) d hd)
theorem dE4_0 : decode jdk_42_method_149_code 0 = .ok (.aload_n 0, 1) := by decide +kernel
theorem dE4_1 : decode jdk_42_method_149_code 1 = .ok (.invokespecial 1, 3) := by decide +kernel
theorem dE4_4 : decode jdk_42_method_149_code 4 = .ok (.iload_n 3, 1) := by decide +kernel
theorem dE4_5 : decode jdk_42_method_149_code 5 = .ok (.ifCond .ne 22, 3) := by decide +kernel
theorem dE4_8 : decode jdk_42_method_149_code 8 = .ok (.aload_n 0, 1) := by decide +kernel
theorem dE4_9 : decode jdk_42_method_149_code 9 = .ok (.ldc 7, 2) := by decide +kernel
theorem dE4_11 : decode jdk_42_method_149_code 11 = .ok (.getfield 9, 3) := by decide +kernel
theorem dE4_14 : decode jdk_42_method_149_code 14 = .ok (.putfield 9, 3) := by decide +kernel
theorem dE4_17 : decode jdk_42_method_149_code 17 = .ok (.aload_n 0, 1) := by decide +kernel
theorem dE4_18 : decode jdk_42_method_149_code 18 = .ok (.ldc 7, 2) := by decide +kernel
theorem dE4_20 : decode jdk_42_method_149_code 20 = .ok (.getfield 15, 3) := by decide +kernel
theorem dE4_23 : decode jdk_42_method_149_code 23 = .ok (.putfield 15, 3) := by decide +kernel
theorem dE4_26 : decode jdk_42_method_149_code 26 = .ok (.return_, 1) := by decide +kernel
theorem dE4_27 : decode jdk_42_method_149_code 27 = .ok (.getstatic 38, 3) := by decide +kernel
theorem dE4_30 : decode jdk_42_method_149_code 30 = .ok (.ifCond .eq 28, 3) := by decide +kernel
theorem dE4_33 : decode jdk_42_method_149_code 33 = .ok (.aload_n 1, 1) := by decide +kernel
theorem dE4_34 : decode jdk_42_method_149_code 34 = .ok (.iload_n 2, 1) := by decide +kernel
theorem dE4_35 : decode jdk_42_method_149_code 35 = .ok (.iload_n 3, 1) := by decide +kernel
theorem dE4_36 : decode jdk_42_method_149_code 36 = .ok (.invokestatic 177, 3) := by decide +kernel
theorem dE4_39 : decode jdk_42_method_149_code 39 = .ok (.astore 5, 2) := by decide +kernel
theorem dE4_41 : decode jdk_42_method_149_code 41 = .ok (.aload_n 0, 1) := by decide +kernel
theorem dE4_42 : decode jdk_42_method_149_code 42 = .ok (.aload 5, 2) := by decide +kernel
theorem dE4_44 : decode jdk_42_method_149_code 44 = .ok (.iload_n 3, 1) := by decide +kernel
theorem dE4_45 : decode jdk_42_method_149_code 45 = .ok (.invokestatic 47, 3) := by decide +kernel
theorem dE4_48 : decode jdk_42_method_149_code 48 = .ok (.putfield 15, 3) := by decide +kernel
theorem dE4_51 : decode jdk_42_method_149_code 51 = .ok (.aload_n 0, 1) := by decide +kernel
theorem dE4_52 : decode jdk_42_method_149_code 52 = .ok (.aload 5, 2) := by decide +kernel
theorem dE4_54 : decode jdk_42_method_149_code 54 = .ok (.putfield 9, 3) := by decide +kernel
theorem dE4_57 : decode jdk_42_method_149_code 57 = .ok (.return_, 1) := by decide +kernel
theorem dE4_58 : decode jdk_42_method_149_code 58 = .ok (.aload_n 0, 1) := by decide +kernel
theorem dE4_59 : decode jdk_42_method_149_code 59 = .ok (.iconst 1, 1) := by decide +kernel
theorem dE4_60 : decode jdk_42_method_149_code 60 = .ok (.putfield 15, 3) := by decide +kernel
theorem dE4_63 : decode jdk_42_method_149_code 63 = .ok (.aload_n 0, 1) := by decide +kernel
theorem dE4_64 : decode jdk_42_method_149_code 64 = .ok (.aload_n 1, 1) := by decide +kernel
theorem dE4_65 : decode jdk_42_method_149_code 65 = .ok (.iload_n 2, 1) := by decide +kernel
theorem dE4_66 : decode jdk_42_method_149_code 66 = .ok (.iload_n 3, 1) := by decide +kernel
theorem dE4_67 : decode jdk_42_method_149_code 67 = .ok (.invokestatic 180, 3) := by decide +kernel
theorem dE4_70 : decode jdk_42_method_149_code 70 = .ok (.putfield 9, 3) := by decide +kernel
theorem dE4_73 : decode jdk_42_method_149_code 73 = .ok (.return_, 1) := by decide +kernel
theorem dE1_0 : decode jdk_42_method_3_code 0 = .ok (.aload_n 0, 1) := by decide +kernel
theorem dE1_1 : decode jdk_42_method_3_code 1 = .ok (.aload_n 1, 1) := by decide +kernel
theorem dE1_2 : decode jdk_42_method_3_code 2 = .ok (.iconst 0, 1) := by decide +kernel
theorem dE1_3 : decode jdk_42_method_3_code 3 = .ok (.aload_n 1, 1) := by decide +kernel
theorem dE1_4 : decode jdk_42_method_3_code 4 = .ok (.arraylength, 1) := by decide +kernel
theorem dE1_5 : decode jdk_42_method_3_code 5 = .ok (.aconst_null, 1) := by decide +kernel
theorem dE1_6 : decode jdk_42_method_3_code 6 = .ok (.invokespecial 27, 3) := by decide +kernel
theorem dE1_9 : decode jdk_42_method_3_code 9 = .ok (.return_, 1) := by decide +kernel
theorem pnS : plainName "java/lang/String" = true := by first | (simp [plainName, overriddenIn]; done) | decide +kernel
theorem pdE4 : parseMethodDescriptor "([CIILjava/lang/Void;)V" = some ⟨[.array .char, .int, .int, .object "java/lang/Void"], none⟩ := by decide +kernel
theorem pdE1 : parseMethodDescriptor "([C)V" = some ⟨[.array .char], none⟩ := by decide +kernel
theorem efE4 (m : MethodId) (x0 : Addr) (x1 : Addr) (x2 : Int32) (x3 : Int32) : entryFrame m #[(.ref x0), (.ref x1), (.int x2), (.int x3), .null] 6 = mkF m 0 #[.val (.ref x0), .val (.ref x1), .val (.int x2), .val (.int x3), .val .null, .unset] [] := by first | (simp [entryFrame, mkF, argsToLocals, Value.category]; done) | rfl
def Q_rmE4 (Z : State) (x b : Addr) (h0 : Heap) (v : Option Value) (h : Heap) (L : List Loc) : Prop := v = none ∧ Fr Z.heap.size L ∧ Keep h0 h [x] ∧ own_Str Z h x []
set_option maxRecDepth 65536 in
set_option maxHeartbeats 40000000 in
theorem rmE4 (l : Launch) (Z : State) (a0 : Array Value) (hw : ∀ d ∈ tables_1, d.before a0 Z = true) (hEL : EW Z a0 EL) (x b : Addr) (h0 : Heap) (ga : Z.heap.size ≤ x) (A0 : Exa Z h0 x "java/lang/String") (Fv : Fld Z h0 x "java/lang/String" "value" "[B" .null) (Fc : Fld Z h0 x "java/lang/String" "coder" "B" (.int (0 : Int32))) :
    MetFree l (⟨"java/lang/String", "<init>", "([CIILjava/lang/Void;)V"⟩ : MethodName) (head1 (Jvm.Cond.code (⟨"java/lang/String", "<init>", "([CIILjava/lang/Void;)V"⟩ : MethodName) jdk_42_method_149_code 6 (Option.none : Option FieldType) :: []) ({ frames := 1, cells := 4, slots := 8, locals := 12 } : Room)) (fun aa U => aa = #[(.ref x), (.ref b), (.int (0 : Int32)), (.int (0 : Int32)), .null] ∧ Z.Warmed39 U.vm ∧ U.heap = h0 ∧ CHv Z EL U.vm h0 ∧ ∀ yy ∈ ([x] : List Addr), Safe Z EL U.vm h0 yy) (fun _ _ _ _ _ => True) (fun _ U o U' => ∃ v L, o = .returned v ∧ (Q_rmE4 Z x b h0) v U'.heap L ∧ CHr Z EL U.vm U.heap U'.vm U'.heap ∧ ReturnedEndW U o U' L ({ frames := 1, cells := 4, slots := 8, locals := 12 } : Room).cells ({ frames := 1, cells := 4, slots := 8, locals := 12 } : Room).slots) := by
  refine own_walkW (by exact pnS) ?_
  intro p e s m below meth c T0 X0 hx hby hml hret hlk hnm hs0 e0 I0 hsf F hF
  refine own_on (fun _ => castTop (efE4 m x b 0 0)) ?_
  have N0 := Fr.nil Z.heap.size
  have Q0 := Keep.refl h0 [x]
  have S0 := hsf x (by simp)
  refine own_aload_n X0.here hx (hb hby dE4_0) rfl rfl (pc' := 1) rfl ?_
  obtain ⟨T1, X1, e1, st1⟩ := initO X0 hx I0.1 I0.2.1 (hw _ (List.mem_of_getElem? (i := 11) rfl)) (hw _ (List.mem_of_getElem? (i := 12) rfl)) (hw _ (List.mem_of_getElem? (i := 13) rfl)) e0 (g := (mkF m 1 #[.val (.ref x), .val (.ref b), .val (.int ((0 : Int32))), .val (.int ((0 : Int32))), .val .null, .unset] [(.ref x)])) rfl (by rw [hml]; rfl) rfl (hb hby dE4_1) (by decide) (W := 0) (by show 2 * 0 + _ ≤ _; exact Nat.le_of_eq rfl) (by decide)
  refine own_on st1 ?_
  show own_Go p e below F (T1.setTop (mkF m 4 #[.val (.ref x), .val (.ref b), .val (.int ((0 : Int32))), .val (.int ((0 : Int32))), .val .null, .unset] []))
  refine own_iload_n X1.here hx (hb hby dE4_4) rfl (pc' := 5) rfl ?_
  refine own_ifne X1.here hx (hb hby dE4_5) (by decide) (pc' := 27) (by decide) (pc2 := 8) rfl (fun q => absurd rfl q) (fun q2 => ?_)
  refine own_aload_n X1.here hx (hb hby dE4_8) rfl rfl (pc' := 9) rfl ?_
  obtain ⟨b3, T3, t3, kb3, X3, E3, I3, C3, A3, Fc3, Fv3, V3, hn3, st3⟩ := own_ldcT X1 hx I0 (hw _ (List.mem_of_getElem? (i := 14) rfl)) (own_strW hw) e1 hEL (by simp [EL]) (vs := []) (z := 0) (by decide) (by decide) (by decide) (g := (mkF m 9 #[.val (.ref x), .val (.ref b), .val (.int ((0 : Int32))), .val (.int ((0 : Int32))), .val .null, .unset] [(.ref x)])) rfl (hb hby dE4_9) (n := 0) (by decide) (by decide) (by decide) (by decide)
  have f4 := Q0.ext E3
  have f5 := A0.ext E3
  have f6 := Fv.ext E3
  have f7 := Fc.ext E3
  have f8 := C3.safe A0.lt S0
  have ne9 := hn3 x f8
  refine own_on st3 ?_
  show own_Go p e below F (T3.setTop (mkF m 11 #[.val (.ref x), .val (.ref b), .val (.int ((0 : Int32))), .val (.int ((0 : Int32))), .val .null, .unset] [(.ref b3), (.ref x)]))
  obtain ⟨T10, X10, e10, st10⟩ := getF X3 hx I3.1 I3.2.1 (host := "") (Or.inl (hw _ (List.mem_of_getElem? (i := 20) rfl))) Via.refl rfl Fv3 (g := (mkF m 11 #[.val (.ref x), .val (.ref b), .val (.int ((0 : Int32))), .val (.int ((0 : Int32))), .val .null, .unset] [(.ref b3), (.ref x)])) rfl rfl (hb hby dE4_11)
  refine own_on st10 ?_
  show own_Go p e below F (T10.setTop (mkF m 14 #[.val (.ref x), .val (.ref b), .val (.int ((0 : Int32))), .val (.int ((0 : Int32))), .val .null, .unset] [(.ref t3), (.ref x)]))
  obtain ⟨T11, h11, X11, e11, W11, st11⟩ := putF X10 hx I3.1 I3.2.1 (host := "") (Or.inl (hw _ (List.mem_of_getElem? (i := 20) rfl))) Via.refl e10 f6 f5 (Or.inr ⟨(hw _ (List.mem_of_getElem? (i := 16) rfl)), rfl, hnm⟩) (hw _ (List.mem_of_getElem? (i := 2) rfl)) (ty := .array .byte) (by decide) rfl rfl (g := (mkF m 14 #[.val (.ref x), .val (.ref b), .val (.int ((0 : Int32))), .val (.int ((0 : Int32))), .val .null, .unset] [(.ref t3), (.ref x)])) rfl rfl (hb hby dE4_14)
  have f12 := f5.wr W11
  have f13 := f6.same W11
  have f14 := f7.other W11 (Or.inr (slot_ne (Or.inr (hw _ (List.mem_of_getElem? (i := 17) rfl))) (Or.inr (hw _ (List.mem_of_getElem? (i := 16) rfl))) (by decide) (t := .byte) (by decide) (t' := .array .byte) (by decide)))
  have f15 := Safe.wr W11 f8 I3.ch f8
  have f16 := A3.wr W11
  have f17 := Fc3.other W11 (Or.inl (Ne.symm ne9.1))
  have f18 := Fv3.other W11 (Or.inl (Ne.symm ne9.1))
  have f19 := V3.other W11 (Ne.symm ne9.2)
  have J20 := I3.wr W11 f8
  have f21 := f4.wr W11 (Or.inl (by simp))
  have N22 := own_Fr_snoc (sl := Jvm.RoadKit.slotOf Z "java/lang/String" "value" "[B") N0 ga
  refine own_on st11 ?_
  show own_Go p e below F (T11.setTop (mkF m 17 #[.val (.ref x), .val (.ref b), .val (.int ((0 : Int32))), .val (.int ((0 : Int32))), .val .null, .unset] []))
  refine own_aload_n X11.here hx (hb hby dE4_17) rfl rfl (pc' := 18) rfl ?_
  obtain ⟨b23, T23, t23, kb23, X23, E23, I23, C23, A23, Fc23, Fv23, V23, hn23, st23⟩ := own_ldcT X11 hx J20 (hw _ (List.mem_of_getElem? (i := 14) rfl)) (own_strW hw) e11 hEL (by simp [EL]) (vs := []) (z := 0) (by decide) (by decide) (by decide) (g := (mkF m 18 #[.val (.ref x), .val (.ref b), .val (.int ((0 : Int32))), .val (.int ((0 : Int32))), .val .null, .unset] [(.ref x)])) rfl (hb hby dE4_18) (n := 0) (by decide) (by decide) (by decide) (by decide)
  have f24 := f12.ext E23
  have f25 := f13.ext E23
  have f26 := f14.ext E23
  have f27 := C23.safe (f12).lt f15
  have f28 := f19.ext E23
  have f29 := f21.ext E23
  have ne30 := hn23 x f27
  refine own_on st23 ?_
  show own_Go p e below F (T23.setTop (mkF m 20 #[.val (.ref x), .val (.ref b), .val (.int ((0 : Int32))), .val (.int ((0 : Int32))), .val .null, .unset] [(.ref b23), (.ref x)]))
  obtain ⟨T31, X31, e31, st31⟩ := getF X23 hx I23.1 I23.2.1 (host := "") (Or.inl (hw _ (List.mem_of_getElem? (i := 21) rfl))) Via.refl rfl Fc23 (g := (mkF m 20 #[.val (.ref x), .val (.ref b), .val (.int ((0 : Int32))), .val (.int ((0 : Int32))), .val .null, .unset] [(.ref b23), (.ref x)])) rfl rfl (hb hby dE4_20)
  refine own_on st31 ?_
  show own_Go p e below F (T31.setTop (mkF m 23 #[.val (.ref x), .val (.ref b), .val (.int ((0 : Int32))), .val (.int ((0 : Int32))), .val .null, .unset] [(.int ((0 : Int32))), (.ref x)]))
  obtain ⟨T32, h32, X32, e32, W32, st32⟩ := putF X31 hx I23.1 I23.2.1 (host := "") (Or.inl (hw _ (List.mem_of_getElem? (i := 21) rfl))) Via.refl e31 f26 f24 (Or.inr ⟨(hw _ (List.mem_of_getElem? (i := 17) rfl)), rfl, hnm⟩) (hw _ (List.mem_of_getElem? (i := 2) rfl)) (ty := .byte) (by decide) rfl rfl (g := (mkF m 23 #[.val (.ref x), .val (.ref b), .val (.int ((0 : Int32))), .val (.int ((0 : Int32))), .val .null, .unset] [(.int ((0 : Int32))), (.ref x)])) rfl rfl (hb hby dE4_23)
  have f33 := f24.wr W32
  have f34 := f25.other W32 (Or.inr (slot_ne (Or.inr (hw _ (List.mem_of_getElem? (i := 16) rfl))) (Or.inr (hw _ (List.mem_of_getElem? (i := 17) rfl))) (by decide) (t := .array .byte) (by decide) (t' := .byte) (by decide)))
  have f35 := f26.same W32
  have f36 := Safe.wr W32 f27 I23.ch f27
  have f37 := f28.other W32 (Ne.symm ne9.2)
  have f38 := A23.wr W32
  have f39 := Fc23.other W32 (Or.inl (Ne.symm ne30.1))
  have f40 := Fv23.other W32 (Or.inl (Ne.symm ne30.1))
  have f41 := V23.other W32 (Ne.symm ne30.2)
  have J42 := I23.wr W32 f27
  have f43 := f29.wr W32 (Or.inl (by simp))
  have N44 := own_Fr_snoc (sl := Jvm.RoadKit.slotOf Z "java/lang/String" "coder" "B") N22 ga
  refine own_on st32 ?_
  show own_Go p e below F (T32.setTop (mkF m 26 #[.val (.ref x), .val (.ref b), .val (.int ((0 : Int32))), .val (.int ((0 : Int32))), .val .null, .unset] []))
  exact own_retVW X32 hx hlk hEL J42 e32 hret (hb hby dE4_26) (fun t ht hC hE => hF t _ _ _ _ (by rw [ht]; exact ⟨rfl, N44, f43, t3, kb3, f33, f34, f35, f37, (fun _ q => nomatch q), (by decide)⟩) hC hE (by decide) (by decide))
theorem efE1 (m : MethodId) (x0 : Addr) (x1 : Addr) : entryFrame m #[(.ref x0), (.ref x1)] 2 = mkF m 0 #[.val (.ref x0), .val (.ref x1)] [] := by first | (simp [entryFrame, mkF, argsToLocals, Value.category]; done) | rfl
def Q_rmE1 (Z : State) (x b : Addr) (kc : ClassId) (dv : Value) (h0 : Heap) (v : Option Value) (h : Heap) (L : List Loc) : Prop := v = none ∧ Fr Z.heap.size L ∧ Keep h0 h [x] ∧ own_Str Z h x []
set_option maxRecDepth 65536 in
set_option maxHeartbeats 40000000 in
theorem rmE1 (l : Launch) (Z : State) (a0 : Array Value) (hw : ∀ d ∈ tables_1, d.before a0 Z = true) (hEL : EW Z a0 EL) (x b : Addr) (kc : ClassId) (dv : Value) (h0 : Heap) (ga : Z.heap.size ≤ x) (A0 : Exa Z h0 x "java/lang/String") (Fv : Fld Z h0 x "java/lang/String" "value" "[B" .null) (Fc : Fld Z h0 x "java/lang/String" "coder" "B" (.int (0 : Int32))) (V0 : Arv Z h0 b kc .char (0 : Int32) [] dv) :
    MetFree l (⟨"java/lang/String", "<init>", "([C)V"⟩ : MethodName) (head1 (Jvm.Cond.code (⟨"java/lang/String", "<init>", "([C)V"⟩ : MethodName) jdk_42_method_3_code 2 (Option.none : Option FieldType) :: []) ({ frames := 2, cells := 4, slots := 8, locals := 29 } : Room)) (fun aa U => aa = #[(.ref x), (.ref b)] ∧ Z.Warmed39 U.vm ∧ U.heap = h0 ∧ CHv Z EL U.vm h0 ∧ ∀ yy ∈ ([x] : List Addr), Safe Z EL U.vm h0 yy) (fun _ _ _ _ _ => True) (fun _ U o U' => ∃ v L, o = .returned v ∧ (Q_rmE1 Z x b kc dv h0) v U'.heap L ∧ CHr Z EL U.vm U.heap U'.vm U'.heap ∧ ReturnedEndW U o U' L ({ frames := 2, cells := 4, slots := 8, locals := 29 } : Room).cells ({ frames := 2, cells := 4, slots := 8, locals := 29 } : Room).slots) := by
  refine own_walkW (by exact pnS) ?_
  intro p e s m below meth c T0 X0 hx hby hml hret hlk hnm hs0 e0 I0 hsf F hF
  refine own_on (fun _ => castTop (efE1 m x b)) ?_
  have N0 := Fr.nil Z.heap.size
  have Q0 := Keep.refl h0 [x]
  refine own_aload_n X0.here hx (hb hby dE1_0) rfl rfl (pc' := 1) rfl ?_
  refine own_aload_n X0.here hx (hb hby dE1_1) rfl rfl (pc' := 2) rfl ?_
  refine own_iconst X0.here hx (hb hby dE1_2) (v := 0) rfl (pc' := 3) rfl ?_
  refine own_aload_n X0.here hx (hb hby dE1_3) rfl rfl (pc' := 4) rfl ?_
  refine own_alen X0 hx I0.1 e0 V0 (hb hby dE1_4) (pc' := 5) rfl ?_
  refine own_aconst_null X0.here hx (hb hby dE1_5) (pc' := 6) rfl ?_
  obtain ⟨_, _, ⟨T1, L1, k1, n1⟩, -, X1, hS1, hG1, ⟨Lc1, hQ1, l1, y1, z1, C1⟩, st1⟩ := X0.specialBackS hx (y := (⟨"java/lang/String", "<init>", "([CIILjava/lang/Void;)V"⟩ : MethodName)) rfl I0.2.1 (mvT I0.1 (hw _ (List.mem_of_getElem? (i := 7) rfl))) (mvT I0.1 (hw _ (List.mem_of_getElem? (i := 8) rfl))) (mvT I0.1 (hw _ (List.mem_of_getElem? (i := 10) rfl))) (by decide) (own_backW (W := 0) (rmE4 l Z a0 hw hEL x b h0 ga A0 Fv Fc) I0.1 (hw _ (List.mem_of_getElem? (i := 10) rfl)) (hw _ (List.mem_of_getElem? (i := 3) rfl)) (by decide) (by decide) hEL I0.ch (fun y hy => by simp only [List.mem_cons, List.not_mem_nil, or_false] at hy; subst hy; exact ⟨A0.lt, hsf _ (by simp)⟩)) (g := (mkF m 6 #[.val (.ref x), .val (.ref b)] [.null, (.int ((0 : Int32))), (.int ((0 : Int32))), (.ref b), (.ref x)])) rfl (by rw [hml]; rfl) (Steps.refl _) (a := x) (argsL := [(.ref b), (.int ((0 : Int32))), (.int ((0 : Int32))), .null]) (rest := []) (lenOf pdE4 rfl) rfl (by show 2 * 0 + _ ≤ _; exact Nat.le_of_eq rfl) (hb hby dE1_6) (fun _ _ => ⟨rfl, e0, (Nat.le_of_ble_eq_true rfl), (Nat.le_of_ble_eq_true rfl)⟩)
  dsimp only [Pt.U, Pt.locs, Pt.cells, Pt.slots] at X1 hS1 hG1 l1 y1 z1 C1 st1 hQ1
  subst l1 y1 z1
  replace X1 := (show Stand _ _ _ _ (s.setVm T1.vm) _ _ _ _ _ _ _ _ _ from X1)
  have I1 := I0.later hS1 (Nat.le_refl _) (by have q := hG1; rw [(e0 : _ = h0)] at q; exact q) C1
  obtain ⟨rfl, N1, K1, S1⟩ := hQ1
  refine own_to st1 ?_
  show own_Go p e below F (T1.setTop (mkF m 9 #[.val (.ref x), .val (.ref b)] []))
  have f2 := Q0.trans K1 (fun y hy => by simp only [List.mem_cons, List.not_mem_nil, or_false] at hy; rcases hy with rfl <;> first | exact Or.inl (by simp) | exact Or.inr (by assumption))
  have N3 := Fr.app N0 N1
  exact own_retVW X1 hx hlk hEL I1 rfl hret (hb hby dE1_9) (fun t ht hC hE => hF t _ _ _ _ (by rw [ht]; exact ⟨rfl, N3, f2, S1⟩) hC hE (by decide) (by decide))
theorem pnL : plainName "com/example/cartulary/cartulary/RegisterUrisChildBasePinLaw" = true := by first | (simp [plainName, overriddenIn]; done) | decide +kernel
theorem pnAR : plainName "java/util/Arrays" = true := by first | (simp [plainName, overriddenIn]; done) | decide +kernel
theorem pnRU : plainName "com/example/cartulary/cartulary/RegisterUris" = true := by first | (simp [plainName, overriddenIn]; done) | decide +kernel
theorem pdZ : parseMethodDescriptor "()Z" = some ⟨[], some .boolean⟩ := by decide +kernel
theorem pdI : parseMethodDescriptor "()I" = some ⟨[], some .int⟩ := by decide +kernel
theorem pdII : parseMethodDescriptor "(II)I" = some ⟨[.int, .int], some .int⟩ := by decide +kernel
theorem pdCL : parseMethodDescriptor "(II)V" = some ⟨[.int, .int], none⟩ := by decide +kernel
theorem pdRB : parseMethodDescriptor "([BII)[B" = some ⟨[.array .byte, .int, .int], some (.array .byte)⟩ := by decide +kernel
theorem pdRU : parseMethodDescriptor "(Ljava/lang/String;)Ljava/lang/String;" = some ⟨[.object "java/lang/String"], some (.object "java/lang/String")⟩ := by decide +kernel
theorem pdCh : parseMethodDescriptor "(I)C" = some ⟨[.int], some .char⟩ := by decide +kernel
theorem pdEq : parseMethodDescriptor "(Ljava/lang/Object;)Z" = some ⟨[.object "java/lang/Object"], some .boolean⟩ := by decide +kernel
theorem efR (m : MethodId) (x0 : Addr) : entryFrame m #[(.ref x0)] 1 = mkF m 0 #[.val (.ref x0)] [] := by first | (simp [entryFrame, mkF, argsToLocals, Value.category]; done) | rfl
theorem dMi_0 : decode jdk_29_method_69_code 0 = .ok (.iload_n 0, 1) := by decide +kernel
theorem dMi_1 : decode jdk_29_method_69_code 1 = .ok (.iload_n 1, 1) := by decide +kernel
theorem dMi_2 : decode jdk_29_method_69_code 2 = .ok (.if_icmp .gt 7, 3) := by decide +kernel
theorem dMi_5 : decode jdk_29_method_69_code 5 = .ok (.iload_n 0, 1) := by decide +kernel
theorem dMi_6 : decode jdk_29_method_69_code 6 = .ok (.goto 4, 3) := by decide +kernel
theorem dMi_9 : decode jdk_29_method_69_code 9 = .ok (.iload_n 1, 1) := by decide +kernel
theorem dMi_10 : decode jdk_29_method_69_code 10 = .ok (.ireturn, 1) := by decide +kernel
theorem efII (m : MethodId) (x0 : Int32) (x1 : Int32) : entryFrame m #[(.int x0), (.int x1)] 2 = mkF m 0 #[.val (.int x0), .val (.int x1)] [] := by first | (simp [entryFrame, mkF, argsToLocals, Value.category]; done) | rfl
def Q_rmMi (Z : State) (a b r : Int32) (h0 : Heap) (v : Option Value) (h : Heap) (L : List Loc) : Prop := v = some (.int r) ∧ Fr Z.heap.size L ∧ h = h0
set_option maxRecDepth 65536 in
set_option maxHeartbeats 40000000 in
theorem rmMi (l : Launch) (Z : State) (a0 : Array Value) (hw : ∀ d ∈ tables_1, d.before a0 Z = true) (a b r : Int32) (h0 : Heap) (hr : r = if b < a then b else a) :
    MetFree l (⟨"java/lang/Math", "min", "(II)I"⟩ : MethodName) (head1 (Jvm.Cond.code (⟨"java/lang/Math", "min", "(II)I"⟩ : MethodName) jdk_29_method_69_code 2 (Option.some FieldType.int) :: []) ({ frames := 0, cells := 0, slots := 0, locals := 0 } : Room)) (fun aa U => aa = #[(.int a), (.int b)] ∧ Z.Warmed39 U.vm ∧ U.heap = h0) (fun _ _ _ _ _ => True) (fun _ U o U' => ∃ v L, o = .returned v ∧ (Q_rmMi Z a b r h0) v U'.heap L ∧ FrameEnd U o U' L ({ frames := 0, cells := 0, slots := 0, locals := 0 } : Room).cells ({ frames := 0, cells := 0, slots := 0, locals := 0 } : Room).slots) := by
  refine own_walkP (by decide +kernel) ?_
  intro p e s m below meth c T0 X0 hx hby hml hret hlk hnm hown hZ e0 es0 F hF
  refine own_on (fun _ => castTop (efII m a b)) ?_
  refine own_iload_n X0.here hx (hb hby dMi_0) rfl (pc' := 1) rfl ?_
  refine own_iload_n X0.here hx (hb hby dMi_1) rfl (pc' := 2) rfl ?_
  refine own_icmpgt X0.here hx (hb hby dMi_2) (by decide) (pc' := 9) (by decide) (pc2 := 5) rfl (fun q1 => ?_) (fun q1 => ?_)
  · refine own_iload_n X0.here hx (hb hby dMi_9) rfl (pc' := 10) rfl ?_
    exact own_retI X0 hx hlk hret (hb hby dMi_10) (fun t ht hE => hF t _ _ _ _ (by rw [ht, (e0 : _ = h0)]; exact ⟨by simp [hr, q1], Fr.nil _, rfl⟩) hE (by decide) (by decide))
  · refine own_iload_n X0.here hx (hb hby dMi_5) rfl (pc' := 6) rfl ?_
    refine own_goto X0.here hx (hb hby dMi_6) (by decide) (pc' := 10) (by decide) ?_
    exact own_retI X0 hx hlk hret (hb hby dMi_10) (fun t ht hE => hF t _ _ _ _ (by rw [ht, (e0 : _ = h0)]; exact ⟨by simp [hr, q1], Fr.nil _, rfl⟩) hE (by decide) (by decide))
theorem dCL_0 : decode jdk_65_method_131_code 0 = .ok (.iload_n 1, 1) := by decide +kernel
theorem dCL_1 : decode jdk_65_method_131_code 1 = .ok (.iload_n 0, 1) := by decide +kernel
theorem dCL_2 : decode jdk_65_method_131_code 2 = .ok (.if_icmp .ge 35, 3) := by decide +kernel
theorem dCL_5 : decode jdk_65_method_131_code 5 = .ok (.new 43, 3) := by decide +kernel
theorem dCL_8 : decode jdk_65_method_131_code 8 = .ok (.dup, 1) := by decide +kernel
theorem dCL_9 : decode jdk_65_method_131_code 9 = .ok (.new 45, 3) := by decide +kernel
theorem dCL_12 : decode jdk_65_method_131_code 12 = .ok (.dup, 1) := by decide +kernel
theorem dCL_13 : decode jdk_65_method_131_code 13 = .ok (.invokespecial 47, 3) := by decide +kernel
theorem dCL_16 : decode jdk_65_method_131_code 16 = .ok (.iload_n 0, 1) := by decide +kernel
theorem dCL_17 : decode jdk_65_method_131_code 17 = .ok (.invokevirtual 54, 3) := by decide +kernel
theorem dCL_20 : decode jdk_65_method_131_code 20 = .ok (.ldc_w 337, 3) := by decide +kernel
theorem dCL_23 : decode jdk_65_method_131_code 23 = .ok (.invokevirtual 50, 3) := by decide +kernel
theorem dCL_26 : decode jdk_65_method_131_code 26 = .ok (.iload_n 1, 1) := by decide +kernel
theorem dCL_27 : decode jdk_65_method_131_code 27 = .ok (.invokevirtual 54, 3) := by decide +kernel
theorem dCL_30 : decode jdk_65_method_131_code 30 = .ok (.invokevirtual 61, 3) := by decide +kernel
theorem dCL_33 : decode jdk_65_method_131_code 33 = .ok (.invokespecial 65, 3) := by decide +kernel
theorem dCL_36 : decode jdk_65_method_131_code 36 = .ok (.athrow, 1) := by decide +kernel
theorem dCL_37 : decode jdk_65_method_131_code 37 = .ok (.return_, 1) := by decide +kernel
def Q_rmCL (Z : State) (e0 : Int32) (h0 : Heap) (v : Option Value) (h : Heap) (L : List Loc) : Prop := v = none ∧ Fr Z.heap.size L ∧ h = h0
set_option maxRecDepth 65536 in
set_option maxHeartbeats 40000000 in
theorem rmCL (l : Launch) (Z : State) (a0 : Array Value) (hw : ∀ d ∈ tables_1, d.before a0 Z = true) (e0 : Int32) (h0 : Heap) (hq1 : ¬ e0 < 0) :
    MetFree l (⟨"java/util/Arrays", "checkLength", "(II)V"⟩ : MethodName) (head1 (Jvm.Cond.code (⟨"java/util/Arrays", "checkLength", "(II)V"⟩ : MethodName) jdk_65_method_131_code 2 (Option.none : Option FieldType) :: []) ({ frames := 0, cells := 0, slots := 0, locals := 0 } : Room)) (fun aa U => aa = #[(.int (0 : Int32)), (.int e0)] ∧ Z.Warmed39 U.vm ∧ U.heap = h0) (fun _ _ _ _ _ => True) (fun _ U o U' => ∃ v L, o = .returned v ∧ (Q_rmCL Z e0 h0) v U'.heap L ∧ FrameEnd U o U' L ({ frames := 0, cells := 0, slots := 0, locals := 0 } : Room).cells ({ frames := 0, cells := 0, slots := 0, locals := 0 } : Room).slots) := by
  refine own_walkN (by exact pnAR) ?_
  intro p e s m below meth c T0 X0 hx hby hml hret hlk hnm hown hZ e00 es0 F hF
  refine own_on (fun _ => castTop (efII m 0 e0)) ?_
  refine own_iload_n X0.here hx (hb hby dCL_0) rfl (pc' := 1) rfl ?_
  refine own_iload_n X0.here hx (hb hby dCL_1) rfl (pc' := 2) rfl ?_
  refine own_icmpge X0.here hx (hb hby dCL_2) (by decide) (pc' := 37) (by decide) (pc2 := 5) rfl (fun q1 => ?_) (fun q => absurd q hq1)
  exact own_retV X0 hx hlk hret (hb hby dCL_37) (fun t ht hE => hF t _ _ _ _ (by rw [ht, (e00 : _ = h0)]; exact ⟨rfl, Fr.nil _, rfl⟩) hE (by decide) (by decide))
theorem dRB_0 : decode jdk_65_method_133_code 0 = .ok (.iload_n 1, 1) := by decide +kernel
theorem dRB_1 : decode jdk_65_method_133_code 1 = .ok (.iload_n 2, 1) := by decide +kernel
theorem dRB_2 : decode jdk_65_method_133_code 2 = .ok (.invokestatic 343, 3) := by decide +kernel
theorem dRB_5 : decode jdk_65_method_133_code 5 = .ok (.iload_n 2, 1) := by decide +kernel
theorem dRB_6 : decode jdk_65_method_133_code 6 = .ok (.iload_n 1, 1) := by decide +kernel
theorem dRB_7 : decode jdk_65_method_133_code 7 = .ok (.isub, 1) := by decide +kernel
theorem dRB_8 : decode jdk_65_method_133_code 8 = .ok (.istore_n 3, 1) := by decide +kernel
theorem dRB_9 : decode jdk_65_method_133_code 9 = .ok (.iload_n 3, 1) := by decide +kernel
theorem dRB_10 : decode jdk_65_method_133_code 10 = .ok (.newarray .byte, 2) := by decide +kernel
theorem dRB_12 : decode jdk_65_method_133_code 12 = .ok (.astore 4, 2) := by decide +kernel
theorem dRB_14 : decode jdk_65_method_133_code 14 = .ok (.aload_n 0, 1) := by decide +kernel
theorem dRB_15 : decode jdk_65_method_133_code 15 = .ok (.iload_n 1, 1) := by decide +kernel
theorem dRB_16 : decode jdk_65_method_133_code 16 = .ok (.aload 4, 2) := by decide +kernel
theorem dRB_18 : decode jdk_65_method_133_code 18 = .ok (.iconst 0, 1) := by decide +kernel
theorem dRB_19 : decode jdk_65_method_133_code 19 = .ok (.aload_n 0, 1) := by decide +kernel
theorem dRB_20 : decode jdk_65_method_133_code 20 = .ok (.arraylength, 1) := by decide +kernel
theorem dRB_21 : decode jdk_65_method_133_code 21 = .ok (.iload_n 1, 1) := by decide +kernel
theorem dRB_22 : decode jdk_65_method_133_code 22 = .ok (.isub, 1) := by decide +kernel
theorem dRB_23 : decode jdk_65_method_133_code 23 = .ok (.iload_n 3, 1) := by decide +kernel
theorem dRB_24 : decode jdk_65_method_133_code 24 = .ok (.invokestatic 304, 3) := by decide +kernel
theorem dRB_27 : decode jdk_65_method_133_code 27 = .ok (.invokestatic 150, 3) := by decide +kernel
theorem dRB_30 : decode jdk_65_method_133_code 30 = .ok (.aload 4, 2) := by decide +kernel
theorem dRB_32 : decode jdk_65_method_133_code 32 = .ok (.areturn, 1) := by decide +kernel
theorem efRB (m : MethodId) (x0 : Addr) (x1 : Int32) (x2 : Int32) : entryFrame m #[(.ref x0), (.int x1), (.int x2)] 5 = mkF m 0 #[.val (.ref x0), .val (.int x1), .val (.int x2), .unset, .unset] [] := by first | (simp [entryFrame, mkF, argsToLocals, Value.category]; done) | rfl
def Q_rmRB (Z : State) (t : Addr) (kb : ClassId) (cs : List Int32) (e0 : Nat) (h0 : Heap) (v : Option Value) (h : Heap) (L : List Loc) : Prop := ∃ t1 k1, v = some (.ref t1) ∧ Ext h0 h ∧ Fr Z.heap.size L ∧ h0.size ≤ t1 ∧ Arv Z h t1 k1 .byte (Int32.ofNat e0) (((cs.take e0).map fun c => c.toInt8.toInt32).map Value.int) (.int 0)
set_option maxRecDepth 65536 in
set_option maxHeartbeats 40000000 in
theorem rmRB (l : Launch) (Z : State) (a0 : Array Value) (hw : ∀ d ∈ tables_1, d.before a0 Z = true) (t : Addr) (kb : ClassId) (cs : List Int32) (e0 : Nat) (h0 : Heap) (EZ : Ext Z.heap h0) (sA : Arv Z h0 t kb .byte (Int32.ofNat cs.length) ((cs.map fun c => c.toInt8.toInt32).map Value.int) (.int 0)) (hl : cs.length ≤ 4000) (he : e0 ≤ 4) (hn : e0 < cs.length) :
    MetFree l (⟨"java/util/Arrays", "copyOfRangeByte", "([BII)[B"⟩ : MethodName) (head1 (Jvm.Cond.code (⟨"java/util/Arrays", "copyOfRangeByte", "([BII)[B"⟩ : MethodName) jdk_65_method_133_code 5 (Option.some (FieldType.array FieldType.byte)) :: []) ({ frames := 1, cells := 1, slots := 4, locals := 60 } : Room)) (fun aa U => aa = #[(.ref t), (.int (0 : Int32)), (.int (Int32.ofNat e0))] ∧ Z.Warmed39 U.vm ∧ U.heap = h0) (fun _ _ _ _ _ => True) (fun _ U o U' => ∃ v L, o = .returned v ∧ (Q_rmRB Z t kb cs e0 h0) v U'.heap L ∧ FrameEnd U o U' L ({ frames := 1, cells := 1, slots := 4, locals := 60 } : Room).cells ({ frames := 1, cells := 1, slots := 4, locals := 60 } : Room).slots) := by
  refine own_walkN (by exact pnAR) ?_
  intro p e s m below meth c T0 X0 hx hby hml hret hlk hnm hown hZ e00 es0 F hF
  refine own_on (fun _ => castTop (efRB m t 0 _)) ?_
  have M0 := own_ext_refl h0
  have N0 := Fr.nil Z.heap.size
  refine own_iload_n X0.here hx (hb hby dRB_0) rfl (pc' := 1) rfl ?_
  refine own_iload_n X0.here hx (hb hby dRB_1) rfl (pc' := 2) rfl ?_
  obtain ⟨_, _, ⟨T1, L1, k1, n1⟩, -, X1, ⟨Lc1, hQ1, l1, y1, z1⟩, st1⟩ := Jvm.LawKit.callS X0 hx (y := (⟨"java/util/Arrays", "checkLength", "(II)V"⟩ : MethodName)) hown (mvT hZ (hw _ (List.mem_of_getElem? (i := 141) rfl))) (mvT hZ (hw _ (List.mem_of_getElem? (i := 142) rfl))) (mvT hZ (hw _ (List.mem_of_getElem? (i := 136) rfl))) (mvT hZ (hw _ (List.mem_of_getElem? (i := 143) rfl))) (by decide) (backOf (W := 0) (rmCL l Z a0 hw (Int32.ofNat e0) h0 (own_nn (by omega))) hZ (hw _ (List.mem_of_getElem? (i := 143) rfl)) (hw _ (List.mem_of_getElem? (i := 136) rfl)) (by decide) (by decide)) (g := (mkF m 2 #[.val (.ref t), .val (.int ((0 : Int32))), .val (.int (Int32.ofNat e0)), .unset, .unset] [(.int (Int32.ofNat e0)), (.int ((0 : Int32)))])) rfl (by rw [hml]; rfl) (argsL := [(.int ((0 : Int32))), (.int (Int32.ofNat e0))]) (rest := []) (lenOf pdCL rfl) rfl (by show 2 * 0 + _ ≤ _; exact Nat.le_of_eq rfl) (hb hby dRB_2) (fun _ _ => ⟨rfl, e00, (Nat.le_of_ble_eq_true rfl), (Nat.le_of_ble_eq_true rfl)⟩)
  dsimp only [Pt.U, Pt.locs, Pt.cells, Pt.slots] at X1 l1 y1 z1 st1 hQ1
  subst l1 y1 z1
  obtain ⟨rfl, N1, E1⟩ := hQ1
  refine own_on (st1) ?_
  show own_Go p e below F (T1.setTop (mkF m 5 #[.val (.ref t), .val (.int ((0 : Int32))), .val (.int (Int32.ofNat e0)), .unset, .unset] []))
  have N2 := Fr.app N0 N1
  refine own_iload_n X1.here hx (hb hby dRB_5) rfl (pc' := 6) rfl ?_
  refine own_iload_n X1.here hx (hb hby dRB_6) rfl (pc' := 7) rfl ?_
  refine own_isub X1.here hx (hb hby dRB_7) (pc' := 8) rfl ?_
  rw [Int32.sub_zero]
  show own_Go p e below F (T1.setTop (mkF m 8 #[.val (.ref t), .val (.int ((0 : Int32))), .val (.int (Int32.ofNat e0)), .unset, .unset] [(.int (Int32.ofNat e0))]))
  refine own_istore_n X1.here hx (hb hby dRB_8) (L' := #[.val (.ref t), .val (.int ((0 : Int32))), .val (.int (Int32.ofNat e0)), .val (.int (Int32.ofNat e0)), .unset]) rfl (pc' := 9) rfl ?_
  refine own_iload_n X1.here hx (hb hby dRB_9) rfl (pc' := 10) rfl ?_
  obtain ⟨T3, h3, k3, X3, e3, E3, A3, st3⟩ := newP X1 hx hZ (hw _ (List.mem_of_getElem? (i := 15) rfl)) E1 (g := (mkF m 10 #[.val (.ref t), .val (.int ((0 : Int32))), .val (.int (Int32.ofNat e0)), .val (.int (Int32.ofNat e0)), .unset] [(.int (Int32.ofNat e0))])) rfl (hb hby dRB_10) rfl (own_nn (by omega)) (cap := 4) (by rw [own_tn (by omega)]; exact he) (by decide) (by decide) (by decide)
  obtain ⟨a3, g3⟩ : ∃ z, z = h0.size := ⟨_, rfl⟩
  rw [← g3] at A3 st3
  have ne4 : t ≠ a3 := Nat.ne_of_lt (by rw [g3]; exact sA.lt)
  have ge5 : h0.size ≤ a3 := by rw [g3]; exact M0.1
  have f6 := own_ext_trans M0 E3
  have f7 := sA.ext E3
  have V3 := (Arv.new A3 (own_nn (by omega))).pad (pad_rep [] (defaultValue (newarray.typeOf .byte)) (Int32.ofNat e0).toNatClampNeg)
  refine own_on st3 ?_
  show own_Go p e below F (T3.setTop (mkF m 12 #[.val (.ref t), .val (.int ((0 : Int32))), .val (.int (Int32.ofNat e0)), .val (.int (Int32.ofNat e0)), .unset] [(.ref a3)]))
  have gz_a3 : Z.heap.size ≤ a3 := Nat.le_trans EZ.1 ge5
  refine own_astore X3.here hx (hb hby dRB_12) rfl (L' := #[.val (.ref t), .val (.int ((0 : Int32))), .val (.int (Int32.ofNat e0)), .val (.int (Int32.ofNat e0)), .val (.ref a3)]) rfl (pc' := 14) rfl ?_
  refine own_aload_n X3.here hx (hb hby dRB_14) rfl rfl (pc' := 15) rfl ?_
  refine own_iload_n X3.here hx (hb hby dRB_15) rfl (pc' := 16) rfl ?_
  refine own_aload X3.here hx (hb hby dRB_16) rfl rfl (pc' := 18) rfl ?_
  refine own_iconst X3.here hx (hb hby dRB_18) (v := 0) rfl (pc' := 19) rfl ?_
  refine own_aload_n X3.here hx (hb hby dRB_19) rfl rfl (pc' := 20) rfl ?_
  refine own_alen X3 hx hZ e3 f7 (hb hby dRB_20) (pc' := 21) rfl ?_
  refine own_iload_n X3.here hx (hb hby dRB_21) rfl (pc' := 22) rfl ?_
  refine own_isub X3.here hx (hb hby dRB_22) (pc' := 23) rfl ?_
  refine own_iload_n X3.here hx (hb hby dRB_23) rfl (pc' := 24) rfl ?_
  rw [Int32.sub_zero]
  show own_Go p e below F (T3.setTop (mkF m 24 #[.val (.ref t), .val (.int ((0 : Int32))), .val (.int (Int32.ofNat e0)), .val (.int (Int32.ofNat e0)), .val (.ref a3)] [(.int (Int32.ofNat e0)), (.int (Int32.ofNat cs.length)), (.int ((0 : Int32))), (.ref a3), (.int ((0 : Int32))), (.ref t)]))
  obtain ⟨_, _, ⟨T8, L8, k8, n8⟩, -, X8, ⟨Lc8, hQ8, l8, y8, z8⟩, st8⟩ := Jvm.LawKit.callS X3 hx (y := (⟨"java/lang/Math", "min", "(II)I"⟩ : MethodName)) hown (mvT hZ (hw _ (List.mem_of_getElem? (i := 144) rfl))) (mvT hZ (hw _ (List.mem_of_getElem? (i := 145) rfl))) (mvT hZ (hw _ (List.mem_of_getElem? (i := 146) rfl))) (mvT hZ (hw _ (List.mem_of_getElem? (i := 147) rfl))) (by decide) (backOf (W := 4) (rmMi l Z a0 hw (Int32.ofNat cs.length) (Int32.ofNat e0) (Int32.ofNat e0) h3 (by rw [if_pos (own_ltN hn (by omega))])) hZ (hw _ (List.mem_of_getElem? (i := 147) rfl)) (hw _ (List.mem_of_getElem? (i := 146) rfl)) (by decide) (by decide)) (g := (mkF m 24 #[.val (.ref t), .val (.int ((0 : Int32))), .val (.int (Int32.ofNat e0)), .val (.int (Int32.ofNat e0)), .val (.ref a3)] [(.int (Int32.ofNat e0)), (.int (Int32.ofNat cs.length)), (.int ((0 : Int32))), (.ref a3), (.int ((0 : Int32))), (.ref t)])) rfl (by rw [hml]; rfl) (argsL := [(.int (Int32.ofNat cs.length)), (.int (Int32.ofNat e0))]) (rest := [(.int ((0 : Int32))), (.ref a3), (.int ((0 : Int32))), (.ref t)]) (lenOf pdII rfl) rfl (by show 2 * 0 + _ ≤ _; exact Nat.le_of_eq rfl) (hb hby dRB_24) (fun _ _ => ⟨rfl, e3, (Nat.le_of_ble_eq_true rfl), (Nat.le_of_ble_eq_true rfl)⟩)
  dsimp only [Pt.U, Pt.locs, Pt.cells, Pt.slots] at X8 l8 y8 z8 st8 hQ8
  subst l8 y8 z8
  obtain ⟨rfl, N8, E8⟩ := hQ8
  refine own_on (st8) ?_
  show own_Go p e below F (T8.setTop (mkF m 27 #[.val (.ref t), .val (.int ((0 : Int32))), .val (.int (Int32.ofNat e0)), .val (.int (Int32.ofNat e0)), .val (.ref a3)] [(.int (Int32.ofNat e0)), (.int ((0 : Int32))), (.ref a3), (.int ((0 : Int32))), (.ref t)]))
  have N9 := Fr.app N2 N8
  obtain ⟨T10, h10, L10, X10, e10, N10, K10, V10, st10⟩ := cpA X8 hx hZ hown (hw _ (List.mem_of_getElem? (i := 148) rfl)) (hw _ (List.mem_of_getElem? (i := 103) rfl)) (hw _ (List.mem_of_getElem? (i := 101) rfl)) (hw _ (List.mem_of_getElem? (i := 102) rfl)) E8 f7 V3 (us := (((cs.take e0).map fun c => c.toInt8.toInt32).map Value.int)) (Or.inl ⟨rfl, rfl⟩) (by decide) (by decide) (own_nn (by omega)) (by rw [own_tn (by omega), own_tn (by omega)]; show 0 + e0 ≤ _; omega) (by rw [own_tn (by omega)]; show 0 + e0 ≤ e0; omega) (by rw [own_tn (by omega)]; exact (own_takeB cs (by omega)).symm) (by rw [own_tn (by omega)]; simp) N9 gz_a3 (g := (mkF m 27 #[.val (.ref t), .val (.int ((0 : Int32))), .val (.int (Int32.ofNat e0)), .val (.int (Int32.ofNat e0)), .val (.ref a3)] [(.int (Int32.ofNat e0)), (.int ((0 : Int32))), (.ref a3), (.int ((0 : Int32))), (.ref t)])) rfl (by rw [hml]; rfl) rfl (hb hby dRB_27) (by decide) (W := 0) (by show 2 * 0 + _ ≤ _; exact Nat.le_of_eq rfl) (by decide)
  have f11 := own_ext_keep f6 K10 (fun y hy => by simp only [List.mem_cons, List.not_mem_nil, or_false] at hy; rcases hy with rfl <;> assumption)
  have f12 := f7.keep K10 (by simp only [List.mem_cons, List.not_mem_nil, or_false, not_or]; exact ne4)
  refine own_on st10 ?_
  show own_Go p e below F (T10.setTop (mkF m 30 #[.val (.ref t), .val (.int ((0 : Int32))), .val (.int (Int32.ofNat e0)), .val (.int (Int32.ofNat e0)), .val (.ref a3)] []))
  have V9 : Arv Z h10 a3 k3 .byte (Int32.ofNat e0) (((cs.take e0).map fun c => c.toInt8.toInt32).map Value.int) (.int 0) := by
    refine V10.pad fun i => ?_
    rw [own_tn (by omega)]
    simp
  refine own_aload X10.here hx (hb hby dRB_30) rfl rfl (pc' := 32) rfl ?_
  exact own_retA X10 hx hlk hret rfl rfl (hb hby dRB_32) (fun t ht hE => hF t _ _ _ _ (by rw [ht, (e10 : _ = h10)]; exact ⟨_, _, rfl, f11, N10, ge5, V9⟩) hE (by decide) (by decide))
theorem dCR_0 : decode jdk_65_method_132_code 0 = .ok (.iload_n 1, 1) := by decide +kernel
theorem dCR_1 : decode jdk_65_method_132_code 1 = .ok (.ifCond .ne 9, 3) := by decide +kernel
theorem dCR_4 : decode jdk_65_method_132_code 4 = .ok (.iload_n 2, 1) := by decide +kernel
theorem dCR_5 : decode jdk_65_method_132_code 5 = .ok (.aload_n 0, 1) := by decide +kernel
theorem dCR_6 : decode jdk_65_method_132_code 6 = .ok (.arraylength, 1) := by decide +kernel
theorem dCR_7 : decode jdk_65_method_132_code 7 = .ok (.if_icmp .eq 10, 3) := by decide +kernel
theorem dCR_10 : decode jdk_65_method_132_code 10 = .ok (.aload_n 0, 1) := by decide +kernel
theorem dCR_11 : decode jdk_65_method_132_code 11 = .ok (.iload_n 1, 1) := by decide +kernel
theorem dCR_12 : decode jdk_65_method_132_code 12 = .ok (.iload_n 2, 1) := by decide +kernel
theorem dCR_13 : decode jdk_65_method_132_code 13 = .ok (.invokestatic 339, 3) := by decide +kernel
theorem dCR_16 : decode jdk_65_method_132_code 16 = .ok (.areturn, 1) := by decide +kernel
theorem dCR_17 : decode jdk_65_method_132_code 17 = .ok (.aload_n 0, 1) := by decide +kernel
theorem dCR_18 : decode jdk_65_method_132_code 18 = .ok (.invokevirtual 310, 3) := by decide +kernel
theorem dCR_21 : decode jdk_65_method_132_code 21 = .ok (.checkcast 311, 3) := by decide +kernel
theorem dCR_24 : decode jdk_65_method_132_code 24 = .ok (.areturn, 1) := by decide +kernel
theorem efCR (m : MethodId) (x0 : Addr) (x1 : Int32) (x2 : Int32) : entryFrame m #[(.ref x0), (.int x1), (.int x2)] 3 = mkF m 0 #[.val (.ref x0), .val (.int x1), .val (.int x2)] [] := by first | (simp [entryFrame, mkF, argsToLocals, Value.category]; done) | rfl
def Q_rmCR (Z : State) (t : Addr) (kb : ClassId) (cs : List Int32) (e0 : Nat) (h0 : Heap) (v : Option Value) (h : Heap) (L : List Loc) : Prop := ∃ t1 k1, v = some (.ref t1) ∧ Ext h0 h ∧ Fr Z.heap.size L ∧ h0.size ≤ t1 ∧ Arv Z h t1 k1 .byte (Int32.ofNat e0) (((cs.take e0).map fun c => c.toInt8.toInt32).map Value.int) (.int 0)
set_option maxRecDepth 65536 in
set_option maxHeartbeats 40000000 in
theorem rmCR (l : Launch) (Z : State) (a0 : Array Value) (hw : ∀ d ∈ tables_1, d.before a0 Z = true) (t : Addr) (kb : ClassId) (cs : List Int32) (e0 : Nat) (h0 : Heap) (EZ : Ext Z.heap h0) (sA : Arv Z h0 t kb .byte (Int32.ofNat cs.length) ((cs.map fun c => c.toInt8.toInt32).map Value.int) (.int 0)) (hl : cs.length ≤ 4000) (he : e0 ≤ 4) (hn : e0 < cs.length) :
    MetFree l (⟨"java/util/Arrays", "copyOfRange", "([BII)[B"⟩ : MethodName) (head1 (Jvm.Cond.code (⟨"java/util/Arrays", "copyOfRange", "([BII)[B"⟩ : MethodName) jdk_65_method_132_code 3 (Option.some (FieldType.array FieldType.byte)) :: []) ({ frames := 2, cells := 1, slots := 4, locals := 76 } : Room)) (fun aa U => aa = #[(.ref t), (.int (0 : Int32)), (.int (Int32.ofNat e0))] ∧ Z.Warmed39 U.vm ∧ U.heap = h0) (fun _ _ _ _ _ => True) (fun _ U o U' => ∃ v L, o = .returned v ∧ (Q_rmCR Z t kb cs e0 h0) v U'.heap L ∧ FrameEnd U o U' L ({ frames := 2, cells := 1, slots := 4, locals := 76 } : Room).cells ({ frames := 2, cells := 1, slots := 4, locals := 76 } : Room).slots) := by
  refine own_walkN (by exact pnAR) ?_
  intro p e s m below meth c T0 X0 hx hby hml hret hlk hnm hown hZ e00 es0 F hF
  refine own_on (fun _ => castTop (efCR m t 0 _)) ?_
  have M0 := own_ext_refl h0
  have N0 := Fr.nil Z.heap.size
  refine own_iload_n X0.here hx (hb hby dCR_0) rfl (pc' := 1) rfl ?_
  refine own_ifne X0.here hx (hb hby dCR_1) (by decide) (pc' := 10) (by decide) (pc2 := 4) rfl (fun q => absurd rfl q) (fun q1 => ?_)
  refine own_iload_n X0.here hx (hb hby dCR_4) rfl (pc' := 5) rfl ?_
  refine own_aload_n X0.here hx (hb hby dCR_5) rfl rfl (pc' := 6) rfl ?_
  refine own_alen X0 hx hZ e00 sA (hb hby dCR_6) (pc' := 7) rfl ?_
  refine own_icmpeq X0.here hx (hb hby dCR_7) (by decide) (pc' := 17) (by decide) (pc2 := 10) rfl (fun q => absurd (own_inj (by omega) (by omega) q) (by omega)) (fun q2 => ?_)
  refine own_aload_n X0.here hx (hb hby dCR_10) rfl rfl (pc' := 11) rfl ?_
  refine own_iload_n X0.here hx (hb hby dCR_11) rfl (pc' := 12) rfl ?_
  refine own_iload_n X0.here hx (hb hby dCR_12) rfl (pc' := 13) rfl ?_
  obtain ⟨_, _, ⟨T3, L3, k3, n3⟩, -, X3, ⟨Lc3, hQ3, l3, y3, z3⟩, st3⟩ := Jvm.LawKit.callS X0 hx (y := (⟨"java/util/Arrays", "copyOfRangeByte", "([BII)[B"⟩ : MethodName)) hown (mvT hZ (hw _ (List.mem_of_getElem? (i := 138) rfl))) (mvT hZ (hw _ (List.mem_of_getElem? (i := 139) rfl))) (mvT hZ (hw _ (List.mem_of_getElem? (i := 136) rfl))) (mvT hZ (hw _ (List.mem_of_getElem? (i := 140) rfl))) (by decide) (backOf (W := 0) (rmRB l Z a0 hw t kb cs e0 h0 EZ sA hl he hn) hZ (hw _ (List.mem_of_getElem? (i := 140) rfl)) (hw _ (List.mem_of_getElem? (i := 136) rfl)) (by decide) (by decide)) (g := (mkF m 13 #[.val (.ref t), .val (.int ((0 : Int32))), .val (.int (Int32.ofNat e0))] [(.int (Int32.ofNat e0)), (.int ((0 : Int32))), (.ref t)])) rfl (by rw [hml]; rfl) (argsL := [(.ref t), (.int ((0 : Int32))), (.int (Int32.ofNat e0))]) (rest := []) (lenOf pdRB rfl) rfl (by show 2 * 0 + _ ≤ _; exact Nat.le_of_eq rfl) (hb hby dCR_13) (fun _ _ => ⟨rfl, e00, (Nat.le_of_ble_eq_true rfl), (Nat.le_of_ble_eq_true rfl)⟩)
  dsimp only [Pt.U, Pt.locs, Pt.cells, Pt.slots] at X3 l3 y3 z3 st3 hQ3
  subst l3 y3 z3
  obtain ⟨t3, k3b, rfl, E3, N3, g3, V3⟩ := hQ3
  refine own_on (st3) ?_
  show own_Go p e below F (T3.setTop (mkF m 16 #[.val (.ref t), .val (.int ((0 : Int32))), .val (.int (Int32.ofNat e0))] [(.ref t3)]))
  have f4 := own_ext_trans M0 E3
  have f5 := sA.ext E3
  have N6 := Fr.app N0 N3
  exact own_retA X3 hx hlk hret rfl rfl (hb hby dCR_16) (fun t ht hE => hF t _ _ _ _ (by rw [ht, (rfl : _ = T3.heap)]; exact ⟨_, _, rfl, f4, N6, g3, V3⟩) hE (by decide) (by decide))
theorem dCo_0 : decode jdk_42_method_152_code 0 = .ok (.getstatic 38, 3) := by decide +kernel
theorem dCo_3 : decode jdk_42_method_152_code 3 = .ok (.ifCond .eq 10, 3) := by decide +kernel
theorem dCo_6 : decode jdk_42_method_152_code 6 = .ok (.aload_n 0, 1) := by decide +kernel
theorem dCo_7 : decode jdk_42_method_152_code 7 = .ok (.getfield 15, 3) := by decide +kernel
theorem dCo_10 : decode jdk_42_method_152_code 10 = .ok (.goto 4, 3) := by decide +kernel
theorem dCo_13 : decode jdk_42_method_152_code 13 = .ok (.iconst 1, 1) := by decide +kernel
theorem dCo_14 : decode jdk_42_method_152_code 14 = .ok (.ireturn, 1) := by decide +kernel
theorem pdB : parseMethodDescriptor "()B" = some ⟨[], some .byte⟩ := by decide +kernel
def Q_rmCo (Z : State) (x : Addr) (cs : List Int32) (h0 : Heap) (z0 : Int32) (v : Option Value) (h : Heap) (L : List Loc) : Prop := v = some (.int (0 : Int32)) ∧ Fr Z.heap.size L ∧ h = h0
set_option maxRecDepth 65536 in
set_option maxHeartbeats 40000000 in
theorem rmCo (l : Launch) (Z : State) (a0 : Array Value) (hw : ∀ d ∈ tables_1, d.before a0 Z = true) (x : Addr) (cs : List Int32) (h0 : Heap) (EZ : Ext Z.heap h0) (z0 : Int32) (O1 : Sta Z Z.heap "java/lang/String" "COMPACT_STRINGS" "Z" (.int z0)) (P5 : ¬ z0 = 0) (S : own_Str Z h0 x cs) :
    MetFree l (⟨"java/lang/String", "coder", "()B"⟩ : MethodName) (head1 (Jvm.Cond.code (⟨"java/lang/String", "coder", "()B"⟩ : MethodName) jdk_42_method_152_code 1 (Option.some FieldType.byte) :: []) ({ frames := 0, cells := 0, slots := 0, locals := 0 } : Room)) (fun aa U => aa = #[(.ref x)] ∧ Z.Warmed39 U.vm ∧ U.heap = h0) (fun _ _ _ _ _ => True) (fun _ U o U' => ∃ v L, o = .returned v ∧ (Q_rmCo Z x cs h0 z0) v U'.heap L ∧ FrameEnd U o U' L ({ frames := 0, cells := 0, slots := 0, locals := 0 } : Room).cells ({ frames := 0, cells := 0, slots := 0, locals := 0 } : Room).slots) := by
  obtain ⟨t, kb, sE, sV, sC, sA, hp, hl⟩ := S
  refine own_walkN (by exact pnS) ?_
  intro p e s m below meth c T0 X0 hx hby hml hret hlk hnm hown hZ e0 es0 F hF
  refine own_on (fun _ => castTop (efR m x)) ?_
  obtain ⟨T1, X1, e1, st1⟩ := getS (host := "") X0 hx hZ hown (hw _ (List.mem_of_getElem? (i := 42) rfl)) Via.refl e0 (O1.ext EZ) (g := (mkF m 0 #[.val (.ref x)] [])) rfl (hb hby dCo_0)
  refine own_on st1 ?_
  show own_Go p e below F (T1.setTop (mkF m 3 #[.val (.ref x)] [(.int z0)]))
  refine own_ifeq X1.here hx (hb hby dCo_3) (by decide) (pc' := 13) (by decide) (pc2 := 6) rfl (fun q => absurd q P5) (fun q2 => ?_)
  refine own_aload_n X1.here hx (hb hby dCo_6) rfl rfl (pc' := 7) rfl ?_
  obtain ⟨T3, X3, e3, st3⟩ := getF X1 hx hZ hown (host := "") (Or.inl (hw _ (List.mem_of_getElem? (i := 21) rfl))) Via.refl e1 sC (g := (mkF m 7 #[.val (.ref x)] [(.ref x)])) rfl rfl (hb hby dCo_7)
  refine own_on st3 ?_
  show own_Go p e below F (T3.setTop (mkF m 10 #[.val (.ref x)] [(.int ((0 : Int32)))]))
  refine own_goto X3.here hx (hb hby dCo_10) (by decide) (pc' := 14) (by decide) ?_
  exact own_ret X3 hx hlk hret rfl (Or.inl ⟨rfl, Or.inr (Or.inr (Or.inl rfl)), _, rfl⟩) (hb hby dCo_14) (fun t ht hE => hF t _ _ _ _ (by rw [ht, (e3 : _ = h0)]; exact ⟨rfl, Fr.nil _, rfl⟩) hE (by decide) (by decide))
theorem dMM_0 : decode jdk_48_method_14_code 0 = .ok (.iconst 0, 1) := by decide +kernel
theorem dMM_1 : decode jdk_48_method_14_code 1 = .ok (.istore 5, 2) := by decide +kernel
theorem dMM_3 : decode jdk_48_method_14_code 3 = .ok (.iload 4, 2) := by decide +kernel
theorem dMM_5 : decode jdk_48_method_14_code 5 = .ok (.bipush 7, 2) := by decide +kernel
theorem dMM_7 : decode jdk_48_method_14_code 7 = .ok (.if_icmp .le 63, 3) := by decide +kernel
theorem dMM_10 : decode jdk_48_method_14_code 10 = .ok (.aload_n 0, 1) := by decide +kernel
theorem dMM_11 : decode jdk_48_method_14_code 11 = .ok (.iload_n 1, 1) := by decide +kernel
theorem dMM_12 : decode jdk_48_method_14_code 12 = .ok (.baload, 1) := by decide +kernel
theorem dMM_13 : decode jdk_48_method_14_code 13 = .ok (.aload_n 2, 1) := by decide +kernel
theorem dMM_14 : decode jdk_48_method_14_code 14 = .ok (.iload_n 3, 1) := by decide +kernel
theorem dMM_15 : decode jdk_48_method_14_code 15 = .ok (.baload, 1) := by decide +kernel
theorem dMM_16 : decode jdk_48_method_14_code 16 = .ok (.if_icmp .eq 5, 3) := by decide +kernel
theorem dMM_19 : decode jdk_48_method_14_code 19 = .ok (.iconst 0, 1) := by decide +kernel
theorem dMM_20 : decode jdk_48_method_14_code 20 = .ok (.ireturn, 1) := by decide +kernel
theorem dMM_21 : decode jdk_48_method_14_code 21 = .ok (.getstatic 126, 3) := by decide +kernel
theorem dMM_24 : decode jdk_48_method_14_code 24 = .ok (.iload_n 1, 1) := by decide +kernel
theorem dMM_25 : decode jdk_48_method_14_code 25 = .ok (.iadd, 1) := by decide +kernel
theorem dMM_26 : decode jdk_48_method_14_code 26 = .ok (.istore 6, 2) := by decide +kernel
theorem dMM_28 : decode jdk_48_method_14_code 28 = .ok (.getstatic 126, 3) := by decide +kernel
theorem dMM_31 : decode jdk_48_method_14_code 31 = .ok (.iload_n 3, 1) := by decide +kernel
theorem dMM_32 : decode jdk_48_method_14_code 32 = .ok (.iadd, 1) := by decide +kernel
theorem dMM_33 : decode jdk_48_method_14_code 33 = .ok (.istore 7, 2) := by decide +kernel
theorem dMM_35 : decode jdk_48_method_14_code 35 = .ok (.aload_n 0, 1) := by decide +kernel
theorem dMM_36 : decode jdk_48_method_14_code 36 = .ok (.iload 6, 2) := by decide +kernel
theorem dMM_38 : decode jdk_48_method_14_code 38 = .ok (.i2l, 1) := by decide +kernel
theorem dMM_39 : decode jdk_48_method_14_code 39 = .ok (.aload_n 2, 1) := by decide +kernel
theorem dMM_40 : decode jdk_48_method_14_code 40 = .ok (.iload 7, 2) := by decide +kernel
theorem dMM_42 : decode jdk_48_method_14_code 42 = .ok (.i2l, 1) := by decide +kernel
theorem dMM_43 : decode jdk_48_method_14_code 43 = .ok (.iload 4, 2) := by decide +kernel
theorem dMM_45 : decode jdk_48_method_14_code 45 = .ok (.getstatic 129, 3) := by decide +kernel
theorem dMM_48 : decode jdk_48_method_14_code 48 = .ok (.invokestatic 122, 3) := by decide +kernel
theorem dMM_51 : decode jdk_48_method_14_code 51 = .ok (.istore 5, 2) := by decide +kernel
theorem dMM_53 : decode jdk_48_method_14_code 53 = .ok (.iload 5, 2) := by decide +kernel
theorem dMM_55 : decode jdk_48_method_14_code 55 = .ok (.ifCond .lt 6, 3) := by decide +kernel
theorem dMM_58 : decode jdk_48_method_14_code 58 = .ok (.iload 5, 2) := by decide +kernel
theorem dMM_60 : decode jdk_48_method_14_code 60 = .ok (.ireturn, 1) := by decide +kernel
theorem dMM_61 : decode jdk_48_method_14_code 61 = .ok (.iload 4, 2) := by decide +kernel
theorem dMM_63 : decode jdk_48_method_14_code 63 = .ok (.iload 5, 2) := by decide +kernel
theorem dMM_65 : decode jdk_48_method_14_code 65 = .ok (.iconst (-1), 1) := by decide +kernel
theorem dMM_66 : decode jdk_48_method_14_code 66 = .ok (.ixor, 1) := by decide +kernel
theorem dMM_67 : decode jdk_48_method_14_code 67 = .ok (.isub, 1) := by decide +kernel
theorem dMM_68 : decode jdk_48_method_14_code 68 = .ok (.istore 5, 2) := by decide +kernel
theorem dMM_70 : decode jdk_48_method_14_code 70 = .ok (.iload 5, 2) := by decide +kernel
theorem dMM_72 : decode jdk_48_method_14_code 72 = .ok (.iload 4, 2) := by decide +kernel
theorem dMM_74 : decode jdk_48_method_14_code 74 = .ok (.if_icmp .ge 27, 3) := by decide +kernel
theorem dMM_77 : decode jdk_48_method_14_code 77 = .ok (.aload_n 0, 1) := by decide +kernel
theorem dMM_78 : decode jdk_48_method_14_code 78 = .ok (.iload_n 1, 1) := by decide +kernel
theorem dMM_79 : decode jdk_48_method_14_code 79 = .ok (.iload 5, 2) := by decide +kernel
theorem dMM_81 : decode jdk_48_method_14_code 81 = .ok (.iadd, 1) := by decide +kernel
theorem dMM_82 : decode jdk_48_method_14_code 82 = .ok (.baload, 1) := by decide +kernel
theorem dMM_83 : decode jdk_48_method_14_code 83 = .ok (.aload_n 2, 1) := by decide +kernel
theorem dMM_84 : decode jdk_48_method_14_code 84 = .ok (.iload_n 3, 1) := by decide +kernel
theorem dMM_85 : decode jdk_48_method_14_code 85 = .ok (.iload 5, 2) := by decide +kernel
theorem dMM_87 : decode jdk_48_method_14_code 87 = .ok (.iadd, 1) := by decide +kernel
theorem dMM_88 : decode jdk_48_method_14_code 88 = .ok (.baload, 1) := by decide +kernel
theorem dMM_89 : decode jdk_48_method_14_code 89 = .ok (.if_icmp .eq 6, 3) := by decide +kernel
theorem dMM_92 : decode jdk_48_method_14_code 92 = .ok (.iload 5, 2) := by decide +kernel
theorem dMM_94 : decode jdk_48_method_14_code 94 = .ok (.ireturn, 1) := by decide +kernel
theorem dMM_95 : decode jdk_48_method_14_code 95 = .ok (.iinc 5 1, 3) := by decide +kernel
theorem dMM_98 : decode jdk_48_method_14_code 98 = .ok (.goto (-28), 3) := by decide +kernel
theorem dMM_101 : decode jdk_48_method_14_code 101 = .ok (.iconst (-1), 1) := by decide +kernel
theorem dMM_102 : decode jdk_48_method_14_code 102 = .ok (.ireturn, 1) := by decide +kernel
theorem pdMM : parseMethodDescriptor "([BI[BII)I" = some ⟨[.array .byte, .int, .array .byte, .int, .int], some .int⟩ := by decide +kernel
theorem pnAS : plainName "jdk/internal/util/ArraysSupport" = true := by first | (simp [plainName, overriddenIn]; done) | decide +kernel
theorem efMM (m : MethodId) (x0 : Addr) (x1 : Int32) (x2 : Addr) (x3 : Int32) (x4 : Int32) : entryFrame m #[(.ref x0), (.int x1), (.ref x2), (.int x3), (.int x4)] 8 = mkF m 0 #[.val (.ref x0), .val (.int x1), .val (.ref x2), .val (.int x3), .val (.int x4), .unset, .unset, .unset] [] := by first | (simp [entryFrame, mkF, argsToLocals, Value.category]; done) | rfl
def Q_rmMM (Z : State) (t u : Addr) (kb kc : ClassId) (cs : List Int32) (k0 : Nat) (h0 : Heap) (v : Option Value) (h : Heap) (L : List Loc) : Prop := v = some (.int (if cs.getD k0 0 = 47 then (-1 : Int32) else 0)) ∧ Fr Z.heap.size L ∧ h = h0
set_option maxRecDepth 65536 in
set_option maxHeartbeats 40000000 in
theorem rmMM (l : Launch) (Z : State) (a0 : Array Value) (hw : ∀ d ∈ tables_1, d.before a0 Z = true) (t u : Addr) (kb kc : ClassId) (cs : List Int32) (k0 : Nat) (h0 : Heap) (sA : Arv Z h0 t kb .byte (Int32.ofNat cs.length) (own_B cs) (.int 0)) (sB : Arv Z h0 u kc .byte (Int32.ofNat 1) (own_B [47]) (.int 0)) (hp : ∀ c ∈ cs, ¬ c < 0 ∧ ¬ (255 : Int32) < c) (hl : cs.length ≤ 4000) (hk : k0 < cs.length) :
    MetFree l (⟨"jdk/internal/util/ArraysSupport", "mismatch", "([BI[BII)I"⟩ : MethodName) (head1 (Jvm.Cond.code (⟨"jdk/internal/util/ArraysSupport", "mismatch", "([BI[BII)I"⟩ : MethodName) jdk_48_method_14_code 8 (Option.some FieldType.int) :: []) ({ frames := 0, cells := 0, slots := 0, locals := 0 } : Room)) (fun aa U => aa = #[(.ref t), (.int (Int32.ofNat k0)), (.ref u), (.int (0 : Int32)), (.int (1 : Int32))] ∧ Z.Warmed39 U.vm ∧ U.heap = h0) (fun _ _ _ _ _ => True) (fun _ U o U' => ∃ v L, o = .returned v ∧ (Q_rmMM Z t u kb kc cs k0 h0) v U'.heap L ∧ FrameEnd U o U' L ({ frames := 0, cells := 0, slots := 0, locals := 0 } : Room).cells ({ frames := 0, cells := 0, slots := 0, locals := 0 } : Room).slots) := by
  refine own_walkN (by exact pnAS) ?_
  intro p e s m below meth c T0 X0 hx hby hml hret hlk hnm hown hZ e0 es0 F hF
  refine own_on (fun _ => castTop (efMM m t _ u 0 1)) ?_
  refine own_iconst X0.here hx (hb hby dMM_0) (v := 0) rfl (pc' := 1) rfl ?_
  refine own_istore X0.here hx (hb hby dMM_1) (L' := #[.val (.ref t), .val (.int (Int32.ofNat k0)), .val (.ref u), .val (.int ((0 : Int32))), .val (.int ((1 : Int32))), .val (.int ((0 : Int32))), .unset, .unset]) rfl (pc' := 3) rfl ?_
  refine own_iload X0.here hx (hb hby dMM_3) rfl (pc' := 5) rfl ?_
  refine own_bipush X0.here hx (hb hby dMM_5) (v := 7) rfl (pc' := 7) rfl ?_
  refine own_icmple X0.here hx (hb hby dMM_7) (by decide) (pc' := 70) (by decide) (pc2 := 10) rfl (fun q1 => ?_) (fun q => absurd q (by decide))
  refine own_iload X0.here hx (hb hby dMM_70) rfl (pc' := 72) rfl ?_
  refine own_iload X0.here hx (hb hby dMM_72) rfl (pc' := 74) rfl ?_
  refine own_icmpge X0.here hx (hb hby dMM_74) (by decide) (pc' := 101) (by decide) (pc2 := 77) rfl (fun q => absurd (by decide) q) (fun q2 => ?_)
  refine own_aload_n X0.here hx (hb hby dMM_77) rfl rfl (pc' := 78) rfl ?_
  refine own_iload_n X0.here hx (hb hby dMM_78) rfl (pc' := 79) rfl ?_
  refine own_iload X0.here hx (hb hby dMM_79) rfl (pc' := 81) rfl ?_
  refine own_iadd X0.here hx (hb hby dMM_81) (pc' := 82) rfl ?_
  rw [Int32.add_zero]
  show own_Go p e below F (T0.setTop (mkF m 82 #[.val (.ref t), .val (.int (Int32.ofNat k0)), .val (.ref u), .val (.int ((0 : Int32))), .val (.int ((1 : Int32))), .val (.int ((0 : Int32))), .unset, .unset] [(.int (Int32.ofNat k0)), (.ref t)]))
  refine own_baload X0 hx hZ e0 sA (w := (cs.getD k0 0).toInt8.toInt32) ⟨own_nn (by omega), own_ltN (by omega) (by omega)⟩ (by rw [own_tn (by omega)]; exact own_bget cs (by omega)) (hb hby dMM_82) (pc' := 83) rfl ?_
  refine own_aload_n X0.here hx (hb hby dMM_83) rfl rfl (pc' := 84) rfl ?_
  refine own_iload_n X0.here hx (hb hby dMM_84) rfl (pc' := 85) rfl ?_
  refine own_iload X0.here hx (hb hby dMM_85) rfl (pc' := 87) rfl ?_
  refine own_iadd X0.here hx (hb hby dMM_87) (pc' := 88) rfl ?_
  rw [Int32.add_zero]
  show own_Go p e below F (T0.setTop (mkF m 88 #[.val (.ref t), .val (.int (Int32.ofNat k0)), .val (.ref u), .val (.int ((0 : Int32))), .val (.int ((1 : Int32))), .val (.int ((0 : Int32))), .unset, .unset] [(.int ((0 : Int32))), (.ref u), (.int ((cs.getD k0 0).toInt8.toInt32))]))
  refine own_baload X0 hx hZ e0 sB (w := (47 : Int32).toInt8.toInt32) (by decide) rfl (hb hby dMM_88) (pc' := 89) rfl ?_
  refine own_icmpeq X0.here hx (hb hby dMM_89) (by decide) (pc' := 95) (by decide) (pc2 := 92) rfl (fun q1 => ?_) (fun q1 => ?_)
  · refine own_iinc X0.here hx (hb hby dMM_95) rfl (y := (0 : Int32) + 1) rfl (L' := #[.val (.ref t), .val (.int (Int32.ofNat k0)), .val (.ref u), .val (.int ((0 : Int32))), .val (.int ((1 : Int32))), .val (.int ((0 : Int32) + 1)), .unset, .unset]) rfl (pc' := 98) rfl ?_
    refine own_goto X0.here hx (hb hby dMM_98) (by decide) (pc' := 70) (by decide) ?_
    rw [(by decide : (0 : Int32) + 1 = 1)]
    show own_Go p e below F (T0.setTop (mkF m 70 #[.val (.ref t), .val (.int (Int32.ofNat k0)), .val (.ref u), .val (.int ((0 : Int32))), .val (.int ((1 : Int32))), .val (.int ((1 : Int32))), .unset, .unset] []))
    refine own_iload X0.here hx (hb hby dMM_70) rfl (pc' := 72) rfl ?_
    refine own_iload X0.here hx (hb hby dMM_72) rfl (pc' := 74) rfl ?_
    refine own_icmpge X0.here hx (hb hby dMM_74) (by decide) (pc' := 101) (by decide) (pc2 := 77) rfl (fun q3 => ?_) (fun q => absurd q (by decide))
    refine own_iconst X0.here hx (hb hby dMM_101) (v := (-1)) rfl (pc' := 102) rfl ?_
    exact own_retI X0 hx hlk hret (hb hby dMM_102) (fun t ht hE => hF t _ _ _ _ (by rw [ht, (e0 : _ = h0)]; exact ⟨by rw [if_pos (own_b (hp _ (own_mem (by omega))).1 (hp _ (own_mem (by omega))).2 (by decide) (by decide) q1)], Fr.nil _, rfl⟩) hE (by decide) (by decide))
  · refine own_iload X0.here hx (hb hby dMM_92) rfl (pc' := 94) rfl ?_
    exact own_retI X0 hx hlk hret (hb hby dMM_94) (fun t ht hE => hF t _ _ _ _ (by rw [ht, (e0 : _ = h0)]; exact ⟨by rw [if_neg (fun z => q1 (by rw [z]))], Fr.nil _, rfl⟩) hE (by decide) (by decide))
theorem dSW_0 : decode jdk_42_method_75_code 0 = .ok (.iload_n 2, 1) := by decide +kernel
theorem dSW_1 : decode jdk_42_method_75_code 1 = .ok (.ifCond .lt 16, 3) := by decide +kernel
theorem dSW_4 : decode jdk_42_method_75_code 4 = .ok (.iload_n 2, 1) := by decide +kernel
theorem dSW_5 : decode jdk_42_method_75_code 5 = .ok (.aload_n 0, 1) := by decide +kernel
theorem dSW_6 : decode jdk_42_method_75_code 6 = .ok (.invokevirtual 505, 3) := by decide +kernel
theorem dSW_9 : decode jdk_42_method_75_code 9 = .ok (.aload_n 1, 1) := by decide +kernel
theorem dSW_10 : decode jdk_42_method_75_code 10 = .ok (.invokevirtual 505, 3) := by decide +kernel
theorem dSW_13 : decode jdk_42_method_75_code 13 = .ok (.isub, 1) := by decide +kernel
theorem dSW_14 : decode jdk_42_method_75_code 14 = .ok (.if_icmp .le 5, 3) := by decide +kernel
theorem dSW_17 : decode jdk_42_method_75_code 17 = .ok (.iconst 0, 1) := by decide +kernel
theorem dSW_18 : decode jdk_42_method_75_code 18 = .ok (.ireturn, 1) := by decide +kernel
theorem dSW_19 : decode jdk_42_method_75_code 19 = .ok (.aload_n 0, 1) := by decide +kernel
theorem dSW_20 : decode jdk_42_method_75_code 20 = .ok (.getfield 9, 3) := by decide +kernel
theorem dSW_23 : decode jdk_42_method_75_code 23 = .ok (.astore_n 3, 1) := by decide +kernel
theorem dSW_24 : decode jdk_42_method_75_code 24 = .ok (.aload_n 1, 1) := by decide +kernel
theorem dSW_25 : decode jdk_42_method_75_code 25 = .ok (.getfield 9, 3) := by decide +kernel
theorem dSW_28 : decode jdk_42_method_75_code 28 = .ok (.astore 4, 2) := by decide +kernel
theorem dSW_30 : decode jdk_42_method_75_code 30 = .ok (.iconst 0, 1) := by decide +kernel
theorem dSW_31 : decode jdk_42_method_75_code 31 = .ok (.istore 5, 2) := by decide +kernel
theorem dSW_33 : decode jdk_42_method_75_code 33 = .ok (.aload 4, 2) := by decide +kernel
theorem dSW_35 : decode jdk_42_method_75_code 35 = .ok (.arraylength, 1) := by decide +kernel
theorem dSW_36 : decode jdk_42_method_75_code 36 = .ok (.istore 6, 2) := by decide +kernel
theorem dSW_38 : decode jdk_42_method_75_code 38 = .ok (.aload_n 0, 1) := by decide +kernel
theorem dSW_39 : decode jdk_42_method_75_code 39 = .ok (.invokevirtual 335, 3) := by decide +kernel
theorem dSW_42 : decode jdk_42_method_75_code 42 = .ok (.istore 7, 2) := by decide +kernel
theorem dSW_44 : decode jdk_42_method_75_code 44 = .ok (.iload 7, 2) := by decide +kernel
theorem dSW_46 : decode jdk_42_method_75_code 46 = .ok (.aload_n 1, 1) := by decide +kernel
theorem dSW_47 : decode jdk_42_method_75_code 47 = .ok (.invokevirtual 335, 3) := by decide +kernel
theorem dSW_50 : decode jdk_42_method_75_code 50 = .ok (.if_icmp .ne 32, 3) := by decide +kernel
theorem dSW_53 : decode jdk_42_method_75_code 53 = .ok (.iload 7, 2) := by decide +kernel
theorem dSW_55 : decode jdk_42_method_75_code 55 = .ok (.iconst 1, 1) := by decide +kernel
theorem dSW_56 : decode jdk_42_method_75_code 56 = .ok (.if_icmp .ne 7, 3) := by decide +kernel
theorem dSW_59 : decode jdk_42_method_75_code 59 = .ok (.iload_n 2, 1) := by decide +kernel
theorem dSW_60 : decode jdk_42_method_75_code 60 = .ok (.iconst 1, 1) := by decide +kernel
theorem dSW_61 : decode jdk_42_method_75_code 61 = .ok (.ishl, 1) := by decide +kernel
theorem dSW_62 : decode jdk_42_method_75_code 62 = .ok (.istore_n 2, 1) := by decide +kernel
theorem dSW_63 : decode jdk_42_method_75_code 63 = .ok (.aload_n 3, 1) := by decide +kernel
theorem dSW_64 : decode jdk_42_method_75_code 64 = .ok (.iload_n 2, 1) := by decide +kernel
theorem dSW_65 : decode jdk_42_method_75_code 65 = .ok (.aload 4, 2) := by decide +kernel
theorem dSW_67 : decode jdk_42_method_75_code 67 = .ok (.iconst 0, 1) := by decide +kernel
theorem dSW_68 : decode jdk_42_method_75_code 68 = .ok (.iload 6, 2) := by decide +kernel
theorem dSW_70 : decode jdk_42_method_75_code 70 = .ok (.invokestatic 607, 3) := by decide +kernel
theorem dSW_73 : decode jdk_42_method_75_code 73 = .ok (.ifCond .ge 7, 3) := by decide +kernel
theorem dSW_76 : decode jdk_42_method_75_code 76 = .ok (.iconst 1, 1) := by decide +kernel
theorem dSW_77 : decode jdk_42_method_75_code 77 = .ok (.goto 4, 3) := by decide +kernel
theorem dSW_80 : decode jdk_42_method_75_code 80 = .ok (.iconst 0, 1) := by decide +kernel
theorem dSW_81 : decode jdk_42_method_75_code 81 = .ok (.ireturn, 1) := by decide +kernel
theorem dSW_82 : decode jdk_42_method_75_code 82 = .ok (.iload 7, 2) := by decide +kernel
theorem dSW_84 : decode jdk_42_method_75_code 84 = .ok (.ifCond .ne 5, 3) := by decide +kernel
theorem dSW_87 : decode jdk_42_method_75_code 87 = .ok (.iconst 0, 1) := by decide +kernel
theorem dSW_88 : decode jdk_42_method_75_code 88 = .ok (.ireturn, 1) := by decide +kernel
theorem dSW_89 : decode jdk_42_method_75_code 89 = .ok (.iload 5, 2) := by decide +kernel
theorem dSW_91 : decode jdk_42_method_75_code 91 = .ok (.iload 6, 2) := by decide +kernel
theorem dSW_93 : decode jdk_42_method_75_code 93 = .ok (.if_icmp .ge 28, 3) := by decide +kernel
theorem dSW_96 : decode jdk_42_method_75_code 96 = .ok (.aload_n 3, 1) := by decide +kernel
theorem dSW_97 : decode jdk_42_method_75_code 97 = .ok (.iload_n 2, 1) := by decide +kernel
theorem dSW_98 : decode jdk_42_method_75_code 98 = .ok (.iinc 2 1, 3) := by decide +kernel
theorem dSW_101 : decode jdk_42_method_75_code 101 = .ok (.invokestatic 360, 3) := by decide +kernel
theorem dSW_104 : decode jdk_42_method_75_code 104 = .ok (.aload 4, 2) := by decide +kernel
theorem dSW_106 : decode jdk_42_method_75_code 106 = .ok (.iload 5, 2) := by decide +kernel
theorem dSW_108 : decode jdk_42_method_75_code 108 = .ok (.iinc 5 1, 3) := by decide +kernel
theorem dSW_111 : decode jdk_42_method_75_code 111 = .ok (.baload, 1) := by decide +kernel
theorem dSW_112 : decode jdk_42_method_75_code 112 = .ok (.sipush 255, 3) := by decide +kernel
theorem dSW_115 : decode jdk_42_method_75_code 115 = .ok (.iand, 1) := by decide +kernel
theorem dSW_116 : decode jdk_42_method_75_code 116 = .ok (.if_icmp .eq (-27), 3) := by decide +kernel
theorem dSW_119 : decode jdk_42_method_75_code 119 = .ok (.iconst 0, 1) := by decide +kernel
theorem dSW_120 : decode jdk_42_method_75_code 120 = .ok (.ireturn, 1) := by decide +kernel
theorem dSW_121 : decode jdk_42_method_75_code 121 = .ok (.iconst 1, 1) := by decide +kernel
theorem dSW_122 : decode jdk_42_method_75_code 122 = .ok (.ireturn, 1) := by decide +kernel
theorem pdSW : parseMethodDescriptor "(Ljava/lang/String;I)Z" = some ⟨[.object "java/lang/String", .int], some .boolean⟩ := by decide +kernel
theorem efSW (m : MethodId) (x0 : Addr) (x1 : Addr) (x2 : Int32) : entryFrame m #[(.ref x0), (.ref x1), (.int x2)] 8 = mkF m 0 #[.val (.ref x0), .val (.ref x1), .val (.int x2), .unset, .unset, .unset, .unset, .unset] [] := by first | (simp [entryFrame, mkF, argsToLocals, Value.category]; done) | rfl
def Q_rmWA (Z : State) (x y : Addr) (h0 : Heap) (v : Option Value) (h : Heap) (L : List Loc) : Prop := v = some (.int (0 : Int32)) ∧ Fr Z.heap.size L ∧ h = h0
set_option maxRecDepth 65536 in
set_option maxHeartbeats 40000000 in
theorem rmWA (l : Launch) (Z : State) (a0 : Array Value) (hw : ∀ d ∈ tables_1, d.before a0 Z = true) (x y : Addr) (h0 : Heap) :
    MetFree l (⟨"java/lang/String", "startsWith", "(Ljava/lang/String;I)Z"⟩ : MethodName) (head1 (Jvm.Cond.code (⟨"java/lang/String", "startsWith", "(Ljava/lang/String;I)Z"⟩ : MethodName) jdk_42_method_75_code 8 (Option.some FieldType.boolean) :: []) ({ frames := 0, cells := 0, slots := 0, locals := 0 } : Room)) (fun aa U => aa = #[(.ref x), (.ref y), (.int (-1 : Int32))] ∧ Z.Warmed39 U.vm ∧ U.heap = h0) (fun _ _ _ _ _ => True) (fun _ U o U' => ∃ v L, o = .returned v ∧ (Q_rmWA Z x y h0) v U'.heap L ∧ FrameEnd U o U' L ({ frames := 0, cells := 0, slots := 0, locals := 0 } : Room).cells ({ frames := 0, cells := 0, slots := 0, locals := 0 } : Room).slots) := by
  refine own_walkN (by exact pnS) ?_
  intro p e s m below meth c T0 X0 hx hby hml hret hlk hnm hown hZ e0 es0 F hF
  refine own_on (fun _ => castTop (efSW m x y _)) ?_
  refine own_iload_n X0.here hx (hb hby dSW_0) rfl (pc' := 1) rfl ?_
  refine own_iflt X0.here hx (hb hby dSW_1) (by decide) (pc' := 17) (by decide) (pc2 := 4) rfl (fun q1 => ?_) (fun q => absurd (by decide) q)
  refine own_iconst X0.here hx (hb hby dSW_17) (v := 0) rfl (pc' := 18) rfl ?_
  exact own_retZ X0 hx hlk (by decide) hret (hb hby dSW_18) (fun t ht hE => hF t _ _ _ _ (by rw [ht, (e0 : _ = h0)]; exact ⟨rfl, Fr.nil _, rfl⟩) hE (by decide) (by decide))
def Q_rmWB (Z : State) (x y : Addr) (cs : List Int32) (k0 : Nat) (h0 : Heap) (z0 : Int32) (v : Option Value) (h : Heap) (L : List Loc) : Prop := v = some (.int (if cs.getD k0 0 = 47 then (1 : Int32) else 0)) ∧ Fr Z.heap.size L ∧ h = h0
set_option maxRecDepth 65536 in
set_option maxHeartbeats 40000000 in
theorem rmWB (l : Launch) (Z : State) (a0 : Array Value) (hw : ∀ d ∈ tables_1, d.before a0 Z = true) (x y : Addr) (cs : List Int32) (k0 : Nat) (h0 : Heap) (EZ : Ext Z.heap h0) (z0 : Int32) (O1 : Sta Z Z.heap "java/lang/String" "COMPACT_STRINGS" "Z" (.int z0)) (P5 : ¬ z0 = 0) (S : own_Str Z h0 x cs) (S2 : own_Str Z h0 y [47]) (hk : cs.length = k0 + 1) :
    MetFree l (⟨"java/lang/String", "startsWith", "(Ljava/lang/String;I)Z"⟩ : MethodName) (head1 (Jvm.Cond.code (⟨"java/lang/String", "startsWith", "(Ljava/lang/String;I)Z"⟩ : MethodName) jdk_42_method_75_code 8 (Option.some FieldType.boolean) :: []) ({ frames := 2, cells := 0, slots := 0, locals := 31 } : Room)) (fun aa U => aa = #[(.ref x), (.ref y), (.int (Int32.ofNat k0))] ∧ Z.Warmed39 U.vm ∧ U.heap = h0) (fun _ _ _ _ _ => True) (fun _ U o U' => ∃ v L, o = .returned v ∧ (Q_rmWB Z x y cs k0 h0 z0) v U'.heap L ∧ FrameEnd U o U' L ({ frames := 2, cells := 0, slots := 0, locals := 31 } : Room).cells ({ frames := 2, cells := 0, slots := 0, locals := 31 } : Room).slots) := by
  have S1 := S
  have S3 := S2
  obtain ⟨t, kb, sE, sV, sC, sA, hp, hl⟩ := S
  obtain ⟨u, kc, uE, uV, uC, uA, -, -⟩ := S2
  refine own_walkN (by exact pnS) ?_
  intro p e s m below meth c T0 X0 hx hby hml hret hlk hnm hown hZ e0 es0 F hF
  refine own_on (fun _ => castTop (efSW m x y _)) ?_
  have N0 := Fr.nil Z.heap.size
  refine own_iload_n X0.here hx (hb hby dSW_0) rfl (pc' := 1) rfl ?_
  refine own_iflt X0.here hx (hb hby dSW_1) (by decide) (pc' := 17) (by decide) (pc2 := 4) rfl (fun q => absurd q (own_nn (by omega))) (fun q1 => ?_)
  refine own_iload_n X0.here hx (hb hby dSW_4) rfl (pc' := 5) rfl ?_
  refine own_aload_n X0.here hx (hb hby dSW_5) rfl rfl (pc' := 6) rfl ?_
  obtain ⟨cq2, kq2, qa2, qb2, qc2⟩ := isOf hZ e0 sE
  obtain ⟨_, _, ⟨T2, L2, k2, n2⟩, -, X2, ⟨Lc2, hQ2, l2, y2, z2⟩, st2⟩ := X0.virtualBack hx (y := (⟨"java/lang/String", "length", "()I"⟩ : MethodName)) (z := (⟨"java/lang/String", "length", "()I"⟩ : MethodName)) hown (mvT hZ (hw _ (List.mem_of_getElem? (i := 32) rfl))) (mvT hZ (hw _ (List.mem_of_getElem? (i := 33) rfl))) (notFace_of_selects (args := #[]) (mvT hZ (hw _ (List.mem_of_getElem? (i := 35) rfl)))) (mvT hZ (hw _ (List.mem_of_getElem? (i := 35) rfl))) (mvT hZ (hw _ (List.mem_of_getElem? (i := 34) rfl))) (by decide) (own_lenB (s := s) (W := 1) hZ hw S1 (O1.ext EZ) P5 (by decide) (by decide)) qa2 qc2 (g := (mkF m 6 #[.val (.ref x), .val (.ref y), .val (.int (Int32.ofNat k0)), .unset, .unset, .unset, .unset, .unset] [(.ref x), (.int (Int32.ofNat k0))])) rfl (by rw [hml]; rfl) (Steps.refl _) (argsL := []) (rest := [(.int (Int32.ofNat k0))]) (lenOf pdI rfl) rfl (by show 2 * 0 + _ ≤ _; exact Nat.le_of_eq rfl) (hb hby dSW_6) (fun _ _ => ⟨rfl, e0, (Nat.le_of_ble_eq_true rfl), (Nat.le_of_ble_eq_true rfl)⟩)
  dsimp only [Pt.U, Pt.locs, Pt.cells, Pt.slots] at X2 l2 y2 z2 st2 hQ2
  subst l2 y2 z2
  obtain ⟨rfl, rfl, E2⟩ := hQ2
  refine own_to st2 ?_
  show own_Go p e below F (T2.setTop (mkF m 9 #[.val (.ref x), .val (.ref y), .val (.int (Int32.ofNat k0)), .unset, .unset, .unset, .unset, .unset] [(.int (Int32.ofNat cs.length)), (.int (Int32.ofNat k0))]))
  refine own_aload_n X2.here hx (hb hby dSW_9) rfl rfl (pc' := 10) rfl ?_
  obtain ⟨cq3, kq3, qa3, qb3, qc3⟩ := isOf hZ E2 uE
  obtain ⟨_, _, ⟨T3, L3, k3, n3⟩, -, X3, ⟨Lc3, hQ3, l3, y3, z3⟩, st3⟩ := X2.virtualBack hx (y := (⟨"java/lang/String", "length", "()I"⟩ : MethodName)) (z := (⟨"java/lang/String", "length", "()I"⟩ : MethodName)) hown (mvT hZ (hw _ (List.mem_of_getElem? (i := 32) rfl))) (mvT hZ (hw _ (List.mem_of_getElem? (i := 33) rfl))) (notFace_of_selects (args := #[]) (mvT hZ (hw _ (List.mem_of_getElem? (i := 35) rfl)))) (mvT hZ (hw _ (List.mem_of_getElem? (i := 35) rfl))) (mvT hZ (hw _ (List.mem_of_getElem? (i := 34) rfl))) (by decide) (own_lenB (s := s) (W := 2) hZ hw S3 (O1.ext EZ) P5 (by decide) (by decide)) qa3 qc3 (g := (mkF m 10 #[.val (.ref x), .val (.ref y), .val (.int (Int32.ofNat k0)), .unset, .unset, .unset, .unset, .unset] [(.ref y), (.int (Int32.ofNat cs.length)), (.int (Int32.ofNat k0))])) rfl (by rw [hml]; rfl) (Steps.refl _) (argsL := []) (rest := [(.int (Int32.ofNat cs.length)), (.int (Int32.ofNat k0))]) (lenOf pdI rfl) rfl (by show 2 * 0 + _ ≤ _; exact Nat.le_of_eq rfl) (hb hby dSW_10) (fun _ _ => ⟨rfl, E2, (Nat.le_of_ble_eq_true rfl), (Nat.le_of_ble_eq_true rfl)⟩)
  dsimp only [Pt.U, Pt.locs, Pt.cells, Pt.slots] at X3 l3 y3 z3 st3 hQ3
  subst l3 y3 z3
  obtain ⟨rfl, rfl, E3⟩ := hQ3
  refine own_to st3 ?_
  show own_Go p e below F (T3.setTop (mkF m 13 #[.val (.ref x), .val (.ref y), .val (.int (Int32.ofNat k0)), .unset, .unset, .unset, .unset, .unset] [(.int ((1 : Int32))), (.int (Int32.ofNat cs.length)), (.int (Int32.ofNat k0))]))
  refine own_isub X3.here hx (hb hby dSW_13) (pc' := 14) rfl ?_
  rw [show Int32.ofNat cs.length - (1 : Int32) = Int32.ofNat k0 by rw [hk]; exact own_pred k0]
  show own_Go p e below F (T3.setTop (mkF m 14 #[.val (.ref x), .val (.ref y), .val (.int (Int32.ofNat k0)), .unset, .unset, .unset, .unset, .unset] [(.int (Int32.ofNat k0)), (.int (Int32.ofNat k0))]))
  refine own_icmple X3.here hx (hb hby dSW_14) (by decide) (pc' := 19) (by decide) (pc2 := 17) rfl (fun q4 => ?_) (fun q => absurd q (own_nltN (Nat.le_refl _) (by omega)))
  refine own_aload_n X3.here hx (hb hby dSW_19) rfl rfl (pc' := 20) rfl ?_
  obtain ⟨T5, X5, e5, st5⟩ := getF X3 hx hZ hown (host := "") (Or.inl (hw _ (List.mem_of_getElem? (i := 20) rfl))) Via.refl E3 sV (g := (mkF m 20 #[.val (.ref x), .val (.ref y), .val (.int (Int32.ofNat k0)), .unset, .unset, .unset, .unset, .unset] [(.ref x)])) rfl rfl (hb hby dSW_20)
  refine own_on st5 ?_
  show own_Go p e below F (T5.setTop (mkF m 23 #[.val (.ref x), .val (.ref y), .val (.int (Int32.ofNat k0)), .unset, .unset, .unset, .unset, .unset] [(.ref t)]))
  refine own_astore_n X5.here hx (hb hby dSW_23) rfl (L' := #[.val (.ref x), .val (.ref y), .val (.int (Int32.ofNat k0)), .val (.ref t), .unset, .unset, .unset, .unset]) rfl (pc' := 24) rfl ?_
  refine own_aload_n X5.here hx (hb hby dSW_24) rfl rfl (pc' := 25) rfl ?_
  obtain ⟨T6, X6, e6, st6⟩ := getF X5 hx hZ hown (host := "") (Or.inl (hw _ (List.mem_of_getElem? (i := 20) rfl))) Via.refl e5 uV (g := (mkF m 25 #[.val (.ref x), .val (.ref y), .val (.int (Int32.ofNat k0)), .val (.ref t), .unset, .unset, .unset, .unset] [(.ref y)])) rfl rfl (hb hby dSW_25)
  refine own_on st6 ?_
  show own_Go p e below F (T6.setTop (mkF m 28 #[.val (.ref x), .val (.ref y), .val (.int (Int32.ofNat k0)), .val (.ref t), .unset, .unset, .unset, .unset] [(.ref u)]))
  refine own_astore X6.here hx (hb hby dSW_28) rfl (L' := #[.val (.ref x), .val (.ref y), .val (.int (Int32.ofNat k0)), .val (.ref t), .val (.ref u), .unset, .unset, .unset]) rfl (pc' := 30) rfl ?_
  refine own_iconst X6.here hx (hb hby dSW_30) (v := 0) rfl (pc' := 31) rfl ?_
  refine own_istore X6.here hx (hb hby dSW_31) (L' := #[.val (.ref x), .val (.ref y), .val (.int (Int32.ofNat k0)), .val (.ref t), .val (.ref u), .val (.int ((0 : Int32))), .unset, .unset]) rfl (pc' := 33) rfl ?_
  refine own_aload X6.here hx (hb hby dSW_33) rfl rfl (pc' := 35) rfl ?_
  refine own_alen X6 hx hZ e6 uA (hb hby dSW_35) (pc' := 36) rfl ?_
  refine own_istore X6.here hx (hb hby dSW_36) (L' := #[.val (.ref x), .val (.ref y), .val (.int (Int32.ofNat k0)), .val (.ref t), .val (.ref u), .val (.int ((0 : Int32))), .val (.int ((1 : Int32))), .unset]) rfl (pc' := 38) rfl ?_
  refine own_aload_n X6.here hx (hb hby dSW_38) rfl rfl (pc' := 39) rfl ?_
  obtain ⟨cq7, kq7, qa7, qb7, qc7⟩ := isOf hZ e6 sE
  obtain ⟨_, _, ⟨T7, L7, k7, n7⟩, -, X7, ⟨Lc7, hQ7, l7, y7, z7⟩, st7⟩ := X6.virtualBack hx (y := (⟨"java/lang/String", "coder", "()B"⟩ : MethodName)) (z := (⟨"java/lang/String", "coder", "()B"⟩ : MethodName)) hown (mvT hZ (hw _ (List.mem_of_getElem? (i := 37) rfl))) (mvT hZ (hw _ (List.mem_of_getElem? (i := 38) rfl))) (notFace_of_selects (args := #[]) (mvT hZ (hw _ (List.mem_of_getElem? (i := 40) rfl)))) (mvT hZ (hw _ (List.mem_of_getElem? (i := 40) rfl))) (mvT hZ (hw _ (List.mem_of_getElem? (i := 39) rfl))) (by decide) (backOf (W := 0) (rmCo l Z a0 hw x cs h0 EZ z0 O1 P5 S1) hZ (hw _ (List.mem_of_getElem? (i := 41) rfl)) (hw _ (List.mem_of_getElem? (i := 3) rfl)) (by decide) (by decide)) qa7 qc7 (g := (mkF m 39 #[.val (.ref x), .val (.ref y), .val (.int (Int32.ofNat k0)), .val (.ref t), .val (.ref u), .val (.int ((0 : Int32))), .val (.int ((1 : Int32))), .unset] [(.ref x)])) rfl (by rw [hml]; rfl) (Steps.refl _) (argsL := []) (rest := []) (lenOf pdB rfl) rfl (by show 2 * 0 + _ ≤ _; exact Nat.le_of_eq rfl) (hb hby dSW_39) (fun _ _ => ⟨rfl, e6, (Nat.le_of_ble_eq_true rfl), (Nat.le_of_ble_eq_true rfl)⟩)
  dsimp only [Pt.U, Pt.locs, Pt.cells, Pt.slots] at X7 l7 y7 z7 st7 hQ7
  subst l7 y7 z7
  obtain ⟨rfl, N7, E7⟩ := hQ7
  refine own_to st7 ?_
  show own_Go p e below F (T7.setTop (mkF m 42 #[.val (.ref x), .val (.ref y), .val (.int (Int32.ofNat k0)), .val (.ref t), .val (.ref u), .val (.int ((0 : Int32))), .val (.int ((1 : Int32))), .unset] [(.int ((0 : Int32)))]))
  have N8 := Fr.app N0 N7
  refine own_istore X7.here hx (hb hby dSW_42) (L' := #[.val (.ref x), .val (.ref y), .val (.int (Int32.ofNat k0)), .val (.ref t), .val (.ref u), .val (.int ((0 : Int32))), .val (.int ((1 : Int32))), .val (.int ((0 : Int32)))]) rfl (pc' := 44) rfl ?_
  refine own_iload X7.here hx (hb hby dSW_44) rfl (pc' := 46) rfl ?_
  refine own_aload_n X7.here hx (hb hby dSW_46) rfl rfl (pc' := 47) rfl ?_
  obtain ⟨cq9, kq9, qa9, qb9, qc9⟩ := isOf hZ E7 uE
  obtain ⟨_, _, ⟨T9, L9, k9, n9⟩, -, X9, ⟨Lc9, hQ9, l9, y9, z9⟩, st9⟩ := X7.virtualBack hx (y := (⟨"java/lang/String", "coder", "()B"⟩ : MethodName)) (z := (⟨"java/lang/String", "coder", "()B"⟩ : MethodName)) hown (mvT hZ (hw _ (List.mem_of_getElem? (i := 37) rfl))) (mvT hZ (hw _ (List.mem_of_getElem? (i := 38) rfl))) (notFace_of_selects (args := #[]) (mvT hZ (hw _ (List.mem_of_getElem? (i := 40) rfl)))) (mvT hZ (hw _ (List.mem_of_getElem? (i := 40) rfl))) (mvT hZ (hw _ (List.mem_of_getElem? (i := 39) rfl))) (by decide) (backOf (W := 1) (rmCo l Z a0 hw y [47] h0 EZ z0 O1 P5 S3) hZ (hw _ (List.mem_of_getElem? (i := 41) rfl)) (hw _ (List.mem_of_getElem? (i := 3) rfl)) (by decide) (by decide)) qa9 qc9 (g := (mkF m 47 #[.val (.ref x), .val (.ref y), .val (.int (Int32.ofNat k0)), .val (.ref t), .val (.ref u), .val (.int ((0 : Int32))), .val (.int ((1 : Int32))), .val (.int ((0 : Int32)))] [(.ref y), (.int ((0 : Int32)))])) rfl (by rw [hml]; rfl) (Steps.refl _) (argsL := []) (rest := [(.int ((0 : Int32)))]) (lenOf pdB rfl) rfl (by show 2 * 0 + _ ≤ _; exact Nat.le_of_eq rfl) (hb hby dSW_47) (fun _ _ => ⟨rfl, E7, (Nat.le_of_ble_eq_true rfl), (Nat.le_of_ble_eq_true rfl)⟩)
  dsimp only [Pt.U, Pt.locs, Pt.cells, Pt.slots] at X9 l9 y9 z9 st9 hQ9
  subst l9 y9 z9
  obtain ⟨rfl, N9, E9⟩ := hQ9
  refine own_to st9 ?_
  show own_Go p e below F (T9.setTop (mkF m 50 #[.val (.ref x), .val (.ref y), .val (.int (Int32.ofNat k0)), .val (.ref t), .val (.ref u), .val (.int ((0 : Int32))), .val (.int ((1 : Int32))), .val (.int ((0 : Int32)))] [(.int ((0 : Int32))), (.int ((0 : Int32)))]))
  have N10 := Fr.app N8 N9
  refine own_icmpne X9.here hx (hb hby dSW_50) (by decide) (pc' := 82) (by decide) (pc2 := 53) rfl (fun q => absurd rfl q) (fun q11 => ?_)
  refine own_iload X9.here hx (hb hby dSW_53) rfl (pc' := 55) rfl ?_
  refine own_iconst X9.here hx (hb hby dSW_55) (v := 1) rfl (pc' := 56) rfl ?_
  refine own_icmpne X9.here hx (hb hby dSW_56) (by decide) (pc' := 63) (by decide) (pc2 := 59) rfl (fun q12 => ?_) (fun q => absurd q (by decide))
  refine own_aload_n X9.here hx (hb hby dSW_63) rfl rfl (pc' := 64) rfl ?_
  refine own_iload_n X9.here hx (hb hby dSW_64) rfl (pc' := 65) rfl ?_
  refine own_aload X9.here hx (hb hby dSW_65) rfl rfl (pc' := 67) rfl ?_
  refine own_iconst X9.here hx (hb hby dSW_67) (v := 0) rfl (pc' := 68) rfl ?_
  refine own_iload X9.here hx (hb hby dSW_68) rfl (pc' := 70) rfl ?_
  obtain ⟨_, _, ⟨T13, L13, k13, n13⟩, -, X13, ⟨Lc13, hQ13, l13, y13, z13⟩, st13⟩ := Jvm.LawKit.callS X9 hx (y := (⟨"jdk/internal/util/ArraysSupport", "mismatch", "([BI[BII)I"⟩ : MethodName)) hown (mvT hZ (hw _ (List.mem_of_getElem? (i := 182) rfl))) (mvT hZ (hw _ (List.mem_of_getElem? (i := 183) rfl))) (mvT hZ (hw _ (List.mem_of_getElem? (i := 184) rfl))) (mvT hZ (hw _ (List.mem_of_getElem? (i := 185) rfl))) (by decide) (backOf (W := 0) (rmMM l Z a0 hw t u kb kc cs k0 h0 sA uA hp hl (by omega)) hZ (hw _ (List.mem_of_getElem? (i := 185) rfl)) (hw _ (List.mem_of_getElem? (i := 184) rfl)) (by decide) (by decide)) (g := (mkF m 70 #[.val (.ref x), .val (.ref y), .val (.int (Int32.ofNat k0)), .val (.ref t), .val (.ref u), .val (.int ((0 : Int32))), .val (.int ((1 : Int32))), .val (.int ((0 : Int32)))] [(.int ((1 : Int32))), (.int ((0 : Int32))), (.ref u), (.int (Int32.ofNat k0)), (.ref t)])) rfl (by rw [hml]; rfl) (argsL := [(.ref t), (.int (Int32.ofNat k0)), (.ref u), (.int ((0 : Int32))), (.int ((1 : Int32)))]) (rest := []) (lenOf pdMM rfl) rfl (by show 2 * 0 + _ ≤ _; exact Nat.le_of_eq rfl) (hb hby dSW_70) (fun _ _ => ⟨rfl, E9, (Nat.le_of_ble_eq_true rfl), (Nat.le_of_ble_eq_true rfl)⟩)
  dsimp only [Pt.U, Pt.locs, Pt.cells, Pt.slots] at X13 l13 y13 z13 st13 hQ13
  subst l13 y13 z13
  obtain ⟨rfl, N13, E13⟩ := hQ13
  refine own_on (st13) ?_
  show own_Go p e below F (T13.setTop (mkF m 73 #[.val (.ref x), .val (.ref y), .val (.int (Int32.ofNat k0)), .val (.ref t), .val (.ref u), .val (.int ((0 : Int32))), .val (.int ((1 : Int32))), .val (.int ((0 : Int32)))] [(.int ((if cs.getD k0 0 = 47 then (-1 : Int32) else 0)))]))
  have N14 := Fr.app N10 N13
  by_cases hq : cs.getD k0 0 = 47
  · rw [if_pos hq]
    show own_Go p e below F (T13.setTop (mkF m 73 #[.val (.ref x), .val (.ref y), .val (.int (Int32.ofNat k0)), .val (.ref t), .val (.ref u), .val (.int ((0 : Int32))), .val (.int ((1 : Int32))), .val (.int ((0 : Int32)))] [(.int ((-1 : Int32)))]))
    refine own_ifge X13.here hx (hb hby dSW_73) (by decide) (pc' := 80) (by decide) (pc2 := 76) rfl (fun q => absurd q (by decide)) (fun q15 => ?_)
    refine own_iconst X13.here hx (hb hby dSW_76) (v := 1) rfl (pc' := 77) rfl ?_
    refine own_goto X13.here hx (hb hby dSW_77) (by decide) (pc' := 81) (by decide) ?_
    exact own_retZ X13 hx hlk (by decide) hret (hb hby dSW_81) (fun t ht hE => hF t _ _ _ _ (by rw [ht, (E13 : _ = h0)]; exact ⟨by rw [if_pos hq], N14, rfl⟩) hE (by decide) (by decide))
  · rw [if_neg hq]
    show own_Go p e below F (T13.setTop (mkF m 73 #[.val (.ref x), .val (.ref y), .val (.int (Int32.ofNat k0)), .val (.ref t), .val (.ref u), .val (.int ((0 : Int32))), .val (.int ((1 : Int32))), .val (.int ((0 : Int32)))] [(.int ((0 : Int32)))]))
    refine own_ifge X13.here hx (hb hby dSW_73) (by decide) (pc' := 80) (by decide) (pc2 := 76) rfl (fun q16 => ?_) (fun q => absurd q (by decide))
    refine own_iconst X13.here hx (hb hby dSW_80) (v := 0) rfl (pc' := 81) rfl ?_
    exact own_retZ X13 hx hlk (by decide) hret (hb hby dSW_81) (fun t ht hE => hF t _ _ _ _ (by rw [ht, (E13 : _ = h0)]; exact ⟨by rw [if_neg hq], N14, rfl⟩) hE (by decide) (by decide))
theorem dEW_0 : decode jdk_42_method_77_code 0 = .ok (.aload_n 0, 1) := by decide +kernel
theorem dEW_1 : decode jdk_42_method_77_code 1 = .ok (.aload_n 1, 1) := by decide +kernel
theorem dEW_2 : decode jdk_42_method_77_code 2 = .ok (.aload_n 0, 1) := by decide +kernel
theorem dEW_3 : decode jdk_42_method_77_code 3 = .ok (.invokevirtual 505, 3) := by decide +kernel
theorem dEW_6 : decode jdk_42_method_77_code 6 = .ok (.aload_n 1, 1) := by decide +kernel
theorem dEW_7 : decode jdk_42_method_77_code 7 = .ok (.invokevirtual 505, 3) := by decide +kernel
theorem dEW_10 : decode jdk_42_method_77_code 10 = .ok (.isub, 1) := by decide +kernel
theorem dEW_11 : decode jdk_42_method_77_code 11 = .ok (.invokevirtual 624, 3) := by decide +kernel
theorem dEW_14 : decode jdk_42_method_77_code 14 = .ok (.ireturn, 1) := by decide +kernel
theorem pdEW : parseMethodDescriptor "(Ljava/lang/String;)Z" = some ⟨[.object "java/lang/String"], some .boolean⟩ := by decide +kernel
theorem efEW (m : MethodId) (x0 : Addr) (x1 : Addr) : entryFrame m #[(.ref x0), (.ref x1)] 2 = mkF m 0 #[.val (.ref x0), .val (.ref x1)] [] := by first | (simp [entryFrame, mkF, argsToLocals, Value.category]; done) | rfl
def Q_rmEA (Z : State) (x y : Addr) (h0 : Heap) (z0 : Int32) (v : Option Value) (h : Heap) (L : List Loc) : Prop := v = some (.int (0 : Int32)) ∧ Fr Z.heap.size L ∧ h = h0
set_option maxRecDepth 65536 in
set_option maxHeartbeats 40000000 in
theorem rmEA (l : Launch) (Z : State) (a0 : Array Value) (hw : ∀ d ∈ tables_1, d.before a0 Z = true) (x y : Addr) (h0 : Heap) (EZ : Ext Z.heap h0) (z0 : Int32) (O1 : Sta Z Z.heap "java/lang/String" "COMPACT_STRINGS" "Z" (.int z0)) (P5 : ¬ z0 = 0) (S : own_Str Z h0 x []) (S2 : own_Str Z h0 y [47])  :
    MetFree l (⟨"java/lang/String", "endsWith", "(Ljava/lang/String;)Z"⟩ : MethodName) (head1 (Jvm.Cond.code (⟨"java/lang/String", "endsWith", "(Ljava/lang/String;)Z"⟩ : MethodName) jdk_42_method_77_code 2 (Option.some FieldType.boolean) :: []) ({ frames := 3, cells := 0, slots := 0, locals := 50 } : Room)) (fun aa U => aa = #[(.ref x), (.ref y)] ∧ Z.Warmed39 U.vm ∧ U.heap = h0) (fun _ _ _ _ _ => True) (fun _ U o U' => ∃ v L, o = .returned v ∧ (Q_rmEA Z x y h0 z0) v U'.heap L ∧ FrameEnd U o U' L ({ frames := 3, cells := 0, slots := 0, locals := 50 } : Room).cells ({ frames := 3, cells := 0, slots := 0, locals := 50 } : Room).slots) := by
  refine own_walkN (by exact pnS) ?_
  intro p e s m below meth c T0 X0 hx hby hml hret hlk hnm hown hZ e0 es0 F hF
  refine own_on (fun _ => castTop (efEW m x y)) ?_
  have N0 := Fr.nil Z.heap.size
  refine own_aload_n X0.here hx (hb hby dEW_0) rfl rfl (pc' := 1) rfl ?_
  refine own_aload_n X0.here hx (hb hby dEW_1) rfl rfl (pc' := 2) rfl ?_
  refine own_aload_n X0.here hx (hb hby dEW_2) rfl rfl (pc' := 3) rfl ?_
  obtain ⟨cq1, kq1, qa1, qb1, qc1⟩ := isOf hZ e0 S.exa
  obtain ⟨_, _, ⟨T1, L1, k1, n1⟩, -, X1, ⟨Lc1, hQ1, l1, y1, z1⟩, st1⟩ := X0.virtualBack hx (y := (⟨"java/lang/String", "length", "()I"⟩ : MethodName)) (z := (⟨"java/lang/String", "length", "()I"⟩ : MethodName)) hown (mvT hZ (hw _ (List.mem_of_getElem? (i := 32) rfl))) (mvT hZ (hw _ (List.mem_of_getElem? (i := 33) rfl))) (notFace_of_selects (args := #[]) (mvT hZ (hw _ (List.mem_of_getElem? (i := 35) rfl)))) (mvT hZ (hw _ (List.mem_of_getElem? (i := 35) rfl))) (mvT hZ (hw _ (List.mem_of_getElem? (i := 34) rfl))) (by decide) (own_lenB (s := s) (W := 2) hZ hw S (O1.ext EZ) P5 (by decide) (by decide)) qa1 qc1 (g := (mkF m 3 #[.val (.ref x), .val (.ref y)] [(.ref x), (.ref y), (.ref x)])) rfl (by rw [hml]; rfl) (Steps.refl _) (argsL := []) (rest := [(.ref y), (.ref x)]) (lenOf pdI rfl) rfl (by show 2 * 0 + _ ≤ _; exact Nat.le_of_eq rfl) (hb hby dEW_3) (fun _ _ => ⟨rfl, e0, (Nat.le_of_ble_eq_true rfl), (Nat.le_of_ble_eq_true rfl)⟩)
  dsimp only [Pt.U, Pt.locs, Pt.cells, Pt.slots] at X1 l1 y1 z1 st1 hQ1
  subst l1 y1 z1
  obtain ⟨rfl, rfl, E1⟩ := hQ1
  refine own_to st1 ?_
  show own_Go p e below F (T1.setTop (mkF m 6 #[.val (.ref x), .val (.ref y)] [(.int ((0 : Int32))), (.ref y), (.ref x)]))
  refine own_aload_n X1.here hx (hb hby dEW_6) rfl rfl (pc' := 7) rfl ?_
  obtain ⟨cq2, kq2, qa2, qb2, qc2⟩ := isOf hZ E1 S2.exa
  obtain ⟨_, _, ⟨T2, L2, k2, n2⟩, -, X2, ⟨Lc2, hQ2, l2, y2, z2⟩, st2⟩ := X1.virtualBack hx (y := (⟨"java/lang/String", "length", "()I"⟩ : MethodName)) (z := (⟨"java/lang/String", "length", "()I"⟩ : MethodName)) hown (mvT hZ (hw _ (List.mem_of_getElem? (i := 32) rfl))) (mvT hZ (hw _ (List.mem_of_getElem? (i := 33) rfl))) (notFace_of_selects (args := #[]) (mvT hZ (hw _ (List.mem_of_getElem? (i := 35) rfl)))) (mvT hZ (hw _ (List.mem_of_getElem? (i := 35) rfl))) (mvT hZ (hw _ (List.mem_of_getElem? (i := 34) rfl))) (by decide) (own_lenB (s := s) (W := 3) hZ hw S2 (O1.ext EZ) P5 (by decide) (by decide)) qa2 qc2 (g := (mkF m 7 #[.val (.ref x), .val (.ref y)] [(.ref y), (.int ((0 : Int32))), (.ref y), (.ref x)])) rfl (by rw [hml]; rfl) (Steps.refl _) (argsL := []) (rest := [(.int ((0 : Int32))), (.ref y), (.ref x)]) (lenOf pdI rfl) rfl (by show 2 * 0 + _ ≤ _; exact Nat.le_of_eq rfl) (hb hby dEW_7) (fun _ _ => ⟨rfl, E1, (Nat.le_of_ble_eq_true rfl), (Nat.le_of_ble_eq_true rfl)⟩)
  dsimp only [Pt.U, Pt.locs, Pt.cells, Pt.slots] at X2 l2 y2 z2 st2 hQ2
  subst l2 y2 z2
  obtain ⟨rfl, rfl, E2⟩ := hQ2
  refine own_to st2 ?_
  show own_Go p e below F (T2.setTop (mkF m 10 #[.val (.ref x), .val (.ref y)] [(.int ((1 : Int32))), (.int ((0 : Int32))), (.ref y), (.ref x)]))
  refine own_isub X2.here hx (hb hby dEW_10) (pc' := 11) rfl ?_
  rw [(by decide : (0 : Int32) - 1 = -1)]
  show own_Go p e below F (T2.setTop (mkF m 11 #[.val (.ref x), .val (.ref y)] [(.int ((-1 : Int32))), (.ref y), (.ref x)]))
  obtain ⟨cq3, kq3, qa3, qb3, qc3⟩ := isOf hZ E2 S.exa
  obtain ⟨_, _, ⟨T3, L3, k3, n3⟩, -, X3, ⟨Lc3, hQ3, l3, y3, z3⟩, st3⟩ := X2.virtualBack hx (y := (⟨"java/lang/String", "startsWith", "(Ljava/lang/String;I)Z"⟩ : MethodName)) (z := (⟨"java/lang/String", "startsWith", "(Ljava/lang/String;I)Z"⟩ : MethodName)) hown (mvT hZ (hw _ (List.mem_of_getElem? (i := 43) rfl))) (mvT hZ (hw _ (List.mem_of_getElem? (i := 44) rfl))) (notFace_of_selects (args := #[]) (mvT hZ (hw _ (List.mem_of_getElem? (i := 46) rfl)))) (mvT hZ (hw _ (List.mem_of_getElem? (i := 46) rfl))) (mvT hZ (hw _ (List.mem_of_getElem? (i := 45) rfl))) (by decide) (backOf (W := 0) (rmWA l Z a0 hw x y h0) hZ (hw _ (List.mem_of_getElem? (i := 47) rfl)) (hw _ (List.mem_of_getElem? (i := 3) rfl)) (by decide) (by decide)) qa3 qc3 (g := (mkF m 11 #[.val (.ref x), .val (.ref y)] [(.int ((-1 : Int32))), (.ref y), (.ref x)])) rfl (by rw [hml]; rfl) (Steps.refl _) (argsL := [(.ref y), (.int ((-1 : Int32)))]) (rest := []) (lenOf pdSW rfl) rfl (by show 2 * 0 + _ ≤ _; exact Nat.le_of_eq rfl) (hb hby dEW_11) (fun _ _ => ⟨rfl, E2, (Nat.le_of_ble_eq_true rfl), (Nat.le_of_ble_eq_true rfl)⟩)
  dsimp only [Pt.U, Pt.locs, Pt.cells, Pt.slots] at X3 l3 y3 z3 st3 hQ3
  subst l3 y3 z3
  obtain ⟨rfl, N3, E3⟩ := hQ3
  refine own_to st3 ?_
  show own_Go p e below F (T3.setTop (mkF m 14 #[.val (.ref x), .val (.ref y)] [(.int ((0 : Int32)))]))
  have N4 := Fr.app N0 N3
  exact own_retZ X3 hx hlk (by decide) hret (hb hby dEW_14) (fun t ht hE => hF t _ _ _ _ (by rw [ht, (E3 : _ = h0)]; exact ⟨rfl, N4, rfl⟩) hE (by decide) (by decide))
def Q_rmEB (Z : State) (x y : Addr) (cs : List Int32) (k0 : Nat) (h0 : Heap) (z0 : Int32) (v : Option Value) (h : Heap) (L : List Loc) : Prop := v = some (.int (if cs.getD k0 0 = 47 then (1 : Int32) else 0)) ∧ Fr Z.heap.size L ∧ h = h0
set_option maxRecDepth 65536 in
set_option maxHeartbeats 40000000 in
theorem rmEB (l : Launch) (Z : State) (a0 : Array Value) (hw : ∀ d ∈ tables_1, d.before a0 Z = true) (x y : Addr) (cs : List Int32) (k0 : Nat) (h0 : Heap) (EZ : Ext Z.heap h0) (z0 : Int32) (O1 : Sta Z Z.heap "java/lang/String" "COMPACT_STRINGS" "Z" (.int z0)) (P5 : ¬ z0 = 0) (S : own_Str Z h0 x cs) (S2 : own_Str Z h0 y [47]) (hk : cs.length = k0 + 1) :
    MetFree l (⟨"java/lang/String", "endsWith", "(Ljava/lang/String;)Z"⟩ : MethodName) (head1 (Jvm.Cond.code (⟨"java/lang/String", "endsWith", "(Ljava/lang/String;)Z"⟩ : MethodName) jdk_42_method_77_code 2 (Option.some FieldType.boolean) :: []) ({ frames := 3, cells := 0, slots := 0, locals := 51 } : Room)) (fun aa U => aa = #[(.ref x), (.ref y)] ∧ Z.Warmed39 U.vm ∧ U.heap = h0) (fun _ _ _ _ _ => True) (fun _ U o U' => ∃ v L, o = .returned v ∧ (Q_rmEB Z x y cs k0 h0 z0) v U'.heap L ∧ FrameEnd U o U' L ({ frames := 3, cells := 0, slots := 0, locals := 51 } : Room).cells ({ frames := 3, cells := 0, slots := 0, locals := 51 } : Room).slots) := by
  refine own_walkN (by exact pnS) ?_
  intro p e s m below meth c T0 X0 hx hby hml hret hlk hnm hown hZ e0 es0 F hF
  refine own_on (fun _ => castTop (efEW m x y)) ?_
  have N0 := Fr.nil Z.heap.size
  refine own_aload_n X0.here hx (hb hby dEW_0) rfl rfl (pc' := 1) rfl ?_
  refine own_aload_n X0.here hx (hb hby dEW_1) rfl rfl (pc' := 2) rfl ?_
  refine own_aload_n X0.here hx (hb hby dEW_2) rfl rfl (pc' := 3) rfl ?_
  obtain ⟨cq1, kq1, qa1, qb1, qc1⟩ := isOf hZ e0 S.exa
  obtain ⟨_, _, ⟨T1, L1, k1, n1⟩, -, X1, ⟨Lc1, hQ1, l1, y1, z1⟩, st1⟩ := X0.virtualBack hx (y := (⟨"java/lang/String", "length", "()I"⟩ : MethodName)) (z := (⟨"java/lang/String", "length", "()I"⟩ : MethodName)) hown (mvT hZ (hw _ (List.mem_of_getElem? (i := 32) rfl))) (mvT hZ (hw _ (List.mem_of_getElem? (i := 33) rfl))) (notFace_of_selects (args := #[]) (mvT hZ (hw _ (List.mem_of_getElem? (i := 35) rfl)))) (mvT hZ (hw _ (List.mem_of_getElem? (i := 35) rfl))) (mvT hZ (hw _ (List.mem_of_getElem? (i := 34) rfl))) (by decide) (own_lenB (s := s) (W := 2) hZ hw S (O1.ext EZ) P5 (by decide) (by decide)) qa1 qc1 (g := (mkF m 3 #[.val (.ref x), .val (.ref y)] [(.ref x), (.ref y), (.ref x)])) rfl (by rw [hml]; rfl) (Steps.refl _) (argsL := []) (rest := [(.ref y), (.ref x)]) (lenOf pdI rfl) rfl (by show 2 * 0 + _ ≤ _; exact Nat.le_of_eq rfl) (hb hby dEW_3) (fun _ _ => ⟨rfl, e0, (Nat.le_of_ble_eq_true rfl), (Nat.le_of_ble_eq_true rfl)⟩)
  dsimp only [Pt.U, Pt.locs, Pt.cells, Pt.slots] at X1 l1 y1 z1 st1 hQ1
  subst l1 y1 z1
  obtain ⟨rfl, rfl, E1⟩ := hQ1
  refine own_to st1 ?_
  show own_Go p e below F (T1.setTop (mkF m 6 #[.val (.ref x), .val (.ref y)] [(.int (Int32.ofNat cs.length)), (.ref y), (.ref x)]))
  refine own_aload_n X1.here hx (hb hby dEW_6) rfl rfl (pc' := 7) rfl ?_
  obtain ⟨cq2, kq2, qa2, qb2, qc2⟩ := isOf hZ E1 S2.exa
  obtain ⟨_, _, ⟨T2, L2, k2, n2⟩, -, X2, ⟨Lc2, hQ2, l2, y2, z2⟩, st2⟩ := X1.virtualBack hx (y := (⟨"java/lang/String", "length", "()I"⟩ : MethodName)) (z := (⟨"java/lang/String", "length", "()I"⟩ : MethodName)) hown (mvT hZ (hw _ (List.mem_of_getElem? (i := 32) rfl))) (mvT hZ (hw _ (List.mem_of_getElem? (i := 33) rfl))) (notFace_of_selects (args := #[]) (mvT hZ (hw _ (List.mem_of_getElem? (i := 35) rfl)))) (mvT hZ (hw _ (List.mem_of_getElem? (i := 35) rfl))) (mvT hZ (hw _ (List.mem_of_getElem? (i := 34) rfl))) (by decide) (own_lenB (s := s) (W := 3) hZ hw S2 (O1.ext EZ) P5 (by decide) (by decide)) qa2 qc2 (g := (mkF m 7 #[.val (.ref x), .val (.ref y)] [(.ref y), (.int (Int32.ofNat cs.length)), (.ref y), (.ref x)])) rfl (by rw [hml]; rfl) (Steps.refl _) (argsL := []) (rest := [(.int (Int32.ofNat cs.length)), (.ref y), (.ref x)]) (lenOf pdI rfl) rfl (by show 2 * 0 + _ ≤ _; exact Nat.le_of_eq rfl) (hb hby dEW_7) (fun _ _ => ⟨rfl, E1, (Nat.le_of_ble_eq_true rfl), (Nat.le_of_ble_eq_true rfl)⟩)
  dsimp only [Pt.U, Pt.locs, Pt.cells, Pt.slots] at X2 l2 y2 z2 st2 hQ2
  subst l2 y2 z2
  obtain ⟨rfl, rfl, E2⟩ := hQ2
  refine own_to st2 ?_
  show own_Go p e below F (T2.setTop (mkF m 10 #[.val (.ref x), .val (.ref y)] [(.int ((1 : Int32))), (.int (Int32.ofNat cs.length)), (.ref y), (.ref x)]))
  refine own_isub X2.here hx (hb hby dEW_10) (pc' := 11) rfl ?_
  rw [show Int32.ofNat cs.length - (1 : Int32) = Int32.ofNat k0 by rw [hk]; exact own_pred k0]
  show own_Go p e below F (T2.setTop (mkF m 11 #[.val (.ref x), .val (.ref y)] [(.int (Int32.ofNat k0)), (.ref y), (.ref x)]))
  obtain ⟨cq3, kq3, qa3, qb3, qc3⟩ := isOf hZ E2 S.exa
  obtain ⟨_, _, ⟨T3, L3, k3, n3⟩, -, X3, ⟨Lc3, hQ3, l3, y3, z3⟩, st3⟩ := X2.virtualBack hx (y := (⟨"java/lang/String", "startsWith", "(Ljava/lang/String;I)Z"⟩ : MethodName)) (z := (⟨"java/lang/String", "startsWith", "(Ljava/lang/String;I)Z"⟩ : MethodName)) hown (mvT hZ (hw _ (List.mem_of_getElem? (i := 43) rfl))) (mvT hZ (hw _ (List.mem_of_getElem? (i := 44) rfl))) (notFace_of_selects (args := #[]) (mvT hZ (hw _ (List.mem_of_getElem? (i := 46) rfl)))) (mvT hZ (hw _ (List.mem_of_getElem? (i := 46) rfl))) (mvT hZ (hw _ (List.mem_of_getElem? (i := 45) rfl))) (by decide) (backOf (W := 0) (rmWB l Z a0 hw x y cs k0 h0 EZ z0 O1 P5 S S2 hk) hZ (hw _ (List.mem_of_getElem? (i := 47) rfl)) (hw _ (List.mem_of_getElem? (i := 3) rfl)) (by decide) (by decide)) qa3 qc3 (g := (mkF m 11 #[.val (.ref x), .val (.ref y)] [(.int (Int32.ofNat k0)), (.ref y), (.ref x)])) rfl (by rw [hml]; rfl) (Steps.refl _) (argsL := [(.ref y), (.int (Int32.ofNat k0))]) (rest := []) (lenOf pdSW rfl) rfl (by show 2 * 0 + _ ≤ _; exact Nat.le_of_eq rfl) (hb hby dEW_11) (fun _ _ => ⟨rfl, E2, (Nat.le_of_ble_eq_true rfl), (Nat.le_of_ble_eq_true rfl)⟩)
  dsimp only [Pt.U, Pt.locs, Pt.cells, Pt.slots] at X3 l3 y3 z3 st3 hQ3
  subst l3 y3 z3
  obtain ⟨rfl, N3, E3⟩ := hQ3
  refine own_to st3 ?_
  show own_Go p e below F (T3.setTop (mkF m 14 #[.val (.ref x), .val (.ref y)] [(.int ((if cs.getD k0 0 = 47 then (1 : Int32) else 0)))]))
  have N4 := Fr.app N0 N3
  exact own_retZ X3 hx hlk (by split <;> decide) hret (hb hby dEW_14) (fun t ht hE => hF t _ _ _ _ (by rw [ht, (E3 : _ = h0)]; exact ⟨rfl, N4, rfl⟩) hE (by decide) (by decide))
theorem pnSB : plainName "java/lang/StringBuilder" = true := by first | (simp [plainName, overriddenIn]; done) | decide +kernel
theorem pnAB : plainName "java/lang/AbstractStringBuilder" = true := by first | (simp [plainName, overriddenIn]; done) | decide +kernel
theorem pdV : parseMethodDescriptor "()V" = some ⟨[], none⟩ := by decide +kernel
theorem pdIV : parseMethodDescriptor "(I)V" = some ⟨[.int], none⟩ := by decide +kernel
theorem pdAp : parseMethodDescriptor "(Ljava/lang/String;)Ljava/lang/AbstractStringBuilder;" = some ⟨[.object "java/lang/String"], some (.object "java/lang/AbstractStringBuilder")⟩ := by decide +kernel
theorem pdSp : parseMethodDescriptor "(Ljava/lang/String;)Ljava/lang/StringBuilder;" = some ⟨[.object "java/lang/String"], some (.object "java/lang/StringBuilder")⟩ := by decide +kernel
theorem pdPS : parseMethodDescriptor "(ILjava/lang/String;)V" = some ⟨[.int, .object "java/lang/String"], none⟩ := by decide +kernel
theorem pdSV : parseMethodDescriptor "(Ljava/lang/String;)V" = some ⟨[.object "java/lang/String"], none⟩ := by decide +kernel
theorem pdGB : parseMethodDescriptor "([BIB)V" = some ⟨[.array .byte, .int, .byte], none⟩ := by decide +kernel
theorem pdTS : parseMethodDescriptor "()Ljava/lang/String;" = some ⟨[], some (.object "java/lang/String")⟩ := by decide +kernel
theorem pdSI : parseMethodDescriptor "(Ljava/lang/StringBuilder;)V" = some ⟨[.object "java/lang/StringBuilder"], none⟩ := by decide +kernel
theorem pdSJ : parseMethodDescriptor "(Ljava/lang/AbstractStringBuilder;Ljava/lang/Void;)V" = some ⟨[.object "java/lang/AbstractStringBuilder", .object "java/lang/Void"], none⟩ := by decide +kernel
theorem pdGV : parseMethodDescriptor "()[B" = some ⟨[], some (.array .byte)⟩ := by decide +kernel
theorem dAI_0 : decode jdk_68_method_2_code 0 = .ok (.aload_n 0, 1) := by decide +kernel
theorem dAI_1 : decode jdk_68_method_2_code 1 = .ok (.invokespecial 3, 3) := by decide +kernel
theorem dAI_4 : decode jdk_68_method_2_code 4 = .ok (.getstatic 18, 3) := by decide +kernel
theorem dAI_7 : decode jdk_68_method_2_code 7 = .ok (.ifCond .eq 18, 3) := by decide +kernel
theorem dAI_10 : decode jdk_68_method_2_code 10 = .ok (.aload_n 0, 1) := by decide +kernel
theorem dAI_11 : decode jdk_68_method_2_code 11 = .ok (.iload_n 1, 1) := by decide +kernel
theorem dAI_12 : decode jdk_68_method_2_code 12 = .ok (.newarray .byte, 2) := by decide +kernel
theorem dAI_14 : decode jdk_68_method_2_code 14 = .ok (.putfield 15, 3) := by decide +kernel
theorem dAI_17 : decode jdk_68_method_2_code 17 = .ok (.aload_n 0, 1) := by decide +kernel
theorem dAI_18 : decode jdk_68_method_2_code 18 = .ok (.iconst 0, 1) := by decide +kernel
theorem dAI_19 : decode jdk_68_method_2_code 19 = .ok (.putfield 22, 3) := by decide +kernel
theorem dAI_22 : decode jdk_68_method_2_code 22 = .ok (.goto 16, 3) := by decide +kernel
theorem dAI_25 : decode jdk_68_method_2_code 25 = .ok (.aload_n 0, 1) := by decide +kernel
theorem dAI_26 : decode jdk_68_method_2_code 26 = .ok (.iload_n 1, 1) := by decide +kernel
theorem dAI_27 : decode jdk_68_method_2_code 27 = .ok (.invokestatic 26, 3) := by decide +kernel
theorem dAI_30 : decode jdk_68_method_2_code 30 = .ok (.putfield 15, 3) := by decide +kernel
theorem dAI_33 : decode jdk_68_method_2_code 33 = .ok (.aload_n 0, 1) := by decide +kernel
theorem dAI_34 : decode jdk_68_method_2_code 34 = .ok (.iconst 1, 1) := by decide +kernel
theorem dAI_35 : decode jdk_68_method_2_code 35 = .ok (.putfield 22, 3) := by decide +kernel
theorem dAI_38 : decode jdk_68_method_2_code 38 = .ok (.return_, 1) := by decide +kernel
theorem efAI (m : MethodId) (x0 : Addr) (x1 : Int32) : entryFrame m #[(.ref x0), (.int x1)] 2 = mkF m 0 #[.val (.ref x0), .val (.int x1)] [] := by first | (simp [entryFrame, mkF, argsToLocals, Value.category]; done) | rfl
def Q_rmAI (Z : State) (b : Addr) (h0 : Heap) (z0 : Int32) (v : Option Value) (h : Heap) (L : List Loc) : Prop := v = none ∧ ∃ t k, Fr Z.heap.size L ∧ Keep h0 h [b] ∧ h0.size ≤ t ∧ own_SB Z h b t k []
set_option maxRecDepth 65536 in
set_option maxHeartbeats 40000000 in
theorem rmAI (l : Launch) (Z : State) (a0 : Array Value) (hw : ∀ d ∈ tables_1, d.before a0 Z = true) (b : Addr) (h0 : Heap) (EZ : Ext Z.heap h0) (ga : Z.heap.size ≤ b) (z0 : Int32) (O1 : Sta Z Z.heap "java/lang/String" "COMPACT_STRINGS" "Z" (.int z0)) (P5 : ¬ z0 = 0) (A0 : Exa Z h0 b "java/lang/StringBuilder") (F0 : Fld Z h0 b "java/lang/AbstractStringBuilder" "value" "[B" .null) (F1 : Fld Z h0 b "java/lang/AbstractStringBuilder" "coder" "B" (.int (0 : Int32))) (F2 : Fld Z h0 b "java/lang/AbstractStringBuilder" "count" "I" (.int (0 : Int32))) :
    MetFree l (⟨"java/lang/AbstractStringBuilder", "<init>", "(I)V"⟩ : MethodName) (head1 (Jvm.Cond.code (⟨"java/lang/AbstractStringBuilder", "<init>", "(I)V"⟩ : MethodName) jdk_68_method_2_code 2 (Option.none : Option FieldType) :: []) ({ frames := 1, cells := 1, slots := 16, locals := 12 } : Room)) (fun aa U => aa = #[(.ref b), (.int (16 : Int32))] ∧ Z.Warmed39 U.vm ∧ U.heap = h0) (fun _ _ _ _ _ => True) (fun _ U o U' => ∃ v L, o = .returned v ∧ (Q_rmAI Z b h0 z0) v U'.heap L ∧ FrameEnd U o U' L ({ frames := 1, cells := 1, slots := 16, locals := 12 } : Room).cells ({ frames := 1, cells := 1, slots := 16, locals := 12 } : Room).slots) := by
  refine own_walkN (by exact pnAB) ?_
  intro p e s m below meth c T0 X0 hx hby hml hret hlk hnm hown hZ e0 es0 F hF
  refine own_on (fun _ => castTop (efAI m b 16)) ?_
  have N0 := Fr.nil Z.heap.size
  have Q0 := Keep.refl h0 [b]
  have M0 := own_ext_refl h0
  refine own_aload_n X0.here hx (hb hby dAI_0) rfl rfl (pc' := 1) rfl ?_
  obtain ⟨T1, X1, e1, st1⟩ := initO X0 hx hZ hown (hw _ (List.mem_of_getElem? (i := 60) rfl)) (hw _ (List.mem_of_getElem? (i := 12) rfl)) (hw _ (List.mem_of_getElem? (i := 13) rfl)) e0 (g := (mkF m 1 #[.val (.ref b), .val (.int ((16 : Int32)))] [(.ref b)])) rfl (by rw [hml]; rfl) rfl (hb hby dAI_1) (by decide) (W := 0) (by show 2 * 0 + _ ≤ _; exact Nat.le_of_eq rfl) (by decide)
  refine own_on st1 ?_
  show own_Go p e below F (T1.setTop (mkF m 4 #[.val (.ref b), .val (.int ((16 : Int32)))] []))
  obtain ⟨T2, X2, e2, st2⟩ := getS (host := "") X1 hx hZ hown (hw _ (List.mem_of_getElem? (i := 61) rfl)) Via.refl e1 (O1.ext EZ) (g := (mkF m 4 #[.val (.ref b), .val (.int ((16 : Int32)))] [])) rfl (hb hby dAI_4)
  refine own_on st2 ?_
  show own_Go p e below F (T2.setTop (mkF m 7 #[.val (.ref b), .val (.int ((16 : Int32)))] [(.int z0)]))
  refine own_ifeq X2.here hx (hb hby dAI_7) (by decide) (pc' := 25) (by decide) (pc2 := 10) rfl (fun q => absurd q P5) (fun q3 => ?_)
  refine own_aload_n X2.here hx (hb hby dAI_10) rfl rfl (pc' := 11) rfl ?_
  refine own_iload_n X2.here hx (hb hby dAI_11) rfl (pc' := 12) rfl ?_
  obtain ⟨T4, h4, k4, X4, e4, E4, A4, st4⟩ := newP X2 hx hZ (hw _ (List.mem_of_getElem? (i := 15) rfl)) e2 (g := (mkF m 12 #[.val (.ref b), .val (.int ((16 : Int32)))] [(.int ((16 : Int32))), (.ref b)])) rfl (hb hby dAI_12) rfl (by decide : ¬ ((16 : Int32) < (0 : Int32))) (cap := 16) (by decide) (by decide) (by decide) (by decide)
  obtain ⟨a4, g4⟩ : ∃ z, z = h0.size := ⟨_, rfl⟩
  rw [← g4] at A4 st4
  have ne5 : b ≠ a4 := Nat.ne_of_lt (by rw [g4]; exact A0.lt)
  have ge6 : h0.size ≤ a4 := by rw [g4]; exact M0.1
  have f7 := Q0.ext E4
  have f8 := A0.ext E4
  have f9 := F0.ext E4
  have f10 := F1.ext E4
  have f11 := F2.ext E4
  have f12 := own_ext_trans M0 E4
  have V4 : Arv Z h4 a4 k4 .byte (16 : Int32) [.int (0 : Int32), .int (0 : Int32), .int (0 : Int32), .int (0 : Int32), .int (0 : Int32), .int (0 : Int32), .int (0 : Int32), .int (0 : Int32), .int (0 : Int32), .int (0 : Int32), .int (0 : Int32), .int (0 : Int32), .int (0 : Int32), .int (0 : Int32), .int (0 : Int32), .int (0 : Int32)] (.int (0 : Int32)) := (Arv.new A4 (by decide)).pad (pad_rep [] (.int (0 : Int32)) 16)
  refine own_on st4 ?_
  show own_Go p e below F (T4.setTop (mkF m 14 #[.val (.ref b), .val (.int ((16 : Int32)))] [(.ref a4), (.ref b)]))
  obtain ⟨T13, h13, X13, e13, W13, st13⟩ := putF X4 hx hZ hown (host := "") (Or.inl (hw _ (List.mem_of_getElem? (i := 62) rfl))) Via.refl e4 f9 f8 (Or.inl (hw _ (List.mem_of_getElem? (i := 63) rfl))) (hw _ (List.mem_of_getElem? (i := 49) rfl)) (ty := .array .byte) (by decide) rfl rfl (g := (mkF m 14 #[.val (.ref b), .val (.int ((16 : Int32)))] [(.ref a4), (.ref b)])) rfl rfl (hb hby dAI_14)
  have f14 := f8.wr W13
  have f15 := f9.same W13
  have f16 := f10.other W13 (Or.inr (slot_ne (Or.inl (hw _ (List.mem_of_getElem? (i := 65) rfl))) (Or.inl (hw _ (List.mem_of_getElem? (i := 63) rfl))) (by decide) (t := .byte) (by decide) (t' := .array .byte) (by decide)))
  have f17 := f11.other W13 (Or.inr (slot_ne (Or.inl (hw _ (List.mem_of_getElem? (i := 78) rfl))) (Or.inl (hw _ (List.mem_of_getElem? (i := 63) rfl))) (by decide) (t := .int) (by decide) (t' := .array .byte) (by decide)))
  have f18 := V4.other W13 (Ne.symm ne5)
  have f19 := f7.wr W13 (Or.inl (by simp))
  have N20 := own_Fr_snoc (sl := Jvm.RoadKit.slotOf Z "java/lang/AbstractStringBuilder" "value" "[B") N0 ga
  refine own_on st13 ?_
  show own_Go p e below F (T13.setTop (mkF m 17 #[.val (.ref b), .val (.int ((16 : Int32)))] []))
  refine own_aload_n X13.here hx (hb hby dAI_17) rfl rfl (pc' := 18) rfl ?_
  refine own_iconst X13.here hx (hb hby dAI_18) (v := 0) rfl (pc' := 19) rfl ?_
  obtain ⟨T21, h21, X21, e21, W21, st21⟩ := putF X13 hx hZ hown (host := "") (Or.inl (hw _ (List.mem_of_getElem? (i := 64) rfl))) Via.refl e13 f16 f14 (Or.inl (hw _ (List.mem_of_getElem? (i := 65) rfl))) (hw _ (List.mem_of_getElem? (i := 49) rfl)) (ty := .byte) (by decide) rfl rfl (g := (mkF m 19 #[.val (.ref b), .val (.int ((16 : Int32)))] [(.int ((0 : Int32))), (.ref b)])) rfl rfl (hb hby dAI_19)
  have f22 := f14.wr W21
  have f23 := f15.other W21 (Or.inr (slot_ne (Or.inl (hw _ (List.mem_of_getElem? (i := 63) rfl))) (Or.inl (hw _ (List.mem_of_getElem? (i := 65) rfl))) (by decide) (t := .array .byte) (by decide) (t' := .byte) (by decide)))
  have f24 := f16.same W21
  have f25 := f17.other W21 (Or.inr (slot_ne (Or.inl (hw _ (List.mem_of_getElem? (i := 78) rfl))) (Or.inl (hw _ (List.mem_of_getElem? (i := 65) rfl))) (by decide) (t := .int) (by decide) (t' := .byte) (by decide)))
  have f26 := f18.other W21 (Ne.symm ne5)
  have f27 := f19.wr W21 (Or.inl (by simp))
  have N28 := own_Fr_snoc (sl := Jvm.RoadKit.slotOf Z "java/lang/AbstractStringBuilder" "coder" "B") N20 ga
  refine own_on st21 ?_
  show own_Go p e below F (T21.setTop (mkF m 22 #[.val (.ref b), .val (.int ((16 : Int32)))] []))
  refine own_goto X21.here hx (hb hby dAI_22) (by decide) (pc' := 38) (by decide) ?_
  exact own_retV X21 hx hlk hret (hb hby dAI_38) (fun t ht hE => hF t _ _ _ _ (by rw [ht, (e21 : _ = h21)]; exact ⟨rfl, a4, k4, N28, f27, ge6, f22, f23, f24, f25, f26, (fun _ q => nomatch q), (by decide)⟩) hE (by decide) (by decide))
theorem dSI_0 : decode jdk_67_method_1_code 0 = .ok (.aload_n 0, 1) := by decide +kernel
theorem dSI_1 : decode jdk_67_method_1_code 1 = .ok (.bipush 16, 2) := by decide +kernel
theorem dSI_3 : decode jdk_67_method_1_code 3 = .ok (.invokespecial 1, 3) := by decide +kernel
theorem dSI_6 : decode jdk_67_method_1_code 6 = .ok (.return_, 1) := by decide +kernel
def Q_rmSI (Z : State) (b : Addr) (h0 : Heap) (z0 : Int32) (v : Option Value) (h : Heap) (L : List Loc) : Prop := v = none ∧ ∃ t k, Fr Z.heap.size L ∧ Keep h0 h [b] ∧ h0.size ≤ t ∧ own_SB Z h b t k []
set_option maxRecDepth 65536 in
set_option maxHeartbeats 40000000 in
theorem rmSI (l : Launch) (Z : State) (a0 : Array Value) (hw : ∀ d ∈ tables_1, d.before a0 Z = true) (b : Addr) (h0 : Heap) (EZ : Ext Z.heap h0) (ga : Z.heap.size ≤ b) (z0 : Int32) (O1 : Sta Z Z.heap "java/lang/String" "COMPACT_STRINGS" "Z" (.int z0)) (P5 : ¬ z0 = 0) (A0 : Exa Z h0 b "java/lang/StringBuilder") (F0 : Fld Z h0 b "java/lang/AbstractStringBuilder" "value" "[B" .null) (F1 : Fld Z h0 b "java/lang/AbstractStringBuilder" "coder" "B" (.int (0 : Int32))) (F2 : Fld Z h0 b "java/lang/AbstractStringBuilder" "count" "I" (.int (0 : Int32))) :
    MetFree l (⟨"java/lang/StringBuilder", "<init>", "()V"⟩ : MethodName) (head1 (Jvm.Cond.code (⟨"java/lang/StringBuilder", "<init>", "()V"⟩ : MethodName) jdk_67_method_1_code 1 (Option.none : Option FieldType) :: []) ({ frames := 2, cells := 1, slots := 16, locals := 25 } : Room)) (fun aa U => aa = #[(.ref b)] ∧ Z.Warmed39 U.vm ∧ U.heap = h0) (fun _ _ _ _ _ => True) (fun _ U o U' => ∃ v L, o = .returned v ∧ (Q_rmSI Z b h0 z0) v U'.heap L ∧ FrameEnd U o U' L ({ frames := 2, cells := 1, slots := 16, locals := 25 } : Room).cells ({ frames := 2, cells := 1, slots := 16, locals := 25 } : Room).slots) := by
  refine own_walkN (by exact pnSB) ?_
  intro p e s m below meth c T0 X0 hx hby hml hret hlk hnm hown hZ e0 es0 F hF
  refine own_on (fun _ => castTop (efR m b)) ?_
  have N0 := Fr.nil Z.heap.size
  refine own_aload_n X0.here hx (hb hby dSI_0) rfl rfl (pc' := 1) rfl ?_
  refine own_bipush X0.here hx (hb hby dSI_1) (v := 16) rfl (pc' := 3) rfl ?_
  obtain ⟨_, _, ⟨T1, L1, k1, n1⟩, -, X1, ⟨Lc1, hQ1, l1, y1, z1⟩, st1⟩ := X0.specialBack hx (y := (⟨"java/lang/AbstractStringBuilder", "<init>", "(I)V"⟩ : MethodName)) rfl hown (mvT hZ (hw _ (List.mem_of_getElem? (i := 54) rfl))) (mvT hZ (hw _ (List.mem_of_getElem? (i := 55) rfl))) (mvT hZ (hw _ (List.mem_of_getElem? (i := 59) rfl))) (by decide) (backOf (W := 0) (rmAI l Z a0 hw b h0 EZ ga z0 O1 P5 A0 F0 F1 F2) hZ (hw _ (List.mem_of_getElem? (i := 59) rfl)) (hw _ (List.mem_of_getElem? (i := 58) rfl)) (by decide) (by decide)) (g := (mkF m 3 #[.val (.ref b)] [(.int ((16 : Int32))), (.ref b)])) rfl (by rw [hml]; rfl) (Steps.refl _) (a := b) (argsL := [(.int ((16 : Int32)))]) (rest := []) (lenOf pdIV rfl) rfl (by show 2 * 0 + _ ≤ _; exact Nat.le_of_eq rfl) (hb hby dSI_3) (fun _ _ => ⟨rfl, e0, (Nat.le_of_ble_eq_true rfl), (Nat.le_of_ble_eq_true rfl)⟩)
  dsimp only [Pt.U, Pt.locs, Pt.cells, Pt.slots] at X1 l1 y1 z1 st1 hQ1
  subst l1 y1 z1
  obtain ⟨rfl, t1, k1b, N1, K1, g1, B1⟩ := hQ1
  refine own_to st1 ?_
  show own_Go p e below F (T1.setTop (mkF m 6 #[.val (.ref b)] []))
  have N2 := Fr.app N0 N1
  exact own_retV X1 hx hlk hret (hb hby dSI_6) (fun t ht hE => hF t _ _ _ _ (by rw [ht, (rfl : _ = T1.heap)]; exact ⟨rfl, t1, k1b, N2, K1, g1, B1⟩) hE (by decide) (by decide))
theorem dEC_0 : decode jdk_68_method_9_code 0 = .ok (.aload_n 0, 1) := by decide +kernel
theorem dEC_1 : decode jdk_68_method_9_code 1 = .ok (.getfield 15, 3) := by decide +kernel
theorem dEC_4 : decode jdk_68_method_9_code 4 = .ok (.arraylength, 1) := by decide +kernel
theorem dEC_5 : decode jdk_68_method_9_code 5 = .ok (.aload_n 0, 1) := by decide +kernel
theorem dEC_6 : decode jdk_68_method_9_code 6 = .ok (.getfield 22, 3) := by decide +kernel
theorem dEC_9 : decode jdk_68_method_9_code 9 = .ok (.ishr, 1) := by decide +kernel
theorem dEC_10 : decode jdk_68_method_9_code 10 = .ok (.istore_n 2, 1) := by decide +kernel
theorem dEC_11 : decode jdk_68_method_9_code 11 = .ok (.iload_n 1, 1) := by decide +kernel
theorem dEC_12 : decode jdk_68_method_9_code 12 = .ok (.iload_n 2, 1) := by decide +kernel
theorem dEC_13 : decode jdk_68_method_9_code 13 = .ok (.isub, 1) := by decide +kernel
theorem dEC_14 : decode jdk_68_method_9_code 14 = .ok (.ifCond .le 24, 3) := by decide +kernel
theorem dEC_17 : decode jdk_68_method_9_code 17 = .ok (.aload_n 0, 1) := by decide +kernel
theorem dEC_18 : decode jdk_68_method_9_code 18 = .ok (.aload_n 0, 1) := by decide +kernel
theorem dEC_19 : decode jdk_68_method_9_code 19 = .ok (.getfield 15, 3) := by decide +kernel
theorem dEC_22 : decode jdk_68_method_9_code 22 = .ok (.aload_n 0, 1) := by decide +kernel
theorem dEC_23 : decode jdk_68_method_9_code 23 = .ok (.iload_n 1, 1) := by decide +kernel
theorem dEC_24 : decode jdk_68_method_9_code 24 = .ok (.invokevirtual 104, 3) := by decide +kernel
theorem dEC_27 : decode jdk_68_method_9_code 27 = .ok (.aload_n 0, 1) := by decide +kernel
theorem dEC_28 : decode jdk_68_method_9_code 28 = .ok (.getfield 22, 3) := by decide +kernel
theorem dEC_31 : decode jdk_68_method_9_code 31 = .ok (.ishl, 1) := by decide +kernel
theorem dEC_32 : decode jdk_68_method_9_code 32 = .ok (.invokestatic 108, 3) := by decide +kernel
theorem dEC_35 : decode jdk_68_method_9_code 35 = .ok (.putfield 15, 3) := by decide +kernel
theorem dEC_38 : decode jdk_68_method_9_code 38 = .ok (.return_, 1) := by decide +kernel
theorem efEC (m : MethodId) (x0 : Addr) (x1 : Int32) : entryFrame m #[(.ref x0), (.int x1)] 3 = mkF m 0 #[.val (.ref x0), .val (.int x1), .unset] [] := by first | (simp [entryFrame, mkF, argsToLocals, Value.category]; done) | rfl
def Q_rmEC (Z : State) (b t : Addr) (kt : ClassId) (cs : List Int32) (j0 : Nat) (h0 : Heap) (v : Option Value) (h : Heap) (L : List Loc) : Prop := v = none ∧ Fr Z.heap.size L ∧ h = h0
set_option maxRecDepth 65536 in
set_option maxHeartbeats 40000000 in
theorem rmEC (l : Launch) (Z : State) (a0 : Array Value) (hw : ∀ d ∈ tables_1, d.before a0 Z = true) (b t : Addr) (kt : ClassId) (cs : List Int32) (j0 : Nat) (h0 : Heap) (HB : own_SB Z h0 b t kt cs) (hj : j0 ≤ 16) :
    MetFree l (⟨"java/lang/AbstractStringBuilder", "ensureCapacityInternal", "(I)V"⟩ : MethodName) (head1 (Jvm.Cond.code (⟨"java/lang/AbstractStringBuilder", "ensureCapacityInternal", "(I)V"⟩ : MethodName) jdk_68_method_9_code 3 (Option.none : Option FieldType) :: []) ({ frames := 0, cells := 0, slots := 0, locals := 0 } : Room)) (fun aa U => aa = #[(.ref b), (.int (Int32.ofNat j0))] ∧ Z.Warmed39 U.vm ∧ U.heap = h0) (fun _ _ _ _ _ => True) (fun _ U o U' => ∃ v L, o = .returned v ∧ (Q_rmEC Z b t kt cs j0 h0) v U'.heap L ∧ FrameEnd U o U' L ({ frames := 0, cells := 0, slots := 0, locals := 0 } : Room).cells ({ frames := 0, cells := 0, slots := 0, locals := 0 } : Room).slots) := by
  obtain ⟨bE, bV, bC, bN, bA, bp, bl⟩ := HB
  refine own_walkN (by exact pnAB) ?_
  intro p e s m below meth c T0 X0 hx hby hml hret hlk hnm hown hZ e0 es0 F hF
  refine own_on (fun _ => castTop (efEC m b _)) ?_
  refine own_aload_n X0.here hx (hb hby dEC_0) rfl rfl (pc' := 1) rfl ?_
  obtain ⟨T1, X1, e1, st1⟩ := getF X0 hx hZ hown (host := "") (Or.inl (hw _ (List.mem_of_getElem? (i := 62) rfl))) Via.refl e0 bV (g := (mkF m 1 #[.val (.ref b), .val (.int (Int32.ofNat j0)), .unset] [(.ref b)])) rfl rfl (hb hby dEC_1)
  refine own_on st1 ?_
  show own_Go p e below F (T1.setTop (mkF m 4 #[.val (.ref b), .val (.int (Int32.ofNat j0)), .unset] [(.ref t)]))
  refine own_alen X1 hx hZ e1 bA (hb hby dEC_4) (pc' := 5) rfl ?_
  refine own_aload_n X1.here hx (hb hby dEC_5) rfl rfl (pc' := 6) rfl ?_
  obtain ⟨T2, X2, e2, st2⟩ := getF X1 hx hZ hown (host := "") (Or.inl (hw _ (List.mem_of_getElem? (i := 64) rfl))) Via.refl e1 bC (g := (mkF m 6 #[.val (.ref b), .val (.int (Int32.ofNat j0)), .unset] [(.ref b), (.int ((16 : Int32)))])) rfl rfl (hb hby dEC_6)
  refine own_on st2 ?_
  show own_Go p e below F (T2.setTop (mkF m 9 #[.val (.ref b), .val (.int (Int32.ofNat j0)), .unset] [(.int ((0 : Int32))), (.int ((16 : Int32)))]))
  refine own_ishr X2.here hx (hb hby dEC_9) (pc' := 10) rfl ?_
  rw [own_shr0]
  show own_Go p e below F (T2.setTop (mkF m 10 #[.val (.ref b), .val (.int (Int32.ofNat j0)), .unset] [(.int ((16 : Int32)))]))
  refine own_istore_n X2.here hx (hb hby dEC_10) (L' := #[.val (.ref b), .val (.int (Int32.ofNat j0)), .val (.int ((16 : Int32)))]) rfl (pc' := 11) rfl ?_
  refine own_iload_n X2.here hx (hb hby dEC_11) rfl (pc' := 12) rfl ?_
  refine own_iload_n X2.here hx (hb hby dEC_12) rfl (pc' := 13) rfl ?_
  refine own_isub X2.here hx (hb hby dEC_13) (pc' := 14) rfl ?_
  refine own_ifle X2.here hx (hb hby dEC_14) (by decide) (pc' := 38) (by decide) (pc2 := 17) rfl (fun q3 => ?_) (fun q => absurd q (own_sub16 hj))
  exact own_retV X2 hx hlk hret (hb hby dEC_38) (fun t ht hE => hF t _ _ _ _ (by rw [ht, (e2 : _ = h0)]; exact ⟨rfl, Fr.nil _, rfl⟩) hE (by decide) (by decide))
theorem dIF_0 : decode jdk_68_method_71_code 0 = .ok (.getstatic 18, 3) := by decide +kernel
theorem dIF_3 : decode jdk_68_method_71_code 3 = .ok (.ifCond .eq 18, 3) := by decide +kernel
theorem dIF_6 : decode jdk_68_method_71_code 6 = .ok (.aload_n 0, 1) := by decide +kernel
theorem dIF_7 : decode jdk_68_method_71_code 7 = .ok (.getfield 22, 3) := by decide +kernel
theorem dIF_10 : decode jdk_68_method_71_code 10 = .ok (.aload_n 1, 1) := by decide +kernel
theorem dIF_11 : decode jdk_68_method_71_code 11 = .ok (.invokevirtual 40, 3) := by decide +kernel
theorem dIF_14 : decode jdk_68_method_71_code 14 = .ok (.if_icmp .eq 7, 3) := by decide +kernel
theorem dIF_17 : decode jdk_68_method_71_code 17 = .ok (.aload_n 0, 1) := by decide +kernel
theorem dIF_18 : decode jdk_68_method_71_code 18 = .ok (.invokevirtual 195, 3) := by decide +kernel
theorem dIF_21 : decode jdk_68_method_71_code 21 = .ok (.return_, 1) := by decide +kernel
theorem efRR (m : MethodId) (x0 : Addr) (x1 : Addr) : entryFrame m #[(.ref x0), (.ref x1)] 2 = mkF m 0 #[.val (.ref x0), .val (.ref x1)] [] := by first | (simp [entryFrame, mkF, argsToLocals, Value.category]; done) | rfl
def Q_rmIF (Z : State) (b t : Addr) (kt : ClassId) (cs : List Int32) (x : Addr) (ds : List Int32) (h0 : Heap) (z0 : Int32) (v : Option Value) (h : Heap) (L : List Loc) : Prop := v = none ∧ Fr Z.heap.size L ∧ h = h0
set_option maxRecDepth 65536 in
set_option maxHeartbeats 40000000 in
theorem rmIF (l : Launch) (Z : State) (a0 : Array Value) (hw : ∀ d ∈ tables_1, d.before a0 Z = true) (b t : Addr) (kt : ClassId) (cs : List Int32) (x : Addr) (ds : List Int32) (h0 : Heap) (EZ : Ext Z.heap h0) (z0 : Int32) (O1 : Sta Z Z.heap "java/lang/String" "COMPACT_STRINGS" "Z" (.int z0)) (P5 : ¬ z0 = 0) (S : own_Str Z h0 x ds) (HB : own_SB Z h0 b t kt cs) :
    MetFree l (⟨"java/lang/AbstractStringBuilder", "inflateIfNeededFor", "(Ljava/lang/String;)V"⟩ : MethodName) (head1 (Jvm.Cond.code (⟨"java/lang/AbstractStringBuilder", "inflateIfNeededFor", "(Ljava/lang/String;)V"⟩ : MethodName) jdk_68_method_71_code 2 (Option.none : Option FieldType) :: []) ({ frames := 1, cells := 0, slots := 0, locals := 13 } : Room)) (fun aa U => aa = #[(.ref b), (.ref x)] ∧ Z.Warmed39 U.vm ∧ U.heap = h0) (fun _ _ _ _ _ => True) (fun _ U o U' => ∃ v L, o = .returned v ∧ (Q_rmIF Z b t kt cs x ds h0 z0) v U'.heap L ∧ FrameEnd U o U' L ({ frames := 1, cells := 0, slots := 0, locals := 13 } : Room).cells ({ frames := 1, cells := 0, slots := 0, locals := 13 } : Room).slots) := by
  obtain ⟨bE, bV, bC, bN, bA, bp, bl⟩ := HB
  refine own_walkN (by exact pnAB) ?_
  intro p e s m below meth c T0 X0 hx hby hml hret hlk hnm hown hZ e0 es0 F hF
  refine own_on (fun _ => castTop (efRR m b x)) ?_
  have N0 := Fr.nil Z.heap.size
  obtain ⟨T1, X1, e1, st1⟩ := getS (host := "") X0 hx hZ hown (hw _ (List.mem_of_getElem? (i := 61) rfl)) Via.refl e0 (O1.ext EZ) (g := (mkF m 0 #[.val (.ref b), .val (.ref x)] [])) rfl (hb hby dIF_0)
  refine own_on st1 ?_
  show own_Go p e below F (T1.setTop (mkF m 3 #[.val (.ref b), .val (.ref x)] [(.int z0)]))
  refine own_ifeq X1.here hx (hb hby dIF_3) (by decide) (pc' := 21) (by decide) (pc2 := 6) rfl (fun q => absurd q P5) (fun q2 => ?_)
  refine own_aload_n X1.here hx (hb hby dIF_6) rfl rfl (pc' := 7) rfl ?_
  obtain ⟨T3, X3, e3, st3⟩ := getF X1 hx hZ hown (host := "") (Or.inl (hw _ (List.mem_of_getElem? (i := 64) rfl))) Via.refl e1 bC (g := (mkF m 7 #[.val (.ref b), .val (.ref x)] [(.ref b)])) rfl rfl (hb hby dIF_7)
  refine own_on st3 ?_
  show own_Go p e below F (T3.setTop (mkF m 10 #[.val (.ref b), .val (.ref x)] [(.int ((0 : Int32)))]))
  refine own_aload_n X3.here hx (hb hby dIF_10) rfl rfl (pc' := 11) rfl ?_
  obtain ⟨cq4, kq4, qa4, qb4, qc4⟩ := isOf hZ e3 S.exa
  obtain ⟨_, _, ⟨T4, L4, k4, n4⟩, -, X4, ⟨Lc4, hQ4, l4, y4, z4⟩, st4⟩ := X3.virtualBack hx (y := (⟨"java/lang/String", "coder", "()B"⟩ : MethodName)) (z := (⟨"java/lang/String", "coder", "()B"⟩ : MethodName)) hown (mvT hZ (hw _ (List.mem_of_getElem? (i := 94) rfl))) (mvT hZ (hw _ (List.mem_of_getElem? (i := 38) rfl))) (notFace_of_selects (args := #[]) (mvT hZ (hw _ (List.mem_of_getElem? (i := 40) rfl)))) (mvT hZ (hw _ (List.mem_of_getElem? (i := 40) rfl))) (mvT hZ (hw _ (List.mem_of_getElem? (i := 39) rfl))) (by decide) (backOf (W := 1) (rmCo l Z a0 hw x ds h0 EZ z0 O1 P5 S) hZ (hw _ (List.mem_of_getElem? (i := 41) rfl)) (hw _ (List.mem_of_getElem? (i := 3) rfl)) (by decide) (by decide)) qa4 qc4 (g := (mkF m 11 #[.val (.ref b), .val (.ref x)] [(.ref x), (.int ((0 : Int32)))])) rfl (by rw [hml]; rfl) (Steps.refl _) (argsL := []) (rest := [(.int ((0 : Int32)))]) (lenOf pdB rfl) rfl (by show 2 * 0 + _ ≤ _; exact Nat.le_of_eq rfl) (hb hby dIF_11) (fun _ _ => ⟨rfl, e3, (Nat.le_of_ble_eq_true rfl), (Nat.le_of_ble_eq_true rfl)⟩)
  dsimp only [Pt.U, Pt.locs, Pt.cells, Pt.slots] at X4 l4 y4 z4 st4 hQ4
  subst l4 y4 z4
  obtain ⟨rfl, N4, E4⟩ := hQ4
  refine own_to st4 ?_
  show own_Go p e below F (T4.setTop (mkF m 14 #[.val (.ref b), .val (.ref x)] [(.int ((0 : Int32))), (.int ((0 : Int32)))]))
  have N5 := Fr.app N0 N4
  refine own_icmpeq X4.here hx (hb hby dIF_14) (by decide) (pc' := 21) (by decide) (pc2 := 17) rfl (fun q6 => ?_) (fun q => absurd rfl q)
  exact own_retV X4 hx hlk hret (hb hby dIF_21) (fun t ht hE => hF t _ _ _ _ (by rw [ht, (E4 : _ = h0)]; exact ⟨rfl, N5, rfl⟩) hE (by decide) (by decide))
theorem dGB_0 : decode jdk_42_method_147_code 0 = .ok (.aload_n 0, 1) := by decide +kernel
theorem dGB_1 : decode jdk_42_method_147_code 1 = .ok (.invokevirtual 335, 3) := by decide +kernel
theorem dGB_4 : decode jdk_42_method_147_code 4 = .ok (.iload_n 3, 1) := by decide +kernel
theorem dGB_5 : decode jdk_42_method_147_code 5 = .ok (.if_icmp .ne 23, 3) := by decide +kernel
theorem dGB_8 : decode jdk_42_method_147_code 8 = .ok (.aload_n 0, 1) := by decide +kernel
theorem dGB_9 : decode jdk_42_method_147_code 9 = .ok (.getfield 9, 3) := by decide +kernel
theorem dGB_12 : decode jdk_42_method_147_code 12 = .ok (.iconst 0, 1) := by decide +kernel
theorem dGB_13 : decode jdk_42_method_147_code 13 = .ok (.aload_n 1, 1) := by decide +kernel
theorem dGB_14 : decode jdk_42_method_147_code 14 = .ok (.iload_n 2, 1) := by decide +kernel
theorem dGB_15 : decode jdk_42_method_147_code 15 = .ok (.iload_n 3, 1) := by decide +kernel
theorem dGB_16 : decode jdk_42_method_147_code 16 = .ok (.ishl, 1) := by decide +kernel
theorem dGB_17 : decode jdk_42_method_147_code 17 = .ok (.aload_n 0, 1) := by decide +kernel
theorem dGB_18 : decode jdk_42_method_147_code 18 = .ok (.getfield 9, 3) := by decide +kernel
theorem dGB_21 : decode jdk_42_method_147_code 21 = .ok (.arraylength, 1) := by decide +kernel
theorem dGB_22 : decode jdk_42_method_147_code 22 = .ok (.invokestatic 212, 3) := by decide +kernel
theorem dGB_25 : decode jdk_42_method_147_code 25 = .ok (.goto 18, 3) := by decide +kernel
theorem dGB_28 : decode jdk_42_method_147_code 28 = .ok (.aload_n 0, 1) := by decide +kernel
theorem dGB_29 : decode jdk_42_method_147_code 29 = .ok (.getfield 9, 3) := by decide +kernel
theorem dGB_32 : decode jdk_42_method_147_code 32 = .ok (.iconst 0, 1) := by decide +kernel
theorem dGB_33 : decode jdk_42_method_147_code 33 = .ok (.aload_n 1, 1) := by decide +kernel
theorem dGB_34 : decode jdk_42_method_147_code 34 = .ok (.iload_n 2, 1) := by decide +kernel
theorem dGB_35 : decode jdk_42_method_147_code 35 = .ok (.aload_n 0, 1) := by decide +kernel
theorem dGB_36 : decode jdk_42_method_147_code 36 = .ok (.getfield 9, 3) := by decide +kernel
theorem dGB_39 : decode jdk_42_method_147_code 39 = .ok (.arraylength, 1) := by decide +kernel
theorem dGB_40 : decode jdk_42_method_147_code 40 = .ok (.invokestatic 106, 3) := by decide +kernel
theorem dGB_43 : decode jdk_42_method_147_code 43 = .ok (.return_, 1) := by decide +kernel
theorem efGB (m : MethodId) (x0 : Addr) (x1 : Addr) (x2 : Int32) (x3 : Int32) : entryFrame m #[(.ref x0), (.ref x1), (.int x2), (.int x3)] 4 = mkF m 0 #[.val (.ref x0), .val (.ref x1), .val (.int x2), .val (.int x3)] [] := by first | (simp [entryFrame, mkF, argsToLocals, Value.category]; done) | rfl
def Q_rmGB (Z : State) (t : Addr) (kt : ClassId) (cs : List Int32) (x : Addr) (ds : List Int32) (h0 : Heap) (z0 : Int32) (v : Option Value) (h : Heap) (L : List Loc) : Prop := v = none ∧ Fr Z.heap.size L ∧ Keep h0 h [t] ∧ Arv Z h t kt .byte (16 : Int32) (own_B (own_pad (cs ++ ds))) (.int 0)
set_option maxRecDepth 65536 in
set_option maxHeartbeats 40000000 in
theorem rmGB (l : Launch) (Z : State) (a0 : Array Value) (hw : ∀ d ∈ tables_1, d.before a0 Z = true) (t : Addr) (kt : ClassId) (cs : List Int32) (x : Addr) (ds : List Int32) (h0 : Heap) (EZ : Ext Z.heap h0) (z0 : Int32) (O1 : Sta Z Z.heap "java/lang/String" "COMPACT_STRINGS" "Z" (.int z0)) (P5 : ¬ z0 = 0) (S : own_Str Z h0 x ds) (gt : Z.heap.size ≤ t) (bA : Arv Z h0 t kt .byte (16 : Int32) (own_B (own_pad cs)) (.int 0)) (hs : cs.length + ds.length ≤ 15) :
    MetFree l (⟨"java/lang/String", "getBytes", "([BIB)V"⟩ : MethodName) (head1 (Jvm.Cond.code (⟨"java/lang/String", "getBytes", "([BIB)V"⟩ : MethodName) jdk_42_method_147_code 4 (Option.none : Option FieldType) :: []) ({ frames := 1, cells := 0, slots := 0, locals := 60 } : Room)) (fun aa U => aa = #[(.ref x), (.ref t), (.int (Int32.ofNat cs.length)), (.int (0 : Int32))] ∧ Z.Warmed39 U.vm ∧ U.heap = h0) (fun _ _ _ _ _ => True) (fun _ U o U' => ∃ v L, o = .returned v ∧ (Q_rmGB Z t kt cs x ds h0 z0) v U'.heap L ∧ FrameEnd U o U' L ({ frames := 1, cells := 0, slots := 0, locals := 60 } : Room).cells ({ frames := 1, cells := 0, slots := 0, locals := 60 } : Room).slots) := by
  have S1 := S
  obtain ⟨u, ku, uE, uV, uC, uA, up, ul⟩ := S
  refine own_walkN (by exact pnS) ?_
  intro p e s m below meth c T0 X0 hx hby hml hret hlk hnm hown hZ e0 es0 F hF
  refine own_on (fun _ => castTop (efGB m x t _ 0)) ?_
  have N0 := Fr.nil Z.heap.size
  have Q0 := Keep.refl h0 [t]
  refine own_aload_n X0.here hx (hb hby dGB_0) rfl rfl (pc' := 1) rfl ?_
  obtain ⟨cq1, kq1, qa1, qb1, qc1⟩ := isOf hZ e0 uE
  obtain ⟨_, _, ⟨T1, L1, k1, n1⟩, -, X1, ⟨Lc1, hQ1, l1, y1, z1⟩, st1⟩ := X0.virtualBack hx (y := (⟨"java/lang/String", "coder", "()B"⟩ : MethodName)) (z := (⟨"java/lang/String", "coder", "()B"⟩ : MethodName)) hown (mvT hZ (hw _ (List.mem_of_getElem? (i := 37) rfl))) (mvT hZ (hw _ (List.mem_of_getElem? (i := 38) rfl))) (notFace_of_selects (args := #[]) (mvT hZ (hw _ (List.mem_of_getElem? (i := 40) rfl)))) (mvT hZ (hw _ (List.mem_of_getElem? (i := 40) rfl))) (mvT hZ (hw _ (List.mem_of_getElem? (i := 39) rfl))) (by decide) (backOf (W := 0) (rmCo l Z a0 hw x ds h0 EZ z0 O1 P5 S1) hZ (hw _ (List.mem_of_getElem? (i := 41) rfl)) (hw _ (List.mem_of_getElem? (i := 3) rfl)) (by decide) (by decide)) qa1 qc1 (g := (mkF m 1 #[.val (.ref x), .val (.ref t), .val (.int (Int32.ofNat cs.length)), .val (.int ((0 : Int32)))] [(.ref x)])) rfl (by rw [hml]; rfl) (Steps.refl _) (argsL := []) (rest := []) (lenOf pdB rfl) rfl (by show 2 * 0 + _ ≤ _; exact Nat.le_of_eq rfl) (hb hby dGB_1) (fun _ _ => ⟨rfl, e0, (Nat.le_of_ble_eq_true rfl), (Nat.le_of_ble_eq_true rfl)⟩)
  dsimp only [Pt.U, Pt.locs, Pt.cells, Pt.slots] at X1 l1 y1 z1 st1 hQ1
  subst l1 y1 z1
  obtain ⟨rfl, N1, E1⟩ := hQ1
  refine own_to st1 ?_
  show own_Go p e below F (T1.setTop (mkF m 4 #[.val (.ref x), .val (.ref t), .val (.int (Int32.ofNat cs.length)), .val (.int ((0 : Int32)))] [(.int ((0 : Int32)))]))
  have N2 := Fr.app N0 N1
  refine own_iload_n X1.here hx (hb hby dGB_4) rfl (pc' := 5) rfl ?_
  refine own_icmpne X1.here hx (hb hby dGB_5) (by decide) (pc' := 28) (by decide) (pc2 := 8) rfl (fun q => absurd rfl q) (fun q3 => ?_)
  refine own_aload_n X1.here hx (hb hby dGB_8) rfl rfl (pc' := 9) rfl ?_
  obtain ⟨T4, X4, e4, st4⟩ := getF X1 hx hZ hown (host := "") (Or.inl (hw _ (List.mem_of_getElem? (i := 20) rfl))) Via.refl E1 uV (g := (mkF m 9 #[.val (.ref x), .val (.ref t), .val (.int (Int32.ofNat cs.length)), .val (.int ((0 : Int32)))] [(.ref x)])) rfl rfl (hb hby dGB_9)
  refine own_on st4 ?_
  show own_Go p e below F (T4.setTop (mkF m 12 #[.val (.ref x), .val (.ref t), .val (.int (Int32.ofNat cs.length)), .val (.int ((0 : Int32)))] [(.ref u)]))
  refine own_iconst X4.here hx (hb hby dGB_12) (v := 0) rfl (pc' := 13) rfl ?_
  refine own_aload_n X4.here hx (hb hby dGB_13) rfl rfl (pc' := 14) rfl ?_
  refine own_iload_n X4.here hx (hb hby dGB_14) rfl (pc' := 15) rfl ?_
  refine own_iload_n X4.here hx (hb hby dGB_15) rfl (pc' := 16) rfl ?_
  refine own_ishl X4.here hx (hb hby dGB_16) (pc' := 17) rfl ?_
  rw [own_shl0]
  show own_Go p e below F (T4.setTop (mkF m 17 #[.val (.ref x), .val (.ref t), .val (.int (Int32.ofNat cs.length)), .val (.int ((0 : Int32)))] [(.int (Int32.ofNat cs.length)), (.ref t), (.int ((0 : Int32))), (.ref u)]))
  refine own_aload_n X4.here hx (hb hby dGB_17) rfl rfl (pc' := 18) rfl ?_
  obtain ⟨T5, X5, e5, st5⟩ := getF X4 hx hZ hown (host := "") (Or.inl (hw _ (List.mem_of_getElem? (i := 20) rfl))) Via.refl e4 uV (g := (mkF m 18 #[.val (.ref x), .val (.ref t), .val (.int (Int32.ofNat cs.length)), .val (.int ((0 : Int32)))] [(.ref x), (.int (Int32.ofNat cs.length)), (.ref t), (.int ((0 : Int32))), (.ref u)])) rfl rfl (hb hby dGB_18)
  refine own_on st5 ?_
  show own_Go p e below F (T5.setTop (mkF m 21 #[.val (.ref x), .val (.ref t), .val (.int (Int32.ofNat cs.length)), .val (.int ((0 : Int32)))] [(.ref u), (.int (Int32.ofNat cs.length)), (.ref t), (.int ((0 : Int32))), (.ref u)]))
  refine own_alen X5 hx hZ e5 uA (hb hby dGB_21) (pc' := 22) rfl ?_
  obtain ⟨T6, h6, L6, X6, e6, N6, K6, V6, st6⟩ := cpA X5 hx hZ hown (hw _ (List.mem_of_getElem? (i := 100) rfl)) (hw _ (List.mem_of_getElem? (i := 103) rfl)) (hw _ (List.mem_of_getElem? (i := 101) rfl)) (hw _ (List.mem_of_getElem? (i := 102) rfl)) e5 uA bA (us := (own_B ds)) (Or.inl ⟨rfl, rfl⟩) (by decide) (own_nn (by omega)) (own_nn (by omega)) (by rw [own_tn (by omega)]; show 0 + _ ≤ _; omega) (by rw [own_tn (by omega), own_tn (by omega)]; show _ ≤ 16; omega) (by rw [own_tn (by omega)]; exact (own_takeB0 ds).symm) (by rw [own_tn (by omega), own_tn (by omega)]; simp only [own_B, List.length_map]; rw [own_padL (by omega)]; omega) N2 gt (g := (mkF m 22 #[.val (.ref x), .val (.ref t), .val (.int (Int32.ofNat cs.length)), .val (.int ((0 : Int32)))] [(.int (Int32.ofNat ds.length)), (.int (Int32.ofNat cs.length)), (.ref t), (.int ((0 : Int32))), (.ref u)])) rfl (by rw [hml]; rfl) rfl (hb hby dGB_22) (by decide) (W := 0) (by show 2 * 0 + _ ≤ _; exact Nat.le_of_eq rfl) (by decide)
  have f7 := Q0.trans K6 (fun y hy => by simp only [List.mem_cons, List.not_mem_nil, or_false] at hy; rcases hy with rfl <;> first | exact Or.inl (by simp) | exact Or.inr (by assumption))
  refine own_on st6 ?_
  show own_Go p e below F (T6.setTop (mkF m 25 #[.val (.ref x), .val (.ref t), .val (.int (Int32.ofNat cs.length)), .val (.int ((0 : Int32)))] []))
  rw [own_tn (by omega), own_tn (by omega), own_padC cs ds (by omega)] at V6
  refine own_goto X6.here hx (hb hby dGB_25) (by decide) (pc' := 43) (by decide) ?_
  exact own_retV X6 hx hlk hret (hb hby dGB_43) (fun t ht hE => hF t _ _ _ _ (by rw [ht, (e6 : _ = h6)]; exact ⟨rfl, N6, f7, V6⟩) hE (by decide) (by decide))
theorem dPS_0 : decode jdk_68_method_73_code 0 = .ok (.aload_n 0, 1) := by decide +kernel
theorem dPS_1 : decode jdk_68_method_73_code 1 = .ok (.aload_n 2, 1) := by decide +kernel
theorem dPS_2 : decode jdk_68_method_73_code 2 = .ok (.invokevirtual 397, 3) := by decide +kernel
theorem dPS_5 : decode jdk_68_method_73_code 5 = .ok (.aload_n 2, 1) := by decide +kernel
theorem dPS_6 : decode jdk_68_method_73_code 6 = .ok (.aload_n 0, 1) := by decide +kernel
theorem dPS_7 : decode jdk_68_method_73_code 7 = .ok (.getfield 15, 3) := by decide +kernel
theorem dPS_10 : decode jdk_68_method_73_code 10 = .ok (.iload_n 1, 1) := by decide +kernel
theorem dPS_11 : decode jdk_68_method_73_code 11 = .ok (.aload_n 0, 1) := by decide +kernel
theorem dPS_12 : decode jdk_68_method_73_code 12 = .ok (.getfield 22, 3) := by decide +kernel
theorem dPS_15 : decode jdk_68_method_73_code 15 = .ok (.invokevirtual 399, 3) := by decide +kernel
theorem dPS_18 : decode jdk_68_method_73_code 18 = .ok (.return_, 1) := by decide +kernel
theorem efPS (m : MethodId) (x0 : Addr) (x1 : Int32) (x2 : Addr) : entryFrame m #[(.ref x0), (.int x1), (.ref x2)] 3 = mkF m 0 #[.val (.ref x0), .val (.int x1), .val (.ref x2)] [] := by first | (simp [entryFrame, mkF, argsToLocals, Value.category]; done) | rfl
def Q_rmPS (Z : State) (b t : Addr) (kt : ClassId) (cs : List Int32) (x : Addr) (ds : List Int32) (h0 : Heap) (z0 : Int32) (v : Option Value) (h : Heap) (L : List Loc) : Prop := v = none ∧ Fr Z.heap.size L ∧ Keep h0 h [t] ∧ Arv Z h t kt .byte (16 : Int32) (own_B (own_pad (cs ++ ds))) (.int 0)
set_option maxRecDepth 65536 in
set_option maxHeartbeats 40000000 in
theorem rmPS (l : Launch) (Z : State) (a0 : Array Value) (hw : ∀ d ∈ tables_1, d.before a0 Z = true) (b t : Addr) (kt : ClassId) (cs : List Int32) (x : Addr) (ds : List Int32) (h0 : Heap) (EZ : Ext Z.heap h0) (z0 : Int32) (O1 : Sta Z Z.heap "java/lang/String" "COMPACT_STRINGS" "Z" (.int z0)) (P5 : ¬ z0 = 0) (S : own_Str Z h0 x ds) (HB : own_SB Z h0 b t kt cs) (gb : Z.heap.size ≤ b) (gt : Z.heap.size ≤ t) (hs : cs.length + ds.length ≤ 15) :
    MetFree l (⟨"java/lang/AbstractStringBuilder", "putStringAt", "(ILjava/lang/String;)V"⟩ : MethodName) (head1 (Jvm.Cond.code (⟨"java/lang/AbstractStringBuilder", "putStringAt", "(ILjava/lang/String;)V"⟩ : MethodName) jdk_68_method_73_code 3 (Option.none : Option FieldType) :: []) ({ frames := 2, cells := 0, slots := 0, locals := 75 } : Room)) (fun aa U => aa = #[(.ref b), (.int (Int32.ofNat cs.length)), (.ref x)] ∧ Z.Warmed39 U.vm ∧ U.heap = h0) (fun _ _ _ _ _ => True) (fun _ U o U' => ∃ v L, o = .returned v ∧ (Q_rmPS Z b t kt cs x ds h0 z0) v U'.heap L ∧ FrameEnd U o U' L ({ frames := 2, cells := 0, slots := 0, locals := 75 } : Room).cells ({ frames := 2, cells := 0, slots := 0, locals := 75 } : Room).slots) := by
  have HB1 := HB
  obtain ⟨bE, bV, bC, bN, bA, bp, bl⟩ := HB
  refine own_walkN (by exact pnAB) ?_
  intro p e s m below meth c T0 X0 hx hby hml hret hlk hnm hown hZ e0 es0 F hF
  refine own_on (fun _ => castTop (efPS m b _ x)) ?_
  have N0 := Fr.nil Z.heap.size
  refine own_aload_n X0.here hx (hb hby dPS_0) rfl rfl (pc' := 1) rfl ?_
  refine own_aload_n X0.here hx (hb hby dPS_1) rfl rfl (pc' := 2) rfl ?_
  obtain ⟨cq1, q1, q1x⟩ := (bE).cell
  obtain ⟨_, _, ⟨T1, L1, k1, n1⟩, -, X1, ⟨Lc1, hQ1, l1, y1, z1⟩, st1⟩ := X0.privateBack hx (y := (⟨"java/lang/AbstractStringBuilder", "inflateIfNeededFor", "(Ljava/lang/String;)V"⟩ : MethodName)) hown (mvT hZ (hw _ (List.mem_of_getElem? (i := 89) rfl))) (mvT hZ (hw _ (List.mem_of_getElem? (i := 90) rfl))) (own_selfSel (mvT hZ (hw _ (List.mem_of_getElem? (i := 92) rfl))) (mvT hZ (hw _ (List.mem_of_getElem? (i := 90) rfl))) (Cond.privateMethod_at (mvP hZ (hw _ (List.mem_of_getElem? (i := 91) rfl)) (args := #[]))) (by decide)) (Cond.privateMethod_at (mvP hZ (hw _ (List.mem_of_getElem? (i := 91) rfl)) (args := #[]))) (mvT hZ (hw _ (List.mem_of_getElem? (i := 93) rfl))) (by decide) (backOf (W := 0) (rmIF l Z a0 hw b t kt cs x ds h0 EZ z0 O1 P5 S HB1) hZ (hw _ (List.mem_of_getElem? (i := 93) rfl)) (hw _ (List.mem_of_getElem? (i := 58) rfl)) (by decide) (by decide)) (g := (mkF m 2 #[.val (.ref b), .val (.int (Int32.ofNat cs.length)), .val (.ref x)] [(.ref x), (.ref b)])) rfl (by rw [hml]; rfl) (Steps.refl _) (a := b) (by rw [(e0 : _ = h0)]; exact q1) q1x (argsL := [(.ref x)]) (rest := []) (lenOf pdSV rfl) rfl (by show 2 * 0 + _ ≤ _; exact Nat.le_of_eq rfl) (hb hby dPS_2) (fun _ _ => ⟨rfl, e0, (Nat.le_of_ble_eq_true rfl), (Nat.le_of_ble_eq_true rfl)⟩)
  dsimp only [Pt.U, Pt.locs, Pt.cells, Pt.slots] at X1 l1 y1 z1 st1 hQ1
  subst l1 y1 z1
  obtain ⟨rfl, N1, E1⟩ := hQ1
  refine own_to st1 ?_
  show own_Go p e below F (T1.setTop (mkF m 5 #[.val (.ref b), .val (.int (Int32.ofNat cs.length)), .val (.ref x)] []))
  have N2 := Fr.app N0 N1
  refine own_aload_n X1.here hx (hb hby dPS_5) rfl rfl (pc' := 6) rfl ?_
  refine own_aload_n X1.here hx (hb hby dPS_6) rfl rfl (pc' := 7) rfl ?_
  obtain ⟨T3, X3, e3, st3⟩ := getF X1 hx hZ hown (host := "") (Or.inl (hw _ (List.mem_of_getElem? (i := 62) rfl))) Via.refl E1 bV (g := (mkF m 7 #[.val (.ref b), .val (.int (Int32.ofNat cs.length)), .val (.ref x)] [(.ref b), (.ref x)])) rfl rfl (hb hby dPS_7)
  refine own_on st3 ?_
  show own_Go p e below F (T3.setTop (mkF m 10 #[.val (.ref b), .val (.int (Int32.ofNat cs.length)), .val (.ref x)] [(.ref t), (.ref x)]))
  refine own_iload_n X3.here hx (hb hby dPS_10) rfl (pc' := 11) rfl ?_
  refine own_aload_n X3.here hx (hb hby dPS_11) rfl rfl (pc' := 12) rfl ?_
  obtain ⟨T4, X4, e4, st4⟩ := getF X3 hx hZ hown (host := "") (Or.inl (hw _ (List.mem_of_getElem? (i := 64) rfl))) Via.refl e3 bC (g := (mkF m 12 #[.val (.ref b), .val (.int (Int32.ofNat cs.length)), .val (.ref x)] [(.ref b), (.int (Int32.ofNat cs.length)), (.ref t), (.ref x)])) rfl rfl (hb hby dPS_12)
  refine own_on st4 ?_
  show own_Go p e below F (T4.setTop (mkF m 15 #[.val (.ref b), .val (.int (Int32.ofNat cs.length)), .val (.ref x)] [(.int ((0 : Int32))), (.int (Int32.ofNat cs.length)), (.ref t), (.ref x)]))
  obtain ⟨cq5, kq5, qa5, qb5, qc5⟩ := isOf hZ e4 S.exa
  obtain ⟨_, _, ⟨T5, L5, k5, n5⟩, -, X5, ⟨Lc5, hQ5, l5, y5, z5⟩, st5⟩ := X4.virtualBack hx (y := (⟨"java/lang/String", "getBytes", "([BIB)V"⟩ : MethodName)) (z := (⟨"java/lang/String", "getBytes", "([BIB)V"⟩ : MethodName)) hown (mvT hZ (hw _ (List.mem_of_getElem? (i := 95) rfl))) (mvT hZ (hw _ (List.mem_of_getElem? (i := 96) rfl))) (notFace_of_selects (args := #[]) (mvT hZ (hw _ (List.mem_of_getElem? (i := 98) rfl)))) (mvT hZ (hw _ (List.mem_of_getElem? (i := 98) rfl))) (mvT hZ (hw _ (List.mem_of_getElem? (i := 97) rfl))) (by decide) (backOf (W := 0) (rmGB l Z a0 hw t kt cs x ds h0 EZ z0 O1 P5 S gt bA hs) hZ (hw _ (List.mem_of_getElem? (i := 99) rfl)) (hw _ (List.mem_of_getElem? (i := 3) rfl)) (by decide) (by decide)) qa5 qc5 (g := (mkF m 15 #[.val (.ref b), .val (.int (Int32.ofNat cs.length)), .val (.ref x)] [(.int ((0 : Int32))), (.int (Int32.ofNat cs.length)), (.ref t), (.ref x)])) rfl (by rw [hml]; rfl) (Steps.refl _) (argsL := [(.ref t), (.int (Int32.ofNat cs.length)), (.int ((0 : Int32)))]) (rest := []) (lenOf pdGB rfl) rfl (by show 2 * 0 + _ ≤ _; exact Nat.le_of_eq rfl) (hb hby dPS_15) (fun _ _ => ⟨rfl, e4, (Nat.le_of_ble_eq_true rfl), (Nat.le_of_ble_eq_true rfl)⟩)
  dsimp only [Pt.U, Pt.locs, Pt.cells, Pt.slots] at X5 l5 y5 z5 st5 hQ5
  subst l5 y5 z5
  obtain ⟨rfl, N5, K5, V5⟩ := hQ5
  refine own_to st5 ?_
  show own_Go p e below F (T5.setTop (mkF m 18 #[.val (.ref b), .val (.int (Int32.ofNat cs.length)), .val (.ref x)] []))
  have N6 := Fr.app N2 N5
  exact own_retV X5 hx hlk hret (hb hby dPS_18) (fun t ht hE => hF t _ _ _ _ (by rw [ht, (rfl : _ = T5.heap)]; exact ⟨rfl, N6, K5, V5⟩) hE (by decide) (by decide))
theorem dAp_0 : decode jdk_68_method_22_code 0 = .ok (.aload_n 1, 1) := by decide +kernel
theorem dAp_1 : decode jdk_68_method_22_code 1 = .ok (.ifnonnull 8, 3) := by decide +kernel
theorem dAp_4 : decode jdk_68_method_22_code 4 = .ok (.aload_n 0, 1) := by decide +kernel
theorem dAp_5 : decode jdk_68_method_22_code 5 = .ok (.invokevirtual 204, 3) := by decide +kernel
theorem dAp_8 : decode jdk_68_method_22_code 8 = .ok (.areturn, 1) := by decide +kernel
theorem dAp_9 : decode jdk_68_method_22_code 9 = .ok (.aload_n 1, 1) := by decide +kernel
theorem dAp_10 : decode jdk_68_method_22_code 10 = .ok (.invokevirtual 32, 3) := by decide +kernel
theorem dAp_13 : decode jdk_68_method_22_code 13 = .ok (.istore_n 2, 1) := by decide +kernel
theorem dAp_14 : decode jdk_68_method_22_code 14 = .ok (.aload_n 0, 1) := by decide +kernel
theorem dAp_15 : decode jdk_68_method_22_code 15 = .ok (.aload_n 0, 1) := by decide +kernel
theorem dAp_16 : decode jdk_68_method_22_code 16 = .ok (.getfield 79, 3) := by decide +kernel
theorem dAp_19 : decode jdk_68_method_22_code 19 = .ok (.iload_n 2, 1) := by decide +kernel
theorem dAp_20 : decode jdk_68_method_22_code 20 = .ok (.iadd, 1) := by decide +kernel
theorem dAp_21 : decode jdk_68_method_22_code 21 = .ok (.invokevirtual 100, 3) := by decide +kernel
theorem dAp_24 : decode jdk_68_method_22_code 24 = .ok (.aload_n 0, 1) := by decide +kernel
theorem dAp_25 : decode jdk_68_method_22_code 25 = .ok (.aload_n 0, 1) := by decide +kernel
theorem dAp_26 : decode jdk_68_method_22_code 26 = .ok (.getfield 79, 3) := by decide +kernel
theorem dAp_29 : decode jdk_68_method_22_code 29 = .ok (.aload_n 1, 1) := by decide +kernel
theorem dAp_30 : decode jdk_68_method_22_code 30 = .ok (.invokevirtual 208, 3) := by decide +kernel
theorem dAp_33 : decode jdk_68_method_22_code 33 = .ok (.aload_n 0, 1) := by decide +kernel
theorem dAp_34 : decode jdk_68_method_22_code 34 = .ok (.dup, 1) := by decide +kernel
theorem dAp_35 : decode jdk_68_method_22_code 35 = .ok (.getfield 79, 3) := by decide +kernel
theorem dAp_38 : decode jdk_68_method_22_code 38 = .ok (.iload_n 2, 1) := by decide +kernel
theorem dAp_39 : decode jdk_68_method_22_code 39 = .ok (.iadd, 1) := by decide +kernel
theorem dAp_40 : decode jdk_68_method_22_code 40 = .ok (.putfield 79, 3) := by decide +kernel
theorem dAp_43 : decode jdk_68_method_22_code 43 = .ok (.aload_n 0, 1) := by decide +kernel
theorem dAp_44 : decode jdk_68_method_22_code 44 = .ok (.areturn, 1) := by decide +kernel
theorem efAp (m : MethodId) (x0 : Addr) (x1 : Addr) : entryFrame m #[(.ref x0), (.ref x1)] 3 = mkF m 0 #[.val (.ref x0), .val (.ref x1), .unset] [] := by first | (simp [entryFrame, mkF, argsToLocals, Value.category]; done) | rfl
def Q_rmAp (Z : State) (b t : Addr) (kt : ClassId) (cs : List Int32) (x : Addr) (ds : List Int32) (h0 : Heap) (z0 : Int32) (v : Option Value) (h : Heap) (L : List Loc) : Prop := v = some (.ref b) ∧ Fr Z.heap.size L ∧ Keep h0 h [t, b] ∧ own_SB Z h b t kt (cs ++ ds)
set_option maxRecDepth 65536 in
set_option maxHeartbeats 40000000 in
theorem rmAp (l : Launch) (Z : State) (a0 : Array Value) (hw : ∀ d ∈ tables_1, d.before a0 Z = true) (b t : Addr) (kt : ClassId) (cs : List Int32) (x : Addr) (ds : List Int32) (h0 : Heap) (EZ : Ext Z.heap h0) (z0 : Int32) (O1 : Sta Z Z.heap "java/lang/String" "COMPACT_STRINGS" "Z" (.int z0)) (P5 : ¬ z0 = 0) (S : own_Str Z h0 x ds) (HB : own_SB Z h0 b t kt cs) (gb : Z.heap.size ≤ b) (gt : Z.heap.size ≤ t) (hs : cs.length + ds.length ≤ 15) (hne : b ≠ t) :
    MetFree l (⟨"java/lang/AbstractStringBuilder", "append", "(Ljava/lang/String;)Ljava/lang/AbstractStringBuilder;"⟩ : MethodName) (head1 (Jvm.Cond.code (⟨"java/lang/AbstractStringBuilder", "append", "(Ljava/lang/String;)Ljava/lang/AbstractStringBuilder;"⟩ : MethodName) jdk_68_method_22_code 3 (Option.some (FieldType.object "java/lang/AbstractStringBuilder")) :: []) ({ frames := 3, cells := 0, slots := 0, locals := 89 } : Room)) (fun aa U => aa = #[(.ref b), (.ref x)] ∧ Z.Warmed39 U.vm ∧ U.heap = h0) (fun _ _ _ _ _ => True) (fun _ U o U' => ∃ v L, o = .returned v ∧ (Q_rmAp Z b t kt cs x ds h0 z0) v U'.heap L ∧ FrameEnd U o U' L ({ frames := 3, cells := 0, slots := 0, locals := 89 } : Room).cells ({ frames := 3, cells := 0, slots := 0, locals := 89 } : Room).slots) := by
  have HB1 := HB
  obtain ⟨bE, bV, bC, bN, bA, bp, bl⟩ := HB
  have hds : ∀ c ∈ ds, ¬ c < 0 ∧ ¬ (255 : Int32) < c := by obtain ⟨_, _, -, -, -, -, q, -⟩ := S; exact q
  refine own_walkN (by exact pnAB) ?_
  intro p e s m below meth c T0 X0 hx hby hml hret hlk hnm hown hZ e0 es0 F hF
  refine own_on (fun _ => castTop (efAp m b x)) ?_
  have N0 := Fr.nil Z.heap.size
  have Q0 := Keep.refl h0 [t, b]
  refine own_aload_n X0.here hx (hb hby dAp_0) rfl rfl (pc' := 1) rfl ?_
  refine own_ifnonnull X0.here hx rfl (hb hby dAp_1) (by decide) (pc' := 9) (by decide) (pc2 := 4) rfl (fun q1 => ?_) (fun q => nomatch q)
  refine own_aload_n X0.here hx (hb hby dAp_9) rfl rfl (pc' := 10) rfl ?_
  obtain ⟨cq2, kq2, qa2, qb2, qc2⟩ := isOf hZ e0 S.exa
  obtain ⟨_, _, ⟨T2, L2, k2, n2⟩, -, X2, ⟨Lc2, hQ2, l2, y2, z2⟩, st2⟩ := X0.virtualBack hx (y := (⟨"java/lang/String", "length", "()I"⟩ : MethodName)) (z := (⟨"java/lang/String", "length", "()I"⟩ : MethodName)) hown (mvT hZ (hw _ (List.mem_of_getElem? (i := 76) rfl))) (mvT hZ (hw _ (List.mem_of_getElem? (i := 33) rfl))) (notFace_of_selects (args := #[]) (mvT hZ (hw _ (List.mem_of_getElem? (i := 35) rfl)))) (mvT hZ (hw _ (List.mem_of_getElem? (i := 35) rfl))) (mvT hZ (hw _ (List.mem_of_getElem? (i := 34) rfl))) (by decide) (own_lenB (s := s) (W := 0) hZ hw S (O1.ext EZ) P5 (by decide) (by decide)) qa2 qc2 (g := (mkF m 10 #[.val (.ref b), .val (.ref x), .unset] [(.ref x)])) rfl (by rw [hml]; rfl) (Steps.refl _) (argsL := []) (rest := []) (lenOf pdI rfl) rfl (by show 2 * 0 + _ ≤ _; exact Nat.le_of_eq rfl) (hb hby dAp_10) (fun _ _ => ⟨rfl, e0, (Nat.le_of_ble_eq_true rfl), (Nat.le_of_ble_eq_true rfl)⟩)
  dsimp only [Pt.U, Pt.locs, Pt.cells, Pt.slots] at X2 l2 y2 z2 st2 hQ2
  subst l2 y2 z2
  obtain ⟨rfl, rfl, E2⟩ := hQ2
  refine own_to st2 ?_
  show own_Go p e below F (T2.setTop (mkF m 13 #[.val (.ref b), .val (.ref x), .unset] [(.int (Int32.ofNat ds.length))]))
  refine own_istore_n X2.here hx (hb hby dAp_13) (L' := #[.val (.ref b), .val (.ref x), .val (.int (Int32.ofNat ds.length))]) rfl (pc' := 14) rfl ?_
  refine own_aload_n X2.here hx (hb hby dAp_14) rfl rfl (pc' := 15) rfl ?_
  refine own_aload_n X2.here hx (hb hby dAp_15) rfl rfl (pc' := 16) rfl ?_
  obtain ⟨T3, X3, e3, st3⟩ := getF X2 hx hZ hown (host := "") (Or.inl (hw _ (List.mem_of_getElem? (i := 77) rfl))) Via.refl E2 bN (g := (mkF m 16 #[.val (.ref b), .val (.ref x), .val (.int (Int32.ofNat ds.length))] [(.ref b), (.ref b)])) rfl rfl (hb hby dAp_16)
  refine own_on st3 ?_
  show own_Go p e below F (T3.setTop (mkF m 19 #[.val (.ref b), .val (.ref x), .val (.int (Int32.ofNat ds.length))] [(.int (Int32.ofNat cs.length)), (.ref b)]))
  refine own_iload_n X3.here hx (hb hby dAp_19) rfl (pc' := 20) rfl ?_
  refine own_iadd X3.here hx (hb hby dAp_20) (pc' := 21) rfl ?_
  rw [own_ofadd]
  show own_Go p e below F (T3.setTop (mkF m 21 #[.val (.ref b), .val (.ref x), .val (.int (Int32.ofNat ds.length))] [(.int (Int32.ofNat (cs.length + ds.length))), (.ref b)]))
  obtain ⟨cq4, q4, q4x⟩ := (bE).cell
  obtain ⟨_, _, ⟨T4, L4, k4, n4⟩, -, X4, ⟨Lc4, hQ4, l4, y4, z4⟩, st4⟩ := X3.privateBack hx (y := (⟨"java/lang/AbstractStringBuilder", "ensureCapacityInternal", "(I)V"⟩ : MethodName)) hown (mvT hZ (hw _ (List.mem_of_getElem? (i := 79) rfl))) (mvT hZ (hw _ (List.mem_of_getElem? (i := 80) rfl))) (own_selfSel (mvT hZ (hw _ (List.mem_of_getElem? (i := 82) rfl))) (mvT hZ (hw _ (List.mem_of_getElem? (i := 80) rfl))) (Cond.privateMethod_at (mvP hZ (hw _ (List.mem_of_getElem? (i := 81) rfl)) (args := #[]))) (by decide)) (Cond.privateMethod_at (mvP hZ (hw _ (List.mem_of_getElem? (i := 81) rfl)) (args := #[]))) (mvT hZ (hw _ (List.mem_of_getElem? (i := 83) rfl))) (by decide) (backOf (W := 0) (rmEC l Z a0 hw b t kt cs (cs.length + ds.length) h0 HB1 (by omega)) hZ (hw _ (List.mem_of_getElem? (i := 83) rfl)) (hw _ (List.mem_of_getElem? (i := 58) rfl)) (by decide) (by decide)) (g := (mkF m 21 #[.val (.ref b), .val (.ref x), .val (.int (Int32.ofNat ds.length))] [(.int (Int32.ofNat (cs.length + ds.length))), (.ref b)])) rfl (by rw [hml]; rfl) (Steps.refl _) (a := b) (by rw [(e3 : _ = h0)]; exact q4) q4x (argsL := [(.int (Int32.ofNat (cs.length + ds.length)))]) (rest := []) (lenOf pdIV rfl) rfl (by show 2 * 0 + _ ≤ _; exact Nat.le_of_eq rfl) (hb hby dAp_21) (fun _ _ => ⟨rfl, e3, (Nat.le_of_ble_eq_true rfl), (Nat.le_of_ble_eq_true rfl)⟩)
  dsimp only [Pt.U, Pt.locs, Pt.cells, Pt.slots] at X4 l4 y4 z4 st4 hQ4
  subst l4 y4 z4
  obtain ⟨rfl, N4, E4⟩ := hQ4
  refine own_to st4 ?_
  show own_Go p e below F (T4.setTop (mkF m 24 #[.val (.ref b), .val (.ref x), .val (.int (Int32.ofNat ds.length))] []))
  have N5 := Fr.app N0 N4
  refine own_aload_n X4.here hx (hb hby dAp_24) rfl rfl (pc' := 25) rfl ?_
  refine own_aload_n X4.here hx (hb hby dAp_25) rfl rfl (pc' := 26) rfl ?_
  obtain ⟨T6, X6, e6, st6⟩ := getF X4 hx hZ hown (host := "") (Or.inl (hw _ (List.mem_of_getElem? (i := 77) rfl))) Via.refl E4 bN (g := (mkF m 26 #[.val (.ref b), .val (.ref x), .val (.int (Int32.ofNat ds.length))] [(.ref b), (.ref b)])) rfl rfl (hb hby dAp_26)
  refine own_on st6 ?_
  show own_Go p e below F (T6.setTop (mkF m 29 #[.val (.ref b), .val (.ref x), .val (.int (Int32.ofNat ds.length))] [(.int (Int32.ofNat cs.length)), (.ref b)]))
  refine own_aload_n X6.here hx (hb hby dAp_29) rfl rfl (pc' := 30) rfl ?_
  obtain ⟨cq7, q7, q7x⟩ := (bE).cell
  obtain ⟨_, _, ⟨T7, L7, k7, n7⟩, -, X7, ⟨Lc7, hQ7, l7, y7, z7⟩, st7⟩ := X6.privateBack hx (y := (⟨"java/lang/AbstractStringBuilder", "putStringAt", "(ILjava/lang/String;)V"⟩ : MethodName)) hown (mvT hZ (hw _ (List.mem_of_getElem? (i := 84) rfl))) (mvT hZ (hw _ (List.mem_of_getElem? (i := 85) rfl))) (own_selfSel (mvT hZ (hw _ (List.mem_of_getElem? (i := 87) rfl))) (mvT hZ (hw _ (List.mem_of_getElem? (i := 85) rfl))) (Cond.privateMethod_at (mvP hZ (hw _ (List.mem_of_getElem? (i := 86) rfl)) (args := #[]))) (by decide)) (Cond.privateMethod_at (mvP hZ (hw _ (List.mem_of_getElem? (i := 86) rfl)) (args := #[]))) (mvT hZ (hw _ (List.mem_of_getElem? (i := 88) rfl))) (by decide) (backOf (W := 0) (rmPS l Z a0 hw b t kt cs x ds h0 EZ z0 O1 P5 S HB1 gb gt hs) hZ (hw _ (List.mem_of_getElem? (i := 88) rfl)) (hw _ (List.mem_of_getElem? (i := 58) rfl)) (by decide) (by decide)) (g := (mkF m 30 #[.val (.ref b), .val (.ref x), .val (.int (Int32.ofNat ds.length))] [(.ref x), (.int (Int32.ofNat cs.length)), (.ref b)])) rfl (by rw [hml]; rfl) (Steps.refl _) (a := b) (by rw [(e6 : _ = h0)]; exact q7) q7x (argsL := [(.int (Int32.ofNat cs.length)), (.ref x)]) (rest := []) (lenOf pdPS rfl) rfl (by show 2 * 0 + _ ≤ _; exact Nat.le_of_eq rfl) (hb hby dAp_30) (fun _ _ => ⟨rfl, e6, (Nat.le_of_ble_eq_true rfl), (Nat.le_of_ble_eq_true rfl)⟩)
  dsimp only [Pt.U, Pt.locs, Pt.cells, Pt.slots] at X7 l7 y7 z7 st7 hQ7
  subst l7 y7 z7
  obtain ⟨rfl, N7, K7, V7⟩ := hQ7
  refine own_to st7 ?_
  show own_Go p e below F (T7.setTop (mkF m 33 #[.val (.ref b), .val (.ref x), .val (.int (Int32.ofNat ds.length))] []))
  have f8 := bE.keep K7
  have f9 := bV.keep K7 (by simp only [List.mem_cons, List.not_mem_nil, or_false, not_or]; exact hne)
  have f10 := bC.keep K7 (by simp only [List.mem_cons, List.not_mem_nil, or_false, not_or]; exact hne)
  have f11 := bN.keep K7 (by simp only [List.mem_cons, List.not_mem_nil, or_false, not_or]; exact hne)
  have f13 := Q0.trans K7 (fun y hy => by simp only [List.mem_cons, List.not_mem_nil, or_false] at hy; rcases hy with rfl <;> first | exact Or.inl (by simp) | exact Or.inr (by assumption))
  have N14 := Fr.app N5 N7
  refine own_aload_n X7.here hx (hb hby dAp_33) rfl rfl (pc' := 34) rfl ?_
  refine own_dup X7.here hx (hb hby dAp_34) rfl (pc' := 35) rfl ?_
  obtain ⟨T15, X15, e15, st15⟩ := getF X7 hx hZ hown (host := "") (Or.inl (hw _ (List.mem_of_getElem? (i := 77) rfl))) Via.refl rfl f11 (g := (mkF m 35 #[.val (.ref b), .val (.ref x), .val (.int (Int32.ofNat ds.length))] [(.ref b), (.ref b)])) rfl rfl (hb hby dAp_35)
  refine own_on st15 ?_
  show own_Go p e below F (T15.setTop (mkF m 38 #[.val (.ref b), .val (.ref x), .val (.int (Int32.ofNat ds.length))] [(.int (Int32.ofNat cs.length)), (.ref b)]))
  refine own_iload_n X15.here hx (hb hby dAp_38) rfl (pc' := 39) rfl ?_
  refine own_iadd X15.here hx (hb hby dAp_39) (pc' := 40) rfl ?_
  rw [own_ofadd]
  show own_Go p e below F (T15.setTop (mkF m 40 #[.val (.ref b), .val (.ref x), .val (.int (Int32.ofNat ds.length))] [(.int (Int32.ofNat (cs.length + ds.length))), (.ref b)]))
  obtain ⟨T16, h16, X16, e16, W16, st16⟩ := putF X15 hx hZ hown (host := "") (Or.inl (hw _ (List.mem_of_getElem? (i := 77) rfl))) Via.refl e15 f11 f8 (Or.inl (hw _ (List.mem_of_getElem? (i := 78) rfl))) (hw _ (List.mem_of_getElem? (i := 49) rfl)) (ty := .int) (by decide) rfl rfl (g := (mkF m 40 #[.val (.ref b), .val (.ref x), .val (.int (Int32.ofNat ds.length))] [(.int (Int32.ofNat (cs.length + ds.length))), (.ref b)])) rfl rfl (hb hby dAp_40)
  have f17 := f8.wr W16
  have f18 := f9.other W16 (Or.inr (slot_ne (Or.inl (hw _ (List.mem_of_getElem? (i := 63) rfl))) (Or.inl (hw _ (List.mem_of_getElem? (i := 78) rfl))) (by decide) (t := .array .byte) (by decide) (t' := .int) (by decide)))
  have f19 := f10.other W16 (Or.inr (slot_ne (Or.inl (hw _ (List.mem_of_getElem? (i := 65) rfl))) (Or.inl (hw _ (List.mem_of_getElem? (i := 78) rfl))) (by decide) (t := .byte) (by decide) (t' := .int) (by decide)))
  have f20 := f11.same W16
  have f21 := V7.other W16 (Ne.symm hne)
  have f22 := f13.wr W16 (Or.inl (by simp))
  have N23 := own_Fr_snoc (sl := Jvm.RoadKit.slotOf Z "java/lang/AbstractStringBuilder" "count" "I") N14 gb
  refine own_on st16 ?_
  show own_Go p e below F (T16.setTop (mkF m 43 #[.val (.ref b), .val (.ref x), .val (.int (Int32.ofNat ds.length))] []))
  refine own_aload_n X16.here hx (hb hby dAp_43) rfl rfl (pc' := 44) rfl ?_
  exact own_retA X16 hx hlk hret rfl rfl (hb hby dAp_44) (fun t ht hE => hF t _ _ _ _ (by rw [ht, (e16 : _ = h16)]; exact ⟨rfl, N23, f22, f17, f18, f19, (by rw [List.length_append]; exact f20), f21, (fun c hc => (List.mem_append.mp hc).elim (bp c) (hds c)), (by rw [List.length_append]; exact hs)⟩) hE (by decide) (by decide))
theorem dSp_0 : decode jdk_67_method_7_code 0 = .ok (.aload_n 0, 1) := by decide +kernel
theorem dSp_1 : decode jdk_67_method_7_code 1 = .ok (.aload_n 1, 1) := by decide +kernel
theorem dSp_2 : decode jdk_67_method_7_code 2 = .ok (.invokespecial 29, 3) := by decide +kernel
theorem dSp_5 : decode jdk_67_method_7_code 5 = .ok (.pop, 1) := by decide +kernel
theorem dSp_6 : decode jdk_67_method_7_code 6 = .ok (.aload_n 0, 1) := by decide +kernel
theorem dSp_7 : decode jdk_67_method_7_code 7 = .ok (.areturn, 1) := by decide +kernel
def Q_rmSp (Z : State) (b t : Addr) (kt : ClassId) (cs : List Int32) (x : Addr) (ds : List Int32) (h0 : Heap) (z0 : Int32) (v : Option Value) (h : Heap) (L : List Loc) : Prop := v = some (.ref b) ∧ Fr Z.heap.size L ∧ Keep h0 h [t, b] ∧ own_SB Z h b t kt (cs ++ ds)
set_option maxRecDepth 65536 in
set_option maxHeartbeats 40000000 in
theorem rmSp (l : Launch) (Z : State) (a0 : Array Value) (hw : ∀ d ∈ tables_1, d.before a0 Z = true) (b t : Addr) (kt : ClassId) (cs : List Int32) (x : Addr) (ds : List Int32) (h0 : Heap) (EZ : Ext Z.heap h0) (z0 : Int32) (O1 : Sta Z Z.heap "java/lang/String" "COMPACT_STRINGS" "Z" (.int z0)) (P5 : ¬ z0 = 0) (S : own_Str Z h0 x ds) (HB : own_SB Z h0 b t kt cs) (gb : Z.heap.size ≤ b) (gt : Z.heap.size ≤ t) (hs : cs.length + ds.length ≤ 15) (hne : b ≠ t) :
    MetFree l (⟨"java/lang/StringBuilder", "append", "(Ljava/lang/String;)Ljava/lang/StringBuilder;"⟩ : MethodName) (head1 (Jvm.Cond.code (⟨"java/lang/StringBuilder", "append", "(Ljava/lang/String;)Ljava/lang/StringBuilder;"⟩ : MethodName) jdk_67_method_7_code 2 (Option.some (FieldType.object "java/lang/StringBuilder")) :: []) ({ frames := 4, cells := 0, slots := 0, locals := 103 } : Room)) (fun aa U => aa = #[(.ref b), (.ref x)] ∧ Z.Warmed39 U.vm ∧ U.heap = h0) (fun _ _ _ _ _ => True) (fun _ U o U' => ∃ v L, o = .returned v ∧ (Q_rmSp Z b t kt cs x ds h0 z0) v U'.heap L ∧ FrameEnd U o U' L ({ frames := 4, cells := 0, slots := 0, locals := 103 } : Room).cells ({ frames := 4, cells := 0, slots := 0, locals := 103 } : Room).slots) := by
  refine own_walkN (by exact pnSB) ?_
  intro p e s m below meth c T0 X0 hx hby hml hret hlk hnm hown hZ e0 es0 F hF
  refine own_on (fun _ => castTop (efRR m b x)) ?_
  have N0 := Fr.nil Z.heap.size
  refine own_aload_n X0.here hx (hb hby dSp_0) rfl rfl (pc' := 1) rfl ?_
  refine own_aload_n X0.here hx (hb hby dSp_1) rfl rfl (pc' := 2) rfl ?_
  obtain ⟨_, _, ⟨T1, L1, k1, n1⟩, -, X1, ⟨Lc1, hQ1, l1, y1, z1⟩, st1⟩ := superBack X0 hx hZ (y := (⟨"java/lang/AbstractStringBuilder", "append", "(Ljava/lang/String;)Ljava/lang/AbstractStringBuilder;"⟩ : MethodName)) hown (hw _ (List.mem_of_getElem? (i := 71) rfl)) (own_sameM (y := (⟨"java/lang/AbstractStringBuilder", "append", "(Ljava/lang/String;)Ljava/lang/AbstractStringBuilder;"⟩ : MethodName)) (hw _ (List.mem_of_getElem? (i := 82) rfl)) rfl (hw _ (List.mem_of_getElem? (i := 72) rfl)) (by decide)) (hw _ (List.mem_of_getElem? (i := 72) rfl)) (hw _ (List.mem_of_getElem? (i := 73) rfl)) (by decide) (backOf (W := 0) (rmAp l Z a0 hw b t kt cs x ds h0 EZ z0 O1 P5 S HB gb gt hs hne) hZ (hw _ (List.mem_of_getElem? (i := 75) rfl)) (hw _ (List.mem_of_getElem? (i := 58) rfl)) (by decide) (by decide)) e0 (Ins.self HB.1) (g := (mkF m 2 #[.val (.ref b), .val (.ref x)] [(.ref x), (.ref b)])) rfl (by rw [hml]; rfl) (hw _ (List.mem_of_getElem? (i := 75) rfl)) (argsL := [(.ref x)]) (rest := []) (lenOf pdAp rfl) rfl (by show 2 * 0 + _ ≤ _; exact Nat.le_of_eq rfl) (hb hby dSp_2) (fun _ _ => ⟨rfl, e0, (Nat.le_of_ble_eq_true rfl), (Nat.le_of_ble_eq_true rfl)⟩)
  dsimp only [Pt.U, Pt.locs, Pt.cells, Pt.slots] at X1 l1 y1 z1 st1 hQ1
  subst l1 y1 z1
  obtain ⟨rfl, N1, K1, B1⟩ := hQ1
  refine own_to st1 ?_
  show own_Go p e below F (T1.setTop (mkF m 5 #[.val (.ref b), .val (.ref x)] [(.ref b)]))
  have N2 := Fr.app N0 N1
  refine own_pop X1.here hx (hb hby dSp_5) rfl (pc' := 6) rfl ?_
  refine own_aload_n X1.here hx (hb hby dSp_6) rfl rfl (pc' := 7) rfl ?_
  exact own_retA X1 hx hlk hret rfl rfl (hb hby dSp_7) (fun t ht hE => hF t _ _ _ _ (by rw [ht, (rfl : _ = T1.heap)]; exact ⟨rfl, N2, K1, B1⟩) hE (by decide) (by decide))
theorem dGV_0 : decode jdk_68_method_64_code 0 = .ok (.aload_n 0, 1) := by decide +kernel
theorem dGV_1 : decode jdk_68_method_64_code 1 = .ok (.getfield 15, 3) := by decide +kernel
theorem dGV_4 : decode jdk_68_method_64_code 4 = .ok (.areturn, 1) := by decide +kernel
def Q_rmGV (Z : State) (b t : Addr) (kt : ClassId) (cs : List Int32) (h0 : Heap) (v : Option Value) (h : Heap) (L : List Loc) : Prop := v = some (.ref t) ∧ Fr Z.heap.size L ∧ h = h0
set_option maxRecDepth 65536 in
set_option maxHeartbeats 40000000 in
theorem rmGV (l : Launch) (Z : State) (a0 : Array Value) (hw : ∀ d ∈ tables_1, d.before a0 Z = true) (b t : Addr) (kt : ClassId) (cs : List Int32) (h0 : Heap) (HB : own_SB Z h0 b t kt cs) :
    MetFree l (⟨"java/lang/AbstractStringBuilder", "getValue", "()[B"⟩ : MethodName) (head1 (Jvm.Cond.code (⟨"java/lang/AbstractStringBuilder", "getValue", "()[B"⟩ : MethodName) jdk_68_method_64_code 1 (Option.some (FieldType.array FieldType.byte)) :: []) ({ frames := 0, cells := 0, slots := 0, locals := 0 } : Room)) (fun aa U => aa = #[(.ref b)] ∧ Z.Warmed39 U.vm ∧ U.heap = h0) (fun _ _ _ _ _ => True) (fun _ U o U' => ∃ v L, o = .returned v ∧ (Q_rmGV Z b t kt cs h0) v U'.heap L ∧ FrameEnd U o U' L ({ frames := 0, cells := 0, slots := 0, locals := 0 } : Room).cells ({ frames := 0, cells := 0, slots := 0, locals := 0 } : Room).slots) := by
  obtain ⟨bE, bV, bC, bN, bA, bp, bl⟩ := HB
  refine own_walkN (by exact pnAB) ?_
  intro p e s m below meth c T0 X0 hx hby hml hret hlk hnm hown hZ e0 es0 F hF
  refine own_on (fun _ => castTop (efR m b)) ?_
  refine own_aload_n X0.here hx (hb hby dGV_0) rfl rfl (pc' := 1) rfl ?_
  obtain ⟨T1, X1, e1, st1⟩ := getF X0 hx hZ hown (host := "") (Or.inl (hw _ (List.mem_of_getElem? (i := 62) rfl))) Via.refl e0 bV (g := (mkF m 1 #[.val (.ref b)] [(.ref b)])) rfl rfl (hb hby dGV_1)
  refine own_on st1 ?_
  show own_Go p e below F (T1.setTop (mkF m 4 #[.val (.ref b)] [(.ref t)]))
  exact own_retA X1 hx hlk hret rfl rfl (hb hby dGV_4) (fun t ht hE => hF t _ _ _ _ (by rw [ht, (e1 : _ = h0)]; exact ⟨rfl, Fr.nil _, rfl⟩) hE (by decide) (by decide))
theorem dAL_0 : decode jdk_68_method_6_code 0 = .ok (.aload_n 0, 1) := by decide +kernel
theorem dAL_1 : decode jdk_68_method_6_code 1 = .ok (.getfield 79, 3) := by decide +kernel
theorem dAL_4 : decode jdk_68_method_6_code 4 = .ok (.ireturn, 1) := by decide +kernel
def Q_rmAL (Z : State) (b t : Addr) (kt : ClassId) (cs : List Int32) (h0 : Heap) (v : Option Value) (h : Heap) (L : List Loc) : Prop := v = some (.int (Int32.ofNat cs.length)) ∧ Fr Z.heap.size L ∧ h = h0
set_option maxRecDepth 65536 in
set_option maxHeartbeats 40000000 in
theorem rmAL (l : Launch) (Z : State) (a0 : Array Value) (hw : ∀ d ∈ tables_1, d.before a0 Z = true) (b t : Addr) (kt : ClassId) (cs : List Int32) (h0 : Heap) (HB : own_SB Z h0 b t kt cs) :
    MetFree l (⟨"java/lang/AbstractStringBuilder", "length", "()I"⟩ : MethodName) (head1 (Jvm.Cond.code (⟨"java/lang/AbstractStringBuilder", "length", "()I"⟩ : MethodName) jdk_68_method_6_code 1 (Option.some FieldType.int) :: []) ({ frames := 0, cells := 0, slots := 0, locals := 0 } : Room)) (fun aa U => aa = #[(.ref b)] ∧ Z.Warmed39 U.vm ∧ U.heap = h0) (fun _ _ _ _ _ => True) (fun _ U o U' => ∃ v L, o = .returned v ∧ (Q_rmAL Z b t kt cs h0) v U'.heap L ∧ FrameEnd U o U' L ({ frames := 0, cells := 0, slots := 0, locals := 0 } : Room).cells ({ frames := 0, cells := 0, slots := 0, locals := 0 } : Room).slots) := by
  obtain ⟨bE, bV, bC, bN, bA, bp, bl⟩ := HB
  refine own_walkN (by exact pnAB) ?_
  intro p e s m below meth c T0 X0 hx hby hml hret hlk hnm hown hZ e0 es0 F hF
  refine own_on (fun _ => castTop (efR m b)) ?_
  refine own_aload_n X0.here hx (hb hby dAL_0) rfl rfl (pc' := 1) rfl ?_
  obtain ⟨T1, X1, e1, st1⟩ := getF X0 hx hZ hown (host := "") (Or.inl (hw _ (List.mem_of_getElem? (i := 77) rfl))) Via.refl e0 bN (g := (mkF m 1 #[.val (.ref b)] [(.ref b)])) rfl rfl (hb hby dAL_1)
  refine own_on st1 ?_
  show own_Go p e below F (T1.setTop (mkF m 4 #[.val (.ref b)] [(.int (Int32.ofNat cs.length))]))
  exact own_retI X1 hx hlk hret (hb hby dAL_4) (fun t ht hE => hF t _ _ _ _ (by rw [ht, (e1 : _ = h0)]; exact ⟨rfl, Fr.nil _, rfl⟩) hE (by decide) (by decide))
theorem dSL_0 : decode jdk_67_method_93_code 0 = .ok (.aload_n 0, 1) := by decide +kernel
theorem dSL_1 : decode jdk_67_method_93_code 1 = .ok (.invokespecial 343, 3) := by decide +kernel
theorem dSL_4 : decode jdk_67_method_93_code 4 = .ok (.ireturn, 1) := by decide +kernel
def Q_rmSL (Z : State) (b t : Addr) (kt : ClassId) (cs : List Int32) (h0 : Heap) (v : Option Value) (h : Heap) (L : List Loc) : Prop := v = some (.int (Int32.ofNat cs.length)) ∧ Fr Z.heap.size L ∧ h = h0
set_option maxRecDepth 65536 in
set_option maxHeartbeats 40000000 in
theorem rmSL (l : Launch) (Z : State) (a0 : Array Value) (hw : ∀ d ∈ tables_1, d.before a0 Z = true) (b t : Addr) (kt : ClassId) (cs : List Int32) (h0 : Heap) (HB : own_SB Z h0 b t kt cs) :
    MetFree l (⟨"java/lang/StringBuilder", "length", "()I"⟩ : MethodName) (head1 (Jvm.Cond.code (⟨"java/lang/StringBuilder", "length", "()I"⟩ : MethodName) jdk_67_method_93_code 1 (Option.some FieldType.int) :: []) ({ frames := 1, cells := 0, slots := 0, locals := 12 } : Room)) (fun aa U => aa = #[(.ref b)] ∧ Z.Warmed39 U.vm ∧ U.heap = h0) (fun _ _ _ _ _ => True) (fun _ U o U' => ∃ v L, o = .returned v ∧ (Q_rmSL Z b t kt cs h0) v U'.heap L ∧ FrameEnd U o U' L ({ frames := 1, cells := 0, slots := 0, locals := 12 } : Room).cells ({ frames := 1, cells := 0, slots := 0, locals := 12 } : Room).slots) := by
  refine own_walkN (by exact pnSB) ?_
  intro p e s m below meth c T0 X0 hx hby hml hret hlk hnm hown hZ e0 es0 F hF
  refine own_on (fun _ => castTop (efR m b)) ?_
  have N0 := Fr.nil Z.heap.size
  refine own_aload_n X0.here hx (hb hby dSL_0) rfl rfl (pc' := 1) rfl ?_
  obtain ⟨_, _, ⟨T1, L1, k1, n1⟩, -, X1, ⟨Lc1, hQ1, l1, y1, z1⟩, st1⟩ := superBack X0 hx hZ (y := (⟨"java/lang/AbstractStringBuilder", "length", "()I"⟩ : MethodName)) hown (hw _ (List.mem_of_getElem? (i := 127) rfl)) (own_sameM (y := (⟨"java/lang/AbstractStringBuilder", "length", "()I"⟩ : MethodName)) (hw _ (List.mem_of_getElem? (i := 82) rfl)) rfl (hw _ (List.mem_of_getElem? (i := 123) rfl)) (by decide)) (hw _ (List.mem_of_getElem? (i := 123) rfl)) (hw _ (List.mem_of_getElem? (i := 73) rfl)) (by decide) (backOf (W := 0) (rmAL l Z a0 hw b t kt cs h0 HB) hZ (hw _ (List.mem_of_getElem? (i := 128) rfl)) (hw _ (List.mem_of_getElem? (i := 58) rfl)) (by decide) (by decide)) e0 (Ins.self HB.1) (g := (mkF m 1 #[.val (.ref b)] [(.ref b)])) rfl (by rw [hml]; rfl) (hw _ (List.mem_of_getElem? (i := 128) rfl)) (argsL := []) (rest := []) (lenOf pdI rfl) rfl (by show 2 * 0 + _ ≤ _; exact Nat.le_of_eq rfl) (hb hby dSL_1) (fun _ _ => ⟨rfl, e0, (Nat.le_of_ble_eq_true rfl), (Nat.le_of_ble_eq_true rfl)⟩)
  dsimp only [Pt.U, Pt.locs, Pt.cells, Pt.slots] at X1 l1 y1 z1 st1 hQ1
  subst l1 y1 z1
  obtain ⟨rfl, N1, E1⟩ := hQ1
  refine own_to st1 ?_
  show own_Go p e below F (T1.setTop (mkF m 4 #[.val (.ref b)] [(.int (Int32.ofNat cs.length))]))
  have N2 := Fr.app N0 N1
  exact own_retI X1 hx hlk hret (hb hby dSL_4) (fun t ht hE => hF t _ _ _ _ (by rw [ht, (E1 : _ = h0)]; exact ⟨rfl, N2, rfl⟩) hE (by decide) (by decide))
theorem dAL1_0 : decode jdk_68_method_68_code 0 = .ok (.getstatic 18, 3) := by decide +kernel
theorem dAL1_3 : decode jdk_68_method_68_code 3 = .ok (.ifCond .eq 14, 3) := by decide +kernel
theorem dAL1_6 : decode jdk_68_method_68_code 6 = .ok (.aload_n 0, 1) := by decide +kernel
theorem dAL1_7 : decode jdk_68_method_68_code 7 = .ok (.getfield 22, 3) := by decide +kernel
theorem dAL1_10 : decode jdk_68_method_68_code 10 = .ok (.ifCond .ne 7, 3) := by decide +kernel
theorem dAL1_13 : decode jdk_68_method_68_code 13 = .ok (.iconst 1, 1) := by decide +kernel
theorem dAL1_14 : decode jdk_68_method_68_code 14 = .ok (.goto 4, 3) := by decide +kernel
theorem dAL1_17 : decode jdk_68_method_68_code 17 = .ok (.iconst 0, 1) := by decide +kernel
theorem dAL1_18 : decode jdk_68_method_68_code 18 = .ok (.ireturn, 1) := by decide +kernel
def Q_rmAJ (Z : State) (b t : Addr) (kt : ClassId) (cs : List Int32) (h0 : Heap) (z0 : Int32) (v : Option Value) (h : Heap) (L : List Loc) : Prop := v = some (.int (1 : Int32)) ∧ Fr Z.heap.size L ∧ h = h0
set_option maxRecDepth 65536 in
set_option maxHeartbeats 40000000 in
theorem rmAJ (l : Launch) (Z : State) (a0 : Array Value) (hw : ∀ d ∈ tables_1, d.before a0 Z = true) (b t : Addr) (kt : ClassId) (cs : List Int32) (h0 : Heap) (EZ : Ext Z.heap h0) (z0 : Int32) (O1 : Sta Z Z.heap "java/lang/String" "COMPACT_STRINGS" "Z" (.int z0)) (P5 : ¬ z0 = 0) (HB : own_SB Z h0 b t kt cs) :
    MetFree l (⟨"java/lang/AbstractStringBuilder", "isLatin1", "()Z"⟩ : MethodName) (head1 (Jvm.Cond.code (⟨"java/lang/AbstractStringBuilder", "isLatin1", "()Z"⟩ : MethodName) jdk_68_method_68_code 1 (Option.some FieldType.boolean) :: []) ({ frames := 0, cells := 0, slots := 0, locals := 0 } : Room)) (fun aa U => aa = #[(.ref b)] ∧ Z.Warmed39 U.vm ∧ U.heap = h0) (fun _ _ _ _ _ => True) (fun _ U o U' => ∃ v L, o = .returned v ∧ (Q_rmAJ Z b t kt cs h0 z0) v U'.heap L ∧ FrameEnd U o U' L ({ frames := 0, cells := 0, slots := 0, locals := 0 } : Room).cells ({ frames := 0, cells := 0, slots := 0, locals := 0 } : Room).slots) := by
  obtain ⟨bE, bV, bC, bN, bA, bp, bl⟩ := HB
  refine own_walkN (by exact pnAB) ?_
  intro p e s m below meth c T0 X0 hx hby hml hret hlk hnm hown hZ e0 es0 F hF
  refine own_on (fun _ => castTop (efR m b)) ?_
  obtain ⟨T1, X1, e1, st1⟩ := getS (host := "") X0 hx hZ hown (hw _ (List.mem_of_getElem? (i := 61) rfl)) Via.refl e0 (O1.ext EZ) (g := (mkF m 0 #[.val (.ref b)] [])) rfl (hb hby dAL1_0)
  refine own_on st1 ?_
  show own_Go p e below F (T1.setTop (mkF m 3 #[.val (.ref b)] [(.int z0)]))
  refine own_ifeq X1.here hx (hb hby dAL1_3) (by decide) (pc' := 17) (by decide) (pc2 := 6) rfl (fun q => absurd q P5) (fun q2 => ?_)
  refine own_aload_n X1.here hx (hb hby dAL1_6) rfl rfl (pc' := 7) rfl ?_
  obtain ⟨T3, X3, e3, st3⟩ := getF X1 hx hZ hown (host := "") (Or.inl (hw _ (List.mem_of_getElem? (i := 64) rfl))) Via.refl e1 bC (g := (mkF m 7 #[.val (.ref b)] [(.ref b)])) rfl rfl (hb hby dAL1_7)
  refine own_on st3 ?_
  show own_Go p e below F (T3.setTop (mkF m 10 #[.val (.ref b)] [(.int ((0 : Int32)))]))
  refine own_ifne X3.here hx (hb hby dAL1_10) (by decide) (pc' := 17) (by decide) (pc2 := 13) rfl (fun q => absurd rfl q) (fun q4 => ?_)
  refine own_iconst X3.here hx (hb hby dAL1_13) (v := 1) rfl (pc' := 14) rfl ?_
  refine own_goto X3.here hx (hb hby dAL1_14) (by decide) (pc' := 18) (by decide) ?_
  exact own_retZ X3 hx hlk (by decide) hret (hb hby dAL1_18) (fun t ht hE => hF t _ _ _ _ (by rw [ht, (e3 : _ = h0)]; exact ⟨rfl, Fr.nil _, rfl⟩) hE (by decide) (by decide))
theorem dSJ_0 : decode jdk_42_method_150_code 0 = .ok (.aload_n 0, 1) := by decide +kernel
theorem dSJ_1 : decode jdk_42_method_150_code 1 = .ok (.invokespecial 1, 3) := by decide +kernel
theorem dSJ_4 : decode jdk_42_method_150_code 4 = .ok (.aload_n 1, 1) := by decide +kernel
theorem dSJ_5 : decode jdk_42_method_150_code 5 = .ok (.invokevirtual 552, 3) := by decide +kernel
theorem dSJ_8 : decode jdk_42_method_150_code 8 = .ok (.astore_n 3, 1) := by decide +kernel
theorem dSJ_9 : decode jdk_42_method_150_code 9 = .ok (.aload_n 1, 1) := by decide +kernel
theorem dSJ_10 : decode jdk_42_method_150_code 10 = .ok (.invokevirtual 549, 3) := by decide +kernel
theorem dSJ_13 : decode jdk_42_method_150_code 13 = .ok (.istore 4, 2) := by decide +kernel
theorem dSJ_15 : decode jdk_42_method_150_code 15 = .ok (.aload_n 1, 1) := by decide +kernel
theorem dSJ_16 : decode jdk_42_method_150_code 16 = .ok (.invokevirtual 1047, 3) := by decide +kernel
theorem dSJ_19 : decode jdk_42_method_150_code 19 = .ok (.ifCond .eq 22, 3) := by decide +kernel
theorem dSJ_22 : decode jdk_42_method_150_code 22 = .ok (.aload_n 0, 1) := by decide +kernel
theorem dSJ_23 : decode jdk_42_method_150_code 23 = .ok (.iconst 0, 1) := by decide +kernel
theorem dSJ_24 : decode jdk_42_method_150_code 24 = .ok (.putfield 15, 3) := by decide +kernel
theorem dSJ_27 : decode jdk_42_method_150_code 27 = .ok (.aload_n 0, 1) := by decide +kernel
theorem dSJ_28 : decode jdk_42_method_150_code 28 = .ok (.aload_n 3, 1) := by decide +kernel
theorem dSJ_29 : decode jdk_42_method_150_code 29 = .ok (.iconst 0, 1) := by decide +kernel
theorem dSJ_30 : decode jdk_42_method_150_code 30 = .ok (.iload 4, 2) := by decide +kernel
theorem dSJ_32 : decode jdk_42_method_150_code 32 = .ok (.invokestatic 54, 3) := by decide +kernel
theorem dSJ_35 : decode jdk_42_method_150_code 35 = .ok (.putfield 9, 3) := by decide +kernel
theorem dSJ_38 : decode jdk_42_method_150_code 38 = .ok (.goto 59, 3) := by decide +kernel
theorem dSJ_41 : decode jdk_42_method_150_code 41 = .ok (.getstatic 38, 3) := by decide +kernel
theorem dSJ_44 : decode jdk_42_method_150_code 44 = .ok (.ifCond .eq 35, 3) := by decide +kernel
theorem dSJ_47 : decode jdk_42_method_150_code 47 = .ok (.aload_n 1, 1) := by decide +kernel
theorem dSJ_48 : decode jdk_42_method_150_code 48 = .ok (.getfield 1048, 3) := by decide +kernel
theorem dSJ_51 : decode jdk_42_method_150_code 51 = .ok (.ifCond .eq 28, 3) := by decide +kernel
theorem dSJ_54 : decode jdk_42_method_150_code 54 = .ok (.aload_n 0, 1) := by decide +kernel
theorem dSJ_55 : decode jdk_42_method_150_code 55 = .ok (.aload_n 3, 1) := by decide +kernel
theorem dSJ_56 : decode jdk_42_method_150_code 56 = .ok (.iconst 0, 1) := by decide +kernel
theorem dSJ_57 : decode jdk_42_method_150_code 57 = .ok (.iload 4, 2) := by decide +kernel
theorem dSJ_59 : decode jdk_42_method_150_code 59 = .ok (.invokestatic 1051, 3) := by decide +kernel
theorem dSJ_62 : decode jdk_42_method_150_code 62 = .ok (.putfield 9, 3) := by decide +kernel
theorem dSJ_65 : decode jdk_42_method_150_code 65 = .ok (.aload_n 0, 1) := by decide +kernel
theorem dSJ_66 : decode jdk_42_method_150_code 66 = .ok (.aload_n 0, 1) := by decide +kernel
theorem dSJ_67 : decode jdk_42_method_150_code 67 = .ok (.getfield 9, 3) := by decide +kernel
theorem dSJ_70 : decode jdk_42_method_150_code 70 = .ok (.iload 4, 2) := by decide +kernel
theorem dSJ_72 : decode jdk_42_method_150_code 72 = .ok (.invokestatic 47, 3) := by decide +kernel
theorem dSJ_75 : decode jdk_42_method_150_code 75 = .ok (.putfield 15, 3) := by decide +kernel
theorem dSJ_78 : decode jdk_42_method_150_code 78 = .ok (.return_, 1) := by decide +kernel
theorem dSJ_79 : decode jdk_42_method_150_code 79 = .ok (.aload_n 0, 1) := by decide +kernel
theorem dSJ_80 : decode jdk_42_method_150_code 80 = .ok (.iconst 1, 1) := by decide +kernel
theorem dSJ_81 : decode jdk_42_method_150_code 81 = .ok (.putfield 15, 3) := by decide +kernel
theorem dSJ_84 : decode jdk_42_method_150_code 84 = .ok (.aload_n 0, 1) := by decide +kernel
theorem dSJ_85 : decode jdk_42_method_150_code 85 = .ok (.aload_n 3, 1) := by decide +kernel
theorem dSJ_86 : decode jdk_42_method_150_code 86 = .ok (.iconst 0, 1) := by decide +kernel
theorem dSJ_87 : decode jdk_42_method_150_code 87 = .ok (.iload 4, 2) := by decide +kernel
theorem dSJ_89 : decode jdk_42_method_150_code 89 = .ok (.iconst 1, 1) := by decide +kernel
theorem dSJ_90 : decode jdk_42_method_150_code 90 = .ok (.ishl, 1) := by decide +kernel
theorem dSJ_91 : decode jdk_42_method_150_code 91 = .ok (.invokestatic 54, 3) := by decide +kernel
theorem dSJ_94 : decode jdk_42_method_150_code 94 = .ok (.putfield 9, 3) := by decide +kernel
theorem dSJ_97 : decode jdk_42_method_150_code 97 = .ok (.return_, 1) := by decide +kernel
theorem efSJ (m : MethodId) (x0 : Addr) (x1 : Addr) : entryFrame m #[(.ref x0), (.ref x1), .null] 5 = mkF m 0 #[.val (.ref x0), .val (.ref x1), .val .null, .unset, .unset] [] := by first | (simp [entryFrame, mkF, argsToLocals, Value.category]; done) | rfl
def Q_rmSJ (Z : State) (b t : Addr) (kt : ClassId) (cs : List Int32) (x : Addr) (h0 : Heap) (z0 : Int32) (v : Option Value) (h : Heap) (L : List Loc) : Prop := v = none ∧ Fr Z.heap.size L ∧ Keep h0 h [x] ∧ own_Str Z h x cs
set_option maxRecDepth 65536 in
set_option maxHeartbeats 40000000 in
theorem rmSJ (l : Launch) (Z : State) (a0 : Array Value) (hw : ∀ d ∈ tables_1, d.before a0 Z = true) (b t : Addr) (kt : ClassId) (cs : List Int32) (x : Addr) (h0 : Heap) (EZ : Ext Z.heap h0) (z0 : Int32) (O1 : Sta Z Z.heap "java/lang/String" "COMPACT_STRINGS" "Z" (.int z0)) (P5 : ¬ z0 = 0) (HB : own_SB Z h0 b t kt cs) (hs : cs.length ≤ 4) (gx : Z.heap.size ≤ x) (A0 : Exa Z h0 x "java/lang/String") (F0 : Fld Z h0 x "java/lang/String" "value" "[B" .null) (F1 : Fld Z h0 x "java/lang/String" "coder" "B" (.int (0 : Int32))) :
    MetFree l (⟨"java/lang/String", "<init>", "(Ljava/lang/AbstractStringBuilder;Ljava/lang/Void;)V"⟩ : MethodName) (head1 (Jvm.Cond.code (⟨"java/lang/String", "<init>", "(Ljava/lang/AbstractStringBuilder;Ljava/lang/Void;)V"⟩ : MethodName) jdk_42_method_150_code 5 (Option.none : Option FieldType) :: []) ({ frames := 3, cells := 1, slots := 4, locals := 91 } : Room)) (fun aa U => aa = #[(.ref x), (.ref b), .null] ∧ Z.Warmed39 U.vm ∧ U.heap = h0) (fun _ _ _ _ _ => True) (fun _ U o U' => ∃ v L, o = .returned v ∧ (Q_rmSJ Z b t kt cs x h0 z0) v U'.heap L ∧ FrameEnd U o U' L ({ frames := 3, cells := 1, slots := 4, locals := 91 } : Room).cells ({ frames := 3, cells := 1, slots := 4, locals := 91 } : Room).slots) := by
  have HB1 := HB
  obtain ⟨bE, bV, bC, bN, bA, bp, bl⟩ := HB
  refine own_walkN (by exact pnS) ?_
  intro p e s m below meth c T0 X0 hx hby hml hret hlk hnm hown hZ e0 es0 F hF
  refine own_on (fun _ => castTop (efSJ m x b)) ?_
  have N0 := Fr.nil Z.heap.size
  have Q0 := Keep.refl h0 [x]
  refine own_aload_n X0.here hx (hb hby dSJ_0) rfl rfl (pc' := 1) rfl ?_
  obtain ⟨T1, X1, e1, st1⟩ := initO X0 hx hZ hown (hw _ (List.mem_of_getElem? (i := 11) rfl)) (hw _ (List.mem_of_getElem? (i := 12) rfl)) (hw _ (List.mem_of_getElem? (i := 13) rfl)) e0 (g := (mkF m 1 #[.val (.ref x), .val (.ref b), .val .null, .unset, .unset] [(.ref x)])) rfl (by rw [hml]; rfl) rfl (hb hby dSJ_1) (by decide) (W := 0) (by show 2 * 0 + _ ≤ _; exact Nat.le_of_eq rfl) (by decide)
  refine own_on st1 ?_
  show own_Go p e below F (T1.setTop (mkF m 4 #[.val (.ref x), .val (.ref b), .val .null, .unset, .unset] []))
  refine own_aload_n X1.here hx (hb hby dSJ_4) rfl rfl (pc' := 5) rfl ?_
  obtain ⟨cq2, kq2, qa2, qb2, qc2⟩ := isOf hZ e1 HB1.1
  obtain ⟨_, _, ⟨T2, L2, k2, n2⟩, -, X2, ⟨Lc2, hQ2, l2, y2, z2⟩, st2⟩ := X1.virtualBack hx (y := (⟨"java/lang/AbstractStringBuilder", "getValue", "()[B"⟩ : MethodName)) (z := (⟨"java/lang/AbstractStringBuilder", "getValue", "()[B"⟩ : MethodName)) hown (mvT hZ (hw _ (List.mem_of_getElem? (i := 116) rfl))) (mvT hZ (hw _ (List.mem_of_getElem? (i := 117) rfl))) (notFace_of_selects (args := #[]) (mvT hZ (hw _ (List.mem_of_getElem? (i := 119) rfl)))) (mvT hZ (hw _ (List.mem_of_getElem? (i := 119) rfl))) (mvT hZ (hw _ (List.mem_of_getElem? (i := 118) rfl))) (by decide) (backOf (W := 0) (rmGV l Z a0 hw b t kt cs h0 HB1) hZ (hw _ (List.mem_of_getElem? (i := 120) rfl)) (hw _ (List.mem_of_getElem? (i := 58) rfl)) (by decide) (by decide)) qa2 qc2 (g := (mkF m 5 #[.val (.ref x), .val (.ref b), .val .null, .unset, .unset] [(.ref b)])) rfl (by rw [hml]; rfl) (Steps.refl _) (argsL := []) (rest := []) (lenOf pdGV rfl) rfl (by show 2 * 0 + _ ≤ _; exact Nat.le_of_eq rfl) (hb hby dSJ_5) (fun _ _ => ⟨rfl, e1, (Nat.le_of_ble_eq_true rfl), (Nat.le_of_ble_eq_true rfl)⟩)
  dsimp only [Pt.U, Pt.locs, Pt.cells, Pt.slots] at X2 l2 y2 z2 st2 hQ2
  subst l2 y2 z2
  obtain ⟨rfl, N2, E2⟩ := hQ2
  refine own_to st2 ?_
  show own_Go p e below F (T2.setTop (mkF m 8 #[.val (.ref x), .val (.ref b), .val .null, .unset, .unset] [(.ref t)]))
  have N3 := Fr.app N0 N2
  refine own_astore_n X2.here hx (hb hby dSJ_8) rfl (L' := #[.val (.ref x), .val (.ref b), .val .null, .val (.ref t), .unset]) rfl (pc' := 9) rfl ?_
  refine own_aload_n X2.here hx (hb hby dSJ_9) rfl rfl (pc' := 10) rfl ?_
  obtain ⟨cq4, kq4, qa4, qb4, qc4⟩ := isOf hZ E2 HB1.1
  obtain ⟨_, _, ⟨T4, L4, k4, n4⟩, -, X4, ⟨Lc4, hQ4, l4, y4, z4⟩, st4⟩ := X2.virtualBack hx (y := (⟨"java/lang/AbstractStringBuilder", "length", "()I"⟩ : MethodName)) (z := (⟨"java/lang/StringBuilder", "length", "()I"⟩ : MethodName)) hown (mvT hZ (hw _ (List.mem_of_getElem? (i := 121) rfl))) (mvT hZ (hw _ (List.mem_of_getElem? (i := 122) rfl))) (own_nf (y := (⟨"java/lang/AbstractStringBuilder", "length", "()I"⟩ : MethodName)) (args := #[]) (hc := rfl) (mvT hZ (hw _ (List.mem_of_getElem? (i := 82) rfl)))) (mvT hZ (hw _ (List.mem_of_getElem? (i := 124) rfl))) (mvT hZ (hw _ (List.mem_of_getElem? (i := 125) rfl))) (by decide) (backOf (W := 0) (rmSL l Z a0 hw b t kt cs h0 HB1) hZ (hw _ (List.mem_of_getElem? (i := 126) rfl)) (hw _ (List.mem_of_getElem? (i := 50) rfl)) (by decide) (by decide)) qa4 qc4 (g := (mkF m 10 #[.val (.ref x), .val (.ref b), .val .null, .val (.ref t), .unset] [(.ref b)])) rfl (by rw [hml]; rfl) (Steps.refl _) (argsL := []) (rest := []) (lenOf pdI rfl) rfl (by show 2 * 0 + _ ≤ _; exact Nat.le_of_eq rfl) (hb hby dSJ_10) (fun _ _ => ⟨rfl, E2, (Nat.le_of_ble_eq_true rfl), (Nat.le_of_ble_eq_true rfl)⟩)
  dsimp only [Pt.U, Pt.locs, Pt.cells, Pt.slots] at X4 l4 y4 z4 st4 hQ4
  subst l4 y4 z4
  obtain ⟨rfl, N4, E4⟩ := hQ4
  refine own_to st4 ?_
  show own_Go p e below F (T4.setTop (mkF m 13 #[.val (.ref x), .val (.ref b), .val .null, .val (.ref t), .unset] [(.int (Int32.ofNat cs.length))]))
  have N5 := Fr.app N3 N4
  refine own_istore X4.here hx (hb hby dSJ_13) (L' := #[.val (.ref x), .val (.ref b), .val .null, .val (.ref t), .val (.int (Int32.ofNat cs.length))]) rfl (pc' := 15) rfl ?_
  refine own_aload_n X4.here hx (hb hby dSJ_15) rfl rfl (pc' := 16) rfl ?_
  obtain ⟨cq6, kq6, qa6, qb6, qc6⟩ := isOf hZ E4 HB1.1
  obtain ⟨_, _, ⟨T6, L6, k6, n6⟩, -, X6, ⟨Lc6, hQ6, l6, y6, z6⟩, st6⟩ := X4.virtualBack hx (y := (⟨"java/lang/AbstractStringBuilder", "isLatin1", "()Z"⟩ : MethodName)) (z := (⟨"java/lang/AbstractStringBuilder", "isLatin1", "()Z"⟩ : MethodName)) hown (mvT hZ (hw _ (List.mem_of_getElem? (i := 129) rfl))) (mvT hZ (hw _ (List.mem_of_getElem? (i := 130) rfl))) (notFace_of_selects (args := #[]) (mvT hZ (hw _ (List.mem_of_getElem? (i := 132) rfl)))) (mvT hZ (hw _ (List.mem_of_getElem? (i := 132) rfl))) (mvT hZ (hw _ (List.mem_of_getElem? (i := 131) rfl))) (by decide) (backOf (W := 0) (rmAJ l Z a0 hw b t kt cs h0 EZ z0 O1 P5 HB1) hZ (hw _ (List.mem_of_getElem? (i := 133) rfl)) (hw _ (List.mem_of_getElem? (i := 58) rfl)) (by decide) (by decide)) qa6 qc6 (g := (mkF m 16 #[.val (.ref x), .val (.ref b), .val .null, .val (.ref t), .val (.int (Int32.ofNat cs.length))] [(.ref b)])) rfl (by rw [hml]; rfl) (Steps.refl _) (argsL := []) (rest := []) (lenOf pdZ rfl) rfl (by show 2 * 0 + _ ≤ _; exact Nat.le_of_eq rfl) (hb hby dSJ_16) (fun _ _ => ⟨rfl, E4, (Nat.le_of_ble_eq_true rfl), (Nat.le_of_ble_eq_true rfl)⟩)
  dsimp only [Pt.U, Pt.locs, Pt.cells, Pt.slots] at X6 l6 y6 z6 st6 hQ6
  subst l6 y6 z6
  obtain ⟨rfl, N6, E6⟩ := hQ6
  refine own_to st6 ?_
  show own_Go p e below F (T6.setTop (mkF m 19 #[.val (.ref x), .val (.ref b), .val .null, .val (.ref t), .val (.int (Int32.ofNat cs.length))] [(.int ((1 : Int32)))]))
  have N7 := Fr.app N5 N6
  refine own_ifeq X6.here hx (hb hby dSJ_19) (by decide) (pc' := 41) (by decide) (pc2 := 22) rfl (fun q => absurd q (by decide)) (fun q8 => ?_)
  refine own_aload_n X6.here hx (hb hby dSJ_22) rfl rfl (pc' := 23) rfl ?_
  refine own_iconst X6.here hx (hb hby dSJ_23) (v := 0) rfl (pc' := 24) rfl ?_
  have hxt : x ≠ t := Exa.neArv A0 bA (hw _ own_wiS)
  have hl16 := own_padL (cs := cs) (by omega)
  have M0 := own_ext_refl h0
  obtain ⟨T9, h9, X9, e9, W9, st9⟩ := putF X6 hx hZ hown (host := "") (Or.inl (hw _ (List.mem_of_getElem? (i := 21) rfl))) Via.refl E6 F1 A0 (Or.inr ⟨(hw _ (List.mem_of_getElem? (i := 17) rfl)), rfl, hnm⟩) (hw _ (List.mem_of_getElem? (i := 2) rfl)) (ty := .byte) (by decide) rfl rfl (g := (mkF m 24 #[.val (.ref x), .val (.ref b), .val .null, .val (.ref t), .val (.int (Int32.ofNat cs.length))] [(.int ((0 : Int32))), (.ref x)])) rfl rfl (hb hby dSJ_24)
  have f10 := A0.wr W9
  have f11 := F0.other W9 (Or.inr (slot_ne (Or.inr (hw _ (List.mem_of_getElem? (i := 16) rfl))) (Or.inr (hw _ (List.mem_of_getElem? (i := 17) rfl))) (by decide) (t := .array .byte) (by decide) (t' := .byte) (by decide)))
  have f12 := F1.same W9
  have f13 := bA.other W9 (Ne.symm hxt)
  have f14 := Q0.wr W9 (Or.inl (by simp))
  have N15 := own_Fr_snoc (sl := Jvm.RoadKit.slotOf Z "java/lang/String" "coder" "B") N7 gx
  refine own_on st9 ?_
  show own_Go p e below F (T9.setTop (mkF m 27 #[.val (.ref x), .val (.ref b), .val .null, .val (.ref t), .val (.int (Int32.ofNat cs.length))] []))
  refine own_aload_n X9.here hx (hb hby dSJ_27) rfl rfl (pc' := 28) rfl ?_
  refine own_aload_n X9.here hx (hb hby dSJ_28) rfl rfl (pc' := 29) rfl ?_
  refine own_iconst X9.here hx (hb hby dSJ_29) (v := 0) rfl (pc' := 30) rfl ?_
  refine own_iload X9.here hx (hb hby dSJ_30) rfl (pc' := 32) rfl ?_
  have EZ1 : Ext Z.heap h9 := own_ext_keep EZ f14 (fun y hy => by simp only [List.mem_cons, List.not_mem_nil, or_false] at hy; subst hy; exact gx)
  obtain ⟨_, _, ⟨T16, L16, k16, n16⟩, -, X16, ⟨Lc16, hQ16, l16, y16, z16⟩, st16⟩ := Jvm.LawKit.callS X9 hx (y := (⟨"java/util/Arrays", "copyOfRange", "([BII)[B"⟩ : MethodName)) hown (mvT hZ (hw _ (List.mem_of_getElem? (i := 134) rfl))) (mvT hZ (hw _ (List.mem_of_getElem? (i := 135) rfl))) (mvT hZ (hw _ (List.mem_of_getElem? (i := 136) rfl))) (mvT hZ (hw _ (List.mem_of_getElem? (i := 137) rfl))) (by decide) (backOf (W := 1) (rmCR l Z a0 hw t kt (own_pad cs) cs.length h9 EZ1 (by rw [hl16]; exact f13) (by omega) hs (by omega)) hZ (hw _ (List.mem_of_getElem? (i := 137) rfl)) (hw _ (List.mem_of_getElem? (i := 136) rfl)) (by decide) (by decide)) (g := (mkF m 32 #[.val (.ref x), .val (.ref b), .val .null, .val (.ref t), .val (.int (Int32.ofNat cs.length))] [(.int (Int32.ofNat cs.length)), (.int ((0 : Int32))), (.ref t), (.ref x)])) rfl (by rw [hml]; rfl) (argsL := [(.ref t), (.int ((0 : Int32))), (.int (Int32.ofNat cs.length))]) (rest := [(.ref x)]) (lenOf pdRB rfl) rfl (by show 2 * 0 + _ ≤ _; exact Nat.le_of_eq rfl) (hb hby dSJ_32) (fun _ _ => ⟨rfl, e9, (Nat.le_of_ble_eq_true rfl), (Nat.le_of_ble_eq_true rfl)⟩)
  dsimp only [Pt.U, Pt.locs, Pt.cells, Pt.slots] at X16 l16 y16 z16 st16 hQ16
  subst l16 y16 z16
  obtain ⟨t16, k16b, rfl, E16, N16, g16, V16⟩ := hQ16
  refine own_on (st16) ?_
  show own_Go p e below F (T16.setTop (mkF m 35 #[.val (.ref x), .val (.ref b), .val .null, .val (.ref t), .val (.int (Int32.ofNat cs.length))] [(.ref t16), (.ref x)]))
  have f17 := f10.ext E16
  have f18 := f11.ext E16
  have f19 := f12.ext E16
  have f20 := f13.ext E16
  have f21 := f14.ext E16
  have N22 := Fr.app N15 N16
  rw [own_padT] at V16
  have ne1 : x ≠ t16 := Exa.neArv f17 V16 (hw _ own_wiS)
  obtain ⟨T23, h23, X23, e23, W23, st23⟩ := putF X16 hx hZ hown (host := "") (Or.inl (hw _ (List.mem_of_getElem? (i := 20) rfl))) Via.refl rfl f18 f17 (Or.inr ⟨(hw _ (List.mem_of_getElem? (i := 16) rfl)), rfl, hnm⟩) (hw _ (List.mem_of_getElem? (i := 2) rfl)) (ty := .array .byte) (by decide) rfl rfl (g := (mkF m 35 #[.val (.ref x), .val (.ref b), .val .null, .val (.ref t), .val (.int (Int32.ofNat cs.length))] [(.ref t16), (.ref x)])) rfl rfl (hb hby dSJ_35)
  have f24 := f17.wr W23
  have f25 := f18.same W23
  have f26 := f19.other W23 (Or.inr (slot_ne (Or.inr (hw _ (List.mem_of_getElem? (i := 17) rfl))) (Or.inr (hw _ (List.mem_of_getElem? (i := 16) rfl))) (by decide) (t := .byte) (by decide) (t' := .array .byte) (by decide)))
  have f27 := V16.other W23 (Ne.symm ne1)
  have f28 := f21.wr W23 (Or.inl (by simp))
  have N29 := own_Fr_snoc (sl := Jvm.RoadKit.slotOf Z "java/lang/String" "value" "[B") N22 gx
  refine own_on st23 ?_
  show own_Go p e below F (T23.setTop (mkF m 38 #[.val (.ref x), .val (.ref b), .val .null, .val (.ref t), .val (.int (Int32.ofNat cs.length))] []))
  refine own_goto X23.here hx (hb hby dSJ_38) (by decide) (pc' := 97) (by decide) ?_
  exact own_retV X23 hx hlk hret (hb hby dSJ_97) (fun t ht hE => hF t _ _ _ _ (by rw [ht, (e23 : _ = h23)]; exact ⟨rfl, N29, f28, t16, k16b, f24, f25, f26, f27, bp, (by omega)⟩) hE (by decide) (by decide))
theorem dSK_0 : decode jdk_42_method_53_code 0 = .ok (.aload_n 0, 1) := by decide +kernel
theorem dSK_1 : decode jdk_42_method_53_code 1 = .ok (.aload_n 1, 1) := by decide +kernel
theorem dSK_2 : decode jdk_42_method_53_code 2 = .ok (.aconst_null, 1) := by decide +kernel
theorem dSK_3 : decode jdk_42_method_53_code 3 = .ok (.invokespecial 489, 3) := by decide +kernel
theorem dSK_6 : decode jdk_42_method_53_code 6 = .ok (.return_, 1) := by decide +kernel
def Q_rmSK (Z : State) (b t : Addr) (kt : ClassId) (cs : List Int32) (x : Addr) (h0 : Heap) (z0 : Int32) (v : Option Value) (h : Heap) (L : List Loc) : Prop := v = none ∧ Fr Z.heap.size L ∧ Keep h0 h [x] ∧ own_Str Z h x cs
set_option maxRecDepth 65536 in
set_option maxHeartbeats 40000000 in
theorem rmSK (l : Launch) (Z : State) (a0 : Array Value) (hw : ∀ d ∈ tables_1, d.before a0 Z = true) (b t : Addr) (kt : ClassId) (cs : List Int32) (x : Addr) (h0 : Heap) (EZ : Ext Z.heap h0) (z0 : Int32) (O1 : Sta Z Z.heap "java/lang/String" "COMPACT_STRINGS" "Z" (.int z0)) (P5 : ¬ z0 = 0) (HB : own_SB Z h0 b t kt cs) (hs : cs.length ≤ 4) (gx : Z.heap.size ≤ x) (A0 : Exa Z h0 x "java/lang/String") (F0 : Fld Z h0 x "java/lang/String" "value" "[B" .null) (F1 : Fld Z h0 x "java/lang/String" "coder" "B" (.int (0 : Int32))) :
    MetFree l (⟨"java/lang/String", "<init>", "(Ljava/lang/StringBuilder;)V"⟩ : MethodName) (head1 (Jvm.Cond.code (⟨"java/lang/String", "<init>", "(Ljava/lang/StringBuilder;)V"⟩ : MethodName) jdk_42_method_53_code 2 (Option.none : Option FieldType) :: []) ({ frames := 4, cells := 1, slots := 4, locals := 107 } : Room)) (fun aa U => aa = #[(.ref x), (.ref b)] ∧ Z.Warmed39 U.vm ∧ U.heap = h0) (fun _ _ _ _ _ => True) (fun _ U o U' => ∃ v L, o = .returned v ∧ (Q_rmSK Z b t kt cs x h0 z0) v U'.heap L ∧ FrameEnd U o U' L ({ frames := 4, cells := 1, slots := 4, locals := 107 } : Room).cells ({ frames := 4, cells := 1, slots := 4, locals := 107 } : Room).slots) := by
  refine own_walkN (by exact pnS) ?_
  intro p e s m below meth c T0 X0 hx hby hml hret hlk hnm hown hZ e0 es0 F hF
  refine own_on (fun _ => castTop (efRR m x b)) ?_
  have N0 := Fr.nil Z.heap.size
  refine own_aload_n X0.here hx (hb hby dSK_0) rfl rfl (pc' := 1) rfl ?_
  refine own_aload_n X0.here hx (hb hby dSK_1) rfl rfl (pc' := 2) rfl ?_
  refine own_aconst_null X0.here hx (hb hby dSK_2) (pc' := 3) rfl ?_
  obtain ⟨_, _, ⟨T1, L1, k1, n1⟩, -, X1, ⟨Lc1, hQ1, l1, y1, z1⟩, st1⟩ := X0.specialBack hx (y := (⟨"java/lang/String", "<init>", "(Ljava/lang/AbstractStringBuilder;Ljava/lang/Void;)V"⟩ : MethodName)) rfl hown (mvT hZ (hw _ (List.mem_of_getElem? (i := 113) rfl))) (mvT hZ (hw _ (List.mem_of_getElem? (i := 114) rfl))) (mvT hZ (hw _ (List.mem_of_getElem? (i := 115) rfl))) (by decide) (backOf (W := 0) (rmSJ l Z a0 hw b t kt cs x h0 EZ z0 O1 P5 HB hs gx A0 F0 F1) hZ (hw _ (List.mem_of_getElem? (i := 115) rfl)) (hw _ (List.mem_of_getElem? (i := 3) rfl)) (by decide) (by decide)) (g := (mkF m 3 #[.val (.ref x), .val (.ref b)] [.null, (.ref b), (.ref x)])) rfl (by rw [hml]; rfl) (Steps.refl _) (a := x) (argsL := [(.ref b), .null]) (rest := []) (lenOf pdSJ rfl) rfl (by show 2 * 0 + _ ≤ _; exact Nat.le_of_eq rfl) (hb hby dSK_3) (fun _ _ => ⟨rfl, e0, (Nat.le_of_ble_eq_true rfl), (Nat.le_of_ble_eq_true rfl)⟩)
  dsimp only [Pt.U, Pt.locs, Pt.cells, Pt.slots] at X1 l1 y1 z1 st1 hQ1
  subst l1 y1 z1
  obtain ⟨rfl, N1, K1, B1⟩ := hQ1
  refine own_to st1 ?_
  show own_Go p e below F (T1.setTop (mkF m 6 #[.val (.ref x), .val (.ref b)] []))
  have N2 := Fr.app N0 N1
  exact own_retV X1 hx hlk hret (hb hby dSK_6) (fun t ht hE => hF t _ _ _ _ (by rw [ht, (rfl : _ = T1.heap)]; exact ⟨rfl, N2, K1, B1⟩) hE (by decide) (by decide))
theorem dTS_0 : decode jdk_67_method_42_code 0 = .ok (.new 18, 3) := by decide +kernel
theorem dTS_3 : decode jdk_67_method_42_code 3 = .ok (.dup, 1) := by decide +kernel
theorem dTS_4 : decode jdk_67_method_42_code 4 = .ok (.aload_n 0, 1) := by decide +kernel
theorem dTS_5 : decode jdk_67_method_42_code 5 = .ok (.invokespecial 137, 3) := by decide +kernel
theorem dTS_8 : decode jdk_67_method_42_code 8 = .ok (.areturn, 1) := by decide +kernel
def Q_rmTS (Z : State) (b t : Addr) (kt : ClassId) (cs : List Int32) (h0 : Heap) (z0 : Int32) (v : Option Value) (h : Heap) (L : List Loc) : Prop := ∃ x, v = some (.ref x) ∧ own_Str Z h x cs ∧ Ext h0 h ∧ Fr Z.heap.size L
set_option maxRecDepth 65536 in
set_option maxHeartbeats 40000000 in
theorem rmTS (l : Launch) (Z : State) (a0 : Array Value) (hw : ∀ d ∈ tables_1, d.before a0 Z = true) (b t : Addr) (kt : ClassId) (cs : List Int32) (h0 : Heap) (EZ : Ext Z.heap h0) (z0 : Int32) (O1 : Sta Z Z.heap "java/lang/String" "COMPACT_STRINGS" "Z" (.int z0)) (P5 : ¬ z0 = 0) (HB : own_SB Z h0 b t kt cs) (hs : cs.length ≤ 4) :
    MetFree l (⟨"java/lang/StringBuilder", "toString", "()Ljava/lang/String;"⟩ : MethodName) (head1 (Jvm.Cond.code (⟨"java/lang/StringBuilder", "toString", "()Ljava/lang/String;"⟩ : MethodName) jdk_67_method_42_code 1 (Option.some (FieldType.object "java/lang/String")) :: []) ({ frames := 5, cells := 2, slots := 8, locals := 121 } : Room)) (fun aa U => aa = #[(.ref b)] ∧ Z.Warmed39 U.vm ∧ U.heap = h0) (fun _ _ _ _ _ => True) (fun _ U o U' => ∃ v L, o = .returned v ∧ (Q_rmTS Z b t kt cs h0 z0) v U'.heap L ∧ FrameEnd U o U' L ({ frames := 5, cells := 2, slots := 8, locals := 121 } : Room).cells ({ frames := 5, cells := 2, slots := 8, locals := 121 } : Room).slots) := by
  refine own_walkN (by exact pnSB) ?_
  intro p e s m below meth c T0 X0 hx hby hml hret hlk hnm hown hZ e0 es0 F hF
  refine own_on (fun _ => castTop (efR m b)) ?_
  have M0 := own_ext_refl h0
  have N0 := Fr.nil Z.heap.size
  obtain ⟨T1, h1, X1, e1, E1, A1, D1, -, st1⟩ := newO X0 hx hZ hown (hw _ (List.mem_of_getElem? (i := 109) rfl)) (hw _ (List.mem_of_getElem? (i := 2) rfl)) (hw _ (List.mem_of_getElem? (i := 3) rfl)) e0 (g := (mkF m 0 #[.val (.ref b)] [])) rfl (hb hby dTS_0) (by decide) (by decide)
  obtain ⟨a1, g1⟩ : ∃ z, z = h0.size := ⟨_, rfl⟩
  rw [← g1] at A1 D1 st1
  have ge2 : h0.size ≤ a1 := by rw [g1]; exact M0.1
  have f3 := own_ext_trans M0 E1
  have F1_0 : Fld Z h1 a1 "java/lang/String" "value" "[B" (.null) := (D1 (Or.inr (hw _ (List.mem_of_getElem? (i := 16) rfl))) (ty := .array .byte) (by decide))
  have F1_1 : Fld Z h1 a1 "java/lang/String" "coder" "B" (.int ((0 : Int32))) := (D1 (Or.inr (hw _ (List.mem_of_getElem? (i := 17) rfl))) (ty := .byte) (by decide))
  refine own_on st1 ?_
  show own_Go p e below F (T1.setTop (mkF m 3 #[.val (.ref b)] [(.ref a1)]))
  have gz_a1 : Z.heap.size ≤ a1 := Nat.le_trans EZ.1 ge2
  refine own_dup X1.here hx (hb hby dTS_3) rfl (pc' := 4) rfl ?_
  refine own_aload_n X1.here hx (hb hby dTS_4) rfl rfl (pc' := 5) rfl ?_
  obtain ⟨_, _, ⟨T4, L4, k4, n4⟩, -, X4, ⟨Lc4, hQ4, l4, y4, z4⟩, st4⟩ := X1.specialBack hx (y := (⟨"java/lang/String", "<init>", "(Ljava/lang/StringBuilder;)V"⟩ : MethodName)) rfl hown (mvT hZ (hw _ (List.mem_of_getElem? (i := 110) rfl))) (mvT hZ (hw _ (List.mem_of_getElem? (i := 111) rfl))) (mvT hZ (hw _ (List.mem_of_getElem? (i := 112) rfl))) (by decide) (backOf (W := 1) (rmSK l Z a0 hw b t kt cs a1 h1 (own_ext_trans EZ f3) z0 O1 P5 (HB.ext f3) hs gz_a1 A1 F1_0 F1_1) hZ (hw _ (List.mem_of_getElem? (i := 112) rfl)) (hw _ (List.mem_of_getElem? (i := 3) rfl)) (by decide) (by decide)) (g := (mkF m 5 #[.val (.ref b)] [(.ref b), (.ref a1), (.ref a1)])) rfl (by rw [hml]; rfl) (Steps.refl _) (a := a1) (argsL := [(.ref b)]) (rest := [(.ref a1)]) (lenOf pdSI rfl) rfl (by show 2 * 0 + _ ≤ _; exact Nat.le_of_eq rfl) (hb hby dTS_5) (fun _ _ => ⟨rfl, e1, (Nat.le_of_ble_eq_true rfl), (Nat.le_of_ble_eq_true rfl)⟩)
  dsimp only [Pt.U, Pt.locs, Pt.cells, Pt.slots] at X4 l4 y4 z4 st4 hQ4
  subst l4 y4 z4
  obtain ⟨rfl, N4, K4, B4⟩ := hQ4
  refine own_to st4 ?_
  show own_Go p e below F (T4.setTop (mkF m 8 #[.val (.ref b)] [(.ref a1)]))
  have f5 := own_ext_keep f3 K4 (fun y hy => by simp only [List.mem_cons, List.not_mem_nil, or_false] at hy; rcases hy with rfl <;> assumption)
  have N6 := Fr.app N0 N4
  exact own_retA X4 hx hlk hret rfl rfl (hb hby dTS_8) (fun t ht hE => hF t _ _ _ _ (by rw [ht, (rfl : _ = T4.heap)]; exact ⟨_, rfl, B4, f5, N6⟩) hE (by decide) (by decide))
theorem dCB_0 : decode prog_2_method_2_code 0 = .ok (.aload_n 0, 1) := by decide +kernel
theorem dCB_1 : decode prog_2_method_2_code 1 = .ok (.ldc 7, 2) := by decide +kernel
theorem dCB_3 : decode prog_2_method_2_code 3 = .ok (.invokevirtual 9, 3) := by decide +kernel
theorem dCB_6 : decode prog_2_method_2_code 6 = .ok (.ifCond .eq 7, 3) := by decide +kernel
theorem dCB_9 : decode prog_2_method_2_code 9 = .ok (.aload_n 0, 1) := by decide +kernel
theorem dCB_10 : decode prog_2_method_2_code 10 = .ok (.goto 22, 3) := by decide +kernel
theorem dCB_13 : decode prog_2_method_2_code 13 = .ok (.new 15, 3) := by decide +kernel
theorem dCB_16 : decode prog_2_method_2_code 16 = .ok (.dup, 1) := by decide +kernel
theorem dCB_17 : decode prog_2_method_2_code 17 = .ok (.invokespecial 17, 3) := by decide +kernel
theorem dCB_20 : decode prog_2_method_2_code 20 = .ok (.aload_n 0, 1) := by decide +kernel
theorem dCB_21 : decode prog_2_method_2_code 21 = .ok (.invokevirtual 18, 3) := by decide +kernel
theorem dCB_24 : decode prog_2_method_2_code 24 = .ok (.ldc 7, 2) := by decide +kernel
theorem dCB_26 : decode prog_2_method_2_code 26 = .ok (.invokevirtual 18, 3) := by decide +kernel
theorem dCB_29 : decode prog_2_method_2_code 29 = .ok (.invokevirtual 22, 3) := by decide +kernel
theorem dCB_32 : decode prog_2_method_2_code 32 = .ok (.areturn, 1) := by decide +kernel
def Q_rmCA (Z : State) (x : Addr) (cs : List Int32) (k0 : Nat) (h0 : Heap) (z0 : Int32) (v : Option Value) (h : Heap) (L : List Loc) : Prop := v = some (.ref x) ∧ Ext h0 h ∧ Fr Z.heap.size L
set_option maxRecDepth 65536 in
set_option maxHeartbeats 40000000 in
theorem rmCA (l : Launch) (Z : State) (a0 : Array Value) (hw : ∀ d ∈ tables_1, d.before a0 Z = true) (hEL : EW Z a0 EL) (x : Addr) (cs : List Int32) (k0 : Nat) (h0 : Heap) (EZ : Ext Z.heap h0) (z0 : Int32) (O1 : Sta Z Z.heap "java/lang/String" "COMPACT_STRINGS" "Z" (.int z0)) (P5 : ¬ z0 = 0) (S : own_Str Z h0 x cs) (hk : cs.length = k0 + 1) (hq : cs.getD k0 0 = 47) :
    MetFree l (⟨"com/example/cartulary/cartulary/RegisterUris", "childBase", "(Ljava/lang/String;)Ljava/lang/String;"⟩ : MethodName) (head1 (Jvm.Cond.code (⟨"com/example/cartulary/cartulary/RegisterUris", "childBase", "(Ljava/lang/String;)Ljava/lang/String;"⟩ : MethodName) prog_2_method_2_code 1 (Option.some (FieldType.object "java/lang/String")) :: []) ({ frames := 4, cells := 2, slots := 8, locals := 64 } : Room)) (fun aa U => aa = #[(.ref x)] ∧ Z.Warmed39 U.vm ∧ U.heap = h0 ∧ CHv Z EL U.vm h0 ∧ ∀ yy ∈ ([] : List Addr), Safe Z EL U.vm h0 yy) (fun _ _ _ _ _ => True) (fun _ U o U' => ∃ v L, o = .returned v ∧ (Q_rmCA Z x cs k0 h0 z0) v U'.heap L ∧ CHr Z EL U.vm U.heap U'.vm U'.heap ∧ ReturnedEndW U o U' L ({ frames := 4, cells := 2, slots := 8, locals := 64 } : Room).cells ({ frames := 4, cells := 2, slots := 8, locals := 64 } : Room).slots) := by
  refine own_walkW (by exact pnRU) ?_
  intro p e s m below meth c T0 X0 hx hby hml hret hlk hnm hs0 e0 I0 hsf F hF
  refine own_on (fun _ => castTop (efR m x)) ?_
  have M0 := own_ext_refl h0
  have N0 := Fr.nil Z.heap.size
  refine own_aload_n X0.here hx (hb hby dCB_0) rfl rfl (pc' := 1) rfl ?_
  obtain ⟨b1, T1, t1, kb1, X1, E1, I1, C1, A1, Fc1, Fv1, V1, hn1, st1⟩ := own_ldcT X0 hx I0 (hw _ (List.mem_of_getElem? (i := 26) rfl)) (own_strW hw) e0 hEL (by simp [EL]) (vs := [.int ((47 : Int32).toInt8.toInt32)]) (z := 1) (by decide) (by decide) (by decide) (g := (mkF m 1 #[.val (.ref x)] [(.ref x)])) rfl (hb hby dCB_1) (n := 4) (by decide) (by decide) (by decide) (by decide)
  have f2 := own_ext_trans M0 E1
  refine own_on st1 ?_
  show own_Go p e below F (T1.setTop (mkF m 3 #[.val (.ref x)] [(.ref b1), (.ref x)]))
  have S3 : own_Str Z T1.heap b1 [47] := ⟨t1, kb1, A1, Fv1, Fc1, V1, (by decide), (by decide)⟩
  obtain ⟨cq4, kq4, qa4, qb4, qc4⟩ := isOf I1.1 rfl (S.ext f2).exa
  obtain ⟨_, _, ⟨T4, L4, k4, n4⟩, -, X4, ⟨Lc4, hQ4, l4, y4, z4⟩, st4⟩ := X1.virtualBack hx (y := (⟨"java/lang/String", "endsWith", "(Ljava/lang/String;)Z"⟩ : MethodName)) (z := (⟨"java/lang/String", "endsWith", "(Ljava/lang/String;)Z"⟩ : MethodName)) I1.2.1 (mvT I1.1 (hw _ (List.mem_of_getElem? (i := 27) rfl))) (mvT I1.1 (hw _ (List.mem_of_getElem? (i := 28) rfl))) (notFace_of_selects (args := #[]) (mvT I1.1 (hw _ (List.mem_of_getElem? (i := 30) rfl)))) (mvT I1.1 (hw _ (List.mem_of_getElem? (i := 30) rfl))) (mvT I1.1 (hw _ (List.mem_of_getElem? (i := 29) rfl))) (by decide) (backOf (W := 0) (rmEB l Z a0 hw x b1 cs k0 T1.heap (own_ext_trans EZ f2) z0 O1 P5 (S.ext f2) S3 hk) I1.1 (hw _ (List.mem_of_getElem? (i := 31) rfl)) (hw _ (List.mem_of_getElem? (i := 3) rfl)) (by decide) (by decide)) qa4 qc4 (g := (mkF m 3 #[.val (.ref x)] [(.ref b1), (.ref x)])) rfl (by rw [hml]; rfl) (Steps.refl _) (argsL := [(.ref b1)]) (rest := []) (lenOf pdEW rfl) rfl (by show 2 * 0 + _ ≤ _; exact Nat.le_of_eq rfl) (hb hby dCB_3) (fun _ _ => ⟨rfl, rfl, (Nat.le_of_ble_eq_true rfl), (Nat.le_of_ble_eq_true rfl)⟩)
  dsimp only [Pt.U, Pt.locs, Pt.cells, Pt.slots] at X4 l4 y4 z4 st4 hQ4
  subst l4 y4 z4
  obtain ⟨rfl, N4, E4⟩ := hQ4
  refine own_to st4 ?_
  show own_Go p e below F (T4.setTop (mkF m 6 #[.val (.ref x)] [(.int ((if cs.getD k0 0 = 47 then (1 : Int32) else 0)))]))
  have N5 := Fr.app N0 N4
  rw [if_pos hq]
  show own_Go p e below F (T4.setTop (mkF m 6 #[.val (.ref x)] [(.int ((1 : Int32)))]))
  refine own_ifeq X4.here hx (hb hby dCB_6) (by decide) (pc' := 13) (by decide) (pc2 := 9) rfl (fun q => absurd q (by decide)) (fun q6 => ?_)
  refine own_aload_n X4.here hx (hb hby dCB_9) rfl rfl (pc' := 10) rfl ?_
  refine own_goto X4.here hx (hb hby dCB_10) (by decide) (pc' := 32) (by decide) ?_
  exact own_retAW X4 hx hlk hEL I1 E4 hret rfl rfl (hb hby dCB_32) (fun t ht hC hE => hF t _ _ _ _ (by rw [ht]; exact ⟨rfl, f2, N5⟩) hC hE (by decide) (by decide))
def Q_rmCB (Z : State) (x : Addr) (cs : List Int32) (k0 : Nat) (h0 : Heap) (z0 : Int32) (v : Option Value) (h : Heap) (L : List Loc) : Prop := ∃ y, v = some (.ref y) ∧ own_Str Z h y (cs ++ [47]) ∧ Ext h0 h ∧ Fr Z.heap.size L
set_option maxRecDepth 65536 in
set_option maxHeartbeats 40000000 in
theorem rmCB (l : Launch) (Z : State) (a0 : Array Value) (hw : ∀ d ∈ tables_1, d.before a0 Z = true) (hEL : EW Z a0 EL) (x : Addr) (cs : List Int32) (k0 : Nat) (h0 : Heap) (EZ : Ext Z.heap h0) (z0 : Int32) (O1 : Sta Z Z.heap "java/lang/String" "COMPACT_STRINGS" "Z" (.int z0)) (P5 : ¬ z0 = 0) (S : own_Str Z h0 x cs) (hk : cs.length = k0 + 1) (hq : ¬ cs.getD k0 0 = 47) (h3 : cs.length ≤ 3) :
    MetFree l (⟨"com/example/cartulary/cartulary/RegisterUris", "childBase", "(Ljava/lang/String;)Ljava/lang/String;"⟩ : MethodName) (head1 (Jvm.Cond.code (⟨"com/example/cartulary/cartulary/RegisterUris", "childBase", "(Ljava/lang/String;)Ljava/lang/String;"⟩ : MethodName) prog_2_method_2_code 1 (Option.some (FieldType.object "java/lang/String")) :: []) ({ frames := 6, cells := 8, slots := 44, locals := 133 } : Room)) (fun aa U => aa = #[(.ref x)] ∧ Z.Warmed39 U.vm ∧ U.heap = h0 ∧ CHv Z EL U.vm h0 ∧ ∀ yy ∈ ([] : List Addr), Safe Z EL U.vm h0 yy) (fun _ _ _ _ _ => True) (fun _ U o U' => ∃ v L, o = .returned v ∧ (Q_rmCB Z x cs k0 h0 z0) v U'.heap L ∧ CHr Z EL U.vm U.heap U'.vm U'.heap ∧ ReturnedEndW U o U' L ({ frames := 6, cells := 8, slots := 44, locals := 133 } : Room).cells ({ frames := 6, cells := 8, slots := 44, locals := 133 } : Room).slots) := by
  refine own_walkW (by exact pnRU) ?_
  intro p e s m below meth c T0 X0 hx hby hml hret hlk hnm hs0 e0 I0 hsf F hF
  refine own_on (fun _ => castTop (efR m x)) ?_
  have M0 := own_ext_refl h0
  have N0 := Fr.nil Z.heap.size
  refine own_aload_n X0.here hx (hb hby dCB_0) rfl rfl (pc' := 1) rfl ?_
  obtain ⟨b1, T1, t1, kb1, X1, E1, I1, C1, A1, Fc1, Fv1, V1, hn1, st1⟩ := own_ldcT X0 hx I0 (hw _ (List.mem_of_getElem? (i := 26) rfl)) (own_strW hw) e0 hEL (by simp [EL]) (vs := [.int ((47 : Int32).toInt8.toInt32)]) (z := 1) (by decide) (by decide) (by decide) (g := (mkF m 1 #[.val (.ref x)] [(.ref x)])) rfl (hb hby dCB_1) (n := 4) (by decide) (by decide) (by decide) (by decide)
  have f2 := own_ext_trans M0 E1
  refine own_on st1 ?_
  show own_Go p e below F (T1.setTop (mkF m 3 #[.val (.ref x)] [(.ref b1), (.ref x)]))
  have S3 : own_Str Z T1.heap b1 [47] := ⟨t1, kb1, A1, Fv1, Fc1, V1, (by decide), (by decide)⟩
  obtain ⟨cq4, kq4, qa4, qb4, qc4⟩ := isOf I1.1 rfl (S.ext f2).exa
  obtain ⟨_, _, ⟨T4, L4, k4, n4⟩, -, X4, ⟨Lc4, hQ4, l4, y4, z4⟩, st4⟩ := X1.virtualBack hx (y := (⟨"java/lang/String", "endsWith", "(Ljava/lang/String;)Z"⟩ : MethodName)) (z := (⟨"java/lang/String", "endsWith", "(Ljava/lang/String;)Z"⟩ : MethodName)) I1.2.1 (mvT I1.1 (hw _ (List.mem_of_getElem? (i := 27) rfl))) (mvT I1.1 (hw _ (List.mem_of_getElem? (i := 28) rfl))) (notFace_of_selects (args := #[]) (mvT I1.1 (hw _ (List.mem_of_getElem? (i := 30) rfl)))) (mvT I1.1 (hw _ (List.mem_of_getElem? (i := 30) rfl))) (mvT I1.1 (hw _ (List.mem_of_getElem? (i := 29) rfl))) (by decide) (backOf (W := 0) (rmEB l Z a0 hw x b1 cs k0 T1.heap (own_ext_trans EZ f2) z0 O1 P5 (S.ext f2) S3 hk) I1.1 (hw _ (List.mem_of_getElem? (i := 31) rfl)) (hw _ (List.mem_of_getElem? (i := 3) rfl)) (by decide) (by decide)) qa4 qc4 (g := (mkF m 3 #[.val (.ref x)] [(.ref b1), (.ref x)])) rfl (by rw [hml]; rfl) (Steps.refl _) (argsL := [(.ref b1)]) (rest := []) (lenOf pdEW rfl) rfl (by show 2 * 0 + _ ≤ _; exact Nat.le_of_eq rfl) (hb hby dCB_3) (fun _ _ => ⟨rfl, rfl, (Nat.le_of_ble_eq_true rfl), (Nat.le_of_ble_eq_true rfl)⟩)
  dsimp only [Pt.U, Pt.locs, Pt.cells, Pt.slots] at X4 l4 y4 z4 st4 hQ4
  subst l4 y4 z4
  obtain ⟨rfl, N4, E4⟩ := hQ4
  refine own_to st4 ?_
  show own_Go p e below F (T4.setTop (mkF m 6 #[.val (.ref x)] [(.int ((if cs.getD k0 0 = 47 then (1 : Int32) else 0)))]))
  have N5 := Fr.app N0 N4
  rw [if_neg hq]
  show own_Go p e below F (T4.setTop (mkF m 6 #[.val (.ref x)] [(.int ((0 : Int32)))]))
  refine own_ifeq X4.here hx (hb hby dCB_6) (by decide) (pc' := 13) (by decide) (pc2 := 9) rfl (fun q6 => ?_) (fun q => absurd rfl q)
  obtain ⟨T7, h7, X7, e7, E7, A7, D7, -, st7⟩ := newO X4 hx I1.1 I1.2.1 (hw _ (List.mem_of_getElem? (i := 48) rfl)) (hw _ (List.mem_of_getElem? (i := 49) rfl)) (hw _ (List.mem_of_getElem? (i := 50) rfl)) E4 (g := (mkF m 13 #[.val (.ref x)] [])) rfl (hb hby dCB_13) (by decide) (by decide)
  obtain ⟨a7, g7⟩ : ∃ z, z = T1.heap.size := ⟨_, rfl⟩
  rw [← g7] at A7 D7 st7
  have ge8 : h0.size ≤ a7 := by rw [g7]; exact f2.1
  have f9 := own_ext_trans f2 E7
  have J10 := I1.ext E7
  have F7_0 : Fld Z h7 a7 "java/lang/AbstractStringBuilder" "value" "[B" (.null) := (D7 (Or.inl (hw _ (List.mem_of_getElem? (i := 63) rfl))) (ty := .array .byte) (by decide))
  have F7_1 : Fld Z h7 a7 "java/lang/AbstractStringBuilder" "coder" "B" (.int ((0 : Int32))) := (D7 (Or.inl (hw _ (List.mem_of_getElem? (i := 65) rfl))) (ty := .byte) (by decide))
  have F7_2 : Fld Z h7 a7 "java/lang/AbstractStringBuilder" "count" "I" (.int ((0 : Int32))) := (D7 (Or.inl (hw _ (List.mem_of_getElem? (i := 78) rfl))) (ty := .int) (by decide))
  refine own_on st7 ?_
  show own_Go p e below F (T7.setTop (mkF m 16 #[.val (.ref x)] [(.ref a7)]))
  have gz_a7 : Z.heap.size ≤ a7 := Nat.le_trans EZ.1 ge8
  refine own_dup X7.here hx (hb hby dCB_16) rfl (pc' := 17) rfl ?_
  obtain ⟨_, _, ⟨T11, L11, k11, n11⟩, -, X11, ⟨Lc11, hQ11, l11, y11, z11⟩, st11⟩ := X7.specialBack hx (y := (⟨"java/lang/StringBuilder", "<init>", "()V"⟩ : MethodName)) rfl J10.2.1 (mvT J10.1 (hw _ (List.mem_of_getElem? (i := 51) rfl))) (mvT J10.1 (hw _ (List.mem_of_getElem? (i := 52) rfl))) (mvT J10.1 (hw _ (List.mem_of_getElem? (i := 53) rfl))) (by decide) (backOf (W := 1) (rmSI l Z a0 hw a7 h7 (own_ext_trans EZ f9) gz_a7 z0 O1 P5 A7 F7_0 F7_1 F7_2) J10.1 (hw _ (List.mem_of_getElem? (i := 53) rfl)) (hw _ (List.mem_of_getElem? (i := 50) rfl)) (by decide) (by decide)) (g := (mkF m 17 #[.val (.ref x)] [(.ref a7), (.ref a7)])) rfl (by rw [hml]; rfl) (Steps.refl _) (a := a7) (argsL := []) (rest := [(.ref a7)]) (lenOf pdV rfl) rfl (by show 2 * 0 + _ ≤ _; exact Nat.le_of_eq rfl) (hb hby dCB_17) (fun _ _ => ⟨rfl, e7, (Nat.le_of_ble_eq_true rfl), (Nat.le_of_ble_eq_true rfl)⟩)
  dsimp only [Pt.U, Pt.locs, Pt.cells, Pt.slots] at X11 l11 y11 z11 st11 hQ11
  subst l11 y11 z11
  obtain ⟨rfl, t11, k11b, N11, K11, g11, B11⟩ := hQ11
  refine own_to st11 ?_
  show own_Go p e below F (T11.setTop (mkF m 20 #[.val (.ref x)] [(.ref a7)]))
  have f12 := own_ext_keep f9 K11 (fun y hy => by simp only [List.mem_cons, List.not_mem_nil, or_false] at hy; rcases hy with rfl <;> assumption)
  have J13 := J10.keep K11 (sfS (Safe.exa J10.1.alike A7 (by decide) (by decide)) sf0)
  have N14 := Fr.app N5 N11
  have sft := Safe.keep K11 (sfS (Safe.exa J10.1.alike A7 (by decide) (by decide)) sf0) J10.ch (Safe.new g11)
  have gt : Z.heap.size ≤ t11 := Nat.le_trans (own_ext_trans EZ f9).1 g11
  have hne : a7 ≠ t11 := Exa.neArv B11.1 B11.2.2.2.2.1 (hw _ (List.mem_of_getElem? (i := 49) rfl))
  have ge_t : h0.size ≤ t11 := Nat.le_trans f9.1 g11
  refine own_aload_n X11.here hx (hb hby dCB_20) rfl rfl (pc' := 21) rfl ?_
  obtain ⟨cq15, kq15, qa15, qb15, qc15⟩ := isOf J13.1 rfl B11.1
  obtain ⟨_, _, ⟨T15, L15, k15, n15⟩, -, X15, ⟨Lc15, hQ15, l15, y15, z15⟩, st15⟩ := X11.virtualBack hx (y := (⟨"java/lang/StringBuilder", "append", "(Ljava/lang/String;)Ljava/lang/StringBuilder;"⟩ : MethodName)) (z := (⟨"java/lang/StringBuilder", "append", "(Ljava/lang/String;)Ljava/lang/StringBuilder;"⟩ : MethodName)) J13.2.1 (mvT J13.1 (hw _ (List.mem_of_getElem? (i := 66) rfl))) (mvT J13.1 (hw _ (List.mem_of_getElem? (i := 67) rfl))) (notFace_of_selects (args := #[]) (mvT J13.1 (hw _ (List.mem_of_getElem? (i := 69) rfl)))) (mvT J13.1 (hw _ (List.mem_of_getElem? (i := 69) rfl))) (mvT J13.1 (hw _ (List.mem_of_getElem? (i := 68) rfl))) (by decide) (backOf (W := 0) (rmSp l Z a0 hw a7 t11 k11b [] x cs T11.heap (own_ext_trans EZ f12) z0 O1 P5 (S.ext f12) B11 gz_a7 gt (by show 0 + _ ≤ _; omega) hne) J13.1 (hw _ (List.mem_of_getElem? (i := 70) rfl)) (hw _ (List.mem_of_getElem? (i := 50) rfl)) (by decide) (by decide)) qa15 qc15 (g := (mkF m 21 #[.val (.ref x)] [(.ref x), (.ref a7)])) rfl (by rw [hml]; rfl) (Steps.refl _) (argsL := [(.ref x)]) (rest := []) (lenOf pdSp rfl) rfl (by show 2 * 0 + _ ≤ _; exact Nat.le_of_eq rfl) (hb hby dCB_21) (fun _ _ => ⟨rfl, rfl, (Nat.le_of_ble_eq_true rfl), (Nat.le_of_ble_eq_true rfl)⟩)
  dsimp only [Pt.U, Pt.locs, Pt.cells, Pt.slots] at X15 l15 y15 z15 st15 hQ15
  subst l15 y15 z15
  obtain ⟨rfl, N15, K15, B15⟩ := hQ15
  refine own_to st15 ?_
  show own_Go p e below F (T15.setTop (mkF m 24 #[.val (.ref x)] [(.ref a7)]))
  have f16 := own_ext_keep f12 K15 (fun y hy => by simp only [List.mem_cons, List.not_mem_nil, or_false] at hy; rcases hy with rfl | rfl <;> assumption)
  have f17 := Safe.keep K15 (sfS sft (sfS (Safe.exa J13.1.alike B11.1 (by decide) (by decide)) sf0)) J13.ch sft
  have J18 := J13.keep K15 (sfS sft (sfS (Safe.exa J13.1.alike B11.1 (by decide) (by decide)) sf0))
  have N19 := Fr.app N14 N15
  have MM := own_ext_refl T15.heap
  obtain ⟨b20, T20, t20, kb20, X20, E20, I20, C20, A20, Fc20, Fv20, V20, hn20, st20⟩ := own_ldcT X15 hx J18 (hw _ (List.mem_of_getElem? (i := 26) rfl)) (own_strW hw) rfl hEL (by simp [EL]) (vs := [.int ((47 : Int32).toInt8.toInt32)]) (z := 1) (by decide) (by decide) (by decide) (g := (mkF m 24 #[.val (.ref x)] [(.ref a7)])) rfl (hb hby dCB_24) (n := 4) (by decide) (by decide) (by decide) (by decide)
  have f21 := own_ext_trans f16 E20
  have f22 := C20.safe B15.2.2.2.2.1.lt f17
  have f23 := own_ext_trans MM E20
  refine own_on st20 ?_
  show own_Go p e below F (T20.setTop (mkF m 26 #[.val (.ref x)] [(.ref b20), (.ref a7)]))
  have S24 : own_Str Z T20.heap b20 [47] := ⟨t20, kb20, A20, Fv20, Fc20, V20, (by decide), (by decide)⟩
  have HB2 := B15.ext f23
  obtain ⟨cq25, kq25, qa25, qb25, qc25⟩ := isOf I20.1 rfl HB2.1
  obtain ⟨_, _, ⟨T25, L25, k25, n25⟩, -, X25, ⟨Lc25, hQ25, l25, y25, z25⟩, st25⟩ := X20.virtualBack hx (y := (⟨"java/lang/StringBuilder", "append", "(Ljava/lang/String;)Ljava/lang/StringBuilder;"⟩ : MethodName)) (z := (⟨"java/lang/StringBuilder", "append", "(Ljava/lang/String;)Ljava/lang/StringBuilder;"⟩ : MethodName)) I20.2.1 (mvT I20.1 (hw _ (List.mem_of_getElem? (i := 66) rfl))) (mvT I20.1 (hw _ (List.mem_of_getElem? (i := 67) rfl))) (notFace_of_selects (args := #[]) (mvT I20.1 (hw _ (List.mem_of_getElem? (i := 69) rfl)))) (mvT I20.1 (hw _ (List.mem_of_getElem? (i := 69) rfl))) (mvT I20.1 (hw _ (List.mem_of_getElem? (i := 68) rfl))) (by decide) (backOf (W := 0) (rmSp l Z a0 hw a7 t11 k11b ([] ++ cs) b20 [47] T20.heap (own_ext_trans EZ f21) z0 O1 P5 S24 HB2 gz_a7 gt (by rw [List.nil_append]; show _ + 1 ≤ _; omega) hne) I20.1 (hw _ (List.mem_of_getElem? (i := 70) rfl)) (hw _ (List.mem_of_getElem? (i := 50) rfl)) (by decide) (by decide)) qa25 qc25 (g := (mkF m 26 #[.val (.ref x)] [(.ref b20), (.ref a7)])) rfl (by rw [hml]; rfl) (Steps.refl _) (argsL := [(.ref b20)]) (rest := []) (lenOf pdSp rfl) rfl (by show 2 * 0 + _ ≤ _; exact Nat.le_of_eq rfl) (hb hby dCB_26) (fun _ _ => ⟨rfl, rfl, (Nat.le_of_ble_eq_true rfl), (Nat.le_of_ble_eq_true rfl)⟩)
  dsimp only [Pt.U, Pt.locs, Pt.cells, Pt.slots] at X25 l25 y25 z25 st25 hQ25
  subst l25 y25 z25
  obtain ⟨rfl, N25, K25, B25⟩ := hQ25
  refine own_to st25 ?_
  show own_Go p e below F (T25.setTop (mkF m 29 #[.val (.ref x)] [(.ref a7)]))
  have f26 := own_ext_keep f21 K25 (fun y hy => by simp only [List.mem_cons, List.not_mem_nil, or_false] at hy; rcases hy with rfl | rfl <;> assumption)
  have f27 := Safe.keep K25 (sfS f22 (sfS (Safe.exa I20.1.alike HB2.1 (by decide) (by decide)) sf0)) I20.ch f22
  have J28 := I20.keep K25 (sfS f22 (sfS (Safe.exa I20.1.alike HB2.1 (by decide) (by decide)) sf0))
  have N29 := Fr.app N19 N25
  obtain ⟨cq30, kq30, qa30, qb30, qc30⟩ := isOf J28.1 rfl B25.1
  obtain ⟨_, _, ⟨T30, L30, k30, n30⟩, -, X30, ⟨Lc30, hQ30, l30, y30, z30⟩, st30⟩ := X25.virtualBack hx (y := (⟨"java/lang/StringBuilder", "toString", "()Ljava/lang/String;"⟩ : MethodName)) (z := (⟨"java/lang/StringBuilder", "toString", "()Ljava/lang/String;"⟩ : MethodName)) J28.2.1 (mvT J28.1 (hw _ (List.mem_of_getElem? (i := 104) rfl))) (mvT J28.1 (hw _ (List.mem_of_getElem? (i := 105) rfl))) (notFace_of_selects (args := #[]) (mvT J28.1 (hw _ (List.mem_of_getElem? (i := 107) rfl)))) (mvT J28.1 (hw _ (List.mem_of_getElem? (i := 107) rfl))) (mvT J28.1 (hw _ (List.mem_of_getElem? (i := 106) rfl))) (by decide) (backOf (W := 0) (rmTS l Z a0 hw a7 t11 k11b (([] ++ cs) ++ [47]) T25.heap (own_ext_trans EZ f26) z0 O1 P5 B25 (by rw [List.nil_append, List.length_append]; show _ + 1 ≤ _; omega)) J28.1 (hw _ (List.mem_of_getElem? (i := 108) rfl)) (hw _ (List.mem_of_getElem? (i := 50) rfl)) (by decide) (by decide)) qa30 qc30 (g := (mkF m 29 #[.val (.ref x)] [(.ref a7)])) rfl (by rw [hml]; rfl) (Steps.refl _) (argsL := []) (rest := []) (lenOf pdTS rfl) rfl (by show 2 * 0 + _ ≤ _; exact Nat.le_of_eq rfl) (hb hby dCB_29) (fun _ _ => ⟨rfl, rfl, (Nat.le_of_ble_eq_true rfl), (Nat.le_of_ble_eq_true rfl)⟩)
  dsimp only [Pt.U, Pt.locs, Pt.cells, Pt.slots] at X30 l30 y30 z30 st30 hQ30
  subst l30 y30 z30
  obtain ⟨y30, rfl, S30, E30, N30⟩ := hQ30
  refine own_to st30 ?_
  show own_Go p e below F (T30.setTop (mkF m 32 #[.val (.ref x)] [(.ref y30)]))
  have f31 := own_ext_trans f26 E30
  have J32 := J28.ext E30
  have N33 := Fr.app N29 N30
  exact own_retAW X30 hx hlk hEL J32 rfl hret rfl rfl (hb hby dCB_32) (fun t ht hC hE => hF t _ _ _ _ (by rw [ht]; exact ⟨_, rfl, S30, f31, N33⟩) hC hE (by decide) (by decide))
def Q_rmC0 (Z : State) (x : Addr) (h0 : Heap) (z0 : Int32) (v : Option Value) (h : Heap) (L : List Loc) : Prop := ∃ y, v = some (.ref y) ∧ own_Str Z h y ([] ++ [47]) ∧ Ext h0 h ∧ Fr Z.heap.size L
set_option maxRecDepth 65536 in
set_option maxHeartbeats 40000000 in
theorem rmC0 (l : Launch) (Z : State) (a0 : Array Value) (hw : ∀ d ∈ tables_1, d.before a0 Z = true) (hEL : EW Z a0 EL) (x : Addr) (h0 : Heap) (EZ : Ext Z.heap h0) (z0 : Int32) (O1 : Sta Z Z.heap "java/lang/String" "COMPACT_STRINGS" "Z" (.int z0)) (P5 : ¬ z0 = 0) (S : own_Str Z h0 x [])  :
    MetFree l (⟨"com/example/cartulary/cartulary/RegisterUris", "childBase", "(Ljava/lang/String;)Ljava/lang/String;"⟩ : MethodName) (head1 (Jvm.Cond.code (⟨"com/example/cartulary/cartulary/RegisterUris", "childBase", "(Ljava/lang/String;)Ljava/lang/String;"⟩ : MethodName) prog_2_method_2_code 1 (Option.some (FieldType.object "java/lang/String")) :: []) ({ frames := 6, cells := 8, slots := 44, locals := 133 } : Room)) (fun aa U => aa = #[(.ref x)] ∧ Z.Warmed39 U.vm ∧ U.heap = h0 ∧ CHv Z EL U.vm h0 ∧ ∀ yy ∈ ([] : List Addr), Safe Z EL U.vm h0 yy) (fun _ _ _ _ _ => True) (fun _ U o U' => ∃ v L, o = .returned v ∧ (Q_rmC0 Z x h0 z0) v U'.heap L ∧ CHr Z EL U.vm U.heap U'.vm U'.heap ∧ ReturnedEndW U o U' L ({ frames := 6, cells := 8, slots := 44, locals := 133 } : Room).cells ({ frames := 6, cells := 8, slots := 44, locals := 133 } : Room).slots) := by
  refine own_walkW (by exact pnRU) ?_
  intro p e s m below meth c T0 X0 hx hby hml hret hlk hnm hs0 e0 I0 hsf F hF
  refine own_on (fun _ => castTop (efR m x)) ?_
  have M0 := own_ext_refl h0
  have N0 := Fr.nil Z.heap.size
  refine own_aload_n X0.here hx (hb hby dCB_0) rfl rfl (pc' := 1) rfl ?_
  obtain ⟨b1, T1, t1, kb1, X1, E1, I1, C1, A1, Fc1, Fv1, V1, hn1, st1⟩ := own_ldcT X0 hx I0 (hw _ (List.mem_of_getElem? (i := 26) rfl)) (own_strW hw) e0 hEL (by simp [EL]) (vs := [.int ((47 : Int32).toInt8.toInt32)]) (z := 1) (by decide) (by decide) (by decide) (g := (mkF m 1 #[.val (.ref x)] [(.ref x)])) rfl (hb hby dCB_1) (n := 4) (by decide) (by decide) (by decide) (by decide)
  have f2 := own_ext_trans M0 E1
  refine own_on st1 ?_
  show own_Go p e below F (T1.setTop (mkF m 3 #[.val (.ref x)] [(.ref b1), (.ref x)]))
  have S3 : own_Str Z T1.heap b1 [47] := ⟨t1, kb1, A1, Fv1, Fc1, V1, (by decide), (by decide)⟩
  obtain ⟨cq4, kq4, qa4, qb4, qc4⟩ := isOf I1.1 rfl (S.ext f2).exa
  obtain ⟨_, _, ⟨T4, L4, k4, n4⟩, -, X4, ⟨Lc4, hQ4, l4, y4, z4⟩, st4⟩ := X1.virtualBack hx (y := (⟨"java/lang/String", "endsWith", "(Ljava/lang/String;)Z"⟩ : MethodName)) (z := (⟨"java/lang/String", "endsWith", "(Ljava/lang/String;)Z"⟩ : MethodName)) I1.2.1 (mvT I1.1 (hw _ (List.mem_of_getElem? (i := 27) rfl))) (mvT I1.1 (hw _ (List.mem_of_getElem? (i := 28) rfl))) (notFace_of_selects (args := #[]) (mvT I1.1 (hw _ (List.mem_of_getElem? (i := 30) rfl)))) (mvT I1.1 (hw _ (List.mem_of_getElem? (i := 30) rfl))) (mvT I1.1 (hw _ (List.mem_of_getElem? (i := 29) rfl))) (by decide) (backOf (W := 0) (rmEA l Z a0 hw x b1 T1.heap (own_ext_trans EZ f2) z0 O1 P5 (S.ext f2) S3) I1.1 (hw _ (List.mem_of_getElem? (i := 31) rfl)) (hw _ (List.mem_of_getElem? (i := 3) rfl)) (by decide) (by decide)) qa4 qc4 (g := (mkF m 3 #[.val (.ref x)] [(.ref b1), (.ref x)])) rfl (by rw [hml]; rfl) (Steps.refl _) (argsL := [(.ref b1)]) (rest := []) (lenOf pdEW rfl) rfl (by show 2 * 0 + _ ≤ _; exact Nat.le_of_eq rfl) (hb hby dCB_3) (fun _ _ => ⟨rfl, rfl, (Nat.le_of_ble_eq_true rfl), (Nat.le_of_ble_eq_true rfl)⟩)
  dsimp only [Pt.U, Pt.locs, Pt.cells, Pt.slots] at X4 l4 y4 z4 st4 hQ4
  subst l4 y4 z4
  obtain ⟨rfl, N4, E4⟩ := hQ4
  refine own_to st4 ?_
  show own_Go p e below F (T4.setTop (mkF m 6 #[.val (.ref x)] [(.int ((0 : Int32)))]))
  have N5 := Fr.app N0 N4
  refine own_ifeq X4.here hx (hb hby dCB_6) (by decide) (pc' := 13) (by decide) (pc2 := 9) rfl (fun q6 => ?_) (fun q => absurd rfl q)
  obtain ⟨T7, h7, X7, e7, E7, A7, D7, -, st7⟩ := newO X4 hx I1.1 I1.2.1 (hw _ (List.mem_of_getElem? (i := 48) rfl)) (hw _ (List.mem_of_getElem? (i := 49) rfl)) (hw _ (List.mem_of_getElem? (i := 50) rfl)) E4 (g := (mkF m 13 #[.val (.ref x)] [])) rfl (hb hby dCB_13) (by decide) (by decide)
  obtain ⟨a7, g7⟩ : ∃ z, z = T1.heap.size := ⟨_, rfl⟩
  rw [← g7] at A7 D7 st7
  have ge8 : h0.size ≤ a7 := by rw [g7]; exact f2.1
  have f9 := own_ext_trans f2 E7
  have J10 := I1.ext E7
  have F7_0 : Fld Z h7 a7 "java/lang/AbstractStringBuilder" "value" "[B" (.null) := (D7 (Or.inl (hw _ (List.mem_of_getElem? (i := 63) rfl))) (ty := .array .byte) (by decide))
  have F7_1 : Fld Z h7 a7 "java/lang/AbstractStringBuilder" "coder" "B" (.int ((0 : Int32))) := (D7 (Or.inl (hw _ (List.mem_of_getElem? (i := 65) rfl))) (ty := .byte) (by decide))
  have F7_2 : Fld Z h7 a7 "java/lang/AbstractStringBuilder" "count" "I" (.int ((0 : Int32))) := (D7 (Or.inl (hw _ (List.mem_of_getElem? (i := 78) rfl))) (ty := .int) (by decide))
  refine own_on st7 ?_
  show own_Go p e below F (T7.setTop (mkF m 16 #[.val (.ref x)] [(.ref a7)]))
  have gz_a7 : Z.heap.size ≤ a7 := Nat.le_trans EZ.1 ge8
  refine own_dup X7.here hx (hb hby dCB_16) rfl (pc' := 17) rfl ?_
  obtain ⟨_, _, ⟨T11, L11, k11, n11⟩, -, X11, ⟨Lc11, hQ11, l11, y11, z11⟩, st11⟩ := X7.specialBack hx (y := (⟨"java/lang/StringBuilder", "<init>", "()V"⟩ : MethodName)) rfl J10.2.1 (mvT J10.1 (hw _ (List.mem_of_getElem? (i := 51) rfl))) (mvT J10.1 (hw _ (List.mem_of_getElem? (i := 52) rfl))) (mvT J10.1 (hw _ (List.mem_of_getElem? (i := 53) rfl))) (by decide) (backOf (W := 1) (rmSI l Z a0 hw a7 h7 (own_ext_trans EZ f9) gz_a7 z0 O1 P5 A7 F7_0 F7_1 F7_2) J10.1 (hw _ (List.mem_of_getElem? (i := 53) rfl)) (hw _ (List.mem_of_getElem? (i := 50) rfl)) (by decide) (by decide)) (g := (mkF m 17 #[.val (.ref x)] [(.ref a7), (.ref a7)])) rfl (by rw [hml]; rfl) (Steps.refl _) (a := a7) (argsL := []) (rest := [(.ref a7)]) (lenOf pdV rfl) rfl (by show 2 * 0 + _ ≤ _; exact Nat.le_of_eq rfl) (hb hby dCB_17) (fun _ _ => ⟨rfl, e7, (Nat.le_of_ble_eq_true rfl), (Nat.le_of_ble_eq_true rfl)⟩)
  dsimp only [Pt.U, Pt.locs, Pt.cells, Pt.slots] at X11 l11 y11 z11 st11 hQ11
  subst l11 y11 z11
  obtain ⟨rfl, t11, k11b, N11, K11, g11, B11⟩ := hQ11
  refine own_to st11 ?_
  show own_Go p e below F (T11.setTop (mkF m 20 #[.val (.ref x)] [(.ref a7)]))
  have f12 := own_ext_keep f9 K11 (fun y hy => by simp only [List.mem_cons, List.not_mem_nil, or_false] at hy; rcases hy with rfl <;> assumption)
  have J13 := J10.keep K11 (sfS (Safe.exa J10.1.alike A7 (by decide) (by decide)) sf0)
  have N14 := Fr.app N5 N11
  have sft := Safe.keep K11 (sfS (Safe.exa J10.1.alike A7 (by decide) (by decide)) sf0) J10.ch (Safe.new g11)
  have gt : Z.heap.size ≤ t11 := Nat.le_trans (own_ext_trans EZ f9).1 g11
  have hne : a7 ≠ t11 := Exa.neArv B11.1 B11.2.2.2.2.1 (hw _ (List.mem_of_getElem? (i := 49) rfl))
  have ge_t : h0.size ≤ t11 := Nat.le_trans f9.1 g11
  refine own_aload_n X11.here hx (hb hby dCB_20) rfl rfl (pc' := 21) rfl ?_
  obtain ⟨cq15, kq15, qa15, qb15, qc15⟩ := isOf J13.1 rfl B11.1
  obtain ⟨_, _, ⟨T15, L15, k15, n15⟩, -, X15, ⟨Lc15, hQ15, l15, y15, z15⟩, st15⟩ := X11.virtualBack hx (y := (⟨"java/lang/StringBuilder", "append", "(Ljava/lang/String;)Ljava/lang/StringBuilder;"⟩ : MethodName)) (z := (⟨"java/lang/StringBuilder", "append", "(Ljava/lang/String;)Ljava/lang/StringBuilder;"⟩ : MethodName)) J13.2.1 (mvT J13.1 (hw _ (List.mem_of_getElem? (i := 66) rfl))) (mvT J13.1 (hw _ (List.mem_of_getElem? (i := 67) rfl))) (notFace_of_selects (args := #[]) (mvT J13.1 (hw _ (List.mem_of_getElem? (i := 69) rfl)))) (mvT J13.1 (hw _ (List.mem_of_getElem? (i := 69) rfl))) (mvT J13.1 (hw _ (List.mem_of_getElem? (i := 68) rfl))) (by decide) (backOf (W := 0) (rmSp l Z a0 hw a7 t11 k11b [] x [] T11.heap (own_ext_trans EZ f12) z0 O1 P5 (S.ext f12) B11 gz_a7 gt (by decide) hne) J13.1 (hw _ (List.mem_of_getElem? (i := 70) rfl)) (hw _ (List.mem_of_getElem? (i := 50) rfl)) (by decide) (by decide)) qa15 qc15 (g := (mkF m 21 #[.val (.ref x)] [(.ref x), (.ref a7)])) rfl (by rw [hml]; rfl) (Steps.refl _) (argsL := [(.ref x)]) (rest := []) (lenOf pdSp rfl) rfl (by show 2 * 0 + _ ≤ _; exact Nat.le_of_eq rfl) (hb hby dCB_21) (fun _ _ => ⟨rfl, rfl, (Nat.le_of_ble_eq_true rfl), (Nat.le_of_ble_eq_true rfl)⟩)
  dsimp only [Pt.U, Pt.locs, Pt.cells, Pt.slots] at X15 l15 y15 z15 st15 hQ15
  subst l15 y15 z15
  obtain ⟨rfl, N15, K15, B15⟩ := hQ15
  refine own_to st15 ?_
  show own_Go p e below F (T15.setTop (mkF m 24 #[.val (.ref x)] [(.ref a7)]))
  have f16 := own_ext_keep f12 K15 (fun y hy => by simp only [List.mem_cons, List.not_mem_nil, or_false] at hy; rcases hy with rfl | rfl <;> assumption)
  have f17 := Safe.keep K15 (sfS sft (sfS (Safe.exa J13.1.alike B11.1 (by decide) (by decide)) sf0)) J13.ch sft
  have J18 := J13.keep K15 (sfS sft (sfS (Safe.exa J13.1.alike B11.1 (by decide) (by decide)) sf0))
  have N19 := Fr.app N14 N15
  have MM := own_ext_refl T15.heap
  obtain ⟨b20, T20, t20, kb20, X20, E20, I20, C20, A20, Fc20, Fv20, V20, hn20, st20⟩ := own_ldcT X15 hx J18 (hw _ (List.mem_of_getElem? (i := 26) rfl)) (own_strW hw) rfl hEL (by simp [EL]) (vs := [.int ((47 : Int32).toInt8.toInt32)]) (z := 1) (by decide) (by decide) (by decide) (g := (mkF m 24 #[.val (.ref x)] [(.ref a7)])) rfl (hb hby dCB_24) (n := 4) (by decide) (by decide) (by decide) (by decide)
  have f21 := own_ext_trans f16 E20
  have f22 := C20.safe B15.2.2.2.2.1.lt f17
  have f23 := own_ext_trans MM E20
  refine own_on st20 ?_
  show own_Go p e below F (T20.setTop (mkF m 26 #[.val (.ref x)] [(.ref b20), (.ref a7)]))
  have S24 : own_Str Z T20.heap b20 [47] := ⟨t20, kb20, A20, Fv20, Fc20, V20, (by decide), (by decide)⟩
  have HB2 := B15.ext f23
  obtain ⟨cq25, kq25, qa25, qb25, qc25⟩ := isOf I20.1 rfl HB2.1
  obtain ⟨_, _, ⟨T25, L25, k25, n25⟩, -, X25, ⟨Lc25, hQ25, l25, y25, z25⟩, st25⟩ := X20.virtualBack hx (y := (⟨"java/lang/StringBuilder", "append", "(Ljava/lang/String;)Ljava/lang/StringBuilder;"⟩ : MethodName)) (z := (⟨"java/lang/StringBuilder", "append", "(Ljava/lang/String;)Ljava/lang/StringBuilder;"⟩ : MethodName)) I20.2.1 (mvT I20.1 (hw _ (List.mem_of_getElem? (i := 66) rfl))) (mvT I20.1 (hw _ (List.mem_of_getElem? (i := 67) rfl))) (notFace_of_selects (args := #[]) (mvT I20.1 (hw _ (List.mem_of_getElem? (i := 69) rfl)))) (mvT I20.1 (hw _ (List.mem_of_getElem? (i := 69) rfl))) (mvT I20.1 (hw _ (List.mem_of_getElem? (i := 68) rfl))) (by decide) (backOf (W := 0) (rmSp l Z a0 hw a7 t11 k11b ([] ++ []) b20 [47] T20.heap (own_ext_trans EZ f21) z0 O1 P5 S24 HB2 gz_a7 gt (by decide) hne) I20.1 (hw _ (List.mem_of_getElem? (i := 70) rfl)) (hw _ (List.mem_of_getElem? (i := 50) rfl)) (by decide) (by decide)) qa25 qc25 (g := (mkF m 26 #[.val (.ref x)] [(.ref b20), (.ref a7)])) rfl (by rw [hml]; rfl) (Steps.refl _) (argsL := [(.ref b20)]) (rest := []) (lenOf pdSp rfl) rfl (by show 2 * 0 + _ ≤ _; exact Nat.le_of_eq rfl) (hb hby dCB_26) (fun _ _ => ⟨rfl, rfl, (Nat.le_of_ble_eq_true rfl), (Nat.le_of_ble_eq_true rfl)⟩)
  dsimp only [Pt.U, Pt.locs, Pt.cells, Pt.slots] at X25 l25 y25 z25 st25 hQ25
  subst l25 y25 z25
  obtain ⟨rfl, N25, K25, B25⟩ := hQ25
  refine own_to st25 ?_
  show own_Go p e below F (T25.setTop (mkF m 29 #[.val (.ref x)] [(.ref a7)]))
  have f26 := own_ext_keep f21 K25 (fun y hy => by simp only [List.mem_cons, List.not_mem_nil, or_false] at hy; rcases hy with rfl | rfl <;> assumption)
  have f27 := Safe.keep K25 (sfS f22 (sfS (Safe.exa I20.1.alike HB2.1 (by decide) (by decide)) sf0)) I20.ch f22
  have J28 := I20.keep K25 (sfS f22 (sfS (Safe.exa I20.1.alike HB2.1 (by decide) (by decide)) sf0))
  have N29 := Fr.app N19 N25
  obtain ⟨cq30, kq30, qa30, qb30, qc30⟩ := isOf J28.1 rfl B25.1
  obtain ⟨_, _, ⟨T30, L30, k30, n30⟩, -, X30, ⟨Lc30, hQ30, l30, y30, z30⟩, st30⟩ := X25.virtualBack hx (y := (⟨"java/lang/StringBuilder", "toString", "()Ljava/lang/String;"⟩ : MethodName)) (z := (⟨"java/lang/StringBuilder", "toString", "()Ljava/lang/String;"⟩ : MethodName)) J28.2.1 (mvT J28.1 (hw _ (List.mem_of_getElem? (i := 104) rfl))) (mvT J28.1 (hw _ (List.mem_of_getElem? (i := 105) rfl))) (notFace_of_selects (args := #[]) (mvT J28.1 (hw _ (List.mem_of_getElem? (i := 107) rfl)))) (mvT J28.1 (hw _ (List.mem_of_getElem? (i := 107) rfl))) (mvT J28.1 (hw _ (List.mem_of_getElem? (i := 106) rfl))) (by decide) (backOf (W := 0) (rmTS l Z a0 hw a7 t11 k11b (([] ++ []) ++ [47]) T25.heap (own_ext_trans EZ f26) z0 O1 P5 B25 (by decide)) J28.1 (hw _ (List.mem_of_getElem? (i := 108) rfl)) (hw _ (List.mem_of_getElem? (i := 50) rfl)) (by decide) (by decide)) qa30 qc30 (g := (mkF m 29 #[.val (.ref x)] [(.ref a7)])) rfl (by rw [hml]; rfl) (Steps.refl _) (argsL := []) (rest := []) (lenOf pdTS rfl) rfl (by show 2 * 0 + _ ≤ _; exact Nat.le_of_eq rfl) (hb hby dCB_29) (fun _ _ => ⟨rfl, rfl, (Nat.le_of_ble_eq_true rfl), (Nat.le_of_ble_eq_true rfl)⟩)
  dsimp only [Pt.U, Pt.locs, Pt.cells, Pt.slots] at X30 l30 y30 z30 st30 hQ30
  subst l30 y30 z30
  obtain ⟨y30, rfl, S30, E30, N30⟩ := hQ30
  refine own_to st30 ?_
  show own_Go p e below F (T30.setTop (mkF m 32 #[.val (.ref x)] [(.ref y30)]))
  have f31 := own_ext_trans f26 E30
  have J32 := J28.ext E30
  have N33 := Fr.app N29 N30
  exact own_retAW X30 hx hlk hEL J32 rfl hret rfl rfl (hb hby dCB_32) (fun t ht hC hE => hF t _ _ _ _ (by rw [ht]; exact ⟨_, rfl, S30, f31, N33⟩) hC hE (by decide) (by decide))
theorem dEq_0 : decode jdk_42_method_66_code 0 = .ok (.aload_n 0, 1) := by decide +kernel
theorem dEq_1 : decode jdk_42_method_66_code 1 = .ok (.aload_n 1, 1) := by decide +kernel
theorem dEq_2 : decode jdk_42_method_66_code 2 = .ok (.if_acmp .ne 5, 3) := by decide +kernel
theorem dEq_5 : decode jdk_42_method_66_code 5 = .ok (.iconst 1, 1) := by decide +kernel
theorem dEq_6 : decode jdk_42_method_66_code 6 = .ok (.ireturn, 1) := by decide +kernel
theorem dEq_7 : decode jdk_42_method_66_code 7 = .ok (.aload_n 1, 1) := by decide +kernel
theorem dEq_8 : decode jdk_42_method_66_code 8 = .ok (.instanceof 10, 3) := by decide +kernel
theorem dEq_11 : decode jdk_42_method_66_code 11 = .ok (.ifCond .eq 43, 3) := by decide +kernel
theorem dEq_14 : decode jdk_42_method_66_code 14 = .ok (.aload_n 1, 1) := by decide +kernel
theorem dEq_15 : decode jdk_42_method_66_code 15 = .ok (.checkcast 10, 3) := by decide +kernel
theorem dEq_18 : decode jdk_42_method_66_code 18 = .ok (.astore_n 2, 1) := by decide +kernel
theorem dEq_19 : decode jdk_42_method_66_code 19 = .ok (.getstatic 38, 3) := by decide +kernel
theorem dEq_22 : decode jdk_42_method_66_code 22 = .ok (.ifCond .eq 14, 3) := by decide +kernel
theorem dEq_25 : decode jdk_42_method_66_code 25 = .ok (.aload_n 0, 1) := by decide +kernel
theorem dEq_26 : decode jdk_42_method_66_code 26 = .ok (.getfield 15, 3) := by decide +kernel
theorem dEq_29 : decode jdk_42_method_66_code 29 = .ok (.aload_n 2, 1) := by decide +kernel
theorem dEq_30 : decode jdk_42_method_66_code 30 = .ok (.getfield 15, 3) := by decide +kernel
theorem dEq_33 : decode jdk_42_method_66_code 33 = .ok (.if_icmp .ne 21, 3) := by decide +kernel
theorem dEq_36 : decode jdk_42_method_66_code 36 = .ok (.aload_n 0, 1) := by decide +kernel
theorem dEq_37 : decode jdk_42_method_66_code 37 = .ok (.getfield 9, 3) := by decide +kernel
theorem dEq_40 : decode jdk_42_method_66_code 40 = .ok (.aload_n 2, 1) := by decide +kernel
theorem dEq_41 : decode jdk_42_method_66_code 41 = .ok (.getfield 9, 3) := by decide +kernel
theorem dEq_44 : decode jdk_42_method_66_code 44 = .ok (.invokestatic 541, 3) := by decide +kernel
theorem dEq_47 : decode jdk_42_method_66_code 47 = .ok (.ifCond .eq 7, 3) := by decide +kernel
theorem dEq_50 : decode jdk_42_method_66_code 50 = .ok (.iconst 1, 1) := by decide +kernel
theorem dEq_51 : decode jdk_42_method_66_code 51 = .ok (.goto 4, 3) := by decide +kernel
theorem dEq_54 : decode jdk_42_method_66_code 54 = .ok (.iconst 0, 1) := by decide +kernel
theorem dEq_55 : decode jdk_42_method_66_code 55 = .ok (.ireturn, 1) := by decide +kernel
theorem efEq (m : MethodId) (x0 : Addr) (x1 : Addr) : entryFrame m #[(.ref x0), (.ref x1)] 3 = mkF m 0 #[.val (.ref x0), .val (.ref x1), .unset] [] := by first | (simp [entryFrame, mkF, argsToLocals, Value.category]; done) | rfl
def Q_rmEq (Z : State) (x : Addr) (h0 : Heap) (v : Option Value) (h : Heap) (L : List Loc) : Prop := v = some (.int (1 : Int32)) ∧ Fr Z.heap.size L ∧ h = h0
set_option maxRecDepth 65536 in
set_option maxHeartbeats 40000000 in
theorem rmEq (l : Launch) (Z : State) (a0 : Array Value) (hw : ∀ d ∈ tables_1, d.before a0 Z = true) (x : Addr) (h0 : Heap) :
    MetFree l (⟨"java/lang/String", "equals", "(Ljava/lang/Object;)Z"⟩ : MethodName) (head1 (Jvm.Cond.code (⟨"java/lang/String", "equals", "(Ljava/lang/Object;)Z"⟩ : MethodName) jdk_42_method_66_code 3 (Option.some FieldType.boolean) :: []) ({ frames := 0, cells := 0, slots := 0, locals := 0 } : Room)) (fun aa U => aa = #[(.ref x), (.ref x)] ∧ Z.Warmed39 U.vm ∧ U.heap = h0) (fun _ _ _ _ _ => True) (fun _ U o U' => ∃ v L, o = .returned v ∧ (Q_rmEq Z x h0) v U'.heap L ∧ FrameEnd U o U' L ({ frames := 0, cells := 0, slots := 0, locals := 0 } : Room).cells ({ frames := 0, cells := 0, slots := 0, locals := 0 } : Room).slots) := by
  refine own_walkN (by exact pnS) ?_
  intro p e s m below meth c T0 X0 hx hby hml hret hlk hnm hown hZ e0 es0 F hF
  refine own_on (fun _ => castTop (efEq m x x)) ?_
  refine own_aload_n X0.here hx (hb hby dEq_0) rfl rfl (pc' := 1) rfl ?_
  refine own_aload_n X0.here hx (hb hby dEq_1) rfl rfl (pc' := 2) rfl ?_
  refine own_acmpne X0.here hx rfl rfl (hb hby dEq_2) (by decide) (pc' := 7) (by decide) (pc2 := 5) rfl (fun q => absurd rfl q) (fun q1 => ?_)
  refine own_iconst X0.here hx (hb hby dEq_5) (v := 1) rfl (pc' := 6) rfl ?_
  exact own_retZ X0 hx hlk (by decide) hret (hb hby dEq_6) (fun t ht hE => hF t _ _ _ _ (by rw [ht, (e0 : _ = h0)]; exact ⟨rfl, Fr.nil _, rfl⟩) hE (by decide) (by decide))
theorem efL (m : MethodId) (x0 : Int32) (x1 : Int32) (x2 : Int32) (x3 : Int32) (x4 : Int32) : entryFrame m #[(.int x0), (.int x1), (.int x2), (.int x3), (.int x4)] 13 = mkF m 0 #[.val (.int x0), .val (.int x1), .val (.int x2), .val (.int x3), .val (.int x4), .unset, .unset, .unset, .unset, .unset, .unset, .unset, .unset] [] := by first | (simp [entryFrame, mkF, argsToLocals, Value.category]; done) | rfl
def Q_rmL (Z : State) (n a b c1 d : Int32) (h0 : Heap) (z0 : Int32) (fm : Value) (v : Option Value) (h : Heap) (L : List Loc) : Prop := v = some (.int 1) ∧ Fr Z.heap.size L
set_option maxRecDepth 65536 in
set_option maxHeartbeats 40000000 in
theorem rmL (l : Launch) (Z : State) (a0 : Array Value) (hw : ∀ d ∈ tables_1, d.before a0 Z = true) (hEL : EW Z a0 EL) (n a b c1 d : Int32) (h0 : Heap) (EZ : Ext Z.heap h0) (z0 : Int32) (O1 : Sta Z Z.heap "java/lang/String" "COMPACT_STRINGS" "Z" (.int z0)) (P5 : ¬ z0 = 0) (fm : Value) (O2 : Sta Z Z.heap "jdk/internal/util/Preconditions" "SIOOBE_FORMATTER" "Ljava/util/function/BiFunction;" fm) (rf : fm.isRef = true) :
    MetFree l x (head1 (Jvm.Cond.code x code maxLocals ret :: tables_1) room_1) (fun aa U => aa = #[(.int n), (.int a), (.int b), (.int c1), (.int d)] ∧ Z.Warmed39 U.vm ∧ U.heap = h0 ∧ CHv Z EL U.vm h0 ∧ ∀ yy ∈ ([] : List Addr), Safe Z EL U.vm h0 yy) (fun _ _ _ _ _ => True) (fun _ U o U' => ∃ v L, o = .returned v ∧ (Q_rmL Z n a b c1 d h0 z0 fm) v U'.heap L ∧ CHr Z EL U.vm U.heap U'.vm U'.heap ∧ ReturnedEndW U o U' L room_1.cells room_1.slots) := by
  refine own_walkW (by exact pnL) ?_
  intro p e s m below meth c T0 X0 hx hby hml hret hlk hnm hs0 e0 I0 hsf F hF
  refine own_on (fun _ => castTop (efL m n a b c1 d)) ?_
  have M0 := own_ext_refl h0
  have N0 := Fr.nil Z.heap.size
  have own_hws := own_hwsL hw
  refine own_iload_n X0.here hx (hb hby at_0) rfl (pc' := 1) rfl ?_
  refine own_iconst X0.here hx (hb hby at_1) (v := 3) rfl (pc' := 2) rfl ?_
  refine own_iand X0.here hx (hb hby at_2) (pc' := 3) rfl ?_
  refine own_istore X0.here hx (hb hby at_3) (L' := #[.val (.int n), .val (.int a), .val (.int b), .val (.int c1), .val (.int d), .val (.int (n &&& (3 : Int32))), .unset, .unset, .unset, .unset, .unset, .unset, .unset]) rfl (pc' := 5) rfl ?_
  refine own_iload_n X0.here hx (hb hby at_5) rfl (pc' := 6) rfl ?_
  refine own_sipush X0.here hx (hb hby at_6) (v := 255) rfl (pc' := 9) rfl ?_
  refine own_iand X0.here hx (hb hby at_9) (pc' := 10) rfl ?_
  refine own_i2c X0.here hx (hb hby at_10) (pc' := 11) rfl ?_
  refine own_istore X0.here hx (hb hby at_11) (L' := #[.val (.int n), .val (.int a), .val (.int b), .val (.int c1), .val (.int d), .val (.int (n &&& (3 : Int32))), .val (.int (own_c (a &&& (255 : Int32)))), .unset, .unset, .unset, .unset, .unset, .unset]) rfl (pc' := 13) rfl ?_
  refine own_iload_n X0.here hx (hb hby at_13) rfl (pc' := 14) rfl ?_
  refine own_sipush X0.here hx (hb hby at_14) (v := 255) rfl (pc' := 17) rfl ?_
  refine own_iand X0.here hx (hb hby at_17) (pc' := 18) rfl ?_
  refine own_i2c X0.here hx (hb hby at_18) (pc' := 19) rfl ?_
  refine own_istore X0.here hx (hb hby at_19) (L' := #[.val (.int n), .val (.int a), .val (.int b), .val (.int c1), .val (.int d), .val (.int (n &&& (3 : Int32))), .val (.int (own_c (a &&& (255 : Int32)))), .val (.int (own_c (b &&& (255 : Int32)))), .unset, .unset, .unset, .unset, .unset]) rfl (pc' := 21) rfl ?_
  refine own_iload_n X0.here hx (hb hby at_21) rfl (pc' := 22) rfl ?_
  refine own_sipush X0.here hx (hb hby at_22) (v := 255) rfl (pc' := 25) rfl ?_
  refine own_iand X0.here hx (hb hby at_25) (pc' := 26) rfl ?_
  refine own_i2c X0.here hx (hb hby at_26) (pc' := 27) rfl ?_
  refine own_istore X0.here hx (hb hby at_27) (L' := #[.val (.int n), .val (.int a), .val (.int b), .val (.int c1), .val (.int d), .val (.int (n &&& (3 : Int32))), .val (.int (own_c (a &&& (255 : Int32)))), .val (.int (own_c (b &&& (255 : Int32)))), .val (.int (own_c (c1 &&& (255 : Int32)))), .unset, .unset, .unset, .unset]) rfl (pc' := 29) rfl ?_
  obtain ⟨y0, ey0⟩ : ∃ c, c = own_c (a &&& (255 : Int32)) := ⟨_, rfl⟩
  have ny0 : nar .char y0 = y0 := by rw [ey0]; exact own_nar _
  have py0 : ¬ y0 < 0 ∧ ¬ (255 : Int32) < y0 := by rw [ey0]; exact own_and255 _
  rw [← ey0]
  obtain ⟨y1, ey1⟩ : ∃ c, c = own_c (b &&& (255 : Int32)) := ⟨_, rfl⟩
  have ny1 : nar .char y1 = y1 := by rw [ey1]; exact own_nar _
  have py1 : ¬ y1 < 0 ∧ ¬ (255 : Int32) < y1 := by rw [ey1]; exact own_and255 _
  rw [← ey1]
  obtain ⟨y2, ey2⟩ : ∃ c, c = own_c (c1 &&& (255 : Int32)) := ⟨_, rfl⟩
  have ny2 : nar .char y2 = y2 := by rw [ey2]; exact own_nar _
  have py2 : ¬ y2 < 0 ∧ ¬ (255 : Int32) < y2 := by rw [ey2]; exact own_and255 _
  rw [← ey2]
  show own_Go p e below F (T0.setTop (mkF m 29 #[.val (.int n), .val (.int a), .val (.int b), .val (.int c1), .val (.int d), .val (.int (n &&& (3 : Int32))), .val (.int y0), .val (.int y1), .val (.int y2), .unset, .unset, .unset, .unset] []))
  have JA : ∀ (y0 : Int32) (ny0 : nar .char y0 = y0) (py0 : ¬ y0 < 0 ∧ ¬ (255 : Int32) < y0), own_Go p e below F (T0.setTop (mkF m 40 #[.val (.int n), .val (.int a), .val (.int b), .val (.int c1), .val (.int d), .val (.int (n &&& (3 : Int32))), .val (.int y0), .val (.int y1), .val (.int y2), .unset, .unset, .unset, .unset] [])) := by
    intro y0 ny0 py0
    have JB : ∀ (y0 : Int32) (y1 : Int32) (y2 : Int32) (ny0 : nar .char y0 = y0) (py0 : ¬ y0 < 0 ∧ ¬ (255 : Int32) < y0) (ny1 : nar .char y1 = y1) (py1 : ¬ y1 < 0 ∧ ¬ (255 : Int32) < y1) (ny2 : nar .char y2 = y2) (py2 : ¬ y2 < 0 ∧ ¬ (255 : Int32) < y2), own_Go p e below F (T0.setTop (mkF m 83 #[.val (.int n), .val (.int a), .val (.int b), .val (.int c1), .val (.int d), .val (.int (n &&& (3 : Int32))), .val (.int y0), .val (.int y1), .val (.int y2), .unset, .unset, .unset, .unset] [])) := by
      intro y0 y1 y2 ny0 py0 ny1 py1 ny2 py2
      skip
      rcases own_and3c n with hn | hn | hn | hn <;> rw [hn]
      · show own_Go p e below F (T0.setTop (mkF m 83 #[.val (.int n), .val (.int a), .val (.int b), .val (.int c1), .val (.int d), .val (.int ((0 : Int32))), .val (.int y0), .val (.int y1), .val (.int y2), .unset, .unset, .unset, .unset] []))
        refine own_iload X0.here hx (hb hby at_83) rfl (pc' := 85) rfl ?_
        refine own_ifne X0.here hx (hb hby at_85) (by decide) (pc' := 96) (by decide) (pc2 := 88) rfl (fun q => absurd rfl q) (fun q1 => ?_)
        refine own_iconst X0.here hx (hb hby at_88) (v := 0) rfl (pc' := 89) rfl ?_
        obtain ⟨T2, h2, k2, X2, e2, E2, A2, st2⟩ := newP X0 hx I0.1 (hw _ (List.mem_of_getElem? (i := 0) rfl)) e0 (g := (mkF m 89 #[.val (.int n), .val (.int a), .val (.int b), .val (.int c1), .val (.int d), .val (.int ((0 : Int32))), .val (.int y0), .val (.int y1), .val (.int y2), .unset, .unset, .unset, .unset] [(.int ((0 : Int32)))])) rfl (hb hby at_89) rfl (by decide : ¬ ((0 : Int32) < (0 : Int32))) (cap := 0) (by decide) (by decide) (by decide) (by decide)
        obtain ⟨a2, g2⟩ : ∃ z, z = h0.size := ⟨_, rfl⟩
        rw [← g2] at A2 st2
        have ge3 : h0.size ≤ a2 := by rw [g2]; exact M0.1
        have f4 := own_ext_trans M0 E2
        have J5 := I0.ext E2
        have V2 : Arv Z h2 a2 k2 .char (0 : Int32) [] (.int (0 : Int32)) := (Arv.new A2 (by decide)).pad (pad_rep [] (.int (0 : Int32)) 0)
        refine own_on st2 ?_
        show own_Go p e below F (T2.setTop (mkF m 91 #[.val (.int n), .val (.int a), .val (.int b), .val (.int c1), .val (.int d), .val (.int ((0 : Int32))), .val (.int y0), .val (.int y1), .val (.int y2), .unset, .unset, .unset, .unset] [(.ref a2)]))
        have gz_a2 : Z.heap.size ≤ a2 := Nat.le_trans EZ.1 ge3
        refine own_astore X2.here hx (hb hby at_91) rfl (L' := #[.val (.int n), .val (.int a), .val (.int b), .val (.int c1), .val (.int d), .val (.int ((0 : Int32))), .val (.int y0), .val (.int y1), .val (.int y2), .val (.ref a2), .unset, .unset, .unset]) rfl (pc' := 93) rfl ?_
        refine own_goto X2.here hx (hb hby at_93) (by decide) (pc' := 159) (by decide) ?_
        obtain ⟨T6, h6, X6, e6, E6, A6, D6, -, st6⟩ := newO X2 hx J5.1 J5.2.1 (hw _ (List.mem_of_getElem? (i := 1) rfl)) (hw _ (List.mem_of_getElem? (i := 2) rfl)) (hw _ (List.mem_of_getElem? (i := 3) rfl)) e2 (g := (mkF m 159 #[.val (.int n), .val (.int a), .val (.int b), .val (.int c1), .val (.int d), .val (.int ((0 : Int32))), .val (.int y0), .val (.int y1), .val (.int y2), .val (.ref a2), .unset, .unset, .unset] [])) rfl (hb hby at_159) (by decide) (by decide)
        obtain ⟨a6, g6⟩ : ∃ z, z = h2.size := ⟨_, rfl⟩
        rw [← g6] at A6 D6 st6
        have ne7 : a2 ≠ a6 := Nat.ne_of_lt (by rw [g6]; exact V2.lt)
        have ge8 : h0.size ≤ a6 := by rw [g6]; exact f4.1
        have sf6 := Safe.ext E6 J5.ch (Safe.new (Nat.le_of_eq g6.symm))
        have f9 := own_ext_trans f4 E6
        have f10 := V2.ext E6
        have J11 := J5.ext E6
        have F6_0 : Fld Z h6 a6 "java/lang/String" "value" "[B" (.null) := (D6 (Or.inr (hw _ (List.mem_of_getElem? (i := 16) rfl))) (ty := .array .byte) (by decide))
        have F6_1 : Fld Z h6 a6 "java/lang/String" "coder" "B" (.int ((0 : Int32))) := (D6 (Or.inr (hw _ (List.mem_of_getElem? (i := 17) rfl))) (ty := .byte) (by decide))
        refine own_on st6 ?_
        show own_Go p e below F (T6.setTop (mkF m 162 #[.val (.int n), .val (.int a), .val (.int b), .val (.int c1), .val (.int d), .val (.int ((0 : Int32))), .val (.int y0), .val (.int y1), .val (.int y2), .val (.ref a2), .unset, .unset, .unset] [(.ref a6)]))
        have gz_a6 : Z.heap.size ≤ a6 := Nat.le_trans EZ.1 ge8
        refine own_dup X6.here hx (hb hby at_162) rfl (pc' := 163) rfl ?_
        refine own_aload X6.here hx (hb hby at_163) rfl rfl (pc' := 165) rfl ?_
        obtain ⟨_, _, ⟨T12, L12, k12, n12⟩, -, X12, hS12, hG12, ⟨Lc12, hQ12, l12, y12, z12, C12⟩, st12⟩ := X6.specialBackS hx (y := (⟨"java/lang/String", "<init>", "([C)V"⟩ : MethodName)) rfl J11.2.1 (mvT J11.1 (hw _ (List.mem_of_getElem? (i := 4) rfl))) (mvT J11.1 (hw _ (List.mem_of_getElem? (i := 5) rfl))) (mvT J11.1 (hw _ (List.mem_of_getElem? (i := 6) rfl))) (by decide) (own_backW (W := 1) (rmE1 l Z a0 hw hEL a6 a2 k2 _ h6 gz_a6 A6 F6_0 F6_1 f10) J11.1 (hw _ (List.mem_of_getElem? (i := 6) rfl)) (hw _ (List.mem_of_getElem? (i := 3) rfl)) (by decide) (by decide) hEL J11.ch (fun y hy => by simp only [List.mem_cons, List.not_mem_nil, or_false] at hy; subst hy; exact ⟨A6.lt, sf6⟩)) (g := (mkF m 165 #[.val (.int n), .val (.int a), .val (.int b), .val (.int c1), .val (.int d), .val (.int ((0 : Int32))), .val (.int y0), .val (.int y1), .val (.int y2), .val (.ref a2), .unset, .unset, .unset] [(.ref a2), (.ref a6), (.ref a6)])) rfl (by rw [hml]; rfl) (Steps.refl _) (a := a6) (argsL := [(.ref a2)]) (rest := [(.ref a6)]) (lenOf pdE1 rfl) rfl (by show 2 * 0 + _ ≤ _; exact Nat.le_of_eq rfl) (hb hby at_165) (fun _ _ => ⟨rfl, e6, (Nat.le_of_ble_eq_true rfl), (Nat.le_of_ble_eq_true rfl)⟩)
        dsimp only [Pt.U, Pt.locs, Pt.cells, Pt.slots] at X12 hS12 hG12 l12 y12 z12 C12 st12 hQ12
        subst l12 y12 z12
        replace X12 := (show Stand _ _ _ _ (s.setVm T12.vm) _ _ _ _ _ _ _ _ _ from X12)
        have I12 := J11.later hS12 (Nat.le_refl _) (by have q := hG12; rw [(e6 : _ = h6)] at q; exact q) C12
        obtain ⟨rfl, N12, K12, S12⟩ := hQ12
        refine own_to st12 ?_
        show own_Go p e below F (T12.setTop (mkF m 168 #[.val (.int n), .val (.int a), .val (.int b), .val (.int c1), .val (.int d), .val (.int ((0 : Int32))), .val (.int y0), .val (.int y1), .val (.int y2), .val (.ref a2), .unset, .unset, .unset] [(.ref a6)]))
        have f13 := own_ext_keep f9 K12 (fun y hy => by simp only [List.mem_cons, List.not_mem_nil, or_false] at hy; rcases hy with rfl <;> assumption)
        have N14 := Fr.app N0 N12
        refine own_astore X12.here hx (hb hby at_168) rfl (L' := #[.val (.int n), .val (.int a), .val (.int b), .val (.int c1), .val (.int d), .val (.int ((0 : Int32))), .val (.int y0), .val (.int y1), .val (.int y2), .val (.ref a2), .val (.ref a6), .unset, .unset]) rfl (pc' := 170) rfl ?_
        refine own_iload X12.here hx (hb hby at_170) rfl (pc' := 172) rfl ?_
        refine own_ifle X12.here hx (hb hby at_172) (by decide) (pc' := 191) (by decide) (pc2 := 175) rfl (fun q15 => ?_) (fun q => absurd q (by decide))
        refine own_iconst X12.here hx (hb hby at_191) (v := 0) rfl (pc' := 192) rfl ?_
        refine own_istore X12.here hx (hb hby at_192) (L' := #[.val (.int n), .val (.int a), .val (.int b), .val (.int c1), .val (.int d), .val (.int ((0 : Int32))), .val (.int y0), .val (.int y1), .val (.int y2), .val (.ref a2), .val (.ref a6), .val (.int ((0 : Int32))), .unset]) rfl (pc' := 194) rfl ?_
        refine own_aload X12.here hx (hb hby at_194) rfl rfl (pc' := 196) rfl ?_
        obtain ⟨_, _, ⟨T16, L16, k16, n16⟩, -, X16, hS16, hG16, ⟨Lc16, hQ16, l16, y16, z16, C16⟩, st16⟩ := callSS X12 hx (y := (⟨"com/example/cartulary/cartulary/RegisterUris", "childBase", "(Ljava/lang/String;)Ljava/lang/String;"⟩ : MethodName)) I12.2.1 (mvT I12.1 (hw _ (List.mem_of_getElem? (i := 22) rfl))) (mvT I12.1 (hw _ (List.mem_of_getElem? (i := 23) rfl))) (mvT I12.1 (hw _ (List.mem_of_getElem? (i := 24) rfl))) (mvT I12.1 (hw _ (List.mem_of_getElem? (i := 25) rfl))) (by decide) (own_backW (W := 0) (rmC0 l Z a0 hw hEL a6 T12.heap (own_ext_trans EZ f13) z0 O1 P5 S12) I12.1 (hw _ (List.mem_of_getElem? (i := 25) rfl)) (hw _ (List.mem_of_getElem? (i := 24) rfl)) (by decide) (by decide) hEL I12.ch (fun _ q => nomatch q)) (g := (mkF m 196 #[.val (.int n), .val (.int a), .val (.int b), .val (.int c1), .val (.int d), .val (.int ((0 : Int32))), .val (.int y0), .val (.int y1), .val (.int y2), .val (.ref a2), .val (.ref a6), .val (.int ((0 : Int32))), .unset] [(.ref a6)])) rfl (by rw [hml]; rfl) (argsL := [(.ref a6)]) (rest := []) (lenOf pdRU rfl) rfl (by show 2 * 0 + _ ≤ _; exact Nat.le_of_eq rfl) (hb hby at_196) (fun _ _ => ⟨rfl, rfl, (Nat.le_of_ble_eq_true rfl), (Nat.le_of_ble_eq_true rfl)⟩)
        dsimp only [Pt.U, Pt.locs, Pt.cells, Pt.slots] at X16 hS16 hG16 l16 y16 z16 C16 st16 hQ16
        subst l16 y16 z16
        replace X16 := (show Stand _ _ _ _ (s.setVm T16.vm) _ _ _ _ _ _ _ _ _ from X16)
        have I16 := I12.later hS16 (Nat.le_refl _) (by have q := hG16; rw [(rfl : _ = T12.heap)] at q; exact q) C16
        obtain ⟨y16, rfl, S16, E16, N16⟩ := hQ16
        refine own_to st16 ?_
        show own_Go p e below F (T16.setTop (mkF m 199 #[.val (.int n), .val (.int a), .val (.int b), .val (.int c1), .val (.int d), .val (.int ((0 : Int32))), .val (.int y0), .val (.int y1), .val (.int y2), .val (.ref a2), .val (.ref a6), .val (.int ((0 : Int32))), .unset] [(.ref y16)]))
        have f17 := own_ext_trans f13 E16
        have N18 := Fr.app N14 N16
        replace S16 : own_Str Z T16.heap y16 [47] := S16
        refine own_astore X16.here hx (hb hby at_199) rfl (L' := #[.val (.int n), .val (.int a), .val (.int b), .val (.int c1), .val (.int d), .val (.int ((0 : Int32))), .val (.int y0), .val (.int y1), .val (.int y2), .val (.ref a2), .val (.ref a6), .val (.int ((0 : Int32))), .val (.ref y16)]) rfl (pc' := 201) rfl ?_
        refine own_aload X16.here hx (hb hby at_201) rfl rfl (pc' := 203) rfl ?_
        refine own_ifnonnull X16.here hx rfl (hb hby at_203) (by decide) (pc' := 208) (by decide) (pc2 := 206) rfl (fun q19 => ?_) (fun q => nomatch q)
        refine own_iload X16.here hx (hb hby at_208) rfl (pc' := 210) rfl ?_
        refine own_ifeq X16.here hx (hb hby at_210) (by decide) (pc' := 221) (by decide) (pc2 := 213) rfl (fun q20 => ?_) (fun q => absurd rfl q)
        refine own_aload X16.here hx (hb hby at_221) rfl rfl (pc' := 223) rfl ?_
        obtain ⟨cq21, kq21, qa21, qb21, qc21⟩ := isOf I16.1 rfl S16.exa
        obtain ⟨_, _, ⟨T21, L21, k21, n21⟩, -, X21, ⟨Lc21, hQ21, l21, y21, z21⟩, st21⟩ := X16.virtualBack hx (y := (⟨"java/lang/String", "length", "()I"⟩ : MethodName)) (z := (⟨"java/lang/String", "length", "()I"⟩ : MethodName)) I16.2.1 (mvT I16.1 (hw _ (List.mem_of_getElem? (i := 149) rfl))) (mvT I16.1 (hw _ (List.mem_of_getElem? (i := 33) rfl))) (notFace_of_selects (args := #[]) (mvT I16.1 (hw _ (List.mem_of_getElem? (i := 35) rfl)))) (mvT I16.1 (hw _ (List.mem_of_getElem? (i := 35) rfl))) (mvT I16.1 (hw _ (List.mem_of_getElem? (i := 34) rfl))) (by decide) (own_lenB (s := s.setVm T16.vm) (W := 0) I16.1 hw S16 (O1.ext (own_ext_trans EZ f17)) P5 (by decide) (by decide)) qa21 qc21 (g := (mkF m 223 #[.val (.int n), .val (.int a), .val (.int b), .val (.int c1), .val (.int d), .val (.int ((0 : Int32))), .val (.int y0), .val (.int y1), .val (.int y2), .val (.ref a2), .val (.ref a6), .val (.int ((0 : Int32))), .val (.ref y16)] [(.ref y16)])) rfl (by rw [hml]; rfl) (Steps.refl _) (argsL := []) (rest := []) (lenOf pdI rfl) rfl (by show 2 * 0 + _ ≤ _; exact Nat.le_of_eq rfl) (hb hby at_223) (fun _ _ => ⟨rfl, rfl, (Nat.le_of_ble_eq_true rfl), (Nat.le_of_ble_eq_true rfl)⟩)
        dsimp only [Pt.U, Pt.locs, Pt.cells, Pt.slots] at X21 l21 y21 z21 st21 hQ21
        subst l21 y21 z21
        obtain ⟨rfl, rfl, E21⟩ := hQ21
        refine own_to st21 ?_
        show own_Go p e below F (T21.setTop (mkF m 226 #[.val (.int n), .val (.int a), .val (.int b), .val (.int c1), .val (.int d), .val (.int ((0 : Int32))), .val (.int y0), .val (.int y1), .val (.int y2), .val (.ref a2), .val (.ref a6), .val (.int ((0 : Int32))), .val (.ref y16)] [(.int (Int32.ofNat 1))]))
        refine own_iload X21.here hx (hb hby at_226) rfl (pc' := 228) rfl ?_
        refine own_iconst X21.here hx (hb hby at_228) (v := 1) rfl (pc' := 229) rfl ?_
        refine own_iadd X21.here hx (hb hby at_229) (pc' := 230) rfl ?_
        refine own_icmpne X21.here hx (hb hby at_230) (by decide) (pc' := 300) (by decide) (pc2 := 233) rfl (fun q => absurd (by decide) q) (fun q22 => ?_)
        refine own_aload X21.here hx (hb hby at_233) rfl rfl (pc' := 235) rfl ?_
        refine own_iload X21.here hx (hb hby at_235) rfl (pc' := 237) rfl ?_
        obtain ⟨cq23, kq23, qa23, qb23, qc23⟩ := isOf I16.1 E21 S16.exa
        obtain ⟨_, _, ⟨T23, L23, k23, n23⟩, -, X23, ⟨Lc23, hQ23, l23, y23, z23⟩, st23⟩ := X21.virtualBack hx (y := (⟨"java/lang/String", "charAt", "(I)C"⟩ : MethodName)) (z := (⟨"java/lang/String", "charAt", "(I)C"⟩ : MethodName)) I16.2.1 (mvT I16.1 (hw _ (List.mem_of_getElem? (i := 150) rfl))) (mvT I16.1 (hw _ (List.mem_of_getElem? (i := 151) rfl))) (notFace_of_selects (args := #[]) (mvT I16.1 (hw _ (List.mem_of_getElem? (i := 153) rfl)))) (mvT I16.1 (hw _ (List.mem_of_getElem? (i := 153) rfl))) (mvT I16.1 (hw _ (List.mem_of_getElem? (i := 152) rfl))) (by decide) (own_chB (s := s.setVm T16.vm) (W := 0) I16.1 hw S16 (O1.ext (own_ext_trans EZ f17)) P5 (O2.ext (own_ext_trans EZ f17)) rf (i := 0) (Nat.le_of_ble_eq_true rfl) rfl (by decide) (by decide)) qa23 qc23 (g := (mkF m 237 #[.val (.int n), .val (.int a), .val (.int b), .val (.int c1), .val (.int d), .val (.int ((0 : Int32))), .val (.int y0), .val (.int y1), .val (.int y2), .val (.ref a2), .val (.ref a6), .val (.int ((0 : Int32))), .val (.ref y16)] [(.int ((0 : Int32))), (.ref y16)])) rfl (by rw [hml]; rfl) (Steps.refl _) (argsL := [(.int ((0 : Int32)))]) (rest := []) (lenOf pdCh rfl) rfl (by show 2 * 0 + _ ≤ _; exact Nat.le_of_eq rfl) (hb hby at_237) (fun _ _ => ⟨rfl, E21, (Nat.le_of_ble_eq_true rfl), (Nat.le_of_ble_eq_true rfl)⟩)
        dsimp only [Pt.U, Pt.locs, Pt.cells, Pt.slots] at X23 l23 y23 z23 st23 hQ23
        subst l23 y23 z23
        obtain ⟨rfl, rfl, E23⟩ := hQ23
        refine own_to st23 ?_
        show own_Go p e below F (T23.setTop (mkF m 240 #[.val (.int n), .val (.int a), .val (.int b), .val (.int c1), .val (.int d), .val (.int ((0 : Int32))), .val (.int y0), .val (.int y1), .val (.int y2), .val (.ref a2), .val (.ref a6), .val (.int ((0 : Int32))), .val (.ref y16)] [(.int ((47 : Int32)))]))
        refine own_bipush X23.here hx (hb hby at_240) (v := 47) rfl (pc' := 242) rfl ?_
        refine own_icmpne X23.here hx (hb hby at_242) (by decide) (pc' := 300) (by decide) (pc2 := 245) rfl (fun q => absurd rfl q) (fun q24 => ?_)
        refine own_iload X23.here hx (hb hby at_245) rfl (pc' := 247) rfl ?_
        refine own_iconst X23.here hx (hb hby at_247) (v := 1) rfl (pc' := 248) rfl ?_
        refine own_icmplt X23.here hx (hb hby at_248) (by decide) (pc' := 262) (by decide) (pc2 := 251) rfl (fun q25 => ?_) (fun q => absurd (by decide) q)
        refine own_iload X23.here hx (hb hby at_262) rfl (pc' := 264) rfl ?_
        refine own_iconst X23.here hx (hb hby at_264) (v := 2) rfl (pc' := 265) rfl ?_
        refine own_icmplt X23.here hx (hb hby at_265) (by decide) (pc' := 279) (by decide) (pc2 := 268) rfl (fun q26 => ?_) (fun q => absurd (by decide) q)
        refine own_iload X23.here hx (hb hby at_279) rfl (pc' := 281) rfl ?_
        refine own_iconst X23.here hx (hb hby at_281) (v := 3) rfl (pc' := 282) rfl ?_
        refine own_icmplt X23.here hx (hb hby at_282) (by decide) (pc' := 296) (by decide) (pc2 := 285) rfl (fun q27 => ?_) (fun q => absurd (by decide) q)
        refine own_iconst X23.here hx (hb hby at_296) (v := 1) rfl (pc' := 297) rfl ?_
        refine own_goto X23.here hx (hb hby at_297) (by decide) (pc' := 301) (by decide) ?_
        exact own_retZW X23 hx hlk hEL I16 E23 (by decide) hret (hb hby at_301) (fun t ht hC hE => hF t _ _ _ _ (by rw [ht]; exact ⟨rfl, (by simpa using N18)⟩) hC hE (by decide) (by decide))
      · show own_Go p e below F (T0.setTop (mkF m 83 #[.val (.int n), .val (.int a), .val (.int b), .val (.int c1), .val (.int d), .val (.int ((1 : Int32))), .val (.int y0), .val (.int y1), .val (.int y2), .unset, .unset, .unset, .unset] []))
        refine own_iload X0.here hx (hb hby at_83) rfl (pc' := 85) rfl ?_
        refine own_ifne X0.here hx (hb hby at_85) (by decide) (pc' := 96) (by decide) (pc2 := 88) rfl (fun q28 => ?_) (fun q => absurd q (by decide))
        refine own_iload X0.here hx (hb hby at_96) rfl (pc' := 98) rfl ?_
        refine own_iconst X0.here hx (hb hby at_98) (v := 1) rfl (pc' := 99) rfl ?_
        refine own_icmpne X0.here hx (hb hby at_99) (by decide) (pc' := 115) (by decide) (pc2 := 102) rfl (fun q => absurd rfl q) (fun q29 => ?_)
        refine own_iconst X0.here hx (hb hby at_102) (v := 1) rfl (pc' := 103) rfl ?_
        obtain ⟨T30, h30, k30, X30, e30, E30, A30, st30⟩ := newP X0 hx I0.1 (hw _ (List.mem_of_getElem? (i := 0) rfl)) e0 (g := (mkF m 103 #[.val (.int n), .val (.int a), .val (.int b), .val (.int c1), .val (.int d), .val (.int ((1 : Int32))), .val (.int y0), .val (.int y1), .val (.int y2), .unset, .unset, .unset, .unset] [(.int ((1 : Int32)))])) rfl (hb hby at_103) rfl (by decide : ¬ ((1 : Int32) < (0 : Int32))) (cap := 1) (by decide) (by decide) (by decide) (by decide)
        obtain ⟨a30, g30⟩ : ∃ z, z = h0.size := ⟨_, rfl⟩
        rw [← g30] at A30 st30
        have ge31 : h0.size ≤ a30 := by rw [g30]; exact M0.1
        have f32 := own_ext_trans M0 E30
        have J33 := I0.ext E30
        have V30 : Arv Z h30 a30 k30 .char (1 : Int32) [.int (0 : Int32)] (.int (0 : Int32)) := (Arv.new A30 (by decide)).pad (pad_rep [] (.int (0 : Int32)) 1)
        refine own_on st30 ?_
        show own_Go p e below F (T30.setTop (mkF m 105 #[.val (.int n), .val (.int a), .val (.int b), .val (.int c1), .val (.int d), .val (.int ((1 : Int32))), .val (.int y0), .val (.int y1), .val (.int y2), .unset, .unset, .unset, .unset] [(.ref a30)]))
        have gz_a30 : Z.heap.size ≤ a30 := Nat.le_trans EZ.1 ge31
        refine own_dup X30.here hx (hb hby at_105) rfl (pc' := 106) rfl ?_
        refine own_iconst X30.here hx (hb hby at_106) (v := 0) rfl (pc' := 107) rfl ?_
        refine own_iload X30.here hx (hb hby at_107) rfl (pc' := 109) rfl ?_
        obtain ⟨T34, h34, X34, e34, W34, V34, st34⟩ := own_cast X30 hx J33.1 e30 V30 (i := 0) rfl (Nat.le_of_ble_eq_true rfl) (by decide) ny0 (g := (mkF m 109 #[.val (.int n), .val (.int a), .val (.int b), .val (.int c1), .val (.int d), .val (.int ((1 : Int32))), .val (.int y0), .val (.int y1), .val (.int y2), .unset, .unset, .unset, .unset] [(.int y0), (.int ((0 : Int32))), (.ref a30), (.ref a30)])) rfl rfl (hb hby at_109)
        replace V34 : Arv Z h34 a30 k30 .char (1 : Int32) [.int y0] (.int (0 : Int32)) := V34
        have f35 := own_ext_wr f32 W34 ge31
        have J36 := J33.wr W34 (Safe.arv J33.1.alike V30 (by decide))
        have N37 := own_Fr_snoc (sl := ((0 : Int32)).toNatClampNeg) N0 gz_a30
        refine own_on st34 ?_
        show own_Go p e below F (T34.setTop (mkF m 110 #[.val (.int n), .val (.int a), .val (.int b), .val (.int c1), .val (.int d), .val (.int ((1 : Int32))), .val (.int y0), .val (.int y1), .val (.int y2), .unset, .unset, .unset, .unset] [(.ref a30)]))
        refine own_astore X34.here hx (hb hby at_110) rfl (L' := #[.val (.int n), .val (.int a), .val (.int b), .val (.int c1), .val (.int d), .val (.int ((1 : Int32))), .val (.int y0), .val (.int y1), .val (.int y2), .val (.ref a30), .unset, .unset, .unset]) rfl (pc' := 112) rfl ?_
        refine own_goto X34.here hx (hb hby at_112) (by decide) (pc' := 159) (by decide) ?_
        obtain ⟨T38, h38, X38, e38, E38, A38, D38, -, st38⟩ := newO X34 hx J36.1 J36.2.1 (hw _ (List.mem_of_getElem? (i := 1) rfl)) (hw _ (List.mem_of_getElem? (i := 2) rfl)) (hw _ (List.mem_of_getElem? (i := 3) rfl)) e34 (g := (mkF m 159 #[.val (.int n), .val (.int a), .val (.int b), .val (.int c1), .val (.int d), .val (.int ((1 : Int32))), .val (.int y0), .val (.int y1), .val (.int y2), .val (.ref a30), .unset, .unset, .unset] [])) rfl (hb hby at_159) (by decide) (by decide)
        obtain ⟨a38, g38⟩ : ∃ z, z = h34.size := ⟨_, rfl⟩
        rw [← g38] at A38 D38 st38
        have ne39 : a30 ≠ a38 := Nat.ne_of_lt (by rw [g38]; exact V34.lt)
        have ge40 : h0.size ≤ a38 := by rw [g38]; exact f35.1
        have sf38 := Safe.ext E38 J36.ch (Safe.new (Nat.le_of_eq g38.symm))
        have f41 := own_ext_trans f35 E38
        have f42 := V34.ext E38
        have J43 := J36.ext E38
        have F38_0 : Fld Z h38 a38 "java/lang/String" "value" "[B" (.null) := (D38 (Or.inr (hw _ (List.mem_of_getElem? (i := 16) rfl))) (ty := .array .byte) (by decide))
        have F38_1 : Fld Z h38 a38 "java/lang/String" "coder" "B" (.int ((0 : Int32))) := (D38 (Or.inr (hw _ (List.mem_of_getElem? (i := 17) rfl))) (ty := .byte) (by decide))
        refine own_on st38 ?_
        show own_Go p e below F (T38.setTop (mkF m 162 #[.val (.int n), .val (.int a), .val (.int b), .val (.int c1), .val (.int d), .val (.int ((1 : Int32))), .val (.int y0), .val (.int y1), .val (.int y2), .val (.ref a30), .unset, .unset, .unset] [(.ref a38)]))
        have gz_a38 : Z.heap.size ≤ a38 := Nat.le_trans EZ.1 ge40
        refine own_dup X38.here hx (hb hby at_162) rfl (pc' := 163) rfl ?_
        refine own_aload X38.here hx (hb hby at_163) rfl rfl (pc' := 165) rfl ?_
        obtain ⟨_, _, ⟨T44, L44, k44, n44⟩, -, X44, ⟨Lc44, hQ44, l44, y44, z44⟩, st44⟩ := X38.specialBack hx (y := (⟨"java/lang/String", "<init>", "([C)V"⟩ : MethodName)) rfl J43.2.1 (mvT J43.1 (hw _ (List.mem_of_getElem? (i := 4) rfl))) (mvT J43.1 (hw _ (List.mem_of_getElem? (i := 5) rfl))) (mvT J43.1 (hw _ (List.mem_of_getElem? (i := 6) rfl))) (by decide) (StrChars.Road.backV (s := s.setVm s.vm) (W := 1) J43.1 own_hws (kI := 4) (hw _ own_wiS) (cs := ([y0] : List Int32)) (bs := ([y0] : List Int32).map (fun c => c.toInt8.toInt32)) (n := 1) gz_a38 (Nat.le_trans gz_a38 (Nat.le_of_lt (A38).lt)) A38 F38_0 F38_1 f42 (O1.ext (own_ext_trans EZ f41)) P5 rfl rfl (by decide) (by decide) (fun c hc => by simp only [List.mem_cons, List.not_mem_nil, or_false] at hc; rcases hc with rfl <;> assumption) rfl (by decide) (by decide)) (g := (mkF m 165 #[.val (.int n), .val (.int a), .val (.int b), .val (.int c1), .val (.int d), .val (.int ((1 : Int32))), .val (.int y0), .val (.int y1), .val (.int y2), .val (.ref a30), .unset, .unset, .unset] [(.ref a30), (.ref a38), (.ref a38)])) rfl (by rw [hml]; rfl) (Steps.refl _) (a := a38) (argsL := [(.ref a30)]) (rest := [(.ref a38)]) (lenOf pdE1 rfl) rfl (by show 2 * 0 + _ ≤ _; exact Nat.le_of_eq rfl) (hb hby at_165) (fun _ _ => ⟨rfl, e38, (Nat.le_of_ble_eq_true rfl), (Nat.le_of_ble_eq_true rfl)⟩)
        dsimp only [Pt.U, Pt.locs, Pt.cells, Pt.slots] at X44 l44 y44 z44 st44 hQ44
        subst l44 y44 z44
        obtain ⟨rfl, N44, K44, A44, C44, t44, kb44, _, _, _, V44, R44⟩ := hQ44
        refine own_to st44 ?_
        show own_Go p e below F (T44.setTop (mkF m 168 #[.val (.int n), .val (.int a), .val (.int b), .val (.int c1), .val (.int d), .val (.int ((1 : Int32))), .val (.int y0), .val (.int y1), .val (.int y2), .val (.ref a30), .unset, .unset, .unset] [(.ref a38)]))
        have f45 := own_ext_keep f41 K44 (fun y hy => by simp only [List.mem_cons, List.not_mem_nil, or_false] at hy; rcases hy with rfl <;> assumption)
        have f46 := f42.keep K44 (by simp only [List.mem_cons, List.not_mem_nil, or_false, not_or]; exact ne39)
        have f47 := A38.keep K44
        have f50 := Safe.keep K44 (sfS sf38 sf0) J43.ch sf38
        have J51 := J43.keep K44 (sfS sf38 sf0)
        have N52 := Fr.app N37 N44
        have S53 : own_Str Z T44.heap a38 [y0] := ⟨t44, kb44, A44, V44, C44, R44, (fun c hc => by simp only [List.mem_cons, List.not_mem_nil, or_false] at hc; rcases hc with rfl <;> assumption), Nat.le_of_ble_eq_true rfl⟩
        refine own_astore X44.here hx (hb hby at_168) rfl (L' := #[.val (.int n), .val (.int a), .val (.int b), .val (.int c1), .val (.int d), .val (.int ((1 : Int32))), .val (.int y0), .val (.int y1), .val (.int y2), .val (.ref a30), .val (.ref a38), .unset, .unset]) rfl (pc' := 170) rfl ?_
        refine own_iload X44.here hx (hb hby at_170) rfl (pc' := 172) rfl ?_
        refine own_ifle X44.here hx (hb hby at_172) (by decide) (pc' := 191) (by decide) (pc2 := 175) rfl (fun q => absurd q (by decide)) (fun q54 => ?_)
        refine own_aload X44.here hx (hb hby at_175) rfl rfl (pc' := 177) rfl ?_
        refine own_iload X44.here hx (hb hby at_177) rfl (pc' := 179) rfl ?_
        refine own_iconst X44.here hx (hb hby at_179) (v := 1) rfl (pc' := 180) rfl ?_
        refine own_isub X44.here hx (hb hby at_180) (pc' := 181) rfl ?_
        rw [(by decide : (1 : Int32) - 1 = 0)]
        show own_Go p e below F (T44.setTop (mkF m 181 #[.val (.int n), .val (.int a), .val (.int b), .val (.int c1), .val (.int d), .val (.int ((1 : Int32))), .val (.int y0), .val (.int y1), .val (.int y2), .val (.ref a30), .val (.ref a38), .unset, .unset] [(.int ((0 : Int32))), (.ref a30)]))
        refine own_caload X44 hx J51.1 rfl f46 (w := y0) (by decide) rfl (hb hby at_181) (pc' := 182) rfl ?_
        refine own_bipush X44.here hx (hb hby at_182) (v := 47) rfl (pc' := 184) rfl ?_
        refine own_icmpne X44.here hx (hb hby at_184) (by decide) (pc' := 191) (by decide) (pc2 := 187) rfl (fun hq => ?_) (fun hq => ?_)
        · refine own_iconst X44.here hx (hb hby at_191) (v := 0) rfl (pc' := 192) rfl ?_
          refine own_istore X44.here hx (hb hby at_192) (L' := #[.val (.int n), .val (.int a), .val (.int b), .val (.int c1), .val (.int d), .val (.int ((1 : Int32))), .val (.int y0), .val (.int y1), .val (.int y2), .val (.ref a30), .val (.ref a38), .val (.int ((0 : Int32))), .unset]) rfl (pc' := 194) rfl ?_
          refine own_aload X44.here hx (hb hby at_194) rfl rfl (pc' := 196) rfl ?_
          obtain ⟨_, _, ⟨T55, L55, k55, n55⟩, -, X55, hS55, hG55, ⟨Lc55, hQ55, l55, y55, z55, C55⟩, st55⟩ := callSS X44 hx (y := (⟨"com/example/cartulary/cartulary/RegisterUris", "childBase", "(Ljava/lang/String;)Ljava/lang/String;"⟩ : MethodName)) J51.2.1 (mvT J51.1 (hw _ (List.mem_of_getElem? (i := 22) rfl))) (mvT J51.1 (hw _ (List.mem_of_getElem? (i := 23) rfl))) (mvT J51.1 (hw _ (List.mem_of_getElem? (i := 24) rfl))) (mvT J51.1 (hw _ (List.mem_of_getElem? (i := 25) rfl))) (by decide) (own_backW (W := 0) (rmCB l Z a0 hw hEL a38 [y0] 0 T44.heap (own_ext_trans EZ f45) z0 O1 P5 S53 rfl hq (Nat.le_of_ble_eq_true rfl)) J51.1 (hw _ (List.mem_of_getElem? (i := 25) rfl)) (hw _ (List.mem_of_getElem? (i := 24) rfl)) (by decide) (by decide) hEL J51.ch (fun _ q => nomatch q)) (g := (mkF m 196 #[.val (.int n), .val (.int a), .val (.int b), .val (.int c1), .val (.int d), .val (.int ((1 : Int32))), .val (.int y0), .val (.int y1), .val (.int y2), .val (.ref a30), .val (.ref a38), .val (.int ((0 : Int32))), .unset] [(.ref a38)])) rfl (by rw [hml]; rfl) (argsL := [(.ref a38)]) (rest := []) (lenOf pdRU rfl) rfl (by show 2 * 0 + _ ≤ _; exact Nat.le_of_eq rfl) (hb hby at_196) (fun _ _ => ⟨rfl, rfl, (Nat.le_of_ble_eq_true rfl), (Nat.le_of_ble_eq_true rfl)⟩)
          dsimp only [Pt.U, Pt.locs, Pt.cells, Pt.slots] at X55 hS55 hG55 l55 y55 z55 C55 st55 hQ55
          subst l55 y55 z55
          replace X55 := (show Stand _ _ _ _ (s.setVm T55.vm) _ _ _ _ _ _ _ _ _ from X55)
          have I55 := J51.later hS55 (Nat.le_refl _) (by have q := hG55; rw [(rfl : _ = T44.heap)] at q; exact q) C55
          obtain ⟨y55, rfl, S55, E55, N55⟩ := hQ55
          refine own_to st55 ?_
          show own_Go p e below F (T55.setTop (mkF m 199 #[.val (.int n), .val (.int a), .val (.int b), .val (.int c1), .val (.int d), .val (.int ((1 : Int32))), .val (.int y0), .val (.int y1), .val (.int y2), .val (.ref a30), .val (.ref a38), .val (.int ((0 : Int32))), .unset] [(.ref y55)]))
          have f56 := own_ext_trans f45 E55
          have N57 := Fr.app N52 N55
          replace S55 : own_Str Z T55.heap y55 [y0, 47] := S55
          refine own_astore X55.here hx (hb hby at_199) rfl (L' := #[.val (.int n), .val (.int a), .val (.int b), .val (.int c1), .val (.int d), .val (.int ((1 : Int32))), .val (.int y0), .val (.int y1), .val (.int y2), .val (.ref a30), .val (.ref a38), .val (.int ((0 : Int32))), .val (.ref y55)]) rfl (pc' := 201) rfl ?_
          refine own_aload X55.here hx (hb hby at_201) rfl rfl (pc' := 203) rfl ?_
          refine own_ifnonnull X55.here hx rfl (hb hby at_203) (by decide) (pc' := 208) (by decide) (pc2 := 206) rfl (fun q58 => ?_) (fun q => nomatch q)
          refine own_iload X55.here hx (hb hby at_208) rfl (pc' := 210) rfl ?_
          refine own_ifeq X55.here hx (hb hby at_210) (by decide) (pc' := 221) (by decide) (pc2 := 213) rfl (fun q59 => ?_) (fun q => absurd rfl q)
          refine own_aload X55.here hx (hb hby at_221) rfl rfl (pc' := 223) rfl ?_
          obtain ⟨cq60, kq60, qa60, qb60, qc60⟩ := isOf I55.1 rfl S55.exa
          obtain ⟨_, _, ⟨T60, L60, k60, n60⟩, -, X60, ⟨Lc60, hQ60, l60, y60, z60⟩, st60⟩ := X55.virtualBack hx (y := (⟨"java/lang/String", "length", "()I"⟩ : MethodName)) (z := (⟨"java/lang/String", "length", "()I"⟩ : MethodName)) I55.2.1 (mvT I55.1 (hw _ (List.mem_of_getElem? (i := 149) rfl))) (mvT I55.1 (hw _ (List.mem_of_getElem? (i := 33) rfl))) (notFace_of_selects (args := #[]) (mvT I55.1 (hw _ (List.mem_of_getElem? (i := 35) rfl)))) (mvT I55.1 (hw _ (List.mem_of_getElem? (i := 35) rfl))) (mvT I55.1 (hw _ (List.mem_of_getElem? (i := 34) rfl))) (by decide) (own_lenB (s := s.setVm T55.vm) (W := 0) I55.1 hw S55 (O1.ext (own_ext_trans EZ f56)) P5 (by decide) (by decide)) qa60 qc60 (g := (mkF m 223 #[.val (.int n), .val (.int a), .val (.int b), .val (.int c1), .val (.int d), .val (.int ((1 : Int32))), .val (.int y0), .val (.int y1), .val (.int y2), .val (.ref a30), .val (.ref a38), .val (.int ((0 : Int32))), .val (.ref y55)] [(.ref y55)])) rfl (by rw [hml]; rfl) (Steps.refl _) (argsL := []) (rest := []) (lenOf pdI rfl) rfl (by show 2 * 0 + _ ≤ _; exact Nat.le_of_eq rfl) (hb hby at_223) (fun _ _ => ⟨rfl, rfl, (Nat.le_of_ble_eq_true rfl), (Nat.le_of_ble_eq_true rfl)⟩)
          dsimp only [Pt.U, Pt.locs, Pt.cells, Pt.slots] at X60 l60 y60 z60 st60 hQ60
          subst l60 y60 z60
          obtain ⟨rfl, rfl, E60⟩ := hQ60
          refine own_to st60 ?_
          show own_Go p e below F (T60.setTop (mkF m 226 #[.val (.int n), .val (.int a), .val (.int b), .val (.int c1), .val (.int d), .val (.int ((1 : Int32))), .val (.int y0), .val (.int y1), .val (.int y2), .val (.ref a30), .val (.ref a38), .val (.int ((0 : Int32))), .val (.ref y55)] [(.int (Int32.ofNat 2))]))
          refine own_iload X60.here hx (hb hby at_226) rfl (pc' := 228) rfl ?_
          refine own_iconst X60.here hx (hb hby at_228) (v := 1) rfl (pc' := 229) rfl ?_
          refine own_iadd X60.here hx (hb hby at_229) (pc' := 230) rfl ?_
          refine own_icmpne X60.here hx (hb hby at_230) (by decide) (pc' := 300) (by decide) (pc2 := 233) rfl (fun q => absurd (by decide) q) (fun q61 => ?_)
          refine own_aload X60.here hx (hb hby at_233) rfl rfl (pc' := 235) rfl ?_
          refine own_iload X60.here hx (hb hby at_235) rfl (pc' := 237) rfl ?_
          obtain ⟨cq62, kq62, qa62, qb62, qc62⟩ := isOf I55.1 E60 S55.exa
          obtain ⟨_, _, ⟨T62, L62, k62, n62⟩, -, X62, ⟨Lc62, hQ62, l62, y62, z62⟩, st62⟩ := X60.virtualBack hx (y := (⟨"java/lang/String", "charAt", "(I)C"⟩ : MethodName)) (z := (⟨"java/lang/String", "charAt", "(I)C"⟩ : MethodName)) I55.2.1 (mvT I55.1 (hw _ (List.mem_of_getElem? (i := 150) rfl))) (mvT I55.1 (hw _ (List.mem_of_getElem? (i := 151) rfl))) (notFace_of_selects (args := #[]) (mvT I55.1 (hw _ (List.mem_of_getElem? (i := 153) rfl)))) (mvT I55.1 (hw _ (List.mem_of_getElem? (i := 153) rfl))) (mvT I55.1 (hw _ (List.mem_of_getElem? (i := 152) rfl))) (by decide) (own_chB (s := s.setVm T55.vm) (W := 0) I55.1 hw S55 (O1.ext (own_ext_trans EZ f56)) P5 (O2.ext (own_ext_trans EZ f56)) rf (i := 1) (Nat.le_of_ble_eq_true rfl) rfl (by decide) (by decide)) qa62 qc62 (g := (mkF m 237 #[.val (.int n), .val (.int a), .val (.int b), .val (.int c1), .val (.int d), .val (.int ((1 : Int32))), .val (.int y0), .val (.int y1), .val (.int y2), .val (.ref a30), .val (.ref a38), .val (.int ((0 : Int32))), .val (.ref y55)] [(.int ((1 : Int32))), (.ref y55)])) rfl (by rw [hml]; rfl) (Steps.refl _) (argsL := [(.int ((1 : Int32)))]) (rest := []) (lenOf pdCh rfl) rfl (by show 2 * 0 + _ ≤ _; exact Nat.le_of_eq rfl) (hb hby at_237) (fun _ _ => ⟨rfl, E60, (Nat.le_of_ble_eq_true rfl), (Nat.le_of_ble_eq_true rfl)⟩)
          dsimp only [Pt.U, Pt.locs, Pt.cells, Pt.slots] at X62 l62 y62 z62 st62 hQ62
          subst l62 y62 z62
          obtain ⟨rfl, rfl, E62⟩ := hQ62
          refine own_to st62 ?_
          show own_Go p e below F (T62.setTop (mkF m 240 #[.val (.int n), .val (.int a), .val (.int b), .val (.int c1), .val (.int d), .val (.int ((1 : Int32))), .val (.int y0), .val (.int y1), .val (.int y2), .val (.ref a30), .val (.ref a38), .val (.int ((0 : Int32))), .val (.ref y55)] [(.int ((47 : Int32)))]))
          refine own_bipush X62.here hx (hb hby at_240) (v := 47) rfl (pc' := 242) rfl ?_
          refine own_icmpne X62.here hx (hb hby at_242) (by decide) (pc' := 300) (by decide) (pc2 := 245) rfl (fun q => absurd rfl q) (fun q63 => ?_)
          refine own_iload X62.here hx (hb hby at_245) rfl (pc' := 247) rfl ?_
          refine own_iconst X62.here hx (hb hby at_247) (v := 1) rfl (pc' := 248) rfl ?_
          refine own_icmplt X62.here hx (hb hby at_248) (by decide) (pc' := 262) (by decide) (pc2 := 251) rfl (fun q => absurd q (by decide)) (fun q64 => ?_)
          refine own_aload X62.here hx (hb hby at_251) rfl rfl (pc' := 253) rfl ?_
          refine own_iconst X62.here hx (hb hby at_253) (v := 0) rfl (pc' := 254) rfl ?_
          obtain ⟨cq65, kq65, qa65, qb65, qc65⟩ := isOf I55.1 E62 S55.exa
          obtain ⟨_, _, ⟨T65, L65, k65, n65⟩, -, X65, ⟨Lc65, hQ65, l65, y65, z65⟩, st65⟩ := X62.virtualBack hx (y := (⟨"java/lang/String", "charAt", "(I)C"⟩ : MethodName)) (z := (⟨"java/lang/String", "charAt", "(I)C"⟩ : MethodName)) I55.2.1 (mvT I55.1 (hw _ (List.mem_of_getElem? (i := 150) rfl))) (mvT I55.1 (hw _ (List.mem_of_getElem? (i := 151) rfl))) (notFace_of_selects (args := #[]) (mvT I55.1 (hw _ (List.mem_of_getElem? (i := 153) rfl)))) (mvT I55.1 (hw _ (List.mem_of_getElem? (i := 153) rfl))) (mvT I55.1 (hw _ (List.mem_of_getElem? (i := 152) rfl))) (by decide) (own_chB (s := s.setVm T55.vm) (W := 0) I55.1 hw S55 (O1.ext (own_ext_trans EZ f56)) P5 (O2.ext (own_ext_trans EZ f56)) rf (i := 0) (Nat.le_of_ble_eq_true rfl) rfl (by decide) (by decide)) qa65 qc65 (g := (mkF m 254 #[.val (.int n), .val (.int a), .val (.int b), .val (.int c1), .val (.int d), .val (.int ((1 : Int32))), .val (.int y0), .val (.int y1), .val (.int y2), .val (.ref a30), .val (.ref a38), .val (.int ((0 : Int32))), .val (.ref y55)] [(.int ((0 : Int32))), (.ref y55)])) rfl (by rw [hml]; rfl) (Steps.refl _) (argsL := [(.int ((0 : Int32)))]) (rest := []) (lenOf pdCh rfl) rfl (by show 2 * 0 + _ ≤ _; exact Nat.le_of_eq rfl) (hb hby at_254) (fun _ _ => ⟨rfl, E62, (Nat.le_of_ble_eq_true rfl), (Nat.le_of_ble_eq_true rfl)⟩)
          dsimp only [Pt.U, Pt.locs, Pt.cells, Pt.slots] at X65 l65 y65 z65 st65 hQ65
          subst l65 y65 z65
          obtain ⟨rfl, rfl, E65⟩ := hQ65
          refine own_to st65 ?_
          show own_Go p e below F (T65.setTop (mkF m 257 #[.val (.int n), .val (.int a), .val (.int b), .val (.int c1), .val (.int d), .val (.int ((1 : Int32))), .val (.int y0), .val (.int y1), .val (.int y2), .val (.ref a30), .val (.ref a38), .val (.int ((0 : Int32))), .val (.ref y55)] [(.int y0)]))
          refine own_iload X65.here hx (hb hby at_257) rfl (pc' := 259) rfl ?_
          refine own_icmpne X65.here hx (hb hby at_259) (by decide) (pc' := 300) (by decide) (pc2 := 262) rfl (fun q => absurd rfl q) (fun q66 => ?_)
          refine own_iload X65.here hx (hb hby at_262) rfl (pc' := 264) rfl ?_
          refine own_iconst X65.here hx (hb hby at_264) (v := 2) rfl (pc' := 265) rfl ?_
          refine own_icmplt X65.here hx (hb hby at_265) (by decide) (pc' := 279) (by decide) (pc2 := 268) rfl (fun q67 => ?_) (fun q => absurd (by decide) q)
          refine own_iload X65.here hx (hb hby at_279) rfl (pc' := 281) rfl ?_
          refine own_iconst X65.here hx (hb hby at_281) (v := 3) rfl (pc' := 282) rfl ?_
          refine own_icmplt X65.here hx (hb hby at_282) (by decide) (pc' := 296) (by decide) (pc2 := 285) rfl (fun q68 => ?_) (fun q => absurd (by decide) q)
          refine own_iconst X65.here hx (hb hby at_296) (v := 1) rfl (pc' := 297) rfl ?_
          refine own_goto X65.here hx (hb hby at_297) (by decide) (pc' := 301) (by decide) ?_
          exact own_retZW X65 hx hlk hEL I55 E65 (by decide) hret (hb hby at_301) (fun t ht hC hE => hF t _ _ _ _ (by rw [ht]; exact ⟨rfl, (by simpa using N57)⟩) hC hE (by decide) (by decide))
        · refine own_iconst X44.here hx (hb hby at_187) (v := 1) rfl (pc' := 188) rfl ?_
          refine own_goto X44.here hx (hb hby at_188) (by decide) (pc' := 192) (by decide) ?_
          refine own_istore X44.here hx (hb hby at_192) (L' := #[.val (.int n), .val (.int a), .val (.int b), .val (.int c1), .val (.int d), .val (.int ((1 : Int32))), .val (.int y0), .val (.int y1), .val (.int y2), .val (.ref a30), .val (.ref a38), .val (.int ((1 : Int32))), .unset]) rfl (pc' := 194) rfl ?_
          refine own_aload X44.here hx (hb hby at_194) rfl rfl (pc' := 196) rfl ?_
          obtain ⟨_, _, ⟨T69, L69, k69, n69⟩, -, X69, hS69, hG69, ⟨Lc69, hQ69, l69, y69, z69, C69⟩, st69⟩ := callSS X44 hx (y := (⟨"com/example/cartulary/cartulary/RegisterUris", "childBase", "(Ljava/lang/String;)Ljava/lang/String;"⟩ : MethodName)) J51.2.1 (mvT J51.1 (hw _ (List.mem_of_getElem? (i := 22) rfl))) (mvT J51.1 (hw _ (List.mem_of_getElem? (i := 23) rfl))) (mvT J51.1 (hw _ (List.mem_of_getElem? (i := 24) rfl))) (mvT J51.1 (hw _ (List.mem_of_getElem? (i := 25) rfl))) (by decide) (own_backW (W := 0) (rmCA l Z a0 hw hEL a38 [y0] 0 T44.heap (own_ext_trans EZ f45) z0 O1 P5 S53 rfl hq) J51.1 (hw _ (List.mem_of_getElem? (i := 25) rfl)) (hw _ (List.mem_of_getElem? (i := 24) rfl)) (by decide) (by decide) hEL J51.ch (fun _ q => nomatch q)) (g := (mkF m 196 #[.val (.int n), .val (.int a), .val (.int b), .val (.int c1), .val (.int d), .val (.int ((1 : Int32))), .val (.int y0), .val (.int y1), .val (.int y2), .val (.ref a30), .val (.ref a38), .val (.int ((1 : Int32))), .unset] [(.ref a38)])) rfl (by rw [hml]; rfl) (argsL := [(.ref a38)]) (rest := []) (lenOf pdRU rfl) rfl (by show 2 * 0 + _ ≤ _; exact Nat.le_of_eq rfl) (hb hby at_196) (fun _ _ => ⟨rfl, rfl, (Nat.le_of_ble_eq_true rfl), (Nat.le_of_ble_eq_true rfl)⟩)
          dsimp only [Pt.U, Pt.locs, Pt.cells, Pt.slots] at X69 hS69 hG69 l69 y69 z69 C69 st69 hQ69
          subst l69 y69 z69
          replace X69 := (show Stand _ _ _ _ (s.setVm T69.vm) _ _ _ _ _ _ _ _ _ from X69)
          have I69 := J51.later hS69 (Nat.le_refl _) (by have q := hG69; rw [(rfl : _ = T44.heap)] at q; exact q) C69
          obtain ⟨rfl, E69, N69⟩ := hQ69
          refine own_to st69 ?_
          show own_Go p e below F (T69.setTop (mkF m 199 #[.val (.int n), .val (.int a), .val (.int b), .val (.int c1), .val (.int d), .val (.int ((1 : Int32))), .val (.int y0), .val (.int y1), .val (.int y2), .val (.ref a30), .val (.ref a38), .val (.int ((1 : Int32))), .unset] [(.ref a38)]))
          have f70 := own_ext_trans f45 E69
          have N71 := Fr.app N52 N69
          refine own_astore X69.here hx (hb hby at_199) rfl (L' := #[.val (.int n), .val (.int a), .val (.int b), .val (.int c1), .val (.int d), .val (.int ((1 : Int32))), .val (.int y0), .val (.int y1), .val (.int y2), .val (.ref a30), .val (.ref a38), .val (.int ((1 : Int32))), .val (.ref a38)]) rfl (pc' := 201) rfl ?_
          refine own_aload X69.here hx (hb hby at_201) rfl rfl (pc' := 203) rfl ?_
          refine own_ifnonnull X69.here hx rfl (hb hby at_203) (by decide) (pc' := 208) (by decide) (pc2 := 206) rfl (fun q72 => ?_) (fun q => nomatch q)
          refine own_iload X69.here hx (hb hby at_208) rfl (pc' := 210) rfl ?_
          refine own_ifeq X69.here hx (hb hby at_210) (by decide) (pc' := 221) (by decide) (pc2 := 213) rfl (fun q => absurd q (by decide)) (fun q73 => ?_)
          refine own_aload X69.here hx (hb hby at_213) rfl rfl (pc' := 215) rfl ?_
          refine own_aload X69.here hx (hb hby at_215) rfl rfl (pc' := 217) rfl ?_
          obtain ⟨cq74, kq74, qa74, qb74, qc74⟩ := isOf I69.1 rfl (S53.ext E69).exa
          obtain ⟨_, _, ⟨T74, L74, k74, n74⟩, -, X74, ⟨Lc74, hQ74, l74, y74, z74⟩, st74⟩ := X69.virtualBack hx (y := (⟨"java/lang/String", "equals", "(Ljava/lang/Object;)Z"⟩ : MethodName)) (z := (⟨"java/lang/String", "equals", "(Ljava/lang/Object;)Z"⟩ : MethodName)) I69.2.1 (mvT I69.1 (hw _ (List.mem_of_getElem? (i := 186) rfl))) (mvT I69.1 (hw _ (List.mem_of_getElem? (i := 187) rfl))) (notFace_of_selects (args := #[]) (mvT I69.1 (hw _ (List.mem_of_getElem? (i := 189) rfl)))) (mvT I69.1 (hw _ (List.mem_of_getElem? (i := 189) rfl))) (mvT I69.1 (hw _ (List.mem_of_getElem? (i := 188) rfl))) (by decide) (backOf (W := 0) (rmEq l Z a0 hw a38 T69.heap) I69.1 (hw _ (List.mem_of_getElem? (i := 190) rfl)) (hw _ (List.mem_of_getElem? (i := 3) rfl)) (by decide) (by decide)) qa74 qc74 (g := (mkF m 217 #[.val (.int n), .val (.int a), .val (.int b), .val (.int c1), .val (.int d), .val (.int ((1 : Int32))), .val (.int y0), .val (.int y1), .val (.int y2), .val (.ref a30), .val (.ref a38), .val (.int ((1 : Int32))), .val (.ref a38)] [(.ref a38), (.ref a38)])) rfl (by rw [hml]; rfl) (Steps.refl _) (argsL := [(.ref a38)]) (rest := []) (lenOf pdEq rfl) rfl (by show 2 * 0 + _ ≤ _; exact Nat.le_of_eq rfl) (hb hby at_217) (fun _ _ => ⟨rfl, rfl, (Nat.le_of_ble_eq_true rfl), (Nat.le_of_ble_eq_true rfl)⟩)
          dsimp only [Pt.U, Pt.locs, Pt.cells, Pt.slots] at X74 l74 y74 z74 st74 hQ74
          subst l74 y74 z74
          obtain ⟨rfl, N74, E74⟩ := hQ74
          refine own_to st74 ?_
          show own_Go p e below F (T74.setTop (mkF m 220 #[.val (.int n), .val (.int a), .val (.int b), .val (.int c1), .val (.int d), .val (.int ((1 : Int32))), .val (.int y0), .val (.int y1), .val (.int y2), .val (.ref a30), .val (.ref a38), .val (.int ((1 : Int32))), .val (.ref a38)] [(.int ((1 : Int32)))]))
          have N75 := Fr.app N71 N74
          exact own_retZW X74 hx hlk hEL I69 E74 (by decide) hret (hb hby at_220) (fun t ht hC hE => hF t _ _ _ _ (by rw [ht]; exact ⟨rfl, (by simpa using N75)⟩) hC hE (by decide) (by decide))
      · show own_Go p e below F (T0.setTop (mkF m 83 #[.val (.int n), .val (.int a), .val (.int b), .val (.int c1), .val (.int d), .val (.int ((2 : Int32))), .val (.int y0), .val (.int y1), .val (.int y2), .unset, .unset, .unset, .unset] []))
        refine own_iload X0.here hx (hb hby at_83) rfl (pc' := 85) rfl ?_
        refine own_ifne X0.here hx (hb hby at_85) (by decide) (pc' := 96) (by decide) (pc2 := 88) rfl (fun q76 => ?_) (fun q => absurd q (by decide))
        refine own_iload X0.here hx (hb hby at_96) rfl (pc' := 98) rfl ?_
        refine own_iconst X0.here hx (hb hby at_98) (v := 1) rfl (pc' := 99) rfl ?_
        refine own_icmpne X0.here hx (hb hby at_99) (by decide) (pc' := 115) (by decide) (pc2 := 102) rfl (fun q77 => ?_) (fun q => absurd q (by decide))
        refine own_iload X0.here hx (hb hby at_115) rfl (pc' := 117) rfl ?_
        refine own_iconst X0.here hx (hb hby at_117) (v := 2) rfl (pc' := 118) rfl ?_
        refine own_icmpne X0.here hx (hb hby at_118) (by decide) (pc' := 139) (by decide) (pc2 := 121) rfl (fun q => absurd rfl q) (fun q78 => ?_)
        refine own_iconst X0.here hx (hb hby at_121) (v := 2) rfl (pc' := 122) rfl ?_
        obtain ⟨T79, h79, k79, X79, e79, E79, A79, st79⟩ := newP X0 hx I0.1 (hw _ (List.mem_of_getElem? (i := 0) rfl)) e0 (g := (mkF m 122 #[.val (.int n), .val (.int a), .val (.int b), .val (.int c1), .val (.int d), .val (.int ((2 : Int32))), .val (.int y0), .val (.int y1), .val (.int y2), .unset, .unset, .unset, .unset] [(.int ((2 : Int32)))])) rfl (hb hby at_122) rfl (by decide : ¬ ((2 : Int32) < (0 : Int32))) (cap := 2) (by decide) (by decide) (by decide) (by decide)
        obtain ⟨a79, g79⟩ : ∃ z, z = h0.size := ⟨_, rfl⟩
        rw [← g79] at A79 st79
        have ge80 : h0.size ≤ a79 := by rw [g79]; exact M0.1
        have f81 := own_ext_trans M0 E79
        have J82 := I0.ext E79
        have V79 : Arv Z h79 a79 k79 .char (2 : Int32) [.int (0 : Int32), .int (0 : Int32)] (.int (0 : Int32)) := (Arv.new A79 (by decide)).pad (pad_rep [] (.int (0 : Int32)) 2)
        refine own_on st79 ?_
        show own_Go p e below F (T79.setTop (mkF m 124 #[.val (.int n), .val (.int a), .val (.int b), .val (.int c1), .val (.int d), .val (.int ((2 : Int32))), .val (.int y0), .val (.int y1), .val (.int y2), .unset, .unset, .unset, .unset] [(.ref a79)]))
        have gz_a79 : Z.heap.size ≤ a79 := Nat.le_trans EZ.1 ge80
        refine own_dup X79.here hx (hb hby at_124) rfl (pc' := 125) rfl ?_
        refine own_iconst X79.here hx (hb hby at_125) (v := 0) rfl (pc' := 126) rfl ?_
        refine own_iload X79.here hx (hb hby at_126) rfl (pc' := 128) rfl ?_
        obtain ⟨T83, h83, X83, e83, W83, V83, st83⟩ := own_cast X79 hx J82.1 e79 V79 (i := 0) rfl (Nat.le_of_ble_eq_true rfl) (by decide) ny0 (g := (mkF m 128 #[.val (.int n), .val (.int a), .val (.int b), .val (.int c1), .val (.int d), .val (.int ((2 : Int32))), .val (.int y0), .val (.int y1), .val (.int y2), .unset, .unset, .unset, .unset] [(.int y0), (.int ((0 : Int32))), (.ref a79), (.ref a79)])) rfl rfl (hb hby at_128)
        replace V83 : Arv Z h83 a79 k79 .char (2 : Int32) [.int y0, .int (0 : Int32)] (.int (0 : Int32)) := V83
        have f84 := own_ext_wr f81 W83 ge80
        have J85 := J82.wr W83 (Safe.arv J82.1.alike V79 (by decide))
        have N86 := own_Fr_snoc (sl := ((0 : Int32)).toNatClampNeg) N0 gz_a79
        refine own_on st83 ?_
        show own_Go p e below F (T83.setTop (mkF m 129 #[.val (.int n), .val (.int a), .val (.int b), .val (.int c1), .val (.int d), .val (.int ((2 : Int32))), .val (.int y0), .val (.int y1), .val (.int y2), .unset, .unset, .unset, .unset] [(.ref a79)]))
        refine own_dup X83.here hx (hb hby at_129) rfl (pc' := 130) rfl ?_
        refine own_iconst X83.here hx (hb hby at_130) (v := 1) rfl (pc' := 131) rfl ?_
        refine own_iload X83.here hx (hb hby at_131) rfl (pc' := 133) rfl ?_
        obtain ⟨T87, h87, X87, e87, W87, V87, st87⟩ := own_cast X83 hx J85.1 e83 V83 (i := 1) rfl (Nat.le_of_ble_eq_true rfl) (by decide) ny1 (g := (mkF m 133 #[.val (.int n), .val (.int a), .val (.int b), .val (.int c1), .val (.int d), .val (.int ((2 : Int32))), .val (.int y0), .val (.int y1), .val (.int y2), .unset, .unset, .unset, .unset] [(.int y1), (.int ((1 : Int32))), (.ref a79), (.ref a79)])) rfl rfl (hb hby at_133)
        replace V87 : Arv Z h87 a79 k79 .char (2 : Int32) [.int y0, .int y1] (.int (0 : Int32)) := V87
        have f88 := own_ext_wr f84 W87 ge80
        have J89 := J85.wr W87 (Safe.arv J85.1.alike V83 (by decide))
        have N90 := own_Fr_snoc (sl := ((1 : Int32)).toNatClampNeg) N86 gz_a79
        refine own_on st87 ?_
        show own_Go p e below F (T87.setTop (mkF m 134 #[.val (.int n), .val (.int a), .val (.int b), .val (.int c1), .val (.int d), .val (.int ((2 : Int32))), .val (.int y0), .val (.int y1), .val (.int y2), .unset, .unset, .unset, .unset] [(.ref a79)]))
        refine own_astore X87.here hx (hb hby at_134) rfl (L' := #[.val (.int n), .val (.int a), .val (.int b), .val (.int c1), .val (.int d), .val (.int ((2 : Int32))), .val (.int y0), .val (.int y1), .val (.int y2), .val (.ref a79), .unset, .unset, .unset]) rfl (pc' := 136) rfl ?_
        refine own_goto X87.here hx (hb hby at_136) (by decide) (pc' := 159) (by decide) ?_
        obtain ⟨T91, h91, X91, e91, E91, A91, D91, -, st91⟩ := newO X87 hx J89.1 J89.2.1 (hw _ (List.mem_of_getElem? (i := 1) rfl)) (hw _ (List.mem_of_getElem? (i := 2) rfl)) (hw _ (List.mem_of_getElem? (i := 3) rfl)) e87 (g := (mkF m 159 #[.val (.int n), .val (.int a), .val (.int b), .val (.int c1), .val (.int d), .val (.int ((2 : Int32))), .val (.int y0), .val (.int y1), .val (.int y2), .val (.ref a79), .unset, .unset, .unset] [])) rfl (hb hby at_159) (by decide) (by decide)
        obtain ⟨a91, g91⟩ : ∃ z, z = h87.size := ⟨_, rfl⟩
        rw [← g91] at A91 D91 st91
        have ne92 : a79 ≠ a91 := Nat.ne_of_lt (by rw [g91]; exact V87.lt)
        have ge93 : h0.size ≤ a91 := by rw [g91]; exact f88.1
        have sf91 := Safe.ext E91 J89.ch (Safe.new (Nat.le_of_eq g91.symm))
        have f94 := own_ext_trans f88 E91
        have f95 := V87.ext E91
        have J96 := J89.ext E91
        have F91_0 : Fld Z h91 a91 "java/lang/String" "value" "[B" (.null) := (D91 (Or.inr (hw _ (List.mem_of_getElem? (i := 16) rfl))) (ty := .array .byte) (by decide))
        have F91_1 : Fld Z h91 a91 "java/lang/String" "coder" "B" (.int ((0 : Int32))) := (D91 (Or.inr (hw _ (List.mem_of_getElem? (i := 17) rfl))) (ty := .byte) (by decide))
        refine own_on st91 ?_
        show own_Go p e below F (T91.setTop (mkF m 162 #[.val (.int n), .val (.int a), .val (.int b), .val (.int c1), .val (.int d), .val (.int ((2 : Int32))), .val (.int y0), .val (.int y1), .val (.int y2), .val (.ref a79), .unset, .unset, .unset] [(.ref a91)]))
        have gz_a91 : Z.heap.size ≤ a91 := Nat.le_trans EZ.1 ge93
        refine own_dup X91.here hx (hb hby at_162) rfl (pc' := 163) rfl ?_
        refine own_aload X91.here hx (hb hby at_163) rfl rfl (pc' := 165) rfl ?_
        obtain ⟨_, _, ⟨T97, L97, k97, n97⟩, -, X97, ⟨Lc97, hQ97, l97, y97, z97⟩, st97⟩ := X91.specialBack hx (y := (⟨"java/lang/String", "<init>", "([C)V"⟩ : MethodName)) rfl J96.2.1 (mvT J96.1 (hw _ (List.mem_of_getElem? (i := 4) rfl))) (mvT J96.1 (hw _ (List.mem_of_getElem? (i := 5) rfl))) (mvT J96.1 (hw _ (List.mem_of_getElem? (i := 6) rfl))) (by decide) (StrChars.Road.backV (s := s.setVm s.vm) (W := 1) J96.1 own_hws (kI := 4) (hw _ own_wiS) (cs := ([y0, y1] : List Int32)) (bs := ([y0, y1] : List Int32).map (fun c => c.toInt8.toInt32)) (n := 2) gz_a91 (Nat.le_trans gz_a91 (Nat.le_of_lt (A91).lt)) A91 F91_0 F91_1 f95 (O1.ext (own_ext_trans EZ f94)) P5 rfl rfl (by decide) (by decide) (fun c hc => by simp only [List.mem_cons, List.not_mem_nil, or_false] at hc; rcases hc with rfl | rfl <;> assumption) rfl (by decide) (by decide)) (g := (mkF m 165 #[.val (.int n), .val (.int a), .val (.int b), .val (.int c1), .val (.int d), .val (.int ((2 : Int32))), .val (.int y0), .val (.int y1), .val (.int y2), .val (.ref a79), .unset, .unset, .unset] [(.ref a79), (.ref a91), (.ref a91)])) rfl (by rw [hml]; rfl) (Steps.refl _) (a := a91) (argsL := [(.ref a79)]) (rest := [(.ref a91)]) (lenOf pdE1 rfl) rfl (by show 2 * 0 + _ ≤ _; exact Nat.le_of_eq rfl) (hb hby at_165) (fun _ _ => ⟨rfl, e91, (Nat.le_of_ble_eq_true rfl), (Nat.le_of_ble_eq_true rfl)⟩)
        dsimp only [Pt.U, Pt.locs, Pt.cells, Pt.slots] at X97 l97 y97 z97 st97 hQ97
        subst l97 y97 z97
        obtain ⟨rfl, N97, K97, A97, C97, t97, kb97, _, _, _, V97, R97⟩ := hQ97
        refine own_to st97 ?_
        show own_Go p e below F (T97.setTop (mkF m 168 #[.val (.int n), .val (.int a), .val (.int b), .val (.int c1), .val (.int d), .val (.int ((2 : Int32))), .val (.int y0), .val (.int y1), .val (.int y2), .val (.ref a79), .unset, .unset, .unset] [(.ref a91)]))
        have f98 := own_ext_keep f94 K97 (fun y hy => by simp only [List.mem_cons, List.not_mem_nil, or_false] at hy; rcases hy with rfl <;> assumption)
        have f99 := f95.keep K97 (by simp only [List.mem_cons, List.not_mem_nil, or_false, not_or]; exact ne92)
        have f100 := A91.keep K97
        have f103 := Safe.keep K97 (sfS sf91 sf0) J96.ch sf91
        have J104 := J96.keep K97 (sfS sf91 sf0)
        have N105 := Fr.app N90 N97
        have S106 : own_Str Z T97.heap a91 [y0, y1] := ⟨t97, kb97, A97, V97, C97, R97, (fun c hc => by simp only [List.mem_cons, List.not_mem_nil, or_false] at hc; rcases hc with rfl | rfl <;> assumption), Nat.le_of_ble_eq_true rfl⟩
        refine own_astore X97.here hx (hb hby at_168) rfl (L' := #[.val (.int n), .val (.int a), .val (.int b), .val (.int c1), .val (.int d), .val (.int ((2 : Int32))), .val (.int y0), .val (.int y1), .val (.int y2), .val (.ref a79), .val (.ref a91), .unset, .unset]) rfl (pc' := 170) rfl ?_
        refine own_iload X97.here hx (hb hby at_170) rfl (pc' := 172) rfl ?_
        refine own_ifle X97.here hx (hb hby at_172) (by decide) (pc' := 191) (by decide) (pc2 := 175) rfl (fun q => absurd q (by decide)) (fun q107 => ?_)
        refine own_aload X97.here hx (hb hby at_175) rfl rfl (pc' := 177) rfl ?_
        refine own_iload X97.here hx (hb hby at_177) rfl (pc' := 179) rfl ?_
        refine own_iconst X97.here hx (hb hby at_179) (v := 1) rfl (pc' := 180) rfl ?_
        refine own_isub X97.here hx (hb hby at_180) (pc' := 181) rfl ?_
        rw [(by decide : (2 : Int32) - 1 = 1)]
        show own_Go p e below F (T97.setTop (mkF m 181 #[.val (.int n), .val (.int a), .val (.int b), .val (.int c1), .val (.int d), .val (.int ((2 : Int32))), .val (.int y0), .val (.int y1), .val (.int y2), .val (.ref a79), .val (.ref a91), .unset, .unset] [(.int ((1 : Int32))), (.ref a79)]))
        refine own_caload X97 hx J104.1 rfl f99 (w := y1) (by decide) rfl (hb hby at_181) (pc' := 182) rfl ?_
        refine own_bipush X97.here hx (hb hby at_182) (v := 47) rfl (pc' := 184) rfl ?_
        refine own_icmpne X97.here hx (hb hby at_184) (by decide) (pc' := 191) (by decide) (pc2 := 187) rfl (fun hq => ?_) (fun hq => ?_)
        · refine own_iconst X97.here hx (hb hby at_191) (v := 0) rfl (pc' := 192) rfl ?_
          refine own_istore X97.here hx (hb hby at_192) (L' := #[.val (.int n), .val (.int a), .val (.int b), .val (.int c1), .val (.int d), .val (.int ((2 : Int32))), .val (.int y0), .val (.int y1), .val (.int y2), .val (.ref a79), .val (.ref a91), .val (.int ((0 : Int32))), .unset]) rfl (pc' := 194) rfl ?_
          refine own_aload X97.here hx (hb hby at_194) rfl rfl (pc' := 196) rfl ?_
          obtain ⟨_, _, ⟨T108, L108, k108, n108⟩, -, X108, hS108, hG108, ⟨Lc108, hQ108, l108, y108, z108, C108⟩, st108⟩ := callSS X97 hx (y := (⟨"com/example/cartulary/cartulary/RegisterUris", "childBase", "(Ljava/lang/String;)Ljava/lang/String;"⟩ : MethodName)) J104.2.1 (mvT J104.1 (hw _ (List.mem_of_getElem? (i := 22) rfl))) (mvT J104.1 (hw _ (List.mem_of_getElem? (i := 23) rfl))) (mvT J104.1 (hw _ (List.mem_of_getElem? (i := 24) rfl))) (mvT J104.1 (hw _ (List.mem_of_getElem? (i := 25) rfl))) (by decide) (own_backW (W := 0) (rmCB l Z a0 hw hEL a91 [y0, y1] 1 T97.heap (own_ext_trans EZ f98) z0 O1 P5 S106 rfl hq (Nat.le_of_ble_eq_true rfl)) J104.1 (hw _ (List.mem_of_getElem? (i := 25) rfl)) (hw _ (List.mem_of_getElem? (i := 24) rfl)) (by decide) (by decide) hEL J104.ch (fun _ q => nomatch q)) (g := (mkF m 196 #[.val (.int n), .val (.int a), .val (.int b), .val (.int c1), .val (.int d), .val (.int ((2 : Int32))), .val (.int y0), .val (.int y1), .val (.int y2), .val (.ref a79), .val (.ref a91), .val (.int ((0 : Int32))), .unset] [(.ref a91)])) rfl (by rw [hml]; rfl) (argsL := [(.ref a91)]) (rest := []) (lenOf pdRU rfl) rfl (by show 2 * 0 + _ ≤ _; exact Nat.le_of_eq rfl) (hb hby at_196) (fun _ _ => ⟨rfl, rfl, (Nat.le_of_ble_eq_true rfl), (Nat.le_of_ble_eq_true rfl)⟩)
          dsimp only [Pt.U, Pt.locs, Pt.cells, Pt.slots] at X108 hS108 hG108 l108 y108 z108 C108 st108 hQ108
          subst l108 y108 z108
          replace X108 := (show Stand _ _ _ _ (s.setVm T108.vm) _ _ _ _ _ _ _ _ _ from X108)
          have I108 := J104.later hS108 (Nat.le_refl _) (by have q := hG108; rw [(rfl : _ = T97.heap)] at q; exact q) C108
          obtain ⟨y108, rfl, S108, E108, N108⟩ := hQ108
          refine own_to st108 ?_
          show own_Go p e below F (T108.setTop (mkF m 199 #[.val (.int n), .val (.int a), .val (.int b), .val (.int c1), .val (.int d), .val (.int ((2 : Int32))), .val (.int y0), .val (.int y1), .val (.int y2), .val (.ref a79), .val (.ref a91), .val (.int ((0 : Int32))), .unset] [(.ref y108)]))
          have f109 := own_ext_trans f98 E108
          have N110 := Fr.app N105 N108
          replace S108 : own_Str Z T108.heap y108 [y0, y1, 47] := S108
          refine own_astore X108.here hx (hb hby at_199) rfl (L' := #[.val (.int n), .val (.int a), .val (.int b), .val (.int c1), .val (.int d), .val (.int ((2 : Int32))), .val (.int y0), .val (.int y1), .val (.int y2), .val (.ref a79), .val (.ref a91), .val (.int ((0 : Int32))), .val (.ref y108)]) rfl (pc' := 201) rfl ?_
          refine own_aload X108.here hx (hb hby at_201) rfl rfl (pc' := 203) rfl ?_
          refine own_ifnonnull X108.here hx rfl (hb hby at_203) (by decide) (pc' := 208) (by decide) (pc2 := 206) rfl (fun q111 => ?_) (fun q => nomatch q)
          refine own_iload X108.here hx (hb hby at_208) rfl (pc' := 210) rfl ?_
          refine own_ifeq X108.here hx (hb hby at_210) (by decide) (pc' := 221) (by decide) (pc2 := 213) rfl (fun q112 => ?_) (fun q => absurd rfl q)
          refine own_aload X108.here hx (hb hby at_221) rfl rfl (pc' := 223) rfl ?_
          obtain ⟨cq113, kq113, qa113, qb113, qc113⟩ := isOf I108.1 rfl S108.exa
          obtain ⟨_, _, ⟨T113, L113, k113, n113⟩, -, X113, ⟨Lc113, hQ113, l113, y113, z113⟩, st113⟩ := X108.virtualBack hx (y := (⟨"java/lang/String", "length", "()I"⟩ : MethodName)) (z := (⟨"java/lang/String", "length", "()I"⟩ : MethodName)) I108.2.1 (mvT I108.1 (hw _ (List.mem_of_getElem? (i := 149) rfl))) (mvT I108.1 (hw _ (List.mem_of_getElem? (i := 33) rfl))) (notFace_of_selects (args := #[]) (mvT I108.1 (hw _ (List.mem_of_getElem? (i := 35) rfl)))) (mvT I108.1 (hw _ (List.mem_of_getElem? (i := 35) rfl))) (mvT I108.1 (hw _ (List.mem_of_getElem? (i := 34) rfl))) (by decide) (own_lenB (s := s.setVm T108.vm) (W := 0) I108.1 hw S108 (O1.ext (own_ext_trans EZ f109)) P5 (by decide) (by decide)) qa113 qc113 (g := (mkF m 223 #[.val (.int n), .val (.int a), .val (.int b), .val (.int c1), .val (.int d), .val (.int ((2 : Int32))), .val (.int y0), .val (.int y1), .val (.int y2), .val (.ref a79), .val (.ref a91), .val (.int ((0 : Int32))), .val (.ref y108)] [(.ref y108)])) rfl (by rw [hml]; rfl) (Steps.refl _) (argsL := []) (rest := []) (lenOf pdI rfl) rfl (by show 2 * 0 + _ ≤ _; exact Nat.le_of_eq rfl) (hb hby at_223) (fun _ _ => ⟨rfl, rfl, (Nat.le_of_ble_eq_true rfl), (Nat.le_of_ble_eq_true rfl)⟩)
          dsimp only [Pt.U, Pt.locs, Pt.cells, Pt.slots] at X113 l113 y113 z113 st113 hQ113
          subst l113 y113 z113
          obtain ⟨rfl, rfl, E113⟩ := hQ113
          refine own_to st113 ?_
          show own_Go p e below F (T113.setTop (mkF m 226 #[.val (.int n), .val (.int a), .val (.int b), .val (.int c1), .val (.int d), .val (.int ((2 : Int32))), .val (.int y0), .val (.int y1), .val (.int y2), .val (.ref a79), .val (.ref a91), .val (.int ((0 : Int32))), .val (.ref y108)] [(.int (Int32.ofNat 3))]))
          refine own_iload X113.here hx (hb hby at_226) rfl (pc' := 228) rfl ?_
          refine own_iconst X113.here hx (hb hby at_228) (v := 1) rfl (pc' := 229) rfl ?_
          refine own_iadd X113.here hx (hb hby at_229) (pc' := 230) rfl ?_
          refine own_icmpne X113.here hx (hb hby at_230) (by decide) (pc' := 300) (by decide) (pc2 := 233) rfl (fun q => absurd (by decide) q) (fun q114 => ?_)
          refine own_aload X113.here hx (hb hby at_233) rfl rfl (pc' := 235) rfl ?_
          refine own_iload X113.here hx (hb hby at_235) rfl (pc' := 237) rfl ?_
          obtain ⟨cq115, kq115, qa115, qb115, qc115⟩ := isOf I108.1 E113 S108.exa
          obtain ⟨_, _, ⟨T115, L115, k115, n115⟩, -, X115, ⟨Lc115, hQ115, l115, y115, z115⟩, st115⟩ := X113.virtualBack hx (y := (⟨"java/lang/String", "charAt", "(I)C"⟩ : MethodName)) (z := (⟨"java/lang/String", "charAt", "(I)C"⟩ : MethodName)) I108.2.1 (mvT I108.1 (hw _ (List.mem_of_getElem? (i := 150) rfl))) (mvT I108.1 (hw _ (List.mem_of_getElem? (i := 151) rfl))) (notFace_of_selects (args := #[]) (mvT I108.1 (hw _ (List.mem_of_getElem? (i := 153) rfl)))) (mvT I108.1 (hw _ (List.mem_of_getElem? (i := 153) rfl))) (mvT I108.1 (hw _ (List.mem_of_getElem? (i := 152) rfl))) (by decide) (own_chB (s := s.setVm T108.vm) (W := 0) I108.1 hw S108 (O1.ext (own_ext_trans EZ f109)) P5 (O2.ext (own_ext_trans EZ f109)) rf (i := 2) (Nat.le_of_ble_eq_true rfl) rfl (by decide) (by decide)) qa115 qc115 (g := (mkF m 237 #[.val (.int n), .val (.int a), .val (.int b), .val (.int c1), .val (.int d), .val (.int ((2 : Int32))), .val (.int y0), .val (.int y1), .val (.int y2), .val (.ref a79), .val (.ref a91), .val (.int ((0 : Int32))), .val (.ref y108)] [(.int ((2 : Int32))), (.ref y108)])) rfl (by rw [hml]; rfl) (Steps.refl _) (argsL := [(.int ((2 : Int32)))]) (rest := []) (lenOf pdCh rfl) rfl (by show 2 * 0 + _ ≤ _; exact Nat.le_of_eq rfl) (hb hby at_237) (fun _ _ => ⟨rfl, E113, (Nat.le_of_ble_eq_true rfl), (Nat.le_of_ble_eq_true rfl)⟩)
          dsimp only [Pt.U, Pt.locs, Pt.cells, Pt.slots] at X115 l115 y115 z115 st115 hQ115
          subst l115 y115 z115
          obtain ⟨rfl, rfl, E115⟩ := hQ115
          refine own_to st115 ?_
          show own_Go p e below F (T115.setTop (mkF m 240 #[.val (.int n), .val (.int a), .val (.int b), .val (.int c1), .val (.int d), .val (.int ((2 : Int32))), .val (.int y0), .val (.int y1), .val (.int y2), .val (.ref a79), .val (.ref a91), .val (.int ((0 : Int32))), .val (.ref y108)] [(.int ((47 : Int32)))]))
          refine own_bipush X115.here hx (hb hby at_240) (v := 47) rfl (pc' := 242) rfl ?_
          refine own_icmpne X115.here hx (hb hby at_242) (by decide) (pc' := 300) (by decide) (pc2 := 245) rfl (fun q => absurd rfl q) (fun q116 => ?_)
          refine own_iload X115.here hx (hb hby at_245) rfl (pc' := 247) rfl ?_
          refine own_iconst X115.here hx (hb hby at_247) (v := 1) rfl (pc' := 248) rfl ?_
          refine own_icmplt X115.here hx (hb hby at_248) (by decide) (pc' := 262) (by decide) (pc2 := 251) rfl (fun q => absurd q (by decide)) (fun q117 => ?_)
          refine own_aload X115.here hx (hb hby at_251) rfl rfl (pc' := 253) rfl ?_
          refine own_iconst X115.here hx (hb hby at_253) (v := 0) rfl (pc' := 254) rfl ?_
          obtain ⟨cq118, kq118, qa118, qb118, qc118⟩ := isOf I108.1 E115 S108.exa
          obtain ⟨_, _, ⟨T118, L118, k118, n118⟩, -, X118, ⟨Lc118, hQ118, l118, y118, z118⟩, st118⟩ := X115.virtualBack hx (y := (⟨"java/lang/String", "charAt", "(I)C"⟩ : MethodName)) (z := (⟨"java/lang/String", "charAt", "(I)C"⟩ : MethodName)) I108.2.1 (mvT I108.1 (hw _ (List.mem_of_getElem? (i := 150) rfl))) (mvT I108.1 (hw _ (List.mem_of_getElem? (i := 151) rfl))) (notFace_of_selects (args := #[]) (mvT I108.1 (hw _ (List.mem_of_getElem? (i := 153) rfl)))) (mvT I108.1 (hw _ (List.mem_of_getElem? (i := 153) rfl))) (mvT I108.1 (hw _ (List.mem_of_getElem? (i := 152) rfl))) (by decide) (own_chB (s := s.setVm T108.vm) (W := 0) I108.1 hw S108 (O1.ext (own_ext_trans EZ f109)) P5 (O2.ext (own_ext_trans EZ f109)) rf (i := 0) (Nat.le_of_ble_eq_true rfl) rfl (by decide) (by decide)) qa118 qc118 (g := (mkF m 254 #[.val (.int n), .val (.int a), .val (.int b), .val (.int c1), .val (.int d), .val (.int ((2 : Int32))), .val (.int y0), .val (.int y1), .val (.int y2), .val (.ref a79), .val (.ref a91), .val (.int ((0 : Int32))), .val (.ref y108)] [(.int ((0 : Int32))), (.ref y108)])) rfl (by rw [hml]; rfl) (Steps.refl _) (argsL := [(.int ((0 : Int32)))]) (rest := []) (lenOf pdCh rfl) rfl (by show 2 * 0 + _ ≤ _; exact Nat.le_of_eq rfl) (hb hby at_254) (fun _ _ => ⟨rfl, E115, (Nat.le_of_ble_eq_true rfl), (Nat.le_of_ble_eq_true rfl)⟩)
          dsimp only [Pt.U, Pt.locs, Pt.cells, Pt.slots] at X118 l118 y118 z118 st118 hQ118
          subst l118 y118 z118
          obtain ⟨rfl, rfl, E118⟩ := hQ118
          refine own_to st118 ?_
          show own_Go p e below F (T118.setTop (mkF m 257 #[.val (.int n), .val (.int a), .val (.int b), .val (.int c1), .val (.int d), .val (.int ((2 : Int32))), .val (.int y0), .val (.int y1), .val (.int y2), .val (.ref a79), .val (.ref a91), .val (.int ((0 : Int32))), .val (.ref y108)] [(.int y0)]))
          refine own_iload X118.here hx (hb hby at_257) rfl (pc' := 259) rfl ?_
          refine own_icmpne X118.here hx (hb hby at_259) (by decide) (pc' := 300) (by decide) (pc2 := 262) rfl (fun q => absurd rfl q) (fun q119 => ?_)
          refine own_iload X118.here hx (hb hby at_262) rfl (pc' := 264) rfl ?_
          refine own_iconst X118.here hx (hb hby at_264) (v := 2) rfl (pc' := 265) rfl ?_
          refine own_icmplt X118.here hx (hb hby at_265) (by decide) (pc' := 279) (by decide) (pc2 := 268) rfl (fun q => absurd q (by decide)) (fun q120 => ?_)
          refine own_aload X118.here hx (hb hby at_268) rfl rfl (pc' := 270) rfl ?_
          refine own_iconst X118.here hx (hb hby at_270) (v := 1) rfl (pc' := 271) rfl ?_
          obtain ⟨cq121, kq121, qa121, qb121, qc121⟩ := isOf I108.1 E118 S108.exa
          obtain ⟨_, _, ⟨T121, L121, k121, n121⟩, -, X121, ⟨Lc121, hQ121, l121, y121, z121⟩, st121⟩ := X118.virtualBack hx (y := (⟨"java/lang/String", "charAt", "(I)C"⟩ : MethodName)) (z := (⟨"java/lang/String", "charAt", "(I)C"⟩ : MethodName)) I108.2.1 (mvT I108.1 (hw _ (List.mem_of_getElem? (i := 150) rfl))) (mvT I108.1 (hw _ (List.mem_of_getElem? (i := 151) rfl))) (notFace_of_selects (args := #[]) (mvT I108.1 (hw _ (List.mem_of_getElem? (i := 153) rfl)))) (mvT I108.1 (hw _ (List.mem_of_getElem? (i := 153) rfl))) (mvT I108.1 (hw _ (List.mem_of_getElem? (i := 152) rfl))) (by decide) (own_chB (s := s.setVm T108.vm) (W := 0) I108.1 hw S108 (O1.ext (own_ext_trans EZ f109)) P5 (O2.ext (own_ext_trans EZ f109)) rf (i := 1) (Nat.le_of_ble_eq_true rfl) rfl (by decide) (by decide)) qa121 qc121 (g := (mkF m 271 #[.val (.int n), .val (.int a), .val (.int b), .val (.int c1), .val (.int d), .val (.int ((2 : Int32))), .val (.int y0), .val (.int y1), .val (.int y2), .val (.ref a79), .val (.ref a91), .val (.int ((0 : Int32))), .val (.ref y108)] [(.int ((1 : Int32))), (.ref y108)])) rfl (by rw [hml]; rfl) (Steps.refl _) (argsL := [(.int ((1 : Int32)))]) (rest := []) (lenOf pdCh rfl) rfl (by show 2 * 0 + _ ≤ _; exact Nat.le_of_eq rfl) (hb hby at_271) (fun _ _ => ⟨rfl, E118, (Nat.le_of_ble_eq_true rfl), (Nat.le_of_ble_eq_true rfl)⟩)
          dsimp only [Pt.U, Pt.locs, Pt.cells, Pt.slots] at X121 l121 y121 z121 st121 hQ121
          subst l121 y121 z121
          obtain ⟨rfl, rfl, E121⟩ := hQ121
          refine own_to st121 ?_
          show own_Go p e below F (T121.setTop (mkF m 274 #[.val (.int n), .val (.int a), .val (.int b), .val (.int c1), .val (.int d), .val (.int ((2 : Int32))), .val (.int y0), .val (.int y1), .val (.int y2), .val (.ref a79), .val (.ref a91), .val (.int ((0 : Int32))), .val (.ref y108)] [(.int y1)]))
          refine own_iload X121.here hx (hb hby at_274) rfl (pc' := 276) rfl ?_
          refine own_icmpne X121.here hx (hb hby at_276) (by decide) (pc' := 300) (by decide) (pc2 := 279) rfl (fun q => absurd rfl q) (fun q122 => ?_)
          refine own_iload X121.here hx (hb hby at_279) rfl (pc' := 281) rfl ?_
          refine own_iconst X121.here hx (hb hby at_281) (v := 3) rfl (pc' := 282) rfl ?_
          refine own_icmplt X121.here hx (hb hby at_282) (by decide) (pc' := 296) (by decide) (pc2 := 285) rfl (fun q123 => ?_) (fun q => absurd (by decide) q)
          refine own_iconst X121.here hx (hb hby at_296) (v := 1) rfl (pc' := 297) rfl ?_
          refine own_goto X121.here hx (hb hby at_297) (by decide) (pc' := 301) (by decide) ?_
          exact own_retZW X121 hx hlk hEL I108 E121 (by decide) hret (hb hby at_301) (fun t ht hC hE => hF t _ _ _ _ (by rw [ht]; exact ⟨rfl, (by simpa using N110)⟩) hC hE (by decide) (by decide))
        · refine own_iconst X97.here hx (hb hby at_187) (v := 1) rfl (pc' := 188) rfl ?_
          refine own_goto X97.here hx (hb hby at_188) (by decide) (pc' := 192) (by decide) ?_
          refine own_istore X97.here hx (hb hby at_192) (L' := #[.val (.int n), .val (.int a), .val (.int b), .val (.int c1), .val (.int d), .val (.int ((2 : Int32))), .val (.int y0), .val (.int y1), .val (.int y2), .val (.ref a79), .val (.ref a91), .val (.int ((1 : Int32))), .unset]) rfl (pc' := 194) rfl ?_
          refine own_aload X97.here hx (hb hby at_194) rfl rfl (pc' := 196) rfl ?_
          obtain ⟨_, _, ⟨T124, L124, k124, n124⟩, -, X124, hS124, hG124, ⟨Lc124, hQ124, l124, y124, z124, C124⟩, st124⟩ := callSS X97 hx (y := (⟨"com/example/cartulary/cartulary/RegisterUris", "childBase", "(Ljava/lang/String;)Ljava/lang/String;"⟩ : MethodName)) J104.2.1 (mvT J104.1 (hw _ (List.mem_of_getElem? (i := 22) rfl))) (mvT J104.1 (hw _ (List.mem_of_getElem? (i := 23) rfl))) (mvT J104.1 (hw _ (List.mem_of_getElem? (i := 24) rfl))) (mvT J104.1 (hw _ (List.mem_of_getElem? (i := 25) rfl))) (by decide) (own_backW (W := 0) (rmCA l Z a0 hw hEL a91 [y0, y1] 1 T97.heap (own_ext_trans EZ f98) z0 O1 P5 S106 rfl hq) J104.1 (hw _ (List.mem_of_getElem? (i := 25) rfl)) (hw _ (List.mem_of_getElem? (i := 24) rfl)) (by decide) (by decide) hEL J104.ch (fun _ q => nomatch q)) (g := (mkF m 196 #[.val (.int n), .val (.int a), .val (.int b), .val (.int c1), .val (.int d), .val (.int ((2 : Int32))), .val (.int y0), .val (.int y1), .val (.int y2), .val (.ref a79), .val (.ref a91), .val (.int ((1 : Int32))), .unset] [(.ref a91)])) rfl (by rw [hml]; rfl) (argsL := [(.ref a91)]) (rest := []) (lenOf pdRU rfl) rfl (by show 2 * 0 + _ ≤ _; exact Nat.le_of_eq rfl) (hb hby at_196) (fun _ _ => ⟨rfl, rfl, (Nat.le_of_ble_eq_true rfl), (Nat.le_of_ble_eq_true rfl)⟩)
          dsimp only [Pt.U, Pt.locs, Pt.cells, Pt.slots] at X124 hS124 hG124 l124 y124 z124 C124 st124 hQ124
          subst l124 y124 z124
          replace X124 := (show Stand _ _ _ _ (s.setVm T124.vm) _ _ _ _ _ _ _ _ _ from X124)
          have I124 := J104.later hS124 (Nat.le_refl _) (by have q := hG124; rw [(rfl : _ = T97.heap)] at q; exact q) C124
          obtain ⟨rfl, E124, N124⟩ := hQ124
          refine own_to st124 ?_
          show own_Go p e below F (T124.setTop (mkF m 199 #[.val (.int n), .val (.int a), .val (.int b), .val (.int c1), .val (.int d), .val (.int ((2 : Int32))), .val (.int y0), .val (.int y1), .val (.int y2), .val (.ref a79), .val (.ref a91), .val (.int ((1 : Int32))), .unset] [(.ref a91)]))
          have f125 := own_ext_trans f98 E124
          have N126 := Fr.app N105 N124
          refine own_astore X124.here hx (hb hby at_199) rfl (L' := #[.val (.int n), .val (.int a), .val (.int b), .val (.int c1), .val (.int d), .val (.int ((2 : Int32))), .val (.int y0), .val (.int y1), .val (.int y2), .val (.ref a79), .val (.ref a91), .val (.int ((1 : Int32))), .val (.ref a91)]) rfl (pc' := 201) rfl ?_
          refine own_aload X124.here hx (hb hby at_201) rfl rfl (pc' := 203) rfl ?_
          refine own_ifnonnull X124.here hx rfl (hb hby at_203) (by decide) (pc' := 208) (by decide) (pc2 := 206) rfl (fun q127 => ?_) (fun q => nomatch q)
          refine own_iload X124.here hx (hb hby at_208) rfl (pc' := 210) rfl ?_
          refine own_ifeq X124.here hx (hb hby at_210) (by decide) (pc' := 221) (by decide) (pc2 := 213) rfl (fun q => absurd q (by decide)) (fun q128 => ?_)
          refine own_aload X124.here hx (hb hby at_213) rfl rfl (pc' := 215) rfl ?_
          refine own_aload X124.here hx (hb hby at_215) rfl rfl (pc' := 217) rfl ?_
          obtain ⟨cq129, kq129, qa129, qb129, qc129⟩ := isOf I124.1 rfl (S106.ext E124).exa
          obtain ⟨_, _, ⟨T129, L129, k129, n129⟩, -, X129, ⟨Lc129, hQ129, l129, y129, z129⟩, st129⟩ := X124.virtualBack hx (y := (⟨"java/lang/String", "equals", "(Ljava/lang/Object;)Z"⟩ : MethodName)) (z := (⟨"java/lang/String", "equals", "(Ljava/lang/Object;)Z"⟩ : MethodName)) I124.2.1 (mvT I124.1 (hw _ (List.mem_of_getElem? (i := 186) rfl))) (mvT I124.1 (hw _ (List.mem_of_getElem? (i := 187) rfl))) (notFace_of_selects (args := #[]) (mvT I124.1 (hw _ (List.mem_of_getElem? (i := 189) rfl)))) (mvT I124.1 (hw _ (List.mem_of_getElem? (i := 189) rfl))) (mvT I124.1 (hw _ (List.mem_of_getElem? (i := 188) rfl))) (by decide) (backOf (W := 0) (rmEq l Z a0 hw a91 T124.heap) I124.1 (hw _ (List.mem_of_getElem? (i := 190) rfl)) (hw _ (List.mem_of_getElem? (i := 3) rfl)) (by decide) (by decide)) qa129 qc129 (g := (mkF m 217 #[.val (.int n), .val (.int a), .val (.int b), .val (.int c1), .val (.int d), .val (.int ((2 : Int32))), .val (.int y0), .val (.int y1), .val (.int y2), .val (.ref a79), .val (.ref a91), .val (.int ((1 : Int32))), .val (.ref a91)] [(.ref a91), (.ref a91)])) rfl (by rw [hml]; rfl) (Steps.refl _) (argsL := [(.ref a91)]) (rest := []) (lenOf pdEq rfl) rfl (by show 2 * 0 + _ ≤ _; exact Nat.le_of_eq rfl) (hb hby at_217) (fun _ _ => ⟨rfl, rfl, (Nat.le_of_ble_eq_true rfl), (Nat.le_of_ble_eq_true rfl)⟩)
          dsimp only [Pt.U, Pt.locs, Pt.cells, Pt.slots] at X129 l129 y129 z129 st129 hQ129
          subst l129 y129 z129
          obtain ⟨rfl, N129, E129⟩ := hQ129
          refine own_to st129 ?_
          show own_Go p e below F (T129.setTop (mkF m 220 #[.val (.int n), .val (.int a), .val (.int b), .val (.int c1), .val (.int d), .val (.int ((2 : Int32))), .val (.int y0), .val (.int y1), .val (.int y2), .val (.ref a79), .val (.ref a91), .val (.int ((1 : Int32))), .val (.ref a91)] [(.int ((1 : Int32)))]))
          have N130 := Fr.app N126 N129
          exact own_retZW X129 hx hlk hEL I124 E129 (by decide) hret (hb hby at_220) (fun t ht hC hE => hF t _ _ _ _ (by rw [ht]; exact ⟨rfl, (by simpa using N130)⟩) hC hE (by decide) (by decide))
      · show own_Go p e below F (T0.setTop (mkF m 83 #[.val (.int n), .val (.int a), .val (.int b), .val (.int c1), .val (.int d), .val (.int ((3 : Int32))), .val (.int y0), .val (.int y1), .val (.int y2), .unset, .unset, .unset, .unset] []))
        refine own_iload X0.here hx (hb hby at_83) rfl (pc' := 85) rfl ?_
        refine own_ifne X0.here hx (hb hby at_85) (by decide) (pc' := 96) (by decide) (pc2 := 88) rfl (fun q131 => ?_) (fun q => absurd q (by decide))
        refine own_iload X0.here hx (hb hby at_96) rfl (pc' := 98) rfl ?_
        refine own_iconst X0.here hx (hb hby at_98) (v := 1) rfl (pc' := 99) rfl ?_
        refine own_icmpne X0.here hx (hb hby at_99) (by decide) (pc' := 115) (by decide) (pc2 := 102) rfl (fun q132 => ?_) (fun q => absurd q (by decide))
        refine own_iload X0.here hx (hb hby at_115) rfl (pc' := 117) rfl ?_
        refine own_iconst X0.here hx (hb hby at_117) (v := 2) rfl (pc' := 118) rfl ?_
        refine own_icmpne X0.here hx (hb hby at_118) (by decide) (pc' := 139) (by decide) (pc2 := 121) rfl (fun q133 => ?_) (fun q => absurd q (by decide))
        refine own_iconst X0.here hx (hb hby at_139) (v := 3) rfl (pc' := 140) rfl ?_
        obtain ⟨T134, h134, k134, X134, e134, E134, A134, st134⟩ := newP X0 hx I0.1 (hw _ (List.mem_of_getElem? (i := 0) rfl)) e0 (g := (mkF m 140 #[.val (.int n), .val (.int a), .val (.int b), .val (.int c1), .val (.int d), .val (.int ((3 : Int32))), .val (.int y0), .val (.int y1), .val (.int y2), .unset, .unset, .unset, .unset] [(.int ((3 : Int32)))])) rfl (hb hby at_140) rfl (by decide : ¬ ((3 : Int32) < (0 : Int32))) (cap := 3) (by decide) (by decide) (by decide) (by decide)
        obtain ⟨a134, g134⟩ : ∃ z, z = h0.size := ⟨_, rfl⟩
        rw [← g134] at A134 st134
        have ge135 : h0.size ≤ a134 := by rw [g134]; exact M0.1
        have f136 := own_ext_trans M0 E134
        have J137 := I0.ext E134
        have V134 : Arv Z h134 a134 k134 .char (3 : Int32) [.int (0 : Int32), .int (0 : Int32), .int (0 : Int32)] (.int (0 : Int32)) := (Arv.new A134 (by decide)).pad (pad_rep [] (.int (0 : Int32)) 3)
        refine own_on st134 ?_
        show own_Go p e below F (T134.setTop (mkF m 142 #[.val (.int n), .val (.int a), .val (.int b), .val (.int c1), .val (.int d), .val (.int ((3 : Int32))), .val (.int y0), .val (.int y1), .val (.int y2), .unset, .unset, .unset, .unset] [(.ref a134)]))
        have gz_a134 : Z.heap.size ≤ a134 := Nat.le_trans EZ.1 ge135
        refine own_dup X134.here hx (hb hby at_142) rfl (pc' := 143) rfl ?_
        refine own_iconst X134.here hx (hb hby at_143) (v := 0) rfl (pc' := 144) rfl ?_
        refine own_iload X134.here hx (hb hby at_144) rfl (pc' := 146) rfl ?_
        obtain ⟨T138, h138, X138, e138, W138, V138, st138⟩ := own_cast X134 hx J137.1 e134 V134 (i := 0) rfl (Nat.le_of_ble_eq_true rfl) (by decide) ny0 (g := (mkF m 146 #[.val (.int n), .val (.int a), .val (.int b), .val (.int c1), .val (.int d), .val (.int ((3 : Int32))), .val (.int y0), .val (.int y1), .val (.int y2), .unset, .unset, .unset, .unset] [(.int y0), (.int ((0 : Int32))), (.ref a134), (.ref a134)])) rfl rfl (hb hby at_146)
        replace V138 : Arv Z h138 a134 k134 .char (3 : Int32) [.int y0, .int (0 : Int32), .int (0 : Int32)] (.int (0 : Int32)) := V138
        have f139 := own_ext_wr f136 W138 ge135
        have J140 := J137.wr W138 (Safe.arv J137.1.alike V134 (by decide))
        have N141 := own_Fr_snoc (sl := ((0 : Int32)).toNatClampNeg) N0 gz_a134
        refine own_on st138 ?_
        show own_Go p e below F (T138.setTop (mkF m 147 #[.val (.int n), .val (.int a), .val (.int b), .val (.int c1), .val (.int d), .val (.int ((3 : Int32))), .val (.int y0), .val (.int y1), .val (.int y2), .unset, .unset, .unset, .unset] [(.ref a134)]))
        refine own_dup X138.here hx (hb hby at_147) rfl (pc' := 148) rfl ?_
        refine own_iconst X138.here hx (hb hby at_148) (v := 1) rfl (pc' := 149) rfl ?_
        refine own_iload X138.here hx (hb hby at_149) rfl (pc' := 151) rfl ?_
        obtain ⟨T142, h142, X142, e142, W142, V142, st142⟩ := own_cast X138 hx J140.1 e138 V138 (i := 1) rfl (Nat.le_of_ble_eq_true rfl) (by decide) ny1 (g := (mkF m 151 #[.val (.int n), .val (.int a), .val (.int b), .val (.int c1), .val (.int d), .val (.int ((3 : Int32))), .val (.int y0), .val (.int y1), .val (.int y2), .unset, .unset, .unset, .unset] [(.int y1), (.int ((1 : Int32))), (.ref a134), (.ref a134)])) rfl rfl (hb hby at_151)
        replace V142 : Arv Z h142 a134 k134 .char (3 : Int32) [.int y0, .int y1, .int (0 : Int32)] (.int (0 : Int32)) := V142
        have f143 := own_ext_wr f139 W142 ge135
        have J144 := J140.wr W142 (Safe.arv J140.1.alike V138 (by decide))
        have N145 := own_Fr_snoc (sl := ((1 : Int32)).toNatClampNeg) N141 gz_a134
        refine own_on st142 ?_
        show own_Go p e below F (T142.setTop (mkF m 152 #[.val (.int n), .val (.int a), .val (.int b), .val (.int c1), .val (.int d), .val (.int ((3 : Int32))), .val (.int y0), .val (.int y1), .val (.int y2), .unset, .unset, .unset, .unset] [(.ref a134)]))
        refine own_dup X142.here hx (hb hby at_152) rfl (pc' := 153) rfl ?_
        refine own_iconst X142.here hx (hb hby at_153) (v := 2) rfl (pc' := 154) rfl ?_
        refine own_iload X142.here hx (hb hby at_154) rfl (pc' := 156) rfl ?_
        obtain ⟨T146, h146, X146, e146, W146, V146, st146⟩ := own_cast X142 hx J144.1 e142 V142 (i := 2) rfl (Nat.le_of_ble_eq_true rfl) (by decide) ny2 (g := (mkF m 156 #[.val (.int n), .val (.int a), .val (.int b), .val (.int c1), .val (.int d), .val (.int ((3 : Int32))), .val (.int y0), .val (.int y1), .val (.int y2), .unset, .unset, .unset, .unset] [(.int y2), (.int ((2 : Int32))), (.ref a134), (.ref a134)])) rfl rfl (hb hby at_156)
        replace V146 : Arv Z h146 a134 k134 .char (3 : Int32) [.int y0, .int y1, .int y2] (.int (0 : Int32)) := V146
        have f147 := own_ext_wr f143 W146 ge135
        have J148 := J144.wr W146 (Safe.arv J144.1.alike V142 (by decide))
        have N149 := own_Fr_snoc (sl := ((2 : Int32)).toNatClampNeg) N145 gz_a134
        refine own_on st146 ?_
        show own_Go p e below F (T146.setTop (mkF m 157 #[.val (.int n), .val (.int a), .val (.int b), .val (.int c1), .val (.int d), .val (.int ((3 : Int32))), .val (.int y0), .val (.int y1), .val (.int y2), .unset, .unset, .unset, .unset] [(.ref a134)]))
        refine own_astore X146.here hx (hb hby at_157) rfl (L' := #[.val (.int n), .val (.int a), .val (.int b), .val (.int c1), .val (.int d), .val (.int ((3 : Int32))), .val (.int y0), .val (.int y1), .val (.int y2), .val (.ref a134), .unset, .unset, .unset]) rfl (pc' := 159) rfl ?_
        obtain ⟨T150, h150, X150, e150, E150, A150, D150, -, st150⟩ := newO X146 hx J148.1 J148.2.1 (hw _ (List.mem_of_getElem? (i := 1) rfl)) (hw _ (List.mem_of_getElem? (i := 2) rfl)) (hw _ (List.mem_of_getElem? (i := 3) rfl)) e146 (g := (mkF m 159 #[.val (.int n), .val (.int a), .val (.int b), .val (.int c1), .val (.int d), .val (.int ((3 : Int32))), .val (.int y0), .val (.int y1), .val (.int y2), .val (.ref a134), .unset, .unset, .unset] [])) rfl (hb hby at_159) (by decide) (by decide)
        obtain ⟨a150, g150⟩ : ∃ z, z = h146.size := ⟨_, rfl⟩
        rw [← g150] at A150 D150 st150
        have ne151 : a134 ≠ a150 := Nat.ne_of_lt (by rw [g150]; exact V146.lt)
        have ge152 : h0.size ≤ a150 := by rw [g150]; exact f147.1
        have sf150 := Safe.ext E150 J148.ch (Safe.new (Nat.le_of_eq g150.symm))
        have f153 := own_ext_trans f147 E150
        have f154 := V146.ext E150
        have J155 := J148.ext E150
        have F150_0 : Fld Z h150 a150 "java/lang/String" "value" "[B" (.null) := (D150 (Or.inr (hw _ (List.mem_of_getElem? (i := 16) rfl))) (ty := .array .byte) (by decide))
        have F150_1 : Fld Z h150 a150 "java/lang/String" "coder" "B" (.int ((0 : Int32))) := (D150 (Or.inr (hw _ (List.mem_of_getElem? (i := 17) rfl))) (ty := .byte) (by decide))
        refine own_on st150 ?_
        show own_Go p e below F (T150.setTop (mkF m 162 #[.val (.int n), .val (.int a), .val (.int b), .val (.int c1), .val (.int d), .val (.int ((3 : Int32))), .val (.int y0), .val (.int y1), .val (.int y2), .val (.ref a134), .unset, .unset, .unset] [(.ref a150)]))
        have gz_a150 : Z.heap.size ≤ a150 := Nat.le_trans EZ.1 ge152
        refine own_dup X150.here hx (hb hby at_162) rfl (pc' := 163) rfl ?_
        refine own_aload X150.here hx (hb hby at_163) rfl rfl (pc' := 165) rfl ?_
        obtain ⟨_, _, ⟨T156, L156, k156, n156⟩, -, X156, ⟨Lc156, hQ156, l156, y156, z156⟩, st156⟩ := X150.specialBack hx (y := (⟨"java/lang/String", "<init>", "([C)V"⟩ : MethodName)) rfl J155.2.1 (mvT J155.1 (hw _ (List.mem_of_getElem? (i := 4) rfl))) (mvT J155.1 (hw _ (List.mem_of_getElem? (i := 5) rfl))) (mvT J155.1 (hw _ (List.mem_of_getElem? (i := 6) rfl))) (by decide) (StrChars.Road.backV (s := s.setVm s.vm) (W := 1) J155.1 own_hws (kI := 4) (hw _ own_wiS) (cs := ([y0, y1, y2] : List Int32)) (bs := ([y0, y1, y2] : List Int32).map (fun c => c.toInt8.toInt32)) (n := 3) gz_a150 (Nat.le_trans gz_a150 (Nat.le_of_lt (A150).lt)) A150 F150_0 F150_1 f154 (O1.ext (own_ext_trans EZ f153)) P5 rfl rfl (by decide) (by decide) (fun c hc => by simp only [List.mem_cons, List.not_mem_nil, or_false] at hc; rcases hc with rfl | rfl | rfl <;> assumption) rfl (by decide) (by decide)) (g := (mkF m 165 #[.val (.int n), .val (.int a), .val (.int b), .val (.int c1), .val (.int d), .val (.int ((3 : Int32))), .val (.int y0), .val (.int y1), .val (.int y2), .val (.ref a134), .unset, .unset, .unset] [(.ref a134), (.ref a150), (.ref a150)])) rfl (by rw [hml]; rfl) (Steps.refl _) (a := a150) (argsL := [(.ref a134)]) (rest := [(.ref a150)]) (lenOf pdE1 rfl) rfl (by show 2 * 0 + _ ≤ _; exact Nat.le_of_eq rfl) (hb hby at_165) (fun _ _ => ⟨rfl, e150, (Nat.le_of_ble_eq_true rfl), (Nat.le_of_ble_eq_true rfl)⟩)
        dsimp only [Pt.U, Pt.locs, Pt.cells, Pt.slots] at X156 l156 y156 z156 st156 hQ156
        subst l156 y156 z156
        obtain ⟨rfl, N156, K156, A156, C156, t156, kb156, _, _, _, V156, R156⟩ := hQ156
        refine own_to st156 ?_
        show own_Go p e below F (T156.setTop (mkF m 168 #[.val (.int n), .val (.int a), .val (.int b), .val (.int c1), .val (.int d), .val (.int ((3 : Int32))), .val (.int y0), .val (.int y1), .val (.int y2), .val (.ref a134), .unset, .unset, .unset] [(.ref a150)]))
        have f157 := own_ext_keep f153 K156 (fun y hy => by simp only [List.mem_cons, List.not_mem_nil, or_false] at hy; rcases hy with rfl <;> assumption)
        have f158 := f154.keep K156 (by simp only [List.mem_cons, List.not_mem_nil, or_false, not_or]; exact ne151)
        have f159 := A150.keep K156
        have f162 := Safe.keep K156 (sfS sf150 sf0) J155.ch sf150
        have J163 := J155.keep K156 (sfS sf150 sf0)
        have N164 := Fr.app N149 N156
        have S165 : own_Str Z T156.heap a150 [y0, y1, y2] := ⟨t156, kb156, A156, V156, C156, R156, (fun c hc => by simp only [List.mem_cons, List.not_mem_nil, or_false] at hc; rcases hc with rfl | rfl | rfl <;> assumption), Nat.le_of_ble_eq_true rfl⟩
        refine own_astore X156.here hx (hb hby at_168) rfl (L' := #[.val (.int n), .val (.int a), .val (.int b), .val (.int c1), .val (.int d), .val (.int ((3 : Int32))), .val (.int y0), .val (.int y1), .val (.int y2), .val (.ref a134), .val (.ref a150), .unset, .unset]) rfl (pc' := 170) rfl ?_
        refine own_iload X156.here hx (hb hby at_170) rfl (pc' := 172) rfl ?_
        refine own_ifle X156.here hx (hb hby at_172) (by decide) (pc' := 191) (by decide) (pc2 := 175) rfl (fun q => absurd q (by decide)) (fun q166 => ?_)
        refine own_aload X156.here hx (hb hby at_175) rfl rfl (pc' := 177) rfl ?_
        refine own_iload X156.here hx (hb hby at_177) rfl (pc' := 179) rfl ?_
        refine own_iconst X156.here hx (hb hby at_179) (v := 1) rfl (pc' := 180) rfl ?_
        refine own_isub X156.here hx (hb hby at_180) (pc' := 181) rfl ?_
        rw [(by decide : (3 : Int32) - 1 = 2)]
        show own_Go p e below F (T156.setTop (mkF m 181 #[.val (.int n), .val (.int a), .val (.int b), .val (.int c1), .val (.int d), .val (.int ((3 : Int32))), .val (.int y0), .val (.int y1), .val (.int y2), .val (.ref a134), .val (.ref a150), .unset, .unset] [(.int ((2 : Int32))), (.ref a134)]))
        refine own_caload X156 hx J163.1 rfl f158 (w := y2) (by decide) rfl (hb hby at_181) (pc' := 182) rfl ?_
        refine own_bipush X156.here hx (hb hby at_182) (v := 47) rfl (pc' := 184) rfl ?_
        refine own_icmpne X156.here hx (hb hby at_184) (by decide) (pc' := 191) (by decide) (pc2 := 187) rfl (fun hq => ?_) (fun hq => ?_)
        · refine own_iconst X156.here hx (hb hby at_191) (v := 0) rfl (pc' := 192) rfl ?_
          refine own_istore X156.here hx (hb hby at_192) (L' := #[.val (.int n), .val (.int a), .val (.int b), .val (.int c1), .val (.int d), .val (.int ((3 : Int32))), .val (.int y0), .val (.int y1), .val (.int y2), .val (.ref a134), .val (.ref a150), .val (.int ((0 : Int32))), .unset]) rfl (pc' := 194) rfl ?_
          refine own_aload X156.here hx (hb hby at_194) rfl rfl (pc' := 196) rfl ?_
          obtain ⟨_, _, ⟨T167, L167, k167, n167⟩, -, X167, hS167, hG167, ⟨Lc167, hQ167, l167, y167, z167, C167⟩, st167⟩ := callSS X156 hx (y := (⟨"com/example/cartulary/cartulary/RegisterUris", "childBase", "(Ljava/lang/String;)Ljava/lang/String;"⟩ : MethodName)) J163.2.1 (mvT J163.1 (hw _ (List.mem_of_getElem? (i := 22) rfl))) (mvT J163.1 (hw _ (List.mem_of_getElem? (i := 23) rfl))) (mvT J163.1 (hw _ (List.mem_of_getElem? (i := 24) rfl))) (mvT J163.1 (hw _ (List.mem_of_getElem? (i := 25) rfl))) (by decide) (own_backW (W := 0) (rmCB l Z a0 hw hEL a150 [y0, y1, y2] 2 T156.heap (own_ext_trans EZ f157) z0 O1 P5 S165 rfl hq (Nat.le_of_ble_eq_true rfl)) J163.1 (hw _ (List.mem_of_getElem? (i := 25) rfl)) (hw _ (List.mem_of_getElem? (i := 24) rfl)) (by decide) (by decide) hEL J163.ch (fun _ q => nomatch q)) (g := (mkF m 196 #[.val (.int n), .val (.int a), .val (.int b), .val (.int c1), .val (.int d), .val (.int ((3 : Int32))), .val (.int y0), .val (.int y1), .val (.int y2), .val (.ref a134), .val (.ref a150), .val (.int ((0 : Int32))), .unset] [(.ref a150)])) rfl (by rw [hml]; rfl) (argsL := [(.ref a150)]) (rest := []) (lenOf pdRU rfl) rfl (by show 2 * 0 + _ ≤ _; exact Nat.le_of_eq rfl) (hb hby at_196) (fun _ _ => ⟨rfl, rfl, (Nat.le_of_ble_eq_true rfl), (Nat.le_of_ble_eq_true rfl)⟩)
          dsimp only [Pt.U, Pt.locs, Pt.cells, Pt.slots] at X167 hS167 hG167 l167 y167 z167 C167 st167 hQ167
          subst l167 y167 z167
          replace X167 := (show Stand _ _ _ _ (s.setVm T167.vm) _ _ _ _ _ _ _ _ _ from X167)
          have I167 := J163.later hS167 (Nat.le_refl _) (by have q := hG167; rw [(rfl : _ = T156.heap)] at q; exact q) C167
          obtain ⟨y167, rfl, S167, E167, N167⟩ := hQ167
          refine own_to st167 ?_
          show own_Go p e below F (T167.setTop (mkF m 199 #[.val (.int n), .val (.int a), .val (.int b), .val (.int c1), .val (.int d), .val (.int ((3 : Int32))), .val (.int y0), .val (.int y1), .val (.int y2), .val (.ref a134), .val (.ref a150), .val (.int ((0 : Int32))), .unset] [(.ref y167)]))
          have f168 := own_ext_trans f157 E167
          have N169 := Fr.app N164 N167
          replace S167 : own_Str Z T167.heap y167 [y0, y1, y2, 47] := S167
          refine own_astore X167.here hx (hb hby at_199) rfl (L' := #[.val (.int n), .val (.int a), .val (.int b), .val (.int c1), .val (.int d), .val (.int ((3 : Int32))), .val (.int y0), .val (.int y1), .val (.int y2), .val (.ref a134), .val (.ref a150), .val (.int ((0 : Int32))), .val (.ref y167)]) rfl (pc' := 201) rfl ?_
          refine own_aload X167.here hx (hb hby at_201) rfl rfl (pc' := 203) rfl ?_
          refine own_ifnonnull X167.here hx rfl (hb hby at_203) (by decide) (pc' := 208) (by decide) (pc2 := 206) rfl (fun q170 => ?_) (fun q => nomatch q)
          refine own_iload X167.here hx (hb hby at_208) rfl (pc' := 210) rfl ?_
          refine own_ifeq X167.here hx (hb hby at_210) (by decide) (pc' := 221) (by decide) (pc2 := 213) rfl (fun q171 => ?_) (fun q => absurd rfl q)
          refine own_aload X167.here hx (hb hby at_221) rfl rfl (pc' := 223) rfl ?_
          obtain ⟨cq172, kq172, qa172, qb172, qc172⟩ := isOf I167.1 rfl S167.exa
          obtain ⟨_, _, ⟨T172, L172, k172, n172⟩, -, X172, ⟨Lc172, hQ172, l172, y172, z172⟩, st172⟩ := X167.virtualBack hx (y := (⟨"java/lang/String", "length", "()I"⟩ : MethodName)) (z := (⟨"java/lang/String", "length", "()I"⟩ : MethodName)) I167.2.1 (mvT I167.1 (hw _ (List.mem_of_getElem? (i := 149) rfl))) (mvT I167.1 (hw _ (List.mem_of_getElem? (i := 33) rfl))) (notFace_of_selects (args := #[]) (mvT I167.1 (hw _ (List.mem_of_getElem? (i := 35) rfl)))) (mvT I167.1 (hw _ (List.mem_of_getElem? (i := 35) rfl))) (mvT I167.1 (hw _ (List.mem_of_getElem? (i := 34) rfl))) (by decide) (own_lenB (s := s.setVm T167.vm) (W := 0) I167.1 hw S167 (O1.ext (own_ext_trans EZ f168)) P5 (by decide) (by decide)) qa172 qc172 (g := (mkF m 223 #[.val (.int n), .val (.int a), .val (.int b), .val (.int c1), .val (.int d), .val (.int ((3 : Int32))), .val (.int y0), .val (.int y1), .val (.int y2), .val (.ref a134), .val (.ref a150), .val (.int ((0 : Int32))), .val (.ref y167)] [(.ref y167)])) rfl (by rw [hml]; rfl) (Steps.refl _) (argsL := []) (rest := []) (lenOf pdI rfl) rfl (by show 2 * 0 + _ ≤ _; exact Nat.le_of_eq rfl) (hb hby at_223) (fun _ _ => ⟨rfl, rfl, (Nat.le_of_ble_eq_true rfl), (Nat.le_of_ble_eq_true rfl)⟩)
          dsimp only [Pt.U, Pt.locs, Pt.cells, Pt.slots] at X172 l172 y172 z172 st172 hQ172
          subst l172 y172 z172
          obtain ⟨rfl, rfl, E172⟩ := hQ172
          refine own_to st172 ?_
          show own_Go p e below F (T172.setTop (mkF m 226 #[.val (.int n), .val (.int a), .val (.int b), .val (.int c1), .val (.int d), .val (.int ((3 : Int32))), .val (.int y0), .val (.int y1), .val (.int y2), .val (.ref a134), .val (.ref a150), .val (.int ((0 : Int32))), .val (.ref y167)] [(.int (Int32.ofNat 4))]))
          refine own_iload X172.here hx (hb hby at_226) rfl (pc' := 228) rfl ?_
          refine own_iconst X172.here hx (hb hby at_228) (v := 1) rfl (pc' := 229) rfl ?_
          refine own_iadd X172.here hx (hb hby at_229) (pc' := 230) rfl ?_
          refine own_icmpne X172.here hx (hb hby at_230) (by decide) (pc' := 300) (by decide) (pc2 := 233) rfl (fun q => absurd (by decide) q) (fun q173 => ?_)
          refine own_aload X172.here hx (hb hby at_233) rfl rfl (pc' := 235) rfl ?_
          refine own_iload X172.here hx (hb hby at_235) rfl (pc' := 237) rfl ?_
          obtain ⟨cq174, kq174, qa174, qb174, qc174⟩ := isOf I167.1 E172 S167.exa
          obtain ⟨_, _, ⟨T174, L174, k174, n174⟩, -, X174, ⟨Lc174, hQ174, l174, y174, z174⟩, st174⟩ := X172.virtualBack hx (y := (⟨"java/lang/String", "charAt", "(I)C"⟩ : MethodName)) (z := (⟨"java/lang/String", "charAt", "(I)C"⟩ : MethodName)) I167.2.1 (mvT I167.1 (hw _ (List.mem_of_getElem? (i := 150) rfl))) (mvT I167.1 (hw _ (List.mem_of_getElem? (i := 151) rfl))) (notFace_of_selects (args := #[]) (mvT I167.1 (hw _ (List.mem_of_getElem? (i := 153) rfl)))) (mvT I167.1 (hw _ (List.mem_of_getElem? (i := 153) rfl))) (mvT I167.1 (hw _ (List.mem_of_getElem? (i := 152) rfl))) (by decide) (own_chB (s := s.setVm T167.vm) (W := 0) I167.1 hw S167 (O1.ext (own_ext_trans EZ f168)) P5 (O2.ext (own_ext_trans EZ f168)) rf (i := 3) (Nat.le_of_ble_eq_true rfl) rfl (by decide) (by decide)) qa174 qc174 (g := (mkF m 237 #[.val (.int n), .val (.int a), .val (.int b), .val (.int c1), .val (.int d), .val (.int ((3 : Int32))), .val (.int y0), .val (.int y1), .val (.int y2), .val (.ref a134), .val (.ref a150), .val (.int ((0 : Int32))), .val (.ref y167)] [(.int ((3 : Int32))), (.ref y167)])) rfl (by rw [hml]; rfl) (Steps.refl _) (argsL := [(.int ((3 : Int32)))]) (rest := []) (lenOf pdCh rfl) rfl (by show 2 * 0 + _ ≤ _; exact Nat.le_of_eq rfl) (hb hby at_237) (fun _ _ => ⟨rfl, E172, (Nat.le_of_ble_eq_true rfl), (Nat.le_of_ble_eq_true rfl)⟩)
          dsimp only [Pt.U, Pt.locs, Pt.cells, Pt.slots] at X174 l174 y174 z174 st174 hQ174
          subst l174 y174 z174
          obtain ⟨rfl, rfl, E174⟩ := hQ174
          refine own_to st174 ?_
          show own_Go p e below F (T174.setTop (mkF m 240 #[.val (.int n), .val (.int a), .val (.int b), .val (.int c1), .val (.int d), .val (.int ((3 : Int32))), .val (.int y0), .val (.int y1), .val (.int y2), .val (.ref a134), .val (.ref a150), .val (.int ((0 : Int32))), .val (.ref y167)] [(.int ((47 : Int32)))]))
          refine own_bipush X174.here hx (hb hby at_240) (v := 47) rfl (pc' := 242) rfl ?_
          refine own_icmpne X174.here hx (hb hby at_242) (by decide) (pc' := 300) (by decide) (pc2 := 245) rfl (fun q => absurd rfl q) (fun q175 => ?_)
          refine own_iload X174.here hx (hb hby at_245) rfl (pc' := 247) rfl ?_
          refine own_iconst X174.here hx (hb hby at_247) (v := 1) rfl (pc' := 248) rfl ?_
          refine own_icmplt X174.here hx (hb hby at_248) (by decide) (pc' := 262) (by decide) (pc2 := 251) rfl (fun q => absurd q (by decide)) (fun q176 => ?_)
          refine own_aload X174.here hx (hb hby at_251) rfl rfl (pc' := 253) rfl ?_
          refine own_iconst X174.here hx (hb hby at_253) (v := 0) rfl (pc' := 254) rfl ?_
          obtain ⟨cq177, kq177, qa177, qb177, qc177⟩ := isOf I167.1 E174 S167.exa
          obtain ⟨_, _, ⟨T177, L177, k177, n177⟩, -, X177, ⟨Lc177, hQ177, l177, y177, z177⟩, st177⟩ := X174.virtualBack hx (y := (⟨"java/lang/String", "charAt", "(I)C"⟩ : MethodName)) (z := (⟨"java/lang/String", "charAt", "(I)C"⟩ : MethodName)) I167.2.1 (mvT I167.1 (hw _ (List.mem_of_getElem? (i := 150) rfl))) (mvT I167.1 (hw _ (List.mem_of_getElem? (i := 151) rfl))) (notFace_of_selects (args := #[]) (mvT I167.1 (hw _ (List.mem_of_getElem? (i := 153) rfl)))) (mvT I167.1 (hw _ (List.mem_of_getElem? (i := 153) rfl))) (mvT I167.1 (hw _ (List.mem_of_getElem? (i := 152) rfl))) (by decide) (own_chB (s := s.setVm T167.vm) (W := 0) I167.1 hw S167 (O1.ext (own_ext_trans EZ f168)) P5 (O2.ext (own_ext_trans EZ f168)) rf (i := 0) (Nat.le_of_ble_eq_true rfl) rfl (by decide) (by decide)) qa177 qc177 (g := (mkF m 254 #[.val (.int n), .val (.int a), .val (.int b), .val (.int c1), .val (.int d), .val (.int ((3 : Int32))), .val (.int y0), .val (.int y1), .val (.int y2), .val (.ref a134), .val (.ref a150), .val (.int ((0 : Int32))), .val (.ref y167)] [(.int ((0 : Int32))), (.ref y167)])) rfl (by rw [hml]; rfl) (Steps.refl _) (argsL := [(.int ((0 : Int32)))]) (rest := []) (lenOf pdCh rfl) rfl (by show 2 * 0 + _ ≤ _; exact Nat.le_of_eq rfl) (hb hby at_254) (fun _ _ => ⟨rfl, E174, (Nat.le_of_ble_eq_true rfl), (Nat.le_of_ble_eq_true rfl)⟩)
          dsimp only [Pt.U, Pt.locs, Pt.cells, Pt.slots] at X177 l177 y177 z177 st177 hQ177
          subst l177 y177 z177
          obtain ⟨rfl, rfl, E177⟩ := hQ177
          refine own_to st177 ?_
          show own_Go p e below F (T177.setTop (mkF m 257 #[.val (.int n), .val (.int a), .val (.int b), .val (.int c1), .val (.int d), .val (.int ((3 : Int32))), .val (.int y0), .val (.int y1), .val (.int y2), .val (.ref a134), .val (.ref a150), .val (.int ((0 : Int32))), .val (.ref y167)] [(.int y0)]))
          refine own_iload X177.here hx (hb hby at_257) rfl (pc' := 259) rfl ?_
          refine own_icmpne X177.here hx (hb hby at_259) (by decide) (pc' := 300) (by decide) (pc2 := 262) rfl (fun q => absurd rfl q) (fun q178 => ?_)
          refine own_iload X177.here hx (hb hby at_262) rfl (pc' := 264) rfl ?_
          refine own_iconst X177.here hx (hb hby at_264) (v := 2) rfl (pc' := 265) rfl ?_
          refine own_icmplt X177.here hx (hb hby at_265) (by decide) (pc' := 279) (by decide) (pc2 := 268) rfl (fun q => absurd q (by decide)) (fun q179 => ?_)
          refine own_aload X177.here hx (hb hby at_268) rfl rfl (pc' := 270) rfl ?_
          refine own_iconst X177.here hx (hb hby at_270) (v := 1) rfl (pc' := 271) rfl ?_
          obtain ⟨cq180, kq180, qa180, qb180, qc180⟩ := isOf I167.1 E177 S167.exa
          obtain ⟨_, _, ⟨T180, L180, k180, n180⟩, -, X180, ⟨Lc180, hQ180, l180, y180, z180⟩, st180⟩ := X177.virtualBack hx (y := (⟨"java/lang/String", "charAt", "(I)C"⟩ : MethodName)) (z := (⟨"java/lang/String", "charAt", "(I)C"⟩ : MethodName)) I167.2.1 (mvT I167.1 (hw _ (List.mem_of_getElem? (i := 150) rfl))) (mvT I167.1 (hw _ (List.mem_of_getElem? (i := 151) rfl))) (notFace_of_selects (args := #[]) (mvT I167.1 (hw _ (List.mem_of_getElem? (i := 153) rfl)))) (mvT I167.1 (hw _ (List.mem_of_getElem? (i := 153) rfl))) (mvT I167.1 (hw _ (List.mem_of_getElem? (i := 152) rfl))) (by decide) (own_chB (s := s.setVm T167.vm) (W := 0) I167.1 hw S167 (O1.ext (own_ext_trans EZ f168)) P5 (O2.ext (own_ext_trans EZ f168)) rf (i := 1) (Nat.le_of_ble_eq_true rfl) rfl (by decide) (by decide)) qa180 qc180 (g := (mkF m 271 #[.val (.int n), .val (.int a), .val (.int b), .val (.int c1), .val (.int d), .val (.int ((3 : Int32))), .val (.int y0), .val (.int y1), .val (.int y2), .val (.ref a134), .val (.ref a150), .val (.int ((0 : Int32))), .val (.ref y167)] [(.int ((1 : Int32))), (.ref y167)])) rfl (by rw [hml]; rfl) (Steps.refl _) (argsL := [(.int ((1 : Int32)))]) (rest := []) (lenOf pdCh rfl) rfl (by show 2 * 0 + _ ≤ _; exact Nat.le_of_eq rfl) (hb hby at_271) (fun _ _ => ⟨rfl, E177, (Nat.le_of_ble_eq_true rfl), (Nat.le_of_ble_eq_true rfl)⟩)
          dsimp only [Pt.U, Pt.locs, Pt.cells, Pt.slots] at X180 l180 y180 z180 st180 hQ180
          subst l180 y180 z180
          obtain ⟨rfl, rfl, E180⟩ := hQ180
          refine own_to st180 ?_
          show own_Go p e below F (T180.setTop (mkF m 274 #[.val (.int n), .val (.int a), .val (.int b), .val (.int c1), .val (.int d), .val (.int ((3 : Int32))), .val (.int y0), .val (.int y1), .val (.int y2), .val (.ref a134), .val (.ref a150), .val (.int ((0 : Int32))), .val (.ref y167)] [(.int y1)]))
          refine own_iload X180.here hx (hb hby at_274) rfl (pc' := 276) rfl ?_
          refine own_icmpne X180.here hx (hb hby at_276) (by decide) (pc' := 300) (by decide) (pc2 := 279) rfl (fun q => absurd rfl q) (fun q181 => ?_)
          refine own_iload X180.here hx (hb hby at_279) rfl (pc' := 281) rfl ?_
          refine own_iconst X180.here hx (hb hby at_281) (v := 3) rfl (pc' := 282) rfl ?_
          refine own_icmplt X180.here hx (hb hby at_282) (by decide) (pc' := 296) (by decide) (pc2 := 285) rfl (fun q => absurd q (by decide)) (fun q182 => ?_)
          refine own_aload X180.here hx (hb hby at_285) rfl rfl (pc' := 287) rfl ?_
          refine own_iconst X180.here hx (hb hby at_287) (v := 2) rfl (pc' := 288) rfl ?_
          obtain ⟨cq183, kq183, qa183, qb183, qc183⟩ := isOf I167.1 E180 S167.exa
          obtain ⟨_, _, ⟨T183, L183, k183, n183⟩, -, X183, ⟨Lc183, hQ183, l183, y183, z183⟩, st183⟩ := X180.virtualBack hx (y := (⟨"java/lang/String", "charAt", "(I)C"⟩ : MethodName)) (z := (⟨"java/lang/String", "charAt", "(I)C"⟩ : MethodName)) I167.2.1 (mvT I167.1 (hw _ (List.mem_of_getElem? (i := 150) rfl))) (mvT I167.1 (hw _ (List.mem_of_getElem? (i := 151) rfl))) (notFace_of_selects (args := #[]) (mvT I167.1 (hw _ (List.mem_of_getElem? (i := 153) rfl)))) (mvT I167.1 (hw _ (List.mem_of_getElem? (i := 153) rfl))) (mvT I167.1 (hw _ (List.mem_of_getElem? (i := 152) rfl))) (by decide) (own_chB (s := s.setVm T167.vm) (W := 0) I167.1 hw S167 (O1.ext (own_ext_trans EZ f168)) P5 (O2.ext (own_ext_trans EZ f168)) rf (i := 2) (Nat.le_of_ble_eq_true rfl) rfl (by decide) (by decide)) qa183 qc183 (g := (mkF m 288 #[.val (.int n), .val (.int a), .val (.int b), .val (.int c1), .val (.int d), .val (.int ((3 : Int32))), .val (.int y0), .val (.int y1), .val (.int y2), .val (.ref a134), .val (.ref a150), .val (.int ((0 : Int32))), .val (.ref y167)] [(.int ((2 : Int32))), (.ref y167)])) rfl (by rw [hml]; rfl) (Steps.refl _) (argsL := [(.int ((2 : Int32)))]) (rest := []) (lenOf pdCh rfl) rfl (by show 2 * 0 + _ ≤ _; exact Nat.le_of_eq rfl) (hb hby at_288) (fun _ _ => ⟨rfl, E180, (Nat.le_of_ble_eq_true rfl), (Nat.le_of_ble_eq_true rfl)⟩)
          dsimp only [Pt.U, Pt.locs, Pt.cells, Pt.slots] at X183 l183 y183 z183 st183 hQ183
          subst l183 y183 z183
          obtain ⟨rfl, rfl, E183⟩ := hQ183
          refine own_to st183 ?_
          show own_Go p e below F (T183.setTop (mkF m 291 #[.val (.int n), .val (.int a), .val (.int b), .val (.int c1), .val (.int d), .val (.int ((3 : Int32))), .val (.int y0), .val (.int y1), .val (.int y2), .val (.ref a134), .val (.ref a150), .val (.int ((0 : Int32))), .val (.ref y167)] [(.int y2)]))
          refine own_iload X183.here hx (hb hby at_291) rfl (pc' := 293) rfl ?_
          refine own_icmpne X183.here hx (hb hby at_293) (by decide) (pc' := 300) (by decide) (pc2 := 296) rfl (fun q => absurd rfl q) (fun q184 => ?_)
          refine own_iconst X183.here hx (hb hby at_296) (v := 1) rfl (pc' := 297) rfl ?_
          refine own_goto X183.here hx (hb hby at_297) (by decide) (pc' := 301) (by decide) ?_
          exact own_retZW X183 hx hlk hEL I167 E183 (by decide) hret (hb hby at_301) (fun t ht hC hE => hF t _ _ _ _ (by rw [ht]; exact ⟨rfl, (by simpa using N169)⟩) hC hE (by decide) (by decide))
        · refine own_iconst X156.here hx (hb hby at_187) (v := 1) rfl (pc' := 188) rfl ?_
          refine own_goto X156.here hx (hb hby at_188) (by decide) (pc' := 192) (by decide) ?_
          refine own_istore X156.here hx (hb hby at_192) (L' := #[.val (.int n), .val (.int a), .val (.int b), .val (.int c1), .val (.int d), .val (.int ((3 : Int32))), .val (.int y0), .val (.int y1), .val (.int y2), .val (.ref a134), .val (.ref a150), .val (.int ((1 : Int32))), .unset]) rfl (pc' := 194) rfl ?_
          refine own_aload X156.here hx (hb hby at_194) rfl rfl (pc' := 196) rfl ?_
          obtain ⟨_, _, ⟨T185, L185, k185, n185⟩, -, X185, hS185, hG185, ⟨Lc185, hQ185, l185, y185, z185, C185⟩, st185⟩ := callSS X156 hx (y := (⟨"com/example/cartulary/cartulary/RegisterUris", "childBase", "(Ljava/lang/String;)Ljava/lang/String;"⟩ : MethodName)) J163.2.1 (mvT J163.1 (hw _ (List.mem_of_getElem? (i := 22) rfl))) (mvT J163.1 (hw _ (List.mem_of_getElem? (i := 23) rfl))) (mvT J163.1 (hw _ (List.mem_of_getElem? (i := 24) rfl))) (mvT J163.1 (hw _ (List.mem_of_getElem? (i := 25) rfl))) (by decide) (own_backW (W := 0) (rmCA l Z a0 hw hEL a150 [y0, y1, y2] 2 T156.heap (own_ext_trans EZ f157) z0 O1 P5 S165 rfl hq) J163.1 (hw _ (List.mem_of_getElem? (i := 25) rfl)) (hw _ (List.mem_of_getElem? (i := 24) rfl)) (by decide) (by decide) hEL J163.ch (fun _ q => nomatch q)) (g := (mkF m 196 #[.val (.int n), .val (.int a), .val (.int b), .val (.int c1), .val (.int d), .val (.int ((3 : Int32))), .val (.int y0), .val (.int y1), .val (.int y2), .val (.ref a134), .val (.ref a150), .val (.int ((1 : Int32))), .unset] [(.ref a150)])) rfl (by rw [hml]; rfl) (argsL := [(.ref a150)]) (rest := []) (lenOf pdRU rfl) rfl (by show 2 * 0 + _ ≤ _; exact Nat.le_of_eq rfl) (hb hby at_196) (fun _ _ => ⟨rfl, rfl, (Nat.le_of_ble_eq_true rfl), (Nat.le_of_ble_eq_true rfl)⟩)
          dsimp only [Pt.U, Pt.locs, Pt.cells, Pt.slots] at X185 hS185 hG185 l185 y185 z185 C185 st185 hQ185
          subst l185 y185 z185
          replace X185 := (show Stand _ _ _ _ (s.setVm T185.vm) _ _ _ _ _ _ _ _ _ from X185)
          have I185 := J163.later hS185 (Nat.le_refl _) (by have q := hG185; rw [(rfl : _ = T156.heap)] at q; exact q) C185
          obtain ⟨rfl, E185, N185⟩ := hQ185
          refine own_to st185 ?_
          show own_Go p e below F (T185.setTop (mkF m 199 #[.val (.int n), .val (.int a), .val (.int b), .val (.int c1), .val (.int d), .val (.int ((3 : Int32))), .val (.int y0), .val (.int y1), .val (.int y2), .val (.ref a134), .val (.ref a150), .val (.int ((1 : Int32))), .unset] [(.ref a150)]))
          have f186 := own_ext_trans f157 E185
          have N187 := Fr.app N164 N185
          refine own_astore X185.here hx (hb hby at_199) rfl (L' := #[.val (.int n), .val (.int a), .val (.int b), .val (.int c1), .val (.int d), .val (.int ((3 : Int32))), .val (.int y0), .val (.int y1), .val (.int y2), .val (.ref a134), .val (.ref a150), .val (.int ((1 : Int32))), .val (.ref a150)]) rfl (pc' := 201) rfl ?_
          refine own_aload X185.here hx (hb hby at_201) rfl rfl (pc' := 203) rfl ?_
          refine own_ifnonnull X185.here hx rfl (hb hby at_203) (by decide) (pc' := 208) (by decide) (pc2 := 206) rfl (fun q188 => ?_) (fun q => nomatch q)
          refine own_iload X185.here hx (hb hby at_208) rfl (pc' := 210) rfl ?_
          refine own_ifeq X185.here hx (hb hby at_210) (by decide) (pc' := 221) (by decide) (pc2 := 213) rfl (fun q => absurd q (by decide)) (fun q189 => ?_)
          refine own_aload X185.here hx (hb hby at_213) rfl rfl (pc' := 215) rfl ?_
          refine own_aload X185.here hx (hb hby at_215) rfl rfl (pc' := 217) rfl ?_
          obtain ⟨cq190, kq190, qa190, qb190, qc190⟩ := isOf I185.1 rfl (S165.ext E185).exa
          obtain ⟨_, _, ⟨T190, L190, k190, n190⟩, -, X190, ⟨Lc190, hQ190, l190, y190, z190⟩, st190⟩ := X185.virtualBack hx (y := (⟨"java/lang/String", "equals", "(Ljava/lang/Object;)Z"⟩ : MethodName)) (z := (⟨"java/lang/String", "equals", "(Ljava/lang/Object;)Z"⟩ : MethodName)) I185.2.1 (mvT I185.1 (hw _ (List.mem_of_getElem? (i := 186) rfl))) (mvT I185.1 (hw _ (List.mem_of_getElem? (i := 187) rfl))) (notFace_of_selects (args := #[]) (mvT I185.1 (hw _ (List.mem_of_getElem? (i := 189) rfl)))) (mvT I185.1 (hw _ (List.mem_of_getElem? (i := 189) rfl))) (mvT I185.1 (hw _ (List.mem_of_getElem? (i := 188) rfl))) (by decide) (backOf (W := 0) (rmEq l Z a0 hw a150 T185.heap) I185.1 (hw _ (List.mem_of_getElem? (i := 190) rfl)) (hw _ (List.mem_of_getElem? (i := 3) rfl)) (by decide) (by decide)) qa190 qc190 (g := (mkF m 217 #[.val (.int n), .val (.int a), .val (.int b), .val (.int c1), .val (.int d), .val (.int ((3 : Int32))), .val (.int y0), .val (.int y1), .val (.int y2), .val (.ref a134), .val (.ref a150), .val (.int ((1 : Int32))), .val (.ref a150)] [(.ref a150), (.ref a150)])) rfl (by rw [hml]; rfl) (Steps.refl _) (argsL := [(.ref a150)]) (rest := []) (lenOf pdEq rfl) rfl (by show 2 * 0 + _ ≤ _; exact Nat.le_of_eq rfl) (hb hby at_217) (fun _ _ => ⟨rfl, rfl, (Nat.le_of_ble_eq_true rfl), (Nat.le_of_ble_eq_true rfl)⟩)
          dsimp only [Pt.U, Pt.locs, Pt.cells, Pt.slots] at X190 l190 y190 z190 st190 hQ190
          subst l190 y190 z190
          obtain ⟨rfl, N190, E190⟩ := hQ190
          refine own_to st190 ?_
          show own_Go p e below F (T190.setTop (mkF m 220 #[.val (.int n), .val (.int a), .val (.int b), .val (.int c1), .val (.int d), .val (.int ((3 : Int32))), .val (.int y0), .val (.int y1), .val (.int y2), .val (.ref a134), .val (.ref a150), .val (.int ((1 : Int32))), .val (.ref a150)] [(.int ((1 : Int32)))]))
          have N191 := Fr.app N187 N190
          exact own_retZW X190 hx hlk hEL I185 E190 (by decide) hret (hb hby at_220) (fun t ht hC hE => hF t _ _ _ _ (by rw [ht]; exact ⟨rfl, (by simpa using N191)⟩) hC hE (by decide) (by decide))
    refine own_iload X0.here hx (hb hby at_40) rfl (pc' := 42) rfl ?_
    refine own_iconst X0.here hx (hb hby at_42) (v := 1) rfl (pc' := 43) rfl ?_
    refine own_iand X0.here hx (hb hby at_43) (pc' := 44) rfl ?_
    refine own_ifeq X0.here hx (hb hby at_44) (by decide) (pc' := 83) (by decide) (pc2 := 47) rfl (fun qb => ?_) (fun qb => ?_)
    · exact JB y0 y1 y2 ny0 py0 ny1 py1 ny2 py2
    · rcases own_and3c n with hn | hn | hn | hn
      · refine own_iload X0.here hx (hb hby at_47) rfl (pc' := 49) rfl ?_
        refine own_iconst X0.here hx (hb hby at_49) (v := 1) rfl (pc' := 50) rfl ?_
        refine own_icmpne X0.here hx (hb hby at_50) (by decide) (pc' := 60) (by decide) (pc2 := 53) rfl (fun q192 => ?_) (fun q => absurd q (by rw [hn]; decide))
        refine own_iload X0.here hx (hb hby at_60) rfl (pc' := 62) rfl ?_
        refine own_iconst X0.here hx (hb hby at_62) (v := 2) rfl (pc' := 63) rfl ?_
        refine own_icmpne X0.here hx (hb hby at_63) (by decide) (pc' := 73) (by decide) (pc2 := 66) rfl (fun q193 => ?_) (fun q => absurd q (by rw [hn]; decide))
        refine own_iload X0.here hx (hb hby at_73) rfl (pc' := 75) rfl ?_
        refine own_iconst X0.here hx (hb hby at_75) (v := 3) rfl (pc' := 76) rfl ?_
        refine own_icmpne X0.here hx (hb hby at_76) (by decide) (pc' := 83) (by decide) (pc2 := 79) rfl (fun q194 => ?_) (fun q => absurd q (by rw [hn]; decide))
        exact JB y0 y1 y2 ny0 py0 ny1 py1 ny2 py2
      · refine own_iload X0.here hx (hb hby at_47) rfl (pc' := 49) rfl ?_
        refine own_iconst X0.here hx (hb hby at_49) (v := 1) rfl (pc' := 50) rfl ?_
        refine own_icmpne X0.here hx (hb hby at_50) (by decide) (pc' := 60) (by decide) (pc2 := 53) rfl (fun q => absurd hn q) (fun q195 => ?_)
        refine own_bipush X0.here hx (hb hby at_53) (v := 47) rfl (pc' := 55) rfl ?_
        refine own_istore X0.here hx (hb hby at_55) (L' := #[.val (.int n), .val (.int a), .val (.int b), .val (.int c1), .val (.int d), .val (.int (n &&& (3 : Int32))), .val (.int ((47 : Int32))), .val (.int y1), .val (.int y2), .unset, .unset, .unset, .unset]) rfl (pc' := 57) rfl ?_
        refine own_goto X0.here hx (hb hby at_57) (by decide) (pc' := 83) (by decide) ?_
        exact JB 47 y1 y2 rfl (by decide) ny1 py1 ny2 py2
      · refine own_iload X0.here hx (hb hby at_47) rfl (pc' := 49) rfl ?_
        refine own_iconst X0.here hx (hb hby at_49) (v := 1) rfl (pc' := 50) rfl ?_
        refine own_icmpne X0.here hx (hb hby at_50) (by decide) (pc' := 60) (by decide) (pc2 := 53) rfl (fun q196 => ?_) (fun q => absurd q (by rw [hn]; decide))
        refine own_iload X0.here hx (hb hby at_60) rfl (pc' := 62) rfl ?_
        refine own_iconst X0.here hx (hb hby at_62) (v := 2) rfl (pc' := 63) rfl ?_
        refine own_icmpne X0.here hx (hb hby at_63) (by decide) (pc' := 73) (by decide) (pc2 := 66) rfl (fun q => absurd hn q) (fun q197 => ?_)
        refine own_bipush X0.here hx (hb hby at_66) (v := 47) rfl (pc' := 68) rfl ?_
        refine own_istore X0.here hx (hb hby at_68) (L' := #[.val (.int n), .val (.int a), .val (.int b), .val (.int c1), .val (.int d), .val (.int (n &&& (3 : Int32))), .val (.int y0), .val (.int ((47 : Int32))), .val (.int y2), .unset, .unset, .unset, .unset]) rfl (pc' := 70) rfl ?_
        refine own_goto X0.here hx (hb hby at_70) (by decide) (pc' := 83) (by decide) ?_
        exact JB y0 47 y2 ny0 py0 rfl (by decide) ny2 py2
      · refine own_iload X0.here hx (hb hby at_47) rfl (pc' := 49) rfl ?_
        refine own_iconst X0.here hx (hb hby at_49) (v := 1) rfl (pc' := 50) rfl ?_
        refine own_icmpne X0.here hx (hb hby at_50) (by decide) (pc' := 60) (by decide) (pc2 := 53) rfl (fun q198 => ?_) (fun q => absurd q (by rw [hn]; decide))
        refine own_iload X0.here hx (hb hby at_60) rfl (pc' := 62) rfl ?_
        refine own_iconst X0.here hx (hb hby at_62) (v := 2) rfl (pc' := 63) rfl ?_
        refine own_icmpne X0.here hx (hb hby at_63) (by decide) (pc' := 73) (by decide) (pc2 := 66) rfl (fun q199 => ?_) (fun q => absurd q (by rw [hn]; decide))
        refine own_iload X0.here hx (hb hby at_73) rfl (pc' := 75) rfl ?_
        refine own_iconst X0.here hx (hb hby at_75) (v := 3) rfl (pc' := 76) rfl ?_
        refine own_icmpne X0.here hx (hb hby at_76) (by decide) (pc' := 83) (by decide) (pc2 := 79) rfl (fun q => absurd hn q) (fun q200 => ?_)
        refine own_bipush X0.here hx (hb hby at_79) (v := 47) rfl (pc' := 81) rfl ?_
        refine own_istore X0.here hx (hb hby at_81) (L' := #[.val (.int n), .val (.int a), .val (.int b), .val (.int c1), .val (.int d), .val (.int (n &&& (3 : Int32))), .val (.int y0), .val (.int y1), .val (.int ((47 : Int32))), .unset, .unset, .unset, .unset]) rfl (pc' := 83) rfl ?_
        exact JB y0 y1 47 ny0 py0 ny1 py1 rfl (by decide)
  refine own_iload X0.here hx (hb hby at_29) rfl (pc' := 31) rfl ?_
  refine own_iconst X0.here hx (hb hby at_31) (v := 2) rfl (pc' := 32) rfl ?_
  refine own_iand X0.here hx (hb hby at_32) (pc' := 33) rfl ?_
  refine own_ifeq X0.here hx (hb hby at_33) (by decide) (pc' := 40) (by decide) (pc2 := 36) rfl (fun qa => ?_) (fun qa => ?_)
  · exact JA y0 ny0 py0
  · refine own_bipush X0.here hx (hb hby at_36) (v := 47) rfl (pc' := 38) rfl ?_
    refine own_istore X0.here hx (hb hby at_38) (L' := #[.val (.int n), .val (.int a), .val (.int b), .val (.int c1), .val (.int d), .val (.int (n &&& (3 : Int32))), .val (.int ((47 : Int32))), .val (.int y1), .val (.int y2), .unset, .unset, .unset, .unset]) rfl (pc' := 40) rfl ?_
    exact JA 47 rfl (by decide)
set_option maxRecDepth 65536 in
set_option maxHeartbeats 40000000 in
theorem comes_1 {Post : Tables → Env → Array Value → State → Outcome → State → Prop} (hpost : ∀ tb e args s v u, (limb_1_1.after args s (.returned v) u = true ∧ limb_1_2.after args s (.returned v) u = true ∧ True) → FramedW s (.returned v) u (Jvm.fieldLocs frame_1_writes args s ++ Jvm.arrayLocs frame_1_arrays args s ++ Jvm.staticLocs frame_1_statics s) 32 2240 → Post tb e args s (.returned v) u) :
    ArmFor flags0 classFile x code maxLocals ret World_1 tables_1 room_1 Calls_1 rest_1 Pre_1 Post := by
  intro l hfl _ _ p e ha hc hk s m args below hf hA hF happ hP
  obtain ⟨hcalls, hrest, hpre⟩ := hP
  obtain ⟨-, -, -, hnamed, -, -, -, hat⟩ := (Spec.applies_iff hf).mp happ
  obtain ⟨hg, hn⟩ := and_e (Cond.before_iff.mp (show (Jvm.Cond.and given_1 narrow_1).before args s = true from hpre))
  obtain ⟨g1, g2⟩ := and_e hg
  obtain ⟨w0, w1, w2, w3, w4, rfl⟩ : ∃ w0 w1 w2 w3 w4 : Value, args = #[w0, w1, w2, w3, w4] := by
    have hs : args.size = 5 := by simpa [Cond.value, given_1] using g1
    obtain ⟨L⟩ := args
    match L, hs with
    | [w0, w1, w2, w3, w4], _ => exact ⟨w0, w1, w2, w3, w4, rfl⟩
  have hw := fun d (hd : d ∈ tables_1) => atoms_spec (ws := Jvm.Cond.code x code maxLocals ret :: tables_1) hat d (List.mem_cons_of_mem _ hd)
  have hfit : Fit s := fun {y c} hc i hi => by
    obtain ⟨ha, rfl⟩ := Array.getElem?_eq_some_iff.mp hc
    have q := List.all_eq_true.mp ((Array.all_eq_true_iff_forall_mem.mp hF) _ (Array.getElem_mem ha)) i (List.mem_range.mpr hi)
    simpa [Array.getElem?_eq_getElem hi] using q
  obtain ⟨a0, g3⟩ := and_e g2
  obtain ⟨i0, b0⟩ := is_v a0
  obtain rfl : w0 = (.int i0) := Option.some.inj b0
  obtain ⟨a1, g4⟩ := and_e g3
  obtain ⟨i1, b1⟩ := is_v a1
  obtain rfl : w1 = (.int i1) := Option.some.inj b1
  obtain ⟨a2, g5⟩ := and_e g4
  obtain ⟨i2, b2⟩ := is_v a2
  obtain rfl : w2 = (.int i2) := Option.some.inj b2
  obtain ⟨a3, g6⟩ := and_e g5
  obtain ⟨i3, b3⟩ := is_v a3
  obtain rfl : w3 = (.int i3) := Option.some.inj b3
  obtain ⟨i4, b4⟩ := is_v g6
  obtain rfl : w4 = (.int i4) := Option.some.inj b4
  obtain ⟨hsets, -⟩ := atoms_of _ (rest_1_c_eq ▸ (show rest_1_c.before _ s = true from hrest))
  have hz0 := not_v (Cond.before_iff.mp (hsets _ (List.mem_of_getElem? (i := 2) rfl)))
  obtain ⟨z0, ez0⟩ := is_v (Cond.before_iff.mp (hsets _ (List.mem_of_getElem? (i := 1) rfl)))
  have O1 : Sta s s.heap "java/lang/String" "COMPACT_STRINGS" "Z" (.int z0) := Sta.start ez0 (Or.inl (hsets _ (List.mem_of_getElem? (i := 0) rfl)))
  obtain ⟨fm, efm, rf⟩ := isR_v (Cond.before_iff.mp (hsets _ (List.mem_of_getElem? (i := 8) rfl)))
  have O2 : Sta s s.heap "jdk/internal/util/Preconditions" "SIOOBE_FORMATTER" "Ljava/util/function/BiFunction;" fm := Sta.start efm (Or.inl (hsets _ (List.mem_of_getElem? (i := 7) rfl)))
  have P5 : ¬ (z0 = (0 : Int32)) := gotF (Cond.eq_ints ez0 (Term.int_eval (0))) hz0
  have hcw : Jvm.Lit.compactW.before _ s = true := hsets _ (List.mem_of_getElem? (i := 2) rfl)
  have hEL : EW s _ EL := EW.cons (hw _ (List.mem_of_getElem? (i := 14) rfl)) (by decide) (EW.cons (hw _ (List.mem_of_getElem? (i := 26) rfl)) (by decide) (EW.nil))
  have hC : CHv s EL s.vm s.heap := CHv.start hEL (fun q hq => by
    simp only [EL, List.mem_cons, List.not_mem_nil, or_false] at hq
    exact hcalls.1 q (by rcases hq with rfl | rfl <;> simp [consts_1])) hcw (hw _ (by decide +kernel)) (hw _ own_wiS)
  obtain ⟨n, o, h1, h2, h3, _, L, rfl, ⟨rfl, N⟩, -, hq⟩ := rmL l s _ hw hEL i0 i1 i2 i3 i4 s.heap (own_ext_refl _) z0 O1 P5 fm O2 rf p e ha hc hk s m _ below hf ((Spec.applies_iff_loose hf).mp happ).1 ⟨rfl, State.Warmed39.refl s, rfl, hC, fun _ q => nomatch q⟩ trivial
  refine ⟨n, _, h1, h2, h3, hpost _ _ _ _ _ _ ⟨Cond.after_iff.mpr rfl, Cond.after_iff.mpr (eq_i res_at (Term.int_eval (1)) rfl), trivial⟩ ⟨hq.1, hq.2.1, hq.2.2.1, hq.2.2.2.sift fun y hy => Or.inr (N y hy)⟩⟩
theorem main_1_1 : Claimed_1_1 := comes_1 fun _ _ _ _ _ _ h hF => ⟨h.1, hF⟩
theorem main_1_2 : Claimed_1_2 := comes_1 fun _ _ _ _ _ _ h hF => ⟨h.2.1, hF⟩
end Jvm.Pilot.@@N@@
namespace Jvm.Pilot.@@N@@
open Jvm Jvm.ClassFile Sem Op Lib Jvm.Free Jvm.Stand Jvm.Pilot.@@N@@.Jvm.D
/-! MADE BY PROGRAM (witnessworld.py) out of the Statement's table words and the real class files: 26 classes; the members and pool entries that the words name. The judged class is class 1, her method 1. -/
namespace start1
open Jvm.ClassFile
def u (s : String) : CpInfo := .utf8 (stringToUtf16 s)
/-- a pool by its gaps: so many unusable entries, then the entry; so many at the end -/
def gap : Nat → List CpInfo → List CpInfo
  | 0, r => r
  | n + 1, r => .unusable :: gap n r
def poolList (es : List (Nat × CpInfo)) (last : Nat) : List CpInfo := es.foldr (fun e r => gap e.1 (e.2 :: r)) (gap last [])
def pool (es : List (Nat × CpInfo)) (last : Nat) : Array CpInfo := ⟨poolList es last⟩
def fileOf (pool : Array CpInfo) (this : Nat) (attrs : Array Attribute := #[]) (ms : Array MethodInfo := #[]) (fl : Nat := 33) (sup : Nat := 0) (ifs : Array Nat := #[]) (fds : Array FieldInfo := #[]) : ClassFile where
  minorVersion := 0
  majorVersion := 65
  constantPool := pool
  accessFlags := fl
  thisClass := this
  superClass := sup
  interfaces := ifs
  fields := fds
  methods := ms
  attributes := attrs
def plain (name : String) (sup : Option ClassId) : Class where
  name := name
  kind := .ordinary
  loader := none
  accessFlags := 33
  super := sup
  interfaces := #[]
  cf := none
  fields := #[]
  methods := #[]
  instanceTypes := #[]
  staticTypes := #[]
  resolved := #[]
  callSites := []
  init := .initialized
  statics := none
  mirror := none

def pool0 : Array CpInfo := pool [(5, u "<init>"), (0, u "()V"), (1, .class_ 10), (1, u "java/lang/Object")] 113

def k0c0 : Code := { maxStack := 0, maxLocals := 1, code := object_method_1_code, exceptionTable := #[], attributes := #[] }
def k0m0 : Method := { name := "<init>", desc := "()V", sig := { parameters := [], returnType := none }, accessFlags := 1, code := some k0c0 }
/-- java/lang/Object -/
def k0 : Class := { plain "java/lang/Object" none with
  accessFlags := 33
  interfaces := #[]
  cf := some (fileOf pool0 8 #[] #[{ accessFlags := 1, nameIndex := 5, descriptorIndex := 6, attributes := #[] }] 33 0 #[] #[])
  fields := #[]
  methods := #[k0m0]
  instanceTypes := #[]
  staticTypes := #[]
  resolved := Array.replicate 124 none
  statics := none }

def pool1 : Array CpInfo := pool [(2, .class_ 4), (1, u "java/lang/Object"), (0, u "<init>"), (0, u "()V"), (0, .class_ 8), (0, u "java/lang/String"), (0, .methodref 7 10), (0, .nameAndType 5 11), (0, u "([C)V"), (0, .methodref 13 14), (0, .class_ 15), (0, .nameAndType 16 17), (0, u "com/example/cartulary/cartulary/RegisterUris"), (0, u "childBase"), (0, u "(Ljava/lang/String;)Ljava/lang/String;"), (0, .methodref 7 19), (0, .nameAndType 20 21), (0, u "equals"), (0, u "(Ljava/lang/Object;)Z"), (0, .methodref 7 23), (0, .nameAndType 24 25), (0, u "length"), (0, u "()I"), (0, .methodref 7 27), (0, .nameAndType 28 29), (0, u "charAt"), (0, u "(I)C"), (0, .class_ 31), (0, u "com/example/cartulary/cartulary/RegisterUrisChildBasePinLaw"), (2, u "law"), (0, u "(IIIII)Z")] 5

def k1m0 : Method := { name := "<init>", desc := "()V", sig := { parameters := [], returnType := none }, accessFlags := 2, code := none }
def k1c1 : Code := { maxStack := 4, maxLocals := 13, code := code, exceptionTable := #[], attributes := #[] }
def k1m1 : Method := { name := "law", desc := "(IIIII)Z", sig := { parameters := [.int, .int, .int, .int, .int], returnType := some .boolean }, accessFlags := 9, code := some k1c1 }
/-- com/example/cartulary/cartulary/RegisterUrisChildBasePinLaw -/
def k1 : Class := { plain "com/example/cartulary/cartulary/RegisterUrisChildBasePinLaw" (some 0) with
  accessFlags := 49
  interfaces := #[]
  cf := some (fileOf pool1 30 #[] #[{ accessFlags := 2, nameIndex := 5, descriptorIndex := 6, attributes := #[] }, { accessFlags := 9, nameIndex := 34, descriptorIndex := 35, attributes := #[] }] 49 2 #[] #[])
  fields := #[]
  methods := #[k1m0, k1m1]
  instanceTypes := #[]
  staticTypes := #[]
  resolved := Array.replicate 41 none
  statics := none }

def pool2 : Array CpInfo := pool [(1, .class_ 2), (0, u "java/io/Serializable"), (0, .class_ 4), (0, u "java/lang/Object")] 2

/-- java/io/Serializable -/
def k2 : Class := { plain "java/io/Serializable" (some 0) with
  accessFlags := 1537
  interfaces := #[]
  cf := some (fileOf pool2 1 #[] #[] 1537 3 #[] #[])
  fields := #[]
  methods := #[]
  instanceTypes := #[]
  staticTypes := #[]
  resolved := Array.replicate 7 none
  statics := none }

def pool3 : Array CpInfo := pool [(1, .class_ 2), (0, u "java/lang/Comparable"), (0, .class_ 4), (0, u "java/lang/Object")] 7

/-- java/lang/Comparable -/
def k3 : Class := { plain "java/lang/Comparable" (some 0) with
  accessFlags := 1537
  interfaces := #[]
  cf := some (fileOf pool3 1 #[] #[] 1537 3 #[] #[])
  fields := #[]
  methods := #[]
  instanceTypes := #[]
  staticTypes := #[]
  resolved := Array.replicate 12 none
  statics := none }

def pool4 : Array CpInfo := pool [(2, .class_ 4), (1, u "java/lang/CharSequence"), (42, .class_ 48), (0, u "java/lang/CharSequence$1CodePointIterator"), (10, .class_ 60), (0, u "java/lang/CharSequence$1CharIterator"), (5, .class_ 67), (0, u "java/lang/Object")] 63

/-- java/lang/CharSequence -/
def k4 : Class := { plain "java/lang/CharSequence" (some 0) with
  accessFlags := 1537
  interfaces := #[]
  cf := some (fileOf pool4 2 #[.nestMembers #[47, 59]] #[] 1537 66 #[] #[])
  fields := #[]
  methods := #[]
  instanceTypes := #[]
  staticTypes := #[]
  resolved := Array.replicate 131 none
  statics := none }

def pool5 : Array CpInfo := pool [(1, .class_ 2), (0, u "java/lang/constant/Constable"), (0, .class_ 4), (0, u "java/lang/Object")] 6

/-- java/lang/constant/Constable -/
def k5 : Class := { plain "java/lang/constant/Constable" (some 0) with
  accessFlags := 1537
  interfaces := #[]
  cf := some (fileOf pool5 1 #[] #[] 1537 3 #[] #[])
  fields := #[]
  methods := #[]
  instanceTypes := #[]
  staticTypes := #[]
  resolved := Array.replicate 11 none
  statics := none }

def pool6 : Array CpInfo := pool [(1, .class_ 2), (0, u "java/lang/constant/ConstantDesc"), (0, .class_ 4), (0, u "java/lang/Object")] 32

/-- java/lang/constant/ConstantDesc -/
def k6 : Class := { plain "java/lang/constant/ConstantDesc" (some 0) with
  accessFlags := 1537
  interfaces := #[]
  cf := some (fileOf pool6 1 #[] #[] 1537 3 #[] #[])
  fields := #[]
  methods := #[]
  instanceTypes := #[]
  staticTypes := #[]
  resolved := Array.replicate 37 none
  statics := none }

def pool7 : Array CpInfo := pool [(1, .methodref 2 3), (0, .class_ 4), (0, .nameAndType 5 6), (0, u "java/lang/Object"), (0, u "<init>"), (0, u "()V"), (0, .string 8), (0, u ""), (0, .fieldref 10 11), (0, .class_ 12), (0, .nameAndType 13 14), (0, u "java/lang/String"), (0, u "value"), (0, u "[B"), (0, .fieldref 10 16), (0, .nameAndType 17 18), (0, u "coder"), (0, u "B"), (2, u "hash"), (0, u "I"), (2, u "hashIsZero"), (0, u "Z"), (0, .methodref 10 28), (0, .nameAndType 5 29), (0, u "([CIILjava/lang/Void;)V"), (8, .fieldref 10 39), (0, .nameAndType 40 26), (0, u "COMPACT_STRINGS"), (1, .class_ 44), (1, u "java/lang/StringUTF16"), (0, u "compress"), (1, .methodref 42 48), (0, .nameAndType 49 50), (0, u "coderFromArrayLen"), (0, u "([BI)B"), (3, .methodref 55 56), (0, .class_ 57), (0, .nameAndType 58 59), (0, u "java/util/Arrays"), (0, u "copyOfRange"), (0, u "([BII)[B"), (47, .class_ 109), (1, u "java/lang/StringLatin1"), (32, u "()Z"), (34, .methodref 42 178), (0, .nameAndType 45 179), (0, u "([CII)[B"), (13, .class_ 195), (1, u "java/lang/System"), (16, .methodref 193 213), (0, .nameAndType 214 215), (0, u "arraycopy"), (0, u "(Ljava/lang/Object;ILjava/lang/Object;II)V"), (118, u "()I"), (0, .methodref 10 336), (0, .nameAndType 17 337), (0, u "()B"), (2, u "()[B"), (22, u "([BI)C"), (12, u "([BI[BII)I"), (14, u "(II)V"), (35, u "(I)C"), (61, .methodref 10 490), (0, .nameAndType 5 491), (0, u "(Ljava/lang/AbstractStringBuilder;Ljava/lang/Void;)V"), (0, .methodref 10 493), (0, .nameAndType 494 142), (0, u "isLatin1"), (0, .methodref 107 496), (0, .nameAndType 497 363), (0, u "charAt"), (3, u "checkIndex"), (3, .methodref 10 506), (0, .nameAndType 507 334), (0, u "length"), (24, u "getBytes"), (10, u "equals"), (5, .methodref 550 506), (0, .class_ 551), (0, u "java/lang/AbstractStringBuilder"), (0, .methodref 550 553), (0, .nameAndType 554 340), (0, u "getValue"), (4, .class_ 561), (1, u "jdk/internal/util/ArraysSupport"), (0, u "mismatch"), (10, u "(Ljava/lang/Object;)Z"), (1, .class_ 576), (0, u "java/lang/CharSequence"), (22, u "CASE_INSENSITIVE_ORDER"), (0, u "Ljava/util/Comparator;"), (6, .methodref 559 608), (0, .nameAndType 562 376), (15, .methodref 10 625), (0, .nameAndType 626 627), (0, u "startsWith"), (0, u "(Ljava/lang/String;I)Z"), (193, u "([BIB)V"), (188, u "([C)V"), (36, .methodref 550 493), (5, .fieldref 1054 1055), (0, .class_ 1056), (0, .nameAndType 1057 1058), (0, u "jdk/internal/util/Preconditions"), (0, u "SIOOBE_FORMATTER"), (0, u "Ljava/util/function/BiFunction;"), (0, .methodref 1054 1060), (0, .nameAndType 501 1061), (0, u "(IILjava/util/function/BiFunction;)I"), (39, u "serialPersistentFields"), (0, u "[Ljava/io/ObjectStreamField;"), (0, .class_ 1104), (0, u "java/lang/String$CaseInsensitiveComparator"), (1, .class_ 1107), (0, u "java/io/Serializable"), (0, .class_ 1109), (0, u "java/lang/Comparable"), (0, .class_ 1111), (0, u "java/lang/constant/Constable"), (0, .class_ 1113), (0, u "java/lang/constant/ConstantDesc"), (2, u "serialVersionUID"), (0, u "J"), (3, u "REPL"), (0, u "C"), (2, u "LATIN1"), (1, u "UTF16"), (105, u "(Ljava/lang/StringBuilder;)V"), (23, u "(Ljava/lang/String;)Z"), (14, u "endsWith")] 178

def k7m0 : Method := { name := "<init>", desc := "()V", sig := { parameters := [], returnType := none }, accessFlags := 1, code := none }
def k7c1 : Code := { maxStack := 5, maxLocals := 2, code := jdk_42_method_3_code, exceptionTable := #[], attributes := #[] }
def k7m1 : Method := { name := "<init>", desc := "([C)V", sig := { parameters := [(.array .char)], returnType := none }, accessFlags := 1, code := some k7c1 }
def k7c2 : Code := { maxStack := 3, maxLocals := 2, code := jdk_42_method_53_code, exceptionTable := #[], attributes := #[] }
def k7m2 : Method := { name := "<init>", desc := "(Ljava/lang/StringBuilder;)V", sig := { parameters := [(.object "java/lang/StringBuilder")], returnType := none }, accessFlags := 1, code := some k7c2 }
def k7c3 : Code := { maxStack := 2, maxLocals := 1, code := jdk_42_method_54_code, exceptionTable := #[], attributes := #[] }
def k7m3 : Method := { name := "length", desc := "()I", sig := { parameters := [], returnType := some .int }, accessFlags := 1, code := some k7c3 }
def k7c4 : Code := { maxStack := 2, maxLocals := 2, code := jdk_42_method_56_code, exceptionTable := #[], attributes := #[] }
def k7m4 : Method := { name := "charAt", desc := "(I)C", sig := { parameters := [.int], returnType := some .char }, accessFlags := 1, code := some k7c4 }
def k7c5 : Code := { maxStack := 2, maxLocals := 3, code := jdk_42_method_66_code, exceptionTable := #[], attributes := #[] }
def k7m5 : Method := { name := "equals", desc := "(Ljava/lang/Object;)Z", sig := { parameters := [(.object "java/lang/Object")], returnType := some .boolean }, accessFlags := 1, code := some k7c5 }
def k7c6 : Code := { maxStack := 5, maxLocals := 8, code := jdk_42_method_75_code, exceptionTable := #[], attributes := #[] }
def k7m6 : Method := { name := "startsWith", desc := "(Ljava/lang/String;I)Z", sig := { parameters := [(.object "java/lang/String"), .int], returnType := some .boolean }, accessFlags := 1, code := some k7c6 }
def k7c7 : Code := { maxStack := 4, maxLocals := 2, code := jdk_42_method_77_code, exceptionTable := #[], attributes := #[] }
def k7m7 : Method := { name := "endsWith", desc := "(Ljava/lang/String;)Z", sig := { parameters := [(.object "java/lang/String")], returnType := some .boolean }, accessFlags := 1, code := some k7c7 }
def k7c8 : Code := { maxStack := 5, maxLocals := 4, code := jdk_42_method_147_code, exceptionTable := #[], attributes := #[] }
def k7m8 : Method := { name := "getBytes", desc := "([BIB)V", sig := { parameters := [(.array .byte), .int, .byte], returnType := none }, accessFlags := 0, code := some k7c8 }
def k7c9 : Code := { maxStack := 4, maxLocals := 6, code := jdk_42_method_149_code, exceptionTable := #[], attributes := #[] }
def k7m9 : Method := { name := "<init>", desc := "([CIILjava/lang/Void;)V", sig := { parameters := [(.array .char), .int, .int, (.object "java/lang/Void")], returnType := none }, accessFlags := 2, code := some k7c9 }
def k7c10 : Code := { maxStack := 5, maxLocals := 5, code := jdk_42_method_150_code, exceptionTable := #[], attributes := #[] }
def k7m10 : Method := { name := "<init>", desc := "(Ljava/lang/AbstractStringBuilder;Ljava/lang/Void;)V", sig := { parameters := [(.object "java/lang/AbstractStringBuilder"), (.object "java/lang/Void")], returnType := none }, accessFlags := 0, code := some k7c10 }
def k7c11 : Code := { maxStack := 1, maxLocals := 1, code := jdk_42_method_152_code, exceptionTable := #[], attributes := #[] }
def k7m11 : Method := { name := "coder", desc := "()B", sig := { parameters := [], returnType := some .byte }, accessFlags := 0, code := some k7c11 }
def k7c12 : Code := { maxStack := 1, maxLocals := 1, code := jdk_42_method_154_code, exceptionTable := #[], attributes := #[] }
def k7m12 : Method := { name := "isLatin1", desc := "()Z", sig := { parameters := [], returnType := some .boolean }, accessFlags := 0, code := some k7c12 }
def k7c13 : Code := { maxStack := 3, maxLocals := 2, code := jdk_42_method_155_code, exceptionTable := #[], attributes := #[] }
def k7m13 : Method := { name := "checkIndex", desc := "(II)V", sig := { parameters := [.int, .int], returnType := none }, accessFlags := 8, code := some k7c13 }
/-- java/lang/String -/
def k7 : Class := { plain "java/lang/String" (some 0) with
  accessFlags := 49
  interfaces := #[2, 3, 4, 5, 6]
  cf := some (fileOf pool7 10 #[.nestMembers #[1103]] #[{ accessFlags := 1, nameIndex := 5, descriptorIndex := 6, attributes := #[] }, { accessFlags := 1, nameIndex := 5, descriptorIndex := 1010, attributes := #[] }, { accessFlags := 1, nameIndex := 5, descriptorIndex := 1233, attributes := #[] }, { accessFlags := 1, nameIndex := 507, descriptorIndex := 334, attributes := #[] }, { accessFlags := 1, nameIndex := 497, descriptorIndex := 427, attributes := #[] }, { accessFlags := 1, nameIndex := 543, descriptorIndex := 573, attributes := #[] }, { accessFlags := 1, nameIndex := 626, descriptorIndex := 627, attributes := #[] }, { accessFlags := 1, nameIndex := 1272, descriptorIndex := 1257, attributes := #[] }, { accessFlags := 0, nameIndex := 532, descriptorIndex := 821, attributes := #[] }, { accessFlags := 2, nameIndex := 5, descriptorIndex := 29, attributes := #[] }, { accessFlags := 0, nameIndex := 5, descriptorIndex := 491, attributes := #[] }, { accessFlags := 0, nameIndex := 17, descriptorIndex := 337, attributes := #[] }, { accessFlags := 0, nameIndex := 494, descriptorIndex := 142, attributes := #[] }, { accessFlags := 8, nameIndex := 501, descriptorIndex := 391, attributes := #[] }] 49 2 #[1106, 1108, 575, 1110, 1112] #[{ accessFlags := 18, nameIndex := 13, descriptorIndex := 14, attributes := #[] }, { accessFlags := 18, nameIndex := 17, descriptorIndex := 18, attributes := #[] }, { accessFlags := 2, nameIndex := 21, descriptorIndex := 22, attributes := #[] }, { accessFlags := 2, nameIndex := 25, descriptorIndex := 26, attributes := #[] }, { accessFlags := 26, nameIndex := 1116, descriptorIndex := 1117, attributes := #[] }, { accessFlags := 24, nameIndex := 40, descriptorIndex := 26, attributes := #[] }, { accessFlags := 26, nameIndex := 1101, descriptorIndex := 1102, attributes := #[] }, { accessFlags := 26, nameIndex := 1121, descriptorIndex := 1122, attributes := #[] }, { accessFlags := 25, nameIndex := 599, descriptorIndex := 600, attributes := #[] }, { accessFlags := 24, nameIndex := 1125, descriptorIndex := 18, attributes := #[] }, { accessFlags := 24, nameIndex := 1127, descriptorIndex := 18, attributes := #[] }])
  fields := #[{ name := "value", type := (.array .byte), accessFlags := 18, slot := 0, constantValue := 0 }, { name := "coder", type := .byte, accessFlags := 18, slot := 1, constantValue := 0 }, { name := "hash", type := .int, accessFlags := 2, slot := 2, constantValue := 0 }, { name := "hashIsZero", type := .boolean, accessFlags := 2, slot := 3, constantValue := 0 }, { name := "serialVersionUID", type := .long, accessFlags := 26, slot := 0, constantValue := 0 }, { name := "COMPACT_STRINGS", type := .boolean, accessFlags := 24, slot := 1, constantValue := 0 }, { name := "serialPersistentFields", type := (.array (.object "java/io/ObjectStreamField")), accessFlags := 26, slot := 2, constantValue := 0 }, { name := "REPL", type := .char, accessFlags := 26, slot := 3, constantValue := 0 }, { name := "CASE_INSENSITIVE_ORDER", type := (.object "java/util/Comparator"), accessFlags := 25, slot := 4, constantValue := 0 }, { name := "LATIN1", type := .byte, accessFlags := 24, slot := 5, constantValue := 0 }, { name := "UTF16", type := .byte, accessFlags := 24, slot := 6, constantValue := 0 }]
  methods := #[k7m0, k7m1, k7m2, k7m3, k7m4, k7m5, k7m6, k7m7, k7m8, k7m9, k7m10, k7m11, k7m12, k7m13]
  instanceTypes := #[(.array .byte), .byte, .int, .boolean]
  staticTypes := #[.long, .boolean, (.array (.object "java/io/ObjectStreamField")), .char, (.object "java/util/Comparator"), .byte, .byte]
  resolved := Array.replicate 1451 none
  statics := some 0 }

def pool8 : Array CpInfo := pool [(2, .class_ 4), (0, .nameAndType 5 6), (0, u "java/lang/Object"), (0, u "<init>"), (0, u "()V"), (0, .string 8), (0, u "/"), (0, .methodref 10 11), (0, .class_ 12), (0, .nameAndType 13 14), (0, u "java/lang/String"), (0, u "endsWith"), (0, u "(Ljava/lang/String;)Z"), (0, .class_ 16), (0, u "java/lang/StringBuilder"), (0, .methodref 15 3), (0, .methodref 15 19), (0, .nameAndType 20 21), (0, u "append"), (0, u "(Ljava/lang/String;)Ljava/lang/StringBuilder;"), (0, .methodref 15 23), (0, .nameAndType 24 25), (0, u "toString"), (0, u "()Ljava/lang/String;"), (23, .class_ 51), (1, u "com/example/cartulary/cartulary/RegisterUris"), (0, u "childBase"), (0, u "(Ljava/lang/String;)Ljava/lang/String;")] 19

def k8m0 : Method := { name := "<init>", desc := "()V", sig := { parameters := [], returnType := none }, accessFlags := 2, code := none }
def k8c1 : Code := { maxStack := 2, maxLocals := 1, code := prog_2_method_2_code, exceptionTable := #[], attributes := #[] }
def k8m1 : Method := { name := "childBase", desc := "(Ljava/lang/String;)Ljava/lang/String;", sig := { parameters := [(.object "java/lang/String")], returnType := some (.object "java/lang/String") }, accessFlags := 8, code := some k8c1 }
/-- com/example/cartulary/cartulary/RegisterUris -/
def k8 : Class := { plain "com/example/cartulary/cartulary/RegisterUris" (some 0) with
  accessFlags := 48
  interfaces := #[]
  cf := some (fileOf pool8 49 #[] #[{ accessFlags := 2, nameIndex := 5, descriptorIndex := 6, attributes := #[] }, { accessFlags := 8, nameIndex := 52, descriptorIndex := 53, attributes := #[] }] 48 2 #[] #[])
  fields := #[]
  methods := #[k8m0, k8m1]
  instanceTypes := #[]
  staticTypes := #[]
  resolved := Array.replicate 73 none
  statics := none }

def pool9 : Array CpInfo := pool [(1, .class_ 2), (0, u "java/lang/Appendable"), (0, .class_ 4), (0, u "java/lang/Object")] 9

/-- java/lang/Appendable -/
def k9 : Class := { plain "java/lang/Appendable" (some 0) with
  accessFlags := 1537
  interfaces := #[]
  cf := some (fileOf pool9 1 #[] #[] 1537 3 #[] #[])
  fields := #[]
  methods := #[]
  instanceTypes := #[]
  staticTypes := #[]
  resolved := Array.replicate 14 none
  statics := none }

def pool10 : Array CpInfo := pool [(1, .class_ 2), (0, u "java/lang/String"), (0, .methodref 4 5), (0, .class_ 6), (0, .nameAndType 7 8), (0, u "java/lang/Object"), (0, u "<init>"), (0, u "()V"), (1, .class_ 12), (1, u "java/lang/AbstractStringBuilder"), (0, u "EMPTYVALUE"), (0, u "[B"), (0, .fieldref 10 16), (0, .nameAndType 17 14), (0, u "value"), (0, .fieldref 1 19), (0, .nameAndType 20 21), (0, u "COMPACT_STRINGS"), (0, u "Z"), (0, .fieldref 10 23), (0, .nameAndType 24 25), (0, u "coder"), (0, u "B"), (6, .methodref 1 33), (0, .nameAndType 34 35), (0, u "length"), (0, u "()I"), (4, .methodref 1 41), (0, .nameAndType 24 42), (0, u "()B"), (2, u "append"), (0, u "(Ljava/lang/String;)Ljava/lang/AbstractStringBuilder;"), (1, .class_ 49), (0, u "java/lang/CharSequence"), (19, u "(Ljava/lang/String;)V"), (5, u "maybeLatin1"), (3, .fieldref 10 80), (0, .nameAndType 81 82), (0, u "count"), (0, u "I"), (2, u "isLatin1"), (0, u "()Z"), (13, .methodref 10 101), (0, .nameAndType 102 103), (0, u "ensureCapacityInternal"), (0, u "(I)V"), (104, .methodref 10 209), (0, .nameAndType 210 211), (0, u "putStringAt"), (0, u "(ILjava/lang/String;)V"), (5, u "inflateIfNeededFor"), (2, .nameAndType 221 222), (0, u "getBytes"), (0, u "([BIB)V"), (174, .methodref 10 398), (0, .nameAndType 217 69), (0, .methodref 1 220), (3, u "()[B"), (40, .class_ 445), (0, u "java/lang/Appendable"), (106, u "getValue")] 56

def k10m0 : Method := { name := "<init>", desc := "()V", sig := { parameters := [], returnType := none }, accessFlags := 0, code := none }
def k10c1 : Code := { maxStack := 2, maxLocals := 2, code := jdk_68_method_2_code, exceptionTable := #[], attributes := #[] }
def k10m1 : Method := { name := "<init>", desc := "(I)V", sig := { parameters := [.int], returnType := none }, accessFlags := 0, code := some k10c1 }
def k10c2 : Code := { maxStack := 1, maxLocals := 1, code := jdk_68_method_6_code, exceptionTable := #[], attributes := #[] }
def k10m2 : Method := { name := "length", desc := "()I", sig := { parameters := [], returnType := some .int }, accessFlags := 1, code := some k10c2 }
def k10c3 : Code := { maxStack := 4, maxLocals := 3, code := jdk_68_method_9_code, exceptionTable := #[], attributes := #[] }
def k10m3 : Method := { name := "ensureCapacityInternal", desc := "(I)V", sig := { parameters := [.int], returnType := none }, accessFlags := 2, code := some k10c3 }
def k10c4 : Code := { maxStack := 3, maxLocals := 3, code := jdk_68_method_22_code, exceptionTable := #[], attributes := #[] }
def k10m4 : Method := { name := "append", desc := "(Ljava/lang/String;)Ljava/lang/AbstractStringBuilder;", sig := { parameters := [(.object "java/lang/String")], returnType := some (.object "java/lang/AbstractStringBuilder") }, accessFlags := 1, code := some k10c4 }
def k10c5 : Code := { maxStack := 1, maxLocals := 1, code := jdk_68_method_64_code, exceptionTable := #[], attributes := #[] }
def k10m5 : Method := { name := "getValue", desc := "()[B", sig := { parameters := [], returnType := some (.array .byte) }, accessFlags := 16, code := some k10c5 }
def k10c6 : Code := { maxStack := 1, maxLocals := 1, code := jdk_68_method_68_code, exceptionTable := #[], attributes := #[] }
def k10m6 : Method := { name := "isLatin1", desc := "()Z", sig := { parameters := [], returnType := some .boolean }, accessFlags := 16, code := some k10c6 }
def k10c7 : Code := { maxStack := 2, maxLocals := 2, code := jdk_68_method_71_code, exceptionTable := #[], attributes := #[] }
def k10m7 : Method := { name := "inflateIfNeededFor", desc := "(Ljava/lang/String;)V", sig := { parameters := [(.object "java/lang/String")], returnType := none }, accessFlags := 2, code := some k10c7 }
def k10c8 : Code := { maxStack := 4, maxLocals := 3, code := jdk_68_method_73_code, exceptionTable := #[], attributes := #[] }
def k10m8 : Method := { name := "putStringAt", desc := "(ILjava/lang/String;)V", sig := { parameters := [.int, (.object "java/lang/String")], returnType := none }, accessFlags := 2, code := some k10c8 }
/-- java/lang/AbstractStringBuilder -/
def k10 : Class := { plain "java/lang/AbstractStringBuilder" (some 0) with
  accessFlags := 1056
  interfaces := #[9, 4]
  cf := some (fileOf pool10 10 #[] #[{ accessFlags := 0, nameIndex := 7, descriptorIndex := 8, attributes := #[] }, { accessFlags := 0, nameIndex := 7, descriptorIndex := 103, attributes := #[] }, { accessFlags := 1, nameIndex := 34, descriptorIndex := 35, attributes := #[] }, { accessFlags := 2, nameIndex := 102, descriptorIndex := 103, attributes := #[] }, { accessFlags := 1, nameIndex := 45, descriptorIndex := 46, attributes := #[] }, { accessFlags := 16, nameIndex := 552, descriptorIndex := 403, attributes := #[] }, { accessFlags := 16, nameIndex := 85, descriptorIndex := 86, attributes := #[] }, { accessFlags := 2, nameIndex := 217, descriptorIndex := 69, attributes := #[] }, { accessFlags := 2, nameIndex := 210, descriptorIndex := 211, attributes := #[] }] 1056 4 #[444, 48] #[{ accessFlags := 0, nameIndex := 17, descriptorIndex := 14, attributes := #[] }, { accessFlags := 0, nameIndex := 24, descriptorIndex := 25, attributes := #[] }, { accessFlags := 0, nameIndex := 75, descriptorIndex := 21, attributes := #[] }, { accessFlags := 0, nameIndex := 81, descriptorIndex := 82, attributes := #[] }, { accessFlags := 26, nameIndex := 13, descriptorIndex := 14, attributes := #[] }])
  fields := #[{ name := "value", type := (.array .byte), accessFlags := 0, slot := 0, constantValue := 0 }, { name := "coder", type := .byte, accessFlags := 0, slot := 1, constantValue := 0 }, { name := "maybeLatin1", type := .boolean, accessFlags := 0, slot := 2, constantValue := 0 }, { name := "count", type := .int, accessFlags := 0, slot := 3, constantValue := 0 }, { name := "EMPTYVALUE", type := (.array .byte), accessFlags := 26, slot := 0, constantValue := 0 }]
  methods := #[k10m0, k10m1, k10m2, k10m3, k10m4, k10m5, k10m6, k10m7, k10m8]
  instanceTypes := #[(.array .byte), .byte, .boolean, .int]
  staticTypes := #[(.array .byte)]
  resolved := Array.replicate 609 none
  statics := none }

def pool11 : Array CpInfo := pool [(1, .methodref 2 3), (0, .class_ 4), (0, .nameAndType 5 6), (0, u "java/lang/AbstractStringBuilder"), (0, u "<init>"), (0, u "(I)V"), (11, .class_ 20), (1, u "java/lang/String"), (3, .class_ 26), (1, u "java/lang/StringBuilder"), (0, u "append"), (0, u "(Ljava/lang/String;)Ljava/lang/StringBuilder;"), (0, .methodref 2 30), (0, .nameAndType 27 31), (0, u "(Ljava/lang/String;)Ljava/lang/AbstractStringBuilder;"), (105, .methodref 18 138), (0, .nameAndType 5 139), (0, u "(Ljava/lang/StringBuilder;)V"), (5, u "()V"), (10, u "()I"), (186, .methodref 2 344), (0, .nameAndType 345 156), (0, u "length"), (3, .class_ 350), (0, u "java/lang/Appendable"), (0, .class_ 352), (0, u "java/io/Serializable"), (0, .class_ 354), (0, u "java/lang/Comparable"), (0, .class_ 356), (0, u "java/lang/CharSequence"), (0, u "serialVersionUID"), (0, u "J"), (40, u "toString"), (0, u "()Ljava/lang/String;")] 21

def k11c0 : Code := { maxStack := 2, maxLocals := 1, code := jdk_67_method_1_code, exceptionTable := #[], attributes := #[] }
def k11m0 : Method := { name := "<init>", desc := "()V", sig := { parameters := [], returnType := none }, accessFlags := 1, code := some k11c0 }
def k11c1 : Code := { maxStack := 2, maxLocals := 2, code := jdk_67_method_7_code, exceptionTable := #[], attributes := #[] }
def k11m1 : Method := { name := "append", desc := "(Ljava/lang/String;)Ljava/lang/StringBuilder;", sig := { parameters := [(.object "java/lang/String")], returnType := some (.object "java/lang/StringBuilder") }, accessFlags := 1, code := some k11c1 }
def k11c2 : Code := { maxStack := 3, maxLocals := 1, code := jdk_67_method_42_code, exceptionTable := #[], attributes := #[] }
def k11m2 : Method := { name := "toString", desc := "()Ljava/lang/String;", sig := { parameters := [], returnType := some (.object "java/lang/String") }, accessFlags := 1, code := some k11c2 }
def k11c3 : Code := { maxStack := 1, maxLocals := 1, code := jdk_67_method_93_code, exceptionTable := #[], attributes := #[] }
def k11m3 : Method := { name := "length", desc := "()I", sig := { parameters := [], returnType := some .int }, accessFlags := 4161, code := some k11c3 }
/-- java/lang/StringBuilder -/
def k11 : Class := { plain "java/lang/StringBuilder" (some 10) with
  accessFlags := 49
  interfaces := #[9, 2, 3, 4]
  cf := some (fileOf pool11 24 #[] #[{ accessFlags := 1, nameIndex := 5, descriptorIndex := 145, attributes := #[] }, { accessFlags := 1, nameIndex := 27, descriptorIndex := 28, attributes := #[] }, { accessFlags := 1, nameIndex := 399, descriptorIndex := 400, attributes := #[] }, { accessFlags := 4161, nameIndex := 345, descriptorIndex := 156, attributes := #[] }] 49 2 #[349, 351, 353, 355] #[{ accessFlags := 24, nameIndex := 357, descriptorIndex := 358, attributes := #[] }])
  fields := #[{ name := "serialVersionUID", type := .long, accessFlags := 24, slot := 0, constantValue := 0 }]
  methods := #[k11m0, k11m1, k11m2, k11m3]
  instanceTypes := #[(.array .byte), .byte, .boolean, .int]
  staticTypes := #[.long]
  resolved := Array.replicate 422 none
  statics := none }

def pool12 : Array CpInfo := pool [(2, .class_ 4), (1, u "java/lang/Object"), (0, u "<init>"), (0, u "()V"), (1, .class_ 10), (1, u "java/lang/System"), (0, u "allowSecurityManager"), (0, u "I"), (16, u "cons"), (0, u "Ljava/io/Console;"), (77, .class_ 110), (1, u "java/lang/System$CallersHolder"), (43, u "initialErrStream"), (0, u "Ljava/io/PrintStream;"), (19, u "security"), (0, u "Ljava/lang/SecurityManager;"), (31, .class_ 209), (0, u "java/lang/System$1"), (7, u "props"), (0, u "Ljava/util/Properties;"), (2, u "lineSeparator"), (0, u "Ljava/lang/String;"), (96, .class_ 321), (1, u "java/lang/System$LoggerFinder"), (5, .class_ 328), (0, u "java/lang/System$Logger"), (67, u "err"), (2, u "out"), (91, u "notSupportedJnuEncoding"), (15, u "in"), (17, u "initialIn"), (0, u "Ljava/io/InputStream;"), (35, u "bootLayer"), (0, u "Ljava/lang/ModuleLayer;"), (99, .class_ 664), (0, u "java/lang/System$2"), (9, u "NEVER"), (2, u "MAYBE"), (49, u "arraycopy"), (0, u "(Ljava/lang/Object;ILjava/lang/Object;II)V"), (72, .class_ 802), (0, u "java/lang/System$Logger$Level")] 31

def k12m0 : Method := { name := "<init>", desc := "()V", sig := { parameters := [], returnType := none }, accessFlags := 2, code := none }
def k12m1 : Method := { name := "arraycopy", desc := "(Ljava/lang/Object;ILjava/lang/Object;II)V", sig := { parameters := [(.object "java/lang/Object"), .int, (.object "java/lang/Object"), .int, .int], returnType := none }, accessFlags := 265, code := none }
/-- java/lang/System -/
def k12 : Class := { plain "java/lang/System" (some 0) with
  accessFlags := 49
  interfaces := #[]
  cf := some (fileOf pool12 8 #[.nestMembers #[319, 327, 801, 108, 663, 208]] #[{ accessFlags := 2, nameIndex := 5, descriptorIndex := 6, attributes := #[] }, { accessFlags := 265, nameIndex := 727, descriptorIndex := 728, attributes := #[] }] 49 2 #[] #[{ accessFlags := 25, nameIndex := 507, descriptorIndex := 526, attributes := #[] }, { accessFlags := 25, nameIndex := 399, descriptorIndex := 155, attributes := #[] }, { accessFlags := 25, nameIndex := 396, descriptorIndex := 155, attributes := #[] }, { accessFlags := 10, nameIndex := 525, descriptorIndex := 526, attributes := #[] }, { accessFlags := 26, nameIndex := 674, descriptorIndex := 12, attributes := #[] }, { accessFlags := 26, nameIndex := 677, descriptorIndex := 12, attributes := #[] }, { accessFlags := 10, nameIndex := 11, descriptorIndex := 12, attributes := #[] }, { accessFlags := 74, nameIndex := 175, descriptorIndex := 176, attributes := #[] }, { accessFlags := 10, nameIndex := 491, descriptorIndex := 222, attributes := #[] }, { accessFlags := 74, nameIndex := 29, descriptorIndex := 30, attributes := #[] }, { accessFlags := 74, nameIndex := 154, descriptorIndex := 155, attributes := #[] }, { accessFlags := 10, nameIndex := 217, descriptorIndex := 218, attributes := #[] }, { accessFlags := 10, nameIndex := 221, descriptorIndex := 222, attributes := #[] }, { accessFlags := 8, nameIndex := 562, descriptorIndex := 563, attributes := #[] }])
  fields := #[{ name := "in", type := (.object "java/io/InputStream"), accessFlags := 25, slot := 0, constantValue := 0 }, { name := "out", type := (.object "java/io/PrintStream"), accessFlags := 25, slot := 1, constantValue := 0 }, { name := "err", type := (.object "java/io/PrintStream"), accessFlags := 25, slot := 2, constantValue := 0 }, { name := "initialIn", type := (.object "java/io/InputStream"), accessFlags := 10, slot := 3, constantValue := 0 }, { name := "NEVER", type := .int, accessFlags := 26, slot := 4, constantValue := 0 }, { name := "MAYBE", type := .int, accessFlags := 26, slot := 5, constantValue := 0 }, { name := "allowSecurityManager", type := .int, accessFlags := 10, slot := 6, constantValue := 0 }, { name := "security", type := (.object "java/lang/SecurityManager"), accessFlags := 74, slot := 7, constantValue := 0 }, { name := "notSupportedJnuEncoding", type := (.object "java/lang/String"), accessFlags := 10, slot := 8, constantValue := 0 }, { name := "cons", type := (.object "java/io/Console"), accessFlags := 74, slot := 9, constantValue := 0 }, { name := "initialErrStream", type := (.object "java/io/PrintStream"), accessFlags := 74, slot := 10, constantValue := 0 }, { name := "props", type := (.object "java/util/Properties"), accessFlags := 10, slot := 11, constantValue := 0 }, { name := "lineSeparator", type := (.object "java/lang/String"), accessFlags := 10, slot := 12, constantValue := 0 }, { name := "bootLayer", type := (.object "java/lang/ModuleLayer"), accessFlags := 8, slot := 13, constantValue := 0 }]
  methods := #[k12m0, k12m1]
  instanceTypes := #[]
  staticTypes := #[(.object "java/io/InputStream"), (.object "java/io/PrintStream"), (.object "java/io/PrintStream"), (.object "java/io/InputStream"), .int, .int, .int, (.object "java/lang/SecurityManager"), (.object "java/lang/String"), (.object "java/io/Console"), (.object "java/io/PrintStream"), (.object "java/util/Properties"), (.object "java/lang/String"), (.object "java/lang/ModuleLayer")]
  resolved := Array.replicate 834 none
  statics := none }

def pool13 : Array CpInfo := pool [(2, .class_ 4), (1, u "java/lang/Object"), (0, u "<init>"), (0, u "()V"), (7, .class_ 16), (1, u "java/util/Arrays"), (57, .class_ 76), (1, u "java/util/Arrays$NaturalOrder"), (36, .class_ 115), (1, u "java/util/Arrays$LegacyMergeSort"), (1, u "Z"), (21, u "copyOfRange"), (10, .methodref 151 152), (0, .class_ 153), (0, .nameAndType 154 155), (0, u "java/lang/System"), (0, u "arraycopy"), (0, u "(Ljava/lang/Object;ILjava/lang/Object;II)V"), (148, .methodref 305 306), (0, .class_ 307), (0, .nameAndType 308 309), (0, u "java/lang/Math"), (0, u "min"), (0, u "(II)I"), (29, .methodref 14 340), (0, .nameAndType 341 342), (0, u "copyOfRangeByte"), (0, u "([BII)[B"), (0, .methodref 14 344), (0, .nameAndType 345 346), (0, u "checkLength"), (0, u "(II)V"), (28, .class_ 376), (0, u "java/util/Arrays$ArrayList"), (68, u "$assertionsDisabled"), (269, u "MIN_ARRAY_SORT_GRAN"), (0, u "I"), (2, u "INSERTIONSORT_THRESHOLD"), (255, .class_ 976), (0, u "java/util/Arrays$ArrayItr")] 52

def k13m0 : Method := { name := "<init>", desc := "()V", sig := { parameters := [], returnType := none }, accessFlags := 2, code := none }
def k13c1 : Code := { maxStack := 4, maxLocals := 2, code := jdk_65_method_131_code, exceptionTable := #[], attributes := #[] }
def k13m1 : Method := { name := "checkLength", desc := "(II)V", sig := { parameters := [.int, .int], returnType := none }, accessFlags := 10, code := some k13c1 }
def k13c2 : Code := { maxStack := 3, maxLocals := 3, code := jdk_65_method_132_code, exceptionTable := #[], attributes := #[] }
def k13m2 : Method := { name := "copyOfRange", desc := "([BII)[B", sig := { parameters := [(.array .byte), .int, .int], returnType := some (.array .byte) }, accessFlags := 9, code := some k13c2 }
def k13c3 : Code := { maxStack := 6, maxLocals := 5, code := jdk_65_method_133_code, exceptionTable := #[], attributes := #[] }
def k13m3 : Method := { name := "copyOfRangeByte", desc := "([BII)[B", sig := { parameters := [(.array .byte), .int, .int], returnType := some (.array .byte) }, accessFlags := 10, code := some k13c3 }
/-- java/util/Arrays -/
def k13 : Class := { plain "java/util/Arrays" (some 0) with
  accessFlags := 49
  interfaces := #[]
  cf := some (fileOf pool13 14 #[.nestMembers #[975, 375, 113, 74]] #[{ accessFlags := 2, nameIndex := 5, descriptorIndex := 6, attributes := #[] }, { accessFlags := 10, nameIndex := 345, descriptorIndex := 346, attributes := #[] }, { accessFlags := 9, nameIndex := 139, descriptorIndex := 342, attributes := #[] }, { accessFlags := 10, nameIndex := 341, descriptorIndex := 342, attributes := #[] }] 49 2 #[] #[{ accessFlags := 26, nameIndex := 715, descriptorIndex := 716, attributes := #[] }, { accessFlags := 26, nameIndex := 719, descriptorIndex := 716, attributes := #[] }, { accessFlags := 4120, nameIndex := 445, descriptorIndex := 117, attributes := #[] }])
  fields := #[{ name := "MIN_ARRAY_SORT_GRAN", type := .int, accessFlags := 26, slot := 0, constantValue := 0 }, { name := "INSERTIONSORT_THRESHOLD", type := .int, accessFlags := 26, slot := 1, constantValue := 0 }, { name := "$assertionsDisabled", type := .boolean, accessFlags := 4120, slot := 2, constantValue := 0 }]
  methods := #[k13m0, k13m1, k13m2, k13m3]
  instanceTypes := #[]
  staticTypes := #[.int, .int, .boolean]
  resolved := Array.replicate 1029 none
  statics := none }

def pool14 : Array CpInfo := pool [(1, .class_ 2), (0, u "java/lang/Math"), (1, .class_ 6), (1, u "java/lang/Object"), (0, u "<init>"), (0, u "()V"), (89, .class_ 100), (1, u "java/lang/Math$RandomNumberGeneratorHolder"), (71, u "negativeZeroFloatBits"), (0, u "J"), (2, u "negativeZeroDoubleBits"), (24, u "min"), (43, u "$assertionsDisabled"), (0, u "Z"), (88, u "(II)I"), (2, u "twoToTheDoubleScaleDown"), (0, u "D"), (4, u "twoToTheDoubleScaleUp"), (9, u "E"), (3, u "PI"), (2, u "TAU"), (2, u "DEGREES_TO_RADIANS"), (0, u "RADIANS_TO_DEGREES")] 94

def k14m0 : Method := { name := "<init>", desc := "()V", sig := { parameters := [], returnType := none }, accessFlags := 2, code := none }
def k14c1 : Code := { maxStack := 2, maxLocals := 2, code := jdk_29_method_69_code, exceptionTable := #[], attributes := #[] }
def k14m1 : Method := { name := "min", desc := "(II)I", sig := { parameters := [.int, .int], returnType := some .int }, accessFlags := 9, code := some k14c1 }
/-- java/lang/Math -/
def k14 : Class := { plain "java/lang/Math" (some 0) with
  accessFlags := 49
  interfaces := #[]
  cf := some (fileOf pool14 1 #[.nestMembers #[98]] #[{ accessFlags := 2, nameIndex := 7, descriptorIndex := 8, attributes := #[] }, { accessFlags := 9, nameIndex := 201, descriptorIndex := 335, attributes := #[] }] 49 4 #[] #[{ accessFlags := 25, nameIndex := 354, descriptorIndex := 339, attributes := #[] }, { accessFlags := 25, nameIndex := 358, descriptorIndex := 339, attributes := #[] }, { accessFlags := 25, nameIndex := 361, descriptorIndex := 339, attributes := #[] }, { accessFlags := 26, nameIndex := 364, descriptorIndex := 339, attributes := #[] }, { accessFlags := 26, nameIndex := 365, descriptorIndex := 339, attributes := #[] }, { accessFlags := 26, nameIndex := 172, descriptorIndex := 173, attributes := #[] }, { accessFlags := 26, nameIndex := 176, descriptorIndex := 173, attributes := #[] }, { accessFlags := 8, nameIndex := 344, descriptorIndex := 339, attributes := #[] }, { accessFlags := 8, nameIndex := 338, descriptorIndex := 339, attributes := #[] }, { accessFlags := 4120, nameIndex := 245, descriptorIndex := 246, attributes := #[] }])
  fields := #[{ name := "E", type := .double, accessFlags := 25, slot := 0, constantValue := 0 }, { name := "PI", type := .double, accessFlags := 25, slot := 1, constantValue := 0 }, { name := "TAU", type := .double, accessFlags := 25, slot := 2, constantValue := 0 }, { name := "DEGREES_TO_RADIANS", type := .double, accessFlags := 26, slot := 3, constantValue := 0 }, { name := "RADIANS_TO_DEGREES", type := .double, accessFlags := 26, slot := 4, constantValue := 0 }, { name := "negativeZeroFloatBits", type := .long, accessFlags := 26, slot := 5, constantValue := 0 }, { name := "negativeZeroDoubleBits", type := .long, accessFlags := 26, slot := 6, constantValue := 0 }, { name := "twoToTheDoubleScaleUp", type := .double, accessFlags := 8, slot := 7, constantValue := 0 }, { name := "twoToTheDoubleScaleDown", type := .double, accessFlags := 8, slot := 8, constantValue := 0 }, { name := "$assertionsDisabled", type := .boolean, accessFlags := 4120, slot := 9, constantValue := 0 }]
  methods := #[k14m0, k14m1]
  instanceTypes := #[]
  staticTypes := #[.double, .double, .double, .double, .double, .long, .long, .double, .double, .boolean]
  resolved := Array.replicate 460 none
  statics := none }

def pool15 : Array CpInfo := pool [(1, .class_ 2), (0, u "java/lang/String"), (1, .class_ 6), (1, u "java/lang/Object"), (0, u "<init>"), (0, u "()V"), (0, .methodref 1 10), (0, .nameAndType 11 12), (0, u "checkIndex"), (0, u "(II)V"), (1, .class_ 16), (1, u "java/lang/StringLatin1"), (36, u "([BI)C"), (67, u "$assertionsDisabled"), (0, u "Z"), (98, .class_ 223), (1, u "java/lang/StringLatin1$LinesSpliterator"), (28, u "charAt"), (137, .class_ 391), (0, u "java/lang/StringLatin1$CharsSpliterator")] 3

def k15m0 : Method := { name := "<init>", desc := "()V", sig := { parameters := [], returnType := none }, accessFlags := 0, code := none }
def k15c1 : Code := { maxStack := 2, maxLocals := 2, code := jdk_43_method_2_code, exceptionTable := #[], attributes := #[] }
def k15m1 : Method := { name := "charAt", desc := "([BI)C", sig := { parameters := [(.array .byte), .int], returnType := some .char }, accessFlags := 9, code := some k15c1 }
/-- java/lang/StringLatin1 -/
def k15 : Class := { plain "java/lang/StringLatin1" (some 0) with
  accessFlags := 48
  interfaces := #[]
  cf := some (fileOf pool15 14 #[.nestMembers #[390, 221]] #[{ accessFlags := 0, nameIndex := 7, descriptorIndex := 8, attributes := #[] }, { accessFlags := 9, nameIndex := 252, descriptorIndex := 53, attributes := #[] }] 48 4 #[] #[{ accessFlags := 4120, nameIndex := 121, descriptorIndex := 122, attributes := #[] }])
  fields := #[{ name := "$assertionsDisabled", type := .boolean, accessFlags := 4120, slot := 0, constantValue := 0 }]
  methods := #[k15m0, k15m1]
  instanceTypes := #[]
  staticTypes := #[.boolean]
  resolved := Array.replicate 395 none
  statics := none }

def pool16 : Array CpInfo := pool [(2, .class_ 4), (1, u "java/lang/Object"), (0, u "<init>"), (0, u "()V"), (17, .class_ 26), (1, u "jdk/internal/util/Preconditions"), (6, u "checkIndex"), (21, .class_ 56), (0, u "jdk/internal/util/Preconditions$4"), (57, .class_ 115), (0, u "jdk/internal/util/Preconditions$1"), (7, u "SIOOBE_FORMATTER"), (0, u "Ljava/util/function/BiFunction;"), (0, .class_ 126), (0, u "jdk/internal/util/Preconditions$2"), (3, u "AIOOBE_FORMATTER"), (0, .class_ 132), (0, u "jdk/internal/util/Preconditions$3"), (3, u "IOOBE_FORMATTER"), (41, u "(IILjava/util/function/BiFunction;)I")] 15

def k16m0 : Method := { name := "<init>", desc := "()V", sig := { parameters := [], returnType := none }, accessFlags := 1, code := none }
def k16c1 : Code := { maxStack := 3, maxLocals := 3, code := jdk_41_method_11_code, exceptionTable := #[], attributes := #[] }
def k16m1 : Method := { name := "checkIndex", desc := "(IILjava/util/function/BiFunction;)I", sig := { parameters := [.int, .int, (.object "java/util/function/BiFunction")], returnType := some .int }, accessFlags := 9, code := some k16c1 }
/-- jdk/internal/util/Preconditions -/
def k16 : Class := { plain "jdk/internal/util/Preconditions" (some 0) with
  accessFlags := 33
  interfaces := #[]
  cf := some (fileOf pool16 24 #[.nestMembers #[55, 131, 125, 114]] #[{ accessFlags := 1, nameIndex := 5, descriptorIndex := 6, attributes := #[] }, { accessFlags := 9, nameIndex := 33, descriptorIndex := 178, attributes := #[] }] 33 2 #[] #[{ accessFlags := 25, nameIndex := 123, descriptorIndex := 124, attributes := #[] }, { accessFlags := 25, nameIndex := 130, descriptorIndex := 124, attributes := #[] }, { accessFlags := 25, nameIndex := 136, descriptorIndex := 124, attributes := #[] }])
  fields := #[{ name := "SIOOBE_FORMATTER", type := (.object "java/util/function/BiFunction"), accessFlags := 25, slot := 0, constantValue := 0 }, { name := "AIOOBE_FORMATTER", type := (.object "java/util/function/BiFunction"), accessFlags := 25, slot := 1, constantValue := 0 }, { name := "IOOBE_FORMATTER", type := (.object "java/util/function/BiFunction"), accessFlags := 25, slot := 2, constantValue := 0 }]
  methods := #[k16m0, k16m1]
  instanceTypes := #[]
  staticTypes := #[(.object "java/util/function/BiFunction"), (.object "java/util/function/BiFunction"), (.object "java/util/function/BiFunction")]
  resolved := Array.replicate 194 none
  statics := some 1 }

def pool17 : Array CpInfo := pool [(6, .class_ 8), (1, u "java/lang/Object"), (0, u "<init>"), (0, u "()V"), (1, .class_ 14), (1, u "java/lang/StringUTF16"), (31, u "$assertionsDisabled"), (0, u "Z"), (13, u "HI_BYTE_SHIFT"), (0, u "I"), (2, u "LO_BYTE_SHIFT"), (49, .methodref 12 116), (0, .nameAndType 117 118), (0, u "compress"), (0, u "([CI[BII)I"), (3, u "([CII)[B"), (138, u "coderFromArrayLen"), (0, u "([BI)B"), (106, .class_ 371), (1, u "java/lang/StringUTF16$LinesSpliterator"), (58, u "MAX_LENGTH"), (196, .class_ 628), (0, u "java/lang/StringUTF16$CodePointsSpliterator"), (0, .class_ 630), (0, u "java/lang/StringUTF16$CharsSpliterator")] 4

def k17m0 : Method := { name := "<init>", desc := "()V", sig := { parameters := [], returnType := none }, accessFlags := 0, code := none }
def k17c1 : Code := { maxStack := 2, maxLocals := 2, code := jdk_52_method_15_code, exceptionTable := #[], attributes := #[] }
def k17m1 : Method := { name := "coderFromArrayLen", desc := "([BI)B", sig := { parameters := [(.array .byte), .int], returnType := some .byte }, accessFlags := 8, code := some k17c1 }
def k17c2 : Code := { maxStack := 5, maxLocals := 6, code := jdk_52_method_16_code, exceptionTable := #[], attributes := #[] }
def k17m2 : Method := { name := "compress", desc := "([CII)[B", sig := { parameters := [(.array .char), .int, .int], returnType := some (.array .byte) }, accessFlags := 9, code := some k17c2 }
def k17c3 : Code := { maxStack := 3, maxLocals := 7, code := jdk_52_method_21_code, exceptionTable := #[], attributes := #[] }
def k17m3 : Method := { name := "compress", desc := "([CI[BII)I", sig := { parameters := [(.array .char), .int, (.array .byte), .int, .int], returnType := some .int }, accessFlags := 9, code := some k17c3 }
/-- java/lang/StringUTF16 -/
def k17 : Class := { plain "java/lang/StringUTF16" (some 0) with
  accessFlags := 48
  interfaces := #[]
  cf := some (fileOf pool17 12 #[.nestMembers #[627, 629, 369]] #[{ accessFlags := 0, nameIndex := 9, descriptorIndex := 10, attributes := #[] }, { accessFlags := 8, nameIndex := 261, descriptorIndex := 262, attributes := #[] }, { accessFlags := 9, nameIndex := 117, descriptorIndex := 122, attributes := #[] }, { accessFlags := 9, nameIndex := 117, descriptorIndex := 118, attributes := #[] }] 48 6 #[] #[{ accessFlags := 26, nameIndex := 61, descriptorIndex := 62, attributes := #[] }, { accessFlags := 26, nameIndex := 65, descriptorIndex := 62, attributes := #[] }, { accessFlags := 24, nameIndex := 430, descriptorIndex := 62, attributes := #[] }, { accessFlags := 4120, nameIndex := 46, descriptorIndex := 47, attributes := #[] }])
  fields := #[{ name := "HI_BYTE_SHIFT", type := .int, accessFlags := 26, slot := 0, constantValue := 0 }, { name := "LO_BYTE_SHIFT", type := .int, accessFlags := 26, slot := 1, constantValue := 0 }, { name := "MAX_LENGTH", type := .int, accessFlags := 24, slot := 2, constantValue := 0 }, { name := "$assertionsDisabled", type := .boolean, accessFlags := 4120, slot := 3, constantValue := 0 }]
  methods := #[k17m0, k17m1, k17m2, k17m3]
  instanceTypes := #[]
  staticTypes := #[.int, .int, .int, .boolean]
  resolved := Array.replicate 635 none
  statics := none }

def pool18 : Array CpInfo := pool [(9, u "<init>"), (6, .class_ 18), (1, u "java/lang/Object"), (0, u "()V"), (1, .class_ 23), (1, u "jdk/internal/util/ArraysSupport"), (0, u "LOG2_ARRAY_LONG_INDEX_SCALE"), (0, u "I"), (2, u "U"), (0, u "Ljdk/internal/misc/Unsafe;"), (8, u "BIG_ENDIAN"), (0, u "Z"), (8, u "LOG2_BYTE_BIT_SIZE"), (4, u "LOG2_ARRAY_INT_INDEX_SCALE"), (54, u "JLA"), (0, u "Ljdk/internal/access/JavaLangAccess;"), (11, u "LOG2_ARRAY_BOOLEAN_INDEX_SCALE"), (9, u "LOG2_ARRAY_BYTE_INDEX_SCALE"), (5, u "LOG2_ARRAY_CHAR_INDEX_SCALE"), (5, u "LOG2_ARRAY_SHORT_INDEX_SCALE"), (5, u "mismatch"), (12, u "LOG2_ARRAY_FLOAT_INDEX_SCALE"), (24, u "LOG2_ARRAY_DOUBLE_INDEX_SCALE"), (89, u "T_BOOLEAN"), (2, u "T_CHAR"), (1, u "T_FLOAT"), (1, u "T_DOUBLE"), (1, u "T_BYTE"), (1, u "T_SHORT"), (1, u "T_INT"), (1, u "T_LONG"), (1, u "SOFT_MAX_ARRAY_LENGTH"), (42, u "([BI[BII)I")] 40

def k18m0 : Method := { name := "<init>", desc := "()V", sig := { parameters := [], returnType := none }, accessFlags := 2, code := none }
def k18c1 : Code := { maxStack := 8, maxLocals := 8, code := jdk_48_method_14_code, exceptionTable := #[], attributes := #[] }
def k18m1 : Method := { name := "mismatch", desc := "([BI[BII)I", sig := { parameters := [(.array .byte), .int, (.array .byte), .int, .int], returnType := some .int }, accessFlags := 9, code := some k18c1 }
/-- jdk/internal/util/ArraysSupport -/
def k18 : Class := { plain "jdk/internal/util/ArraysSupport" (some 0) with
  accessFlags := 33
  interfaces := #[]
  cf := some (fileOf pool18 21 #[] #[{ accessFlags := 2, nameIndex := 9, descriptorIndex := 19, attributes := #[] }, { accessFlags := 9, nameIndex := 149, descriptorIndex := 337, attributes := #[] }] 33 16 #[] #[{ accessFlags := 24, nameIndex := 28, descriptorIndex := 29, attributes := #[] }, { accessFlags := 26, nameIndex := 38, descriptorIndex := 39, attributes := #[] }, { accessFlags := 25, nameIndex := 121, descriptorIndex := 25, attributes := #[] }, { accessFlags := 25, nameIndex := 131, descriptorIndex := 25, attributes := #[] }, { accessFlags := 25, nameIndex := 137, descriptorIndex := 25, attributes := #[] }, { accessFlags := 25, nameIndex := 143, descriptorIndex := 25, attributes := #[] }, { accessFlags := 25, nameIndex := 53, descriptorIndex := 25, attributes := #[] }, { accessFlags := 25, nameIndex := 24, descriptorIndex := 25, attributes := #[] }, { accessFlags := 25, nameIndex := 162, descriptorIndex := 25, attributes := #[] }, { accessFlags := 25, nameIndex := 187, descriptorIndex := 25, attributes := #[] }, { accessFlags := 26, nameIndex := 48, descriptorIndex := 25, attributes := #[] }, { accessFlags := 25, nameIndex := 277, descriptorIndex := 25, attributes := #[] }, { accessFlags := 25, nameIndex := 280, descriptorIndex := 25, attributes := #[] }, { accessFlags := 25, nameIndex := 282, descriptorIndex := 25, attributes := #[] }, { accessFlags := 25, nameIndex := 284, descriptorIndex := 25, attributes := #[] }, { accessFlags := 25, nameIndex := 286, descriptorIndex := 25, attributes := #[] }, { accessFlags := 25, nameIndex := 288, descriptorIndex := 25, attributes := #[] }, { accessFlags := 25, nameIndex := 290, descriptorIndex := 25, attributes := #[] }, { accessFlags := 25, nameIndex := 292, descriptorIndex := 25, attributes := #[] }, { accessFlags := 26, nameIndex := 108, descriptorIndex := 109, attributes := #[] }, { accessFlags := 25, nameIndex := 294, descriptorIndex := 25, attributes := #[] }])
  fields := #[{ name := "U", type := (.object "jdk/internal/misc/Unsafe"), accessFlags := 24, slot := 0, constantValue := 0 }, { name := "BIG_ENDIAN", type := .boolean, accessFlags := 26, slot := 1, constantValue := 0 }, { name := "LOG2_ARRAY_BOOLEAN_INDEX_SCALE", type := .int, accessFlags := 25, slot := 2, constantValue := 0 }, { name := "LOG2_ARRAY_BYTE_INDEX_SCALE", type := .int, accessFlags := 25, slot := 3, constantValue := 0 }, { name := "LOG2_ARRAY_CHAR_INDEX_SCALE", type := .int, accessFlags := 25, slot := 4, constantValue := 0 }, { name := "LOG2_ARRAY_SHORT_INDEX_SCALE", type := .int, accessFlags := 25, slot := 5, constantValue := 0 }, { name := "LOG2_ARRAY_INT_INDEX_SCALE", type := .int, accessFlags := 25, slot := 6, constantValue := 0 }, { name := "LOG2_ARRAY_LONG_INDEX_SCALE", type := .int, accessFlags := 25, slot := 7, constantValue := 0 }, { name := "LOG2_ARRAY_FLOAT_INDEX_SCALE", type := .int, accessFlags := 25, slot := 8, constantValue := 0 }, { name := "LOG2_ARRAY_DOUBLE_INDEX_SCALE", type := .int, accessFlags := 25, slot := 9, constantValue := 0 }, { name := "LOG2_BYTE_BIT_SIZE", type := .int, accessFlags := 26, slot := 10, constantValue := 0 }, { name := "T_BOOLEAN", type := .int, accessFlags := 25, slot := 11, constantValue := 0 }, { name := "T_CHAR", type := .int, accessFlags := 25, slot := 12, constantValue := 0 }, { name := "T_FLOAT", type := .int, accessFlags := 25, slot := 13, constantValue := 0 }, { name := "T_DOUBLE", type := .int, accessFlags := 25, slot := 14, constantValue := 0 }, { name := "T_BYTE", type := .int, accessFlags := 25, slot := 15, constantValue := 0 }, { name := "T_SHORT", type := .int, accessFlags := 25, slot := 16, constantValue := 0 }, { name := "T_INT", type := .int, accessFlags := 25, slot := 17, constantValue := 0 }, { name := "T_LONG", type := .int, accessFlags := 25, slot := 18, constantValue := 0 }, { name := "JLA", type := (.object "jdk/internal/access/JavaLangAccess"), accessFlags := 26, slot := 19, constantValue := 0 }, { name := "SOFT_MAX_ARRAY_LENGTH", type := .int, accessFlags := 25, slot := 20, constantValue := 0 }]
  methods := #[k18m0, k18m1]
  instanceTypes := #[]
  staticTypes := #[(.object "jdk/internal/misc/Unsafe"), .boolean, .int, .int, .int, .int, .int, .int, .int, .int, .int, .int, .int, .int, .int, .int, .int, .int, .int, (.object "jdk/internal/access/JavaLangAccess"), .int]
  resolved := Array.replicate 378 none
  statics := none }

def pool19 : Array CpInfo := pool [(1, u "java/lang/Cloneable"), (0, .class_ 1), (0, u "java/lang/Object"), (0, .class_ 3)] 3

/-- java/lang/Cloneable -/
def k19 : Class := { plain "java/lang/Cloneable" (some 0) with
  accessFlags := 1537
  interfaces := #[]
  cf := some (fileOf pool19 2 #[] #[] 1537 4 #[] #[])
  fields := #[]
  methods := #[]
  instanceTypes := #[]
  staticTypes := #[]
  resolved := Array.replicate 8 none
  statics := none }

/-- the primitive byte -/
def k20 : Class := { plain "byte" none with kind := .primitive 'B', accessFlags := 0x411 }
/-- [B -/
def k21 : Class := { plain "[B" (some 0) with kind := .array 20 .byte, interfaces := #[19, 2], accessFlags := 1041 }

/-- the primitive char -/
def k22 : Class := { plain "char" none with kind := .primitive 'C', accessFlags := 0x411 }
/-- [C -/
def k23 : Class := { plain "[C" (some 0) with kind := .array 22 .char, interfaces := #[19, 2], accessFlags := 1041 }

/-- the primitive int -/
def k24 : Class := { plain "int" none with kind := .primitive 'I', accessFlags := 0x411 }
/-- [I -/
def k25 : Class := { plain "[I" (some 0) with kind := .array 24 .int, interfaces := #[19, 2], accessFlags := 1041 }

def heap : Heap := #[{ cls := 7, slots := #[.long 0, .int 1, .null, .int 0, .null, .int 0, .int 0], vm := .statics 7 },
  { cls := 16, slots := #[.null, .null, .null], vm := .statics 16 }]
def classes : Array Class := #[k0, k1, k2, k3, k4, k5, k6, k7, k8, k9, k10, k11, k12, k13, k14, k15, k16, k17, k18, k19, k20, k21, k22, k23, k24, k25]
def interned : List (Array UInt16 × Addr) := []
def slotsUsed : Nat := 10
def theMethod : MethodId := ⟨1, 1⟩
def args0 : Array Value := #[.int 2, .int 65, .int 66, .int 67, .int 0]
def aboutOver (below : List Frame) : State where
  vm := { classes := classes, interned := interned.toArray }
  heap := heap
  slotsUsed := slotsUsed
  threads := #[{ frames := .invoking theMethod args0 :: below }]
def below0 : List Frame := [.native { method := ⟨0, 0⟩, args := #[] }]
def about1 : State := aboutOver below0
def p0 : Program := .bare "" "" ""
def e0 : Env := launch0.env 0 0 0
theorem w_frames : about1.frames = Frame.invoking theMethod args0 :: below0 := rfl
set_option maxRecDepth 65536 in
theorem w_args : argsFit about1.vm theMethod args0 = true := by decide +kernel
set_option maxRecDepth 65536 in
theorem w_heap : heapFits about1 = true := by decide +kernel
set_option maxRecDepth 65536 in
theorem w_runnable : about1.curStatus? = some .runnable := by decide +kernel
set_option maxRecDepth 65536 in
theorem w_alone : about1.alone = true := by decide +kernel
set_option maxRecDepth 65536 in
theorem w_named : about1.methodNamed? x = some theMethod := by decide +kernel
set_option maxRecDepth 65536 in
theorem w_hears : about1.hears theMethod below0 = true := by decide +kernel
set_option maxRecDepth 65536 in
theorem w_ripe : about1.ripe theMethod args0 below0 = true := by decide +kernel
theorem w_running : about1.status = .running := rfl
set_option maxRecDepth 65536 in
theorem w_room : about1.hasRoom e0.platform room_1 = true :=
  launch0.hasRoom_least _ room_1 (by decide +kernel) (by decide +kernel) (by decide +kernel) (by decide +kernel) (by decide +kernel) (by decide +kernel)
theorem allAtoms_all (ts : List Jvm.Cond) (a : Array Jvm.Value) (st : Jvm.State) : (allAtoms ts).before a st = ts.all (fun c => c.before a st) := by
  induction ts with
  | nil => rfl
  | cons c t ih =>
    show (Jvm.Cond.and c (allAtoms t)).before a st = _
    rw [Jvm.Cond.before_and, ih, List.all_cons]
def words1 : List Jvm.Cond := Jvm.Cond.code x code maxLocals ret :: tables_1
/-- a 'code' word, met by the world's own term for the bytes: nothing is compared byte by byte -/
theorem code_word {y : MethodName} {bytes : ByteArray} {mx : Nat} {rt : Option FieldType} {a : Array Value} {s : State} {m : MethodId} {meth : Method} {c : Code} (h1 : s.methodNamed? y = some m) (h2 : s.vm.method? m = some meth) (h3 : meth.code = some c) (h4 : c.code = bytes)
    (h5 : (c.maxLocals == mx && c.exceptionTable.isEmpty && decide (c.maxStack ≤ mostOperands) && decide (meth.sig.returnType = rt) && !meth.locks && decide (parseMethodDescriptor y.desc = some meth.sig)) = true) : (Jvm.Cond.code y bytes mx rt).before a s = true := by
  simp only [Bool.and_eq_true, beq_iff_eq, Bool.not_eq_true', decide_eq_true_eq] at h5
  obtain ⟨⟨⟨⟨⟨g1, g2⟩, g3⟩, g4⟩, g5⟩, g6⟩ := h5
  simp [Cond.before, Cond.holds, Cond.value, h1, h2, h3, h4, g1, g2, g3, g4, g5, g6]
def isCode : Jvm.Cond → Bool
  | .code _ _ _ _ => true
  | _ => false
theorem all_split {L : List Jvm.Cond} {P : Jvm.Cond → Bool} (h1 : L.all (fun c => isCode c || P c) = true) (h2 : ∀ c ∈ L.filter isCode, P c = true) : L.all P = true := by
  refine List.all_eq_true.mpr fun c hc => ?_
  have h := List.all_eq_true.mp h1 c hc
  rcases Bool.eq_false_or_eq_true (isCode c) with hi | hi
  · exact h2 c (List.mem_filter.mpr ⟨hc, hi⟩)
  · simpa [hi] using h
set_option maxRecDepth 65536 in
theorem w_c0 : (Jvm.Cond.code x code maxLocals ret).before args0 about1 = true := code_word (m := ⟨1, 1⟩) (meth := k1m1) (c := k1c1) (by decide +kernel) rfl rfl rfl (by decide +kernel)
set_option maxRecDepth 65536 in
theorem w_c1 : (Jvm.Cond.code ({ cls := "java/lang/String", name := "<init>", desc := "([C)V" } : Jvm.MethodName) jdk_42_method_3_code (2 : Nat) (Option.none : Option Jvm.ClassFile.FieldType)).before args0 about1 = true := code_word (m := ⟨7, 1⟩) (meth := k7m1) (c := k7c1) (by decide +kernel) rfl rfl rfl (by decide +kernel)
set_option maxRecDepth 65536 in
theorem w_c2 : (Jvm.Cond.code ({ cls := "java/lang/String", name := "<init>", desc := "([CIILjava/lang/Void;)V" } : Jvm.MethodName) jdk_42_method_149_code (6 : Nat) (Option.none : Option Jvm.ClassFile.FieldType)).before args0 about1 = true := code_word (m := ⟨7, 9⟩) (meth := k7m9) (c := k7c9) (by decide +kernel) rfl rfl rfl (by decide +kernel)
set_option maxRecDepth 65536 in
theorem w_c3 : (Jvm.Cond.code ({ cls := "java/lang/Object", name := "<init>", desc := "()V" } : Jvm.MethodName) object_method_1_code (1 : Nat) (Option.none : Option Jvm.ClassFile.FieldType)).before args0 about1 = true := code_word (m := ⟨0, 0⟩) (meth := k0m0) (c := k0c0) (by decide +kernel) rfl rfl rfl (by decide +kernel)
set_option maxRecDepth 65536 in
theorem w_c4 : (Jvm.Cond.code ({ cls := "com/example/cartulary/cartulary/RegisterUris", name := "childBase", desc := "(Ljava/lang/String;)Ljava/lang/String;" } : Jvm.MethodName) prog_2_method_2_code (1 : Nat) (Option.some (Jvm.ClassFile.FieldType.object "java/lang/String"))).before args0 about1 = true := code_word (m := ⟨8, 1⟩) (meth := k8m1) (c := k8c1) (by decide +kernel) rfl rfl rfl (by decide +kernel)
set_option maxRecDepth 65536 in
theorem w_c5 : (Jvm.Cond.code ({ cls := "java/lang/String", name := "endsWith", desc := "(Ljava/lang/String;)Z" } : Jvm.MethodName) jdk_42_method_77_code (2 : Nat) (Option.some Jvm.ClassFile.FieldType.boolean)).before args0 about1 = true := code_word (m := ⟨7, 7⟩) (meth := k7m7) (c := k7c7) (by decide +kernel) rfl rfl rfl (by decide +kernel)
set_option maxRecDepth 65536 in
theorem w_c6 : (Jvm.Cond.code ({ cls := "java/lang/String", name := "length", desc := "()I" } : Jvm.MethodName) jdk_42_method_54_code (1 : Nat) (Option.some Jvm.ClassFile.FieldType.int)).before args0 about1 = true := code_word (m := ⟨7, 3⟩) (meth := k7m3) (c := k7c3) (by decide +kernel) rfl rfl rfl (by decide +kernel)
set_option maxRecDepth 65536 in
theorem w_c7 : (Jvm.Cond.code ({ cls := "java/lang/String", name := "coder", desc := "()B" } : Jvm.MethodName) jdk_42_method_152_code (1 : Nat) (Option.some Jvm.ClassFile.FieldType.byte)).before args0 about1 = true := code_word (m := ⟨7, 11⟩) (meth := k7m11) (c := k7c11) (by decide +kernel) rfl rfl rfl (by decide +kernel)
set_option maxRecDepth 65536 in
theorem w_c8 : (Jvm.Cond.code ({ cls := "java/lang/String", name := "startsWith", desc := "(Ljava/lang/String;I)Z" } : Jvm.MethodName) jdk_42_method_75_code (8 : Nat) (Option.some Jvm.ClassFile.FieldType.boolean)).before args0 about1 = true := code_word (m := ⟨7, 6⟩) (meth := k7m6) (c := k7c6) (by decide +kernel) rfl rfl rfl (by decide +kernel)
set_option maxRecDepth 65536 in
theorem w_c9 : (Jvm.Cond.code ({ cls := "java/lang/StringBuilder", name := "<init>", desc := "()V" } : Jvm.MethodName) jdk_67_method_1_code (1 : Nat) (Option.none : Option Jvm.ClassFile.FieldType)).before args0 about1 = true := code_word (m := ⟨11, 0⟩) (meth := k11m0) (c := k11c0) (by decide +kernel) rfl rfl rfl (by decide +kernel)
set_option maxRecDepth 65536 in
theorem w_c10 : (Jvm.Cond.code ({ cls := "java/lang/AbstractStringBuilder", name := "<init>", desc := "(I)V" } : Jvm.MethodName) jdk_68_method_2_code (2 : Nat) (Option.none : Option Jvm.ClassFile.FieldType)).before args0 about1 = true := code_word (m := ⟨10, 1⟩) (meth := k10m1) (c := k10c1) (by decide +kernel) rfl rfl rfl (by decide +kernel)
set_option maxRecDepth 65536 in
theorem w_c11 : (Jvm.Cond.code ({ cls := "java/lang/StringBuilder", name := "append", desc := "(Ljava/lang/String;)Ljava/lang/StringBuilder;" } : Jvm.MethodName) jdk_67_method_7_code (2 : Nat) (Option.some (Jvm.ClassFile.FieldType.object "java/lang/StringBuilder"))).before args0 about1 = true := code_word (m := ⟨11, 1⟩) (meth := k11m1) (c := k11c1) (by decide +kernel) rfl rfl rfl (by decide +kernel)
set_option maxRecDepth 65536 in
theorem w_c12 : (Jvm.Cond.code ({ cls := "java/lang/AbstractStringBuilder", name := "append", desc := "(Ljava/lang/String;)Ljava/lang/AbstractStringBuilder;" } : Jvm.MethodName) jdk_68_method_22_code (3 : Nat) (Option.some (Jvm.ClassFile.FieldType.object "java/lang/AbstractStringBuilder"))).before args0 about1 = true := code_word (m := ⟨10, 4⟩) (meth := k10m4) (c := k10c4) (by decide +kernel) rfl rfl rfl (by decide +kernel)
set_option maxRecDepth 65536 in
theorem w_c13 : (Jvm.Cond.code ({ cls := "java/lang/AbstractStringBuilder", name := "ensureCapacityInternal", desc := "(I)V" } : Jvm.MethodName) jdk_68_method_9_code (3 : Nat) (Option.none : Option Jvm.ClassFile.FieldType)).before args0 about1 = true := code_word (m := ⟨10, 3⟩) (meth := k10m3) (c := k10c3) (by decide +kernel) rfl rfl rfl (by decide +kernel)
set_option maxRecDepth 65536 in
theorem w_c14 : (Jvm.Cond.code ({ cls := "java/lang/AbstractStringBuilder", name := "putStringAt", desc := "(ILjava/lang/String;)V" } : Jvm.MethodName) jdk_68_method_73_code (3 : Nat) (Option.none : Option Jvm.ClassFile.FieldType)).before args0 about1 = true := code_word (m := ⟨10, 8⟩) (meth := k10m8) (c := k10c8) (by decide +kernel) rfl rfl rfl (by decide +kernel)
set_option maxRecDepth 65536 in
theorem w_c15 : (Jvm.Cond.code ({ cls := "java/lang/AbstractStringBuilder", name := "inflateIfNeededFor", desc := "(Ljava/lang/String;)V" } : Jvm.MethodName) jdk_68_method_71_code (2 : Nat) (Option.none : Option Jvm.ClassFile.FieldType)).before args0 about1 = true := code_word (m := ⟨10, 7⟩) (meth := k10m7) (c := k10c7) (by decide +kernel) rfl rfl rfl (by decide +kernel)
set_option maxRecDepth 65536 in
theorem w_c16 : (Jvm.Cond.code ({ cls := "java/lang/String", name := "getBytes", desc := "([BIB)V" } : Jvm.MethodName) jdk_42_method_147_code (4 : Nat) (Option.none : Option Jvm.ClassFile.FieldType)).before args0 about1 = true := code_word (m := ⟨7, 8⟩) (meth := k7m8) (c := k7c8) (by decide +kernel) rfl rfl rfl (by decide +kernel)
set_option maxRecDepth 65536 in
theorem w_c17 : (Jvm.Cond.code ({ cls := "java/lang/StringBuilder", name := "toString", desc := "()Ljava/lang/String;" } : Jvm.MethodName) jdk_67_method_42_code (1 : Nat) (Option.some (Jvm.ClassFile.FieldType.object "java/lang/String"))).before args0 about1 = true := code_word (m := ⟨11, 2⟩) (meth := k11m2) (c := k11c2) (by decide +kernel) rfl rfl rfl (by decide +kernel)
set_option maxRecDepth 65536 in
theorem w_c18 : (Jvm.Cond.code ({ cls := "java/lang/String", name := "<init>", desc := "(Ljava/lang/StringBuilder;)V" } : Jvm.MethodName) jdk_42_method_53_code (2 : Nat) (Option.none : Option Jvm.ClassFile.FieldType)).before args0 about1 = true := code_word (m := ⟨7, 2⟩) (meth := k7m2) (c := k7c2) (by decide +kernel) rfl rfl rfl (by decide +kernel)
set_option maxRecDepth 65536 in
theorem w_c19 : (Jvm.Cond.code ({ cls := "java/lang/String", name := "<init>", desc := "(Ljava/lang/AbstractStringBuilder;Ljava/lang/Void;)V" } : Jvm.MethodName) jdk_42_method_150_code (5 : Nat) (Option.none : Option Jvm.ClassFile.FieldType)).before args0 about1 = true := code_word (m := ⟨7, 10⟩) (meth := k7m10) (c := k7c10) (by decide +kernel) rfl rfl rfl (by decide +kernel)
set_option maxRecDepth 65536 in
theorem w_c20 : (Jvm.Cond.code ({ cls := "java/lang/AbstractStringBuilder", name := "getValue", desc := "()[B" } : Jvm.MethodName) jdk_68_method_64_code (1 : Nat) (Option.some (Jvm.ClassFile.FieldType.array Jvm.ClassFile.FieldType.byte))).before args0 about1 = true := code_word (m := ⟨10, 5⟩) (meth := k10m5) (c := k10c5) (by decide +kernel) rfl rfl rfl (by decide +kernel)
set_option maxRecDepth 65536 in
theorem w_c21 : (Jvm.Cond.code ({ cls := "java/lang/StringBuilder", name := "length", desc := "()I" } : Jvm.MethodName) jdk_67_method_93_code (1 : Nat) (Option.some Jvm.ClassFile.FieldType.int)).before args0 about1 = true := code_word (m := ⟨11, 3⟩) (meth := k11m3) (c := k11c3) (by decide +kernel) rfl rfl rfl (by decide +kernel)
set_option maxRecDepth 65536 in
theorem w_c22 : (Jvm.Cond.code ({ cls := "java/lang/AbstractStringBuilder", name := "length", desc := "()I" } : Jvm.MethodName) jdk_68_method_6_code (1 : Nat) (Option.some Jvm.ClassFile.FieldType.int)).before args0 about1 = true := code_word (m := ⟨10, 2⟩) (meth := k10m2) (c := k10c2) (by decide +kernel) rfl rfl rfl (by decide +kernel)
set_option maxRecDepth 65536 in
theorem w_c23 : (Jvm.Cond.code ({ cls := "java/lang/AbstractStringBuilder", name := "isLatin1", desc := "()Z" } : Jvm.MethodName) jdk_68_method_68_code (1 : Nat) (Option.some Jvm.ClassFile.FieldType.boolean)).before args0 about1 = true := code_word (m := ⟨10, 6⟩) (meth := k10m6) (c := k10c6) (by decide +kernel) rfl rfl rfl (by decide +kernel)
set_option maxRecDepth 65536 in
theorem w_c24 : (Jvm.Cond.code ({ cls := "java/util/Arrays", name := "copyOfRange", desc := "([BII)[B" } : Jvm.MethodName) jdk_65_method_132_code (3 : Nat) (Option.some (Jvm.ClassFile.FieldType.array Jvm.ClassFile.FieldType.byte))).before args0 about1 = true := code_word (m := ⟨13, 2⟩) (meth := k13m2) (c := k13c2) (by decide +kernel) rfl rfl rfl (by decide +kernel)
set_option maxRecDepth 65536 in
theorem w_c25 : (Jvm.Cond.code ({ cls := "java/util/Arrays", name := "copyOfRangeByte", desc := "([BII)[B" } : Jvm.MethodName) jdk_65_method_133_code (5 : Nat) (Option.some (Jvm.ClassFile.FieldType.array Jvm.ClassFile.FieldType.byte))).before args0 about1 = true := code_word (m := ⟨13, 3⟩) (meth := k13m3) (c := k13c3) (by decide +kernel) rfl rfl rfl (by decide +kernel)
set_option maxRecDepth 65536 in
theorem w_c26 : (Jvm.Cond.code ({ cls := "java/util/Arrays", name := "checkLength", desc := "(II)V" } : Jvm.MethodName) jdk_65_method_131_code (2 : Nat) (Option.none : Option Jvm.ClassFile.FieldType)).before args0 about1 = true := code_word (m := ⟨13, 1⟩) (meth := k13m1) (c := k13c1) (by decide +kernel) rfl rfl rfl (by decide +kernel)
set_option maxRecDepth 65536 in
theorem w_c27 : (Jvm.Cond.code ({ cls := "java/lang/Math", name := "min", desc := "(II)I" } : Jvm.MethodName) jdk_29_method_69_code (2 : Nat) (Option.some Jvm.ClassFile.FieldType.int)).before args0 about1 = true := code_word (m := ⟨14, 1⟩) (meth := k14m1) (c := k14c1) (by decide +kernel) rfl rfl rfl (by decide +kernel)
set_option maxRecDepth 65536 in
theorem w_c28 : (Jvm.Cond.code ({ cls := "java/lang/String", name := "charAt", desc := "(I)C" } : Jvm.MethodName) jdk_42_method_56_code (2 : Nat) (Option.some Jvm.ClassFile.FieldType.char)).before args0 about1 = true := code_word (m := ⟨7, 4⟩) (meth := k7m4) (c := k7c4) (by decide +kernel) rfl rfl rfl (by decide +kernel)
set_option maxRecDepth 65536 in
theorem w_c29 : (Jvm.Cond.code ({ cls := "java/lang/String", name := "isLatin1", desc := "()Z" } : Jvm.MethodName) jdk_42_method_154_code (1 : Nat) (Option.some Jvm.ClassFile.FieldType.boolean)).before args0 about1 = true := code_word (m := ⟨7, 12⟩) (meth := k7m12) (c := k7c12) (by decide +kernel) rfl rfl rfl (by decide +kernel)
set_option maxRecDepth 65536 in
theorem w_c30 : (Jvm.Cond.code ({ cls := "java/lang/StringLatin1", name := "charAt", desc := "([BI)C" } : Jvm.MethodName) jdk_43_method_2_code (2 : Nat) (Option.some Jvm.ClassFile.FieldType.char)).before args0 about1 = true := code_word (m := ⟨15, 1⟩) (meth := k15m1) (c := k15c1) (by decide +kernel) rfl rfl rfl (by decide +kernel)
set_option maxRecDepth 65536 in
theorem w_c31 : (Jvm.Cond.code ({ cls := "java/lang/String", name := "checkIndex", desc := "(II)V" } : Jvm.MethodName) jdk_42_method_155_code (2 : Nat) (Option.none : Option Jvm.ClassFile.FieldType)).before args0 about1 = true := code_word (m := ⟨7, 13⟩) (meth := k7m13) (c := k7c13) (by decide +kernel) rfl rfl rfl (by decide +kernel)
set_option maxRecDepth 65536 in
theorem w_c32 : (Jvm.Cond.code ({ cls := "jdk/internal/util/Preconditions", name := "checkIndex", desc := "(IILjava/util/function/BiFunction;)I" } : Jvm.MethodName) jdk_41_method_11_code (3 : Nat) (Option.some Jvm.ClassFile.FieldType.int)).before args0 about1 = true := code_word (m := ⟨16, 1⟩) (meth := k16m1) (c := k16c1) (by decide +kernel) rfl rfl rfl (by decide +kernel)
set_option maxRecDepth 65536 in
theorem w_c33 : (Jvm.Cond.code ({ cls := "java/lang/StringUTF16", name := "compress", desc := "([CII)[B" } : Jvm.MethodName) jdk_52_method_16_code (6 : Nat) (Option.some (Jvm.ClassFile.FieldType.array Jvm.ClassFile.FieldType.byte))).before args0 about1 = true := code_word (m := ⟨17, 2⟩) (meth := k17m2) (c := k17c2) (by decide +kernel) rfl rfl rfl (by decide +kernel)
set_option maxRecDepth 65536 in
theorem w_c34 : (Jvm.Cond.code ({ cls := "java/lang/StringUTF16", name := "compress", desc := "([CI[BII)I" } : Jvm.MethodName) jdk_52_method_21_code (7 : Nat) (Option.some Jvm.ClassFile.FieldType.int)).before args0 about1 = true := code_word (m := ⟨17, 3⟩) (meth := k17m3) (c := k17c3) (by decide +kernel) rfl rfl rfl (by decide +kernel)
set_option maxRecDepth 65536 in
theorem w_c35 : (Jvm.Cond.code ({ cls := "java/lang/StringUTF16", name := "coderFromArrayLen", desc := "([BI)B" } : Jvm.MethodName) jdk_52_method_15_code (2 : Nat) (Option.some Jvm.ClassFile.FieldType.byte)).before args0 about1 = true := code_word (m := ⟨17, 1⟩) (meth := k17m1) (c := k17c1) (by decide +kernel) rfl rfl rfl (by decide +kernel)
set_option maxRecDepth 65536 in
theorem w_c36 : (Jvm.Cond.code ({ cls := "jdk/internal/util/ArraysSupport", name := "mismatch", desc := "([BI[BII)I" } : Jvm.MethodName) jdk_48_method_14_code (8 : Nat) (Option.some Jvm.ClassFile.FieldType.int)).before args0 about1 = true := code_word (m := ⟨18, 1⟩) (meth := k18m1) (c := k18c1) (by decide +kernel) rfl rfl rfl (by decide +kernel)
set_option maxRecDepth 65536 in
theorem w_c37 : (Jvm.Cond.code ({ cls := "java/lang/String", name := "equals", desc := "(Ljava/lang/Object;)Z" } : Jvm.MethodName) jdk_42_method_66_code (3 : Nat) (Option.some Jvm.ClassFile.FieldType.boolean)).before args0 about1 = true := code_word (m := ⟨7, 5⟩) (meth := k7m5) (c := k7c5) (by decide +kernel) rfl rfl rfl (by decide +kernel)
def codes1 : List Jvm.Cond := [Jvm.Cond.code x code maxLocals ret, Jvm.Cond.code ({ cls := "java/lang/String", name := "<init>", desc := "([C)V" } : Jvm.MethodName) jdk_42_method_3_code (2 : Nat) (Option.none : Option Jvm.ClassFile.FieldType), Jvm.Cond.code ({ cls := "java/lang/String", name := "<init>", desc := "([CIILjava/lang/Void;)V" } : Jvm.MethodName) jdk_42_method_149_code (6 : Nat) (Option.none : Option Jvm.ClassFile.FieldType), Jvm.Cond.code ({ cls := "java/lang/Object", name := "<init>", desc := "()V" } : Jvm.MethodName) object_method_1_code (1 : Nat) (Option.none : Option Jvm.ClassFile.FieldType), Jvm.Cond.code ({ cls := "com/example/cartulary/cartulary/RegisterUris", name := "childBase", desc := "(Ljava/lang/String;)Ljava/lang/String;" } : Jvm.MethodName) prog_2_method_2_code (1 : Nat) (Option.some (Jvm.ClassFile.FieldType.object "java/lang/String")), Jvm.Cond.code ({ cls := "java/lang/String", name := "endsWith", desc := "(Ljava/lang/String;)Z" } : Jvm.MethodName) jdk_42_method_77_code (2 : Nat) (Option.some Jvm.ClassFile.FieldType.boolean), Jvm.Cond.code ({ cls := "java/lang/String", name := "length", desc := "()I" } : Jvm.MethodName) jdk_42_method_54_code (1 : Nat) (Option.some Jvm.ClassFile.FieldType.int), Jvm.Cond.code ({ cls := "java/lang/String", name := "coder", desc := "()B" } : Jvm.MethodName) jdk_42_method_152_code (1 : Nat) (Option.some Jvm.ClassFile.FieldType.byte), Jvm.Cond.code ({ cls := "java/lang/String", name := "startsWith", desc := "(Ljava/lang/String;I)Z" } : Jvm.MethodName) jdk_42_method_75_code (8 : Nat) (Option.some Jvm.ClassFile.FieldType.boolean), Jvm.Cond.code ({ cls := "java/lang/StringBuilder", name := "<init>", desc := "()V" } : Jvm.MethodName) jdk_67_method_1_code (1 : Nat) (Option.none : Option Jvm.ClassFile.FieldType), Jvm.Cond.code ({ cls := "java/lang/AbstractStringBuilder", name := "<init>", desc := "(I)V" } : Jvm.MethodName) jdk_68_method_2_code (2 : Nat) (Option.none : Option Jvm.ClassFile.FieldType), Jvm.Cond.code ({ cls := "java/lang/StringBuilder", name := "append", desc := "(Ljava/lang/String;)Ljava/lang/StringBuilder;" } : Jvm.MethodName) jdk_67_method_7_code (2 : Nat) (Option.some (Jvm.ClassFile.FieldType.object "java/lang/StringBuilder")), Jvm.Cond.code ({ cls := "java/lang/AbstractStringBuilder", name := "append", desc := "(Ljava/lang/String;)Ljava/lang/AbstractStringBuilder;" } : Jvm.MethodName) jdk_68_method_22_code (3 : Nat) (Option.some (Jvm.ClassFile.FieldType.object "java/lang/AbstractStringBuilder")), Jvm.Cond.code ({ cls := "java/lang/AbstractStringBuilder", name := "ensureCapacityInternal", desc := "(I)V" } : Jvm.MethodName) jdk_68_method_9_code (3 : Nat) (Option.none : Option Jvm.ClassFile.FieldType), Jvm.Cond.code ({ cls := "java/lang/AbstractStringBuilder", name := "putStringAt", desc := "(ILjava/lang/String;)V" } : Jvm.MethodName) jdk_68_method_73_code (3 : Nat) (Option.none : Option Jvm.ClassFile.FieldType), Jvm.Cond.code ({ cls := "java/lang/AbstractStringBuilder", name := "inflateIfNeededFor", desc := "(Ljava/lang/String;)V" } : Jvm.MethodName) jdk_68_method_71_code (2 : Nat) (Option.none : Option Jvm.ClassFile.FieldType), Jvm.Cond.code ({ cls := "java/lang/String", name := "getBytes", desc := "([BIB)V" } : Jvm.MethodName) jdk_42_method_147_code (4 : Nat) (Option.none : Option Jvm.ClassFile.FieldType), Jvm.Cond.code ({ cls := "java/lang/StringBuilder", name := "toString", desc := "()Ljava/lang/String;" } : Jvm.MethodName) jdk_67_method_42_code (1 : Nat) (Option.some (Jvm.ClassFile.FieldType.object "java/lang/String")), Jvm.Cond.code ({ cls := "java/lang/String", name := "<init>", desc := "(Ljava/lang/StringBuilder;)V" } : Jvm.MethodName) jdk_42_method_53_code (2 : Nat) (Option.none : Option Jvm.ClassFile.FieldType), Jvm.Cond.code ({ cls := "java/lang/String", name := "<init>", desc := "(Ljava/lang/AbstractStringBuilder;Ljava/lang/Void;)V" } : Jvm.MethodName) jdk_42_method_150_code (5 : Nat) (Option.none : Option Jvm.ClassFile.FieldType), Jvm.Cond.code ({ cls := "java/lang/AbstractStringBuilder", name := "getValue", desc := "()[B" } : Jvm.MethodName) jdk_68_method_64_code (1 : Nat) (Option.some (Jvm.ClassFile.FieldType.array Jvm.ClassFile.FieldType.byte)), Jvm.Cond.code ({ cls := "java/lang/StringBuilder", name := "length", desc := "()I" } : Jvm.MethodName) jdk_67_method_93_code (1 : Nat) (Option.some Jvm.ClassFile.FieldType.int), Jvm.Cond.code ({ cls := "java/lang/AbstractStringBuilder", name := "length", desc := "()I" } : Jvm.MethodName) jdk_68_method_6_code (1 : Nat) (Option.some Jvm.ClassFile.FieldType.int), Jvm.Cond.code ({ cls := "java/lang/AbstractStringBuilder", name := "isLatin1", desc := "()Z" } : Jvm.MethodName) jdk_68_method_68_code (1 : Nat) (Option.some Jvm.ClassFile.FieldType.boolean), Jvm.Cond.code ({ cls := "java/util/Arrays", name := "copyOfRange", desc := "([BII)[B" } : Jvm.MethodName) jdk_65_method_132_code (3 : Nat) (Option.some (Jvm.ClassFile.FieldType.array Jvm.ClassFile.FieldType.byte)), Jvm.Cond.code ({ cls := "java/util/Arrays", name := "copyOfRangeByte", desc := "([BII)[B" } : Jvm.MethodName) jdk_65_method_133_code (5 : Nat) (Option.some (Jvm.ClassFile.FieldType.array Jvm.ClassFile.FieldType.byte)), Jvm.Cond.code ({ cls := "java/util/Arrays", name := "checkLength", desc := "(II)V" } : Jvm.MethodName) jdk_65_method_131_code (2 : Nat) (Option.none : Option Jvm.ClassFile.FieldType), Jvm.Cond.code ({ cls := "java/lang/Math", name := "min", desc := "(II)I" } : Jvm.MethodName) jdk_29_method_69_code (2 : Nat) (Option.some Jvm.ClassFile.FieldType.int), Jvm.Cond.code ({ cls := "java/lang/String", name := "charAt", desc := "(I)C" } : Jvm.MethodName) jdk_42_method_56_code (2 : Nat) (Option.some Jvm.ClassFile.FieldType.char), Jvm.Cond.code ({ cls := "java/lang/String", name := "isLatin1", desc := "()Z" } : Jvm.MethodName) jdk_42_method_154_code (1 : Nat) (Option.some Jvm.ClassFile.FieldType.boolean), Jvm.Cond.code ({ cls := "java/lang/StringLatin1", name := "charAt", desc := "([BI)C" } : Jvm.MethodName) jdk_43_method_2_code (2 : Nat) (Option.some Jvm.ClassFile.FieldType.char), Jvm.Cond.code ({ cls := "java/lang/String", name := "checkIndex", desc := "(II)V" } : Jvm.MethodName) jdk_42_method_155_code (2 : Nat) (Option.none : Option Jvm.ClassFile.FieldType), Jvm.Cond.code ({ cls := "jdk/internal/util/Preconditions", name := "checkIndex", desc := "(IILjava/util/function/BiFunction;)I" } : Jvm.MethodName) jdk_41_method_11_code (3 : Nat) (Option.some Jvm.ClassFile.FieldType.int), Jvm.Cond.code ({ cls := "java/lang/StringUTF16", name := "compress", desc := "([CII)[B" } : Jvm.MethodName) jdk_52_method_16_code (6 : Nat) (Option.some (Jvm.ClassFile.FieldType.array Jvm.ClassFile.FieldType.byte)), Jvm.Cond.code ({ cls := "java/lang/StringUTF16", name := "compress", desc := "([CI[BII)I" } : Jvm.MethodName) jdk_52_method_21_code (7 : Nat) (Option.some Jvm.ClassFile.FieldType.int), Jvm.Cond.code ({ cls := "java/lang/StringUTF16", name := "coderFromArrayLen", desc := "([BI)B" } : Jvm.MethodName) jdk_52_method_15_code (2 : Nat) (Option.some Jvm.ClassFile.FieldType.byte), Jvm.Cond.code ({ cls := "jdk/internal/util/ArraysSupport", name := "mismatch", desc := "([BI[BII)I" } : Jvm.MethodName) jdk_48_method_14_code (8 : Nat) (Option.some Jvm.ClassFile.FieldType.int), Jvm.Cond.code ({ cls := "java/lang/String", name := "equals", desc := "(Ljava/lang/Object;)Z" } : Jvm.MethodName) jdk_42_method_66_code (3 : Nat) (Option.some Jvm.ClassFile.FieldType.boolean)]
set_option maxRecDepth 65536 in
theorem codes_eq : words1.filter isCode = codes1 := rfl
theorem w_codes : ∀ c ∈ words1.filter isCode, c.before args0 about1 = true := by
  rw [codes_eq]
  intro c hc
  simp only [codes1, List.mem_cons, List.not_mem_nil, or_false] at hc
  rcases hc with rfl | rfl | rfl | rfl | rfl | rfl | rfl | rfl | rfl | rfl | rfl | rfl | rfl | rfl | rfl | rfl | rfl | rfl | rfl | rfl | rfl | rfl | rfl | rfl | rfl | rfl | rfl | rfl | rfl | rfl | rfl | rfl | rfl | rfl | rfl | rfl | rfl | rfl
  · exact w_c0
  · exact w_c1
  · exact w_c2
  · exact w_c3
  · exact w_c4
  · exact w_c5
  · exact w_c6
  · exact w_c7
  · exact w_c8
  · exact w_c9
  · exact w_c10
  · exact w_c11
  · exact w_c12
  · exact w_c13
  · exact w_c14
  · exact w_c15
  · exact w_c16
  · exact w_c17
  · exact w_c18
  · exact w_c19
  · exact w_c20
  · exact w_c21
  · exact w_c22
  · exact w_c23
  · exact w_c24
  · exact w_c25
  · exact w_c26
  · exact w_c27
  · exact w_c28
  · exact w_c29
  · exact w_c30
  · exact w_c31
  · exact w_c32
  · exact w_c33
  · exact w_c34
  · exact w_c35
  · exact w_c36
  · exact w_c37
set_option maxRecDepth 65536 in
theorem w_t1 : (words1.take 24).all (fun c => isCode c || c.before args0 about1) = true := by decide +kernel
set_option maxRecDepth 65536 in
theorem w_t2 : ((words1.drop 24).take 24).all (fun c => isCode c || c.before args0 about1) = true := by decide +kernel
set_option maxRecDepth 65536 in
theorem w_t3 : (((words1.drop 24).drop 24).take 24).all (fun c => isCode c || c.before args0 about1) = true := by decide +kernel
set_option maxRecDepth 65536 in
theorem w_t4 : ((((words1.drop 24).drop 24).drop 24).take 24).all (fun c => isCode c || c.before args0 about1) = true := by decide +kernel
set_option maxRecDepth 65536 in
theorem w_t5 : (((((words1.drop 24).drop 24).drop 24).drop 24).take 24).all (fun c => isCode c || c.before args0 about1) = true := by decide +kernel
set_option maxRecDepth 65536 in
theorem w_t6 : ((((((words1.drop 24).drop 24).drop 24).drop 24).drop 24).take 24).all (fun c => isCode c || c.before args0 about1) = true := by decide +kernel
set_option maxRecDepth 65536 in
theorem w_t7 : (((((((words1.drop 24).drop 24).drop 24).drop 24).drop 24).drop 24).take 24).all (fun c => isCode c || c.before args0 about1) = true := by decide +kernel
set_option maxRecDepth 65536 in
theorem w_t8 : (((((((words1.drop 24).drop 24).drop 24).drop 24).drop 24).drop 24).drop 24).all (fun c => isCode c || c.before args0 about1) = true := by decide +kernel
theorem w_tables : (allAtoms (Jvm.Cond.code x code maxLocals ret :: tables_1)).before args0 about1 = true := by
  rw [allAtoms_all]
  show words1.all (fun c => c.before args0 about1) = true
  refine all_split ?_ w_codes
  rw [← List.take_append_drop 24 words1, List.all_append, w_t1, ← List.take_append_drop 24 (words1.drop 24), List.all_append, w_t2, ← List.take_append_drop 24 ((words1.drop 24).drop 24), List.all_append, w_t3, ← List.take_append_drop 24 (((words1.drop 24).drop 24).drop 24), List.all_append, w_t4, ← List.take_append_drop 24 ((((words1.drop 24).drop 24).drop 24).drop 24), List.all_append, w_t5, ← List.take_append_drop 24 (((((words1.drop 24).drop 24).drop 24).drop 24).drop 24), List.all_append, w_t6, ← List.take_append_drop 24 ((((((words1.drop 24).drop 24).drop 24).drop 24).drop 24).drop 24), List.all_append, w_t7, w_t8]
  rfl
set_option maxRecDepth 65536 in
theorem w_rest : rest_1_c.before args0 about1 = true := by decide +kernel
set_option maxRecDepth 65536 in
theorem w_case : (Jvm.Cond.and given_1 narrow_1).before args0 about1 = true := by decide +kernel
set_option maxRecDepth 65536 in
theorem w_consts : constsHeld consts_1 about1 := Jvm.Lit.constsHeldB_iff.mp (by decide +kernel)
theorem w_applies : (headSpec (Jvm.Cond.code x code maxLocals ret :: tables_1) room_1).applies x e0.platform about1 = true :=
  (Spec.applies_iff w_frames).mpr ⟨w_running, w_runnable, w_alone, w_named, w_hears, w_ripe, w_room, w_tables⟩
theorem atStart : AtStart classFile x code maxLocals ret World_1 tables_1 room_1 Calls_1 rest_1 Pre_1 launch0 p0 e0 about1 theMethod args0 below0 :=
  ⟨lists_1, trivial, launch0.admits_env _ _ _, launch0.least_env, fairChoices_fair.cas, fairChoices_fair.clock, w_frames, w_args, w_heap, w_applies, ⟨w_consts, trivial⟩, w_rest, w_case⟩
end start1
theorem witness_1 : WitnessClaimed_1 := ⟨start1.p0, start1.e0, start1.about1, start1.theMethod, start1.args0, start1.below0, start1.atStart⟩
end Jvm.Pilot.@@N@@
