import JvmDerived
import JvmDerived.Pilot.@@N@@Statement
import JvmDerived.Pilot.@@N@@Code
set_option linter.unusedVariables false
set_option linter.unusedSimpArgs false
/- laws to paste: Road.backV, Road.lenW, Road.chN, Road.codOf (cut by pick.py; bodies as the Statement names them) -/
namespace Jvm.Pilot.@@N@@
namespace StrChars
open Jvm Sem ClassFile Op Lib Jvm.Stand Jvm.Free.XT Jvm.Free.ALB Jvm.Free.JM Jvm.Free
open Jvm.Lib.Cold (StaticIs)
/-- a char array whose places are chars -/
def Ch (a : Addr) (A : Cell) (U : State) : Prop := Arr .char a A U ∧ Typed .char A
theorem Ch.mv {a : Addr} {A : Cell} {U U' : State} (h : Ch a A U) (hal : U.vm.Alike U'.vm) (hh : U'.heap = U.heap) : Ch a A U' := ⟨h.1.mv hal hh, h.2⟩
theorem Ch.keep {a : Addr} {A : Cell} {U U' : State} (h : Ch a A U) (hal : U.vm.Alike U'.vm) (hk : U'.heap[a]? = some A) : Ch a A U' := ⟨h.1.keep hal hk, h.2⟩
/-- what place i of a char[]'s cell holds -/
def cv (A : Cell) (i : Nat) : Int32 := match A.slots[i]? with | some (.int x) => x | _ => 0
theorem Ch.get {a : Addr} {A : Cell} {U : State} (h : Ch a A U) {i : Nat} (hi : i < A.slots.size) : A.slots[i]? = some (.int (cv A i)) := by
  have e := Array.getElem?_eq_getElem hi
  have f := h.2 i _ e
  unfold cv; rw [e]
  generalize A.slots[i] = v at f
  cases v <;> simp [fits] at f ⊢
/-- the byte that i2b leaves of a char -/
def lo8 (x : Int32) : Int32 := x.toInt8.toInt32
theorem fits_lo8 (y : Int32) : fits .byte (.int (lo8 y)) = true := by
  have h1 := y.toInt8.le_toInt
  have h2 := y.toInt8.toInt_lt
  simp only [lo8, fits, Bool.and_eq_true, decide_eq_true_eq, Int32.le_iff_toInt_le, Int8.toInt_toInt32, show (-128 : Int32).toInt = -128 from by decide, show (127 : Int32).toInt = 127 from by decide]
  omega
/-- A' is A but that each place j of lo .. hi - 1 holds f j -/
def Laid (A A' : Cell) (lo hi : Nat) (f : Nat → Value) : Prop := A'.cls = A.cls ∧ A'.vm = A.vm ∧ A'.slots.size = A.slots.size ∧ ∀ i, A'.slots[i]? = if lo ≤ i ∧ i < hi then some (f i) else A.slots[i]?
theorem Laid.zero (A : Cell) (lo : Nat) (f : Nat → Value) : Laid A A lo (lo + 0) f := ⟨rfl, rfl, rfl, fun i => by rw [if_neg (by omega)]⟩
theorem Laid.step {A Ak : Cell} {lo k : Nat} {f : Nat → Value} {v : Value} (h : Laid A Ak lo k f) (hlo : lo ≤ k) (hk : k < Ak.slots.size) (hv : v = f k) : Laid A (Ak.setSlot k v) lo (k + 1) f := by
  refine ⟨h.1, h.2.1, by simpa [Cell.setSlot] using h.2.2.1, fun i => ?_⟩
  by_cases e : k = i
  · subst e; rw [Cell.slots_setSlot_self v hk, if_pos (by omega), hv]
  · rw [Cell.slots_setSlot_ne v e, h.2.2.2 i]
    by_cases q : lo ≤ i ∧ i < k
    · rw [if_pos q, if_pos (by omega)]
    · rw [if_neg q, if_neg (by omega)]
def U16 : String := "java/lang/StringUTF16"
namespace Cmp5
def yN : MethodName := ⟨"java/lang/StringUTF16", "compress", "([CI[BII)I"⟩
abbrev yB : ByteArray := jdk_52_method_21_code
theorem d0 : decode yB 0 = .ok (.iconst 0, 1) := by decide +kernel
theorem d1 : decode yB 1 = .ok (.istore 5, 2) := by decide +kernel
theorem d3 : decode yB 3 = .ok (.iload 5, 2) := by decide +kernel
theorem d5 : decode yB 5 = .ok (.iload 4, 2) := by decide +kernel
theorem d7 : decode yB 7 = .ok (.if_icmp (.ge) 37, 3) := by decide +kernel
theorem d10 : decode yB 10 = .ok (.aload_n 0, 1) := by decide +kernel
theorem d11 : decode yB 11 = .ok (.iload_n 1, 1) := by decide +kernel
theorem d12 : decode yB 12 = .ok (.caload, 1) := by decide +kernel
theorem d13 : decode yB 13 = .ok (.istore 6, 2) := by decide +kernel
theorem d15 : decode yB 15 = .ok (.iload 6, 2) := by decide +kernel
theorem d17 : decode yB 17 = .ok (.sipush 255, 3) := by decide +kernel
theorem d20 : decode yB 20 = .ok (.if_icmp (.le) 6, 3) := by decide +kernel
theorem d26 : decode yB 26 = .ok (.aload_n 2, 1) := by decide +kernel
theorem d27 : decode yB 27 = .ok (.iload_n 3, 1) := by decide +kernel
theorem d28 : decode yB 28 = .ok (.iload 6, 2) := by decide +kernel
theorem d30 : decode yB 30 = .ok (.i2b, 1) := by decide +kernel
theorem d31 : decode yB 31 = .ok (.bastore, 1) := by decide +kernel
theorem d32 : decode yB 32 = .ok (.iinc 1 1, 3) := by decide +kernel
theorem d35 : decode yB 35 = .ok (.iinc 3 1, 3) := by decide +kernel
theorem d38 : decode yB 38 = .ok (.iinc 5 1, 3) := by decide +kernel
theorem d41 : decode yB 41 = .ok (.goto (-38), 3) := by decide +kernel
theorem d44 : decode yB 44 = .ok (.iload 4, 2) := by decide +kernel
theorem d46 : decode yB 46 = .ok (.ireturn, 1) := by decide +kernel
def site : List Cond := []
def tab : Cond := tabOf yN yB 7 (some .int) site
def P (b : Addr) (A : Cell) (d : Addr) (B : Cell) (o q len : Nat) (args : Array Value) (s : State) : Prop := args = #[.ref b, .int (Int32.ofNat o), .ref d, .int (Int32.ofNat q), .int (Int32.ofNat len)] ∧ Ch b A s ∧ Arr .byte d B s ∧ b ≠ d ∧ o + len ≤ A.slots.size ∧ q + len ≤ B.slots.size ∧ ∀ i, i < len → ¬ 255 < cv A (o + i)
def E (b : Addr) (A : Cell) (d : Addr) (B : Cell) (o q len : Nat) (r : Option Value) (s u : State) : Prop := r = some (.int (Int32.ofNat len)) ∧ ∃ B', Put d B' s u ∧ Laid B B' q (q + len) (fun j => Value.int (lo8 (cv A (o + (j - q)))))
/-- no char of the range above 255: len; the places written hold each char's low byte -/
theorem law (l : Launch) (b : Addr) (A : Cell) (d : Addr) (B : Cell) (o q len : Nat) : Law l yN 5 5 0 0 yB 7 (some .int) site (P b A d B o q len) (E b A d B o q len) (copyLocs d q len) 0 0 := by
  refine Law.of_walk (plainFor_of_name (by decide +kernel)) (by decide +kernel) (by decide +kernel) (by decide) (fun _ _ h => by rw [h.1]; rfl) (fun _ U U' hal hh h => ⟨h.1, h.2.1.mv hal hh, h.2.2.1.mv hal hh, h.2.2.2⟩) (fun r U U' V V' h1 hal h2 h => ⟨h.1, h.2.elim fun B' q => ⟨B', q.1.mv h1 h2, q.2⟩⟩) ?_
  intro p e s m args below meth c s₁ X0 hexec hbytes hml hret hlk hnm hown hh0 W hP
  obtain ⟨rfl, hA, hB, hne, l1, l2, hp⟩ := hP
  have c1 : Steps p.tables e below (s₁.setTop (entryFrame m #[.ref b, .int (Int32.ofNat o), .ref d, .int (Int32.ofNat q), .int (Int32.ofNat len)] 7)) (s₁.setTop (mkF m 0 #[.val (.ref b), .val (.int (Int32.ofNat o)), .val (.ref d), .val (.int (Int32.ofNat q)), .val (.int (Int32.ofNat len)), .unset, .unset] [])) := entry rfl
  have hA0 := hA.1.mv X0.warmed.alike hh0
  have hB0 := hB.mv X0.warmed.alike hh0
  have a31 := hA.1.2.2.2
  have c2 : Steps p.tables e below (s₁.setTop (entryFrame m #[.ref b, .int (Int32.ofNat o), .ref d, .int (Int32.ofNat q), .int (Int32.ofNat len)] 7)) (s₁.setTop (mkF m 3 #[.val (.ref b), .val (.int (Int32.ofNat o)), .val (.ref d), .val (.int (Int32.ofNat q)), .val (.int (Int32.ofNat len)), .val (.int 0), .unset] [])) := c1.trans (by
    refine iconstV X0.here hexec rfl 0 (hb hbytes d0) (by decide) ?_
    refine XS.istore X0.here hexec rfl (hb hbytes d1) rfl rfl ?_
    exact Steps.refl _)
  have loop : ∀ (r i : Nat), i + r = len → ∀ (z : Slot), (z = .unset ∨ ∃ w, z = .val w ∧ w.category = 1) → ∀ (Tl : State) (Bk : Cell), Stand p l e { frames := 0, locals := 0, cells := 0, slots := 0 } s m #[.ref b, .int (Int32.ofNat o), .ref d, .int (Int32.ofNat q), .int (Int32.ofNat len)] below meth c Tl ([] ++ copyLocs d q i) 0 0 → Put d Bk s₁ Tl → Laid B Bk q (q + i) (fun j => Value.int (lo8 (cv A (o + (j - q))))) →
      Steps p.tables e below (s₁.setTop (entryFrame m #[.ref b, .int (Int32.ofNat o), .ref d, .int (Int32.ofNat q), .int (Int32.ofNat len)] 7)) (Tl.setTop (mkF m 3 #[.val (.ref b), .val (.int (Int32.ofNat (o + i))), .val (.ref d), .val (.int (Int32.ofNat (q + i))), .val (.int (Int32.ofNat len)), .val (.int (Int32.ofNat i)), z] [])) → ∃ (T' : State) (B' : Cell) (z' : Slot), Stand p l e { frames := 0, locals := 0, cells := 0, slots := 0 } s m #[.ref b, .int (Int32.ofNat o), .ref d, .int (Int32.ofNat q), .int (Int32.ofNat len)] below meth c T' ([] ++ copyLocs d q len) 0 0 ∧ Put d B' s₁ T' ∧ Laid B B' q (q + len) (fun j => Value.int (lo8 (cv A (o + (j - q))))) ∧
      Steps p.tables e below (s₁.setTop (entryFrame m #[.ref b, .int (Int32.ofNat o), .ref d, .int (Int32.ofNat q), .int (Int32.ofNat len)] 7)) (T'.setTop (mkF m 3 #[.val (.ref b), .val (.int (Int32.ofNat (o + len))), .val (.ref d), .val (.int (Int32.ofNat (q + len))), .val (.int (Int32.ofNat len)), .val (.int (Int32.ofNat len)), z'] [])) := by
    intro r
    induction r with
    | zero =>
      intro i hi z hz Tl Bk Xl pl fl cl
      have hil : i = len := by omega
      rw [hil] at Xl fl cl
      exact ⟨Tl, Bk, z, Xl, pl, fl, cl⟩
    | succ r ih =>
      intro i hi z hz Tl Bk Xl pl fl cl
      have all := X0.warmed.alike.symm.trans Xl.warmed.alike
      have hAl := hA0.keep all (pl.other hne hA0.1)
      have hBk := hB0.like all pl.1 fl.1 fl.2.1 fl.2.2.1
      have hlt : q + i < Bk.slots.size := by rw [fl.2.2.1]; omega
      have c3 : Steps p.tables e below (s₁.setTop (entryFrame m #[.ref b, .int (Int32.ofNat o), .ref d, .int (Int32.ofNat q), .int (Int32.ofNat len)] 7)) (Tl.setTop (mkF m 12 #[.val (.ref b), .val (.int (Int32.ofNat (o + i))), .val (.ref d), .val (.int (Int32.ofNat (q + i))), .val (.int (Int32.ofNat len)), .val (.int (Int32.ofNat i)), z] [.int (Int32.ofNat (o + i)), .ref b])) := cl.trans (by
        refine XS.iload Xl.here hexec rfl (hb hbytes d3) rfl ?_
        refine XS.iload Xl.here hexec rfl (hb hbytes d5) rfl ?_
        refine XS.icmpNo Xl.here hexec rfl (hb hbytes d7) rfl (ii_ge_f (lt32 (by omega) (by omega))) ?_
        refine XS.aloadN Xl.here hexec rfl (hb hbytes d10) rfl rfl ?_
        refine XS.iloadN Xl.here hexec rfl (hb hbytes d11) rfl ?_
        exact Steps.refl _)
      have c4 : Steps p.tables e below (s₁.setTop (entryFrame m #[.ref b, .int (Int32.ofNat o), .ref d, .int (Int32.ofNat q), .int (Int32.ofNat len)] 7)) (Tl.setTop (mkF m 13 #[.val (.ref b), .val (.int (Int32.ofNat (o + i))), .val (.ref d), .val (.int (Int32.ofNat (q + i))), .val (.int (Int32.ofNat len)), .val (.int (Int32.ofNat i)), z] [.int (cv A (o + i))])) := c3.trans (by
        refine Xl.aget hexec hAl rfl (hA.get (i := o + i) (by omega)) rfl rfl (hb hbytes d12) ?_
        exact Steps.refl _)
      have c5 : Steps p.tables e below (s₁.setTop (entryFrame m #[.ref b, .int (Int32.ofNat o), .ref d, .int (Int32.ofNat q), .int (Int32.ofNat len)] 7)) (Tl.setTop (mkF m 15 #[.val (.ref b), .val (.int (Int32.ofNat (o + i))), .val (.ref d), .val (.int (Int32.ofNat (q + i))), .val (.int (Int32.ofNat len)), .val (.int (Int32.ofNat i)), .val (.int (cv A (o + i)))] [])) := c4.trans (by
        refine XS.istoreS Xl.here hexec rfl (hb hbytes d13) rfl rfl hz ?_
        exact Steps.refl _)
      have c6 : Steps p.tables e below (s₁.setTop (entryFrame m #[.ref b, .int (Int32.ofNat o), .ref d, .int (Int32.ofNat q), .int (Int32.ofNat len)] 7)) (Tl.setTop (mkF m 31 #[.val (.ref b), .val (.int (Int32.ofNat (o + i))), .val (.ref d), .val (.int (Int32.ofNat (q + i))), .val (.int (Int32.ofNat len)), .val (.int (Int32.ofNat i)), .val (.int (cv A (o + i)))] [.int (lo8 (cv A (o + i))), .int (Int32.ofNat (q + i)), .ref d])) := c5.trans (by
        refine XS.iload Xl.here hexec rfl (hb hbytes d15) rfl ?_
        refine sipushV Xl.here hexec rfl 255 (hb hbytes d17) (by decide) ?_
        refine XS.icmpYes Xl.here hexec rfl (pc0 := 20) rfl (hb hbytes d20) rfl (ii_le_t (hp i (by omega))) (by decide) rfl ?_
        refine XS.aloadN Xl.here hexec rfl (hb hbytes d26) rfl rfl ?_
        refine XS.iloadN Xl.here hexec rfl (hb hbytes d27) rfl ?_
        refine XS.iload Xl.here hexec rfl (hb hbytes d28) rfl ?_
        refine i2b Xl.here hexec rfl (hb hbytes d30) rfl ?_
        exact Steps.refl _)
      obtain ⟨T7, X7, p7, st7⟩ := Xl.aput hexec hBk rfl hlt rfl (fits_lo8 (cv A (o + i))) (g := (mkF m 31 #[.val (.ref b), .val (.int (Int32.ofNat (o + i))), .val (.ref d), .val (.int (Int32.ofNat (q + i))), .val (.int (Int32.ofNat len)), .val (.int (Int32.ofNat i)), .val (.int (cv A (o + i)))] [.int (lo8 (cv A (o + i))), .int (Int32.ofNat (q + i)), .ref d])) rfl (rest := []) rfl (hb hbytes d31)
      have c8 : Steps p.tables e below (s₁.setTop (entryFrame m #[.ref b, .int (Int32.ofNat o), .ref d, .int (Int32.ofNat q), .int (Int32.ofNat len)] 7)) (T7.setTop (mkF m 32 #[.val (.ref b), .val (.int (Int32.ofNat (o + i))), .val (.ref d), .val (.int (Int32.ofNat (q + i))), .val (.int (Int32.ofNat len)), .val (.int (Int32.ofNat i)), .val (.int (cv A (o + i)))] [])) := c6.trans (st7 _ (Steps.refl _))
      have c9 : Steps p.tables e below (s₁.setTop (entryFrame m #[.ref b, .int (Int32.ofNat o), .ref d, .int (Int32.ofNat q), .int (Int32.ofNat len)] 7)) (T7.setTop (mkF m 3 #[.val (.ref b), .val (.int (Int32.ofNat (o + i) + 1)), .val (.ref d), .val (.int (Int32.ofNat (q + i) + 1)), .val (.int (Int32.ofNat len)), .val (.int (Int32.ofNat i + 1)), .val (.int (cv A (o + i)))] [])) := c8.trans (by
        refine iincV X7.here hexec rfl 1 (hb hbytes d32) (by decide) rfl rfl ?_
        refine iincV X7.here hexec rfl 1 (hb hbytes d35) (by decide) rfl rfl ?_
        refine iincV X7.here hexec rfl 1 (hb hbytes d38) (by decide) rfl rfl ?_
        refine XS.goto X7.here hexec rfl (pc0 := 41) rfl (hb hbytes d41) (by decide) rfl ?_
        exact Steps.refl _)
      have c10 : Steps p.tables e below (s₁.setTop (entryFrame m #[.ref b, .int (Int32.ofNat o), .ref d, .int (Int32.ofNat q), .int (Int32.ofNat len)] 7)) (T7.setTop (mkF m 3 #[.val (.ref b), .val (.int (Int32.ofNat (o + (i + 1)))), .val (.ref d), .val (.int (Int32.ofNat (q + (i + 1)))), .val (.int (Int32.ofNat len)), .val (.int (Int32.ofNat (i + 1))), .val (.int (cv A (o + i)))] [])) := by
        have := c9
        rw [succ32, succ32, succ32] at this
        exact this
      exact ih (i + 1) (by omega) _ (Or.inr ⟨_, rfl, rfl⟩) T7 _ (by rw [copyLocs_step, ← List.append_assoc]; exact X7) (pl.trans p7) (fl.step (by omega) hlt (by simp)) c10
  obtain ⟨T9, B9, z9, X9, p9, f9, g9⟩ := loop len 0 (by omega) .unset (Or.inl rfl) s₁ B (by simpa [copyLocs] using X0) ⟨hB0.1, fun _ _ => rfl, rfl⟩ (Laid.zero _ _ _) c2
  have c11 : Steps p.tables e below (s₁.setTop (entryFrame m #[.ref b, .int (Int32.ofNat o), .ref d, .int (Int32.ofNat q), .int (Int32.ofNat len)] 7)) (T9.setTop (mkF m 46 #[.val (.ref b), .val (.int (Int32.ofNat (o + len))), .val (.ref d), .val (.int (Int32.ofNat (q + len))), .val (.int (Int32.ofNat len)), .val (.int (Int32.ofNat len)), z9] [.int (Int32.ofNat len)])) := g9.trans (by
    refine XS.iload X9.here hexec rfl (hb hbytes d3) rfl ?_
    refine XS.iload X9.here hexec rfl (hb hbytes d5) rfl ?_
    refine XS.icmpYes X9.here hexec rfl (pc0 := 7) rfl (hb hbytes d7) rfl (ii_ge_t (nlt32 (by omega) (Nat.le_refl _))) (by decide) rfl ?_
    refine XS.iload X9.here hexec rfl (hb hbytes d44) rfl ?_
    exact Steps.refl _)
  exact ⟨T9, some (.int (Int32.ofNat len)), _, _, _, X9, by simp, rfl, rfl, (fun h => by cases h), ⟨rfl, B9, p9.from hh0, f9⟩, fun fs hl => c11.trans (X9.ireturnOut hexec hret rfl (Or.inl rfl) (hb hbytes d46) hl)⟩
end Cmp5
namespace Cmp3
def yN : MethodName := ⟨"java/lang/StringUTF16", "compress", "([CII)[B"⟩
abbrev yB : ByteArray := jdk_52_method_16_code
theorem d0 : decode yB 0 = .ok (.iload_n 2, 1) := by decide +kernel
theorem d1 : decode yB 1 = .ok (.newarray .byte, 2) := by decide +kernel
theorem d3 : decode yB 3 = .ok (.astore_n 3, 1) := by decide +kernel
theorem d4 : decode yB 4 = .ok (.aload_n 0, 1) := by decide +kernel
theorem d5 : decode yB 5 = .ok (.iload_n 1, 1) := by decide +kernel
theorem d6 : decode yB 6 = .ok (.aload_n 3, 1) := by decide +kernel
theorem d7 : decode yB 7 = .ok (.iconst 0, 1) := by decide +kernel
theorem d8 : decode yB 8 = .ok (.iload_n 2, 1) := by decide +kernel
theorem d9 : decode yB 9 = .ok (.invokestatic 115, 3) := by decide +kernel
theorem d12 : decode yB 12 = .ok (.istore 4, 2) := by decide +kernel
theorem d14 : decode yB 14 = .ok (.iload 4, 2) := by decide +kernel
theorem d16 : decode yB 16 = .ok (.iload_n 2, 1) := by decide +kernel
theorem d17 : decode yB 17 = .ok (.if_icmp (.eq) 40, 3) := by decide +kernel
theorem d57 : decode yB 57 = .ok (.aload_n 3, 1) := by decide +kernel
theorem d58 : decode yB 58 = .ok (.areturn, 1) := by decide +kernel
def site : List Cond := [.arrayClass .byte, Cmp5.tab] ++ staticW U16 115 Cmp5.yN
def tab : Cond := tabOf yN yB 6 (some (.array .byte)) site
def P (b : Addr) (A : Cell) (o len : Nat) (args : Array Value) (s : State) : Prop := args = #[.ref b, .int (Int32.ofNat o), .int (Int32.ofNat len)] ∧ Ch b A s ∧ o + len ≤ A.slots.size ∧ len ≤ 536870912 ∧ ∀ i, i < len → ¬ 255 < cv A (o + i)
def E (b : Addr) (A : Cell) (o len : Nat) (r : Option Value) (s u : State) : Prop := NewArr .byte "[B" len (fun j => .int (lo8 (cv A (o + j)))) r s u ∧ u.heap.size = s.heap.size + 1
/-- no char of the range above 255: a new byte[] of their low bytes -/
theorem law (l : Launch) (b : Addr) (A : Cell) (o len : Nat) : Law l yN 3 3 1 18 yB 6 (some (.array .byte)) site (P b A o len) (E b A o len) [] 1 len := by
  refine Law.of_walk (plainFor_of_name (by decide +kernel)) (by decide +kernel) (by decide +kernel) (by decide) (fun _ _ h => by rw [h.1]; rfl) (fun _ U U' hal hh h => ⟨h.1, h.2.1.mv hal hh, h.2.2⟩) (fun r U U' V V' h1 hal h2 h => ⟨NewArr.mv r U U' V V' h1 hal h2 h.1, by rw [h1, h2]; exact h.2⟩) ?_
  intro p e s m args below meth c s₁ X0 hexec hbytes hml hret hlk hnm hown hh0 W hP
  obtain ⟨rfl, hA, l1, l2, hp⟩ := hP
  have a31 := hA.1.2.2.2
  have c1 : Steps p.tables e below (s₁.setTop (entryFrame m #[.ref b, .int (Int32.ofNat o), .int (Int32.ofNat len)] 6)) (s₁.setTop (mkF m 0 #[.val (.ref b), .val (.int (Int32.ofNat o)), .val (.int (Int32.ofNat len)), .unset, .unset, .unset] [])) := entry rfl
  have c2 : Steps p.tables e below (s₁.setTop (entryFrame m #[.ref b, .int (Int32.ofNat o), .int (Int32.ofNat len)] 6)) (s₁.setTop (mkF m 1 #[.val (.ref b), .val (.int (Int32.ofNat o)), .val (.int (Int32.ofNat len)), .unset, .unset, .unset] [.int (Int32.ofNat len)])) := c1.trans (by
    refine XS.iloadN X0.here hexec rfl (hb hbytes d0) rfl ?_
    exact Steps.refl _)
  obtain ⟨T3, B3, X3, ba3, bs3, bv3, bh3, bf3, st3⟩ := X0.anew hexec (atype := .byte) (wk W (.arrayClass .byte)) rfl (by show len * 1 ≤ _; omega) (by omega) (g := (mkF m 1 #[.val (.ref b), .val (.int (Int32.ofNat o)), .val (.int (Int32.ofNat len)), .unset, .unset, .unset] [.int (Int32.ofNat len)])) rfl (hb hbytes d1) (rest := []) rfl (Nat.le_refl _) (by show 0 + len ≤ len; omega)
  rw [hh0] at ba3 st3
  have kp3 : XT.Kept s T3 := (XT.Kept.of_eq hh0).push bh3
  have hA3 := hA.keep X3.warmed.alike (kp3 _ _ hA.1.1)
  have hne : b ≠ s.heap.size := hA.1.ne
  have c4 : Steps p.tables e below (s₁.setTop (entryFrame m #[.ref b, .int (Int32.ofNat o), .int (Int32.ofNat len)] 6)) (T3.setTop (mkF m 3 #[.val (.ref b), .val (.int (Int32.ofNat o)), .val (.int (Int32.ofNat len)), .unset, .unset, .unset] [.ref s.heap.size])) := c2.trans (st3 _ (Steps.refl _))
  have c5 : Steps p.tables e below (s₁.setTop (entryFrame m #[.ref b, .int (Int32.ofNat o), .int (Int32.ofNat len)] 6)) (T3.setTop (mkF m 9 #[.val (.ref b), .val (.int (Int32.ofNat o)), .val (.int (Int32.ofNat len)), .val (.ref s.heap.size), .unset, .unset] [.int (Int32.ofNat len), .int 0, .ref s.heap.size, .int (Int32.ofNat o), .ref b])) := c4.trans (by
    refine XS.astoreN X3.here hexec rfl (hb hbytes d3) rfl rfl rfl ?_
    refine XS.aloadN X3.here hexec rfl (hb hbytes d4) rfl rfl ?_
    refine XS.iloadN X3.here hexec rfl (hb hbytes d5) rfl ?_
    refine XS.aloadN X3.here hexec rfl (hb hbytes d6) rfl rfl ?_
    refine iconstV X3.here hexec rfl 0 (hb hbytes d7) (by decide) ?_
    refine XS.iloadN X3.here hexec rfl (hb hbytes d8) rfl ?_
    exact Steps.refl _)
  obtain ⟨v6, T6, X6, E6, g6⟩ := X3.callS hexec (Cmp5.law l b A s.heap.size B3 o 0 len) hown (wks W (staticW U16 115 Cmp5.yN)) (wk W Cmp5.tab) (W := 0) (Nat.le_of_ble_eq_true rfl) (Nat.le_of_ble_eq_true rfl) (Nat.le_refl _) (by show 0 + len + 0 ≤ len; omega) (g := (mkF m 9 #[.val (.ref b), .val (.int (Int32.ofNat o)), .val (.int (Int32.ofNat len)), .val (.ref s.heap.size), .unset, .unset] [.int (Int32.ofNat len), .int (Int32.ofNat 0), .ref s.heap.size, .int (Int32.ofNat o), .ref b])) rfl (by rw [hml]; rfl) c5 (argsL := [.ref b, .int (Int32.ofNat o), .ref s.heap.size, .int (Int32.ofNat 0), .int (Int32.ofNat len)]) (rest := []) rfl rfl (by show 2 * 0 + 0 ≤ _; decide) (hb hbytes d9) (⟨rfl, hA3, ba3, hne, l1, by rw [bs3]; simp, hp⟩)
  obtain ⟨rfl, B6, p6, f6⟩ := E6
  have c7 : Steps p.tables e below (s₁.setTop (entryFrame m #[.ref b, .int (Int32.ofNat o), .int (Int32.ofNat len)] 6)) (T6.setTop (mkF m 12 #[.val (.ref b), .val (.int (Int32.ofNat o)), .val (.int (Int32.ofNat len)), .val (.ref s.heap.size), .unset, .unset] [.int (Int32.ofNat len)])) := g6
  have c8 : Steps p.tables e below (s₁.setTop (entryFrame m #[.ref b, .int (Int32.ofNat o), .int (Int32.ofNat len)] 6)) (T6.setTop (mkF m 58 #[.val (.ref b), .val (.int (Int32.ofNat o)), .val (.int (Int32.ofNat len)), .val (.ref s.heap.size), .val (.int (Int32.ofNat len)), .unset] [.ref s.heap.size])) := c7.trans (by
    refine XS.istore X6.here hexec rfl (hb hbytes d12) rfl rfl ?_
    refine XS.iload X6.here hexec rfl (hb hbytes d14) rfl ?_
    refine XS.iloadN X6.here hexec rfl (hb hbytes d16) rfl ?_
    refine XS.icmpYes X6.here hexec rfl (pc0 := 17) rfl (hb hbytes d17) rfl (ii_eq_t rfl) (by decide) rfl ?_
    refine XS.aloadN X6.here hexec rfl (hb hbytes d57) rfl rfl ?_
    exact Steps.refl _)
  have X8 := X6.wide (L' := []) (cells' := 1) (slots' := len) (fun x hx hlt => by
    simp only [List.nil_append, copyLocs, List.mem_map, List.mem_range] at hx
    obtain ⟨i, -, rfl⟩ := hx
    exact absurd hlt (Nat.lt_irrefl _)) (Nat.le_refl _) (by omega)
  exact ⟨T6, some (.ref s.heap.size), _, _, _, X8, rfl, rfl, rfl, (fun h => by cases h), ⟨⟨rfl, B6, ba3.like (X3.warmed.alike.symm.trans X6.warmed.alike) p6.1 f6.1 f6.2.1 f6.2.2.1, f6.2.1.trans bv3, by rw [X6.warmed.alike.findClass, f6.1]; exact bf3, by rw [f6.2.2.1, bs3]; simp, fun j hj => by rw [f6.2.2.2 j, if_pos (by omega)]; rfl, kp3.put p6 (Nat.le_refl _)⟩, by rw [p6.2.2, bh3, hh0]; simp⟩, fun fs hl => c8.trans (X8.areturnOut hexec rfl hret rfl (hb hbytes d58) hl)⟩
end Cmp3
namespace CodL
def yN : MethodName := ⟨"java/lang/StringUTF16", "coderFromArrayLen", "([BI)B"⟩
abbrev yB : ByteArray := jdk_52_method_15_code
theorem d0 : decode yB 0 = .ok (.iload_n 1, 1) := by decide +kernel
theorem d1 : decode yB 1 = .ok (.aload_n 0, 1) := by decide +kernel
theorem d2 : decode yB 2 = .ok (.arraylength, 1) := by decide +kernel
theorem d3 : decode yB 3 = .ok (.isub, 1) := by decide +kernel
theorem d4 : decode yB 4 = .ok (.bipush 31, 2) := by decide +kernel
theorem d6 : decode yB 6 = .ok (.iushr, 1) := by decide +kernel
theorem d7 : decode yB 7 = .ok (.i2b, 1) := by decide +kernel
theorem d8 : decode yB 8 = .ok (.ireturn, 1) := by decide +kernel
def site : List Cond := []
def tab : Cond := tabOf yN yB 2 (some .byte) site
def P (d : Addr) (B : Cell) (args : Array Value) (s : State) : Prop := args = #[.ref d, .int (Int32.ofNat B.slots.size)] ∧ Arr .byte d B s
def E (r : Option Value) (s u : State) : Prop := XT.PureE (some (.int 0)) r s u
/-- an array as long as the number of chars: LATIN1 -/
theorem law (l : Launch) (d : Addr) (B : Cell) : Law l yN 2 2 0 0 yB 2 (some .byte) site (P d B) E [] 0 0 := by
  refine Law.of_walk (plainFor_of_name (by decide +kernel)) (by decide +kernel) (by decide +kernel) (by decide) (fun _ _ h => by rw [h.1]; rfl) (fun _ U U' hal hh h => ⟨h.1, h.2.mv hal hh⟩) (fun r U U' V V' h1 hal h2 h => XT.PureE.mv r U U' V V' h1 hal h2 h) ?_
  intro p e s m args below meth c s₁ X0 hexec hbytes hml hret hlk hnm hown hh0 W hP
  obtain ⟨rfl, hB⟩ := hP
  have hB0 := hB.mv X0.warmed.alike hh0
  have c1 : Steps p.tables e below (s₁.setTop (entryFrame m #[.ref d, .int (Int32.ofNat B.slots.size)] 2)) (s₁.setTop (mkF m 0 #[.val (.ref d), .val (.int (Int32.ofNat B.slots.size))] [])) := entry rfl
  have c2 : Steps p.tables e below (s₁.setTop (entryFrame m #[.ref d, .int (Int32.ofNat B.slots.size)] 2)) (s₁.setTop (mkF m 2 #[.val (.ref d), .val (.int (Int32.ofNat B.slots.size))] [.ref d, .int (Int32.ofNat B.slots.size)])) := c1.trans (by
    refine XS.iloadN X0.here hexec rfl (hb hbytes d0) rfl ?_
    refine XS.aloadN X0.here hexec rfl (hb hbytes d1) rfl rfl ?_
    exact Steps.refl _)
  have c3 : Steps p.tables e below (s₁.setTop (entryFrame m #[.ref d, .int (Int32.ofNat B.slots.size)] 2)) (s₁.setTop (mkF m 8 #[.val (.ref d), .val (.int (Int32.ofNat B.slots.size))] [.int (lo8 (ushr (Int32.ofNat B.slots.size - Int32.ofNat B.slots.size) 31))])) := c2.trans (by
    refine X0.alen hexec hB0 rfl rfl (hb hbytes d2) ?_
    refine XS.isub X0.here hexec rfl (hb hbytes d3) rfl ?_
    refine bipushV X0.here hexec rfl 31 (hb hbytes d4) (by decide) ?_
    refine iushr X0.here hexec rfl (hb hbytes d6) rfl ?_
    refine i2b X0.here hexec rfl (hb hbytes d7) rfl ?_
    exact Steps.refl _)
  have e0 : lo8 (ushr (Int32.ofNat B.slots.size - Int32.ofNat B.slots.size) 31) = 0 := by rw [Int32.sub_self]; decide
  rw [e0] at c3
  exact ⟨s₁, some (.int 0), _, _, _, X0, rfl, rfl, rfl, (fun h => by cases h), ⟨rfl, hh0⟩, fun fs hl => c3.trans (X0.ireturnOut hexec hret rfl (Or.inr (Or.inr (Or.inl rfl))) (hb hbytes d8) hl)⟩
end CodL
/-- the String at a is Latin-1 over a new byte[] (the heap's one new cell): the low bytes of the len chars of A from o on; every cell but a is kept -/
def Got (a : Addr) (D : Cell) (fV fC : Field) (A : Cell) (o len : Nat) (r : Option Value) (s u : State) : Prop := r = none ∧ ∃ D' V : Cell, Blank "java/lang/String" a D' u ∧ Same D D' [fV.slot, fC.slot] ∧ D'.slots[fV.slot]? = some (.ref s.heap.size) ∧ D'.slots[fC.slot]? = some (.int 0) ∧ Arr .byte s.heap.size V u ∧ V.vm = .none ∧ u.vm.findClass "[B" = some V.cls ∧ V.slots.size = len ∧ (∀ j, j < len → V.slots[j]? = some (.int (lo8 (cv A (o + j))))) ∧ (∀ (y : Addr) (c : Cell), y ≠ a → s.heap[y]? = some c → u.heap[y]? = some c) ∧ u.heap.size = s.heap.size + 1
theorem Got.mv {a : Addr} {D A : Cell} {fV fC : Field} {o len : Nat} : ∀ r (U U' V V' : State), U'.heap = U.heap → V.vm.Alike V'.vm → V'.heap = V.heap → Got a D fV fC A o len r U V → Got a D fV fC A o len r U' V' :=
  fun r U U' V V' h1 hal h2 ⟨e0, D', X, a1, a2, a3, a4, a5, a6, a7, a8, a9, a10, a11⟩ => ⟨e0, D', X, a1.mv hal h2, a2, by rw [h1]; exact a3, a4, by rw [h1]; exact a5.mv hal h2, a6, by rw [hal.findClass]; exact a7, a8, a9, by rw [h1, h2]; exact a10, by rw [h1, h2]; exact a11⟩
namespace New4
def yN : MethodName := ⟨"java/lang/String", "<init>", "([CIILjava/lang/Void;)V"⟩
abbrev yB : ByteArray := jdk_42_method_149_code
theorem d0 : decode yB 0 = .ok (.aload_n 0, 1) := by decide +kernel
theorem d1 : decode yB 1 = .ok (.invokespecial 1, 3) := by decide +kernel
theorem d4 : decode yB 4 = .ok (.iload_n 3, 1) := by decide +kernel
theorem d5 : decode yB 5 = .ok (.ifCond (.ne) 22, 3) := by decide +kernel
theorem d27 : decode yB 27 = .ok (.getstatic 38, 3) := by decide +kernel
theorem d30 : decode yB 30 = .ok (.ifCond (.eq) 28, 3) := by decide +kernel
theorem d33 : decode yB 33 = .ok (.aload_n 1, 1) := by decide +kernel
theorem d34 : decode yB 34 = .ok (.iload_n 2, 1) := by decide +kernel
theorem d35 : decode yB 35 = .ok (.iload_n 3, 1) := by decide +kernel
theorem d36 : decode yB 36 = .ok (.invokestatic 177, 3) := by decide +kernel
theorem d39 : decode yB 39 = .ok (.astore 5, 2) := by decide +kernel
theorem d41 : decode yB 41 = .ok (.aload_n 0, 1) := by decide +kernel
theorem d42 : decode yB 42 = .ok (.aload 5, 2) := by decide +kernel
theorem d44 : decode yB 44 = .ok (.iload_n 3, 1) := by decide +kernel
theorem d45 : decode yB 45 = .ok (.invokestatic 47, 3) := by decide +kernel
theorem d48 : decode yB 48 = .ok (.putfield 15, 3) := by decide +kernel
theorem d51 : decode yB 51 = .ok (.aload_n 0, 1) := by decide +kernel
theorem d52 : decode yB 52 = .ok (.aload 5, 2) := by decide +kernel
theorem d54 : decode yB 54 = .ok (.putfield 9, 3) := by decide +kernel
theorem d57 : decode yB 57 = .ok (.return_, 1) := by decide +kernel
def site : List Cond := [.fieldLink "java/lang/String" 38 "java/lang/String" "COMPACT_STRINGS" "Z", Cmp3.tab, CodL.tab, .laysFinal "java/lang/String" "java/lang/String" "value" "[B", .fieldLink "java/lang/String" 9 "java/lang/String" "value" "[B", .laysFinal "java/lang/String" "java/lang/String" "coder" "B", .fieldLink "java/lang/String" 15 "java/lang/String" "coder" "B"] ++ objW "java/lang/String" 1 ++ staticW "java/lang/String" 177 Cmp3.yN ++ staticW "java/lang/String" 47 CodL.yN
def tab : Cond := tabOf yN yB 6 none site
def P (a : Addr) (D : Cell) (fV fC : Field) (b : Addr) (A : Cell) (z : Int32) (o len : Nat) (args : Array Value) (s : State) : Prop := args = #[.ref a, .ref b, .int (Int32.ofNat o), .int (Int32.ofNat len), .null] ∧ Blank "java/lang/String" a D s ∧ Found "java/lang/String" "value" "[B" fV s ∧ Found "java/lang/String" "coder" "B" fC s ∧ Ch b A s ∧ StaticIs s "java/lang/String" "COMPACT_STRINGS" "Z" (.int z) ∧ ¬ z = 0 ∧ 0 < len ∧ o + len ≤ A.slots.size ∧ len ≤ 536870912 ∧ ∀ i, i < len → ¬ 255 < cv A (o + i)
def E (a : Addr) (D : Cell) (fV fC : Field) (A : Cell) (o len : Nat) (r : Option Value) (s u : State) : Prop := Got a D fV fC A o len r s u
/-- len > 0, no char of the range above 255: a Latin-1 String of their low bytes -/
theorem law (l : Launch) (a : Addr) (D : Cell) (fV fC : Field) (b : Addr) (A : Cell) (z : Int32) (o len : Nat) : Law l yN 5 4 2 35 yB 6 none site (P a D fV fC b A z o len) (E a D fV fC A o len) [⟨a, fC.slot⟩, ⟨a, fV.slot⟩] 1 len := by
  refine Law.of_walk (plainFor_of_name (by decide +kernel)) (by decide +kernel) (by decide +kernel) (by decide) (fun _ _ h => by rw [h.1]; rfl) (fun _ U U' hal hh h => ⟨h.1, h.2.1.mv hal hh, h.2.2.1.al hal, h.2.2.2.1.al hal, h.2.2.2.2.1.mv hal hh, h.2.2.2.2.2.1.there hal hh, h.2.2.2.2.2.2⟩) (fun r U U' V V' h1 hal h2 h => Got.mv r U U' V V' h1 hal h2 h) ?_
  intro p e s m args below meth c s₁ X0 hexec hbytes hml hret hlk hnm hown hh0 W hP
  obtain ⟨rfl, hB, f1, f2, hA, s1, hz, l0, l1, l2, hp⟩ := hP
  have a31 := hA.1.2.2.2
  have c1 : Steps p.tables e below (s₁.setTop (entryFrame m #[.ref a, .ref b, .int (Int32.ofNat o), .int (Int32.ofNat len), .null] 6)) (s₁.setTop (mkF m 0 #[.val (.ref a), .val (.ref b), .val (.int (Int32.ofNat o)), .val (.int (Int32.ofNat len)), .val .null, .unset] [])) := entry rfl
  have c2 : Steps p.tables e below (s₁.setTop (entryFrame m #[.ref a, .ref b, .int (Int32.ofNat o), .int (Int32.ofNat len), .null] 6)) (s₁.setTop (mkF m 1 #[.val (.ref a), .val (.ref b), .val (.int (Int32.ofNat o)), .val (.int (Int32.ofNat len)), .val .null, .unset] [.ref a])) := c1.trans (by
    refine XS.aloadN X0.here hexec rfl (hb hbytes d0) rfl rfl ?_
    exact Steps.refl _)
  obtain ⟨T3, X3, q3, st3⟩ := X0.oinit hexec hown (wks W (objW "java/lang/String" 1)) (g := (mkF m 1 #[.val (.ref a), .val (.ref b), .val (.int (Int32.ofNat o)), .val (.int (Int32.ofNat len)), .val .null, .unset] [.ref a])) rfl (by rw [hml]; rfl) (rest := []) rfl (hb hbytes d1) (W := 0) (by show 2 * 0 + 0 ≤ _; decide) (Nat.le_of_ble_eq_true rfl) (Nat.le_of_ble_eq_true rfl)
  have hh3 := q3.trans hh0
  have c4 : Steps p.tables e below (s₁.setTop (entryFrame m #[.ref a, .ref b, .int (Int32.ofNat o), .int (Int32.ofNat len), .null] 6)) (T3.setTop (mkF m 27 #[.val (.ref a), .val (.ref b), .val (.int (Int32.ofNat o)), .val (.int (Int32.ofNat len)), .val .null, .unset] [])) := (c2.trans (st3 _ (Steps.refl _))).trans (by
    refine XS.iloadN X3.here hexec rfl (hb hbytes d4) rfl ?_
    refine XS.ifYes X3.here hexec rfl (pc0 := 5) rfl (hb hbytes d5) rfl (i0_ne_t (nz32 (by omega) l0)) (by decide) rfl ?_
    exact Steps.refl _)
  obtain ⟨T5, X5, q5, st5⟩ := X3.sget hexec hown (wk W (.fieldLink "java/lang/String" 38 "java/lang/String" "COMPACT_STRINGS" "Z")) s1 (fun _ _ h => by rw [hh3]; exact h) (g := (mkF m 27 #[.val (.ref a), .val (.ref b), .val (.int (Int32.ofNat o)), .val (.int (Int32.ofNat len)), .val .null, .unset] [])) rfl (hb hbytes d27)
  have hh5 := q5.trans hh3
  have c6 : Steps p.tables e below (s₁.setTop (entryFrame m #[.ref a, .ref b, .int (Int32.ofNat o), .int (Int32.ofNat len), .null] 6)) (T5.setTop (mkF m 30 #[.val (.ref a), .val (.ref b), .val (.int (Int32.ofNat o)), .val (.int (Int32.ofNat len)), .val .null, .unset] [.int z])) := c4.trans (st5 _ (Steps.refl _))
  have c7 : Steps p.tables e below (s₁.setTop (entryFrame m #[.ref a, .ref b, .int (Int32.ofNat o), .int (Int32.ofNat len), .null] 6)) (T5.setTop (mkF m 36 #[.val (.ref a), .val (.ref b), .val (.int (Int32.ofNat o)), .val (.int (Int32.ofNat len)), .val .null, .unset] [.int (Int32.ofNat len), .int (Int32.ofNat o), .ref b])) := c6.trans (by
    refine XS.ifNo X5.here hexec rfl (hb hbytes d30) rfl (i0_eq_f hz) ?_
    refine XS.aloadN X5.here hexec rfl (hb hbytes d33) rfl rfl ?_
    refine XS.iloadN X5.here hexec rfl (hb hbytes d34) rfl ?_
    refine XS.iloadN X5.here hexec rfl (hb hbytes d35) rfl ?_
    exact Steps.refl _)
  obtain ⟨v8, T8, X8, E8, g8⟩ := X5.callS hexec (Cmp3.law l b A o len) hown (wks W (staticW "java/lang/String" 177 Cmp3.yN)) (wk W Cmp3.tab) (W := 0) (Nat.le_of_ble_eq_true rfl) (Nat.le_of_ble_eq_true rfl) (Nat.le_refl _) (by show 0 + len ≤ len; omega) (g := (mkF m 36 #[.val (.ref a), .val (.ref b), .val (.int (Int32.ofNat o)), .val (.int (Int32.ofNat len)), .val .null, .unset] [.int (Int32.ofNat len), .int (Int32.ofNat o), .ref b])) rfl (by rw [hml]; rfl) c7 (argsL := [.ref b, .int (Int32.ofNat o), .int (Int32.ofNat len)]) (rest := []) rfl rfl (by show 2 * 0 + 0 ≤ _; decide) (hb hbytes d36) (⟨rfl, hA.mv X5.warmed.alike hh5, l1, l2, hp⟩)
  obtain ⟨e8, z8⟩ := E8
  obtain ⟨rfl, N, n1, n2, n3, n4, n5, n6⟩ := NewArr.mv _ T5 s _ _ hh5.symm (Vm.Alike.refl _) rfl e8
  rw [hh5] at z8
  have hB1 := hB.keep X8.warmed.alike (n6 _ _ hB.1)
  have hne : s.heap.size ≠ a := (Nat.ne_of_lt (Array.getElem?_eq_some_iff.mp hB.1).1).symm
  have c9 : Steps p.tables e below (s₁.setTop (entryFrame m #[.ref a, .ref b, .int (Int32.ofNat o), .int (Int32.ofNat len), .null] 6)) (T8.setTop (mkF m 39 #[.val (.ref a), .val (.ref b), .val (.int (Int32.ofNat o)), .val (.int (Int32.ofNat len)), .val .null, .unset] [.ref s.heap.size])) := g8
  have c10 : Steps p.tables e below (s₁.setTop (entryFrame m #[.ref a, .ref b, .int (Int32.ofNat o), .int (Int32.ofNat len), .null] 6)) (T8.setTop (mkF m 45 #[.val (.ref a), .val (.ref b), .val (.int (Int32.ofNat o)), .val (.int (Int32.ofNat len)), .val .null, .val (.ref s.heap.size)] [.int (Int32.ofNat N.slots.size), .ref s.heap.size, .ref a])) := by
    have hc : Steps p.tables e below (s₁.setTop (entryFrame m #[.ref a, .ref b, .int (Int32.ofNat o), .int (Int32.ofNat len), .null] 6)) (T8.setTop (mkF m 45 #[.val (.ref a), .val (.ref b), .val (.int (Int32.ofNat o)), .val (.int (Int32.ofNat len)), .val .null, .val (.ref s.heap.size)] [.int (Int32.ofNat len), .ref s.heap.size, .ref a])) := c9.trans (by
      refine XS.astore X8.here hexec rfl (hb hbytes d39) rfl rfl rfl ?_
      refine XS.aloadN X8.here hexec rfl (hb hbytes d41) rfl rfl ?_
      refine XS.aload X8.here hexec rfl (hb hbytes d42) rfl rfl ?_
      refine XS.iloadN X8.here hexec rfl (hb hbytes d44) rfl ?_
      exact Steps.refl _)
    rw [n4]; exact hc
  obtain ⟨v11, T11, X11, E11, g11⟩ := X8.callS hexec (CodL.law l s.heap.size N) hown (wks W (staticW "java/lang/String" 47 CodL.yN)) (wk W CodL.tab) (W := 1) (Nat.le_of_ble_eq_true rfl) (Nat.le_of_ble_eq_true rfl) (Nat.le_refl _) (by show 0 + len + 0 ≤ len; omega) (g := (mkF m 45 #[.val (.ref a), .val (.ref b), .val (.int (Int32.ofNat o)), .val (.int (Int32.ofNat len)), .val .null, .val (.ref s.heap.size)] [.int (Int32.ofNat N.slots.size), .ref s.heap.size, .ref a])) rfl (by rw [hml]; rfl) c10 (argsL := [.ref s.heap.size, .int (Int32.ofNat N.slots.size)]) (rest := [.ref a]) rfl rfl (by show 2 * 0 + (1 + 0) ≤ _; decide) (hb hbytes d45) (⟨rfl, n1⟩)
  obtain ⟨rfl, q11⟩ := E11
  have hB11 := hB1.mv (X8.warmed.alike.symm.trans X11.warmed.alike) q11
  have c12 : Steps p.tables e below (s₁.setTop (entryFrame m #[.ref a, .ref b, .int (Int32.ofNat o), .int (Int32.ofNat len), .null] 6)) (T11.setTop (mkF m 48 #[.val (.ref a), .val (.ref b), .val (.int (Int32.ofNat o)), .val (.int (Int32.ofNat len)), .val .null, .val (.ref s.heap.size)] [.int 0, .ref a])) := g11
  obtain ⟨T13, X13, p13, bl13, sl13, st13⟩ := X11.finit hexec hown (wk W (.fieldLink "java/lang/String" 15 "java/lang/String" "coder" "B")) (Or.inr ⟨_, (wk W (.laysFinal "java/lang/String" "java/lang/String" "coder" "B"))⟩) (Or.inl ⟨rfl, hnm⟩) f2 (Or.inl rfl) hB11 (t := .byte) (by decide +kernel) rfl (g := (mkF m 48 #[.val (.ref a), .val (.ref b), .val (.int (Int32.ofNat o)), .val (.int (Int32.ofNat len)), .val .null, .val (.ref s.heap.size)] [.int 0, .ref a])) rfl (rest := []) rfl (hb hbytes d48)
  have c14 : Steps p.tables e below (s₁.setTop (entryFrame m #[.ref a, .ref b, .int (Int32.ofNat o), .int (Int32.ofNat len), .null] 6)) (T13.setTop (mkF m 54 #[.val (.ref a), .val (.ref b), .val (.int (Int32.ofNat o)), .val (.int (Int32.ofNat len)), .val .null, .val (.ref s.heap.size)] [.ref s.heap.size, .ref a])) := (c12.trans (st13 _ (Steps.refl _))).trans (by
    refine XS.aloadN X13.here hexec rfl (hb hbytes d51) rfl rfl ?_
    refine XS.aload X13.here hexec rfl (hb hbytes d52) rfl rfl ?_
    exact Steps.refl _)
  obtain ⟨T15, X15, p15, bl15, sl15, st15⟩ := X13.finit hexec hown (wk W (.fieldLink "java/lang/String" 9 "java/lang/String" "value" "[B")) (Or.inr ⟨_, (wk W (.laysFinal "java/lang/String" "java/lang/String" "value" "[B"))⟩) (Or.inl ⟨rfl, hnm⟩) f1 (Or.inl rfl) bl13 (t := (.array .byte)) (by decide +kernel) rfl (g := (mkF m 54 #[.val (.ref a), .val (.ref b), .val (.int (Int32.ofNat o)), .val (.int (Int32.ofNat len)), .val .null, .val (.ref s.heap.size)] [.ref s.heap.size, .ref a])) rfl (rest := []) rfl (hb hbytes d54)
  have c16 : Steps p.tables e below (s₁.setTop (entryFrame m #[.ref a, .ref b, .int (Int32.ofNat o), .int (Int32.ofNat len), .null] 6)) (T15.setTop (mkF m 57 #[.val (.ref a), .val (.ref b), .val (.int (Int32.ofNat o)), .val (.int (Int32.ofNat len)), .val .null, .val (.ref s.heap.size)] [])) := c14.trans (st15 _ (Steps.refl _))
  have ap := apart (Or.inr ⟨_, (wk W (.laysFinal "java/lang/String" "java/lang/String" "value" "[B"))⟩) (Or.inr ⟨_, (wk W (.laysFinal "java/lang/String" "java/lang/String" "coder" "B"))⟩) f1 f2 (t₁ := .array .byte) (t₂ := .byte) (by decide +kernel) (by decide +kernel) (by decide)
  have al := X8.warmed.alike.symm.trans X15.warmed.alike
  have n7 : T11.heap[s.heap.size]? = some N := by rw [q11]; exact n1.1
  exact ⟨T15, none, _, _, _, X15, by simp, rfl, by omega, (fun _ => rfl), ⟨rfl, _, N, bl15, ((Same.refl D _).set _ (by simp)).set _ (by simp), sl15, (Cell.slots_setSlot_ne _ ap).trans sl13, n1.keep al (p15.other hne (p13.other hne n7)), n2, by rw [al.findClass]; exact n3, n4, n5, fun y c h1 h2 => p15.other h1 (p13.other h1 (by rw [q11]; exact n6 y c h2)), by rw [p15.2.2, p13.2.2, q11]; exact z8⟩, fun fs hl => c16.trans (X15.returnOut hexec hret (hb hbytes d57) hl)⟩
end New4
namespace New1
def yN : MethodName := ⟨"java/lang/String", "<init>", "([C)V"⟩
abbrev yB : ByteArray := jdk_42_method_3_code
theorem d0 : decode yB 0 = .ok (.aload_n 0, 1) := by decide +kernel
theorem d1 : decode yB 1 = .ok (.aload_n 1, 1) := by decide +kernel
theorem d2 : decode yB 2 = .ok (.iconst 0, 1) := by decide +kernel
theorem d3 : decode yB 3 = .ok (.aload_n 1, 1) := by decide +kernel
theorem d4 : decode yB 4 = .ok (.arraylength, 1) := by decide +kernel
theorem d5 : decode yB 5 = .ok (.aconst_null, 1) := by decide +kernel
theorem d6 : decode yB 6 = .ok (.invokespecial 27, 3) := by decide +kernel
theorem d9 : decode yB 9 = .ok (.return_, 1) := by decide +kernel
def site : List Cond := [New4.tab] ++ initW "java/lang/String" 27 New4.yN
def tab : Cond := tabOf yN yB 2 none site
def P (a : Addr) (D : Cell) (fV fC : Field) (b : Addr) (A : Cell) (z : Int32) (args : Array Value) (s : State) : Prop := args = #[.ref a, .ref b] ∧ Blank "java/lang/String" a D s ∧ Found "java/lang/String" "value" "[B" fV s ∧ Found "java/lang/String" "coder" "B" fC s ∧ Ch b A s ∧ StaticIs s "java/lang/String" "COMPACT_STRINGS" "Z" (.int z) ∧ ¬ z = 0 ∧ 0 < A.slots.size ∧ A.slots.size ≤ 536870912 ∧ ∀ i, i < A.slots.size → ¬ 255 < cv A i
def E (a : Addr) (D : Cell) (fV fC : Field) (A : Cell) (r : Option Value) (s u : State) : Prop := Got a D fV fC A 0 A.slots.size r s u
/-- new String(chars), not empty, no char above 255: a Latin-1 String of their low bytes -/
theorem law (l : Launch) (a : Addr) (D : Cell) (fV fC : Field) (b : Addr) (A : Cell) (z : Int32) : Law l yN 2 1 3 52 yB 2 none site (P a D fV fC b A z) (E a D fV fC A) [⟨a, fC.slot⟩, ⟨a, fV.slot⟩] 1 A.slots.size := by
  refine Law.of_walk (plainFor_of_name (by decide +kernel)) (by decide +kernel) (by decide +kernel) (by decide) (fun _ _ h => by rw [h.1]; rfl) (fun _ U U' hal hh h => ⟨h.1, h.2.1.mv hal hh, h.2.2.1.al hal, h.2.2.2.1.al hal, h.2.2.2.2.1.mv hal hh, h.2.2.2.2.2.1.there hal hh, h.2.2.2.2.2.2⟩) (fun r U U' V V' h1 hal h2 h => Got.mv r U U' V V' h1 hal h2 h) ?_
  intro p e s m args below meth c s₁ X0 hexec hbytes hml hret hlk hnm hown hh0 W hP
  obtain ⟨rfl, hB, f1, f2, hA, s1, hz, l0, l2, hp⟩ := hP
  have c1 : Steps p.tables e below (s₁.setTop (entryFrame m #[.ref a, .ref b] 2)) (s₁.setTop (mkF m 0 #[.val (.ref a), .val (.ref b)] [])) := entry rfl
  have c2 : Steps p.tables e below (s₁.setTop (entryFrame m #[.ref a, .ref b] 2)) (s₁.setTop (mkF m 6 #[.val (.ref a), .val (.ref b)] [.null, .int (Int32.ofNat A.slots.size), .int 0, .ref b, .ref a])) := c1.trans (by
    refine XS.aloadN X0.here hexec rfl (hb hbytes d0) rfl rfl ?_
    refine XS.aloadN X0.here hexec rfl (hb hbytes d1) rfl rfl ?_
    refine iconstV X0.here hexec rfl 0 (hb hbytes d2) (by decide) ?_
    refine XS.aloadN X0.here hexec rfl (hb hbytes d3) rfl rfl ?_
    refine X0.alen hexec (hA.1.mv X0.warmed.alike hh0) rfl rfl (hb hbytes d4) ?_
    refine XS.aconstNull X0.here hexec rfl (hb hbytes d5) ?_
    exact Steps.refl _)
  obtain ⟨v3, T3, X3, E3, g3⟩ := X0.callN hexec (New4.law l a D fV fC b A z 0 A.slots.size) rfl hown (wks W (initW "java/lang/String" 27 New4.yN)) (W New4.tab (by simp only [site, List.mem_cons, List.mem_append, true_or, or_true])) (W := 0) (Nat.le_of_ble_eq_true rfl) (Nat.le_of_ble_eq_true rfl) (Nat.le_refl _) (by show 0 + A.slots.size ≤ A.slots.size; omega) (g := (mkF m 6 #[.val (.ref a), .val (.ref b)] [.null, .int (Int32.ofNat A.slots.size), .int (Int32.ofNat 0), .ref b, .ref a])) rfl (by rw [hml]; rfl) c2 (argsL := [.ref b, .int (Int32.ofNat 0), .int (Int32.ofNat A.slots.size), .null]) (rest := []) rfl rfl (by show 2 * 0 + 0 ≤ _; decide) (hb hbytes d6) (⟨rfl, hB.mv X0.warmed.alike hh0, f1.al X0.warmed.alike, f2.al X0.warmed.alike, hA.mv X0.warmed.alike hh0, s1.there X0.warmed.alike hh0, hz, l0, by omega, l2, fun i hi => by rw [Nat.zero_add]; exact hp i hi⟩)
  have e0 := Got.mv _ s₁ s _ _ hh0.symm (Vm.Alike.refl _) rfl E3
  obtain rfl := e0.1
  have c4 : Steps p.tables e below (s₁.setTop (entryFrame m #[.ref a, .ref b] 2)) (T3.setTop (mkF m 9 #[.val (.ref a), .val (.ref b)] [])) := g3
  exact ⟨T3, none, _, _, _, X3, by simp, rfl, by omega, (fun _ => rfl), e0, fun fs hl => c4.trans (X3.returnOut hexec hret (hb hbytes d9) hl)⟩
theorem pays {l : Launch} {R : Room} {p : Program} {e : Env} {below : List Frame} {s : State} {sargs : Array Value} {len W : Nat} (a : Addr) (D : Cell) (fV fC : Field) (b : Addr) (A : Cell) (z : Int32) (htab : tab.before sargs s = true) (hfr : 4 ≤ R.frames) (hlo : W + 65 ≤ R.locals) :
    Back l R p e below s sargs yN len W (fun A₁ a₁ => A₁.cells + 1 ≤ R.cells ∧ A₁.slots + A.slots.size ≤ R.slots ∧ P a D fV fC b A z a₁ A₁.U) (fun A₁ _ v₁ B₁ => E a D fV fC A v₁ A₁.U B₁.U ∧ B₁.locs = A₁.locs ++ [⟨a, fC.slot⟩, ⟨a, fV.slot⟩] ∧ B₁.cells = A₁.cells + 1 ∧ B₁.slots = A₁.slots + A.slots.size) :=
  (law l a D fV fC b A z).pays htab hfr (by omega)
end New1
/-- the byte, read back as charAt reads it, is the char -/
theorem lo8_mask {x : Int32} (h0 : ¬ x < 0) (h1 : ¬ 255 < x) : lo8 x &&& 255 = x := by
  have t : ∀ k : Fin 256, lo8 (Int32.ofNat k.val) &&& 255 = Int32.ofNat k.val := by decide +kernel
  rw [Int32.lt_iff_toInt_lt] at h0 h1
  have e0 : (0 : Int32).toInt = 0 := rfl
  have e1 : (255 : Int32).toInt = 255 := rfl
  obtain ⟨k, hk⟩ : ∃ k : Nat, x.toInt = k := ⟨x.toInt.toNat, by omega⟩
  have hx : x = Int32.ofNat k := Int32.toInt_inj.mp (by rw [hk, Int32.toInt_ofNat_small (by omega)])
  rw [hx]
  exact t ⟨k, by omega⟩
end StrChars
namespace StrChars.Road
open Jvm Sem ClassFile Op Lib Jvm.Stand Jvm.Free Jvm.Free.XT
open Jvm.Lib.Cold (StaticIs)
abbrev ST : String := "java/lang/String"
/-- every table word that New1's law asks, flat -/
abbrev words : List Jvm.Cond := [.code New1.yN New1.yB 2 none, .initialized ST, .methodLink ST 27 New4.yN, .instanceMethod New4.yN,
  .code New4.yN New4.yB 6 none, .fieldLink ST 38 ST "COMPACT_STRINGS" "Z", .laysFinal ST ST "value" "[B", .fieldLink ST 9 ST "value" "[B", .laysFinal ST ST "coder" "B", .fieldLink ST 15 ST "coder" "B",
  .methodLink ST 1 Lib.objectInit, .instanceMethod Lib.objectInit, .code Lib.objectInit ⟨#[0xb1]⟩ 1 none, .methodLink ST 177 Cmp3.yN, .static Cmp3.yN, .methodLink ST 47 CodL.yN, .static CodL.yN,
  .code Cmp3.yN Cmp3.yB 6 (some (.array .byte)), .initialized U16, .arrayClass .byte, .methodLink U16 115 Cmp5.yN, .static Cmp5.yN, .code Cmp5.yN Cmp5.yB 7 (some .int), .code CodL.yN CodL.yB 2 (some .byte)]
theorem tab_of {a : Array Value} {s : State} (h : ∀ w ∈ words, w.before a s = true) : New1.tab.before a s = true := by
  have h5 : Cmp5.tab.before a s = true := unparts (wk h (.code Cmp5.yN Cmp5.yB 7 (some .int))) (wks h (.initialized Cmp5.yN.cls :: Cmp5.site))
  have hc : CodL.tab.before a s = true := unparts (wk h (.code CodL.yN CodL.yB 2 (some .byte))) (wks h (.initialized CodL.yN.cls :: CodL.site))
  have q5 : ∀ w ∈ Cmp5.tab :: words, w.before a s = true := fun w hw => (List.mem_cons.mp hw).elim (fun e => e ▸ h5) (h w)
  have h3 : Cmp3.tab.before a s = true := unparts (wk q5 (.code Cmp3.yN Cmp3.yB 6 (some (.array .byte)))) (wks q5 (.initialized Cmp3.yN.cls :: Cmp3.site))
  have q3 : ∀ w ∈ Cmp3.tab :: CodL.tab :: words, w.before a s = true := fun w hw => (List.mem_cons.mp hw).elim (fun e => e ▸ h3) fun hw => (List.mem_cons.mp hw).elim (fun e => e ▸ hc) (h w)
  have h4 : New4.tab.before a s = true := unparts (wk q3 (.code New4.yN New4.yB 6 none)) (wks q3 (.initialized New4.yN.cls :: New4.site))
  have q4 : ∀ w ∈ New4.tab :: words, w.before a s = true := fun w hw => (List.mem_cons.mp hw).elim (fun e => e ▸ h4) (h w)
  exact unparts (wk q4 (.code New1.yN New1.yB 2 none)) (wks q4 (.initialized New1.yN.cls :: New1.site))
/-- the words ride from the start Z to the walk's own state -/
theorem moved {Z s : State} {a0 args : Array Value} (hZ : Z.Warmed39 s.vm) (hw : ∀ d ∈ words, d.before a0 Z = true) : ∀ d ∈ words, d.before args s = true := fun d hd => by
  have q := hw d hd
  have t : ∀ d ∈ words, d = .arrayClass .byte ∨ (d.onTables && d.keepsFace) = true := by decide +kernel
  rcases t d hd with rfl | t
  · exact RoadKit.mvA hZ q
  · exact RoadKit.mv hZ q t
/-- WHAT COMES BACK, over the tables of the start Z: h the heap at the call, h' behind it -/
def Q (Z : State) (x : Addr) (A : Cell) (h : Heap) (v : Option Value) (h' : Heap) (L : List Loc) : Prop := v = none ∧ (∀ y ∈ L, y.base = x) ∧ RoadKit.Keep h h' [x] ∧ h'.size = h.size + 1 ∧ RoadKit.Exa Z h' x ST ∧ RoadKit.Fld Z h' x ST "value" "[B" (.ref h.size) ∧ RoadKit.Fld Z h' x ST "coder" "B" (.int 0) ∧
  (∃ V : Cell, RoadKit.Arr Z h' h.size V .byte ∧ V.vm = .none ∧ Z.vm.findClass "[B" = some V.cls ∧ V.slots.size = A.slots.size ∧ ∀ j, j < A.slots.size → V.slots[j]? = some (.int (lo8 (cv A j)))) ∧
  ∀ (O n d : String) (w : Value), RoadKit.Fld Z h x O n d w → RoadKit.slotOf Z O n d ≠ RoadKit.slotOf Z ST "value" "[B" → RoadKit.slotOf Z O n d ≠ RoadKit.slotOf Z ST "coder" "B" → RoadKit.Fld Z h' x O n d w
/-- **new String(chars) AT A CALL, IN THE ROAD'S FORM**: for specialBack behind newO: x the fresh String, b the char[] with the cell A -/
theorem back {p : Program} {l : Launch} {e : Env} {R : Room} {s : State} {args : Array Value} {below : List Frame} {len W : Nat} {Z : State} {a0 : Array Value} {h : Heap} (hZ : Z.Warmed39 s.vm) (hw : ∀ d ∈ words, d.before a0 Z = true) {kI : Nat} (wi : (Jvm.Cond.instantiable ST kI).before a0 Z = true)
    {x b : Addr} {A : Cell} {z : Int32} {v0 c0 : Value} (E : RoadKit.Exa Z h x ST) (V : RoadKit.Fld Z h x ST "value" "[B" v0) (C : RoadKit.Fld Z h x ST "coder" "B" c0) (K : RoadKit.Arr Z h b A .char) (hty : Typed .char A) (S : RoadKit.Sta Z h ST "COMPACT_STRINGS" "Z" (.int z)) (hz : ¬ z = 0)
    (l0 : 0 < A.slots.size) (l2 : A.slots.size ≤ 536870912) (hp : ∀ i, i < A.slots.size → ¬ 255 < cv A i) (hfr : 4 ≤ R.frames) (hlo : W + 65 ≤ R.locals) :
    Back l R p e below s args New1.yN len W (fun P a => a = #[.ref x, .ref b] ∧ P.U.heap = h ∧ P.cells + 1 ≤ R.cells ∧ P.slots + A.slots.size ≤ R.slots)
      (fun P _ v B => ∃ L, Q Z x A h v B.U.heap L ∧ B.locs = P.locs ++ L ∧ B.cells = P.cells + 1 ∧ B.slots = P.slots + A.slots.size) := by
  intro m meth c P g ig mk a X hg hsize hdg hW hn hp'
  obtain ⟨rfl, rfl, r1, r2⟩ := hp'
  have al : Z.vm.Alike P.U.vm := hZ.alike.trans X.warmed.alike
  obtain ⟨D, cfV, kV, iV, fV, hD, gV, stV, knV, obV, asV, slV⟩ := id V
  obtain ⟨D', cfC, kC, iC, fC, hD', gC, stC, -, -, asC, slC⟩ := id C
  cases hD.symm.trans hD'
  obtain ⟨D2, kD, e1, e2, e3, e4, e5⟩ := id E
  cases hD.symm.trans e1
  obtain ⟨c2, k2, i1, i2, i3, -⟩ := Cond.instantiable_spec wi
  cases e2.symm.trans i1
  cases e3.symm.trans i2
  obtain ⟨kU, u1, u2⟩ := al.2.2 _ _ e3
  have hB : Blank ST x D P.U := ⟨hD, ⟨knV, fun q hq => by rw [hq] at obV; cases obV⟩, by rw [al.findClass]; exact e2, kU, u1, by rw [u2]; exact i3, by rw [u2]; exact e5 i3⟩
  have F1 : Found ST "value" "[B" fV P.U := ⟨SBG.found_only al ⟨cfV, kV, iV, gV⟩, stV⟩
  have F2 : Found ST "coder" "B" fC P.U := ⟨SBG.found_only al ⟨cfC, kC, iC, gC⟩, stC⟩
  have hA : Ch b A P.U := ⟨⟨K.1, State.isArrayOf_alike al K.2.1, K.2.2, by omega⟩, hty⟩
  have hS : StaticIs P.U ST "COMPACT_STRINGS" "Z" (.int z) := by
    obtain ⟨cfS, iS, kS, fS, st, cS, t1, t2, t3, t4, t5, t6, t7⟩ := S
    exact StaticIs.there (s := { Z with heap := P.U.heap }) ⟨cfS, iS, kS, fS, st, cS, t1, t2, t3, t4, t5, (fun q => by rw [q] at t6; cases t6), t7⟩ al rfl
  obtain ⟨v, B, X', ⟨⟨hv, E', V', q1, q2, q3, q4, q5, q6, q7, q8, q9, q10, q11⟩, hl, hc, hs⟩, st⟩ := New1.pays x D fV fC b A z (tab_of (moved hZ hw)) hfr hlo m meth c P g ig mk _ X hg hsize hdg hW hn ⟨r1, r2, rfl, hB, F1, F2, hA, hS, hz, l0, l2, hp⟩
  have al' : Z.vm.Alike B.U.vm := hZ.alike.trans X'.warmed.alike
  have hsz : E'.slots.size = D.slots.size := by
    obtain ⟨-, -, -, kB, w1, w2, w3⟩ := q1
    obtain ⟨kB', y1, y2⟩ := al'.2.2 _ _ e3
    rw [q2.2.1] at w1
    cases w1.symm.trans y1
    rw [w3, e5 i3, y2]
  refine ⟨v, B, X', ⟨_, ⟨hv, ?_, ⟨by omega, fun y cy hy hn' => q10 y cy (by simpa using hn') hy, fun y cy hy => ?_⟩, q11, ⟨E', _, q1.1, by rw [q2.2.1]; exact e2, by rw [q2.2.1]; exact e3, by rw [q2.1]; exact obV, fun _ => by rw [hsz]; exact e5 i3⟩,
    ⟨E', cfV, kV, iV, fV, q1.1, gV, stV, by rw [q2.1]; exact knV, by rw [q2.1]; exact obV, by rw [q2.2.1]; exact asV, q3⟩, ⟨E', cfC, kC, iC, fC, q1.1, gC, stC, by rw [q2.1]; exact knV, by rw [q2.1]; exact obV, by rw [q2.2.1]; exact asC, q4⟩,
    ⟨V', ⟨q5.1, State.isArrayOf_alike al'.symm q5.2.1, q5.2.2.1⟩, q6, by rw [← al'.findClass]; exact q7, q8, fun j hj => by have := q9 j hj; rwa [Nat.zero_add] at this⟩, fun O n d w F n1 n2 => ?_⟩, hl, hc, hs⟩, st⟩
  · intro y hy
    simp only [List.mem_cons, List.not_mem_nil, or_false] at hy
    rcases hy with rfl | rfl <;> rfl
  · by_cases q : y = x
    · subst q
      cases hD.symm.trans hy
      exact ⟨E', q1.1, q2.2.1, q2.1, hsz⟩
    · exact ⟨cy, q10 y cy q hy, rfl, rfl, rfl⟩
  · obtain ⟨D3, cf, k, i, f, g1, g2, g3, g4, g5, g6, g7⟩ := F
    cases hD.symm.trans g1
    simp only [RoadKit.slotOf, g2, gV, gC, Option.map_some, Option.getD_some] at n1 n2
    exact ⟨E', cf, k, i, f, q1.1, g2, g3, by rw [q2.1]; exact g4, by rw [q2.1]; exact g5, by rw [q2.2.1]; exact g6, by rw [q2.2.2 f.slot (by simp [n1, n2])]; exact g7⟩
end StrChars.Road
namespace StrChars.Road
open Jvm Sem ClassFile Op Lib Jvm.Stand Jvm.Free Jvm.Free.XT
/-- WHAT COMES BACK, the byte[] as a list of values -/
def QA (Z : State) (x : Addr) (zn : Int32) (cs : List Int32) (h : Heap) (v : Option Value) (h' : Heap) (L : List Loc) : Prop := v = none ∧ (∀ y ∈ L, y.base = x) ∧ RoadKit.Keep h h' [x] ∧ h'.size = h.size + 1 ∧ RoadKit.Exa Z h' x ST ∧ RoadKit.Fld Z h' x ST "value" "[B" (.ref h.size) ∧ RoadKit.Fld Z h' x ST "coder" "B" (.int 0) ∧
  (∃ kb, Z.vm.findClass "[B" = some kb ∧ RoadKit.Arv Z h' h.size kb .byte zn (cs.map fun c => .int (lo8 c)) (.int 0)) ∧
  ∀ (O n d : String) (w : Value), RoadKit.Fld Z h x O n d w → RoadKit.slotOf Z O n d ≠ RoadKit.slotOf Z ST "value" "[B" → RoadKit.slotOf Z O n d ≠ RoadKit.slotOf Z ST "coder" "B" → RoadKit.Fld Z h' x O n d w
/-- **new String(chars) AT A CALL, THE ARRAYS AS LISTS**: the char[] at b holds cs, not empty, no char above 255 -/
theorem backArv {p : Program} {l : Launch} {e : Env} {R : Room} {s : State} {args : Array Value} {below : List Frame} {len W : Nat} {Z : State} {a0 : Array Value} {h : Heap} (hZ : Z.Warmed39 s.vm) (hw : ∀ d ∈ words, d.before a0 Z = true) {kI : Nat} (wi : (Jvm.Cond.instantiable ST kI).before a0 Z = true)
    {x b : Addr} {k : ClassId} {zn z : Int32} {cs : List Int32} {dv v0 c0 : Value} (E : RoadKit.Exa Z h x ST) (V : RoadKit.Fld Z h x ST "value" "[B" v0) (C : RoadKit.Fld Z h x ST "coder" "B" c0) (K : RoadKit.Arv Z h b k .char zn (cs.map Value.int) dv) (S : RoadKit.Sta Z h ST "COMPACT_STRINGS" "Z" (.int z)) (hz : ¬ z = 0)
    (hlen : zn.toNatClampNeg = cs.length) (h0 : 0 < cs.length) (hbig : cs.length ≤ 536870912) (hall : ∀ c ∈ cs, ¬ 255 < c) (hfr : 4 ≤ R.frames) (hlo : W + 65 ≤ R.locals) :
    Back l R p e below s args New1.yN len W (fun P a => a = #[.ref x, .ref b] ∧ P.U.heap = h ∧ P.cells + 1 ≤ R.cells ∧ P.slots + cs.length ≤ R.slots)
      (fun P _ v B => ∃ L, QA Z x zn cs h v B.U.heap L ∧ B.locs = P.locs ++ L ∧ B.cells = P.cells + 1 ∧ B.slots = P.slots + cs.length) := by
  obtain ⟨A, K1, K2, K3, K4, K5, K6⟩ := K
  have e : A.slots.size = cs.length := K3.trans hlen
  have hat : ∀ (i : Nat) (hi : i < cs.length), A.slots[i]? = some (.int cs[i]) := fun i hi => by rw [K5 i (by omega)]; simp [List.getD_eq_getElem?_getD, hi]
  have hcv : ∀ (i : Nat) (hi : i < cs.length), cv A i = cs[i] := fun i hi => by unfold cv; rw [hat i hi]
  have hty : Typed .char A := fun i v hv => by
    have hi : i < A.slots.size := (Array.getElem?_eq_some_iff.mp hv).1
    have q := K5 i hi
    rw [hv] at q
    rw [Option.some.inj q]
    exact K6 i hi
  refine Back.mono (back hZ hw wi E V C K1 hty S hz (by omega) (by omega) (fun i hi => by rw [hcv i (by omega)]; exact hall _ (List.getElem_mem _)) hfr hlo) (fun P a hp => ⟨hp.1, hp.2.1, hp.2.2.1, by rw [e]; exact hp.2.2.2⟩) (fun P a v B hp hq => ?_)
  obtain ⟨L, ⟨q1, q2, q3, q4, q5, q6, q7, ⟨V', v1, v2, v3, v4, v5⟩, q9⟩, hl, hc, hs⟩ := hq
  refine ⟨L, ⟨q1, q2, q3, q4, q5, q6, q7, ⟨V'.cls, v3, V', v1, rfl, by rw [v4, e, hlen], K4, fun i hi => ?_, fun i hi => ?_⟩, q9⟩, hl, hc, by rw [hs, e]⟩
  · have hi' : i < cs.length := by omega
    rw [v5 i (by omega), hcv i hi']; simp [List.getD_eq_getElem?_getD, hi']
  · have hi' : i < cs.length := by omega
    simp only [List.getD_eq_getElem?_getD, List.getElem?_map, List.getElem?_eq_getElem hi', Option.map_some, Option.getD_some]
    exact fits_lo8 _
end StrChars.Road
namespace StrChars.Road
open Jvm Sem ClassFile Op Lib Jvm.Stand Jvm.Free Jvm.Free.XT
/-- WHAT COMES BACK, in the writer's own shape -/
def QV (Z : State) (x : Addr) (N : Int32) (bs : List Int32) (h : Heap) (n0 : Nat) (v : Option Value) (h' : Heap) (L : List Loc) : Prop := v = none ∧ RoadKit.Fr n0 L ∧ RoadKit.Keep h h' [x] ∧ RoadKit.Exa Z h' x ST ∧ RoadKit.Fld Z h' x ST "coder" "B" (.int 0) ∧
  ∃ (t : Addr) (kb : ClassId), n0 ≤ t ∧ h.size ≤ t ∧ ¬ t = x ∧ RoadKit.Fld Z h' x ST "value" "[B" (.ref t) ∧ RoadKit.Arv Z h' t kb .byte N (bs.map Value.int) (.int 0)
/-- **new String(chars) AT A CALL, FOR THE WRITER**: a char[] of n known ints, each 0 to 255 -/
theorem backV {p : Program} {l : Launch} {e : Env} {R : Room} {s : State} {args : Array Value} {below : List Frame} {len W : Nat} {Z : State} {a0 : Array Value} {h : Heap} (hZ : Z.Warmed39 s.vm) (hw : ∀ d ∈ words, d.before a0 Z = true) {kI : Nat} (wi : (Jvm.Cond.instantiable ST kI).before a0 Z = true)
    {x b : Addr} {kC : ClassId} {cs bs : List Int32} {d v0 c0 : Value} {z N : Int32} {n n0 : Nat} (hx0 : n0 ≤ x) (hh0 : n0 ≤ h.size) (E : RoadKit.Exa Z h x ST) (V : RoadKit.Fld Z h x ST "value" "[B" v0) (C : RoadKit.Fld Z h x ST "coder" "B" c0) (K : RoadKit.Arv Z h b kC .char N (cs.map Value.int) d) (S : RoadKit.Sta Z h ST "COMPACT_STRINGS" "Z" (.int z)) (hz : ¬ z = 0)
    (hn : cs.length = n) (hN : N = Int32.ofNat n) (l0 : 0 < n) (l2 : n ≤ 4000) (hp : ∀ c ∈ cs, ¬ c < 0 ∧ ¬ (255 : Int32) < c) (hb : bs = cs.map (fun c => c.toInt8.toInt32)) (hfr : 4 ≤ R.frames) (hlo : W + 65 ≤ R.locals) :
    Back l R p e below s args (⟨"java/lang/String", "<init>", "([C)V"⟩ : MethodName) len W (fun P a => a = #[.ref x, .ref b] ∧ P.U.heap = h ∧ P.cells + 1 ≤ R.cells ∧ P.slots + n ≤ R.slots)
      (fun P _ v B => ∃ L, QV Z x N bs h n0 v B.U.heap L ∧ B.locs = P.locs ++ L ∧ B.cells = P.cells + 1 ∧ B.slots = P.slots + n) := by
  subst hn hN hb
  refine Back.mono (backArv hZ hw wi E V C K S hz (n32 (by omega)) l0 (by omega) (fun c hc => (hp c hc).2) hfr hlo) (fun P a hp => hp) (fun P a v B hp hq => ?_)
  obtain ⟨L, ⟨q1, q2, q3, q4, q5, q6, q7, ⟨kb, v1, v2⟩, q9⟩, hl, hc, hs⟩ := hq
  exact ⟨L, ⟨q1, fun y hy => by rw [q2 y hy]; exact hx0, q3, q5, q7, h.size, kb, hh0, Nat.le_refl _, Nat.ne_of_gt E.lt, q6, by rw [List.map_map]; exact v2⟩, hl, hc, hs⟩
end StrChars.Road
namespace StrChars
open Jvm Sem ClassFile Op Lib Jvm.Stand Jvm.Free.XT Jvm.Free.ALB Jvm.Free.JM Jvm.Free
open Jvm.Lib.Cold (StaticIs)
def hi8 (x : Int32) : Int32 := lo8 (x >>> ((8 : Int32) &&& 31))
/-- what StringUTF16.getChar makes of two bytes -/
def pairCh (u v : Int32) : Int32 := (((u &&& 255) <<< ((0 : Int32) &&& 31)) ||| ((v &&& 255) <<< ((8 : Int32) &&& 31))).toUInt32.toUInt16.toUInt32.toInt32
theorem shr0 (c : Int32) : c >>> ((0 : Int32) &&& 31) = c := by
  have e : ((0 : Int32) &&& 31) = 0 := by decide
  rw [e]
  apply Int32.toBitVec_inj.mp
  rw [Int32.toBitVec_shiftRight]
  have e1 : ((0 : Int32).toBitVec.smod 32) = 0#32 := by decide
  rw [e1, BitVec.sshiftRight_eq']
  exact BitVec.sshiftRight_zero
theorem lo8_and (x : Int32) : (lo8 x &&& 255).toBitVec.toNat = x.toBitVec.toNat % 256 := by
  have h : (lo8 x).toBitVec = (x.toBitVec.signExtend 8).signExtend 32 := by rw [lo8, Int8.toBitVec_toInt32, Int32.toBitVec_toInt8]
  rw [Int32.toBitVec_and, BitVec.toNat_and, h]
  have e : ((x.toBitVec.signExtend 8).signExtend 32).toNat % 256 = x.toBitVec.toNat % 256 := by
    rw [BitVec.toNat_signExtend]
    have hlt := x.toBitVec.isLt
    simp only [BitVec.toNat_setWidth, BitVec.toNat_signExtend]
    split <;> split <;> omega
  rw [← e]
  exact Nat.and_two_pow_sub_one_eq_mod _ 8
theorem pair_says {c : Int32} (h0 : ¬ c < 0) (h1 : ¬ 65535 < c) : pairCh (lo8 c) (hi8 c) = c := by
  rw [Int32.lt_iff_toInt_lt] at h0 h1
  have e0 : (0 : Int32).toInt = 0 := rfl
  have e1 : (65535 : Int32).toInt = 65535 := rfl
  have hc : c.toInt = c.toBitVec.toNat := by
    have := c.toBitVec.isLt
    have e : c.toInt = c.toBitVec.toInt := rfl
    rw [e] at h0 h1
    rw [e]
    rw [BitVec.toInt_eq_toNat_cond] at h0 h1 ⊢
    split at h0 <;> split <;> omega
  have hn : c.toBitVec.toNat < 65536 := by omega
  have a1 := lo8_and c
  have a2 : (hi8 c &&& 255).toBitVec.toNat = c.toBitVec.toNat / 256 := by
    rw [hi8, lo8_and]
    have e : ((8 : Int32) &&& 31) = 8 := by decide
    rw [e, Int32.toBitVec_shiftRight]
    have e2 : ((8 : Int32).toBitVec.smod 32) = 8#32 := by decide
    rw [e2, BitVec.sshiftRight_eq', BitVec.toNat_sshiftRight_of_msb_false (by rw [BitVec.msb_eq_false_iff_two_mul_lt]; omega)]
    show c.toBitVec.toNat >>> 8 % 256 = _
    rw [Nat.shiftRight_eq_div_pow]
    omega
  unfold pairCh
  apply Int32.toBitVec_inj.mp
  apply BitVec.eq_of_toNat_eq
  have f0 : ((0 : Int32) &&& 31) = 0 := by decide
  have f8 : ((8 : Int32) &&& 31) = 8 := by decide
  rw [f0, f8]
  have g : (((lo8 c &&& 255) <<< (0 : Int32)) ||| ((hi8 c &&& 255) <<< (8 : Int32))).toBitVec.toNat = c.toBitVec.toNat := by
    rw [Int32.toBitVec_or, Int32.toBitVec_shiftLeft, Int32.toBitVec_shiftLeft]
    have s0 : ((0 : Int32).toBitVec.smod 32) = 0#32 := by decide
    have s8 : ((8 : Int32).toBitVec.smod 32) = 8#32 := by decide
    rw [s0, s8, BitVec.toNat_or]
    simp only [BitVec.shiftLeft_eq', BitVec.toNat_shiftLeft, a1, a2]
    show (c.toBitVec.toNat % 256) <<< 0 % 2 ^ 32 ||| (c.toBitVec.toNat / 256) <<< 8 % 2 ^ 32 = _
    rw [Nat.shiftLeft_zero, Nat.mod_eq_of_lt (show c.toBitVec.toNat % 256 < 2 ^ 32 by omega), Nat.mod_eq_of_lt (show (c.toBitVec.toNat / 256) <<< 8 < 2 ^ 32 by rw [Nat.shiftLeft_eq]; omega), Nat.or_comm, ← Nat.shiftLeft_add_eq_or_of_lt (by omega), Nat.shiftLeft_eq]
    omega
  show BitVec.toNat (((((lo8 c &&& 255) <<< (0 : Int32)) ||| ((hi8 c &&& 255) <<< (8 : Int32))).toBitVec.setWidth 16).setWidth 32) = _
  rw [BitVec.toNat_setWidth, BitVec.toNat_setWidth, g]
  omega
end StrChars
namespace StrChars
open Jvm Sem ClassFile Op Lib Jvm.Stand Jvm.Free.XT Jvm.Free.ALB Jvm.Free.JM Jvm.Free
open Jvm.Lib.Cold (StaticIs)
theorem shr1 {n : Nat} (h : 2 * n < 2 ^ 31) : Int32.ofNat (2 * n) >>> ((1 : Int32) &&& 31) = Int32.ofNat n := by
  have e : ((1 : Int32) &&& 31) = 1 := by decide
  rw [e]
  apply Int32.toBitVec_inj.mp
  rw [Int32.toBitVec_shiftRight]
  have e1 : ((1 : Int32).toBitVec.smod 32) = 1#32 := by decide
  have hm : (BitVec.ofNat 32 (2 * n)).toNat = 2 * n := by rw [BitVec.toNat_ofNat, Nat.mod_eq_of_lt (by omega)]
  rw [e1, BitVec.sshiftRight_eq']
  apply BitVec.eq_of_toNat_eq
  show ((BitVec.ofNat 32 (2 * n)).sshiftRight 1).toNat = (BitVec.ofNat 32 n).toNat
  rw [BitVec.toNat_sshiftRight_of_msb_false (by rw [BitVec.msb_eq_false_iff_two_mul_lt, hm]; omega), hm, BitVec.toNat_ofNat, Nat.shiftRight_eq_div_pow]
  omega
/-- charAt's cast of a byte read back -/
def chr8 (u : Int32) : Int32 := (u &&& 255).toUInt32.toUInt16.toUInt32.toInt32
theorem chr8_lo8 {c : Int32} (h0 : ¬ c < 0) (h1 : ¬ 255 < c) : chr8 (lo8 c) = c := by
  have t : ∀ k : Fin 256, (Int32.ofNat k.val).toUInt32.toUInt16.toUInt32.toInt32 = Int32.ofNat k.val := by decide +kernel
  unfold chr8
  rw [lo8_mask h0 h1]
  rw [Int32.lt_iff_toInt_lt] at h0 h1
  have e0 : (0 : Int32).toInt = 0 := rfl
  have e1 : (255 : Int32).toInt = 255 := rfl
  obtain ⟨k, hk⟩ : ∃ k : Nat, c.toInt = k := ⟨c.toInt.toNat, by omega⟩
  have hx : c = Int32.ofNat k := Int32.toInt_inj.mp (by rw [hk, Int32.toInt_ofNat_small (by omega)])
  rw [hx]
  exact t ⟨k, by omega⟩
theorem narrow_ch {c : Int32} (h0 : ¬ c < 0) (h1 : ¬ 65535 < c) : narrow .char (.int c) = .int c := by
  have q : narrow .char (.int (pairCh (lo8 c) (hi8 c))) = .int (pairCh (lo8 c) (hi8 c)) := narrow_c _
  rwa [pair_says h0 h1] at q
/-- the array's cell V codes the n chars f 0 .. f (n - 1) by the coder cd, as the JDK does: coder 1 just where some char is above 255 -/
def Cod (cd : Int32) (n : Nat) (f : Nat → Int32) (V : Cell) : Prop := (cd = 0 ∧ V.slots.size = n ∧ ∀ j, j < n → V.slots[j]? = some (.int (lo8 (f j))) ∧ ¬ 255 < f j) ∨ (cd = 1 ∧ V.slots.size = 2 * n ∧ (∀ j, j < n → V.slots[2 * j]? = some (.int (lo8 (f j))) ∧ V.slots[2 * j + 1]? = some (.int (hi8 (f j)))) ∧ ∃ j, j < n ∧ 255 < f j)
theorem Cod.cd {cd : Int32} {n : Nat} {f : Nat → Int32} {V : Cell} (h : Cod cd n f V) : cd = 0 ∨ cd = 1 := h.imp (fun q => q.1) fun q => q.1
theorem Cod.len {cd : Int32} {n : Nat} {f : Nat → Int32} {V : Cell} (h : Cod cd n f V) (hs : V.slots.size < 2 ^ 31) : Int32.ofNat V.slots.size >>> (cd &&& 31) = Int32.ofNat n := by
  rcases h with ⟨rfl, h, -⟩ | ⟨rfl, h, -⟩
  · rw [shr0, h]
  · rw [h, shr1 (by omega)]
/-- **x is a String of the n chars f 0 .. f (n - 1)**, Latin-1 or UTF-16; its array at t has the cell V -/
def Txt (x t : Addr) (V : Cell) (cd : Int32) (n : Nat) (f : Nat → Int32) (U : State) : Prop := Exact "java/lang/String" x U ∧ Has x "java/lang/String" "value" "[B" (.ref t) U ∧ Has x "java/lang/String" "coder" "B" (.int cd) U ∧ XT.Arr .byte t V U ∧ Cod cd n f V ∧ ∀ j, j < n → ¬ f j < 0 ∧ ¬ 65535 < f j
theorem Txt.mv {x t : Addr} {V : Cell} {cd : Int32} {n : Nat} {f : Nat → Int32} {U U' : State} (h : Txt x t V cd n f U) (hal : U.vm.Alike U'.vm) (hh : U'.heap = U.heap) : Txt x t V cd n f U' := ⟨h.1.mv hal hh, h.2.1.mv hal hh, h.2.2.1.mv hal hh, h.2.2.2.1.mv hal hh, h.2.2.2.2⟩
namespace Cdr
def yN : MethodName := ⟨"java/lang/String", "coder", "()B"⟩
abbrev yB : ByteArray := jdk_42_method_152_code
theorem d0 : decode yB 0 = .ok (.getstatic 38, 3) := by decide +kernel
theorem d3 : decode yB 3 = .ok (.ifCond (.eq) 10, 3) := by decide +kernel
theorem d6 : decode yB 6 = .ok (.aload_n 0, 1) := by decide +kernel
theorem d7 : decode yB 7 = .ok (.getfield 15, 3) := by decide +kernel
theorem d10 : decode yB 10 = .ok (.goto 4, 3) := by decide +kernel
theorem d14 : decode yB 14 = .ok (.ireturn, 1) := by decide +kernel
def site : List Cond := [.fieldLink "java/lang/String" 38 "java/lang/String" "COMPACT_STRINGS" "Z", .fieldLink "java/lang/String" 15 "java/lang/String" "coder" "B"]
def tab : Cond := tabOf yN yB 1 (some .byte) site
def P (x : Addr) (cd z : Int32) (args : Array Value) (s : State) : Prop := args = #[.ref x] ∧ Has x "java/lang/String" "coder" "B" (.int cd) s ∧ (cd = 0 ∨ cd = 1) ∧ StaticIs s "java/lang/String" "COMPACT_STRINGS" "Z" (.int z) ∧ ¬ z = 0
def E (cd : Int32) (r : Option Value) (s u : State) : Prop := XT.PureE (some (.int cd)) r s u
theorem law (l : Launch) (x : Addr) (cd z : Int32) : Law l yN 1 0 0 0 yB 1 (some .byte) site (P x cd z) (E cd) [] 0 0 := by
  refine Law.of_walk (plainFor_of_name (by decide +kernel)) (by decide +kernel) (by decide +kernel) (by decide) (fun _ _ h => by rw [h.1]; rfl) (fun _ U U' hal hh h => ⟨h.1, h.2.1.mv hal hh, h.2.2.1, h.2.2.2.1.there hal hh, h.2.2.2.2⟩) (fun r U U' V V' h1 hal h2 h => XT.PureE.mv r U U' V V' h1 hal h2 h) ?_
  intro p e s m args below meth c s₁ X0 hexec hbytes hml hret hlk hnm hown hh0 W hP
  obtain ⟨rfl, hx, hc, s1, hz⟩ := hP
  have c1 : Steps p.tables e below (s₁.setTop (entryFrame m #[.ref x] 1)) (s₁.setTop (mkF m 0 #[.val (.ref x)] [])) := entry rfl
  obtain ⟨T2, X2, q2, st2⟩ := X0.sget hexec hown (wk W (.fieldLink "java/lang/String" 38 "java/lang/String" "COMPACT_STRINGS" "Z")) s1 (fun _ _ h => by rw [hh0]; exact h) (g := (mkF m 0 #[.val (.ref x)] [])) rfl (hb hbytes d0)
  have hh2 := q2.trans hh0
  have c3 : Steps p.tables e below (s₁.setTop (entryFrame m #[.ref x] 1)) (T2.setTop (mkF m 7 #[.val (.ref x)] [.ref x])) := (c1.trans (st2 _ (Steps.refl _))).trans (by
    refine XS.ifNo X2.here hexec rfl (hb hbytes d3) rfl (i0_eq_f hz) ?_
    refine XS.aloadN X2.here hexec rfl (hb hbytes d6) rfl rfl ?_
    exact Steps.refl _)
  obtain ⟨T4, X4, q4, st4⟩ := X2.hget hexec hown (wk W (.fieldLink "java/lang/String" 15 "java/lang/String" "coder" "B")) (hx.mv X2.warmed.alike hh2) (g := (mkF m 7 #[.val (.ref x)] [.ref x])) rfl (rest := []) rfl (hb hbytes d7)
  have c5 : Steps p.tables e below (s₁.setTop (entryFrame m #[.ref x] 1)) (T4.setTop (mkF m 14 #[.val (.ref x)] [.int cd])) := (c3.trans (st4 _ (Steps.refl _))).trans (by
    refine XS.goto X4.here hexec rfl (pc0 := 10) rfl (hb hbytes d10) (by decide) rfl ?_
    exact Steps.refl _)
  exact ⟨T4, some (.int cd), _, _, _, X4, rfl, rfl, rfl, (fun h => by cases h), ⟨rfl, q4.trans hh2⟩, fun fs hl => c5.trans (X4.ireturnOut hexec hret (by rcases hc with rfl | rfl <;> rfl) (Or.inr (Or.inr (Or.inl rfl))) (hb hbytes d14) hl)⟩
end Cdr
namespace Len
def yN : MethodName := ⟨"java/lang/String", "length", "()I"⟩
abbrev yB : ByteArray := jdk_42_method_54_code
theorem d0 : decode yB 0 = .ok (.aload_n 0, 1) := by decide +kernel
theorem d1 : decode yB 1 = .ok (.getfield 9, 3) := by decide +kernel
theorem d4 : decode yB 4 = .ok (.arraylength, 1) := by decide +kernel
theorem d5 : decode yB 5 = .ok (.aload_n 0, 1) := by decide +kernel
theorem d6 : decode yB 6 = .ok (.invokevirtual 335, 3) := by decide +kernel
theorem d9 : decode yB 9 = .ok (.ishr, 1) := by decide +kernel
theorem d10 : decode yB 10 = .ok (.ireturn, 1) := by decide +kernel
def site : List Cond := [.fieldLink "java/lang/String" 9 "java/lang/String" "value" "[B", Cdr.tab] ++ virtW "java/lang/String" 335 "java/lang/String" Cdr.yN Cdr.yN
def tab : Cond := tabOf yN yB 1 (some .int) site
def P (x t : Addr) (V : Cell) (cd : Int32) (n : Nat) (f : Nat → Int32) (z : Int32) (args : Array Value) (s : State) : Prop := args = #[.ref x] ∧ Txt x t V cd n f s ∧ StaticIs s "java/lang/String" "COMPACT_STRINGS" "Z" (.int z) ∧ ¬ z = 0
def E (n : Nat) (r : Option Value) (s u : State) : Prop := XT.PureE (some (.int (Int32.ofNat n))) r s u
/-- length() of a String of n chars, in either coding -/
theorem law (l : Launch) (x t : Addr) (V : Cell) (cd : Int32) (n : Nat) (f : Nat → Int32) (z : Int32) : Law l yN 1 0 1 13 yB 1 (some .int) site (P x t V cd n f z) (E n) [] 0 0 := by
  refine Law.of_walk (plainFor_of_name (by decide +kernel)) (by decide +kernel) (by decide +kernel) (by decide) (fun _ _ h => by rw [h.1]; rfl) (fun _ U U' hal hh h => ⟨h.1, h.2.1.mv hal hh, h.2.2.1.there hal hh, h.2.2.2⟩) (fun r U U' V V' h1 hal h2 h => XT.PureE.mv r U U' V V' h1 hal h2 h) ?_
  intro p e s m args below meth c s₁ X0 hexec hbytes hml hret hlk hnm hown hh0 W hP
  obtain ⟨rfl, hx, s1, hz⟩ := hP
  have v31 := hx.2.2.2.1.2.2.2
  have c1 : Steps p.tables e below (s₁.setTop (entryFrame m #[.ref x] 1)) (s₁.setTop (mkF m 1 #[.val (.ref x)] [.ref x])) := Steps.trans (entry rfl) (by
    show Steps p.tables e below (s₁.setTop (mkF m 0 #[.val (.ref x)] [])) _
    refine XS.aloadN X0.here hexec rfl (hb hbytes d0) rfl rfl ?_
    exact Steps.refl _)
  obtain ⟨T2, X2, q2, st2⟩ := X0.hget hexec hown (wk W (.fieldLink "java/lang/String" 9 "java/lang/String" "value" "[B")) (hx.mv X0.warmed.alike hh0).2.1 (g := (mkF m 1 #[.val (.ref x)] [.ref x])) rfl (rest := []) rfl (hb hbytes d1)
  have hh2 := q2.trans hh0
  have hx2 := hx.mv X2.warmed.alike hh2
  have c3 : Steps p.tables e below (s₁.setTop (entryFrame m #[.ref x] 1)) (T2.setTop (mkF m 6 #[.val (.ref x)] [.ref x, .int (Int32.ofNat V.slots.size)])) := (c1.trans (st2 _ (Steps.refl _))).trans (by
    refine X2.alen hexec hx2.2.2.2.1 rfl rfl (hb hbytes d4) ?_
    refine XS.aloadN X2.here hexec rfl (hb hbytes d5) rfl rfl ?_
    exact Steps.refl _)
  obtain ⟨v4, T4, X4, E4, g4⟩ := X2.callV hexec (Cdr.law l x cd z) hown (wks W (virtW "java/lang/String" 335 "java/lang/String" Cdr.yN Cdr.yN)) rfl (by decide) (wk W Cdr.tab) (W := 1) (Nat.le_of_ble_eq_true rfl) (Nat.le_of_ble_eq_true rfl) (Nat.le_refl _) (Nat.le_refl _) (hx2.1.fc X2.warmed.alike) hx2.1.is (g := (mkF m 6 #[.val (.ref x)] [.ref x, .int (Int32.ofNat V.slots.size)])) rfl (by rw [hml]; rfl) c3 (argsL := []) (rest := [.int (Int32.ofNat V.slots.size)]) rfl rfl (by show 2 * 0 + (1 + 0) ≤ _; decide) (hb hbytes d6) (⟨rfl, hx2.2.2.1, hx.2.2.2.2.1.cd, s1.there X2.warmed.alike hh2, hz⟩)
  obtain ⟨rfl, q4⟩ := E4
  have c5 : Steps p.tables e below (s₁.setTop (entryFrame m #[.ref x] 1)) (T4.setTop (mkF m 10 #[.val (.ref x)] [.int (Int32.ofNat V.slots.size >>> (cd &&& 31))])) := Steps.trans g4 (by
    refine ishr X4.here hexec rfl (hb hbytes d9) rfl ?_
    exact Steps.refl _)
  rw [hx.2.2.2.2.1.len v31] at c5
  exact ⟨T4, some (.int (Int32.ofNat n)), _, _, _, X4, rfl, rfl, rfl, (fun h => by cases h), ⟨rfl, q4.trans hh2⟩, fun fs hl => c5.trans (X4.ireturnOut hexec hret rfl (Or.inl rfl) (hb hbytes d10) hl)⟩
theorem pays {l : Launch} {R : Room} {p : Program} {e : Env} {below : List Frame} {s : State} {sargs : Array Value} {len W : Nat} (x t : Addr) (V : Cell) (cd : Int32) (n : Nat) (f : Nat → Int32) (z : Int32) (htab : tab.before sargs s = true) (hfr : 2 ≤ R.frames) (hlo : W + 25 ≤ R.locals) :
    Back l R p e below s sargs yN len W (fun A₁ a₁ => A₁.cells + 0 ≤ R.cells ∧ A₁.slots + 0 ≤ R.slots ∧ P x t V cd n f z a₁ A₁.U) (fun A₁ _ v₁ B₁ => E n v₁ A₁.U B₁.U ∧ B₁.locs = A₁.locs ++ [] ∧ B₁.cells = A₁.cells + 0 ∧ B₁.slots = A₁.slots + 0) :=
  (law l x t V cd n f z).pays htab hfr (by omega)
end Len
namespace IsL
def yN : MethodName := ⟨"java/lang/String", "isLatin1", "()Z"⟩
abbrev yB : ByteArray := jdk_42_method_154_code
theorem d0 : decode yB 0 = .ok (.getstatic 38, 3) := by decide +kernel
theorem d3 : decode yB 3 = .ok (.ifCond (.eq) 14, 3) := by decide +kernel
theorem d6 : decode yB 6 = .ok (.aload_n 0, 1) := by decide +kernel
theorem d7 : decode yB 7 = .ok (.getfield 15, 3) := by decide +kernel
theorem d10 : decode yB 10 = .ok (.ifCond (.ne) 7, 3) := by decide +kernel
theorem d13 : decode yB 13 = .ok (.iconst 1, 1) := by decide +kernel
theorem d14 : decode yB 14 = .ok (.goto 4, 3) := by decide +kernel
theorem d17 : decode yB 17 = .ok (.iconst 0, 1) := by decide +kernel
theorem d18 : decode yB 18 = .ok (.ireturn, 1) := by decide +kernel
def site : List Cond := [.fieldLink "java/lang/String" 38 "java/lang/String" "COMPACT_STRINGS" "Z", .fieldLink "java/lang/String" 15 "java/lang/String" "coder" "B"]
def tab : Cond := tabOf yN yB 1 (some .boolean) site
def P (x : Addr) (cd z : Int32) (args : Array Value) (s : State) : Prop := args = #[.ref x] ∧ Has x "java/lang/String" "coder" "B" (.int cd) s ∧ (cd = 0 ∨ cd = 1) ∧ StaticIs s "java/lang/String" "COMPACT_STRINGS" "Z" (.int z) ∧ ¬ z = 0
def E (cd : Int32) (r : Option Value) (s u : State) : Prop := XT.PureE (some (.int (1 - cd))) r s u
theorem law (l : Launch) (x : Addr) (cd z : Int32) : Law l yN 1 0 0 0 yB 1 (some .boolean) site (P x cd z) (E cd) [] 0 0 := by
  refine Law.of_walk (plainFor_of_name (by decide +kernel)) (by decide +kernel) (by decide +kernel) (by decide) (fun _ _ h => by rw [h.1]; rfl) (fun _ U U' hal hh h => ⟨h.1, h.2.1.mv hal hh, h.2.2.1, h.2.2.2.1.there hal hh, h.2.2.2.2⟩) (fun r U U' V V' h1 hal h2 h => XT.PureE.mv r U U' V V' h1 hal h2 h) ?_
  intro p e s m args below meth c s₁ X0 hexec hbytes hml hret hlk hnm hown hh0 W hP
  obtain ⟨rfl, hx, hc, s1, hz⟩ := hP
  have c1 : Steps p.tables e below (s₁.setTop (entryFrame m #[.ref x] 1)) (s₁.setTop (mkF m 0 #[.val (.ref x)] [])) := entry rfl
  obtain ⟨T2, X2, q2, st2⟩ := X0.sget hexec hown (wk W (.fieldLink "java/lang/String" 38 "java/lang/String" "COMPACT_STRINGS" "Z")) s1 (fun _ _ h => by rw [hh0]; exact h) (g := (mkF m 0 #[.val (.ref x)] [])) rfl (hb hbytes d0)
  have hh2 := q2.trans hh0
  have c3 : Steps p.tables e below (s₁.setTop (entryFrame m #[.ref x] 1)) (T2.setTop (mkF m 7 #[.val (.ref x)] [.ref x])) := (c1.trans (st2 _ (Steps.refl _))).trans (by
    refine XS.ifNo X2.here hexec rfl (hb hbytes d3) rfl (i0_eq_f hz) ?_
    refine XS.aloadN X2.here hexec rfl (hb hbytes d6) rfl rfl ?_
    exact Steps.refl _)
  obtain ⟨T4, X4, q4, st4⟩ := X2.hget hexec hown (wk W (.fieldLink "java/lang/String" 15 "java/lang/String" "coder" "B")) (hx.mv X2.warmed.alike hh2) (g := (mkF m 7 #[.val (.ref x)] [.ref x])) rfl (rest := []) rfl (hb hbytes d7)
  have c5 : Steps p.tables e below (s₁.setTop (entryFrame m #[.ref x] 1)) (T4.setTop (mkF m 10 #[.val (.ref x)] [.int cd])) := c3.trans (st4 _ (Steps.refl _))
  have c6 : Steps p.tables e below (s₁.setTop (entryFrame m #[.ref x] 1)) (T4.setTop (mkF m 18 #[.val (.ref x)] [.int (1 - cd)])) := by
    rcases hc with rfl | rfl
    · exact c5.trans (by
        refine XS.ifNo X4.here hexec rfl (hb hbytes d10) rfl (i0_ne_f rfl) ?_
        refine iconstV X4.here hexec rfl 1 (hb hbytes d13) (by decide) ?_
        refine XS.goto X4.here hexec rfl (pc0 := 14) rfl (hb hbytes d14) (by decide) rfl ?_
        exact Steps.refl _)
    · exact c5.trans (by
        refine XS.ifYes X4.here hexec rfl (pc0 := 10) rfl (hb hbytes d10) rfl (i0_ne_t (by decide)) (by decide) rfl ?_
        refine iconstV X4.here hexec rfl 0 (hb hbytes d17) (by decide) ?_
        exact Steps.refl _)
  exact ⟨T4, some (.int (1 - cd)), _, _, _, X4, rfl, rfl, rfl, (fun h => by cases h), ⟨rfl, q4.trans hh2⟩, fun fs hl => c6.trans (X4.ireturnOut hexec hret (by rcases hc with rfl | rfl <;> rfl) (Or.inr (Or.inl rfl)) (hb hbytes d18) hl)⟩
end IsL
namespace LChA
def yN : MethodName := ⟨"java/lang/StringLatin1", "charAt", "([BI)C"⟩
abbrev yB : ByteArray := jdk_43_method_2_code
theorem d0 : decode yB 0 = .ok (.iload_n 1, 1) := by decide +kernel
theorem d1 : decode yB 1 = .ok (.aload_n 0, 1) := by decide +kernel
theorem d2 : decode yB 2 = .ok (.arraylength, 1) := by decide +kernel
theorem d3 : decode yB 3 = .ok (.invokestatic 9, 3) := by decide +kernel
theorem d6 : decode yB 6 = .ok (.aload_n 0, 1) := by decide +kernel
theorem d7 : decode yB 7 = .ok (.iload_n 1, 1) := by decide +kernel
theorem d8 : decode yB 8 = .ok (.baload, 1) := by decide +kernel
theorem d9 : decode yB 9 = .ok (.sipush 255, 3) := by decide +kernel
theorem d12 : decode yB 12 = .ok (.iand, 1) := by decide +kernel
theorem d13 : decode yB 13 = .ok (.i2c, 1) := by decide +kernel
theorem d14 : decode yB 14 = .ok (.ireturn, 1) := by decide +kernel
def site : List Cond := [JO.Str_checkIndex.tab] ++ staticW "java/lang/StringLatin1" 9 JO.Str_checkIndex.yN
def tab : Cond := tabOf yN yB 2 (some .char) site
def P (t : Addr) (V : Cell) (i : Nat) (u : Int32) (fm : Value) (args : Array Value) (s : State) : Prop := args = #[.ref t, .int (Int32.ofNat i)] ∧ XT.Arr .byte t V s ∧ V.slots[i]? = some (.int u) ∧ (StaticIs s "jdk/internal/util/Preconditions" "SIOOBE_FORMATTER" "Ljava/util/function/BiFunction;" fm ∧ fm.isRef = true)
def E (u : Int32) (r : Option Value) (s w : State) : Prop := XT.PureE (some (.int (chr8 u))) r s w
theorem law (l : Launch) (t : Addr) (V : Cell) (i : Nat) (u : Int32) (fm : Value) : Law l yN 2 2 2 27 yB 2 (some .char) site (P t V i u fm) (E u) [] 0 0 := by
  refine Law.of_walk (plainFor_of_name (by decide +kernel)) (by decide +kernel) (by decide +kernel) (by decide) (fun _ _ h => by rw [h.1]; rfl) (fun _ U U' hal hh h => ⟨h.1, h.2.1.mv hal hh, h.2.2.1, h.2.2.2.1.there hal hh, h.2.2.2.2⟩) (fun r U U' V V' h1 hal h2 h => XT.PureE.mv r U U' V V' h1 hal h2 h) ?_
  intro p e s m args below meth c s₁ X0 hexec hbytes hml hret hlk hnm hown hh0 W hP
  obtain ⟨rfl, hV, hu, s1, rf⟩ := hP
  have v31 := hV.2.2.2
  have hi : i < V.slots.size := (Array.getElem?_eq_some_iff.mp hu).1
  have c1 : Steps p.tables e below (s₁.setTop (entryFrame m #[.ref t, .int (Int32.ofNat i)] 2)) (s₁.setTop (mkF m 0 #[.val (.ref t), .val (.int (Int32.ofNat i))] [])) := entry rfl
  have c2 : Steps p.tables e below (s₁.setTop (entryFrame m #[.ref t, .int (Int32.ofNat i)] 2)) (s₁.setTop (mkF m 3 #[.val (.ref t), .val (.int (Int32.ofNat i))] [.int (Int32.ofNat V.slots.size), .int (Int32.ofNat i)])) := c1.trans (by
    refine XS.iloadN X0.here hexec rfl (hb hbytes d0) rfl ?_
    refine XS.aloadN X0.here hexec rfl (hb hbytes d1) rfl rfl ?_
    refine X0.alen hexec (hV.mv X0.warmed.alike hh0) rfl rfl (hb hbytes d2) ?_
    exact Steps.refl _)
  obtain ⟨v3, T3, X3, E3, g3⟩ := X0.callS hexec (JO.Str_checkIndex.law l (Int32.ofNat i) (Int32.ofNat V.slots.size) fm) hown (wks W (staticW "java/lang/StringLatin1" 9 JO.Str_checkIndex.yN)) (wk W JO.Str_checkIndex.tab) (W := 0) (Nat.le_of_ble_eq_true rfl) (Nat.le_of_ble_eq_true rfl) (Nat.le_refl _) (Nat.le_refl _) (g := (mkF m 3 #[.val (.ref t), .val (.int (Int32.ofNat i))] [.int (Int32.ofNat V.slots.size), .int (Int32.ofNat i)])) rfl (by rw [hml]; rfl) c2 (argsL := [.int (Int32.ofNat i), .int (Int32.ofNat V.slots.size)]) (rest := []) rfl rfl (by show 2 * 0 + 0 ≤ _; decide) (hb hbytes d3) (⟨rfl, rf, s1.there X0.warmed.alike hh0, Int32.ofNat_not_neg (by omega), lt32 v31 hi⟩)
  obtain ⟨rfl, q3⟩ := E3
  have hh3 := q3.trans hh0
  have c4 : Steps p.tables e below (s₁.setTop (entryFrame m #[.ref t, .int (Int32.ofNat i)] 2)) (T3.setTop (mkF m 14 #[.val (.ref t), .val (.int (Int32.ofNat i))] [.int (chr8 u)])) := Steps.trans g3 (by
    refine XS.aloadN X3.here hexec rfl (hb hbytes d6) rfl rfl ?_
    refine XS.iloadN X3.here hexec rfl (hb hbytes d7) rfl ?_
    refine X3.aget hexec (hV.mv X3.warmed.alike hh3) rfl hu rfl rfl (hb hbytes d8) ?_
    refine sipushV X3.here hexec rfl 255 (hb hbytes d9) (by decide) ?_
    refine XS.iand X3.here hexec rfl (hb hbytes d12) rfl ?_
    refine i2c X3.here hexec rfl (hb hbytes d13) rfl ?_
    exact Steps.refl _)
  exact ⟨T3, some (.int (chr8 u)), _, _, _, X3, rfl, rfl, rfl, (fun h => by cases h), ⟨rfl, hh3⟩, fun fs hl => c4.trans (X3.ireturnOut hexec hret (narrow_c _) (Or.inr (Or.inr (Or.inr (Or.inl rfl)))) (hb hbytes d14) hl)⟩
end LChA
end StrChars
namespace StrChars.Road
open Jvm Sem ClassFile Op Lib Jvm.Stand Jvm.Free Jvm.Free.XT
open Jvm.Lib.Cold (StaticIs)
theorem consq {a : Array Value} {s : State} {c : Jvm.Cond} {L : List Jvm.Cond} (h0 : c.before a s = true) (h : ∀ w ∈ L, w.before a s = true) : ∀ w ∈ c :: L, w.before a s = true := fun w hw => (List.mem_cons.mp hw).elim (fun e => e ▸ h0) (h w)
/-- the words of String.length(), either coding -/
abbrev wordsLen : List Jvm.Cond := [.code Len.yN Len.yB 1 (some .int), .initialized ST, .fieldLink ST 9 ST "value" "[B", .fieldLink ST 38 ST "COMPACT_STRINGS" "Z", .fieldLink ST 15 ST "coder" "B", .code Cdr.yN Cdr.yB 1 (some .byte), .methodLink ST 335 Cdr.yN, .declares Cdr.yN, .selects ST Cdr.yN Cdr.yN, .instanceMethod Cdr.yN]
theorem tabLen_of {a : Array Value} {s : State} (h : ∀ w ∈ wordsLen, w.before a s = true) : Len.tab.before a s = true := by
  have hc : Cdr.tab.before a s = true := unparts (wk h (.code Cdr.yN Cdr.yB 1 (some .byte))) (wks h (.initialized Cdr.yN.cls :: Cdr.site))
  have q := consq hc h
  exact unparts (wk q (.code Len.yN Len.yB 1 (some .int))) (wks q (.initialized Len.yN.cls :: Len.site))
theorem movedLen {Z s : State} {a0 args : Array Value} (hZ : Z.Warmed39 s.vm) (hw : ∀ d ∈ wordsLen, d.before a0 Z = true) : ∀ d ∈ wordsLen, d.before args s = true := fun d hd => by
  have q := hw d hd
  have t : ∀ d ∈ wordsLen, d = .arrayClass .byte ∨ (d.onTables && d.keepsFace) = true := by decide +kernel
  rcases t d hd with rfl | t
  · exact RoadKit.mvA hZ q
  · exact RoadKit.mv hZ q t
/-- the bytes of the chars cs, low before high -/
def wideBytes : List Int32 → List Value
  | [] => []
  | c :: cs => .int (lo8 c) :: .int (hi8 c) :: wideBytes cs
theorem wide_lo (d : Value) : ∀ (cs : List Int32) (j : Nat), j < cs.length → (wideBytes cs).getD (2 * j) d = .int (lo8 (cs.getD j 0))
  | [], j, h => absurd h (Nat.not_lt_zero j)
  | c :: cs, 0, _ => rfl
  | c :: cs, j + 1, h => by
    have q := wide_lo d cs j (by simpa using h)
    rw [show 2 * (j + 1) = 2 * j + 1 + 1 from by omega]
    simpa [wideBytes] using q
theorem wide_hi (d : Value) : ∀ (cs : List Int32) (j : Nat), j < cs.length → (wideBytes cs).getD (2 * j + 1) d = .int (hi8 (cs.getD j 0))
  | [], j, h => absurd h (Nat.not_lt_zero j)
  | c :: cs, 0, _ => rfl
  | c :: cs, j + 1, h => by
    have q := wide_hi d cs j (by simpa using h)
    rw [show 2 * (j + 1) + 1 = 2 * j + 1 + 1 + 1 from by omega]
    simpa [wideBytes] using q
theorem low_at (d : Value) (cs : List Int32) (j : Nat) (h : j < cs.length) : (cs.map fun c => Value.int (lo8 c)).getD j d = .int (lo8 (cs.getD j 0)) := by
  simp [List.getD_eq_getElem?_getD, h]
/-- an array of N2 bytes vs codes the chars cs by the coder cd -/
def CodA (cs : List Int32) (cd N2 : Int32) (vs : List Value) : Prop := (cd = 0 ∧ N2 = Int32.ofNat cs.length ∧ vs = (cs.map fun c => Value.int (lo8 c)) ∧ ∀ c ∈ cs, ¬ 255 < c) ∨ (cd = 1 ∧ N2 = Int32.ofNat (2 * cs.length) ∧ vs = wideBytes cs ∧ ∃ c ∈ cs, 255 < c)
theorem CodA.cod {cs : List Int32} {cd N2 : Int32} {vs : List Value} {V : Cell} (h : CodA cs cd N2 vs) (hn : 2 * cs.length < 2 ^ 31) (hs : V.slots.size = N2.toNatClampNeg) (hv : RoadKit.Has V vs (.int 0)) : Cod cd cs.length (fun j => cs.getD j 0) V := by
  rcases h with ⟨rfl, rfl, rfl, h⟩ | ⟨rfl, rfl, rfl, c, hc, hw⟩
  · rw [n32 (by omega)] at hs
    exact Or.inl ⟨rfl, hs, fun j hj => ⟨by rw [hv j (by omega), low_at _ _ _ hj], by
      have e : cs.getD j 0 = cs[j] := by simp [List.getD_eq_getElem?_getD, hj]
      show ¬ 255 < cs.getD j 0
      rw [e]; exact h _ (List.getElem_mem _)⟩⟩
  · rw [n32 (by omega)] at hs
    obtain ⟨j, hj, rfl⟩ := List.getElem_of_mem hc
    exact Or.inr ⟨rfl, hs, fun j hj => ⟨by rw [hv _ (by omega), wide_lo _ _ _ hj], by rw [hv _ (by omega), wide_hi _ _ _ hj]⟩, j, hj, by
      have e : cs.getD j 0 = cs[j] := by simp [List.getD_eq_getElem?_getD, hj]
      show 255 < cs.getD j 0
      rw [e]; exact hw⟩
/-- an object of exactly java/lang/String, its two fields found: as the laws ask it -/
theorem strObj {Z U : State} {a0 : Array Value} {kI : Nat} (wi : (Jvm.Cond.instantiable ST kI).before a0 Z = true) (al : Z.vm.Alike U.vm) {x : Addr} {v0 c0 : Value} (E : RoadKit.Exa Z U.heap x ST) (V : RoadKit.Fld Z U.heap x ST "value" "[B" v0) (C : RoadKit.Fld Z U.heap x ST "coder" "B" c0) :
    ∃ (D : Cell) (fV fC : Field), Blank ST x D U ∧ Found ST "value" "[B" fV U ∧ Found ST "coder" "B" fC U ∧ D.slots[fV.slot]? = some v0 ∧ D.slots[fC.slot]? = some c0 ∧ RoadKit.slotOf Z ST "value" "[B" = fV.slot ∧ RoadKit.slotOf Z ST "coder" "B" = fC.slot := by
  obtain ⟨D, cfV, kV, iV, fV, hD, gV, stV, knV, obV, asV, slV⟩ := V
  obtain ⟨D', cfC, kC, iC, fC, hD', gC, stC, -, -, asC, slC⟩ := C
  cases hD.symm.trans hD'
  obtain ⟨D2, kD, e1, e2, e3, e4, e5⟩ := E
  cases hD.symm.trans e1
  obtain ⟨c2, k2, i1, i2, i3, -⟩ := Cond.instantiable_spec wi
  cases e2.symm.trans i1
  cases e3.symm.trans i2
  obtain ⟨kU, u1, u2⟩ := al.2.2 _ _ e3
  exact ⟨D, fV, fC, ⟨hD, ⟨knV, fun q hq => by rw [hq] at obV; cases obV⟩, by rw [al.findClass]; exact e2, kU, u1, by rw [u2]; exact i3, by rw [u2]; exact e5 i3⟩, ⟨SBG.found_only al ⟨cfV, kV, iV, gV⟩, stV⟩, ⟨SBG.found_only al ⟨cfC, kC, iC, gC⟩, stC⟩, slV, slC, by simp [RoadKit.slotOf, gV], by simp [RoadKit.slotOf, gC]⟩
theorem sta_is {Z U : State} (al : Z.vm.Alike U.vm) {C n d : String} {v : Value} (S : RoadKit.Sta Z U.heap C n d v) : StaticIs U C n d v := by
  obtain ⟨cfS, iS, kS, fS, st, cS, t1, t2, t3, t4, t5, t6, t7⟩ := S
  exact StaticIs.there (s := { Z with heap := U.heap }) ⟨cfS, iS, kS, fS, st, cS, t1, t2, t3, t4, t5, (fun q => by rw [q] at t6; cases t6), t7⟩ al rfl
/-- **length() OF SUCH A STRING** -/
theorem lenW {p : Program} {l : Launch} {e : Env} {R : Room} {s : State} {args : Array Value} {below : List Frame} {len W : Nat} {Z : State} {a0 : Array Value} {h : Heap} (hZ : Z.Warmed39 s.vm) (hw : ∀ d ∈ wordsLen, d.before a0 Z = true) {kI : Nat} (wi : (Jvm.Cond.instantiable ST kI).before a0 Z = true)
    {x t : Addr} {kb : ClassId} {cs : List Int32} {cd N2 z : Int32} {vs : List Value} (E : RoadKit.Exa Z h x ST) (V : RoadKit.Fld Z h x ST "value" "[B" (.ref t)) (C : RoadKit.Fld Z h x ST "coder" "B" (.int cd)) (K : RoadKit.Arv Z h t kb .byte N2 vs (.int 0)) (hc : CodA cs cd N2 vs) (hb : ∀ c ∈ cs, ¬ c < 0 ∧ ¬ (65535 : Int32) < c)
    (S : RoadKit.Sta Z h ST "COMPACT_STRINGS" "Z" (.int z)) (hz : ¬ z = 0) (l2 : cs.length ≤ 4000) (hfr : 2 ≤ R.frames) (hlo : W + 25 ≤ R.locals) :
    Back l R p e below s args (⟨"java/lang/String", "length", "()I"⟩ : MethodName) len W (fun P a => a = #[.ref x] ∧ P.U.heap = h ∧ P.cells + 0 ≤ R.cells ∧ P.slots + 0 ≤ R.slots)
      (fun P _ v B => ∃ L, (v = some (.int (Int32.ofNat cs.length)) ∧ L = [] ∧ B.U.heap = h) ∧ B.locs = P.locs ++ L ∧ B.cells = P.cells + 0 ∧ B.slots = P.slots + 0) := by
  obtain ⟨A, K1, K2, K3, K4, K5, K6⟩ := K
  have hcod := hc.cod (by omega) K3 K5
  intro m meth c P g ig mk a X hg hsize hdg hW hn hp'
  obtain ⟨rfl, rfl, r1, r2⟩ := hp'
  have al : Z.vm.Alike P.U.vm := hZ.alike.trans X.warmed.alike
  obtain ⟨D, fV, fC, hB, F1, F2, g1, g2, -, -⟩ := strObj wi al E V C
  have hx : Txt x t A cd cs.length (fun j => cs.getD j 0) P.U := ⟨⟨_, hB.2.2.1, D, hB.1, rfl, by cases q : D.vm <;> first | rfl | exact absurd q (hB.2.1.2 _)⟩, Has.of hB F1 g1, Has.of hB F2 g2, ⟨K1.1, State.isArrayOf_alike al K1.2.1, K1.2.2, by rcases hcod with ⟨-, q, -⟩ | ⟨-, q, -⟩ <;> omega⟩, hcod, fun j hj => by
    have e : cs.getD j 0 = cs[j] := by simp [List.getD_eq_getElem?_getD, hj]
    show ¬ cs.getD j 0 < 0 ∧ ¬ 65535 < cs.getD j 0
    rw [e]; exact hb _ (List.getElem_mem _)⟩
  obtain ⟨v, B, X', ⟨⟨hv, hh⟩, hl, hk, hs⟩, st⟩ := Len.pays x t A cd cs.length (fun j => cs.getD j 0) z (tabLen_of (movedLen hZ hw)) hfr hlo m meth c P g ig mk _ X hg hsize hdg hW hn ⟨r1, r2, rfl, hx, sta_is al S, hz⟩
  exact ⟨v, B, X', ⟨[], ⟨hv, rfl, hh⟩, hl, hk, hs⟩, st⟩
end StrChars.Road
namespace StrChars.Road
open Jvm Sem ClassFile Op Lib Jvm.Stand Jvm.Free Jvm.Free.XT
open Jvm.Lib.Cold (StaticIs)
/-- the road's facts of a String, as the laws ask it -/
theorem txt_of {Z U : State} {a0 : Array Value} {kI : Nat} (wi : (Jvm.Cond.instantiable ST kI).before a0 Z = true) (al : Z.vm.Alike U.vm) {x t : Addr} {kb : ClassId} {cs : List Int32} {cd N2 : Int32} {vs : List Value} (E : RoadKit.Exa Z U.heap x ST) (V : RoadKit.Fld Z U.heap x ST "value" "[B" (.ref t)) (C : RoadKit.Fld Z U.heap x ST "coder" "B" (.int cd)) (K : RoadKit.Arv Z U.heap t kb .byte N2 vs (.int 0)) (hc : CodA cs cd N2 vs) (hb : ∀ c ∈ cs, ¬ c < 0 ∧ ¬ (65535 : Int32) < c) (l2 : cs.length ≤ 4000) :
    ∃ A, Txt x t A cd cs.length (fun j => cs.getD j 0) U := by
  obtain ⟨A, K1, K2, K3, K4, K5, K6⟩ := K
  have hcod := hc.cod (by omega) K3 K5
  obtain ⟨D, fV, fC, hB, F1, F2, g1, g2, -, -⟩ := strObj wi al E V C
  exact ⟨A, ⟨_, hB.2.2.1, D, hB.1, rfl, by cases q : D.vm <;> first | rfl | exact absurd q (hB.2.1.2 _)⟩, Has.of hB F1 g1, Has.of hB F2 g2, ⟨K1.1, State.isArrayOf_alike al K1.2.1, K1.2.2, by rcases hcod with ⟨-, q, -⟩ | ⟨-, q, -⟩ <;> omega⟩, hcod, fun j hj => by
    have e : cs.getD j 0 = cs[j] := by simp [List.getD_eq_getElem?_getD, hj]
    show ¬ cs.getD j 0 < 0 ∧ ¬ 65535 < cs.getD j 0
    rw [e]; exact hb _ (List.getElem_mem _)⟩
end StrChars.Road
namespace StrChars
open Jvm Sem ClassFile Op Lib Jvm.Stand Jvm.Free.XT Jvm.Free.ALB Jvm.Free.JM Jvm.Free
open Jvm.Lib.Cold (StaticIs)
namespace ChN
def yN : MethodName := ⟨"java/lang/String", "charAt", "(I)C"⟩
abbrev yB : ByteArray := jdk_42_method_56_code
theorem d0 : decode yB 0 = .ok (.aload_n 0, 1) := by decide +kernel
theorem d1 : decode yB 1 = .ok (.invokevirtual 492, 3) := by decide +kernel
theorem d4 : decode yB 4 = .ok (.ifCond (.eq) 12, 3) := by decide +kernel
theorem d7 : decode yB 7 = .ok (.aload_n 0, 1) := by decide +kernel
theorem d8 : decode yB 8 = .ok (.getfield 9, 3) := by decide +kernel
theorem d11 : decode yB 11 = .ok (.iload_n 1, 1) := by decide +kernel
theorem d12 : decode yB 12 = .ok (.invokestatic 495, 3) := by decide +kernel
theorem d15 : decode yB 15 = .ok (.ireturn, 1) := by decide +kernel
def site : List Cond := [.fieldLink "java/lang/String" 9 "java/lang/String" "value" "[B", IsL.tab, LChA.tab] ++ virtW "java/lang/String" 492 "java/lang/String" IsL.yN IsL.yN ++ staticW "java/lang/String" 495 LChA.yN
def tab : Cond := tabOf yN yB 2 (some .char) site
def P (x t : Addr) (V : Cell) (n : Nat) (f : Nat → Int32) (z : Int32) (fm : Value) (i : Nat) (args : Array Value) (s : State) : Prop := args = #[.ref x, .int (Int32.ofNat i)] ∧ Txt x t V 0 n f s ∧ i < n ∧ StaticIs s "java/lang/String" "COMPACT_STRINGS" "Z" (.int z) ∧ ¬ z = 0 ∧ StaticIs s "jdk/internal/util/Preconditions" "SIOOBE_FORMATTER" "Ljava/util/function/BiFunction;" fm ∧ fm.isRef = true
def E (f : Nat → Int32) (i : Nat) (r : Option Value) (s u : State) : Prop := XT.PureE (some (.int (f i))) r s u
/-- charAt(i) of a Latin-1 String of n chars, i < n: f i -/
theorem law (l : Launch) (x t : Addr) (V : Cell) (n : Nat) (f : Nat → Int32) (z : Int32) (fm : Value) (i : Nat) : Law l yN 2 1 3 40 yB 2 (some .char) site (P x t V n f z fm i) (E f i) [] 0 0 := by
  refine Law.of_walk (plainFor_of_name (by decide +kernel)) (by decide +kernel) (by decide +kernel) (by decide) (fun _ _ h => by rw [h.1]; rfl) (fun _ U U' hal hh h => ⟨h.1, h.2.1.mv hal hh, h.2.2.1, h.2.2.2.1.there hal hh, h.2.2.2.2.1, h.2.2.2.2.2.1.there hal hh, h.2.2.2.2.2.2⟩) (fun r U U' V V' h1 hal h2 h => XT.PureE.mv r U U' V V' h1 hal h2 h) ?_
  intro p e s m args below meth c s₁ X0 hexec hbytes hml hret hlk hnm hown hh0 W hP
  obtain ⟨rfl, hx, hi, s1, hz, s3, rf⟩ := hP
  have v31 := hx.2.2.2.1.2.2.2
  have hr := hx.2.2.2.2.2 i hi
  have hx0 := hx.mv X0.warmed.alike hh0
  have c1 : Steps p.tables e below (s₁.setTop (entryFrame m #[.ref x, .int (Int32.ofNat i)] 2)) (s₁.setTop (mkF m 1 #[.val (.ref x), .val (.int (Int32.ofNat i))] [.ref x])) := Steps.trans (entry rfl) (by
    show Steps p.tables e below (s₁.setTop (mkF m 0 #[.val (.ref x), .val (.int (Int32.ofNat i))] [])) _
    refine XS.aloadN X0.here hexec rfl (hb hbytes d0) rfl rfl ?_
    exact Steps.refl _)
  obtain ⟨v2, T2, X2, E2, g2⟩ := X0.callV hexec (IsL.law l x 0 z) hown (wks W (virtW "java/lang/String" 492 "java/lang/String" IsL.yN IsL.yN)) rfl (by decide) (wk W IsL.tab) (W := 0) (Nat.le_of_ble_eq_true rfl) (Nat.le_of_ble_eq_true rfl) (Nat.le_refl _) (Nat.le_refl _) (hx0.1.fc X0.warmed.alike) hx0.1.is (g := (mkF m 1 #[.val (.ref x), .val (.int (Int32.ofNat i))] [.ref x])) rfl (by rw [hml]; rfl) c1 (argsL := []) (rest := []) rfl rfl (by show 2 * 0 + 0 ≤ _; decide) (hb hbytes d1) (⟨rfl, hx0.2.2.1, hx.2.2.2.2.1.cd, s1.there X0.warmed.alike hh0, hz⟩)
  obtain ⟨rfl, q2⟩ := E2
  have hh2 := q2.trans hh0
  have hx2 := hx.mv X2.warmed.alike hh2
  obtain ⟨-, k1, k2⟩ | ⟨k0, -⟩ := hx.2.2.2.2.1
  · have c3 : Steps p.tables e below (s₁.setTop (entryFrame m #[.ref x, .int (Int32.ofNat i)] 2)) (T2.setTop (mkF m 8 #[.val (.ref x), .val (.int (Int32.ofNat i))] [.ref x])) := Steps.trans g2 (by
      refine XS.ifNo X2.here hexec rfl (hb hbytes d4) rfl (i0_eq_f (by decide)) ?_
      refine XS.aloadN X2.here hexec rfl (hb hbytes d7) rfl rfl ?_
      exact Steps.refl _)
    obtain ⟨T4, X4, q4, st4⟩ := X2.hget hexec hown (wk W (.fieldLink "java/lang/String" 9 "java/lang/String" "value" "[B")) hx2.2.1 (g := (mkF m 8 #[.val (.ref x), .val (.int (Int32.ofNat i))] [.ref x])) rfl (rest := []) rfl (hb hbytes d8)
    have hh4 := q4.trans hh2
    have c5 : Steps p.tables e below (s₁.setTop (entryFrame m #[.ref x, .int (Int32.ofNat i)] 2)) (T4.setTop (mkF m 12 #[.val (.ref x), .val (.int (Int32.ofNat i))] [.int (Int32.ofNat i), .ref t])) := (c3.trans (st4 _ (Steps.refl _))).trans (by
      refine XS.iloadN X4.here hexec rfl (hb hbytes d11) rfl ?_
      exact Steps.refl _)
    obtain ⟨v6, T6, X6, E6, g6⟩ := X4.callS hexec (LChA.law l t V i (lo8 (f i)) fm) hown (wks W (staticW "java/lang/String" 495 LChA.yN)) (wk W LChA.tab) (W := 0) (Nat.le_of_ble_eq_true rfl) (Nat.le_of_ble_eq_true rfl) (Nat.le_refl _) (Nat.le_refl _) (g := (mkF m 12 #[.val (.ref x), .val (.int (Int32.ofNat i))] [.int (Int32.ofNat i), .ref t])) rfl (by rw [hml]; rfl) c5 (argsL := [.ref t, .int (Int32.ofNat i)]) (rest := []) rfl rfl (by show 2 * 0 + 0 ≤ _; decide) (hb hbytes d12) (⟨rfl, hx.2.2.2.1.mv X4.warmed.alike hh4, (k2 i hi).1, s3.there X4.warmed.alike hh4, rf⟩)
    obtain ⟨rfl, q6⟩ := E6
    rw [chr8_lo8 hr.1 (k2 i hi).2] at g6
    exact ⟨T6, some (.int (f i)), _, _, _, X6, rfl, rfl, rfl, (fun h => by cases h), ⟨rfl, q6.trans hh4⟩, fun fs hl => Steps.trans g6 (X6.ireturnOut hexec hret (narrow_ch hr.1 hr.2) (Or.inr (Or.inr (Or.inr (Or.inl rfl)))) (hb hbytes d15) hl)⟩
  · exact absurd k0 (by decide)
theorem pays {l : Launch} {R : Room} {p : Program} {e : Env} {below : List Frame} {s : State} {sargs : Array Value} {len W : Nat} (x t : Addr) (V : Cell) (n : Nat) (f : Nat → Int32) (z : Int32) (fm : Value) (i : Nat) (htab : tab.before sargs s = true) (hfr : 4 ≤ R.frames) (hlo : W + 53 ≤ R.locals) :
    Back l R p e below s sargs yN len W (fun A₁ a₁ => A₁.cells + 0 ≤ R.cells ∧ A₁.slots + 0 ≤ R.slots ∧ P x t V n f z fm i a₁ A₁.U) (fun A₁ _ v₁ B₁ => E f i v₁ A₁.U B₁.U ∧ B₁.locs = A₁.locs ++ [] ∧ B₁.cells = A₁.cells + 0 ∧ B₁.slots = A₁.slots + 0) :=
  (law l x t V n f z fm i).pays htab hfr (by omega)
end ChN
end StrChars
namespace StrChars.Road
open Jvm Sem ClassFile Op Lib Jvm.Stand Jvm.Free Jvm.Free.XT
open Jvm.Lib.Cold (StaticIs)
/-- the words of String.charAt(int), the Latin-1 road alone -/
abbrev wordsChN : List Jvm.Cond := [.code ChN.yN ChN.yB 2 (some .char), .initialized ST, .fieldLink ST 9 ST "value" "[B", .fieldLink ST 38 ST "COMPACT_STRINGS" "Z", .fieldLink ST 15 ST "coder" "B", .code IsL.yN IsL.yB 1 (some .boolean), .methodLink ST 492 IsL.yN, .declares IsL.yN, .selects ST IsL.yN IsL.yN, .instanceMethod IsL.yN,
  .methodLink ST 495 LChA.yN, .static LChA.yN, .code LChA.yN LChA.yB 2 (some .char), .initialized "java/lang/StringLatin1", .methodLink "java/lang/StringLatin1" 9 JO.Str_checkIndex.yN, .static JO.Str_checkIndex.yN, .code JO.Str_checkIndex.yN JO.Str_checkIndex.yB 2 none,
  .fieldLink ST 1053 "jdk/internal/util/Preconditions" "SIOOBE_FORMATTER" "Ljava/util/function/BiFunction;", .methodLink ST 1059 JC.PreCheck.yN, .static JC.PreCheck.yN, .code JC.PreCheck.yN JC.PreCheck.yB 3 (some .int), .initialized "jdk/internal/util/Preconditions"]
theorem tabChN_of {a : Array Value} {s : State} (h : ∀ w ∈ wordsChN, w.before a s = true) : ChN.tab.before a s = true := by
  have hp : JC.PreCheck.tab.before a s = true := unparts (wk h (.code JC.PreCheck.yN JC.PreCheck.yB 3 (some .int))) (wks h (.initialized JC.PreCheck.yN.cls :: JC.PreCheck.site))
  have qk := consq hp h
  have hk : JO.Str_checkIndex.tab.before a s = true := unparts (wk qk (.code JO.Str_checkIndex.yN JO.Str_checkIndex.yB 2 none)) (wks qk (.initialized JO.Str_checkIndex.yN.cls :: JO.Str_checkIndex.site))
  have ql := consq hk h
  have hl : LChA.tab.before a s = true := unparts (wk ql (.code LChA.yN LChA.yB 2 (some .char))) (wks ql (.initialized LChA.yN.cls :: LChA.site))
  have hi : IsL.tab.before a s = true := unparts (wk h (.code IsL.yN IsL.yB 1 (some .boolean))) (wks h (.initialized IsL.yN.cls :: IsL.site))
  have q := consq hi (consq hl h)
  exact unparts (wk q (.code ChN.yN ChN.yB 2 (some .char))) (wks q (.initialized ChN.yN.cls :: ChN.site))
theorem movedChN {Z s : State} {a0 args : Array Value} (hZ : Z.Warmed39 s.vm) (hw : ∀ d ∈ wordsChN, d.before a0 Z = true) : ∀ d ∈ wordsChN, d.before args s = true := fun d hd => by
  have t : ∀ d ∈ wordsChN, (d.onTables && d.keepsFace) = true := by decide +kernel
  exact RoadKit.mv hZ (hw d hd) (t d hd)
/-- **charAt(i) OF A LATIN-1 STRING**, i < n: the char -/
theorem chN {p : Program} {l : Launch} {e : Env} {R : Room} {s : State} {args : Array Value} {below : List Frame} {len W : Nat} {Z : State} {a0 : Array Value} {h : Heap} (hZ : Z.Warmed39 s.vm) (hw : ∀ d ∈ wordsChN, d.before a0 Z = true) {kI : Nat} (wi : (Jvm.Cond.instantiable ST kI).before a0 Z = true)
    {x t : Addr} {kb : ClassId} {cs : List Int32} {N2 z : Int32} {vs : List Value} {fm : Value} {i : Nat} {j : Int32} (E : RoadKit.Exa Z h x ST) (V : RoadKit.Fld Z h x ST "value" "[B" (.ref t)) (C : RoadKit.Fld Z h x ST "coder" "B" (.int 0)) (K : RoadKit.Arv Z h t kb .byte N2 vs (.int 0)) (hc : CodA cs 0 N2 vs) (hb : ∀ c ∈ cs, ¬ c < 0 ∧ ¬ (65535 : Int32) < c)
    (S : RoadKit.Sta Z h ST "COMPACT_STRINGS" "Z" (.int z)) (hz : ¬ z = 0) (F : RoadKit.Sta Z h "jdk/internal/util/Preconditions" "SIOOBE_FORMATTER" "Ljava/util/function/BiFunction;" fm) (rf : fm.isRef = true) (l2 : cs.length ≤ 4000) (hi : i < cs.length) (hj : j = Int32.ofNat i) (hfr : 4 ≤ R.frames) (hlo : W + 53 ≤ R.locals) :
    Back l R p e below s args (⟨"java/lang/String", "charAt", "(I)C"⟩ : MethodName) len W (fun P a => a = #[.ref x, .int j] ∧ P.U.heap = h ∧ P.cells + 0 ≤ R.cells ∧ P.slots + 0 ≤ R.slots)
      (fun P _ v B => ∃ L, (v = some (.int (cs.getD i 0)) ∧ L = [] ∧ B.U.heap = h) ∧ B.locs = P.locs ++ L ∧ B.cells = P.cells + 0 ∧ B.slots = P.slots + 0) := by
  subst hj
  intro m meth c P g ig mk a X hg hsize hdg hW hn hp'
  obtain ⟨rfl, rfl, r1, r2⟩ := hp'
  have al : Z.vm.Alike P.U.vm := hZ.alike.trans X.warmed.alike
  obtain ⟨A, hx⟩ := txt_of wi al E V C K hc hb l2
  obtain ⟨v, B, X', ⟨⟨hv, hh⟩, hl, hk, hs⟩, st⟩ := ChN.pays x t A cs.length (fun j => cs.getD j 0) z fm i (tabChN_of (movedChN hZ hw)) hfr hlo m meth c P g ig mk _ X hg hsize hdg hW hn ⟨r1, r2, rfl, hx, hi, sta_is al S, hz, sta_is al F, rf⟩
  exact ⟨v, B, X', ⟨[], ⟨hv, rfl, hh⟩, hl, hk, hs⟩, st⟩
/-- what backV says of its String, as the contracts of this text ask it: cs's low bytes, coder 0 -/
theorem codOf {cs : List Int32} {n : Nat} (hn : cs.length = n) (hb : ∀ c ∈ cs, ¬ 255 < c) : CodA cs 0 (Int32.ofNat n) ((cs.map lo8).map Value.int) := Or.inl ⟨rfl, by rw [hn], by simp [List.map_map, Function.comp_def], hb⟩
end StrChars.Road
end Jvm.Pilot.@@N@@
namespace Jvm.Pilot.@@N@@
open Jvm Jvm.ClassFile Sem Op Lib Jvm.Free Jvm.Stand Jvm.LawKit Jvm.RoadKit Bundle Jvm.Pilot.@@N@@.Jvm.D
section OwnGo
variable {p : Program} {e : Env} {below : List Frame} {F : State → Outcome → Prop} {m : MethodId} {c : Code} {T U V : State} {pc pc' pc2 : Nat} {Ls L' : Array Slot} {st : List Value}
/-- from here the walk comes to an end that F takes -/
def own_Go (p : Program) (e : Env) (below : List Frame) (F : State → Outcome → Prop) (U : State) : Prop := ∃ (t : State) (o : Outcome), Steps p.tables e below U t ∧ t.status = .running ∧ Ended t below o ∧ F t o
theorem own_on (h : ∀ t, Steps p.tables e below V t → Steps p.tables e below U t) (g : own_Go p e below F V) : own_Go p e below F U := by
  obtain ⟨t, o, h1, r⟩ := g; exact ⟨t, o, h t h1, r⟩
theorem own_to (h : Steps p.tables e below U V) (g : own_Go p e below F V) : own_Go p e below F U := by
  obtain ⟨t, o, h1, r⟩ := g; exact ⟨t, o, h.trans h1, r⟩
theorem own_aload_n (h : At T m c below) (hx : p.tables.exec = Jvm.exec) {k : Fin 4} {v : Value} (hd : decode c.code pc = .ok (.aload_n k, 1)) (hl : Ls[k.val]? = some (.val v)) (hv : v.isRef = true) (hp : pc + 1 = pc') (K : own_Go p e below F (T.setTop (mkF m pc' Ls (v :: st)))) : own_Go p e below F (T.setTop (mkF m pc Ls st)) := by
  subst hp; exact own_on (fun _ => XS.aloadN h hx rfl hd hl hv) K
theorem own_aload (h : At T m c below) (hx : p.tables.exec = Jvm.exec) {k : Nat} {v : Value} (hd : decode c.code pc = .ok (.aload k, 2)) (hl : Ls[k]? = some (.val v)) (hv : v.isRef = true) (hp : pc + 2 = pc') (K : own_Go p e below F (T.setTop (mkF m pc' Ls (v :: st)))) : own_Go p e below F (T.setTop (mkF m pc Ls st)) := by
  subst hp; exact own_on (fun _ => XS.aload h hx rfl hd hl hv) K
theorem own_iload_n (h : At T m c below) (hx : p.tables.exec = Jvm.exec) {k : Fin 4} {v : Int32} (hd : decode c.code pc = .ok (.iload_n k, 1)) (hl : Ls[k.val]? = some (.val (.int v))) (hp : pc + 1 = pc') (K : own_Go p e below F (T.setTop (mkF m pc' Ls (.int v :: st)))) : own_Go p e below F (T.setTop (mkF m pc Ls st)) := by
  subst hp; exact own_on (fun _ => XS.iloadN h hx rfl hd hl) K
theorem own_iload (h : At T m c below) (hx : p.tables.exec = Jvm.exec) {k : Nat} {v : Int32} (hd : decode c.code pc = .ok (.iload k, 2)) (hl : Ls[k]? = some (.val (.int v))) (hp : pc + 2 = pc') (K : own_Go p e below F (T.setTop (mkF m pc' Ls (.int v :: st)))) : own_Go p e below F (T.setTop (mkF m pc Ls st)) := by
  subst hp; exact own_on (fun _ => XS.iload h hx rfl hd hl) K
theorem own_lload_n (h : At T m c below) (hx : p.tables.exec = Jvm.exec) {k : Fin 4} {v : Int64} (hd : decode c.code pc = .ok (.lload_n k, 1)) (hl : Ls[k.val]? = some (.val (.long v))) (hp : pc + 1 = pc') (K : own_Go p e below F (T.setTop (mkF m pc' Ls (.long v :: st)))) : own_Go p e below F (T.setTop (mkF m pc Ls st)) := by
  subst hp; exact own_on (fun _ => XT.lloadN h hx rfl hd hl) K
theorem own_lload (h : At T m c below) (hx : p.tables.exec = Jvm.exec) {k : Nat} {v : Int64} (hd : decode c.code pc = .ok (.lload k, 2)) (hl : Ls[k]? = some (.val (.long v))) (hp : pc + 2 = pc') (K : own_Go p e below F (T.setTop (mkF m pc' Ls (.long v :: st)))) : own_Go p e below F (T.setTop (mkF m pc Ls st)) := by
  subst hp; exact own_on (fun _ => XT.lload h hx rfl hd hl) K
theorem own_dload_n (h : At T m c below) (hx : p.tables.exec = Jvm.exec) {k : Fin 4} {v : UInt64} (hd : decode c.code pc = .ok (.dload_n k, 1)) (hl : Ls[k.val]? = some (.val (.double v))) (hp : pc + 1 = pc') (K : own_Go p e below F (T.setTop (mkF m pc' Ls (.double v :: st)))) : own_Go p e below F (T.setTop (mkF m pc Ls st)) := by
  subst hp; exact own_on (fun _ => XS.dloadN h hx rfl hd hl) K
theorem own_dload (h : At T m c below) (hx : p.tables.exec = Jvm.exec) {k : Nat} {v : UInt64} (hd : decode c.code pc = .ok (.dload k, 2)) (hl : Ls[k]? = some (.val (.double v))) (hp : pc + 2 = pc') (K : own_Go p e below F (T.setTop (mkF m pc' Ls (.double v :: st)))) : own_Go p e below F (T.setTop (mkF m pc Ls st)) := by
  subst hp; exact own_on (fun _ => XS.dload h hx rfl hd hl) K
theorem own_iconst (h : At T m c below) (hx : p.tables.exec = Jvm.exec) {i : Int} {v : Int32} (hd : decode c.code pc = .ok (.iconst i, 1)) (hv : Int32.ofInt i = v) (hp : pc + 1 = pc') (K : own_Go p e below F (T.setTop (mkF m pc' Ls (.int v :: st)))) : own_Go p e below F (T.setTop (mkF m pc Ls st)) := by
  subst hp hv; exact own_on (fun _ => XS.iconst h hx rfl hd) K
theorem own_bipush (h : At T m c below) (hx : p.tables.exec = Jvm.exec) {i : Int} {v : Int32} (hd : decode c.code pc = .ok (.bipush i, 2)) (hv : (Int8.ofInt i).toInt32 = v) (hp : pc + 2 = pc') (K : own_Go p e below F (T.setTop (mkF m pc' Ls (.int v :: st)))) : own_Go p e below F (T.setTop (mkF m pc Ls st)) := by
  subst hp hv; exact own_on (fun _ => XS.bipush h hx rfl hd) K
theorem own_sipush (h : At T m c below) (hx : p.tables.exec = Jvm.exec) {i : Int} {v : Int32} (hd : decode c.code pc = .ok (.sipush i, 3)) (hv : (Int16.ofInt i).toInt32 = v) (hp : pc + 3 = pc') (K : own_Go p e below F (T.setTop (mkF m pc' Ls (.int v :: st)))) : own_Go p e below F (T.setTop (mkF m pc Ls st)) := by
  subst hp hv; exact own_on (fun _ => XS.sipush h hx rfl hd) K
theorem own_lconst (h : At T m c below) (hx : p.tables.exec = Jvm.exec) {k : Fin 2} {v : Int64} (hd : decode c.code pc = .ok (.lconst k, 1)) (hv : Int64.ofNat k = v) (hp : pc + 1 = pc') (K : own_Go p e below F (T.setTop (mkF m pc' Ls (.long v :: st)))) : own_Go p e below F (T.setTop (mkF m pc Ls st)) := by
  subst hp hv; exact own_on (fun _ => XT.lconst h hx rfl hd) K
theorem own_aconst_null (h : At T m c below) (hx : p.tables.exec = Jvm.exec) (hd : decode c.code pc = .ok (.aconst_null, 1)) (hp : pc + 1 = pc') (K : own_Go p e below F (T.setTop (mkF m pc' Ls (.null :: st)))) : own_Go p e below F (T.setTop (mkF m pc Ls st)) := by
  subst hp; exact own_on (fun _ => XS.aconstNull h hx rfl hd) K
theorem own_iadd (h : At T m c below) (hx : p.tables.exec = Jvm.exec) {x y : Int32} (hd : decode c.code pc = .ok (.iadd, 1)) (hp : pc + 1 = pc') (K : own_Go p e below F (T.setTop (mkF m pc' Ls (.int (x + y) :: st)))) : own_Go p e below F (T.setTop (mkF m pc Ls (.int y :: .int x :: st))) := by
  subst hp; exact own_on (fun _ => XS.iadd h hx rfl hd rfl) K
theorem own_isub (h : At T m c below) (hx : p.tables.exec = Jvm.exec) {x y : Int32} (hd : decode c.code pc = .ok (.isub, 1)) (hp : pc + 1 = pc') (K : own_Go p e below F (T.setTop (mkF m pc' Ls (.int (x - y) :: st)))) : own_Go p e below F (T.setTop (mkF m pc Ls (.int y :: .int x :: st))) := by
  subst hp; exact own_on (fun _ => XS.isub h hx rfl hd rfl) K
theorem own_imul (h : At T m c below) (hx : p.tables.exec = Jvm.exec) {x y : Int32} (hd : decode c.code pc = .ok (.imul, 1)) (hp : pc + 1 = pc') (K : own_Go p e below F (T.setTop (mkF m pc' Ls (.int (x * y) :: st)))) : own_Go p e below F (T.setTop (mkF m pc Ls (.int y :: .int x :: st))) := by
  subst hp; exact own_on (fun _ => XS.imul h hx rfl hd rfl) K
theorem own_irem (h : At T m c below) (hx : p.tables.exec = Jvm.exec) {x y : Int32} (hd : decode c.code pc = .ok (.irem, 1)) (hy : y ≠ 0) (hp : pc + 1 = pc') (K : own_Go p e below F (T.setTop (mkF m pc' Ls (.int (x % y) :: st)))) : own_Go p e below F (T.setTop (mkF m pc Ls (.int y :: .int x :: st))) := by
  subst hp; exact own_on (fun _ hr => XS.irem h hx rfl hd rfl hy (by rw [show x - x / y * y = x % y from irem_eq_mod x y]; exact hr)) K
theorem own_iand (h : At T m c below) (hx : p.tables.exec = Jvm.exec) {x y : Int32} (hd : decode c.code pc = .ok (.iand, 1)) (hp : pc + 1 = pc') (K : own_Go p e below F (T.setTop (mkF m pc' Ls (.int (x &&& y) :: st)))) : own_Go p e below F (T.setTop (mkF m pc Ls (.int y :: .int x :: st))) := by
  subst hp; exact own_on (fun _ => XS.iand h hx rfl hd rfl) K
theorem own_ior (h : At T m c below) (hx : p.tables.exec = Jvm.exec) {x y : Int32} (hd : decode c.code pc = .ok (.ior, 1)) (hp : pc + 1 = pc') (K : own_Go p e below F (T.setTop (mkF m pc' Ls (.int (x ||| y) :: st)))) : own_Go p e below F (T.setTop (mkF m pc Ls (.int y :: .int x :: st))) := by
  subst hp; exact own_on (fun _ => XT.ior h hx rfl hd rfl) K
theorem own_ishl (h : At T m c below) (hx : p.tables.exec = Jvm.exec) {x y : Int32} (hd : decode c.code pc = .ok (.ishl, 1)) (hp : pc + 1 = pc') (K : own_Go p e below F (T.setTop (mkF m pc' Ls (.int (x <<< (y &&& 31)) :: st)))) : own_Go p e below F (T.setTop (mkF m pc Ls (.int y :: .int x :: st))) := by
  subst hp; exact own_on (fun _ => XT.ishl h hx rfl hd rfl) K
theorem own_ishr (h : At T m c below) (hx : p.tables.exec = Jvm.exec) {x y : Int32} (hd : decode c.code pc = .ok (.ishr, 1)) (hp : pc + 1 = pc') (K : own_Go p e below F (T.setTop (mkF m pc' Ls (.int (x >>> (y &&& 31)) :: st)))) : own_Go p e below F (T.setTop (mkF m pc Ls (.int y :: .int x :: st))) := by
  subst hp; exact own_on (fun _ => XT.ishr h hx rfl hd rfl) K
theorem own_iushr (h : At T m c below) (hx : p.tables.exec = Jvm.exec) {x y : Int32} (hd : decode c.code pc = .ok (.iushr, 1)) (hp : pc + 1 = pc') (K : own_Go p e below F (T.setTop (mkF m pc' Ls (.int (XT.ushr x y) :: st)))) : own_Go p e below F (T.setTop (mkF m pc Ls (.int y :: .int x :: st))) := by
  subst hp; exact own_on (fun _ => XT.iushr h hx rfl hd rfl) K
theorem own_i2l (h : At T m c below) (hx : p.tables.exec = Jvm.exec) {x : Int32} (hd : decode c.code pc = .ok (.i2l, 1)) (hp : pc + 1 = pc') (K : own_Go p e below F (T.setTop (mkF m pc' Ls (.long x.toInt64 :: st)))) : own_Go p e below F (T.setTop (mkF m pc Ls (.int x :: st))) := by
  subst hp; exact own_on (fun _ => XT.i2l h hx rfl hd rfl) K
theorem own_l2i (h : At T m c below) (hx : p.tables.exec = Jvm.exec) {x : Int64} (hd : decode c.code pc = .ok (.l2i, 1)) (hp : pc + 1 = pc') (K : own_Go p e below F (T.setTop (mkF m pc' Ls (.int x.toInt32 :: st)))) : own_Go p e below F (T.setTop (mkF m pc Ls (.long x :: st))) := by
  subst hp; exact own_on (fun _ => XT.l2i h hx rfl hd rfl) K
/-- (char) x -/
def own_c (x : Int32) : Int32 := x.toUInt32.toUInt16.toUInt32.toInt32
theorem own_i2c (h : At T m c below) (hx : p.tables.exec = Jvm.exec) {x : Int32} (hd : decode c.code pc = .ok (.i2c, 1)) (hp : pc + 1 = pc') (K : own_Go p e below F (T.setTop (mkF m pc' Ls (.int (own_c x) :: st)))) : own_Go p e below F (T.setTop (mkF m pc Ls (.int x :: st))) := by
  subst hp; exact own_on (fun _ => XT.i2c h hx rfl hd rfl) K
theorem own_i2b (h : At T m c below) (hx : p.tables.exec = Jvm.exec) {x : Int32} (hd : decode c.code pc = .ok (.i2b, 1)) (hp : pc + 1 = pc') (K : own_Go p e below F (T.setTop (mkF m pc' Ls (.int x.toInt8.toInt32 :: st)))) : own_Go p e below F (T.setTop (mkF m pc Ls (.int x :: st))) := by
  subst hp; exact own_on (fun _ => XT.i2b h hx rfl hd rfl) K
theorem own_i2d (h : At T m c below) (hx : p.tables.exec = Jvm.exec) {x : Int32} (hd : decode c.code pc = .ok (.i2d, 1)) (hp : pc + 1 = pc') (K : own_Go p e below F (T.setTop (mkF m pc' Ls (.double (FP.i2d x) :: st)))) : own_Go p e below F (T.setTop (mkF m pc Ls (.int x :: st))) := by
  subst hp; exact own_on (fun _ => XS.i2dS h hx rfl hd rfl rfl) K
theorem own_l2d (h : At T m c below) (hx : p.tables.exec = Jvm.exec) {x : Int64} (hd : decode c.code pc = .ok (.l2d, 1)) (hp : pc + 1 = pc') (K : own_Go p e below F (T.setTop (mkF m pc' Ls (.double (FP.l2d x) :: st)))) : own_Go p e below F (T.setTop (mkF m pc Ls (.long x :: st))) := by
  subst hp; exact own_on (fun _ => XS.l2dS h hx rfl hd rfl rfl) K
theorem own_dneg (h : At T m c below) (hx : p.tables.exec = Jvm.exec) {x : UInt64} (hd : decode c.code pc = .ok (.dneg, 1)) (hp : pc + 1 = pc') (K : own_Go p e below F (T.setTop (mkF m pc' Ls (.double (FP.dneg x) :: st)))) : own_Go p e below F (T.setTop (mkF m pc Ls (.double x :: st))) := by
  subst hp; exact own_on (fun _ => XS.dnegS h hx rfl hd rfl rfl) K
theorem own_dcmp (h : At T m c below) (hx : p.tables.exec = Jvm.exec) {o : CmpOp} {x y : UInt64} {v : Int32} (hd : decode c.code pc = .ok (.dcmp o, 1)) (hv : cmpValue (FP.dcmp x y) o = v) (hp : pc + 1 = pc') (K : own_Go p e below F (T.setTop (mkF m pc' Ls (.int v :: st)))) : own_Go p e below F (T.setTop (mkF m pc Ls (.double y :: .double x :: st))) := by
  subst hp; exact own_on (fun _ => XS.dcmpS h hx rfl hd rfl hv) K
theorem own_dmul (h : At T m c below) (hx : p.tables.exec = Jvm.exec) {x y : UInt64} (hd : decode c.code pc = .ok (.dmul, 1)) (hn : Jvm.Free.Fl.NoNaN64 (FP.dmul x y)) (hp : pc + 1 = pc') (K : own_Go p e below F (T.setTop (mkF m pc' Ls (.double (FP.dmul x y) :: st)))) : own_Go p e below F (T.setTop (mkF m pc Ls (.double y :: .double x :: st))) := by
  subst hp; exact own_on (fun _ => XS.dmulS h hx rfl hd rfl hn rfl) K
theorem own_ddiv (h : At T m c below) (hx : p.tables.exec = Jvm.exec) {x y : UInt64} (hd : decode c.code pc = .ok (.ddiv, 1)) (hn : Jvm.Free.Fl.NoNaN64 (FP.ddiv x y)) (hp : pc + 1 = pc') (K : own_Go p e below F (T.setTop (mkF m pc' Ls (.double (FP.ddiv x y) :: st)))) : own_Go p e below F (T.setTop (mkF m pc Ls (.double y :: .double x :: st))) := by
  subst hp; exact own_on (fun _ => XS.ddivS h hx rfl hd rfl hn rfl) K
theorem own_ladd (h : At T m c below) (hx : p.tables.exec = Jvm.exec) {x y : Int64} (hd : decode c.code pc = .ok (.ladd, 1)) (hp : pc + 1 = pc') (K : own_Go p e below F (T.setTop (mkF m pc' Ls (.long (x + y) :: st)))) : own_Go p e below F (T.setTop (mkF m pc Ls (.long y :: .long x :: st))) := by
  subst hp; exact own_on (fun _ => XT.ladd h hx rfl hd rfl) K
theorem own_lsub (h : At T m c below) (hx : p.tables.exec = Jvm.exec) {x y : Int64} (hd : decode c.code pc = .ok (.lsub, 1)) (hp : pc + 1 = pc') (K : own_Go p e below F (T.setTop (mkF m pc' Ls (.long (x - y) :: st)))) : own_Go p e below F (T.setTop (mkF m pc Ls (.long y :: .long x :: st))) := by
  subst hp; exact own_on (fun _ => XT.lsub h hx rfl hd rfl) K
theorem own_lmul (h : At T m c below) (hx : p.tables.exec = Jvm.exec) {x y : Int64} (hd : decode c.code pc = .ok (.lmul, 1)) (hp : pc + 1 = pc') (K : own_Go p e below F (T.setTop (mkF m pc' Ls (.long (x * y) :: st)))) : own_Go p e below F (T.setTop (mkF m pc Ls (.long y :: .long x :: st))) := by
  subst hp; exact own_on (fun _ => XT.lmul h hx rfl hd rfl) K
theorem own_land (h : At T m c below) (hx : p.tables.exec = Jvm.exec) {x y : Int64} (hd : decode c.code pc = .ok (.land, 1)) (hp : pc + 1 = pc') (K : own_Go p e below F (T.setTop (mkF m pc' Ls (.long (x &&& y) :: st)))) : own_Go p e below F (T.setTop (mkF m pc Ls (.long y :: .long x :: st))) := by
  subst hp; exact own_on (fun _ => XT.land h hx rfl hd rfl) K
theorem own_lneg (h : At T m c below) (hx : p.tables.exec = Jvm.exec) {x : Int64} (hd : decode c.code pc = .ok (.lneg, 1)) (hp : pc + 1 = pc') (K : own_Go p e below F (T.setTop (mkF m pc' Ls (.long (-x) :: st)))) : own_Go p e below F (T.setTop (mkF m pc Ls (.long x :: st))) := by
  subst hp; exact own_on (fun _ => XT.lneg h hx rfl hd rfl) K
theorem own_lushr (h : At T m c below) (hx : p.tables.exec = Jvm.exec) {x : Int64} {y : Int32} (hd : decode c.code pc = .ok (.lushr, 1)) (hp : pc + 1 = pc') (K : own_Go p e below F (T.setTop (mkF m pc' Ls (.long (XT.ushrL x y) :: st)))) : own_Go p e below F (T.setTop (mkF m pc Ls (.int y :: .long x :: st))) := by
  subst hp; exact own_on (fun _ => XT.lushr h hx rfl hd rfl) K
theorem own_lcmp (h : At T m c below) (hx : p.tables.exec = Jvm.exec) {x y : Int64} (hd : decode c.code pc = .ok (.lcmp, 1)) (hp : pc + 1 = pc') (K : own_Go p e below F (T.setTop (mkF m pc' Ls (.int (XT.cmpL x y) :: st)))) : own_Go p e below F (T.setTop (mkF m pc Ls (.long y :: .long x :: st))) := by
  subst hp; exact own_on (fun _ => XT.lcmp h hx rfl hd rfl) K
theorem own_dup (h : At T m c below) (hx : p.tables.exec = Jvm.exec) {x : Value} (hd : decode c.code pc = .ok (.dup, 1)) (hc : x.category = 1) (hp : pc + 1 = pc') (K : own_Go p e below F (T.setTop (mkF m pc' Ls (x :: x :: st)))) : own_Go p e below F (T.setTop (mkF m pc Ls (x :: st))) := by
  subst hp; exact own_on (fun _ => XS.dup h hx rfl hd rfl hc) K
theorem own_pop (h : At T m c below) (hx : p.tables.exec = Jvm.exec) {x : Value} (hd : decode c.code pc = .ok (.pop, 1)) (hc : x.category = 1) (hp : pc + 1 = pc') (K : own_Go p e below F (T.setTop (mkF m pc' Ls st))) : own_Go p e below F (T.setTop (mkF m pc Ls (x :: st))) := by
  subst hp; exact own_on (fun _ => XT.pop h hx rfl hd rfl hc) K
theorem own_istore_n (h : At T m c below) (hx : p.tables.exec = Jvm.exec) {k : Fin 4} {x : Int32} (hd : decode c.code pc = .ok (.istore_n k, 1)) (hl : storeLocals Ls k.val (.int x) = some L') (hp : pc + 1 = pc') (K : own_Go p e below F (T.setTop (mkF m pc' L' st))) : own_Go p e below F (T.setTop (mkF m pc Ls (.int x :: st))) := by
  subst hp; exact own_on (fun _ => XS.istoreN h hx rfl hd rfl hl) K
theorem own_istore (h : At T m c below) (hx : p.tables.exec = Jvm.exec) {k : Nat} {x : Int32} (hd : decode c.code pc = .ok (.istore k, 2)) (hl : storeLocals Ls k (.int x) = some L') (hp : pc + 2 = pc') (K : own_Go p e below F (T.setTop (mkF m pc' L' st))) : own_Go p e below F (T.setTop (mkF m pc Ls (.int x :: st))) := by
  subst hp; exact own_on (fun _ => XS.istore h hx rfl hd rfl hl) K
theorem own_astore_n (h : At T m c below) (hx : p.tables.exec = Jvm.exec) {k : Fin 4} {x : Value} (hd : decode c.code pc = .ok (.astore_n k, 1)) (hv : x.isRef = true) (hl : storeLocals Ls k.val x = some L') (hp : pc + 1 = pc') (K : own_Go p e below F (T.setTop (mkF m pc' L' st))) : own_Go p e below F (T.setTop (mkF m pc Ls (x :: st))) := by
  subst hp; exact own_on (fun _ => XS.astoreN h hx rfl hd rfl hv hl) K
theorem own_astore (h : At T m c below) (hx : p.tables.exec = Jvm.exec) {k : Nat} {x : Value} (hd : decode c.code pc = .ok (.astore k, 2)) (hv : x.isRef = true) (hl : storeLocals Ls k x = some L') (hp : pc + 2 = pc') (K : own_Go p e below F (T.setTop (mkF m pc' L' st))) : own_Go p e below F (T.setTop (mkF m pc Ls (x :: st))) := by
  subst hp; exact own_on (fun _ => XS.astore h hx rfl hd rfl hv hl) K
theorem own_lstore_n (h : At T m c below) (hx : p.tables.exec = Jvm.exec) {k : Fin 4} {x : Int64} (hd : decode c.code pc = .ok (.lstore_n k, 1)) (hl : storeLocals Ls k.val (.long x) = some L') (hp : pc + 1 = pc') (K : own_Go p e below F (T.setTop (mkF m pc' L' st))) : own_Go p e below F (T.setTop (mkF m pc Ls (.long x :: st))) := by
  subst hp; exact own_on (fun _ => XT.lstoreN h hx rfl hd rfl hl) K
theorem own_lstore (h : At T m c below) (hx : p.tables.exec = Jvm.exec) {k : Nat} {x : Int64} (hd : decode c.code pc = .ok (.lstore k, 2)) (hl : storeLocals Ls k (.long x) = some L') (hp : pc + 2 = pc') (K : own_Go p e below F (T.setTop (mkF m pc' L' st))) : own_Go p e below F (T.setTop (mkF m pc Ls (.long x :: st))) := by
  subst hp; exact own_on (fun _ => XT.lstore h hx rfl hd rfl hl) K
theorem own_dstore (h : At T m c below) (hx : p.tables.exec = Jvm.exec) {k : Nat} {x : UInt64} (hd : decode c.code pc = .ok (.dstore k, 2)) (hl : storeLocals Ls k (.double x) = some L') (hp : pc + 2 = pc') (K : own_Go p e below F (T.setTop (mkF m pc' L' st))) : own_Go p e below F (T.setTop (mkF m pc Ls (.double x :: st))) := by
  subst hp; exact own_on (fun _ => XS.dstore h hx rfl hd rfl hl) K
theorem own_iinc (h : At T m c below) (hx : p.tables.exec = Jvm.exec) {k : Nat} {i : Int} {x y : Int32} (hd : decode c.code pc = .ok (.iinc k i, 3)) (hl : Ls[k]? = some (.val (.int x))) (hy : x + Int32.ofInt i = y) (hl' : storeLocals Ls k (.int y) = some L') (hp : pc + 3 = pc') (K : own_Go p e below F (T.setTop (mkF m pc' L' st))) : own_Go p e below F (T.setTop (mkF m pc Ls st)) := by
  subst hp hy; exact own_on (fun _ => XS.iinc h hx rfl hd hl hl') K
theorem own_goto (h : At T m c below) (hx : p.tables.exec = Jvm.exec) {o : Int} (hd : decode c.code pc = .ok (.goto o, 3)) (ho : 0 ≤ (pc : Int) + o) (hp : ((pc : Int) + o).toNat = pc') (K : own_Go p e below F (T.setTop (mkF m pc' Ls st))) : own_Go p e below F (T.setTop (mkF m pc Ls st)) :=
  own_on (fun _ => XS.goto h hx rfl rfl hd ho hp) K
theorem own_if (h : At T m c below) (hx : p.tables.exec = Jvm.exec) {cd : ClassFile.Cond} {x : Int32} {o : Int} (hd : decode c.code pc = .ok (.ifCond cd o, 3)) (ho : 0 ≤ (pc : Int) + o) (hp : ((pc : Int) + o).toNat = pc') (hp2 : pc + 3 = pc2)
    (Y : ifCond.holds cd x = true → own_Go p e below F (T.setTop (mkF m pc' Ls st))) (N : ifCond.holds cd x = false → own_Go p e below F (T.setTop (mkF m pc2 Ls st))) : own_Go p e below F (T.setTop (mkF m pc Ls (.int x :: st))) := by
  subst hp2
  cases hc : ifCond.holds cd x with
  | true => exact own_on (fun _ => XS.ifYes h hx rfl rfl hd rfl hc ho hp) (Y hc)
  | false => exact own_on (fun _ => XS.ifNo h hx rfl hd rfl hc) (N hc)
theorem own_icmp (h : At T m c below) (hx : p.tables.exec = Jvm.exec) {cd : ClassFile.Cond} {x y : Int32} {o : Int} (hd : decode c.code pc = .ok (.if_icmp cd o, 3)) (ho : 0 ≤ (pc : Int) + o) (hp : ((pc : Int) + o).toNat = pc') (hp2 : pc + 3 = pc2)
    (Y : if_icmp.holds cd x y = true → own_Go p e below F (T.setTop (mkF m pc' Ls st))) (N : if_icmp.holds cd x y = false → own_Go p e below F (T.setTop (mkF m pc2 Ls st))) : own_Go p e below F (T.setTop (mkF m pc Ls (.int y :: .int x :: st))) := by
  subst hp2
  cases hc : if_icmp.holds cd x y with
  | true => exact own_on (fun _ => XS.icmpYes h hx rfl rfl hd rfl hc ho hp) (Y hc)
  | false => exact own_on (fun _ => XS.icmpNo h hx rfl hd rfl hc) (N hc)
theorem own_ifeq (h : At T m c below) (hx : p.tables.exec = Jvm.exec) {x : Int32} {o : Int} (hd : decode c.code pc = .ok (.ifCond .eq o, 3)) (ho : 0 ≤ (pc : Int) + o) (hp : ((pc : Int) + o).toNat = pc') (hp2 : pc + 3 = pc2)
    (Y : x = 0 → own_Go p e below F (T.setTop (mkF m pc' Ls st))) (N : ¬ x = 0 → own_Go p e below F (T.setTop (mkF m pc2 Ls st))) : own_Go p e below F (T.setTop (mkF m pc Ls (.int x :: st))) :=
  own_if h hx hd ho hp hp2 (fun q => Y (by simpa [ifCond.holds] using q)) (fun q => N (by simpa [ifCond.holds] using q))
theorem own_ifne (h : At T m c below) (hx : p.tables.exec = Jvm.exec) {x : Int32} {o : Int} (hd : decode c.code pc = .ok (.ifCond .ne o, 3)) (ho : 0 ≤ (pc : Int) + o) (hp : ((pc : Int) + o).toNat = pc') (hp2 : pc + 3 = pc2)
    (Y : ¬ x = 0 → own_Go p e below F (T.setTop (mkF m pc' Ls st))) (N : x = 0 → own_Go p e below F (T.setTop (mkF m pc2 Ls st))) : own_Go p e below F (T.setTop (mkF m pc Ls (.int x :: st))) :=
  own_if h hx hd ho hp hp2 (fun q => Y (by simpa [ifCond.holds] using q)) (fun q => N (by simpa [ifCond.holds] using q))
theorem own_iflt (h : At T m c below) (hx : p.tables.exec = Jvm.exec) {x : Int32} {o : Int} (hd : decode c.code pc = .ok (.ifCond .lt o, 3)) (ho : 0 ≤ (pc : Int) + o) (hp : ((pc : Int) + o).toNat = pc') (hp2 : pc + 3 = pc2)
    (Y : x < 0 → own_Go p e below F (T.setTop (mkF m pc' Ls st))) (N : ¬ x < 0 → own_Go p e below F (T.setTop (mkF m pc2 Ls st))) : own_Go p e below F (T.setTop (mkF m pc Ls (.int x :: st))) :=
  own_if h hx hd ho hp hp2 (fun q => Y (of_decide_eq_true q)) (fun q => N (of_decide_eq_false q))
theorem own_ifge (h : At T m c below) (hx : p.tables.exec = Jvm.exec) {x : Int32} {o : Int} (hd : decode c.code pc = .ok (.ifCond .ge o, 3)) (ho : 0 ≤ (pc : Int) + o) (hp : ((pc : Int) + o).toNat = pc') (hp2 : pc + 3 = pc2)
    (Y : ¬ x < 0 → own_Go p e below F (T.setTop (mkF m pc' Ls st))) (N : x < 0 → own_Go p e below F (T.setTop (mkF m pc2 Ls st))) : own_Go p e below F (T.setTop (mkF m pc Ls (.int x :: st))) :=
  own_if h hx hd ho hp hp2 (fun q => Y (Int32.not_lt.mpr (of_decide_eq_true q))) (fun q => N (Int32.not_le.mp (of_decide_eq_false q)))
theorem own_ifgt (h : At T m c below) (hx : p.tables.exec = Jvm.exec) {x : Int32} {o : Int} (hd : decode c.code pc = .ok (.ifCond .gt o, 3)) (ho : 0 ≤ (pc : Int) + o) (hp : ((pc : Int) + o).toNat = pc') (hp2 : pc + 3 = pc2)
    (Y : 0 < x → own_Go p e below F (T.setTop (mkF m pc' Ls st))) (N : ¬ 0 < x → own_Go p e below F (T.setTop (mkF m pc2 Ls st))) : own_Go p e below F (T.setTop (mkF m pc Ls (.int x :: st))) :=
  own_if h hx hd ho hp hp2 (fun q => Y (of_decide_eq_true q)) (fun q => N (of_decide_eq_false q))
theorem own_ifle (h : At T m c below) (hx : p.tables.exec = Jvm.exec) {x : Int32} {o : Int} (hd : decode c.code pc = .ok (.ifCond .le o, 3)) (ho : 0 ≤ (pc : Int) + o) (hp : ((pc : Int) + o).toNat = pc') (hp2 : pc + 3 = pc2)
    (Y : ¬ 0 < x → own_Go p e below F (T.setTop (mkF m pc' Ls st))) (N : 0 < x → own_Go p e below F (T.setTop (mkF m pc2 Ls st))) : own_Go p e below F (T.setTop (mkF m pc Ls (.int x :: st))) :=
  own_if h hx hd ho hp hp2 (fun q => Y (Int32.not_lt.mpr (of_decide_eq_true q))) (fun q => N (Int32.not_le.mp (of_decide_eq_false q)))
theorem own_icmpeq (h : At T m c below) (hx : p.tables.exec = Jvm.exec) {x y : Int32} {o : Int} (hd : decode c.code pc = .ok (.if_icmp .eq o, 3)) (ho : 0 ≤ (pc : Int) + o) (hp : ((pc : Int) + o).toNat = pc') (hp2 : pc + 3 = pc2)
    (Y : x = y → own_Go p e below F (T.setTop (mkF m pc' Ls st))) (N : ¬ x = y → own_Go p e below F (T.setTop (mkF m pc2 Ls st))) : own_Go p e below F (T.setTop (mkF m pc Ls (.int y :: .int x :: st))) :=
  own_icmp h hx hd ho hp hp2 (fun q => Y (by simpa [if_icmp.holds] using q)) (fun q => N (by simpa [if_icmp.holds] using q))
theorem own_icmpne (h : At T m c below) (hx : p.tables.exec = Jvm.exec) {x y : Int32} {o : Int} (hd : decode c.code pc = .ok (.if_icmp .ne o, 3)) (ho : 0 ≤ (pc : Int) + o) (hp : ((pc : Int) + o).toNat = pc') (hp2 : pc + 3 = pc2)
    (Y : ¬ x = y → own_Go p e below F (T.setTop (mkF m pc' Ls st))) (N : x = y → own_Go p e below F (T.setTop (mkF m pc2 Ls st))) : own_Go p e below F (T.setTop (mkF m pc Ls (.int y :: .int x :: st))) :=
  own_icmp h hx hd ho hp hp2 (fun q => Y (by simpa [if_icmp.holds] using q)) (fun q => N (by simpa [if_icmp.holds] using q))
theorem own_icmplt (h : At T m c below) (hx : p.tables.exec = Jvm.exec) {x y : Int32} {o : Int} (hd : decode c.code pc = .ok (.if_icmp .lt o, 3)) (ho : 0 ≤ (pc : Int) + o) (hp : ((pc : Int) + o).toNat = pc') (hp2 : pc + 3 = pc2)
    (Y : x < y → own_Go p e below F (T.setTop (mkF m pc' Ls st))) (N : ¬ x < y → own_Go p e below F (T.setTop (mkF m pc2 Ls st))) : own_Go p e below F (T.setTop (mkF m pc Ls (.int y :: .int x :: st))) :=
  own_icmp h hx hd ho hp hp2 (fun q => Y (of_decide_eq_true q)) (fun q => N (of_decide_eq_false q))
theorem own_icmpge (h : At T m c below) (hx : p.tables.exec = Jvm.exec) {x y : Int32} {o : Int} (hd : decode c.code pc = .ok (.if_icmp .ge o, 3)) (ho : 0 ≤ (pc : Int) + o) (hp : ((pc : Int) + o).toNat = pc') (hp2 : pc + 3 = pc2)
    (Y : ¬ x < y → own_Go p e below F (T.setTop (mkF m pc' Ls st))) (N : x < y → own_Go p e below F (T.setTop (mkF m pc2 Ls st))) : own_Go p e below F (T.setTop (mkF m pc Ls (.int y :: .int x :: st))) :=
  own_icmp h hx hd ho hp hp2 (fun q => Y (Int32.not_lt.mpr (of_decide_eq_true q))) (fun q => N (Int32.not_le.mp (of_decide_eq_false q)))
theorem own_icmpgt (h : At T m c below) (hx : p.tables.exec = Jvm.exec) {x y : Int32} {o : Int} (hd : decode c.code pc = .ok (.if_icmp .gt o, 3)) (ho : 0 ≤ (pc : Int) + o) (hp : ((pc : Int) + o).toNat = pc') (hp2 : pc + 3 = pc2)
    (Y : y < x → own_Go p e below F (T.setTop (mkF m pc' Ls st))) (N : ¬ y < x → own_Go p e below F (T.setTop (mkF m pc2 Ls st))) : own_Go p e below F (T.setTop (mkF m pc Ls (.int y :: .int x :: st))) :=
  own_icmp h hx hd ho hp hp2 (fun q => Y (of_decide_eq_true q)) (fun q => N (of_decide_eq_false q))
theorem own_icmple (h : At T m c below) (hx : p.tables.exec = Jvm.exec) {x y : Int32} {o : Int} (hd : decode c.code pc = .ok (.if_icmp .le o, 3)) (ho : 0 ≤ (pc : Int) + o) (hp : ((pc : Int) + o).toNat = pc') (hp2 : pc + 3 = pc2)
    (Y : ¬ y < x → own_Go p e below F (T.setTop (mkF m pc' Ls st))) (N : y < x → own_Go p e below F (T.setTop (mkF m pc2 Ls st))) : own_Go p e below F (T.setTop (mkF m pc Ls (.int y :: .int x :: st))) :=
  own_icmp h hx hd ho hp hp2 (fun q => Y (Int32.not_lt.mpr (of_decide_eq_true q))) (fun q => N (Int32.not_le.mp (of_decide_eq_false q)))
theorem own_ifnonnull (h : At T m c below) (hx : p.tables.exec = Jvm.exec) {x : Value} (hr : x.isRef = true) {o : Int} (hd : decode c.code pc = .ok (.ifnonnull o, 3)) (ho : 0 ≤ (pc : Int) + o) (hp : ((pc : Int) + o).toNat = pc') (hp2 : pc + 3 = pc2)
    (Y : ¬ x = .null → own_Go p e below F (T.setTop (mkF m pc' Ls st))) (N : x = .null → own_Go p e below F (T.setTop (mkF m pc2 Ls st))) : own_Go p e below F (T.setTop (mkF m pc Ls (x :: st))) := by
  subst hp2
  rcases ref_cases hr with rfl | ⟨a, rfl⟩
  · exact own_on (fun _ => XT.ifnonnullNo h hx rfl hd rfl) (N rfl)
  · exact own_on (fun _ => XT.ifnonnullYes h hx rfl rfl hd rfl ho hp) (Y (fun q => nomatch q))
theorem own_ifnull (h : At T m c below) (hx : p.tables.exec = Jvm.exec) {x : Value} (hr : x.isRef = true) {o : Int} (hd : decode c.code pc = .ok (.ifnull o, 3)) (ho : 0 ≤ (pc : Int) + o) (hp : ((pc : Int) + o).toNat = pc') (hp2 : pc + 3 = pc2)
    (Y : x = .null → own_Go p e below F (T.setTop (mkF m pc' Ls st))) (N : ¬ x = .null → own_Go p e below F (T.setTop (mkF m pc2 Ls st))) : own_Go p e below F (T.setTop (mkF m pc Ls (x :: st))) := by
  subst hp2
  rcases ref_cases hr with rfl | ⟨a, rfl⟩
  · exact own_on (fun _ => XS.ifnullYes h hx rfl rfl hd rfl ho hp) (Y rfl)
  · exact own_on (fun _ => XS.ifnullNo h hx rfl hd rfl) (N (fun q => nomatch q))
theorem own_acmpeq (h : At T m c below) (hx : p.tables.exec = Jvm.exec) {x y : Value} (hr : x.isRef = true) (hr' : y.isRef = true) {o : Int} (hd : decode c.code pc = .ok (.if_acmp .eq o, 3)) (ho : 0 ≤ (pc : Int) + o) (hp : ((pc : Int) + o).toNat = pc') (hp2 : pc + 3 = pc2)
    (Y : x = y → own_Go p e below F (T.setTop (mkF m pc' Ls st))) (N : ¬ x = y → own_Go p e below F (T.setTop (mkF m pc2 Ls st))) : own_Go p e below F (T.setTop (mkF m pc Ls (y :: x :: st))) := by
  subst hp2
  by_cases q : x = y
  · exact own_on (fun _ => XT.acmpYes h hx rfl rfl hd rfl hr hr' (by simp [XT.acmp, q]) ho hp) (Y q)
  · exact own_on (fun _ => XT.acmpNo h hx rfl hd rfl hr hr' (by simp [XT.acmp, q])) (N q)
theorem own_acmpne (h : At T m c below) (hx : p.tables.exec = Jvm.exec) {x y : Value} (hr : x.isRef = true) (hr' : y.isRef = true) {o : Int} (hd : decode c.code pc = .ok (.if_acmp .ne o, 3)) (ho : 0 ≤ (pc : Int) + o) (hp : ((pc : Int) + o).toNat = pc') (hp2 : pc + 3 = pc2)
    (Y : ¬ x = y → own_Go p e below F (T.setTop (mkF m pc' Ls st))) (N : x = y → own_Go p e below F (T.setTop (mkF m pc2 Ls st))) : own_Go p e below F (T.setTop (mkF m pc Ls (y :: x :: st))) := by
  subst hp2
  by_cases q : x = y
  · exact own_on (fun _ => XT.acmpNo h hx rfl hd rfl hr hr' (by simp [XT.acmp, q])) (N q)
  · exact own_on (fun _ => XT.acmpYes h hx rfl rfl hd rfl hr hr' (by simp [XT.acmp, q]) ho hp) (Y q)
end OwnGo
section OwnEnd
variable {p : Program} {l : Launch} {e : Env} {R : Room} {s : State} {m : MethodId} {args : Array Value} {below : List Frame} {meth : Method} {c : Code} {T : State} {locs : List Loc} {cells slots : Nat} {F : State → Outcome → Prop} {pc : Nat} {Ls : Array Slot} {st : List Value}
/-- a narrow contract's walk begins -/
theorem own_enter {Q : Option Value → Heap → List Loc → Prop} {U : State} {cz sz : Nat}
    (K : ∀ F : State → Outcome → Prop, (∀ (t : State) (v : Option Value) (L : List Loc) (k n : Nat), Q v t.heap L → FrameEnd s (.returned v) t L k n → k ≤ cz → n ≤ sz → F t (.returned v)) → own_Go p e below F U) :
    ∃ (s₂ : State) (o : Outcome), Steps p.tables e below U s₂ ∧ s₂.status = .running ∧ Ended s₂ below o ∧ ∃ (v : Option Value) (L : List Loc), o = .returned v ∧ Q v s₂.heap L ∧ FrameEnd s o s₂ L cz sz := by
  obtain ⟨t, o, h1, h2, h3, v, L, k, n, rfl, hq, hf, hk, hn⟩ := K (fun t o => ∃ v L k n, o = .returned v ∧ Q v t.heap L ∧ FrameEnd s (.returned v) t L k n ∧ k ≤ cz ∧ n ≤ sz) (fun t v L k n a b c d => ⟨v, L, k, n, rfl, a, b, c, d⟩)
  exact ⟨t, _, h1, h2, h3, v, L, rfl, hq, hf.1, hf.2.1, hf.2.2.mono hk hn⟩
theorem own_ret (X : Stand p l e R s m args below meth c T locs cells slots) (hx : p.tables.exec = Jvm.exec) (hlk : meth.locks = false) {w : Value} {t : FieldType} {i : Instr} (hret : meth.sig.returnType = some t) (hn : narrow t w = w)
    (hi : (i = .ireturn ∧ (t = .int ∨ t = .boolean ∨ t = .byte ∨ t = .char ∨ t = .short) ∧ ∃ z, w = .int z) ∨ (i = .lreturn ∧ t = .long ∧ ∃ z, w = .long z) ∨ (i = .dreturn ∧ t = .double ∧ ∃ z, w = .double z) ∨ (i = .freturn ∧ t = .float ∧ ∃ z, w = .float z) ∨ (i = .areturn ∧ t.isReference = true ∧ w.isRef = true))
    (hd : decode c.code pc = .ok (i, 1)) (K : ∀ t : State, t.heap = T.heap → FrameEnd s (.returned (some w)) t locs cells slots → F t (.returned (some w))) : own_Go p e below F (T.setTop (mkF m pc Ls (w :: st))) := by
  obtain ⟨fs, hr, hrun, hended, hW, hsame⟩ := X.leave (v := some w) (fun h => by rw [hret] at h; cases h) hlk
  exact ⟨_, _, retOut X hx hret hn hi hd hr, hrun, hended, K _ rfl ⟨⟨_, rfl⟩, hW, hsame⟩⟩
theorem own_retI (X : Stand p l e R s m args below meth c T locs cells slots) (hx : p.tables.exec = Jvm.exec) (hlk : meth.locks = false) {z : Int32} (hret : meth.sig.returnType = some .int) (hd : decode c.code pc = .ok (.ireturn, 1)) (K : ∀ t : State, t.heap = T.heap → FrameEnd s (.returned (some (.int z))) t locs cells slots → F t (.returned (some (.int z)))) : own_Go p e below F (T.setTop (mkF m pc Ls (.int z :: st))) :=
  own_ret X hx hlk hret rfl (Or.inl ⟨rfl, Or.inl rfl, _, rfl⟩) hd K
theorem own_retZ (X : Stand p l e R s m args below meth c T locs cells slots) (hx : p.tables.exec = Jvm.exec) (hlk : meth.locks = false) {z : Int32} (hz : z = 0 ∨ z = 1) (hret : meth.sig.returnType = some .boolean) (hd : decode c.code pc = .ok (.ireturn, 1)) (K : ∀ t : State, t.heap = T.heap → FrameEnd s (.returned (some (.int z))) t locs cells slots → F t (.returned (some (.int z)))) : own_Go p e below F (T.setTop (mkF m pc Ls (.int z :: st))) :=
  own_ret X hx hlk hret (by rcases hz with rfl | rfl <;> rfl) (Or.inl ⟨rfl, Or.inr (Or.inl rfl), _, rfl⟩) hd K
theorem own_retC (X : Stand p l e R s m args below meth c T locs cells slots) (hx : p.tables.exec = Jvm.exec) (hlk : meth.locks = false) {z : Int32} (hz : narrow .char (.int z) = .int z) (hret : meth.sig.returnType = some .char) (hd : decode c.code pc = .ok (.ireturn, 1)) (K : ∀ t : State, t.heap = T.heap → FrameEnd s (.returned (some (.int z))) t locs cells slots → F t (.returned (some (.int z)))) : own_Go p e below F (T.setTop (mkF m pc Ls (.int z :: st))) :=
  own_ret X hx hlk hret hz (Or.inl ⟨rfl, Or.inr (Or.inr (Or.inr (Or.inl rfl))), _, rfl⟩) hd K
theorem own_retA (X : Stand p l e R s m args below meth c T locs cells slots) (hx : p.tables.exec = Jvm.exec) (hlk : meth.locks = false) {w : Value} {t : FieldType} (hret : meth.sig.returnType = some t) (ht : t.isReference = true) (hw : w.isRef = true) (hd : decode c.code pc = .ok (.areturn, 1)) (K : ∀ t : State, t.heap = T.heap → FrameEnd s (.returned (some w)) t locs cells slots → F t (.returned (some w))) : own_Go p e below F (T.setTop (mkF m pc Ls (w :: st))) :=
  own_ret X hx hlk hret (by rcases ref_cases hw with rfl | ⟨a, rfl⟩ <;> cases t <;> first | rfl | (cases ht; done)) (Or.inr (Or.inr (Or.inr (Or.inr ⟨rfl, ht, hw⟩)))) hd K
theorem own_retV (X : Stand p l e R s m args below meth c T locs cells slots) (hx : p.tables.exec = Jvm.exec) (hlk : meth.locks = false) (hret : meth.sig.returnType = none) (hd : decode c.code pc = .ok (.return_, 1)) (K : ∀ t : State, t.heap = T.heap → FrameEnd s (.returned none) t locs cells slots → F t (.returned none)) : own_Go p e below F (T.setTop (mkF m pc Ls [])) := by
  obtain ⟨fs, hr, hrun, hended, hW, hsame⟩ := X.leave (v := none) (fun _ => rfl) hlk
  exact ⟨_, _, X.returnOut hx hret hd hr, hrun, hended, K _ rfl ⟨⟨_, rfl⟩, hW, hsame⟩⟩
end OwnEnd
end Jvm.Pilot.@@N@@
namespace Jvm.Pilot.@@N@@
open Jvm Jvm.ClassFile Sem Op Lib Jvm.Free Jvm.Stand Jvm.LawKit Jvm.RoadKit Bundle Jvm.Pilot.@@N@@.Jvm.D
/-- a narrow contract, from its walk -/
theorem own_walkN {l : Launch} {y : MethodName} {bytes : ByteArray} {maxL : Nat} {ret : Option FieldType} {ws : List Jvm.Cond} {rm : Room} {Z : State} {as' : Array Value} {h : Heap} {Q : Option Value → Heap → List Loc → Prop} (hpl : plainName y.cls = true)
    (K : ∀ (p : Program) (e : Env) (s : State) (m : MethodId) (below : List Frame) (meth : Method) (c : Code) (T : State), Stand p l e rm s m as' below meth c T [] 0 0 → p.tables.exec = Jvm.exec → c.code = bytes → c.maxLocals = maxL → meth.sig.returnType = ret → meth.locks = false → meth.name = y.name → s.vm.findClass y.cls = some m.cls → Z.Warmed39 s.vm → T.heap = h → s.heap = h →
      ∀ F : State → Outcome → Prop, (∀ (t : State) (v : Option Value) (L : List Loc) (k n : Nat), Q v t.heap L → FrameEnd s (.returned v) t L k n → k ≤ rm.cells → n ≤ rm.slots → F t (.returned v)) → own_Go p e below F (T.setTop (entryFrame m as' maxL))) :
    MetFree l y (head1 (Jvm.Cond.code y bytes maxL ret :: ws) rm) (fun a U => a = as' ∧ Z.Warmed39 U.vm ∧ U.heap = h) (fun _ _ _ _ _ => True) (fun _ U o U' => ∃ v L, o = .returned v ∧ Q v U'.heap L ∧ FrameEnd U o U' L rm.cells rm.slots) := by
  refine MetFree.of_bodySF (plainFor_of_name hpl) hisR ?_
  intro p e s m args below meth c s₁ Bd hml0 hP hK
  obtain ⟨rfl, hZ, hh⟩ := hP
  exact own_enter (fun F hF => K p e s m below meth c s₁ (Stand.of_body Bd) Bd.exec Bd.bytes hml0 Bd.returns (BodyLoose.notSynchronized Bd) (name_of_methodNamed Bd.named Bd.method).1 (findClass_of_methodNamed Bd.named) hZ (by rw [← hh, Bd.state]; rfl) hh F hF)
end Jvm.Pilot.@@N@@
namespace Jvm.Pilot.@@N@@
open Jvm Jvm.ClassFile Sem Op Lib Jvm.Free Jvm.Stand Jvm.LawKit Jvm.RoadKit Bundle Jvm.Pilot.@@N@@.Jvm.D
/-- getstatic through a nest-mate's entry -/
theorem own_getSN {p : Program} {l : Launch} {e : Env} {R : Room} {s : State} {m : MethodId} {args : Array Value} {below : List Frame} {meth : Method} {c : Code} {T : State} {locs : List Loc} {cells slots : Nat} {Z : State} {a0 : Array Value} {h : Heap}
    (X : Stand p l e R s m args below meth c T locs cells slots) (hx : p.tables.exec = Jvm.exec) (hZ : Z.Warmed39 s.vm) {own O n d host : String} {index : Nat} (hown : s.vm.findClass own = some m.cls) (w : (Jvm.Cond.fieldLinkNest own index O n d host).before a0 Z = true)
    (eT : T.heap = h) {v : Value} (F : Sta Z h O n d v) {g : JFrame} (hg : g.method = m) (hd : decode c.code g.pc = .ok (.getstatic index, 3)) : ∃ T', Stand p l e R s m args below meth c T' locs cells slots ∧ T'.heap = h ∧ ∀ target, Steps p.tables e below (T'.setTop { g with pc := g.pc + 3, stack := v :: g.stack }) target → Steps p.tables e below (T.setTop g) target := by
  obtain ⟨cf, i, k, f, st, cell, h1, h2, h3, h4, h5, h6, h7⟩ := F
  obtain ⟨k', hi, ek⟩ := State.fieldFound?_setVm (s := Z) hZ.alike h1
  obtain ⟨vm', X', stp⟩ := X.getstaticNest hx hown (mvN hZ w) hi h2 (by rw [ek]; exact h3) (a₁ := st) (by rw [ek]; exact h4) (by rw [eT]; exact h5) (fun q => by rw [q] at h6; cases h6) h7 hg hd
  exact ⟨_, X', eT, stp⟩
end Jvm.Pilot.@@N@@
namespace Jvm.Pilot.@@N@@
open Jvm Jvm.ClassFile Sem Op Lib Jvm.Free Jvm.Stand Jvm.LawKit Jvm.RoadKit Bundle Jvm.Pilot.@@N@@.Jvm.D
theorem own_fldnull {Z : State} {args : Array Value} {t : Term} {C n d : String} {a : Addr} (ev : t.eval args Z none [] Z = some (.ref a)) (h : (Jvm.Cond.eq (.field t C n d) .null).value args Z none Z [] = some true) : Fld Z Z.heap a C n d .null := by
  cases hf : Z.fieldOf? a C n d with
  | none => simp [Cond.value, Term.eval, ev, hf] at h
  | some v =>
    cases v <;> simp [Cond.value, Term.eval, ev, hf] at h
    exact Fld.start hf
end Jvm.Pilot.@@N@@
namespace Jvm.Pilot.@@N@@
open Jvm Jvm.ClassFile Sem Op Lib Jvm.Free Jvm.Stand Jvm.LawKit Jvm.RoadKit Bundle Jvm.Pilot.@@N@@.Jvm.D
section OwnWide
variable {p : Program} {l : Launch} {e : Env} {R : Room} {s : State} {m : MethodId} {args : Array Value} {below : List Frame} {meth : Method} {c : Code} {T : State} {locs : List Loc} {cells slots : Nat} {F : State → Outcome → Prop} {pc : Nat} {Ls : Array Slot} {st : List Value}
  {Z : State} {a0 : Array Value} {EL : List (String × Nat)} {vm vm0 vm1 : Vm} {h h' h2 : Heap} {own : String} {ws : List Addr} {a : Addr} {sl : Nat} {v : Value}
theorem own_ext_refl (h : Heap) : Ext h h := ⟨Nat.le_refl _, fun _ _ q => q⟩
theorem own_ext_trans (A : Ext h h') (B : Ext h' h2) : Ext h h2 := ⟨Nat.le_trans A.1 B.1, fun x c q => B.2 x c (A.2 x c q)⟩
theorem own_ext_keep (A : Ext h h') (K : Keep h' h2 ws) (q : ∀ x ∈ ws, h.size ≤ x) : Ext h h2 :=
  ⟨Nat.le_trans A.1 K.1, fun x c r => K.2.1 x c (A.2 x c r) fun z => absurd (Array.getElem?_eq_some_iff.mp r).1 (Nat.not_lt.mpr (q x z))⟩
theorem own_ext_wr (A : Ext h h') (W : Wr h' h2 a sl v) (q : h.size ≤ a) : Ext h h2 := own_ext_keep A (Keep.of_wr W) fun x hx => by cases List.mem_singleton.mp hx; exact q
theorem own_keep_ext (E : Ext h h') : Keep h h' ws := ⟨E.1, fun x c q _ => E.2 x c q, fun x c q => ⟨c, E.2 x c q, rfl, rfl, rfl⟩⟩
theorem own_since0 (s : State) : s.Since s.vm 0 := (State.WarmedH.refl s).since 0
/-- what a walk that may intern bears: the tables vm since s, the heap h -/
def own_I (s Z : State) (EL : List (String × Nat)) (vm : Vm) (h : Heap) (own : String) (m : MethodId) : Prop :=
  Z.Warmed39 vm ∧ vm.findClass own = some m.cls ∧ (∃ k0, s.Since vm k0 ∧ k0 ≤ h.size) ∧ CHr Z EL s.vm s.heap vm h
theorem own_I.ext (I : own_I s Z EL vm h own m) (E : Ext h h') : own_I s Z EL vm h' own m := by
  obtain ⟨i1, i2, ⟨k, i3, i4⟩, i5⟩ := I
  exact ⟨i1, i2, ⟨k, i3, Nat.le_trans i4 E.1⟩, i5.trans (CHr.ext E i5.1)⟩
theorem own_I.wr (I : own_I s Z EL vm h own m) (W : Wr h h' a sl v) (S : Safe Z EL vm h a) : own_I s Z EL vm h' own m := by
  obtain ⟨i1, i2, ⟨k, i3, i4⟩, i5⟩ := I
  exact ⟨i1, i2, ⟨k, i3, by rw [W.size]; exact i4⟩, i5.trans (CHr.wr W S i5.1)⟩
theorem own_I.keep (I : own_I s Z EL vm h own m) (K : Keep h h' ws) (S : ∀ x ∈ ws, Safe Z EL vm h x) : own_I s Z EL vm h' own m := by
  obtain ⟨i1, i2, ⟨k, i3, i4⟩, i5⟩ := I
  exact ⟨i1, i2, ⟨k, i3, Nat.le_trans i4 K.1⟩, i5.trans (CHr.keep K S i5.1)⟩
theorem own_I.later (I : own_I s Z EL vm0 h own m) {n : Nat} (S : (s.setVm vm0).Since vm1 n) (hn : n ≤ h'.size) (hg : h.size ≤ n) (C : CHr Z EL vm0 h vm1 h') : own_I s Z EL vm1 h' own m := by
  obtain ⟨i1, i2, ⟨k, i3, i4⟩, i5⟩ := I
  exact ⟨State.Warmed39.trans (t := s.setVm vm0) i1 S.1, (S.1.alike.findClass _ _).trans i2, ⟨n, i3.trans S (Nat.le_trans i4 hg), hn⟩, i5.trans C⟩
theorem own_I.safe (I : own_I s Z EL vm h own m) {x : Addr} (hx : x < s.heap.size) (S : Safe Z EL s.vm s.heap x) : Safe Z EL vm h x := I.2.2.2.safe hx S
theorem own_I.ch (I : own_I s Z EL vm h own m) : CHv Z EL vm h := I.2.2.2.1
/-- a wide contract's use -/
theorem own_backW {y : MethodName} {bytes : ByteArray} {maxL : Nat} {ret : Option FieldType} {rm : Room} {len W : Nat} {as' : Array Value} {sf : List Addr} {Q : Option Value → Heap → List Loc → Prop}
    (hM : MetFree l y (head1 [Jvm.Cond.code y bytes maxL ret] rm) (fun a U => a = as' ∧ Z.Warmed39 U.vm ∧ U.heap = h ∧ CHv Z EL U.vm h ∧ ∀ x ∈ sf, Safe Z EL U.vm h x) (fun _ _ _ _ _ => True) (fun _ U o U' => ∃ v L, o = .returned v ∧ Q v U'.heap L ∧ CHr Z EL U.vm U.heap U'.vm U'.heap ∧ ReturnedEndW U o U' L rm.cells rm.slots))
    (hZ : Z.Warmed39 vm0) (wc : (Jvm.Cond.code y bytes maxL ret).before a0 Z = true) (wz : (Jvm.Cond.initialized y.cls).before a0 Z = true) (hf : rm.frames + 1 ≤ R.frames) (hl : W + (maxL + 11) + rm.locals ≤ R.locals) (hEL : EW Z a0 EL) (H : CHv Z EL vm0 h) (HS : ∀ x ∈ sf, x < h.size ∧ Safe Z EL vm0 h x) :
    BackS l R p e below (s.setVm vm0) args y len W (fun A a => a = as' ∧ A.U.heap = h ∧ A.cells + rm.cells ≤ R.cells ∧ A.slots + rm.slots ≤ R.slots)
      (fun A _ v B => ∃ L, Q v B.U.heap L ∧ B.locs = A.locs ++ L ∧ B.cells = A.cells + rm.cells ∧ B.slots = A.slots + rm.slots ∧ CHr Z EL vm0 h B.U.vm B.U.heap) :=
  BackS.of_freeW (bytes := bytes) (maxL := maxL) (ret := ret) (E := fun _ first o t L k n => k = rm.cells ∧ n = rm.slots ∧ (∃ v, o = .returned v ∧ Q v t.heap L) ∧ CHr Z EL first.vm first.heap t.vm t.heap) hM hf hl
    (fun m meth c A a Y hp => have hU : Z.Warmed39 A.U.vm := wtrans (s := s.setVm vm0) hZ Y.warmed
      ⟨by show (Jvm.Cond.and _ .tt).before a A.U = true; rw [Cond.before_and, mv hU wc]; rfl, mv hU wc, mv hU wz, hp.2.2.1, hp.2.2.2⟩)
    (fun m meth c A a g mk Y hp => ⟨hp.1, wtrans (s := s.setVm vm0) hZ Y.warmed, hp.2.1, (CHv.at Y hZ hEL H).1, fun x hx => (CHv.at Y hZ hEL H).safe (HS x hx).1 (HS x hx).2⟩) (fun _ _ _ _ _ _ _ _ _ => trivial)
    (fun _ _ _ _ ⟨v, L, h1, h2, h3, h4⟩ => ⟨L, _, _, h4, rfl, rfl, ⟨v, h1, h2⟩, h3⟩)
    (fun m meth c A a g mk v t L k n Y hp _ _ ⟨e1, e2, ⟨v', e3, e4⟩, e5⟩ => by
      cases e3; subst e1 e2
      refine ⟨L, e4, rfl, rfl, rfl, (CHv.at Y hZ hEL H).trans ?_⟩
      rw [← hp.2.1]; exact e5)
theorem own_enterW {Q : Option Value → Heap → List Loc → Prop} {U : State} {cz sz : Nat}
    (K : ∀ F : State → Outcome → Prop, (∀ (t : State) (v : Option Value) (L : List Loc) (k n : Nat), Q v t.heap L → CHr Z EL s.vm s.heap t.vm t.heap → ReturnedEndW s (.returned v) t L k n → k ≤ cz → n ≤ sz → F t (.returned v)) → own_Go p e below F U) :
    ∃ (s₂ : State) (o : Outcome), Steps p.tables e below U s₂ ∧ s₂.status = .running ∧ Ended s₂ below o ∧ ∃ (v : Option Value) (L : List Loc), o = .returned v ∧ Q v s₂.heap L ∧ CHr Z EL s.vm s.heap s₂.vm s₂.heap ∧ ReturnedEndW s o s₂ L cz sz := by
  obtain ⟨t, o, h1, h2, h3, v, L, k, n, rfl, hq, hc, hf, hk, hn⟩ := K (fun t o => ∃ v L k n, o = .returned v ∧ Q v t.heap L ∧ CHr Z EL s.vm s.heap t.vm t.heap ∧ ReturnedEndW s (.returned v) t L k n ∧ k ≤ cz ∧ n ≤ sz) (fun t v L k n a b c d f => ⟨v, L, k, n, rfl, a, b, c, d, f⟩)
  exact ⟨t, _, h1, h2, h3, v, L, rfl, hq, hc, hf.1, hf.2.1, hf.2.2.1, hf.2.2.2.mono hk hn⟩
/-- a wide contract, from its walk -/
theorem own_walkW {y : MethodName} {bytes : ByteArray} {maxL : Nat} {ret : Option FieldType} {wl : List Jvm.Cond} {rm : Room} {as' : Array Value} {sf : List Addr} {Q : Option Value → Heap → List Loc → Prop} (hpl : plainName y.cls = true)
    (K : ∀ (p : Program) (e : Env) (s : State) (m : MethodId) (below : List Frame) (meth : Method) (c : Code) (T : State), Stand p l e rm (s.setVm s.vm) m as' below meth c T [] 0 0 → p.tables.exec = Jvm.exec → c.code = bytes → c.maxLocals = maxL → meth.sig.returnType = ret → meth.locks = false → meth.name = y.name → s.heap = h → T.heap = h → own_I s Z EL s.vm h y.cls m → (∀ x ∈ sf, Safe Z EL s.vm h x) →
      ∀ F : State → Outcome → Prop, (∀ (t : State) (v : Option Value) (L : List Loc) (k n : Nat), Q v t.heap L → CHr Z EL s.vm s.heap t.vm t.heap → ReturnedEndW s (.returned v) t L k n → k ≤ rm.cells → n ≤ rm.slots → F t (.returned v)) → own_Go p e below F (T.setTop (entryFrame m as' maxL))) :
    MetFree l y (head1 (Jvm.Cond.code y bytes maxL ret :: wl) rm) (fun a U => a = as' ∧ Z.Warmed39 U.vm ∧ U.heap = h ∧ CHv Z EL U.vm h ∧ ∀ x ∈ sf, Safe Z EL U.vm h x) (fun _ _ _ _ _ => True) (fun _ U o U' => ∃ v L, o = .returned v ∧ Q v U'.heap L ∧ CHr Z EL U.vm U.heap U'.vm U'.heap ∧ ReturnedEndW U o U' L rm.cells rm.slots) := by
  refine MetFree.of_bodySF (plainFor_of_name hpl) hisR ?_
  intro p e s m args below meth c s₁ Bd hml0 hP hK
  obtain ⟨rfl, hZ, hh, hC, hsf⟩ := hP
  have X0 : Stand p l e rm s m args below meth c s₁ [] 0 0 := Stand.of_body Bd
  refine own_enterW (fun F hF => K p e s m below meth c s₁ X0 Bd.exec Bd.bytes hml0 Bd.returns (BodyLoose.notSynchronized Bd) (name_of_methodNamed Bd.named Bd.method).1 hh (by rw [← hh, Bd.state]; rfl) ⟨hZ, findClass_of_methodNamed Bd.named, ⟨0, own_since0 s, Nat.zero_le _⟩, ?_⟩ hsf F hF)
  rw [hh]; exact CHr.refl hC
theorem own_retW (X : Stand p l e R (s.setVm vm) m args below meth c T locs cells slots) (hx : p.tables.exec = Jvm.exec) (hlk : meth.locks = false) (hEL : EW Z a0 EL) (I : own_I s Z EL vm h own m) (eT : T.heap = h) {w : Value} {t : FieldType} {i : Instr} (hret : meth.sig.returnType = some t) (hn : narrow t w = w)
    (hi : (i = .ireturn ∧ (t = .int ∨ t = .boolean ∨ t = .byte ∨ t = .char ∨ t = .short) ∧ ∃ z, w = .int z) ∨ (i = .lreturn ∧ t = .long ∧ ∃ z, w = .long z) ∨ (i = .dreturn ∧ t = .double ∧ ∃ z, w = .double z) ∨ (i = .freturn ∧ t = .float ∧ ∃ z, w = .float z) ∨ (i = .areturn ∧ t.isReference = true ∧ w.isRef = true))
    (hd : decode c.code pc = .ok (i, 1)) (K : ∀ t : State, t.heap = h → CHr Z EL s.vm s.heap t.vm t.heap → ReturnedEndW s (.returned (some w)) t locs cells slots → F t (.returned (some w))) : own_Go p e below F (T.setTop (mkF m pc Ls (w :: st))) := by
  obtain ⟨i1, i2, ⟨k, i3, i4⟩, i5⟩ := I
  obtain ⟨fs, hr, hrun, hended, hE⟩ := X.leaveW i3 (by rw [eT]; exact i4) (v := some w) (fun h => by rw [hret] at h; cases h) hlk
  refine ⟨_, _, retOut X hx hret hn hi hd hr, hrun, hended, K _ eT ?_ hE⟩
  show CHr Z EL s.vm s.heap T.vm T.heap
  rw [eT]; exact i5.trans (CHv.at X i1 hEL i5.1)
theorem own_retVW (X : Stand p l e R (s.setVm vm) m args below meth c T locs cells slots) (hx : p.tables.exec = Jvm.exec) (hlk : meth.locks = false) (hEL : EW Z a0 EL) (I : own_I s Z EL vm h own m) (eT : T.heap = h) (hret : meth.sig.returnType = none)
    (hd : decode c.code pc = .ok (.return_, 1)) (K : ∀ t : State, t.heap = h → CHr Z EL s.vm s.heap t.vm t.heap → ReturnedEndW s (.returned none) t locs cells slots → F t (.returned none)) : own_Go p e below F (T.setTop (mkF m pc Ls [])) := by
  obtain ⟨i1, i2, ⟨k, i3, i4⟩, i5⟩ := I
  obtain ⟨fs, hr, hrun, hended, hE⟩ := X.leaveW i3 (by rw [eT]; exact i4) (v := none) (fun _ => rfl) hlk
  refine ⟨_, _, X.returnOut hx hret hd hr, hrun, hended, K _ eT ?_ hE⟩
  show CHr Z EL s.vm s.heap T.vm T.heap
  rw [eT]; exact i5.trans (CHv.at X i1 hEL i5.1)
theorem own_retAW (X : Stand p l e R (s.setVm vm) m args below meth c T locs cells slots) (hx : p.tables.exec = Jvm.exec) (hlk : meth.locks = false) (hEL : EW Z a0 EL) (I : own_I s Z EL vm h own m) (eT : T.heap = h) {w : Value} {t : FieldType} (hret : meth.sig.returnType = some t) (ht : t.isReference = true) (hw : w.isRef = true)
    (hd : decode c.code pc = .ok (.areturn, 1)) (K : ∀ t : State, t.heap = h → CHr Z EL s.vm s.heap t.vm t.heap → ReturnedEndW s (.returned (some w)) t locs cells slots → F t (.returned (some w))) : own_Go p e below F (T.setTop (mkF m pc Ls (w :: st))) :=
  own_retW X hx hlk hEL I eT hret (by rcases ref_cases hw with rfl | ⟨a, rfl⟩ <;> cases t <;> first | rfl | (cases ht; done)) (Or.inr (Or.inr (Or.inr (Or.inr ⟨rfl, ht, hw⟩)))) hd K
theorem own_retIW (X : Stand p l e R (s.setVm vm) m args below meth c T locs cells slots) (hx : p.tables.exec = Jvm.exec) (hlk : meth.locks = false) (hEL : EW Z a0 EL) (I : own_I s Z EL vm h own m) (eT : T.heap = h) {z : Int32} (hret : meth.sig.returnType = some .int)
    (hd : decode c.code pc = .ok (.ireturn, 1)) (K : ∀ t : State, t.heap = h → CHr Z EL s.vm s.heap t.vm t.heap → ReturnedEndW s (.returned (some (.int z))) t locs cells slots → F t (.returned (some (.int z)))) : own_Go p e below F (T.setTop (mkF m pc Ls (.int z :: st))) :=
  own_retW X hx hlk hEL I eT hret rfl (Or.inl ⟨rfl, Or.inl rfl, _, rfl⟩) hd K
theorem own_retZW (X : Stand p l e R (s.setVm vm) m args below meth c T locs cells slots) (hx : p.tables.exec = Jvm.exec) (hlk : meth.locks = false) (hEL : EW Z a0 EL) (I : own_I s Z EL vm h own m) (eT : T.heap = h) {z : Int32} (hz : z = 0 ∨ z = 1) (hret : meth.sig.returnType = some .boolean)
    (hd : decode c.code pc = .ok (.ireturn, 1)) (K : ∀ t : State, t.heap = h → CHr Z EL s.vm s.heap t.vm t.heap → ReturnedEndW s (.returned (some (.int z))) t locs cells slots → F t (.returned (some (.int z)))) : own_Go p e below F (T.setTop (mkF m pc Ls (.int z :: st))) :=
  own_retW X hx hlk hEL I eT hret (by rcases hz with rfl | rfl <;> rfl) (Or.inl ⟨rfl, Or.inr (Or.inl rfl), _, rfl⟩) hd K
/-- ldc of a String constant, its text unread -/
theorem own_ldcO (X : Stand p l e R (s.setVm vm0) m args below meth c T locs cells slots) (hx : p.tables.exec = Jvm.exec) (I : own_I s Z EL vm0 h own m) {text : String} {index : Nat} (w : (Jvm.Cond.stringLink own index text).before a0 Z = true) (wS : ∀ a ∈ Bundle.stringAtoms, a.before a0 Z = true)
    (eT : T.heap = h) (hEL : EW Z a0 EL) {g : JFrame} (hg : g.method = m) (hd : decode c.code g.pc = .ok (.ldc index, 2)) {n : Nat} (hn : 4 * text.toList.length ≤ n) (hbig : n ≤ 536870912) (hc : cells + 2 ≤ R.cells) (hl : slots + (n + 4) ≤ R.slots) :
    ∃ (a : Addr) (T' : State), Stand p l e R (s.setVm T'.vm) m args below meth c T' locs (cells + 2) (slots + (n + 4)) ∧ Ext h T'.heap ∧ own_I s Z EL T'.vm T'.heap own m ∧ CHr Z EL vm0 h T'.vm T'.heap ∧
      ∀ target, Steps p.tables e below (T'.setTop { g with pc := g.pc + 2, stack := .ref a :: g.stack }) target → Steps p.tables e below (T.setTop g) target := by
  obtain ⟨i1, i2, ⟨k, i3, i4⟩, i5⟩ := I
  obtain ⟨a, T', h', k1, X', rfl, E, hS, hk, hW, hf, hC, -, st⟩ := ldcOH X hx i1 i2 w wS eT i3 i4 hEL i5.1 hg hd hn hbig hc hl
  exact ⟨a, T', X', E, ⟨hW, hf, ⟨k1, hS, hk⟩, i5.trans hC⟩, hC, st⟩
end OwnWide
end Jvm.Pilot.@@N@@
namespace Jvm.Pilot.@@N@@
open Jvm Jvm.ClassFile Sem Op Lib Jvm.Free Jvm.Stand Jvm.LawKit Jvm.RoadKit Bundle Jvm.Pilot.@@N@@.Jvm.D
/-- ldc of a String constant of EL, its text read -/
theorem own_ldcT {p : Program} {l : Launch} {e : Env} {R : Room} {s : State} {m : MethodId} {args : Array Value} {below : List Frame} {meth : Method} {c : Code} {T : State} {locs : List Loc} {cells slots : Nat} {Z : State} {a0 : Array Value} {EL : List (String × Nat)} {vm0 : Vm} {h : Heap} {own : String}
    (X : Stand p l e R (s.setVm vm0) m args below meth c T locs cells slots) (hx : p.tables.exec = Jvm.exec) (I : own_I s Z EL vm0 h own m) {text : String} {index : Nat} (w : (Jvm.Cond.stringLink own index text).before a0 Z = true) (wS : ∀ a ∈ Bundle.stringAtoms, a.before a0 Z = true)
    (eT : T.heap = h) (hEL : EW Z a0 EL) (hmem : (own, index) ∈ EL) {vs : List Value} {z : Int32} (ht : (∀ c ∈ text.toList, c.toNat < 256) ∧ text.toList.map (fun c => Value.int (Jvm.Lit.byteI c.toNat.toUInt16)) = vs) (hz : ¬ z < 0) (hl : z.toNatClampNeg = vs.length)
    {g : JFrame} (hg : g.method = m) (hd : decode c.code g.pc = .ok (.ldc index, 2)) {n : Nat} (hn : 4 * text.toList.length ≤ n) (hbig : n ≤ 536870912) (hc : cells + 2 ≤ R.cells) (hl' : slots + (n + 4) ≤ R.slots) :
    ∃ (a : Addr) (T' : State) (b : Addr) (k : ClassId), Stand p l e R (s.setVm T'.vm) m args below meth c T' locs (cells + 2) (slots + (n + 4)) ∧ Ext h T'.heap ∧ own_I s Z EL T'.vm T'.heap own m ∧ CHr Z EL vm0 h T'.vm T'.heap ∧
      Exa Z T'.heap a "java/lang/String" ∧ Fld Z T'.heap a "java/lang/String" "coder" "B" (.int 0) ∧ Fld Z T'.heap a "java/lang/String" "value" "[B" (.ref b) ∧ Arv Z T'.heap b k .byte z vs (.int 0) ∧ (∀ x, Safe Z EL T'.vm T'.heap x → x ≠ a ∧ x ≠ b) ∧
      ∀ target, Steps p.tables e below (T'.setTop { g with pc := g.pc + 2, stack := .ref a :: g.stack }) target → Steps p.tables e below (T.setTop g) target := by
  obtain ⟨i1, i2, ⟨k, i3, i4⟩, i5⟩ := I
  obtain ⟨a, T', h', k1, b, kb, X', rfl, E, hS, hk, hW, hf, q1, q2, q3, q4, -, -, hC, -, hne, st⟩ := ldcCH X hx i1 i2 w wS eT i3 i4 hEL hmem i5.1 ht hz hl hg hd hn hbig hc hl'
  exact ⟨a, T', b, kb, X', E, ⟨hW, hf, ⟨k1, hS, hk⟩, i5.trans hC⟩, hC, q1, q2, q3, q4, hne, st⟩
theorem own_strW {Z : State} {a0 : Array Value} (hw : ∀ d ∈ tables_1, d.before a0 Z = true) : ∀ a ∈ Bundle.stringAtoms, a.before a0 Z = true := fun d hd => hw d ((by decide +kernel : ∀ d ∈ Bundle.stringAtoms, d ∈ tables_1) d hd)
end Jvm.Pilot.@@N@@
namespace Jvm.Pilot.@@N@@
open Jvm Jvm.ClassFile Sem Op Lib Jvm.Free Jvm.Stand Jvm.LawKit Jvm.RoadKit Bundle Jvm.Pilot.@@N@@.Jvm.D
section OwnArr
variable {p : Program} {l : Launch} {e : Env} {R : Room} {s : State} {m : MethodId} {args : Array Value} {below : List Frame} {meth : Method} {c : Code} {T : State} {locs : List Loc} {cells slots : Nat} {F : State → Outcome → Prop} {pc pc' : Nat} {Ls : Array Slot} {st : List Value}
  {Z : State} {a0 : Array Value} {h h' : Heap} {a : Addr} {k : ClassId} {ty : FieldType} {z j : Int32} {vs : List Value} {dv : Value}
theorem own_alen (X : Stand p l e R s m args below meth c T locs cells slots) (hx : p.tables.exec = Jvm.exec) (hZ : Z.Warmed39 s.vm) (eT : T.heap = h) (V : Arv Z h a k ty z vs dv) (hd : decode c.code pc = .ok (.arraylength, 1)) (hp : pc + 1 = pc') (K : own_Go p e below F (T.setTop (mkF m pc' Ls (.int z :: st)))) : own_Go p e below F (T.setTop (mkF m pc Ls (.ref a :: st))) := by
  subst hp
  obtain ⟨cl, A, -, S, q, -⟩ := V
  refine own_on (fun t => X.arraylength hx (cell := cl) (by rw [eT]; exact A.1) (State.isArrayOf_alike hZ.alike A.2.1) (g := mkF m pc Ls (.ref a :: st)) rfl (rest := st) rfl hd t) ?_
  rw [len_of S q]; exact K
theorem own_caload (X : Stand p l e R s m args below meth c T locs cells slots) (hx : p.tables.exec = Jvm.exec) (hZ : Z.Warmed39 s.vm) (eT : T.heap = h) (V : Arv Z h a k .char z vs dv) {w : Int32} (hin : ¬ j < 0 ∧ j < z) (hw : vs.getD j.toNatClampNeg dv = .int w) (hd : decode c.code pc = .ok (.caload, 1)) (hp : pc + 1 = pc') (K : own_Go p e below F (T.setTop (mkF m pc' Ls (.int w :: st)))) : own_Go p e below F (T.setTop (mkF m pc Ls (.int j :: .ref a :: st))) := by
  subst hp
  obtain ⟨cl, A, -, S, q, H, -⟩ := V
  have hb := inb_of S hin
  have hat : cl.slots[j.toNatClampNeg]? = some (.int w) := by rw [H _ (Nat.lt_of_not_le fun y => hb (Or.inr y)), hw]
  exact own_on (fun t => X.caload hx (j := j) (v := .int w) (by rw [eT]; exact A.1) (State.isArrayOf_alike hZ.alike A.2.1) A.2.2 hb hat (g := mkF m pc Ls (.int j :: .ref a :: st)) rfl rfl hd t) K
theorem own_cast (X : Stand p l e R s m args below meth c T locs cells slots) (hx : p.tables.exec = Jvm.exec) (hZ : Z.Warmed39 s.vm) (eT : T.heap = h) (V : Arv Z h a k .char z vs dv) {i : Nat} {w : Int32} (hj : j.toNatClampNeg = i) (hi : i < vs.length) (hin : ¬ j < 0 ∧ j < z) (hw : nar .char w = w)
    {g : JFrame} (hg : g.method = m) {rest : List Value} (hs : g.stack = .int w :: .int j :: .ref a :: rest) (hd : decode c.code g.pc = .ok (.castore, 1)) :
    ∃ T' h', Stand p l e R s m args below meth c T' (locs ++ [⟨a, j.toNatClampNeg⟩]) cells slots ∧ T'.heap = h' ∧ Wr h h' a j.toNatClampNeg (.int w) ∧ Arv Z h' a k .char z (vs.set i (.int w)) dv ∧ ∀ target, Steps p.tables e below (T'.setTop { g with pc := g.pc + 1, stack := rest }) target → Steps p.tables e below (T.setTop g) target := by
  obtain ⟨cl, A, q1, S, q3, H, G⟩ := V
  obtain ⟨T', h', X', e', W, st⟩ := stC X hx hZ eT A (inb_of S hin) hg hs hd
  rw [hw] at W
  exact ⟨T', h', X', e', W, Arv.set A q1 S q3 H G (by rw [← hw]; exact fits_nar_char _) W i hj hi, st⟩
theorem own_Fr_snoc {n0 : Nat} {L : List Loc} {sl : Nat} (N : Fr n0 L) (q : n0 ≤ a) : Fr n0 (L ++ [⟨a, sl⟩]) := N.app fun y hy => by cases List.mem_singleton.mp hy; exact q
end OwnArr
theorem own_nar (x : Int32) : nar .char (own_c x) = own_c x := by
  have h : (own_c x).toUInt32.toUInt16 = x.toUInt32.toUInt16 := by
    show (x.toUInt32.toUInt16.toUInt32).toUInt16 = _
    generalize x.toUInt32.toUInt16 = w
    simp
  exact congrArg (fun u : UInt16 => u.toUInt32.toInt32) h
theorem own_and255 (x : Int32) : ¬ own_c (x &&& (255 : Int32)) < 0 ∧ ¬ (255 : Int32) < own_c (x &&& (255 : Int32)) := by
  have t : ∀ k : Fin 256, ¬ own_c (Int32.ofNat k.val) < 0 ∧ ¬ (255 : Int32) < own_c (Int32.ofNat k.val) := by decide +kernel
  have h : (x &&& 255).toBitVec.toNat < 256 := by
    simp only [Int32.toBitVec_and, BitVec.toNat_and]
    exact Nat.lt_succ_of_le Nat.and_le_right
  have e : (x &&& 255) = Int32.ofNat (x &&& 255).toBitVec.toNat := by
    apply Int32.toBitVec_inj.mp
    show _ = BitVec.ofNat 32 _
    rw [BitVec.ofNat_toNat]; simp
  rw [e]
  exact t ⟨_, h⟩
/-- x & 3 is one of four -/
theorem own_and3c (x : Int32) : x &&& 3 = 0 ∨ x &&& 3 = 1 ∨ x &&& 3 = 2 ∨ x &&& 3 = 3 := by
  have h : (x &&& 3).toBitVec.toNat ≤ 3 := by
    simp only [Int32.toBitVec_and, BitVec.toNat_and]
    exact Nat.and_le_right
  have e : (x &&& 3) = Int32.ofNat (x &&& 3).toBitVec.toNat := by
    apply Int32.toBitVec_inj.mp
    show _ = BitVec.ofNat 32 _
    rw [BitVec.ofNat_toNat]; simp
  rw [e]
  generalize (x &&& 3).toBitVec.toNat = n at h
  have : n = 0 ∨ n = 1 ∨ n = 2 ∨ n = 3 := by omega
  rcases this with rfl | rfl | rfl | rfl <;> decide
theorem own_up (cs : List Int32) (h : ∀ c ∈ cs, ¬ c < 0 ∧ ¬ (255 : Int32) < c) : ∀ c ∈ cs, ¬ c < 0 ∧ ¬ (65535 : Int32) < c := fun c hc => ⟨(h c hc).1, fun q => (h c hc).2 (by rw [Int32.lt_iff_toInt_lt] at q ⊢; have e1 : (65535 : Int32).toInt = 65535 := rfl; have e2 : (255 : Int32).toInt = 255 := rfl; omega)⟩
/-- x is a Latin-1 String of the chars cs -/
def own_Str (Z : State) (h : Heap) (x : Addr) (cs : List Int32) : Prop := ∃ (t : Addr) (kb : ClassId), Exa Z h x "java/lang/String" ∧ Fld Z h x "java/lang/String" "value" "[B" (.ref t) ∧ Fld Z h x "java/lang/String" "coder" "B" (.int 0) ∧ Arv Z h t kb .byte (Int32.ofNat cs.length) ((cs.map fun c => c.toInt8.toInt32).map Value.int) (.int 0) ∧ (∀ c ∈ cs, ¬ c < 0 ∧ ¬ (255 : Int32) < c) ∧ cs.length ≤ 4000
theorem own_Str.ext {Z : State} {h h' : Heap} {x : Addr} {cs : List Int32} (S : own_Str Z h x cs) (E : Ext h h') : own_Str Z h' x cs := by
  obtain ⟨t, kb, s1, s2, s3, s4, r⟩ := S; exact ⟨t, kb, s1.ext E, s2.ext E, s3.ext E, s4.ext E, r⟩
theorem own_Str.exa {Z : State} {h : Heap} {x : Addr} {cs : List Int32} (S : own_Str Z h x cs) : Exa Z h x "java/lang/String" := by obtain ⟨_, _, q, -⟩ := S; exact q
theorem own_wiS : Jvm.Cond.instantiable "java/lang/String" 4 ∈ tables_1 := by decide +kernel
end Jvm.Pilot.@@N@@
namespace Jvm.Pilot.@@N@@
open Jvm Jvm.ClassFile Sem Op Lib Jvm.Free Jvm.Stand Jvm.LawKit Jvm.RoadKit Bundle Jvm.Pilot.@@N@@.Jvm.D
theorem own_lenB {p : Program} {l : Launch} {e : Env} {R : Room} {s : State} {args : Array Value} {below : List Frame} {len W : Nat} {Z : State} {a0 : Array Value} {h : Heap} (hZ : Z.Warmed39 s.vm) (hw : ∀ d ∈ tables_1, d.before a0 Z = true) {x : Addr} {cs : List Int32} {z : Int32} (S : own_Str Z h x cs)
    (O : Sta Z h "java/lang/String" "COMPACT_STRINGS" "Z" (.int z)) (hz : ¬ z = 0) (hfr : 2 ≤ R.frames) (hlo : W + 25 ≤ R.locals) :
    Back l R p e below s args (⟨"java/lang/String", "length", "()I"⟩ : MethodName) len W (fun P a => a = #[.ref x] ∧ P.U.heap = h ∧ P.cells + 0 ≤ R.cells ∧ P.slots + 0 ≤ R.slots)
      (fun P _ v B => ∃ L, (v = some (.int (Int32.ofNat cs.length)) ∧ L = [] ∧ B.U.heap = h) ∧ B.locs = P.locs ++ L ∧ B.cells = P.cells + 0 ∧ B.slots = P.slots + 0) := by
  obtain ⟨t, kb, E, V, C, K, hp, hl⟩ := S
  exact StrChars.Road.lenW hZ (fun d hd => hw d ((by decide +kernel : ∀ d ∈ StrChars.Road.wordsLen, d ∈ tables_1) d hd)) (kI := 4) (hw _ own_wiS) E V C K (StrChars.Road.codOf rfl (fun c hc => (hp c hc).2)) (own_up _ hp) O hz hl hfr hlo
end Jvm.Pilot.@@N@@
namespace Jvm.Pilot.@@N@@
open Jvm Jvm.ClassFile Sem Op Lib Jvm.Free Jvm.Stand Jvm.LawKit Jvm.RoadKit Bundle Jvm.Pilot.@@N@@.Jvm.D
theorem own_chB {p : Program} {l : Launch} {e : Env} {R : Room} {s : State} {args : Array Value} {below : List Frame} {len W : Nat} {Z : State} {a0 : Array Value} {h : Heap} (hZ : Z.Warmed39 s.vm) (hw : ∀ d ∈ tables_1, d.before a0 Z = true) {x : Addr} {cs : List Int32} {z : Int32} {fm : Value} (S : own_Str Z h x cs)
    (O : Sta Z h "java/lang/String" "COMPACT_STRINGS" "Z" (.int z)) (hz : ¬ z = 0) (O2 : Sta Z h "jdk/internal/util/Preconditions" "SIOOBE_FORMATTER" "Ljava/util/function/BiFunction;" fm) (rf : fm.isRef = true) {i : Nat} {j : Int32} (hi : i < cs.length) (hj : j = Int32.ofNat i) (hfr : 4 ≤ R.frames) (hlo : W + 53 ≤ R.locals) :
    Back l R p e below s args (⟨"java/lang/String", "charAt", "(I)C"⟩ : MethodName) len W (fun P a => a = #[.ref x, .int j] ∧ P.U.heap = h ∧ P.cells + 0 ≤ R.cells ∧ P.slots + 0 ≤ R.slots)
      (fun P _ v B => ∃ L, (v = some (.int (cs.getD i 0)) ∧ L = [] ∧ B.U.heap = h) ∧ B.locs = P.locs ++ L ∧ B.cells = P.cells + 0 ∧ B.slots = P.slots + 0) := by
  obtain ⟨t, kb, E, V, C, K, hp, hl⟩ := S
  exact StrChars.Road.chN hZ (fun d hd => hw d ((by decide +kernel : ∀ d ∈ StrChars.Road.wordsChN, d ∈ tables_1) d hd)) (kI := 4) (hw _ own_wiS) E V C K (StrChars.Road.codOf rfl (fun c hc => (hp c hc).2)) (own_up _ hp) O hz O2 rf hl hi hj hfr hlo
end Jvm.Pilot.@@N@@
namespace Jvm.Pilot.@@N@@
open Jvm Jvm.ClassFile Sem Op Lib Jvm.Free Jvm.Stand Jvm.LawKit Jvm.RoadKit Bundle Jvm.Pilot.@@N@@.Jvm.D
abbrev EL : List (String × Nat) := [("java/lang/String", 7)]
theorem own_hwsL {Z : State} {a0 : Array Value} (hw : ∀ d ∈ tables_1, d.before a0 Z = true) : ∀ d ∈ StrChars.Road.words, d.before a0 Z = true := fun d hd => hw d ((by decide +kernel : ∀ d ∈ StrChars.Road.words, d ∈ tables_1) d hd)
theorem dE4_0 : decode jdk_42_method_149_code 0 = .ok (.aload_n 0, 1) := by decide +kernel
theorem dE4_1 : decode jdk_42_method_149_code 1 = .ok (.invokespecial 1, 3) := by decide +kernel
theorem dE4_4 : decode jdk_42_method_149_code 4 = .ok (.iload_n 3, 1) := by decide +kernel
theorem dE4_5 : decode jdk_42_method_149_code 5 = .ok (.ifCond .ne 22, 3) := by decide +kernel
theorem dE4_8 : decode jdk_42_method_149_code 8 = .ok (.aload_n 0, 1) := by decide +kernel
theorem dE4_9 : decode jdk_42_method_149_code 9 = .ok (.ldc 7, 2) := by decide +kernel
theorem dE4_11 : decode jdk_42_method_149_code 11 = .ok (.getfield 9, 3) := by decide +kernel
theorem dE4_14 : decode jdk_42_method_149_code 14 = .ok (.putfield 9, 3) := by decide +kernel
theorem dE4_17 : decode jdk_42_method_149_code 17 = .ok (.aload_n 0, 1) := by decide +kernel
theorem dE4_18 : decode jdk_42_method_149_code 18 = .ok (.ldc 7, 2) := by decide +kernel
theorem dE4_20 : decode jdk_42_method_149_code 20 = .ok (.getfield 15, 3) := by decide +kernel
theorem dE4_23 : decode jdk_42_method_149_code 23 = .ok (.putfield 15, 3) := by decide +kernel
theorem dE4_26 : decode jdk_42_method_149_code 26 = .ok (.return_, 1) := by decide +kernel
theorem dE4_27 : decode jdk_42_method_149_code 27 = .ok (.getstatic 38, 3) := by decide +kernel
theorem dE4_30 : decode jdk_42_method_149_code 30 = .ok (.ifCond .eq 28, 3) := by decide +kernel
theorem dE4_33 : decode jdk_42_method_149_code 33 = .ok (.aload_n 1, 1) := by decide +kernel
theorem dE4_34 : decode jdk_42_method_149_code 34 = .ok (.iload_n 2, 1) := by decide +kernel
theorem dE4_35 : decode jdk_42_method_149_code 35 = .ok (.iload_n 3, 1) := by decide +kernel
theorem dE4_36 : decode jdk_42_method_149_code 36 = .ok (.invokestatic 177, 3) := by decide +kernel
theorem dE4_39 : decode jdk_42_method_149_code 39 = .ok (.astore 5, 2) := by decide +kernel
theorem dE4_41 : decode jdk_42_method_149_code 41 = .ok (.aload_n 0, 1) := by decide +kernel
theorem dE4_42 : decode jdk_42_method_149_code 42 = .ok (.aload 5, 2) := by decide +kernel
theorem dE4_44 : decode jdk_42_method_149_code 44 = .ok (.iload_n 3, 1) := by decide +kernel
theorem dE4_45 : decode jdk_42_method_149_code 45 = .ok (.invokestatic 47, 3) := by decide +kernel
theorem dE4_48 : decode jdk_42_method_149_code 48 = .ok (.putfield 15, 3) := by decide +kernel
theorem dE4_51 : decode jdk_42_method_149_code 51 = .ok (.aload_n 0, 1) := by decide +kernel
theorem dE4_52 : decode jdk_42_method_149_code 52 = .ok (.aload 5, 2) := by decide +kernel
theorem dE4_54 : decode jdk_42_method_149_code 54 = .ok (.putfield 9, 3) := by decide +kernel
theorem dE4_57 : decode jdk_42_method_149_code 57 = .ok (.return_, 1) := by decide +kernel
theorem dE4_58 : decode jdk_42_method_149_code 58 = .ok (.aload_n 0, 1) := by decide +kernel
theorem dE4_59 : decode jdk_42_method_149_code 59 = .ok (.iconst 1, 1) := by decide +kernel
theorem dE4_60 : decode jdk_42_method_149_code 60 = .ok (.putfield 15, 3) := by decide +kernel
theorem dE4_63 : decode jdk_42_method_149_code 63 = .ok (.aload_n 0, 1) := by decide +kernel
theorem dE4_64 : decode jdk_42_method_149_code 64 = .ok (.aload_n 1, 1) := by decide +kernel
theorem dE4_65 : decode jdk_42_method_149_code 65 = .ok (.iload_n 2, 1) := by decide +kernel
theorem dE4_66 : decode jdk_42_method_149_code 66 = .ok (.iload_n 3, 1) := by decide +kernel
theorem dE4_67 : decode jdk_42_method_149_code 67 = .ok (.invokestatic 180, 3) := by decide +kernel
theorem dE4_70 : decode jdk_42_method_149_code 70 = .ok (.putfield 9, 3) := by decide +kernel
theorem dE4_73 : decode jdk_42_method_149_code 73 = .ok (.return_, 1) := by decide +kernel
theorem dE1_0 : decode jdk_42_method_3_code 0 = .ok (.aload_n 0, 1) := by decide +kernel
theorem dE1_1 : decode jdk_42_method_3_code 1 = .ok (.aload_n 1, 1) := by decide +kernel
theorem dE1_2 : decode jdk_42_method_3_code 2 = .ok (.iconst 0, 1) := by decide +kernel
theorem dE1_3 : decode jdk_42_method_3_code 3 = .ok (.aload_n 1, 1) := by decide +kernel
theorem dE1_4 : decode jdk_42_method_3_code 4 = .ok (.arraylength, 1) := by decide +kernel
theorem dE1_5 : decode jdk_42_method_3_code 5 = .ok (.aconst_null, 1) := by decide +kernel
theorem dE1_6 : decode jdk_42_method_3_code 6 = .ok (.invokespecial 27, 3) := by decide +kernel
theorem dE1_9 : decode jdk_42_method_3_code 9 = .ok (.return_, 1) := by decide +kernel
theorem pnS : plainName "java/lang/String" = true := by first | (simp [plainName, overriddenIn]; done) | decide +kernel
theorem pdE4 : parseMethodDescriptor "([CIILjava/lang/Void;)V" = some ⟨[.array .char, .int, .int, .object "java/lang/Void"], none⟩ := by decide +kernel
theorem pdE1 : parseMethodDescriptor "([C)V" = some ⟨[.array .char], none⟩ := by decide +kernel
theorem efE4 (m : MethodId) (x0 : Addr) (x1 : Addr) (x2 : Int32) (x3 : Int32) : entryFrame m #[(.ref x0), (.ref x1), (.int x2), (.int x3), .null] 6 = mkF m 0 #[.val (.ref x0), .val (.ref x1), .val (.int x2), .val (.int x3), .val .null, .unset] [] := by first | (simp [entryFrame, mkF, argsToLocals, Value.category]; done) | rfl
def Q_rmE4 (Z : State) (x b : Addr) (h0 : Heap) (v : Option Value) (h : Heap) (L : List Loc) : Prop := v = none ∧ Fr Z.heap.size L ∧ Keep h0 h [x] ∧ own_Str Z h x []
set_option maxRecDepth 65536 in
set_option maxHeartbeats 40000000 in
theorem rmE4 (l : Launch) (Z : State) (a0 : Array Value) (hw : ∀ d ∈ tables_1, d.before a0 Z = true) (hEL : EW Z a0 EL) (x b : Addr) (h0 : Heap) (ga : Z.heap.size ≤ x) (A0 : Exa Z h0 x "java/lang/String") (Fv : Fld Z h0 x "java/lang/String" "value" "[B" .null) (Fc : Fld Z h0 x "java/lang/String" "coder" "B" (.int (0 : Int32))) :
    MetFree l (⟨"java/lang/String", "<init>", "([CIILjava/lang/Void;)V"⟩ : MethodName) (head1 (Jvm.Cond.code (⟨"java/lang/String", "<init>", "([CIILjava/lang/Void;)V"⟩ : MethodName) jdk_42_method_149_code 6 (Option.none : Option FieldType) :: []) ({ frames := 1, cells := 4, slots := 8, locals := 12 } : Room)) (fun aa U => aa = #[(.ref x), (.ref b), (.int (0 : Int32)), (.int (0 : Int32)), .null] ∧ Z.Warmed39 U.vm ∧ U.heap = h0 ∧ CHv Z EL U.vm h0 ∧ ∀ yy ∈ ([x] : List Addr), Safe Z EL U.vm h0 yy) (fun _ _ _ _ _ => True) (fun _ U o U' => ∃ v L, o = .returned v ∧ (Q_rmE4 Z x b h0) v U'.heap L ∧ CHr Z EL U.vm U.heap U'.vm U'.heap ∧ ReturnedEndW U o U' L ({ frames := 1, cells := 4, slots := 8, locals := 12 } : Room).cells ({ frames := 1, cells := 4, slots := 8, locals := 12 } : Room).slots) := by
  refine own_walkW (by exact pnS) ?_
  intro p e s m below meth c T0 X0 hx hby hml hret hlk hnm hs0 e0 I0 hsf F hF
  refine own_on (fun _ => castTop (efE4 m x b 0 0)) ?_
  have N0 := Fr.nil Z.heap.size
  have Q0 := Keep.refl h0 [x]
  have S0 := hsf x (by simp)
  refine own_aload_n X0.here hx (hb hby dE4_0) rfl rfl (pc' := 1) rfl ?_
  obtain ⟨T1, X1, e1, st1⟩ := initO X0 hx I0.1 I0.2.1 (hw _ (List.mem_of_getElem? (i := 15) rfl)) (hw _ (List.mem_of_getElem? (i := 16) rfl)) (hw _ (List.mem_of_getElem? (i := 17) rfl)) e0 (g := (mkF m 1 #[.val (.ref x), .val (.ref b), .val (.int ((0 : Int32))), .val (.int ((0 : Int32))), .val .null, .unset] [(.ref x)])) rfl (by rw [hml]; rfl) rfl (hb hby dE4_1) (by decide) (W := 0) (by show 2 * 0 + _ ≤ _; exact Nat.le_of_eq rfl) (by decide)
  refine own_on st1 ?_
  show own_Go p e below F (T1.setTop (mkF m 4 #[.val (.ref x), .val (.ref b), .val (.int ((0 : Int32))), .val (.int ((0 : Int32))), .val .null, .unset] []))
  refine own_iload_n X1.here hx (hb hby dE4_4) rfl (pc' := 5) rfl ?_
  refine own_ifne X1.here hx (hb hby dE4_5) (by decide) (pc' := 27) (by decide) (pc2 := 8) rfl (fun q => absurd rfl q) (fun q2 => ?_)
  refine own_aload_n X1.here hx (hb hby dE4_8) rfl rfl (pc' := 9) rfl ?_
  obtain ⟨b3, T3, t3, kb3, X3, E3, I3, C3, A3, Fc3, Fv3, V3, hn3, st3⟩ := own_ldcT X1 hx I0 (hw _ (List.mem_of_getElem? (i := 18) rfl)) (own_strW hw) e1 hEL (by simp [EL]) (vs := []) (z := 0) (by decide) (by decide) (by decide) (g := (mkF m 9 #[.val (.ref x), .val (.ref b), .val (.int ((0 : Int32))), .val (.int ((0 : Int32))), .val .null, .unset] [(.ref x)])) rfl (hb hby dE4_9) (n := 0) (by decide) (by decide) (by decide) (by decide)
  have f4 := Q0.ext E3
  have f5 := A0.ext E3
  have f6 := Fv.ext E3
  have f7 := Fc.ext E3
  have f8 := C3.safe A0.lt S0
  have ne9 := hn3 x f8
  refine own_on st3 ?_
  show own_Go p e below F (T3.setTop (mkF m 11 #[.val (.ref x), .val (.ref b), .val (.int ((0 : Int32))), .val (.int ((0 : Int32))), .val .null, .unset] [(.ref b3), (.ref x)]))
  obtain ⟨T10, X10, e10, st10⟩ := getF X3 hx I3.1 I3.2.1 (host := "") (Or.inl (hw _ (List.mem_of_getElem? (i := 24) rfl))) Via.refl rfl Fv3 (g := (mkF m 11 #[.val (.ref x), .val (.ref b), .val (.int ((0 : Int32))), .val (.int ((0 : Int32))), .val .null, .unset] [(.ref b3), (.ref x)])) rfl rfl (hb hby dE4_11)
  refine own_on st10 ?_
  show own_Go p e below F (T10.setTop (mkF m 14 #[.val (.ref x), .val (.ref b), .val (.int ((0 : Int32))), .val (.int ((0 : Int32))), .val .null, .unset] [(.ref t3), (.ref x)]))
  obtain ⟨T11, h11, X11, e11, W11, st11⟩ := putF X10 hx I3.1 I3.2.1 (host := "") (Or.inl (hw _ (List.mem_of_getElem? (i := 24) rfl))) Via.refl e10 f6 f5 (Or.inr ⟨(hw _ (List.mem_of_getElem? (i := 20) rfl)), rfl, hnm⟩) (hw _ (List.mem_of_getElem? (i := 5) rfl)) (ty := .array .byte) (by decide) rfl rfl (g := (mkF m 14 #[.val (.ref x), .val (.ref b), .val (.int ((0 : Int32))), .val (.int ((0 : Int32))), .val .null, .unset] [(.ref t3), (.ref x)])) rfl rfl (hb hby dE4_14)
  have f12 := f5.wr W11
  have f13 := f6.same W11
  have f14 := f7.other W11 (Or.inr (slot_ne (Or.inr (hw _ (List.mem_of_getElem? (i := 21) rfl))) (Or.inr (hw _ (List.mem_of_getElem? (i := 20) rfl))) (by decide) (t := .byte) (by decide) (t' := .array .byte) (by decide)))
  have f15 := Safe.wr W11 f8 I3.ch f8
  have f16 := A3.wr W11
  have f17 := Fc3.other W11 (Or.inl (Ne.symm ne9.1))
  have f18 := Fv3.other W11 (Or.inl (Ne.symm ne9.1))
  have f19 := V3.other W11 (Ne.symm ne9.2)
  have J20 := I3.wr W11 f8
  have f21 := f4.wr W11 (Or.inl (by simp))
  have N22 := own_Fr_snoc (sl := Jvm.RoadKit.slotOf Z "java/lang/String" "value" "[B") N0 ga
  refine own_on st11 ?_
  show own_Go p e below F (T11.setTop (mkF m 17 #[.val (.ref x), .val (.ref b), .val (.int ((0 : Int32))), .val (.int ((0 : Int32))), .val .null, .unset] []))
  refine own_aload_n X11.here hx (hb hby dE4_17) rfl rfl (pc' := 18) rfl ?_
  obtain ⟨b23, T23, t23, kb23, X23, E23, I23, C23, A23, Fc23, Fv23, V23, hn23, st23⟩ := own_ldcT X11 hx J20 (hw _ (List.mem_of_getElem? (i := 18) rfl)) (own_strW hw) e11 hEL (by simp [EL]) (vs := []) (z := 0) (by decide) (by decide) (by decide) (g := (mkF m 18 #[.val (.ref x), .val (.ref b), .val (.int ((0 : Int32))), .val (.int ((0 : Int32))), .val .null, .unset] [(.ref x)])) rfl (hb hby dE4_18) (n := 0) (by decide) (by decide) (by decide) (by decide)
  have f24 := f12.ext E23
  have f25 := f13.ext E23
  have f26 := f14.ext E23
  have f27 := C23.safe (f12).lt f15
  have f28 := f19.ext E23
  have f29 := f21.ext E23
  have ne30 := hn23 x f27
  refine own_on st23 ?_
  show own_Go p e below F (T23.setTop (mkF m 20 #[.val (.ref x), .val (.ref b), .val (.int ((0 : Int32))), .val (.int ((0 : Int32))), .val .null, .unset] [(.ref b23), (.ref x)]))
  obtain ⟨T31, X31, e31, st31⟩ := getF X23 hx I23.1 I23.2.1 (host := "") (Or.inl (hw _ (List.mem_of_getElem? (i := 25) rfl))) Via.refl rfl Fc23 (g := (mkF m 20 #[.val (.ref x), .val (.ref b), .val (.int ((0 : Int32))), .val (.int ((0 : Int32))), .val .null, .unset] [(.ref b23), (.ref x)])) rfl rfl (hb hby dE4_20)
  refine own_on st31 ?_
  show own_Go p e below F (T31.setTop (mkF m 23 #[.val (.ref x), .val (.ref b), .val (.int ((0 : Int32))), .val (.int ((0 : Int32))), .val .null, .unset] [(.int ((0 : Int32))), (.ref x)]))
  obtain ⟨T32, h32, X32, e32, W32, st32⟩ := putF X31 hx I23.1 I23.2.1 (host := "") (Or.inl (hw _ (List.mem_of_getElem? (i := 25) rfl))) Via.refl e31 f26 f24 (Or.inr ⟨(hw _ (List.mem_of_getElem? (i := 21) rfl)), rfl, hnm⟩) (hw _ (List.mem_of_getElem? (i := 5) rfl)) (ty := .byte) (by decide) rfl rfl (g := (mkF m 23 #[.val (.ref x), .val (.ref b), .val (.int ((0 : Int32))), .val (.int ((0 : Int32))), .val .null, .unset] [(.int ((0 : Int32))), (.ref x)])) rfl rfl (hb hby dE4_23)
  have f33 := f24.wr W32
  have f34 := f25.other W32 (Or.inr (slot_ne (Or.inr (hw _ (List.mem_of_getElem? (i := 20) rfl))) (Or.inr (hw _ (List.mem_of_getElem? (i := 21) rfl))) (by decide) (t := .array .byte) (by decide) (t' := .byte) (by decide)))
  have f35 := f26.same W32
  have f36 := Safe.wr W32 f27 I23.ch f27
  have f37 := f28.other W32 (Ne.symm ne9.2)
  have f38 := A23.wr W32
  have f39 := Fc23.other W32 (Or.inl (Ne.symm ne30.1))
  have f40 := Fv23.other W32 (Or.inl (Ne.symm ne30.1))
  have f41 := V23.other W32 (Ne.symm ne30.2)
  have J42 := I23.wr W32 f27
  have f43 := f29.wr W32 (Or.inl (by simp))
  have N44 := own_Fr_snoc (sl := Jvm.RoadKit.slotOf Z "java/lang/String" "coder" "B") N22 ga
  refine own_on st32 ?_
  show own_Go p e below F (T32.setTop (mkF m 26 #[.val (.ref x), .val (.ref b), .val (.int ((0 : Int32))), .val (.int ((0 : Int32))), .val .null, .unset] []))
  exact own_retVW X32 hx hlk hEL J42 e32 hret (hb hby dE4_26) (fun t ht hC hE => hF t _ _ _ _ (by rw [ht]; exact ⟨rfl, N44, f43, t3, kb3, f33, f34, f35, f37, (fun _ q => nomatch q), (by decide)⟩) hC hE (by decide) (by decide))
theorem efE1 (m : MethodId) (x0 : Addr) (x1 : Addr) : entryFrame m #[(.ref x0), (.ref x1)] 2 = mkF m 0 #[.val (.ref x0), .val (.ref x1)] [] := by first | (simp [entryFrame, mkF, argsToLocals, Value.category]; done) | rfl
def Q_rmE1 (Z : State) (x b : Addr) (kc : ClassId) (dv : Value) (h0 : Heap) (v : Option Value) (h : Heap) (L : List Loc) : Prop := v = none ∧ Fr Z.heap.size L ∧ Keep h0 h [x] ∧ own_Str Z h x []
set_option maxRecDepth 65536 in
set_option maxHeartbeats 40000000 in
theorem rmE1 (l : Launch) (Z : State) (a0 : Array Value) (hw : ∀ d ∈ tables_1, d.before a0 Z = true) (hEL : EW Z a0 EL) (x b : Addr) (kc : ClassId) (dv : Value) (h0 : Heap) (ga : Z.heap.size ≤ x) (A0 : Exa Z h0 x "java/lang/String") (Fv : Fld Z h0 x "java/lang/String" "value" "[B" .null) (Fc : Fld Z h0 x "java/lang/String" "coder" "B" (.int (0 : Int32))) (V0 : Arv Z h0 b kc .char (0 : Int32) [] dv) :
    MetFree l (⟨"java/lang/String", "<init>", "([C)V"⟩ : MethodName) (head1 (Jvm.Cond.code (⟨"java/lang/String", "<init>", "([C)V"⟩ : MethodName) jdk_42_method_3_code 2 (Option.none : Option FieldType) :: []) ({ frames := 2, cells := 4, slots := 8, locals := 29 } : Room)) (fun aa U => aa = #[(.ref x), (.ref b)] ∧ Z.Warmed39 U.vm ∧ U.heap = h0 ∧ CHv Z EL U.vm h0 ∧ ∀ yy ∈ ([x] : List Addr), Safe Z EL U.vm h0 yy) (fun _ _ _ _ _ => True) (fun _ U o U' => ∃ v L, o = .returned v ∧ (Q_rmE1 Z x b kc dv h0) v U'.heap L ∧ CHr Z EL U.vm U.heap U'.vm U'.heap ∧ ReturnedEndW U o U' L ({ frames := 2, cells := 4, slots := 8, locals := 29 } : Room).cells ({ frames := 2, cells := 4, slots := 8, locals := 29 } : Room).slots) := by
  refine own_walkW (by exact pnS) ?_
  intro p e s m below meth c T0 X0 hx hby hml hret hlk hnm hs0 e0 I0 hsf F hF
  refine own_on (fun _ => castTop (efE1 m x b)) ?_
  have N0 := Fr.nil Z.heap.size
  have Q0 := Keep.refl h0 [x]
  refine own_aload_n X0.here hx (hb hby dE1_0) rfl rfl (pc' := 1) rfl ?_
  refine own_aload_n X0.here hx (hb hby dE1_1) rfl rfl (pc' := 2) rfl ?_
  refine own_iconst X0.here hx (hb hby dE1_2) (v := 0) rfl (pc' := 3) rfl ?_
  refine own_aload_n X0.here hx (hb hby dE1_3) rfl rfl (pc' := 4) rfl ?_
  refine own_alen X0 hx I0.1 e0 V0 (hb hby dE1_4) (pc' := 5) rfl ?_
  refine own_aconst_null X0.here hx (hb hby dE1_5) (pc' := 6) rfl ?_
  obtain ⟨_, _, ⟨T1, L1, k1, n1⟩, -, X1, hS1, hG1, ⟨Lc1, hQ1, l1, y1, z1, C1⟩, st1⟩ := X0.specialBackS hx (y := (⟨"java/lang/String", "<init>", "([CIILjava/lang/Void;)V"⟩ : MethodName)) rfl I0.2.1 (mvT I0.1 (hw _ (List.mem_of_getElem? (i := 11) rfl))) (mvT I0.1 (hw _ (List.mem_of_getElem? (i := 12) rfl))) (mvT I0.1 (hw _ (List.mem_of_getElem? (i := 14) rfl))) (by decide) (own_backW (W := 0) (rmE4 l Z a0 hw hEL x b h0 ga A0 Fv Fc) I0.1 (hw _ (List.mem_of_getElem? (i := 14) rfl)) (hw _ (List.mem_of_getElem? (i := 6) rfl)) (by decide) (by decide) hEL I0.ch (fun y hy => by simp only [List.mem_cons, List.not_mem_nil, or_false] at hy; subst hy; exact ⟨A0.lt, hsf _ (by simp)⟩)) (g := (mkF m 6 #[.val (.ref x), .val (.ref b)] [.null, (.int ((0 : Int32))), (.int ((0 : Int32))), (.ref b), (.ref x)])) rfl (by rw [hml]; rfl) (Steps.refl _) (a := x) (argsL := [(.ref b), (.int ((0 : Int32))), (.int ((0 : Int32))), .null]) (rest := []) (lenOf pdE4 rfl) rfl (by show 2 * 0 + _ ≤ _; exact Nat.le_of_eq rfl) (hb hby dE1_6) (fun _ _ => ⟨rfl, e0, (Nat.le_of_ble_eq_true rfl), (Nat.le_of_ble_eq_true rfl)⟩)
  dsimp only [Pt.U, Pt.locs, Pt.cells, Pt.slots] at X1 hS1 hG1 l1 y1 z1 C1 st1 hQ1
  subst l1 y1 z1
  replace X1 := (show Stand _ _ _ _ (s.setVm T1.vm) _ _ _ _ _ _ _ _ _ from X1)
  have I1 := I0.later hS1 (Nat.le_refl _) (by have q := hG1; rw [(e0 : _ = h0)] at q; exact q) C1
  obtain ⟨rfl, N1, K1, S1⟩ := hQ1
  refine own_to st1 ?_
  show own_Go p e below F (T1.setTop (mkF m 9 #[.val (.ref x), .val (.ref b)] []))
  have f2 := Q0.trans K1 (fun y hy => by simp only [List.mem_cons, List.not_mem_nil, or_false] at hy; rcases hy with rfl <;> first | exact Or.inl (by simp) | exact Or.inr (by assumption))
  have N3 := Fr.app N0 N1
  exact own_retVW X1 hx hlk hEL I1 rfl hret (hb hby dE1_9) (fun t ht hC hE => hF t _ _ _ _ (by rw [ht]; exact ⟨rfl, N3, f2, S1⟩) hC hE (by decide) (by decide))
theorem pnL : plainName "com/example/credential_to_assertion/credentialtoassertion/service/validation/IdentityTokenPresentationRestrictedToPinLaw" = true := by first | (simp [plainName, overriddenIn]; done) | decide +kernel
theorem dD_0 : decode method_2_code 0 = .ok (.iload_n 0, 1) := by decide +kernel
theorem dD_1 : decode method_2_code 1 = .ok (.ifCond .ne 14, 3) := by decide +kernel
theorem dD_4 : decode method_2_code 4 = .ok (.new 7, 3) := by decide +kernel
theorem dD_7 : decode method_2_code 7 = .ok (.dup, 1) := by decide +kernel
theorem dD_8 : decode method_2_code 8 = .ok (.iconst 0, 1) := by decide +kernel
theorem dD_9 : decode method_2_code 9 = .ok (.newarray .char, 2) := by decide +kernel
theorem dD_11 : decode method_2_code 11 = .ok (.invokespecial 9, 3) := by decide +kernel
theorem dD_14 : decode method_2_code 14 = .ok (.areturn, 1) := by decide +kernel
theorem dD_15 : decode method_2_code 15 = .ok (.iload_n 0, 1) := by decide +kernel
theorem dD_16 : decode method_2_code 16 = .ok (.iconst 1, 1) := by decide +kernel
theorem dD_17 : decode method_2_code 17 = .ok (.if_icmp .ne 23, 3) := by decide +kernel
theorem dD_20 : decode method_2_code 20 = .ok (.iconst 1, 1) := by decide +kernel
theorem dD_21 : decode method_2_code 21 = .ok (.newarray .char, 2) := by decide +kernel
theorem dD_23 : decode method_2_code 23 = .ok (.astore 4, 2) := by decide +kernel
theorem dD_25 : decode method_2_code 25 = .ok (.aload 4, 2) := by decide +kernel
theorem dD_27 : decode method_2_code 27 = .ok (.iconst 0, 1) := by decide +kernel
theorem dD_28 : decode method_2_code 28 = .ok (.iload_n 1, 1) := by decide +kernel
theorem dD_29 : decode method_2_code 29 = .ok (.castore, 1) := by decide +kernel
theorem dD_30 : decode method_2_code 30 = .ok (.new 7, 3) := by decide +kernel
theorem dD_33 : decode method_2_code 33 = .ok (.dup, 1) := by decide +kernel
theorem dD_34 : decode method_2_code 34 = .ok (.aload 4, 2) := by decide +kernel
theorem dD_36 : decode method_2_code 36 = .ok (.invokespecial 9, 3) := by decide +kernel
theorem dD_39 : decode method_2_code 39 = .ok (.areturn, 1) := by decide +kernel
theorem dD_40 : decode method_2_code 40 = .ok (.iload_n 0, 1) := by decide +kernel
theorem dD_41 : decode method_2_code 41 = .ok (.iconst 2, 1) := by decide +kernel
theorem dD_42 : decode method_2_code 42 = .ok (.if_icmp .ne 28, 3) := by decide +kernel
theorem dD_45 : decode method_2_code 45 = .ok (.iconst 2, 1) := by decide +kernel
theorem dD_46 : decode method_2_code 46 = .ok (.newarray .char, 2) := by decide +kernel
theorem dD_48 : decode method_2_code 48 = .ok (.astore 4, 2) := by decide +kernel
theorem dD_50 : decode method_2_code 50 = .ok (.aload 4, 2) := by decide +kernel
theorem dD_52 : decode method_2_code 52 = .ok (.iconst 0, 1) := by decide +kernel
theorem dD_53 : decode method_2_code 53 = .ok (.iload_n 1, 1) := by decide +kernel
theorem dD_54 : decode method_2_code 54 = .ok (.castore, 1) := by decide +kernel
theorem dD_55 : decode method_2_code 55 = .ok (.aload 4, 2) := by decide +kernel
theorem dD_57 : decode method_2_code 57 = .ok (.iconst 1, 1) := by decide +kernel
theorem dD_58 : decode method_2_code 58 = .ok (.iload_n 2, 1) := by decide +kernel
theorem dD_59 : decode method_2_code 59 = .ok (.castore, 1) := by decide +kernel
theorem dD_60 : decode method_2_code 60 = .ok (.new 7, 3) := by decide +kernel
theorem dD_63 : decode method_2_code 63 = .ok (.dup, 1) := by decide +kernel
theorem dD_64 : decode method_2_code 64 = .ok (.aload 4, 2) := by decide +kernel
theorem dD_66 : decode method_2_code 66 = .ok (.invokespecial 9, 3) := by decide +kernel
theorem dD_69 : decode method_2_code 69 = .ok (.areturn, 1) := by decide +kernel
theorem dD_70 : decode method_2_code 70 = .ok (.iconst 3, 1) := by decide +kernel
theorem dD_71 : decode method_2_code 71 = .ok (.newarray .char, 2) := by decide +kernel
theorem dD_73 : decode method_2_code 73 = .ok (.astore 4, 2) := by decide +kernel
theorem dD_75 : decode method_2_code 75 = .ok (.aload 4, 2) := by decide +kernel
theorem dD_77 : decode method_2_code 77 = .ok (.iconst 0, 1) := by decide +kernel
theorem dD_78 : decode method_2_code 78 = .ok (.iload_n 1, 1) := by decide +kernel
theorem dD_79 : decode method_2_code 79 = .ok (.castore, 1) := by decide +kernel
theorem dD_80 : decode method_2_code 80 = .ok (.aload 4, 2) := by decide +kernel
theorem dD_82 : decode method_2_code 82 = .ok (.iconst 1, 1) := by decide +kernel
theorem dD_83 : decode method_2_code 83 = .ok (.iload_n 2, 1) := by decide +kernel
theorem dD_84 : decode method_2_code 84 = .ok (.castore, 1) := by decide +kernel
theorem dD_85 : decode method_2_code 85 = .ok (.aload 4, 2) := by decide +kernel
theorem dD_87 : decode method_2_code 87 = .ok (.iconst 2, 1) := by decide +kernel
theorem dD_88 : decode method_2_code 88 = .ok (.iload_n 3, 1) := by decide +kernel
theorem dD_89 : decode method_2_code 89 = .ok (.castore, 1) := by decide +kernel
theorem dD_90 : decode method_2_code 90 = .ok (.new 7, 3) := by decide +kernel
theorem dD_93 : decode method_2_code 93 = .ok (.dup, 1) := by decide +kernel
theorem dD_94 : decode method_2_code 94 = .ok (.aload 4, 2) := by decide +kernel
theorem dD_96 : decode method_2_code 96 = .ok (.invokespecial 9, 3) := by decide +kernel
theorem dD_99 : decode method_2_code 99 = .ok (.areturn, 1) := by decide +kernel
theorem pdD : parseMethodDescriptor "(ICCC)Ljava/lang/String;" = some ⟨[.int, .char, .char, .char], some (.object "java/lang/String")⟩ := by decide +kernel
theorem efD (m : MethodId) (x0 : Int32) (x1 : Int32) (x2 : Int32) (x3 : Int32) : entryFrame m #[(.int x0), (.int x1), (.int x2), (.int x3)] 5 = mkF m 0 #[.val (.int x0), .val (.int x1), .val (.int x2), .val (.int x3), .unset] [] := by first | (simp [entryFrame, mkF, argsToLocals, Value.category]; done) | rfl
def Q_rmD0 (Z : State) (a b c0 : Int32) (h0 : Heap) (v : Option Value) (h : Heap) (L : List Loc) : Prop := ∃ x, v = some (.ref x) ∧ own_Str Z h x [] ∧ Ext h0 h ∧ Fr Z.heap.size L
set_option maxRecDepth 65536 in
set_option maxHeartbeats 40000000 in
theorem rmD0 (l : Launch) (Z : State) (a0 : Array Value) (hw : ∀ d ∈ tables_1, d.before a0 Z = true) (hEL : EW Z a0 EL) (a b c0 : Int32) (h0 : Heap) (EZ : Ext Z.heap h0) :
    MetFree l (⟨"com/example/credential_to_assertion/credentialtoassertion/service/validation/IdentityTokenPresentationRestrictedToPinLaw", "draw", "(ICCC)Ljava/lang/String;"⟩ : MethodName) (head1 (Jvm.Cond.code (⟨"com/example/credential_to_assertion/credentialtoassertion/service/validation/IdentityTokenPresentationRestrictedToPinLaw", "draw", "(ICCC)Ljava/lang/String;"⟩ : MethodName) method_2_code 5 (Option.some (FieldType.object "java/lang/String")) :: []) ({ frames := 4, cells := 6, slots := 16, locals := 66 } : Room)) (fun aa U => aa = #[(.int (0 : Int32)), (.int a), (.int b), (.int c0)] ∧ Z.Warmed39 U.vm ∧ U.heap = h0 ∧ CHv Z EL U.vm h0 ∧ ∀ yy ∈ ([] : List Addr), Safe Z EL U.vm h0 yy) (fun _ _ _ _ _ => True) (fun _ U o U' => ∃ v L, o = .returned v ∧ (Q_rmD0 Z a b c0 h0) v U'.heap L ∧ CHr Z EL U.vm U.heap U'.vm U'.heap ∧ ReturnedEndW U o U' L ({ frames := 4, cells := 6, slots := 16, locals := 66 } : Room).cells ({ frames := 4, cells := 6, slots := 16, locals := 66 } : Room).slots) := by
  refine own_walkW (by exact pnL) ?_
  intro p e s m below meth c T0 X0 hx hby hml hret hlk hnm hs0 e0 I0 hsf F hF
  refine own_on (fun _ => castTop (efD m 0 a b c0)) ?_
  have M0 := own_ext_refl h0
  have N0 := Fr.nil Z.heap.size
  refine own_iload_n X0.here hx (hb hby dD_0) rfl (pc' := 1) rfl ?_
  refine own_ifne X0.here hx (hb hby dD_1) (by decide) (pc' := 15) (by decide) (pc2 := 4) rfl (fun q => absurd rfl q) (fun q1 => ?_)
  obtain ⟨T2, h2, X2, e2, E2, A2, D2, -, st2⟩ := newO X0 hx I0.1 I0.2.1 (hw _ (List.mem_of_getElem? (i := 4) rfl)) (hw _ (List.mem_of_getElem? (i := 5) rfl)) (hw _ (List.mem_of_getElem? (i := 6) rfl)) e0 (g := (mkF m 4 #[.val (.int ((0 : Int32))), .val (.int a), .val (.int b), .val (.int c0), .unset] [])) rfl (hb hby dD_4) (by decide) (by decide)
  obtain ⟨a2, g2⟩ : ∃ z, z = h0.size := ⟨_, rfl⟩
  rw [← g2] at A2 D2 st2
  have ge3 : h0.size ≤ a2 := by rw [g2]; exact M0.1
  have sf2 := Safe.ext E2 I0.ch (Safe.new (Nat.le_of_eq g2.symm))
  have f4 := own_ext_trans M0 E2
  have J5 := I0.ext E2
  have F2_0 : Fld Z h2 a2 "java/lang/String" "value" "[B" (.null) := (D2 (Or.inr (hw _ (List.mem_of_getElem? (i := 20) rfl))) (ty := .array .byte) (by decide))
  have F2_1 : Fld Z h2 a2 "java/lang/String" "coder" "B" (.int ((0 : Int32))) := (D2 (Or.inr (hw _ (List.mem_of_getElem? (i := 21) rfl))) (ty := .byte) (by decide))
  refine own_on st2 ?_
  show own_Go p e below F (T2.setTop (mkF m 7 #[.val (.int ((0 : Int32))), .val (.int a), .val (.int b), .val (.int c0), .unset] [(.ref a2)]))
  have gz_a2 : Z.heap.size ≤ a2 := Nat.le_trans EZ.1 ge3
  refine own_dup X2.here hx (hb hby dD_7) rfl (pc' := 8) rfl ?_
  refine own_iconst X2.here hx (hb hby dD_8) (v := 0) rfl (pc' := 9) rfl ?_
  obtain ⟨T6, h6, k6, X6, e6, E6, A6, st6⟩ := newP X2 hx J5.1 (hw _ (List.mem_of_getElem? (i := 7) rfl)) e2 (g := (mkF m 9 #[.val (.int ((0 : Int32))), .val (.int a), .val (.int b), .val (.int c0), .unset] [(.int ((0 : Int32))), (.ref a2), (.ref a2)])) rfl (hb hby dD_9) rfl (by decide : ¬ ((0 : Int32) < (0 : Int32))) (cap := 0) (by decide) (by decide) (by decide) (by decide)
  obtain ⟨a6, g6⟩ : ∃ z, z = h2.size := ⟨_, rfl⟩
  rw [← g6] at A6 st6
  have ne7 : a2 ≠ a6 := Nat.ne_of_lt (by rw [g6]; exact A2.lt)
  have ge8 : h0.size ≤ a6 := by rw [g6]; exact f4.1
  have f9 := own_ext_trans f4 E6
  have f10 := A2.ext E6
  have f11 := F2_0.ext E6
  have f12 := F2_1.ext E6
  have f13 := Safe.ext E6 J5.ch sf2
  have J14 := J5.ext E6
  have V6 : Arv Z h6 a6 k6 .char (0 : Int32) [] (.int (0 : Int32)) := (Arv.new A6 (by decide)).pad (pad_rep [] (.int (0 : Int32)) 0)
  refine own_on st6 ?_
  show own_Go p e below F (T6.setTop (mkF m 11 #[.val (.int ((0 : Int32))), .val (.int a), .val (.int b), .val (.int c0), .unset] [(.ref a6), (.ref a2), (.ref a2)]))
  obtain ⟨_, _, ⟨T15, L15, k15, n15⟩, -, X15, hS15, hG15, ⟨Lc15, hQ15, l15, y15, z15, C15⟩, st15⟩ := X6.specialBackS hx (y := (⟨"java/lang/String", "<init>", "([C)V"⟩ : MethodName)) rfl J14.2.1 (mvT J14.1 (hw _ (List.mem_of_getElem? (i := 8) rfl))) (mvT J14.1 (hw _ (List.mem_of_getElem? (i := 9) rfl))) (mvT J14.1 (hw _ (List.mem_of_getElem? (i := 10) rfl))) (by decide) (own_backW (W := 1) (rmE1 l Z a0 hw hEL a2 a6 k6 _ h6 gz_a2 f10 f11 f12 V6) J14.1 (hw _ (List.mem_of_getElem? (i := 10) rfl)) (hw _ (List.mem_of_getElem? (i := 6) rfl)) (by decide) (by decide) hEL J14.ch (fun y hy => by simp only [List.mem_cons, List.not_mem_nil, or_false] at hy; subst hy; exact ⟨f10.lt, f13⟩)) (g := (mkF m 11 #[.val (.int ((0 : Int32))), .val (.int a), .val (.int b), .val (.int c0), .unset] [(.ref a6), (.ref a2), (.ref a2)])) rfl (by rw [hml]; rfl) (Steps.refl _) (a := a2) (argsL := [(.ref a6)]) (rest := [(.ref a2)]) (lenOf pdE1 rfl) rfl (by show 2 * 0 + _ ≤ _; exact Nat.le_of_eq rfl) (hb hby dD_11) (fun _ _ => ⟨rfl, e6, (Nat.le_of_ble_eq_true rfl), (Nat.le_of_ble_eq_true rfl)⟩)
  dsimp only [Pt.U, Pt.locs, Pt.cells, Pt.slots] at X15 hS15 hG15 l15 y15 z15 C15 st15 hQ15
  subst l15 y15 z15
  replace X15 := (show Stand _ _ _ _ (s.setVm T15.vm) _ _ _ _ _ _ _ _ _ from X15)
  have I15 := J14.later hS15 (Nat.le_refl _) (by have q := hG15; rw [(e6 : _ = h6)] at q; exact q) C15
  obtain ⟨rfl, N15, K15, S15⟩ := hQ15
  refine own_to st15 ?_
  show own_Go p e below F (T15.setTop (mkF m 14 #[.val (.int ((0 : Int32))), .val (.int a), .val (.int b), .val (.int c0), .unset] [(.ref a2)]))
  have f16 := own_ext_keep f9 K15 (fun y hy => by simp only [List.mem_cons, List.not_mem_nil, or_false] at hy; rcases hy with rfl <;> assumption)
  have N17 := Fr.app N0 N15
  exact own_retAW X15 hx hlk hEL I15 rfl hret rfl rfl (hb hby dD_14) (fun t ht hC hE => hF t _ _ _ _ (by rw [ht]; exact ⟨_, rfl, S15, f16, N17⟩) hC hE (by decide) (by decide))
def Q_rmD1 (Z : State) (a b c0 : Int32) (h0 : Heap) (z0 : Int32) (v : Option Value) (h : Heap) (L : List Loc) : Prop := ∃ x, v = some (.ref x) ∧ own_Str Z h x [a] ∧ Ext h0 h ∧ Fr Z.heap.size L
set_option maxRecDepth 65536 in
set_option maxHeartbeats 40000000 in
theorem rmD1 (l : Launch) (Z : State) (a0 : Array Value) (hw : ∀ d ∈ tables_1, d.before a0 Z = true) (a b c0 : Int32) (h0 : Heap) (EZ : Ext Z.heap h0) (z0 : Int32) (O1 : Sta Z Z.heap "java/lang/String" "COMPACT_STRINGS" "Z" (.int z0)) (P5 : ¬ z0 = 0) (na : nar .char a = a) (nb : nar .char b = b) (nc : nar .char c0 = c0) (hp : ∀ c ∈ ([a] : List Int32), ¬ c < 0 ∧ ¬ (255 : Int32) < c) :
    MetFree l (⟨"com/example/credential_to_assertion/credentialtoassertion/service/validation/IdentityTokenPresentationRestrictedToPinLaw", "draw", "(ICCC)Ljava/lang/String;"⟩ : MethodName) (head1 (Jvm.Cond.code (⟨"com/example/credential_to_assertion/credentialtoassertion/service/validation/IdentityTokenPresentationRestrictedToPinLaw", "draw", "(ICCC)Ljava/lang/String;"⟩ : MethodName) method_2_code 5 (Option.some (FieldType.object "java/lang/String")) :: []) ({ frames := 4, cells := 6, slots := 16, locals := 66 } : Room)) (fun aa U => aa = #[(.int (1 : Int32)), (.int a), (.int b), (.int c0)] ∧ Z.Warmed39 U.vm ∧ U.heap = h0) (fun _ _ _ _ _ => True) (fun _ U o U' => ∃ v L, o = .returned v ∧ (Q_rmD1 Z a b c0 h0 z0) v U'.heap L ∧ FrameEnd U o U' L ({ frames := 4, cells := 6, slots := 16, locals := 66 } : Room).cells ({ frames := 4, cells := 6, slots := 16, locals := 66 } : Room).slots) := by
  refine own_walkN (by exact pnL) ?_
  intro p e s m below meth c T0 X0 hx hby hml hret hlk hnm hown hZ e0 es0 F hF
  refine own_on (fun _ => castTop (efD m 1 a b c0)) ?_
  have M0 := own_ext_refl h0
  have N0 := Fr.nil Z.heap.size
  have own_hws := own_hwsL hw
  refine own_iload_n X0.here hx (hb hby dD_0) rfl (pc' := 1) rfl ?_
  refine own_ifne X0.here hx (hb hby dD_1) (by decide) (pc' := 15) (by decide) (pc2 := 4) rfl (fun q1 => ?_) (fun q => absurd q (by decide))
  refine own_iload_n X0.here hx (hb hby dD_15) rfl (pc' := 16) rfl ?_
  refine own_iconst X0.here hx (hb hby dD_16) (v := 1) rfl (pc' := 17) rfl ?_
  refine own_icmpne X0.here hx (hb hby dD_17) (by decide) (pc' := 40) (by decide) (pc2 := 20) rfl (fun q => absurd rfl q) (fun q2 => ?_)
  refine own_iconst X0.here hx (hb hby dD_20) (v := 1) rfl (pc' := 21) rfl ?_
  obtain ⟨T3, h3, k3, X3, e3, E3, A3, st3⟩ := newP X0 hx hZ (hw _ (List.mem_of_getElem? (i := 7) rfl)) e0 (g := (mkF m 21 #[.val (.int ((1 : Int32))), .val (.int a), .val (.int b), .val (.int c0), .unset] [(.int ((1 : Int32)))])) rfl (hb hby dD_21) rfl (by decide : ¬ ((1 : Int32) < (0 : Int32))) (cap := 1) (by decide) (by decide) (by decide) (by decide)
  obtain ⟨a3, g3⟩ : ∃ z, z = h0.size := ⟨_, rfl⟩
  rw [← g3] at A3 st3
  have ge4 : h0.size ≤ a3 := by rw [g3]; exact M0.1
  have f5 := own_ext_trans M0 E3
  have V3 : Arv Z h3 a3 k3 .char (1 : Int32) [.int (0 : Int32)] (.int (0 : Int32)) := (Arv.new A3 (by decide)).pad (pad_rep [] (.int (0 : Int32)) 1)
  refine own_on st3 ?_
  show own_Go p e below F (T3.setTop (mkF m 23 #[.val (.int ((1 : Int32))), .val (.int a), .val (.int b), .val (.int c0), .unset] [(.ref a3)]))
  have gz_a3 : Z.heap.size ≤ a3 := Nat.le_trans EZ.1 ge4
  refine own_astore X3.here hx (hb hby dD_23) rfl (L' := #[.val (.int ((1 : Int32))), .val (.int a), .val (.int b), .val (.int c0), .val (.ref a3)]) rfl (pc' := 25) rfl ?_
  refine own_aload X3.here hx (hb hby dD_25) rfl rfl (pc' := 27) rfl ?_
  refine own_iconst X3.here hx (hb hby dD_27) (v := 0) rfl (pc' := 28) rfl ?_
  refine own_iload_n X3.here hx (hb hby dD_28) rfl (pc' := 29) rfl ?_
  obtain ⟨T6, h6, X6, e6, W6, V6, st6⟩ := own_cast X3 hx hZ e3 V3 (i := 0) rfl (Nat.le_of_ble_eq_true rfl) (by decide) na (g := (mkF m 29 #[.val (.int ((1 : Int32))), .val (.int a), .val (.int b), .val (.int c0), .val (.ref a3)] [(.int a), (.int ((0 : Int32))), (.ref a3)])) rfl rfl (hb hby dD_29)
  replace V6 : Arv Z h6 a3 k3 .char (1 : Int32) [.int a] (.int (0 : Int32)) := V6
  have f7 := own_ext_wr f5 W6 ge4
  have N8 := own_Fr_snoc (sl := ((0 : Int32)).toNatClampNeg) N0 gz_a3
  refine own_on st6 ?_
  show own_Go p e below F (T6.setTop (mkF m 30 #[.val (.int ((1 : Int32))), .val (.int a), .val (.int b), .val (.int c0), .val (.ref a3)] []))
  obtain ⟨T9, h9, X9, e9, E9, A9, D9, -, st9⟩ := newO X6 hx hZ hown (hw _ (List.mem_of_getElem? (i := 4) rfl)) (hw _ (List.mem_of_getElem? (i := 5) rfl)) (hw _ (List.mem_of_getElem? (i := 6) rfl)) e6 (g := (mkF m 30 #[.val (.int ((1 : Int32))), .val (.int a), .val (.int b), .val (.int c0), .val (.ref a3)] [])) rfl (hb hby dD_30) (by decide) (by decide)
  obtain ⟨a9, g9⟩ : ∃ z, z = h6.size := ⟨_, rfl⟩
  rw [← g9] at A9 D9 st9
  have ne10 : a3 ≠ a9 := Nat.ne_of_lt (by rw [g9]; exact V6.lt)
  have ge11 : h0.size ≤ a9 := by rw [g9]; exact f7.1
  have f12 := own_ext_trans f7 E9
  have f13 := V6.ext E9
  have F9_0 : Fld Z h9 a9 "java/lang/String" "value" "[B" (.null) := (D9 (Or.inr (hw _ (List.mem_of_getElem? (i := 20) rfl))) (ty := .array .byte) (by decide))
  have F9_1 : Fld Z h9 a9 "java/lang/String" "coder" "B" (.int ((0 : Int32))) := (D9 (Or.inr (hw _ (List.mem_of_getElem? (i := 21) rfl))) (ty := .byte) (by decide))
  refine own_on st9 ?_
  show own_Go p e below F (T9.setTop (mkF m 33 #[.val (.int ((1 : Int32))), .val (.int a), .val (.int b), .val (.int c0), .val (.ref a3)] [(.ref a9)]))
  have gz_a9 : Z.heap.size ≤ a9 := Nat.le_trans EZ.1 ge11
  refine own_dup X9.here hx (hb hby dD_33) rfl (pc' := 34) rfl ?_
  refine own_aload X9.here hx (hb hby dD_34) rfl rfl (pc' := 36) rfl ?_
  obtain ⟨_, _, ⟨T14, L14, k14, n14⟩, -, X14, ⟨Lc14, hQ14, l14, y14, z14⟩, st14⟩ := X9.specialBack hx (y := (⟨"java/lang/String", "<init>", "([C)V"⟩ : MethodName)) rfl hown (mvT hZ (hw _ (List.mem_of_getElem? (i := 8) rfl))) (mvT hZ (hw _ (List.mem_of_getElem? (i := 9) rfl))) (mvT hZ (hw _ (List.mem_of_getElem? (i := 10) rfl))) (by decide) (StrChars.Road.backV (s := s) (W := 1) hZ own_hws (kI := 4) (hw _ own_wiS) (cs := ([a] : List Int32)) (bs := ([a] : List Int32).map (fun c => c.toInt8.toInt32)) (n := 1) gz_a9 (Nat.le_trans gz_a9 (Nat.le_of_lt (A9).lt)) A9 F9_0 F9_1 f13 (O1.ext (own_ext_trans EZ f12)) P5 rfl rfl (by decide) (by decide) hp rfl (by decide) (by decide)) (g := (mkF m 36 #[.val (.int ((1 : Int32))), .val (.int a), .val (.int b), .val (.int c0), .val (.ref a3)] [(.ref a3), (.ref a9), (.ref a9)])) rfl (by rw [hml]; rfl) (Steps.refl _) (a := a9) (argsL := [(.ref a3)]) (rest := [(.ref a9)]) (lenOf pdE1 rfl) rfl (by show 2 * 0 + _ ≤ _; exact Nat.le_of_eq rfl) (hb hby dD_36) (fun _ _ => ⟨rfl, e9, (Nat.le_of_ble_eq_true rfl), (Nat.le_of_ble_eq_true rfl)⟩)
  dsimp only [Pt.U, Pt.locs, Pt.cells, Pt.slots] at X14 l14 y14 z14 st14 hQ14
  subst l14 y14 z14
  obtain ⟨rfl, N14, K14, A14, C14, t14, kb14, _, _, _, V14, R14⟩ := hQ14
  refine own_to st14 ?_
  show own_Go p e below F (T14.setTop (mkF m 39 #[.val (.int ((1 : Int32))), .val (.int a), .val (.int b), .val (.int c0), .val (.ref a3)] [(.ref a9)]))
  have f15 := own_ext_keep f12 K14 (fun y hy => by simp only [List.mem_cons, List.not_mem_nil, or_false] at hy; rcases hy with rfl <;> assumption)
  have f16 := f13.keep K14 (by simp only [List.mem_cons, List.not_mem_nil, or_false, not_or]; exact ne10)
  have f17 := A9.keep K14
  have N20 := Fr.app N8 N14
  have S21 : own_Str Z T14.heap a9 [a] := ⟨t14, kb14, A14, V14, C14, R14, hp, Nat.le_of_ble_eq_true rfl⟩
  exact own_retA X14 hx hlk hret rfl rfl (hb hby dD_39) (fun t ht hE => hF t _ _ _ _ (by rw [ht, (rfl : _ = T14.heap)]; exact ⟨_, rfl, S21, f15, N20⟩) hE (by decide) (by decide))
def Q_rmD2 (Z : State) (a b c0 : Int32) (h0 : Heap) (z0 : Int32) (v : Option Value) (h : Heap) (L : List Loc) : Prop := ∃ x, v = some (.ref x) ∧ own_Str Z h x [a, b] ∧ Ext h0 h ∧ Fr Z.heap.size L
set_option maxRecDepth 65536 in
set_option maxHeartbeats 40000000 in
theorem rmD2 (l : Launch) (Z : State) (a0 : Array Value) (hw : ∀ d ∈ tables_1, d.before a0 Z = true) (a b c0 : Int32) (h0 : Heap) (EZ : Ext Z.heap h0) (z0 : Int32) (O1 : Sta Z Z.heap "java/lang/String" "COMPACT_STRINGS" "Z" (.int z0)) (P5 : ¬ z0 = 0) (na : nar .char a = a) (nb : nar .char b = b) (nc : nar .char c0 = c0) (hp : ∀ c ∈ ([a, b] : List Int32), ¬ c < 0 ∧ ¬ (255 : Int32) < c) :
    MetFree l (⟨"com/example/credential_to_assertion/credentialtoassertion/service/validation/IdentityTokenPresentationRestrictedToPinLaw", "draw", "(ICCC)Ljava/lang/String;"⟩ : MethodName) (head1 (Jvm.Cond.code (⟨"com/example/credential_to_assertion/credentialtoassertion/service/validation/IdentityTokenPresentationRestrictedToPinLaw", "draw", "(ICCC)Ljava/lang/String;"⟩ : MethodName) method_2_code 5 (Option.some (FieldType.object "java/lang/String")) :: []) ({ frames := 4, cells := 6, slots := 16, locals := 66 } : Room)) (fun aa U => aa = #[(.int (2 : Int32)), (.int a), (.int b), (.int c0)] ∧ Z.Warmed39 U.vm ∧ U.heap = h0) (fun _ _ _ _ _ => True) (fun _ U o U' => ∃ v L, o = .returned v ∧ (Q_rmD2 Z a b c0 h0 z0) v U'.heap L ∧ FrameEnd U o U' L ({ frames := 4, cells := 6, slots := 16, locals := 66 } : Room).cells ({ frames := 4, cells := 6, slots := 16, locals := 66 } : Room).slots) := by
  refine own_walkN (by exact pnL) ?_
  intro p e s m below meth c T0 X0 hx hby hml hret hlk hnm hown hZ e0 es0 F hF
  refine own_on (fun _ => castTop (efD m 2 a b c0)) ?_
  have M0 := own_ext_refl h0
  have N0 := Fr.nil Z.heap.size
  have own_hws := own_hwsL hw
  refine own_iload_n X0.here hx (hb hby dD_0) rfl (pc' := 1) rfl ?_
  refine own_ifne X0.here hx (hb hby dD_1) (by decide) (pc' := 15) (by decide) (pc2 := 4) rfl (fun q1 => ?_) (fun q => absurd q (by decide))
  refine own_iload_n X0.here hx (hb hby dD_15) rfl (pc' := 16) rfl ?_
  refine own_iconst X0.here hx (hb hby dD_16) (v := 1) rfl (pc' := 17) rfl ?_
  refine own_icmpne X0.here hx (hb hby dD_17) (by decide) (pc' := 40) (by decide) (pc2 := 20) rfl (fun q2 => ?_) (fun q => absurd q (by decide))
  refine own_iload_n X0.here hx (hb hby dD_40) rfl (pc' := 41) rfl ?_
  refine own_iconst X0.here hx (hb hby dD_41) (v := 2) rfl (pc' := 42) rfl ?_
  refine own_icmpne X0.here hx (hb hby dD_42) (by decide) (pc' := 70) (by decide) (pc2 := 45) rfl (fun q => absurd rfl q) (fun q3 => ?_)
  refine own_iconst X0.here hx (hb hby dD_45) (v := 2) rfl (pc' := 46) rfl ?_
  obtain ⟨T4, h4, k4, X4, e4, E4, A4, st4⟩ := newP X0 hx hZ (hw _ (List.mem_of_getElem? (i := 7) rfl)) e0 (g := (mkF m 46 #[.val (.int ((2 : Int32))), .val (.int a), .val (.int b), .val (.int c0), .unset] [(.int ((2 : Int32)))])) rfl (hb hby dD_46) rfl (by decide : ¬ ((2 : Int32) < (0 : Int32))) (cap := 2) (by decide) (by decide) (by decide) (by decide)
  obtain ⟨a4, g4⟩ : ∃ z, z = h0.size := ⟨_, rfl⟩
  rw [← g4] at A4 st4
  have ge5 : h0.size ≤ a4 := by rw [g4]; exact M0.1
  have f6 := own_ext_trans M0 E4
  have V4 : Arv Z h4 a4 k4 .char (2 : Int32) [.int (0 : Int32), .int (0 : Int32)] (.int (0 : Int32)) := (Arv.new A4 (by decide)).pad (pad_rep [] (.int (0 : Int32)) 2)
  refine own_on st4 ?_
  show own_Go p e below F (T4.setTop (mkF m 48 #[.val (.int ((2 : Int32))), .val (.int a), .val (.int b), .val (.int c0), .unset] [(.ref a4)]))
  have gz_a4 : Z.heap.size ≤ a4 := Nat.le_trans EZ.1 ge5
  refine own_astore X4.here hx (hb hby dD_48) rfl (L' := #[.val (.int ((2 : Int32))), .val (.int a), .val (.int b), .val (.int c0), .val (.ref a4)]) rfl (pc' := 50) rfl ?_
  refine own_aload X4.here hx (hb hby dD_50) rfl rfl (pc' := 52) rfl ?_
  refine own_iconst X4.here hx (hb hby dD_52) (v := 0) rfl (pc' := 53) rfl ?_
  refine own_iload_n X4.here hx (hb hby dD_53) rfl (pc' := 54) rfl ?_
  obtain ⟨T7, h7, X7, e7, W7, V7, st7⟩ := own_cast X4 hx hZ e4 V4 (i := 0) rfl (Nat.le_of_ble_eq_true rfl) (by decide) na (g := (mkF m 54 #[.val (.int ((2 : Int32))), .val (.int a), .val (.int b), .val (.int c0), .val (.ref a4)] [(.int a), (.int ((0 : Int32))), (.ref a4)])) rfl rfl (hb hby dD_54)
  replace V7 : Arv Z h7 a4 k4 .char (2 : Int32) [.int a, .int (0 : Int32)] (.int (0 : Int32)) := V7
  have f8 := own_ext_wr f6 W7 ge5
  have N9 := own_Fr_snoc (sl := ((0 : Int32)).toNatClampNeg) N0 gz_a4
  refine own_on st7 ?_
  show own_Go p e below F (T7.setTop (mkF m 55 #[.val (.int ((2 : Int32))), .val (.int a), .val (.int b), .val (.int c0), .val (.ref a4)] []))
  refine own_aload X7.here hx (hb hby dD_55) rfl rfl (pc' := 57) rfl ?_
  refine own_iconst X7.here hx (hb hby dD_57) (v := 1) rfl (pc' := 58) rfl ?_
  refine own_iload_n X7.here hx (hb hby dD_58) rfl (pc' := 59) rfl ?_
  obtain ⟨T10, h10, X10, e10, W10, V10, st10⟩ := own_cast X7 hx hZ e7 V7 (i := 1) rfl (Nat.le_of_ble_eq_true rfl) (by decide) nb (g := (mkF m 59 #[.val (.int ((2 : Int32))), .val (.int a), .val (.int b), .val (.int c0), .val (.ref a4)] [(.int b), (.int ((1 : Int32))), (.ref a4)])) rfl rfl (hb hby dD_59)
  replace V10 : Arv Z h10 a4 k4 .char (2 : Int32) [.int a, .int b] (.int (0 : Int32)) := V10
  have f11 := own_ext_wr f8 W10 ge5
  have N12 := own_Fr_snoc (sl := ((1 : Int32)).toNatClampNeg) N9 gz_a4
  refine own_on st10 ?_
  show own_Go p e below F (T10.setTop (mkF m 60 #[.val (.int ((2 : Int32))), .val (.int a), .val (.int b), .val (.int c0), .val (.ref a4)] []))
  obtain ⟨T13, h13, X13, e13, E13, A13, D13, -, st13⟩ := newO X10 hx hZ hown (hw _ (List.mem_of_getElem? (i := 4) rfl)) (hw _ (List.mem_of_getElem? (i := 5) rfl)) (hw _ (List.mem_of_getElem? (i := 6) rfl)) e10 (g := (mkF m 60 #[.val (.int ((2 : Int32))), .val (.int a), .val (.int b), .val (.int c0), .val (.ref a4)] [])) rfl (hb hby dD_60) (by decide) (by decide)
  obtain ⟨a13, g13⟩ : ∃ z, z = h10.size := ⟨_, rfl⟩
  rw [← g13] at A13 D13 st13
  have ne14 : a4 ≠ a13 := Nat.ne_of_lt (by rw [g13]; exact V10.lt)
  have ge15 : h0.size ≤ a13 := by rw [g13]; exact f11.1
  have f16 := own_ext_trans f11 E13
  have f17 := V10.ext E13
  have F13_0 : Fld Z h13 a13 "java/lang/String" "value" "[B" (.null) := (D13 (Or.inr (hw _ (List.mem_of_getElem? (i := 20) rfl))) (ty := .array .byte) (by decide))
  have F13_1 : Fld Z h13 a13 "java/lang/String" "coder" "B" (.int ((0 : Int32))) := (D13 (Or.inr (hw _ (List.mem_of_getElem? (i := 21) rfl))) (ty := .byte) (by decide))
  refine own_on st13 ?_
  show own_Go p e below F (T13.setTop (mkF m 63 #[.val (.int ((2 : Int32))), .val (.int a), .val (.int b), .val (.int c0), .val (.ref a4)] [(.ref a13)]))
  have gz_a13 : Z.heap.size ≤ a13 := Nat.le_trans EZ.1 ge15
  refine own_dup X13.here hx (hb hby dD_63) rfl (pc' := 64) rfl ?_
  refine own_aload X13.here hx (hb hby dD_64) rfl rfl (pc' := 66) rfl ?_
  obtain ⟨_, _, ⟨T18, L18, k18, n18⟩, -, X18, ⟨Lc18, hQ18, l18, y18, z18⟩, st18⟩ := X13.specialBack hx (y := (⟨"java/lang/String", "<init>", "([C)V"⟩ : MethodName)) rfl hown (mvT hZ (hw _ (List.mem_of_getElem? (i := 8) rfl))) (mvT hZ (hw _ (List.mem_of_getElem? (i := 9) rfl))) (mvT hZ (hw _ (List.mem_of_getElem? (i := 10) rfl))) (by decide) (StrChars.Road.backV (s := s) (W := 1) hZ own_hws (kI := 4) (hw _ own_wiS) (cs := ([a, b] : List Int32)) (bs := ([a, b] : List Int32).map (fun c => c.toInt8.toInt32)) (n := 2) gz_a13 (Nat.le_trans gz_a13 (Nat.le_of_lt (A13).lt)) A13 F13_0 F13_1 f17 (O1.ext (own_ext_trans EZ f16)) P5 rfl rfl (by decide) (by decide) hp rfl (by decide) (by decide)) (g := (mkF m 66 #[.val (.int ((2 : Int32))), .val (.int a), .val (.int b), .val (.int c0), .val (.ref a4)] [(.ref a4), (.ref a13), (.ref a13)])) rfl (by rw [hml]; rfl) (Steps.refl _) (a := a13) (argsL := [(.ref a4)]) (rest := [(.ref a13)]) (lenOf pdE1 rfl) rfl (by show 2 * 0 + _ ≤ _; exact Nat.le_of_eq rfl) (hb hby dD_66) (fun _ _ => ⟨rfl, e13, (Nat.le_of_ble_eq_true rfl), (Nat.le_of_ble_eq_true rfl)⟩)
  dsimp only [Pt.U, Pt.locs, Pt.cells, Pt.slots] at X18 l18 y18 z18 st18 hQ18
  subst l18 y18 z18
  obtain ⟨rfl, N18, K18, A18, C18, t18, kb18, _, _, _, V18, R18⟩ := hQ18
  refine own_to st18 ?_
  show own_Go p e below F (T18.setTop (mkF m 69 #[.val (.int ((2 : Int32))), .val (.int a), .val (.int b), .val (.int c0), .val (.ref a4)] [(.ref a13)]))
  have f19 := own_ext_keep f16 K18 (fun y hy => by simp only [List.mem_cons, List.not_mem_nil, or_false] at hy; rcases hy with rfl <;> assumption)
  have f20 := f17.keep K18 (by simp only [List.mem_cons, List.not_mem_nil, or_false, not_or]; exact ne14)
  have f21 := A13.keep K18
  have N24 := Fr.app N12 N18
  have S25 : own_Str Z T18.heap a13 [a, b] := ⟨t18, kb18, A18, V18, C18, R18, hp, Nat.le_of_ble_eq_true rfl⟩
  exact own_retA X18 hx hlk hret rfl rfl (hb hby dD_69) (fun t ht hE => hF t _ _ _ _ (by rw [ht, (rfl : _ = T18.heap)]; exact ⟨_, rfl, S25, f19, N24⟩) hE (by decide) (by decide))
def Q_rmD3 (Z : State) (a b c0 : Int32) (h0 : Heap) (z0 : Int32) (v : Option Value) (h : Heap) (L : List Loc) : Prop := ∃ x, v = some (.ref x) ∧ own_Str Z h x [a, b, c0] ∧ Ext h0 h ∧ Fr Z.heap.size L
set_option maxRecDepth 65536 in
set_option maxHeartbeats 40000000 in
theorem rmD3 (l : Launch) (Z : State) (a0 : Array Value) (hw : ∀ d ∈ tables_1, d.before a0 Z = true) (a b c0 : Int32) (h0 : Heap) (EZ : Ext Z.heap h0) (z0 : Int32) (O1 : Sta Z Z.heap "java/lang/String" "COMPACT_STRINGS" "Z" (.int z0)) (P5 : ¬ z0 = 0) (na : nar .char a = a) (nb : nar .char b = b) (nc : nar .char c0 = c0) (hp : ∀ c ∈ ([a, b, c0] : List Int32), ¬ c < 0 ∧ ¬ (255 : Int32) < c) :
    MetFree l (⟨"com/example/credential_to_assertion/credentialtoassertion/service/validation/IdentityTokenPresentationRestrictedToPinLaw", "draw", "(ICCC)Ljava/lang/String;"⟩ : MethodName) (head1 (Jvm.Cond.code (⟨"com/example/credential_to_assertion/credentialtoassertion/service/validation/IdentityTokenPresentationRestrictedToPinLaw", "draw", "(ICCC)Ljava/lang/String;"⟩ : MethodName) method_2_code 5 (Option.some (FieldType.object "java/lang/String")) :: []) ({ frames := 4, cells := 6, slots := 16, locals := 66 } : Room)) (fun aa U => aa = #[(.int (3 : Int32)), (.int a), (.int b), (.int c0)] ∧ Z.Warmed39 U.vm ∧ U.heap = h0) (fun _ _ _ _ _ => True) (fun _ U o U' => ∃ v L, o = .returned v ∧ (Q_rmD3 Z a b c0 h0 z0) v U'.heap L ∧ FrameEnd U o U' L ({ frames := 4, cells := 6, slots := 16, locals := 66 } : Room).cells ({ frames := 4, cells := 6, slots := 16, locals := 66 } : Room).slots) := by
  refine own_walkN (by exact pnL) ?_
  intro p e s m below meth c T0 X0 hx hby hml hret hlk hnm hown hZ e0 es0 F hF
  refine own_on (fun _ => castTop (efD m 3 a b c0)) ?_
  have M0 := own_ext_refl h0
  have N0 := Fr.nil Z.heap.size
  have own_hws := own_hwsL hw
  refine own_iload_n X0.here hx (hb hby dD_0) rfl (pc' := 1) rfl ?_
  refine own_ifne X0.here hx (hb hby dD_1) (by decide) (pc' := 15) (by decide) (pc2 := 4) rfl (fun q1 => ?_) (fun q => absurd q (by decide))
  refine own_iload_n X0.here hx (hb hby dD_15) rfl (pc' := 16) rfl ?_
  refine own_iconst X0.here hx (hb hby dD_16) (v := 1) rfl (pc' := 17) rfl ?_
  refine own_icmpne X0.here hx (hb hby dD_17) (by decide) (pc' := 40) (by decide) (pc2 := 20) rfl (fun q2 => ?_) (fun q => absurd q (by decide))
  refine own_iload_n X0.here hx (hb hby dD_40) rfl (pc' := 41) rfl ?_
  refine own_iconst X0.here hx (hb hby dD_41) (v := 2) rfl (pc' := 42) rfl ?_
  refine own_icmpne X0.here hx (hb hby dD_42) (by decide) (pc' := 70) (by decide) (pc2 := 45) rfl (fun q3 => ?_) (fun q => absurd q (by decide))
  refine own_iconst X0.here hx (hb hby dD_70) (v := 3) rfl (pc' := 71) rfl ?_
  obtain ⟨T4, h4, k4, X4, e4, E4, A4, st4⟩ := newP X0 hx hZ (hw _ (List.mem_of_getElem? (i := 7) rfl)) e0 (g := (mkF m 71 #[.val (.int ((3 : Int32))), .val (.int a), .val (.int b), .val (.int c0), .unset] [(.int ((3 : Int32)))])) rfl (hb hby dD_71) rfl (by decide : ¬ ((3 : Int32) < (0 : Int32))) (cap := 3) (by decide) (by decide) (by decide) (by decide)
  obtain ⟨a4, g4⟩ : ∃ z, z = h0.size := ⟨_, rfl⟩
  rw [← g4] at A4 st4
  have ge5 : h0.size ≤ a4 := by rw [g4]; exact M0.1
  have f6 := own_ext_trans M0 E4
  have V4 : Arv Z h4 a4 k4 .char (3 : Int32) [.int (0 : Int32), .int (0 : Int32), .int (0 : Int32)] (.int (0 : Int32)) := (Arv.new A4 (by decide)).pad (pad_rep [] (.int (0 : Int32)) 3)
  refine own_on st4 ?_
  show own_Go p e below F (T4.setTop (mkF m 73 #[.val (.int ((3 : Int32))), .val (.int a), .val (.int b), .val (.int c0), .unset] [(.ref a4)]))
  have gz_a4 : Z.heap.size ≤ a4 := Nat.le_trans EZ.1 ge5
  refine own_astore X4.here hx (hb hby dD_73) rfl (L' := #[.val (.int ((3 : Int32))), .val (.int a), .val (.int b), .val (.int c0), .val (.ref a4)]) rfl (pc' := 75) rfl ?_
  refine own_aload X4.here hx (hb hby dD_75) rfl rfl (pc' := 77) rfl ?_
  refine own_iconst X4.here hx (hb hby dD_77) (v := 0) rfl (pc' := 78) rfl ?_
  refine own_iload_n X4.here hx (hb hby dD_78) rfl (pc' := 79) rfl ?_
  obtain ⟨T7, h7, X7, e7, W7, V7, st7⟩ := own_cast X4 hx hZ e4 V4 (i := 0) rfl (Nat.le_of_ble_eq_true rfl) (by decide) na (g := (mkF m 79 #[.val (.int ((3 : Int32))), .val (.int a), .val (.int b), .val (.int c0), .val (.ref a4)] [(.int a), (.int ((0 : Int32))), (.ref a4)])) rfl rfl (hb hby dD_79)
  replace V7 : Arv Z h7 a4 k4 .char (3 : Int32) [.int a, .int (0 : Int32), .int (0 : Int32)] (.int (0 : Int32)) := V7
  have f8 := own_ext_wr f6 W7 ge5
  have N9 := own_Fr_snoc (sl := ((0 : Int32)).toNatClampNeg) N0 gz_a4
  refine own_on st7 ?_
  show own_Go p e below F (T7.setTop (mkF m 80 #[.val (.int ((3 : Int32))), .val (.int a), .val (.int b), .val (.int c0), .val (.ref a4)] []))
  refine own_aload X7.here hx (hb hby dD_80) rfl rfl (pc' := 82) rfl ?_
  refine own_iconst X7.here hx (hb hby dD_82) (v := 1) rfl (pc' := 83) rfl ?_
  refine own_iload_n X7.here hx (hb hby dD_83) rfl (pc' := 84) rfl ?_
  obtain ⟨T10, h10, X10, e10, W10, V10, st10⟩ := own_cast X7 hx hZ e7 V7 (i := 1) rfl (Nat.le_of_ble_eq_true rfl) (by decide) nb (g := (mkF m 84 #[.val (.int ((3 : Int32))), .val (.int a), .val (.int b), .val (.int c0), .val (.ref a4)] [(.int b), (.int ((1 : Int32))), (.ref a4)])) rfl rfl (hb hby dD_84)
  replace V10 : Arv Z h10 a4 k4 .char (3 : Int32) [.int a, .int b, .int (0 : Int32)] (.int (0 : Int32)) := V10
  have f11 := own_ext_wr f8 W10 ge5
  have N12 := own_Fr_snoc (sl := ((1 : Int32)).toNatClampNeg) N9 gz_a4
  refine own_on st10 ?_
  show own_Go p e below F (T10.setTop (mkF m 85 #[.val (.int ((3 : Int32))), .val (.int a), .val (.int b), .val (.int c0), .val (.ref a4)] []))
  refine own_aload X10.here hx (hb hby dD_85) rfl rfl (pc' := 87) rfl ?_
  refine own_iconst X10.here hx (hb hby dD_87) (v := 2) rfl (pc' := 88) rfl ?_
  refine own_iload_n X10.here hx (hb hby dD_88) rfl (pc' := 89) rfl ?_
  obtain ⟨T13, h13, X13, e13, W13, V13, st13⟩ := own_cast X10 hx hZ e10 V10 (i := 2) rfl (Nat.le_of_ble_eq_true rfl) (by decide) nc (g := (mkF m 89 #[.val (.int ((3 : Int32))), .val (.int a), .val (.int b), .val (.int c0), .val (.ref a4)] [(.int c0), (.int ((2 : Int32))), (.ref a4)])) rfl rfl (hb hby dD_89)
  replace V13 : Arv Z h13 a4 k4 .char (3 : Int32) [.int a, .int b, .int c0] (.int (0 : Int32)) := V13
  have f14 := own_ext_wr f11 W13 ge5
  have N15 := own_Fr_snoc (sl := ((2 : Int32)).toNatClampNeg) N12 gz_a4
  refine own_on st13 ?_
  show own_Go p e below F (T13.setTop (mkF m 90 #[.val (.int ((3 : Int32))), .val (.int a), .val (.int b), .val (.int c0), .val (.ref a4)] []))
  obtain ⟨T16, h16, X16, e16, E16, A16, D16, -, st16⟩ := newO X13 hx hZ hown (hw _ (List.mem_of_getElem? (i := 4) rfl)) (hw _ (List.mem_of_getElem? (i := 5) rfl)) (hw _ (List.mem_of_getElem? (i := 6) rfl)) e13 (g := (mkF m 90 #[.val (.int ((3 : Int32))), .val (.int a), .val (.int b), .val (.int c0), .val (.ref a4)] [])) rfl (hb hby dD_90) (by decide) (by decide)
  obtain ⟨a16, g16⟩ : ∃ z, z = h13.size := ⟨_, rfl⟩
  rw [← g16] at A16 D16 st16
  have ne17 : a4 ≠ a16 := Nat.ne_of_lt (by rw [g16]; exact V13.lt)
  have ge18 : h0.size ≤ a16 := by rw [g16]; exact f14.1
  have f19 := own_ext_trans f14 E16
  have f20 := V13.ext E16
  have F16_0 : Fld Z h16 a16 "java/lang/String" "value" "[B" (.null) := (D16 (Or.inr (hw _ (List.mem_of_getElem? (i := 20) rfl))) (ty := .array .byte) (by decide))
  have F16_1 : Fld Z h16 a16 "java/lang/String" "coder" "B" (.int ((0 : Int32))) := (D16 (Or.inr (hw _ (List.mem_of_getElem? (i := 21) rfl))) (ty := .byte) (by decide))
  refine own_on st16 ?_
  show own_Go p e below F (T16.setTop (mkF m 93 #[.val (.int ((3 : Int32))), .val (.int a), .val (.int b), .val (.int c0), .val (.ref a4)] [(.ref a16)]))
  have gz_a16 : Z.heap.size ≤ a16 := Nat.le_trans EZ.1 ge18
  refine own_dup X16.here hx (hb hby dD_93) rfl (pc' := 94) rfl ?_
  refine own_aload X16.here hx (hb hby dD_94) rfl rfl (pc' := 96) rfl ?_
  obtain ⟨_, _, ⟨T21, L21, k21, n21⟩, -, X21, ⟨Lc21, hQ21, l21, y21, z21⟩, st21⟩ := X16.specialBack hx (y := (⟨"java/lang/String", "<init>", "([C)V"⟩ : MethodName)) rfl hown (mvT hZ (hw _ (List.mem_of_getElem? (i := 8) rfl))) (mvT hZ (hw _ (List.mem_of_getElem? (i := 9) rfl))) (mvT hZ (hw _ (List.mem_of_getElem? (i := 10) rfl))) (by decide) (StrChars.Road.backV (s := s) (W := 1) hZ own_hws (kI := 4) (hw _ own_wiS) (cs := ([a, b, c0] : List Int32)) (bs := ([a, b, c0] : List Int32).map (fun c => c.toInt8.toInt32)) (n := 3) gz_a16 (Nat.le_trans gz_a16 (Nat.le_of_lt (A16).lt)) A16 F16_0 F16_1 f20 (O1.ext (own_ext_trans EZ f19)) P5 rfl rfl (by decide) (by decide) hp rfl (by decide) (by decide)) (g := (mkF m 96 #[.val (.int ((3 : Int32))), .val (.int a), .val (.int b), .val (.int c0), .val (.ref a4)] [(.ref a4), (.ref a16), (.ref a16)])) rfl (by rw [hml]; rfl) (Steps.refl _) (a := a16) (argsL := [(.ref a4)]) (rest := [(.ref a16)]) (lenOf pdE1 rfl) rfl (by show 2 * 0 + _ ≤ _; exact Nat.le_of_eq rfl) (hb hby dD_96) (fun _ _ => ⟨rfl, e16, (Nat.le_of_ble_eq_true rfl), (Nat.le_of_ble_eq_true rfl)⟩)
  dsimp only [Pt.U, Pt.locs, Pt.cells, Pt.slots] at X21 l21 y21 z21 st21 hQ21
  subst l21 y21 z21
  obtain ⟨rfl, N21, K21, A21, C21, t21, kb21, _, _, _, V21, R21⟩ := hQ21
  refine own_to st21 ?_
  show own_Go p e below F (T21.setTop (mkF m 99 #[.val (.int ((3 : Int32))), .val (.int a), .val (.int b), .val (.int c0), .val (.ref a4)] [(.ref a16)]))
  have f22 := own_ext_keep f19 K21 (fun y hy => by simp only [List.mem_cons, List.not_mem_nil, or_false] at hy; rcases hy with rfl <;> assumption)
  have f23 := f20.keep K21 (by simp only [List.mem_cons, List.not_mem_nil, or_false, not_or]; exact ne17)
  have f24 := A16.keep K21
  have N27 := Fr.app N15 N21
  have S28 : own_Str Z T21.heap a16 [a, b, c0] := ⟨t21, kb21, A21, V21, C21, R21, hp, Nat.le_of_ble_eq_true rfl⟩
  exact own_retA X21 hx hlk hret rfl rfl (hb hby dD_99) (fun t ht hE => hF t _ _ _ _ (by rw [ht, (rfl : _ = T21.heap)]; exact ⟨_, rfl, S28, f22, N27⟩) hE (by decide) (by decide))
theorem efR (m : MethodId) (x0 : Addr) : entryFrame m #[(.ref x0)] 1 = mkF m 0 #[.val (.ref x0)] [] := by first | (simp [entryFrame, mkF, argsToLocals, Value.category]; done) | rfl
theorem efRR (m : MethodId) (x0 : Addr) (x1 : Addr) : entryFrame m #[(.ref x0), (.ref x1)] 2 = mkF m 0 #[.val (.ref x0), .val (.ref x1)] [] := by first | (simp [entryFrame, mkF, argsToLocals, Value.category]; done) | rfl
theorem pnO : plainName "java/util/Objects" = true := by first | (simp [plainName, overriddenIn]; done) | decide +kernel
theorem pnAC : plainName "java/util/AbstractCollection" = true := by first | (simp [plainName, overriddenIn]; done) | decide +kernel
theorem pnAI : plainName "java/util/ImmutableCollections$AbstractImmutableCollection" = true := by first | (simp [plainName, overriddenIn]; done) | decide +kernel
theorem pnAL : plainName "java/util/ImmutableCollections$AbstractImmutableList" = true := by first | (simp [plainName, overriddenIn]; done) | decide +kernel
theorem pnL12 : plainName "java/util/ImmutableCollections$List12" = true := by first | (simp [plainName, overriddenIn]; done) | decide +kernel
theorem pnIC : plainName "java/util/ImmutableCollections" = true := by first | (simp [plainName, overriddenIn]; done) | decide +kernel
theorem pnLi : plainName "java/util/List" = true := by first | (simp [plainName, overriddenIn]; done) | decide +kernel
theorem pnIT : plainName "com/example/credential_to_assertion/credentialtoassertion/service/validation/IdentityTokenPresentation" = true := by first | (simp [plainName, overriddenIn]; done) | decide +kernel
theorem pnP : plainName "java/util/Optional" = true := by first | (simp [plainName, overriddenIn]; done) | decide +kernel
theorem pdV : parseMethodDescriptor "()V" = some ⟨[], none⟩ := by decide +kernel
theorem pdQ2 : parseMethodDescriptor "(Ljava/lang/Object;Ljava/lang/String;)Ljava/lang/Object;" = some ⟨[.object "java/lang/Object", .object "java/lang/String"], some (.object "java/lang/Object")⟩ := by decide +kernel
theorem pdQ1 : parseMethodDescriptor "(Ljava/lang/Object;)Ljava/lang/Object;" = some ⟨[.object "java/lang/Object"], some (.object "java/lang/Object")⟩ := by decide +kernel
theorem pd12 : parseMethodDescriptor "(Ljava/lang/Object;)V" = some ⟨[.object "java/lang/Object"], none⟩ := by decide +kernel
theorem pdLo : parseMethodDescriptor "(Ljava/lang/Object;)Ljava/util/List;" = some ⟨[.object "java/lang/Object"], some (.object "java/util/List")⟩ := by decide +kernel
theorem pdCo : parseMethodDescriptor "(Ljava/util/Collection;)Ljava/util/List;" = some ⟨[.object "java/util/Collection"], some (.object "java/util/List")⟩ := by decide +kernel
theorem pdIT : parseMethodDescriptor "(Ljava/util/List;ZLjava/lang/String;)V" = some ⟨[.object "java/util/List", .boolean, .object "java/lang/String"], none⟩ := by decide +kernel
theorem pdRe : parseMethodDescriptor "(Ljava/lang/String;)Lcom/example/credential_to_assertion/credentialtoassertion/service/validation/IdentityTokenPresentation;" = some ⟨[.object "java/lang/String"], some (.object "com/example/credential_to_assertion/credentialtoassertion/service/validation/IdentityTokenPresentation")⟩ := by decide +kernel
theorem pdLi : parseMethodDescriptor "()Ljava/util/List;" = some ⟨[], some (.object "java/util/List")⟩ := by decide +kernel
theorem pdI : parseMethodDescriptor "()I" = some ⟨[], some .int⟩ := by decide +kernel
theorem pdGe : parseMethodDescriptor "(I)Ljava/lang/Object;" = some ⟨[.int], some (.object "java/lang/Object")⟩ := by decide +kernel
theorem pdZ : parseMethodDescriptor "()Z" = some ⟨[], some .boolean⟩ := by decide +kernel
theorem pdOp : parseMethodDescriptor "()Ljava/util/Optional;" = some ⟨[], some (.object "java/util/Optional")⟩ := by decide +kernel
theorem pdOn : parseMethodDescriptor "(Ljava/lang/Object;)Ljava/util/Optional;" = some ⟨[.object "java/lang/Object"], some (.object "java/util/Optional")⟩ := by decide +kernel
theorem pdEq : parseMethodDescriptor "(Ljava/lang/Object;)Z" = some ⟨[.object "java/lang/Object"], some .boolean⟩ := by decide +kernel
theorem pdCh : parseMethodDescriptor "(I)C" = some ⟨[.int], some .char⟩ := by decide +kernel
theorem dQ2_0 : decode jdk_31_method_11_code 0 = .ok (.aload_n 0, 1) := by decide +kernel
theorem dQ2_1 : decode jdk_31_method_11_code 1 = .ok (.ifnonnull 12, 3) := by decide +kernel
theorem dQ2_4 : decode jdk_31_method_11_code 4 = .ok (.new 84, 3) := by decide +kernel
theorem dQ2_7 : decode jdk_31_method_11_code 7 = .ok (.dup, 1) := by decide +kernel
theorem dQ2_8 : decode jdk_31_method_11_code 8 = .ok (.aload_n 1, 1) := by decide +kernel
theorem dQ2_9 : decode jdk_31_method_11_code 9 = .ok (.invokespecial 87, 3) := by decide +kernel
theorem dQ2_12 : decode jdk_31_method_11_code 12 = .ok (.athrow, 1) := by decide +kernel
theorem dQ2_13 : decode jdk_31_method_11_code 13 = .ok (.aload_n 0, 1) := by decide +kernel
theorem dQ2_14 : decode jdk_31_method_11_code 14 = .ok (.areturn, 1) := by decide +kernel
def Q_rmQ2 (Z : State) (a b : Addr) (h0 : Heap) (v : Option Value) (h : Heap) (L : List Loc) : Prop := v = some (.ref a) ∧ Fr Z.heap.size L ∧ h = h0
set_option maxRecDepth 65536 in
set_option maxHeartbeats 40000000 in
theorem rmQ2 (l : Launch) (Z : State) (a0 : Array Value) (hw : ∀ d ∈ tables_1, d.before a0 Z = true) (a b : Addr) (h0 : Heap) :
    MetFree l (⟨"java/util/Objects", "requireNonNull", "(Ljava/lang/Object;Ljava/lang/String;)Ljava/lang/Object;"⟩ : MethodName) (head1 (Jvm.Cond.code (⟨"java/util/Objects", "requireNonNull", "(Ljava/lang/Object;Ljava/lang/String;)Ljava/lang/Object;"⟩ : MethodName) jdk_31_method_11_code 2 (Option.some (FieldType.object "java/lang/Object")) :: []) ({ frames := 0, cells := 0, slots := 0, locals := 0 } : Room)) (fun aa U => aa = #[(.ref a), (.ref b)] ∧ Z.Warmed39 U.vm ∧ U.heap = h0) (fun _ _ _ _ _ => True) (fun _ U o U' => ∃ v L, o = .returned v ∧ (Q_rmQ2 Z a b h0) v U'.heap L ∧ FrameEnd U o U' L ({ frames := 0, cells := 0, slots := 0, locals := 0 } : Room).cells ({ frames := 0, cells := 0, slots := 0, locals := 0 } : Room).slots) := by
  refine own_walkN (by exact pnO) ?_
  intro p e s m below meth c T0 X0 hx hby hml hret hlk hnm hown hZ e0 es0 F hF
  refine own_on (fun _ => castTop (efRR m a b)) ?_
  refine own_aload_n X0.here hx (hb hby dQ2_0) rfl rfl (pc' := 1) rfl ?_
  refine own_ifnonnull X0.here hx rfl (hb hby dQ2_1) (by decide) (pc' := 13) (by decide) (pc2 := 4) rfl (fun q1 => ?_) (fun q => nomatch q)
  refine own_aload_n X0.here hx (hb hby dQ2_13) rfl rfl (pc' := 14) rfl ?_
  exact own_retA X0 hx hlk hret rfl rfl (hb hby dQ2_14) (fun t ht hE => hF t _ _ _ _ (by rw [ht, (e0 : _ = h0)]; exact ⟨rfl, Fr.nil _, rfl⟩) hE (by decide) (by decide))
theorem dQ1_0 : decode jdk_31_method_10_code 0 = .ok (.aload_n 0, 1) := by decide +kernel
theorem dQ1_1 : decode jdk_31_method_10_code 1 = .ok (.ifnonnull 11, 3) := by decide +kernel
theorem dQ1_4 : decode jdk_31_method_10_code 4 = .ok (.new 84, 3) := by decide +kernel
theorem dQ1_7 : decode jdk_31_method_10_code 7 = .ok (.dup, 1) := by decide +kernel
theorem dQ1_8 : decode jdk_31_method_10_code 8 = .ok (.invokespecial 86, 3) := by decide +kernel
theorem dQ1_11 : decode jdk_31_method_10_code 11 = .ok (.athrow, 1) := by decide +kernel
theorem dQ1_12 : decode jdk_31_method_10_code 12 = .ok (.aload_n 0, 1) := by decide +kernel
theorem dQ1_13 : decode jdk_31_method_10_code 13 = .ok (.areturn, 1) := by decide +kernel
def Q_rmQ1 (Z : State) (a : Addr) (h0 : Heap) (v : Option Value) (h : Heap) (L : List Loc) : Prop := v = some (.ref a) ∧ Fr Z.heap.size L ∧ h = h0
set_option maxRecDepth 65536 in
set_option maxHeartbeats 40000000 in
theorem rmQ1 (l : Launch) (Z : State) (a0 : Array Value) (hw : ∀ d ∈ tables_1, d.before a0 Z = true) (a : Addr) (h0 : Heap) :
    MetFree l (⟨"java/util/Objects", "requireNonNull", "(Ljava/lang/Object;)Ljava/lang/Object;"⟩ : MethodName) (head1 (Jvm.Cond.code (⟨"java/util/Objects", "requireNonNull", "(Ljava/lang/Object;)Ljava/lang/Object;"⟩ : MethodName) jdk_31_method_10_code 1 (Option.some (FieldType.object "java/lang/Object")) :: []) ({ frames := 0, cells := 0, slots := 0, locals := 0 } : Room)) (fun aa U => aa = #[(.ref a)] ∧ Z.Warmed39 U.vm ∧ U.heap = h0) (fun _ _ _ _ _ => True) (fun _ U o U' => ∃ v L, o = .returned v ∧ (Q_rmQ1 Z a h0) v U'.heap L ∧ FrameEnd U o U' L ({ frames := 0, cells := 0, slots := 0, locals := 0 } : Room).cells ({ frames := 0, cells := 0, slots := 0, locals := 0 } : Room).slots) := by
  refine own_walkN (by exact pnO) ?_
  intro p e s m below meth c T0 X0 hx hby hml hret hlk hnm hown hZ e0 es0 F hF
  refine own_on (fun _ => castTop (efR m a)) ?_
  refine own_aload_n X0.here hx (hb hby dQ1_0) rfl rfl (pc' := 1) rfl ?_
  refine own_ifnonnull X0.here hx rfl (hb hby dQ1_1) (by decide) (pc' := 12) (by decide) (pc2 := 4) rfl (fun q1 => ?_) (fun q => nomatch q)
  refine own_aload_n X0.here hx (hb hby dQ1_12) rfl rfl (pc' := 13) rfl ?_
  exact own_retA X0 hx hlk hret rfl rfl (hb hby dQ1_13) (fun t ht hE => hF t _ _ _ _ (by rw [ht, (e0 : _ = h0)]; exact ⟨rfl, Fr.nil _, rfl⟩) hE (by decide) (by decide))
theorem dAC_0 : decode jdk_22_method_1_code 0 = .ok (.aload_n 0, 1) := by decide +kernel
theorem dAC_1 : decode jdk_22_method_1_code 1 = .ok (.invokespecial 1, 3) := by decide +kernel
theorem dAC_4 : decode jdk_22_method_1_code 4 = .ok (.return_, 1) := by decide +kernel
def Q_rmAC (Z : State) (a : Addr) (h0 : Heap) (v : Option Value) (h : Heap) (L : List Loc) : Prop := v = none ∧ Fr Z.heap.size L ∧ h = h0
set_option maxRecDepth 65536 in
set_option maxHeartbeats 40000000 in
theorem rmAC (l : Launch) (Z : State) (a0 : Array Value) (hw : ∀ d ∈ tables_1, d.before a0 Z = true) (a : Addr) (h0 : Heap) :
    MetFree l (⟨"java/util/AbstractCollection", "<init>", "()V"⟩ : MethodName) (head1 (Jvm.Cond.code (⟨"java/util/AbstractCollection", "<init>", "()V"⟩ : MethodName) jdk_22_method_1_code 1 (Option.none : Option FieldType) :: []) ({ frames := 1, cells := 0, slots := 0, locals := 12 } : Room)) (fun aa U => aa = #[(.ref a)] ∧ Z.Warmed39 U.vm ∧ U.heap = h0) (fun _ _ _ _ _ => True) (fun _ U o U' => ∃ v L, o = .returned v ∧ (Q_rmAC Z a h0) v U'.heap L ∧ FrameEnd U o U' L ({ frames := 1, cells := 0, slots := 0, locals := 12 } : Room).cells ({ frames := 1, cells := 0, slots := 0, locals := 12 } : Room).slots) := by
  refine own_walkN (by exact pnAC) ?_
  intro p e s m below meth c T0 X0 hx hby hml hret hlk hnm hown hZ e0 es0 F hF
  refine own_on (fun _ => castTop (efR m a)) ?_
  refine own_aload_n X0.here hx (hb hby dAC_0) rfl rfl (pc' := 1) rfl ?_
  obtain ⟨T1, X1, e1, st1⟩ := initO X0 hx hZ hown (hw _ (List.mem_of_getElem? (i := 67) rfl)) (hw _ (List.mem_of_getElem? (i := 16) rfl)) (hw _ (List.mem_of_getElem? (i := 17) rfl)) e0 (g := (mkF m 1 #[.val (.ref a)] [(.ref a)])) rfl (by rw [hml]; rfl) rfl (hb hby dAC_1) (by decide) (W := 0) (by show 2 * 0 + _ ≤ _; exact Nat.le_of_eq rfl) (by decide)
  refine own_on st1 ?_
  show own_Go p e below F (T1.setTop (mkF m 4 #[.val (.ref a)] []))
  exact own_retV X1 hx hlk hret (hb hby dAC_4) (fun t ht hE => hF t _ _ _ _ (by rw [ht, (e1 : _ = h0)]; exact ⟨rfl, Fr.nil _, rfl⟩) hE (by decide) (by decide))
theorem dAI_0 : decode jdk_47_method_1_code 0 = .ok (.aload_n 0, 1) := by decide +kernel
theorem dAI_1 : decode jdk_47_method_1_code 1 = .ok (.invokespecial 1, 3) := by decide +kernel
theorem dAI_4 : decode jdk_47_method_1_code 4 = .ok (.return_, 1) := by decide +kernel
def Q_rmAI (Z : State) (a : Addr) (h0 : Heap) (v : Option Value) (h : Heap) (L : List Loc) : Prop := v = none ∧ Fr Z.heap.size L ∧ h = h0
set_option maxRecDepth 65536 in
set_option maxHeartbeats 40000000 in
theorem rmAI (l : Launch) (Z : State) (a0 : Array Value) (hw : ∀ d ∈ tables_1, d.before a0 Z = true) (a : Addr) (h0 : Heap) :
    MetFree l (⟨"java/util/ImmutableCollections$AbstractImmutableCollection", "<init>", "()V"⟩ : MethodName) (head1 (Jvm.Cond.code (⟨"java/util/ImmutableCollections$AbstractImmutableCollection", "<init>", "()V"⟩ : MethodName) jdk_47_method_1_code 1 (Option.none : Option FieldType) :: []) ({ frames := 2, cells := 0, slots := 0, locals := 24 } : Room)) (fun aa U => aa = #[(.ref a)] ∧ Z.Warmed39 U.vm ∧ U.heap = h0) (fun _ _ _ _ _ => True) (fun _ U o U' => ∃ v L, o = .returned v ∧ (Q_rmAI Z a h0) v U'.heap L ∧ FrameEnd U o U' L ({ frames := 2, cells := 0, slots := 0, locals := 24 } : Room).cells ({ frames := 2, cells := 0, slots := 0, locals := 24 } : Room).slots) := by
  refine own_walkN (by exact pnAI) ?_
  intro p e s m below meth c T0 X0 hx hby hml hret hlk hnm hown hZ e0 es0 F hF
  refine own_on (fun _ => castTop (efR m a)) ?_
  refine own_aload_n X0.here hx (hb hby dAI_0) rfl rfl (pc' := 1) rfl ?_
  have N0 := Fr.nil Z.heap.size
  obtain ⟨_, _, ⟨T1, L1, k1, n1⟩, -, X1, ⟨Lc1, hQ1, l1, y1, z1⟩, st1⟩ := X0.specialBack hx (y := (⟨"java/util/AbstractCollection", "<init>", "()V"⟩ : MethodName)) rfl hown (mvT hZ (hw _ (List.mem_of_getElem? (i := 61) rfl))) (mvT hZ (hw _ (List.mem_of_getElem? (i := 62) rfl))) (mvT hZ (hw _ (List.mem_of_getElem? (i := 66) rfl))) (by decide) (backOf (W := 0) (rmAC l Z a0 hw a h0) hZ (hw _ (List.mem_of_getElem? (i := 66) rfl)) (hw _ (List.mem_of_getElem? (i := 65) rfl)) (by decide) (by decide)) (g := (mkF m 1 #[.val (.ref a)] [(.ref a)])) rfl (by rw [hml]; rfl) (Steps.refl _) (a := a) (argsL := []) (rest := []) (lenOf pdV rfl) rfl (by show 2 * 0 + _ ≤ _; exact Nat.le_of_eq rfl) (hb hby dAI_1) (fun _ _ => ⟨rfl, e0, (Nat.le_of_ble_eq_true rfl), (Nat.le_of_ble_eq_true rfl)⟩)
  dsimp only [Pt.U, Pt.locs, Pt.cells, Pt.slots] at X1 l1 y1 z1 st1 hQ1
  subst l1 y1 z1
  obtain ⟨rfl, N1, E1⟩ := hQ1
  refine own_to st1 ?_
  show own_Go p e below F (T1.setTop (mkF m 4 #[.val (.ref a)] []))
  have N2 := Fr.app N0 N1
  exact own_retV X1 hx hlk hret (hb hby dAI_4) (fun t ht hE => hF t _ _ _ _ (by rw [ht, (E1 : _ = h0)]; exact ⟨rfl, N2, rfl⟩) hE (by decide) (by decide))
theorem dAL_0 : decode jdk_46_method_1_code 0 = .ok (.aload_n 0, 1) := by decide +kernel
theorem dAL_1 : decode jdk_46_method_1_code 1 = .ok (.invokespecial 1, 3) := by decide +kernel
theorem dAL_4 : decode jdk_46_method_1_code 4 = .ok (.return_, 1) := by decide +kernel
def Q_rmAL (Z : State) (a : Addr) (h0 : Heap) (v : Option Value) (h : Heap) (L : List Loc) : Prop := v = none ∧ Fr Z.heap.size L ∧ h = h0
set_option maxRecDepth 65536 in
set_option maxHeartbeats 40000000 in
theorem rmAL (l : Launch) (Z : State) (a0 : Array Value) (hw : ∀ d ∈ tables_1, d.before a0 Z = true) (a : Addr) (h0 : Heap) :
    MetFree l (⟨"java/util/ImmutableCollections$AbstractImmutableList", "<init>", "()V"⟩ : MethodName) (head1 (Jvm.Cond.code (⟨"java/util/ImmutableCollections$AbstractImmutableList", "<init>", "()V"⟩ : MethodName) jdk_46_method_1_code 1 (Option.none : Option FieldType) :: []) ({ frames := 3, cells := 0, slots := 0, locals := 36 } : Room)) (fun aa U => aa = #[(.ref a)] ∧ Z.Warmed39 U.vm ∧ U.heap = h0) (fun _ _ _ _ _ => True) (fun _ U o U' => ∃ v L, o = .returned v ∧ (Q_rmAL Z a h0) v U'.heap L ∧ FrameEnd U o U' L ({ frames := 3, cells := 0, slots := 0, locals := 36 } : Room).cells ({ frames := 3, cells := 0, slots := 0, locals := 36 } : Room).slots) := by
  refine own_walkN (by exact pnAL) ?_
  intro p e s m below meth c T0 X0 hx hby hml hret hlk hnm hown hZ e0 es0 F hF
  refine own_on (fun _ => castTop (efR m a)) ?_
  refine own_aload_n X0.here hx (hb hby dAL_0) rfl rfl (pc' := 1) rfl ?_
  have N0 := Fr.nil Z.heap.size
  obtain ⟨_, _, ⟨T1, L1, k1, n1⟩, -, X1, ⟨Lc1, hQ1, l1, y1, z1⟩, st1⟩ := X0.specialBack hx (y := (⟨"java/util/ImmutableCollections$AbstractImmutableCollection", "<init>", "()V"⟩ : MethodName)) rfl hown (mvT hZ (hw _ (List.mem_of_getElem? (i := 55) rfl))) (mvT hZ (hw _ (List.mem_of_getElem? (i := 56) rfl))) (mvT hZ (hw _ (List.mem_of_getElem? (i := 60) rfl))) (by decide) (backOf (W := 0) (rmAI l Z a0 hw a h0) hZ (hw _ (List.mem_of_getElem? (i := 60) rfl)) (hw _ (List.mem_of_getElem? (i := 59) rfl)) (by decide) (by decide)) (g := (mkF m 1 #[.val (.ref a)] [(.ref a)])) rfl (by rw [hml]; rfl) (Steps.refl _) (a := a) (argsL := []) (rest := []) (lenOf pdV rfl) rfl (by show 2 * 0 + _ ≤ _; exact Nat.le_of_eq rfl) (hb hby dAL_1) (fun _ _ => ⟨rfl, e0, (Nat.le_of_ble_eq_true rfl), (Nat.le_of_ble_eq_true rfl)⟩)
  dsimp only [Pt.U, Pt.locs, Pt.cells, Pt.slots] at X1 l1 y1 z1 st1 hQ1
  subst l1 y1 z1
  obtain ⟨rfl, N1, E1⟩ := hQ1
  refine own_to st1 ?_
  show own_Go p e below F (T1.setTop (mkF m 4 #[.val (.ref a)] []))
  have N2 := Fr.app N0 N1
  exact own_retV X1 hx hlk hret (hb hby dAL_4) (fun t ht hE => hF t _ _ _ _ (by rw [ht, (E1 : _ = h0)]; exact ⟨rfl, N2, rfl⟩) hE (by decide) (by decide))
theorem d12_0 : decode jdk_44_method_1_code 0 = .ok (.aload_n 0, 1) := by decide +kernel
theorem d12_1 : decode jdk_44_method_1_code 1 = .ok (.invokespecial 1, 3) := by decide +kernel
theorem d12_4 : decode jdk_44_method_1_code 4 = .ok (.aload_n 0, 1) := by decide +kernel
theorem d12_5 : decode jdk_44_method_1_code 5 = .ok (.aload_n 1, 1) := by decide +kernel
theorem d12_6 : decode jdk_44_method_1_code 6 = .ok (.invokestatic 7, 3) := by decide +kernel
theorem d12_9 : decode jdk_44_method_1_code 9 = .ok (.putfield 13, 3) := by decide +kernel
theorem d12_12 : decode jdk_44_method_1_code 12 = .ok (.aload_n 0, 1) := by decide +kernel
theorem d12_13 : decode jdk_44_method_1_code 13 = .ok (.getstatic 19, 3) := by decide +kernel
theorem d12_16 : decode jdk_44_method_1_code 16 = .ok (.putfield 24, 3) := by decide +kernel
theorem d12_19 : decode jdk_44_method_1_code 19 = .ok (.return_, 1) := by decide +kernel
def Q_rm12 (Z : State) (a b : Addr) (h0 : Heap) (em : Addr) (v : Option Value) (h : Heap) (L : List Loc) : Prop := v = none ∧ Fr Z.heap.size L ∧ Keep h0 h [a] ∧ Fld Z h a "java/util/ImmutableCollections$List12" "e0" "Ljava/lang/Object;" (.ref b) ∧ Fld Z h a "java/util/ImmutableCollections$List12" "e1" "Ljava/lang/Object;" (.ref em)
set_option maxRecDepth 65536 in
set_option maxHeartbeats 40000000 in
theorem rm12 (l : Launch) (Z : State) (a0 : Array Value) (hw : ∀ d ∈ tables_1, d.before a0 Z = true) (a b : Addr) (h0 : Heap) (EZ : Ext Z.heap h0) (ga : Z.heap.size ≤ a) (em : Addr) (OM : Sta Z Z.heap "java/util/ImmutableCollections" "EMPTY" "Ljava/lang/Object;" (.ref em)) (A0 : Exa Z h0 a "java/util/ImmutableCollections$List12") (F0 : Fld Z h0 a "java/util/ImmutableCollections$List12" "e0" "Ljava/lang/Object;" .null) (F1 : Fld Z h0 a "java/util/ImmutableCollections$List12" "e1" "Ljava/lang/Object;" .null) :
    MetFree l (⟨"java/util/ImmutableCollections$List12", "<init>", "(Ljava/lang/Object;)V"⟩ : MethodName) (head1 (Jvm.Cond.code (⟨"java/util/ImmutableCollections$List12", "<init>", "(Ljava/lang/Object;)V"⟩ : MethodName) jdk_44_method_1_code 2 (Option.none : Option FieldType) :: []) ({ frames := 4, cells := 0, slots := 0, locals := 48 } : Room)) (fun aa U => aa = #[(.ref a), (.ref b)] ∧ Z.Warmed39 U.vm ∧ U.heap = h0) (fun _ _ _ _ _ => True) (fun _ U o U' => ∃ v L, o = .returned v ∧ (Q_rm12 Z a b h0 em) v U'.heap L ∧ FrameEnd U o U' L ({ frames := 4, cells := 0, slots := 0, locals := 48 } : Room).cells ({ frames := 4, cells := 0, slots := 0, locals := 48 } : Room).slots) := by
  refine own_walkN (by exact pnL12) ?_
  intro p e s m below meth c T0 X0 hx hby hml hret hlk hnm hown hZ e0 es0 F hF
  refine own_on (fun _ => castTop (efRR m a b)) ?_
  have N0 := Fr.nil Z.heap.size
  have Q0 := Keep.refl h0 [a]
  refine own_aload_n X0.here hx (hb hby d12_0) rfl rfl (pc' := 1) rfl ?_
  obtain ⟨_, _, ⟨T1, L1, k1, n1⟩, -, X1, ⟨Lc1, hQ1, l1, y1, z1⟩, st1⟩ := X0.specialBack hx (y := (⟨"java/util/ImmutableCollections$AbstractImmutableList", "<init>", "()V"⟩ : MethodName)) rfl hown (mvT hZ (hw _ (List.mem_of_getElem? (i := 49) rfl))) (mvT hZ (hw _ (List.mem_of_getElem? (i := 50) rfl))) (mvT hZ (hw _ (List.mem_of_getElem? (i := 54) rfl))) (by decide) (backOf (W := 0) (rmAL l Z a0 hw a h0) hZ (hw _ (List.mem_of_getElem? (i := 54) rfl)) (hw _ (List.mem_of_getElem? (i := 53) rfl)) (by decide) (by decide)) (g := (mkF m 1 #[.val (.ref a), .val (.ref b)] [(.ref a)])) rfl (by rw [hml]; rfl) (Steps.refl _) (a := a) (argsL := []) (rest := []) (lenOf pdV rfl) rfl (by show 2 * 0 + _ ≤ _; exact Nat.le_of_eq rfl) (hb hby d12_1) (fun _ _ => ⟨rfl, e0, (Nat.le_of_ble_eq_true rfl), (Nat.le_of_ble_eq_true rfl)⟩)
  dsimp only [Pt.U, Pt.locs, Pt.cells, Pt.slots] at X1 l1 y1 z1 st1 hQ1
  subst l1 y1 z1
  obtain ⟨rfl, N1, E1⟩ := hQ1
  refine own_to st1 ?_
  show own_Go p e below F (T1.setTop (mkF m 4 #[.val (.ref a), .val (.ref b)] []))
  have N2 := Fr.app N0 N1
  refine own_aload_n X1.here hx (hb hby d12_4) rfl rfl (pc' := 5) rfl ?_
  refine own_aload_n X1.here hx (hb hby d12_5) rfl rfl (pc' := 6) rfl ?_
  obtain ⟨_, _, ⟨T3, L3, k3, n3⟩, -, X3, ⟨Lc3, hQ3, l3, y3, z3⟩, st3⟩ := Jvm.LawKit.callS X1 hx (y := (⟨"java/util/Objects", "requireNonNull", "(Ljava/lang/Object;)Ljava/lang/Object;"⟩ : MethodName)) hown (mvT hZ (hw _ (List.mem_of_getElem? (i := 68) rfl))) (mvT hZ (hw _ (List.mem_of_getElem? (i := 69) rfl))) (mvT hZ (hw _ (List.mem_of_getElem? (i := 35) rfl))) (mvT hZ (hw _ (List.mem_of_getElem? (i := 70) rfl))) (by decide) (backOf (W := 1) (rmQ1 l Z a0 hw b h0) hZ (hw _ (List.mem_of_getElem? (i := 70) rfl)) (hw _ (List.mem_of_getElem? (i := 35) rfl)) (by decide) (by decide)) (g := (mkF m 6 #[.val (.ref a), .val (.ref b)] [(.ref b), (.ref a)])) rfl (by rw [hml]; rfl) (argsL := [(.ref b)]) (rest := [(.ref a)]) (lenOf pdQ1 rfl) rfl (by show 2 * 0 + _ ≤ _; exact Nat.le_of_eq rfl) (hb hby d12_6) (fun _ _ => ⟨rfl, E1, (Nat.le_of_ble_eq_true rfl), (Nat.le_of_ble_eq_true rfl)⟩)
  dsimp only [Pt.U, Pt.locs, Pt.cells, Pt.slots] at X3 l3 y3 z3 st3 hQ3
  subst l3 y3 z3
  obtain ⟨rfl, N3, E3⟩ := hQ3
  refine own_on (st3) ?_
  show own_Go p e below F (T3.setTop (mkF m 9 #[.val (.ref a), .val (.ref b)] [(.ref b), (.ref a)]))
  have N4 := Fr.app N2 N3
  have EZ0 : Ext Z.heap Z.heap := own_ext_refl _
  obtain ⟨T5, h5, X5, e5, W5, st5⟩ := putF X3 hx hZ hown (host := "") (Or.inl (hw _ (List.mem_of_getElem? (i := 71) rfl))) Via.refl E3 F0 A0 (Or.inr ⟨(hw _ (List.mem_of_getElem? (i := 72) rfl)), rfl, hnm⟩) (hw _ (List.mem_of_getElem? (i := 43) rfl)) (ty := .object "java/lang/Object") (by decide) rfl rfl (g := (mkF m 9 #[.val (.ref a), .val (.ref b)] [(.ref b), (.ref a)])) rfl rfl (hb hby d12_9)
  have f6 := A0.wr W5
  have f7 := F0.same W5
  have f8 := F1.other W5 (Or.inr (slot_ne (Or.inr (hw _ (List.mem_of_getElem? (i := 76) rfl))) (Or.inr (hw _ (List.mem_of_getElem? (i := 72) rfl))) (by decide) (t := .object "java/lang/Object") (by decide) (t' := .object "java/lang/Object") (by decide)))
  have f9 := own_ext_wr EZ W5 ga
  have f10 := Q0.wr W5 (Or.inl (by simp))
  have N11 := own_Fr_snoc (sl := Jvm.RoadKit.slotOf Z "java/util/ImmutableCollections$List12" "e0" "Ljava/lang/Object;") N4 ga
  refine own_on st5 ?_
  show own_Go p e below F (T5.setTop (mkF m 12 #[.val (.ref a), .val (.ref b)] []))
  refine own_aload_n X5.here hx (hb hby d12_12) rfl rfl (pc' := 13) rfl ?_
  obtain ⟨T12, X12, e12, st12⟩ := own_getSN X5 hx hZ hown (hw _ (List.mem_of_getElem? (i := 73) rfl)) e5 (OM.ext f9) (g := (mkF m 13 #[.val (.ref a), .val (.ref b)] [(.ref a)])) rfl (hb hby d12_13)
  refine own_on st12 ?_
  show own_Go p e below F (T12.setTop (mkF m 16 #[.val (.ref a), .val (.ref b)] [(.ref em), (.ref a)]))
  obtain ⟨T13, h13, X13, e13, W13, st13⟩ := putF X12 hx hZ hown (host := "") (Or.inl (hw _ (List.mem_of_getElem? (i := 75) rfl))) Via.refl e12 f8 f6 (Or.inr ⟨(hw _ (List.mem_of_getElem? (i := 76) rfl)), rfl, hnm⟩) (hw _ (List.mem_of_getElem? (i := 43) rfl)) (ty := .object "java/lang/Object") (by decide) rfl rfl (g := (mkF m 16 #[.val (.ref a), .val (.ref b)] [(.ref em), (.ref a)])) rfl rfl (hb hby d12_16)
  have f14 := f6.wr W13
  have f15 := f7.other W13 (Or.inr (slot_ne (Or.inr (hw _ (List.mem_of_getElem? (i := 72) rfl))) (Or.inr (hw _ (List.mem_of_getElem? (i := 76) rfl))) (by decide) (t := .object "java/lang/Object") (by decide) (t' := .object "java/lang/Object") (by decide)))
  have f16 := f8.same W13
  have f17 := own_ext_wr f9 W13 ga
  have f18 := f10.wr W13 (Or.inl (by simp))
  have N19 := own_Fr_snoc (sl := Jvm.RoadKit.slotOf Z "java/util/ImmutableCollections$List12" "e1" "Ljava/lang/Object;") N11 ga
  refine own_on st13 ?_
  show own_Go p e below F (T13.setTop (mkF m 19 #[.val (.ref a), .val (.ref b)] []))
  exact own_retV X13 hx hlk hret (hb hby d12_19) (fun t ht hE => hF t _ _ _ _ (by rw [ht, (e13 : _ = h13)]; exact ⟨rfl, N19, f18, f15, f16⟩) hE (by decide) (by decide))
theorem dLo_0 : decode jdk_40_method_37_code 0 = .ok (.new 96, 3) := by decide +kernel
theorem dLo_3 : decode jdk_40_method_37_code 3 = .ok (.dup, 1) := by decide +kernel
theorem dLo_4 : decode jdk_40_method_37_code 4 = .ok (.aload_n 0, 1) := by decide +kernel
theorem dLo_5 : decode jdk_40_method_37_code 5 = .ok (.invokespecial 98, 3) := by decide +kernel
theorem dLo_8 : decode jdk_40_method_37_code 8 = .ok (.areturn, 1) := by decide +kernel
def Q_rmLo (Z : State) (b : Addr) (h0 : Heap) (em : Addr) (v : Option Value) (h : Heap) (L : List Loc) : Prop := ∃ a, v = some (.ref a) ∧ Ext h0 h ∧ Fr Z.heap.size L ∧ Exa Z h a "java/util/ImmutableCollections$List12" ∧ Fld Z h a "java/util/ImmutableCollections$List12" "e0" "Ljava/lang/Object;" (.ref b) ∧ Fld Z h a "java/util/ImmutableCollections$List12" "e1" "Ljava/lang/Object;" (.ref em)
set_option maxRecDepth 65536 in
set_option maxHeartbeats 40000000 in
theorem rmLo (l : Launch) (Z : State) (a0 : Array Value) (hw : ∀ d ∈ tables_1, d.before a0 Z = true) (b : Addr) (h0 : Heap) (EZ : Ext Z.heap h0) (em : Addr) (OM : Sta Z Z.heap "java/util/ImmutableCollections" "EMPTY" "Ljava/lang/Object;" (.ref em)) :
    MetFree l (⟨"java/util/List", "of", "(Ljava/lang/Object;)Ljava/util/List;"⟩ : MethodName) (head1 (Jvm.Cond.code (⟨"java/util/List", "of", "(Ljava/lang/Object;)Ljava/util/List;"⟩ : MethodName) jdk_40_method_37_code 1 (Option.some (FieldType.object "java/util/List")) :: []) ({ frames := 5, cells := 1, slots := 2, locals := 62 } : Room)) (fun aa U => aa = #[(.ref b)] ∧ Z.Warmed39 U.vm ∧ U.heap = h0) (fun _ _ _ _ _ => True) (fun _ U o U' => ∃ v L, o = .returned v ∧ (Q_rmLo Z b h0 em) v U'.heap L ∧ FrameEnd U o U' L ({ frames := 5, cells := 1, slots := 2, locals := 62 } : Room).cells ({ frames := 5, cells := 1, slots := 2, locals := 62 } : Room).slots) := by
  refine own_walkN (by exact pnLi) ?_
  intro p e s m below meth c T0 X0 hx hby hml hret hlk hnm hown hZ e0 es0 F hF
  refine own_on (fun _ => castTop (efR m b)) ?_
  have M0 := own_ext_refl h0
  have N0 := Fr.nil Z.heap.size
  obtain ⟨T1, h1, X1, e1, E1, A1, D1, -, st1⟩ := newO X0 hx hZ hown (hw _ (List.mem_of_getElem? (i := 42) rfl)) (hw _ (List.mem_of_getElem? (i := 43) rfl)) (hw _ (List.mem_of_getElem? (i := 44) rfl)) e0 (g := (mkF m 0 #[.val (.ref b)] [])) rfl (hb hby dLo_0) (by decide) (by decide)
  obtain ⟨a1, g1⟩ : ∃ z, z = h0.size := ⟨_, rfl⟩
  rw [← g1] at A1 D1 st1
  have ge2 : h0.size ≤ a1 := by rw [g1]; exact M0.1
  have f3 := own_ext_trans M0 E1
  have F1_0 : Fld Z h1 a1 "java/util/ImmutableCollections$List12" "e0" "Ljava/lang/Object;" (.null) := (D1 (Or.inr (hw _ (List.mem_of_getElem? (i := 72) rfl))) (ty := .object "java/lang/Object") (by decide))
  have F1_1 : Fld Z h1 a1 "java/util/ImmutableCollections$List12" "e1" "Ljava/lang/Object;" (.null) := (D1 (Or.inr (hw _ (List.mem_of_getElem? (i := 76) rfl))) (ty := .object "java/lang/Object") (by decide))
  refine own_on st1 ?_
  show own_Go p e below F (T1.setTop (mkF m 3 #[.val (.ref b)] [(.ref a1)]))
  have gz_a1 : Z.heap.size ≤ a1 := Nat.le_trans EZ.1 ge2
  refine own_dup X1.here hx (hb hby dLo_3) rfl (pc' := 4) rfl ?_
  refine own_aload_n X1.here hx (hb hby dLo_4) rfl rfl (pc' := 5) rfl ?_
  obtain ⟨_, _, ⟨T4, L4, k4, n4⟩, -, X4, ⟨Lc4, hQ4, l4, y4, z4⟩, st4⟩ := X1.specialBack hx (y := (⟨"java/util/ImmutableCollections$List12", "<init>", "(Ljava/lang/Object;)V"⟩ : MethodName)) rfl hown (mvT hZ (hw _ (List.mem_of_getElem? (i := 45) rfl))) (mvT hZ (hw _ (List.mem_of_getElem? (i := 46) rfl))) (mvT hZ (hw _ (List.mem_of_getElem? (i := 48) rfl))) (by decide) (backOf (W := 1) (rm12 l Z a0 hw a1 b h1 (own_ext_trans EZ f3) gz_a1 em OM A1 F1_0 F1_1) hZ (hw _ (List.mem_of_getElem? (i := 48) rfl)) (hw _ (List.mem_of_getElem? (i := 44) rfl)) (by decide) (by decide)) (g := (mkF m 5 #[.val (.ref b)] [(.ref b), (.ref a1), (.ref a1)])) rfl (by rw [hml]; rfl) (Steps.refl _) (a := a1) (argsL := [(.ref b)]) (rest := [(.ref a1)]) (lenOf pd12 rfl) rfl (by show 2 * 0 + _ ≤ _; exact Nat.le_of_eq rfl) (hb hby dLo_5) (fun _ _ => ⟨rfl, e1, (Nat.le_of_ble_eq_true rfl), (Nat.le_of_ble_eq_true rfl)⟩)
  dsimp only [Pt.U, Pt.locs, Pt.cells, Pt.slots] at X4 l4 y4 z4 st4 hQ4
  subst l4 y4 z4
  obtain ⟨rfl, N4, K4, F4, G4⟩ := hQ4
  refine own_to st4 ?_
  show own_Go p e below F (T4.setTop (mkF m 8 #[.val (.ref b)] [(.ref a1)]))
  have f5 := own_ext_keep f3 K4 (fun y hy => by simp only [List.mem_cons, List.not_mem_nil, or_false] at hy; rcases hy with rfl <;> assumption)
  have f6 := A1.keep K4
  have N9 := Fr.app N0 N4
  exact own_retA X4 hx hlk hret rfl rfl (hb hby dLo_8) (fun t ht hE => hF t _ _ _ _ (by rw [ht, (rfl : _ = T4.heap)]; exact ⟨_, rfl, f5, N9, f6, F4, G4⟩) hE (by decide) (by decide))
theorem dLc_0 : decode jdk_56_method_3_code 0 = .ok (.aload_n 0, 1) := by decide +kernel
theorem dLc_1 : decode jdk_56_method_3_code 1 = .ok (.instanceof 10, 3) := by decide +kernel
theorem dLc_4 : decode jdk_56_method_3_code 4 = .ok (.ifCond .ne 22, 3) := by decide +kernel
theorem dLc_7 : decode jdk_56_method_3_code 7 = .ok (.aload_n 0, 1) := by decide +kernel
theorem dLc_8 : decode jdk_56_method_3_code 8 = .ok (.instanceof 12, 3) := by decide +kernel
theorem dLc_11 : decode jdk_56_method_3_code 11 = .ok (.ifCond .eq 20, 3) := by decide +kernel
theorem dLc_14 : decode jdk_56_method_3_code 14 = .ok (.aload_n 0, 1) := by decide +kernel
theorem dLc_15 : decode jdk_56_method_3_code 15 = .ok (.checkcast 12, 3) := by decide +kernel
theorem dLc_18 : decode jdk_56_method_3_code 18 = .ok (.astore_n 1, 1) := by decide +kernel
theorem dLc_19 : decode jdk_56_method_3_code 19 = .ok (.aload_n 1, 1) := by decide +kernel
theorem dLc_20 : decode jdk_56_method_3_code 20 = .ok (.getfield 14, 3) := by decide +kernel
theorem dLc_23 : decode jdk_56_method_3_code 23 = .ok (.ifCond .ne 8, 3) := by decide +kernel
theorem dLc_26 : decode jdk_56_method_3_code 26 = .ok (.aload_n 0, 1) := by decide +kernel
theorem dLc_27 : decode jdk_56_method_3_code 27 = .ok (.checkcast 18, 3) := by decide +kernel
theorem dLc_30 : decode jdk_56_method_3_code 30 = .ok (.areturn, 1) := by decide +kernel
theorem dLc_31 : decode jdk_56_method_3_code 31 = .ok (.aload_n 0, 1) := by decide +kernel
theorem dLc_32 : decode jdk_56_method_3_code 32 = .ok (.invokeinterface 20 1, 5) := by decide +kernel
theorem dLc_37 : decode jdk_56_method_3_code 37 = .ok (.ifCond .eq 7, 3) := by decide +kernel
theorem dLc_40 : decode jdk_56_method_3_code 40 = .ok (.invokestatic 26, 3) := by decide +kernel
theorem dLc_43 : decode jdk_56_method_3_code 43 = .ok (.areturn, 1) := by decide +kernel
theorem dLc_44 : decode jdk_56_method_3_code 44 = .ok (.aload_n 0, 1) := by decide +kernel
theorem dLc_45 : decode jdk_56_method_3_code 45 = .ok (.invokeinterface 30 1, 5) := by decide +kernel
theorem dLc_50 : decode jdk_56_method_3_code 50 = .ok (.invokestatic 34, 3) := by decide +kernel
theorem dLc_53 : decode jdk_56_method_3_code 53 = .ok (.areturn, 1) := by decide +kernel
theorem efR2 (m : MethodId) (x0 : Addr) : entryFrame m #[(.ref x0)] 2 = mkF m 0 #[.val (.ref x0), .unset] [] := by first | (simp [entryFrame, mkF, argsToLocals, Value.category]; done) | rfl
def Q_rmLc (Z : State) (a : Addr) (h0 : Heap) (v : Option Value) (h : Heap) (L : List Loc) : Prop := v = some (.ref a) ∧ Fr Z.heap.size L ∧ h = h0
set_option maxRecDepth 65536 in
set_option maxHeartbeats 40000000 in
theorem rmLc (l : Launch) (Z : State) (a0 : Array Value) (hw : ∀ d ∈ tables_1, d.before a0 Z = true) (a : Addr) (h0 : Heap) (A0 : Exa Z h0 a "java/util/ImmutableCollections$List12") :
    MetFree l (⟨"java/util/ImmutableCollections", "listCopy", "(Ljava/util/Collection;)Ljava/util/List;"⟩ : MethodName) (head1 (Jvm.Cond.code (⟨"java/util/ImmutableCollections", "listCopy", "(Ljava/util/Collection;)Ljava/util/List;"⟩ : MethodName) jdk_56_method_3_code 2 (Option.some (FieldType.object "java/util/List")) :: []) ({ frames := 0, cells := 0, slots := 0, locals := 0 } : Room)) (fun aa U => aa = #[(.ref a)] ∧ Z.Warmed39 U.vm ∧ U.heap = h0) (fun _ _ _ _ _ => True) (fun _ U o U' => ∃ v L, o = .returned v ∧ (Q_rmLc Z a h0) v U'.heap L ∧ FrameEnd U o U' L ({ frames := 0, cells := 0, slots := 0, locals := 0 } : Room).cells ({ frames := 0, cells := 0, slots := 0, locals := 0 } : Room).slots) := by
  refine own_walkN (by exact pnIC) ?_
  intro p e s m below meth c T0 X0 hx hby hml hret hlk hnm hown hZ e0 es0 F hF
  refine own_on (fun _ => castTop (efR2 m a)) ?_
  refine own_aload_n X0.here hx (hb hby dLc_0) rfl rfl (pc' := 1) rfl ?_
  obtain ⟨T1, X1, e1, st1⟩ := instY X0 hx hZ hown (hw _ (List.mem_of_getElem? (i := 87) rfl)) e0 (Ins.self A0) (g := (mkF m 1 #[.val (.ref a), .unset] [(.ref a)])) rfl rfl (hb hby dLc_1)
  refine own_on st1 ?_
  show own_Go p e below F (T1.setTop (mkF m 4 #[.val (.ref a), .unset] [(.int ((1 : Int32)))]))
  refine own_ifne X1.here hx (hb hby dLc_4) (by decide) (pc' := 26) (by decide) (pc2 := 7) rfl (fun q2 => ?_) (fun q => absurd q (by decide))
  refine own_aload_n X1.here hx (hb hby dLc_26) rfl rfl (pc' := 27) rfl ?_
  obtain ⟨T3, X3, e3, st3⟩ := castY X1 hx hZ hown (hw _ (List.mem_of_getElem? (i := 88) rfl)) e1 (Ins.of_exa A0 (hw _ (List.mem_of_getElem? (i := 89) rfl))) (g := (mkF m 27 #[.val (.ref a), .unset] [(.ref a)])) rfl rfl (hb hby dLc_27)
  refine own_on st3 ?_
  show own_Go p e below F (T3.setTop (mkF m 30 #[.val (.ref a), .unset] [(.ref a)]))
  exact own_retA X3 hx hlk hret rfl rfl (hb hby dLc_30) (fun t ht hE => hF t _ _ _ _ (by rw [ht, (e3 : _ = h0)]; exact ⟨rfl, Fr.nil _, rfl⟩) hE (by decide) (by decide))
theorem dCo_0 : decode jdk_40_method_48_code 0 = .ok (.aload_n 0, 1) := by decide +kernel
theorem dCo_1 : decode jdk_40_method_48_code 1 = .ok (.invokestatic 112, 3) := by decide +kernel
theorem dCo_4 : decode jdk_40_method_48_code 4 = .ok (.areturn, 1) := by decide +kernel
def Q_rmCo (Z : State) (a : Addr) (h0 : Heap) (v : Option Value) (h : Heap) (L : List Loc) : Prop := v = some (.ref a) ∧ Fr Z.heap.size L ∧ h = h0
set_option maxRecDepth 65536 in
set_option maxHeartbeats 40000000 in
theorem rmCo (l : Launch) (Z : State) (a0 : Array Value) (hw : ∀ d ∈ tables_1, d.before a0 Z = true) (a : Addr) (h0 : Heap) (A0 : Exa Z h0 a "java/util/ImmutableCollections$List12") :
    MetFree l (⟨"java/util/List", "copyOf", "(Ljava/util/Collection;)Ljava/util/List;"⟩ : MethodName) (head1 (Jvm.Cond.code (⟨"java/util/List", "copyOf", "(Ljava/util/Collection;)Ljava/util/List;"⟩ : MethodName) jdk_40_method_48_code 1 (Option.some (FieldType.object "java/util/List")) :: []) ({ frames := 1, cells := 0, slots := 0, locals := 13 } : Room)) (fun aa U => aa = #[(.ref a)] ∧ Z.Warmed39 U.vm ∧ U.heap = h0) (fun _ _ _ _ _ => True) (fun _ U o U' => ∃ v L, o = .returned v ∧ (Q_rmCo Z a h0) v U'.heap L ∧ FrameEnd U o U' L ({ frames := 1, cells := 0, slots := 0, locals := 13 } : Room).cells ({ frames := 1, cells := 0, slots := 0, locals := 13 } : Room).slots) := by
  refine own_walkN (by exact pnLi) ?_
  intro p e s m below meth c T0 X0 hx hby hml hret hlk hnm hown hZ e0 es0 F hF
  refine own_on (fun _ => castTop (efR m a)) ?_
  have N0 := Fr.nil Z.heap.size
  refine own_aload_n X0.here hx (hb hby dCo_0) rfl rfl (pc' := 1) rfl ?_
  obtain ⟨_, _, ⟨T1, L1, k1, n1⟩, -, X1, ⟨Lc1, hQ1, l1, y1, z1⟩, st1⟩ := Jvm.LawKit.callS X0 hx (y := (⟨"java/util/ImmutableCollections", "listCopy", "(Ljava/util/Collection;)Ljava/util/List;"⟩ : MethodName)) hown (mvT hZ (hw _ (List.mem_of_getElem? (i := 84) rfl))) (mvT hZ (hw _ (List.mem_of_getElem? (i := 85) rfl))) (mvT hZ (hw _ (List.mem_of_getElem? (i := 74) rfl))) (mvT hZ (hw _ (List.mem_of_getElem? (i := 86) rfl))) (by decide) (backOf (W := 0) (rmLc l Z a0 hw a h0 A0) hZ (hw _ (List.mem_of_getElem? (i := 86) rfl)) (hw _ (List.mem_of_getElem? (i := 74) rfl)) (by decide) (by decide)) (g := (mkF m 1 #[.val (.ref a)] [(.ref a)])) rfl (by rw [hml]; rfl) (argsL := [(.ref a)]) (rest := []) (lenOf pdCo rfl) rfl (by show 2 * 0 + _ ≤ _; exact Nat.le_of_eq rfl) (hb hby dCo_1) (fun _ _ => ⟨rfl, e0, (Nat.le_of_ble_eq_true rfl), (Nat.le_of_ble_eq_true rfl)⟩)
  dsimp only [Pt.U, Pt.locs, Pt.cells, Pt.slots] at X1 l1 y1 z1 st1 hQ1
  subst l1 y1 z1
  obtain ⟨rfl, N1, E1⟩ := hQ1
  refine own_on (st1) ?_
  show own_Go p e below F (T1.setTop (mkF m 4 #[.val (.ref a)] [(.ref a)]))
  have N2 := Fr.app N0 N1
  exact own_retA X1 hx hlk hret rfl rfl (hb hby dCo_4) (fun t ht hE => hF t _ _ _ _ (by rw [ht, (E1 : _ = h0)]; exact ⟨rfl, N2, rfl⟩) hE (by decide) (by decide))
theorem dIT_0 : decode prog_24_method_1_code 0 = .ok (.aload_n 0, 1) := by decide +kernel
theorem dIT_1 : decode prog_24_method_1_code 1 = .ok (.invokespecial 1, 3) := by decide +kernel
theorem dIT_4 : decode prog_24_method_1_code 4 = .ok (.aload_n 0, 1) := by decide +kernel
theorem dIT_5 : decode prog_24_method_1_code 5 = .ok (.aload_n 1, 1) := by decide +kernel
theorem dIT_6 : decode prog_24_method_1_code 6 = .ok (.invokestatic 7, 3) := by decide +kernel
theorem dIT_9 : decode prog_24_method_1_code 9 = .ok (.putfield 13, 3) := by decide +kernel
theorem dIT_12 : decode prog_24_method_1_code 12 = .ok (.aload_n 0, 1) := by decide +kernel
theorem dIT_13 : decode prog_24_method_1_code 13 = .ok (.iload_n 2, 1) := by decide +kernel
theorem dIT_14 : decode prog_24_method_1_code 14 = .ok (.putfield 19, 3) := by decide +kernel
theorem dIT_17 : decode prog_24_method_1_code 17 = .ok (.aload_n 0, 1) := by decide +kernel
theorem dIT_18 : decode prog_24_method_1_code 18 = .ok (.aload_n 3, 1) := by decide +kernel
theorem dIT_19 : decode prog_24_method_1_code 19 = .ok (.putfield 23, 3) := by decide +kernel
theorem dIT_22 : decode prog_24_method_1_code 22 = .ok (.return_, 1) := by decide +kernel
theorem efIT (m : MethodId) (x0 x1 : Addr) (x2 : Int32) : entryFrame m #[(.ref x0), (.ref x1), (.int x2), .null] 4 = mkF m 0 #[.val (.ref x0), .val (.ref x1), .val (.int x2), .val .null] [] := by first | (simp [entryFrame, mkF, argsToLocals, Value.category]; done) | rfl
def Q_rmIT (Z : State) (a li : Addr) (h0 : Heap) (v : Option Value) (h : Heap) (L : List Loc) : Prop := v = none ∧ Fr Z.heap.size L ∧ Keep h0 h [a] ∧ Exa Z h a "com/example/credential_to_assertion/credentialtoassertion/service/validation/IdentityTokenPresentation" ∧ Fld Z h a "com/example/credential_to_assertion/credentialtoassertion/service/validation/IdentityTokenPresentation" "audiences" "Ljava/util/List;" (.ref li) ∧ Fld Z h a "com/example/credential_to_assertion/credentialtoassertion/service/validation/IdentityTokenPresentation" "bearerGrant" "Z" (.int (0 : Int32)) ∧ Fld Z h a "com/example/credential_to_assertion/credentialtoassertion/service/validation/IdentityTokenPresentation" "tokenEndpoint" "Ljava/lang/String;" .null
set_option maxRecDepth 65536 in
set_option maxHeartbeats 40000000 in
theorem rmIT (l : Launch) (Z : State) (a0 : Array Value) (hw : ∀ d ∈ tables_1, d.before a0 Z = true) (a li : Addr) (h0 : Heap) (ga : Z.heap.size ≤ a) (pA1 : Exa Z h0 li "java/util/ImmutableCollections$List12") (A0 : Exa Z h0 a "com/example/credential_to_assertion/credentialtoassertion/service/validation/IdentityTokenPresentation") (F0 : Fld Z h0 a "com/example/credential_to_assertion/credentialtoassertion/service/validation/IdentityTokenPresentation" "audiences" "Ljava/util/List;" (.null)) (F1 : Fld Z h0 a "com/example/credential_to_assertion/credentialtoassertion/service/validation/IdentityTokenPresentation" "bearerGrant" "Z" (.int ((0 : Int32)))) (F2 : Fld Z h0 a "com/example/credential_to_assertion/credentialtoassertion/service/validation/IdentityTokenPresentation" "tokenEndpoint" "Ljava/lang/String;" (.null)) :
    MetFree l (⟨"com/example/credential_to_assertion/credentialtoassertion/service/validation/IdentityTokenPresentation", "<init>", "(Ljava/util/List;ZLjava/lang/String;)V"⟩ : MethodName) (head1 (Jvm.Cond.code (⟨"com/example/credential_to_assertion/credentialtoassertion/service/validation/IdentityTokenPresentation", "<init>", "(Ljava/util/List;ZLjava/lang/String;)V"⟩ : MethodName) prog_24_method_1_code 4 (Option.none : Option FieldType) :: []) ({ frames := 2, cells := 0, slots := 0, locals := 26 } : Room)) (fun aa U => aa = #[(.ref a), (.ref li), (.int (0 : Int32)), .null] ∧ Z.Warmed39 U.vm ∧ U.heap = h0) (fun _ _ _ _ _ => True) (fun _ U o U' => ∃ v L, o = .returned v ∧ (Q_rmIT Z a li h0) v U'.heap L ∧ FrameEnd U o U' L ({ frames := 2, cells := 0, slots := 0, locals := 26 } : Room).cells ({ frames := 2, cells := 0, slots := 0, locals := 26 } : Room).slots) := by
  refine own_walkN (by exact pnIT) ?_
  intro p e s m below meth c T0 X0 hx hby hml hret hlk hnm hown hZ e0 es0 F hF
  refine own_on (fun _ => castTop (efIT m a li 0)) ?_
  have N0 := Fr.nil Z.heap.size
  have Q0 := Keep.refl h0 [a]
  refine own_aload_n X0.here hx (hb hby dIT_0) rfl rfl (pc' := 1) rfl ?_
  obtain ⟨T1, X1, e1, st1⟩ := initO X0 hx hZ hown (hw _ (List.mem_of_getElem? (i := 80) rfl)) (hw _ (List.mem_of_getElem? (i := 16) rfl)) (hw _ (List.mem_of_getElem? (i := 17) rfl)) e0 (g := (mkF m 1 #[.val (.ref a), .val (.ref li), .val (.int ((0 : Int32))), .val .null] [(.ref a)])) rfl (by rw [hml]; rfl) rfl (hb hby dIT_1) (by decide) (W := 0) (by show 2 * 0 + _ ≤ _; exact Nat.le_of_eq rfl) (by decide)
  refine own_on st1 ?_
  show own_Go p e below F (T1.setTop (mkF m 4 #[.val (.ref a), .val (.ref li), .val (.int ((0 : Int32))), .val .null] []))
  refine own_aload_n X1.here hx (hb hby dIT_4) rfl rfl (pc' := 5) rfl ?_
  refine own_aload_n X1.here hx (hb hby dIT_5) rfl rfl (pc' := 6) rfl ?_
  obtain ⟨_, _, ⟨T2, L2, k2, n2⟩, -, X2, ⟨Lc2, hQ2, l2, y2, z2⟩, st2⟩ := Jvm.LawKit.callS X1 hx (y := (⟨"java/util/List", "copyOf", "(Ljava/util/Collection;)Ljava/util/List;"⟩ : MethodName)) hown (mvT hZ (hw _ (List.mem_of_getElem? (i := 81) rfl))) (mvT hZ (hw _ (List.mem_of_getElem? (i := 82) rfl))) (mvT hZ (hw _ (List.mem_of_getElem? (i := 40) rfl))) (mvT hZ (hw _ (List.mem_of_getElem? (i := 83) rfl))) (by decide) (backOf (W := 1) (rmCo l Z a0 hw li h0 pA1) hZ (hw _ (List.mem_of_getElem? (i := 83) rfl)) (hw _ (List.mem_of_getElem? (i := 40) rfl)) (by decide) (by decide)) (g := (mkF m 6 #[.val (.ref a), .val (.ref li), .val (.int ((0 : Int32))), .val .null] [(.ref li), (.ref a)])) rfl (by rw [hml]; rfl) (argsL := [(.ref li)]) (rest := [(.ref a)]) (lenOf pdCo rfl) rfl (by show 2 * 0 + _ ≤ _; exact Nat.le_of_eq rfl) (hb hby dIT_6) (fun _ _ => ⟨rfl, e1, (Nat.le_of_ble_eq_true rfl), (Nat.le_of_ble_eq_true rfl)⟩)
  dsimp only [Pt.U, Pt.locs, Pt.cells, Pt.slots] at X2 l2 y2 z2 st2 hQ2
  subst l2 y2 z2
  obtain ⟨rfl, N2, E2⟩ := hQ2
  refine own_on (st2) ?_
  show own_Go p e below F (T2.setTop (mkF m 9 #[.val (.ref a), .val (.ref li), .val (.int ((0 : Int32))), .val .null] [(.ref li), (.ref a)]))
  have N3 := Fr.app N0 N2
  obtain ⟨T4, h4, X4, e4, W4, st4⟩ := putF X2 hx hZ hown (host := "") (Or.inl (hw _ (List.mem_of_getElem? (i := 90) rfl))) Via.refl E2 F0 A0 (Or.inr ⟨(hw _ (List.mem_of_getElem? (i := 91) rfl)), rfl, hnm⟩) (hw _ (List.mem_of_getElem? (i := 31) rfl)) (ty := .object "java/util/List") (by decide) rfl rfl (g := (mkF m 9 #[.val (.ref a), .val (.ref li), .val (.int ((0 : Int32))), .val .null] [(.ref li), (.ref a)])) rfl rfl (hb hby dIT_9)
  have f5 := A0.wr W4
  have f6 := F0.same W4
  have f7 := F1.other W4 (Or.inr (slot_ne (Or.inr (hw _ (List.mem_of_getElem? (i := 93) rfl))) (Or.inr (hw _ (List.mem_of_getElem? (i := 91) rfl))) (by decide) (t := .boolean) (by decide) (t' := .object "java/util/List") (by decide)))
  have f8 := F2.other W4 (Or.inr (slot_ne (Or.inr (hw _ (List.mem_of_getElem? (i := 95) rfl))) (Or.inr (hw _ (List.mem_of_getElem? (i := 91) rfl))) (by decide) (t := .object "java/lang/String") (by decide) (t' := .object "java/util/List") (by decide)))
  have f9 := Q0.wr W4 (Or.inl (by simp))
  have N10 := own_Fr_snoc (sl := Jvm.RoadKit.slotOf Z "com/example/credential_to_assertion/credentialtoassertion/service/validation/IdentityTokenPresentation" "audiences" "Ljava/util/List;") N3 ga
  refine own_on st4 ?_
  show own_Go p e below F (T4.setTop (mkF m 12 #[.val (.ref a), .val (.ref li), .val (.int ((0 : Int32))), .val .null] []))
  refine own_aload_n X4.here hx (hb hby dIT_12) rfl rfl (pc' := 13) rfl ?_
  refine own_iload_n X4.here hx (hb hby dIT_13) rfl (pc' := 14) rfl ?_
  obtain ⟨T11, h11, X11, e11, W11, st11⟩ := putF X4 hx hZ hown (host := "") (Or.inl (hw _ (List.mem_of_getElem? (i := 92) rfl))) Via.refl e4 f7 f5 (Or.inr ⟨(hw _ (List.mem_of_getElem? (i := 93) rfl)), rfl, hnm⟩) (hw _ (List.mem_of_getElem? (i := 31) rfl)) (ty := .boolean) (by decide) rfl rfl (g := (mkF m 14 #[.val (.ref a), .val (.ref li), .val (.int ((0 : Int32))), .val .null] [(.int ((0 : Int32))), (.ref a)])) rfl rfl (hb hby dIT_14)
  have f12 := f5.wr W11
  have f13 := f6.other W11 (Or.inr (slot_ne (Or.inr (hw _ (List.mem_of_getElem? (i := 91) rfl))) (Or.inr (hw _ (List.mem_of_getElem? (i := 93) rfl))) (by decide) (t := .object "java/util/List") (by decide) (t' := .boolean) (by decide)))
  have f14 := f7.same W11
  have f15 := f8.other W11 (Or.inr (slot_ne (Or.inr (hw _ (List.mem_of_getElem? (i := 95) rfl))) (Or.inr (hw _ (List.mem_of_getElem? (i := 93) rfl))) (by decide) (t := .object "java/lang/String") (by decide) (t' := .boolean) (by decide)))
  have f16 := f9.wr W11 (Or.inl (by simp))
  have N17 := own_Fr_snoc (sl := Jvm.RoadKit.slotOf Z "com/example/credential_to_assertion/credentialtoassertion/service/validation/IdentityTokenPresentation" "bearerGrant" "Z") N10 ga
  refine own_on st11 ?_
  show own_Go p e below F (T11.setTop (mkF m 17 #[.val (.ref a), .val (.ref li), .val (.int ((0 : Int32))), .val .null] []))
  refine own_aload_n X11.here hx (hb hby dIT_17) rfl rfl (pc' := 18) rfl ?_
  refine own_aload_n X11.here hx (hb hby dIT_18) rfl rfl (pc' := 19) rfl ?_
  obtain ⟨T18, h18, X18, e18, W18, st18⟩ := putF X11 hx hZ hown (host := "") (Or.inl (hw _ (List.mem_of_getElem? (i := 94) rfl))) Via.refl e11 f15 f12 (Or.inr ⟨(hw _ (List.mem_of_getElem? (i := 95) rfl)), rfl, hnm⟩) (hw _ (List.mem_of_getElem? (i := 31) rfl)) (ty := .object "java/lang/String") (by decide) rfl rfl (g := (mkF m 19 #[.val (.ref a), .val (.ref li), .val (.int ((0 : Int32))), .val .null] [.null, (.ref a)])) rfl rfl (hb hby dIT_19)
  have f19 := f12.wr W18
  have f20 := f13.other W18 (Or.inr (slot_ne (Or.inr (hw _ (List.mem_of_getElem? (i := 91) rfl))) (Or.inr (hw _ (List.mem_of_getElem? (i := 95) rfl))) (by decide) (t := .object "java/util/List") (by decide) (t' := .object "java/lang/String") (by decide)))
  have f21 := f14.other W18 (Or.inr (slot_ne (Or.inr (hw _ (List.mem_of_getElem? (i := 93) rfl))) (Or.inr (hw _ (List.mem_of_getElem? (i := 95) rfl))) (by decide) (t := .boolean) (by decide) (t' := .object "java/lang/String") (by decide)))
  have f22 := f15.same W18
  have f23 := f16.wr W18 (Or.inl (by simp))
  have N24 := own_Fr_snoc (sl := Jvm.RoadKit.slotOf Z "com/example/credential_to_assertion/credentialtoassertion/service/validation/IdentityTokenPresentation" "tokenEndpoint" "Ljava/lang/String;") N17 ga
  refine own_on st18 ?_
  show own_Go p e below F (T18.setTop (mkF m 22 #[.val (.ref a), .val (.ref li), .val (.int ((0 : Int32))), .val .null] []))
  exact own_retV X18 hx hlk hret (hb hby dIT_22) (fun t ht hE => hF t _ _ _ _ (by rw [ht, (e18 : _ = h18)]; exact ⟨rfl, N24, f23, f19, f20, f21, f22⟩) hE (by decide) (by decide))
theorem dRe_0 : decode prog_24_method_2_code 0 = .ok (.new 14, 3) := by decide +kernel
theorem dRe_3 : decode prog_24_method_2_code 3 = .ok (.dup, 1) := by decide +kernel
theorem dRe_4 : decode prog_24_method_2_code 4 = .ok (.aload_n 0, 1) := by decide +kernel
theorem dRe_5 : decode prog_24_method_2_code 5 = .ok (.ldc 27, 2) := by decide +kernel
theorem dRe_7 : decode prog_24_method_2_code 7 = .ok (.invokestatic 29, 3) := by decide +kernel
theorem dRe_10 : decode prog_24_method_2_code 10 = .ok (.checkcast 35, 3) := by decide +kernel
theorem dRe_13 : decode prog_24_method_2_code 13 = .ok (.invokestatic 37, 3) := by decide +kernel
theorem dRe_16 : decode prog_24_method_2_code 16 = .ok (.iconst 0, 1) := by decide +kernel
theorem dRe_17 : decode prog_24_method_2_code 17 = .ok (.aconst_null, 1) := by decide +kernel
theorem dRe_18 : decode prog_24_method_2_code 18 = .ok (.invokespecial 41, 3) := by decide +kernel
theorem dRe_21 : decode prog_24_method_2_code 21 = .ok (.areturn, 1) := by decide +kernel
def Q_rmRe (Z : State) (t : Addr) (h0 : Heap) (em : Addr) (v : Option Value) (h : Heap) (L : List Loc) : Prop := ∃ a li, v = some (.ref a) ∧ Ext h0 h ∧ Fr Z.heap.size L ∧ (Exa Z h a "com/example/credential_to_assertion/credentialtoassertion/service/validation/IdentityTokenPresentation" ∧ Fld Z h a "com/example/credential_to_assertion/credentialtoassertion/service/validation/IdentityTokenPresentation" "audiences" "Ljava/util/List;" (.ref li) ∧ Fld Z h a "com/example/credential_to_assertion/credentialtoassertion/service/validation/IdentityTokenPresentation" "bearerGrant" "Z" (.int (0 : Int32)) ∧ Fld Z h a "com/example/credential_to_assertion/credentialtoassertion/service/validation/IdentityTokenPresentation" "tokenEndpoint" "Ljava/lang/String;" .null) ∧ Exa Z h li "java/util/ImmutableCollections$List12" ∧ Fld Z h li "java/util/ImmutableCollections$List12" "e0" "Ljava/lang/Object;" (.ref t) ∧ Fld Z h li "java/util/ImmutableCollections$List12" "e1" "Ljava/lang/Object;" (.ref em)
set_option maxRecDepth 65536 in
set_option maxHeartbeats 40000000 in
theorem rmRe (l : Launch) (Z : State) (a0 : Array Value) (hw : ∀ d ∈ tables_1, d.before a0 Z = true) (hEL : EW Z a0 EL) (t : Addr) (h0 : Heap) (EZ : Ext Z.heap h0) (em : Addr) (OM : Sta Z Z.heap "java/util/ImmutableCollections" "EMPTY" "Ljava/lang/Object;" (.ref em)) (pA1 : Exa Z h0 t "java/lang/String") :
    MetFree l (⟨"com/example/credential_to_assertion/credentialtoassertion/service/validation/IdentityTokenPresentation", "restrictedTo", "(Ljava/lang/String;)Lcom/example/credential_to_assertion/credentialtoassertion/service/validation/IdentityTokenPresentation;"⟩ : MethodName) (head1 (Jvm.Cond.code (⟨"com/example/credential_to_assertion/credentialtoassertion/service/validation/IdentityTokenPresentation", "restrictedTo", "(Ljava/lang/String;)Lcom/example/credential_to_assertion/credentialtoassertion/service/validation/IdentityTokenPresentation;"⟩ : MethodName) prog_24_method_2_code 1 (Option.some (FieldType.object "com/example/credential_to_assertion/credentialtoassertion/service/validation/IdentityTokenPresentation")) :: []) ({ frames := 6, cells := 4, slots := 41, locals := 80 } : Room)) (fun aa U => aa = #[(.ref t)] ∧ Z.Warmed39 U.vm ∧ U.heap = h0 ∧ CHv Z EL U.vm h0 ∧ ∀ yy ∈ ([] : List Addr), Safe Z EL U.vm h0 yy) (fun _ _ _ _ _ => True) (fun _ U o U' => ∃ v L, o = .returned v ∧ (Q_rmRe Z t h0 em) v U'.heap L ∧ CHr Z EL U.vm U.heap U'.vm U'.heap ∧ ReturnedEndW U o U' L ({ frames := 6, cells := 4, slots := 41, locals := 80 } : Room).cells ({ frames := 6, cells := 4, slots := 41, locals := 80 } : Room).slots) := by
  refine own_walkW (by exact pnIT) ?_
  intro p e s m below meth c T0 X0 hx hby hml hret hlk hnm hs0 e0 I0 hsf F hF
  refine own_on (fun _ => castTop (efR m t)) ?_
  have M0 := own_ext_refl h0
  have N0 := Fr.nil Z.heap.size
  obtain ⟨T1, h1, X1, e1, E1, A1, D1, -, st1⟩ := newO X0 hx I0.1 I0.2.1 (hw _ (List.mem_of_getElem? (i := 30) rfl)) (hw _ (List.mem_of_getElem? (i := 31) rfl)) (hw _ (List.mem_of_getElem? (i := 28) rfl)) e0 (g := (mkF m 0 #[.val (.ref t)] [])) rfl (hb hby dRe_0) (by decide) (by decide)
  obtain ⟨a1, g1⟩ : ∃ z, z = h0.size := ⟨_, rfl⟩
  rw [← g1] at A1 D1 st1
  have ne2 : t ≠ a1 := Nat.ne_of_lt (by rw [g1]; exact pA1.lt)
  have ge3 : h0.size ≤ a1 := by rw [g1]; exact M0.1
  have f4 := own_ext_trans M0 E1
  have f5 := pA1.ext E1
  have J6 := I0.ext E1
  have F1_0 : Fld Z h1 a1 "com/example/credential_to_assertion/credentialtoassertion/service/validation/IdentityTokenPresentation" "audiences" "Ljava/util/List;" (.null) := (D1 (Or.inr (hw _ (List.mem_of_getElem? (i := 91) rfl))) (ty := .object "java/util/List") (by decide))
  have F1_1 : Fld Z h1 a1 "com/example/credential_to_assertion/credentialtoassertion/service/validation/IdentityTokenPresentation" "bearerGrant" "Z" (.int ((0 : Int32))) := (D1 (Or.inr (hw _ (List.mem_of_getElem? (i := 93) rfl))) (ty := .boolean) (by decide))
  have F1_2 : Fld Z h1 a1 "com/example/credential_to_assertion/credentialtoassertion/service/validation/IdentityTokenPresentation" "tokenEndpoint" "Ljava/lang/String;" (.null) := (D1 (Or.inr (hw _ (List.mem_of_getElem? (i := 95) rfl))) (ty := .object "java/lang/String") (by decide))
  refine own_on st1 ?_
  show own_Go p e below F (T1.setTop (mkF m 3 #[.val (.ref t)] [(.ref a1)]))
  have gz_a1 : Z.heap.size ≤ a1 := Nat.le_trans EZ.1 ge3
  refine own_dup X1.here hx (hb hby dRe_3) rfl (pc' := 4) rfl ?_
  refine own_aload_n X1.here hx (hb hby dRe_4) rfl rfl (pc' := 5) rfl ?_
  obtain ⟨b7, T7, X7, E7, I7, C7, st7⟩ := own_ldcO X1 hx J6 (hw _ (List.mem_of_getElem? (i := 32) rfl)) (own_strW hw) e1 hEL (g := (mkF m 5 #[.val (.ref t)] [(.ref t), (.ref a1), (.ref a1)])) rfl (hb hby dRe_5) (n := 32) (by decide) (by decide) (by decide) (by decide)
  have f8 := own_ext_trans f4 E7
  have f9 := f5.ext E7
  have f10 := A1.ext E7
  have f11 := F1_0.ext E7
  have f12 := F1_1.ext E7
  have f13 := F1_2.ext E7
  refine own_on st7 ?_
  show own_Go p e below F (T7.setTop (mkF m 7 #[.val (.ref t)] [(.ref b7), (.ref t), (.ref a1), (.ref a1)]))
  obtain ⟨_, _, ⟨T14, L14, k14, n14⟩, -, X14, ⟨Lc14, hQ14, l14, y14, z14⟩, st14⟩ := Jvm.LawKit.callS X7 hx (y := (⟨"java/util/Objects", "requireNonNull", "(Ljava/lang/Object;Ljava/lang/String;)Ljava/lang/Object;"⟩ : MethodName)) I7.2.1 (mvT I7.1 (hw _ (List.mem_of_getElem? (i := 33) rfl))) (mvT I7.1 (hw _ (List.mem_of_getElem? (i := 34) rfl))) (mvT I7.1 (hw _ (List.mem_of_getElem? (i := 35) rfl))) (mvT I7.1 (hw _ (List.mem_of_getElem? (i := 36) rfl))) (by decide) (backOf (W := 2) (rmQ2 l Z a0 hw t b7 T7.heap) I7.1 (hw _ (List.mem_of_getElem? (i := 36) rfl)) (hw _ (List.mem_of_getElem? (i := 35) rfl)) (by decide) (by decide)) (g := (mkF m 7 #[.val (.ref t)] [(.ref b7), (.ref t), (.ref a1), (.ref a1)])) rfl (by rw [hml]; rfl) (argsL := [(.ref t), (.ref b7)]) (rest := [(.ref a1), (.ref a1)]) (lenOf pdQ2 rfl) rfl (by show 2 * 0 + _ ≤ _; exact Nat.le_of_eq rfl) (hb hby dRe_7) (fun _ _ => ⟨rfl, rfl, (Nat.le_of_ble_eq_true rfl), (Nat.le_of_ble_eq_true rfl)⟩)
  dsimp only [Pt.U, Pt.locs, Pt.cells, Pt.slots] at X14 l14 y14 z14 st14 hQ14
  subst l14 y14 z14
  obtain ⟨rfl, N14, E14⟩ := hQ14
  refine own_on (st14) ?_
  show own_Go p e below F (T14.setTop (mkF m 10 #[.val (.ref t)] [(.ref t), (.ref a1), (.ref a1)]))
  have N15 := Fr.app N0 N14
  obtain ⟨T16, X16, e16, st16⟩ := castY X14 hx I7.1 I7.2.1 (hw _ (List.mem_of_getElem? (i := 37) rfl)) E14 (Ins.self f9) (g := (mkF m 10 #[.val (.ref t)] [(.ref t), (.ref a1), (.ref a1)])) rfl rfl (hb hby dRe_10)
  refine own_on st16 ?_
  show own_Go p e below F (T16.setTop (mkF m 13 #[.val (.ref t)] [(.ref t), (.ref a1), (.ref a1)]))
  obtain ⟨_, _, ⟨T17, L17, k17, n17⟩, -, X17, ⟨Lc17, hQ17, l17, y17, z17⟩, st17⟩ := Jvm.LawKit.callS X16 hx (y := (⟨"java/util/List", "of", "(Ljava/lang/Object;)Ljava/util/List;"⟩ : MethodName)) I7.2.1 (mvT I7.1 (hw _ (List.mem_of_getElem? (i := 38) rfl))) (mvT I7.1 (hw _ (List.mem_of_getElem? (i := 39) rfl))) (mvT I7.1 (hw _ (List.mem_of_getElem? (i := 40) rfl))) (mvT I7.1 (hw _ (List.mem_of_getElem? (i := 41) rfl))) (by decide) (backOf (W := 2) (rmLo l Z a0 hw t T7.heap (own_ext_trans EZ f8) em OM) I7.1 (hw _ (List.mem_of_getElem? (i := 41) rfl)) (hw _ (List.mem_of_getElem? (i := 40) rfl)) (by decide) (by decide)) (g := (mkF m 13 #[.val (.ref t)] [(.ref t), (.ref a1), (.ref a1)])) rfl (by rw [hml]; rfl) (argsL := [(.ref t)]) (rest := [(.ref a1), (.ref a1)]) (lenOf pdLo rfl) rfl (by show 2 * 0 + _ ≤ _; exact Nat.le_of_eq rfl) (hb hby dRe_13) (fun _ _ => ⟨rfl, e16, (Nat.le_of_ble_eq_true rfl), (Nat.le_of_ble_eq_true rfl)⟩)
  dsimp only [Pt.U, Pt.locs, Pt.cells, Pt.slots] at X17 l17 y17 z17 st17 hQ17
  subst l17 y17 z17
  obtain ⟨li17, rfl, E17, N17, A17, F17, G17⟩ := hQ17
  refine own_on (st17) ?_
  show own_Go p e below F (T17.setTop (mkF m 16 #[.val (.ref t)] [(.ref li17), (.ref a1), (.ref a1)]))
  have f18 := own_ext_trans f8 E17
  have f19 := f9.ext E17
  have f20 := f10.ext E17
  have f21 := f11.ext E17
  have f22 := f12.ext E17
  have f23 := f13.ext E17
  have J24 := I7.ext E17
  have N25 := Fr.app N15 N17
  have nel : li17 ≠ a1 := Exa.ne A17 f20 (by decide)
  refine own_iconst X17.here hx (hb hby dRe_16) (v := 0) rfl (pc' := 17) rfl ?_
  refine own_aconst_null X17.here hx (hb hby dRe_17) (pc' := 18) rfl ?_
  obtain ⟨_, _, ⟨T26, L26, k26, n26⟩, -, X26, ⟨Lc26, hQ26, l26, y26, z26⟩, st26⟩ := X17.specialBack hx (y := (⟨"com/example/credential_to_assertion/credentialtoassertion/service/validation/IdentityTokenPresentation", "<init>", "(Ljava/util/List;ZLjava/lang/String;)V"⟩ : MethodName)) rfl J24.2.1 (mvT J24.1 (hw _ (List.mem_of_getElem? (i := 77) rfl))) (mvT J24.1 (hw _ (List.mem_of_getElem? (i := 78) rfl))) (mvT J24.1 (hw _ (List.mem_of_getElem? (i := 79) rfl))) (by decide) (backOf (W := 1) (rmIT l Z a0 hw a1 li17 T17.heap gz_a1 A17 f20 f21 f22 f23) J24.1 (hw _ (List.mem_of_getElem? (i := 79) rfl)) (hw _ (List.mem_of_getElem? (i := 28) rfl)) (by decide) (by decide)) (g := (mkF m 18 #[.val (.ref t)] [.null, (.int ((0 : Int32))), (.ref li17), (.ref a1), (.ref a1)])) rfl (by rw [hml]; rfl) (Steps.refl _) (a := a1) (argsL := [(.ref li17), (.int ((0 : Int32))), .null]) (rest := [(.ref a1)]) (lenOf pdIT rfl) rfl (by show 2 * 0 + _ ≤ _; exact Nat.le_of_eq rfl) (hb hby dRe_18) (fun _ _ => ⟨rfl, rfl, (Nat.le_of_ble_eq_true rfl), (Nat.le_of_ble_eq_true rfl)⟩)
  dsimp only [Pt.U, Pt.locs, Pt.cells, Pt.slots] at X26 l26 y26 z26 st26 hQ26
  subst l26 y26 z26
  obtain ⟨rfl, N26, K26, A26, B26, D26, G26⟩ := hQ26
  refine own_to st26 ?_
  show own_Go p e below F (T26.setTop (mkF m 21 #[.val (.ref t)] [(.ref a1)]))
  have f27 := own_ext_keep f18 K26 (fun y hy => by simp only [List.mem_cons, List.not_mem_nil, or_false] at hy; rcases hy with rfl <;> assumption)
  have f28 := f19.keep K26
  have f29 := f20.keep K26
  have f33 := A17.keep K26
  have f34 := F17.keep K26 (by simp only [List.mem_cons, List.not_mem_nil, or_false, not_or]; exact nel)
  have f35 := G17.keep K26 (by simp only [List.mem_cons, List.not_mem_nil, or_false, not_or]; exact nel)
  have J36 := J24.keep K26 (sfS (Safe.exa J24.1.alike f20 (by decide) (by decide)) sf0)
  have N37 := Fr.app N25 N26
  exact own_retAW X26 hx hlk hEL J36 rfl hret rfl rfl (hb hby dRe_21) (fun t ht hC hE => hF t _ _ _ _ (by rw [ht]; exact ⟨_, _, rfl, f27, N37, ⟨A26, B26, D26, G26⟩, f33, f34, f35⟩) hC hE (by decide) (by decide))
theorem dGa_0 : decode prog_24_method_4_code 0 = .ok (.aload_n 0, 1) := by decide +kernel
theorem dGa_1 : decode prog_24_method_4_code 1 = .ok (.getfield 13, 3) := by decide +kernel
theorem dGa_4 : decode prog_24_method_4_code 4 = .ok (.areturn, 1) := by decide +kernel
def Q_rmGa (Z : State) (a : Addr) (b : Value) (h0 : Heap) (v : Option Value) (h : Heap) (L : List Loc) : Prop := v = some b ∧ Fr Z.heap.size L ∧ h = h0
set_option maxRecDepth 65536 in
set_option maxHeartbeats 40000000 in
theorem rmGa (l : Launch) (Z : State) (a0 : Array Value) (hw : ∀ d ∈ tables_1, d.before a0 Z = true) (a : Addr) (b : Value) (h0 : Heap) (hv : b.isRef = true) (F0 : Fld Z h0 a "com/example/credential_to_assertion/credentialtoassertion/service/validation/IdentityTokenPresentation" "audiences" "Ljava/util/List;" b) :
    MetFree l (⟨"com/example/credential_to_assertion/credentialtoassertion/service/validation/IdentityTokenPresentation", "getAudiences", "()Ljava/util/List;"⟩ : MethodName) (head1 (Jvm.Cond.code (⟨"com/example/credential_to_assertion/credentialtoassertion/service/validation/IdentityTokenPresentation", "getAudiences", "()Ljava/util/List;"⟩ : MethodName) prog_24_method_4_code 1 (Option.some (FieldType.object "java/util/List")) :: []) ({ frames := 0, cells := 0, slots := 0, locals := 0 } : Room)) (fun aa U => aa = #[(.ref a)] ∧ Z.Warmed39 U.vm ∧ U.heap = h0) (fun _ _ _ _ _ => True) (fun _ U o U' => ∃ v L, o = .returned v ∧ (Q_rmGa Z a b h0) v U'.heap L ∧ FrameEnd U o U' L ({ frames := 0, cells := 0, slots := 0, locals := 0 } : Room).cells ({ frames := 0, cells := 0, slots := 0, locals := 0 } : Room).slots) := by
  refine own_walkN (by exact pnIT) ?_
  intro p e s m below meth c T0 X0 hx hby hml hret hlk hnm hown hZ e0 es0 F hF
  refine own_on (fun _ => castTop (efR m a)) ?_
  refine own_aload_n X0.here hx (hb hby dGa_0) rfl rfl (pc' := 1) rfl ?_
  obtain ⟨T1, X1, e1, st1⟩ := getF X0 hx hZ hown (host := "") (Or.inl (hw _ (List.mem_of_getElem? (i := 90) rfl))) Via.refl e0 F0 (g := (mkF m 1 #[.val (.ref a)] [(.ref a)])) rfl rfl (hb hby dGa_1)
  refine own_on st1 ?_
  show own_Go p e below F (T1.setTop (mkF m 4 #[.val (.ref a)] [b]))
  exact own_retA X1 hx hlk hret rfl hv (hb hby dGa_4) (fun t ht hE => hF t _ _ _ _ (by rw [ht, (e1 : _ = h0)]; exact ⟨rfl, Fr.nil _, rfl⟩) hE (by decide) (by decide))
theorem dBg_0 : decode prog_24_method_5_code 0 = .ok (.aload_n 0, 1) := by decide +kernel
theorem dBg_1 : decode prog_24_method_5_code 1 = .ok (.getfield 19, 3) := by decide +kernel
theorem dBg_4 : decode prog_24_method_5_code 4 = .ok (.ireturn, 1) := by decide +kernel
def Q_rmBg (Z : State) (a : Addr) (b : Int32) (h0 : Heap) (v : Option Value) (h : Heap) (L : List Loc) : Prop := v = some (.int b) ∧ Fr Z.heap.size L ∧ h = h0
set_option maxRecDepth 65536 in
set_option maxHeartbeats 40000000 in
theorem rmBg (l : Launch) (Z : State) (a0 : Array Value) (hw : ∀ d ∈ tables_1, d.before a0 Z = true) (a : Addr) (b : Int32) (h0 : Heap) (hv : b = 0 ∨ b = 1) (F0 : Fld Z h0 a "com/example/credential_to_assertion/credentialtoassertion/service/validation/IdentityTokenPresentation" "bearerGrant" "Z" (.int b)) :
    MetFree l (⟨"com/example/credential_to_assertion/credentialtoassertion/service/validation/IdentityTokenPresentation", "isBearerGrant", "()Z"⟩ : MethodName) (head1 (Jvm.Cond.code (⟨"com/example/credential_to_assertion/credentialtoassertion/service/validation/IdentityTokenPresentation", "isBearerGrant", "()Z"⟩ : MethodName) prog_24_method_5_code 1 (Option.some FieldType.boolean) :: []) ({ frames := 0, cells := 0, slots := 0, locals := 0 } : Room)) (fun aa U => aa = #[(.ref a)] ∧ Z.Warmed39 U.vm ∧ U.heap = h0) (fun _ _ _ _ _ => True) (fun _ U o U' => ∃ v L, o = .returned v ∧ (Q_rmBg Z a b h0) v U'.heap L ∧ FrameEnd U o U' L ({ frames := 0, cells := 0, slots := 0, locals := 0 } : Room).cells ({ frames := 0, cells := 0, slots := 0, locals := 0 } : Room).slots) := by
  refine own_walkN (by exact pnIT) ?_
  intro p e s m below meth c T0 X0 hx hby hml hret hlk hnm hown hZ e0 es0 F hF
  refine own_on (fun _ => castTop (efR m a)) ?_
  refine own_aload_n X0.here hx (hb hby dBg_0) rfl rfl (pc' := 1) rfl ?_
  obtain ⟨T1, X1, e1, st1⟩ := getF X0 hx hZ hown (host := "") (Or.inl (hw _ (List.mem_of_getElem? (i := 92) rfl))) Via.refl e0 F0 (g := (mkF m 1 #[.val (.ref a)] [(.ref a)])) rfl rfl (hb hby dBg_1)
  refine own_on st1 ?_
  show own_Go p e below F (T1.setTop (mkF m 4 #[.val (.ref a)] [(.int b)]))
  exact own_retZ X1 hx hlk hv hret (hb hby dBg_4) (fun t ht hE => hF t _ _ _ _ (by rw [ht, (e1 : _ = h0)]; exact ⟨rfl, Fr.nil _, rfl⟩) hE (by decide) (by decide))
theorem dOn_0 : decode jdk_32_method_4_code 0 = .ok (.aload_n 0, 1) := by decide +kernel
theorem dOn_1 : decode jdk_32_method_4_code 1 = .ok (.ifnonnull 9, 3) := by decide +kernel
theorem dOn_4 : decode jdk_32_method_4_code 4 = .ok (.getstatic 1, 3) := by decide +kernel
theorem dOn_7 : decode jdk_32_method_4_code 7 = .ok (.goto 11, 3) := by decide +kernel
theorem dOn_10 : decode jdk_32_method_4_code 10 = .ok (.new 2, 3) := by decide +kernel
theorem dOn_13 : decode jdk_32_method_4_code 13 = .ok (.dup, 1) := by decide +kernel
theorem dOn_14 : decode jdk_32_method_4_code 14 = .ok (.aload_n 0, 1) := by decide +kernel
theorem dOn_15 : decode jdk_32_method_4_code 15 = .ok (.invokespecial 23, 3) := by decide +kernel
theorem dOn_18 : decode jdk_32_method_4_code 18 = .ok (.areturn, 1) := by decide +kernel
theorem efNull (m : MethodId) : entryFrame m #[.null] 1 = mkF m 0 #[.val .null] [] := by first | (simp [entryFrame, mkF, argsToLocals, Value.category]; done) | rfl
def Q_rmOn (Z : State) (h0 : Heap) (eo : Addr) (v : Option Value) (h : Heap) (L : List Loc) : Prop := v = some (.ref eo) ∧ Fr Z.heap.size L ∧ h = h0
set_option maxRecDepth 65536 in
set_option maxHeartbeats 40000000 in
theorem rmOn (l : Launch) (Z : State) (a0 : Array Value) (hw : ∀ d ∈ tables_1, d.before a0 Z = true) (h0 : Heap) (EZ : Ext Z.heap h0) (eo : Addr) (OE : Sta Z Z.heap "java/util/Optional" "EMPTY" "Ljava/util/Optional;" (.ref eo)) (AE : Exa Z Z.heap eo "java/util/Optional") (FE : Fld Z Z.heap eo "java/util/Optional" "value" "Ljava/lang/Object;" .null) :
    MetFree l (⟨"java/util/Optional", "ofNullable", "(Ljava/lang/Object;)Ljava/util/Optional;"⟩ : MethodName) (head1 (Jvm.Cond.code (⟨"java/util/Optional", "ofNullable", "(Ljava/lang/Object;)Ljava/util/Optional;"⟩ : MethodName) jdk_32_method_4_code 1 (Option.some (FieldType.object "java/util/Optional")) :: []) ({ frames := 0, cells := 0, slots := 0, locals := 0 } : Room)) (fun aa U => aa = #[.null] ∧ Z.Warmed39 U.vm ∧ U.heap = h0) (fun _ _ _ _ _ => True) (fun _ U o U' => ∃ v L, o = .returned v ∧ (Q_rmOn Z h0 eo) v U'.heap L ∧ FrameEnd U o U' L ({ frames := 0, cells := 0, slots := 0, locals := 0 } : Room).cells ({ frames := 0, cells := 0, slots := 0, locals := 0 } : Room).slots) := by
  refine own_walkN (by exact pnP) ?_
  intro p e s m below meth c T0 X0 hx hby hml hret hlk hnm hown hZ e0 es0 F hF
  refine own_on (fun _ => castTop (efNull m)) ?_
  refine own_aload_n X0.here hx (hb hby dOn_0) rfl rfl (pc' := 1) rfl ?_
  refine own_ifnonnull X0.here hx rfl (hb hby dOn_1) (by decide) (pc' := 10) (by decide) (pc2 := 4) rfl (fun q => absurd rfl q) (fun q1 => ?_)
  obtain ⟨T2, X2, e2, st2⟩ := getS (host := "") X0 hx hZ hown (hw _ (List.mem_of_getElem? (i := 147) rfl)) Via.refl e0 (OE.ext EZ) (g := (mkF m 4 #[.val .null] [])) rfl (hb hby dOn_4)
  refine own_on st2 ?_
  show own_Go p e below F (T2.setTop (mkF m 7 #[.val .null] [(.ref eo)]))
  refine own_goto X2.here hx (hb hby dOn_7) (by decide) (pc' := 18) (by decide) ?_
  exact own_retA X2 hx hlk hret rfl rfl (hb hby dOn_18) (fun t ht hE => hF t _ _ _ _ (by rw [ht, (e2 : _ = h0)]; exact ⟨rfl, Fr.nil _, rfl⟩) hE (by decide) (by decide))
theorem dTe_0 : decode prog_24_method_6_code 0 = .ok (.aload_n 0, 1) := by decide +kernel
theorem dTe_1 : decode prog_24_method_6_code 1 = .ok (.getfield 23, 3) := by decide +kernel
theorem dTe_4 : decode prog_24_method_6_code 4 = .ok (.invokestatic 65, 3) := by decide +kernel
theorem dTe_7 : decode prog_24_method_6_code 7 = .ok (.areturn, 1) := by decide +kernel
def Q_rmTe (Z : State) (a : Addr) (h0 : Heap) (eo : Addr) (v : Option Value) (h : Heap) (L : List Loc) : Prop := v = some (.ref eo) ∧ Fr Z.heap.size L ∧ h = h0
set_option maxRecDepth 65536 in
set_option maxHeartbeats 40000000 in
theorem rmTe (l : Launch) (Z : State) (a0 : Array Value) (hw : ∀ d ∈ tables_1, d.before a0 Z = true) (a : Addr) (h0 : Heap) (EZ : Ext Z.heap h0) (eo : Addr) (OE : Sta Z Z.heap "java/util/Optional" "EMPTY" "Ljava/util/Optional;" (.ref eo)) (AE : Exa Z Z.heap eo "java/util/Optional") (FE : Fld Z Z.heap eo "java/util/Optional" "value" "Ljava/lang/Object;" .null) (F0 : Fld Z h0 a "com/example/credential_to_assertion/credentialtoassertion/service/validation/IdentityTokenPresentation" "tokenEndpoint" "Ljava/lang/String;" .null) :
    MetFree l (⟨"com/example/credential_to_assertion/credentialtoassertion/service/validation/IdentityTokenPresentation", "getTokenEndpoint", "()Ljava/util/Optional;"⟩ : MethodName) (head1 (Jvm.Cond.code (⟨"com/example/credential_to_assertion/credentialtoassertion/service/validation/IdentityTokenPresentation", "getTokenEndpoint", "()Ljava/util/Optional;"⟩ : MethodName) prog_24_method_6_code 1 (Option.some (FieldType.object "java/util/Optional")) :: []) ({ frames := 1, cells := 0, slots := 0, locals := 12 } : Room)) (fun aa U => aa = #[(.ref a)] ∧ Z.Warmed39 U.vm ∧ U.heap = h0) (fun _ _ _ _ _ => True) (fun _ U o U' => ∃ v L, o = .returned v ∧ (Q_rmTe Z a h0 eo) v U'.heap L ∧ FrameEnd U o U' L ({ frames := 1, cells := 0, slots := 0, locals := 12 } : Room).cells ({ frames := 1, cells := 0, slots := 0, locals := 12 } : Room).slots) := by
  refine own_walkN (by exact pnIT) ?_
  intro p e s m below meth c T0 X0 hx hby hml hret hlk hnm hown hZ e0 es0 F hF
  refine own_on (fun _ => castTop (efR m a)) ?_
  have N0 := Fr.nil Z.heap.size
  refine own_aload_n X0.here hx (hb hby dTe_0) rfl rfl (pc' := 1) rfl ?_
  obtain ⟨T1, X1, e1, st1⟩ := getF X0 hx hZ hown (host := "") (Or.inl (hw _ (List.mem_of_getElem? (i := 94) rfl))) Via.refl e0 F0 (g := (mkF m 1 #[.val (.ref a)] [(.ref a)])) rfl rfl (hb hby dTe_1)
  refine own_on st1 ?_
  show own_Go p e below F (T1.setTop (mkF m 4 #[.val (.ref a)] [.null]))
  obtain ⟨_, _, ⟨T2, L2, k2, n2⟩, -, X2, ⟨Lc2, hQ2, l2, y2, z2⟩, st2⟩ := Jvm.LawKit.callS X1 hx (y := (⟨"java/util/Optional", "ofNullable", "(Ljava/lang/Object;)Ljava/util/Optional;"⟩ : MethodName)) hown (mvT hZ (hw _ (List.mem_of_getElem? (i := 143) rfl))) (mvT hZ (hw _ (List.mem_of_getElem? (i := 144) rfl))) (mvT hZ (hw _ (List.mem_of_getElem? (i := 145) rfl))) (mvT hZ (hw _ (List.mem_of_getElem? (i := 146) rfl))) (by decide) (backOf (W := 0) (rmOn l Z a0 hw h0 EZ eo OE AE FE) hZ (hw _ (List.mem_of_getElem? (i := 146) rfl)) (hw _ (List.mem_of_getElem? (i := 145) rfl)) (by decide) (by decide)) (g := (mkF m 4 #[.val (.ref a)] [.null])) rfl (by rw [hml]; rfl) (argsL := [.null]) (rest := []) (lenOf pdOn rfl) rfl (by show 2 * 0 + _ ≤ _; exact Nat.le_of_eq rfl) (hb hby dTe_4) (fun _ _ => ⟨rfl, e1, (Nat.le_of_ble_eq_true rfl), (Nat.le_of_ble_eq_true rfl)⟩)
  dsimp only [Pt.U, Pt.locs, Pt.cells, Pt.slots] at X2 l2 y2 z2 st2 hQ2
  subst l2 y2 z2
  obtain ⟨rfl, N2, E2⟩ := hQ2
  refine own_on (st2) ?_
  show own_Go p e below F (T2.setTop (mkF m 7 #[.val (.ref a)] [(.ref eo)]))
  have N3 := Fr.app N0 N2
  exact own_retA X2 hx hlk hret rfl rfl (hb hby dTe_7) (fun t ht hE => hF t _ _ _ _ (by rw [ht, (E2 : _ = h0)]; exact ⟨rfl, N3, rfl⟩) hE (by decide) (by decide))
theorem dIp_0 : decode jdk_32_method_6_code 0 = .ok (.aload_n 0, 1) := by decide +kernel
theorem dIp_1 : decode jdk_32_method_6_code 1 = .ok (.getfield 13, 3) := by decide +kernel
theorem dIp_4 : decode jdk_32_method_6_code 4 = .ok (.ifnull 7, 3) := by decide +kernel
theorem dIp_7 : decode jdk_32_method_6_code 7 = .ok (.iconst 1, 1) := by decide +kernel
theorem dIp_8 : decode jdk_32_method_6_code 8 = .ok (.goto 4, 3) := by decide +kernel
theorem dIp_11 : decode jdk_32_method_6_code 11 = .ok (.iconst 0, 1) := by decide +kernel
theorem dIp_12 : decode jdk_32_method_6_code 12 = .ok (.ireturn, 1) := by decide +kernel
def Q_rmIp (Z : State) (a : Addr) (h0 : Heap) (v : Option Value) (h : Heap) (L : List Loc) : Prop := v = some (.int (0 : Int32)) ∧ Fr Z.heap.size L ∧ h = h0
set_option maxRecDepth 65536 in
set_option maxHeartbeats 40000000 in
theorem rmIp (l : Launch) (Z : State) (a0 : Array Value) (hw : ∀ d ∈ tables_1, d.before a0 Z = true) (a : Addr) (h0 : Heap) (F0 : Fld Z h0 a "java/util/Optional" "value" "Ljava/lang/Object;" .null) :
    MetFree l (⟨"java/util/Optional", "isPresent", "()Z"⟩ : MethodName) (head1 (Jvm.Cond.code (⟨"java/util/Optional", "isPresent", "()Z"⟩ : MethodName) jdk_32_method_6_code 1 (Option.some FieldType.boolean) :: []) ({ frames := 0, cells := 0, slots := 0, locals := 0 } : Room)) (fun aa U => aa = #[(.ref a)] ∧ Z.Warmed39 U.vm ∧ U.heap = h0) (fun _ _ _ _ _ => True) (fun _ U o U' => ∃ v L, o = .returned v ∧ (Q_rmIp Z a h0) v U'.heap L ∧ FrameEnd U o U' L ({ frames := 0, cells := 0, slots := 0, locals := 0 } : Room).cells ({ frames := 0, cells := 0, slots := 0, locals := 0 } : Room).slots) := by
  refine own_walkN (by exact pnP) ?_
  intro p e s m below meth c T0 X0 hx hby hml hret hlk hnm hown hZ e0 es0 F hF
  refine own_on (fun _ => castTop (efR m a)) ?_
  refine own_aload_n X0.here hx (hb hby dIp_0) rfl rfl (pc' := 1) rfl ?_
  obtain ⟨T1, X1, e1, st1⟩ := getF X0 hx hZ hown (host := "") (Or.inl (hw _ (List.mem_of_getElem? (i := 153) rfl))) Via.refl e0 F0 (g := (mkF m 1 #[.val (.ref a)] [(.ref a)])) rfl rfl (hb hby dIp_1)
  refine own_on st1 ?_
  show own_Go p e below F (T1.setTop (mkF m 4 #[.val (.ref a)] [.null]))
  refine own_ifnull X1.here hx rfl (hb hby dIp_4) (by decide) (pc' := 11) (by decide) (pc2 := 7) rfl (fun q2 => ?_) (fun q => absurd rfl q)
  refine own_iconst X1.here hx (hb hby dIp_11) (v := 0) rfl (pc' := 12) rfl ?_
  exact own_retZ X1 hx hlk (by decide) hret (hb hby dIp_12) (fun t ht hE => hF t _ _ _ _ (by rw [ht, (e1 : _ = h0)]; exact ⟨rfl, Fr.nil _, rfl⟩) hE (by decide) (by decide))
theorem dSz_0 : decode jdk_44_method_3_code 0 = .ok (.aload_n 0, 1) := by decide +kernel
theorem dSz_1 : decode jdk_44_method_3_code 1 = .ok (.getfield 24, 3) := by decide +kernel
theorem dSz_4 : decode jdk_44_method_3_code 4 = .ok (.getstatic 19, 3) := by decide +kernel
theorem dSz_7 : decode jdk_44_method_3_code 7 = .ok (.if_acmp .eq 7, 3) := by decide +kernel
theorem dSz_10 : decode jdk_44_method_3_code 10 = .ok (.iconst 2, 1) := by decide +kernel
theorem dSz_11 : decode jdk_44_method_3_code 11 = .ok (.goto 4, 3) := by decide +kernel
theorem dSz_14 : decode jdk_44_method_3_code 14 = .ok (.iconst 1, 1) := by decide +kernel
theorem dSz_15 : decode jdk_44_method_3_code 15 = .ok (.ireturn, 1) := by decide +kernel
def Q_rmSz (Z : State) (a : Addr) (h0 : Heap) (em : Addr) (v : Option Value) (h : Heap) (L : List Loc) : Prop := v = some (.int (1 : Int32)) ∧ Fr Z.heap.size L ∧ h = h0
set_option maxRecDepth 65536 in
set_option maxHeartbeats 40000000 in
theorem rmSz (l : Launch) (Z : State) (a0 : Array Value) (hw : ∀ d ∈ tables_1, d.before a0 Z = true) (a : Addr) (h0 : Heap) (EZ : Ext Z.heap h0) (em : Addr) (OM : Sta Z Z.heap "java/util/ImmutableCollections" "EMPTY" "Ljava/lang/Object;" (.ref em)) (F0 : Fld Z h0 a "java/util/ImmutableCollections$List12" "e1" "Ljava/lang/Object;" (.ref em)) :
    MetFree l (⟨"java/util/ImmutableCollections$List12", "size", "()I"⟩ : MethodName) (head1 (Jvm.Cond.code (⟨"java/util/ImmutableCollections$List12", "size", "()I"⟩ : MethodName) jdk_44_method_3_code 1 (Option.some FieldType.int) :: []) ({ frames := 0, cells := 0, slots := 0, locals := 0 } : Room)) (fun aa U => aa = #[(.ref a)] ∧ Z.Warmed39 U.vm ∧ U.heap = h0) (fun _ _ _ _ _ => True) (fun _ U o U' => ∃ v L, o = .returned v ∧ (Q_rmSz Z a h0 em) v U'.heap L ∧ FrameEnd U o U' L ({ frames := 0, cells := 0, slots := 0, locals := 0 } : Room).cells ({ frames := 0, cells := 0, slots := 0, locals := 0 } : Room).slots) := by
  refine own_walkN (by exact pnL12) ?_
  intro p e s m below meth c T0 X0 hx hby hml hret hlk hnm hown hZ e0 es0 F hF
  refine own_on (fun _ => castTop (efR m a)) ?_
  refine own_aload_n X0.here hx (hb hby dSz_0) rfl rfl (pc' := 1) rfl ?_
  obtain ⟨T1, X1, e1, st1⟩ := getF X0 hx hZ hown (host := "") (Or.inl (hw _ (List.mem_of_getElem? (i := 75) rfl))) Via.refl e0 F0 (g := (mkF m 1 #[.val (.ref a)] [(.ref a)])) rfl rfl (hb hby dSz_1)
  refine own_on st1 ?_
  show own_Go p e below F (T1.setTop (mkF m 4 #[.val (.ref a)] [(.ref em)]))
  obtain ⟨T2, X2, e2, st2⟩ := own_getSN X1 hx hZ hown (hw _ (List.mem_of_getElem? (i := 73) rfl)) e1 (OM.ext EZ) (g := (mkF m 4 #[.val (.ref a)] [(.ref em)])) rfl (hb hby dSz_4)
  refine own_on st2 ?_
  show own_Go p e below F (T2.setTop (mkF m 7 #[.val (.ref a)] [(.ref em), (.ref em)]))
  refine own_acmpeq X2.here hx rfl rfl (hb hby dSz_7) (by decide) (pc' := 14) (by decide) (pc2 := 10) rfl (fun q3 => ?_) (fun q => absurd rfl q)
  refine own_iconst X2.here hx (hb hby dSz_14) (v := 1) rfl (pc' := 15) rfl ?_
  exact own_retI X2 hx hlk hret (hb hby dSz_15) (fun t ht hE => hF t _ _ _ _ (by rw [ht, (e2 : _ = h0)]; exact ⟨rfl, Fr.nil _, rfl⟩) hE (by decide) (by decide))
theorem dGe_0 : decode jdk_44_method_5_code 0 = .ok (.iload_n 1, 1) := by decide +kernel
theorem dGe_1 : decode jdk_44_method_5_code 1 = .ok (.ifCond .ne 8, 3) := by decide +kernel
theorem dGe_4 : decode jdk_44_method_5_code 4 = .ok (.aload_n 0, 1) := by decide +kernel
theorem dGe_5 : decode jdk_44_method_5_code 5 = .ok (.getfield 13, 3) := by decide +kernel
theorem dGe_8 : decode jdk_44_method_5_code 8 = .ok (.areturn, 1) := by decide +kernel
theorem dGe_9 : decode jdk_44_method_5_code 9 = .ok (.iload_n 1, 1) := by decide +kernel
theorem dGe_10 : decode jdk_44_method_5_code 10 = .ok (.iconst 1, 1) := by decide +kernel
theorem dGe_11 : decode jdk_44_method_5_code 11 = .ok (.if_icmp .ne 18, 3) := by decide +kernel
theorem dGe_14 : decode jdk_44_method_5_code 14 = .ok (.aload_n 0, 1) := by decide +kernel
theorem dGe_15 : decode jdk_44_method_5_code 15 = .ok (.getfield 24, 3) := by decide +kernel
theorem dGe_18 : decode jdk_44_method_5_code 18 = .ok (.getstatic 19, 3) := by decide +kernel
theorem dGe_21 : decode jdk_44_method_5_code 21 = .ok (.if_acmp .eq 8, 3) := by decide +kernel
theorem dGe_24 : decode jdk_44_method_5_code 24 = .ok (.aload_n 0, 1) := by decide +kernel
theorem dGe_25 : decode jdk_44_method_5_code 25 = .ok (.getfield 24, 3) := by decide +kernel
theorem dGe_28 : decode jdk_44_method_5_code 28 = .ok (.areturn, 1) := by decide +kernel
theorem dGe_29 : decode jdk_44_method_5_code 29 = .ok (.aload_n 0, 1) := by decide +kernel
theorem dGe_30 : decode jdk_44_method_5_code 30 = .ok (.iload_n 1, 1) := by decide +kernel
theorem dGe_31 : decode jdk_44_method_5_code 31 = .ok (.invokevirtual 27, 3) := by decide +kernel
theorem dGe_34 : decode jdk_44_method_5_code 34 = .ok (.athrow, 1) := by decide +kernel
theorem efGe (m : MethodId) (x0 : Addr) (x1 : Int32) : entryFrame m #[(.ref x0), (.int x1)] 2 = mkF m 0 #[.val (.ref x0), .val (.int x1)] [] := by first | (simp [entryFrame, mkF, argsToLocals, Value.category]; done) | rfl
def Q_rmGe (Z : State) (a b : Addr) (h0 : Heap) (v : Option Value) (h : Heap) (L : List Loc) : Prop := v = some (.ref b) ∧ Fr Z.heap.size L ∧ h = h0
set_option maxRecDepth 65536 in
set_option maxHeartbeats 40000000 in
theorem rmGe (l : Launch) (Z : State) (a0 : Array Value) (hw : ∀ d ∈ tables_1, d.before a0 Z = true) (a b : Addr) (h0 : Heap) (F0 : Fld Z h0 a "java/util/ImmutableCollections$List12" "e0" "Ljava/lang/Object;" (.ref b)) :
    MetFree l (⟨"java/util/ImmutableCollections$List12", "get", "(I)Ljava/lang/Object;"⟩ : MethodName) (head1 (Jvm.Cond.code (⟨"java/util/ImmutableCollections$List12", "get", "(I)Ljava/lang/Object;"⟩ : MethodName) jdk_44_method_5_code 2 (Option.some (FieldType.object "java/lang/Object")) :: []) ({ frames := 0, cells := 0, slots := 0, locals := 0 } : Room)) (fun aa U => aa = #[(.ref a), (.int (0 : Int32))] ∧ Z.Warmed39 U.vm ∧ U.heap = h0) (fun _ _ _ _ _ => True) (fun _ U o U' => ∃ v L, o = .returned v ∧ (Q_rmGe Z a b h0) v U'.heap L ∧ FrameEnd U o U' L ({ frames := 0, cells := 0, slots := 0, locals := 0 } : Room).cells ({ frames := 0, cells := 0, slots := 0, locals := 0 } : Room).slots) := by
  refine own_walkN (by exact pnL12) ?_
  intro p e s m below meth c T0 X0 hx hby hml hret hlk hnm hown hZ e0 es0 F hF
  refine own_on (fun _ => castTop (efGe m a 0)) ?_
  refine own_iload_n X0.here hx (hb hby dGe_0) rfl (pc' := 1) rfl ?_
  refine own_ifne X0.here hx (hb hby dGe_1) (by decide) (pc' := 9) (by decide) (pc2 := 4) rfl (fun q => absurd rfl q) (fun q1 => ?_)
  refine own_aload_n X0.here hx (hb hby dGe_4) rfl rfl (pc' := 5) rfl ?_
  obtain ⟨T2, X2, e2, st2⟩ := getF X0 hx hZ hown (host := "") (Or.inl (hw _ (List.mem_of_getElem? (i := 71) rfl))) Via.refl e0 F0 (g := (mkF m 5 #[.val (.ref a), .val (.int ((0 : Int32)))] [(.ref a)])) rfl rfl (hb hby dGe_5)
  refine own_on st2 ?_
  show own_Go p e below F (T2.setTop (mkF m 8 #[.val (.ref a), .val (.int ((0 : Int32)))] [(.ref b)]))
  exact own_retA X2 hx hlk hret rfl rfl (hb hby dGe_8) (fun t ht hE => hF t _ _ _ _ (by rw [ht, (e2 : _ = h0)]; exact ⟨rfl, Fr.nil _, rfl⟩) hE (by decide) (by decide))
theorem dEq_0 : decode jdk_42_method_66_code 0 = .ok (.aload_n 0, 1) := by decide +kernel
theorem dEq_1 : decode jdk_42_method_66_code 1 = .ok (.aload_n 1, 1) := by decide +kernel
theorem dEq_2 : decode jdk_42_method_66_code 2 = .ok (.if_acmp .ne 5, 3) := by decide +kernel
theorem dEq_5 : decode jdk_42_method_66_code 5 = .ok (.iconst 1, 1) := by decide +kernel
theorem dEq_6 : decode jdk_42_method_66_code 6 = .ok (.ireturn, 1) := by decide +kernel
theorem dEq_7 : decode jdk_42_method_66_code 7 = .ok (.aload_n 1, 1) := by decide +kernel
theorem dEq_8 : decode jdk_42_method_66_code 8 = .ok (.instanceof 10, 3) := by decide +kernel
theorem dEq_11 : decode jdk_42_method_66_code 11 = .ok (.ifCond .eq 43, 3) := by decide +kernel
theorem dEq_14 : decode jdk_42_method_66_code 14 = .ok (.aload_n 1, 1) := by decide +kernel
theorem dEq_15 : decode jdk_42_method_66_code 15 = .ok (.checkcast 10, 3) := by decide +kernel
theorem dEq_18 : decode jdk_42_method_66_code 18 = .ok (.astore_n 2, 1) := by decide +kernel
theorem dEq_19 : decode jdk_42_method_66_code 19 = .ok (.getstatic 38, 3) := by decide +kernel
theorem dEq_22 : decode jdk_42_method_66_code 22 = .ok (.ifCond .eq 14, 3) := by decide +kernel
theorem dEq_25 : decode jdk_42_method_66_code 25 = .ok (.aload_n 0, 1) := by decide +kernel
theorem dEq_26 : decode jdk_42_method_66_code 26 = .ok (.getfield 15, 3) := by decide +kernel
theorem dEq_29 : decode jdk_42_method_66_code 29 = .ok (.aload_n 2, 1) := by decide +kernel
theorem dEq_30 : decode jdk_42_method_66_code 30 = .ok (.getfield 15, 3) := by decide +kernel
theorem dEq_33 : decode jdk_42_method_66_code 33 = .ok (.if_icmp .ne 21, 3) := by decide +kernel
theorem dEq_36 : decode jdk_42_method_66_code 36 = .ok (.aload_n 0, 1) := by decide +kernel
theorem dEq_37 : decode jdk_42_method_66_code 37 = .ok (.getfield 9, 3) := by decide +kernel
theorem dEq_40 : decode jdk_42_method_66_code 40 = .ok (.aload_n 2, 1) := by decide +kernel
theorem dEq_41 : decode jdk_42_method_66_code 41 = .ok (.getfield 9, 3) := by decide +kernel
theorem dEq_44 : decode jdk_42_method_66_code 44 = .ok (.invokestatic 541, 3) := by decide +kernel
theorem dEq_47 : decode jdk_42_method_66_code 47 = .ok (.ifCond .eq 7, 3) := by decide +kernel
theorem dEq_50 : decode jdk_42_method_66_code 50 = .ok (.iconst 1, 1) := by decide +kernel
theorem dEq_51 : decode jdk_42_method_66_code 51 = .ok (.goto 4, 3) := by decide +kernel
theorem dEq_54 : decode jdk_42_method_66_code 54 = .ok (.iconst 0, 1) := by decide +kernel
theorem dEq_55 : decode jdk_42_method_66_code 55 = .ok (.ireturn, 1) := by decide +kernel
theorem efEq (m : MethodId) (x0 : Addr) (x1 : Addr) : entryFrame m #[(.ref x0), (.ref x1)] 3 = mkF m 0 #[.val (.ref x0), .val (.ref x1), .unset] [] := by first | (simp [entryFrame, mkF, argsToLocals, Value.category]; done) | rfl
def Q_rmEq (Z : State) (a : Addr) (h0 : Heap) (v : Option Value) (h : Heap) (L : List Loc) : Prop := v = some (.int (1 : Int32)) ∧ Fr Z.heap.size L ∧ h = h0
set_option maxRecDepth 65536 in
set_option maxHeartbeats 40000000 in
theorem rmEq (l : Launch) (Z : State) (a0 : Array Value) (hw : ∀ d ∈ tables_1, d.before a0 Z = true) (a : Addr) (h0 : Heap) :
    MetFree l (⟨"java/lang/String", "equals", "(Ljava/lang/Object;)Z"⟩ : MethodName) (head1 (Jvm.Cond.code (⟨"java/lang/String", "equals", "(Ljava/lang/Object;)Z"⟩ : MethodName) jdk_42_method_66_code 3 (Option.some FieldType.boolean) :: []) ({ frames := 0, cells := 0, slots := 0, locals := 0 } : Room)) (fun aa U => aa = #[(.ref a), (.ref a)] ∧ Z.Warmed39 U.vm ∧ U.heap = h0) (fun _ _ _ _ _ => True) (fun _ U o U' => ∃ v L, o = .returned v ∧ (Q_rmEq Z a h0) v U'.heap L ∧ FrameEnd U o U' L ({ frames := 0, cells := 0, slots := 0, locals := 0 } : Room).cells ({ frames := 0, cells := 0, slots := 0, locals := 0 } : Room).slots) := by
  refine own_walkN (by exact pnS) ?_
  intro p e s m below meth c T0 X0 hx hby hml hret hlk hnm hown hZ e0 es0 F hF
  refine own_on (fun _ => castTop (efEq m a a)) ?_
  refine own_aload_n X0.here hx (hb hby dEq_0) rfl rfl (pc' := 1) rfl ?_
  refine own_aload_n X0.here hx (hb hby dEq_1) rfl rfl (pc' := 2) rfl ?_
  refine own_acmpne X0.here hx rfl rfl (hb hby dEq_2) (by decide) (pc' := 7) (by decide) (pc2 := 5) rfl (fun q => absurd rfl q) (fun q1 => ?_)
  refine own_iconst X0.here hx (hb hby dEq_5) (v := 1) rfl (pc' := 6) rfl ?_
  exact own_retZ X0 hx hlk (by decide) hret (hb hby dEq_6) (fun t ht hE => hF t _ _ _ _ (by rw [ht, (e0 : _ = h0)]; exact ⟨rfl, Fr.nil _, rfl⟩) hE (by decide) (by decide))
theorem efL (m : MethodId) (x0 : Int32) (x1 : Int32) (x2 : Int32) (x3 : Int32) : entryFrame m #[(.int x0), (.int x1), (.int x2), (.int x3)] 12 = mkF m 0 #[.val (.int x0), .val (.int x1), .val (.int x2), .val (.int x3), .unset, .unset, .unset, .unset, .unset, .unset, .unset, .unset] [] := by first | (simp [entryFrame, mkF, argsToLocals, Value.category]; done) | rfl
def Q_rmL (Z : State) (len c0 c1 c2 : Int32) (h0 : Heap) (z0 : Int32) (fm : Value) (em : Addr) (eo : Addr) (v : Option Value) (h : Heap) (L : List Loc) : Prop := v = some (.int 1) ∧ Fr Z.heap.size L
set_option maxRecDepth 65536 in
set_option maxHeartbeats 40000000 in
theorem rmL (l : Launch) (Z : State) (a0 : Array Value) (hw : ∀ d ∈ tables_1, d.before a0 Z = true) (hEL : EW Z a0 EL) (len c0 c1 c2 : Int32) (h0 : Heap) (EZ : Ext Z.heap h0) (z0 : Int32) (O1 : Sta Z Z.heap "java/lang/String" "COMPACT_STRINGS" "Z" (.int z0)) (P5 : ¬ z0 = 0) (fm : Value) (O2 : Sta Z Z.heap "jdk/internal/util/Preconditions" "SIOOBE_FORMATTER" "Ljava/util/function/BiFunction;" fm) (rf : fm.isRef = true) (em : Addr) (OM : Sta Z Z.heap "java/util/ImmutableCollections" "EMPTY" "Ljava/lang/Object;" (.ref em)) (eo : Addr) (OE : Sta Z Z.heap "java/util/Optional" "EMPTY" "Ljava/util/Optional;" (.ref eo)) (AE : Exa Z Z.heap eo "java/util/Optional") (FE : Fld Z Z.heap eo "java/util/Optional" "value" "Ljava/lang/Object;" .null) :
    MetFree l x (head1 (Jvm.Cond.code x code maxLocals ret :: tables_1) room_1) (fun aa U => aa = #[(.int len), (.int c0), (.int c1), (.int c2)] ∧ Z.Warmed39 U.vm ∧ U.heap = h0 ∧ CHv Z EL U.vm h0 ∧ ∀ yy ∈ ([] : List Addr), Safe Z EL U.vm h0 yy) (fun _ _ _ _ _ => True) (fun _ U o U' => ∃ v L, o = .returned v ∧ (Q_rmL Z len c0 c1 c2 h0 z0 fm em eo) v U'.heap L ∧ CHr Z EL U.vm U.heap U'.vm U'.heap ∧ ReturnedEndW U o U' L room_1.cells room_1.slots) := by
  refine own_walkW (by exact pnL) ?_
  intro p e s m below meth c T0 X0 hx hby hml hret hlk hnm hs0 e0 I0 hsf F hF
  refine own_on (fun _ => castTop (efL m len c0 c1 c2)) ?_
  have M0 := own_ext_refl h0
  have N0 := Fr.nil Z.heap.size
  refine own_iload_n X0.here hx (hb hby at_0) rfl (pc' := 1) rfl ?_
  refine own_iconst X0.here hx (hb hby at_1) (v := 3) rfl (pc' := 2) rfl ?_
  refine own_iand X0.here hx (hb hby at_2) (pc' := 3) rfl ?_
  refine own_istore X0.here hx (hb hby at_3) (L' := #[.val (.int len), .val (.int c0), .val (.int c1), .val (.int c2), .val (.int (len &&& (3 : Int32))), .unset, .unset, .unset, .unset, .unset, .unset, .unset]) rfl (pc' := 5) rfl ?_
  refine own_iload_n X0.here hx (hb hby at_5) rfl (pc' := 6) rfl ?_
  refine own_sipush X0.here hx (hb hby at_6) (v := 255) rfl (pc' := 9) rfl ?_
  refine own_iand X0.here hx (hb hby at_9) (pc' := 10) rfl ?_
  refine own_i2c X0.here hx (hb hby at_10) (pc' := 11) rfl ?_
  refine own_istore X0.here hx (hb hby at_11) (L' := #[.val (.int len), .val (.int c0), .val (.int c1), .val (.int c2), .val (.int (len &&& (3 : Int32))), .val (.int (own_c (c0 &&& (255 : Int32)))), .unset, .unset, .unset, .unset, .unset, .unset]) rfl (pc' := 13) rfl ?_
  refine own_iload_n X0.here hx (hb hby at_13) rfl (pc' := 14) rfl ?_
  refine own_sipush X0.here hx (hb hby at_14) (v := 255) rfl (pc' := 17) rfl ?_
  refine own_iand X0.here hx (hb hby at_17) (pc' := 18) rfl ?_
  refine own_i2c X0.here hx (hb hby at_18) (pc' := 19) rfl ?_
  refine own_istore X0.here hx (hb hby at_19) (L' := #[.val (.int len), .val (.int c0), .val (.int c1), .val (.int c2), .val (.int (len &&& (3 : Int32))), .val (.int (own_c (c0 &&& (255 : Int32)))), .val (.int (own_c (c1 &&& (255 : Int32)))), .unset, .unset, .unset, .unset, .unset]) rfl (pc' := 21) rfl ?_
  refine own_iload_n X0.here hx (hb hby at_21) rfl (pc' := 22) rfl ?_
  refine own_sipush X0.here hx (hb hby at_22) (v := 255) rfl (pc' := 25) rfl ?_
  refine own_iand X0.here hx (hb hby at_25) (pc' := 26) rfl ?_
  refine own_i2c X0.here hx (hb hby at_26) (pc' := 27) rfl ?_
  refine own_istore X0.here hx (hb hby at_27) (L' := #[.val (.int len), .val (.int c0), .val (.int c1), .val (.int c2), .val (.int (len &&& (3 : Int32))), .val (.int (own_c (c0 &&& (255 : Int32)))), .val (.int (own_c (c1 &&& (255 : Int32)))), .val (.int (own_c (c2 &&& (255 : Int32)))), .unset, .unset, .unset, .unset]) rfl (pc' := 29) rfl ?_
  obtain ⟨a, ea⟩ : ∃ c, c = own_c (c0 &&& (255 : Int32)) := ⟨_, rfl⟩
  have na : nar .char a = a := by rw [ea]; exact own_nar _
  have pa : ¬ a < 0 ∧ ¬ (255 : Int32) < a := by rw [ea]; exact own_and255 _
  rw [← ea]
  obtain ⟨b, eb⟩ : ∃ c, c = own_c (c1 &&& (255 : Int32)) := ⟨_, rfl⟩
  have nb : nar .char b = b := by rw [eb]; exact own_nar _
  have pb : ¬ b < 0 ∧ ¬ (255 : Int32) < b := by rw [eb]; exact own_and255 _
  rw [← eb]
  obtain ⟨d, ed⟩ : ∃ c, c = own_c (c2 &&& (255 : Int32)) := ⟨_, rfl⟩
  have nd : nar .char d = d := by rw [ed]; exact own_nar _
  have pd : ¬ d < 0 ∧ ¬ (255 : Int32) < d := by rw [ed]; exact own_and255 _
  rw [← ed]
  rcases own_and3c len with hn | hn | hn | hn <;> rw [hn]
  · show own_Go p e below F (T0.setTop (mkF m 29 #[.val (.int len), .val (.int c0), .val (.int c1), .val (.int c2), .val (.int ((0 : Int32))), .val (.int a), .val (.int b), .val (.int d), .unset, .unset, .unset, .unset] []))
    refine own_iload X0.here hx (hb hby at_29) rfl (pc' := 31) rfl ?_
    refine own_iload X0.here hx (hb hby at_31) rfl (pc' := 33) rfl ?_
    refine own_iload X0.here hx (hb hby at_33) rfl (pc' := 35) rfl ?_
    refine own_iload X0.here hx (hb hby at_35) rfl (pc' := 37) rfl ?_
    obtain ⟨_, _, ⟨T1, L1, k1, n1⟩, -, X1, hS1, hG1, ⟨Lc1, hQ1, l1, y1, z1, C1⟩, st1⟩ := callSS X0 hx (y := (⟨"com/example/credential_to_assertion/credentialtoassertion/service/validation/IdentityTokenPresentationRestrictedToPinLaw", "draw", "(ICCC)Ljava/lang/String;"⟩ : MethodName)) I0.2.1 (mvT I0.1 (hw _ (List.mem_of_getElem? (i := 0) rfl))) (mvT I0.1 (hw _ (List.mem_of_getElem? (i := 1) rfl))) (mvT I0.1 (hw _ (List.mem_of_getElem? (i := 2) rfl))) (mvT I0.1 (hw _ (List.mem_of_getElem? (i := 3) rfl))) (by decide) (own_backW (W := 0) (rmD0 l Z a0 hw hEL a b d h0 EZ) I0.1 (hw _ (List.mem_of_getElem? (i := 3) rfl)) (hw _ (List.mem_of_getElem? (i := 2) rfl)) (by decide) (by decide) hEL I0.ch (fun _ q => nomatch q)) (g := (mkF m 37 #[.val (.int len), .val (.int c0), .val (.int c1), .val (.int c2), .val (.int ((0 : Int32))), .val (.int a), .val (.int b), .val (.int d), .unset, .unset, .unset, .unset] [(.int d), (.int b), (.int a), (.int ((0 : Int32)))])) rfl (by rw [hml]; rfl) (argsL := [(.int ((0 : Int32))), (.int a), (.int b), (.int d)]) (rest := []) (lenOf pdD rfl) rfl (by show 2 * 0 + _ ≤ _; exact Nat.le_of_eq rfl) (hb hby at_37) (fun _ _ => ⟨rfl, e0, (Nat.le_of_ble_eq_true rfl), (Nat.le_of_ble_eq_true rfl)⟩)
    dsimp only [Pt.U, Pt.locs, Pt.cells, Pt.slots] at X1 hS1 hG1 l1 y1 z1 C1 st1 hQ1
    subst l1 y1 z1
    replace X1 := (show Stand _ _ _ _ (s.setVm T1.vm) _ _ _ _ _ _ _ _ _ from X1)
    have I1 := I0.later hS1 (Nat.le_refl _) (by have q := hG1; rw [(e0 : _ = h0)] at q; exact q) C1
    obtain ⟨x1, rfl, S1, E1, N1⟩ := hQ1
    refine own_to st1 ?_
    show own_Go p e below F (T1.setTop (mkF m 40 #[.val (.int len), .val (.int c0), .val (.int c1), .val (.int c2), .val (.int ((0 : Int32))), .val (.int a), .val (.int b), .val (.int d), .unset, .unset, .unset, .unset] [(.ref x1)]))
    have f2 := own_ext_trans M0 E1
    have N3 := Fr.app N0 N1
    have R0 := own_ext_refl T1.heap
    refine own_astore X1.here hx (hb hby at_40) rfl (L' := #[.val (.int len), .val (.int c0), .val (.int c1), .val (.int c2), .val (.int ((0 : Int32))), .val (.int a), .val (.int b), .val (.int d), .val (.ref x1), .unset, .unset, .unset]) rfl (pc' := 42) rfl ?_
    refine own_aload X1.here hx (hb hby at_42) rfl rfl (pc' := 44) rfl ?_
    obtain ⟨_, _, ⟨T4, L4, k4, n4⟩, -, X4, hS4, hG4, ⟨Lc4, hQ4, l4, y4, z4, C4⟩, st4⟩ := callSS X1 hx (y := (⟨"com/example/credential_to_assertion/credentialtoassertion/service/validation/IdentityTokenPresentation", "restrictedTo", "(Ljava/lang/String;)Lcom/example/credential_to_assertion/credentialtoassertion/service/validation/IdentityTokenPresentation;"⟩ : MethodName)) I1.2.1 (mvT I1.1 (hw _ (List.mem_of_getElem? (i := 26) rfl))) (mvT I1.1 (hw _ (List.mem_of_getElem? (i := 27) rfl))) (mvT I1.1 (hw _ (List.mem_of_getElem? (i := 28) rfl))) (mvT I1.1 (hw _ (List.mem_of_getElem? (i := 29) rfl))) (by decide) (own_backW (W := 0) (rmRe l Z a0 hw hEL x1 T1.heap (own_ext_trans EZ f2) em OM S1.exa) I1.1 (hw _ (List.mem_of_getElem? (i := 29) rfl)) (hw _ (List.mem_of_getElem? (i := 28) rfl)) (by decide) (by decide) hEL I1.ch (fun _ q => nomatch q)) (g := (mkF m 44 #[.val (.int len), .val (.int c0), .val (.int c1), .val (.int c2), .val (.int ((0 : Int32))), .val (.int a), .val (.int b), .val (.int d), .val (.ref x1), .unset, .unset, .unset] [(.ref x1)])) rfl (by rw [hml]; rfl) (argsL := [(.ref x1)]) (rest := []) (lenOf pdRe rfl) rfl (by show 2 * 0 + _ ≤ _; exact Nat.le_of_eq rfl) (hb hby at_44) (fun _ _ => ⟨rfl, rfl, (Nat.le_of_ble_eq_true rfl), (Nat.le_of_ble_eq_true rfl)⟩)
    dsimp only [Pt.U, Pt.locs, Pt.cells, Pt.slots] at X4 hS4 hG4 l4 y4 z4 C4 st4 hQ4
    subst l4 y4 z4
    replace X4 := (show Stand _ _ _ _ (s.setVm T4.vm) _ _ _ _ _ _ _ _ _ from X4)
    have I4 := I1.later hS4 (Nat.le_refl _) (by have q := hG4; rw [(rfl : _ = T1.heap)] at q; exact q) C4
    obtain ⟨p4, li4, rfl, E4, N4, ⟨A4, B4, D4, G4⟩, A14, F14, G14⟩ := hQ4
    refine own_to st4 ?_
    show own_Go p e below F (T4.setTop (mkF m 47 #[.val (.int len), .val (.int c0), .val (.int c1), .val (.int c2), .val (.int ((0 : Int32))), .val (.int a), .val (.int b), .val (.int d), .val (.ref x1), .unset, .unset, .unset] [(.ref p4)]))
    have f5 := own_ext_trans f2 E4
    have f6 := own_ext_trans R0 E4
    have N7 := Fr.app N3 N4
    refine own_astore X4.here hx (hb hby at_47) rfl (L' := #[.val (.int len), .val (.int c0), .val (.int c1), .val (.int c2), .val (.int ((0 : Int32))), .val (.int a), .val (.int b), .val (.int d), .val (.ref x1), .val (.ref p4), .unset, .unset]) rfl (pc' := 49) rfl ?_
    refine own_aload X4.here hx (hb hby at_49) rfl rfl (pc' := 51) rfl ?_
    obtain ⟨cq8, kq8, qa8, qb8, qc8⟩ := isOf I4.1 rfl A4
    obtain ⟨_, _, ⟨T8, L8, k8, n8⟩, -, X8, ⟨Lc8, hQ8, l8, y8, z8⟩, st8⟩ := X4.virtualBack hx (y := (⟨"com/example/credential_to_assertion/credentialtoassertion/service/validation/IdentityTokenPresentation", "getAudiences", "()Ljava/util/List;"⟩ : MethodName)) (z := (⟨"com/example/credential_to_assertion/credentialtoassertion/service/validation/IdentityTokenPresentation", "getAudiences", "()Ljava/util/List;"⟩ : MethodName)) I4.2.1 (mvT I4.1 (hw _ (List.mem_of_getElem? (i := 96) rfl))) (mvT I4.1 (hw _ (List.mem_of_getElem? (i := 97) rfl))) (notFace_of_selects (args := #[]) (mvT I4.1 (hw _ (List.mem_of_getElem? (i := 99) rfl)))) (mvT I4.1 (hw _ (List.mem_of_getElem? (i := 99) rfl))) (mvT I4.1 (hw _ (List.mem_of_getElem? (i := 98) rfl))) (by decide) (backOf (W := 0) (rmGa l Z a0 hw p4 (.ref li4) T4.heap rfl B4) I4.1 (hw _ (List.mem_of_getElem? (i := 100) rfl)) (hw _ (List.mem_of_getElem? (i := 28) rfl)) (by decide) (by decide)) qa8 qc8 (g := (mkF m 51 #[.val (.int len), .val (.int c0), .val (.int c1), .val (.int c2), .val (.int ((0 : Int32))), .val (.int a), .val (.int b), .val (.int d), .val (.ref x1), .val (.ref p4), .unset, .unset] [(.ref p4)])) rfl (by rw [hml]; rfl) (Steps.refl _) (argsL := []) (rest := []) (lenOf pdLi rfl) rfl (by show 2 * 0 + _ ≤ _; exact Nat.le_of_eq rfl) (hb hby at_51) (fun _ _ => ⟨rfl, rfl, (Nat.le_of_ble_eq_true rfl), (Nat.le_of_ble_eq_true rfl)⟩)
    dsimp only [Pt.U, Pt.locs, Pt.cells, Pt.slots] at X8 l8 y8 z8 st8 hQ8
    subst l8 y8 z8
    obtain ⟨rfl, N8, E8⟩ := hQ8
    refine own_to st8 ?_
    show own_Go p e below F (T8.setTop (mkF m 54 #[.val (.int len), .val (.int c0), .val (.int c1), .val (.int c2), .val (.int ((0 : Int32))), .val (.int a), .val (.int b), .val (.int d), .val (.ref x1), .val (.ref p4), .unset, .unset] [(.ref li4)]))
    have N9 := Fr.app N7 N8
    refine own_astore X8.here hx (hb hby at_54) rfl (L' := #[.val (.int len), .val (.int c0), .val (.int c1), .val (.int c2), .val (.int ((0 : Int32))), .val (.int a), .val (.int b), .val (.int d), .val (.ref x1), .val (.ref p4), .val (.ref li4), .unset]) rfl (pc' := 56) rfl ?_
    refine own_aload X8.here hx (hb hby at_56) rfl rfl (pc' := 58) rfl ?_
    obtain ⟨cq10, kq10, qa10, qb10, qc10⟩ := isOf (s := s.setVm T4.vm) I4.1 E8 A14
    obtain ⟨_, _, ⟨T10, L10, k10, n10⟩, -, X10, ⟨Lc10, hQ10, l10, y10, z10⟩, st10⟩ := X8.interfaceBack hx (xi := (⟨"java/util/List", "size", "()I"⟩ : MethodName)) (y := (⟨"java/util/ImmutableCollections$List12", "size", "()I"⟩ : MethodName)) I4.2.1 (mvT I4.1 (hw _ (List.mem_of_getElem? (i := 101) rfl))) (mvT I4.1 (hw _ (List.mem_of_getElem? (i := 102) rfl))) (mvT I4.1 (hw _ (List.mem_of_getElem? (i := 103) rfl))) (mvT I4.1 (hw _ (List.mem_of_getElem? (i := 104) rfl))) (mvT I4.1 (hw _ (List.mem_of_getElem? (i := 105) rfl))) (mvT I4.1 (hw _ (List.mem_of_getElem? (i := 106) rfl))) (mvT I4.1 (hw _ (List.mem_of_getElem? (i := 107) rfl))) (mvT I4.1 (hw _ (List.mem_of_getElem? (i := 89) rfl))) (by decide) (backOf (W := 0) (rmSz l Z a0 hw li4 T4.heap (own_ext_trans EZ f5) em OM G14) I4.1 (hw _ (List.mem_of_getElem? (i := 108) rfl)) (hw _ (List.mem_of_getElem? (i := 44) rfl)) (by decide) (by decide)) qa10 qb10 qc10 (g := (mkF m 58 #[.val (.int len), .val (.int c0), .val (.int c1), .val (.int c2), .val (.int ((0 : Int32))), .val (.int a), .val (.int b), .val (.int d), .val (.ref x1), .val (.ref p4), .val (.ref li4), .unset] [(.ref li4)])) rfl (by rw [hml]; rfl) (Steps.refl _) (argsL := []) (rest := []) (lenOf pdI rfl) rfl (by show 2 * 0 + _ ≤ _; exact Nat.le_of_eq rfl) (hb hby at_58) (fun _ _ => ⟨rfl, E8, (Nat.le_of_ble_eq_true rfl), (Nat.le_of_ble_eq_true rfl)⟩)
    dsimp only [Pt.U, Pt.locs, Pt.cells, Pt.slots] at X10 l10 y10 z10 st10 hQ10
    subst l10 y10 z10
    obtain ⟨rfl, N10, E10⟩ := hQ10
    refine own_to st10 ?_
    show own_Go p e below F (T10.setTop (mkF m 63 #[.val (.int len), .val (.int c0), .val (.int c1), .val (.int c2), .val (.int ((0 : Int32))), .val (.int a), .val (.int b), .val (.int d), .val (.ref x1), .val (.ref p4), .val (.ref li4), .unset] [(.int ((1 : Int32)))]))
    have N11 := Fr.app N9 N10
    refine own_iconst X10.here hx (hb hby at_63) (v := 1) rfl (pc' := 64) rfl ?_
    refine own_icmpeq X10.here hx (hb hby at_64) (by decide) (pc' := 69) (by decide) (pc2 := 67) rfl (fun q12 => ?_) (fun q => absurd rfl q)
    refine own_aload X10.here hx (hb hby at_69) rfl rfl (pc' := 71) rfl ?_
    refine own_iconst X10.here hx (hb hby at_71) (v := 0) rfl (pc' := 72) rfl ?_
    obtain ⟨cq13, kq13, qa13, qb13, qc13⟩ := isOf (s := s.setVm T4.vm) I4.1 E10 A14
    obtain ⟨_, _, ⟨T13, L13, k13, n13⟩, -, X13, ⟨Lc13, hQ13, l13, y13, z13⟩, st13⟩ := X10.interfaceBack hx (xi := (⟨"java/util/List", "get", "(I)Ljava/lang/Object;"⟩ : MethodName)) (y := (⟨"java/util/ImmutableCollections$List12", "get", "(I)Ljava/lang/Object;"⟩ : MethodName)) I4.2.1 (mvT I4.1 (hw _ (List.mem_of_getElem? (i := 109) rfl))) (mvT I4.1 (hw _ (List.mem_of_getElem? (i := 110) rfl))) (mvT I4.1 (hw _ (List.mem_of_getElem? (i := 111) rfl))) (mvT I4.1 (hw _ (List.mem_of_getElem? (i := 112) rfl))) (mvT I4.1 (hw _ (List.mem_of_getElem? (i := 113) rfl))) (mvT I4.1 (hw _ (List.mem_of_getElem? (i := 114) rfl))) (mvT I4.1 (hw _ (List.mem_of_getElem? (i := 115) rfl))) (mvT I4.1 (hw _ (List.mem_of_getElem? (i := 89) rfl))) (by decide) (backOf (W := 0) (rmGe l Z a0 hw li4 x1 T4.heap F14) I4.1 (hw _ (List.mem_of_getElem? (i := 116) rfl)) (hw _ (List.mem_of_getElem? (i := 44) rfl)) (by decide) (by decide)) qa13 qb13 qc13 (g := (mkF m 72 #[.val (.int len), .val (.int c0), .val (.int c1), .val (.int c2), .val (.int ((0 : Int32))), .val (.int a), .val (.int b), .val (.int d), .val (.ref x1), .val (.ref p4), .val (.ref li4), .unset] [(.int ((0 : Int32))), (.ref li4)])) rfl (by rw [hml]; rfl) (Steps.refl _) (argsL := [(.int ((0 : Int32)))]) (rest := []) (lenOf pdGe rfl) rfl (by show 2 * 0 + _ ≤ _; exact Nat.le_of_eq rfl) (hb hby at_72) (fun _ _ => ⟨rfl, E10, (Nat.le_of_ble_eq_true rfl), (Nat.le_of_ble_eq_true rfl)⟩)
    dsimp only [Pt.U, Pt.locs, Pt.cells, Pt.slots] at X13 l13 y13 z13 st13 hQ13
    subst l13 y13 z13
    obtain ⟨rfl, N13, E13⟩ := hQ13
    refine own_to st13 ?_
    show own_Go p e below F (T13.setTop (mkF m 77 #[.val (.int len), .val (.int c0), .val (.int c1), .val (.int c2), .val (.int ((0 : Int32))), .val (.int a), .val (.int b), .val (.int d), .val (.ref x1), .val (.ref p4), .val (.ref li4), .unset] [(.ref x1)]))
    have N14 := Fr.app N11 N13
    have S15 := S1.ext f6
    obtain ⟨T16, X16, e16, st16⟩ := castY X13 hx I4.1 I4.2.1 (hw _ (List.mem_of_getElem? (i := 4) rfl)) E13 (Ins.self S15.exa) (g := (mkF m 77 #[.val (.int len), .val (.int c0), .val (.int c1), .val (.int c2), .val (.int ((0 : Int32))), .val (.int a), .val (.int b), .val (.int d), .val (.ref x1), .val (.ref p4), .val (.ref li4), .unset] [(.ref x1)])) rfl rfl (hb hby at_77)
    refine own_on st16 ?_
    show own_Go p e below F (T16.setTop (mkF m 80 #[.val (.int len), .val (.int c0), .val (.int c1), .val (.int c2), .val (.int ((0 : Int32))), .val (.int a), .val (.int b), .val (.int d), .val (.ref x1), .val (.ref p4), .val (.ref li4), .unset] [(.ref x1)]))
    refine own_astore X16.here hx (hb hby at_80) rfl (L' := #[.val (.int len), .val (.int c0), .val (.int c1), .val (.int c2), .val (.int ((0 : Int32))), .val (.int a), .val (.int b), .val (.int d), .val (.ref x1), .val (.ref p4), .val (.ref li4), .val (.ref x1)]) rfl (pc' := 82) rfl ?_
    refine own_aload X16.here hx (hb hby at_82) rfl rfl (pc' := 84) rfl ?_
    obtain ⟨cq17, kq17, qa17, qb17, qc17⟩ := isOf I4.1 e16 S15.exa
    obtain ⟨_, _, ⟨T17, L17, k17, n17⟩, -, X17, ⟨Lc17, hQ17, l17, y17, z17⟩, st17⟩ := X16.virtualBack hx (y := (⟨"java/lang/String", "length", "()I"⟩ : MethodName)) (z := (⟨"java/lang/String", "length", "()I"⟩ : MethodName)) I4.2.1 (mvT I4.1 (hw _ (List.mem_of_getElem? (i := 117) rfl))) (mvT I4.1 (hw _ (List.mem_of_getElem? (i := 118) rfl))) (notFace_of_selects (args := #[]) (mvT I4.1 (hw _ (List.mem_of_getElem? (i := 120) rfl)))) (mvT I4.1 (hw _ (List.mem_of_getElem? (i := 120) rfl))) (mvT I4.1 (hw _ (List.mem_of_getElem? (i := 119) rfl))) (by decide) (own_lenB (s := s.setVm T4.vm) (W := 0) I4.1 hw S15 (O1.ext (own_ext_trans EZ f5)) P5 (by decide) (by decide)) qa17 qc17 (g := (mkF m 84 #[.val (.int len), .val (.int c0), .val (.int c1), .val (.int c2), .val (.int ((0 : Int32))), .val (.int a), .val (.int b), .val (.int d), .val (.ref x1), .val (.ref p4), .val (.ref li4), .val (.ref x1)] [(.ref x1)])) rfl (by rw [hml]; rfl) (Steps.refl _) (argsL := []) (rest := []) (lenOf pdI rfl) rfl (by show 2 * 0 + _ ≤ _; exact Nat.le_of_eq rfl) (hb hby at_84) (fun _ _ => ⟨rfl, e16, (Nat.le_of_ble_eq_true rfl), (Nat.le_of_ble_eq_true rfl)⟩)
    dsimp only [Pt.U, Pt.locs, Pt.cells, Pt.slots] at X17 l17 y17 z17 st17 hQ17
    subst l17 y17 z17
    obtain ⟨rfl, rfl, E17⟩ := hQ17
    refine own_to st17 ?_
    show own_Go p e below F (T17.setTop (mkF m 87 #[.val (.int len), .val (.int c0), .val (.int c1), .val (.int c2), .val (.int ((0 : Int32))), .val (.int a), .val (.int b), .val (.int d), .val (.ref x1), .val (.ref p4), .val (.ref li4), .val (.ref x1)] [(.int (Int32.ofNat 0))]))
    refine own_iload X17.here hx (hb hby at_87) rfl (pc' := 89) rfl ?_
    refine own_icmpeq X17.here hx (hb hby at_89) (by decide) (pc' := 94) (by decide) (pc2 := 92) rfl (fun q18 => ?_) (fun q => absurd rfl q)
    refine own_iload X17.here hx (hb hby at_94) rfl (pc' := 96) rfl ?_
    refine own_iconst X17.here hx (hb hby at_96) (v := 1) rfl (pc' := 97) rfl ?_
    refine own_icmplt X17.here hx (hb hby at_97) (by decide) (pc' := 113) (by decide) (pc2 := 100) rfl (fun q19 => ?_) (fun q => absurd (by decide) q)
    refine own_iload X17.here hx (hb hby at_113) rfl (pc' := 115) rfl ?_
    refine own_iconst X17.here hx (hb hby at_115) (v := 2) rfl (pc' := 116) rfl ?_
    refine own_icmplt X17.here hx (hb hby at_116) (by decide) (pc' := 132) (by decide) (pc2 := 119) rfl (fun q20 => ?_) (fun q => absurd (by decide) q)
    refine own_iload X17.here hx (hb hby at_132) rfl (pc' := 134) rfl ?_
    refine own_iconst X17.here hx (hb hby at_134) (v := 3) rfl (pc' := 135) rfl ?_
    refine own_icmplt X17.here hx (hb hby at_135) (by decide) (pc' := 151) (by decide) (pc2 := 138) rfl (fun q21 => ?_) (fun q => absurd (by decide) q)
    refine own_aload X17.here hx (hb hby at_151) rfl rfl (pc' := 153) rfl ?_
    refine own_aload X17.here hx (hb hby at_153) rfl rfl (pc' := 155) rfl ?_
    obtain ⟨cq22, kq22, qa22, qb22, qc22⟩ := isOf I4.1 E17 S15.exa
    obtain ⟨_, _, ⟨T22, L22, k22, n22⟩, -, X22, ⟨Lc22, hQ22, l22, y22, z22⟩, st22⟩ := X17.virtualBack hx (y := (⟨"java/lang/String", "equals", "(Ljava/lang/Object;)Z"⟩ : MethodName)) (z := (⟨"java/lang/String", "equals", "(Ljava/lang/Object;)Z"⟩ : MethodName)) I4.2.1 (mvT I4.1 (hw _ (List.mem_of_getElem? (i := 128) rfl))) (mvT I4.1 (hw _ (List.mem_of_getElem? (i := 129) rfl))) (notFace_of_selects (args := #[]) (mvT I4.1 (hw _ (List.mem_of_getElem? (i := 131) rfl)))) (mvT I4.1 (hw _ (List.mem_of_getElem? (i := 131) rfl))) (mvT I4.1 (hw _ (List.mem_of_getElem? (i := 130) rfl))) (by decide) (backOf (W := 0) (rmEq l Z a0 hw x1 T4.heap) I4.1 (hw _ (List.mem_of_getElem? (i := 132) rfl)) (hw _ (List.mem_of_getElem? (i := 6) rfl)) (by decide) (by decide)) qa22 qc22 (g := (mkF m 155 #[.val (.int len), .val (.int c0), .val (.int c1), .val (.int c2), .val (.int ((0 : Int32))), .val (.int a), .val (.int b), .val (.int d), .val (.ref x1), .val (.ref p4), .val (.ref li4), .val (.ref x1)] [(.ref x1), (.ref x1)])) rfl (by rw [hml]; rfl) (Steps.refl _) (argsL := [(.ref x1)]) (rest := []) (lenOf pdEq rfl) rfl (by show 2 * 0 + _ ≤ _; exact Nat.le_of_eq rfl) (hb hby at_155) (fun _ _ => ⟨rfl, E17, (Nat.le_of_ble_eq_true rfl), (Nat.le_of_ble_eq_true rfl)⟩)
    dsimp only [Pt.U, Pt.locs, Pt.cells, Pt.slots] at X22 l22 y22 z22 st22 hQ22
    subst l22 y22 z22
    obtain ⟨rfl, N22, E22⟩ := hQ22
    refine own_to st22 ?_
    show own_Go p e below F (T22.setTop (mkF m 158 #[.val (.int len), .val (.int c0), .val (.int c1), .val (.int c2), .val (.int ((0 : Int32))), .val (.int a), .val (.int b), .val (.int d), .val (.ref x1), .val (.ref p4), .val (.ref li4), .val (.ref x1)] [(.int ((1 : Int32)))]))
    have N23 := Fr.app N14 N22
    refine own_ifne X22.here hx (hb hby at_158) (by decide) (pc' := 163) (by decide) (pc2 := 161) rfl (fun q24 => ?_) (fun q => absurd q (by decide))
    refine own_aload X22.here hx (hb hby at_163) rfl rfl (pc' := 165) rfl ?_
    obtain ⟨cq25, kq25, qa25, qb25, qc25⟩ := isOf I4.1 E22 A4
    obtain ⟨_, _, ⟨T25, L25, k25, n25⟩, -, X25, ⟨Lc25, hQ25, l25, y25, z25⟩, st25⟩ := X22.virtualBack hx (y := (⟨"com/example/credential_to_assertion/credentialtoassertion/service/validation/IdentityTokenPresentation", "isBearerGrant", "()Z"⟩ : MethodName)) (z := (⟨"com/example/credential_to_assertion/credentialtoassertion/service/validation/IdentityTokenPresentation", "isBearerGrant", "()Z"⟩ : MethodName)) I4.2.1 (mvT I4.1 (hw _ (List.mem_of_getElem? (i := 133) rfl))) (mvT I4.1 (hw _ (List.mem_of_getElem? (i := 134) rfl))) (notFace_of_selects (args := #[]) (mvT I4.1 (hw _ (List.mem_of_getElem? (i := 136) rfl)))) (mvT I4.1 (hw _ (List.mem_of_getElem? (i := 136) rfl))) (mvT I4.1 (hw _ (List.mem_of_getElem? (i := 135) rfl))) (by decide) (backOf (W := 0) (rmBg l Z a0 hw p4 0 T4.heap (Or.inl rfl) D4) I4.1 (hw _ (List.mem_of_getElem? (i := 137) rfl)) (hw _ (List.mem_of_getElem? (i := 28) rfl)) (by decide) (by decide)) qa25 qc25 (g := (mkF m 165 #[.val (.int len), .val (.int c0), .val (.int c1), .val (.int c2), .val (.int ((0 : Int32))), .val (.int a), .val (.int b), .val (.int d), .val (.ref x1), .val (.ref p4), .val (.ref li4), .val (.ref x1)] [(.ref p4)])) rfl (by rw [hml]; rfl) (Steps.refl _) (argsL := []) (rest := []) (lenOf pdZ rfl) rfl (by show 2 * 0 + _ ≤ _; exact Nat.le_of_eq rfl) (hb hby at_165) (fun _ _ => ⟨rfl, E22, (Nat.le_of_ble_eq_true rfl), (Nat.le_of_ble_eq_true rfl)⟩)
    dsimp only [Pt.U, Pt.locs, Pt.cells, Pt.slots] at X25 l25 y25 z25 st25 hQ25
    subst l25 y25 z25
    obtain ⟨rfl, N25, E25⟩ := hQ25
    refine own_to st25 ?_
    show own_Go p e below F (T25.setTop (mkF m 168 #[.val (.int len), .val (.int c0), .val (.int c1), .val (.int c2), .val (.int ((0 : Int32))), .val (.int a), .val (.int b), .val (.int d), .val (.ref x1), .val (.ref p4), .val (.ref li4), .val (.ref x1)] [(.int ((0 : Int32)))]))
    have N26 := Fr.app N23 N25
    refine own_ifeq X25.here hx (hb hby at_168) (by decide) (pc' := 173) (by decide) (pc2 := 171) rfl (fun q27 => ?_) (fun q => absurd rfl q)
    refine own_aload X25.here hx (hb hby at_173) rfl rfl (pc' := 175) rfl ?_
    obtain ⟨cq28, kq28, qa28, qb28, qc28⟩ := isOf I4.1 E25 A4
    obtain ⟨_, _, ⟨T28, L28, k28, n28⟩, -, X28, ⟨Lc28, hQ28, l28, y28, z28⟩, st28⟩ := X25.virtualBack hx (y := (⟨"com/example/credential_to_assertion/credentialtoassertion/service/validation/IdentityTokenPresentation", "getTokenEndpoint", "()Ljava/util/Optional;"⟩ : MethodName)) (z := (⟨"com/example/credential_to_assertion/credentialtoassertion/service/validation/IdentityTokenPresentation", "getTokenEndpoint", "()Ljava/util/Optional;"⟩ : MethodName)) I4.2.1 (mvT I4.1 (hw _ (List.mem_of_getElem? (i := 138) rfl))) (mvT I4.1 (hw _ (List.mem_of_getElem? (i := 139) rfl))) (notFace_of_selects (args := #[]) (mvT I4.1 (hw _ (List.mem_of_getElem? (i := 141) rfl)))) (mvT I4.1 (hw _ (List.mem_of_getElem? (i := 141) rfl))) (mvT I4.1 (hw _ (List.mem_of_getElem? (i := 140) rfl))) (by decide) (backOf (W := 0) (rmTe l Z a0 hw p4 T4.heap (own_ext_trans EZ f5) eo OE AE FE G4) I4.1 (hw _ (List.mem_of_getElem? (i := 142) rfl)) (hw _ (List.mem_of_getElem? (i := 28) rfl)) (by decide) (by decide)) qa28 qc28 (g := (mkF m 175 #[.val (.int len), .val (.int c0), .val (.int c1), .val (.int c2), .val (.int ((0 : Int32))), .val (.int a), .val (.int b), .val (.int d), .val (.ref x1), .val (.ref p4), .val (.ref li4), .val (.ref x1)] [(.ref p4)])) rfl (by rw [hml]; rfl) (Steps.refl _) (argsL := []) (rest := []) (lenOf pdOp rfl) rfl (by show 2 * 0 + _ ≤ _; exact Nat.le_of_eq rfl) (hb hby at_175) (fun _ _ => ⟨rfl, E25, (Nat.le_of_ble_eq_true rfl), (Nat.le_of_ble_eq_true rfl)⟩)
    dsimp only [Pt.U, Pt.locs, Pt.cells, Pt.slots] at X28 l28 y28 z28 st28 hQ28
    subst l28 y28 z28
    obtain ⟨rfl, N28, E28⟩ := hQ28
    refine own_to st28 ?_
    show own_Go p e below F (T28.setTop (mkF m 178 #[.val (.int len), .val (.int c0), .val (.int c1), .val (.int c2), .val (.int ((0 : Int32))), .val (.int a), .val (.int b), .val (.int d), .val (.ref x1), .val (.ref p4), .val (.ref li4), .val (.ref x1)] [(.ref eo)]))
    have N29 := Fr.app N26 N28
    obtain ⟨cq30, kq30, qa30, qb30, qc30⟩ := isOf I4.1 E28 (AE.ext (own_ext_trans EZ f5))
    obtain ⟨_, _, ⟨T30, L30, k30, n30⟩, -, X30, ⟨Lc30, hQ30, l30, y30, z30⟩, st30⟩ := X28.virtualBack hx (y := (⟨"java/util/Optional", "isPresent", "()Z"⟩ : MethodName)) (z := (⟨"java/util/Optional", "isPresent", "()Z"⟩ : MethodName)) I4.2.1 (mvT I4.1 (hw _ (List.mem_of_getElem? (i := 148) rfl))) (mvT I4.1 (hw _ (List.mem_of_getElem? (i := 149) rfl))) (notFace_of_selects (args := #[]) (mvT I4.1 (hw _ (List.mem_of_getElem? (i := 151) rfl)))) (mvT I4.1 (hw _ (List.mem_of_getElem? (i := 151) rfl))) (mvT I4.1 (hw _ (List.mem_of_getElem? (i := 150) rfl))) (by decide) (backOf (W := 0) (rmIp l Z a0 hw eo T4.heap (FE.ext (own_ext_trans EZ f5))) I4.1 (hw _ (List.mem_of_getElem? (i := 152) rfl)) (hw _ (List.mem_of_getElem? (i := 145) rfl)) (by decide) (by decide)) qa30 qc30 (g := (mkF m 178 #[.val (.int len), .val (.int c0), .val (.int c1), .val (.int c2), .val (.int ((0 : Int32))), .val (.int a), .val (.int b), .val (.int d), .val (.ref x1), .val (.ref p4), .val (.ref li4), .val (.ref x1)] [(.ref eo)])) rfl (by rw [hml]; rfl) (Steps.refl _) (argsL := []) (rest := []) (lenOf pdZ rfl) rfl (by show 2 * 0 + _ ≤ _; exact Nat.le_of_eq rfl) (hb hby at_178) (fun _ _ => ⟨rfl, E28, (Nat.le_of_ble_eq_true rfl), (Nat.le_of_ble_eq_true rfl)⟩)
    dsimp only [Pt.U, Pt.locs, Pt.cells, Pt.slots] at X30 l30 y30 z30 st30 hQ30
    subst l30 y30 z30
    obtain ⟨rfl, N30, E30⟩ := hQ30
    refine own_to st30 ?_
    show own_Go p e below F (T30.setTop (mkF m 181 #[.val (.int len), .val (.int c0), .val (.int c1), .val (.int c2), .val (.int ((0 : Int32))), .val (.int a), .val (.int b), .val (.int d), .val (.ref x1), .val (.ref p4), .val (.ref li4), .val (.ref x1)] [(.int ((0 : Int32)))]))
    have N31 := Fr.app N29 N30
    refine own_ifne X30.here hx (hb hby at_181) (by decide) (pc' := 188) (by decide) (pc2 := 184) rfl (fun q => absurd rfl q) (fun q32 => ?_)
    refine own_iconst X30.here hx (hb hby at_184) (v := 1) rfl (pc' := 185) rfl ?_
    refine own_goto X30.here hx (hb hby at_185) (by decide) (pc' := 189) (by decide) ?_
    exact own_retZW X30 hx hlk hEL I4 E30 (by decide) hret (hb hby at_189) (fun t ht hC hE => hF t _ _ _ _ (by rw [ht]; exact ⟨rfl, (by simpa using N31)⟩) hC hE (by decide) (by decide))
  · show own_Go p e below F (T0.setTop (mkF m 29 #[.val (.int len), .val (.int c0), .val (.int c1), .val (.int c2), .val (.int ((1 : Int32))), .val (.int a), .val (.int b), .val (.int d), .unset, .unset, .unset, .unset] []))
    refine own_iload X0.here hx (hb hby at_29) rfl (pc' := 31) rfl ?_
    refine own_iload X0.here hx (hb hby at_31) rfl (pc' := 33) rfl ?_
    refine own_iload X0.here hx (hb hby at_33) rfl (pc' := 35) rfl ?_
    refine own_iload X0.here hx (hb hby at_35) rfl (pc' := 37) rfl ?_
    obtain ⟨_, _, ⟨T33, L33, k33, n33⟩, -, X33, ⟨Lc33, hQ33, l33, y33, z33⟩, st33⟩ := Jvm.LawKit.callS X0 hx (y := (⟨"com/example/credential_to_assertion/credentialtoassertion/service/validation/IdentityTokenPresentationRestrictedToPinLaw", "draw", "(ICCC)Ljava/lang/String;"⟩ : MethodName)) I0.2.1 (mvT I0.1 (hw _ (List.mem_of_getElem? (i := 0) rfl))) (mvT I0.1 (hw _ (List.mem_of_getElem? (i := 1) rfl))) (mvT I0.1 (hw _ (List.mem_of_getElem? (i := 2) rfl))) (mvT I0.1 (hw _ (List.mem_of_getElem? (i := 3) rfl))) (by decide) (backOf (W := 0) (rmD1 l Z a0 hw a b d h0 EZ z0 O1 P5 na nb nd (fun c hc => by simp only [List.mem_cons, List.not_mem_nil, or_false] at hc; rcases hc with rfl <;> assumption)) I0.1 (hw _ (List.mem_of_getElem? (i := 3) rfl)) (hw _ (List.mem_of_getElem? (i := 2) rfl)) (by decide) (by decide)) (g := (mkF m 37 #[.val (.int len), .val (.int c0), .val (.int c1), .val (.int c2), .val (.int ((1 : Int32))), .val (.int a), .val (.int b), .val (.int d), .unset, .unset, .unset, .unset] [(.int d), (.int b), (.int a), (.int ((1 : Int32)))])) rfl (by rw [hml]; rfl) (argsL := [(.int ((1 : Int32))), (.int a), (.int b), (.int d)]) (rest := []) (lenOf pdD rfl) rfl (by show 2 * 0 + _ ≤ _; exact Nat.le_of_eq rfl) (hb hby at_37) (fun _ _ => ⟨rfl, e0, (Nat.le_of_ble_eq_true rfl), (Nat.le_of_ble_eq_true rfl)⟩)
    dsimp only [Pt.U, Pt.locs, Pt.cells, Pt.slots] at X33 l33 y33 z33 st33 hQ33
    subst l33 y33 z33
    obtain ⟨x33, rfl, S33, E33, N33⟩ := hQ33
    refine own_on (st33) ?_
    show own_Go p e below F (T33.setTop (mkF m 40 #[.val (.int len), .val (.int c0), .val (.int c1), .val (.int c2), .val (.int ((1 : Int32))), .val (.int a), .val (.int b), .val (.int d), .unset, .unset, .unset, .unset] [(.ref x33)]))
    have f34 := own_ext_trans M0 E33
    have J35 := I0.ext E33
    have N36 := Fr.app N0 N33
    have R0 := own_ext_refl T33.heap
    refine own_astore X33.here hx (hb hby at_40) rfl (L' := #[.val (.int len), .val (.int c0), .val (.int c1), .val (.int c2), .val (.int ((1 : Int32))), .val (.int a), .val (.int b), .val (.int d), .val (.ref x33), .unset, .unset, .unset]) rfl (pc' := 42) rfl ?_
    refine own_aload X33.here hx (hb hby at_42) rfl rfl (pc' := 44) rfl ?_
    obtain ⟨_, _, ⟨T37, L37, k37, n37⟩, -, X37, hS37, hG37, ⟨Lc37, hQ37, l37, y37, z37, C37⟩, st37⟩ := callSS X33 hx (y := (⟨"com/example/credential_to_assertion/credentialtoassertion/service/validation/IdentityTokenPresentation", "restrictedTo", "(Ljava/lang/String;)Lcom/example/credential_to_assertion/credentialtoassertion/service/validation/IdentityTokenPresentation;"⟩ : MethodName)) J35.2.1 (mvT J35.1 (hw _ (List.mem_of_getElem? (i := 26) rfl))) (mvT J35.1 (hw _ (List.mem_of_getElem? (i := 27) rfl))) (mvT J35.1 (hw _ (List.mem_of_getElem? (i := 28) rfl))) (mvT J35.1 (hw _ (List.mem_of_getElem? (i := 29) rfl))) (by decide) (own_backW (W := 0) (rmRe l Z a0 hw hEL x33 T33.heap (own_ext_trans EZ f34) em OM S33.exa) J35.1 (hw _ (List.mem_of_getElem? (i := 29) rfl)) (hw _ (List.mem_of_getElem? (i := 28) rfl)) (by decide) (by decide) hEL J35.ch (fun _ q => nomatch q)) (g := (mkF m 44 #[.val (.int len), .val (.int c0), .val (.int c1), .val (.int c2), .val (.int ((1 : Int32))), .val (.int a), .val (.int b), .val (.int d), .val (.ref x33), .unset, .unset, .unset] [(.ref x33)])) rfl (by rw [hml]; rfl) (argsL := [(.ref x33)]) (rest := []) (lenOf pdRe rfl) rfl (by show 2 * 0 + _ ≤ _; exact Nat.le_of_eq rfl) (hb hby at_44) (fun _ _ => ⟨rfl, rfl, (Nat.le_of_ble_eq_true rfl), (Nat.le_of_ble_eq_true rfl)⟩)
    dsimp only [Pt.U, Pt.locs, Pt.cells, Pt.slots] at X37 hS37 hG37 l37 y37 z37 C37 st37 hQ37
    subst l37 y37 z37
    replace X37 := (show Stand _ _ _ _ (s.setVm T37.vm) _ _ _ _ _ _ _ _ _ from X37)
    have I37 := J35.later hS37 (Nat.le_refl _) (by have q := hG37; rw [(rfl : _ = T33.heap)] at q; exact q) C37
    obtain ⟨p37, li37, rfl, E37, N37, ⟨A37, B37, D37, G37⟩, A137, F137, G137⟩ := hQ37
    refine own_to st37 ?_
    show own_Go p e below F (T37.setTop (mkF m 47 #[.val (.int len), .val (.int c0), .val (.int c1), .val (.int c2), .val (.int ((1 : Int32))), .val (.int a), .val (.int b), .val (.int d), .val (.ref x33), .unset, .unset, .unset] [(.ref p37)]))
    have f38 := own_ext_trans f34 E37
    have f39 := own_ext_trans R0 E37
    have N40 := Fr.app N36 N37
    refine own_astore X37.here hx (hb hby at_47) rfl (L' := #[.val (.int len), .val (.int c0), .val (.int c1), .val (.int c2), .val (.int ((1 : Int32))), .val (.int a), .val (.int b), .val (.int d), .val (.ref x33), .val (.ref p37), .unset, .unset]) rfl (pc' := 49) rfl ?_
    refine own_aload X37.here hx (hb hby at_49) rfl rfl (pc' := 51) rfl ?_
    obtain ⟨cq41, kq41, qa41, qb41, qc41⟩ := isOf I37.1 rfl A37
    obtain ⟨_, _, ⟨T41, L41, k41, n41⟩, -, X41, ⟨Lc41, hQ41, l41, y41, z41⟩, st41⟩ := X37.virtualBack hx (y := (⟨"com/example/credential_to_assertion/credentialtoassertion/service/validation/IdentityTokenPresentation", "getAudiences", "()Ljava/util/List;"⟩ : MethodName)) (z := (⟨"com/example/credential_to_assertion/credentialtoassertion/service/validation/IdentityTokenPresentation", "getAudiences", "()Ljava/util/List;"⟩ : MethodName)) I37.2.1 (mvT I37.1 (hw _ (List.mem_of_getElem? (i := 96) rfl))) (mvT I37.1 (hw _ (List.mem_of_getElem? (i := 97) rfl))) (notFace_of_selects (args := #[]) (mvT I37.1 (hw _ (List.mem_of_getElem? (i := 99) rfl)))) (mvT I37.1 (hw _ (List.mem_of_getElem? (i := 99) rfl))) (mvT I37.1 (hw _ (List.mem_of_getElem? (i := 98) rfl))) (by decide) (backOf (W := 0) (rmGa l Z a0 hw p37 (.ref li37) T37.heap rfl B37) I37.1 (hw _ (List.mem_of_getElem? (i := 100) rfl)) (hw _ (List.mem_of_getElem? (i := 28) rfl)) (by decide) (by decide)) qa41 qc41 (g := (mkF m 51 #[.val (.int len), .val (.int c0), .val (.int c1), .val (.int c2), .val (.int ((1 : Int32))), .val (.int a), .val (.int b), .val (.int d), .val (.ref x33), .val (.ref p37), .unset, .unset] [(.ref p37)])) rfl (by rw [hml]; rfl) (Steps.refl _) (argsL := []) (rest := []) (lenOf pdLi rfl) rfl (by show 2 * 0 + _ ≤ _; exact Nat.le_of_eq rfl) (hb hby at_51) (fun _ _ => ⟨rfl, rfl, (Nat.le_of_ble_eq_true rfl), (Nat.le_of_ble_eq_true rfl)⟩)
    dsimp only [Pt.U, Pt.locs, Pt.cells, Pt.slots] at X41 l41 y41 z41 st41 hQ41
    subst l41 y41 z41
    obtain ⟨rfl, N41, E41⟩ := hQ41
    refine own_to st41 ?_
    show own_Go p e below F (T41.setTop (mkF m 54 #[.val (.int len), .val (.int c0), .val (.int c1), .val (.int c2), .val (.int ((1 : Int32))), .val (.int a), .val (.int b), .val (.int d), .val (.ref x33), .val (.ref p37), .unset, .unset] [(.ref li37)]))
    have N42 := Fr.app N40 N41
    refine own_astore X41.here hx (hb hby at_54) rfl (L' := #[.val (.int len), .val (.int c0), .val (.int c1), .val (.int c2), .val (.int ((1 : Int32))), .val (.int a), .val (.int b), .val (.int d), .val (.ref x33), .val (.ref p37), .val (.ref li37), .unset]) rfl (pc' := 56) rfl ?_
    refine own_aload X41.here hx (hb hby at_56) rfl rfl (pc' := 58) rfl ?_
    obtain ⟨cq43, kq43, qa43, qb43, qc43⟩ := isOf (s := s.setVm T37.vm) I37.1 E41 A137
    obtain ⟨_, _, ⟨T43, L43, k43, n43⟩, -, X43, ⟨Lc43, hQ43, l43, y43, z43⟩, st43⟩ := X41.interfaceBack hx (xi := (⟨"java/util/List", "size", "()I"⟩ : MethodName)) (y := (⟨"java/util/ImmutableCollections$List12", "size", "()I"⟩ : MethodName)) I37.2.1 (mvT I37.1 (hw _ (List.mem_of_getElem? (i := 101) rfl))) (mvT I37.1 (hw _ (List.mem_of_getElem? (i := 102) rfl))) (mvT I37.1 (hw _ (List.mem_of_getElem? (i := 103) rfl))) (mvT I37.1 (hw _ (List.mem_of_getElem? (i := 104) rfl))) (mvT I37.1 (hw _ (List.mem_of_getElem? (i := 105) rfl))) (mvT I37.1 (hw _ (List.mem_of_getElem? (i := 106) rfl))) (mvT I37.1 (hw _ (List.mem_of_getElem? (i := 107) rfl))) (mvT I37.1 (hw _ (List.mem_of_getElem? (i := 89) rfl))) (by decide) (backOf (W := 0) (rmSz l Z a0 hw li37 T37.heap (own_ext_trans EZ f38) em OM G137) I37.1 (hw _ (List.mem_of_getElem? (i := 108) rfl)) (hw _ (List.mem_of_getElem? (i := 44) rfl)) (by decide) (by decide)) qa43 qb43 qc43 (g := (mkF m 58 #[.val (.int len), .val (.int c0), .val (.int c1), .val (.int c2), .val (.int ((1 : Int32))), .val (.int a), .val (.int b), .val (.int d), .val (.ref x33), .val (.ref p37), .val (.ref li37), .unset] [(.ref li37)])) rfl (by rw [hml]; rfl) (Steps.refl _) (argsL := []) (rest := []) (lenOf pdI rfl) rfl (by show 2 * 0 + _ ≤ _; exact Nat.le_of_eq rfl) (hb hby at_58) (fun _ _ => ⟨rfl, E41, (Nat.le_of_ble_eq_true rfl), (Nat.le_of_ble_eq_true rfl)⟩)
    dsimp only [Pt.U, Pt.locs, Pt.cells, Pt.slots] at X43 l43 y43 z43 st43 hQ43
    subst l43 y43 z43
    obtain ⟨rfl, N43, E43⟩ := hQ43
    refine own_to st43 ?_
    show own_Go p e below F (T43.setTop (mkF m 63 #[.val (.int len), .val (.int c0), .val (.int c1), .val (.int c2), .val (.int ((1 : Int32))), .val (.int a), .val (.int b), .val (.int d), .val (.ref x33), .val (.ref p37), .val (.ref li37), .unset] [(.int ((1 : Int32)))]))
    have N44 := Fr.app N42 N43
    refine own_iconst X43.here hx (hb hby at_63) (v := 1) rfl (pc' := 64) rfl ?_
    refine own_icmpeq X43.here hx (hb hby at_64) (by decide) (pc' := 69) (by decide) (pc2 := 67) rfl (fun q45 => ?_) (fun q => absurd rfl q)
    refine own_aload X43.here hx (hb hby at_69) rfl rfl (pc' := 71) rfl ?_
    refine own_iconst X43.here hx (hb hby at_71) (v := 0) rfl (pc' := 72) rfl ?_
    obtain ⟨cq46, kq46, qa46, qb46, qc46⟩ := isOf (s := s.setVm T37.vm) I37.1 E43 A137
    obtain ⟨_, _, ⟨T46, L46, k46, n46⟩, -, X46, ⟨Lc46, hQ46, l46, y46, z46⟩, st46⟩ := X43.interfaceBack hx (xi := (⟨"java/util/List", "get", "(I)Ljava/lang/Object;"⟩ : MethodName)) (y := (⟨"java/util/ImmutableCollections$List12", "get", "(I)Ljava/lang/Object;"⟩ : MethodName)) I37.2.1 (mvT I37.1 (hw _ (List.mem_of_getElem? (i := 109) rfl))) (mvT I37.1 (hw _ (List.mem_of_getElem? (i := 110) rfl))) (mvT I37.1 (hw _ (List.mem_of_getElem? (i := 111) rfl))) (mvT I37.1 (hw _ (List.mem_of_getElem? (i := 112) rfl))) (mvT I37.1 (hw _ (List.mem_of_getElem? (i := 113) rfl))) (mvT I37.1 (hw _ (List.mem_of_getElem? (i := 114) rfl))) (mvT I37.1 (hw _ (List.mem_of_getElem? (i := 115) rfl))) (mvT I37.1 (hw _ (List.mem_of_getElem? (i := 89) rfl))) (by decide) (backOf (W := 0) (rmGe l Z a0 hw li37 x33 T37.heap F137) I37.1 (hw _ (List.mem_of_getElem? (i := 116) rfl)) (hw _ (List.mem_of_getElem? (i := 44) rfl)) (by decide) (by decide)) qa46 qb46 qc46 (g := (mkF m 72 #[.val (.int len), .val (.int c0), .val (.int c1), .val (.int c2), .val (.int ((1 : Int32))), .val (.int a), .val (.int b), .val (.int d), .val (.ref x33), .val (.ref p37), .val (.ref li37), .unset] [(.int ((0 : Int32))), (.ref li37)])) rfl (by rw [hml]; rfl) (Steps.refl _) (argsL := [(.int ((0 : Int32)))]) (rest := []) (lenOf pdGe rfl) rfl (by show 2 * 0 + _ ≤ _; exact Nat.le_of_eq rfl) (hb hby at_72) (fun _ _ => ⟨rfl, E43, (Nat.le_of_ble_eq_true rfl), (Nat.le_of_ble_eq_true rfl)⟩)
    dsimp only [Pt.U, Pt.locs, Pt.cells, Pt.slots] at X46 l46 y46 z46 st46 hQ46
    subst l46 y46 z46
    obtain ⟨rfl, N46, E46⟩ := hQ46
    refine own_to st46 ?_
    show own_Go p e below F (T46.setTop (mkF m 77 #[.val (.int len), .val (.int c0), .val (.int c1), .val (.int c2), .val (.int ((1 : Int32))), .val (.int a), .val (.int b), .val (.int d), .val (.ref x33), .val (.ref p37), .val (.ref li37), .unset] [(.ref x33)]))
    have N47 := Fr.app N44 N46
    have S48 := S33.ext f39
    obtain ⟨T49, X49, e49, st49⟩ := castY X46 hx I37.1 I37.2.1 (hw _ (List.mem_of_getElem? (i := 4) rfl)) E46 (Ins.self S48.exa) (g := (mkF m 77 #[.val (.int len), .val (.int c0), .val (.int c1), .val (.int c2), .val (.int ((1 : Int32))), .val (.int a), .val (.int b), .val (.int d), .val (.ref x33), .val (.ref p37), .val (.ref li37), .unset] [(.ref x33)])) rfl rfl (hb hby at_77)
    refine own_on st49 ?_
    show own_Go p e below F (T49.setTop (mkF m 80 #[.val (.int len), .val (.int c0), .val (.int c1), .val (.int c2), .val (.int ((1 : Int32))), .val (.int a), .val (.int b), .val (.int d), .val (.ref x33), .val (.ref p37), .val (.ref li37), .unset] [(.ref x33)]))
    refine own_astore X49.here hx (hb hby at_80) rfl (L' := #[.val (.int len), .val (.int c0), .val (.int c1), .val (.int c2), .val (.int ((1 : Int32))), .val (.int a), .val (.int b), .val (.int d), .val (.ref x33), .val (.ref p37), .val (.ref li37), .val (.ref x33)]) rfl (pc' := 82) rfl ?_
    refine own_aload X49.here hx (hb hby at_82) rfl rfl (pc' := 84) rfl ?_
    obtain ⟨cq50, kq50, qa50, qb50, qc50⟩ := isOf I37.1 e49 S48.exa
    obtain ⟨_, _, ⟨T50, L50, k50, n50⟩, -, X50, ⟨Lc50, hQ50, l50, y50, z50⟩, st50⟩ := X49.virtualBack hx (y := (⟨"java/lang/String", "length", "()I"⟩ : MethodName)) (z := (⟨"java/lang/String", "length", "()I"⟩ : MethodName)) I37.2.1 (mvT I37.1 (hw _ (List.mem_of_getElem? (i := 117) rfl))) (mvT I37.1 (hw _ (List.mem_of_getElem? (i := 118) rfl))) (notFace_of_selects (args := #[]) (mvT I37.1 (hw _ (List.mem_of_getElem? (i := 120) rfl)))) (mvT I37.1 (hw _ (List.mem_of_getElem? (i := 120) rfl))) (mvT I37.1 (hw _ (List.mem_of_getElem? (i := 119) rfl))) (by decide) (own_lenB (s := s.setVm T37.vm) (W := 0) I37.1 hw S48 (O1.ext (own_ext_trans EZ f38)) P5 (by decide) (by decide)) qa50 qc50 (g := (mkF m 84 #[.val (.int len), .val (.int c0), .val (.int c1), .val (.int c2), .val (.int ((1 : Int32))), .val (.int a), .val (.int b), .val (.int d), .val (.ref x33), .val (.ref p37), .val (.ref li37), .val (.ref x33)] [(.ref x33)])) rfl (by rw [hml]; rfl) (Steps.refl _) (argsL := []) (rest := []) (lenOf pdI rfl) rfl (by show 2 * 0 + _ ≤ _; exact Nat.le_of_eq rfl) (hb hby at_84) (fun _ _ => ⟨rfl, e49, (Nat.le_of_ble_eq_true rfl), (Nat.le_of_ble_eq_true rfl)⟩)
    dsimp only [Pt.U, Pt.locs, Pt.cells, Pt.slots] at X50 l50 y50 z50 st50 hQ50
    subst l50 y50 z50
    obtain ⟨rfl, rfl, E50⟩ := hQ50
    refine own_to st50 ?_
    show own_Go p e below F (T50.setTop (mkF m 87 #[.val (.int len), .val (.int c0), .val (.int c1), .val (.int c2), .val (.int ((1 : Int32))), .val (.int a), .val (.int b), .val (.int d), .val (.ref x33), .val (.ref p37), .val (.ref li37), .val (.ref x33)] [(.int (Int32.ofNat 1))]))
    refine own_iload X50.here hx (hb hby at_87) rfl (pc' := 89) rfl ?_
    refine own_icmpeq X50.here hx (hb hby at_89) (by decide) (pc' := 94) (by decide) (pc2 := 92) rfl (fun q51 => ?_) (fun q => absurd rfl q)
    refine own_iload X50.here hx (hb hby at_94) rfl (pc' := 96) rfl ?_
    refine own_iconst X50.here hx (hb hby at_96) (v := 1) rfl (pc' := 97) rfl ?_
    refine own_icmplt X50.here hx (hb hby at_97) (by decide) (pc' := 113) (by decide) (pc2 := 100) rfl (fun q => absurd q (by decide)) (fun q52 => ?_)
    refine own_aload X50.here hx (hb hby at_100) rfl rfl (pc' := 102) rfl ?_
    refine own_iconst X50.here hx (hb hby at_102) (v := 0) rfl (pc' := 103) rfl ?_
    obtain ⟨cq53, kq53, qa53, qb53, qc53⟩ := isOf I37.1 E50 S48.exa
    obtain ⟨_, _, ⟨T53, L53, k53, n53⟩, -, X53, ⟨Lc53, hQ53, l53, y53, z53⟩, st53⟩ := X50.virtualBack hx (y := (⟨"java/lang/String", "charAt", "(I)C"⟩ : MethodName)) (z := (⟨"java/lang/String", "charAt", "(I)C"⟩ : MethodName)) I37.2.1 (mvT I37.1 (hw _ (List.mem_of_getElem? (i := 165) rfl))) (mvT I37.1 (hw _ (List.mem_of_getElem? (i := 166) rfl))) (notFace_of_selects (args := #[]) (mvT I37.1 (hw _ (List.mem_of_getElem? (i := 168) rfl)))) (mvT I37.1 (hw _ (List.mem_of_getElem? (i := 168) rfl))) (mvT I37.1 (hw _ (List.mem_of_getElem? (i := 167) rfl))) (by decide) (own_chB (s := s.setVm T37.vm) (W := 0) I37.1 hw S48 (O1.ext (own_ext_trans EZ f38)) P5 (O2.ext (own_ext_trans EZ f38)) rf (i := 0) (Nat.le_of_ble_eq_true rfl) rfl (by decide) (by decide)) qa53 qc53 (g := (mkF m 103 #[.val (.int len), .val (.int c0), .val (.int c1), .val (.int c2), .val (.int ((1 : Int32))), .val (.int a), .val (.int b), .val (.int d), .val (.ref x33), .val (.ref p37), .val (.ref li37), .val (.ref x33)] [(.int ((0 : Int32))), (.ref x33)])) rfl (by rw [hml]; rfl) (Steps.refl _) (argsL := [(.int ((0 : Int32)))]) (rest := []) (lenOf pdCh rfl) rfl (by show 2 * 0 + _ ≤ _; exact Nat.le_of_eq rfl) (hb hby at_103) (fun _ _ => ⟨rfl, E50, (Nat.le_of_ble_eq_true rfl), (Nat.le_of_ble_eq_true rfl)⟩)
    dsimp only [Pt.U, Pt.locs, Pt.cells, Pt.slots] at X53 l53 y53 z53 st53 hQ53
    subst l53 y53 z53
    obtain ⟨rfl, rfl, E53⟩ := hQ53
    refine own_to st53 ?_
    show own_Go p e below F (T53.setTop (mkF m 106 #[.val (.int len), .val (.int c0), .val (.int c1), .val (.int c2), .val (.int ((1 : Int32))), .val (.int a), .val (.int b), .val (.int d), .val (.ref x33), .val (.ref p37), .val (.ref li37), .val (.ref x33)] [(.int a)]))
    refine own_iload X53.here hx (hb hby at_106) rfl (pc' := 108) rfl ?_
    refine own_icmpeq X53.here hx (hb hby at_108) (by decide) (pc' := 113) (by decide) (pc2 := 111) rfl (fun q54 => ?_) (fun q => absurd rfl q)
    refine own_iload X53.here hx (hb hby at_113) rfl (pc' := 115) rfl ?_
    refine own_iconst X53.here hx (hb hby at_115) (v := 2) rfl (pc' := 116) rfl ?_
    refine own_icmplt X53.here hx (hb hby at_116) (by decide) (pc' := 132) (by decide) (pc2 := 119) rfl (fun q55 => ?_) (fun q => absurd (by decide) q)
    refine own_iload X53.here hx (hb hby at_132) rfl (pc' := 134) rfl ?_
    refine own_iconst X53.here hx (hb hby at_134) (v := 3) rfl (pc' := 135) rfl ?_
    refine own_icmplt X53.here hx (hb hby at_135) (by decide) (pc' := 151) (by decide) (pc2 := 138) rfl (fun q56 => ?_) (fun q => absurd (by decide) q)
    refine own_aload X53.here hx (hb hby at_151) rfl rfl (pc' := 153) rfl ?_
    refine own_aload X53.here hx (hb hby at_153) rfl rfl (pc' := 155) rfl ?_
    obtain ⟨cq57, kq57, qa57, qb57, qc57⟩ := isOf I37.1 E53 S48.exa
    obtain ⟨_, _, ⟨T57, L57, k57, n57⟩, -, X57, ⟨Lc57, hQ57, l57, y57, z57⟩, st57⟩ := X53.virtualBack hx (y := (⟨"java/lang/String", "equals", "(Ljava/lang/Object;)Z"⟩ : MethodName)) (z := (⟨"java/lang/String", "equals", "(Ljava/lang/Object;)Z"⟩ : MethodName)) I37.2.1 (mvT I37.1 (hw _ (List.mem_of_getElem? (i := 128) rfl))) (mvT I37.1 (hw _ (List.mem_of_getElem? (i := 129) rfl))) (notFace_of_selects (args := #[]) (mvT I37.1 (hw _ (List.mem_of_getElem? (i := 131) rfl)))) (mvT I37.1 (hw _ (List.mem_of_getElem? (i := 131) rfl))) (mvT I37.1 (hw _ (List.mem_of_getElem? (i := 130) rfl))) (by decide) (backOf (W := 0) (rmEq l Z a0 hw x33 T37.heap) I37.1 (hw _ (List.mem_of_getElem? (i := 132) rfl)) (hw _ (List.mem_of_getElem? (i := 6) rfl)) (by decide) (by decide)) qa57 qc57 (g := (mkF m 155 #[.val (.int len), .val (.int c0), .val (.int c1), .val (.int c2), .val (.int ((1 : Int32))), .val (.int a), .val (.int b), .val (.int d), .val (.ref x33), .val (.ref p37), .val (.ref li37), .val (.ref x33)] [(.ref x33), (.ref x33)])) rfl (by rw [hml]; rfl) (Steps.refl _) (argsL := [(.ref x33)]) (rest := []) (lenOf pdEq rfl) rfl (by show 2 * 0 + _ ≤ _; exact Nat.le_of_eq rfl) (hb hby at_155) (fun _ _ => ⟨rfl, E53, (Nat.le_of_ble_eq_true rfl), (Nat.le_of_ble_eq_true rfl)⟩)
    dsimp only [Pt.U, Pt.locs, Pt.cells, Pt.slots] at X57 l57 y57 z57 st57 hQ57
    subst l57 y57 z57
    obtain ⟨rfl, N57, E57⟩ := hQ57
    refine own_to st57 ?_
    show own_Go p e below F (T57.setTop (mkF m 158 #[.val (.int len), .val (.int c0), .val (.int c1), .val (.int c2), .val (.int ((1 : Int32))), .val (.int a), .val (.int b), .val (.int d), .val (.ref x33), .val (.ref p37), .val (.ref li37), .val (.ref x33)] [(.int ((1 : Int32)))]))
    have N58 := Fr.app N47 N57
    refine own_ifne X57.here hx (hb hby at_158) (by decide) (pc' := 163) (by decide) (pc2 := 161) rfl (fun q59 => ?_) (fun q => absurd q (by decide))
    refine own_aload X57.here hx (hb hby at_163) rfl rfl (pc' := 165) rfl ?_
    obtain ⟨cq60, kq60, qa60, qb60, qc60⟩ := isOf I37.1 E57 A37
    obtain ⟨_, _, ⟨T60, L60, k60, n60⟩, -, X60, ⟨Lc60, hQ60, l60, y60, z60⟩, st60⟩ := X57.virtualBack hx (y := (⟨"com/example/credential_to_assertion/credentialtoassertion/service/validation/IdentityTokenPresentation", "isBearerGrant", "()Z"⟩ : MethodName)) (z := (⟨"com/example/credential_to_assertion/credentialtoassertion/service/validation/IdentityTokenPresentation", "isBearerGrant", "()Z"⟩ : MethodName)) I37.2.1 (mvT I37.1 (hw _ (List.mem_of_getElem? (i := 133) rfl))) (mvT I37.1 (hw _ (List.mem_of_getElem? (i := 134) rfl))) (notFace_of_selects (args := #[]) (mvT I37.1 (hw _ (List.mem_of_getElem? (i := 136) rfl)))) (mvT I37.1 (hw _ (List.mem_of_getElem? (i := 136) rfl))) (mvT I37.1 (hw _ (List.mem_of_getElem? (i := 135) rfl))) (by decide) (backOf (W := 0) (rmBg l Z a0 hw p37 0 T37.heap (Or.inl rfl) D37) I37.1 (hw _ (List.mem_of_getElem? (i := 137) rfl)) (hw _ (List.mem_of_getElem? (i := 28) rfl)) (by decide) (by decide)) qa60 qc60 (g := (mkF m 165 #[.val (.int len), .val (.int c0), .val (.int c1), .val (.int c2), .val (.int ((1 : Int32))), .val (.int a), .val (.int b), .val (.int d), .val (.ref x33), .val (.ref p37), .val (.ref li37), .val (.ref x33)] [(.ref p37)])) rfl (by rw [hml]; rfl) (Steps.refl _) (argsL := []) (rest := []) (lenOf pdZ rfl) rfl (by show 2 * 0 + _ ≤ _; exact Nat.le_of_eq rfl) (hb hby at_165) (fun _ _ => ⟨rfl, E57, (Nat.le_of_ble_eq_true rfl), (Nat.le_of_ble_eq_true rfl)⟩)
    dsimp only [Pt.U, Pt.locs, Pt.cells, Pt.slots] at X60 l60 y60 z60 st60 hQ60
    subst l60 y60 z60
    obtain ⟨rfl, N60, E60⟩ := hQ60
    refine own_to st60 ?_
    show own_Go p e below F (T60.setTop (mkF m 168 #[.val (.int len), .val (.int c0), .val (.int c1), .val (.int c2), .val (.int ((1 : Int32))), .val (.int a), .val (.int b), .val (.int d), .val (.ref x33), .val (.ref p37), .val (.ref li37), .val (.ref x33)] [(.int ((0 : Int32)))]))
    have N61 := Fr.app N58 N60
    refine own_ifeq X60.here hx (hb hby at_168) (by decide) (pc' := 173) (by decide) (pc2 := 171) rfl (fun q62 => ?_) (fun q => absurd rfl q)
    refine own_aload X60.here hx (hb hby at_173) rfl rfl (pc' := 175) rfl ?_
    obtain ⟨cq63, kq63, qa63, qb63, qc63⟩ := isOf I37.1 E60 A37
    obtain ⟨_, _, ⟨T63, L63, k63, n63⟩, -, X63, ⟨Lc63, hQ63, l63, y63, z63⟩, st63⟩ := X60.virtualBack hx (y := (⟨"com/example/credential_to_assertion/credentialtoassertion/service/validation/IdentityTokenPresentation", "getTokenEndpoint", "()Ljava/util/Optional;"⟩ : MethodName)) (z := (⟨"com/example/credential_to_assertion/credentialtoassertion/service/validation/IdentityTokenPresentation", "getTokenEndpoint", "()Ljava/util/Optional;"⟩ : MethodName)) I37.2.1 (mvT I37.1 (hw _ (List.mem_of_getElem? (i := 138) rfl))) (mvT I37.1 (hw _ (List.mem_of_getElem? (i := 139) rfl))) (notFace_of_selects (args := #[]) (mvT I37.1 (hw _ (List.mem_of_getElem? (i := 141) rfl)))) (mvT I37.1 (hw _ (List.mem_of_getElem? (i := 141) rfl))) (mvT I37.1 (hw _ (List.mem_of_getElem? (i := 140) rfl))) (by decide) (backOf (W := 0) (rmTe l Z a0 hw p37 T37.heap (own_ext_trans EZ f38) eo OE AE FE G37) I37.1 (hw _ (List.mem_of_getElem? (i := 142) rfl)) (hw _ (List.mem_of_getElem? (i := 28) rfl)) (by decide) (by decide)) qa63 qc63 (g := (mkF m 175 #[.val (.int len), .val (.int c0), .val (.int c1), .val (.int c2), .val (.int ((1 : Int32))), .val (.int a), .val (.int b), .val (.int d), .val (.ref x33), .val (.ref p37), .val (.ref li37), .val (.ref x33)] [(.ref p37)])) rfl (by rw [hml]; rfl) (Steps.refl _) (argsL := []) (rest := []) (lenOf pdOp rfl) rfl (by show 2 * 0 + _ ≤ _; exact Nat.le_of_eq rfl) (hb hby at_175) (fun _ _ => ⟨rfl, E60, (Nat.le_of_ble_eq_true rfl), (Nat.le_of_ble_eq_true rfl)⟩)
    dsimp only [Pt.U, Pt.locs, Pt.cells, Pt.slots] at X63 l63 y63 z63 st63 hQ63
    subst l63 y63 z63
    obtain ⟨rfl, N63, E63⟩ := hQ63
    refine own_to st63 ?_
    show own_Go p e below F (T63.setTop (mkF m 178 #[.val (.int len), .val (.int c0), .val (.int c1), .val (.int c2), .val (.int ((1 : Int32))), .val (.int a), .val (.int b), .val (.int d), .val (.ref x33), .val (.ref p37), .val (.ref li37), .val (.ref x33)] [(.ref eo)]))
    have N64 := Fr.app N61 N63
    obtain ⟨cq65, kq65, qa65, qb65, qc65⟩ := isOf I37.1 E63 (AE.ext (own_ext_trans EZ f38))
    obtain ⟨_, _, ⟨T65, L65, k65, n65⟩, -, X65, ⟨Lc65, hQ65, l65, y65, z65⟩, st65⟩ := X63.virtualBack hx (y := (⟨"java/util/Optional", "isPresent", "()Z"⟩ : MethodName)) (z := (⟨"java/util/Optional", "isPresent", "()Z"⟩ : MethodName)) I37.2.1 (mvT I37.1 (hw _ (List.mem_of_getElem? (i := 148) rfl))) (mvT I37.1 (hw _ (List.mem_of_getElem? (i := 149) rfl))) (notFace_of_selects (args := #[]) (mvT I37.1 (hw _ (List.mem_of_getElem? (i := 151) rfl)))) (mvT I37.1 (hw _ (List.mem_of_getElem? (i := 151) rfl))) (mvT I37.1 (hw _ (List.mem_of_getElem? (i := 150) rfl))) (by decide) (backOf (W := 0) (rmIp l Z a0 hw eo T37.heap (FE.ext (own_ext_trans EZ f38))) I37.1 (hw _ (List.mem_of_getElem? (i := 152) rfl)) (hw _ (List.mem_of_getElem? (i := 145) rfl)) (by decide) (by decide)) qa65 qc65 (g := (mkF m 178 #[.val (.int len), .val (.int c0), .val (.int c1), .val (.int c2), .val (.int ((1 : Int32))), .val (.int a), .val (.int b), .val (.int d), .val (.ref x33), .val (.ref p37), .val (.ref li37), .val (.ref x33)] [(.ref eo)])) rfl (by rw [hml]; rfl) (Steps.refl _) (argsL := []) (rest := []) (lenOf pdZ rfl) rfl (by show 2 * 0 + _ ≤ _; exact Nat.le_of_eq rfl) (hb hby at_178) (fun _ _ => ⟨rfl, E63, (Nat.le_of_ble_eq_true rfl), (Nat.le_of_ble_eq_true rfl)⟩)
    dsimp only [Pt.U, Pt.locs, Pt.cells, Pt.slots] at X65 l65 y65 z65 st65 hQ65
    subst l65 y65 z65
    obtain ⟨rfl, N65, E65⟩ := hQ65
    refine own_to st65 ?_
    show own_Go p e below F (T65.setTop (mkF m 181 #[.val (.int len), .val (.int c0), .val (.int c1), .val (.int c2), .val (.int ((1 : Int32))), .val (.int a), .val (.int b), .val (.int d), .val (.ref x33), .val (.ref p37), .val (.ref li37), .val (.ref x33)] [(.int ((0 : Int32)))]))
    have N66 := Fr.app N64 N65
    refine own_ifne X65.here hx (hb hby at_181) (by decide) (pc' := 188) (by decide) (pc2 := 184) rfl (fun q => absurd rfl q) (fun q67 => ?_)
    refine own_iconst X65.here hx (hb hby at_184) (v := 1) rfl (pc' := 185) rfl ?_
    refine own_goto X65.here hx (hb hby at_185) (by decide) (pc' := 189) (by decide) ?_
    exact own_retZW X65 hx hlk hEL I37 E65 (by decide) hret (hb hby at_189) (fun t ht hC hE => hF t _ _ _ _ (by rw [ht]; exact ⟨rfl, (by simpa using N66)⟩) hC hE (by decide) (by decide))
  · show own_Go p e below F (T0.setTop (mkF m 29 #[.val (.int len), .val (.int c0), .val (.int c1), .val (.int c2), .val (.int ((2 : Int32))), .val (.int a), .val (.int b), .val (.int d), .unset, .unset, .unset, .unset] []))
    refine own_iload X0.here hx (hb hby at_29) rfl (pc' := 31) rfl ?_
    refine own_iload X0.here hx (hb hby at_31) rfl (pc' := 33) rfl ?_
    refine own_iload X0.here hx (hb hby at_33) rfl (pc' := 35) rfl ?_
    refine own_iload X0.here hx (hb hby at_35) rfl (pc' := 37) rfl ?_
    obtain ⟨_, _, ⟨T68, L68, k68, n68⟩, -, X68, ⟨Lc68, hQ68, l68, y68, z68⟩, st68⟩ := Jvm.LawKit.callS X0 hx (y := (⟨"com/example/credential_to_assertion/credentialtoassertion/service/validation/IdentityTokenPresentationRestrictedToPinLaw", "draw", "(ICCC)Ljava/lang/String;"⟩ : MethodName)) I0.2.1 (mvT I0.1 (hw _ (List.mem_of_getElem? (i := 0) rfl))) (mvT I0.1 (hw _ (List.mem_of_getElem? (i := 1) rfl))) (mvT I0.1 (hw _ (List.mem_of_getElem? (i := 2) rfl))) (mvT I0.1 (hw _ (List.mem_of_getElem? (i := 3) rfl))) (by decide) (backOf (W := 0) (rmD2 l Z a0 hw a b d h0 EZ z0 O1 P5 na nb nd (fun c hc => by simp only [List.mem_cons, List.not_mem_nil, or_false] at hc; rcases hc with rfl | rfl <;> assumption)) I0.1 (hw _ (List.mem_of_getElem? (i := 3) rfl)) (hw _ (List.mem_of_getElem? (i := 2) rfl)) (by decide) (by decide)) (g := (mkF m 37 #[.val (.int len), .val (.int c0), .val (.int c1), .val (.int c2), .val (.int ((2 : Int32))), .val (.int a), .val (.int b), .val (.int d), .unset, .unset, .unset, .unset] [(.int d), (.int b), (.int a), (.int ((2 : Int32)))])) rfl (by rw [hml]; rfl) (argsL := [(.int ((2 : Int32))), (.int a), (.int b), (.int d)]) (rest := []) (lenOf pdD rfl) rfl (by show 2 * 0 + _ ≤ _; exact Nat.le_of_eq rfl) (hb hby at_37) (fun _ _ => ⟨rfl, e0, (Nat.le_of_ble_eq_true rfl), (Nat.le_of_ble_eq_true rfl)⟩)
    dsimp only [Pt.U, Pt.locs, Pt.cells, Pt.slots] at X68 l68 y68 z68 st68 hQ68
    subst l68 y68 z68
    obtain ⟨x68, rfl, S68, E68, N68⟩ := hQ68
    refine own_on (st68) ?_
    show own_Go p e below F (T68.setTop (mkF m 40 #[.val (.int len), .val (.int c0), .val (.int c1), .val (.int c2), .val (.int ((2 : Int32))), .val (.int a), .val (.int b), .val (.int d), .unset, .unset, .unset, .unset] [(.ref x68)]))
    have f69 := own_ext_trans M0 E68
    have J70 := I0.ext E68
    have N71 := Fr.app N0 N68
    have R0 := own_ext_refl T68.heap
    refine own_astore X68.here hx (hb hby at_40) rfl (L' := #[.val (.int len), .val (.int c0), .val (.int c1), .val (.int c2), .val (.int ((2 : Int32))), .val (.int a), .val (.int b), .val (.int d), .val (.ref x68), .unset, .unset, .unset]) rfl (pc' := 42) rfl ?_
    refine own_aload X68.here hx (hb hby at_42) rfl rfl (pc' := 44) rfl ?_
    obtain ⟨_, _, ⟨T72, L72, k72, n72⟩, -, X72, hS72, hG72, ⟨Lc72, hQ72, l72, y72, z72, C72⟩, st72⟩ := callSS X68 hx (y := (⟨"com/example/credential_to_assertion/credentialtoassertion/service/validation/IdentityTokenPresentation", "restrictedTo", "(Ljava/lang/String;)Lcom/example/credential_to_assertion/credentialtoassertion/service/validation/IdentityTokenPresentation;"⟩ : MethodName)) J70.2.1 (mvT J70.1 (hw _ (List.mem_of_getElem? (i := 26) rfl))) (mvT J70.1 (hw _ (List.mem_of_getElem? (i := 27) rfl))) (mvT J70.1 (hw _ (List.mem_of_getElem? (i := 28) rfl))) (mvT J70.1 (hw _ (List.mem_of_getElem? (i := 29) rfl))) (by decide) (own_backW (W := 0) (rmRe l Z a0 hw hEL x68 T68.heap (own_ext_trans EZ f69) em OM S68.exa) J70.1 (hw _ (List.mem_of_getElem? (i := 29) rfl)) (hw _ (List.mem_of_getElem? (i := 28) rfl)) (by decide) (by decide) hEL J70.ch (fun _ q => nomatch q)) (g := (mkF m 44 #[.val (.int len), .val (.int c0), .val (.int c1), .val (.int c2), .val (.int ((2 : Int32))), .val (.int a), .val (.int b), .val (.int d), .val (.ref x68), .unset, .unset, .unset] [(.ref x68)])) rfl (by rw [hml]; rfl) (argsL := [(.ref x68)]) (rest := []) (lenOf pdRe rfl) rfl (by show 2 * 0 + _ ≤ _; exact Nat.le_of_eq rfl) (hb hby at_44) (fun _ _ => ⟨rfl, rfl, (Nat.le_of_ble_eq_true rfl), (Nat.le_of_ble_eq_true rfl)⟩)
    dsimp only [Pt.U, Pt.locs, Pt.cells, Pt.slots] at X72 hS72 hG72 l72 y72 z72 C72 st72 hQ72
    subst l72 y72 z72
    replace X72 := (show Stand _ _ _ _ (s.setVm T72.vm) _ _ _ _ _ _ _ _ _ from X72)
    have I72 := J70.later hS72 (Nat.le_refl _) (by have q := hG72; rw [(rfl : _ = T68.heap)] at q; exact q) C72
    obtain ⟨p72, li72, rfl, E72, N72, ⟨A72, B72, D72, G72⟩, A172, F172, G172⟩ := hQ72
    refine own_to st72 ?_
    show own_Go p e below F (T72.setTop (mkF m 47 #[.val (.int len), .val (.int c0), .val (.int c1), .val (.int c2), .val (.int ((2 : Int32))), .val (.int a), .val (.int b), .val (.int d), .val (.ref x68), .unset, .unset, .unset] [(.ref p72)]))
    have f73 := own_ext_trans f69 E72
    have f74 := own_ext_trans R0 E72
    have N75 := Fr.app N71 N72
    refine own_astore X72.here hx (hb hby at_47) rfl (L' := #[.val (.int len), .val (.int c0), .val (.int c1), .val (.int c2), .val (.int ((2 : Int32))), .val (.int a), .val (.int b), .val (.int d), .val (.ref x68), .val (.ref p72), .unset, .unset]) rfl (pc' := 49) rfl ?_
    refine own_aload X72.here hx (hb hby at_49) rfl rfl (pc' := 51) rfl ?_
    obtain ⟨cq76, kq76, qa76, qb76, qc76⟩ := isOf I72.1 rfl A72
    obtain ⟨_, _, ⟨T76, L76, k76, n76⟩, -, X76, ⟨Lc76, hQ76, l76, y76, z76⟩, st76⟩ := X72.virtualBack hx (y := (⟨"com/example/credential_to_assertion/credentialtoassertion/service/validation/IdentityTokenPresentation", "getAudiences", "()Ljava/util/List;"⟩ : MethodName)) (z := (⟨"com/example/credential_to_assertion/credentialtoassertion/service/validation/IdentityTokenPresentation", "getAudiences", "()Ljava/util/List;"⟩ : MethodName)) I72.2.1 (mvT I72.1 (hw _ (List.mem_of_getElem? (i := 96) rfl))) (mvT I72.1 (hw _ (List.mem_of_getElem? (i := 97) rfl))) (notFace_of_selects (args := #[]) (mvT I72.1 (hw _ (List.mem_of_getElem? (i := 99) rfl)))) (mvT I72.1 (hw _ (List.mem_of_getElem? (i := 99) rfl))) (mvT I72.1 (hw _ (List.mem_of_getElem? (i := 98) rfl))) (by decide) (backOf (W := 0) (rmGa l Z a0 hw p72 (.ref li72) T72.heap rfl B72) I72.1 (hw _ (List.mem_of_getElem? (i := 100) rfl)) (hw _ (List.mem_of_getElem? (i := 28) rfl)) (by decide) (by decide)) qa76 qc76 (g := (mkF m 51 #[.val (.int len), .val (.int c0), .val (.int c1), .val (.int c2), .val (.int ((2 : Int32))), .val (.int a), .val (.int b), .val (.int d), .val (.ref x68), .val (.ref p72), .unset, .unset] [(.ref p72)])) rfl (by rw [hml]; rfl) (Steps.refl _) (argsL := []) (rest := []) (lenOf pdLi rfl) rfl (by show 2 * 0 + _ ≤ _; exact Nat.le_of_eq rfl) (hb hby at_51) (fun _ _ => ⟨rfl, rfl, (Nat.le_of_ble_eq_true rfl), (Nat.le_of_ble_eq_true rfl)⟩)
    dsimp only [Pt.U, Pt.locs, Pt.cells, Pt.slots] at X76 l76 y76 z76 st76 hQ76
    subst l76 y76 z76
    obtain ⟨rfl, N76, E76⟩ := hQ76
    refine own_to st76 ?_
    show own_Go p e below F (T76.setTop (mkF m 54 #[.val (.int len), .val (.int c0), .val (.int c1), .val (.int c2), .val (.int ((2 : Int32))), .val (.int a), .val (.int b), .val (.int d), .val (.ref x68), .val (.ref p72), .unset, .unset] [(.ref li72)]))
    have N77 := Fr.app N75 N76
    refine own_astore X76.here hx (hb hby at_54) rfl (L' := #[.val (.int len), .val (.int c0), .val (.int c1), .val (.int c2), .val (.int ((2 : Int32))), .val (.int a), .val (.int b), .val (.int d), .val (.ref x68), .val (.ref p72), .val (.ref li72), .unset]) rfl (pc' := 56) rfl ?_
    refine own_aload X76.here hx (hb hby at_56) rfl rfl (pc' := 58) rfl ?_
    obtain ⟨cq78, kq78, qa78, qb78, qc78⟩ := isOf (s := s.setVm T72.vm) I72.1 E76 A172
    obtain ⟨_, _, ⟨T78, L78, k78, n78⟩, -, X78, ⟨Lc78, hQ78, l78, y78, z78⟩, st78⟩ := X76.interfaceBack hx (xi := (⟨"java/util/List", "size", "()I"⟩ : MethodName)) (y := (⟨"java/util/ImmutableCollections$List12", "size", "()I"⟩ : MethodName)) I72.2.1 (mvT I72.1 (hw _ (List.mem_of_getElem? (i := 101) rfl))) (mvT I72.1 (hw _ (List.mem_of_getElem? (i := 102) rfl))) (mvT I72.1 (hw _ (List.mem_of_getElem? (i := 103) rfl))) (mvT I72.1 (hw _ (List.mem_of_getElem? (i := 104) rfl))) (mvT I72.1 (hw _ (List.mem_of_getElem? (i := 105) rfl))) (mvT I72.1 (hw _ (List.mem_of_getElem? (i := 106) rfl))) (mvT I72.1 (hw _ (List.mem_of_getElem? (i := 107) rfl))) (mvT I72.1 (hw _ (List.mem_of_getElem? (i := 89) rfl))) (by decide) (backOf (W := 0) (rmSz l Z a0 hw li72 T72.heap (own_ext_trans EZ f73) em OM G172) I72.1 (hw _ (List.mem_of_getElem? (i := 108) rfl)) (hw _ (List.mem_of_getElem? (i := 44) rfl)) (by decide) (by decide)) qa78 qb78 qc78 (g := (mkF m 58 #[.val (.int len), .val (.int c0), .val (.int c1), .val (.int c2), .val (.int ((2 : Int32))), .val (.int a), .val (.int b), .val (.int d), .val (.ref x68), .val (.ref p72), .val (.ref li72), .unset] [(.ref li72)])) rfl (by rw [hml]; rfl) (Steps.refl _) (argsL := []) (rest := []) (lenOf pdI rfl) rfl (by show 2 * 0 + _ ≤ _; exact Nat.le_of_eq rfl) (hb hby at_58) (fun _ _ => ⟨rfl, E76, (Nat.le_of_ble_eq_true rfl), (Nat.le_of_ble_eq_true rfl)⟩)
    dsimp only [Pt.U, Pt.locs, Pt.cells, Pt.slots] at X78 l78 y78 z78 st78 hQ78
    subst l78 y78 z78
    obtain ⟨rfl, N78, E78⟩ := hQ78
    refine own_to st78 ?_
    show own_Go p e below F (T78.setTop (mkF m 63 #[.val (.int len), .val (.int c0), .val (.int c1), .val (.int c2), .val (.int ((2 : Int32))), .val (.int a), .val (.int b), .val (.int d), .val (.ref x68), .val (.ref p72), .val (.ref li72), .unset] [(.int ((1 : Int32)))]))
    have N79 := Fr.app N77 N78
    refine own_iconst X78.here hx (hb hby at_63) (v := 1) rfl (pc' := 64) rfl ?_
    refine own_icmpeq X78.here hx (hb hby at_64) (by decide) (pc' := 69) (by decide) (pc2 := 67) rfl (fun q80 => ?_) (fun q => absurd rfl q)
    refine own_aload X78.here hx (hb hby at_69) rfl rfl (pc' := 71) rfl ?_
    refine own_iconst X78.here hx (hb hby at_71) (v := 0) rfl (pc' := 72) rfl ?_
    obtain ⟨cq81, kq81, qa81, qb81, qc81⟩ := isOf (s := s.setVm T72.vm) I72.1 E78 A172
    obtain ⟨_, _, ⟨T81, L81, k81, n81⟩, -, X81, ⟨Lc81, hQ81, l81, y81, z81⟩, st81⟩ := X78.interfaceBack hx (xi := (⟨"java/util/List", "get", "(I)Ljava/lang/Object;"⟩ : MethodName)) (y := (⟨"java/util/ImmutableCollections$List12", "get", "(I)Ljava/lang/Object;"⟩ : MethodName)) I72.2.1 (mvT I72.1 (hw _ (List.mem_of_getElem? (i := 109) rfl))) (mvT I72.1 (hw _ (List.mem_of_getElem? (i := 110) rfl))) (mvT I72.1 (hw _ (List.mem_of_getElem? (i := 111) rfl))) (mvT I72.1 (hw _ (List.mem_of_getElem? (i := 112) rfl))) (mvT I72.1 (hw _ (List.mem_of_getElem? (i := 113) rfl))) (mvT I72.1 (hw _ (List.mem_of_getElem? (i := 114) rfl))) (mvT I72.1 (hw _ (List.mem_of_getElem? (i := 115) rfl))) (mvT I72.1 (hw _ (List.mem_of_getElem? (i := 89) rfl))) (by decide) (backOf (W := 0) (rmGe l Z a0 hw li72 x68 T72.heap F172) I72.1 (hw _ (List.mem_of_getElem? (i := 116) rfl)) (hw _ (List.mem_of_getElem? (i := 44) rfl)) (by decide) (by decide)) qa81 qb81 qc81 (g := (mkF m 72 #[.val (.int len), .val (.int c0), .val (.int c1), .val (.int c2), .val (.int ((2 : Int32))), .val (.int a), .val (.int b), .val (.int d), .val (.ref x68), .val (.ref p72), .val (.ref li72), .unset] [(.int ((0 : Int32))), (.ref li72)])) rfl (by rw [hml]; rfl) (Steps.refl _) (argsL := [(.int ((0 : Int32)))]) (rest := []) (lenOf pdGe rfl) rfl (by show 2 * 0 + _ ≤ _; exact Nat.le_of_eq rfl) (hb hby at_72) (fun _ _ => ⟨rfl, E78, (Nat.le_of_ble_eq_true rfl), (Nat.le_of_ble_eq_true rfl)⟩)
    dsimp only [Pt.U, Pt.locs, Pt.cells, Pt.slots] at X81 l81 y81 z81 st81 hQ81
    subst l81 y81 z81
    obtain ⟨rfl, N81, E81⟩ := hQ81
    refine own_to st81 ?_
    show own_Go p e below F (T81.setTop (mkF m 77 #[.val (.int len), .val (.int c0), .val (.int c1), .val (.int c2), .val (.int ((2 : Int32))), .val (.int a), .val (.int b), .val (.int d), .val (.ref x68), .val (.ref p72), .val (.ref li72), .unset] [(.ref x68)]))
    have N82 := Fr.app N79 N81
    have S83 := S68.ext f74
    obtain ⟨T84, X84, e84, st84⟩ := castY X81 hx I72.1 I72.2.1 (hw _ (List.mem_of_getElem? (i := 4) rfl)) E81 (Ins.self S83.exa) (g := (mkF m 77 #[.val (.int len), .val (.int c0), .val (.int c1), .val (.int c2), .val (.int ((2 : Int32))), .val (.int a), .val (.int b), .val (.int d), .val (.ref x68), .val (.ref p72), .val (.ref li72), .unset] [(.ref x68)])) rfl rfl (hb hby at_77)
    refine own_on st84 ?_
    show own_Go p e below F (T84.setTop (mkF m 80 #[.val (.int len), .val (.int c0), .val (.int c1), .val (.int c2), .val (.int ((2 : Int32))), .val (.int a), .val (.int b), .val (.int d), .val (.ref x68), .val (.ref p72), .val (.ref li72), .unset] [(.ref x68)]))
    refine own_astore X84.here hx (hb hby at_80) rfl (L' := #[.val (.int len), .val (.int c0), .val (.int c1), .val (.int c2), .val (.int ((2 : Int32))), .val (.int a), .val (.int b), .val (.int d), .val (.ref x68), .val (.ref p72), .val (.ref li72), .val (.ref x68)]) rfl (pc' := 82) rfl ?_
    refine own_aload X84.here hx (hb hby at_82) rfl rfl (pc' := 84) rfl ?_
    obtain ⟨cq85, kq85, qa85, qb85, qc85⟩ := isOf I72.1 e84 S83.exa
    obtain ⟨_, _, ⟨T85, L85, k85, n85⟩, -, X85, ⟨Lc85, hQ85, l85, y85, z85⟩, st85⟩ := X84.virtualBack hx (y := (⟨"java/lang/String", "length", "()I"⟩ : MethodName)) (z := (⟨"java/lang/String", "length", "()I"⟩ : MethodName)) I72.2.1 (mvT I72.1 (hw _ (List.mem_of_getElem? (i := 117) rfl))) (mvT I72.1 (hw _ (List.mem_of_getElem? (i := 118) rfl))) (notFace_of_selects (args := #[]) (mvT I72.1 (hw _ (List.mem_of_getElem? (i := 120) rfl)))) (mvT I72.1 (hw _ (List.mem_of_getElem? (i := 120) rfl))) (mvT I72.1 (hw _ (List.mem_of_getElem? (i := 119) rfl))) (by decide) (own_lenB (s := s.setVm T72.vm) (W := 0) I72.1 hw S83 (O1.ext (own_ext_trans EZ f73)) P5 (by decide) (by decide)) qa85 qc85 (g := (mkF m 84 #[.val (.int len), .val (.int c0), .val (.int c1), .val (.int c2), .val (.int ((2 : Int32))), .val (.int a), .val (.int b), .val (.int d), .val (.ref x68), .val (.ref p72), .val (.ref li72), .val (.ref x68)] [(.ref x68)])) rfl (by rw [hml]; rfl) (Steps.refl _) (argsL := []) (rest := []) (lenOf pdI rfl) rfl (by show 2 * 0 + _ ≤ _; exact Nat.le_of_eq rfl) (hb hby at_84) (fun _ _ => ⟨rfl, e84, (Nat.le_of_ble_eq_true rfl), (Nat.le_of_ble_eq_true rfl)⟩)
    dsimp only [Pt.U, Pt.locs, Pt.cells, Pt.slots] at X85 l85 y85 z85 st85 hQ85
    subst l85 y85 z85
    obtain ⟨rfl, rfl, E85⟩ := hQ85
    refine own_to st85 ?_
    show own_Go p e below F (T85.setTop (mkF m 87 #[.val (.int len), .val (.int c0), .val (.int c1), .val (.int c2), .val (.int ((2 : Int32))), .val (.int a), .val (.int b), .val (.int d), .val (.ref x68), .val (.ref p72), .val (.ref li72), .val (.ref x68)] [(.int (Int32.ofNat 2))]))
    refine own_iload X85.here hx (hb hby at_87) rfl (pc' := 89) rfl ?_
    refine own_icmpeq X85.here hx (hb hby at_89) (by decide) (pc' := 94) (by decide) (pc2 := 92) rfl (fun q86 => ?_) (fun q => absurd rfl q)
    refine own_iload X85.here hx (hb hby at_94) rfl (pc' := 96) rfl ?_
    refine own_iconst X85.here hx (hb hby at_96) (v := 1) rfl (pc' := 97) rfl ?_
    refine own_icmplt X85.here hx (hb hby at_97) (by decide) (pc' := 113) (by decide) (pc2 := 100) rfl (fun q => absurd q (by decide)) (fun q87 => ?_)
    refine own_aload X85.here hx (hb hby at_100) rfl rfl (pc' := 102) rfl ?_
    refine own_iconst X85.here hx (hb hby at_102) (v := 0) rfl (pc' := 103) rfl ?_
    obtain ⟨cq88, kq88, qa88, qb88, qc88⟩ := isOf I72.1 E85 S83.exa
    obtain ⟨_, _, ⟨T88, L88, k88, n88⟩, -, X88, ⟨Lc88, hQ88, l88, y88, z88⟩, st88⟩ := X85.virtualBack hx (y := (⟨"java/lang/String", "charAt", "(I)C"⟩ : MethodName)) (z := (⟨"java/lang/String", "charAt", "(I)C"⟩ : MethodName)) I72.2.1 (mvT I72.1 (hw _ (List.mem_of_getElem? (i := 165) rfl))) (mvT I72.1 (hw _ (List.mem_of_getElem? (i := 166) rfl))) (notFace_of_selects (args := #[]) (mvT I72.1 (hw _ (List.mem_of_getElem? (i := 168) rfl)))) (mvT I72.1 (hw _ (List.mem_of_getElem? (i := 168) rfl))) (mvT I72.1 (hw _ (List.mem_of_getElem? (i := 167) rfl))) (by decide) (own_chB (s := s.setVm T72.vm) (W := 0) I72.1 hw S83 (O1.ext (own_ext_trans EZ f73)) P5 (O2.ext (own_ext_trans EZ f73)) rf (i := 0) (Nat.le_of_ble_eq_true rfl) rfl (by decide) (by decide)) qa88 qc88 (g := (mkF m 103 #[.val (.int len), .val (.int c0), .val (.int c1), .val (.int c2), .val (.int ((2 : Int32))), .val (.int a), .val (.int b), .val (.int d), .val (.ref x68), .val (.ref p72), .val (.ref li72), .val (.ref x68)] [(.int ((0 : Int32))), (.ref x68)])) rfl (by rw [hml]; rfl) (Steps.refl _) (argsL := [(.int ((0 : Int32)))]) (rest := []) (lenOf pdCh rfl) rfl (by show 2 * 0 + _ ≤ _; exact Nat.le_of_eq rfl) (hb hby at_103) (fun _ _ => ⟨rfl, E85, (Nat.le_of_ble_eq_true rfl), (Nat.le_of_ble_eq_true rfl)⟩)
    dsimp only [Pt.U, Pt.locs, Pt.cells, Pt.slots] at X88 l88 y88 z88 st88 hQ88
    subst l88 y88 z88
    obtain ⟨rfl, rfl, E88⟩ := hQ88
    refine own_to st88 ?_
    show own_Go p e below F (T88.setTop (mkF m 106 #[.val (.int len), .val (.int c0), .val (.int c1), .val (.int c2), .val (.int ((2 : Int32))), .val (.int a), .val (.int b), .val (.int d), .val (.ref x68), .val (.ref p72), .val (.ref li72), .val (.ref x68)] [(.int a)]))
    refine own_iload X88.here hx (hb hby at_106) rfl (pc' := 108) rfl ?_
    refine own_icmpeq X88.here hx (hb hby at_108) (by decide) (pc' := 113) (by decide) (pc2 := 111) rfl (fun q89 => ?_) (fun q => absurd rfl q)
    refine own_iload X88.here hx (hb hby at_113) rfl (pc' := 115) rfl ?_
    refine own_iconst X88.here hx (hb hby at_115) (v := 2) rfl (pc' := 116) rfl ?_
    refine own_icmplt X88.here hx (hb hby at_116) (by decide) (pc' := 132) (by decide) (pc2 := 119) rfl (fun q => absurd q (by decide)) (fun q90 => ?_)
    refine own_aload X88.here hx (hb hby at_119) rfl rfl (pc' := 121) rfl ?_
    refine own_iconst X88.here hx (hb hby at_121) (v := 1) rfl (pc' := 122) rfl ?_
    obtain ⟨cq91, kq91, qa91, qb91, qc91⟩ := isOf I72.1 E88 S83.exa
    obtain ⟨_, _, ⟨T91, L91, k91, n91⟩, -, X91, ⟨Lc91, hQ91, l91, y91, z91⟩, st91⟩ := X88.virtualBack hx (y := (⟨"java/lang/String", "charAt", "(I)C"⟩ : MethodName)) (z := (⟨"java/lang/String", "charAt", "(I)C"⟩ : MethodName)) I72.2.1 (mvT I72.1 (hw _ (List.mem_of_getElem? (i := 165) rfl))) (mvT I72.1 (hw _ (List.mem_of_getElem? (i := 166) rfl))) (notFace_of_selects (args := #[]) (mvT I72.1 (hw _ (List.mem_of_getElem? (i := 168) rfl)))) (mvT I72.1 (hw _ (List.mem_of_getElem? (i := 168) rfl))) (mvT I72.1 (hw _ (List.mem_of_getElem? (i := 167) rfl))) (by decide) (own_chB (s := s.setVm T72.vm) (W := 0) I72.1 hw S83 (O1.ext (own_ext_trans EZ f73)) P5 (O2.ext (own_ext_trans EZ f73)) rf (i := 1) (Nat.le_of_ble_eq_true rfl) rfl (by decide) (by decide)) qa91 qc91 (g := (mkF m 122 #[.val (.int len), .val (.int c0), .val (.int c1), .val (.int c2), .val (.int ((2 : Int32))), .val (.int a), .val (.int b), .val (.int d), .val (.ref x68), .val (.ref p72), .val (.ref li72), .val (.ref x68)] [(.int ((1 : Int32))), (.ref x68)])) rfl (by rw [hml]; rfl) (Steps.refl _) (argsL := [(.int ((1 : Int32)))]) (rest := []) (lenOf pdCh rfl) rfl (by show 2 * 0 + _ ≤ _; exact Nat.le_of_eq rfl) (hb hby at_122) (fun _ _ => ⟨rfl, E88, (Nat.le_of_ble_eq_true rfl), (Nat.le_of_ble_eq_true rfl)⟩)
    dsimp only [Pt.U, Pt.locs, Pt.cells, Pt.slots] at X91 l91 y91 z91 st91 hQ91
    subst l91 y91 z91
    obtain ⟨rfl, rfl, E91⟩ := hQ91
    refine own_to st91 ?_
    show own_Go p e below F (T91.setTop (mkF m 125 #[.val (.int len), .val (.int c0), .val (.int c1), .val (.int c2), .val (.int ((2 : Int32))), .val (.int a), .val (.int b), .val (.int d), .val (.ref x68), .val (.ref p72), .val (.ref li72), .val (.ref x68)] [(.int b)]))
    refine own_iload X91.here hx (hb hby at_125) rfl (pc' := 127) rfl ?_
    refine own_icmpeq X91.here hx (hb hby at_127) (by decide) (pc' := 132) (by decide) (pc2 := 130) rfl (fun q92 => ?_) (fun q => absurd rfl q)
    refine own_iload X91.here hx (hb hby at_132) rfl (pc' := 134) rfl ?_
    refine own_iconst X91.here hx (hb hby at_134) (v := 3) rfl (pc' := 135) rfl ?_
    refine own_icmplt X91.here hx (hb hby at_135) (by decide) (pc' := 151) (by decide) (pc2 := 138) rfl (fun q93 => ?_) (fun q => absurd (by decide) q)
    refine own_aload X91.here hx (hb hby at_151) rfl rfl (pc' := 153) rfl ?_
    refine own_aload X91.here hx (hb hby at_153) rfl rfl (pc' := 155) rfl ?_
    obtain ⟨cq94, kq94, qa94, qb94, qc94⟩ := isOf I72.1 E91 S83.exa
    obtain ⟨_, _, ⟨T94, L94, k94, n94⟩, -, X94, ⟨Lc94, hQ94, l94, y94, z94⟩, st94⟩ := X91.virtualBack hx (y := (⟨"java/lang/String", "equals", "(Ljava/lang/Object;)Z"⟩ : MethodName)) (z := (⟨"java/lang/String", "equals", "(Ljava/lang/Object;)Z"⟩ : MethodName)) I72.2.1 (mvT I72.1 (hw _ (List.mem_of_getElem? (i := 128) rfl))) (mvT I72.1 (hw _ (List.mem_of_getElem? (i := 129) rfl))) (notFace_of_selects (args := #[]) (mvT I72.1 (hw _ (List.mem_of_getElem? (i := 131) rfl)))) (mvT I72.1 (hw _ (List.mem_of_getElem? (i := 131) rfl))) (mvT I72.1 (hw _ (List.mem_of_getElem? (i := 130) rfl))) (by decide) (backOf (W := 0) (rmEq l Z a0 hw x68 T72.heap) I72.1 (hw _ (List.mem_of_getElem? (i := 132) rfl)) (hw _ (List.mem_of_getElem? (i := 6) rfl)) (by decide) (by decide)) qa94 qc94 (g := (mkF m 155 #[.val (.int len), .val (.int c0), .val (.int c1), .val (.int c2), .val (.int ((2 : Int32))), .val (.int a), .val (.int b), .val (.int d), .val (.ref x68), .val (.ref p72), .val (.ref li72), .val (.ref x68)] [(.ref x68), (.ref x68)])) rfl (by rw [hml]; rfl) (Steps.refl _) (argsL := [(.ref x68)]) (rest := []) (lenOf pdEq rfl) rfl (by show 2 * 0 + _ ≤ _; exact Nat.le_of_eq rfl) (hb hby at_155) (fun _ _ => ⟨rfl, E91, (Nat.le_of_ble_eq_true rfl), (Nat.le_of_ble_eq_true rfl)⟩)
    dsimp only [Pt.U, Pt.locs, Pt.cells, Pt.slots] at X94 l94 y94 z94 st94 hQ94
    subst l94 y94 z94
    obtain ⟨rfl, N94, E94⟩ := hQ94
    refine own_to st94 ?_
    show own_Go p e below F (T94.setTop (mkF m 158 #[.val (.int len), .val (.int c0), .val (.int c1), .val (.int c2), .val (.int ((2 : Int32))), .val (.int a), .val (.int b), .val (.int d), .val (.ref x68), .val (.ref p72), .val (.ref li72), .val (.ref x68)] [(.int ((1 : Int32)))]))
    have N95 := Fr.app N82 N94
    refine own_ifne X94.here hx (hb hby at_158) (by decide) (pc' := 163) (by decide) (pc2 := 161) rfl (fun q96 => ?_) (fun q => absurd q (by decide))
    refine own_aload X94.here hx (hb hby at_163) rfl rfl (pc' := 165) rfl ?_
    obtain ⟨cq97, kq97, qa97, qb97, qc97⟩ := isOf I72.1 E94 A72
    obtain ⟨_, _, ⟨T97, L97, k97, n97⟩, -, X97, ⟨Lc97, hQ97, l97, y97, z97⟩, st97⟩ := X94.virtualBack hx (y := (⟨"com/example/credential_to_assertion/credentialtoassertion/service/validation/IdentityTokenPresentation", "isBearerGrant", "()Z"⟩ : MethodName)) (z := (⟨"com/example/credential_to_assertion/credentialtoassertion/service/validation/IdentityTokenPresentation", "isBearerGrant", "()Z"⟩ : MethodName)) I72.2.1 (mvT I72.1 (hw _ (List.mem_of_getElem? (i := 133) rfl))) (mvT I72.1 (hw _ (List.mem_of_getElem? (i := 134) rfl))) (notFace_of_selects (args := #[]) (mvT I72.1 (hw _ (List.mem_of_getElem? (i := 136) rfl)))) (mvT I72.1 (hw _ (List.mem_of_getElem? (i := 136) rfl))) (mvT I72.1 (hw _ (List.mem_of_getElem? (i := 135) rfl))) (by decide) (backOf (W := 0) (rmBg l Z a0 hw p72 0 T72.heap (Or.inl rfl) D72) I72.1 (hw _ (List.mem_of_getElem? (i := 137) rfl)) (hw _ (List.mem_of_getElem? (i := 28) rfl)) (by decide) (by decide)) qa97 qc97 (g := (mkF m 165 #[.val (.int len), .val (.int c0), .val (.int c1), .val (.int c2), .val (.int ((2 : Int32))), .val (.int a), .val (.int b), .val (.int d), .val (.ref x68), .val (.ref p72), .val (.ref li72), .val (.ref x68)] [(.ref p72)])) rfl (by rw [hml]; rfl) (Steps.refl _) (argsL := []) (rest := []) (lenOf pdZ rfl) rfl (by show 2 * 0 + _ ≤ _; exact Nat.le_of_eq rfl) (hb hby at_165) (fun _ _ => ⟨rfl, E94, (Nat.le_of_ble_eq_true rfl), (Nat.le_of_ble_eq_true rfl)⟩)
    dsimp only [Pt.U, Pt.locs, Pt.cells, Pt.slots] at X97 l97 y97 z97 st97 hQ97
    subst l97 y97 z97
    obtain ⟨rfl, N97, E97⟩ := hQ97
    refine own_to st97 ?_
    show own_Go p e below F (T97.setTop (mkF m 168 #[.val (.int len), .val (.int c0), .val (.int c1), .val (.int c2), .val (.int ((2 : Int32))), .val (.int a), .val (.int b), .val (.int d), .val (.ref x68), .val (.ref p72), .val (.ref li72), .val (.ref x68)] [(.int ((0 : Int32)))]))
    have N98 := Fr.app N95 N97
    refine own_ifeq X97.here hx (hb hby at_168) (by decide) (pc' := 173) (by decide) (pc2 := 171) rfl (fun q99 => ?_) (fun q => absurd rfl q)
    refine own_aload X97.here hx (hb hby at_173) rfl rfl (pc' := 175) rfl ?_
    obtain ⟨cq100, kq100, qa100, qb100, qc100⟩ := isOf I72.1 E97 A72
    obtain ⟨_, _, ⟨T100, L100, k100, n100⟩, -, X100, ⟨Lc100, hQ100, l100, y100, z100⟩, st100⟩ := X97.virtualBack hx (y := (⟨"com/example/credential_to_assertion/credentialtoassertion/service/validation/IdentityTokenPresentation", "getTokenEndpoint", "()Ljava/util/Optional;"⟩ : MethodName)) (z := (⟨"com/example/credential_to_assertion/credentialtoassertion/service/validation/IdentityTokenPresentation", "getTokenEndpoint", "()Ljava/util/Optional;"⟩ : MethodName)) I72.2.1 (mvT I72.1 (hw _ (List.mem_of_getElem? (i := 138) rfl))) (mvT I72.1 (hw _ (List.mem_of_getElem? (i := 139) rfl))) (notFace_of_selects (args := #[]) (mvT I72.1 (hw _ (List.mem_of_getElem? (i := 141) rfl)))) (mvT I72.1 (hw _ (List.mem_of_getElem? (i := 141) rfl))) (mvT I72.1 (hw _ (List.mem_of_getElem? (i := 140) rfl))) (by decide) (backOf (W := 0) (rmTe l Z a0 hw p72 T72.heap (own_ext_trans EZ f73) eo OE AE FE G72) I72.1 (hw _ (List.mem_of_getElem? (i := 142) rfl)) (hw _ (List.mem_of_getElem? (i := 28) rfl)) (by decide) (by decide)) qa100 qc100 (g := (mkF m 175 #[.val (.int len), .val (.int c0), .val (.int c1), .val (.int c2), .val (.int ((2 : Int32))), .val (.int a), .val (.int b), .val (.int d), .val (.ref x68), .val (.ref p72), .val (.ref li72), .val (.ref x68)] [(.ref p72)])) rfl (by rw [hml]; rfl) (Steps.refl _) (argsL := []) (rest := []) (lenOf pdOp rfl) rfl (by show 2 * 0 + _ ≤ _; exact Nat.le_of_eq rfl) (hb hby at_175) (fun _ _ => ⟨rfl, E97, (Nat.le_of_ble_eq_true rfl), (Nat.le_of_ble_eq_true rfl)⟩)
    dsimp only [Pt.U, Pt.locs, Pt.cells, Pt.slots] at X100 l100 y100 z100 st100 hQ100
    subst l100 y100 z100
    obtain ⟨rfl, N100, E100⟩ := hQ100
    refine own_to st100 ?_
    show own_Go p e below F (T100.setTop (mkF m 178 #[.val (.int len), .val (.int c0), .val (.int c1), .val (.int c2), .val (.int ((2 : Int32))), .val (.int a), .val (.int b), .val (.int d), .val (.ref x68), .val (.ref p72), .val (.ref li72), .val (.ref x68)] [(.ref eo)]))
    have N101 := Fr.app N98 N100
    obtain ⟨cq102, kq102, qa102, qb102, qc102⟩ := isOf I72.1 E100 (AE.ext (own_ext_trans EZ f73))
    obtain ⟨_, _, ⟨T102, L102, k102, n102⟩, -, X102, ⟨Lc102, hQ102, l102, y102, z102⟩, st102⟩ := X100.virtualBack hx (y := (⟨"java/util/Optional", "isPresent", "()Z"⟩ : MethodName)) (z := (⟨"java/util/Optional", "isPresent", "()Z"⟩ : MethodName)) I72.2.1 (mvT I72.1 (hw _ (List.mem_of_getElem? (i := 148) rfl))) (mvT I72.1 (hw _ (List.mem_of_getElem? (i := 149) rfl))) (notFace_of_selects (args := #[]) (mvT I72.1 (hw _ (List.mem_of_getElem? (i := 151) rfl)))) (mvT I72.1 (hw _ (List.mem_of_getElem? (i := 151) rfl))) (mvT I72.1 (hw _ (List.mem_of_getElem? (i := 150) rfl))) (by decide) (backOf (W := 0) (rmIp l Z a0 hw eo T72.heap (FE.ext (own_ext_trans EZ f73))) I72.1 (hw _ (List.mem_of_getElem? (i := 152) rfl)) (hw _ (List.mem_of_getElem? (i := 145) rfl)) (by decide) (by decide)) qa102 qc102 (g := (mkF m 178 #[.val (.int len), .val (.int c0), .val (.int c1), .val (.int c2), .val (.int ((2 : Int32))), .val (.int a), .val (.int b), .val (.int d), .val (.ref x68), .val (.ref p72), .val (.ref li72), .val (.ref x68)] [(.ref eo)])) rfl (by rw [hml]; rfl) (Steps.refl _) (argsL := []) (rest := []) (lenOf pdZ rfl) rfl (by show 2 * 0 + _ ≤ _; exact Nat.le_of_eq rfl) (hb hby at_178) (fun _ _ => ⟨rfl, E100, (Nat.le_of_ble_eq_true rfl), (Nat.le_of_ble_eq_true rfl)⟩)
    dsimp only [Pt.U, Pt.locs, Pt.cells, Pt.slots] at X102 l102 y102 z102 st102 hQ102
    subst l102 y102 z102
    obtain ⟨rfl, N102, E102⟩ := hQ102
    refine own_to st102 ?_
    show own_Go p e below F (T102.setTop (mkF m 181 #[.val (.int len), .val (.int c0), .val (.int c1), .val (.int c2), .val (.int ((2 : Int32))), .val (.int a), .val (.int b), .val (.int d), .val (.ref x68), .val (.ref p72), .val (.ref li72), .val (.ref x68)] [(.int ((0 : Int32)))]))
    have N103 := Fr.app N101 N102
    refine own_ifne X102.here hx (hb hby at_181) (by decide) (pc' := 188) (by decide) (pc2 := 184) rfl (fun q => absurd rfl q) (fun q104 => ?_)
    refine own_iconst X102.here hx (hb hby at_184) (v := 1) rfl (pc' := 185) rfl ?_
    refine own_goto X102.here hx (hb hby at_185) (by decide) (pc' := 189) (by decide) ?_
    exact own_retZW X102 hx hlk hEL I72 E102 (by decide) hret (hb hby at_189) (fun t ht hC hE => hF t _ _ _ _ (by rw [ht]; exact ⟨rfl, (by simpa using N103)⟩) hC hE (by decide) (by decide))
  · show own_Go p e below F (T0.setTop (mkF m 29 #[.val (.int len), .val (.int c0), .val (.int c1), .val (.int c2), .val (.int ((3 : Int32))), .val (.int a), .val (.int b), .val (.int d), .unset, .unset, .unset, .unset] []))
    refine own_iload X0.here hx (hb hby at_29) rfl (pc' := 31) rfl ?_
    refine own_iload X0.here hx (hb hby at_31) rfl (pc' := 33) rfl ?_
    refine own_iload X0.here hx (hb hby at_33) rfl (pc' := 35) rfl ?_
    refine own_iload X0.here hx (hb hby at_35) rfl (pc' := 37) rfl ?_
    obtain ⟨_, _, ⟨T105, L105, k105, n105⟩, -, X105, ⟨Lc105, hQ105, l105, y105, z105⟩, st105⟩ := Jvm.LawKit.callS X0 hx (y := (⟨"com/example/credential_to_assertion/credentialtoassertion/service/validation/IdentityTokenPresentationRestrictedToPinLaw", "draw", "(ICCC)Ljava/lang/String;"⟩ : MethodName)) I0.2.1 (mvT I0.1 (hw _ (List.mem_of_getElem? (i := 0) rfl))) (mvT I0.1 (hw _ (List.mem_of_getElem? (i := 1) rfl))) (mvT I0.1 (hw _ (List.mem_of_getElem? (i := 2) rfl))) (mvT I0.1 (hw _ (List.mem_of_getElem? (i := 3) rfl))) (by decide) (backOf (W := 0) (rmD3 l Z a0 hw a b d h0 EZ z0 O1 P5 na nb nd (fun c hc => by simp only [List.mem_cons, List.not_mem_nil, or_false] at hc; rcases hc with rfl | rfl | rfl <;> assumption)) I0.1 (hw _ (List.mem_of_getElem? (i := 3) rfl)) (hw _ (List.mem_of_getElem? (i := 2) rfl)) (by decide) (by decide)) (g := (mkF m 37 #[.val (.int len), .val (.int c0), .val (.int c1), .val (.int c2), .val (.int ((3 : Int32))), .val (.int a), .val (.int b), .val (.int d), .unset, .unset, .unset, .unset] [(.int d), (.int b), (.int a), (.int ((3 : Int32)))])) rfl (by rw [hml]; rfl) (argsL := [(.int ((3 : Int32))), (.int a), (.int b), (.int d)]) (rest := []) (lenOf pdD rfl) rfl (by show 2 * 0 + _ ≤ _; exact Nat.le_of_eq rfl) (hb hby at_37) (fun _ _ => ⟨rfl, e0, (Nat.le_of_ble_eq_true rfl), (Nat.le_of_ble_eq_true rfl)⟩)
    dsimp only [Pt.U, Pt.locs, Pt.cells, Pt.slots] at X105 l105 y105 z105 st105 hQ105
    subst l105 y105 z105
    obtain ⟨x105, rfl, S105, E105, N105⟩ := hQ105
    refine own_on (st105) ?_
    show own_Go p e below F (T105.setTop (mkF m 40 #[.val (.int len), .val (.int c0), .val (.int c1), .val (.int c2), .val (.int ((3 : Int32))), .val (.int a), .val (.int b), .val (.int d), .unset, .unset, .unset, .unset] [(.ref x105)]))
    have f106 := own_ext_trans M0 E105
    have J107 := I0.ext E105
    have N108 := Fr.app N0 N105
    have R0 := own_ext_refl T105.heap
    refine own_astore X105.here hx (hb hby at_40) rfl (L' := #[.val (.int len), .val (.int c0), .val (.int c1), .val (.int c2), .val (.int ((3 : Int32))), .val (.int a), .val (.int b), .val (.int d), .val (.ref x105), .unset, .unset, .unset]) rfl (pc' := 42) rfl ?_
    refine own_aload X105.here hx (hb hby at_42) rfl rfl (pc' := 44) rfl ?_
    obtain ⟨_, _, ⟨T109, L109, k109, n109⟩, -, X109, hS109, hG109, ⟨Lc109, hQ109, l109, y109, z109, C109⟩, st109⟩ := callSS X105 hx (y := (⟨"com/example/credential_to_assertion/credentialtoassertion/service/validation/IdentityTokenPresentation", "restrictedTo", "(Ljava/lang/String;)Lcom/example/credential_to_assertion/credentialtoassertion/service/validation/IdentityTokenPresentation;"⟩ : MethodName)) J107.2.1 (mvT J107.1 (hw _ (List.mem_of_getElem? (i := 26) rfl))) (mvT J107.1 (hw _ (List.mem_of_getElem? (i := 27) rfl))) (mvT J107.1 (hw _ (List.mem_of_getElem? (i := 28) rfl))) (mvT J107.1 (hw _ (List.mem_of_getElem? (i := 29) rfl))) (by decide) (own_backW (W := 0) (rmRe l Z a0 hw hEL x105 T105.heap (own_ext_trans EZ f106) em OM S105.exa) J107.1 (hw _ (List.mem_of_getElem? (i := 29) rfl)) (hw _ (List.mem_of_getElem? (i := 28) rfl)) (by decide) (by decide) hEL J107.ch (fun _ q => nomatch q)) (g := (mkF m 44 #[.val (.int len), .val (.int c0), .val (.int c1), .val (.int c2), .val (.int ((3 : Int32))), .val (.int a), .val (.int b), .val (.int d), .val (.ref x105), .unset, .unset, .unset] [(.ref x105)])) rfl (by rw [hml]; rfl) (argsL := [(.ref x105)]) (rest := []) (lenOf pdRe rfl) rfl (by show 2 * 0 + _ ≤ _; exact Nat.le_of_eq rfl) (hb hby at_44) (fun _ _ => ⟨rfl, rfl, (Nat.le_of_ble_eq_true rfl), (Nat.le_of_ble_eq_true rfl)⟩)
    dsimp only [Pt.U, Pt.locs, Pt.cells, Pt.slots] at X109 hS109 hG109 l109 y109 z109 C109 st109 hQ109
    subst l109 y109 z109
    replace X109 := (show Stand _ _ _ _ (s.setVm T109.vm) _ _ _ _ _ _ _ _ _ from X109)
    have I109 := J107.later hS109 (Nat.le_refl _) (by have q := hG109; rw [(rfl : _ = T105.heap)] at q; exact q) C109
    obtain ⟨p109, li109, rfl, E109, N109, ⟨A109, B109, D109, G109⟩, A1109, F1109, G1109⟩ := hQ109
    refine own_to st109 ?_
    show own_Go p e below F (T109.setTop (mkF m 47 #[.val (.int len), .val (.int c0), .val (.int c1), .val (.int c2), .val (.int ((3 : Int32))), .val (.int a), .val (.int b), .val (.int d), .val (.ref x105), .unset, .unset, .unset] [(.ref p109)]))
    have f110 := own_ext_trans f106 E109
    have f111 := own_ext_trans R0 E109
    have N112 := Fr.app N108 N109
    refine own_astore X109.here hx (hb hby at_47) rfl (L' := #[.val (.int len), .val (.int c0), .val (.int c1), .val (.int c2), .val (.int ((3 : Int32))), .val (.int a), .val (.int b), .val (.int d), .val (.ref x105), .val (.ref p109), .unset, .unset]) rfl (pc' := 49) rfl ?_
    refine own_aload X109.here hx (hb hby at_49) rfl rfl (pc' := 51) rfl ?_
    obtain ⟨cq113, kq113, qa113, qb113, qc113⟩ := isOf I109.1 rfl A109
    obtain ⟨_, _, ⟨T113, L113, k113, n113⟩, -, X113, ⟨Lc113, hQ113, l113, y113, z113⟩, st113⟩ := X109.virtualBack hx (y := (⟨"com/example/credential_to_assertion/credentialtoassertion/service/validation/IdentityTokenPresentation", "getAudiences", "()Ljava/util/List;"⟩ : MethodName)) (z := (⟨"com/example/credential_to_assertion/credentialtoassertion/service/validation/IdentityTokenPresentation", "getAudiences", "()Ljava/util/List;"⟩ : MethodName)) I109.2.1 (mvT I109.1 (hw _ (List.mem_of_getElem? (i := 96) rfl))) (mvT I109.1 (hw _ (List.mem_of_getElem? (i := 97) rfl))) (notFace_of_selects (args := #[]) (mvT I109.1 (hw _ (List.mem_of_getElem? (i := 99) rfl)))) (mvT I109.1 (hw _ (List.mem_of_getElem? (i := 99) rfl))) (mvT I109.1 (hw _ (List.mem_of_getElem? (i := 98) rfl))) (by decide) (backOf (W := 0) (rmGa l Z a0 hw p109 (.ref li109) T109.heap rfl B109) I109.1 (hw _ (List.mem_of_getElem? (i := 100) rfl)) (hw _ (List.mem_of_getElem? (i := 28) rfl)) (by decide) (by decide)) qa113 qc113 (g := (mkF m 51 #[.val (.int len), .val (.int c0), .val (.int c1), .val (.int c2), .val (.int ((3 : Int32))), .val (.int a), .val (.int b), .val (.int d), .val (.ref x105), .val (.ref p109), .unset, .unset] [(.ref p109)])) rfl (by rw [hml]; rfl) (Steps.refl _) (argsL := []) (rest := []) (lenOf pdLi rfl) rfl (by show 2 * 0 + _ ≤ _; exact Nat.le_of_eq rfl) (hb hby at_51) (fun _ _ => ⟨rfl, rfl, (Nat.le_of_ble_eq_true rfl), (Nat.le_of_ble_eq_true rfl)⟩)
    dsimp only [Pt.U, Pt.locs, Pt.cells, Pt.slots] at X113 l113 y113 z113 st113 hQ113
    subst l113 y113 z113
    obtain ⟨rfl, N113, E113⟩ := hQ113
    refine own_to st113 ?_
    show own_Go p e below F (T113.setTop (mkF m 54 #[.val (.int len), .val (.int c0), .val (.int c1), .val (.int c2), .val (.int ((3 : Int32))), .val (.int a), .val (.int b), .val (.int d), .val (.ref x105), .val (.ref p109), .unset, .unset] [(.ref li109)]))
    have N114 := Fr.app N112 N113
    refine own_astore X113.here hx (hb hby at_54) rfl (L' := #[.val (.int len), .val (.int c0), .val (.int c1), .val (.int c2), .val (.int ((3 : Int32))), .val (.int a), .val (.int b), .val (.int d), .val (.ref x105), .val (.ref p109), .val (.ref li109), .unset]) rfl (pc' := 56) rfl ?_
    refine own_aload X113.here hx (hb hby at_56) rfl rfl (pc' := 58) rfl ?_
    obtain ⟨cq115, kq115, qa115, qb115, qc115⟩ := isOf (s := s.setVm T109.vm) I109.1 E113 A1109
    obtain ⟨_, _, ⟨T115, L115, k115, n115⟩, -, X115, ⟨Lc115, hQ115, l115, y115, z115⟩, st115⟩ := X113.interfaceBack hx (xi := (⟨"java/util/List", "size", "()I"⟩ : MethodName)) (y := (⟨"java/util/ImmutableCollections$List12", "size", "()I"⟩ : MethodName)) I109.2.1 (mvT I109.1 (hw _ (List.mem_of_getElem? (i := 101) rfl))) (mvT I109.1 (hw _ (List.mem_of_getElem? (i := 102) rfl))) (mvT I109.1 (hw _ (List.mem_of_getElem? (i := 103) rfl))) (mvT I109.1 (hw _ (List.mem_of_getElem? (i := 104) rfl))) (mvT I109.1 (hw _ (List.mem_of_getElem? (i := 105) rfl))) (mvT I109.1 (hw _ (List.mem_of_getElem? (i := 106) rfl))) (mvT I109.1 (hw _ (List.mem_of_getElem? (i := 107) rfl))) (mvT I109.1 (hw _ (List.mem_of_getElem? (i := 89) rfl))) (by decide) (backOf (W := 0) (rmSz l Z a0 hw li109 T109.heap (own_ext_trans EZ f110) em OM G1109) I109.1 (hw _ (List.mem_of_getElem? (i := 108) rfl)) (hw _ (List.mem_of_getElem? (i := 44) rfl)) (by decide) (by decide)) qa115 qb115 qc115 (g := (mkF m 58 #[.val (.int len), .val (.int c0), .val (.int c1), .val (.int c2), .val (.int ((3 : Int32))), .val (.int a), .val (.int b), .val (.int d), .val (.ref x105), .val (.ref p109), .val (.ref li109), .unset] [(.ref li109)])) rfl (by rw [hml]; rfl) (Steps.refl _) (argsL := []) (rest := []) (lenOf pdI rfl) rfl (by show 2 * 0 + _ ≤ _; exact Nat.le_of_eq rfl) (hb hby at_58) (fun _ _ => ⟨rfl, E113, (Nat.le_of_ble_eq_true rfl), (Nat.le_of_ble_eq_true rfl)⟩)
    dsimp only [Pt.U, Pt.locs, Pt.cells, Pt.slots] at X115 l115 y115 z115 st115 hQ115
    subst l115 y115 z115
    obtain ⟨rfl, N115, E115⟩ := hQ115
    refine own_to st115 ?_
    show own_Go p e below F (T115.setTop (mkF m 63 #[.val (.int len), .val (.int c0), .val (.int c1), .val (.int c2), .val (.int ((3 : Int32))), .val (.int a), .val (.int b), .val (.int d), .val (.ref x105), .val (.ref p109), .val (.ref li109), .unset] [(.int ((1 : Int32)))]))
    have N116 := Fr.app N114 N115
    refine own_iconst X115.here hx (hb hby at_63) (v := 1) rfl (pc' := 64) rfl ?_
    refine own_icmpeq X115.here hx (hb hby at_64) (by decide) (pc' := 69) (by decide) (pc2 := 67) rfl (fun q117 => ?_) (fun q => absurd rfl q)
    refine own_aload X115.here hx (hb hby at_69) rfl rfl (pc' := 71) rfl ?_
    refine own_iconst X115.here hx (hb hby at_71) (v := 0) rfl (pc' := 72) rfl ?_
    obtain ⟨cq118, kq118, qa118, qb118, qc118⟩ := isOf (s := s.setVm T109.vm) I109.1 E115 A1109
    obtain ⟨_, _, ⟨T118, L118, k118, n118⟩, -, X118, ⟨Lc118, hQ118, l118, y118, z118⟩, st118⟩ := X115.interfaceBack hx (xi := (⟨"java/util/List", "get", "(I)Ljava/lang/Object;"⟩ : MethodName)) (y := (⟨"java/util/ImmutableCollections$List12", "get", "(I)Ljava/lang/Object;"⟩ : MethodName)) I109.2.1 (mvT I109.1 (hw _ (List.mem_of_getElem? (i := 109) rfl))) (mvT I109.1 (hw _ (List.mem_of_getElem? (i := 110) rfl))) (mvT I109.1 (hw _ (List.mem_of_getElem? (i := 111) rfl))) (mvT I109.1 (hw _ (List.mem_of_getElem? (i := 112) rfl))) (mvT I109.1 (hw _ (List.mem_of_getElem? (i := 113) rfl))) (mvT I109.1 (hw _ (List.mem_of_getElem? (i := 114) rfl))) (mvT I109.1 (hw _ (List.mem_of_getElem? (i := 115) rfl))) (mvT I109.1 (hw _ (List.mem_of_getElem? (i := 89) rfl))) (by decide) (backOf (W := 0) (rmGe l Z a0 hw li109 x105 T109.heap F1109) I109.1 (hw _ (List.mem_of_getElem? (i := 116) rfl)) (hw _ (List.mem_of_getElem? (i := 44) rfl)) (by decide) (by decide)) qa118 qb118 qc118 (g := (mkF m 72 #[.val (.int len), .val (.int c0), .val (.int c1), .val (.int c2), .val (.int ((3 : Int32))), .val (.int a), .val (.int b), .val (.int d), .val (.ref x105), .val (.ref p109), .val (.ref li109), .unset] [(.int ((0 : Int32))), (.ref li109)])) rfl (by rw [hml]; rfl) (Steps.refl _) (argsL := [(.int ((0 : Int32)))]) (rest := []) (lenOf pdGe rfl) rfl (by show 2 * 0 + _ ≤ _; exact Nat.le_of_eq rfl) (hb hby at_72) (fun _ _ => ⟨rfl, E115, (Nat.le_of_ble_eq_true rfl), (Nat.le_of_ble_eq_true rfl)⟩)
    dsimp only [Pt.U, Pt.locs, Pt.cells, Pt.slots] at X118 l118 y118 z118 st118 hQ118
    subst l118 y118 z118
    obtain ⟨rfl, N118, E118⟩ := hQ118
    refine own_to st118 ?_
    show own_Go p e below F (T118.setTop (mkF m 77 #[.val (.int len), .val (.int c0), .val (.int c1), .val (.int c2), .val (.int ((3 : Int32))), .val (.int a), .val (.int b), .val (.int d), .val (.ref x105), .val (.ref p109), .val (.ref li109), .unset] [(.ref x105)]))
    have N119 := Fr.app N116 N118
    have S120 := S105.ext f111
    obtain ⟨T121, X121, e121, st121⟩ := castY X118 hx I109.1 I109.2.1 (hw _ (List.mem_of_getElem? (i := 4) rfl)) E118 (Ins.self S120.exa) (g := (mkF m 77 #[.val (.int len), .val (.int c0), .val (.int c1), .val (.int c2), .val (.int ((3 : Int32))), .val (.int a), .val (.int b), .val (.int d), .val (.ref x105), .val (.ref p109), .val (.ref li109), .unset] [(.ref x105)])) rfl rfl (hb hby at_77)
    refine own_on st121 ?_
    show own_Go p e below F (T121.setTop (mkF m 80 #[.val (.int len), .val (.int c0), .val (.int c1), .val (.int c2), .val (.int ((3 : Int32))), .val (.int a), .val (.int b), .val (.int d), .val (.ref x105), .val (.ref p109), .val (.ref li109), .unset] [(.ref x105)]))
    refine own_astore X121.here hx (hb hby at_80) rfl (L' := #[.val (.int len), .val (.int c0), .val (.int c1), .val (.int c2), .val (.int ((3 : Int32))), .val (.int a), .val (.int b), .val (.int d), .val (.ref x105), .val (.ref p109), .val (.ref li109), .val (.ref x105)]) rfl (pc' := 82) rfl ?_
    refine own_aload X121.here hx (hb hby at_82) rfl rfl (pc' := 84) rfl ?_
    obtain ⟨cq122, kq122, qa122, qb122, qc122⟩ := isOf I109.1 e121 S120.exa
    obtain ⟨_, _, ⟨T122, L122, k122, n122⟩, -, X122, ⟨Lc122, hQ122, l122, y122, z122⟩, st122⟩ := X121.virtualBack hx (y := (⟨"java/lang/String", "length", "()I"⟩ : MethodName)) (z := (⟨"java/lang/String", "length", "()I"⟩ : MethodName)) I109.2.1 (mvT I109.1 (hw _ (List.mem_of_getElem? (i := 117) rfl))) (mvT I109.1 (hw _ (List.mem_of_getElem? (i := 118) rfl))) (notFace_of_selects (args := #[]) (mvT I109.1 (hw _ (List.mem_of_getElem? (i := 120) rfl)))) (mvT I109.1 (hw _ (List.mem_of_getElem? (i := 120) rfl))) (mvT I109.1 (hw _ (List.mem_of_getElem? (i := 119) rfl))) (by decide) (own_lenB (s := s.setVm T109.vm) (W := 0) I109.1 hw S120 (O1.ext (own_ext_trans EZ f110)) P5 (by decide) (by decide)) qa122 qc122 (g := (mkF m 84 #[.val (.int len), .val (.int c0), .val (.int c1), .val (.int c2), .val (.int ((3 : Int32))), .val (.int a), .val (.int b), .val (.int d), .val (.ref x105), .val (.ref p109), .val (.ref li109), .val (.ref x105)] [(.ref x105)])) rfl (by rw [hml]; rfl) (Steps.refl _) (argsL := []) (rest := []) (lenOf pdI rfl) rfl (by show 2 * 0 + _ ≤ _; exact Nat.le_of_eq rfl) (hb hby at_84) (fun _ _ => ⟨rfl, e121, (Nat.le_of_ble_eq_true rfl), (Nat.le_of_ble_eq_true rfl)⟩)
    dsimp only [Pt.U, Pt.locs, Pt.cells, Pt.slots] at X122 l122 y122 z122 st122 hQ122
    subst l122 y122 z122
    obtain ⟨rfl, rfl, E122⟩ := hQ122
    refine own_to st122 ?_
    show own_Go p e below F (T122.setTop (mkF m 87 #[.val (.int len), .val (.int c0), .val (.int c1), .val (.int c2), .val (.int ((3 : Int32))), .val (.int a), .val (.int b), .val (.int d), .val (.ref x105), .val (.ref p109), .val (.ref li109), .val (.ref x105)] [(.int (Int32.ofNat 3))]))
    refine own_iload X122.here hx (hb hby at_87) rfl (pc' := 89) rfl ?_
    refine own_icmpeq X122.here hx (hb hby at_89) (by decide) (pc' := 94) (by decide) (pc2 := 92) rfl (fun q123 => ?_) (fun q => absurd rfl q)
    refine own_iload X122.here hx (hb hby at_94) rfl (pc' := 96) rfl ?_
    refine own_iconst X122.here hx (hb hby at_96) (v := 1) rfl (pc' := 97) rfl ?_
    refine own_icmplt X122.here hx (hb hby at_97) (by decide) (pc' := 113) (by decide) (pc2 := 100) rfl (fun q => absurd q (by decide)) (fun q124 => ?_)
    refine own_aload X122.here hx (hb hby at_100) rfl rfl (pc' := 102) rfl ?_
    refine own_iconst X122.here hx (hb hby at_102) (v := 0) rfl (pc' := 103) rfl ?_
    obtain ⟨cq125, kq125, qa125, qb125, qc125⟩ := isOf I109.1 E122 S120.exa
    obtain ⟨_, _, ⟨T125, L125, k125, n125⟩, -, X125, ⟨Lc125, hQ125, l125, y125, z125⟩, st125⟩ := X122.virtualBack hx (y := (⟨"java/lang/String", "charAt", "(I)C"⟩ : MethodName)) (z := (⟨"java/lang/String", "charAt", "(I)C"⟩ : MethodName)) I109.2.1 (mvT I109.1 (hw _ (List.mem_of_getElem? (i := 165) rfl))) (mvT I109.1 (hw _ (List.mem_of_getElem? (i := 166) rfl))) (notFace_of_selects (args := #[]) (mvT I109.1 (hw _ (List.mem_of_getElem? (i := 168) rfl)))) (mvT I109.1 (hw _ (List.mem_of_getElem? (i := 168) rfl))) (mvT I109.1 (hw _ (List.mem_of_getElem? (i := 167) rfl))) (by decide) (own_chB (s := s.setVm T109.vm) (W := 0) I109.1 hw S120 (O1.ext (own_ext_trans EZ f110)) P5 (O2.ext (own_ext_trans EZ f110)) rf (i := 0) (Nat.le_of_ble_eq_true rfl) rfl (by decide) (by decide)) qa125 qc125 (g := (mkF m 103 #[.val (.int len), .val (.int c0), .val (.int c1), .val (.int c2), .val (.int ((3 : Int32))), .val (.int a), .val (.int b), .val (.int d), .val (.ref x105), .val (.ref p109), .val (.ref li109), .val (.ref x105)] [(.int ((0 : Int32))), (.ref x105)])) rfl (by rw [hml]; rfl) (Steps.refl _) (argsL := [(.int ((0 : Int32)))]) (rest := []) (lenOf pdCh rfl) rfl (by show 2 * 0 + _ ≤ _; exact Nat.le_of_eq rfl) (hb hby at_103) (fun _ _ => ⟨rfl, E122, (Nat.le_of_ble_eq_true rfl), (Nat.le_of_ble_eq_true rfl)⟩)
    dsimp only [Pt.U, Pt.locs, Pt.cells, Pt.slots] at X125 l125 y125 z125 st125 hQ125
    subst l125 y125 z125
    obtain ⟨rfl, rfl, E125⟩ := hQ125
    refine own_to st125 ?_
    show own_Go p e below F (T125.setTop (mkF m 106 #[.val (.int len), .val (.int c0), .val (.int c1), .val (.int c2), .val (.int ((3 : Int32))), .val (.int a), .val (.int b), .val (.int d), .val (.ref x105), .val (.ref p109), .val (.ref li109), .val (.ref x105)] [(.int a)]))
    refine own_iload X125.here hx (hb hby at_106) rfl (pc' := 108) rfl ?_
    refine own_icmpeq X125.here hx (hb hby at_108) (by decide) (pc' := 113) (by decide) (pc2 := 111) rfl (fun q126 => ?_) (fun q => absurd rfl q)
    refine own_iload X125.here hx (hb hby at_113) rfl (pc' := 115) rfl ?_
    refine own_iconst X125.here hx (hb hby at_115) (v := 2) rfl (pc' := 116) rfl ?_
    refine own_icmplt X125.here hx (hb hby at_116) (by decide) (pc' := 132) (by decide) (pc2 := 119) rfl (fun q => absurd q (by decide)) (fun q127 => ?_)
    refine own_aload X125.here hx (hb hby at_119) rfl rfl (pc' := 121) rfl ?_
    refine own_iconst X125.here hx (hb hby at_121) (v := 1) rfl (pc' := 122) rfl ?_
    obtain ⟨cq128, kq128, qa128, qb128, qc128⟩ := isOf I109.1 E125 S120.exa
    obtain ⟨_, _, ⟨T128, L128, k128, n128⟩, -, X128, ⟨Lc128, hQ128, l128, y128, z128⟩, st128⟩ := X125.virtualBack hx (y := (⟨"java/lang/String", "charAt", "(I)C"⟩ : MethodName)) (z := (⟨"java/lang/String", "charAt", "(I)C"⟩ : MethodName)) I109.2.1 (mvT I109.1 (hw _ (List.mem_of_getElem? (i := 165) rfl))) (mvT I109.1 (hw _ (List.mem_of_getElem? (i := 166) rfl))) (notFace_of_selects (args := #[]) (mvT I109.1 (hw _ (List.mem_of_getElem? (i := 168) rfl)))) (mvT I109.1 (hw _ (List.mem_of_getElem? (i := 168) rfl))) (mvT I109.1 (hw _ (List.mem_of_getElem? (i := 167) rfl))) (by decide) (own_chB (s := s.setVm T109.vm) (W := 0) I109.1 hw S120 (O1.ext (own_ext_trans EZ f110)) P5 (O2.ext (own_ext_trans EZ f110)) rf (i := 1) (Nat.le_of_ble_eq_true rfl) rfl (by decide) (by decide)) qa128 qc128 (g := (mkF m 122 #[.val (.int len), .val (.int c0), .val (.int c1), .val (.int c2), .val (.int ((3 : Int32))), .val (.int a), .val (.int b), .val (.int d), .val (.ref x105), .val (.ref p109), .val (.ref li109), .val (.ref x105)] [(.int ((1 : Int32))), (.ref x105)])) rfl (by rw [hml]; rfl) (Steps.refl _) (argsL := [(.int ((1 : Int32)))]) (rest := []) (lenOf pdCh rfl) rfl (by show 2 * 0 + _ ≤ _; exact Nat.le_of_eq rfl) (hb hby at_122) (fun _ _ => ⟨rfl, E125, (Nat.le_of_ble_eq_true rfl), (Nat.le_of_ble_eq_true rfl)⟩)
    dsimp only [Pt.U, Pt.locs, Pt.cells, Pt.slots] at X128 l128 y128 z128 st128 hQ128
    subst l128 y128 z128
    obtain ⟨rfl, rfl, E128⟩ := hQ128
    refine own_to st128 ?_
    show own_Go p e below F (T128.setTop (mkF m 125 #[.val (.int len), .val (.int c0), .val (.int c1), .val (.int c2), .val (.int ((3 : Int32))), .val (.int a), .val (.int b), .val (.int d), .val (.ref x105), .val (.ref p109), .val (.ref li109), .val (.ref x105)] [(.int b)]))
    refine own_iload X128.here hx (hb hby at_125) rfl (pc' := 127) rfl ?_
    refine own_icmpeq X128.here hx (hb hby at_127) (by decide) (pc' := 132) (by decide) (pc2 := 130) rfl (fun q129 => ?_) (fun q => absurd rfl q)
    refine own_iload X128.here hx (hb hby at_132) rfl (pc' := 134) rfl ?_
    refine own_iconst X128.here hx (hb hby at_134) (v := 3) rfl (pc' := 135) rfl ?_
    refine own_icmplt X128.here hx (hb hby at_135) (by decide) (pc' := 151) (by decide) (pc2 := 138) rfl (fun q => absurd q (by decide)) (fun q130 => ?_)
    refine own_aload X128.here hx (hb hby at_138) rfl rfl (pc' := 140) rfl ?_
    refine own_iconst X128.here hx (hb hby at_140) (v := 2) rfl (pc' := 141) rfl ?_
    obtain ⟨cq131, kq131, qa131, qb131, qc131⟩ := isOf I109.1 E128 S120.exa
    obtain ⟨_, _, ⟨T131, L131, k131, n131⟩, -, X131, ⟨Lc131, hQ131, l131, y131, z131⟩, st131⟩ := X128.virtualBack hx (y := (⟨"java/lang/String", "charAt", "(I)C"⟩ : MethodName)) (z := (⟨"java/lang/String", "charAt", "(I)C"⟩ : MethodName)) I109.2.1 (mvT I109.1 (hw _ (List.mem_of_getElem? (i := 165) rfl))) (mvT I109.1 (hw _ (List.mem_of_getElem? (i := 166) rfl))) (notFace_of_selects (args := #[]) (mvT I109.1 (hw _ (List.mem_of_getElem? (i := 168) rfl)))) (mvT I109.1 (hw _ (List.mem_of_getElem? (i := 168) rfl))) (mvT I109.1 (hw _ (List.mem_of_getElem? (i := 167) rfl))) (by decide) (own_chB (s := s.setVm T109.vm) (W := 0) I109.1 hw S120 (O1.ext (own_ext_trans EZ f110)) P5 (O2.ext (own_ext_trans EZ f110)) rf (i := 2) (Nat.le_of_ble_eq_true rfl) rfl (by decide) (by decide)) qa131 qc131 (g := (mkF m 141 #[.val (.int len), .val (.int c0), .val (.int c1), .val (.int c2), .val (.int ((3 : Int32))), .val (.int a), .val (.int b), .val (.int d), .val (.ref x105), .val (.ref p109), .val (.ref li109), .val (.ref x105)] [(.int ((2 : Int32))), (.ref x105)])) rfl (by rw [hml]; rfl) (Steps.refl _) (argsL := [(.int ((2 : Int32)))]) (rest := []) (lenOf pdCh rfl) rfl (by show 2 * 0 + _ ≤ _; exact Nat.le_of_eq rfl) (hb hby at_141) (fun _ _ => ⟨rfl, E128, (Nat.le_of_ble_eq_true rfl), (Nat.le_of_ble_eq_true rfl)⟩)
    dsimp only [Pt.U, Pt.locs, Pt.cells, Pt.slots] at X131 l131 y131 z131 st131 hQ131
    subst l131 y131 z131
    obtain ⟨rfl, rfl, E131⟩ := hQ131
    refine own_to st131 ?_
    show own_Go p e below F (T131.setTop (mkF m 144 #[.val (.int len), .val (.int c0), .val (.int c1), .val (.int c2), .val (.int ((3 : Int32))), .val (.int a), .val (.int b), .val (.int d), .val (.ref x105), .val (.ref p109), .val (.ref li109), .val (.ref x105)] [(.int d)]))
    refine own_iload X131.here hx (hb hby at_144) rfl (pc' := 146) rfl ?_
    refine own_icmpeq X131.here hx (hb hby at_146) (by decide) (pc' := 151) (by decide) (pc2 := 149) rfl (fun q132 => ?_) (fun q => absurd rfl q)
    refine own_aload X131.here hx (hb hby at_151) rfl rfl (pc' := 153) rfl ?_
    refine own_aload X131.here hx (hb hby at_153) rfl rfl (pc' := 155) rfl ?_
    obtain ⟨cq133, kq133, qa133, qb133, qc133⟩ := isOf I109.1 E131 S120.exa
    obtain ⟨_, _, ⟨T133, L133, k133, n133⟩, -, X133, ⟨Lc133, hQ133, l133, y133, z133⟩, st133⟩ := X131.virtualBack hx (y := (⟨"java/lang/String", "equals", "(Ljava/lang/Object;)Z"⟩ : MethodName)) (z := (⟨"java/lang/String", "equals", "(Ljava/lang/Object;)Z"⟩ : MethodName)) I109.2.1 (mvT I109.1 (hw _ (List.mem_of_getElem? (i := 128) rfl))) (mvT I109.1 (hw _ (List.mem_of_getElem? (i := 129) rfl))) (notFace_of_selects (args := #[]) (mvT I109.1 (hw _ (List.mem_of_getElem? (i := 131) rfl)))) (mvT I109.1 (hw _ (List.mem_of_getElem? (i := 131) rfl))) (mvT I109.1 (hw _ (List.mem_of_getElem? (i := 130) rfl))) (by decide) (backOf (W := 0) (rmEq l Z a0 hw x105 T109.heap) I109.1 (hw _ (List.mem_of_getElem? (i := 132) rfl)) (hw _ (List.mem_of_getElem? (i := 6) rfl)) (by decide) (by decide)) qa133 qc133 (g := (mkF m 155 #[.val (.int len), .val (.int c0), .val (.int c1), .val (.int c2), .val (.int ((3 : Int32))), .val (.int a), .val (.int b), .val (.int d), .val (.ref x105), .val (.ref p109), .val (.ref li109), .val (.ref x105)] [(.ref x105), (.ref x105)])) rfl (by rw [hml]; rfl) (Steps.refl _) (argsL := [(.ref x105)]) (rest := []) (lenOf pdEq rfl) rfl (by show 2 * 0 + _ ≤ _; exact Nat.le_of_eq rfl) (hb hby at_155) (fun _ _ => ⟨rfl, E131, (Nat.le_of_ble_eq_true rfl), (Nat.le_of_ble_eq_true rfl)⟩)
    dsimp only [Pt.U, Pt.locs, Pt.cells, Pt.slots] at X133 l133 y133 z133 st133 hQ133
    subst l133 y133 z133
    obtain ⟨rfl, N133, E133⟩ := hQ133
    refine own_to st133 ?_
    show own_Go p e below F (T133.setTop (mkF m 158 #[.val (.int len), .val (.int c0), .val (.int c1), .val (.int c2), .val (.int ((3 : Int32))), .val (.int a), .val (.int b), .val (.int d), .val (.ref x105), .val (.ref p109), .val (.ref li109), .val (.ref x105)] [(.int ((1 : Int32)))]))
    have N134 := Fr.app N119 N133
    refine own_ifne X133.here hx (hb hby at_158) (by decide) (pc' := 163) (by decide) (pc2 := 161) rfl (fun q135 => ?_) (fun q => absurd q (by decide))
    refine own_aload X133.here hx (hb hby at_163) rfl rfl (pc' := 165) rfl ?_
    obtain ⟨cq136, kq136, qa136, qb136, qc136⟩ := isOf I109.1 E133 A109
    obtain ⟨_, _, ⟨T136, L136, k136, n136⟩, -, X136, ⟨Lc136, hQ136, l136, y136, z136⟩, st136⟩ := X133.virtualBack hx (y := (⟨"com/example/credential_to_assertion/credentialtoassertion/service/validation/IdentityTokenPresentation", "isBearerGrant", "()Z"⟩ : MethodName)) (z := (⟨"com/example/credential_to_assertion/credentialtoassertion/service/validation/IdentityTokenPresentation", "isBearerGrant", "()Z"⟩ : MethodName)) I109.2.1 (mvT I109.1 (hw _ (List.mem_of_getElem? (i := 133) rfl))) (mvT I109.1 (hw _ (List.mem_of_getElem? (i := 134) rfl))) (notFace_of_selects (args := #[]) (mvT I109.1 (hw _ (List.mem_of_getElem? (i := 136) rfl)))) (mvT I109.1 (hw _ (List.mem_of_getElem? (i := 136) rfl))) (mvT I109.1 (hw _ (List.mem_of_getElem? (i := 135) rfl))) (by decide) (backOf (W := 0) (rmBg l Z a0 hw p109 0 T109.heap (Or.inl rfl) D109) I109.1 (hw _ (List.mem_of_getElem? (i := 137) rfl)) (hw _ (List.mem_of_getElem? (i := 28) rfl)) (by decide) (by decide)) qa136 qc136 (g := (mkF m 165 #[.val (.int len), .val (.int c0), .val (.int c1), .val (.int c2), .val (.int ((3 : Int32))), .val (.int a), .val (.int b), .val (.int d), .val (.ref x105), .val (.ref p109), .val (.ref li109), .val (.ref x105)] [(.ref p109)])) rfl (by rw [hml]; rfl) (Steps.refl _) (argsL := []) (rest := []) (lenOf pdZ rfl) rfl (by show 2 * 0 + _ ≤ _; exact Nat.le_of_eq rfl) (hb hby at_165) (fun _ _ => ⟨rfl, E133, (Nat.le_of_ble_eq_true rfl), (Nat.le_of_ble_eq_true rfl)⟩)
    dsimp only [Pt.U, Pt.locs, Pt.cells, Pt.slots] at X136 l136 y136 z136 st136 hQ136
    subst l136 y136 z136
    obtain ⟨rfl, N136, E136⟩ := hQ136
    refine own_to st136 ?_
    show own_Go p e below F (T136.setTop (mkF m 168 #[.val (.int len), .val (.int c0), .val (.int c1), .val (.int c2), .val (.int ((3 : Int32))), .val (.int a), .val (.int b), .val (.int d), .val (.ref x105), .val (.ref p109), .val (.ref li109), .val (.ref x105)] [(.int ((0 : Int32)))]))
    have N137 := Fr.app N134 N136
    refine own_ifeq X136.here hx (hb hby at_168) (by decide) (pc' := 173) (by decide) (pc2 := 171) rfl (fun q138 => ?_) (fun q => absurd rfl q)
    refine own_aload X136.here hx (hb hby at_173) rfl rfl (pc' := 175) rfl ?_
    obtain ⟨cq139, kq139, qa139, qb139, qc139⟩ := isOf I109.1 E136 A109
    obtain ⟨_, _, ⟨T139, L139, k139, n139⟩, -, X139, ⟨Lc139, hQ139, l139, y139, z139⟩, st139⟩ := X136.virtualBack hx (y := (⟨"com/example/credential_to_assertion/credentialtoassertion/service/validation/IdentityTokenPresentation", "getTokenEndpoint", "()Ljava/util/Optional;"⟩ : MethodName)) (z := (⟨"com/example/credential_to_assertion/credentialtoassertion/service/validation/IdentityTokenPresentation", "getTokenEndpoint", "()Ljava/util/Optional;"⟩ : MethodName)) I109.2.1 (mvT I109.1 (hw _ (List.mem_of_getElem? (i := 138) rfl))) (mvT I109.1 (hw _ (List.mem_of_getElem? (i := 139) rfl))) (notFace_of_selects (args := #[]) (mvT I109.1 (hw _ (List.mem_of_getElem? (i := 141) rfl)))) (mvT I109.1 (hw _ (List.mem_of_getElem? (i := 141) rfl))) (mvT I109.1 (hw _ (List.mem_of_getElem? (i := 140) rfl))) (by decide) (backOf (W := 0) (rmTe l Z a0 hw p109 T109.heap (own_ext_trans EZ f110) eo OE AE FE G109) I109.1 (hw _ (List.mem_of_getElem? (i := 142) rfl)) (hw _ (List.mem_of_getElem? (i := 28) rfl)) (by decide) (by decide)) qa139 qc139 (g := (mkF m 175 #[.val (.int len), .val (.int c0), .val (.int c1), .val (.int c2), .val (.int ((3 : Int32))), .val (.int a), .val (.int b), .val (.int d), .val (.ref x105), .val (.ref p109), .val (.ref li109), .val (.ref x105)] [(.ref p109)])) rfl (by rw [hml]; rfl) (Steps.refl _) (argsL := []) (rest := []) (lenOf pdOp rfl) rfl (by show 2 * 0 + _ ≤ _; exact Nat.le_of_eq rfl) (hb hby at_175) (fun _ _ => ⟨rfl, E136, (Nat.le_of_ble_eq_true rfl), (Nat.le_of_ble_eq_true rfl)⟩)
    dsimp only [Pt.U, Pt.locs, Pt.cells, Pt.slots] at X139 l139 y139 z139 st139 hQ139
    subst l139 y139 z139
    obtain ⟨rfl, N139, E139⟩ := hQ139
    refine own_to st139 ?_
    show own_Go p e below F (T139.setTop (mkF m 178 #[.val (.int len), .val (.int c0), .val (.int c1), .val (.int c2), .val (.int ((3 : Int32))), .val (.int a), .val (.int b), .val (.int d), .val (.ref x105), .val (.ref p109), .val (.ref li109), .val (.ref x105)] [(.ref eo)]))
    have N140 := Fr.app N137 N139
    obtain ⟨cq141, kq141, qa141, qb141, qc141⟩ := isOf I109.1 E139 (AE.ext (own_ext_trans EZ f110))
    obtain ⟨_, _, ⟨T141, L141, k141, n141⟩, -, X141, ⟨Lc141, hQ141, l141, y141, z141⟩, st141⟩ := X139.virtualBack hx (y := (⟨"java/util/Optional", "isPresent", "()Z"⟩ : MethodName)) (z := (⟨"java/util/Optional", "isPresent", "()Z"⟩ : MethodName)) I109.2.1 (mvT I109.1 (hw _ (List.mem_of_getElem? (i := 148) rfl))) (mvT I109.1 (hw _ (List.mem_of_getElem? (i := 149) rfl))) (notFace_of_selects (args := #[]) (mvT I109.1 (hw _ (List.mem_of_getElem? (i := 151) rfl)))) (mvT I109.1 (hw _ (List.mem_of_getElem? (i := 151) rfl))) (mvT I109.1 (hw _ (List.mem_of_getElem? (i := 150) rfl))) (by decide) (backOf (W := 0) (rmIp l Z a0 hw eo T109.heap (FE.ext (own_ext_trans EZ f110))) I109.1 (hw _ (List.mem_of_getElem? (i := 152) rfl)) (hw _ (List.mem_of_getElem? (i := 145) rfl)) (by decide) (by decide)) qa141 qc141 (g := (mkF m 178 #[.val (.int len), .val (.int c0), .val (.int c1), .val (.int c2), .val (.int ((3 : Int32))), .val (.int a), .val (.int b), .val (.int d), .val (.ref x105), .val (.ref p109), .val (.ref li109), .val (.ref x105)] [(.ref eo)])) rfl (by rw [hml]; rfl) (Steps.refl _) (argsL := []) (rest := []) (lenOf pdZ rfl) rfl (by show 2 * 0 + _ ≤ _; exact Nat.le_of_eq rfl) (hb hby at_178) (fun _ _ => ⟨rfl, E139, (Nat.le_of_ble_eq_true rfl), (Nat.le_of_ble_eq_true rfl)⟩)
    dsimp only [Pt.U, Pt.locs, Pt.cells, Pt.slots] at X141 l141 y141 z141 st141 hQ141
    subst l141 y141 z141
    obtain ⟨rfl, N141, E141⟩ := hQ141
    refine own_to st141 ?_
    show own_Go p e below F (T141.setTop (mkF m 181 #[.val (.int len), .val (.int c0), .val (.int c1), .val (.int c2), .val (.int ((3 : Int32))), .val (.int a), .val (.int b), .val (.int d), .val (.ref x105), .val (.ref p109), .val (.ref li109), .val (.ref x105)] [(.int ((0 : Int32)))]))
    have N142 := Fr.app N140 N141
    refine own_ifne X141.here hx (hb hby at_181) (by decide) (pc' := 188) (by decide) (pc2 := 184) rfl (fun q => absurd rfl q) (fun q143 => ?_)
    refine own_iconst X141.here hx (hb hby at_184) (v := 1) rfl (pc' := 185) rfl ?_
    refine own_goto X141.here hx (hb hby at_185) (by decide) (pc' := 189) (by decide) ?_
    exact own_retZW X141 hx hlk hEL I109 E141 (by decide) hret (hb hby at_189) (fun t ht hC hE => hF t _ _ _ _ (by rw [ht]; exact ⟨rfl, (by simpa using N142)⟩) hC hE (by decide) (by decide))
set_option maxRecDepth 65536 in
set_option maxHeartbeats 40000000 in
theorem comes_1 {Post : Tables → Env → Array Value → State → Outcome → State → Prop} (hpost : ∀ tb e args s v u, (limb_1_1.after args s (.returned v) u = true ∧ limb_1_2.after args s (.returned v) u = true ∧ True) → FramedW s (.returned v) u (Jvm.fieldLocs frame_1_writes args s ++ Jvm.arrayLocs frame_1_arrays args s ++ Jvm.staticLocs frame_1_statics s) 24 2176 → Post tb e args s (.returned v) u) :
    ArmFor flags0 classFile x code maxLocals ret World_1 tables_1 room_1 Calls_1 rest_1 Pre_1 Post := by
  intro l hfl _ _ p e ha hc hk s m args below hf hA hF happ hP
  obtain ⟨hcalls, hrest, hpre⟩ := hP
  obtain ⟨-, -, -, hnamed, -, -, -, hat⟩ := (Spec.applies_iff hf).mp happ
  obtain ⟨hg, hn⟩ := and_e (Cond.before_iff.mp (show (Jvm.Cond.and given_1 narrow_1).before args s = true from hpre))
  obtain ⟨g1, g2⟩ := and_e hg
  obtain ⟨w0, w1, w2, w3, rfl⟩ : ∃ w0 w1 w2 w3 : Value, args = #[w0, w1, w2, w3] := by
    have hs : args.size = 4 := by simpa [Cond.value, given_1] using g1
    obtain ⟨L⟩ := args
    match L, hs with
    | [w0, w1, w2, w3], _ => exact ⟨w0, w1, w2, w3, rfl⟩
  have hw := fun d (hd : d ∈ tables_1) => atoms_spec (ws := Jvm.Cond.code x code maxLocals ret :: tables_1) hat d (List.mem_cons_of_mem _ hd)
  have hfit : Fit s := fun {y c} hc i hi => by
    obtain ⟨ha, rfl⟩ := Array.getElem?_eq_some_iff.mp hc
    have q := List.all_eq_true.mp ((Array.all_eq_true_iff_forall_mem.mp hF) _ (Array.getElem_mem ha)) i (List.mem_range.mpr hi)
    simpa [Array.getElem?_eq_getElem hi] using q
  obtain ⟨a0, g3⟩ := and_e g2
  obtain ⟨i0, b0⟩ := is_v a0
  obtain rfl : w0 = (.int i0) := Option.some.inj b0
  obtain ⟨a1, g4⟩ := and_e g3
  obtain ⟨i1, b1⟩ := is_v a1
  obtain rfl : w1 = (.int i1) := Option.some.inj b1
  obtain ⟨a2, g5⟩ := and_e g4
  obtain ⟨i2, b2⟩ := is_v a2
  obtain rfl : w2 = (.int i2) := Option.some.inj b2
  obtain ⟨i3, b3⟩ := is_v g5
  obtain rfl : w3 = (.int i3) := Option.some.inj b3
  obtain ⟨hsets, -⟩ := atoms_of _ (rest_1_c_eq ▸ (show rest_1_c.before _ s = true from hrest))
  have hz0 := not_v (Cond.before_iff.mp (hsets _ (List.mem_of_getElem? (i := 11) rfl)))
  obtain ⟨z0, ez0⟩ := is_v (Cond.before_iff.mp (hsets _ (List.mem_of_getElem? (i := 10) rfl)))
  have O1 : Sta s s.heap "java/lang/String" "COMPACT_STRINGS" "Z" (.int z0) := Sta.start ez0 (Or.inl (hsets _ (List.mem_of_getElem? (i := 9) rfl)))
  obtain ⟨fm, efm, rf⟩ := isR_v (Cond.before_iff.mp (hsets _ (List.mem_of_getElem? (i := 17) rfl)))
  have O2 : Sta s s.heap "jdk/internal/util/Preconditions" "SIOOBE_FORMATTER" "Ljava/util/function/BiFunction;" fm := Sta.start efm (Or.inl (hsets _ (List.mem_of_getElem? (i := 16) rfl)))
  have P5 : ¬ (z0 = (0 : Int32)) := gotF (Cond.eq_ints ez0 (Term.int_eval (0))) hz0
  have hcw : Jvm.Lit.compactW.before _ s = true := hsets _ (List.mem_of_getElem? (i := 11) rfl)
  have hEL : EW s _ EL := EW.cons (hw _ (List.mem_of_getElem? (i := 18) rfl)) (by decide) (EW.nil)
  have hC : CHv s EL s.vm s.heap := CHv.start hEL (fun q hq => by
    simp only [EL, List.mem_cons, List.not_mem_nil, or_false] at hq
    exact hcalls.1 q (by rcases hq with rfl <;> simp [consts_1])) hcw (hw _ (by decide +kernel)) (hw _ own_wiS)
  obtain ⟨em, _, _, _, vM, -⟩ := Cond.exactly_spec (hsets _ (List.mem_of_getElem? (i := 2) rfl))
  have OM : Sta s s.heap "java/util/ImmutableCollections" "EMPTY" "Ljava/lang/Object;" (.ref em) := Sta.start vM (Or.inl (hsets _ (List.mem_of_getElem? (i := 1) rfl)))
  obtain ⟨eo, _, _, _, vE, -⟩ := Cond.exactly_spec (hsets _ (List.mem_of_getElem? (i := 20) rfl))
  have OE : Sta s s.heap "java/util/Optional" "EMPTY" "Ljava/util/Optional;" (.ref eo) := Sta.start vE (Or.inl (hsets _ (List.mem_of_getElem? (i := 19) rfl)))
  have AE : Exa s s.heap eo "java/util/Optional" := Exa.start vE (Cond.before_iff.mp (hsets _ (List.mem_of_getElem? (i := 20) rfl)))
  have FE : Fld s s.heap eo "java/util/Optional" "value" "Ljava/lang/Object;" .null := own_fldnull vE (Cond.before_iff.mp (hsets _ (List.mem_of_getElem? (i := 21) rfl)))
  obtain ⟨n, o, h1, h2, h3, _, L, rfl, ⟨rfl, N⟩, -, hq⟩ := rmL l s _ hw hEL i0 i1 i2 i3 s.heap (own_ext_refl _) z0 O1 P5 fm O2 rf em OM eo OE AE FE p e ha hc hk s m _ below hf ((Spec.applies_iff_loose hf).mp happ).1 ⟨rfl, State.Warmed39.refl s, rfl, hC, fun _ q => nomatch q⟩ trivial
  refine ⟨n, _, h1, h2, h3, hpost _ _ _ _ _ _ ⟨Cond.after_iff.mpr rfl, Cond.after_iff.mpr (eq_i res_at (Term.int_eval (1)) rfl), trivial⟩ ⟨hq.1, hq.2.1, hq.2.2.1, hq.2.2.2.sift fun y hy => Or.inr (N y hy)⟩⟩
theorem main_1_1 : Claimed_1_1 := comes_1 fun _ _ _ _ _ _ h hF => ⟨h.1, hF⟩
theorem main_1_2 : Claimed_1_2 := comes_1 fun _ _ _ _ _ _ h hF => ⟨h.2.1, hF⟩
end Jvm.Pilot.@@N@@
namespace Jvm.Pilot.@@N@@
open Jvm Jvm.ClassFile Sem Op Lib Jvm.Free Jvm.Stand Jvm.Pilot.@@N@@.Jvm.D
/-! MADE BY PROGRAM (witnessworld.py) out of the Statement's table words and the real class files: 33 classes; the members and pool entries that the words name. The judged class is class 1, her method 2. -/
namespace start1
open Jvm.ClassFile
def u (s : String) : CpInfo := .utf8 (stringToUtf16 s)
/-- a pool by its gaps: so many unusable entries, then the entry; so many at the end -/
def gap : Nat → List CpInfo → List CpInfo
  | 0, r => r
  | n + 1, r => .unusable :: gap n r
def poolList (es : List (Nat × CpInfo)) (last : Nat) : List CpInfo := es.foldr (fun e r => gap e.1 (e.2 :: r)) (gap last [])
def pool (es : List (Nat × CpInfo)) (last : Nat) : Array CpInfo := ⟨poolList es last⟩
def fileOf (pool : Array CpInfo) (this : Nat) (attrs : Array Attribute := #[]) (ms : Array MethodInfo := #[]) (fl : Nat := 33) (sup : Nat := 0) (ifs : Array Nat := #[]) (fds : Array FieldInfo := #[]) : ClassFile where
  minorVersion := 0
  majorVersion := 65
  constantPool := pool
  accessFlags := fl
  thisClass := this
  superClass := sup
  interfaces := ifs
  fields := fds
  methods := ms
  attributes := attrs
def plain (name : String) (sup : Option ClassId) : Class where
  name := name
  kind := .ordinary
  loader := none
  accessFlags := 33
  super := sup
  interfaces := #[]
  cf := none
  fields := #[]
  methods := #[]
  instanceTypes := #[]
  staticTypes := #[]
  resolved := #[]
  callSites := []
  init := .initialized
  statics := none
  mirror := none

def pool0 : Array CpInfo := pool [(5, u "<init>"), (0, u "()V"), (1, .class_ 10), (1, u "java/lang/Object")] 113

def k0c0 : Code := { maxStack := 0, maxLocals := 1, code := object_method_1_code, exceptionTable := #[], attributes := #[] }
def k0m0 : Method := { name := "<init>", desc := "()V", sig := { parameters := [], returnType := none }, accessFlags := 1, code := some k0c0 }
/-- java/lang/Object -/
def k0 : Class := { plain "java/lang/Object" none with
  accessFlags := 33
  interfaces := #[]
  cf := some (fileOf pool0 8 #[] #[{ accessFlags := 1, nameIndex := 5, descriptorIndex := 6, attributes := #[] }] 33 0 #[] #[])
  fields := #[]
  methods := #[k0m0]
  instanceTypes := #[]
  staticTypes := #[]
  resolved := Array.replicate 124 none
  statics := none }

def pool1 : Array CpInfo := pool [(2, .class_ 4), (1, u "java/lang/Object"), (0, u "<init>"), (0, u "()V"), (0, .class_ 8), (0, u "java/lang/String"), (0, .methodref 7 10), (0, .nameAndType 5 11), (0, u "([C)V"), (0, .methodref 13 14), (0, .class_ 15), (0, .nameAndType 16 17), (0, u "com/example/credential_to_assertion/credentialtoassertion/service/validation/IdentityTokenPresentationRestrictedToPinLaw"), (0, u "draw"), (0, u "(ICCC)Ljava/lang/String;"), (0, .methodref 19 20), (0, .class_ 21), (0, .nameAndType 22 23), (0, u "com/example/credential_to_assertion/credentialtoassertion/service/validation/IdentityTokenPresentation"), (0, u "restrictedTo"), (0, u "(Ljava/lang/String;)Lcom/example/credential_to_assertion/credentialtoassertion/service/validation/IdentityTokenPresentation;"), (0, .methodref 19 25), (0, .nameAndType 26 27), (0, u "getAudiences"), (0, u "()Ljava/util/List;"), (0, .interfaceMethodref 29 30), (0, .class_ 31), (0, .nameAndType 32 33), (0, u "java/util/List"), (0, u "size"), (0, u "()I"), (0, .interfaceMethodref 29 35), (0, .nameAndType 36 37), (0, u "get"), (0, u "(I)Ljava/lang/Object;"), (0, .methodref 7 39), (0, .nameAndType 40 33), (0, u "length"), (0, .methodref 7 42), (0, .nameAndType 43 44), (0, u "charAt"), (0, u "(I)C"), (0, .methodref 7 46), (0, .nameAndType 47 48), (0, u "equals"), (0, u "(Ljava/lang/Object;)Z"), (0, .methodref 19 50), (0, .nameAndType 51 52), (0, u "isBearerGrant"), (0, u "()Z"), (0, .methodref 19 54), (0, .nameAndType 55 56), (0, u "getTokenEndpoint"), (0, u "()Ljava/util/Optional;"), (0, .methodref 58 59), (0, .class_ 60), (0, .nameAndType 61 52), (0, u "java/util/Optional"), (0, u "isPresent"), (3, u "law"), (0, u "(IIII)Z")] 2

def k1m0 : Method := { name := "<init>", desc := "()V", sig := { parameters := [], returnType := none }, accessFlags := 2, code := none }
def k1c1 : Code := { maxStack := 3, maxLocals := 5, code := method_2_code, exceptionTable := #[], attributes := #[] }
def k1m1 : Method := { name := "draw", desc := "(ICCC)Ljava/lang/String;", sig := { parameters := [.int, .char, .char, .char], returnType := some (.object "java/lang/String") }, accessFlags := 10, code := some k1c1 }
def k1c2 : Code := { maxStack := 4, maxLocals := 12, code := code, exceptionTable := #[], attributes := #[] }
def k1m2 : Method := { name := "law", desc := "(IIII)Z", sig := { parameters := [.int, .int, .int, .int], returnType := some .boolean }, accessFlags := 9, code := some k1c2 }
/-- com/example/credential_to_assertion/credentialtoassertion/service/validation/IdentityTokenPresentationRestrictedToPinLaw -/
def k1 : Class := { plain "com/example/credential_to_assertion/credentialtoassertion/service/validation/IdentityTokenPresentationRestrictedToPinLaw" (some 0) with
  accessFlags := 49
  interfaces := #[]
  cf := some (fileOf pool1 13 #[] #[{ accessFlags := 2, nameIndex := 5, descriptorIndex := 6, attributes := #[] }, { accessFlags := 10, nameIndex := 16, descriptorIndex := 17, attributes := #[] }, { accessFlags := 9, nameIndex := 65, descriptorIndex := 66, attributes := #[] }] 49 2 #[] #[])
  fields := #[]
  methods := #[k1m0, k1m1, k1m2]
  instanceTypes := #[]
  staticTypes := #[]
  resolved := Array.replicate 69 none
  statics := none }

def pool2 : Array CpInfo := pool [(1, .class_ 2), (0, u "java/io/Serializable"), (0, .class_ 4), (0, u "java/lang/Object")] 2

/-- java/io/Serializable -/
def k2 : Class := { plain "java/io/Serializable" (some 0) with
  accessFlags := 1537
  interfaces := #[]
  cf := some (fileOf pool2 1 #[] #[] 1537 3 #[] #[])
  fields := #[]
  methods := #[]
  instanceTypes := #[]
  staticTypes := #[]
  resolved := Array.replicate 7 none
  statics := none }

def pool3 : Array CpInfo := pool [(1, .class_ 2), (0, u "java/lang/Comparable"), (0, .class_ 4), (0, u "java/lang/Object")] 7

/-- java/lang/Comparable -/
def k3 : Class := { plain "java/lang/Comparable" (some 0) with
  accessFlags := 1537
  interfaces := #[]
  cf := some (fileOf pool3 1 #[] #[] 1537 3 #[] #[])
  fields := #[]
  methods := #[]
  instanceTypes := #[]
  staticTypes := #[]
  resolved := Array.replicate 12 none
  statics := none }

def pool4 : Array CpInfo := pool [(2, .class_ 4), (1, u "java/lang/CharSequence"), (42, .class_ 48), (0, u "java/lang/CharSequence$1CodePointIterator"), (10, .class_ 60), (0, u "java/lang/CharSequence$1CharIterator"), (5, .class_ 67), (0, u "java/lang/Object")] 63

/-- java/lang/CharSequence -/
def k4 : Class := { plain "java/lang/CharSequence" (some 0) with
  accessFlags := 1537
  interfaces := #[]
  cf := some (fileOf pool4 2 #[.nestMembers #[47, 59]] #[] 1537 66 #[] #[])
  fields := #[]
  methods := #[]
  instanceTypes := #[]
  staticTypes := #[]
  resolved := Array.replicate 131 none
  statics := none }

def pool5 : Array CpInfo := pool [(1, .class_ 2), (0, u "java/lang/constant/Constable"), (0, .class_ 4), (0, u "java/lang/Object")] 6

/-- java/lang/constant/Constable -/
def k5 : Class := { plain "java/lang/constant/Constable" (some 0) with
  accessFlags := 1537
  interfaces := #[]
  cf := some (fileOf pool5 1 #[] #[] 1537 3 #[] #[])
  fields := #[]
  methods := #[]
  instanceTypes := #[]
  staticTypes := #[]
  resolved := Array.replicate 11 none
  statics := none }

def pool6 : Array CpInfo := pool [(1, .class_ 2), (0, u "java/lang/constant/ConstantDesc"), (0, .class_ 4), (0, u "java/lang/Object")] 32

/-- java/lang/constant/ConstantDesc -/
def k6 : Class := { plain "java/lang/constant/ConstantDesc" (some 0) with
  accessFlags := 1537
  interfaces := #[]
  cf := some (fileOf pool6 1 #[] #[] 1537 3 #[] #[])
  fields := #[]
  methods := #[]
  instanceTypes := #[]
  staticTypes := #[]
  resolved := Array.replicate 37 none
  statics := none }

def pool7 : Array CpInfo := pool [(1, .methodref 2 3), (0, .class_ 4), (0, .nameAndType 5 6), (0, u "java/lang/Object"), (0, u "<init>"), (0, u "()V"), (0, .string 8), (0, u ""), (0, .fieldref 10 11), (0, .class_ 12), (0, .nameAndType 13 14), (0, u "java/lang/String"), (0, u "value"), (0, u "[B"), (0, .fieldref 10 16), (0, .nameAndType 17 18), (0, u "coder"), (0, u "B"), (2, u "hash"), (0, u "I"), (2, u "hashIsZero"), (0, u "Z"), (0, .methodref 10 28), (0, .nameAndType 5 29), (0, u "([CIILjava/lang/Void;)V"), (8, .fieldref 10 39), (0, .nameAndType 40 26), (0, u "COMPACT_STRINGS"), (1, .class_ 44), (1, u "java/lang/StringUTF16"), (0, u "compress"), (1, .methodref 42 48), (0, .nameAndType 49 50), (0, u "coderFromArrayLen"), (0, u "([BI)B"), (56, .class_ 109), (1, u "java/lang/StringLatin1"), (32, u "()Z"), (34, .methodref 42 178), (0, .nameAndType 45 179), (0, u "([CII)[B"), (154, u "()I"), (0, .methodref 10 336), (0, .nameAndType 17 337), (0, u "()B"), (25, u "([BI)C"), (27, u "(II)V"), (35, u "(I)C"), (64, .methodref 10 493), (0, .nameAndType 494 142), (0, u "isLatin1"), (0, .methodref 107 496), (0, .nameAndType 497 363), (0, u "charAt"), (3, u "checkIndex"), (5, u "length"), (35, u "equals"), (29, u "(Ljava/lang/Object;)Z"), (1, .class_ 576), (0, u "java/lang/CharSequence"), (22, u "CASE_INSENSITIVE_ORDER"), (0, u "Ljava/util/Comparator;"), (409, u "([C)V"), (42, .fieldref 1054 1055), (0, .class_ 1056), (0, .nameAndType 1057 1058), (0, u "jdk/internal/util/Preconditions"), (0, u "SIOOBE_FORMATTER"), (0, u "Ljava/util/function/BiFunction;"), (0, .methodref 1054 1060), (0, .nameAndType 501 1061), (0, u "(IILjava/util/function/BiFunction;)I"), (39, u "serialPersistentFields"), (0, u "[Ljava/io/ObjectStreamField;"), (0, .class_ 1104), (0, u "java/lang/String$CaseInsensitiveComparator"), (1, .class_ 1107), (0, u "java/io/Serializable"), (0, .class_ 1109), (0, u "java/lang/Comparable"), (0, .class_ 1111), (0, u "java/lang/constant/Constable"), (0, .class_ 1113), (0, u "java/lang/constant/ConstantDesc"), (2, u "serialVersionUID"), (0, u "J"), (3, u "REPL"), (0, u "C"), (2, u "LATIN1"), (1, u "UTF16")] 323

def k7m0 : Method := { name := "<init>", desc := "()V", sig := { parameters := [], returnType := none }, accessFlags := 1, code := none }
def k7c1 : Code := { maxStack := 5, maxLocals := 2, code := jdk_42_method_3_code, exceptionTable := #[], attributes := #[] }
def k7m1 : Method := { name := "<init>", desc := "([C)V", sig := { parameters := [(.array .char)], returnType := none }, accessFlags := 1, code := some k7c1 }
def k7c2 : Code := { maxStack := 2, maxLocals := 1, code := jdk_42_method_54_code, exceptionTable := #[], attributes := #[] }
def k7m2 : Method := { name := "length", desc := "()I", sig := { parameters := [], returnType := some .int }, accessFlags := 1, code := some k7c2 }
def k7c3 : Code := { maxStack := 2, maxLocals := 2, code := jdk_42_method_56_code, exceptionTable := #[], attributes := #[] }
def k7m3 : Method := { name := "charAt", desc := "(I)C", sig := { parameters := [.int], returnType := some .char }, accessFlags := 1, code := some k7c3 }
def k7c4 : Code := { maxStack := 2, maxLocals := 3, code := jdk_42_method_66_code, exceptionTable := #[], attributes := #[] }
def k7m4 : Method := { name := "equals", desc := "(Ljava/lang/Object;)Z", sig := { parameters := [(.object "java/lang/Object")], returnType := some .boolean }, accessFlags := 1, code := some k7c4 }
def k7c5 : Code := { maxStack := 4, maxLocals := 6, code := jdk_42_method_149_code, exceptionTable := #[], attributes := #[] }
def k7m5 : Method := { name := "<init>", desc := "([CIILjava/lang/Void;)V", sig := { parameters := [(.array .char), .int, .int, (.object "java/lang/Void")], returnType := none }, accessFlags := 2, code := some k7c5 }
def k7c6 : Code := { maxStack := 1, maxLocals := 1, code := jdk_42_method_152_code, exceptionTable := #[], attributes := #[] }
def k7m6 : Method := { name := "coder", desc := "()B", sig := { parameters := [], returnType := some .byte }, accessFlags := 0, code := some k7c6 }
def k7c7 : Code := { maxStack := 1, maxLocals := 1, code := jdk_42_method_154_code, exceptionTable := #[], attributes := #[] }
def k7m7 : Method := { name := "isLatin1", desc := "()Z", sig := { parameters := [], returnType := some .boolean }, accessFlags := 0, code := some k7c7 }
def k7c8 : Code := { maxStack := 3, maxLocals := 2, code := jdk_42_method_155_code, exceptionTable := #[], attributes := #[] }
def k7m8 : Method := { name := "checkIndex", desc := "(II)V", sig := { parameters := [.int, .int], returnType := none }, accessFlags := 8, code := some k7c8 }
/-- java/lang/String -/
def k7 : Class := { plain "java/lang/String" (some 0) with
  accessFlags := 49
  interfaces := #[2, 3, 4, 5, 6]
  cf := some (fileOf pool7 10 #[.nestMembers #[1103]] #[{ accessFlags := 1, nameIndex := 5, descriptorIndex := 6, attributes := #[] }, { accessFlags := 1, nameIndex := 5, descriptorIndex := 1010, attributes := #[] }, { accessFlags := 1, nameIndex := 507, descriptorIndex := 334, attributes := #[] }, { accessFlags := 1, nameIndex := 497, descriptorIndex := 427, attributes := #[] }, { accessFlags := 1, nameIndex := 543, descriptorIndex := 573, attributes := #[] }, { accessFlags := 2, nameIndex := 5, descriptorIndex := 29, attributes := #[] }, { accessFlags := 0, nameIndex := 17, descriptorIndex := 337, attributes := #[] }, { accessFlags := 0, nameIndex := 494, descriptorIndex := 142, attributes := #[] }, { accessFlags := 8, nameIndex := 501, descriptorIndex := 391, attributes := #[] }] 49 2 #[1106, 1108, 575, 1110, 1112] #[{ accessFlags := 18, nameIndex := 13, descriptorIndex := 14, attributes := #[] }, { accessFlags := 18, nameIndex := 17, descriptorIndex := 18, attributes := #[] }, { accessFlags := 2, nameIndex := 21, descriptorIndex := 22, attributes := #[] }, { accessFlags := 2, nameIndex := 25, descriptorIndex := 26, attributes := #[] }, { accessFlags := 26, nameIndex := 1116, descriptorIndex := 1117, attributes := #[] }, { accessFlags := 24, nameIndex := 40, descriptorIndex := 26, attributes := #[] }, { accessFlags := 26, nameIndex := 1101, descriptorIndex := 1102, attributes := #[] }, { accessFlags := 26, nameIndex := 1121, descriptorIndex := 1122, attributes := #[] }, { accessFlags := 25, nameIndex := 599, descriptorIndex := 600, attributes := #[] }, { accessFlags := 24, nameIndex := 1125, descriptorIndex := 18, attributes := #[] }, { accessFlags := 24, nameIndex := 1127, descriptorIndex := 18, attributes := #[] }])
  fields := #[{ name := "value", type := (.array .byte), accessFlags := 18, slot := 0, constantValue := 0 }, { name := "coder", type := .byte, accessFlags := 18, slot := 1, constantValue := 0 }, { name := "hash", type := .int, accessFlags := 2, slot := 2, constantValue := 0 }, { name := "hashIsZero", type := .boolean, accessFlags := 2, slot := 3, constantValue := 0 }, { name := "serialVersionUID", type := .long, accessFlags := 26, slot := 0, constantValue := 0 }, { name := "COMPACT_STRINGS", type := .boolean, accessFlags := 24, slot := 1, constantValue := 0 }, { name := "serialPersistentFields", type := (.array (.object "java/io/ObjectStreamField")), accessFlags := 26, slot := 2, constantValue := 0 }, { name := "REPL", type := .char, accessFlags := 26, slot := 3, constantValue := 0 }, { name := "CASE_INSENSITIVE_ORDER", type := (.object "java/util/Comparator"), accessFlags := 25, slot := 4, constantValue := 0 }, { name := "LATIN1", type := .byte, accessFlags := 24, slot := 5, constantValue := 0 }, { name := "UTF16", type := .byte, accessFlags := 24, slot := 6, constantValue := 0 }]
  methods := #[k7m0, k7m1, k7m2, k7m3, k7m4, k7m5, k7m6, k7m7, k7m8]
  instanceTypes := #[(.array .byte), .byte, .int, .boolean]
  staticTypes := #[.long, .boolean, (.array (.object "java/io/ObjectStreamField")), .char, (.object "java/util/Comparator"), .byte, .byte]
  resolved := Array.replicate 1451 none
  statics := some 0 }

def pool8 : Array CpInfo := pool [(1, .methodref 2 3), (0, .class_ 4), (0, .nameAndType 5 6), (0, u "java/lang/Object"), (0, u "<init>"), (0, u "()V"), (0, .interfaceMethodref 8 9), (0, .class_ 10), (0, .nameAndType 11 12), (0, u "java/util/List"), (0, u "copyOf"), (0, u "(Ljava/util/Collection;)Ljava/util/List;"), (0, .fieldref 14 15), (0, .class_ 16), (0, .nameAndType 17 18), (0, u "com/example/credential_to_assertion/credentialtoassertion/service/validation/IdentityTokenPresentation"), (0, u "audiences"), (0, u "Ljava/util/List;"), (0, .fieldref 14 20), (0, .nameAndType 21 22), (0, u "bearerGrant"), (0, u "Z"), (0, .fieldref 14 24), (0, .nameAndType 25 26), (0, u "tokenEndpoint"), (0, u "Ljava/lang/String;"), (0, .string 28), (0, u "audience"), (0, .methodref 30 31), (0, .class_ 32), (0, .nameAndType 33 34), (0, u "java/util/Objects"), (0, u "requireNonNull"), (0, u "(Ljava/lang/Object;Ljava/lang/String;)Ljava/lang/Object;"), (0, .class_ 36), (0, u "java/lang/String"), (0, .interfaceMethodref 8 38), (0, .nameAndType 39 40), (0, u "of"), (0, u "(Ljava/lang/Object;)Ljava/util/List;"), (0, .methodref 14 42), (0, .nameAndType 5 43), (0, u "(Ljava/util/List;ZLjava/lang/String;)V"), (13, .class_ 59), (1, u "java/util/Optional"), (5, .methodref 57 66), (0, .nameAndType 67 68), (0, u "ofNullable"), (0, u "(Ljava/lang/Object;)Ljava/util/Optional;"), (5, u "restrictedTo"), (0, u "(Ljava/lang/String;)Lcom/example/credential_to_assertion/credentialtoassertion/service/validation/IdentityTokenPresentation;"), (2, u "getAudiences"), (0, u "()Ljava/util/List;"), (1, u "isBearerGrant"), (0, u "()Z"), (0, u "getTokenEndpoint"), (0, u "()Ljava/util/Optional;")] 26

def k8c0 : Code := { maxStack := 2, maxLocals := 4, code := prog_24_method_1_code, exceptionTable := #[], attributes := #[] }
def k8m0 : Method := { name := "<init>", desc := "(Ljava/util/List;ZLjava/lang/String;)V", sig := { parameters := [(.object "java/util/List"), .boolean, (.object "java/lang/String")], returnType := none }, accessFlags := 2, code := some k8c0 }
def k8c1 : Code := { maxStack := 5, maxLocals := 1, code := prog_24_method_2_code, exceptionTable := #[], attributes := #[] }
def k8m1 : Method := { name := "restrictedTo", desc := "(Ljava/lang/String;)Lcom/example/credential_to_assertion/credentialtoassertion/service/validation/IdentityTokenPresentation;", sig := { parameters := [(.object "java/lang/String")], returnType := some (.object "com/example/credential_to_assertion/credentialtoassertion/service/validation/IdentityTokenPresentation") }, accessFlags := 9, code := some k8c1 }
def k8c2 : Code := { maxStack := 1, maxLocals := 1, code := prog_24_method_4_code, exceptionTable := #[], attributes := #[] }
def k8m2 : Method := { name := "getAudiences", desc := "()Ljava/util/List;", sig := { parameters := [], returnType := some (.object "java/util/List") }, accessFlags := 1, code := some k8c2 }
def k8c3 : Code := { maxStack := 1, maxLocals := 1, code := prog_24_method_5_code, exceptionTable := #[], attributes := #[] }
def k8m3 : Method := { name := "isBearerGrant", desc := "()Z", sig := { parameters := [], returnType := some .boolean }, accessFlags := 1, code := some k8c3 }
def k8c4 : Code := { maxStack := 1, maxLocals := 1, code := prog_24_method_6_code, exceptionTable := #[], attributes := #[] }
def k8m4 : Method := { name := "getTokenEndpoint", desc := "()Ljava/util/Optional;", sig := { parameters := [], returnType := some (.object "java/util/Optional") }, accessFlags := 1, code := some k8c4 }
/-- com/example/credential_to_assertion/credentialtoassertion/service/validation/IdentityTokenPresentation -/
def k8 : Class := { plain "com/example/credential_to_assertion/credentialtoassertion/service/validation/IdentityTokenPresentation" (some 0) with
  accessFlags := 33
  interfaces := #[]
  cf := some (fileOf pool8 14 #[] #[{ accessFlags := 2, nameIndex := 5, descriptorIndex := 43, attributes := #[] }, { accessFlags := 9, nameIndex := 74, descriptorIndex := 75, attributes := #[] }, { accessFlags := 1, nameIndex := 78, descriptorIndex := 79, attributes := #[] }, { accessFlags := 1, nameIndex := 81, descriptorIndex := 82, attributes := #[] }, { accessFlags := 1, nameIndex := 83, descriptorIndex := 84, attributes := #[] }] 33 2 #[] #[{ accessFlags := 18, nameIndex := 17, descriptorIndex := 18, attributes := #[] }, { accessFlags := 18, nameIndex := 21, descriptorIndex := 22, attributes := #[] }, { accessFlags := 18, nameIndex := 25, descriptorIndex := 26, attributes := #[] }])
  fields := #[{ name := "audiences", type := (.object "java/util/List"), accessFlags := 18, slot := 0, constantValue := 0 }, { name := "bearerGrant", type := .boolean, accessFlags := 18, slot := 1, constantValue := 0 }, { name := "tokenEndpoint", type := (.object "java/lang/String"), accessFlags := 18, slot := 2, constantValue := 0 }]
  methods := #[k8m0, k8m1, k8m2, k8m3, k8m4]
  instanceTypes := #[(.object "java/util/List"), .boolean, (.object "java/lang/String")]
  staticTypes := #[]
  resolved := Array.replicate 111 none
  statics := none }

def pool9 : Array CpInfo := pool [(2, .class_ 4), (1, u "java/lang/Object"), (0, u "<init>"), (0, u "()V"), (35, .class_ 44), (1, u "java/util/Objects"), (0, u "requireNonNull"), (0, u "(Ljava/lang/Object;)Ljava/lang/Object;"), (47, u "(Ljava/lang/Object;Ljava/lang/String;)Ljava/lang/Object;")] 89

def k9m0 : Method := { name := "<init>", desc := "()V", sig := { parameters := [], returnType := none }, accessFlags := 2, code := none }
def k9c1 : Code := { maxStack := 2, maxLocals := 1, code := jdk_31_method_10_code, exceptionTable := #[], attributes := #[] }
def k9m1 : Method := { name := "requireNonNull", desc := "(Ljava/lang/Object;)Ljava/lang/Object;", sig := { parameters := [(.object "java/lang/Object")], returnType := some (.object "java/lang/Object") }, accessFlags := 9, code := some k9c1 }
def k9c2 : Code := { maxStack := 3, maxLocals := 2, code := jdk_31_method_11_code, exceptionTable := #[], attributes := #[] }
def k9m2 : Method := { name := "requireNonNull", desc := "(Ljava/lang/Object;Ljava/lang/String;)Ljava/lang/Object;", sig := { parameters := [(.object "java/lang/Object"), (.object "java/lang/String")], returnType := some (.object "java/lang/Object") }, accessFlags := 9, code := some k9c2 }
/-- java/util/Objects -/
def k9 : Class := { plain "java/util/Objects" (some 0) with
  accessFlags := 49
  interfaces := #[]
  cf := some (fileOf pool9 42 #[] #[{ accessFlags := 2, nameIndex := 5, descriptorIndex := 6, attributes := #[] }, { accessFlags := 9, nameIndex := 45, descriptorIndex := 46, attributes := #[] }, { accessFlags := 9, nameIndex := 45, descriptorIndex := 94, attributes := #[] }] 49 2 #[] #[])
  fields := #[]
  methods := #[k9m0, k9m1, k9m2]
  instanceTypes := #[]
  staticTypes := #[]
  resolved := Array.replicate 184 none
  statics := none }

def pool10 : Array CpInfo := pool [(8, .class_ 10), (1, u "java/lang/Iterable"), (24, .class_ 36), (0, u "java/lang/Object")] 25

/-- java/lang/Iterable -/
def k10 : Class := { plain "java/lang/Iterable" (some 0) with
  accessFlags := 1537
  interfaces := #[]
  cf := some (fileOf pool10 8 #[] #[] 1537 35 #[] #[])
  fields := #[]
  methods := #[]
  instanceTypes := #[]
  staticTypes := #[]
  resolved := Array.replicate 62 none
  statics := none }

def pool11 : Array CpInfo := pool [(10, .class_ 12), (1, u "java/util/Collection"), (47, .class_ 61), (0, u "java/lang/Object"), (0, .class_ 63), (0, u "java/lang/Iterable")] 51

/-- java/util/Collection -/
def k11 : Class := { plain "java/util/Collection" (some 0) with
  accessFlags := 1537
  interfaces := #[10]
  cf := some (fileOf pool11 10 #[] #[] 1537 60 #[62] #[])
  fields := #[]
  methods := #[]
  instanceTypes := #[]
  staticTypes := #[]
  resolved := Array.replicate 115 none
  statics := none }

def pool12 : Array CpInfo := pool [(8, .class_ 10), (1, u "java/util/SequencedCollection"), (15, .class_ 27), (0, u "java/lang/Object"), (0, .class_ 29), (0, u "java/util/Collection")] 27

/-- java/util/SequencedCollection -/
def k12 : Class := { plain "java/util/SequencedCollection" (some 0) with
  accessFlags := 1537
  interfaces := #[11]
  cf := some (fileOf pool12 8 #[] #[] 1537 26 #[28] #[])
  fields := #[]
  methods := #[]
  instanceTypes := #[]
  staticTypes := #[]
  resolved := Array.replicate 57 none
  statics := none }

def pool13 : Array CpInfo := pool [(8, .class_ 10), (1, u "java/util/List"), (20, u "(Ljava/lang/Object;)V"), (16, u "<init>"), (26, u "get"), (0, u "(I)Ljava/lang/Object;"), (2, u "size"), (0, u "()I"), (7, u "of"), (2, .class_ 93), (1, u "java/util/ImmutableCollections"), (2, .class_ 97), (0, u "java/util/ImmutableCollections$List12"), (0, .methodref 96 99), (0, .nameAndType 48 31), (3, .class_ 104), (0, u "java/lang/Object"), (7, .methodref 91 113), (0, .nameAndType 114 115), (0, u "listCopy"), (0, u "(Ljava/util/Collection;)Ljava/util/List;"), (4, .class_ 121), (0, u "java/util/SequencedCollection"), (76, u "(Ljava/lang/Object;)Ljava/util/List;"), (35, u "copyOf")] 16

def k13m0 : Method := { name := "size", desc := "()I", sig := { parameters := [], returnType := some .int }, accessFlags := 1025, code := none }
def k13m1 : Method := { name := "get", desc := "(I)Ljava/lang/Object;", sig := { parameters := [.int], returnType := some (.object "java/lang/Object") }, accessFlags := 1025, code := none }
def k13c2 : Code := { maxStack := 3, maxLocals := 1, code := jdk_40_method_37_code, exceptionTable := #[], attributes := #[] }
def k13m2 : Method := { name := "of", desc := "(Ljava/lang/Object;)Ljava/util/List;", sig := { parameters := [(.object "java/lang/Object")], returnType := some (.object "java/util/List") }, accessFlags := 9, code := some k13c2 }
def k13c3 : Code := { maxStack := 1, maxLocals := 1, code := jdk_40_method_48_code, exceptionTable := #[], attributes := #[] }
def k13m3 : Method := { name := "copyOf", desc := "(Ljava/util/Collection;)Ljava/util/List;", sig := { parameters := [(.object "java/util/Collection")], returnType := some (.object "java/util/List") }, accessFlags := 9, code := some k13c3 }
/-- java/util/List -/
def k13 : Class := { plain "java/util/List" (some 0) with
  accessFlags := 1537
  interfaces := #[12]
  cf := some (fileOf pool13 8 #[] #[{ accessFlags := 1025, nameIndex := 79, descriptorIndex := 80, attributes := #[] }, { accessFlags := 1025, nameIndex := 75, descriptorIndex := 76, attributes := #[] }, { accessFlags := 9, nameIndex := 88, descriptorIndex := 198, attributes := #[] }, { accessFlags := 9, nameIndex := 234, descriptorIndex := 115, attributes := #[] }] 1537 103 #[120] #[])
  fields := #[]
  methods := #[k13m0, k13m1, k13m2, k13m3]
  instanceTypes := #[]
  staticTypes := #[]
  resolved := Array.replicate 251 none
  statics := none }

def pool14 : Array CpInfo := pool [(1, .methodref 2 3), (0, .class_ 4), (0, .nameAndType 5 6), (0, u "java/lang/Object"), (0, u "<init>"), (0, u "()V"), (1, .class_ 10), (1, u "java/util/AbstractCollection"), (66, .class_ 78), (0, u "java/util/Collection")] 81

def k14c0 : Code := { maxStack := 1, maxLocals := 1, code := jdk_22_method_1_code, exceptionTable := #[], attributes := #[] }
def k14m0 : Method := { name := "<init>", desc := "()V", sig := { parameters := [], returnType := none }, accessFlags := 4, code := some k14c0 }
/-- java/util/AbstractCollection -/
def k14 : Class := { plain "java/util/AbstractCollection" (some 0) with
  accessFlags := 1057
  interfaces := #[11]
  cf := some (fileOf pool14 8 #[] #[{ accessFlags := 4, nameIndex := 5, descriptorIndex := 6, attributes := #[] }] 1057 2 #[77] #[])
  fields := #[]
  methods := #[k14m0]
  instanceTypes := #[]
  staticTypes := #[]
  resolved := Array.replicate 160 none
  statics := none }

def pool15 : Array CpInfo := pool [(1, .methodref 2 3), (0, .class_ 4), (0, .nameAndType 5 6), (0, u "java/util/AbstractCollection"), (0, u "<init>"), (0, u "()V"), (1, .class_ 10), (1, u "java/util/ImmutableCollections"), (2, .class_ 14), (0, u "java/util/ImmutableCollections$AbstractImmutableCollection")] 41

def k15c0 : Code := { maxStack := 1, maxLocals := 1, code := jdk_47_method_1_code, exceptionTable := #[], attributes := #[] }
def k15m0 : Method := { name := "<init>", desc := "()V", sig := { parameters := [], returnType := none }, accessFlags := 0, code := some k15c0 }
/-- java/util/ImmutableCollections$AbstractImmutableCollection -/
def k15 : Class := { plain "java/util/ImmutableCollections$AbstractImmutableCollection" (some 14) with
  accessFlags := 1056
  interfaces := #[]
  cf := some (fileOf pool15 13 #[.nestHost 8] #[{ accessFlags := 0, nameIndex := 5, descriptorIndex := 6, attributes := #[] }] 1056 2 #[] #[])
  fields := #[]
  methods := #[k15m0]
  instanceTypes := #[]
  staticTypes := #[]
  resolved := Array.replicate 56 none
  statics := none }

def pool16 : Array CpInfo := pool [(1, .class_ 2), (0, u "java/util/RandomAccess"), (0, .class_ 4), (0, u "java/lang/Object")] 2

/-- java/util/RandomAccess -/
def k16 : Class := { plain "java/util/RandomAccess" (some 0) with
  accessFlags := 1537
  interfaces := #[]
  cf := some (fileOf pool16 1 #[] #[] 1537 3 #[] #[])
  fields := #[]
  methods := #[]
  instanceTypes := #[]
  staticTypes := #[]
  resolved := Array.replicate 7 none
  statics := none }

def pool17 : Array CpInfo := pool [(1, .methodref 2 3), (0, .class_ 4), (0, .nameAndType 5 6), (0, u "java/util/ImmutableCollections$AbstractImmutableCollection"), (0, u "<init>"), (0, u "()V"), (1, .class_ 10), (1, u "java/util/ImmutableCollections"), (3, .class_ 16), (1, u "java/util/ImmutableCollections$AbstractImmutableList"), (60, .class_ 78), (0, u "java/util/List"), (45, .class_ 125), (0, u "java/util/RandomAccess")] 70

def k17c0 : Code := { maxStack := 1, maxLocals := 1, code := jdk_46_method_1_code, exceptionTable := #[], attributes := #[] }
def k17m0 : Method := { name := "<init>", desc := "()V", sig := { parameters := [], returnType := none }, accessFlags := 0, code := some k17c0 }
/-- java/util/ImmutableCollections$AbstractImmutableList -/
def k17 : Class := { plain "java/util/ImmutableCollections$AbstractImmutableList" (some 15) with
  accessFlags := 1056
  interfaces := #[13, 16]
  cf := some (fileOf pool17 14 #[.nestHost 8] #[{ accessFlags := 0, nameIndex := 5, descriptorIndex := 6, attributes := #[] }] 1056 2 #[77, 124] #[])
  fields := #[]
  methods := #[k17m0]
  instanceTypes := #[]
  staticTypes := #[]
  resolved := Array.replicate 196 none
  statics := none }

def pool18 : Array CpInfo := pool [(1, .methodref 2 3), (0, .class_ 4), (0, .nameAndType 5 6), (0, u "java/util/ImmutableCollections$AbstractImmutableList"), (0, u "<init>"), (0, u "()V"), (0, .methodref 8 9), (0, .class_ 10), (0, .nameAndType 11 12), (0, u "java/util/Objects"), (0, u "requireNonNull"), (0, u "(Ljava/lang/Object;)Ljava/lang/Object;"), (0, .fieldref 14 15), (0, .class_ 16), (0, .nameAndType 17 18), (0, u "java/util/ImmutableCollections$List12"), (0, u "e0"), (0, u "Ljava/lang/Object;"), (0, .fieldref 20 21), (0, .class_ 22), (0, .nameAndType 23 18), (0, u "java/util/ImmutableCollections"), (0, u "EMPTY"), (0, .fieldref 14 25), (0, .nameAndType 26 18), (0, u "e1"), (24, u "size"), (0, u "()I"), (17, .class_ 71), (0, u "java/io/Serializable"), (4, u "(Ljava/lang/Object;)V"), (13, u "get"), (0, u "(I)Ljava/lang/Object;")] 33

def k18c0 : Code := { maxStack := 2, maxLocals := 2, code := jdk_44_method_1_code, exceptionTable := #[], attributes := #[] }
def k18m0 : Method := { name := "<init>", desc := "(Ljava/lang/Object;)V", sig := { parameters := [(.object "java/lang/Object")], returnType := none }, accessFlags := 0, code := some k18c0 }
def k18c1 : Code := { maxStack := 2, maxLocals := 1, code := jdk_44_method_3_code, exceptionTable := #[], attributes := #[] }
def k18m1 : Method := { name := "size", desc := "()I", sig := { parameters := [], returnType := some .int }, accessFlags := 1, code := some k18c1 }
def k18c2 : Code := { maxStack := 2, maxLocals := 2, code := jdk_44_method_5_code, exceptionTable := #[], attributes := #[] }
def k18m2 : Method := { name := "get", desc := "(I)Ljava/lang/Object;", sig := { parameters := [.int], returnType := some (.object "java/lang/Object") }, accessFlags := 1, code := some k18c2 }
/-- java/util/ImmutableCollections$List12 -/
def k18 : Class := { plain "java/util/ImmutableCollections$List12" (some 17) with
  accessFlags := 48
  interfaces := #[2]
  cf := some (fileOf pool18 14 #[.nestHost 20] #[{ accessFlags := 0, nameIndex := 5, descriptorIndex := 76, attributes := #[] }, { accessFlags := 1, nameIndex := 51, descriptorIndex := 52, attributes := #[] }, { accessFlags := 1, nameIndex := 90, descriptorIndex := 91, attributes := #[] }] 48 2 #[70] #[{ accessFlags := 18, nameIndex := 17, descriptorIndex := 18, attributes := #[] }, { accessFlags := 18, nameIndex := 26, descriptorIndex := 18, attributes := #[] }])
  fields := #[{ name := "e0", type := (.object "java/lang/Object"), accessFlags := 18, slot := 0, constantValue := 0 }, { name := "e1", type := (.object "java/lang/Object"), accessFlags := 18, slot := 1, constantValue := 0 }]
  methods := #[k18m0, k18m1, k18m2]
  instanceTypes := #[(.object "java/lang/Object"), (.object "java/lang/Object")]
  staticTypes := #[]
  resolved := Array.replicate 125 none
  statics := none }

def pool19 : Array CpInfo := pool [(2, .class_ 4), (1, u "java/lang/Object"), (0, u "<init>"), (0, u "()V"), (3, .class_ 11), (0, u "java/util/ImmutableCollections$List12"), (0, .class_ 13), (0, u "java/util/ImmutableCollections$ListN"), (3, u "Z"), (0, .class_ 19), (0, u "java/util/List"), (27, .class_ 49), (1, u "java/util/ImmutableCollections"), (0, u "$assertionsDisabled"), (5, u "[Ljava/lang/Object;"), (5, u "EMPTY_LIST"), (0, u "Ljava/util/ImmutableCollections$ListN;"), (8, u "EMPTY_LIST_NULLS"), (22, u "SALT32L"), (0, u "J"), (2, u "REVERSE"), (6, u "archivedObjects"), (2, u "EMPTY"), (0, u "Ljava/lang/Object;"), (0, .class_ 112), (0, u "java/util/ImmutableCollections$SetN"), (5, u "EMPTY_SET"), (0, u "Ljava/util/ImmutableCollections$SetN;"), (0, .class_ 121), (0, u "java/util/ImmutableCollections$MapN"), (3, u "EMPTY_MAP"), (0, u "Ljava/util/ImmutableCollections$MapN;"), (4, u "EXPAND_FACTOR"), (0, u "I"), (9, u "listCopy"), (0, u "(Ljava/util/Collection;)Ljava/util/List;"), (25, .class_ 170), (0, u "java/util/ImmutableCollections$MapN$MapNIterator"), (0, .class_ 172), (0, u "java/util/ImmutableCollections$MapN$1"), (0, .class_ 174), (0, u "java/util/ImmutableCollections$Map1"), (0, .class_ 176), (0, u "java/util/ImmutableCollections$AbstractImmutableMap"), (0, .class_ 178), (0, u "java/util/ImmutableCollections$SetN$SetNIterator"), (0, .class_ 180), (0, u "java/util/ImmutableCollections$Set12"), (0, .class_ 182), (0, u "java/util/ImmutableCollections$Set12$1"), (0, .class_ 184), (0, u "java/util/ImmutableCollections$AbstractImmutableSet"), (0, .class_ 186), (0, u "java/util/ImmutableCollections$SubList"), (0, .class_ 188), (0, u "java/util/ImmutableCollections$ListItr"), (0, .class_ 190), (0, u "java/util/ImmutableCollections$AbstractImmutableList"), (0, .class_ 192), (0, u "java/util/ImmutableCollections$AbstractImmutableCollection"), (0, .class_ 194), (0, u "java/util/ImmutableCollections$Access"), (0, .class_ 196), (0, u "java/util/ImmutableCollections$Access$1")] 16

def k19m0 : Method := { name := "<init>", desc := "()V", sig := { parameters := [], returnType := none }, accessFlags := 2, code := none }
def k19c1 : Code := { maxStack := 1, maxLocals := 2, code := jdk_56_method_3_code, exceptionTable := #[], attributes := #[] }
def k19m1 : Method := { name := "listCopy", desc := "(Ljava/util/Collection;)Ljava/util/List;", sig := { parameters := [(.object "java/util/Collection")], returnType := some (.object "java/util/List") }, accessFlags := 8, code := some k19c1 }
/-- java/util/ImmutableCollections -/
def k19 : Class := { plain "java/util/ImmutableCollections" (some 0) with
  accessFlags := 32
  interfaces := #[]
  cf := some (fileOf pool19 47 #[.nestMembers #[120, 169, 171, 173, 175, 111, 177, 179, 181, 183, 12, 10, 185, 187, 189, 191, 193, 195]] #[{ accessFlags := 2, nameIndex := 5, descriptorIndex := 6, attributes := #[] }, { accessFlags := 8, nameIndex := 142, descriptorIndex := 143, attributes := #[] }] 32 2 #[] #[{ accessFlags := 26, nameIndex := 95, descriptorIndex := 96, attributes := #[] }, { accessFlags := 26, nameIndex := 99, descriptorIndex := 17, attributes := #[] }, { accessFlags := 10, nameIndex := 106, descriptorIndex := 56, attributes := #[] }, { accessFlags := 26, nameIndex := 109, descriptorIndex := 110, attributes := #[] }, { accessFlags := 24, nameIndex := 62, descriptorIndex := 63, attributes := #[] }, { accessFlags := 24, nameIndex := 72, descriptorIndex := 63, attributes := #[] }, { accessFlags := 24, nameIndex := 118, descriptorIndex := 119, attributes := #[] }, { accessFlags := 24, nameIndex := 125, descriptorIndex := 126, attributes := #[] }, { accessFlags := 24, nameIndex := 131, descriptorIndex := 132, attributes := #[] }, { accessFlags := 4120, nameIndex := 50, descriptorIndex := 17, attributes := #[] }])
  fields := #[{ name := "SALT32L", type := .long, accessFlags := 26, slot := 0, constantValue := 0 }, { name := "REVERSE", type := .boolean, accessFlags := 26, slot := 1, constantValue := 0 }, { name := "archivedObjects", type := (.array (.object "java/lang/Object")), accessFlags := 10, slot := 2, constantValue := 0 }, { name := "EMPTY", type := (.object "java/lang/Object"), accessFlags := 26, slot := 3, constantValue := 0 }, { name := "EMPTY_LIST", type := (.object "java/util/ImmutableCollections$ListN"), accessFlags := 24, slot := 4, constantValue := 0 }, { name := "EMPTY_LIST_NULLS", type := (.object "java/util/ImmutableCollections$ListN"), accessFlags := 24, slot := 5, constantValue := 0 }, { name := "EMPTY_SET", type := (.object "java/util/ImmutableCollections$SetN"), accessFlags := 24, slot := 6, constantValue := 0 }, { name := "EMPTY_MAP", type := (.object "java/util/ImmutableCollections$MapN"), accessFlags := 24, slot := 7, constantValue := 0 }, { name := "EXPAND_FACTOR", type := .int, accessFlags := 24, slot := 8, constantValue := 0 }, { name := "$assertionsDisabled", type := .boolean, accessFlags := 4120, slot := 9, constantValue := 0 }]
  methods := #[k19m0, k19m1]
  instanceTypes := #[]
  staticTypes := #[.long, .boolean, (.array (.object "java/lang/Object")), (.object "java/lang/Object"), (.object "java/util/ImmutableCollections$ListN"), (.object "java/util/ImmutableCollections$ListN"), (.object "java/util/ImmutableCollections$SetN"), (.object "java/util/ImmutableCollections$MapN"), .int, .boolean]
  resolved := Array.replicate 213 none
  statics := some 1 }

def pool20 : Array CpInfo := pool [(1, .fieldref 2 3), (0, .class_ 4), (0, .nameAndType 5 6), (0, u "java/util/Optional"), (0, u "EMPTY"), (0, u "Ljava/util/Optional;"), (1, .class_ 10), (1, u "java/lang/Object"), (2, .fieldref 2 14), (0, .nameAndType 15 16), (0, u "value"), (0, u "Ljava/lang/Object;"), (29, u "()Z"), (17, u "ofNullable"), (0, u "(Ljava/lang/Object;)Ljava/util/Optional;"), (2, u "isPresent")] 118

def k20c0 : Code := { maxStack := 3, maxLocals := 1, code := jdk_32_method_4_code, exceptionTable := #[], attributes := #[] }
def k20m0 : Method := { name := "ofNullable", desc := "(Ljava/lang/Object;)Ljava/util/Optional;", sig := { parameters := [(.object "java/lang/Object")], returnType := some (.object "java/util/Optional") }, accessFlags := 9, code := some k20c0 }
def k20c1 : Code := { maxStack := 1, maxLocals := 1, code := jdk_32_method_6_code, exceptionTable := #[], attributes := #[] }
def k20m1 : Method := { name := "isPresent", desc := "()Z", sig := { parameters := [], returnType := some .boolean }, accessFlags := 1, code := some k20c1 }
/-- java/util/Optional -/
def k20 : Class := { plain "java/util/Optional" (some 0) with
  accessFlags := 49
  interfaces := #[]
  cf := some (fileOf pool20 2 #[] #[{ accessFlags := 9, nameIndex := 64, descriptorIndex := 65, attributes := #[] }, { accessFlags := 1, nameIndex := 68, descriptorIndex := 46, attributes := #[] }] 49 8 #[] #[{ accessFlags := 26, nameIndex := 5, descriptorIndex := 6, attributes := #[] }, { accessFlags := 18, nameIndex := 15, descriptorIndex := 16, attributes := #[] }])
  fields := #[{ name := "EMPTY", type := (.object "java/util/Optional"), accessFlags := 26, slot := 0, constantValue := 0 }, { name := "value", type := (.object "java/lang/Object"), accessFlags := 18, slot := 0, constantValue := 0 }]
  methods := #[k20m0, k20m1]
  instanceTypes := #[(.object "java/lang/Object")]
  staticTypes := #[(.object "java/util/Optional")]
  resolved := Array.replicate 187 none
  statics := some 2 }

def pool21 : Array CpInfo := pool [(6, .class_ 8), (1, u "java/lang/Object"), (0, u "<init>"), (0, u "()V"), (1, .class_ 14), (1, u "java/lang/StringUTF16"), (31, u "$assertionsDisabled"), (0, u "Z"), (13, u "HI_BYTE_SHIFT"), (0, u "I"), (2, u "LO_BYTE_SHIFT"), (49, .methodref 12 116), (0, .nameAndType 117 118), (0, u "compress"), (0, u "([CI[BII)I"), (3, u "([CII)[B"), (138, u "coderFromArrayLen"), (0, u "([BI)B"), (106, .class_ 371), (1, u "java/lang/StringUTF16$LinesSpliterator"), (58, u "MAX_LENGTH"), (196, .class_ 628), (0, u "java/lang/StringUTF16$CodePointsSpliterator"), (0, .class_ 630), (0, u "java/lang/StringUTF16$CharsSpliterator")] 4

def k21m0 : Method := { name := "<init>", desc := "()V", sig := { parameters := [], returnType := none }, accessFlags := 0, code := none }
def k21c1 : Code := { maxStack := 2, maxLocals := 2, code := jdk_52_method_15_code, exceptionTable := #[], attributes := #[] }
def k21m1 : Method := { name := "coderFromArrayLen", desc := "([BI)B", sig := { parameters := [(.array .byte), .int], returnType := some .byte }, accessFlags := 8, code := some k21c1 }
def k21c2 : Code := { maxStack := 5, maxLocals := 6, code := jdk_52_method_16_code, exceptionTable := #[], attributes := #[] }
def k21m2 : Method := { name := "compress", desc := "([CII)[B", sig := { parameters := [(.array .char), .int, .int], returnType := some (.array .byte) }, accessFlags := 9, code := some k21c2 }
def k21c3 : Code := { maxStack := 3, maxLocals := 7, code := jdk_52_method_21_code, exceptionTable := #[], attributes := #[] }
def k21m3 : Method := { name := "compress", desc := "([CI[BII)I", sig := { parameters := [(.array .char), .int, (.array .byte), .int, .int], returnType := some .int }, accessFlags := 9, code := some k21c3 }
/-- java/lang/StringUTF16 -/
def k21 : Class := { plain "java/lang/StringUTF16" (some 0) with
  accessFlags := 48
  interfaces := #[]
  cf := some (fileOf pool21 12 #[.nestMembers #[627, 629, 369]] #[{ accessFlags := 0, nameIndex := 9, descriptorIndex := 10, attributes := #[] }, { accessFlags := 8, nameIndex := 261, descriptorIndex := 262, attributes := #[] }, { accessFlags := 9, nameIndex := 117, descriptorIndex := 122, attributes := #[] }, { accessFlags := 9, nameIndex := 117, descriptorIndex := 118, attributes := #[] }] 48 6 #[] #[{ accessFlags := 26, nameIndex := 61, descriptorIndex := 62, attributes := #[] }, { accessFlags := 26, nameIndex := 65, descriptorIndex := 62, attributes := #[] }, { accessFlags := 24, nameIndex := 430, descriptorIndex := 62, attributes := #[] }, { accessFlags := 4120, nameIndex := 46, descriptorIndex := 47, attributes := #[] }])
  fields := #[{ name := "HI_BYTE_SHIFT", type := .int, accessFlags := 26, slot := 0, constantValue := 0 }, { name := "LO_BYTE_SHIFT", type := .int, accessFlags := 26, slot := 1, constantValue := 0 }, { name := "MAX_LENGTH", type := .int, accessFlags := 24, slot := 2, constantValue := 0 }, { name := "$assertionsDisabled", type := .boolean, accessFlags := 4120, slot := 3, constantValue := 0 }]
  methods := #[k21m0, k21m1, k21m2, k21m3]
  instanceTypes := #[]
  staticTypes := #[.int, .int, .int, .boolean]
  resolved := Array.replicate 635 none
  statics := none }

def pool22 : Array CpInfo := pool [(1, .class_ 2), (0, u "java/lang/String"), (1, .class_ 6), (1, u "java/lang/Object"), (0, u "<init>"), (0, u "()V"), (0, .methodref 1 10), (0, .nameAndType 11 12), (0, u "checkIndex"), (0, u "(II)V"), (1, .class_ 16), (1, u "java/lang/StringLatin1"), (36, u "([BI)C"), (67, u "$assertionsDisabled"), (0, u "Z"), (98, .class_ 223), (1, u "java/lang/StringLatin1$LinesSpliterator"), (28, u "charAt"), (137, .class_ 391), (0, u "java/lang/StringLatin1$CharsSpliterator")] 3

def k22m0 : Method := { name := "<init>", desc := "()V", sig := { parameters := [], returnType := none }, accessFlags := 0, code := none }
def k22c1 : Code := { maxStack := 2, maxLocals := 2, code := jdk_43_method_2_code, exceptionTable := #[], attributes := #[] }
def k22m1 : Method := { name := "charAt", desc := "([BI)C", sig := { parameters := [(.array .byte), .int], returnType := some .char }, accessFlags := 9, code := some k22c1 }
/-- java/lang/StringLatin1 -/
def k22 : Class := { plain "java/lang/StringLatin1" (some 0) with
  accessFlags := 48
  interfaces := #[]
  cf := some (fileOf pool22 14 #[.nestMembers #[390, 221]] #[{ accessFlags := 0, nameIndex := 7, descriptorIndex := 8, attributes := #[] }, { accessFlags := 9, nameIndex := 252, descriptorIndex := 53, attributes := #[] }] 48 4 #[] #[{ accessFlags := 4120, nameIndex := 121, descriptorIndex := 122, attributes := #[] }])
  fields := #[{ name := "$assertionsDisabled", type := .boolean, accessFlags := 4120, slot := 0, constantValue := 0 }]
  methods := #[k22m0, k22m1]
  instanceTypes := #[]
  staticTypes := #[.boolean]
  resolved := Array.replicate 395 none
  statics := none }

def pool23 : Array CpInfo := pool [(2, .class_ 4), (1, u "java/lang/Object"), (0, u "<init>"), (0, u "()V"), (17, .class_ 26), (1, u "jdk/internal/util/Preconditions"), (6, u "checkIndex"), (21, .class_ 56), (0, u "jdk/internal/util/Preconditions$4"), (57, .class_ 115), (0, u "jdk/internal/util/Preconditions$1"), (7, u "SIOOBE_FORMATTER"), (0, u "Ljava/util/function/BiFunction;"), (0, .class_ 126), (0, u "jdk/internal/util/Preconditions$2"), (3, u "AIOOBE_FORMATTER"), (0, .class_ 132), (0, u "jdk/internal/util/Preconditions$3"), (3, u "IOOBE_FORMATTER"), (41, u "(IILjava/util/function/BiFunction;)I")] 15

def k23m0 : Method := { name := "<init>", desc := "()V", sig := { parameters := [], returnType := none }, accessFlags := 1, code := none }
def k23c1 : Code := { maxStack := 3, maxLocals := 3, code := jdk_41_method_11_code, exceptionTable := #[], attributes := #[] }
def k23m1 : Method := { name := "checkIndex", desc := "(IILjava/util/function/BiFunction;)I", sig := { parameters := [.int, .int, (.object "java/util/function/BiFunction")], returnType := some .int }, accessFlags := 9, code := some k23c1 }
/-- jdk/internal/util/Preconditions -/
def k23 : Class := { plain "jdk/internal/util/Preconditions" (some 0) with
  accessFlags := 33
  interfaces := #[]
  cf := some (fileOf pool23 24 #[.nestMembers #[55, 131, 125, 114]] #[{ accessFlags := 1, nameIndex := 5, descriptorIndex := 6, attributes := #[] }, { accessFlags := 9, nameIndex := 33, descriptorIndex := 178, attributes := #[] }] 33 2 #[] #[{ accessFlags := 25, nameIndex := 123, descriptorIndex := 124, attributes := #[] }, { accessFlags := 25, nameIndex := 130, descriptorIndex := 124, attributes := #[] }, { accessFlags := 25, nameIndex := 136, descriptorIndex := 124, attributes := #[] }])
  fields := #[{ name := "SIOOBE_FORMATTER", type := (.object "java/util/function/BiFunction"), accessFlags := 25, slot := 0, constantValue := 0 }, { name := "AIOOBE_FORMATTER", type := (.object "java/util/function/BiFunction"), accessFlags := 25, slot := 1, constantValue := 0 }, { name := "IOOBE_FORMATTER", type := (.object "java/util/function/BiFunction"), accessFlags := 25, slot := 2, constantValue := 0 }]
  methods := #[k23m0, k23m1]
  instanceTypes := #[]
  staticTypes := #[(.object "java/util/function/BiFunction"), (.object "java/util/function/BiFunction"), (.object "java/util/function/BiFunction")]
  resolved := Array.replicate 194 none
  statics := some 3 }

def pool24 : Array CpInfo := pool [(9, u "<init>"), (6, .class_ 18), (1, u "java/lang/Object"), (0, u "()V"), (1, .class_ 23), (1, u "jdk/internal/util/ArraysSupport"), (0, u "LOG2_ARRAY_LONG_INDEX_SCALE"), (0, u "I"), (2, u "U"), (0, u "Ljdk/internal/misc/Unsafe;"), (8, u "BIG_ENDIAN"), (0, u "Z"), (8, u "LOG2_BYTE_BIT_SIZE"), (4, u "LOG2_ARRAY_INT_INDEX_SCALE"), (54, u "JLA"), (0, u "Ljdk/internal/access/JavaLangAccess;"), (11, u "LOG2_ARRAY_BOOLEAN_INDEX_SCALE"), (9, u "LOG2_ARRAY_BYTE_INDEX_SCALE"), (5, u "LOG2_ARRAY_CHAR_INDEX_SCALE"), (5, u "LOG2_ARRAY_SHORT_INDEX_SCALE"), (18, u "LOG2_ARRAY_FLOAT_INDEX_SCALE"), (24, u "LOG2_ARRAY_DOUBLE_INDEX_SCALE"), (89, u "T_BOOLEAN"), (2, u "T_CHAR"), (1, u "T_FLOAT"), (1, u "T_DOUBLE"), (1, u "T_BYTE"), (1, u "T_SHORT"), (1, u "T_INT"), (1, u "T_LONG"), (1, u "SOFT_MAX_ARRAY_LENGTH")] 83

def k24m0 : Method := { name := "<init>", desc := "()V", sig := { parameters := [], returnType := none }, accessFlags := 2, code := none }
/-- jdk/internal/util/ArraysSupport -/
def k24 : Class := { plain "jdk/internal/util/ArraysSupport" (some 0) with
  accessFlags := 33
  interfaces := #[]
  cf := some (fileOf pool24 21 #[] #[{ accessFlags := 2, nameIndex := 9, descriptorIndex := 19, attributes := #[] }] 33 16 #[] #[{ accessFlags := 24, nameIndex := 28, descriptorIndex := 29, attributes := #[] }, { accessFlags := 26, nameIndex := 38, descriptorIndex := 39, attributes := #[] }, { accessFlags := 25, nameIndex := 121, descriptorIndex := 25, attributes := #[] }, { accessFlags := 25, nameIndex := 131, descriptorIndex := 25, attributes := #[] }, { accessFlags := 25, nameIndex := 137, descriptorIndex := 25, attributes := #[] }, { accessFlags := 25, nameIndex := 143, descriptorIndex := 25, attributes := #[] }, { accessFlags := 25, nameIndex := 53, descriptorIndex := 25, attributes := #[] }, { accessFlags := 25, nameIndex := 24, descriptorIndex := 25, attributes := #[] }, { accessFlags := 25, nameIndex := 162, descriptorIndex := 25, attributes := #[] }, { accessFlags := 25, nameIndex := 187, descriptorIndex := 25, attributes := #[] }, { accessFlags := 26, nameIndex := 48, descriptorIndex := 25, attributes := #[] }, { accessFlags := 25, nameIndex := 277, descriptorIndex := 25, attributes := #[] }, { accessFlags := 25, nameIndex := 280, descriptorIndex := 25, attributes := #[] }, { accessFlags := 25, nameIndex := 282, descriptorIndex := 25, attributes := #[] }, { accessFlags := 25, nameIndex := 284, descriptorIndex := 25, attributes := #[] }, { accessFlags := 25, nameIndex := 286, descriptorIndex := 25, attributes := #[] }, { accessFlags := 25, nameIndex := 288, descriptorIndex := 25, attributes := #[] }, { accessFlags := 25, nameIndex := 290, descriptorIndex := 25, attributes := #[] }, { accessFlags := 25, nameIndex := 292, descriptorIndex := 25, attributes := #[] }, { accessFlags := 26, nameIndex := 108, descriptorIndex := 109, attributes := #[] }, { accessFlags := 25, nameIndex := 294, descriptorIndex := 25, attributes := #[] }])
  fields := #[{ name := "U", type := (.object "jdk/internal/misc/Unsafe"), accessFlags := 24, slot := 0, constantValue := 0 }, { name := "BIG_ENDIAN", type := .boolean, accessFlags := 26, slot := 1, constantValue := 0 }, { name := "LOG2_ARRAY_BOOLEAN_INDEX_SCALE", type := .int, accessFlags := 25, slot := 2, constantValue := 0 }, { name := "LOG2_ARRAY_BYTE_INDEX_SCALE", type := .int, accessFlags := 25, slot := 3, constantValue := 0 }, { name := "LOG2_ARRAY_CHAR_INDEX_SCALE", type := .int, accessFlags := 25, slot := 4, constantValue := 0 }, { name := "LOG2_ARRAY_SHORT_INDEX_SCALE", type := .int, accessFlags := 25, slot := 5, constantValue := 0 }, { name := "LOG2_ARRAY_INT_INDEX_SCALE", type := .int, accessFlags := 25, slot := 6, constantValue := 0 }, { name := "LOG2_ARRAY_LONG_INDEX_SCALE", type := .int, accessFlags := 25, slot := 7, constantValue := 0 }, { name := "LOG2_ARRAY_FLOAT_INDEX_SCALE", type := .int, accessFlags := 25, slot := 8, constantValue := 0 }, { name := "LOG2_ARRAY_DOUBLE_INDEX_SCALE", type := .int, accessFlags := 25, slot := 9, constantValue := 0 }, { name := "LOG2_BYTE_BIT_SIZE", type := .int, accessFlags := 26, slot := 10, constantValue := 0 }, { name := "T_BOOLEAN", type := .int, accessFlags := 25, slot := 11, constantValue := 0 }, { name := "T_CHAR", type := .int, accessFlags := 25, slot := 12, constantValue := 0 }, { name := "T_FLOAT", type := .int, accessFlags := 25, slot := 13, constantValue := 0 }, { name := "T_DOUBLE", type := .int, accessFlags := 25, slot := 14, constantValue := 0 }, { name := "T_BYTE", type := .int, accessFlags := 25, slot := 15, constantValue := 0 }, { name := "T_SHORT", type := .int, accessFlags := 25, slot := 16, constantValue := 0 }, { name := "T_INT", type := .int, accessFlags := 25, slot := 17, constantValue := 0 }, { name := "T_LONG", type := .int, accessFlags := 25, slot := 18, constantValue := 0 }, { name := "JLA", type := (.object "jdk/internal/access/JavaLangAccess"), accessFlags := 26, slot := 19, constantValue := 0 }, { name := "SOFT_MAX_ARRAY_LENGTH", type := .int, accessFlags := 25, slot := 20, constantValue := 0 }]
  methods := #[k24m0]
  instanceTypes := #[]
  staticTypes := #[(.object "jdk/internal/misc/Unsafe"), .boolean, .int, .int, .int, .int, .int, .int, .int, .int, .int, .int, .int, .int, .int, .int, .int, .int, .int, (.object "jdk/internal/access/JavaLangAccess"), .int]
  resolved := Array.replicate 378 none
  statics := none }

def pool25 : Array CpInfo := pool [(2, .class_ 4), (1, u "java/util/ImmutableCollections$AbstractImmutableList"), (3, .class_ 10), (1, u "java/util/ImmutableCollections$ListN"), (0, u "elements"), (0, u "[Ljava/lang/Object;"), (2, u "allowNulls"), (0, u "Z"), (42, .class_ 60), (0, u "java/io/Serializable"), (53, .class_ 115), (0, u "java/util/ImmutableCollections")] 3

/-- java/util/ImmutableCollections$ListN -/
def k25 : Class := { plain "java/util/ImmutableCollections$ListN" (some 17) with
  accessFlags := 48
  interfaces := #[2]
  cf := some (fileOf pool25 8 #[.nestHost 114] #[] 48 2 #[59] #[{ accessFlags := 18, nameIndex := 11, descriptorIndex := 12, attributes := #[] }, { accessFlags := 18, nameIndex := 15, descriptorIndex := 16, attributes := #[] }])
  fields := #[{ name := "elements", type := (.array (.object "java/lang/Object")), accessFlags := 18, slot := 0, constantValue := 0 }, { name := "allowNulls", type := .boolean, accessFlags := 18, slot := 1, constantValue := 0 }]
  methods := #[]
  instanceTypes := #[(.array (.object "java/lang/Object")), .boolean]
  staticTypes := #[]
  resolved := Array.replicate 119 none
  statics := none }

def pool26 : Array CpInfo := pool [(1, u "java/lang/Cloneable"), (0, .class_ 1), (0, u "java/lang/Object"), (0, .class_ 3)] 3

/-- java/lang/Cloneable -/
def k26 : Class := { plain "java/lang/Cloneable" (some 0) with
  accessFlags := 1537
  interfaces := #[]
  cf := some (fileOf pool26 2 #[] #[] 1537 4 #[] #[])
  fields := #[]
  methods := #[]
  instanceTypes := #[]
  staticTypes := #[]
  resolved := Array.replicate 8 none
  statics := none }

/-- the primitive byte -/
def k27 : Class := { plain "byte" none with kind := .primitive 'B', accessFlags := 0x411 }
/-- [B -/
def k28 : Class := { plain "[B" (some 0) with kind := .array 27 .byte, interfaces := #[26, 2], accessFlags := 1041 }

/-- the primitive char -/
def k29 : Class := { plain "char" none with kind := .primitive 'C', accessFlags := 0x411 }
/-- [C -/
def k30 : Class := { plain "[C" (some 0) with kind := .array 29 .char, interfaces := #[26, 2], accessFlags := 1041 }

/-- the primitive int -/
def k31 : Class := { plain "int" none with kind := .primitive 'I', accessFlags := 0x411 }
/-- [I -/
def k32 : Class := { plain "[I" (some 0) with kind := .array 31 .int, interfaces := #[26, 2], accessFlags := 1041 }

def heap : Heap := #[{ cls := 7, slots := #[.long 0, .int 1, .null, .int 0, .null, .int 0, .int 0], vm := .statics 7 },
  { cls := 19, slots := #[.long 0, .int 0, .null, .ref 4, .ref 5, .null, .null, .null, .int 0, .int 1], vm := .statics 19 },
  { cls := 20, slots := #[.ref 6], vm := .statics 20 },
  { cls := 23, slots := #[.null, .null, .null], vm := .statics 23 },
  { cls := 0, slots := #[], vm := .none },
  { cls := 25, slots := #[.null, .int 0], vm := .none },
  { cls := 20, slots := #[.null], vm := .none }]
def classes : Array Class := #[k0, k1, k2, k3, k4, k5, k6, k7, k8, k9, k10, k11, k12, k13, k14, k15, k16, k17, k18, k19, k20, k21, k22, k23, k24, k25, k26, k27, k28, k29, k30, k31, k32]
def interned : List (Array UInt16 × Addr) := []
def slotsUsed : Nat := 24
def theMethod : MethodId := ⟨1, 2⟩
def args0 : Array Value := #[.int 2, .int 65, .int 66, .int 67]
def aboutOver (below : List Frame) : State where
  vm := { classes := classes, interned := interned.toArray }
  heap := heap
  slotsUsed := slotsUsed
  threads := #[{ frames := .invoking theMethod args0 :: below }]
def below0 : List Frame := [.native { method := ⟨0, 0⟩, args := #[] }]
def about1 : State := aboutOver below0
def p0 : Program := .bare "" "" ""
def e0 : Env := launch0.env 0 0 0
theorem w_frames : about1.frames = Frame.invoking theMethod args0 :: below0 := rfl
set_option maxRecDepth 65536 in
theorem w_args : argsFit about1.vm theMethod args0 = true := by decide +kernel
set_option maxRecDepth 65536 in
theorem w_heap : heapFits about1 = true := by decide +kernel
set_option maxRecDepth 65536 in
theorem w_runnable : about1.curStatus? = some .runnable := by decide +kernel
set_option maxRecDepth 65536 in
theorem w_alone : about1.alone = true := by decide +kernel
set_option maxRecDepth 65536 in
theorem w_named : about1.methodNamed? x = some theMethod := by decide +kernel
set_option maxRecDepth 65536 in
theorem w_hears : about1.hears theMethod below0 = true := by decide +kernel
set_option maxRecDepth 65536 in
theorem w_ripe : about1.ripe theMethod args0 below0 = true := by decide +kernel
theorem w_running : about1.status = .running := rfl
set_option maxRecDepth 65536 in
theorem w_room : about1.hasRoom e0.platform room_1 = true :=
  launch0.hasRoom_least _ room_1 (by decide +kernel) (by decide +kernel) (by decide +kernel) (by decide +kernel) (by decide +kernel) (by decide +kernel)
theorem allAtoms_all (ts : List Jvm.Cond) (a : Array Jvm.Value) (st : Jvm.State) : (allAtoms ts).before a st = ts.all (fun c => c.before a st) := by
  induction ts with
  | nil => rfl
  | cons c t ih =>
    show (Jvm.Cond.and c (allAtoms t)).before a st = _
    rw [Jvm.Cond.before_and, ih, List.all_cons]
def words1 : List Jvm.Cond := Jvm.Cond.code x code maxLocals ret :: tables_1
/-- a 'code' word, met by the world's own term for the bytes: nothing is compared byte by byte -/
theorem code_word {y : MethodName} {bytes : ByteArray} {mx : Nat} {rt : Option FieldType} {a : Array Value} {s : State} {m : MethodId} {meth : Method} {c : Code} (h1 : s.methodNamed? y = some m) (h2 : s.vm.method? m = some meth) (h3 : meth.code = some c) (h4 : c.code = bytes)
    (h5 : (c.maxLocals == mx && c.exceptionTable.isEmpty && decide (c.maxStack ≤ mostOperands) && decide (meth.sig.returnType = rt) && !meth.locks && decide (parseMethodDescriptor y.desc = some meth.sig)) = true) : (Jvm.Cond.code y bytes mx rt).before a s = true := by
  simp only [Bool.and_eq_true, beq_iff_eq, Bool.not_eq_true', decide_eq_true_eq] at h5
  obtain ⟨⟨⟨⟨⟨g1, g2⟩, g3⟩, g4⟩, g5⟩, g6⟩ := h5
  simp [Cond.before, Cond.holds, Cond.value, h1, h2, h3, h4, g1, g2, g3, g4, g5, g6]
def isCode : Jvm.Cond → Bool
  | .code _ _ _ _ => true
  | _ => false
theorem all_split {L : List Jvm.Cond} {P : Jvm.Cond → Bool} (h1 : L.all (fun c => isCode c || P c) = true) (h2 : ∀ c ∈ L.filter isCode, P c = true) : L.all P = true := by
  refine List.all_eq_true.mpr fun c hc => ?_
  have h := List.all_eq_true.mp h1 c hc
  rcases Bool.eq_false_or_eq_true (isCode c) with hi | hi
  · exact h2 c (List.mem_filter.mpr ⟨hc, hi⟩)
  · simpa [hi] using h
set_option maxRecDepth 65536 in
theorem w_c0 : (Jvm.Cond.code x code maxLocals ret).before args0 about1 = true := code_word (m := ⟨1, 2⟩) (meth := k1m2) (c := k1c2) (by decide +kernel) rfl rfl rfl (by decide +kernel)
set_option maxRecDepth 65536 in
theorem w_c1 : (Jvm.Cond.code ({ cls := "com/example/credential_to_assertion/credentialtoassertion/service/validation/IdentityTokenPresentationRestrictedToPinLaw", name := "draw", desc := "(ICCC)Ljava/lang/String;" } : Jvm.MethodName) method_2_code (5 : Nat) (Option.some (Jvm.ClassFile.FieldType.object "java/lang/String"))).before args0 about1 = true := code_word (m := ⟨1, 1⟩) (meth := k1m1) (c := k1c1) (by decide +kernel) rfl rfl rfl (by decide +kernel)
set_option maxRecDepth 65536 in
theorem w_c2 : (Jvm.Cond.code ({ cls := "java/lang/String", name := "<init>", desc := "([C)V" } : Jvm.MethodName) jdk_42_method_3_code (2 : Nat) (Option.none : Option Jvm.ClassFile.FieldType)).before args0 about1 = true := code_word (m := ⟨7, 1⟩) (meth := k7m1) (c := k7c1) (by decide +kernel) rfl rfl rfl (by decide +kernel)
set_option maxRecDepth 65536 in
theorem w_c3 : (Jvm.Cond.code ({ cls := "java/lang/String", name := "<init>", desc := "([CIILjava/lang/Void;)V" } : Jvm.MethodName) jdk_42_method_149_code (6 : Nat) (Option.none : Option Jvm.ClassFile.FieldType)).before args0 about1 = true := code_word (m := ⟨7, 5⟩) (meth := k7m5) (c := k7c5) (by decide +kernel) rfl rfl rfl (by decide +kernel)
set_option maxRecDepth 65536 in
theorem w_c4 : (Jvm.Cond.code ({ cls := "java/lang/Object", name := "<init>", desc := "()V" } : Jvm.MethodName) object_method_1_code (1 : Nat) (Option.none : Option Jvm.ClassFile.FieldType)).before args0 about1 = true := code_word (m := ⟨0, 0⟩) (meth := k0m0) (c := k0c0) (by decide +kernel) rfl rfl rfl (by decide +kernel)
set_option maxRecDepth 65536 in
theorem w_c5 : (Jvm.Cond.code ({ cls := "com/example/credential_to_assertion/credentialtoassertion/service/validation/IdentityTokenPresentation", name := "restrictedTo", desc := "(Ljava/lang/String;)Lcom/example/credential_to_assertion/credentialtoassertion/service/validation/IdentityTokenPresentation;" } : Jvm.MethodName) prog_24_method_2_code (1 : Nat) (Option.some (Jvm.ClassFile.FieldType.object "com/example/credential_to_assertion/credentialtoassertion/service/validation/IdentityTokenPresentation"))).before args0 about1 = true := code_word (m := ⟨8, 1⟩) (meth := k8m1) (c := k8c1) (by decide +kernel) rfl rfl rfl (by decide +kernel)
set_option maxRecDepth 65536 in
theorem w_c6 : (Jvm.Cond.code ({ cls := "java/util/Objects", name := "requireNonNull", desc := "(Ljava/lang/Object;Ljava/lang/String;)Ljava/lang/Object;" } : Jvm.MethodName) jdk_31_method_11_code (2 : Nat) (Option.some (Jvm.ClassFile.FieldType.object "java/lang/Object"))).before args0 about1 = true := code_word (m := ⟨9, 2⟩) (meth := k9m2) (c := k9c2) (by decide +kernel) rfl rfl rfl (by decide +kernel)
set_option maxRecDepth 65536 in
theorem w_c7 : (Jvm.Cond.code ({ cls := "java/util/List", name := "of", desc := "(Ljava/lang/Object;)Ljava/util/List;" } : Jvm.MethodName) jdk_40_method_37_code (1 : Nat) (Option.some (Jvm.ClassFile.FieldType.object "java/util/List"))).before args0 about1 = true := code_word (m := ⟨13, 2⟩) (meth := k13m2) (c := k13c2) (by decide +kernel) rfl rfl rfl (by decide +kernel)
set_option maxRecDepth 65536 in
theorem w_c8 : (Jvm.Cond.code ({ cls := "java/util/ImmutableCollections$List12", name := "<init>", desc := "(Ljava/lang/Object;)V" } : Jvm.MethodName) jdk_44_method_1_code (2 : Nat) (Option.none : Option Jvm.ClassFile.FieldType)).before args0 about1 = true := code_word (m := ⟨18, 0⟩) (meth := k18m0) (c := k18c0) (by decide +kernel) rfl rfl rfl (by decide +kernel)
set_option maxRecDepth 65536 in
theorem w_c9 : (Jvm.Cond.code ({ cls := "java/util/ImmutableCollections$AbstractImmutableList", name := "<init>", desc := "()V" } : Jvm.MethodName) jdk_46_method_1_code (1 : Nat) (Option.none : Option Jvm.ClassFile.FieldType)).before args0 about1 = true := code_word (m := ⟨17, 0⟩) (meth := k17m0) (c := k17c0) (by decide +kernel) rfl rfl rfl (by decide +kernel)
set_option maxRecDepth 65536 in
theorem w_c10 : (Jvm.Cond.code ({ cls := "java/util/ImmutableCollections$AbstractImmutableCollection", name := "<init>", desc := "()V" } : Jvm.MethodName) jdk_47_method_1_code (1 : Nat) (Option.none : Option Jvm.ClassFile.FieldType)).before args0 about1 = true := code_word (m := ⟨15, 0⟩) (meth := k15m0) (c := k15c0) (by decide +kernel) rfl rfl rfl (by decide +kernel)
set_option maxRecDepth 65536 in
theorem w_c11 : (Jvm.Cond.code ({ cls := "java/util/AbstractCollection", name := "<init>", desc := "()V" } : Jvm.MethodName) jdk_22_method_1_code (1 : Nat) (Option.none : Option Jvm.ClassFile.FieldType)).before args0 about1 = true := code_word (m := ⟨14, 0⟩) (meth := k14m0) (c := k14c0) (by decide +kernel) rfl rfl rfl (by decide +kernel)
set_option maxRecDepth 65536 in
theorem w_c12 : (Jvm.Cond.code ({ cls := "java/util/Objects", name := "requireNonNull", desc := "(Ljava/lang/Object;)Ljava/lang/Object;" } : Jvm.MethodName) jdk_31_method_10_code (1 : Nat) (Option.some (Jvm.ClassFile.FieldType.object "java/lang/Object"))).before args0 about1 = true := code_word (m := ⟨9, 1⟩) (meth := k9m1) (c := k9c1) (by decide +kernel) rfl rfl rfl (by decide +kernel)
set_option maxRecDepth 65536 in
theorem w_c13 : (Jvm.Cond.code ({ cls := "com/example/credential_to_assertion/credentialtoassertion/service/validation/IdentityTokenPresentation", name := "<init>", desc := "(Ljava/util/List;ZLjava/lang/String;)V" } : Jvm.MethodName) prog_24_method_1_code (4 : Nat) (Option.none : Option Jvm.ClassFile.FieldType)).before args0 about1 = true := code_word (m := ⟨8, 0⟩) (meth := k8m0) (c := k8c0) (by decide +kernel) rfl rfl rfl (by decide +kernel)
set_option maxRecDepth 65536 in
theorem w_c14 : (Jvm.Cond.code ({ cls := "java/util/List", name := "copyOf", desc := "(Ljava/util/Collection;)Ljava/util/List;" } : Jvm.MethodName) jdk_40_method_48_code (1 : Nat) (Option.some (Jvm.ClassFile.FieldType.object "java/util/List"))).before args0 about1 = true := code_word (m := ⟨13, 3⟩) (meth := k13m3) (c := k13c3) (by decide +kernel) rfl rfl rfl (by decide +kernel)
set_option maxRecDepth 65536 in
theorem w_c15 : (Jvm.Cond.code ({ cls := "java/util/ImmutableCollections", name := "listCopy", desc := "(Ljava/util/Collection;)Ljava/util/List;" } : Jvm.MethodName) jdk_56_method_3_code (2 : Nat) (Option.some (Jvm.ClassFile.FieldType.object "java/util/List"))).before args0 about1 = true := code_word (m := ⟨19, 1⟩) (meth := k19m1) (c := k19c1) (by decide +kernel) rfl rfl rfl (by decide +kernel)
set_option maxRecDepth 65536 in
theorem w_c16 : (Jvm.Cond.code ({ cls := "com/example/credential_to_assertion/credentialtoassertion/service/validation/IdentityTokenPresentation", name := "getAudiences", desc := "()Ljava/util/List;" } : Jvm.MethodName) prog_24_method_4_code (1 : Nat) (Option.some (Jvm.ClassFile.FieldType.object "java/util/List"))).before args0 about1 = true := code_word (m := ⟨8, 2⟩) (meth := k8m2) (c := k8c2) (by decide +kernel) rfl rfl rfl (by decide +kernel)
set_option maxRecDepth 65536 in
theorem w_c17 : (Jvm.Cond.code ({ cls := "java/util/ImmutableCollections$List12", name := "size", desc := "()I" } : Jvm.MethodName) jdk_44_method_3_code (1 : Nat) (Option.some Jvm.ClassFile.FieldType.int)).before args0 about1 = true := code_word (m := ⟨18, 1⟩) (meth := k18m1) (c := k18c1) (by decide +kernel) rfl rfl rfl (by decide +kernel)
set_option maxRecDepth 65536 in
theorem w_c18 : (Jvm.Cond.code ({ cls := "java/util/ImmutableCollections$List12", name := "get", desc := "(I)Ljava/lang/Object;" } : Jvm.MethodName) jdk_44_method_5_code (2 : Nat) (Option.some (Jvm.ClassFile.FieldType.object "java/lang/Object"))).before args0 about1 = true := code_word (m := ⟨18, 2⟩) (meth := k18m2) (c := k18c2) (by decide +kernel) rfl rfl rfl (by decide +kernel)
set_option maxRecDepth 65536 in
theorem w_c19 : (Jvm.Cond.code ({ cls := "java/lang/String", name := "length", desc := "()I" } : Jvm.MethodName) jdk_42_method_54_code (1 : Nat) (Option.some Jvm.ClassFile.FieldType.int)).before args0 about1 = true := code_word (m := ⟨7, 2⟩) (meth := k7m2) (c := k7c2) (by decide +kernel) rfl rfl rfl (by decide +kernel)
set_option maxRecDepth 65536 in
theorem w_c20 : (Jvm.Cond.code ({ cls := "java/lang/String", name := "coder", desc := "()B" } : Jvm.MethodName) jdk_42_method_152_code (1 : Nat) (Option.some Jvm.ClassFile.FieldType.byte)).before args0 about1 = true := code_word (m := ⟨7, 6⟩) (meth := k7m6) (c := k7c6) (by decide +kernel) rfl rfl rfl (by decide +kernel)
set_option maxRecDepth 65536 in
theorem w_c21 : (Jvm.Cond.code ({ cls := "java/lang/String", name := "equals", desc := "(Ljava/lang/Object;)Z" } : Jvm.MethodName) jdk_42_method_66_code (3 : Nat) (Option.some Jvm.ClassFile.FieldType.boolean)).before args0 about1 = true := code_word (m := ⟨7, 4⟩) (meth := k7m4) (c := k7c4) (by decide +kernel) rfl rfl rfl (by decide +kernel)
set_option maxRecDepth 65536 in
theorem w_c22 : (Jvm.Cond.code ({ cls := "com/example/credential_to_assertion/credentialtoassertion/service/validation/IdentityTokenPresentation", name := "isBearerGrant", desc := "()Z" } : Jvm.MethodName) prog_24_method_5_code (1 : Nat) (Option.some Jvm.ClassFile.FieldType.boolean)).before args0 about1 = true := code_word (m := ⟨8, 3⟩) (meth := k8m3) (c := k8c3) (by decide +kernel) rfl rfl rfl (by decide +kernel)
set_option maxRecDepth 65536 in
theorem w_c23 : (Jvm.Cond.code ({ cls := "com/example/credential_to_assertion/credentialtoassertion/service/validation/IdentityTokenPresentation", name := "getTokenEndpoint", desc := "()Ljava/util/Optional;" } : Jvm.MethodName) prog_24_method_6_code (1 : Nat) (Option.some (Jvm.ClassFile.FieldType.object "java/util/Optional"))).before args0 about1 = true := code_word (m := ⟨8, 4⟩) (meth := k8m4) (c := k8c4) (by decide +kernel) rfl rfl rfl (by decide +kernel)
set_option maxRecDepth 65536 in
theorem w_c24 : (Jvm.Cond.code ({ cls := "java/util/Optional", name := "ofNullable", desc := "(Ljava/lang/Object;)Ljava/util/Optional;" } : Jvm.MethodName) jdk_32_method_4_code (1 : Nat) (Option.some (Jvm.ClassFile.FieldType.object "java/util/Optional"))).before args0 about1 = true := code_word (m := ⟨20, 0⟩) (meth := k20m0) (c := k20c0) (by decide +kernel) rfl rfl rfl (by decide +kernel)
set_option maxRecDepth 65536 in
theorem w_c25 : (Jvm.Cond.code ({ cls := "java/util/Optional", name := "isPresent", desc := "()Z" } : Jvm.MethodName) jdk_32_method_6_code (1 : Nat) (Option.some Jvm.ClassFile.FieldType.boolean)).before args0 about1 = true := code_word (m := ⟨20, 1⟩) (meth := k20m1) (c := k20c1) (by decide +kernel) rfl rfl rfl (by decide +kernel)
set_option maxRecDepth 65536 in
theorem w_c26 : (Jvm.Cond.code ({ cls := "java/lang/StringUTF16", name := "compress", desc := "([CII)[B" } : Jvm.MethodName) jdk_52_method_16_code (6 : Nat) (Option.some (Jvm.ClassFile.FieldType.array Jvm.ClassFile.FieldType.byte))).before args0 about1 = true := code_word (m := ⟨21, 2⟩) (meth := k21m2) (c := k21c2) (by decide +kernel) rfl rfl rfl (by decide +kernel)
set_option maxRecDepth 65536 in
theorem w_c27 : (Jvm.Cond.code ({ cls := "java/lang/StringUTF16", name := "compress", desc := "([CI[BII)I" } : Jvm.MethodName) jdk_52_method_21_code (7 : Nat) (Option.some Jvm.ClassFile.FieldType.int)).before args0 about1 = true := code_word (m := ⟨21, 3⟩) (meth := k21m3) (c := k21c3) (by decide +kernel) rfl rfl rfl (by decide +kernel)
set_option maxRecDepth 65536 in
theorem w_c28 : (Jvm.Cond.code ({ cls := "java/lang/StringUTF16", name := "coderFromArrayLen", desc := "([BI)B" } : Jvm.MethodName) jdk_52_method_15_code (2 : Nat) (Option.some Jvm.ClassFile.FieldType.byte)).before args0 about1 = true := code_word (m := ⟨21, 1⟩) (meth := k21m1) (c := k21c1) (by decide +kernel) rfl rfl rfl (by decide +kernel)
set_option maxRecDepth 65536 in
theorem w_c29 : (Jvm.Cond.code ({ cls := "java/lang/String", name := "charAt", desc := "(I)C" } : Jvm.MethodName) jdk_42_method_56_code (2 : Nat) (Option.some Jvm.ClassFile.FieldType.char)).before args0 about1 = true := code_word (m := ⟨7, 3⟩) (meth := k7m3) (c := k7c3) (by decide +kernel) rfl rfl rfl (by decide +kernel)
set_option maxRecDepth 65536 in
theorem w_c30 : (Jvm.Cond.code ({ cls := "java/lang/String", name := "isLatin1", desc := "()Z" } : Jvm.MethodName) jdk_42_method_154_code (1 : Nat) (Option.some Jvm.ClassFile.FieldType.boolean)).before args0 about1 = true := code_word (m := ⟨7, 7⟩) (meth := k7m7) (c := k7c7) (by decide +kernel) rfl rfl rfl (by decide +kernel)
set_option maxRecDepth 65536 in
theorem w_c31 : (Jvm.Cond.code ({ cls := "java/lang/StringLatin1", name := "charAt", desc := "([BI)C" } : Jvm.MethodName) jdk_43_method_2_code (2 : Nat) (Option.some Jvm.ClassFile.FieldType.char)).before args0 about1 = true := code_word (m := ⟨22, 1⟩) (meth := k22m1) (c := k22c1) (by decide +kernel) rfl rfl rfl (by decide +kernel)
set_option maxRecDepth 65536 in
theorem w_c32 : (Jvm.Cond.code ({ cls := "java/lang/String", name := "checkIndex", desc := "(II)V" } : Jvm.MethodName) jdk_42_method_155_code (2 : Nat) (Option.none : Option Jvm.ClassFile.FieldType)).before args0 about1 = true := code_word (m := ⟨7, 8⟩) (meth := k7m8) (c := k7c8) (by decide +kernel) rfl rfl rfl (by decide +kernel)
set_option maxRecDepth 65536 in
theorem w_c33 : (Jvm.Cond.code ({ cls := "jdk/internal/util/Preconditions", name := "checkIndex", desc := "(IILjava/util/function/BiFunction;)I" } : Jvm.MethodName) jdk_41_method_11_code (3 : Nat) (Option.some Jvm.ClassFile.FieldType.int)).before args0 about1 = true := code_word (m := ⟨23, 1⟩) (meth := k23m1) (c := k23c1) (by decide +kernel) rfl rfl rfl (by decide +kernel)
def codes1 : List Jvm.Cond := [Jvm.Cond.code x code maxLocals ret, Jvm.Cond.code ({ cls := "com/example/credential_to_assertion/credentialtoassertion/service/validation/IdentityTokenPresentationRestrictedToPinLaw", name := "draw", desc := "(ICCC)Ljava/lang/String;" } : Jvm.MethodName) method_2_code (5 : Nat) (Option.some (Jvm.ClassFile.FieldType.object "java/lang/String")), Jvm.Cond.code ({ cls := "java/lang/String", name := "<init>", desc := "([C)V" } : Jvm.MethodName) jdk_42_method_3_code (2 : Nat) (Option.none : Option Jvm.ClassFile.FieldType), Jvm.Cond.code ({ cls := "java/lang/String", name := "<init>", desc := "([CIILjava/lang/Void;)V" } : Jvm.MethodName) jdk_42_method_149_code (6 : Nat) (Option.none : Option Jvm.ClassFile.FieldType), Jvm.Cond.code ({ cls := "java/lang/Object", name := "<init>", desc := "()V" } : Jvm.MethodName) object_method_1_code (1 : Nat) (Option.none : Option Jvm.ClassFile.FieldType), Jvm.Cond.code ({ cls := "com/example/credential_to_assertion/credentialtoassertion/service/validation/IdentityTokenPresentation", name := "restrictedTo", desc := "(Ljava/lang/String;)Lcom/example/credential_to_assertion/credentialtoassertion/service/validation/IdentityTokenPresentation;" } : Jvm.MethodName) prog_24_method_2_code (1 : Nat) (Option.some (Jvm.ClassFile.FieldType.object "com/example/credential_to_assertion/credentialtoassertion/service/validation/IdentityTokenPresentation")), Jvm.Cond.code ({ cls := "java/util/Objects", name := "requireNonNull", desc := "(Ljava/lang/Object;Ljava/lang/String;)Ljava/lang/Object;" } : Jvm.MethodName) jdk_31_method_11_code (2 : Nat) (Option.some (Jvm.ClassFile.FieldType.object "java/lang/Object")), Jvm.Cond.code ({ cls := "java/util/List", name := "of", desc := "(Ljava/lang/Object;)Ljava/util/List;" } : Jvm.MethodName) jdk_40_method_37_code (1 : Nat) (Option.some (Jvm.ClassFile.FieldType.object "java/util/List")), Jvm.Cond.code ({ cls := "java/util/ImmutableCollections$List12", name := "<init>", desc := "(Ljava/lang/Object;)V" } : Jvm.MethodName) jdk_44_method_1_code (2 : Nat) (Option.none : Option Jvm.ClassFile.FieldType), Jvm.Cond.code ({ cls := "java/util/ImmutableCollections$AbstractImmutableList", name := "<init>", desc := "()V" } : Jvm.MethodName) jdk_46_method_1_code (1 : Nat) (Option.none : Option Jvm.ClassFile.FieldType), Jvm.Cond.code ({ cls := "java/util/ImmutableCollections$AbstractImmutableCollection", name := "<init>", desc := "()V" } : Jvm.MethodName) jdk_47_method_1_code (1 : Nat) (Option.none : Option Jvm.ClassFile.FieldType), Jvm.Cond.code ({ cls := "java/util/AbstractCollection", name := "<init>", desc := "()V" } : Jvm.MethodName) jdk_22_method_1_code (1 : Nat) (Option.none : Option Jvm.ClassFile.FieldType), Jvm.Cond.code ({ cls := "java/util/Objects", name := "requireNonNull", desc := "(Ljava/lang/Object;)Ljava/lang/Object;" } : Jvm.MethodName) jdk_31_method_10_code (1 : Nat) (Option.some (Jvm.ClassFile.FieldType.object "java/lang/Object")), Jvm.Cond.code ({ cls := "com/example/credential_to_assertion/credentialtoassertion/service/validation/IdentityTokenPresentation", name := "<init>", desc := "(Ljava/util/List;ZLjava/lang/String;)V" } : Jvm.MethodName) prog_24_method_1_code (4 : Nat) (Option.none : Option Jvm.ClassFile.FieldType), Jvm.Cond.code ({ cls := "java/util/List", name := "copyOf", desc := "(Ljava/util/Collection;)Ljava/util/List;" } : Jvm.MethodName) jdk_40_method_48_code (1 : Nat) (Option.some (Jvm.ClassFile.FieldType.object "java/util/List")), Jvm.Cond.code ({ cls := "java/util/ImmutableCollections", name := "listCopy", desc := "(Ljava/util/Collection;)Ljava/util/List;" } : Jvm.MethodName) jdk_56_method_3_code (2 : Nat) (Option.some (Jvm.ClassFile.FieldType.object "java/util/List")), Jvm.Cond.code ({ cls := "com/example/credential_to_assertion/credentialtoassertion/service/validation/IdentityTokenPresentation", name := "getAudiences", desc := "()Ljava/util/List;" } : Jvm.MethodName) prog_24_method_4_code (1 : Nat) (Option.some (Jvm.ClassFile.FieldType.object "java/util/List")), Jvm.Cond.code ({ cls := "java/util/ImmutableCollections$List12", name := "size", desc := "()I" } : Jvm.MethodName) jdk_44_method_3_code (1 : Nat) (Option.some Jvm.ClassFile.FieldType.int), Jvm.Cond.code ({ cls := "java/util/ImmutableCollections$List12", name := "get", desc := "(I)Ljava/lang/Object;" } : Jvm.MethodName) jdk_44_method_5_code (2 : Nat) (Option.some (Jvm.ClassFile.FieldType.object "java/lang/Object")), Jvm.Cond.code ({ cls := "java/lang/String", name := "length", desc := "()I" } : Jvm.MethodName) jdk_42_method_54_code (1 : Nat) (Option.some Jvm.ClassFile.FieldType.int), Jvm.Cond.code ({ cls := "java/lang/String", name := "coder", desc := "()B" } : Jvm.MethodName) jdk_42_method_152_code (1 : Nat) (Option.some Jvm.ClassFile.FieldType.byte), Jvm.Cond.code ({ cls := "java/lang/String", name := "equals", desc := "(Ljava/lang/Object;)Z" } : Jvm.MethodName) jdk_42_method_66_code (3 : Nat) (Option.some Jvm.ClassFile.FieldType.boolean), Jvm.Cond.code ({ cls := "com/example/credential_to_assertion/credentialtoassertion/service/validation/IdentityTokenPresentation", name := "isBearerGrant", desc := "()Z" } : Jvm.MethodName) prog_24_method_5_code (1 : Nat) (Option.some Jvm.ClassFile.FieldType.boolean), Jvm.Cond.code ({ cls := "com/example/credential_to_assertion/credentialtoassertion/service/validation/IdentityTokenPresentation", name := "getTokenEndpoint", desc := "()Ljava/util/Optional;" } : Jvm.MethodName) prog_24_method_6_code (1 : Nat) (Option.some (Jvm.ClassFile.FieldType.object "java/util/Optional")), Jvm.Cond.code ({ cls := "java/util/Optional", name := "ofNullable", desc := "(Ljava/lang/Object;)Ljava/util/Optional;" } : Jvm.MethodName) jdk_32_method_4_code (1 : Nat) (Option.some (Jvm.ClassFile.FieldType.object "java/util/Optional")), Jvm.Cond.code ({ cls := "java/util/Optional", name := "isPresent", desc := "()Z" } : Jvm.MethodName) jdk_32_method_6_code (1 : Nat) (Option.some Jvm.ClassFile.FieldType.boolean), Jvm.Cond.code ({ cls := "java/lang/StringUTF16", name := "compress", desc := "([CII)[B" } : Jvm.MethodName) jdk_52_method_16_code (6 : Nat) (Option.some (Jvm.ClassFile.FieldType.array Jvm.ClassFile.FieldType.byte)), Jvm.Cond.code ({ cls := "java/lang/StringUTF16", name := "compress", desc := "([CI[BII)I" } : Jvm.MethodName) jdk_52_method_21_code (7 : Nat) (Option.some Jvm.ClassFile.FieldType.int), Jvm.Cond.code ({ cls := "java/lang/StringUTF16", name := "coderFromArrayLen", desc := "([BI)B" } : Jvm.MethodName) jdk_52_method_15_code (2 : Nat) (Option.some Jvm.ClassFile.FieldType.byte), Jvm.Cond.code ({ cls := "java/lang/String", name := "charAt", desc := "(I)C" } : Jvm.MethodName) jdk_42_method_56_code (2 : Nat) (Option.some Jvm.ClassFile.FieldType.char), Jvm.Cond.code ({ cls := "java/lang/String", name := "isLatin1", desc := "()Z" } : Jvm.MethodName) jdk_42_method_154_code (1 : Nat) (Option.some Jvm.ClassFile.FieldType.boolean), Jvm.Cond.code ({ cls := "java/lang/StringLatin1", name := "charAt", desc := "([BI)C" } : Jvm.MethodName) jdk_43_method_2_code (2 : Nat) (Option.some Jvm.ClassFile.FieldType.char), Jvm.Cond.code ({ cls := "java/lang/String", name := "checkIndex", desc := "(II)V" } : Jvm.MethodName) jdk_42_method_155_code (2 : Nat) (Option.none : Option Jvm.ClassFile.FieldType), Jvm.Cond.code ({ cls := "jdk/internal/util/Preconditions", name := "checkIndex", desc := "(IILjava/util/function/BiFunction;)I" } : Jvm.MethodName) jdk_41_method_11_code (3 : Nat) (Option.some Jvm.ClassFile.FieldType.int)]
set_option maxRecDepth 65536 in
theorem codes_eq : words1.filter isCode = codes1 := rfl
theorem w_codes : ∀ c ∈ words1.filter isCode, c.before args0 about1 = true := by
  rw [codes_eq]
  intro c hc
  simp only [codes1, List.mem_cons, List.not_mem_nil, or_false] at hc
  rcases hc with rfl | rfl | rfl | rfl | rfl | rfl | rfl | rfl | rfl | rfl | rfl | rfl | rfl | rfl | rfl | rfl | rfl | rfl | rfl | rfl | rfl | rfl | rfl | rfl | rfl | rfl | rfl | rfl | rfl | rfl | rfl | rfl | rfl | rfl
  · exact w_c0
  · exact w_c1
  · exact w_c2
  · exact w_c3
  · exact w_c4
  · exact w_c5
  · exact w_c6
  · exact w_c7
  · exact w_c8
  · exact w_c9
  · exact w_c10
  · exact w_c11
  · exact w_c12
  · exact w_c13
  · exact w_c14
  · exact w_c15
  · exact w_c16
  · exact w_c17
  · exact w_c18
  · exact w_c19
  · exact w_c20
  · exact w_c21
  · exact w_c22
  · exact w_c23
  · exact w_c24
  · exact w_c25
  · exact w_c26
  · exact w_c27
  · exact w_c28
  · exact w_c29
  · exact w_c30
  · exact w_c31
  · exact w_c32
  · exact w_c33
set_option maxRecDepth 65536 in
theorem w_t1 : (words1.take 24).all (fun c => isCode c || c.before args0 about1) = true := by decide +kernel
set_option maxRecDepth 65536 in
theorem w_t2 : ((words1.drop 24).take 24).all (fun c => isCode c || c.before args0 about1) = true := by decide +kernel
set_option maxRecDepth 65536 in
theorem w_t3 : (((words1.drop 24).drop 24).take 24).all (fun c => isCode c || c.before args0 about1) = true := by decide +kernel
set_option maxRecDepth 65536 in
theorem w_t4 : ((((words1.drop 24).drop 24).drop 24).take 24).all (fun c => isCode c || c.before args0 about1) = true := by decide +kernel
set_option maxRecDepth 65536 in
theorem w_t5 : (((((words1.drop 24).drop 24).drop 24).drop 24).take 24).all (fun c => isCode c || c.before args0 about1) = true := by decide +kernel
set_option maxRecDepth 65536 in
theorem w_t6 : ((((((words1.drop 24).drop 24).drop 24).drop 24).drop 24).take 24).all (fun c => isCode c || c.before args0 about1) = true := by decide +kernel
set_option maxRecDepth 65536 in
theorem w_t7 : (((((((words1.drop 24).drop 24).drop 24).drop 24).drop 24).drop 24).take 24).all (fun c => isCode c || c.before args0 about1) = true := by decide +kernel
set_option maxRecDepth 65536 in
theorem w_t8 : (((((((words1.drop 24).drop 24).drop 24).drop 24).drop 24).drop 24).drop 24).all (fun c => isCode c || c.before args0 about1) = true := by decide +kernel
theorem w_tables : (allAtoms (Jvm.Cond.code x code maxLocals ret :: tables_1)).before args0 about1 = true := by
  rw [allAtoms_all]
  show words1.all (fun c => c.before args0 about1) = true
  refine all_split ?_ w_codes
  rw [← List.take_append_drop 24 words1, List.all_append, w_t1, ← List.take_append_drop 24 (words1.drop 24), List.all_append, w_t2, ← List.take_append_drop 24 ((words1.drop 24).drop 24), List.all_append, w_t3, ← List.take_append_drop 24 (((words1.drop 24).drop 24).drop 24), List.all_append, w_t4, ← List.take_append_drop 24 ((((words1.drop 24).drop 24).drop 24).drop 24), List.all_append, w_t5, ← List.take_append_drop 24 (((((words1.drop 24).drop 24).drop 24).drop 24).drop 24), List.all_append, w_t6, ← List.take_append_drop 24 ((((((words1.drop 24).drop 24).drop 24).drop 24).drop 24).drop 24), List.all_append, w_t7, w_t8]
  rfl
set_option maxRecDepth 65536 in
theorem w_rest : rest_1_c.before args0 about1 = true := by decide +kernel
set_option maxRecDepth 65536 in
theorem w_case : (Jvm.Cond.and given_1 narrow_1).before args0 about1 = true := by decide +kernel
set_option maxRecDepth 65536 in
theorem w_consts : constsHeld consts_1 about1 := Jvm.Lit.constsHeldB_iff.mp (by decide +kernel)
theorem w_applies : (headSpec (Jvm.Cond.code x code maxLocals ret :: tables_1) room_1).applies x e0.platform about1 = true :=
  (Spec.applies_iff w_frames).mpr ⟨w_running, w_runnable, w_alone, w_named, w_hears, w_ripe, w_room, w_tables⟩
theorem atStart : AtStart classFile x code maxLocals ret World_1 tables_1 room_1 Calls_1 rest_1 Pre_1 launch0 p0 e0 about1 theMethod args0 below0 :=
  ⟨lists_1, trivial, launch0.admits_env _ _ _, launch0.least_env, fairChoices_fair.cas, fairChoices_fair.clock, w_frames, w_args, w_heap, w_applies, ⟨w_consts, trivial⟩, w_rest, w_case⟩
end start1
theorem witness_1 : WitnessClaimed_1 := ⟨start1.p0, start1.e0, start1.about1, start1.theMethod, start1.args0, start1.below0, start1.atStart⟩
end Jvm.Pilot.@@N@@
