import JvmDerived
import JvmDerived.Pilot.@@N@@Statement
import JvmDerived.Pilot.@@N@@Code
set_option linter.unusedVariables false
set_option linter.unusedSimpArgs false
/- laws to paste: Road.backV, Road.lenW, Road.eqW, Road.codOf, pair_says (cut by pick.py; bodies as the Statement names them) -/
namespace Jvm.Pilot.@@N@@
namespace StrChars
open Jvm Sem ClassFile Op Lib Jvm.Stand Jvm.Free.XT Jvm.Free.ALB Jvm.Free.JM Jvm.Free
open Jvm.Lib.Cold (StaticIs)
/-- a char array whose places are chars -/
def Ch (a : Addr) (A : Cell) (U : State) : Prop := Arr .char a A U ∧ Typed .char A
theorem Ch.mv {a : Addr} {A : Cell} {U U' : State} (h : Ch a A U) (hal : U.vm.Alike U'.vm) (hh : U'.heap = U.heap) : Ch a A U' := ⟨h.1.mv hal hh, h.2⟩
theorem Ch.keep {a : Addr} {A : Cell} {U U' : State} (h : Ch a A U) (hal : U.vm.Alike U'.vm) (hk : U'.heap[a]? = some A) : Ch a A U' := ⟨h.1.keep hal hk, h.2⟩
/-- what place i of a char[]'s cell holds -/
def cv (A : Cell) (i : Nat) : Int32 := match A.slots[i]? with | some (.int x) => x | _ => 0
theorem Ch.get {a : Addr} {A : Cell} {U : State} (h : Ch a A U) {i : Nat} (hi : i < A.slots.size) : A.slots[i]? = some (.int (cv A i)) := by
  have e := Array.getElem?_eq_getElem hi
  have f := h.2 i _ e
  unfold cv; rw [e]
  generalize A.slots[i] = v at f
  cases v <;> simp [fits] at f ⊢
/-- the byte that i2b leaves of a char -/
def lo8 (x : Int32) : Int32 := x.toInt8.toInt32
theorem fits_lo8 (y : Int32) : fits .byte (.int (lo8 y)) = true := by
  have h1 := y.toInt8.le_toInt
  have h2 := y.toInt8.toInt_lt
  simp only [lo8, fits, Bool.and_eq_true, decide_eq_true_eq, Int32.le_iff_toInt_le, Int8.toInt_toInt32, show (-128 : Int32).toInt = -128 from by decide, show (127 : Int32).toInt = 127 from by decide]
  omega
/-- A' is A but that each place j of lo .. hi - 1 holds f j -/
def Laid (A A' : Cell) (lo hi : Nat) (f : Nat → Value) : Prop := A'.cls = A.cls ∧ A'.vm = A.vm ∧ A'.slots.size = A.slots.size ∧ ∀ i, A'.slots[i]? = if lo ≤ i ∧ i < hi then some (f i) else A.slots[i]?
theorem Laid.zero (A : Cell) (lo : Nat) (f : Nat → Value) : Laid A A lo (lo + 0) f := ⟨rfl, rfl, rfl, fun i => by rw [if_neg (by omega)]⟩
theorem Laid.step {A Ak : Cell} {lo k : Nat} {f : Nat → Value} {v : Value} (h : Laid A Ak lo k f) (hlo : lo ≤ k) (hk : k < Ak.slots.size) (hv : v = f k) : Laid A (Ak.setSlot k v) lo (k + 1) f := by
  refine ⟨h.1, h.2.1, by simpa [Cell.setSlot] using h.2.2.1, fun i => ?_⟩
  by_cases e : k = i
  · subst e; rw [Cell.slots_setSlot_self v hk, if_pos (by omega), hv]
  · rw [Cell.slots_setSlot_ne v e, h.2.2.2 i]
    by_cases q : lo ≤ i ∧ i < k
    · rw [if_pos q, if_pos (by omega)]
    · rw [if_neg q, if_neg (by omega)]
def U16 : String := "java/lang/StringUTF16"
namespace Cmp5
def yN : MethodName := ⟨"java/lang/StringUTF16", "compress", "([CI[BII)I"⟩
abbrev yB : ByteArray := jdk_52_method_21_code
theorem d0 : decode yB 0 = .ok (.iconst 0, 1) := by decide +kernel
theorem d1 : decode yB 1 = .ok (.istore 5, 2) := by decide +kernel
theorem d3 : decode yB 3 = .ok (.iload 5, 2) := by decide +kernel
theorem d5 : decode yB 5 = .ok (.iload 4, 2) := by decide +kernel
theorem d7 : decode yB 7 = .ok (.if_icmp (.ge) 37, 3) := by decide +kernel
theorem d10 : decode yB 10 = .ok (.aload_n 0, 1) := by decide +kernel
theorem d11 : decode yB 11 = .ok (.iload_n 1, 1) := by decide +kernel
theorem d12 : decode yB 12 = .ok (.caload, 1) := by decide +kernel
theorem d13 : decode yB 13 = .ok (.istore 6, 2) := by decide +kernel
theorem d15 : decode yB 15 = .ok (.iload 6, 2) := by decide +kernel
theorem d17 : decode yB 17 = .ok (.sipush 255, 3) := by decide +kernel
theorem d20 : decode yB 20 = .ok (.if_icmp (.le) 6, 3) := by decide +kernel
theorem d26 : decode yB 26 = .ok (.aload_n 2, 1) := by decide +kernel
theorem d27 : decode yB 27 = .ok (.iload_n 3, 1) := by decide +kernel
theorem d28 : decode yB 28 = .ok (.iload 6, 2) := by decide +kernel
theorem d30 : decode yB 30 = .ok (.i2b, 1) := by decide +kernel
theorem d31 : decode yB 31 = .ok (.bastore, 1) := by decide +kernel
theorem d32 : decode yB 32 = .ok (.iinc 1 1, 3) := by decide +kernel
theorem d35 : decode yB 35 = .ok (.iinc 3 1, 3) := by decide +kernel
theorem d38 : decode yB 38 = .ok (.iinc 5 1, 3) := by decide +kernel
theorem d41 : decode yB 41 = .ok (.goto (-38), 3) := by decide +kernel
theorem d44 : decode yB 44 = .ok (.iload 4, 2) := by decide +kernel
theorem d46 : decode yB 46 = .ok (.ireturn, 1) := by decide +kernel
def site : List Cond := []
def tab : Cond := tabOf yN yB 7 (some .int) site
def P (b : Addr) (A : Cell) (d : Addr) (B : Cell) (o q len : Nat) (args : Array Value) (s : State) : Prop := args = #[.ref b, .int (Int32.ofNat o), .ref d, .int (Int32.ofNat q), .int (Int32.ofNat len)] ∧ Ch b A s ∧ Arr .byte d B s ∧ b ≠ d ∧ o + len ≤ A.slots.size ∧ q + len ≤ B.slots.size ∧ ∀ i, i < len → ¬ 255 < cv A (o + i)
def E (b : Addr) (A : Cell) (d : Addr) (B : Cell) (o q len : Nat) (r : Option Value) (s u : State) : Prop := r = some (.int (Int32.ofNat len)) ∧ ∃ B', Put d B' s u ∧ Laid B B' q (q + len) (fun j => Value.int (lo8 (cv A (o + (j - q)))))
/-- no char of the range above 255: len; the places written hold each char's low byte -/
theorem law (l : Launch) (b : Addr) (A : Cell) (d : Addr) (B : Cell) (o q len : Nat) : Law l yN 5 5 0 0 yB 7 (some .int) site (P b A d B o q len) (E b A d B o q len) (copyLocs d q len) 0 0 := by
  refine Law.of_walk (plainFor_of_name (by decide +kernel)) (by decide +kernel) (by decide +kernel) (by decide) (fun _ _ h => by rw [h.1]; rfl) (fun _ U U' hal hh h => ⟨h.1, h.2.1.mv hal hh, h.2.2.1.mv hal hh, h.2.2.2⟩) (fun r U U' V V' h1 hal h2 h => ⟨h.1, h.2.elim fun B' q => ⟨B', q.1.mv h1 h2, q.2⟩⟩) ?_
  intro p e s m args below meth c s₁ X0 hexec hbytes hml hret hlk hnm hown hh0 W hP
  obtain ⟨rfl, hA, hB, hne, l1, l2, hp⟩ := hP
  have c1 : Steps p.tables e below (s₁.setTop (entryFrame m #[.ref b, .int (Int32.ofNat o), .ref d, .int (Int32.ofNat q), .int (Int32.ofNat len)] 7)) (s₁.setTop (mkF m 0 #[.val (.ref b), .val (.int (Int32.ofNat o)), .val (.ref d), .val (.int (Int32.ofNat q)), .val (.int (Int32.ofNat len)), .unset, .unset] [])) := entry rfl
  have hA0 := hA.1.mv X0.warmed.alike hh0
  have hB0 := hB.mv X0.warmed.alike hh0
  have a31 := hA.1.2.2.2
  have c2 : Steps p.tables e below (s₁.setTop (entryFrame m #[.ref b, .int (Int32.ofNat o), .ref d, .int (Int32.ofNat q), .int (Int32.ofNat len)] 7)) (s₁.setTop (mkF m 3 #[.val (.ref b), .val (.int (Int32.ofNat o)), .val (.ref d), .val (.int (Int32.ofNat q)), .val (.int (Int32.ofNat len)), .val (.int 0), .unset] [])) := c1.trans (by
    refine iconstV X0.here hexec rfl 0 (hb hbytes d0) (by decide) ?_
    refine XS.istore X0.here hexec rfl (hb hbytes d1) rfl rfl ?_
    exact Steps.refl _)
  have loop : ∀ (r i : Nat), i + r = len → ∀ (z : Slot), (z = .unset ∨ ∃ w, z = .val w ∧ w.category = 1) → ∀ (Tl : State) (Bk : Cell), Stand p l e { frames := 0, locals := 0, cells := 0, slots := 0 } s m #[.ref b, .int (Int32.ofNat o), .ref d, .int (Int32.ofNat q), .int (Int32.ofNat len)] below meth c Tl ([] ++ copyLocs d q i) 0 0 → Put d Bk s₁ Tl → Laid B Bk q (q + i) (fun j => Value.int (lo8 (cv A (o + (j - q))))) →
      Steps p.tables e below (s₁.setTop (entryFrame m #[.ref b, .int (Int32.ofNat o), .ref d, .int (Int32.ofNat q), .int (Int32.ofNat len)] 7)) (Tl.setTop (mkF m 3 #[.val (.ref b), .val (.int (Int32.ofNat (o + i))), .val (.ref d), .val (.int (Int32.ofNat (q + i))), .val (.int (Int32.ofNat len)), .val (.int (Int32.ofNat i)), z] [])) → ∃ (T' : State) (B' : Cell) (z' : Slot), Stand p l e { frames := 0, locals := 0, cells := 0, slots := 0 } s m #[.ref b, .int (Int32.ofNat o), .ref d, .int (Int32.ofNat q), .int (Int32.ofNat len)] below meth c T' ([] ++ copyLocs d q len) 0 0 ∧ Put d B' s₁ T' ∧ Laid B B' q (q + len) (fun j => Value.int (lo8 (cv A (o + (j - q))))) ∧
      Steps p.tables e below (s₁.setTop (entryFrame m #[.ref b, .int (Int32.ofNat o), .ref d, .int (Int32.ofNat q), .int (Int32.ofNat len)] 7)) (T'.setTop (mkF m 3 #[.val (.ref b), .val (.int (Int32.ofNat (o + len))), .val (.ref d), .val (.int (Int32.ofNat (q + len))), .val (.int (Int32.ofNat len)), .val (.int (Int32.ofNat len)), z'] [])) := by
    intro r
    induction r with
    | zero =>
      intro i hi z hz Tl Bk Xl pl fl cl
      have hil : i = len := by omega
      rw [hil] at Xl fl cl
      exact ⟨Tl, Bk, z, Xl, pl, fl, cl⟩
    | succ r ih =>
      intro i hi z hz Tl Bk Xl pl fl cl
      have all := X0.warmed.alike.symm.trans Xl.warmed.alike
      have hAl := hA0.keep all (pl.other hne hA0.1)
      have hBk := hB0.like all pl.1 fl.1 fl.2.1 fl.2.2.1
      have hlt : q + i < Bk.slots.size := by rw [fl.2.2.1]; omega
      have c3 : Steps p.tables e below (s₁.setTop (entryFrame m #[.ref b, .int (Int32.ofNat o), .ref d, .int (Int32.ofNat q), .int (Int32.ofNat len)] 7)) (Tl.setTop (mkF m 12 #[.val (.ref b), .val (.int (Int32.ofNat (o + i))), .val (.ref d), .val (.int (Int32.ofNat (q + i))), .val (.int (Int32.ofNat len)), .val (.int (Int32.ofNat i)), z] [.int (Int32.ofNat (o + i)), .ref b])) := cl.trans (by
        refine XS.iload Xl.here hexec rfl (hb hbytes d3) rfl ?_
        refine XS.iload Xl.here hexec rfl (hb hbytes d5) rfl ?_
        refine XS.icmpNo Xl.here hexec rfl (hb hbytes d7) rfl (ii_ge_f (lt32 (by omega) (by omega))) ?_
        refine XS.aloadN Xl.here hexec rfl (hb hbytes d10) rfl rfl ?_
        refine XS.iloadN Xl.here hexec rfl (hb hbytes d11) rfl ?_
        exact Steps.refl _)
      have c4 : Steps p.tables e below (s₁.setTop (entryFrame m #[.ref b, .int (Int32.ofNat o), .ref d, .int (Int32.ofNat q), .int (Int32.ofNat len)] 7)) (Tl.setTop (mkF m 13 #[.val (.ref b), .val (.int (Int32.ofNat (o + i))), .val (.ref d), .val (.int (Int32.ofNat (q + i))), .val (.int (Int32.ofNat len)), .val (.int (Int32.ofNat i)), z] [.int (cv A (o + i))])) := c3.trans (by
        refine Xl.aget hexec hAl rfl (hA.get (i := o + i) (by omega)) rfl rfl (hb hbytes d12) ?_
        exact Steps.refl _)
      have c5 : Steps p.tables e below (s₁.setTop (entryFrame m #[.ref b, .int (Int32.ofNat o), .ref d, .int (Int32.ofNat q), .int (Int32.ofNat len)] 7)) (Tl.setTop (mkF m 15 #[.val (.ref b), .val (.int (Int32.ofNat (o + i))), .val (.ref d), .val (.int (Int32.ofNat (q + i))), .val (.int (Int32.ofNat len)), .val (.int (Int32.ofNat i)), .val (.int (cv A (o + i)))] [])) := c4.trans (by
        refine XS.istoreS Xl.here hexec rfl (hb hbytes d13) rfl rfl hz ?_
        exact Steps.refl _)
      have c6 : Steps p.tables e below (s₁.setTop (entryFrame m #[.ref b, .int (Int32.ofNat o), .ref d, .int (Int32.ofNat q), .int (Int32.ofNat len)] 7)) (Tl.setTop (mkF m 31 #[.val (.ref b), .val (.int (Int32.ofNat (o + i))), .val (.ref d), .val (.int (Int32.ofNat (q + i))), .val (.int (Int32.ofNat len)), .val (.int (Int32.ofNat i)), .val (.int (cv A (o + i)))] [.int (lo8 (cv A (o + i))), .int (Int32.ofNat (q + i)), .ref d])) := c5.trans (by
        refine XS.iload Xl.here hexec rfl (hb hbytes d15) rfl ?_
        refine sipushV Xl.here hexec rfl 255 (hb hbytes d17) (by decide) ?_
        refine XS.icmpYes Xl.here hexec rfl (pc0 := 20) rfl (hb hbytes d20) rfl (ii_le_t (hp i (by omega))) (by decide) rfl ?_
        refine XS.aloadN Xl.here hexec rfl (hb hbytes d26) rfl rfl ?_
        refine XS.iloadN Xl.here hexec rfl (hb hbytes d27) rfl ?_
        refine XS.iload Xl.here hexec rfl (hb hbytes d28) rfl ?_
        refine i2b Xl.here hexec rfl (hb hbytes d30) rfl ?_
        exact Steps.refl _)
      obtain ⟨T7, X7, p7, st7⟩ := Xl.aput hexec hBk rfl hlt rfl (fits_lo8 (cv A (o + i))) (g := (mkF m 31 #[.val (.ref b), .val (.int (Int32.ofNat (o + i))), .val (.ref d), .val (.int (Int32.ofNat (q + i))), .val (.int (Int32.ofNat len)), .val (.int (Int32.ofNat i)), .val (.int (cv A (o + i)))] [.int (lo8 (cv A (o + i))), .int (Int32.ofNat (q + i)), .ref d])) rfl (rest := []) rfl (hb hbytes d31)
      have c8 : Steps p.tables e below (s₁.setTop (entryFrame m #[.ref b, .int (Int32.ofNat o), .ref d, .int (Int32.ofNat q), .int (Int32.ofNat len)] 7)) (T7.setTop (mkF m 32 #[.val (.ref b), .val (.int (Int32.ofNat (o + i))), .val (.ref d), .val (.int (Int32.ofNat (q + i))), .val (.int (Int32.ofNat len)), .val (.int (Int32.ofNat i)), .val (.int (cv A (o + i)))] [])) := c6.trans (st7 _ (Steps.refl _))
      have c9 : Steps p.tables e below (s₁.setTop (entryFrame m #[.ref b, .int (Int32.ofNat o), .ref d, .int (Int32.ofNat q), .int (Int32.ofNat len)] 7)) (T7.setTop (mkF m 3 #[.val (.ref b), .val (.int (Int32.ofNat (o + i) + 1)), .val (.ref d), .val (.int (Int32.ofNat (q + i) + 1)), .val (.int (Int32.ofNat len)), .val (.int (Int32.ofNat i + 1)), .val (.int (cv A (o + i)))] [])) := c8.trans (by
        refine iincV X7.here hexec rfl 1 (hb hbytes d32) (by decide) rfl rfl ?_
        refine iincV X7.here hexec rfl 1 (hb hbytes d35) (by decide) rfl rfl ?_
        refine iincV X7.here hexec rfl 1 (hb hbytes d38) (by decide) rfl rfl ?_
        refine XS.goto X7.here hexec rfl (pc0 := 41) rfl (hb hbytes d41) (by decide) rfl ?_
        exact Steps.refl _)
      have c10 : Steps p.tables e below (s₁.setTop (entryFrame m #[.ref b, .int (Int32.ofNat o), .ref d, .int (Int32.ofNat q), .int (Int32.ofNat len)] 7)) (T7.setTop (mkF m 3 #[.val (.ref b), .val (.int (Int32.ofNat (o + (i + 1)))), .val (.ref d), .val (.int (Int32.ofNat (q + (i + 1)))), .val (.int (Int32.ofNat len)), .val (.int (Int32.ofNat (i + 1))), .val (.int (cv A (o + i)))] [])) := by
        have := c9
        rw [succ32, succ32, succ32] at this
        exact this
      exact ih (i + 1) (by omega) _ (Or.inr ⟨_, rfl, rfl⟩) T7 _ (by rw [copyLocs_step, ← List.append_assoc]; exact X7) (pl.trans p7) (fl.step (by omega) hlt (by simp)) c10
  obtain ⟨T9, B9, z9, X9, p9, f9, g9⟩ := loop len 0 (by omega) .unset (Or.inl rfl) s₁ B (by simpa [copyLocs] using X0) ⟨hB0.1, fun _ _ => rfl, rfl⟩ (Laid.zero _ _ _) c2
  have c11 : Steps p.tables e below (s₁.setTop (entryFrame m #[.ref b, .int (Int32.ofNat o), .ref d, .int (Int32.ofNat q), .int (Int32.ofNat len)] 7)) (T9.setTop (mkF m 46 #[.val (.ref b), .val (.int (Int32.ofNat (o + len))), .val (.ref d), .val (.int (Int32.ofNat (q + len))), .val (.int (Int32.ofNat len)), .val (.int (Int32.ofNat len)), z9] [.int (Int32.ofNat len)])) := g9.trans (by
    refine XS.iload X9.here hexec rfl (hb hbytes d3) rfl ?_
    refine XS.iload X9.here hexec rfl (hb hbytes d5) rfl ?_
    refine XS.icmpYes X9.here hexec rfl (pc0 := 7) rfl (hb hbytes d7) rfl (ii_ge_t (nlt32 (by omega) (Nat.le_refl _))) (by decide) rfl ?_
    refine XS.iload X9.here hexec rfl (hb hbytes d44) rfl ?_
    exact Steps.refl _)
  exact ⟨T9, some (.int (Int32.ofNat len)), _, _, _, X9, by simp, rfl, rfl, (fun h => by cases h), ⟨rfl, B9, p9.from hh0, f9⟩, fun fs hl => c11.trans (X9.ireturnOut hexec hret rfl (Or.inl rfl) (hb hbytes d46) hl)⟩
end Cmp5
namespace Cmp3
def yN : MethodName := ⟨"java/lang/StringUTF16", "compress", "([CII)[B"⟩
abbrev yB : ByteArray := jdk_52_method_16_code
theorem d0 : decode yB 0 = .ok (.iload_n 2, 1) := by decide +kernel
theorem d1 : decode yB 1 = .ok (.newarray .byte, 2) := by decide +kernel
theorem d3 : decode yB 3 = .ok (.astore_n 3, 1) := by decide +kernel
theorem d4 : decode yB 4 = .ok (.aload_n 0, 1) := by decide +kernel
theorem d5 : decode yB 5 = .ok (.iload_n 1, 1) := by decide +kernel
theorem d6 : decode yB 6 = .ok (.aload_n 3, 1) := by decide +kernel
theorem d7 : decode yB 7 = .ok (.iconst 0, 1) := by decide +kernel
theorem d8 : decode yB 8 = .ok (.iload_n 2, 1) := by decide +kernel
theorem d9 : decode yB 9 = .ok (.invokestatic 115, 3) := by decide +kernel
theorem d12 : decode yB 12 = .ok (.istore 4, 2) := by decide +kernel
theorem d14 : decode yB 14 = .ok (.iload 4, 2) := by decide +kernel
theorem d16 : decode yB 16 = .ok (.iload_n 2, 1) := by decide +kernel
theorem d17 : decode yB 17 = .ok (.if_icmp (.eq) 40, 3) := by decide +kernel
theorem d57 : decode yB 57 = .ok (.aload_n 3, 1) := by decide +kernel
theorem d58 : decode yB 58 = .ok (.areturn, 1) := by decide +kernel
def site : List Cond := [.arrayClass .byte, Cmp5.tab] ++ staticW U16 115 Cmp5.yN
def tab : Cond := tabOf yN yB 6 (some (.array .byte)) site
def P (b : Addr) (A : Cell) (o len : Nat) (args : Array Value) (s : State) : Prop := args = #[.ref b, .int (Int32.ofNat o), .int (Int32.ofNat len)] ∧ Ch b A s ∧ o + len ≤ A.slots.size ∧ len ≤ 536870912 ∧ ∀ i, i < len → ¬ 255 < cv A (o + i)
def E (b : Addr) (A : Cell) (o len : Nat) (r : Option Value) (s u : State) : Prop := NewArr .byte "[B" len (fun j => .int (lo8 (cv A (o + j)))) r s u ∧ u.heap.size = s.heap.size + 1
/-- no char of the range above 255: a new byte[] of their low bytes -/
theorem law (l : Launch) (b : Addr) (A : Cell) (o len : Nat) : Law l yN 3 3 1 18 yB 6 (some (.array .byte)) site (P b A o len) (E b A o len) [] 1 len := by
  refine Law.of_walk (plainFor_of_name (by decide +kernel)) (by decide +kernel) (by decide +kernel) (by decide) (fun _ _ h => by rw [h.1]; rfl) (fun _ U U' hal hh h => ⟨h.1, h.2.1.mv hal hh, h.2.2⟩) (fun r U U' V V' h1 hal h2 h => ⟨NewArr.mv r U U' V V' h1 hal h2 h.1, by rw [h1, h2]; exact h.2⟩) ?_
  intro p e s m args below meth c s₁ X0 hexec hbytes hml hret hlk hnm hown hh0 W hP
  obtain ⟨rfl, hA, l1, l2, hp⟩ := hP
  have a31 := hA.1.2.2.2
  have c1 : Steps p.tables e below (s₁.setTop (entryFrame m #[.ref b, .int (Int32.ofNat o), .int (Int32.ofNat len)] 6)) (s₁.setTop (mkF m 0 #[.val (.ref b), .val (.int (Int32.ofNat o)), .val (.int (Int32.ofNat len)), .unset, .unset, .unset] [])) := entry rfl
  have c2 : Steps p.tables e below (s₁.setTop (entryFrame m #[.ref b, .int (Int32.ofNat o), .int (Int32.ofNat len)] 6)) (s₁.setTop (mkF m 1 #[.val (.ref b), .val (.int (Int32.ofNat o)), .val (.int (Int32.ofNat len)), .unset, .unset, .unset] [.int (Int32.ofNat len)])) := c1.trans (by
    refine XS.iloadN X0.here hexec rfl (hb hbytes d0) rfl ?_
    exact Steps.refl _)
  obtain ⟨T3, B3, X3, ba3, bs3, bv3, bh3, bf3, st3⟩ := X0.anew hexec (atype := .byte) (wk W (.arrayClass .byte)) rfl (by show len * 1 ≤ _; omega) (by omega) (g := (mkF m 1 #[.val (.ref b), .val (.int (Int32.ofNat o)), .val (.int (Int32.ofNat len)), .unset, .unset, .unset] [.int (Int32.ofNat len)])) rfl (hb hbytes d1) (rest := []) rfl (Nat.le_refl _) (by show 0 + len ≤ len; omega)
  rw [hh0] at ba3 st3
  have kp3 : XT.Kept s T3 := (XT.Kept.of_eq hh0).push bh3
  have hA3 := hA.keep X3.warmed.alike (kp3 _ _ hA.1.1)
  have hne : b ≠ s.heap.size := hA.1.ne
  have c4 : Steps p.tables e below (s₁.setTop (entryFrame m #[.ref b, .int (Int32.ofNat o), .int (Int32.ofNat len)] 6)) (T3.setTop (mkF m 3 #[.val (.ref b), .val (.int (Int32.ofNat o)), .val (.int (Int32.ofNat len)), .unset, .unset, .unset] [.ref s.heap.size])) := c2.trans (st3 _ (Steps.refl _))
  have c5 : Steps p.tables e below (s₁.setTop (entryFrame m #[.ref b, .int (Int32.ofNat o), .int (Int32.ofNat len)] 6)) (T3.setTop (mkF m 9 #[.val (.ref b), .val (.int (Int32.ofNat o)), .val (.int (Int32.ofNat len)), .val (.ref s.heap.size), .unset, .unset] [.int (Int32.ofNat len), .int 0, .ref s.heap.size, .int (Int32.ofNat o), .ref b])) := c4.trans (by
    refine XS.astoreN X3.here hexec rfl (hb hbytes d3) rfl rfl rfl ?_
    refine XS.aloadN X3.here hexec rfl (hb hbytes d4) rfl rfl ?_
    refine XS.iloadN X3.here hexec rfl (hb hbytes d5) rfl ?_
    refine XS.aloadN X3.here hexec rfl (hb hbytes d6) rfl rfl ?_
    refine iconstV X3.here hexec rfl 0 (hb hbytes d7) (by decide) ?_
    refine XS.iloadN X3.here hexec rfl (hb hbytes d8) rfl ?_
    exact Steps.refl _)
  obtain ⟨v6, T6, X6, E6, g6⟩ := X3.callS hexec (Cmp5.law l b A s.heap.size B3 o 0 len) hown (wks W (staticW U16 115 Cmp5.yN)) (wk W Cmp5.tab) (W := 0) (Nat.le_of_ble_eq_true rfl) (Nat.le_of_ble_eq_true rfl) (Nat.le_refl _) (by show 0 + len + 0 ≤ len; omega) (g := (mkF m 9 #[.val (.ref b), .val (.int (Int32.ofNat o)), .val (.int (Int32.ofNat len)), .val (.ref s.heap.size), .unset, .unset] [.int (Int32.ofNat len), .int (Int32.ofNat 0), .ref s.heap.size, .int (Int32.ofNat o), .ref b])) rfl (by rw [hml]; rfl) c5 (argsL := [.ref b, .int (Int32.ofNat o), .ref s.heap.size, .int (Int32.ofNat 0), .int (Int32.ofNat len)]) (rest := []) rfl rfl (by show 2 * 0 + 0 ≤ _; decide) (hb hbytes d9) (⟨rfl, hA3, ba3, hne, l1, by rw [bs3]; simp, hp⟩)
  obtain ⟨rfl, B6, p6, f6⟩ := E6
  have c7 : Steps p.tables e below (s₁.setTop (entryFrame m #[.ref b, .int (Int32.ofNat o), .int (Int32.ofNat len)] 6)) (T6.setTop (mkF m 12 #[.val (.ref b), .val (.int (Int32.ofNat o)), .val (.int (Int32.ofNat len)), .val (.ref s.heap.size), .unset, .unset] [.int (Int32.ofNat len)])) := g6
  have c8 : Steps p.tables e below (s₁.setTop (entryFrame m #[.ref b, .int (Int32.ofNat o), .int (Int32.ofNat len)] 6)) (T6.setTop (mkF m 58 #[.val (.ref b), .val (.int (Int32.ofNat o)), .val (.int (Int32.ofNat len)), .val (.ref s.heap.size), .val (.int (Int32.ofNat len)), .unset] [.ref s.heap.size])) := c7.trans (by
    refine XS.istore X6.here hexec rfl (hb hbytes d12) rfl rfl ?_
    refine XS.iload X6.here hexec rfl (hb hbytes d14) rfl ?_
    refine XS.iloadN X6.here hexec rfl (hb hbytes d16) rfl ?_
    refine XS.icmpYes X6.here hexec rfl (pc0 := 17) rfl (hb hbytes d17) rfl (ii_eq_t rfl) (by decide) rfl ?_
    refine XS.aloadN X6.here hexec rfl (hb hbytes d57) rfl rfl ?_
    exact Steps.refl _)
  have X8 := X6.wide (L' := []) (cells' := 1) (slots' := len) (fun x hx hlt => by
    simp only [List.nil_append, copyLocs, List.mem_map, List.mem_range] at hx
    obtain ⟨i, -, rfl⟩ := hx
    exact absurd hlt (Nat.lt_irrefl _)) (Nat.le_refl _) (by omega)
  exact ⟨T6, some (.ref s.heap.size), _, _, _, X8, rfl, rfl, rfl, (fun h => by cases h), ⟨⟨rfl, B6, ba3.like (X3.warmed.alike.symm.trans X6.warmed.alike) p6.1 f6.1 f6.2.1 f6.2.2.1, f6.2.1.trans bv3, by rw [X6.warmed.alike.findClass, f6.1]; exact bf3, by rw [f6.2.2.1, bs3]; simp, fun j hj => by rw [f6.2.2.2 j, if_pos (by omega)]; rfl, kp3.put p6 (Nat.le_refl _)⟩, by rw [p6.2.2, bh3, hh0]; simp⟩, fun fs hl => c8.trans (X8.areturnOut hexec rfl hret rfl (hb hbytes d58) hl)⟩
end Cmp3
namespace CodL
def yN : MethodName := ⟨"java/lang/StringUTF16", "coderFromArrayLen", "([BI)B"⟩
abbrev yB : ByteArray := jdk_52_method_15_code
theorem d0 : decode yB 0 = .ok (.iload_n 1, 1) := by decide +kernel
theorem d1 : decode yB 1 = .ok (.aload_n 0, 1) := by decide +kernel
theorem d2 : decode yB 2 = .ok (.arraylength, 1) := by decide +kernel
theorem d3 : decode yB 3 = .ok (.isub, 1) := by decide +kernel
theorem d4 : decode yB 4 = .ok (.bipush 31, 2) := by decide +kernel
theorem d6 : decode yB 6 = .ok (.iushr, 1) := by decide +kernel
theorem d7 : decode yB 7 = .ok (.i2b, 1) := by decide +kernel
theorem d8 : decode yB 8 = .ok (.ireturn, 1) := by decide +kernel
def site : List Cond := []
def tab : Cond := tabOf yN yB 2 (some .byte) site
def P (d : Addr) (B : Cell) (args : Array Value) (s : State) : Prop := args = #[.ref d, .int (Int32.ofNat B.slots.size)] ∧ Arr .byte d B s
def E (r : Option Value) (s u : State) : Prop := XT.PureE (some (.int 0)) r s u
/-- an array as long as the number of chars: LATIN1 -/
theorem law (l : Launch) (d : Addr) (B : Cell) : Law l yN 2 2 0 0 yB 2 (some .byte) site (P d B) E [] 0 0 := by
  refine Law.of_walk (plainFor_of_name (by decide +kernel)) (by decide +kernel) (by decide +kernel) (by decide) (fun _ _ h => by rw [h.1]; rfl) (fun _ U U' hal hh h => ⟨h.1, h.2.mv hal hh⟩) (fun r U U' V V' h1 hal h2 h => XT.PureE.mv r U U' V V' h1 hal h2 h) ?_
  intro p e s m args below meth c s₁ X0 hexec hbytes hml hret hlk hnm hown hh0 W hP
  obtain ⟨rfl, hB⟩ := hP
  have hB0 := hB.mv X0.warmed.alike hh0
  have c1 : Steps p.tables e below (s₁.setTop (entryFrame m #[.ref d, .int (Int32.ofNat B.slots.size)] 2)) (s₁.setTop (mkF m 0 #[.val (.ref d), .val (.int (Int32.ofNat B.slots.size))] [])) := entry rfl
  have c2 : Steps p.tables e below (s₁.setTop (entryFrame m #[.ref d, .int (Int32.ofNat B.slots.size)] 2)) (s₁.setTop (mkF m 2 #[.val (.ref d), .val (.int (Int32.ofNat B.slots.size))] [.ref d, .int (Int32.ofNat B.slots.size)])) := c1.trans (by
    refine XS.iloadN X0.here hexec rfl (hb hbytes d0) rfl ?_
    refine XS.aloadN X0.here hexec rfl (hb hbytes d1) rfl rfl ?_
    exact Steps.refl _)
  have c3 : Steps p.tables e below (s₁.setTop (entryFrame m #[.ref d, .int (Int32.ofNat B.slots.size)] 2)) (s₁.setTop (mkF m 8 #[.val (.ref d), .val (.int (Int32.ofNat B.slots.size))] [.int (lo8 (ushr (Int32.ofNat B.slots.size - Int32.ofNat B.slots.size) 31))])) := c2.trans (by
    refine X0.alen hexec hB0 rfl rfl (hb hbytes d2) ?_
    refine XS.isub X0.here hexec rfl (hb hbytes d3) rfl ?_
    refine bipushV X0.here hexec rfl 31 (hb hbytes d4) (by decide) ?_
    refine iushr X0.here hexec rfl (hb hbytes d6) rfl ?_
    refine i2b X0.here hexec rfl (hb hbytes d7) rfl ?_
    exact Steps.refl _)
  have e0 : lo8 (ushr (Int32.ofNat B.slots.size - Int32.ofNat B.slots.size) 31) = 0 := by rw [Int32.sub_self]; decide
  rw [e0] at c3
  exact ⟨s₁, some (.int 0), _, _, _, X0, rfl, rfl, rfl, (fun h => by cases h), ⟨rfl, hh0⟩, fun fs hl => c3.trans (X0.ireturnOut hexec hret rfl (Or.inr (Or.inr (Or.inl rfl))) (hb hbytes d8) hl)⟩
end CodL
/-- the String at a is Latin-1 over a new byte[] (the heap's one new cell): the low bytes of the len chars of A from o on; every cell but a is kept -/
def Got (a : Addr) (D : Cell) (fV fC : Field) (A : Cell) (o len : Nat) (r : Option Value) (s u : State) : Prop := r = none ∧ ∃ D' V : Cell, Blank "java/lang/String" a D' u ∧ Same D D' [fV.slot, fC.slot] ∧ D'.slots[fV.slot]? = some (.ref s.heap.size) ∧ D'.slots[fC.slot]? = some (.int 0) ∧ Arr .byte s.heap.size V u ∧ V.vm = .none ∧ u.vm.findClass "[B" = some V.cls ∧ V.slots.size = len ∧ (∀ j, j < len → V.slots[j]? = some (.int (lo8 (cv A (o + j))))) ∧ (∀ (y : Addr) (c : Cell), y ≠ a → s.heap[y]? = some c → u.heap[y]? = some c) ∧ u.heap.size = s.heap.size + 1
theorem Got.mv {a : Addr} {D A : Cell} {fV fC : Field} {o len : Nat} : ∀ r (U U' V V' : State), U'.heap = U.heap → V.vm.Alike V'.vm → V'.heap = V.heap → Got a D fV fC A o len r U V → Got a D fV fC A o len r U' V' :=
  fun r U U' V V' h1 hal h2 ⟨e0, D', X, a1, a2, a3, a4, a5, a6, a7, a8, a9, a10, a11⟩ => ⟨e0, D', X, a1.mv hal h2, a2, by rw [h1]; exact a3, a4, by rw [h1]; exact a5.mv hal h2, a6, by rw [hal.findClass]; exact a7, a8, a9, by rw [h1, h2]; exact a10, by rw [h1, h2]; exact a11⟩
namespace New4
def yN : MethodName := ⟨"java/lang/String", "<init>", "([CIILjava/lang/Void;)V"⟩
abbrev yB : ByteArray := jdk_42_method_149_code
theorem d0 : decode yB 0 = .ok (.aload_n 0, 1) := by decide +kernel
theorem d1 : decode yB 1 = .ok (.invokespecial 1, 3) := by decide +kernel
theorem d4 : decode yB 4 = .ok (.iload_n 3, 1) := by decide +kernel
theorem d5 : decode yB 5 = .ok (.ifCond (.ne) 22, 3) := by decide +kernel
theorem d27 : decode yB 27 = .ok (.getstatic 38, 3) := by decide +kernel
theorem d30 : decode yB 30 = .ok (.ifCond (.eq) 28, 3) := by decide +kernel
theorem d33 : decode yB 33 = .ok (.aload_n 1, 1) := by decide +kernel
theorem d34 : decode yB 34 = .ok (.iload_n 2, 1) := by decide +kernel
theorem d35 : decode yB 35 = .ok (.iload_n 3, 1) := by decide +kernel
theorem d36 : decode yB 36 = .ok (.invokestatic 177, 3) := by decide +kernel
theorem d39 : decode yB 39 = .ok (.astore 5, 2) := by decide +kernel
theorem d41 : decode yB 41 = .ok (.aload_n 0, 1) := by decide +kernel
theorem d42 : decode yB 42 = .ok (.aload 5, 2) := by decide +kernel
theorem d44 : decode yB 44 = .ok (.iload_n 3, 1) := by decide +kernel
theorem d45 : decode yB 45 = .ok (.invokestatic 47, 3) := by decide +kernel
theorem d48 : decode yB 48 = .ok (.putfield 15, 3) := by decide +kernel
theorem d51 : decode yB 51 = .ok (.aload_n 0, 1) := by decide +kernel
theorem d52 : decode yB 52 = .ok (.aload 5, 2) := by decide +kernel
theorem d54 : decode yB 54 = .ok (.putfield 9, 3) := by decide +kernel
theorem d57 : decode yB 57 = .ok (.return_, 1) := by decide +kernel
def site : List Cond := [.fieldLink "java/lang/String" 38 "java/lang/String" "COMPACT_STRINGS" "Z", Cmp3.tab, CodL.tab, .laysFinal "java/lang/String" "java/lang/String" "value" "[B", .fieldLink "java/lang/String" 9 "java/lang/String" "value" "[B", .laysFinal "java/lang/String" "java/lang/String" "coder" "B", .fieldLink "java/lang/String" 15 "java/lang/String" "coder" "B"] ++ objW "java/lang/String" 1 ++ staticW "java/lang/String" 177 Cmp3.yN ++ staticW "java/lang/String" 47 CodL.yN
def tab : Cond := tabOf yN yB 6 none site
def P (a : Addr) (D : Cell) (fV fC : Field) (b : Addr) (A : Cell) (z : Int32) (o len : Nat) (args : Array Value) (s : State) : Prop := args = #[.ref a, .ref b, .int (Int32.ofNat o), .int (Int32.ofNat len), .null] ∧ Blank "java/lang/String" a D s ∧ Found "java/lang/String" "value" "[B" fV s ∧ Found "java/lang/String" "coder" "B" fC s ∧ Ch b A s ∧ StaticIs s "java/lang/String" "COMPACT_STRINGS" "Z" (.int z) ∧ ¬ z = 0 ∧ 0 < len ∧ o + len ≤ A.slots.size ∧ len ≤ 536870912 ∧ ∀ i, i < len → ¬ 255 < cv A (o + i)
def E (a : Addr) (D : Cell) (fV fC : Field) (A : Cell) (o len : Nat) (r : Option Value) (s u : State) : Prop := Got a D fV fC A o len r s u
/-- len > 0, no char of the range above 255: a Latin-1 String of their low bytes -/
theorem law (l : Launch) (a : Addr) (D : Cell) (fV fC : Field) (b : Addr) (A : Cell) (z : Int32) (o len : Nat) : Law l yN 5 4 2 35 yB 6 none site (P a D fV fC b A z o len) (E a D fV fC A o len) [⟨a, fC.slot⟩, ⟨a, fV.slot⟩] 1 len := by
  refine Law.of_walk (plainFor_of_name (by decide +kernel)) (by decide +kernel) (by decide +kernel) (by decide) (fun _ _ h => by rw [h.1]; rfl) (fun _ U U' hal hh h => ⟨h.1, h.2.1.mv hal hh, h.2.2.1.al hal, h.2.2.2.1.al hal, h.2.2.2.2.1.mv hal hh, h.2.2.2.2.2.1.there hal hh, h.2.2.2.2.2.2⟩) (fun r U U' V V' h1 hal h2 h => Got.mv r U U' V V' h1 hal h2 h) ?_
  intro p e s m args below meth c s₁ X0 hexec hbytes hml hret hlk hnm hown hh0 W hP
  obtain ⟨rfl, hB, f1, f2, hA, s1, hz, l0, l1, l2, hp⟩ := hP
  have a31 := hA.1.2.2.2
  have c1 : Steps p.tables e below (s₁.setTop (entryFrame m #[.ref a, .ref b, .int (Int32.ofNat o), .int (Int32.ofNat len), .null] 6)) (s₁.setTop (mkF m 0 #[.val (.ref a), .val (.ref b), .val (.int (Int32.ofNat o)), .val (.int (Int32.ofNat len)), .val .null, .unset] [])) := entry rfl
  have c2 : Steps p.tables e below (s₁.setTop (entryFrame m #[.ref a, .ref b, .int (Int32.ofNat o), .int (Int32.ofNat len), .null] 6)) (s₁.setTop (mkF m 1 #[.val (.ref a), .val (.ref b), .val (.int (Int32.ofNat o)), .val (.int (Int32.ofNat len)), .val .null, .unset] [.ref a])) := c1.trans (by
    refine XS.aloadN X0.here hexec rfl (hb hbytes d0) rfl rfl ?_
    exact Steps.refl _)
  obtain ⟨T3, X3, q3, st3⟩ := X0.oinit hexec hown (wks W (objW "java/lang/String" 1)) (g := (mkF m 1 #[.val (.ref a), .val (.ref b), .val (.int (Int32.ofNat o)), .val (.int (Int32.ofNat len)), .val .null, .unset] [.ref a])) rfl (by rw [hml]; rfl) (rest := []) rfl (hb hbytes d1) (W := 0) (by show 2 * 0 + 0 ≤ _; decide) (Nat.le_of_ble_eq_true rfl) (Nat.le_of_ble_eq_true rfl)
  have hh3 := q3.trans hh0
  have c4 : Steps p.tables e below (s₁.setTop (entryFrame m #[.ref a, .ref b, .int (Int32.ofNat o), .int (Int32.ofNat len), .null] 6)) (T3.setTop (mkF m 27 #[.val (.ref a), .val (.ref b), .val (.int (Int32.ofNat o)), .val (.int (Int32.ofNat len)), .val .null, .unset] [])) := (c2.trans (st3 _ (Steps.refl _))).trans (by
    refine XS.iloadN X3.here hexec rfl (hb hbytes d4) rfl ?_
    refine XS.ifYes X3.here hexec rfl (pc0 := 5) rfl (hb hbytes d5) rfl (i0_ne_t (nz32 (by omega) l0)) (by decide) rfl ?_
    exact Steps.refl _)
  obtain ⟨T5, X5, q5, st5⟩ := X3.sget hexec hown (wk W (.fieldLink "java/lang/String" 38 "java/lang/String" "COMPACT_STRINGS" "Z")) s1 (fun _ _ h => by rw [hh3]; exact h) (g := (mkF m 27 #[.val (.ref a), .val (.ref b), .val (.int (Int32.ofNat o)), .val (.int (Int32.ofNat len)), .val .null, .unset] [])) rfl (hb hbytes d27)
  have hh5 := q5.trans hh3
  have c6 : Steps p.tables e below (s₁.setTop (entryFrame m #[.ref a, .ref b, .int (Int32.ofNat o), .int (Int32.ofNat len), .null] 6)) (T5.setTop (mkF m 30 #[.val (.ref a), .val (.ref b), .val (.int (Int32.ofNat o)), .val (.int (Int32.ofNat len)), .val .null, .unset] [.int z])) := c4.trans (st5 _ (Steps.refl _))
  have c7 : Steps p.tables e below (s₁.setTop (entryFrame m #[.ref a, .ref b, .int (Int32.ofNat o), .int (Int32.ofNat len), .null] 6)) (T5.setTop (mkF m 36 #[.val (.ref a), .val (.ref b), .val (.int (Int32.ofNat o)), .val (.int (Int32.ofNat len)), .val .null, .unset] [.int (Int32.ofNat len), .int (Int32.ofNat o), .ref b])) := c6.trans (by
    refine XS.ifNo X5.here hexec rfl (hb hbytes d30) rfl (i0_eq_f hz) ?_
    refine XS.aloadN X5.here hexec rfl (hb hbytes d33) rfl rfl ?_
    refine XS.iloadN X5.here hexec rfl (hb hbytes d34) rfl ?_
    refine XS.iloadN X5.here hexec rfl (hb hbytes d35) rfl ?_
    exact Steps.refl _)
  obtain ⟨v8, T8, X8, E8, g8⟩ := X5.callS hexec (Cmp3.law l b A o len) hown (wks W (staticW "java/lang/String" 177 Cmp3.yN)) (wk W Cmp3.tab) (W := 0) (Nat.le_of_ble_eq_true rfl) (Nat.le_of_ble_eq_true rfl) (Nat.le_refl _) (by show 0 + len ≤ len; omega) (g := (mkF m 36 #[.val (.ref a), .val (.ref b), .val (.int (Int32.ofNat o)), .val (.int (Int32.ofNat len)), .val .null, .unset] [.int (Int32.ofNat len), .int (Int32.ofNat o), .ref b])) rfl (by rw [hml]; rfl) c7 (argsL := [.ref b, .int (Int32.ofNat o), .int (Int32.ofNat len)]) (rest := []) rfl rfl (by show 2 * 0 + 0 ≤ _; decide) (hb hbytes d36) (⟨rfl, hA.mv X5.warmed.alike hh5, l1, l2, hp⟩)
  obtain ⟨e8, z8⟩ := E8
  obtain ⟨rfl, N, n1, n2, n3, n4, n5, n6⟩ := NewArr.mv _ T5 s _ _ hh5.symm (Vm.Alike.refl _) rfl e8
  rw [hh5] at z8
  have hB1 := hB.keep X8.warmed.alike (n6 _ _ hB.1)
  have hne : s.heap.size ≠ a := (Nat.ne_of_lt (Array.getElem?_eq_some_iff.mp hB.1).1).symm
  have c9 : Steps p.tables e below (s₁.setTop (entryFrame m #[.ref a, .ref b, .int (Int32.ofNat o), .int (Int32.ofNat len), .null] 6)) (T8.setTop (mkF m 39 #[.val (.ref a), .val (.ref b), .val (.int (Int32.ofNat o)), .val (.int (Int32.ofNat len)), .val .null, .unset] [.ref s.heap.size])) := g8
  have c10 : Steps p.tables e below (s₁.setTop (entryFrame m #[.ref a, .ref b, .int (Int32.ofNat o), .int (Int32.ofNat len), .null] 6)) (T8.setTop (mkF m 45 #[.val (.ref a), .val (.ref b), .val (.int (Int32.ofNat o)), .val (.int (Int32.ofNat len)), .val .null, .val (.ref s.heap.size)] [.int (Int32.ofNat N.slots.size), .ref s.heap.size, .ref a])) := by
    have hc : Steps p.tables e below (s₁.setTop (entryFrame m #[.ref a, .ref b, .int (Int32.ofNat o), .int (Int32.ofNat len), .null] 6)) (T8.setTop (mkF m 45 #[.val (.ref a), .val (.ref b), .val (.int (Int32.ofNat o)), .val (.int (Int32.ofNat len)), .val .null, .val (.ref s.heap.size)] [.int (Int32.ofNat len), .ref s.heap.size, .ref a])) := c9.trans (by
      refine XS.astore X8.here hexec rfl (hb hbytes d39) rfl rfl rfl ?_
      refine XS.aloadN X8.here hexec rfl (hb hbytes d41) rfl rfl ?_
      refine XS.aload X8.here hexec rfl (hb hbytes d42) rfl rfl ?_
      refine XS.iloadN X8.here hexec rfl (hb hbytes d44) rfl ?_
      exact Steps.refl _)
    rw [n4]; exact hc
  obtain ⟨v11, T11, X11, E11, g11⟩ := X8.callS hexec (CodL.law l s.heap.size N) hown (wks W (staticW "java/lang/String" 47 CodL.yN)) (wk W CodL.tab) (W := 1) (Nat.le_of_ble_eq_true rfl) (Nat.le_of_ble_eq_true rfl) (Nat.le_refl _) (by show 0 + len + 0 ≤ len; omega) (g := (mkF m 45 #[.val (.ref a), .val (.ref b), .val (.int (Int32.ofNat o)), .val (.int (Int32.ofNat len)), .val .null, .val (.ref s.heap.size)] [.int (Int32.ofNat N.slots.size), .ref s.heap.size, .ref a])) rfl (by rw [hml]; rfl) c10 (argsL := [.ref s.heap.size, .int (Int32.ofNat N.slots.size)]) (rest := [.ref a]) rfl rfl (by show 2 * 0 + (1 + 0) ≤ _; decide) (hb hbytes d45) (⟨rfl, n1⟩)
  obtain ⟨rfl, q11⟩ := E11
  have hB11 := hB1.mv (X8.warmed.alike.symm.trans X11.warmed.alike) q11
  have c12 : Steps p.tables e below (s₁.setTop (entryFrame m #[.ref a, .ref b, .int (Int32.ofNat o), .int (Int32.ofNat len), .null] 6)) (T11.setTop (mkF m 48 #[.val (.ref a), .val (.ref b), .val (.int (Int32.ofNat o)), .val (.int (Int32.ofNat len)), .val .null, .val (.ref s.heap.size)] [.int 0, .ref a])) := g11
  obtain ⟨T13, X13, p13, bl13, sl13, st13⟩ := X11.finit hexec hown (wk W (.fieldLink "java/lang/String" 15 "java/lang/String" "coder" "B")) (Or.inr ⟨_, (wk W (.laysFinal "java/lang/String" "java/lang/String" "coder" "B"))⟩) (Or.inl ⟨rfl, hnm⟩) f2 (Or.inl rfl) hB11 (t := .byte) (by decide +kernel) rfl (g := (mkF m 48 #[.val (.ref a), .val (.ref b), .val (.int (Int32.ofNat o)), .val (.int (Int32.ofNat len)), .val .null, .val (.ref s.heap.size)] [.int 0, .ref a])) rfl (rest := []) rfl (hb hbytes d48)
  have c14 : Steps p.tables e below (s₁.setTop (entryFrame m #[.ref a, .ref b, .int (Int32.ofNat o), .int (Int32.ofNat len), .null] 6)) (T13.setTop (mkF m 54 #[.val (.ref a), .val (.ref b), .val (.int (Int32.ofNat o)), .val (.int (Int32.ofNat len)), .val .null, .val (.ref s.heap.size)] [.ref s.heap.size, .ref a])) := (c12.trans (st13 _ (Steps.refl _))).trans (by
    refine XS.aloadN X13.here hexec rfl (hb hbytes d51) rfl rfl ?_
    refine XS.aload X13.here hexec rfl (hb hbytes d52) rfl rfl ?_
    exact Steps.refl _)
  obtain ⟨T15, X15, p15, bl15, sl15, st15⟩ := X13.finit hexec hown (wk W (.fieldLink "java/lang/String" 9 "java/lang/String" "value" "[B")) (Or.inr ⟨_, (wk W (.laysFinal "java/lang/String" "java/lang/String" "value" "[B"))⟩) (Or.inl ⟨rfl, hnm⟩) f1 (Or.inl rfl) bl13 (t := (.array .byte)) (by decide +kernel) rfl (g := (mkF m 54 #[.val (.ref a), .val (.ref b), .val (.int (Int32.ofNat o)), .val (.int (Int32.ofNat len)), .val .null, .val (.ref s.heap.size)] [.ref s.heap.size, .ref a])) rfl (rest := []) rfl (hb hbytes d54)
  have c16 : Steps p.tables e below (s₁.setTop (entryFrame m #[.ref a, .ref b, .int (Int32.ofNat o), .int (Int32.ofNat len), .null] 6)) (T15.setTop (mkF m 57 #[.val (.ref a), .val (.ref b), .val (.int (Int32.ofNat o)), .val (.int (Int32.ofNat len)), .val .null, .val (.ref s.heap.size)] [])) := c14.trans (st15 _ (Steps.refl _))
  have ap := apart (Or.inr ⟨_, (wk W (.laysFinal "java/lang/String" "java/lang/String" "value" "[B"))⟩) (Or.inr ⟨_, (wk W (.laysFinal "java/lang/String" "java/lang/String" "coder" "B"))⟩) f1 f2 (t₁ := .array .byte) (t₂ := .byte) (by decide +kernel) (by decide +kernel) (by decide)
  have al := X8.warmed.alike.symm.trans X15.warmed.alike
  have n7 : T11.heap[s.heap.size]? = some N := by rw [q11]; exact n1.1
  exact ⟨T15, none, _, _, _, X15, by simp, rfl, by omega, (fun _ => rfl), ⟨rfl, _, N, bl15, ((Same.refl D _).set _ (by simp)).set _ (by simp), sl15, (Cell.slots_setSlot_ne _ ap).trans sl13, n1.keep al (p15.other hne (p13.other hne n7)), n2, by rw [al.findClass]; exact n3, n4, n5, fun y c h1 h2 => p15.other h1 (p13.other h1 (by rw [q11]; exact n6 y c h2)), by rw [p15.2.2, p13.2.2, q11]; exact z8⟩, fun fs hl => c16.trans (X15.returnOut hexec hret (hb hbytes d57) hl)⟩
end New4
namespace New1
def yN : MethodName := ⟨"java/lang/String", "<init>", "([C)V"⟩
abbrev yB : ByteArray := jdk_42_method_3_code
theorem d0 : decode yB 0 = .ok (.aload_n 0, 1) := by decide +kernel
theorem d1 : decode yB 1 = .ok (.aload_n 1, 1) := by decide +kernel
theorem d2 : decode yB 2 = .ok (.iconst 0, 1) := by decide +kernel
theorem d3 : decode yB 3 = .ok (.aload_n 1, 1) := by decide +kernel
theorem d4 : decode yB 4 = .ok (.arraylength, 1) := by decide +kernel
theorem d5 : decode yB 5 = .ok (.aconst_null, 1) := by decide +kernel
theorem d6 : decode yB 6 = .ok (.invokespecial 27, 3) := by decide +kernel
theorem d9 : decode yB 9 = .ok (.return_, 1) := by decide +kernel
def site : List Cond := [New4.tab] ++ initW "java/lang/String" 27 New4.yN
def tab : Cond := tabOf yN yB 2 none site
def P (a : Addr) (D : Cell) (fV fC : Field) (b : Addr) (A : Cell) (z : Int32) (args : Array Value) (s : State) : Prop := args = #[.ref a, .ref b] ∧ Blank "java/lang/String" a D s ∧ Found "java/lang/String" "value" "[B" fV s ∧ Found "java/lang/String" "coder" "B" fC s ∧ Ch b A s ∧ StaticIs s "java/lang/String" "COMPACT_STRINGS" "Z" (.int z) ∧ ¬ z = 0 ∧ 0 < A.slots.size ∧ A.slots.size ≤ 536870912 ∧ ∀ i, i < A.slots.size → ¬ 255 < cv A i
def E (a : Addr) (D : Cell) (fV fC : Field) (A : Cell) (r : Option Value) (s u : State) : Prop := Got a D fV fC A 0 A.slots.size r s u
/-- new String(chars), not empty, no char above 255: a Latin-1 String of their low bytes -/
theorem law (l : Launch) (a : Addr) (D : Cell) (fV fC : Field) (b : Addr) (A : Cell) (z : Int32) : Law l yN 2 1 3 52 yB 2 none site (P a D fV fC b A z) (E a D fV fC A) [⟨a, fC.slot⟩, ⟨a, fV.slot⟩] 1 A.slots.size := by
  refine Law.of_walk (plainFor_of_name (by decide +kernel)) (by decide +kernel) (by decide +kernel) (by decide) (fun _ _ h => by rw [h.1]; rfl) (fun _ U U' hal hh h => ⟨h.1, h.2.1.mv hal hh, h.2.2.1.al hal, h.2.2.2.1.al hal, h.2.2.2.2.1.mv hal hh, h.2.2.2.2.2.1.there hal hh, h.2.2.2.2.2.2⟩) (fun r U U' V V' h1 hal h2 h => Got.mv r U U' V V' h1 hal h2 h) ?_
  intro p e s m args below meth c s₁ X0 hexec hbytes hml hret hlk hnm hown hh0 W hP
  obtain ⟨rfl, hB, f1, f2, hA, s1, hz, l0, l2, hp⟩ := hP
  have c1 : Steps p.tables e below (s₁.setTop (entryFrame m #[.ref a, .ref b] 2)) (s₁.setTop (mkF m 0 #[.val (.ref a), .val (.ref b)] [])) := entry rfl
  have c2 : Steps p.tables e below (s₁.setTop (entryFrame m #[.ref a, .ref b] 2)) (s₁.setTop (mkF m 6 #[.val (.ref a), .val (.ref b)] [.null, .int (Int32.ofNat A.slots.size), .int 0, .ref b, .ref a])) := c1.trans (by
    refine XS.aloadN X0.here hexec rfl (hb hbytes d0) rfl rfl ?_
    refine XS.aloadN X0.here hexec rfl (hb hbytes d1) rfl rfl ?_
    refine iconstV X0.here hexec rfl 0 (hb hbytes d2) (by decide) ?_
    refine XS.aloadN X0.here hexec rfl (hb hbytes d3) rfl rfl ?_
    refine X0.alen hexec (hA.1.mv X0.warmed.alike hh0) rfl rfl (hb hbytes d4) ?_
    refine XS.aconstNull X0.here hexec rfl (hb hbytes d5) ?_
    exact Steps.refl _)
  obtain ⟨v3, T3, X3, E3, g3⟩ := X0.callN hexec (New4.law l a D fV fC b A z 0 A.slots.size) rfl hown (wks W (initW "java/lang/String" 27 New4.yN)) (W New4.tab (by simp only [site, List.mem_cons, List.mem_append, true_or, or_true])) (W := 0) (Nat.le_of_ble_eq_true rfl) (Nat.le_of_ble_eq_true rfl) (Nat.le_refl _) (by show 0 + A.slots.size ≤ A.slots.size; omega) (g := (mkF m 6 #[.val (.ref a), .val (.ref b)] [.null, .int (Int32.ofNat A.slots.size), .int (Int32.ofNat 0), .ref b, .ref a])) rfl (by rw [hml]; rfl) c2 (argsL := [.ref b, .int (Int32.ofNat 0), .int (Int32.ofNat A.slots.size), .null]) (rest := []) rfl rfl (by show 2 * 0 + 0 ≤ _; decide) (hb hbytes d6) (⟨rfl, hB.mv X0.warmed.alike hh0, f1.al X0.warmed.alike, f2.al X0.warmed.alike, hA.mv X0.warmed.alike hh0, s1.there X0.warmed.alike hh0, hz, l0, by omega, l2, fun i hi => by rw [Nat.zero_add]; exact hp i hi⟩)
  have e0 := Got.mv _ s₁ s _ _ hh0.symm (Vm.Alike.refl _) rfl E3
  obtain rfl := e0.1
  have c4 : Steps p.tables e below (s₁.setTop (entryFrame m #[.ref a, .ref b] 2)) (T3.setTop (mkF m 9 #[.val (.ref a), .val (.ref b)] [])) := g3
  exact ⟨T3, none, _, _, _, X3, by simp, rfl, by omega, (fun _ => rfl), e0, fun fs hl => c4.trans (X3.returnOut hexec hret (hb hbytes d9) hl)⟩
theorem pays {l : Launch} {R : Room} {p : Program} {e : Env} {below : List Frame} {s : State} {sargs : Array Value} {len W : Nat} (a : Addr) (D : Cell) (fV fC : Field) (b : Addr) (A : Cell) (z : Int32) (htab : tab.before sargs s = true) (hfr : 4 ≤ R.frames) (hlo : W + 65 ≤ R.locals) :
    Back l R p e below s sargs yN len W (fun A₁ a₁ => A₁.cells + 1 ≤ R.cells ∧ A₁.slots + A.slots.size ≤ R.slots ∧ P a D fV fC b A z a₁ A₁.U) (fun A₁ _ v₁ B₁ => E a D fV fC A v₁ A₁.U B₁.U ∧ B₁.locs = A₁.locs ++ [⟨a, fC.slot⟩, ⟨a, fV.slot⟩] ∧ B₁.cells = A₁.cells + 1 ∧ B₁.slots = A₁.slots + A.slots.size) :=
  (law l a D fV fC b A z).pays htab hfr (by omega)
end New1
/-- the byte, read back as charAt reads it, is the char -/
theorem lo8_mask {x : Int32} (h0 : ¬ x < 0) (h1 : ¬ 255 < x) : lo8 x &&& 255 = x := by
  have t : ∀ k : Fin 256, lo8 (Int32.ofNat k.val) &&& 255 = Int32.ofNat k.val := by decide +kernel
  rw [Int32.lt_iff_toInt_lt] at h0 h1
  have e0 : (0 : Int32).toInt = 0 := rfl
  have e1 : (255 : Int32).toInt = 255 := rfl
  obtain ⟨k, hk⟩ : ∃ k : Nat, x.toInt = k := ⟨x.toInt.toNat, by omega⟩
  have hx : x = Int32.ofNat k := Int32.toInt_inj.mp (by rw [hk, Int32.toInt_ofNat_small (by omega)])
  rw [hx]
  exact t ⟨k, by omega⟩
end StrChars
namespace StrChars.Road
open Jvm Sem ClassFile Op Lib Jvm.Stand Jvm.Free Jvm.Free.XT
open Jvm.Lib.Cold (StaticIs)
abbrev ST : String := "java/lang/String"
/-- every table word that New1's law asks, flat -/
abbrev words : List Jvm.Cond := [.code New1.yN New1.yB 2 none, .initialized ST, .methodLink ST 27 New4.yN, .instanceMethod New4.yN,
  .code New4.yN New4.yB 6 none, .fieldLink ST 38 ST "COMPACT_STRINGS" "Z", .laysFinal ST ST "value" "[B", .fieldLink ST 9 ST "value" "[B", .laysFinal ST ST "coder" "B", .fieldLink ST 15 ST "coder" "B",
  .methodLink ST 1 Lib.objectInit, .instanceMethod Lib.objectInit, .code Lib.objectInit ⟨#[0xb1]⟩ 1 none, .methodLink ST 177 Cmp3.yN, .static Cmp3.yN, .methodLink ST 47 CodL.yN, .static CodL.yN,
  .code Cmp3.yN Cmp3.yB 6 (some (.array .byte)), .initialized U16, .arrayClass .byte, .methodLink U16 115 Cmp5.yN, .static Cmp5.yN, .code Cmp5.yN Cmp5.yB 7 (some .int), .code CodL.yN CodL.yB 2 (some .byte)]
theorem tab_of {a : Array Value} {s : State} (h : ∀ w ∈ words, w.before a s = true) : New1.tab.before a s = true := by
  have h5 : Cmp5.tab.before a s = true := unparts (wk h (.code Cmp5.yN Cmp5.yB 7 (some .int))) (wks h (.initialized Cmp5.yN.cls :: Cmp5.site))
  have hc : CodL.tab.before a s = true := unparts (wk h (.code CodL.yN CodL.yB 2 (some .byte))) (wks h (.initialized CodL.yN.cls :: CodL.site))
  have q5 : ∀ w ∈ Cmp5.tab :: words, w.before a s = true := fun w hw => (List.mem_cons.mp hw).elim (fun e => e ▸ h5) (h w)
  have h3 : Cmp3.tab.before a s = true := unparts (wk q5 (.code Cmp3.yN Cmp3.yB 6 (some (.array .byte)))) (wks q5 (.initialized Cmp3.yN.cls :: Cmp3.site))
  have q3 : ∀ w ∈ Cmp3.tab :: CodL.tab :: words, w.before a s = true := fun w hw => (List.mem_cons.mp hw).elim (fun e => e ▸ h3) fun hw => (List.mem_cons.mp hw).elim (fun e => e ▸ hc) (h w)
  have h4 : New4.tab.before a s = true := unparts (wk q3 (.code New4.yN New4.yB 6 none)) (wks q3 (.initialized New4.yN.cls :: New4.site))
  have q4 : ∀ w ∈ New4.tab :: words, w.before a s = true := fun w hw => (List.mem_cons.mp hw).elim (fun e => e ▸ h4) (h w)
  exact unparts (wk q4 (.code New1.yN New1.yB 2 none)) (wks q4 (.initialized New1.yN.cls :: New1.site))
/-- the words ride from the start Z to the walk's own state -/
theorem moved {Z s : State} {a0 args : Array Value} (hZ : Z.Warmed39 s.vm) (hw : ∀ d ∈ words, d.before a0 Z = true) : ∀ d ∈ words, d.before args s = true := fun d hd => by
  have q := hw d hd
  have t : ∀ d ∈ words, d = .arrayClass .byte ∨ (d.onTables && d.keepsFace) = true := by decide +kernel
  rcases t d hd with rfl | t
  · exact RoadKit.mvA hZ q
  · exact RoadKit.mv hZ q t
/-- WHAT COMES BACK, over the tables of the start Z: h the heap at the call, h' behind it -/
def Q (Z : State) (x : Addr) (A : Cell) (h : Heap) (v : Option Value) (h' : Heap) (L : List Loc) : Prop := v = none ∧ (∀ y ∈ L, y.base = x) ∧ RoadKit.Keep h h' [x] ∧ h'.size = h.size + 1 ∧ RoadKit.Exa Z h' x ST ∧ RoadKit.Fld Z h' x ST "value" "[B" (.ref h.size) ∧ RoadKit.Fld Z h' x ST "coder" "B" (.int 0) ∧
  (∃ V : Cell, RoadKit.Arr Z h' h.size V .byte ∧ V.vm = .none ∧ Z.vm.findClass "[B" = some V.cls ∧ V.slots.size = A.slots.size ∧ ∀ j, j < A.slots.size → V.slots[j]? = some (.int (lo8 (cv A j)))) ∧
  ∀ (O n d : String) (w : Value), RoadKit.Fld Z h x O n d w → RoadKit.slotOf Z O n d ≠ RoadKit.slotOf Z ST "value" "[B" → RoadKit.slotOf Z O n d ≠ RoadKit.slotOf Z ST "coder" "B" → RoadKit.Fld Z h' x O n d w
/-- **new String(chars) AT A CALL, IN THE ROAD'S FORM**: for specialBack behind newO: x the fresh String, b the char[] with the cell A -/
theorem back {p : Program} {l : Launch} {e : Env} {R : Room} {s : State} {args : Array Value} {below : List Frame} {len W : Nat} {Z : State} {a0 : Array Value} {h : Heap} (hZ : Z.Warmed39 s.vm) (hw : ∀ d ∈ words, d.before a0 Z = true) {kI : Nat} (wi : (Jvm.Cond.instantiable ST kI).before a0 Z = true)
    {x b : Addr} {A : Cell} {z : Int32} {v0 c0 : Value} (E : RoadKit.Exa Z h x ST) (V : RoadKit.Fld Z h x ST "value" "[B" v0) (C : RoadKit.Fld Z h x ST "coder" "B" c0) (K : RoadKit.Arr Z h b A .char) (hty : Typed .char A) (S : RoadKit.Sta Z h ST "COMPACT_STRINGS" "Z" (.int z)) (hz : ¬ z = 0)
    (l0 : 0 < A.slots.size) (l2 : A.slots.size ≤ 536870912) (hp : ∀ i, i < A.slots.size → ¬ 255 < cv A i) (hfr : 4 ≤ R.frames) (hlo : W + 65 ≤ R.locals) :
    Back l R p e below s args New1.yN len W (fun P a => a = #[.ref x, .ref b] ∧ P.U.heap = h ∧ P.cells + 1 ≤ R.cells ∧ P.slots + A.slots.size ≤ R.slots)
      (fun P _ v B => ∃ L, Q Z x A h v B.U.heap L ∧ B.locs = P.locs ++ L ∧ B.cells = P.cells + 1 ∧ B.slots = P.slots + A.slots.size) := by
  intro m meth c P g ig mk a X hg hsize hdg hW hn hp'
  obtain ⟨rfl, rfl, r1, r2⟩ := hp'
  have al : Z.vm.Alike P.U.vm := hZ.alike.trans X.warmed.alike
  obtain ⟨D, cfV, kV, iV, fV, hD, gV, stV, knV, obV, asV, slV⟩ := id V
  obtain ⟨D', cfC, kC, iC, fC, hD', gC, stC, -, -, asC, slC⟩ := id C
  cases hD.symm.trans hD'
  obtain ⟨D2, kD, e1, e2, e3, e4, e5⟩ := id E
  cases hD.symm.trans e1
  obtain ⟨c2, k2, i1, i2, i3, -⟩ := Cond.instantiable_spec wi
  cases e2.symm.trans i1
  cases e3.symm.trans i2
  obtain ⟨kU, u1, u2⟩ := al.2.2 _ _ e3
  have hB : Blank ST x D P.U := ⟨hD, ⟨knV, fun q hq => by rw [hq] at obV; cases obV⟩, by rw [al.findClass]; exact e2, kU, u1, by rw [u2]; exact i3, by rw [u2]; exact e5 i3⟩
  have F1 : Found ST "value" "[B" fV P.U := ⟨SBG.found_only al ⟨cfV, kV, iV, gV⟩, stV⟩
  have F2 : Found ST "coder" "B" fC P.U := ⟨SBG.found_only al ⟨cfC, kC, iC, gC⟩, stC⟩
  have hA : Ch b A P.U := ⟨⟨K.1, State.isArrayOf_alike al K.2.1, K.2.2, by omega⟩, hty⟩
  have hS : StaticIs P.U ST "COMPACT_STRINGS" "Z" (.int z) := by
    obtain ⟨cfS, iS, kS, fS, st, cS, t1, t2, t3, t4, t5, t6, t7⟩ := S
    exact StaticIs.there (s := { Z with heap := P.U.heap }) ⟨cfS, iS, kS, fS, st, cS, t1, t2, t3, t4, t5, (fun q => by rw [q] at t6; cases t6), t7⟩ al rfl
  obtain ⟨v, B, X', ⟨⟨hv, E', V', q1, q2, q3, q4, q5, q6, q7, q8, q9, q10, q11⟩, hl, hc, hs⟩, st⟩ := New1.pays x D fV fC b A z (tab_of (moved hZ hw)) hfr hlo m meth c P g ig mk _ X hg hsize hdg hW hn ⟨r1, r2, rfl, hB, F1, F2, hA, hS, hz, l0, l2, hp⟩
  have al' : Z.vm.Alike B.U.vm := hZ.alike.trans X'.warmed.alike
  have hsz : E'.slots.size = D.slots.size := by
    obtain ⟨-, -, -, kB, w1, w2, w3⟩ := q1
    obtain ⟨kB', y1, y2⟩ := al'.2.2 _ _ e3
    rw [q2.2.1] at w1
    cases w1.symm.trans y1
    rw [w3, e5 i3, y2]
  refine ⟨v, B, X', ⟨_, ⟨hv, ?_, ⟨by omega, fun y cy hy hn' => q10 y cy (by simpa using hn') hy, fun y cy hy => ?_⟩, q11, ⟨E', _, q1.1, by rw [q2.2.1]; exact e2, by rw [q2.2.1]; exact e3, by rw [q2.1]; exact obV, fun _ => by rw [hsz]; exact e5 i3⟩,
    ⟨E', cfV, kV, iV, fV, q1.1, gV, stV, by rw [q2.1]; exact knV, by rw [q2.1]; exact obV, by rw [q2.2.1]; exact asV, q3⟩, ⟨E', cfC, kC, iC, fC, q1.1, gC, stC, by rw [q2.1]; exact knV, by rw [q2.1]; exact obV, by rw [q2.2.1]; exact asC, q4⟩,
    ⟨V', ⟨q5.1, State.isArrayOf_alike al'.symm q5.2.1, q5.2.2.1⟩, q6, by rw [← al'.findClass]; exact q7, q8, fun j hj => by have := q9 j hj; rwa [Nat.zero_add] at this⟩, fun O n d w F n1 n2 => ?_⟩, hl, hc, hs⟩, st⟩
  · intro y hy
    simp only [List.mem_cons, List.not_mem_nil, or_false] at hy
    rcases hy with rfl | rfl <;> rfl
  · by_cases q : y = x
    · subst q
      cases hD.symm.trans hy
      exact ⟨E', q1.1, q2.2.1, q2.1, hsz⟩
    · exact ⟨cy, q10 y cy q hy, rfl, rfl, rfl⟩
  · obtain ⟨D3, cf, k, i, f, g1, g2, g3, g4, g5, g6, g7⟩ := F
    cases hD.symm.trans g1
    simp only [RoadKit.slotOf, g2, gV, gC, Option.map_some, Option.getD_some] at n1 n2
    exact ⟨E', cf, k, i, f, q1.1, g2, g3, by rw [q2.1]; exact g4, by rw [q2.1]; exact g5, by rw [q2.2.1]; exact g6, by rw [q2.2.2 f.slot (by simp [n1, n2])]; exact g7⟩
end StrChars.Road
namespace StrChars.Road
open Jvm Sem ClassFile Op Lib Jvm.Stand Jvm.Free Jvm.Free.XT
/-- WHAT COMES BACK, the byte[] as a list of values -/
def QA (Z : State) (x : Addr) (zn : Int32) (cs : List Int32) (h : Heap) (v : Option Value) (h' : Heap) (L : List Loc) : Prop := v = none ∧ (∀ y ∈ L, y.base = x) ∧ RoadKit.Keep h h' [x] ∧ h'.size = h.size + 1 ∧ RoadKit.Exa Z h' x ST ∧ RoadKit.Fld Z h' x ST "value" "[B" (.ref h.size) ∧ RoadKit.Fld Z h' x ST "coder" "B" (.int 0) ∧
  (∃ kb, Z.vm.findClass "[B" = some kb ∧ RoadKit.Arv Z h' h.size kb .byte zn (cs.map fun c => .int (lo8 c)) (.int 0)) ∧
  ∀ (O n d : String) (w : Value), RoadKit.Fld Z h x O n d w → RoadKit.slotOf Z O n d ≠ RoadKit.slotOf Z ST "value" "[B" → RoadKit.slotOf Z O n d ≠ RoadKit.slotOf Z ST "coder" "B" → RoadKit.Fld Z h' x O n d w
/-- **new String(chars) AT A CALL, THE ARRAYS AS LISTS**: the char[] at b holds cs, not empty, no char above 255 -/
theorem backArv {p : Program} {l : Launch} {e : Env} {R : Room} {s : State} {args : Array Value} {below : List Frame} {len W : Nat} {Z : State} {a0 : Array Value} {h : Heap} (hZ : Z.Warmed39 s.vm) (hw : ∀ d ∈ words, d.before a0 Z = true) {kI : Nat} (wi : (Jvm.Cond.instantiable ST kI).before a0 Z = true)
    {x b : Addr} {k : ClassId} {zn z : Int32} {cs : List Int32} {dv v0 c0 : Value} (E : RoadKit.Exa Z h x ST) (V : RoadKit.Fld Z h x ST "value" "[B" v0) (C : RoadKit.Fld Z h x ST "coder" "B" c0) (K : RoadKit.Arv Z h b k .char zn (cs.map Value.int) dv) (S : RoadKit.Sta Z h ST "COMPACT_STRINGS" "Z" (.int z)) (hz : ¬ z = 0)
    (hlen : zn.toNatClampNeg = cs.length) (h0 : 0 < cs.length) (hbig : cs.length ≤ 536870912) (hall : ∀ c ∈ cs, ¬ 255 < c) (hfr : 4 ≤ R.frames) (hlo : W + 65 ≤ R.locals) :
    Back l R p e below s args New1.yN len W (fun P a => a = #[.ref x, .ref b] ∧ P.U.heap = h ∧ P.cells + 1 ≤ R.cells ∧ P.slots + cs.length ≤ R.slots)
      (fun P _ v B => ∃ L, QA Z x zn cs h v B.U.heap L ∧ B.locs = P.locs ++ L ∧ B.cells = P.cells + 1 ∧ B.slots = P.slots + cs.length) := by
  obtain ⟨A, K1, K2, K3, K4, K5, K6⟩ := K
  have e : A.slots.size = cs.length := K3.trans hlen
  have hat : ∀ (i : Nat) (hi : i < cs.length), A.slots[i]? = some (.int cs[i]) := fun i hi => by rw [K5 i (by omega)]; simp [List.getD_eq_getElem?_getD, hi]
  have hcv : ∀ (i : Nat) (hi : i < cs.length), cv A i = cs[i] := fun i hi => by unfold cv; rw [hat i hi]
  have hty : Typed .char A := fun i v hv => by
    have hi : i < A.slots.size := (Array.getElem?_eq_some_iff.mp hv).1
    have q := K5 i hi
    rw [hv] at q
    rw [Option.some.inj q]
    exact K6 i hi
  refine Back.mono (back hZ hw wi E V C K1 hty S hz (by omega) (by omega) (fun i hi => by rw [hcv i (by omega)]; exact hall _ (List.getElem_mem _)) hfr hlo) (fun P a hp => ⟨hp.1, hp.2.1, hp.2.2.1, by rw [e]; exact hp.2.2.2⟩) (fun P a v B hp hq => ?_)
  obtain ⟨L, ⟨q1, q2, q3, q4, q5, q6, q7, ⟨V', v1, v2, v3, v4, v5⟩, q9⟩, hl, hc, hs⟩ := hq
  refine ⟨L, ⟨q1, q2, q3, q4, q5, q6, q7, ⟨V'.cls, v3, V', v1, rfl, by rw [v4, e, hlen], K4, fun i hi => ?_, fun i hi => ?_⟩, q9⟩, hl, hc, by rw [hs, e]⟩
  · have hi' : i < cs.length := by omega
    rw [v5 i (by omega), hcv i hi']; simp [List.getD_eq_getElem?_getD, hi']
  · have hi' : i < cs.length := by omega
    simp only [List.getD_eq_getElem?_getD, List.getElem?_map, List.getElem?_eq_getElem hi', Option.map_some, Option.getD_some]
    exact fits_lo8 _
end StrChars.Road
namespace StrChars.Road
open Jvm Sem ClassFile Op Lib Jvm.Stand Jvm.Free Jvm.Free.XT
/-- WHAT COMES BACK, in the writer's own shape -/
def QV (Z : State) (x : Addr) (N : Int32) (bs : List Int32) (h : Heap) (n0 : Nat) (v : Option Value) (h' : Heap) (L : List Loc) : Prop := v = none ∧ RoadKit.Fr n0 L ∧ RoadKit.Keep h h' [x] ∧ RoadKit.Exa Z h' x ST ∧ RoadKit.Fld Z h' x ST "coder" "B" (.int 0) ∧
  ∃ (t : Addr) (kb : ClassId), n0 ≤ t ∧ h.size ≤ t ∧ ¬ t = x ∧ RoadKit.Fld Z h' x ST "value" "[B" (.ref t) ∧ RoadKit.Arv Z h' t kb .byte N (bs.map Value.int) (.int 0)
/-- **new String(chars) AT A CALL, FOR THE WRITER**: a char[] of n known ints, each 0 to 255 -/
theorem backV {p : Program} {l : Launch} {e : Env} {R : Room} {s : State} {args : Array Value} {below : List Frame} {len W : Nat} {Z : State} {a0 : Array Value} {h : Heap} (hZ : Z.Warmed39 s.vm) (hw : ∀ d ∈ words, d.before a0 Z = true) {kI : Nat} (wi : (Jvm.Cond.instantiable ST kI).before a0 Z = true)
    {x b : Addr} {kC : ClassId} {cs bs : List Int32} {d v0 c0 : Value} {z N : Int32} {n n0 : Nat} (hx0 : n0 ≤ x) (hh0 : n0 ≤ h.size) (E : RoadKit.Exa Z h x ST) (V : RoadKit.Fld Z h x ST "value" "[B" v0) (C : RoadKit.Fld Z h x ST "coder" "B" c0) (K : RoadKit.Arv Z h b kC .char N (cs.map Value.int) d) (S : RoadKit.Sta Z h ST "COMPACT_STRINGS" "Z" (.int z)) (hz : ¬ z = 0)
    (hn : cs.length = n) (hN : N = Int32.ofNat n) (l0 : 0 < n) (l2 : n ≤ 4000) (hp : ∀ c ∈ cs, ¬ c < 0 ∧ ¬ (255 : Int32) < c) (hb : bs = cs.map (fun c => c.toInt8.toInt32)) (hfr : 4 ≤ R.frames) (hlo : W + 65 ≤ R.locals) :
    Back l R p e below s args (⟨"java/lang/String", "<init>", "([C)V"⟩ : MethodName) len W (fun P a => a = #[.ref x, .ref b] ∧ P.U.heap = h ∧ P.cells + 1 ≤ R.cells ∧ P.slots + n ≤ R.slots)
      (fun P _ v B => ∃ L, QV Z x N bs h n0 v B.U.heap L ∧ B.locs = P.locs ++ L ∧ B.cells = P.cells + 1 ∧ B.slots = P.slots + n) := by
  subst hn hN hb
  refine Back.mono (backArv hZ hw wi E V C K S hz (n32 (by omega)) l0 (by omega) (fun c hc => (hp c hc).2) hfr hlo) (fun P a hp => hp) (fun P a v B hp hq => ?_)
  obtain ⟨L, ⟨q1, q2, q3, q4, q5, q6, q7, ⟨kb, v1, v2⟩, q9⟩, hl, hc, hs⟩ := hq
  exact ⟨L, ⟨q1, fun y hy => by rw [q2 y hy]; exact hx0, q3, q5, q7, h.size, kb, hh0, Nat.le_refl _, Nat.ne_of_gt E.lt, q6, by rw [List.map_map]; exact v2⟩, hl, hc, hs⟩
end StrChars.Road
namespace StrChars
open Jvm Sem ClassFile Op Lib Jvm.Stand Jvm.Free.XT Jvm.Free.ALB Jvm.Free.JM Jvm.Free
open Jvm.Lib.Cold (StaticIs)
def hi8 (x : Int32) : Int32 := lo8 (x >>> ((8 : Int32) &&& 31))
/-- what StringUTF16.getChar makes of two bytes -/
def pairCh (u v : Int32) : Int32 := (((u &&& 255) <<< ((0 : Int32) &&& 31)) ||| ((v &&& 255) <<< ((8 : Int32) &&& 31))).toUInt32.toUInt16.toUInt32.toInt32
theorem shr0 (c : Int32) : c >>> ((0 : Int32) &&& 31) = c := by
  have e : ((0 : Int32) &&& 31) = 0 := by decide
  rw [e]
  apply Int32.toBitVec_inj.mp
  rw [Int32.toBitVec_shiftRight]
  have e1 : ((0 : Int32).toBitVec.smod 32) = 0#32 := by decide
  rw [e1, BitVec.sshiftRight_eq']
  exact BitVec.sshiftRight_zero
theorem lo8_and (x : Int32) : (lo8 x &&& 255).toBitVec.toNat = x.toBitVec.toNat % 256 := by
  have h : (lo8 x).toBitVec = (x.toBitVec.signExtend 8).signExtend 32 := by rw [lo8, Int8.toBitVec_toInt32, Int32.toBitVec_toInt8]
  rw [Int32.toBitVec_and, BitVec.toNat_and, h]
  have e : ((x.toBitVec.signExtend 8).signExtend 32).toNat % 256 = x.toBitVec.toNat % 256 := by
    rw [BitVec.toNat_signExtend]
    have hlt := x.toBitVec.isLt
    simp only [BitVec.toNat_setWidth, BitVec.toNat_signExtend]
    split <;> split <;> omega
  rw [← e]
  exact Nat.and_two_pow_sub_one_eq_mod _ 8
theorem pair_says {c : Int32} (h0 : ¬ c < 0) (h1 : ¬ 65535 < c) : pairCh (lo8 c) (hi8 c) = c := by
  rw [Int32.lt_iff_toInt_lt] at h0 h1
  have e0 : (0 : Int32).toInt = 0 := rfl
  have e1 : (65535 : Int32).toInt = 65535 := rfl
  have hc : c.toInt = c.toBitVec.toNat := by
    have := c.toBitVec.isLt
    have e : c.toInt = c.toBitVec.toInt := rfl
    rw [e] at h0 h1
    rw [e]
    rw [BitVec.toInt_eq_toNat_cond] at h0 h1 ⊢
    split at h0 <;> split <;> omega
  have hn : c.toBitVec.toNat < 65536 := by omega
  have a1 := lo8_and c
  have a2 : (hi8 c &&& 255).toBitVec.toNat = c.toBitVec.toNat / 256 := by
    rw [hi8, lo8_and]
    have e : ((8 : Int32) &&& 31) = 8 := by decide
    rw [e, Int32.toBitVec_shiftRight]
    have e2 : ((8 : Int32).toBitVec.smod 32) = 8#32 := by decide
    rw [e2, BitVec.sshiftRight_eq', BitVec.toNat_sshiftRight_of_msb_false (by rw [BitVec.msb_eq_false_iff_two_mul_lt]; omega)]
    show c.toBitVec.toNat >>> 8 % 256 = _
    rw [Nat.shiftRight_eq_div_pow]
    omega
  unfold pairCh
  apply Int32.toBitVec_inj.mp
  apply BitVec.eq_of_toNat_eq
  have f0 : ((0 : Int32) &&& 31) = 0 := by decide
  have f8 : ((8 : Int32) &&& 31) = 8 := by decide
  rw [f0, f8]
  have g : (((lo8 c &&& 255) <<< (0 : Int32)) ||| ((hi8 c &&& 255) <<< (8 : Int32))).toBitVec.toNat = c.toBitVec.toNat := by
    rw [Int32.toBitVec_or, Int32.toBitVec_shiftLeft, Int32.toBitVec_shiftLeft]
    have s0 : ((0 : Int32).toBitVec.smod 32) = 0#32 := by decide
    have s8 : ((8 : Int32).toBitVec.smod 32) = 8#32 := by decide
    rw [s0, s8, BitVec.toNat_or]
    simp only [BitVec.shiftLeft_eq', BitVec.toNat_shiftLeft, a1, a2]
    show (c.toBitVec.toNat % 256) <<< 0 % 2 ^ 32 ||| (c.toBitVec.toNat / 256) <<< 8 % 2 ^ 32 = _
    rw [Nat.shiftLeft_zero, Nat.mod_eq_of_lt (show c.toBitVec.toNat % 256 < 2 ^ 32 by omega), Nat.mod_eq_of_lt (show (c.toBitVec.toNat / 256) <<< 8 < 2 ^ 32 by rw [Nat.shiftLeft_eq]; omega), Nat.or_comm, ← Nat.shiftLeft_add_eq_or_of_lt (by omega), Nat.shiftLeft_eq]
    omega
  show BitVec.toNat (((((lo8 c &&& 255) <<< (0 : Int32)) ||| ((hi8 c &&& 255) <<< (8 : Int32))).toBitVec.setWidth 16).setWidth 32) = _
  rw [BitVec.toNat_setWidth, BitVec.toNat_setWidth, g]
  omega
end StrChars
namespace StrChars
open Jvm Sem ClassFile Op Lib Jvm.Stand Jvm.Free.XT Jvm.Free.ALB Jvm.Free.JM Jvm.Free
open Jvm.Lib.Cold (StaticIs)
theorem shr1 {n : Nat} (h : 2 * n < 2 ^ 31) : Int32.ofNat (2 * n) >>> ((1 : Int32) &&& 31) = Int32.ofNat n := by
  have e : ((1 : Int32) &&& 31) = 1 := by decide
  rw [e]
  apply Int32.toBitVec_inj.mp
  rw [Int32.toBitVec_shiftRight]
  have e1 : ((1 : Int32).toBitVec.smod 32) = 1#32 := by decide
  have hm : (BitVec.ofNat 32 (2 * n)).toNat = 2 * n := by rw [BitVec.toNat_ofNat, Nat.mod_eq_of_lt (by omega)]
  rw [e1, BitVec.sshiftRight_eq']
  apply BitVec.eq_of_toNat_eq
  show ((BitVec.ofNat 32 (2 * n)).sshiftRight 1).toNat = (BitVec.ofNat 32 n).toNat
  rw [BitVec.toNat_sshiftRight_of_msb_false (by rw [BitVec.msb_eq_false_iff_two_mul_lt, hm]; omega), hm, BitVec.toNat_ofNat, Nat.shiftRight_eq_div_pow]
  omega
/-- the array's cell V codes the n chars f 0 .. f (n - 1) by the coder cd, as the JDK does: coder 1 just where some char is above 255 -/
def Cod (cd : Int32) (n : Nat) (f : Nat → Int32) (V : Cell) : Prop := (cd = 0 ∧ V.slots.size = n ∧ ∀ j, j < n → V.slots[j]? = some (.int (lo8 (f j))) ∧ ¬ 255 < f j) ∨ (cd = 1 ∧ V.slots.size = 2 * n ∧ (∀ j, j < n → V.slots[2 * j]? = some (.int (lo8 (f j))) ∧ V.slots[2 * j + 1]? = some (.int (hi8 (f j)))) ∧ ∃ j, j < n ∧ 255 < f j)
theorem Cod.cd {cd : Int32} {n : Nat} {f : Nat → Int32} {V : Cell} (h : Cod cd n f V) : cd = 0 ∨ cd = 1 := h.imp (fun q => q.1) fun q => q.1
theorem Cod.len {cd : Int32} {n : Nat} {f : Nat → Int32} {V : Cell} (h : Cod cd n f V) (hs : V.slots.size < 2 ^ 31) : Int32.ofNat V.slots.size >>> (cd &&& 31) = Int32.ofNat n := by
  rcases h with ⟨rfl, h, -⟩ | ⟨rfl, h, -⟩
  · rw [shr0, h]
  · rw [h, shr1 (by omega)]
/-- **x is a String of the n chars f 0 .. f (n - 1)**, Latin-1 or UTF-16; its array at t has the cell V -/
def Txt (x t : Addr) (V : Cell) (cd : Int32) (n : Nat) (f : Nat → Int32) (U : State) : Prop := Exact "java/lang/String" x U ∧ Has x "java/lang/String" "value" "[B" (.ref t) U ∧ Has x "java/lang/String" "coder" "B" (.int cd) U ∧ XT.Arr .byte t V U ∧ Cod cd n f V ∧ ∀ j, j < n → ¬ f j < 0 ∧ ¬ 65535 < f j
theorem Txt.mv {x t : Addr} {V : Cell} {cd : Int32} {n : Nat} {f : Nat → Int32} {U U' : State} (h : Txt x t V cd n f U) (hal : U.vm.Alike U'.vm) (hh : U'.heap = U.heap) : Txt x t V cd n f U' := ⟨h.1.mv hal hh, h.2.1.mv hal hh, h.2.2.1.mv hal hh, h.2.2.2.1.mv hal hh, h.2.2.2.2⟩
namespace Cdr
def yN : MethodName := ⟨"java/lang/String", "coder", "()B"⟩
abbrev yB : ByteArray := jdk_42_method_152_code
theorem d0 : decode yB 0 = .ok (.getstatic 38, 3) := by decide +kernel
theorem d3 : decode yB 3 = .ok (.ifCond (.eq) 10, 3) := by decide +kernel
theorem d6 : decode yB 6 = .ok (.aload_n 0, 1) := by decide +kernel
theorem d7 : decode yB 7 = .ok (.getfield 15, 3) := by decide +kernel
theorem d10 : decode yB 10 = .ok (.goto 4, 3) := by decide +kernel
theorem d14 : decode yB 14 = .ok (.ireturn, 1) := by decide +kernel
def site : List Cond := [.fieldLink "java/lang/String" 38 "java/lang/String" "COMPACT_STRINGS" "Z", .fieldLink "java/lang/String" 15 "java/lang/String" "coder" "B"]
def tab : Cond := tabOf yN yB 1 (some .byte) site
def P (x : Addr) (cd z : Int32) (args : Array Value) (s : State) : Prop := args = #[.ref x] ∧ Has x "java/lang/String" "coder" "B" (.int cd) s ∧ (cd = 0 ∨ cd = 1) ∧ StaticIs s "java/lang/String" "COMPACT_STRINGS" "Z" (.int z) ∧ ¬ z = 0
def E (cd : Int32) (r : Option Value) (s u : State) : Prop := XT.PureE (some (.int cd)) r s u
theorem law (l : Launch) (x : Addr) (cd z : Int32) : Law l yN 1 0 0 0 yB 1 (some .byte) site (P x cd z) (E cd) [] 0 0 := by
  refine Law.of_walk (plainFor_of_name (by decide +kernel)) (by decide +kernel) (by decide +kernel) (by decide) (fun _ _ h => by rw [h.1]; rfl) (fun _ U U' hal hh h => ⟨h.1, h.2.1.mv hal hh, h.2.2.1, h.2.2.2.1.there hal hh, h.2.2.2.2⟩) (fun r U U' V V' h1 hal h2 h => XT.PureE.mv r U U' V V' h1 hal h2 h) ?_
  intro p e s m args below meth c s₁ X0 hexec hbytes hml hret hlk hnm hown hh0 W hP
  obtain ⟨rfl, hx, hc, s1, hz⟩ := hP
  have c1 : Steps p.tables e below (s₁.setTop (entryFrame m #[.ref x] 1)) (s₁.setTop (mkF m 0 #[.val (.ref x)] [])) := entry rfl
  obtain ⟨T2, X2, q2, st2⟩ := X0.sget hexec hown (wk W (.fieldLink "java/lang/String" 38 "java/lang/String" "COMPACT_STRINGS" "Z")) s1 (fun _ _ h => by rw [hh0]; exact h) (g := (mkF m 0 #[.val (.ref x)] [])) rfl (hb hbytes d0)
  have hh2 := q2.trans hh0
  have c3 : Steps p.tables e below (s₁.setTop (entryFrame m #[.ref x] 1)) (T2.setTop (mkF m 7 #[.val (.ref x)] [.ref x])) := (c1.trans (st2 _ (Steps.refl _))).trans (by
    refine XS.ifNo X2.here hexec rfl (hb hbytes d3) rfl (i0_eq_f hz) ?_
    refine XS.aloadN X2.here hexec rfl (hb hbytes d6) rfl rfl ?_
    exact Steps.refl _)
  obtain ⟨T4, X4, q4, st4⟩ := X2.hget hexec hown (wk W (.fieldLink "java/lang/String" 15 "java/lang/String" "coder" "B")) (hx.mv X2.warmed.alike hh2) (g := (mkF m 7 #[.val (.ref x)] [.ref x])) rfl (rest := []) rfl (hb hbytes d7)
  have c5 : Steps p.tables e below (s₁.setTop (entryFrame m #[.ref x] 1)) (T4.setTop (mkF m 14 #[.val (.ref x)] [.int cd])) := (c3.trans (st4 _ (Steps.refl _))).trans (by
    refine XS.goto X4.here hexec rfl (pc0 := 10) rfl (hb hbytes d10) (by decide) rfl ?_
    exact Steps.refl _)
  exact ⟨T4, some (.int cd), _, _, _, X4, rfl, rfl, rfl, (fun h => by cases h), ⟨rfl, q4.trans hh2⟩, fun fs hl => c5.trans (X4.ireturnOut hexec hret (by rcases hc with rfl | rfl <;> rfl) (Or.inr (Or.inr (Or.inl rfl))) (hb hbytes d14) hl)⟩
end Cdr
namespace Len
def yN : MethodName := ⟨"java/lang/String", "length", "()I"⟩
abbrev yB : ByteArray := jdk_42_method_54_code
theorem d0 : decode yB 0 = .ok (.aload_n 0, 1) := by decide +kernel
theorem d1 : decode yB 1 = .ok (.getfield 9, 3) := by decide +kernel
theorem d4 : decode yB 4 = .ok (.arraylength, 1) := by decide +kernel
theorem d5 : decode yB 5 = .ok (.aload_n 0, 1) := by decide +kernel
theorem d6 : decode yB 6 = .ok (.invokevirtual 335, 3) := by decide +kernel
theorem d9 : decode yB 9 = .ok (.ishr, 1) := by decide +kernel
theorem d10 : decode yB 10 = .ok (.ireturn, 1) := by decide +kernel
def site : List Cond := [.fieldLink "java/lang/String" 9 "java/lang/String" "value" "[B", Cdr.tab] ++ virtW "java/lang/String" 335 "java/lang/String" Cdr.yN Cdr.yN
def tab : Cond := tabOf yN yB 1 (some .int) site
def P (x t : Addr) (V : Cell) (cd : Int32) (n : Nat) (f : Nat → Int32) (z : Int32) (args : Array Value) (s : State) : Prop := args = #[.ref x] ∧ Txt x t V cd n f s ∧ StaticIs s "java/lang/String" "COMPACT_STRINGS" "Z" (.int z) ∧ ¬ z = 0
def E (n : Nat) (r : Option Value) (s u : State) : Prop := XT.PureE (some (.int (Int32.ofNat n))) r s u
/-- length() of a String of n chars, in either coding -/
theorem law (l : Launch) (x t : Addr) (V : Cell) (cd : Int32) (n : Nat) (f : Nat → Int32) (z : Int32) : Law l yN 1 0 1 13 yB 1 (some .int) site (P x t V cd n f z) (E n) [] 0 0 := by
  refine Law.of_walk (plainFor_of_name (by decide +kernel)) (by decide +kernel) (by decide +kernel) (by decide) (fun _ _ h => by rw [h.1]; rfl) (fun _ U U' hal hh h => ⟨h.1, h.2.1.mv hal hh, h.2.2.1.there hal hh, h.2.2.2⟩) (fun r U U' V V' h1 hal h2 h => XT.PureE.mv r U U' V V' h1 hal h2 h) ?_
  intro p e s m args below meth c s₁ X0 hexec hbytes hml hret hlk hnm hown hh0 W hP
  obtain ⟨rfl, hx, s1, hz⟩ := hP
  have v31 := hx.2.2.2.1.2.2.2
  have c1 : Steps p.tables e below (s₁.setTop (entryFrame m #[.ref x] 1)) (s₁.setTop (mkF m 1 #[.val (.ref x)] [.ref x])) := Steps.trans (entry rfl) (by
    show Steps p.tables e below (s₁.setTop (mkF m 0 #[.val (.ref x)] [])) _
    refine XS.aloadN X0.here hexec rfl (hb hbytes d0) rfl rfl ?_
    exact Steps.refl _)
  obtain ⟨T2, X2, q2, st2⟩ := X0.hget hexec hown (wk W (.fieldLink "java/lang/String" 9 "java/lang/String" "value" "[B")) (hx.mv X0.warmed.alike hh0).2.1 (g := (mkF m 1 #[.val (.ref x)] [.ref x])) rfl (rest := []) rfl (hb hbytes d1)
  have hh2 := q2.trans hh0
  have hx2 := hx.mv X2.warmed.alike hh2
  have c3 : Steps p.tables e below (s₁.setTop (entryFrame m #[.ref x] 1)) (T2.setTop (mkF m 6 #[.val (.ref x)] [.ref x, .int (Int32.ofNat V.slots.size)])) := (c1.trans (st2 _ (Steps.refl _))).trans (by
    refine X2.alen hexec hx2.2.2.2.1 rfl rfl (hb hbytes d4) ?_
    refine XS.aloadN X2.here hexec rfl (hb hbytes d5) rfl rfl ?_
    exact Steps.refl _)
  obtain ⟨v4, T4, X4, E4, g4⟩ := X2.callV hexec (Cdr.law l x cd z) hown (wks W (virtW "java/lang/String" 335 "java/lang/String" Cdr.yN Cdr.yN)) rfl (by decide) (wk W Cdr.tab) (W := 1) (Nat.le_of_ble_eq_true rfl) (Nat.le_of_ble_eq_true rfl) (Nat.le_refl _) (Nat.le_refl _) (hx2.1.fc X2.warmed.alike) hx2.1.is (g := (mkF m 6 #[.val (.ref x)] [.ref x, .int (Int32.ofNat V.slots.size)])) rfl (by rw [hml]; rfl) c3 (argsL := []) (rest := [.int (Int32.ofNat V.slots.size)]) rfl rfl (by show 2 * 0 + (1 + 0) ≤ _; decide) (hb hbytes d6) (⟨rfl, hx2.2.2.1, hx.2.2.2.2.1.cd, s1.there X2.warmed.alike hh2, hz⟩)
  obtain ⟨rfl, q4⟩ := E4
  have c5 : Steps p.tables e below (s₁.setTop (entryFrame m #[.ref x] 1)) (T4.setTop (mkF m 10 #[.val (.ref x)] [.int (Int32.ofNat V.slots.size >>> (cd &&& 31))])) := Steps.trans g4 (by
    refine ishr X4.here hexec rfl (hb hbytes d9) rfl ?_
    exact Steps.refl _)
  rw [hx.2.2.2.2.1.len v31] at c5
  exact ⟨T4, some (.int (Int32.ofNat n)), _, _, _, X4, rfl, rfl, rfl, (fun h => by cases h), ⟨rfl, q4.trans hh2⟩, fun fs hl => c5.trans (X4.ireturnOut hexec hret rfl (Or.inl rfl) (hb hbytes d10) hl)⟩
theorem pays {l : Launch} {R : Room} {p : Program} {e : Env} {below : List Frame} {s : State} {sargs : Array Value} {len W : Nat} (x t : Addr) (V : Cell) (cd : Int32) (n : Nat) (f : Nat → Int32) (z : Int32) (htab : tab.before sargs s = true) (hfr : 2 ≤ R.frames) (hlo : W + 25 ≤ R.locals) :
    Back l R p e below s sargs yN len W (fun A₁ a₁ => A₁.cells + 0 ≤ R.cells ∧ A₁.slots + 0 ≤ R.slots ∧ P x t V cd n f z a₁ A₁.U) (fun A₁ _ v₁ B₁ => E n v₁ A₁.U B₁.U ∧ B₁.locs = A₁.locs ++ [] ∧ B₁.cells = A₁.cells + 0 ∧ B₁.slots = A₁.slots + 0) :=
  (law l x t V cd n f z).pays htab hfr (by omega)
end Len
end StrChars
namespace StrChars.Road
open Jvm Sem ClassFile Op Lib Jvm.Stand Jvm.Free Jvm.Free.XT
open Jvm.Lib.Cold (StaticIs)
theorem consq {a : Array Value} {s : State} {c : Jvm.Cond} {L : List Jvm.Cond} (h0 : c.before a s = true) (h : ∀ w ∈ L, w.before a s = true) : ∀ w ∈ c :: L, w.before a s = true := fun w hw => (List.mem_cons.mp hw).elim (fun e => e ▸ h0) (h w)
/-- the words of String.length(), either coding -/
abbrev wordsLen : List Jvm.Cond := [.code Len.yN Len.yB 1 (some .int), .initialized ST, .fieldLink ST 9 ST "value" "[B", .fieldLink ST 38 ST "COMPACT_STRINGS" "Z", .fieldLink ST 15 ST "coder" "B", .code Cdr.yN Cdr.yB 1 (some .byte), .methodLink ST 335 Cdr.yN, .declares Cdr.yN, .selects ST Cdr.yN Cdr.yN, .instanceMethod Cdr.yN]
theorem tabLen_of {a : Array Value} {s : State} (h : ∀ w ∈ wordsLen, w.before a s = true) : Len.tab.before a s = true := by
  have hc : Cdr.tab.before a s = true := unparts (wk h (.code Cdr.yN Cdr.yB 1 (some .byte))) (wks h (.initialized Cdr.yN.cls :: Cdr.site))
  have q := consq hc h
  exact unparts (wk q (.code Len.yN Len.yB 1 (some .int))) (wks q (.initialized Len.yN.cls :: Len.site))
theorem movedLen {Z s : State} {a0 args : Array Value} (hZ : Z.Warmed39 s.vm) (hw : ∀ d ∈ wordsLen, d.before a0 Z = true) : ∀ d ∈ wordsLen, d.before args s = true := fun d hd => by
  have q := hw d hd
  have t : ∀ d ∈ wordsLen, d = .arrayClass .byte ∨ (d.onTables && d.keepsFace) = true := by decide +kernel
  rcases t d hd with rfl | t
  · exact RoadKit.mvA hZ q
  · exact RoadKit.mv hZ q t
/-- the bytes of the chars cs, low before high -/
def wideBytes : List Int32 → List Value
  | [] => []
  | c :: cs => .int (lo8 c) :: .int (hi8 c) :: wideBytes cs
theorem wide_lo (d : Value) : ∀ (cs : List Int32) (j : Nat), j < cs.length → (wideBytes cs).getD (2 * j) d = .int (lo8 (cs.getD j 0))
  | [], j, h => absurd h (Nat.not_lt_zero j)
  | c :: cs, 0, _ => rfl
  | c :: cs, j + 1, h => by
    have q := wide_lo d cs j (by simpa using h)
    rw [show 2 * (j + 1) = 2 * j + 1 + 1 from by omega]
    simpa [wideBytes] using q
theorem wide_hi (d : Value) : ∀ (cs : List Int32) (j : Nat), j < cs.length → (wideBytes cs).getD (2 * j + 1) d = .int (hi8 (cs.getD j 0))
  | [], j, h => absurd h (Nat.not_lt_zero j)
  | c :: cs, 0, _ => rfl
  | c :: cs, j + 1, h => by
    have q := wide_hi d cs j (by simpa using h)
    rw [show 2 * (j + 1) + 1 = 2 * j + 1 + 1 + 1 from by omega]
    simpa [wideBytes] using q
theorem low_at (d : Value) (cs : List Int32) (j : Nat) (h : j < cs.length) : (cs.map fun c => Value.int (lo8 c)).getD j d = .int (lo8 (cs.getD j 0)) := by
  simp [List.getD_eq_getElem?_getD, h]
/-- an array of N2 bytes vs codes the chars cs by the coder cd -/
def CodA (cs : List Int32) (cd N2 : Int32) (vs : List Value) : Prop := (cd = 0 ∧ N2 = Int32.ofNat cs.length ∧ vs = (cs.map fun c => Value.int (lo8 c)) ∧ ∀ c ∈ cs, ¬ 255 < c) ∨ (cd = 1 ∧ N2 = Int32.ofNat (2 * cs.length) ∧ vs = wideBytes cs ∧ ∃ c ∈ cs, 255 < c)
theorem CodA.cod {cs : List Int32} {cd N2 : Int32} {vs : List Value} {V : Cell} (h : CodA cs cd N2 vs) (hn : 2 * cs.length < 2 ^ 31) (hs : V.slots.size = N2.toNatClampNeg) (hv : RoadKit.Has V vs (.int 0)) : Cod cd cs.length (fun j => cs.getD j 0) V := by
  rcases h with ⟨rfl, rfl, rfl, h⟩ | ⟨rfl, rfl, rfl, c, hc, hw⟩
  · rw [n32 (by omega)] at hs
    exact Or.inl ⟨rfl, hs, fun j hj => ⟨by rw [hv j (by omega), low_at _ _ _ hj], by
      have e : cs.getD j 0 = cs[j] := by simp [List.getD_eq_getElem?_getD, hj]
      show ¬ 255 < cs.getD j 0
      rw [e]; exact h _ (List.getElem_mem _)⟩⟩
  · rw [n32 (by omega)] at hs
    obtain ⟨j, hj, rfl⟩ := List.getElem_of_mem hc
    exact Or.inr ⟨rfl, hs, fun j hj => ⟨by rw [hv _ (by omega), wide_lo _ _ _ hj], by rw [hv _ (by omega), wide_hi _ _ _ hj]⟩, j, hj, by
      have e : cs.getD j 0 = cs[j] := by simp [List.getD_eq_getElem?_getD, hj]
      show 255 < cs.getD j 0
      rw [e]; exact hw⟩
/-- an object of exactly java/lang/String, its two fields found: as the laws ask it -/
theorem strObj {Z U : State} {a0 : Array Value} {kI : Nat} (wi : (Jvm.Cond.instantiable ST kI).before a0 Z = true) (al : Z.vm.Alike U.vm) {x : Addr} {v0 c0 : Value} (E : RoadKit.Exa Z U.heap x ST) (V : RoadKit.Fld Z U.heap x ST "value" "[B" v0) (C : RoadKit.Fld Z U.heap x ST "coder" "B" c0) :
    ∃ (D : Cell) (fV fC : Field), Blank ST x D U ∧ Found ST "value" "[B" fV U ∧ Found ST "coder" "B" fC U ∧ D.slots[fV.slot]? = some v0 ∧ D.slots[fC.slot]? = some c0 ∧ RoadKit.slotOf Z ST "value" "[B" = fV.slot ∧ RoadKit.slotOf Z ST "coder" "B" = fC.slot := by
  obtain ⟨D, cfV, kV, iV, fV, hD, gV, stV, knV, obV, asV, slV⟩ := V
  obtain ⟨D', cfC, kC, iC, fC, hD', gC, stC, -, -, asC, slC⟩ := C
  cases hD.symm.trans hD'
  obtain ⟨D2, kD, e1, e2, e3, e4, e5⟩ := E
  cases hD.symm.trans e1
  obtain ⟨c2, k2, i1, i2, i3, -⟩ := Cond.instantiable_spec wi
  cases e2.symm.trans i1
  cases e3.symm.trans i2
  obtain ⟨kU, u1, u2⟩ := al.2.2 _ _ e3
  exact ⟨D, fV, fC, ⟨hD, ⟨knV, fun q hq => by rw [hq] at obV; cases obV⟩, by rw [al.findClass]; exact e2, kU, u1, by rw [u2]; exact i3, by rw [u2]; exact e5 i3⟩, ⟨SBG.found_only al ⟨cfV, kV, iV, gV⟩, stV⟩, ⟨SBG.found_only al ⟨cfC, kC, iC, gC⟩, stC⟩, slV, slC, by simp [RoadKit.slotOf, gV], by simp [RoadKit.slotOf, gC]⟩
theorem sta_is {Z U : State} (al : Z.vm.Alike U.vm) {C n d : String} {v : Value} (S : RoadKit.Sta Z U.heap C n d v) : StaticIs U C n d v := by
  obtain ⟨cfS, iS, kS, fS, st, cS, t1, t2, t3, t4, t5, t6, t7⟩ := S
  exact StaticIs.there (s := { Z with heap := U.heap }) ⟨cfS, iS, kS, fS, st, cS, t1, t2, t3, t4, t5, (fun q => by rw [q] at t6; cases t6), t7⟩ al rfl
/-- **length() OF SUCH A STRING** -/
theorem lenW {p : Program} {l : Launch} {e : Env} {R : Room} {s : State} {args : Array Value} {below : List Frame} {len W : Nat} {Z : State} {a0 : Array Value} {h : Heap} (hZ : Z.Warmed39 s.vm) (hw : ∀ d ∈ wordsLen, d.before a0 Z = true) {kI : Nat} (wi : (Jvm.Cond.instantiable ST kI).before a0 Z = true)
    {x t : Addr} {kb : ClassId} {cs : List Int32} {cd N2 z : Int32} {vs : List Value} (E : RoadKit.Exa Z h x ST) (V : RoadKit.Fld Z h x ST "value" "[B" (.ref t)) (C : RoadKit.Fld Z h x ST "coder" "B" (.int cd)) (K : RoadKit.Arv Z h t kb .byte N2 vs (.int 0)) (hc : CodA cs cd N2 vs) (hb : ∀ c ∈ cs, ¬ c < 0 ∧ ¬ (65535 : Int32) < c)
    (S : RoadKit.Sta Z h ST "COMPACT_STRINGS" "Z" (.int z)) (hz : ¬ z = 0) (l2 : cs.length ≤ 4000) (hfr : 2 ≤ R.frames) (hlo : W + 25 ≤ R.locals) :
    Back l R p e below s args (⟨"java/lang/String", "length", "()I"⟩ : MethodName) len W (fun P a => a = #[.ref x] ∧ P.U.heap = h ∧ P.cells + 0 ≤ R.cells ∧ P.slots + 0 ≤ R.slots)
      (fun P _ v B => ∃ L, (v = some (.int (Int32.ofNat cs.length)) ∧ L = [] ∧ B.U.heap = h) ∧ B.locs = P.locs ++ L ∧ B.cells = P.cells + 0 ∧ B.slots = P.slots + 0) := by
  obtain ⟨A, K1, K2, K3, K4, K5, K6⟩ := K
  have hcod := hc.cod (by omega) K3 K5
  intro m meth c P g ig mk a X hg hsize hdg hW hn hp'
  obtain ⟨rfl, rfl, r1, r2⟩ := hp'
  have al : Z.vm.Alike P.U.vm := hZ.alike.trans X.warmed.alike
  obtain ⟨D, fV, fC, hB, F1, F2, g1, g2, -, -⟩ := strObj wi al E V C
  have hx : Txt x t A cd cs.length (fun j => cs.getD j 0) P.U := ⟨⟨_, hB.2.2.1, D, hB.1, rfl, by cases q : D.vm <;> first | rfl | exact absurd q (hB.2.1.2 _)⟩, Has.of hB F1 g1, Has.of hB F2 g2, ⟨K1.1, State.isArrayOf_alike al K1.2.1, K1.2.2, by rcases hcod with ⟨-, q, -⟩ | ⟨-, q, -⟩ <;> omega⟩, hcod, fun j hj => by
    have e : cs.getD j 0 = cs[j] := by simp [List.getD_eq_getElem?_getD, hj]
    show ¬ cs.getD j 0 < 0 ∧ ¬ 65535 < cs.getD j 0
    rw [e]; exact hb _ (List.getElem_mem _)⟩
  obtain ⟨v, B, X', ⟨⟨hv, hh⟩, hl, hk, hs⟩, st⟩ := Len.pays x t A cd cs.length (fun j => cs.getD j 0) z (tabLen_of (movedLen hZ hw)) hfr hlo m meth c P g ig mk _ X hg hsize hdg hW hn ⟨r1, r2, rfl, hx, sta_is al S, hz⟩
  exact ⟨v, B, X', ⟨[], ⟨hv, rfl, hh⟩, hl, hk, hs⟩, st⟩
end StrChars.Road
namespace StrChars
open Jvm Sem ClassFile Op Lib Jvm.Stand Jvm.Free.XT Jvm.Free.ALB Jvm.Free.JM Jvm.Free
open Jvm.Lib.Cold (StaticIs)
/-- what place i of a byte[]'s cell holds -/
def yv (A : Cell) (i : Nat) : Int32 := match A.slots[i]? with | some (.int x) => x | _ => 0
theorem yv_get {a : Addr} {A : Cell} {U : State} (h : XT.Arr .byte a A U) (ht : Typed .byte A) {i : Nat} (hi : i < A.slots.size) : A.slots[i]? = some (.int (yv A i)) := by
  have e := Array.getElem?_eq_getElem hi
  have f := ht i _ e
  unfold yv; rw [e]
  generalize A.slots[i] = v at f
  cases v <;> simp [fits] at f ⊢
/-- the two arrays are equal, place for place -/
def EqC (A B : Cell) : Prop := A.slots.size = B.slots.size ∧ ∀ i, i < A.slots.size → yv A i = yv B i
/-- a boolean that says whether p -/
def Says01 (q : Prop) (r : Option Value) (s u : State) : Prop := ∃ v : Int32, r = some (.int v) ∧ u.heap = s.heap ∧ ((v = 1 ∧ q) ∨ (v = 0 ∧ ¬ q))
theorem Says01.mv {q : Prop} : ∀ r (U U' V V' : State), U'.heap = U.heap → V.vm.Alike V'.vm → V'.heap = V.heap → Says01 q r U V → Says01 q r U' V' :=
  fun r U U' V V' h1 _ h2 ⟨v, a, b, c⟩ => ⟨v, a, by rw [h1, h2]; exact b, c⟩
namespace LEq
def yN : MethodName := ⟨"java/lang/StringLatin1", "equals", "([B[B)Z"⟩
abbrev yB : ByteArray := jdk_43_method_13_code
theorem d0 : decode yB 0 = .ok (.aload_n 0, 1) := by decide +kernel
theorem d1 : decode yB 1 = .ok (.arraylength, 1) := by decide +kernel
theorem d2 : decode yB 2 = .ok (.aload_n 1, 1) := by decide +kernel
theorem d3 : decode yB 3 = .ok (.arraylength, 1) := by decide +kernel
theorem d4 : decode yB 4 = .ok (.if_icmp (.ne) 30, 3) := by decide +kernel
theorem d7 : decode yB 7 = .ok (.iconst 0, 1) := by decide +kernel
theorem d8 : decode yB 8 = .ok (.istore_n 2, 1) := by decide +kernel
theorem d9 : decode yB 9 = .ok (.iload_n 2, 1) := by decide +kernel
theorem d10 : decode yB 10 = .ok (.aload_n 0, 1) := by decide +kernel
theorem d11 : decode yB 11 = .ok (.arraylength, 1) := by decide +kernel
theorem d12 : decode yB 12 = .ok (.if_icmp (.ge) 20, 3) := by decide +kernel
theorem d15 : decode yB 15 = .ok (.aload_n 0, 1) := by decide +kernel
theorem d16 : decode yB 16 = .ok (.iload_n 2, 1) := by decide +kernel
theorem d17 : decode yB 17 = .ok (.baload, 1) := by decide +kernel
theorem d18 : decode yB 18 = .ok (.aload_n 1, 1) := by decide +kernel
theorem d19 : decode yB 19 = .ok (.iload_n 2, 1) := by decide +kernel
theorem d20 : decode yB 20 = .ok (.baload, 1) := by decide +kernel
theorem d21 : decode yB 21 = .ok (.if_icmp (.eq) 5, 3) := by decide +kernel
theorem d24 : decode yB 24 = .ok (.iconst 0, 1) := by decide +kernel
theorem d25 : decode yB 25 = .ok (.ireturn, 1) := by decide +kernel
theorem d26 : decode yB 26 = .ok (.iinc 2 1, 3) := by decide +kernel
theorem d29 : decode yB 29 = .ok (.goto (-20), 3) := by decide +kernel
theorem d32 : decode yB 32 = .ok (.iconst 1, 1) := by decide +kernel
theorem d33 : decode yB 33 = .ok (.ireturn, 1) := by decide +kernel
theorem d34 : decode yB 34 = .ok (.iconst 0, 1) := by decide +kernel
theorem d35 : decode yB 35 = .ok (.ireturn, 1) := by decide +kernel
def site : List Cond := []
def tab : Cond := tabOf yN yB 3 (some .boolean) site
def P (a : Addr) (A : Cell) (b : Addr) (B : Cell) (args : Array Value) (s : State) : Prop := args = #[.ref a, .ref b] ∧ XT.Arr .byte a A s ∧ Typed .byte A ∧ XT.Arr .byte b B s ∧ Typed .byte B
/-- whether two byte[] are equal, place for place -/
theorem law (l : Launch) (a : Addr) (A : Cell) (b : Addr) (B : Cell) : Law l yN 2 2 0 0 yB 3 (some .boolean) site (P a A b B) (Says01 (EqC A B)) [] 0 0 := by
  refine Law.of_walk (plainFor_of_name (by decide +kernel)) (by decide +kernel) (by decide +kernel) (by decide) (fun _ _ h => by rw [h.1]; rfl) (fun _ U U' hal hh h => ⟨h.1, h.2.1.mv hal hh, h.2.2.1, h.2.2.2.1.mv hal hh, h.2.2.2.2⟩) (fun r U U' V V' h1 hal h2 h => Says01.mv r U U' V V' h1 hal h2 h) ?_
  intro p e s m args below meth c s₁ X0 hexec hbytes hml hret hlk hnm hown hh0 W hP
  obtain ⟨rfl, hA, tA, hB, tB⟩ := hP
  have a31 := hA.2.2.2
  have b31 := hB.2.2.2
  have hA0 := hA.mv X0.warmed.alike hh0
  have hB0 := hB.mv X0.warmed.alike hh0
  have c1 : Steps p.tables e below (s₁.setTop (entryFrame m #[.ref a, .ref b] 3)) (s₁.setTop (mkF m 0 #[.val (.ref a), .val (.ref b), .unset] [])) := entry rfl
  have c2 : Steps p.tables e below (s₁.setTop (entryFrame m #[.ref a, .ref b] 3)) (s₁.setTop (mkF m 4 #[.val (.ref a), .val (.ref b), .unset] [.int (Int32.ofNat B.slots.size), .int (Int32.ofNat A.slots.size)])) := c1.trans (by
    refine XS.aloadN X0.here hexec rfl (hb hbytes d0) rfl rfl ?_
    refine X0.alen hexec hA0 rfl rfl (hb hbytes d1) ?_
    refine XS.aloadN X0.here hexec rfl (hb hbytes d2) rfl rfl ?_
    refine X0.alen hexec hB0 rfl rfl (hb hbytes d3) ?_
    exact Steps.refl _)
  by_cases hs : A.slots.size = B.slots.size
  · have c3 : Steps p.tables e below (s₁.setTop (entryFrame m #[.ref a, .ref b] 3)) (s₁.setTop (mkF m 9 #[.val (.ref a), .val (.ref b), .val (.int 0)] [])) := c2.trans (by
      refine XS.icmpNo X0.here hexec rfl (hb hbytes d4) rfl (ii_ne_f (by rw [hs])) ?_
      refine iconstV X0.here hexec rfl 0 (hb hbytes d7) (by decide) ?_
      refine XS.istoreN X0.here hexec rfl (hb hbytes d8) rfl rfl ?_
      exact Steps.refl _)
    have loop : ∀ (r i : Nat), i + r = A.slots.size → (∀ j, j < i → yv A j = yv B j) → Steps p.tables e below (s₁.setTop (entryFrame m #[.ref a, .ref b] 3)) (s₁.setTop (mkF m 9 #[.val (.ref a), .val (.ref b), .val (.int (Int32.ofNat i))] [])) → ∃ (pc : Nat) (Ls : Array Slot) (v : Int32), (pc = 25 ∨ pc = 33) ∧ ((v = 1 ∧ EqC A B) ∨ (v = 0 ∧ ¬ EqC A B)) ∧ Steps p.tables e below (s₁.setTop (entryFrame m #[.ref a, .ref b] 3)) (s₁.setTop (mkF m pc Ls [.int v])) := by
      intro r
      induction r with
      | zero =>
        intro i hi he cl
        exact ⟨33, _, 1, Or.inr rfl, Or.inl ⟨rfl, hs, fun j hj => he j (by omega)⟩, cl.trans (by
          refine XS.iloadN X0.here hexec rfl (hb hbytes d9) rfl ?_
          refine XS.aloadN X0.here hexec rfl (hb hbytes d10) rfl rfl ?_
          refine X0.alen hexec hA0 rfl rfl (hb hbytes d11) ?_
          refine XS.icmpYes X0.here hexec rfl (pc0 := 12) rfl (hb hbytes d12) rfl (ii_ge_t (nlt32 (by omega) (by omega))) (by decide) rfl ?_
          refine iconstV X0.here hexec rfl 1 (hb hbytes d32) (by decide) ?_
          exact Steps.refl _)⟩
      | succ r ih =>
        intro i hi he cl
        have c4 : Steps p.tables e below (s₁.setTop (entryFrame m #[.ref a, .ref b] 3)) (s₁.setTop (mkF m 21 #[.val (.ref a), .val (.ref b), .val (.int (Int32.ofNat i))] [.int (yv B i), .int (yv A i)])) := cl.trans (by
          refine XS.iloadN X0.here hexec rfl (hb hbytes d9) rfl ?_
          refine XS.aloadN X0.here hexec rfl (hb hbytes d10) rfl rfl ?_
          refine X0.alen hexec hA0 rfl rfl (hb hbytes d11) ?_
          refine XS.icmpNo X0.here hexec rfl (hb hbytes d12) rfl (ii_ge_f (lt32 (by omega) (by omega))) ?_
          refine XS.aloadN X0.here hexec rfl (hb hbytes d15) rfl rfl ?_
          refine XS.iloadN X0.here hexec rfl (hb hbytes d16) rfl ?_
          refine X0.aget hexec hA0 rfl (yv_get hA tA (i := i) (by omega)) rfl rfl (hb hbytes d17) ?_
          refine XS.aloadN X0.here hexec rfl (hb hbytes d18) rfl rfl ?_
          refine XS.iloadN X0.here hexec rfl (hb hbytes d19) rfl ?_
          refine X0.aget hexec hB0 rfl (yv_get hB tB (i := i) (by omega)) rfl rfl (hb hbytes d20) ?_
          exact Steps.refl _)
        by_cases hv : yv A i = yv B i
        · have c5 : Steps p.tables e below (s₁.setTop (entryFrame m #[.ref a, .ref b] 3)) (s₁.setTop (mkF m 9 #[.val (.ref a), .val (.ref b), .val (.int (Int32.ofNat i + 1))] [])) := c4.trans (by
            refine XS.icmpYes X0.here hexec rfl (pc0 := 21) rfl (hb hbytes d21) rfl (ii_eq_t hv) (by decide) rfl ?_
            refine iincV X0.here hexec rfl 1 (hb hbytes d26) (by decide) rfl rfl ?_
            refine XS.goto X0.here hexec rfl (pc0 := 29) rfl (hb hbytes d29) (by decide) rfl ?_
            exact Steps.refl _)
          rw [succ32] at c5
          exact ih (i + 1) (by omega) (fun j hj => by
            by_cases e : j = i
            · rw [e]; exact hv
            · exact he j (by omega)) c5
        · exact ⟨25, _, 0, Or.inl rfl, Or.inr ⟨rfl, fun q => hv (q.2 i (by omega))⟩, c4.trans (by
            refine XS.icmpNo X0.here hexec rfl (hb hbytes d21) rfl (ii_eq_f hv) ?_
            refine iconstV X0.here hexec rfl 0 (hb hbytes d24) (by decide) ?_
            exact Steps.refl _)⟩
    obtain ⟨pc, Ls, v, hpc, hv, cz⟩ := loop A.slots.size 0 (by omega) (fun j hj => absurd hj (Nat.not_lt_zero j)) c3
    have nv : narrow .boolean (.int v) = .int v := by rcases hv with ⟨rfl, -⟩ | ⟨rfl, -⟩ <;> rfl
    rcases hpc with rfl | rfl
    · exact ⟨s₁, some (.int v), _, _, _, X0, rfl, rfl, rfl, (fun h => by cases h), ⟨v, rfl, hh0, hv⟩, fun fs hl => cz.trans (X0.ireturnOut hexec hret nv (Or.inr (Or.inl rfl)) (hb hbytes d25) hl)⟩
    · exact ⟨s₁, some (.int v), _, _, _, X0, rfl, rfl, rfl, (fun h => by cases h), ⟨v, rfl, hh0, hv⟩, fun fs hl => cz.trans (X0.ireturnOut hexec hret nv (Or.inr (Or.inl rfl)) (hb hbytes d33) hl)⟩
  · have c3 : Steps p.tables e below (s₁.setTop (entryFrame m #[.ref a, .ref b] 3)) (s₁.setTop (mkF m 35 #[.val (.ref a), .val (.ref b), .unset] [.int 0])) := c2.trans (by
      refine XS.icmpYes X0.here hexec rfl (pc0 := 4) rfl (hb hbytes d4) rfl (ii_ne_t (ne32 a31 b31 hs)) (by decide) rfl ?_
      refine iconstV X0.here hexec rfl 0 (hb hbytes d34) (by decide) ?_
      exact Steps.refl _)
    exact ⟨s₁, some (.int 0), _, _, _, X0, rfl, rfl, rfl, (fun h => by cases h), ⟨0, rfl, hh0, Or.inr ⟨rfl, fun q => hs q.1⟩⟩, fun fs hl => c3.trans (X0.ireturnOut hexec hret rfl (Or.inr (Or.inl rfl)) (hb hbytes d35) hl)⟩
end LEq
theorem Cod.ty {cd : Int32} {n : Nat} {f : Nat → Int32} {V : Cell} (h : Cod cd n f V) : Typed .byte V := fun i v hv => by
  have hi : i < V.slots.size := (Array.getElem?_eq_some_iff.mp hv).1
  rcases h with ⟨-, k1, k2⟩ | ⟨-, k1, k2, -⟩
  · rw [(k2 i (by omega)).1] at hv; cases hv; exact fits_lo8 _
  · rcases Nat.mod_two_eq_zero_or_one i with e | e
    · obtain ⟨j, rfl⟩ : ∃ j, i = 2 * j := ⟨i / 2, by omega⟩
      rw [(k2 j (by omega)).1] at hv; cases hv; exact fits_lo8 _
    · obtain ⟨j, rfl⟩ : ∃ j, i = 2 * j + 1 := ⟨i / 2, by omega⟩
      rw [(k2 j (by omega)).2] at hv; cases hv; exact fits_lo8 _
/-- the same text -/
def SameT (n : Nat) (f : Nat → Int32) (k : Nat) (g : Nat → Int32) : Prop := n = k ∧ ∀ j, j < n → f j = g j
theorem lo8_inj {x y : Int32} (h0 : ¬ x < 0) (h1 : ¬ 255 < x) (k0 : ¬ y < 0) (k1 : ¬ 255 < y) (h : lo8 x = lo8 y) : x = y := by
  rw [← lo8_mask h0 h1, ← lo8_mask k0 k1, h]
/-- arrays coded by one coder are equal just where the texts are -/
theorem Cod.eqv {cd : Int32} {n k : Nat} {f g : Nat → Int32} {V V' : Cell} (h : Cod cd n f V) (h' : Cod cd k g V') (hf : ∀ j, j < n → ¬ f j < 0 ∧ ¬ 65535 < f j) (hg : ∀ j, j < k → ¬ g j < 0 ∧ ¬ 65535 < g j) : EqC V V' ↔ SameT n f k g := by
  have yvv : ∀ {W : Cell} {i : Nat} {x : Int32}, W.slots[i]? = some (.int x) → yv W i = x := fun q => by unfold yv; rw [q]
  rcases h with ⟨rfl, k1, k2⟩ | ⟨rfl, k1, k2, -⟩
  · rcases h' with ⟨-, m1, m2⟩ | ⟨e, -⟩
    · constructor
      · rintro ⟨e1, e2⟩
        refine ⟨by omega, fun j hj => ?_⟩
        have q := e2 j (by omega)
        rw [yvv (k2 j hj).1, yvv (m2 j (by omega)).1] at q
        exact lo8_inj (hf j hj).1 (k2 j hj).2 (hg j (by omega)).1 (m2 j (by omega)).2 q
      · rintro ⟨rfl, e2⟩
        refine ⟨by omega, fun j hj => ?_⟩
        rw [yvv (k2 j (by omega)).1, yvv (m2 j (by omega)).1, e2 j (by omega)]
    · exact absurd e (by decide)
  · rcases h' with ⟨e, -⟩ | ⟨-, m1, m2, -⟩
    · exact absurd e (by decide)
    · constructor
      · rintro ⟨e1, e2⟩
        refine ⟨by omega, fun j hj => ?_⟩
        have q1 := e2 (2 * j) (by omega)
        have q2 := e2 (2 * j + 1) (by omega)
        rw [yvv (k2 j hj).1, yvv (m2 j (by omega)).1] at q1
        rw [yvv (k2 j hj).2, yvv (m2 j (by omega)).2] at q2
        rw [← pair_says (hf j hj).1 (hf j hj).2, ← pair_says (hg j (by omega)).1 (hg j (by omega)).2, q1, q2]
      · rintro ⟨rfl, e2⟩
        refine ⟨by omega, fun i hi => ?_⟩
        rcases Nat.mod_two_eq_zero_or_one i with e | e
        · obtain ⟨j, rfl⟩ : ∃ j, i = 2 * j := ⟨i / 2, by omega⟩
          rw [yvv (k2 j (by omega)).1, yvv (m2 j (by omega)).1, e2 j (by omega)]
        · obtain ⟨j, rfl⟩ : ∃ j, i = 2 * j + 1 := ⟨i / 2, by omega⟩
          rw [yvv (k2 j (by omega)).2, yvv (m2 j (by omega)).2, e2 j (by omega)]
/-- two codings differ: so do the texts -/
theorem Cod.dif {cd cd' : Int32} {n k : Nat} {f g : Nat → Int32} {V V' : Cell} (h : Cod cd n f V) (h' : Cod cd' k g V') (hne : ¬ cd = cd') : ¬ SameT n f k g := by
  rintro ⟨rfl, e⟩
  rcases h with ⟨rfl, -, k2⟩ | ⟨rfl, -, -, j, hj, hw⟩
  · rcases h' with ⟨rfl, -⟩ | ⟨-, -, -, j, hj, hw⟩
    · exact hne rfl
    · exact (k2 j hj).2 (by rw [e j hj]; exact hw)
  · rcases h' with ⟨-, -, m2⟩ | ⟨rfl, -⟩
    · exact (m2 j hj).2 (by rw [← e j hj]; exact hw)
    · exact hne rfl
/-- an object of exactly C is an instance of C -/
theorem cinst {p : Program} {l : Launch} {e : Env} {R : Room} {s : State} {m : MethodId} {args : Array Value} {below : List Frame} {meth : Method} {c : Code} {T : State} {locs : List Loc} {cells slots : Nat} (X : Stand p l e R s m args below meth c T locs cells slots) (hexec : p.tables.exec = Jvm.exec) {own C : String} {index : Nat} (hown : s.vm.findClass own = some m.cls) (hlink : (Cond.classLink own index C).before args s = true) {a : Addr} (hE : Exact C a T)
    {g : JFrame} (hg : g.method = m) {rest : List Value} (hstack : g.stack = .ref a :: rest) (hdg : decode c.code g.pc = .ok (.instanceof index, 3)) :
    ∃ T', Stand p l e R s m args below meth c T' locs cells slots ∧ T'.heap = T.heap ∧ ∀ target, Steps p.tables e below (T'.setTop { g with pc := g.pc + 3, stack := .int 1 :: rest }) target → Steps p.tables e below (T.setTop g) target := by
  obtain ⟨cB, h1, D, h2, h3, h4⟩ := hE
  have h1' : s.vm.findClass C = some cB := by rw [← X.warmed.alike.findClass]; exact h1
  obtain ⟨vm', X', st⟩ := X.instanceofYes hexec hown hlink h2 h4 h1' (by rw [h3]; exact Jvm.Free.SB.assignable_self _ _) hg hstack hdg
  exact ⟨_, X', rfl, st⟩
theorem cself {p : Program} {l : Launch} {e : Env} {R : Room} {s : State} {m : MethodId} {args : Array Value} {below : List Frame} {meth : Method} {c : Code} {T : State} {locs : List Loc} {cells slots : Nat} (X : Stand p l e R s m args below meth c T locs cells slots) (hexec : p.tables.exec = Jvm.exec) {own C : String} {index : Nat} (hown : s.vm.findClass own = some m.cls) (hlink : (Cond.classLink own index C).before args s = true) {a : Addr} (hE : Exact C a T)
    {g : JFrame} (hg : g.method = m) {rest : List Value} (hstack : g.stack = .ref a :: rest) (hdg : decode c.code g.pc = .ok (.checkcast index, 3)) :
    ∃ T', Stand p l e R s m args below meth c T' locs cells slots ∧ T'.heap = T.heap ∧ ∀ target, Steps p.tables e below (T'.setTop { g with pc := g.pc + 3, stack := .ref a :: rest }) target → Steps p.tables e below (T.setTop g) target := by
  obtain ⟨cB, h1, D, h2, h3, h4⟩ := hE
  have h1' : s.vm.findClass C = some cB := by rw [← X.warmed.alike.findClass]; exact h1
  obtain ⟨vm', X', st⟩ := X.checkcastYes hexec hown hlink h2 h4 h1' (by rw [h3]; exact Jvm.Free.SB.assignable_self _ _) hg hstack hdg
  exact ⟨_, X', rfl, fun t h => st t (by rw [← hstack] at h; exact h)⟩
namespace SEq
def yN : MethodName := ⟨"java/lang/String", "equals", "(Ljava/lang/Object;)Z"⟩
abbrev yB : ByteArray := jdk_42_method_66_code
theorem d0 : decode yB 0 = .ok (.aload_n 0, 1) := by decide +kernel
theorem d1 : decode yB 1 = .ok (.aload_n 1, 1) := by decide +kernel
theorem d2 : decode yB 2 = .ok (.if_acmp (.ne) 5, 3) := by decide +kernel
theorem d5 : decode yB 5 = .ok (.iconst 1, 1) := by decide +kernel
theorem d6 : decode yB 6 = .ok (.ireturn, 1) := by decide +kernel
theorem d7 : decode yB 7 = .ok (.aload_n 1, 1) := by decide +kernel
theorem d8 : decode yB 8 = .ok (.instanceof 10, 3) := by decide +kernel
theorem d11 : decode yB 11 = .ok (.ifCond (.eq) 43, 3) := by decide +kernel
theorem d14 : decode yB 14 = .ok (.aload_n 1, 1) := by decide +kernel
theorem d15 : decode yB 15 = .ok (.checkcast 10, 3) := by decide +kernel
theorem d18 : decode yB 18 = .ok (.astore_n 2, 1) := by decide +kernel
theorem d19 : decode yB 19 = .ok (.getstatic 38, 3) := by decide +kernel
theorem d22 : decode yB 22 = .ok (.ifCond (.eq) 14, 3) := by decide +kernel
theorem d25 : decode yB 25 = .ok (.aload_n 0, 1) := by decide +kernel
theorem d26 : decode yB 26 = .ok (.getfield 15, 3) := by decide +kernel
theorem d29 : decode yB 29 = .ok (.aload_n 2, 1) := by decide +kernel
theorem d30 : decode yB 30 = .ok (.getfield 15, 3) := by decide +kernel
theorem d33 : decode yB 33 = .ok (.if_icmp (.ne) 21, 3) := by decide +kernel
theorem d36 : decode yB 36 = .ok (.aload_n 0, 1) := by decide +kernel
theorem d37 : decode yB 37 = .ok (.getfield 9, 3) := by decide +kernel
theorem d40 : decode yB 40 = .ok (.aload_n 2, 1) := by decide +kernel
theorem d41 : decode yB 41 = .ok (.getfield 9, 3) := by decide +kernel
theorem d44 : decode yB 44 = .ok (.invokestatic 541, 3) := by decide +kernel
theorem d47 : decode yB 47 = .ok (.ifCond (.eq) 7, 3) := by decide +kernel
theorem d50 : decode yB 50 = .ok (.iconst 1, 1) := by decide +kernel
theorem d51 : decode yB 51 = .ok (.goto 4, 3) := by decide +kernel
theorem d54 : decode yB 54 = .ok (.iconst 0, 1) := by decide +kernel
theorem d55 : decode yB 55 = .ok (.ireturn, 1) := by decide +kernel
def site : List Cond := [.classLink "java/lang/String" 10 "java/lang/String", .fieldLink "java/lang/String" 38 "java/lang/String" "COMPACT_STRINGS" "Z", .fieldLink "java/lang/String" 15 "java/lang/String" "coder" "B", .fieldLink "java/lang/String" 9 "java/lang/String" "value" "[B", LEq.tab] ++ staticW "java/lang/String" 541 LEq.yN
def tab : Cond := tabOf yN yB 3 (some .boolean) site
def P (x t : Addr) (V : Cell) (cd : Int32) (n : Nat) (f : Nat → Int32) (y t' : Addr) (V' : Cell) (cd' : Int32) (k : Nat) (g : Nat → Int32) (z : Int32) (args : Array Value) (s : State) : Prop := args = #[.ref x, .ref y] ∧ Txt x t V cd n f s ∧ Txt y t' V' cd' k g s ∧ StaticIs s "java/lang/String" "COMPACT_STRINGS" "Z" (.int z) ∧ ¬ z = 0
/-- equals(Object) of two Strings: whether the texts are the same -/
theorem law (l : Launch) (x t : Addr) (V : Cell) (cd : Int32) (n : Nat) (f : Nat → Int32) (y t' : Addr) (V' : Cell) (cd' : Int32) (k : Nat) (g : Nat → Int32) (z : Int32) : Law l yN 2 1 1 14 yB 3 (some .boolean) site (P x t V cd n f y t' V' cd' k g z) (Says01 (SameT n f k g)) [] 0 0 := by
  refine Law.of_walk (plainFor_of_name (by decide +kernel)) (by decide +kernel) (by decide +kernel) (by decide) (fun _ _ h => by rw [h.1]; rfl) (fun _ U U' hal hh h => ⟨h.1, h.2.1.mv hal hh, h.2.2.1.mv hal hh, h.2.2.2.1.there hal hh, h.2.2.2.2⟩) (fun r U U' V V' h1 hal h2 h => Says01.mv r U U' V V' h1 hal h2 h) ?_
  intro p e s m args below meth c s₁ X0 hexec hbytes hml hret hlk hnm hown hh0 W hP
  obtain ⟨rfl, hx, hy, s1, hz⟩ := hP
  have c1 : Steps p.tables e below (s₁.setTop (entryFrame m #[.ref x, .ref y] 3)) (s₁.setTop (mkF m 2 #[.val (.ref x), .val (.ref y), .unset] [.ref y, .ref x])) := Steps.trans (entry rfl) (by
    show Steps p.tables e below (s₁.setTop (mkF m 0 #[.val (.ref x), .val (.ref y), .unset] [])) _
    refine XS.aloadN X0.here hexec rfl (hb hbytes d0) rfl rfl ?_
    refine XS.aloadN X0.here hexec rfl (hb hbytes d1) rfl rfl ?_
    exact Steps.refl _)
  by_cases hxy : x = y
  · have c2 : Steps p.tables e below (s₁.setTop (entryFrame m #[.ref x, .ref y] 3)) (s₁.setTop (mkF m 6 #[.val (.ref x), .val (.ref y), .unset] [.int 1])) := c1.trans (by
      refine acmpNo X0.here hexec rfl (hb hbytes d2) rfl rfl rfl (by simp [acmp, hxy]) ?_
      refine iconstV X0.here hexec rfl 1 (hb hbytes d5) (by decide) ?_
      exact Steps.refl _)
    subst hxy
    have ec : cd = cd' := by
      obtain ⟨D, fd, a1, a2, a3⟩ := hx.2.2.1
      obtain ⟨D', fd', b1, b2, b3⟩ := hy.2.2.1
      cases a1.symm.trans b1
      obtain ⟨q1, q2, q3, q4⟩ := a2.1
      obtain ⟨r1, r2, r3, r4⟩ := b2.1
      cases q4.symm.trans r4
      cases a3.symm.trans b3; rfl
    have et : t = t' := by
      obtain ⟨D, fd, a1, a2, a3⟩ := hx.2.1
      obtain ⟨D', fd', b1, b2, b3⟩ := hy.2.1
      cases a1.symm.trans b1
      obtain ⟨q1, q2, q3, q4⟩ := a2.1
      obtain ⟨r1, r2, r3, r4⟩ := b2.1
      cases q4.symm.trans r4
      cases a3.symm.trans b3; rfl
    subst ec et
    have ev : V = V' := by cases hx.2.2.2.1.1.symm.trans hy.2.2.2.1.1; rfl
    subst ev
    have hs : SameT n f k g := (Cod.eqv hx.2.2.2.2.1 hy.2.2.2.2.1 hx.2.2.2.2.2 hy.2.2.2.2.2).mp ⟨rfl, fun _ _ => rfl⟩
    exact ⟨s₁, some (.int 1), _, _, _, X0, rfl, rfl, rfl, (fun h => by cases h), ⟨1, rfl, hh0, Or.inl ⟨rfl, hs⟩⟩, fun fs hl => c2.trans (X0.ireturnOut hexec hret rfl (Or.inr (Or.inl rfl)) (hb hbytes d6) hl)⟩
  · have c2 : Steps p.tables e below (s₁.setTop (entryFrame m #[.ref x, .ref y] 3)) (s₁.setTop (mkF m 8 #[.val (.ref x), .val (.ref y), .unset] [.ref y])) := c1.trans (by
      refine acmpYes X0.here hexec rfl (pc0 := 2) rfl (hb hbytes d2) rfl rfl rfl (by simp [acmp, hxy]) (by decide) rfl ?_
      refine XS.aloadN X0.here hexec rfl (hb hbytes d7) rfl rfl ?_
      exact Steps.refl _)
    obtain ⟨T3, X3, q3, st3⟩ := cinst X0 hexec hown (wk W (.classLink "java/lang/String" 10 "java/lang/String")) (hy.mv X0.warmed.alike hh0).1 (g := (mkF m 8 #[.val (.ref x), .val (.ref y), .unset] [.ref y])) rfl (rest := []) rfl (hb hbytes d8)
    have hh3 := q3.trans hh0
    have c4 : Steps p.tables e below (s₁.setTop (entryFrame m #[.ref x, .ref y] 3)) (T3.setTop (mkF m 15 #[.val (.ref x), .val (.ref y), .unset] [.ref y])) := (c2.trans (st3 _ (Steps.refl _))).trans (by
      refine XS.ifNo X3.here hexec rfl (hb hbytes d11) rfl (i0_eq_f (by decide)) ?_
      refine XS.aloadN X3.here hexec rfl (hb hbytes d14) rfl rfl ?_
      exact Steps.refl _)
    obtain ⟨T5, X5, q5, st5⟩ := cself X3 hexec hown (wk W (.classLink "java/lang/String" 10 "java/lang/String")) (hy.mv X3.warmed.alike hh3).1 (g := (mkF m 15 #[.val (.ref x), .val (.ref y), .unset] [.ref y])) rfl (rest := []) rfl (hb hbytes d15)
    have hh5 := q5.trans hh3
    have c6 : Steps p.tables e below (s₁.setTop (entryFrame m #[.ref x, .ref y] 3)) (T5.setTop (mkF m 19 #[.val (.ref x), .val (.ref y), .val (.ref y)] [])) := (c4.trans (st5 _ (Steps.refl _))).trans (by
      refine XS.astoreN X5.here hexec rfl (hb hbytes d18) rfl rfl rfl ?_
      exact Steps.refl _)
    obtain ⟨T7, X7, q7, st7⟩ := X5.sget hexec hown (wk W (.fieldLink "java/lang/String" 38 "java/lang/String" "COMPACT_STRINGS" "Z")) s1 (fun _ _ h => by rw [hh5]; exact h) (g := (mkF m 19 #[.val (.ref x), .val (.ref y), .val (.ref y)] [])) rfl (hb hbytes d19)
    have hh7 := q7.trans hh5
    have c8 : Steps p.tables e below (s₁.setTop (entryFrame m #[.ref x, .ref y] 3)) (T7.setTop (mkF m 26 #[.val (.ref x), .val (.ref y), .val (.ref y)] [.ref x])) := (c6.trans (st7 _ (Steps.refl _))).trans (by
      refine XS.ifNo X7.here hexec rfl (hb hbytes d22) rfl (i0_eq_f hz) ?_
      refine XS.aloadN X7.here hexec rfl (hb hbytes d25) rfl rfl ?_
      exact Steps.refl _)
    obtain ⟨T9, X9, q9, st9⟩ := X7.hget hexec hown (wk W (.fieldLink "java/lang/String" 15 "java/lang/String" "coder" "B")) (hx.mv X7.warmed.alike hh7).2.2.1 (g := (mkF m 26 #[.val (.ref x), .val (.ref y), .val (.ref y)] [.ref x])) rfl (rest := []) rfl (hb hbytes d26)
    have hh9 := q9.trans hh7
    have c10 : Steps p.tables e below (s₁.setTop (entryFrame m #[.ref x, .ref y] 3)) (T9.setTop (mkF m 30 #[.val (.ref x), .val (.ref y), .val (.ref y)] [.ref y, .int cd])) := (c8.trans (st9 _ (Steps.refl _))).trans (by
      refine XS.aloadN X9.here hexec rfl (hb hbytes d29) rfl rfl ?_
      exact Steps.refl _)
    obtain ⟨T11, X11, q11, st11⟩ := X9.hget hexec hown (wk W (.fieldLink "java/lang/String" 15 "java/lang/String" "coder" "B")) (hy.mv X9.warmed.alike hh9).2.2.1 (g := (mkF m 30 #[.val (.ref x), .val (.ref y), .val (.ref y)] [.ref y, .int cd])) rfl (rest := [.int cd]) rfl (hb hbytes d30)
    have hh11 := q11.trans hh9
    have c12 : Steps p.tables e below (s₁.setTop (entryFrame m #[.ref x, .ref y] 3)) (T11.setTop (mkF m 33 #[.val (.ref x), .val (.ref y), .val (.ref y)] [.int cd', .int cd])) := c10.trans (st11 _ (Steps.refl _))
    by_cases hcd : cd = cd'
    · subst hcd
      have c13 : Steps p.tables e below (s₁.setTop (entryFrame m #[.ref x, .ref y] 3)) (T11.setTop (mkF m 37 #[.val (.ref x), .val (.ref y), .val (.ref y)] [.ref x])) := c12.trans (by
        refine XS.icmpNo X11.here hexec rfl (hb hbytes d33) rfl (ii_ne_f rfl) ?_
        refine XS.aloadN X11.here hexec rfl (hb hbytes d36) rfl rfl ?_
        exact Steps.refl _)
      obtain ⟨T14, X14, q14, st14⟩ := X11.hget hexec hown (wk W (.fieldLink "java/lang/String" 9 "java/lang/String" "value" "[B")) (hx.mv X11.warmed.alike hh11).2.1 (g := (mkF m 37 #[.val (.ref x), .val (.ref y), .val (.ref y)] [.ref x])) rfl (rest := []) rfl (hb hbytes d37)
      have hh14 := q14.trans hh11
      have c15 : Steps p.tables e below (s₁.setTop (entryFrame m #[.ref x, .ref y] 3)) (T14.setTop (mkF m 41 #[.val (.ref x), .val (.ref y), .val (.ref y)] [.ref y, .ref t])) := (c13.trans (st14 _ (Steps.refl _))).trans (by
        refine XS.aloadN X14.here hexec rfl (hb hbytes d40) rfl rfl ?_
        exact Steps.refl _)
      obtain ⟨T16, X16, q16, st16⟩ := X14.hget hexec hown (wk W (.fieldLink "java/lang/String" 9 "java/lang/String" "value" "[B")) (hy.mv X14.warmed.alike hh14).2.1 (g := (mkF m 41 #[.val (.ref x), .val (.ref y), .val (.ref y)] [.ref y, .ref t])) rfl (rest := [.ref t]) rfl (hb hbytes d41)
      have hh16 := q16.trans hh14
      have c17 : Steps p.tables e below (s₁.setTop (entryFrame m #[.ref x, .ref y] 3)) (T16.setTop (mkF m 44 #[.val (.ref x), .val (.ref y), .val (.ref y)] [.ref t', .ref t])) := c15.trans (st16 _ (Steps.refl _))
      obtain ⟨v18, T18, X18, E18, g18⟩ := X16.callS hexec (LEq.law l t V t' V') hown (wks W (staticW "java/lang/String" 541 LEq.yN)) (wk W LEq.tab) (W := 0) (Nat.le_of_ble_eq_true rfl) (Nat.le_of_ble_eq_true rfl) (Nat.le_refl _) (Nat.le_refl _) (g := (mkF m 44 #[.val (.ref x), .val (.ref y), .val (.ref y)] [.ref t', .ref t])) rfl (by rw [hml]; rfl) c17 (argsL := [.ref t, .ref t']) (rest := []) rfl rfl (by show 2 * 0 + 0 ≤ _; decide) (hb hbytes d44) (⟨rfl, hx.2.2.2.1.mv X16.warmed.alike hh16, hx.2.2.2.2.1.ty, hy.2.2.2.1.mv X16.warmed.alike hh16, hy.2.2.2.2.1.ty⟩)
      obtain ⟨v, rfl, q18, hv⟩ := E18
      have iff := Cod.eqv hx.2.2.2.2.1 hy.2.2.2.2.1 hx.2.2.2.2.2 hy.2.2.2.2.2
      rcases hv with ⟨rfl, he⟩ | ⟨rfl, he⟩
      · have c19 : Steps p.tables e below (s₁.setTop (entryFrame m #[.ref x, .ref y] 3)) (T18.setTop (mkF m 55 #[.val (.ref x), .val (.ref y), .val (.ref y)] [.int 1])) := Steps.trans g18 (by
          refine XS.ifNo X18.here hexec rfl (hb hbytes d47) rfl (i0_eq_f (by decide)) ?_
          refine iconstV X18.here hexec rfl 1 (hb hbytes d50) (by decide) ?_
          refine XS.goto X18.here hexec rfl (pc0 := 51) rfl (hb hbytes d51) (by decide) rfl ?_
          exact Steps.refl _)
        exact ⟨T18, some (.int 1), _, _, _, X18, rfl, rfl, rfl, (fun h => by cases h), ⟨1, rfl, q18.trans hh16, Or.inl ⟨rfl, iff.mp he⟩⟩, fun fs hl => c19.trans (X18.ireturnOut hexec hret rfl (Or.inr (Or.inl rfl)) (hb hbytes d55) hl)⟩
      · have c19 : Steps p.tables e below (s₁.setTop (entryFrame m #[.ref x, .ref y] 3)) (T18.setTop (mkF m 55 #[.val (.ref x), .val (.ref y), .val (.ref y)] [.int 0])) := Steps.trans g18 (by
          refine XS.ifYes X18.here hexec rfl (pc0 := 47) rfl (hb hbytes d47) rfl (i0_eq_t rfl) (by decide) rfl ?_
          refine iconstV X18.here hexec rfl 0 (hb hbytes d54) (by decide) ?_
          exact Steps.refl _)
        exact ⟨T18, some (.int 0), _, _, _, X18, rfl, rfl, rfl, (fun h => by cases h), ⟨0, rfl, q18.trans hh16, Or.inr ⟨rfl, fun q => he (iff.mpr q)⟩⟩, fun fs hl => c19.trans (X18.ireturnOut hexec hret rfl (Or.inr (Or.inl rfl)) (hb hbytes d55) hl)⟩
    · have c13 : Steps p.tables e below (s₁.setTop (entryFrame m #[.ref x, .ref y] 3)) (T11.setTop (mkF m 55 #[.val (.ref x), .val (.ref y), .val (.ref y)] [.int 0])) := c12.trans (by
        refine XS.icmpYes X11.here hexec rfl (pc0 := 33) rfl (hb hbytes d33) rfl (ii_ne_t hcd) (by decide) rfl ?_
        refine iconstV X11.here hexec rfl 0 (hb hbytes d54) (by decide) ?_
        exact Steps.refl _)
      exact ⟨T11, some (.int 0), _, _, _, X11, rfl, rfl, rfl, (fun h => by cases h), ⟨0, rfl, hh11, Or.inr ⟨rfl, Cod.dif hx.2.2.2.2.1 hy.2.2.2.2.1 hcd⟩⟩, fun fs hl => c13.trans (X11.ireturnOut hexec hret rfl (Or.inr (Or.inl rfl)) (hb hbytes d55) hl)⟩
theorem pays {l : Launch} {R : Room} {p : Program} {e : Env} {below : List Frame} {s : State} {sargs : Array Value} {len W : Nat} (x t : Addr) (V : Cell) (cd : Int32) (n : Nat) (f : Nat → Int32) (y t' : Addr) (V' : Cell) (cd' : Int32) (k : Nat) (g : Nat → Int32) (z : Int32) (htab : tab.before sargs s = true) (hfr : 2 ≤ R.frames) (hlo : W + 28 ≤ R.locals) :
    Back l R p e below s sargs yN len W (fun A₁ a₁ => A₁.cells + 0 ≤ R.cells ∧ A₁.slots + 0 ≤ R.slots ∧ P x t V cd n f y t' V' cd' k g z a₁ A₁.U) (fun A₁ _ v₁ B₁ => Says01 (SameT n f k g) v₁ A₁.U B₁.U ∧ B₁.locs = A₁.locs ++ [] ∧ B₁.cells = A₁.cells + 0 ∧ B₁.slots = A₁.slots + 0) :=
  (law l x t V cd n f y t' V' cd' k g z).pays htab hfr (by omega)
end SEq
end StrChars
namespace StrChars.Road
open Jvm Sem ClassFile Op Lib Jvm.Stand Jvm.Free Jvm.Free.XT
open Jvm.Lib.Cold (StaticIs)
/-- the words of String.equals(Object) -/
abbrev wordsEq : List Jvm.Cond := [.code SEq.yN SEq.yB 3 (some .boolean), .initialized ST, .classLink ST 10 ST, .fieldLink ST 38 ST "COMPACT_STRINGS" "Z", .fieldLink ST 15 ST "coder" "B", .fieldLink ST 9 ST "value" "[B", .methodLink ST 541 LEq.yN, .static LEq.yN, .code LEq.yN LEq.yB 3 (some .boolean), .initialized "java/lang/StringLatin1"]
theorem tabEq_of {a : Array Value} {s : State} (h : ∀ w ∈ wordsEq, w.before a s = true) : SEq.tab.before a s = true := by
  have hl : LEq.tab.before a s = true := unparts (wk h (.code LEq.yN LEq.yB 3 (some .boolean))) (wks h (.initialized LEq.yN.cls :: LEq.site))
  have q := consq hl h
  exact unparts (wk q (.code SEq.yN SEq.yB 3 (some .boolean))) (wks q (.initialized SEq.yN.cls :: SEq.site))
theorem movedEq {Z s : State} {a0 args : Array Value} (hZ : Z.Warmed39 s.vm) (hw : ∀ d ∈ wordsEq, d.before a0 Z = true) : ∀ d ∈ wordsEq, d.before args s = true := fun d hd => by
  have t : ∀ d ∈ wordsEq, (d.onTables && d.keepsFace) = true := by decide +kernel
  exact RoadKit.mv hZ (hw d hd) (t d hd)
/-- the road's facts of a String, as the laws ask it -/
theorem txt_of {Z U : State} {a0 : Array Value} {kI : Nat} (wi : (Jvm.Cond.instantiable ST kI).before a0 Z = true) (al : Z.vm.Alike U.vm) {x t : Addr} {kb : ClassId} {cs : List Int32} {cd N2 : Int32} {vs : List Value} (E : RoadKit.Exa Z U.heap x ST) (V : RoadKit.Fld Z U.heap x ST "value" "[B" (.ref t)) (C : RoadKit.Fld Z U.heap x ST "coder" "B" (.int cd)) (K : RoadKit.Arv Z U.heap t kb .byte N2 vs (.int 0)) (hc : CodA cs cd N2 vs) (hb : ∀ c ∈ cs, ¬ c < 0 ∧ ¬ (65535 : Int32) < c) (l2 : cs.length ≤ 4000) :
    ∃ A, Txt x t A cd cs.length (fun j => cs.getD j 0) U := by
  obtain ⟨A, K1, K2, K3, K4, K5, K6⟩ := K
  have hcod := hc.cod (by omega) K3 K5
  obtain ⟨D, fV, fC, hB, F1, F2, g1, g2, -, -⟩ := strObj wi al E V C
  exact ⟨A, ⟨_, hB.2.2.1, D, hB.1, rfl, by cases q : D.vm <;> first | rfl | exact absurd q (hB.2.1.2 _)⟩, Has.of hB F1 g1, Has.of hB F2 g2, ⟨K1.1, State.isArrayOf_alike al K1.2.1, K1.2.2, by rcases hcod with ⟨-, q, -⟩ | ⟨-, q, -⟩ <;> omega⟩, hcod, fun j hj => by
    have e : cs.getD j 0 = cs[j] := by simp [List.getD_eq_getElem?_getD, hj]
    show ¬ cs.getD j 0 < 0 ∧ ¬ 65535 < cs.getD j 0
    rw [e]; exact hb _ (List.getElem_mem _)⟩
theorem same_list (cs ds : List Int32) : SameT cs.length (fun j => cs.getD j 0) ds.length (fun j => ds.getD j 0) ↔ cs = ds := by
  constructor
  · rintro ⟨e, q⟩
    refine List.ext_getElem e fun j h1 h2 => ?_
    have := q j h1
    simpa [List.getD_eq_getElem?_getD, h1, h2] using this
  · rintro rfl
    exact ⟨rfl, fun _ _ => rfl⟩
/-- **equals(Object) OF TWO SUCH STRINGS**: 1 just where the chars are the same -/
theorem eqW {p : Program} {l : Launch} {e : Env} {R : Room} {s : State} {args : Array Value} {below : List Frame} {len W : Nat} {Z : State} {a0 : Array Value} {h : Heap} (hZ : Z.Warmed39 s.vm) (hw : ∀ d ∈ wordsEq, d.before a0 Z = true) {kI : Nat} (wi : (Jvm.Cond.instantiable ST kI).before a0 Z = true)
    {x t : Addr} {kb : ClassId} {cs : List Int32} {cd N2 : Int32} {vs : List Value} (E : RoadKit.Exa Z h x ST) (V : RoadKit.Fld Z h x ST "value" "[B" (.ref t)) (C : RoadKit.Fld Z h x ST "coder" "B" (.int cd)) (K : RoadKit.Arv Z h t kb .byte N2 vs (.int 0)) (hc : CodA cs cd N2 vs) (hb : ∀ c ∈ cs, ¬ c < 0 ∧ ¬ (65535 : Int32) < c) (l2 : cs.length ≤ 4000)
    {y t' : Addr} {kb' : ClassId} {ds : List Int32} {cd' N2' : Int32} {vs' : List Value} (E' : RoadKit.Exa Z h y ST) (V' : RoadKit.Fld Z h y ST "value" "[B" (.ref t')) (C' : RoadKit.Fld Z h y ST "coder" "B" (.int cd')) (K' : RoadKit.Arv Z h t' kb' .byte N2' vs' (.int 0)) (hc' : CodA ds cd' N2' vs') (hb' : ∀ c ∈ ds, ¬ c < 0 ∧ ¬ (65535 : Int32) < c) (l2' : ds.length ≤ 4000)
    {z : Int32} (S : RoadKit.Sta Z h ST "COMPACT_STRINGS" "Z" (.int z)) (hz : ¬ z = 0) (hfr : 2 ≤ R.frames) (hlo : W + 28 ≤ R.locals) :
    Back l R p e below s args (⟨"java/lang/String", "equals", "(Ljava/lang/Object;)Z"⟩ : MethodName) len W (fun P a => a = #[.ref x, .ref y] ∧ P.U.heap = h ∧ P.cells + 0 ≤ R.cells ∧ P.slots + 0 ≤ R.slots)
      (fun P _ v B => ∃ L, (((v = some (.int 1) ∧ cs = ds) ∨ (v = some (.int 0) ∧ ¬ cs = ds)) ∧ L = [] ∧ B.U.heap = h) ∧ B.locs = P.locs ++ L ∧ B.cells = P.cells + 0 ∧ B.slots = P.slots + 0) := by
  intro m meth c P g ig mk a X hg hsize hdg hW hn hp'
  obtain ⟨rfl, rfl, r1, r2⟩ := hp'
  have al : Z.vm.Alike P.U.vm := hZ.alike.trans X.warmed.alike
  obtain ⟨A, hx⟩ := txt_of wi al E V C K hc hb l2
  obtain ⟨A', hy⟩ := txt_of wi al E' V' C' K' hc' hb' l2'
  obtain ⟨v, B, X', ⟨⟨w, hv, hh, hq⟩, hl, hk, hs⟩, st⟩ := SEq.pays x t A cd cs.length (fun j => cs.getD j 0) y t' A' cd' ds.length (fun j => ds.getD j 0) z (tabEq_of (movedEq hZ hw)) hfr hlo m meth c P g ig mk _ X hg hsize hdg hW hn ⟨r1, r2, rfl, hx, hy, sta_is al S, hz⟩
  refine ⟨v, B, X', ⟨[], ⟨?_, rfl, hh⟩, hl, hk, hs⟩, st⟩
  rcases hq with ⟨rfl, q⟩ | ⟨rfl, q⟩
  · exact Or.inl ⟨hv, (same_list cs ds).mp q⟩
  · exact Or.inr ⟨hv, fun e => q ((same_list cs ds).mpr e)⟩
end StrChars.Road
namespace StrChars.Road
open Jvm Sem ClassFile Op Lib Jvm.Stand Jvm.Free Jvm.Free.XT
open Jvm.Lib.Cold (StaticIs)
/-- what backV says of its String, as the contracts of this text ask it: cs's low bytes, coder 0 -/
theorem codOf {cs : List Int32} {n : Nat} (hn : cs.length = n) (hb : ∀ c ∈ cs, ¬ 255 < c) : CodA cs 0 (Int32.ofNat n) ((cs.map lo8).map Value.int) := Or.inl ⟨rfl, by rw [hn], by simp [List.map_map, Function.comp_def], hb⟩
end StrChars.Road
end Jvm.Pilot.@@N@@
namespace Jvm.Pilot.@@N@@
open Jvm Jvm.ClassFile Sem Op Lib Jvm.Free Jvm.Stand Jvm.LawKit Jvm.RoadKit Bundle Jvm.Pilot.@@N@@.Jvm.D
section OwnGo
variable {p : Program} {e : Env} {below : List Frame} {F : State → Outcome → Prop} {m : MethodId} {c : Code} {T U V : State} {pc pc' pc2 : Nat} {Ls L' : Array Slot} {st : List Value}
/-- from here the walk comes to an end that F takes -/
def own_Go (p : Program) (e : Env) (below : List Frame) (F : State → Outcome → Prop) (U : State) : Prop := ∃ (t : State) (o : Outcome), Steps p.tables e below U t ∧ t.status = .running ∧ Ended t below o ∧ F t o
theorem own_on (h : ∀ t, Steps p.tables e below V t → Steps p.tables e below U t) (g : own_Go p e below F V) : own_Go p e below F U := by
  obtain ⟨t, o, h1, r⟩ := g; exact ⟨t, o, h t h1, r⟩
theorem own_to (h : Steps p.tables e below U V) (g : own_Go p e below F V) : own_Go p e below F U := by
  obtain ⟨t, o, h1, r⟩ := g; exact ⟨t, o, h.trans h1, r⟩
theorem own_aload_n (h : At T m c below) (hx : p.tables.exec = Jvm.exec) {k : Fin 4} {v : Value} (hd : decode c.code pc = .ok (.aload_n k, 1)) (hl : Ls[k.val]? = some (.val v)) (hv : v.isRef = true) (hp : pc + 1 = pc') (K : own_Go p e below F (T.setTop (mkF m pc' Ls (v :: st)))) : own_Go p e below F (T.setTop (mkF m pc Ls st)) := by
  subst hp; exact own_on (fun _ => XS.aloadN h hx rfl hd hl hv) K
theorem own_aload (h : At T m c below) (hx : p.tables.exec = Jvm.exec) {k : Nat} {v : Value} (hd : decode c.code pc = .ok (.aload k, 2)) (hl : Ls[k]? = some (.val v)) (hv : v.isRef = true) (hp : pc + 2 = pc') (K : own_Go p e below F (T.setTop (mkF m pc' Ls (v :: st)))) : own_Go p e below F (T.setTop (mkF m pc Ls st)) := by
  subst hp; exact own_on (fun _ => XS.aload h hx rfl hd hl hv) K
theorem own_iload_n (h : At T m c below) (hx : p.tables.exec = Jvm.exec) {k : Fin 4} {v : Int32} (hd : decode c.code pc = .ok (.iload_n k, 1)) (hl : Ls[k.val]? = some (.val (.int v))) (hp : pc + 1 = pc') (K : own_Go p e below F (T.setTop (mkF m pc' Ls (.int v :: st)))) : own_Go p e below F (T.setTop (mkF m pc Ls st)) := by
  subst hp; exact own_on (fun _ => XS.iloadN h hx rfl hd hl) K
theorem own_iload (h : At T m c below) (hx : p.tables.exec = Jvm.exec) {k : Nat} {v : Int32} (hd : decode c.code pc = .ok (.iload k, 2)) (hl : Ls[k]? = some (.val (.int v))) (hp : pc + 2 = pc') (K : own_Go p e below F (T.setTop (mkF m pc' Ls (.int v :: st)))) : own_Go p e below F (T.setTop (mkF m pc Ls st)) := by
  subst hp; exact own_on (fun _ => XS.iload h hx rfl hd hl) K
theorem own_lload_n (h : At T m c below) (hx : p.tables.exec = Jvm.exec) {k : Fin 4} {v : Int64} (hd : decode c.code pc = .ok (.lload_n k, 1)) (hl : Ls[k.val]? = some (.val (.long v))) (hp : pc + 1 = pc') (K : own_Go p e below F (T.setTop (mkF m pc' Ls (.long v :: st)))) : own_Go p e below F (T.setTop (mkF m pc Ls st)) := by
  subst hp; exact own_on (fun _ => XT.lloadN h hx rfl hd hl) K
theorem own_lload (h : At T m c below) (hx : p.tables.exec = Jvm.exec) {k : Nat} {v : Int64} (hd : decode c.code pc = .ok (.lload k, 2)) (hl : Ls[k]? = some (.val (.long v))) (hp : pc + 2 = pc') (K : own_Go p e below F (T.setTop (mkF m pc' Ls (.long v :: st)))) : own_Go p e below F (T.setTop (mkF m pc Ls st)) := by
  subst hp; exact own_on (fun _ => XT.lload h hx rfl hd hl) K
theorem own_dload_n (h : At T m c below) (hx : p.tables.exec = Jvm.exec) {k : Fin 4} {v : UInt64} (hd : decode c.code pc = .ok (.dload_n k, 1)) (hl : Ls[k.val]? = some (.val (.double v))) (hp : pc + 1 = pc') (K : own_Go p e below F (T.setTop (mkF m pc' Ls (.double v :: st)))) : own_Go p e below F (T.setTop (mkF m pc Ls st)) := by
  subst hp; exact own_on (fun _ => XS.dloadN h hx rfl hd hl) K
theorem own_dload (h : At T m c below) (hx : p.tables.exec = Jvm.exec) {k : Nat} {v : UInt64} (hd : decode c.code pc = .ok (.dload k, 2)) (hl : Ls[k]? = some (.val (.double v))) (hp : pc + 2 = pc') (K : own_Go p e below F (T.setTop (mkF m pc' Ls (.double v :: st)))) : own_Go p e below F (T.setTop (mkF m pc Ls st)) := by
  subst hp; exact own_on (fun _ => XS.dload h hx rfl hd hl) K
theorem own_iconst (h : At T m c below) (hx : p.tables.exec = Jvm.exec) {i : Int} {v : Int32} (hd : decode c.code pc = .ok (.iconst i, 1)) (hv : Int32.ofInt i = v) (hp : pc + 1 = pc') (K : own_Go p e below F (T.setTop (mkF m pc' Ls (.int v :: st)))) : own_Go p e below F (T.setTop (mkF m pc Ls st)) := by
  subst hp hv; exact own_on (fun _ => XS.iconst h hx rfl hd) K
theorem own_bipush (h : At T m c below) (hx : p.tables.exec = Jvm.exec) {i : Int} {v : Int32} (hd : decode c.code pc = .ok (.bipush i, 2)) (hv : (Int8.ofInt i).toInt32 = v) (hp : pc + 2 = pc') (K : own_Go p e below F (T.setTop (mkF m pc' Ls (.int v :: st)))) : own_Go p e below F (T.setTop (mkF m pc Ls st)) := by
  subst hp hv; exact own_on (fun _ => XS.bipush h hx rfl hd) K
theorem own_sipush (h : At T m c below) (hx : p.tables.exec = Jvm.exec) {i : Int} {v : Int32} (hd : decode c.code pc = .ok (.sipush i, 3)) (hv : (Int16.ofInt i).toInt32 = v) (hp : pc + 3 = pc') (K : own_Go p e below F (T.setTop (mkF m pc' Ls (.int v :: st)))) : own_Go p e below F (T.setTop (mkF m pc Ls st)) := by
  subst hp hv; exact own_on (fun _ => XS.sipush h hx rfl hd) K
theorem own_lconst (h : At T m c below) (hx : p.tables.exec = Jvm.exec) {k : Fin 2} {v : Int64} (hd : decode c.code pc = .ok (.lconst k, 1)) (hv : Int64.ofNat k = v) (hp : pc + 1 = pc') (K : own_Go p e below F (T.setTop (mkF m pc' Ls (.long v :: st)))) : own_Go p e below F (T.setTop (mkF m pc Ls st)) := by
  subst hp hv; exact own_on (fun _ => XT.lconst h hx rfl hd) K
theorem own_aconst_null (h : At T m c below) (hx : p.tables.exec = Jvm.exec) (hd : decode c.code pc = .ok (.aconst_null, 1)) (hp : pc + 1 = pc') (K : own_Go p e below F (T.setTop (mkF m pc' Ls (.null :: st)))) : own_Go p e below F (T.setTop (mkF m pc Ls st)) := by
  subst hp; exact own_on (fun _ => XS.aconstNull h hx rfl hd) K
theorem own_iadd (h : At T m c below) (hx : p.tables.exec = Jvm.exec) {x y : Int32} (hd : decode c.code pc = .ok (.iadd, 1)) (hp : pc + 1 = pc') (K : own_Go p e below F (T.setTop (mkF m pc' Ls (.int (x + y) :: st)))) : own_Go p e below F (T.setTop (mkF m pc Ls (.int y :: .int x :: st))) := by
  subst hp; exact own_on (fun _ => XS.iadd h hx rfl hd rfl) K
theorem own_isub (h : At T m c below) (hx : p.tables.exec = Jvm.exec) {x y : Int32} (hd : decode c.code pc = .ok (.isub, 1)) (hp : pc + 1 = pc') (K : own_Go p e below F (T.setTop (mkF m pc' Ls (.int (x - y) :: st)))) : own_Go p e below F (T.setTop (mkF m pc Ls (.int y :: .int x :: st))) := by
  subst hp; exact own_on (fun _ => XS.isub h hx rfl hd rfl) K
theorem own_imul (h : At T m c below) (hx : p.tables.exec = Jvm.exec) {x y : Int32} (hd : decode c.code pc = .ok (.imul, 1)) (hp : pc + 1 = pc') (K : own_Go p e below F (T.setTop (mkF m pc' Ls (.int (x * y) :: st)))) : own_Go p e below F (T.setTop (mkF m pc Ls (.int y :: .int x :: st))) := by
  subst hp; exact own_on (fun _ => XS.imul h hx rfl hd rfl) K
theorem own_irem (h : At T m c below) (hx : p.tables.exec = Jvm.exec) {x y : Int32} (hd : decode c.code pc = .ok (.irem, 1)) (hy : y ≠ 0) (hp : pc + 1 = pc') (K : own_Go p e below F (T.setTop (mkF m pc' Ls (.int (x % y) :: st)))) : own_Go p e below F (T.setTop (mkF m pc Ls (.int y :: .int x :: st))) := by
  subst hp; exact own_on (fun _ hr => XS.irem h hx rfl hd rfl hy (by rw [show x - x / y * y = x % y from irem_eq_mod x y]; exact hr)) K
theorem own_iand (h : At T m c below) (hx : p.tables.exec = Jvm.exec) {x y : Int32} (hd : decode c.code pc = .ok (.iand, 1)) (hp : pc + 1 = pc') (K : own_Go p e below F (T.setTop (mkF m pc' Ls (.int (x &&& y) :: st)))) : own_Go p e below F (T.setTop (mkF m pc Ls (.int y :: .int x :: st))) := by
  subst hp; exact own_on (fun _ => XS.iand h hx rfl hd rfl) K
theorem own_ior (h : At T m c below) (hx : p.tables.exec = Jvm.exec) {x y : Int32} (hd : decode c.code pc = .ok (.ior, 1)) (hp : pc + 1 = pc') (K : own_Go p e below F (T.setTop (mkF m pc' Ls (.int (x ||| y) :: st)))) : own_Go p e below F (T.setTop (mkF m pc Ls (.int y :: .int x :: st))) := by
  subst hp; exact own_on (fun _ => XT.ior h hx rfl hd rfl) K
theorem own_ishl (h : At T m c below) (hx : p.tables.exec = Jvm.exec) {x y : Int32} (hd : decode c.code pc = .ok (.ishl, 1)) (hp : pc + 1 = pc') (K : own_Go p e below F (T.setTop (mkF m pc' Ls (.int (x <<< (y &&& 31)) :: st)))) : own_Go p e below F (T.setTop (mkF m pc Ls (.int y :: .int x :: st))) := by
  subst hp; exact own_on (fun _ => XT.ishl h hx rfl hd rfl) K
theorem own_ishr (h : At T m c below) (hx : p.tables.exec = Jvm.exec) {x y : Int32} (hd : decode c.code pc = .ok (.ishr, 1)) (hp : pc + 1 = pc') (K : own_Go p e below F (T.setTop (mkF m pc' Ls (.int (x >>> (y &&& 31)) :: st)))) : own_Go p e below F (T.setTop (mkF m pc Ls (.int y :: .int x :: st))) := by
  subst hp; exact own_on (fun _ => XT.ishr h hx rfl hd rfl) K
theorem own_iushr (h : At T m c below) (hx : p.tables.exec = Jvm.exec) {x y : Int32} (hd : decode c.code pc = .ok (.iushr, 1)) (hp : pc + 1 = pc') (K : own_Go p e below F (T.setTop (mkF m pc' Ls (.int (XT.ushr x y) :: st)))) : own_Go p e below F (T.setTop (mkF m pc Ls (.int y :: .int x :: st))) := by
  subst hp; exact own_on (fun _ => XT.iushr h hx rfl hd rfl) K
theorem own_i2l (h : At T m c below) (hx : p.tables.exec = Jvm.exec) {x : Int32} (hd : decode c.code pc = .ok (.i2l, 1)) (hp : pc + 1 = pc') (K : own_Go p e below F (T.setTop (mkF m pc' Ls (.long x.toInt64 :: st)))) : own_Go p e below F (T.setTop (mkF m pc Ls (.int x :: st))) := by
  subst hp; exact own_on (fun _ => XT.i2l h hx rfl hd rfl) K
theorem own_l2i (h : At T m c below) (hx : p.tables.exec = Jvm.exec) {x : Int64} (hd : decode c.code pc = .ok (.l2i, 1)) (hp : pc + 1 = pc') (K : own_Go p e below F (T.setTop (mkF m pc' Ls (.int x.toInt32 :: st)))) : own_Go p e below F (T.setTop (mkF m pc Ls (.long x :: st))) := by
  subst hp; exact own_on (fun _ => XT.l2i h hx rfl hd rfl) K
/-- (char) x -/
def own_c (x : Int32) : Int32 := x.toUInt32.toUInt16.toUInt32.toInt32
theorem own_i2c (h : At T m c below) (hx : p.tables.exec = Jvm.exec) {x : Int32} (hd : decode c.code pc = .ok (.i2c, 1)) (hp : pc + 1 = pc') (K : own_Go p e below F (T.setTop (mkF m pc' Ls (.int (own_c x) :: st)))) : own_Go p e below F (T.setTop (mkF m pc Ls (.int x :: st))) := by
  subst hp; exact own_on (fun _ => XT.i2c h hx rfl hd rfl) K
theorem own_i2b (h : At T m c below) (hx : p.tables.exec = Jvm.exec) {x : Int32} (hd : decode c.code pc = .ok (.i2b, 1)) (hp : pc + 1 = pc') (K : own_Go p e below F (T.setTop (mkF m pc' Ls (.int x.toInt8.toInt32 :: st)))) : own_Go p e below F (T.setTop (mkF m pc Ls (.int x :: st))) := by
  subst hp; exact own_on (fun _ => XT.i2b h hx rfl hd rfl) K
theorem own_i2d (h : At T m c below) (hx : p.tables.exec = Jvm.exec) {x : Int32} (hd : decode c.code pc = .ok (.i2d, 1)) (hp : pc + 1 = pc') (K : own_Go p e below F (T.setTop (mkF m pc' Ls (.double (FP.i2d x) :: st)))) : own_Go p e below F (T.setTop (mkF m pc Ls (.int x :: st))) := by
  subst hp; exact own_on (fun _ => XS.i2dS h hx rfl hd rfl rfl) K
theorem own_l2d (h : At T m c below) (hx : p.tables.exec = Jvm.exec) {x : Int64} (hd : decode c.code pc = .ok (.l2d, 1)) (hp : pc + 1 = pc') (K : own_Go p e below F (T.setTop (mkF m pc' Ls (.double (FP.l2d x) :: st)))) : own_Go p e below F (T.setTop (mkF m pc Ls (.long x :: st))) := by
  subst hp; exact own_on (fun _ => XS.l2dS h hx rfl hd rfl rfl) K
theorem own_dneg (h : At T m c below) (hx : p.tables.exec = Jvm.exec) {x : UInt64} (hd : decode c.code pc = .ok (.dneg, 1)) (hp : pc + 1 = pc') (K : own_Go p e below F (T.setTop (mkF m pc' Ls (.double (FP.dneg x) :: st)))) : own_Go p e below F (T.setTop (mkF m pc Ls (.double x :: st))) := by
  subst hp; exact own_on (fun _ => XS.dnegS h hx rfl hd rfl rfl) K
theorem own_dcmp (h : At T m c below) (hx : p.tables.exec = Jvm.exec) {o : CmpOp} {x y : UInt64} {v : Int32} (hd : decode c.code pc = .ok (.dcmp o, 1)) (hv : cmpValue (FP.dcmp x y) o = v) (hp : pc + 1 = pc') (K : own_Go p e below F (T.setTop (mkF m pc' Ls (.int v :: st)))) : own_Go p e below F (T.setTop (mkF m pc Ls (.double y :: .double x :: st))) := by
  subst hp; exact own_on (fun _ => XS.dcmpS h hx rfl hd rfl hv) K
theorem own_dmul (h : At T m c below) (hx : p.tables.exec = Jvm.exec) {x y : UInt64} (hd : decode c.code pc = .ok (.dmul, 1)) (hn : Jvm.Free.Fl.NoNaN64 (FP.dmul x y)) (hp : pc + 1 = pc') (K : own_Go p e below F (T.setTop (mkF m pc' Ls (.double (FP.dmul x y) :: st)))) : own_Go p e below F (T.setTop (mkF m pc Ls (.double y :: .double x :: st))) := by
  subst hp; exact own_on (fun _ => XS.dmulS h hx rfl hd rfl hn rfl) K
theorem own_ddiv (h : At T m c below) (hx : p.tables.exec = Jvm.exec) {x y : UInt64} (hd : decode c.code pc = .ok (.ddiv, 1)) (hn : Jvm.Free.Fl.NoNaN64 (FP.ddiv x y)) (hp : pc + 1 = pc') (K : own_Go p e below F (T.setTop (mkF m pc' Ls (.double (FP.ddiv x y) :: st)))) : own_Go p e below F (T.setTop (mkF m pc Ls (.double y :: .double x :: st))) := by
  subst hp; exact own_on (fun _ => XS.ddivS h hx rfl hd rfl hn rfl) K
theorem own_ladd (h : At T m c below) (hx : p.tables.exec = Jvm.exec) {x y : Int64} (hd : decode c.code pc = .ok (.ladd, 1)) (hp : pc + 1 = pc') (K : own_Go p e below F (T.setTop (mkF m pc' Ls (.long (x + y) :: st)))) : own_Go p e below F (T.setTop (mkF m pc Ls (.long y :: .long x :: st))) := by
  subst hp; exact own_on (fun _ => XT.ladd h hx rfl hd rfl) K
theorem own_lsub (h : At T m c below) (hx : p.tables.exec = Jvm.exec) {x y : Int64} (hd : decode c.code pc = .ok (.lsub, 1)) (hp : pc + 1 = pc') (K : own_Go p e below F (T.setTop (mkF m pc' Ls (.long (x - y) :: st)))) : own_Go p e below F (T.setTop (mkF m pc Ls (.long y :: .long x :: st))) := by
  subst hp; exact own_on (fun _ => XT.lsub h hx rfl hd rfl) K
theorem own_lmul (h : At T m c below) (hx : p.tables.exec = Jvm.exec) {x y : Int64} (hd : decode c.code pc = .ok (.lmul, 1)) (hp : pc + 1 = pc') (K : own_Go p e below F (T.setTop (mkF m pc' Ls (.long (x * y) :: st)))) : own_Go p e below F (T.setTop (mkF m pc Ls (.long y :: .long x :: st))) := by
  subst hp; exact own_on (fun _ => XT.lmul h hx rfl hd rfl) K
theorem own_land (h : At T m c below) (hx : p.tables.exec = Jvm.exec) {x y : Int64} (hd : decode c.code pc = .ok (.land, 1)) (hp : pc + 1 = pc') (K : own_Go p e below F (T.setTop (mkF m pc' Ls (.long (x &&& y) :: st)))) : own_Go p e below F (T.setTop (mkF m pc Ls (.long y :: .long x :: st))) := by
  subst hp; exact own_on (fun _ => XT.land h hx rfl hd rfl) K
theorem own_lneg (h : At T m c below) (hx : p.tables.exec = Jvm.exec) {x : Int64} (hd : decode c.code pc = .ok (.lneg, 1)) (hp : pc + 1 = pc') (K : own_Go p e below F (T.setTop (mkF m pc' Ls (.long (-x) :: st)))) : own_Go p e below F (T.setTop (mkF m pc Ls (.long x :: st))) := by
  subst hp; exact own_on (fun _ => XT.lneg h hx rfl hd rfl) K
theorem own_lushr (h : At T m c below) (hx : p.tables.exec = Jvm.exec) {x : Int64} {y : Int32} (hd : decode c.code pc = .ok (.lushr, 1)) (hp : pc + 1 = pc') (K : own_Go p e below F (T.setTop (mkF m pc' Ls (.long (XT.ushrL x y) :: st)))) : own_Go p e below F (T.setTop (mkF m pc Ls (.int y :: .long x :: st))) := by
  subst hp; exact own_on (fun _ => XT.lushr h hx rfl hd rfl) K
theorem own_lcmp (h : At T m c below) (hx : p.tables.exec = Jvm.exec) {x y : Int64} (hd : decode c.code pc = .ok (.lcmp, 1)) (hp : pc + 1 = pc') (K : own_Go p e below F (T.setTop (mkF m pc' Ls (.int (XT.cmpL x y) :: st)))) : own_Go p e below F (T.setTop (mkF m pc Ls (.long y :: .long x :: st))) := by
  subst hp; exact own_on (fun _ => XT.lcmp h hx rfl hd rfl) K
theorem own_dup (h : At T m c below) (hx : p.tables.exec = Jvm.exec) {x : Value} (hd : decode c.code pc = .ok (.dup, 1)) (hc : x.category = 1) (hp : pc + 1 = pc') (K : own_Go p e below F (T.setTop (mkF m pc' Ls (x :: x :: st)))) : own_Go p e below F (T.setTop (mkF m pc Ls (x :: st))) := by
  subst hp; exact own_on (fun _ => XS.dup h hx rfl hd rfl hc) K
theorem own_pop (h : At T m c below) (hx : p.tables.exec = Jvm.exec) {x : Value} (hd : decode c.code pc = .ok (.pop, 1)) (hc : x.category = 1) (hp : pc + 1 = pc') (K : own_Go p e below F (T.setTop (mkF m pc' Ls st))) : own_Go p e below F (T.setTop (mkF m pc Ls (x :: st))) := by
  subst hp; exact own_on (fun _ => XT.pop h hx rfl hd rfl hc) K
theorem own_istore_n (h : At T m c below) (hx : p.tables.exec = Jvm.exec) {k : Fin 4} {x : Int32} (hd : decode c.code pc = .ok (.istore_n k, 1)) (hl : storeLocals Ls k.val (.int x) = some L') (hp : pc + 1 = pc') (K : own_Go p e below F (T.setTop (mkF m pc' L' st))) : own_Go p e below F (T.setTop (mkF m pc Ls (.int x :: st))) := by
  subst hp; exact own_on (fun _ => XS.istoreN h hx rfl hd rfl hl) K
theorem own_istore (h : At T m c below) (hx : p.tables.exec = Jvm.exec) {k : Nat} {x : Int32} (hd : decode c.code pc = .ok (.istore k, 2)) (hl : storeLocals Ls k (.int x) = some L') (hp : pc + 2 = pc') (K : own_Go p e below F (T.setTop (mkF m pc' L' st))) : own_Go p e below F (T.setTop (mkF m pc Ls (.int x :: st))) := by
  subst hp; exact own_on (fun _ => XS.istore h hx rfl hd rfl hl) K
theorem own_astore_n (h : At T m c below) (hx : p.tables.exec = Jvm.exec) {k : Fin 4} {x : Value} (hd : decode c.code pc = .ok (.astore_n k, 1)) (hv : x.isRef = true) (hl : storeLocals Ls k.val x = some L') (hp : pc + 1 = pc') (K : own_Go p e below F (T.setTop (mkF m pc' L' st))) : own_Go p e below F (T.setTop (mkF m pc Ls (x :: st))) := by
  subst hp; exact own_on (fun _ => XS.astoreN h hx rfl hd rfl hv hl) K
theorem own_astore (h : At T m c below) (hx : p.tables.exec = Jvm.exec) {k : Nat} {x : Value} (hd : decode c.code pc = .ok (.astore k, 2)) (hv : x.isRef = true) (hl : storeLocals Ls k x = some L') (hp : pc + 2 = pc') (K : own_Go p e below F (T.setTop (mkF m pc' L' st))) : own_Go p e below F (T.setTop (mkF m pc Ls (x :: st))) := by
  subst hp; exact own_on (fun _ => XS.astore h hx rfl hd rfl hv hl) K
theorem own_lstore_n (h : At T m c below) (hx : p.tables.exec = Jvm.exec) {k : Fin 4} {x : Int64} (hd : decode c.code pc = .ok (.lstore_n k, 1)) (hl : storeLocals Ls k.val (.long x) = some L') (hp : pc + 1 = pc') (K : own_Go p e below F (T.setTop (mkF m pc' L' st))) : own_Go p e below F (T.setTop (mkF m pc Ls (.long x :: st))) := by
  subst hp; exact own_on (fun _ => XT.lstoreN h hx rfl hd rfl hl) K
theorem own_lstore (h : At T m c below) (hx : p.tables.exec = Jvm.exec) {k : Nat} {x : Int64} (hd : decode c.code pc = .ok (.lstore k, 2)) (hl : storeLocals Ls k (.long x) = some L') (hp : pc + 2 = pc') (K : own_Go p e below F (T.setTop (mkF m pc' L' st))) : own_Go p e below F (T.setTop (mkF m pc Ls (.long x :: st))) := by
  subst hp; exact own_on (fun _ => XT.lstore h hx rfl hd rfl hl) K
theorem own_dstore (h : At T m c below) (hx : p.tables.exec = Jvm.exec) {k : Nat} {x : UInt64} (hd : decode c.code pc = .ok (.dstore k, 2)) (hl : storeLocals Ls k (.double x) = some L') (hp : pc + 2 = pc') (K : own_Go p e below F (T.setTop (mkF m pc' L' st))) : own_Go p e below F (T.setTop (mkF m pc Ls (.double x :: st))) := by
  subst hp; exact own_on (fun _ => XS.dstore h hx rfl hd rfl hl) K
theorem own_iinc (h : At T m c below) (hx : p.tables.exec = Jvm.exec) {k : Nat} {i : Int} {x y : Int32} (hd : decode c.code pc = .ok (.iinc k i, 3)) (hl : Ls[k]? = some (.val (.int x))) (hy : x + Int32.ofInt i = y) (hl' : storeLocals Ls k (.int y) = some L') (hp : pc + 3 = pc') (K : own_Go p e below F (T.setTop (mkF m pc' L' st))) : own_Go p e below F (T.setTop (mkF m pc Ls st)) := by
  subst hp hy; exact own_on (fun _ => XS.iinc h hx rfl hd hl hl') K
theorem own_goto (h : At T m c below) (hx : p.tables.exec = Jvm.exec) {o : Int} (hd : decode c.code pc = .ok (.goto o, 3)) (ho : 0 ≤ (pc : Int) + o) (hp : ((pc : Int) + o).toNat = pc') (K : own_Go p e below F (T.setTop (mkF m pc' Ls st))) : own_Go p e below F (T.setTop (mkF m pc Ls st)) :=
  own_on (fun _ => XS.goto h hx rfl rfl hd ho hp) K
theorem own_if (h : At T m c below) (hx : p.tables.exec = Jvm.exec) {cd : ClassFile.Cond} {x : Int32} {o : Int} (hd : decode c.code pc = .ok (.ifCond cd o, 3)) (ho : 0 ≤ (pc : Int) + o) (hp : ((pc : Int) + o).toNat = pc') (hp2 : pc + 3 = pc2)
    (Y : ifCond.holds cd x = true → own_Go p e below F (T.setTop (mkF m pc' Ls st))) (N : ifCond.holds cd x = false → own_Go p e below F (T.setTop (mkF m pc2 Ls st))) : own_Go p e below F (T.setTop (mkF m pc Ls (.int x :: st))) := by
  subst hp2
  cases hc : ifCond.holds cd x with
  | true => exact own_on (fun _ => XS.ifYes h hx rfl rfl hd rfl hc ho hp) (Y hc)
  | false => exact own_on (fun _ => XS.ifNo h hx rfl hd rfl hc) (N hc)
theorem own_icmp (h : At T m c below) (hx : p.tables.exec = Jvm.exec) {cd : ClassFile.Cond} {x y : Int32} {o : Int} (hd : decode c.code pc = .ok (.if_icmp cd o, 3)) (ho : 0 ≤ (pc : Int) + o) (hp : ((pc : Int) + o).toNat = pc') (hp2 : pc + 3 = pc2)
    (Y : if_icmp.holds cd x y = true → own_Go p e below F (T.setTop (mkF m pc' Ls st))) (N : if_icmp.holds cd x y = false → own_Go p e below F (T.setTop (mkF m pc2 Ls st))) : own_Go p e below F (T.setTop (mkF m pc Ls (.int y :: .int x :: st))) := by
  subst hp2
  cases hc : if_icmp.holds cd x y with
  | true => exact own_on (fun _ => XS.icmpYes h hx rfl rfl hd rfl hc ho hp) (Y hc)
  | false => exact own_on (fun _ => XS.icmpNo h hx rfl hd rfl hc) (N hc)
theorem own_ifeq (h : At T m c below) (hx : p.tables.exec = Jvm.exec) {x : Int32} {o : Int} (hd : decode c.code pc = .ok (.ifCond .eq o, 3)) (ho : 0 ≤ (pc : Int) + o) (hp : ((pc : Int) + o).toNat = pc') (hp2 : pc + 3 = pc2)
    (Y : x = 0 → own_Go p e below F (T.setTop (mkF m pc' Ls st))) (N : ¬ x = 0 → own_Go p e below F (T.setTop (mkF m pc2 Ls st))) : own_Go p e below F (T.setTop (mkF m pc Ls (.int x :: st))) :=
  own_if h hx hd ho hp hp2 (fun q => Y (by simpa [ifCond.holds] using q)) (fun q => N (by simpa [ifCond.holds] using q))
theorem own_ifne (h : At T m c below) (hx : p.tables.exec = Jvm.exec) {x : Int32} {o : Int} (hd : decode c.code pc = .ok (.ifCond .ne o, 3)) (ho : 0 ≤ (pc : Int) + o) (hp : ((pc : Int) + o).toNat = pc') (hp2 : pc + 3 = pc2)
    (Y : ¬ x = 0 → own_Go p e below F (T.setTop (mkF m pc' Ls st))) (N : x = 0 → own_Go p e below F (T.setTop (mkF m pc2 Ls st))) : own_Go p e below F (T.setTop (mkF m pc Ls (.int x :: st))) :=
  own_if h hx hd ho hp hp2 (fun q => Y (by simpa [ifCond.holds] using q)) (fun q => N (by simpa [ifCond.holds] using q))
theorem own_iflt (h : At T m c below) (hx : p.tables.exec = Jvm.exec) {x : Int32} {o : Int} (hd : decode c.code pc = .ok (.ifCond .lt o, 3)) (ho : 0 ≤ (pc : Int) + o) (hp : ((pc : Int) + o).toNat = pc') (hp2 : pc + 3 = pc2)
    (Y : x < 0 → own_Go p e below F (T.setTop (mkF m pc' Ls st))) (N : ¬ x < 0 → own_Go p e below F (T.setTop (mkF m pc2 Ls st))) : own_Go p e below F (T.setTop (mkF m pc Ls (.int x :: st))) :=
  own_if h hx hd ho hp hp2 (fun q => Y (of_decide_eq_true q)) (fun q => N (of_decide_eq_false q))
theorem own_ifge (h : At T m c below) (hx : p.tables.exec = Jvm.exec) {x : Int32} {o : Int} (hd : decode c.code pc = .ok (.ifCond .ge o, 3)) (ho : 0 ≤ (pc : Int) + o) (hp : ((pc : Int) + o).toNat = pc') (hp2 : pc + 3 = pc2)
    (Y : ¬ x < 0 → own_Go p e below F (T.setTop (mkF m pc' Ls st))) (N : x < 0 → own_Go p e below F (T.setTop (mkF m pc2 Ls st))) : own_Go p e below F (T.setTop (mkF m pc Ls (.int x :: st))) :=
  own_if h hx hd ho hp hp2 (fun q => Y (Int32.not_lt.mpr (of_decide_eq_true q))) (fun q => N (Int32.not_le.mp (of_decide_eq_false q)))
theorem own_ifgt (h : At T m c below) (hx : p.tables.exec = Jvm.exec) {x : Int32} {o : Int} (hd : decode c.code pc = .ok (.ifCond .gt o, 3)) (ho : 0 ≤ (pc : Int) + o) (hp : ((pc : Int) + o).toNat = pc') (hp2 : pc + 3 = pc2)
    (Y : 0 < x → own_Go p e below F (T.setTop (mkF m pc' Ls st))) (N : ¬ 0 < x → own_Go p e below F (T.setTop (mkF m pc2 Ls st))) : own_Go p e below F (T.setTop (mkF m pc Ls (.int x :: st))) :=
  own_if h hx hd ho hp hp2 (fun q => Y (of_decide_eq_true q)) (fun q => N (of_decide_eq_false q))
theorem own_ifle (h : At T m c below) (hx : p.tables.exec = Jvm.exec) {x : Int32} {o : Int} (hd : decode c.code pc = .ok (.ifCond .le o, 3)) (ho : 0 ≤ (pc : Int) + o) (hp : ((pc : Int) + o).toNat = pc') (hp2 : pc + 3 = pc2)
    (Y : ¬ 0 < x → own_Go p e below F (T.setTop (mkF m pc' Ls st))) (N : 0 < x → own_Go p e below F (T.setTop (mkF m pc2 Ls st))) : own_Go p e below F (T.setTop (mkF m pc Ls (.int x :: st))) :=
  own_if h hx hd ho hp hp2 (fun q => Y (Int32.not_lt.mpr (of_decide_eq_true q))) (fun q => N (Int32.not_le.mp (of_decide_eq_false q)))
theorem own_icmpeq (h : At T m c below) (hx : p.tables.exec = Jvm.exec) {x y : Int32} {o : Int} (hd : decode c.code pc = .ok (.if_icmp .eq o, 3)) (ho : 0 ≤ (pc : Int) + o) (hp : ((pc : Int) + o).toNat = pc') (hp2 : pc + 3 = pc2)
    (Y : x = y → own_Go p e below F (T.setTop (mkF m pc' Ls st))) (N : ¬ x = y → own_Go p e below F (T.setTop (mkF m pc2 Ls st))) : own_Go p e below F (T.setTop (mkF m pc Ls (.int y :: .int x :: st))) :=
  own_icmp h hx hd ho hp hp2 (fun q => Y (by simpa [if_icmp.holds] using q)) (fun q => N (by simpa [if_icmp.holds] using q))
theorem own_icmpne (h : At T m c below) (hx : p.tables.exec = Jvm.exec) {x y : Int32} {o : Int} (hd : decode c.code pc = .ok (.if_icmp .ne o, 3)) (ho : 0 ≤ (pc : Int) + o) (hp : ((pc : Int) + o).toNat = pc') (hp2 : pc + 3 = pc2)
    (Y : ¬ x = y → own_Go p e below F (T.setTop (mkF m pc' Ls st))) (N : x = y → own_Go p e below F (T.setTop (mkF m pc2 Ls st))) : own_Go p e below F (T.setTop (mkF m pc Ls (.int y :: .int x :: st))) :=
  own_icmp h hx hd ho hp hp2 (fun q => Y (by simpa [if_icmp.holds] using q)) (fun q => N (by simpa [if_icmp.holds] using q))
theorem own_icmplt (h : At T m c below) (hx : p.tables.exec = Jvm.exec) {x y : Int32} {o : Int} (hd : decode c.code pc = .ok (.if_icmp .lt o, 3)) (ho : 0 ≤ (pc : Int) + o) (hp : ((pc : Int) + o).toNat = pc') (hp2 : pc + 3 = pc2)
    (Y : x < y → own_Go p e below F (T.setTop (mkF m pc' Ls st))) (N : ¬ x < y → own_Go p e below F (T.setTop (mkF m pc2 Ls st))) : own_Go p e below F (T.setTop (mkF m pc Ls (.int y :: .int x :: st))) :=
  own_icmp h hx hd ho hp hp2 (fun q => Y (of_decide_eq_true q)) (fun q => N (of_decide_eq_false q))
theorem own_icmpge (h : At T m c below) (hx : p.tables.exec = Jvm.exec) {x y : Int32} {o : Int} (hd : decode c.code pc = .ok (.if_icmp .ge o, 3)) (ho : 0 ≤ (pc : Int) + o) (hp : ((pc : Int) + o).toNat = pc') (hp2 : pc + 3 = pc2)
    (Y : ¬ x < y → own_Go p e below F (T.setTop (mkF m pc' Ls st))) (N : x < y → own_Go p e below F (T.setTop (mkF m pc2 Ls st))) : own_Go p e below F (T.setTop (mkF m pc Ls (.int y :: .int x :: st))) :=
  own_icmp h hx hd ho hp hp2 (fun q => Y (Int32.not_lt.mpr (of_decide_eq_true q))) (fun q => N (Int32.not_le.mp (of_decide_eq_false q)))
theorem own_icmpgt (h : At T m c below) (hx : p.tables.exec = Jvm.exec) {x y : Int32} {o : Int} (hd : decode c.code pc = .ok (.if_icmp .gt o, 3)) (ho : 0 ≤ (pc : Int) + o) (hp : ((pc : Int) + o).toNat = pc') (hp2 : pc + 3 = pc2)
    (Y : y < x → own_Go p e below F (T.setTop (mkF m pc' Ls st))) (N : ¬ y < x → own_Go p e below F (T.setTop (mkF m pc2 Ls st))) : own_Go p e below F (T.setTop (mkF m pc Ls (.int y :: .int x :: st))) :=
  own_icmp h hx hd ho hp hp2 (fun q => Y (of_decide_eq_true q)) (fun q => N (of_decide_eq_false q))
theorem own_icmple (h : At T m c below) (hx : p.tables.exec = Jvm.exec) {x y : Int32} {o : Int} (hd : decode c.code pc = .ok (.if_icmp .le o, 3)) (ho : 0 ≤ (pc : Int) + o) (hp : ((pc : Int) + o).toNat = pc') (hp2 : pc + 3 = pc2)
    (Y : ¬ y < x → own_Go p e below F (T.setTop (mkF m pc' Ls st))) (N : y < x → own_Go p e below F (T.setTop (mkF m pc2 Ls st))) : own_Go p e below F (T.setTop (mkF m pc Ls (.int y :: .int x :: st))) :=
  own_icmp h hx hd ho hp hp2 (fun q => Y (Int32.not_lt.mpr (of_decide_eq_true q))) (fun q => N (Int32.not_le.mp (of_decide_eq_false q)))
theorem own_ifnonnull (h : At T m c below) (hx : p.tables.exec = Jvm.exec) {x : Value} (hr : x.isRef = true) {o : Int} (hd : decode c.code pc = .ok (.ifnonnull o, 3)) (ho : 0 ≤ (pc : Int) + o) (hp : ((pc : Int) + o).toNat = pc') (hp2 : pc + 3 = pc2)
    (Y : ¬ x = .null → own_Go p e below F (T.setTop (mkF m pc' Ls st))) (N : x = .null → own_Go p e below F (T.setTop (mkF m pc2 Ls st))) : own_Go p e below F (T.setTop (mkF m pc Ls (x :: st))) := by
  subst hp2
  rcases ref_cases hr with rfl | ⟨a, rfl⟩
  · exact own_on (fun _ => XT.ifnonnullNo h hx rfl hd rfl) (N rfl)
  · exact own_on (fun _ => XT.ifnonnullYes h hx rfl rfl hd rfl ho hp) (Y (fun q => nomatch q))
theorem own_ifnull (h : At T m c below) (hx : p.tables.exec = Jvm.exec) {x : Value} (hr : x.isRef = true) {o : Int} (hd : decode c.code pc = .ok (.ifnull o, 3)) (ho : 0 ≤ (pc : Int) + o) (hp : ((pc : Int) + o).toNat = pc') (hp2 : pc + 3 = pc2)
    (Y : x = .null → own_Go p e below F (T.setTop (mkF m pc' Ls st))) (N : ¬ x = .null → own_Go p e below F (T.setTop (mkF m pc2 Ls st))) : own_Go p e below F (T.setTop (mkF m pc Ls (x :: st))) := by
  subst hp2
  rcases ref_cases hr with rfl | ⟨a, rfl⟩
  · exact own_on (fun _ => XS.ifnullYes h hx rfl rfl hd rfl ho hp) (Y rfl)
  · exact own_on (fun _ => XS.ifnullNo h hx rfl hd rfl) (N (fun q => nomatch q))
theorem own_acmpeq (h : At T m c below) (hx : p.tables.exec = Jvm.exec) {x y : Value} (hr : x.isRef = true) (hr' : y.isRef = true) {o : Int} (hd : decode c.code pc = .ok (.if_acmp .eq o, 3)) (ho : 0 ≤ (pc : Int) + o) (hp : ((pc : Int) + o).toNat = pc') (hp2 : pc + 3 = pc2)
    (Y : x = y → own_Go p e below F (T.setTop (mkF m pc' Ls st))) (N : ¬ x = y → own_Go p e below F (T.setTop (mkF m pc2 Ls st))) : own_Go p e below F (T.setTop (mkF m pc Ls (y :: x :: st))) := by
  subst hp2
  by_cases q : x = y
  · exact own_on (fun _ => XT.acmpYes h hx rfl rfl hd rfl hr hr' (by simp [XT.acmp, q]) ho hp) (Y q)
  · exact own_on (fun _ => XT.acmpNo h hx rfl hd rfl hr hr' (by simp [XT.acmp, q])) (N q)
theorem own_acmpne (h : At T m c below) (hx : p.tables.exec = Jvm.exec) {x y : Value} (hr : x.isRef = true) (hr' : y.isRef = true) {o : Int} (hd : decode c.code pc = .ok (.if_acmp .ne o, 3)) (ho : 0 ≤ (pc : Int) + o) (hp : ((pc : Int) + o).toNat = pc') (hp2 : pc + 3 = pc2)
    (Y : ¬ x = y → own_Go p e below F (T.setTop (mkF m pc' Ls st))) (N : x = y → own_Go p e below F (T.setTop (mkF m pc2 Ls st))) : own_Go p e below F (T.setTop (mkF m pc Ls (y :: x :: st))) := by
  subst hp2
  by_cases q : x = y
  · exact own_on (fun _ => XT.acmpNo h hx rfl hd rfl hr hr' (by simp [XT.acmp, q])) (N q)
  · exact own_on (fun _ => XT.acmpYes h hx rfl rfl hd rfl hr hr' (by simp [XT.acmp, q]) ho hp) (Y q)
end OwnGo
section OwnEnd
variable {p : Program} {l : Launch} {e : Env} {R : Room} {s : State} {m : MethodId} {args : Array Value} {below : List Frame} {meth : Method} {c : Code} {T : State} {locs : List Loc} {cells slots : Nat} {F : State → Outcome → Prop} {pc : Nat} {Ls : Array Slot} {st : List Value}
/-- a narrow contract's walk begins -/
theorem own_enter {Q : Option Value → Heap → List Loc → Prop} {U : State} {cz sz : Nat}
    (K : ∀ F : State → Outcome → Prop, (∀ (t : State) (v : Option Value) (L : List Loc) (k n : Nat), Q v t.heap L → FrameEnd s (.returned v) t L k n → k ≤ cz → n ≤ sz → F t (.returned v)) → own_Go p e below F U) :
    ∃ (s₂ : State) (o : Outcome), Steps p.tables e below U s₂ ∧ s₂.status = .running ∧ Ended s₂ below o ∧ ∃ (v : Option Value) (L : List Loc), o = .returned v ∧ Q v s₂.heap L ∧ FrameEnd s o s₂ L cz sz := by
  obtain ⟨t, o, h1, h2, h3, v, L, k, n, rfl, hq, hf, hk, hn⟩ := K (fun t o => ∃ v L k n, o = .returned v ∧ Q v t.heap L ∧ FrameEnd s (.returned v) t L k n ∧ k ≤ cz ∧ n ≤ sz) (fun t v L k n a b c d => ⟨v, L, k, n, rfl, a, b, c, d⟩)
  exact ⟨t, _, h1, h2, h3, v, L, rfl, hq, hf.1, hf.2.1, hf.2.2.mono hk hn⟩
theorem own_ret (X : Stand p l e R s m args below meth c T locs cells slots) (hx : p.tables.exec = Jvm.exec) (hlk : meth.locks = false) {w : Value} {t : FieldType} {i : Instr} (hret : meth.sig.returnType = some t) (hn : narrow t w = w)
    (hi : (i = .ireturn ∧ (t = .int ∨ t = .boolean ∨ t = .byte ∨ t = .char ∨ t = .short) ∧ ∃ z, w = .int z) ∨ (i = .lreturn ∧ t = .long ∧ ∃ z, w = .long z) ∨ (i = .dreturn ∧ t = .double ∧ ∃ z, w = .double z) ∨ (i = .freturn ∧ t = .float ∧ ∃ z, w = .float z) ∨ (i = .areturn ∧ t.isReference = true ∧ w.isRef = true))
    (hd : decode c.code pc = .ok (i, 1)) (K : ∀ t : State, t.heap = T.heap → FrameEnd s (.returned (some w)) t locs cells slots → F t (.returned (some w))) : own_Go p e below F (T.setTop (mkF m pc Ls (w :: st))) := by
  obtain ⟨fs, hr, hrun, hended, hW, hsame⟩ := X.leave (v := some w) (fun h => by rw [hret] at h; cases h) hlk
  exact ⟨_, _, retOut X hx hret hn hi hd hr, hrun, hended, K _ rfl ⟨⟨_, rfl⟩, hW, hsame⟩⟩
theorem own_retI (X : Stand p l e R s m args below meth c T locs cells slots) (hx : p.tables.exec = Jvm.exec) (hlk : meth.locks = false) {z : Int32} (hret : meth.sig.returnType = some .int) (hd : decode c.code pc = .ok (.ireturn, 1)) (K : ∀ t : State, t.heap = T.heap → FrameEnd s (.returned (some (.int z))) t locs cells slots → F t (.returned (some (.int z)))) : own_Go p e below F (T.setTop (mkF m pc Ls (.int z :: st))) :=
  own_ret X hx hlk hret rfl (Or.inl ⟨rfl, Or.inl rfl, _, rfl⟩) hd K
theorem own_retZ (X : Stand p l e R s m args below meth c T locs cells slots) (hx : p.tables.exec = Jvm.exec) (hlk : meth.locks = false) {z : Int32} (hz : z = 0 ∨ z = 1) (hret : meth.sig.returnType = some .boolean) (hd : decode c.code pc = .ok (.ireturn, 1)) (K : ∀ t : State, t.heap = T.heap → FrameEnd s (.returned (some (.int z))) t locs cells slots → F t (.returned (some (.int z)))) : own_Go p e below F (T.setTop (mkF m pc Ls (.int z :: st))) :=
  own_ret X hx hlk hret (by rcases hz with rfl | rfl <;> rfl) (Or.inl ⟨rfl, Or.inr (Or.inl rfl), _, rfl⟩) hd K
theorem own_retC (X : Stand p l e R s m args below meth c T locs cells slots) (hx : p.tables.exec = Jvm.exec) (hlk : meth.locks = false) {z : Int32} (hz : narrow .char (.int z) = .int z) (hret : meth.sig.returnType = some .char) (hd : decode c.code pc = .ok (.ireturn, 1)) (K : ∀ t : State, t.heap = T.heap → FrameEnd s (.returned (some (.int z))) t locs cells slots → F t (.returned (some (.int z)))) : own_Go p e below F (T.setTop (mkF m pc Ls (.int z :: st))) :=
  own_ret X hx hlk hret hz (Or.inl ⟨rfl, Or.inr (Or.inr (Or.inr (Or.inl rfl))), _, rfl⟩) hd K
theorem own_retA (X : Stand p l e R s m args below meth c T locs cells slots) (hx : p.tables.exec = Jvm.exec) (hlk : meth.locks = false) {w : Value} {t : FieldType} (hret : meth.sig.returnType = some t) (ht : t.isReference = true) (hw : w.isRef = true) (hd : decode c.code pc = .ok (.areturn, 1)) (K : ∀ t : State, t.heap = T.heap → FrameEnd s (.returned (some w)) t locs cells slots → F t (.returned (some w))) : own_Go p e below F (T.setTop (mkF m pc Ls (w :: st))) :=
  own_ret X hx hlk hret (by rcases ref_cases hw with rfl | ⟨a, rfl⟩ <;> cases t <;> first | rfl | (cases ht; done)) (Or.inr (Or.inr (Or.inr (Or.inr ⟨rfl, ht, hw⟩)))) hd K
theorem own_retV (X : Stand p l e R s m args below meth c T locs cells slots) (hx : p.tables.exec = Jvm.exec) (hlk : meth.locks = false) (hret : meth.sig.returnType = none) (hd : decode c.code pc = .ok (.return_, 1)) (K : ∀ t : State, t.heap = T.heap → FrameEnd s (.returned none) t locs cells slots → F t (.returned none)) : own_Go p e below F (T.setTop (mkF m pc Ls [])) := by
  obtain ⟨fs, hr, hrun, hended, hW, hsame⟩ := X.leave (v := none) (fun _ => rfl) hlk
  exact ⟨_, _, X.returnOut hx hret hd hr, hrun, hended, K _ rfl ⟨⟨_, rfl⟩, hW, hsame⟩⟩
end OwnEnd
end Jvm.Pilot.@@N@@
namespace Jvm.Pilot.@@N@@
open Jvm Jvm.ClassFile Sem Op Lib Jvm.Free Jvm.Stand Jvm.LawKit Jvm.RoadKit Bundle Jvm.Pilot.@@N@@.Jvm.D
/-- a narrow contract, from its walk -/
theorem own_walkP {l : Launch} {y : MethodName} {bytes : ByteArray} {maxL : Nat} {ret : Option FieldType} {ws : List Jvm.Cond} {rm : Room} {Z : State} {as' : Array Value} {h : Heap} {Q : Option Value → Heap → List Loc → Prop} (hpl : plainFor y = true)
    (K : ∀ (p : Program) (e : Env) (s : State) (m : MethodId) (below : List Frame) (meth : Method) (c : Code) (T : State), Stand p l e rm s m as' below meth c T [] 0 0 → p.tables.exec = Jvm.exec → c.code = bytes → c.maxLocals = maxL → meth.sig.returnType = ret → meth.locks = false → meth.name = y.name → s.vm.findClass y.cls = some m.cls → Z.Warmed39 s.vm → T.heap = h → s.heap = h →
      ∀ F : State → Outcome → Prop, (∀ (t : State) (v : Option Value) (L : List Loc) (k n : Nat), Q v t.heap L → FrameEnd s (.returned v) t L k n → k ≤ rm.cells → n ≤ rm.slots → F t (.returned v)) → own_Go p e below F (T.setTop (entryFrame m as' maxL))) :
    MetFree l y (head1 (Jvm.Cond.code y bytes maxL ret :: ws) rm) (fun a U => a = as' ∧ Z.Warmed39 U.vm ∧ U.heap = h) (fun _ _ _ _ _ => True) (fun _ U o U' => ∃ v L, o = .returned v ∧ Q v U'.heap L ∧ FrameEnd U o U' L rm.cells rm.slots) := by
  refine MetFree.of_bodySF (hpl) hisR ?_
  intro p e s m args below meth c s₁ Bd hml0 hP hK
  obtain ⟨rfl, hZ, hh⟩ := hP
  exact own_enter (fun F hF => K p e s m below meth c s₁ (Stand.of_body Bd) Bd.exec Bd.bytes hml0 Bd.returns (BodyLoose.notSynchronized Bd) (name_of_methodNamed Bd.named Bd.method).1 (findClass_of_methodNamed Bd.named) hZ (by rw [← hh, Bd.state]; rfl) hh F hF)
theorem own_walkN {l : Launch} {y : MethodName} {bytes : ByteArray} {maxL : Nat} {ret : Option FieldType} {ws : List Jvm.Cond} {rm : Room} {Z : State} {as' : Array Value} {h : Heap} {Q : Option Value → Heap → List Loc → Prop} (hpl : plainName y.cls = true)
    (K : ∀ (p : Program) (e : Env) (s : State) (m : MethodId) (below : List Frame) (meth : Method) (c : Code) (T : State), Stand p l e rm s m as' below meth c T [] 0 0 → p.tables.exec = Jvm.exec → c.code = bytes → c.maxLocals = maxL → meth.sig.returnType = ret → meth.locks = false → meth.name = y.name → s.vm.findClass y.cls = some m.cls → Z.Warmed39 s.vm → T.heap = h → s.heap = h →
      ∀ F : State → Outcome → Prop, (∀ (t : State) (v : Option Value) (L : List Loc) (k n : Nat), Q v t.heap L → FrameEnd s (.returned v) t L k n → k ≤ rm.cells → n ≤ rm.slots → F t (.returned v)) → own_Go p e below F (T.setTop (entryFrame m as' maxL))) :
    MetFree l y (head1 (Jvm.Cond.code y bytes maxL ret :: ws) rm) (fun a U => a = as' ∧ Z.Warmed39 U.vm ∧ U.heap = h) (fun _ _ _ _ _ => True) (fun _ U o U' => ∃ v L, o = .returned v ∧ Q v U'.heap L ∧ FrameEnd U o U' L rm.cells rm.slots) :=
  own_walkP (plainFor_of_name hpl) K
end Jvm.Pilot.@@N@@
namespace Jvm.Pilot.@@N@@
open Jvm Jvm.ClassFile Sem Op Lib Jvm.Free Jvm.Stand Jvm.LawKit Jvm.RoadKit Bundle Jvm.Pilot.@@N@@.Jvm.D
/-- getstatic through a nest-mate's entry -/
theorem own_getSN {p : Program} {l : Launch} {e : Env} {R : Room} {s : State} {m : MethodId} {args : Array Value} {below : List Frame} {meth : Method} {c : Code} {T : State} {locs : List Loc} {cells slots : Nat} {Z : State} {a0 : Array Value} {h : Heap}
    (X : Stand p l e R s m args below meth c T locs cells slots) (hx : p.tables.exec = Jvm.exec) (hZ : Z.Warmed39 s.vm) {own O n d host : String} {index : Nat} (hown : s.vm.findClass own = some m.cls) (w : (Jvm.Cond.fieldLinkNest own index O n d host).before a0 Z = true)
    (eT : T.heap = h) {v : Value} (F : Sta Z h O n d v) {g : JFrame} (hg : g.method = m) (hd : decode c.code g.pc = .ok (.getstatic index, 3)) : ∃ T', Stand p l e R s m args below meth c T' locs cells slots ∧ T'.heap = h ∧ ∀ target, Steps p.tables e below (T'.setTop { g with pc := g.pc + 3, stack := v :: g.stack }) target → Steps p.tables e below (T.setTop g) target := by
  obtain ⟨cf, i, k, f, st, cell, h1, h2, h3, h4, h5, h6, h7⟩ := F
  obtain ⟨k', hi, ek⟩ := State.fieldFound?_setVm (s := Z) hZ.alike h1
  obtain ⟨vm', X', stp⟩ := X.getstaticNest hx hown (mvN hZ w) hi h2 (by rw [ek]; exact h3) (a₁ := st) (by rw [ek]; exact h4) (by rw [eT]; exact h5) (fun q => by rw [q] at h6; cases h6) h7 hg hd
  exact ⟨_, X', eT, stp⟩
end Jvm.Pilot.@@N@@
namespace Jvm.Pilot.@@N@@
open Jvm Jvm.ClassFile Sem Op Lib Jvm.Free Jvm.Stand Jvm.LawKit Jvm.RoadKit Bundle Jvm.Pilot.@@N@@.Jvm.D
theorem own_fldnull {Z : State} {args : Array Value} {t : Term} {C n d : String} {a : Addr} (ev : t.eval args Z none [] Z = some (.ref a)) (h : (Jvm.Cond.eq (.field t C n d) .null).value args Z none Z [] = some true) : Fld Z Z.heap a C n d .null := by
  cases hf : Z.fieldOf? a C n d with
  | none => simp [Cond.value, Term.eval, ev, hf] at h
  | some v =>
    cases v <;> simp [Cond.value, Term.eval, ev, hf] at h
    exact Fld.start hf
end Jvm.Pilot.@@N@@
namespace Jvm.Pilot.@@N@@
theorem own_cat1 {v : Jvm.Value} (h : v.isRef = true) : v.category = 1 := by cases v <;> first | rfl | (cases h; done)
end Jvm.Pilot.@@N@@
namespace Jvm.Pilot.@@N@@
open Jvm Jvm.ClassFile Sem Op Lib Jvm.Free Jvm.Stand Jvm.LawKit Jvm.RoadKit Bundle Jvm.Pilot.@@N@@.Jvm.D
section OwnWide
variable {p : Program} {l : Launch} {e : Env} {R : Room} {s : State} {m : MethodId} {args : Array Value} {below : List Frame} {meth : Method} {c : Code} {T : State} {locs : List Loc} {cells slots : Nat} {F : State → Outcome → Prop} {pc : Nat} {Ls : Array Slot} {st : List Value}
  {Z : State} {a0 : Array Value} {EL : List (String × Nat)} {vm vm0 vm1 : Vm} {h h' h2 : Heap} {own : String} {ws : List Addr} {a : Addr} {sl : Nat} {v : Value}
theorem own_ext_refl (h : Heap) : Ext h h := ⟨Nat.le_refl _, fun _ _ q => q⟩
theorem own_ext_trans (A : Ext h h') (B : Ext h' h2) : Ext h h2 := ⟨Nat.le_trans A.1 B.1, fun x c q => B.2 x c (A.2 x c q)⟩
theorem own_ext_keep (A : Ext h h') (K : Keep h' h2 ws) (q : ∀ x ∈ ws, h.size ≤ x) : Ext h h2 :=
  ⟨Nat.le_trans A.1 K.1, fun x c r => K.2.1 x c (A.2 x c r) fun z => absurd (Array.getElem?_eq_some_iff.mp r).1 (Nat.not_lt.mpr (q x z))⟩
theorem own_ext_wr (A : Ext h h') (W : Wr h' h2 a sl v) (q : h.size ≤ a) : Ext h h2 := own_ext_keep A (Keep.of_wr W) fun x hx => by cases List.mem_singleton.mp hx; exact q
theorem own_keep_ext (E : Ext h h') : Keep h h' ws := ⟨E.1, fun x c q _ => E.2 x c q, fun x c q => ⟨c, E.2 x c q, rfl, rfl, rfl⟩⟩
theorem own_since0 (s : State) : s.Since s.vm 0 := (State.WarmedH.refl s).since 0
/-- what a walk that may intern bears: the tables vm since s, the heap h -/
def own_I (s Z : State) (EL : List (String × Nat)) (vm : Vm) (h : Heap) (own : String) (m : MethodId) : Prop :=
  Z.Warmed39 vm ∧ vm.findClass own = some m.cls ∧ (∃ k0, s.Since vm k0 ∧ k0 ≤ h.size) ∧ CHr Z EL s.vm s.heap vm h
theorem own_I.ext (I : own_I s Z EL vm h own m) (E : Ext h h') : own_I s Z EL vm h' own m := by
  obtain ⟨i1, i2, ⟨k, i3, i4⟩, i5⟩ := I
  exact ⟨i1, i2, ⟨k, i3, Nat.le_trans i4 E.1⟩, i5.trans (CHr.ext E i5.1)⟩
theorem own_I.wr (I : own_I s Z EL vm h own m) (W : Wr h h' a sl v) (S : Safe Z EL vm h a) : own_I s Z EL vm h' own m := by
  obtain ⟨i1, i2, ⟨k, i3, i4⟩, i5⟩ := I
  exact ⟨i1, i2, ⟨k, i3, by rw [W.size]; exact i4⟩, i5.trans (CHr.wr W S i5.1)⟩
theorem own_I.keep (I : own_I s Z EL vm h own m) (K : Keep h h' ws) (S : ∀ x ∈ ws, Safe Z EL vm h x) : own_I s Z EL vm h' own m := by
  obtain ⟨i1, i2, ⟨k, i3, i4⟩, i5⟩ := I
  exact ⟨i1, i2, ⟨k, i3, Nat.le_trans i4 K.1⟩, i5.trans (CHr.keep K S i5.1)⟩
theorem own_I.later (I : own_I s Z EL vm0 h own m) {n : Nat} (S : (s.setVm vm0).Since vm1 n) (hn : n ≤ h'.size) (hg : h.size ≤ n) (C : CHr Z EL vm0 h vm1 h') : own_I s Z EL vm1 h' own m := by
  obtain ⟨i1, i2, ⟨k, i3, i4⟩, i5⟩ := I
  exact ⟨State.Warmed39.trans (t := s.setVm vm0) i1 S.1, (S.1.alike.findClass _ _).trans i2, ⟨n, i3.trans S (Nat.le_trans i4 hg), hn⟩, i5.trans C⟩
theorem own_I.safe (I : own_I s Z EL vm h own m) {x : Addr} (hx : x < s.heap.size) (S : Safe Z EL s.vm s.heap x) : Safe Z EL vm h x := I.2.2.2.safe hx S
theorem own_I.ch (I : own_I s Z EL vm h own m) : CHv Z EL vm h := I.2.2.2.1
/-- a wide contract's use -/
theorem own_backW {y : MethodName} {bytes : ByteArray} {maxL : Nat} {ret : Option FieldType} {rm : Room} {len W : Nat} {as' : Array Value} {sf : List Addr} {Q : Option Value → Heap → List Loc → Prop}
    (hM : MetFree l y (head1 [Jvm.Cond.code y bytes maxL ret] rm) (fun a U => a = as' ∧ Z.Warmed39 U.vm ∧ U.heap = h ∧ CHv Z EL U.vm h ∧ ∀ x ∈ sf, Safe Z EL U.vm h x) (fun _ _ _ _ _ => True) (fun _ U o U' => ∃ v L, o = .returned v ∧ Q v U'.heap L ∧ CHr Z EL U.vm U.heap U'.vm U'.heap ∧ ReturnedEndW U o U' L rm.cells rm.slots))
    (hZ : Z.Warmed39 vm0) (wc : (Jvm.Cond.code y bytes maxL ret).before a0 Z = true) (wz : (Jvm.Cond.initialized y.cls).before a0 Z = true) (hf : rm.frames + 1 ≤ R.frames) (hl : W + (maxL + 11) + rm.locals ≤ R.locals) (hEL : EW Z a0 EL) (H : CHv Z EL vm0 h) (HS : ∀ x ∈ sf, x < h.size ∧ Safe Z EL vm0 h x) :
    BackS l R p e below (s.setVm vm0) args y len W (fun A a => a = as' ∧ A.U.heap = h ∧ A.cells + rm.cells ≤ R.cells ∧ A.slots + rm.slots ≤ R.slots)
      (fun A _ v B => ∃ L, Q v B.U.heap L ∧ B.locs = A.locs ++ L ∧ B.cells = A.cells + rm.cells ∧ B.slots = A.slots + rm.slots ∧ CHr Z EL vm0 h B.U.vm B.U.heap) :=
  BackS.of_freeW (bytes := bytes) (maxL := maxL) (ret := ret) (E := fun _ first o t L k n => k = rm.cells ∧ n = rm.slots ∧ (∃ v, o = .returned v ∧ Q v t.heap L) ∧ CHr Z EL first.vm first.heap t.vm t.heap) hM hf hl
    (fun m meth c A a Y hp => have hU : Z.Warmed39 A.U.vm := wtrans (s := s.setVm vm0) hZ Y.warmed
      ⟨by show (Jvm.Cond.and _ .tt).before a A.U = true; rw [Cond.before_and, mv hU wc]; rfl, mv hU wc, mv hU wz, hp.2.2.1, hp.2.2.2⟩)
    (fun m meth c A a g mk Y hp => ⟨hp.1, wtrans (s := s.setVm vm0) hZ Y.warmed, hp.2.1, (CHv.at Y hZ hEL H).1, fun x hx => (CHv.at Y hZ hEL H).safe (HS x hx).1 (HS x hx).2⟩) (fun _ _ _ _ _ _ _ _ _ => trivial)
    (fun _ _ _ _ ⟨v, L, h1, h2, h3, h4⟩ => ⟨L, _, _, h4, rfl, rfl, ⟨v, h1, h2⟩, h3⟩)
    (fun m meth c A a g mk v t L k n Y hp _ _ ⟨e1, e2, ⟨v', e3, e4⟩, e5⟩ => by
      cases e3; subst e1 e2
      refine ⟨L, e4, rfl, rfl, rfl, (CHv.at Y hZ hEL H).trans ?_⟩
      rw [← hp.2.1]; exact e5)
theorem own_enterW {Q : Option Value → Heap → List Loc → Prop} {U : State} {cz sz : Nat}
    (K : ∀ F : State → Outcome → Prop, (∀ (t : State) (v : Option Value) (L : List Loc) (k n : Nat), Q v t.heap L → CHr Z EL s.vm s.heap t.vm t.heap → ReturnedEndW s (.returned v) t L k n → k ≤ cz → n ≤ sz → F t (.returned v)) → own_Go p e below F U) :
    ∃ (s₂ : State) (o : Outcome), Steps p.tables e below U s₂ ∧ s₂.status = .running ∧ Ended s₂ below o ∧ ∃ (v : Option Value) (L : List Loc), o = .returned v ∧ Q v s₂.heap L ∧ CHr Z EL s.vm s.heap s₂.vm s₂.heap ∧ ReturnedEndW s o s₂ L cz sz := by
  obtain ⟨t, o, h1, h2, h3, v, L, k, n, rfl, hq, hc, hf, hk, hn⟩ := K (fun t o => ∃ v L k n, o = .returned v ∧ Q v t.heap L ∧ CHr Z EL s.vm s.heap t.vm t.heap ∧ ReturnedEndW s (.returned v) t L k n ∧ k ≤ cz ∧ n ≤ sz) (fun t v L k n a b c d f => ⟨v, L, k, n, rfl, a, b, c, d, f⟩)
  exact ⟨t, _, h1, h2, h3, v, L, rfl, hq, hc, hf.1, hf.2.1, hf.2.2.1, hf.2.2.2.mono hk hn⟩
/-- a wide contract, from its walk -/
theorem own_walkW {y : MethodName} {bytes : ByteArray} {maxL : Nat} {ret : Option FieldType} {wl : List Jvm.Cond} {rm : Room} {as' : Array Value} {sf : List Addr} {Q : Option Value → Heap → List Loc → Prop} (hpl : plainName y.cls = true)
    (K : ∀ (p : Program) (e : Env) (s : State) (m : MethodId) (below : List Frame) (meth : Method) (c : Code) (T : State), Stand p l e rm (s.setVm s.vm) m as' below meth c T [] 0 0 → p.tables.exec = Jvm.exec → c.code = bytes → c.maxLocals = maxL → meth.sig.returnType = ret → meth.locks = false → meth.name = y.name → s.heap = h → T.heap = h → own_I s Z EL s.vm h y.cls m → (∀ x ∈ sf, Safe Z EL s.vm h x) →
      ∀ F : State → Outcome → Prop, (∀ (t : State) (v : Option Value) (L : List Loc) (k n : Nat), Q v t.heap L → CHr Z EL s.vm s.heap t.vm t.heap → ReturnedEndW s (.returned v) t L k n → k ≤ rm.cells → n ≤ rm.slots → F t (.returned v)) → own_Go p e below F (T.setTop (entryFrame m as' maxL))) :
    MetFree l y (head1 (Jvm.Cond.code y bytes maxL ret :: wl) rm) (fun a U => a = as' ∧ Z.Warmed39 U.vm ∧ U.heap = h ∧ CHv Z EL U.vm h ∧ ∀ x ∈ sf, Safe Z EL U.vm h x) (fun _ _ _ _ _ => True) (fun _ U o U' => ∃ v L, o = .returned v ∧ Q v U'.heap L ∧ CHr Z EL U.vm U.heap U'.vm U'.heap ∧ ReturnedEndW U o U' L rm.cells rm.slots) := by
  refine MetFree.of_bodySF (plainFor_of_name hpl) hisR ?_
  intro p e s m args below meth c s₁ Bd hml0 hP hK
  obtain ⟨rfl, hZ, hh, hC, hsf⟩ := hP
  have X0 : Stand p l e rm s m args below meth c s₁ [] 0 0 := Stand.of_body Bd
  refine own_enterW (fun F hF => K p e s m below meth c s₁ X0 Bd.exec Bd.bytes hml0 Bd.returns (BodyLoose.notSynchronized Bd) (name_of_methodNamed Bd.named Bd.method).1 hh (by rw [← hh, Bd.state]; rfl) ⟨hZ, findClass_of_methodNamed Bd.named, ⟨0, own_since0 s, Nat.zero_le _⟩, ?_⟩ hsf F hF)
  rw [hh]; exact CHr.refl hC
theorem own_retW (X : Stand p l e R (s.setVm vm) m args below meth c T locs cells slots) (hx : p.tables.exec = Jvm.exec) (hlk : meth.locks = false) (hEL : EW Z a0 EL) (I : own_I s Z EL vm h own m) (eT : T.heap = h) {w : Value} {t : FieldType} {i : Instr} (hret : meth.sig.returnType = some t) (hn : narrow t w = w)
    (hi : (i = .ireturn ∧ (t = .int ∨ t = .boolean ∨ t = .byte ∨ t = .char ∨ t = .short) ∧ ∃ z, w = .int z) ∨ (i = .lreturn ∧ t = .long ∧ ∃ z, w = .long z) ∨ (i = .dreturn ∧ t = .double ∧ ∃ z, w = .double z) ∨ (i = .freturn ∧ t = .float ∧ ∃ z, w = .float z) ∨ (i = .areturn ∧ t.isReference = true ∧ w.isRef = true))
    (hd : decode c.code pc = .ok (i, 1)) (K : ∀ t : State, t.heap = h → CHr Z EL s.vm s.heap t.vm t.heap → ReturnedEndW s (.returned (some w)) t locs cells slots → F t (.returned (some w))) : own_Go p e below F (T.setTop (mkF m pc Ls (w :: st))) := by
  obtain ⟨i1, i2, ⟨k, i3, i4⟩, i5⟩ := I
  obtain ⟨fs, hr, hrun, hended, hE⟩ := X.leaveW i3 (by rw [eT]; exact i4) (v := some w) (fun h => by rw [hret] at h; cases h) hlk
  refine ⟨_, _, retOut X hx hret hn hi hd hr, hrun, hended, K _ eT ?_ hE⟩
  show CHr Z EL s.vm s.heap T.vm T.heap
  rw [eT]; exact i5.trans (CHv.at X i1 hEL i5.1)
theorem own_retVW (X : Stand p l e R (s.setVm vm) m args below meth c T locs cells slots) (hx : p.tables.exec = Jvm.exec) (hlk : meth.locks = false) (hEL : EW Z a0 EL) (I : own_I s Z EL vm h own m) (eT : T.heap = h) (hret : meth.sig.returnType = none)
    (hd : decode c.code pc = .ok (.return_, 1)) (K : ∀ t : State, t.heap = h → CHr Z EL s.vm s.heap t.vm t.heap → ReturnedEndW s (.returned none) t locs cells slots → F t (.returned none)) : own_Go p e below F (T.setTop (mkF m pc Ls [])) := by
  obtain ⟨i1, i2, ⟨k, i3, i4⟩, i5⟩ := I
  obtain ⟨fs, hr, hrun, hended, hE⟩ := X.leaveW i3 (by rw [eT]; exact i4) (v := none) (fun _ => rfl) hlk
  refine ⟨_, _, X.returnOut hx hret hd hr, hrun, hended, K _ eT ?_ hE⟩
  show CHr Z EL s.vm s.heap T.vm T.heap
  rw [eT]; exact i5.trans (CHv.at X i1 hEL i5.1)
theorem own_retAW (X : Stand p l e R (s.setVm vm) m args below meth c T locs cells slots) (hx : p.tables.exec = Jvm.exec) (hlk : meth.locks = false) (hEL : EW Z a0 EL) (I : own_I s Z EL vm h own m) (eT : T.heap = h) {w : Value} {t : FieldType} (hret : meth.sig.returnType = some t) (ht : t.isReference = true) (hw : w.isRef = true)
    (hd : decode c.code pc = .ok (.areturn, 1)) (K : ∀ t : State, t.heap = h → CHr Z EL s.vm s.heap t.vm t.heap → ReturnedEndW s (.returned (some w)) t locs cells slots → F t (.returned (some w))) : own_Go p e below F (T.setTop (mkF m pc Ls (w :: st))) :=
  own_retW X hx hlk hEL I eT hret (by rcases ref_cases hw with rfl | ⟨a, rfl⟩ <;> cases t <;> first | rfl | (cases ht; done)) (Or.inr (Or.inr (Or.inr (Or.inr ⟨rfl, ht, hw⟩)))) hd K
theorem own_retIW (X : Stand p l e R (s.setVm vm) m args below meth c T locs cells slots) (hx : p.tables.exec = Jvm.exec) (hlk : meth.locks = false) (hEL : EW Z a0 EL) (I : own_I s Z EL vm h own m) (eT : T.heap = h) {z : Int32} (hret : meth.sig.returnType = some .int)
    (hd : decode c.code pc = .ok (.ireturn, 1)) (K : ∀ t : State, t.heap = h → CHr Z EL s.vm s.heap t.vm t.heap → ReturnedEndW s (.returned (some (.int z))) t locs cells slots → F t (.returned (some (.int z)))) : own_Go p e below F (T.setTop (mkF m pc Ls (.int z :: st))) :=
  own_retW X hx hlk hEL I eT hret rfl (Or.inl ⟨rfl, Or.inl rfl, _, rfl⟩) hd K
theorem own_retZW (X : Stand p l e R (s.setVm vm) m args below meth c T locs cells slots) (hx : p.tables.exec = Jvm.exec) (hlk : meth.locks = false) (hEL : EW Z a0 EL) (I : own_I s Z EL vm h own m) (eT : T.heap = h) {z : Int32} (hz : z = 0 ∨ z = 1) (hret : meth.sig.returnType = some .boolean)
    (hd : decode c.code pc = .ok (.ireturn, 1)) (K : ∀ t : State, t.heap = h → CHr Z EL s.vm s.heap t.vm t.heap → ReturnedEndW s (.returned (some (.int z))) t locs cells slots → F t (.returned (some (.int z)))) : own_Go p e below F (T.setTop (mkF m pc Ls (.int z :: st))) :=
  own_retW X hx hlk hEL I eT hret (by rcases hz with rfl | rfl <;> rfl) (Or.inl ⟨rfl, Or.inr (Or.inl rfl), _, rfl⟩) hd K
/-- ldc of a String constant, its text unread -/
theorem own_ldcO (X : Stand p l e R (s.setVm vm0) m args below meth c T locs cells slots) (hx : p.tables.exec = Jvm.exec) (I : own_I s Z EL vm0 h own m) {text : String} {index : Nat} (w : (Jvm.Cond.stringLink own index text).before a0 Z = true) (wS : ∀ a ∈ Bundle.stringAtoms, a.before a0 Z = true)
    (eT : T.heap = h) (hEL : EW Z a0 EL) {g : JFrame} (hg : g.method = m) (hd : decode c.code g.pc = .ok (.ldc index, 2)) {n : Nat} (hn : 4 * text.toList.length ≤ n) (hbig : n ≤ 536870912) (hc : cells + 2 ≤ R.cells) (hl : slots + (n + 4) ≤ R.slots) :
    ∃ (a : Addr) (T' : State), Stand p l e R (s.setVm T'.vm) m args below meth c T' locs (cells + 2) (slots + (n + 4)) ∧ Ext h T'.heap ∧ own_I s Z EL T'.vm T'.heap own m ∧ CHr Z EL vm0 h T'.vm T'.heap ∧
      ∀ target, Steps p.tables e below (T'.setTop { g with pc := g.pc + 2, stack := .ref a :: g.stack }) target → Steps p.tables e below (T.setTop g) target := by
  obtain ⟨i1, i2, ⟨k, i3, i4⟩, i5⟩ := I
  obtain ⟨a, T', h', k1, X', rfl, E, hS, hk, hW, hf, hC, -, st⟩ := ldcOH X hx i1 i2 w wS eT i3 i4 hEL i5.1 hg hd hn hbig hc hl
  exact ⟨a, T', X', E, ⟨hW, hf, ⟨k1, hS, hk⟩, i5.trans hC⟩, hC, st⟩
end OwnWide
end Jvm.Pilot.@@N@@
namespace Jvm.Pilot.@@N@@
open Jvm Jvm.ClassFile Sem Op Lib Jvm.Free Jvm.Stand Jvm.LawKit Jvm.RoadKit Bundle Jvm.Pilot.@@N@@.Jvm.D
/-- ldc of a String constant of EL, its text read -/
theorem own_ldcT {p : Program} {l : Launch} {e : Env} {R : Room} {s : State} {m : MethodId} {args : Array Value} {below : List Frame} {meth : Method} {c : Code} {T : State} {locs : List Loc} {cells slots : Nat} {Z : State} {a0 : Array Value} {EL : List (String × Nat)} {vm0 : Vm} {h : Heap} {own : String}
    (X : Stand p l e R (s.setVm vm0) m args below meth c T locs cells slots) (hx : p.tables.exec = Jvm.exec) (I : own_I s Z EL vm0 h own m) {text : String} {index : Nat} (w : (Jvm.Cond.stringLink own index text).before a0 Z = true) (wS : ∀ a ∈ Bundle.stringAtoms, a.before a0 Z = true)
    (eT : T.heap = h) (hEL : EW Z a0 EL) (hmem : (own, index) ∈ EL) {vs : List Value} {z : Int32} (ht : (∀ c ∈ text.toList, c.toNat < 256) ∧ text.toList.map (fun c => Value.int (Jvm.Lit.byteI c.toNat.toUInt16)) = vs) (hz : ¬ z < 0) (hl : z.toNatClampNeg = vs.length)
    {g : JFrame} (hg : g.method = m) (hd : decode c.code g.pc = .ok (.ldc index, 2)) {n : Nat} (hn : 4 * text.toList.length ≤ n) (hbig : n ≤ 536870912) (hc : cells + 2 ≤ R.cells) (hl' : slots + (n + 4) ≤ R.slots) :
    ∃ (a : Addr) (T' : State) (b : Addr) (k : ClassId), Stand p l e R (s.setVm T'.vm) m args below meth c T' locs (cells + 2) (slots + (n + 4)) ∧ Ext h T'.heap ∧ own_I s Z EL T'.vm T'.heap own m ∧ CHr Z EL vm0 h T'.vm T'.heap ∧
      Exa Z T'.heap a "java/lang/String" ∧ Fld Z T'.heap a "java/lang/String" "coder" "B" (.int 0) ∧ Fld Z T'.heap a "java/lang/String" "value" "[B" (.ref b) ∧ Arv Z T'.heap b k .byte z vs (.int 0) ∧ (∀ x, Safe Z EL T'.vm T'.heap x → x ≠ a ∧ x ≠ b) ∧
      ∀ target, Steps p.tables e below (T'.setTop { g with pc := g.pc + 2, stack := .ref a :: g.stack }) target → Steps p.tables e below (T.setTop g) target := by
  obtain ⟨i1, i2, ⟨k, i3, i4⟩, i5⟩ := I
  obtain ⟨a, T', h', k1, b, kb, X', rfl, E, hS, hk, hW, hf, q1, q2, q3, q4, -, -, hC, -, hne, st⟩ := ldcCH X hx i1 i2 w wS eT i3 i4 hEL hmem i5.1 ht hz hl hg hd hn hbig hc hl'
  exact ⟨a, T', b, kb, X', E, ⟨hW, hf, ⟨k1, hS, hk⟩, i5.trans hC⟩, hC, q1, q2, q3, q4, hne, st⟩
theorem own_strW {Z : State} {a0 : Array Value} (hw : ∀ d ∈ tables_1, d.before a0 Z = true) : ∀ a ∈ Bundle.stringAtoms, a.before a0 Z = true := fun d hd => hw d ((by decide +kernel : ∀ d ∈ Bundle.stringAtoms, d ∈ tables_1) d hd)
end Jvm.Pilot.@@N@@
namespace Jvm.Pilot.@@N@@
open Jvm Jvm.ClassFile Sem Op Lib Jvm.Free Jvm.Stand Jvm.LawKit Jvm.RoadKit Bundle Jvm.Pilot.@@N@@.Jvm.D
section OwnArr
variable {p : Program} {l : Launch} {e : Env} {R : Room} {s : State} {m : MethodId} {args : Array Value} {below : List Frame} {meth : Method} {c : Code} {T : State} {locs : List Loc} {cells slots : Nat} {F : State → Outcome → Prop} {pc pc' : Nat} {Ls : Array Slot} {st : List Value}
  {Z : State} {a0 : Array Value} {h h' : Heap} {a : Addr} {k : ClassId} {ty : FieldType} {z j : Int32} {vs : List Value} {dv : Value}
theorem own_alen (X : Stand p l e R s m args below meth c T locs cells slots) (hx : p.tables.exec = Jvm.exec) (hZ : Z.Warmed39 s.vm) (eT : T.heap = h) (V : Arv Z h a k ty z vs dv) (hd : decode c.code pc = .ok (.arraylength, 1)) (hp : pc + 1 = pc') (K : own_Go p e below F (T.setTop (mkF m pc' Ls (.int z :: st)))) : own_Go p e below F (T.setTop (mkF m pc Ls (.ref a :: st))) := by
  subst hp
  obtain ⟨cl, A, -, S, q, -⟩ := V
  refine own_on (fun t => X.arraylength hx (cell := cl) (by rw [eT]; exact A.1) (State.isArrayOf_alike hZ.alike A.2.1) (g := mkF m pc Ls (.ref a :: st)) rfl (rest := st) rfl hd t) ?_
  rw [len_of S q]; exact K
theorem own_caload (X : Stand p l e R s m args below meth c T locs cells slots) (hx : p.tables.exec = Jvm.exec) (hZ : Z.Warmed39 s.vm) (eT : T.heap = h) (V : Arv Z h a k .char z vs dv) {w : Int32} (hin : ¬ j < 0 ∧ j < z) (hw : vs.getD j.toNatClampNeg dv = .int w) (hd : decode c.code pc = .ok (.caload, 1)) (hp : pc + 1 = pc') (K : own_Go p e below F (T.setTop (mkF m pc' Ls (.int w :: st)))) : own_Go p e below F (T.setTop (mkF m pc Ls (.int j :: .ref a :: st))) := by
  subst hp
  obtain ⟨cl, A, -, S, q, H, -⟩ := V
  have hb := inb_of S hin
  have hat : cl.slots[j.toNatClampNeg]? = some (.int w) := by rw [H _ (Nat.lt_of_not_le fun y => hb (Or.inr y)), hw]
  exact own_on (fun t => X.caload hx (j := j) (v := .int w) (by rw [eT]; exact A.1) (State.isArrayOf_alike hZ.alike A.2.1) A.2.2 hb hat (g := mkF m pc Ls (.int j :: .ref a :: st)) rfl rfl hd t) K
theorem own_baload (X : Stand p l e R s m args below meth c T locs cells slots) (hx : p.tables.exec = Jvm.exec) (hZ : Z.Warmed39 s.vm) (eT : T.heap = h) (V : Arv Z h a k .byte z vs dv) {w : Int32} (hin : ¬ j < 0 ∧ j < z) (hw : vs.getD j.toNatClampNeg dv = .int w) (hd : decode c.code pc = .ok (.baload, 1)) (hp : pc + 1 = pc') (K : own_Go p e below F (T.setTop (mkF m pc' Ls (.int w :: st)))) : own_Go p e below F (T.setTop (mkF m pc Ls (.int j :: .ref a :: st))) := by
  subst hp
  obtain ⟨cl, A, -, S, q, H, -⟩ := V
  have hb := inb_of S hin
  have hat : cl.slots[j.toNatClampNeg]? = some (.int w) := by rw [H _ (Nat.lt_of_not_le fun y => hb (Or.inr y)), hw]
  exact own_on (fun t => X.baloadBytes hx (j := j) (v := .int w) (by rw [eT]; exact A.1) (State.isArrayOf_alike hZ.alike A.2.1) A.2.2 hb hat (g := mkF m pc Ls (.int j :: .ref a :: st)) rfl rfl hd t) K
theorem own_cast (X : Stand p l e R s m args below meth c T locs cells slots) (hx : p.tables.exec = Jvm.exec) (hZ : Z.Warmed39 s.vm) (eT : T.heap = h) (V : Arv Z h a k .char z vs dv) {i : Nat} {w : Int32} (hj : j.toNatClampNeg = i) (hi : i < vs.length) (hin : ¬ j < 0 ∧ j < z) (hw : nar .char w = w)
    {g : JFrame} (hg : g.method = m) {rest : List Value} (hs : g.stack = .int w :: .int j :: .ref a :: rest) (hd : decode c.code g.pc = .ok (.castore, 1)) :
    ∃ T' h', Stand p l e R s m args below meth c T' (locs ++ [⟨a, j.toNatClampNeg⟩]) cells slots ∧ T'.heap = h' ∧ Wr h h' a j.toNatClampNeg (.int w) ∧ Arv Z h' a k .char z (vs.set i (.int w)) dv ∧ ∀ target, Steps p.tables e below (T'.setTop { g with pc := g.pc + 1, stack := rest }) target → Steps p.tables e below (T.setTop g) target := by
  obtain ⟨cl, A, q1, S, q3, H, G⟩ := V
  obtain ⟨T', h', X', e', W, st⟩ := stC X hx hZ eT A (inb_of S hin) hg hs hd
  rw [hw] at W
  exact ⟨T', h', X', e', W, Arv.set A q1 S q3 H G (by rw [← hw]; exact fits_nar_char _) W i hj hi, st⟩
theorem own_Fr_snoc {n0 : Nat} {L : List Loc} {sl : Nat} (N : Fr n0 L) (q : n0 ≤ a) : Fr n0 (L ++ [⟨a, sl⟩]) := N.app fun y hy => by cases List.mem_singleton.mp hy; exact q
end OwnArr
theorem own_nar (x : Int32) : nar .char (own_c x) = own_c x := by
  have h : (own_c x).toUInt32.toUInt16 = x.toUInt32.toUInt16 := by
    show (x.toUInt32.toUInt16.toUInt32).toUInt16 = _
    generalize x.toUInt32.toUInt16 = w
    simp
  exact congrArg (fun u : UInt16 => u.toUInt32.toInt32) h
theorem own_and255 (x : Int32) : ¬ own_c (x &&& (255 : Int32)) < 0 ∧ ¬ (255 : Int32) < own_c (x &&& (255 : Int32)) := by
  have t : ∀ k : Fin 256, ¬ own_c (Int32.ofNat k.val) < 0 ∧ ¬ (255 : Int32) < own_c (Int32.ofNat k.val) := by decide +kernel
  have h : (x &&& 255).toBitVec.toNat < 256 := by
    simp only [Int32.toBitVec_and, BitVec.toNat_and]
    exact Nat.lt_succ_of_le Nat.and_le_right
  have e : (x &&& 255) = Int32.ofNat (x &&& 255).toBitVec.toNat := by
    apply Int32.toBitVec_inj.mp
    show _ = BitVec.ofNat 32 _
    rw [BitVec.ofNat_toNat]; simp
  rw [e]
  exact t ⟨_, h⟩
/-- x & 3 is one of four -/
theorem own_and3c (x : Int32) : x &&& 3 = 0 ∨ x &&& 3 = 1 ∨ x &&& 3 = 2 ∨ x &&& 3 = 3 := by
  have h : (x &&& 3).toBitVec.toNat ≤ 3 := by
    simp only [Int32.toBitVec_and, BitVec.toNat_and]
    exact Nat.and_le_right
  have e : (x &&& 3) = Int32.ofNat (x &&& 3).toBitVec.toNat := by
    apply Int32.toBitVec_inj.mp
    show _ = BitVec.ofNat 32 _
    rw [BitVec.ofNat_toNat]; simp
  rw [e]
  generalize (x &&& 3).toBitVec.toNat = n at h
  have : n = 0 ∨ n = 1 ∨ n = 2 ∨ n = 3 := by omega
  rcases this with rfl | rfl | rfl | rfl <;> decide
theorem own_up (cs : List Int32) (h : ∀ c ∈ cs, ¬ c < 0 ∧ ¬ (255 : Int32) < c) : ∀ c ∈ cs, ¬ c < 0 ∧ ¬ (65535 : Int32) < c := fun c hc => ⟨(h c hc).1, fun q => (h c hc).2 (by rw [Int32.lt_iff_toInt_lt] at q ⊢; have e1 : (65535 : Int32).toInt = 65535 := rfl; have e2 : (255 : Int32).toInt = 255 := rfl; omega)⟩
/-- x is a Latin-1 String of the chars cs -/
def own_Str (Z : State) (h : Heap) (x : Addr) (cs : List Int32) : Prop := ∃ (t : Addr) (kb : ClassId), Exa Z h x "java/lang/String" ∧ Fld Z h x "java/lang/String" "value" "[B" (.ref t) ∧ Fld Z h x "java/lang/String" "coder" "B" (.int 0) ∧ Arv Z h t kb .byte (Int32.ofNat cs.length) ((cs.map fun c => c.toInt8.toInt32).map Value.int) (.int 0) ∧ (∀ c ∈ cs, ¬ c < 0 ∧ ¬ (255 : Int32) < c) ∧ cs.length ≤ 4000
theorem own_Str.ext {Z : State} {h h' : Heap} {x : Addr} {cs : List Int32} (S : own_Str Z h x cs) (E : Ext h h') : own_Str Z h' x cs := by
  obtain ⟨t, kb, s1, s2, s3, s4, r⟩ := S; exact ⟨t, kb, s1.ext E, s2.ext E, s3.ext E, s4.ext E, r⟩
theorem own_Str.exa {Z : State} {h : Heap} {x : Addr} {cs : List Int32} (S : own_Str Z h x cs) : Exa Z h x "java/lang/String" := by obtain ⟨_, _, q, -⟩ := S; exact q
theorem own_wiS : Jvm.Cond.instantiable "java/lang/String" 4 ∈ tables_1 := by decide +kernel
end Jvm.Pilot.@@N@@
namespace Jvm.Pilot.@@N@@
open Jvm Jvm.ClassFile Sem Op Lib Jvm.Free Jvm.Stand Jvm.LawKit Jvm.RoadKit Bundle Jvm.Pilot.@@N@@.Jvm.D
theorem own_toInt {k : Nat} (h : k ≤ 100000) : (Int32.ofNat k).toInt = k := Int32.toInt_ofNat_of_lt (by omega)
theorem own_nn {k : Nat} (h : k ≤ 100000) : ¬ Int32.ofNat k < 0 := by
  rw [Int32.lt_iff_toInt_lt, own_toInt h]; have : (0 : Int32).toInt = 0 := rfl; omega
theorem own_tn {k : Nat} (h : k ≤ 100000) : (Int32.ofNat k).toNatClampNeg = k := by
  simp only [Int32.toNatClampNeg, own_toInt h]; omega
theorem own_ltN {j k : Nat} (h : j < k) (hk : k ≤ 100000) : Int32.ofNat j < Int32.ofNat k := by
  rw [Int32.lt_iff_toInt_lt, own_toInt hk, own_toInt (by omega)]; omega
theorem own_nltN {j k : Nat} (h : j ≤ k) (hk : k ≤ 100000) : ¬ Int32.ofNat k < Int32.ofNat j := by
  rw [Int32.lt_iff_toInt_lt, own_toInt hk, own_toInt (by omega)]; omega
theorem own_inj {j k : Nat} (hj : j ≤ 100000) (hk : k ≤ 100000) (h : Int32.ofNat j = Int32.ofNat k) : j = k := by
  have := congrArg Int32.toInt h; rw [own_toInt hj, own_toInt hk] at this; omega
theorem own_pred (k : Nat) : Int32.ofNat (k + 1) - 1 = Int32.ofNat k := by
  rw [Int32.ofNat_add]; exact Int32.add_sub_cancel _ _
theorem own_dec (x : Int32) : x + Int32.ofInt (-1) = x - 1 := by
  rw [Int32.sub_eq_add_neg]; rfl
theorem own_inc (k : Nat) : Int32.ofNat k + (1 : Int32) = Int32.ofNat (k + 1) := by rw [Int32.ofNat_add]; rfl
theorem own_bget (cs : List Int32) {k : Nat} (h : k < cs.length) : ((cs.map fun c => c.toInt8.toInt32).map Value.int).getD k (.int 0) = .int ((cs.getD k 0).toInt8.toInt32) := by
  simp [List.getD_eq_getElem?_getD, h]
theorem own_b {c d : Int32} (h0 : ¬ c < 0) (h1 : ¬ (255 : Int32) < c) (g0 : ¬ d < 0) (g1 : ¬ (255 : Int32) < d) (h : c.toInt8.toInt32 = d.toInt8.toInt32) : c = d := by
  have e : ∀ x : Int32, ¬ x < 0 → ¬ (255 : Int32) < x → ∃ k : Fin 256, x = Int32.ofNat k.val := fun x a b => by
    rw [Int32.lt_iff_toInt_lt] at a b
    have z0 : (0 : Int32).toInt = 0 := rfl
    have z1 : (255 : Int32).toInt = 255 := rfl
    refine ⟨⟨x.toInt.toNat, by omega⟩, ?_⟩
    apply Int32.toInt_inj.mp
    rw [own_toInt (by show x.toInt.toNat ≤ 100000; omega)]; show _ = ((x.toInt.toNat : Nat) : Int); omega
  obtain ⟨i, rfl⟩ := e c h0 h1
  obtain ⟨j, rfl⟩ := e d g0 g1
  have t : ∀ i : Fin 256, (Int32.ofNat i.val).toInt8.toUInt8.toNat = i.val := by decide +kernel
  have h8 : (Int32.ofNat i.val).toInt8 = (Int32.ofNat j.val).toInt8 := by
    have := congrArg Int32.toInt8 h; simpa using this
  have h9 : i.val = j.val := by rw [← t i, ← t j, h8]
  rw [h9]
theorem own_mem {cs : List Int32} {k : Nat} (h : k < cs.length) : cs.getD k 0 ∈ cs := by
  rw [List.getD_eq_getElem?_getD, List.getElem?_eq_getElem h]; exact List.getElem_mem h
theorem own_takeB (cs : List Int32) {e : Nat} (h : e ≤ cs.length) : (List.range e).map (fun i => ((cs.map fun c => c.toInt8.toInt32).map Value.int).getD (0 + i) (.int 0)) = ((cs.take e).map fun c => c.toInt8.toInt32).map Value.int := by
  apply List.ext_getElem
  · simp; omega
  · intro i h1 h2
    have hi : i < e := by simpa using h1
    have hj : i < cs.length := by omega
    simp [List.getD_eq_getElem?_getD, hj]
end Jvm.Pilot.@@N@@
namespace Jvm.Pilot.@@N@@
open Jvm Jvm.ClassFile Sem Op Lib Jvm.Free Jvm.Stand Jvm.LawKit Jvm.RoadKit Bundle Jvm.Pilot.@@N@@.Jvm.D
open StrChars StrChars.Road
theorem own_nch {c : Int32} (h : nar .char c = c) : narrow .char (.int c) = .int c := by show Value.int (nar .char c) = _; rw [h]
theorem own_shl0 (x : Int32) : x <<< ((0 : Int32) &&& 31) = x := by
  apply Int32.toBitVec_inj.mp; simp
theorem own_shr0 (x : Int32) : x >>> ((0 : Int32) &&& 31) = x := by
  apply Int32.toBitVec_inj.mp; simp
theorem own_ofadd (j k : Nat) : Int32.ofNat j + Int32.ofNat k = Int32.ofNat (j + k) := (Int32.ofNat_add j k).symm
theorem own_shl1 {k : Nat} (h : k ≤ 10000) : Int32.ofNat k <<< ((1 : Int32) &&& 31) = Int32.ofNat (2 * k) := by
  apply Int32.toBitVec_inj.mp
  apply BitVec.eq_of_toNat_eq
  show ((BitVec.ofNat 32 k) <<< (1 : BitVec 32)).toNat = (BitVec.ofNat 32 (2 * k)).toNat
  simp only [BitVec.shiftLeft_eq', BitVec.toNat_shiftLeft, BitVec.toNat_ofNat]
  rw [Nat.mod_eq_of_lt (show k < 2 ^ 32 by omega), show (1 : BitVec 32).toNat = 1 from rfl, Nat.shiftLeft_eq]
  omega
theorem own_shr1 {k : Nat} (h : k ≤ 10000) : Int32.ofNat (2 * k) >>> ((1 : Int32) &&& 31) = Int32.ofNat k := by
  have := Int32.toInt_inj (x := Int32.ofNat (2 * k) >>> ((1 : Int32) &&& 31)) (y := Int32.ofNat k)
  apply this.mp
  rw [own_toInt (by omega)]
  have e : ((1 : Int32) &&& 31) = 1 := by decide
  rw [e]
  show ((Int32.ofNat (2 * k)).toBitVec.sshiftRight' (1 : BitVec 32).toNat |>.toInt) = _
  rw [BitVec.toInt_sshiftRight', show ((1 : BitVec 32).toNat) = 1 from rfl]
  show (Int32.ofNat (2 * k)).toInt >>> 1 = _
  rw [own_toInt (by omega), Int.shiftRight_eq_div_pow]; omega
theorem own_c0 (x : Int32) : ¬ own_c x < 0 ∧ ¬ (65535 : Int32) < own_c x := by
  have h : (own_c x).toInt = (x.toUInt32.toUInt16.toNat : Int) := by
    show (x.toUInt32.toUInt16.toUInt32.toInt32).toInt = _
    generalize x.toUInt32.toUInt16 = w
    have hw : w.toNat < 65536 := w.toNat_lt
    have e : w.toUInt32.toInt32 = Int32.ofNat w.toNat := by
      apply Int32.toBitVec_inj.mp
      apply BitVec.eq_of_toNat_eq
      show w.toUInt32.toBitVec.toNat = (BitVec.ofNat 32 w.toNat).toNat
      rw [BitVec.toNat_ofNat, Nat.mod_eq_of_lt (by omega)]; simp
    rw [e]; exact Int32.toInt_ofNat_of_lt (by omega)
  have hw : x.toUInt32.toUInt16.toNat < 65536 := x.toUInt32.toUInt16.toNat_lt
  have z0 : (0 : Int32).toInt = 0 := rfl
  have z1 : (65535 : Int32).toInt = 65535 := rfl
  simp only [Int32.lt_iff_toInt_lt]; omega
section OwnUtf
variable {p : Program} {l : Launch} {e : Env} {R : Room} {s : State} {m : MethodId} {args : Array Value} {below : List Frame} {meth : Method} {c : Code} {T : State} {locs : List Loc} {cells slots : Nat} {Z : State} {h h' : Heap} {a x t : Addr} {k kb : ClassId} {z j : Int32} {vs : List Value} {dv : Value} {F : State → Outcome → Prop} {pc pc' : Nat} {Ls : Array Slot} {st : List Value} {cs : List Int32} {ws : List Addr}
theorem own_bast (X : Stand p l e R s m args below meth c T locs cells slots) (hx : p.tables.exec = Jvm.exec) (hZ : Z.Warmed39 s.vm) (eT : T.heap = h) (V : Arv Z h a k .byte z vs dv) {i : Nat} {w : Int32} (hj : j.toNatClampNeg = i) (hi : i < vs.length) (hin : ¬ j < 0 ∧ j < z)
    {g : JFrame} (hg : g.method = m) {rest : List Value} (hs : g.stack = .int w.toInt8.toInt32 :: .int j :: .ref a :: rest) (hd : decode c.code g.pc = .ok (.bastore, 1)) :
    ∃ T' h', Stand p l e R s m args below meth c T' (locs ++ [⟨a, j.toNatClampNeg⟩]) cells slots ∧ T'.heap = h' ∧ Wr h h' a j.toNatClampNeg (.int w.toInt8.toInt32) ∧ Arv Z h' a k .byte z (vs.set i (.int w.toInt8.toInt32)) dv ∧ ∀ target, Steps p.tables e below (T'.setTop { g with pc := g.pc + 1, stack := rest }) target → Steps p.tables e below (T.setTop g) target := by
  obtain ⟨cl, A, q1, S, q3, H, G⟩ := V
  obtain ⟨T', h', X', e', W, st⟩ := stB X hx hZ eT A (inb_of S hin) hg hs hd
  have en : nar .byte w.toInt8.toInt32 = w.toInt8.toInt32 := by show w.toInt8.toInt32.toInt8.toInt32 = _; simp
  rw [en] at W
  exact ⟨T', h', X', e', W, Arv.set A q1 S q3 H G (fits_lo8 w) W i hj hi, st⟩
/-- x is a String of the chars cs, Latin-1 or UTF-16 -/
def own_S (Z : State) (h : Heap) (x : Addr) (cs : List Int32) : Prop := ∃ (t : Addr) (kb : ClassId) (cd N2 : Int32) (vs : List Value), Exa Z h x "java/lang/String" ∧ Fld Z h x "java/lang/String" "value" "[B" (.ref t) ∧ Fld Z h x "java/lang/String" "coder" "B" (.int cd) ∧ Arv Z h t kb .byte N2 vs (.int 0) ∧ CodA cs cd N2 vs ∧ (∀ c ∈ cs, ¬ c < 0 ∧ ¬ (65535 : Int32) < c) ∧ cs.length ≤ 4000
theorem own_S.ext (S : own_S Z h x cs) (E : Ext h h') : own_S Z h' x cs := by
  obtain ⟨t, kb, cd, N2, vs, s1, s2, s3, s4, r⟩ := S; exact ⟨t, kb, cd, N2, vs, s1.ext E, s2.ext E, s3.ext E, s4.ext E, r⟩
theorem own_S.exa (S : own_S Z h x cs) : Exa Z h x "java/lang/String" := by obtain ⟨_, _, _, _, _, q, -⟩ := S; exact q
theorem own_S.ok (S : own_S Z h x cs) : (∀ c ∈ cs, ¬ c < 0 ∧ ¬ (65535 : Int32) < c) ∧ cs.length ≤ 4000 := by obtain ⟨_, _, _, _, _, -, -, -, -, -, q⟩ := S; exact q
theorem own_Str.S (S : own_Str Z h x cs) : own_S Z h x cs := by
  obtain ⟨t, kb, s1, s2, s3, s4, hp, hl⟩ := S
  exact ⟨t, kb, 0, _, _, s1, s2, s3, s4, codOf rfl (fun c hc => (hp c hc).2), own_up _ hp, hl⟩
theorem own_lenS {a0 : Array Value} {len W : Nat} (hZ : Z.Warmed39 s.vm) (hw : ∀ d ∈ tables_1, d.before a0 Z = true) {z : Int32} (S : own_S Z h x cs)
    (O : Sta Z h "java/lang/String" "COMPACT_STRINGS" "Z" (.int z)) (hz : ¬ z = 0) (hfr : 2 ≤ R.frames) (hlo : W + 25 ≤ R.locals) :
    Back l R p e below s args (⟨"java/lang/String", "length", "()I"⟩ : MethodName) len W (fun P a => a = #[.ref x] ∧ P.U.heap = h ∧ P.cells + 0 ≤ R.cells ∧ P.slots + 0 ≤ R.slots)
      (fun P _ v B => ∃ L, (v = some (.int (Int32.ofNat cs.length)) ∧ L = [] ∧ B.U.heap = h) ∧ B.locs = P.locs ++ L ∧ B.cells = P.cells + 0 ∧ B.slots = P.slots + 0) := by
  obtain ⟨t, kb, cd, N2, vs, E, V, C, K, hc, hp, hl⟩ := S
  exact StrChars.Road.lenW hZ (fun d hd => hw d ((by decide +kernel : ∀ d ∈ StrChars.Road.wordsLen, d ∈ tables_1) d hd)) (kI := 4) (hw _ own_wiS) E V C K hc hp O hz hl hfr hlo
end OwnUtf
/-- the low bytes so far of the n to be made -/
def own_lo (cs : List Int32) (n i : Nat) : List Value := ((cs.take i).map fun c => Value.int c.toInt8.toInt32) ++ List.replicate (n - i) (.int 0)
theorem own_lo_len {cs : List Int32} {n i : Nat} (h : i ≤ n) (hc : n ≤ cs.length) : (own_lo cs n i).length = n := by simp [own_lo]; omega
theorem own_lo_set {cs : List Int32} {n i : Nat} (h : i < n) (hc : n ≤ cs.length) : (own_lo cs n i).set i (.int (cs.getD i 0).toInt8.toInt32) = own_lo cs n (i + 1) := by
  have hi : i < cs.length := by omega
  have e1 : n - i = (n - (i + 1)) + 1 := by omega
  have e3 : (cs.take (i + 1)).map (fun c => Value.int c.toInt8.toInt32) = (cs.take i).map (fun c => Value.int c.toInt8.toInt32) ++ [.int (cs.getD i 0).toInt8.toInt32] := by
    rw [List.take_add_one, List.getElem?_eq_getElem hi, List.map_append]
    simp [List.getD_eq_getElem?_getD, hi]
  have e2 : i - ((cs.take i).map fun c => Value.int c.toInt8.toInt32).length = 0 := by simp; omega
  unfold own_lo
  rw [e1, e3, List.replicate_succ, List.set_append_right _ _ (by simp; omega), e2, List.set_cons_zero, List.append_assoc]
  rfl
theorem own_wb_app (as bs : List Int32) : wideBytes (as ++ bs) = wideBytes as ++ wideBytes bs := by
  induction as with
  | nil => rfl
  | cons a as ih => simp [wideBytes, ih]
theorem own_wb_len (as : List Int32) : (wideBytes as).length = 2 * as.length := by
  induction as with
  | nil => rfl
  | cons a as ih => simp [wideBytes, ih]; omega
/-- the bytes so far of the 2n to be made -/
def own_wi (cs : List Int32) (n i : Nat) : List Value := wideBytes (cs.take i) ++ List.replicate (2 * (n - i)) (.int 0)
theorem own_wi_len {cs : List Int32} {n i : Nat} (h : i ≤ n) (hc : n ≤ cs.length) : (own_wi cs n i).length = 2 * n := by simp [own_wi, own_wb_len]; omega
theorem own_wi_set {cs : List Int32} {n i : Nat} (h : i < n) (hc : n ≤ cs.length) : ((own_wi cs n i).set (2 * i) (.int (cs.getD i 0).toInt8.toInt32)).set (2 * i + 1) (.int (hi8 (cs.getD i 0))) = own_wi cs n (i + 1) := by
  have hi : i < cs.length := by omega
  have e1 : 2 * (n - i) = (2 * (n - (i + 1))) + 1 + 1 := by omega
  have hl : (wideBytes (cs.take i)).length = 2 * i := by rw [own_wb_len]; simp; omega
  have e3 : wideBytes (cs.take (i + 1)) = wideBytes (cs.take i) ++ [.int (cs.getD i 0).toInt8.toInt32, .int (hi8 (cs.getD i 0))] := by
    rw [List.take_add_one, List.getElem?_eq_getElem hi, own_wb_app]
    simp [List.getD_eq_getElem?_getD, hi, wideBytes, lo8]
  unfold own_wi
  rw [e1, e3, List.replicate_succ, List.replicate_succ, List.set_append_right _ _ (by omega), hl, Nat.sub_self, List.set_cons_zero, List.set_append_right _ _ (by omega), hl, show 2 * i + 1 - 2 * i = 1 by omega]
  simp
/-- the first sign above 255 from i on -/
theorem own_cases (cs : List Int32) (n : Nat) (hn : n ≤ cs.length) : (∀ j, j < n → ¬ (255 : Int32) < cs.getD j 0) ∨ ∃ k, k < n ∧ (255 : Int32) < cs.getD k 0 ∧ ∀ j, j < k → ¬ (255 : Int32) < cs.getD j 0 := by
  induction n with
  | zero => exact Or.inl fun j hj => absurd hj (Nat.not_lt_zero _)
  | succ n ih =>
    rcases ih (by omega) with q | ⟨k, k1, k2, k3⟩
    · by_cases g : (255 : Int32) < cs.getD n 0
      · exact Or.inr ⟨n, Nat.lt_succ_self _, g, q⟩
      · refine Or.inl fun j hj => ?_
        rcases Nat.lt_or_ge j n with u | u
        · exact q j u
        · have : j = n := by omega
          subst this; exact g
    · exact Or.inr ⟨k, by omega, k2, k3⟩
theorem own_codL {cs : List Int32} {n : Nat} (hn : n ≤ cs.length) (h : ∀ j, j < n → ¬ (255 : Int32) < cs.getD j 0) : CodA (cs.take n) 0 (Int32.ofNat n) (own_lo cs n n) := by
  refine Or.inl ⟨rfl, by rw [List.length_take, Nat.min_eq_left hn], by simp [own_lo, lo8], fun c hc => ?_⟩
  obtain ⟨j, hj, rfl⟩ := List.getElem_of_mem hc
  have h1 : j < n := by simp at hj; omega
  have h2 : j < cs.length := by omega
  have := h j h1
  simpa [List.getD_eq_getElem?_getD, h2] using this
theorem own_codW {cs : List Int32} {n k : Nat} (hn : n ≤ cs.length) (hk : k < n) (h : (255 : Int32) < cs.getD k 0) : CodA (cs.take n) 1 (Int32.ofNat (2 * n)) (own_wi cs n n) := by
  refine Or.inr ⟨rfl, by rw [List.length_take, Nat.min_eq_left hn], by simp [own_wi], cs.getD k 0, ?_, h⟩
  have h2 : k < cs.length := by omega
  have : (cs.take n)[k]'(by simp; omega) = cs.getD k 0 := by simp [List.getD_eq_getElem?_getD, h2]
  rw [← this]; exact List.getElem_mem _
theorem own_take_get {cs : List Int32} {n j : Nat} (hj : j < n) : (cs.take n).getD j 0 = cs.getD j 0 := by
  simp [List.getD_eq_getElem?_getD, hj]
theorem own_mapget {cs : List Int32} {d : Value} {i : Nat} (hi : i < cs.length) : (cs.map Value.int).getD i d = .int (cs.getD i 0) := by
  simp [List.getD_eq_getElem?_getD, hi]
theorem own_coder1 {n : Nat} (h0 : 0 < n) (h : n ≤ 4000) : (XT.ushr (Int32.ofNat n - Int32.ofNat (2 * n)) 31).toInt8.toInt32 = 1 := by
  have u : XT.ushr (Int32.ofNat n - Int32.ofNat (2 * n)) 31 = 1 := by
    apply Int32.toBitVec_inj.mp
    apply BitVec.eq_of_toNat_eq
    show ((BitVec.ofNat 32 n - BitVec.ofNat 32 (2 * n)) >>> (31 : BitVec 32)).toNat = (1 : BitVec 32).toNat
    simp only [BitVec.ushiftRight_eq', BitVec.toNat_ushiftRight, BitVec.toNat_sub, BitVec.toNat_ofNat, Nat.shiftRight_eq_div_pow]
    rw [Nat.mod_eq_of_lt (show n < 2 ^ 32 by omega), Nat.mod_eq_of_lt (show 2 * n < 2 ^ 32 by omega), show (31 : BitVec 32).toNat = 31 from rfl, show (1 : BitVec 32).toNat = 1 from rfl]
    omega
  rw [u]; decide
theorem own_coder0 (x : Int32) : (XT.ushr (x - x) 31).toInt8.toInt32 = 0 := by rw [Int32.sub_self]; decide
end Jvm.Pilot.@@N@@
namespace Jvm.Pilot.@@N@@
open Jvm Jvm.ClassFile Sem Op Lib Jvm.Free Jvm.Stand Jvm.LawKit Jvm.RoadKit Bundle Jvm.Pilot.@@N@@.Jvm.D
theorem own_bc {c : Int32} (h0 : ¬ c < 0) (h1 : ¬ (255 : Int32) < c) : c.toInt8.toInt32 &&& 255 = c ∧ own_c (c.toInt8.toInt32 &&& 255) = c := by
  rw [Int32.lt_iff_toInt_lt] at h0 h1
  have z0 : (0 : Int32).toInt = 0 := rfl
  have z1 : (255 : Int32).toInt = 255 := rfl
  have e : c = Int32.ofNat c.toInt.toNat := by
    apply Int32.toInt_inj.mp
    rw [own_toInt (by omega)]; omega
  have t : ∀ i : Fin 256, (Int32.ofNat i.val).toInt8.toInt32 &&& 255 = Int32.ofNat i.val ∧ own_c ((Int32.ofNat i.val).toInt8.toInt32 &&& 255) = Int32.ofNat i.val := by decide +kernel
  rw [e]; exact t ⟨c.toInt.toNat, by omega⟩
theorem own_narc {c : Int32} (h0 : ¬ c < 0) (h1 : ¬ (65535 : Int32) < c) : nar .char c = c := by
  rw [Int32.lt_iff_toInt_lt] at h0 h1
  have z0 : (0 : Int32).toInt = 0 := rfl
  have z1 : (65535 : Int32).toInt = 65535 := rfl
  have e : c = Int32.ofNat c.toInt.toNat := by
    apply Int32.toInt_inj.mp
    rw [own_toInt (by omega)]; omega
  have hk : c.toInt.toNat < 65536 := by omega
  rw [e]
  generalize c.toInt.toNat = k at hk
  show (Int32.ofNat k).toUInt32.toUInt16.toUInt32.toInt32 = _
  apply Int32.toBitVec_inj.mp
  apply BitVec.eq_of_toNat_eq
  show ((BitVec.ofNat 32 k).setWidth 16 |>.setWidth 32).toNat = (BitVec.ofNat 32 k).toNat
  simp only [BitVec.toNat_setWidth, BitVec.toNat_ofNat]; omega
end Jvm.Pilot.@@N@@
namespace Jvm.Pilot.@@N@@
open Jvm Jvm.ClassFile Sem Op Lib Jvm.Free Jvm.Stand Jvm.LawKit Jvm.RoadKit Bundle Jvm.Pilot.@@N@@.Jvm.D
/-- vs with the first i of es laid at d on -/
def own_mid (vs : List Value) (d : Nat) (es : List Int32) (i : Nat) : List Value := vs.take d ++ (es.take i).map Value.int ++ vs.drop (d + i)
theorem own_mid_len {vs : List Value} {d : Nat} {es : List Int32} {i : Nat} (h : d + es.length ≤ vs.length) (hi : i ≤ es.length) : (own_mid vs d es i).length = vs.length := by
  simp [own_mid]; omega
theorem own_mid0 (vs : List Value) (d : Nat) (es : List Int32) : own_mid vs d es 0 = vs := by simp [own_mid]
theorem own_mid_set {vs : List Value} {d : Nat} {es : List Int32} {i : Nat} (h : d + es.length ≤ vs.length) (hi : i < es.length) : (own_mid vs d es i).set (d + i) (.int (es.getD i 0)) = own_mid vs d es (i + 1) := by
  have e3 : (es.take (i + 1)).map Value.int = (es.take i).map Value.int ++ [.int (es.getD i 0)] := by
    rw [List.take_add_one, List.getElem?_eq_getElem hi, List.map_append]
    simp [List.getD_eq_getElem?_getD, hi]
  have hl : (vs.take d ++ (es.take i).map Value.int).length = d + i := by simp; omega
  have hd : d + i < vs.length := by omega
  unfold own_mid
  rw [e3, List.set_append_right _ _ (by omega), hl, Nat.sub_self, List.drop_eq_getElem_cons hd, List.set_cons_zero]
  simp [Nat.add_assoc]
theorem own_orN {a b : Nat} (ha : a < 2 ^ 20) (hb : b < 2 ^ 20) : Int32.ofNat a ||| Int32.ofNat b = Int32.ofNat (a ||| b) ∧ a ||| b < 2 ^ 20 := by
  have hl := Nat.or_lt_two_pow ha hb
  refine ⟨?_, hl⟩
  apply Int32.toBitVec_inj.mp
  apply BitVec.eq_of_toNat_eq
  show ((BitVec.ofNat 32 a) ||| (BitVec.ofNat 32 b)).toNat = (BitVec.ofNat 32 (a ||| b)).toNat
  rw [BitVec.toNat_or, BitVec.toNat_ofNat, BitVec.toNat_ofNat, BitVec.toNat_ofNat, Nat.mod_eq_of_lt (by omega), Nat.mod_eq_of_lt (by omega), Nat.mod_eq_of_lt (by omega)]
theorem own_or3 {a b c : Nat} (ha : a ≤ 100000) (hb : b ≤ 100000) (hc : c ≤ 100000) : ¬ Int32.ofNat a ||| Int32.ofNat b ||| Int32.ofNat c < 0 := by
  obtain ⟨e1, l1⟩ := own_orN (a := a) (b := b) (by omega) (by omega)
  obtain ⟨e2, l2⟩ := own_orN (a := a ||| b) (b := c) l1 (by omega)
  rw [e1, e2, Int32.lt_iff_toInt_lt, Int32.toInt_ofNat_of_lt (by omega)]
  have : (0 : Int32).toInt = 0 := rfl
  omega
theorem own_subN {j k : Nat} (h : k ≤ j) : Int32.ofNat j - Int32.ofNat k = Int32.ofNat (j - k) := by
  have e : Int32.ofNat j = Int32.ofNat (j - k) + Int32.ofNat k := by rw [own_ofadd]; congr 1; omega
  rw [e, Int32.add_sub_cancel]
end Jvm.Pilot.@@N@@
namespace Jvm.Pilot.@@N@@
open Jvm Jvm.ClassFile Sem Op Lib Jvm.Free Jvm.Stand Jvm.LawKit Jvm.RoadKit Bundle Jvm.Pilot.@@N@@.Jvm.D
theorem own_tyne {Z : State} {h : Heap} {a b : Addr} {k1 k2 : ClassId} {z1 z2 : Int32} {v1 v2 : List Value} {d1 d2 : Value} {t1 t2 : FieldType} (A : Arv Z h a k1 t1 z1 v1 d1) (B : Arv Z h b k2 t2 z2 v2 d2) (ht : t1 ≠ t2) : a ≠ b := fun e => by
  subst e
  obtain ⟨c1, A1, -⟩ := A
  obtain ⟨c2, B1, -⟩ := B
  cases A1.1.symm.trans B1.1
  obtain ⟨-, q1, hq1, comp1, hk1⟩ := A1.2.1
  obtain ⟨-, q2, hq2, comp2, hk2⟩ := B1.2.1
  cases hq1.symm.trans hq2
  rw [hk1] at hk2
  injection hk2 with e1 e2
  first | exact ht e1 | exact ht e2
end Jvm.Pilot.@@N@@
namespace Jvm.Pilot.@@N@@
open Jvm Jvm.ClassFile Sem Op Lib Jvm.Free Jvm.Stand Jvm.LawKit Jvm.RoadKit Bundle Jvm.Pilot.@@N@@.Jvm.D
theorem own_two {N : Nat} (h : N ≤ 16) : ((2 : Int64) * (Int32.ofNat N).toInt64).toInt32 = Int32.ofNat (2 * N) ∧ XT.cmpL 2147483639 ((2 : Int64) * (Int32.ofNat N).toInt64) = 1 := by
  have t : ∀ k : Fin 17, ((2 : Int64) * (Int32.ofNat k.val).toInt64).toInt32 = Int32.ofNat (2 * k.val) ∧ XT.cmpL 2147483639 ((2 : Int64) * (Int32.ofNat k.val).toInt64) = 1 := by decide +kernel
  exact t ⟨N, by omega⟩
theorem own_big {L n : Nat} (h : L ≤ 4000) (h2 : n ≤ 4000) : ¬ (2147483639 : Int32) - Int32.ofNat L < Int32.ofNat n := by
  have e : (2147483639 : Int32) - Int32.ofNat L = Int32.ofNat (2147483639 - L) := own_subN (j := 2147483639) (by omega)
  rw [e, Int32.lt_iff_toInt_lt, own_toInt (k := n) (by omega), Int32.toInt_ofNat_of_lt (by omega)]; omega
theorem own_rangeV {vs : List Value} {d : Value} : (List.range vs.length).map (fun i => vs.getD (0 + i) d) = vs := by
  apply List.ext_getElem
  · simp
  · intro i h1 h2; simp [List.getD_eq_getElem?_getD, h2]
/-- cs with es laid at d on -/
def own_lay (cs : List Int32) (d : Nat) (es : List Int32) : List Int32 := cs.take d ++ es ++ cs.drop (d + es.length)
theorem own_layM (cs : List Int32) (d : Nat) (es : List Int32) : own_mid (cs.map Value.int) d es es.length = (own_lay cs d es).map Value.int := by
  simp [own_mid, own_lay, List.map_append, List.map_take, List.map_drop]
theorem own_layL {cs : List Int32} {d : Nat} {es : List Int32} (h : d + es.length ≤ cs.length) : (own_lay cs d es).length = cs.length := by
  simp [own_lay]; omega
theorem own_layT {cs : List Int32} {d : Nat} {es : List Int32} (h : d + es.length ≤ cs.length) : (own_lay cs d es).take (d + es.length) = cs.take d ++ es := by
  have hl : (cs.take d ++ es).length = d + es.length := by simp; omega
  rw [own_lay, ← hl, List.take_left]
theorem own_layP {cs : List Int32} {d : Nat} {es : List Int32} (h : d ≤ cs.length) : (own_lay cs d es).take d = cs.take d := by
  have hl : (cs.take d).length = d := by simp; omega
  rw [own_lay, List.append_assoc, List.take_append_of_le_length (by omega), List.take_take, Nat.min_self]
theorem own_layB {cs : List Int32} {d : Nat} {es : List Int32} (h1 : ∀ c ∈ cs, ¬ c < 0 ∧ ¬ (65535 : Int32) < c) (h2 : ∀ c ∈ es, ¬ c < 0 ∧ ¬ (65535 : Int32) < c) : ∀ c ∈ own_lay cs d es, ¬ c < 0 ∧ ¬ (65535 : Int32) < c := fun c hc => by
  simp only [own_lay, List.mem_append] at hc
  rcases hc with (q | q) | q
  · exact h1 c (List.mem_of_mem_take q)
  · exact h2 c q
  · exact h1 c (List.mem_of_mem_drop q)
end Jvm.Pilot.@@N@@
namespace Jvm.Pilot.@@N@@
open Jvm Jvm.ClassFile Sem Op Lib Jvm.Free Jvm.Stand Jvm.LawKit Jvm.RoadKit Bundle Jvm.Pilot.@@N@@.Jvm.D
/-- an own_S through a Keep of one object of another class -/
theorem own_SkT {Z : State} {h h2 : Heap} {x t : Addr} {cs : List Int32} {D : String} (S : own_S Z h x cs) (E : Exa Z h t D) (K : Keep h h2 [t]) (hD : D ≠ "java/lang/String") {a0 : Array Value} {n : Nat} (w : (Jvm.Cond.instantiable D n).before a0 Z = true) : own_S Z h2 x cs := by
  obtain ⟨b, kb, cd, N2, vs, s1, s2, s3, s4, r⟩ := S
  have n1 : x ∉ [t] := by simp only [List.mem_singleton]; exact fun q => (E.ne s1 hD) q.symm
  have n2 : b ∉ [t] := by simp only [List.mem_singleton]; exact fun q => (E.neArv s4 w) q.symm
  exact ⟨b, kb, cd, N2, vs, s1.keep K, s2.keep K n1, s3.keep K n1, s4.keep K n2, r⟩
end Jvm.Pilot.@@N@@
namespace Jvm.Pilot.@@N@@
open Jvm Jvm.ClassFile Sem Op Lib Jvm.Free Jvm.Stand Jvm.LawKit Jvm.RoadKit Bundle Jvm.Pilot.@@N@@.Jvm.D
theorem own_andN (m : Nat) (x : Int32) : ∃ n, n ≤ m ∧ x &&& Int32.ofNat m = Int32.ofNat n := by
  refine ⟨(x &&& Int32.ofNat m).toBitVec.toNat, ?_, ?_⟩
  · simp only [Int32.toBitVec_and, BitVec.toNat_and]
    refine Nat.le_trans Nat.and_le_right ?_
    show (BitVec.ofNat 32 m).toNat ≤ m
    rw [BitVec.toNat_ofNat]; exact Nat.mod_le _ _
  · apply Int32.toBitVec_inj.mp
    show _ = BitVec.ofNat 32 _
    rw [BitVec.ofNat_toNat]; simp
/-- an own_S through a Keep of a char[] and an object of another class -/
theorem own_SkA {Z : State} {h h2 : Heap} {x t ar : Addr} {ka : ClassId} {z : Int32} {vs : List Value} {dv : Value} {cs : List Int32} {D : String} (S : own_S Z h x cs) (E : Exa Z h t D) (A : Arv Z h ar ka .char z vs dv) (K : Keep h h2 [ar, t]) (hD : D ≠ "java/lang/String") {a0 : Array Value} {n k : Nat} (w : (Jvm.Cond.instantiable D n).before a0 Z = true) (wS : (Jvm.Cond.instantiable "java/lang/String" k).before a0 Z = true) : own_S Z h2 x cs := by
  obtain ⟨b, kb, cd, N2, vs, s1, s2, s3, s4, r⟩ := S
  have n1 : x ∉ [ar, t] := by
    simp only [List.mem_cons, List.not_mem_nil, or_false, not_or]
    exact ⟨s1.neArv A wS, fun q => (E.ne s1 hD) q.symm⟩
  have n2 : b ∉ [ar, t] := by
    simp only [List.mem_cons, List.not_mem_nil, or_false, not_or]
    exact ⟨own_tyne s4 A (by decide), fun q => (E.neArv s4 w) q.symm⟩
  exact ⟨b, kb, cd, N2, vs, s1.keep K, s2.keep K n1, s3.keep K n1, s4.keep K n2, r⟩
theorem own_none {args : Array Value} {s : State} {t : Term} {z : Int32} (h : (Term.length t).eval args s none [] s = some (.int z)) : ∃ a cell, t.eval args s none [] s = some (.ref a) ∧ s.heap[a]? = some cell ∧ cell.slots.size < 2 ^ 31 ∧ cell.slots.size.toInt32 = z := by
  obtain ⟨a, cell, e1, e2, e3⟩ := Term.length_spec h
  refine ⟨a, cell, e1, (State.arrayAt?_spec e2).1, ?_, by injection e3 with e4; exact e4.symm⟩
  simp only [Term.eval, Option.bind_eq_bind, e1, Option.bind_some, e2] at h
  by_cases hn : cell.slots.size < 2147483648
  · exact hn
  · rw [if_neg hn] at h; cases h
theorem own_noneA {args : Array Value} {s : State} {t : Term} (hfit : Fit s) (h1 : (Cond.arrayOf t .char).value args s none s [] = some true) (h2 : (Cond.eq (Term.length t) (Term.int 0)).value args s none s [] = some true) : ∃ a k, t.eval args s none [] s = some (.ref a) ∧ Arv s s.heap a k .char (Int32.ofNat ([] : List Int32).length) (([] : List Int32).map Value.int) (.int 0) := by
  obtain ⟨a, cell, e1, hc, hs, hz⟩ := own_none (eqv_i (Term.int_eval 0) h2)
  obtain ⟨c, A⟩ := Arr.start e1 h1
  cases hc.symm.trans A.1
  exact ⟨a, _, e1, Arv.start hfit A hs hz (by decide) rfl trivial⟩
theorem own_keepW {h h2 : Heap} {a b : Addr} (K : Keep h h2 [b]) : Keep h h2 [a, b] := ⟨K.1, fun x c q r => K.2.1 x c q fun z => r (List.mem_cons_of_mem _ z), K.2.2⟩
theorem own_backImp {l : Launch} {R : Room} {p : Program} {e : Env} {below : List Frame} {s : State} {sargs : Array Value} {y : MethodName} {len W : Nat} {Pre : Pt → Array Value → Prop} {Post Post' : Pt → Array Value → Option Value → Pt → Prop} (h : Back l R p e below s sargs y len W Pre Post) (i : ∀ A a v B, Pre A a → Post A a v B → Post' A a v B) : Back l R p e below s sargs y len W Pre Post' := fun m meth c A g ig mk a X hg hs hd hW hn hp => by
  obtain ⟨v, B, X', hq, st⟩ := h m meth c A g ig mk a X hg hs hd hW hn hp
  exact ⟨v, B, X', i _ _ _ _ hp hq, st⟩
/-- String.equals of two Strings of the same chars -/
theorem own_eqS {p : Program} {l : Launch} {e : Env} {R : Room} {s : State} {args : Array Value} {below : List Frame} {len W : Nat} {Z : State} {a0 : Array Value} {h : Heap} (hZ : Z.Warmed39 s.vm) (hw : ∀ d ∈ tables_1, d.before a0 Z = true) {x y : Addr} {cs ds : List Int32} {z : Int32} (S : own_S Z h x cs) (S' : own_S Z h y ds) (heq : cs = ds)
    (O : Sta Z h "java/lang/String" "COMPACT_STRINGS" "Z" (.int z)) (hz : ¬ z = 0) (hfr : 2 ≤ R.frames) (hlo : W + 28 ≤ R.locals) :
    Back l R p e below s args (⟨"java/lang/String", "equals", "(Ljava/lang/Object;)Z"⟩ : MethodName) len W (fun P a => a = #[.ref x, .ref y] ∧ P.U.heap = h ∧ P.cells + 0 ≤ R.cells ∧ P.slots + 0 ≤ R.slots)
      (fun P _ v B => ∃ L, (v = some (.int 1) ∧ L = [] ∧ B.U.heap = h) ∧ B.locs = P.locs ++ L ∧ B.cells = P.cells + 0 ∧ B.slots = P.slots + 0) := by
  obtain ⟨t, kb, cd, N2, vs, E, V, C, K, hc, hp, hl⟩ := S
  obtain ⟨t', kb', cd', N2', vs', E', V', C', K', hc', hp', hl'⟩ := S'
  refine own_backImp (StrChars.Road.eqW hZ (fun d hd => hw d ((by decide +kernel : ∀ d ∈ StrChars.Road.wordsEq, d ∈ tables_1) d hd)) (kI := 4) (hw _ own_wiS) E V C K hc hp hl E' V' C' K' hc' hp' hl' O hz hfr hlo) ?_
  rintro A a v B - ⟨L, ⟨q | q, r⟩, r2⟩
  · exact ⟨L, ⟨q.1, r⟩, r2⟩
  · exact absurd heq q.2
theorem own_pieces {ds : List Int32} {oo n : Nat} (hd : ds.length = 9) (ho : oo + 3 ≤ 9) (hn : n ≤ 3) : ([ds.getD oo 0, ds.getD (oo + 1) 0, ds.getD (oo + 2) 0, 0, 0, 0, 0, 0, 0] : List Int32).take n = (ds.drop oo).take n := by
  have e : ds.drop oo = ds.getD oo 0 :: ds.getD (oo + 1) 0 :: ds.getD (oo + 2) 0 :: ds.drop (oo + 3) := by
    rw [List.drop_eq_getElem_cons (by omega), List.drop_eq_getElem_cons (by omega), List.drop_eq_getElem_cons (by omega)]
    simp [List.getD_eq_getElem?_getD, show oo < ds.length by omega, show oo + 1 < ds.length by omega, show oo + 2 < ds.length by omega]
  rw [e]
  have : n = 0 ∨ n = 1 ∨ n = 2 ∨ n = 3 := by omega
  rcases this with rfl | rfl | rfl | rfl <;> rfl
end Jvm.Pilot.@@N@@
namespace Jvm.Pilot.@@N@@
open Jvm Jvm.ClassFile Sem Op Lib Jvm.Free Jvm.Stand Jvm.LawKit Jvm.RoadKit Bundle Jvm.Pilot.@@N@@.Jvm.D
abbrev EL : List (String × Nat) := [("com/example/kerb/kerb/call/AppendOnlyText", 59), ("java/lang/String", 7)]
theorem own_hwsL {Z : State} {a0 : Array Value} (hw : ∀ d ∈ tables_1, d.before a0 Z = true) : ∀ d ∈ StrChars.Road.words, d.before a0 Z = true := fun d hd => hw d ((by decide +kernel : ∀ d ∈ StrChars.Road.words, d ∈ tables_1) d hd)
theorem dE4_0 : decode jdk_42_method_149_code 0 = .ok (.aload_n 0, 1) := by decide +kernel
theorem dE4_1 : decode jdk_42_method_149_code 1 = .ok (.invokespecial 1, 3) := by decide +kernel
theorem dE4_4 : decode jdk_42_method_149_code 4 = .ok (.iload_n 3, 1) := by decide +kernel
theorem dE4_5 : decode jdk_42_method_149_code 5 = .ok (.ifCond .ne 22, 3) := by decide +kernel
theorem dE4_8 : decode jdk_42_method_149_code 8 = .ok (.aload_n 0, 1) := by decide +kernel
theorem dE4_9 : decode jdk_42_method_149_code 9 = .ok (.ldc 7, 2) := by decide +kernel
theorem dE4_11 : decode jdk_42_method_149_code 11 = .ok (.getfield 9, 3) := by decide +kernel
theorem dE4_14 : decode jdk_42_method_149_code 14 = .ok (.putfield 9, 3) := by decide +kernel
theorem dE4_17 : decode jdk_42_method_149_code 17 = .ok (.aload_n 0, 1) := by decide +kernel
theorem dE4_18 : decode jdk_42_method_149_code 18 = .ok (.ldc 7, 2) := by decide +kernel
theorem dE4_20 : decode jdk_42_method_149_code 20 = .ok (.getfield 15, 3) := by decide +kernel
theorem dE4_23 : decode jdk_42_method_149_code 23 = .ok (.putfield 15, 3) := by decide +kernel
theorem dE4_26 : decode jdk_42_method_149_code 26 = .ok (.return_, 1) := by decide +kernel
theorem dE4_27 : decode jdk_42_method_149_code 27 = .ok (.getstatic 38, 3) := by decide +kernel
theorem dE4_30 : decode jdk_42_method_149_code 30 = .ok (.ifCond .eq 28, 3) := by decide +kernel
theorem dE4_33 : decode jdk_42_method_149_code 33 = .ok (.aload_n 1, 1) := by decide +kernel
theorem dE4_34 : decode jdk_42_method_149_code 34 = .ok (.iload_n 2, 1) := by decide +kernel
theorem dE4_35 : decode jdk_42_method_149_code 35 = .ok (.iload_n 3, 1) := by decide +kernel
theorem dE4_36 : decode jdk_42_method_149_code 36 = .ok (.invokestatic 177, 3) := by decide +kernel
theorem dE4_39 : decode jdk_42_method_149_code 39 = .ok (.astore 5, 2) := by decide +kernel
theorem dE4_41 : decode jdk_42_method_149_code 41 = .ok (.aload_n 0, 1) := by decide +kernel
theorem dE4_42 : decode jdk_42_method_149_code 42 = .ok (.aload 5, 2) := by decide +kernel
theorem dE4_44 : decode jdk_42_method_149_code 44 = .ok (.iload_n 3, 1) := by decide +kernel
theorem dE4_45 : decode jdk_42_method_149_code 45 = .ok (.invokestatic 47, 3) := by decide +kernel
theorem dE4_48 : decode jdk_42_method_149_code 48 = .ok (.putfield 15, 3) := by decide +kernel
theorem dE4_51 : decode jdk_42_method_149_code 51 = .ok (.aload_n 0, 1) := by decide +kernel
theorem dE4_52 : decode jdk_42_method_149_code 52 = .ok (.aload 5, 2) := by decide +kernel
theorem dE4_54 : decode jdk_42_method_149_code 54 = .ok (.putfield 9, 3) := by decide +kernel
theorem dE4_57 : decode jdk_42_method_149_code 57 = .ok (.return_, 1) := by decide +kernel
theorem dE4_58 : decode jdk_42_method_149_code 58 = .ok (.aload_n 0, 1) := by decide +kernel
theorem dE4_59 : decode jdk_42_method_149_code 59 = .ok (.iconst 1, 1) := by decide +kernel
theorem dE4_60 : decode jdk_42_method_149_code 60 = .ok (.putfield 15, 3) := by decide +kernel
theorem dE4_63 : decode jdk_42_method_149_code 63 = .ok (.aload_n 0, 1) := by decide +kernel
theorem dE4_64 : decode jdk_42_method_149_code 64 = .ok (.aload_n 1, 1) := by decide +kernel
theorem dE4_65 : decode jdk_42_method_149_code 65 = .ok (.iload_n 2, 1) := by decide +kernel
theorem dE4_66 : decode jdk_42_method_149_code 66 = .ok (.iload_n 3, 1) := by decide +kernel
theorem dE4_67 : decode jdk_42_method_149_code 67 = .ok (.invokestatic 180, 3) := by decide +kernel
theorem dE4_70 : decode jdk_42_method_149_code 70 = .ok (.putfield 9, 3) := by decide +kernel
theorem dE4_73 : decode jdk_42_method_149_code 73 = .ok (.return_, 1) := by decide +kernel
theorem dE1_0 : decode jdk_42_method_3_code 0 = .ok (.aload_n 0, 1) := by decide +kernel
theorem dE1_1 : decode jdk_42_method_3_code 1 = .ok (.aload_n 1, 1) := by decide +kernel
theorem dE1_2 : decode jdk_42_method_3_code 2 = .ok (.iconst 0, 1) := by decide +kernel
theorem dE1_3 : decode jdk_42_method_3_code 3 = .ok (.aload_n 1, 1) := by decide +kernel
theorem dE1_4 : decode jdk_42_method_3_code 4 = .ok (.arraylength, 1) := by decide +kernel
theorem dE1_5 : decode jdk_42_method_3_code 5 = .ok (.aconst_null, 1) := by decide +kernel
theorem dE1_6 : decode jdk_42_method_3_code 6 = .ok (.invokespecial 27, 3) := by decide +kernel
theorem dE1_9 : decode jdk_42_method_3_code 9 = .ok (.return_, 1) := by decide +kernel
theorem pnS : plainName "java/lang/String" = true := by first | (simp [plainName, overriddenIn]; done) | decide +kernel
theorem pdE4 : parseMethodDescriptor "([CIILjava/lang/Void;)V" = some ⟨[.array .char, .int, .int, .object "java/lang/Void"], none⟩ := by decide +kernel
theorem pdE1 : parseMethodDescriptor "([C)V" = some ⟨[.array .char], none⟩ := by decide +kernel
theorem efE4 (m : MethodId) (x0 : Addr) (x1 : Addr) (x2 : Int32) (x3 : Int32) : entryFrame m #[(.ref x0), (.ref x1), (.int x2), (.int x3), .null] 6 = mkF m 0 #[.val (.ref x0), .val (.ref x1), .val (.int x2), .val (.int x3), .val .null, .unset] [] := by first | (simp [entryFrame, mkF, argsToLocals, Value.category]; done) | rfl
def Q_rmE4 (Z : State) (x b : Addr) (h0 : Heap) (v : Option Value) (h : Heap) (L : List Loc) : Prop := v = none ∧ Fr Z.heap.size L ∧ Keep h0 h [x] ∧ own_Str Z h x []
set_option maxRecDepth 65536 in
set_option maxHeartbeats 40000000 in
theorem rmE4 (l : Launch) (Z : State) (a0 : Array Value) (hw : ∀ d ∈ tables_1, d.before a0 Z = true) (hEL : EW Z a0 EL) (x b : Addr) (h0 : Heap) (ga : Z.heap.size ≤ x) (A0 : Exa Z h0 x "java/lang/String") (Fv : Fld Z h0 x "java/lang/String" "value" "[B" .null) (Fc : Fld Z h0 x "java/lang/String" "coder" "B" (.int (0 : Int32))) :
    MetFree l (⟨"java/lang/String", "<init>", "([CIILjava/lang/Void;)V"⟩ : MethodName) (head1 (Jvm.Cond.code (⟨"java/lang/String", "<init>", "([CIILjava/lang/Void;)V"⟩ : MethodName) jdk_42_method_149_code 6 (Option.none : Option FieldType) :: []) ({ frames := 1, cells := 4, slots := 8, locals := 12 } : Room)) (fun aa U => aa = #[(.ref x), (.ref b), (.int (0 : Int32)), (.int (0 : Int32)), .null] ∧ Z.Warmed39 U.vm ∧ U.heap = h0 ∧ CHv Z EL U.vm h0 ∧ ∀ yy ∈ ([x] : List Addr), Safe Z EL U.vm h0 yy) (fun _ _ _ _ _ => True) (fun _ U o U' => ∃ v L, o = .returned v ∧ (Q_rmE4 Z x b h0) v U'.heap L ∧ CHr Z EL U.vm U.heap U'.vm U'.heap ∧ ReturnedEndW U o U' L ({ frames := 1, cells := 4, slots := 8, locals := 12 } : Room).cells ({ frames := 1, cells := 4, slots := 8, locals := 12 } : Room).slots) := by
  refine own_walkW (by exact pnS) ?_
  intro p e s m below meth c T0 X0 hx hby hml hret hlk hnm hs0 e0 I0 hsf F hF
  refine own_on (fun _ => castTop (efE4 m x b 0 0)) ?_
  have N0 := Fr.nil Z.heap.size
  have Q0 := Keep.refl h0 [x]
  have S0 := hsf x (by simp)
  refine own_aload_n X0.here hx (hb hby dE4_0) rfl rfl (pc' := 1) rfl ?_
  obtain ⟨T1, X1, e1, st1⟩ := initO X0 hx I0.1 I0.2.1 (hw _ (List.mem_of_getElem? (i := 18) rfl)) (hw _ (List.mem_of_getElem? (i := 19) rfl)) (hw _ (List.mem_of_getElem? (i := 20) rfl)) e0 (g := (mkF m 1 #[.val (.ref x), .val (.ref b), .val (.int ((0 : Int32))), .val (.int ((0 : Int32))), .val .null, .unset] [(.ref x)])) rfl (by rw [hml]; rfl) rfl (hb hby dE4_1) (by decide) (W := 0) (by show 2 * 0 + _ ≤ _; exact Nat.le_of_eq rfl) (by decide)
  refine own_on st1 ?_
  show own_Go p e below F (T1.setTop (mkF m 4 #[.val (.ref x), .val (.ref b), .val (.int ((0 : Int32))), .val (.int ((0 : Int32))), .val .null, .unset] []))
  refine own_iload_n X1.here hx (hb hby dE4_4) rfl (pc' := 5) rfl ?_
  refine own_ifne X1.here hx (hb hby dE4_5) (by decide) (pc' := 27) (by decide) (pc2 := 8) rfl (fun q => absurd rfl q) (fun q2 => ?_)
  refine own_aload_n X1.here hx (hb hby dE4_8) rfl rfl (pc' := 9) rfl ?_
  obtain ⟨b3, T3, t3, kb3, X3, E3, I3, C3, A3, Fc3, Fv3, V3, hn3, st3⟩ := own_ldcT X1 hx I0 (hw _ (List.mem_of_getElem? (i := 21) rfl)) (own_strW hw) e1 hEL (by simp [EL]) (vs := []) (z := 0) (by decide) (by decide) (by decide) (g := (mkF m 9 #[.val (.ref x), .val (.ref b), .val (.int ((0 : Int32))), .val (.int ((0 : Int32))), .val .null, .unset] [(.ref x)])) rfl (hb hby dE4_9) (n := 0) (by decide) (by decide) (by decide) (by decide)
  have f4 := Q0.ext E3
  have f5 := A0.ext E3
  have f6 := Fv.ext E3
  have f7 := Fc.ext E3
  have f8 := C3.safe A0.lt S0
  have ne9 := hn3 x f8
  refine own_on st3 ?_
  show own_Go p e below F (T3.setTop (mkF m 11 #[.val (.ref x), .val (.ref b), .val (.int ((0 : Int32))), .val (.int ((0 : Int32))), .val .null, .unset] [(.ref b3), (.ref x)]))
  obtain ⟨T10, X10, e10, st10⟩ := getF X3 hx I3.1 I3.2.1 (host := "") (Or.inl (hw _ (List.mem_of_getElem? (i := 27) rfl))) Via.refl rfl Fv3 (g := (mkF m 11 #[.val (.ref x), .val (.ref b), .val (.int ((0 : Int32))), .val (.int ((0 : Int32))), .val .null, .unset] [(.ref b3), (.ref x)])) rfl rfl (hb hby dE4_11)
  refine own_on st10 ?_
  show own_Go p e below F (T10.setTop (mkF m 14 #[.val (.ref x), .val (.ref b), .val (.int ((0 : Int32))), .val (.int ((0 : Int32))), .val .null, .unset] [(.ref t3), (.ref x)]))
  obtain ⟨T11, h11, X11, e11, W11, st11⟩ := putF X10 hx I3.1 I3.2.1 (host := "") (Or.inl (hw _ (List.mem_of_getElem? (i := 27) rfl))) Via.refl e10 f6 f5 (Or.inr ⟨(hw _ (List.mem_of_getElem? (i := 23) rfl)), rfl, hnm⟩) (hw _ (List.mem_of_getElem? (i := 9) rfl)) (ty := .array .byte) (by decide) rfl rfl (g := (mkF m 14 #[.val (.ref x), .val (.ref b), .val (.int ((0 : Int32))), .val (.int ((0 : Int32))), .val .null, .unset] [(.ref t3), (.ref x)])) rfl rfl (hb hby dE4_14)
  have f12 := f5.wr W11
  have f13 := f6.same W11
  have f14 := f7.other W11 (Or.inr (slot_ne (Or.inr (hw _ (List.mem_of_getElem? (i := 24) rfl))) (Or.inr (hw _ (List.mem_of_getElem? (i := 23) rfl))) (by decide) (t := .byte) (by decide) (t' := .array .byte) (by decide)))
  have f15 := Safe.wr W11 f8 I3.ch f8
  have f16 := A3.wr W11
  have f17 := Fc3.other W11 (Or.inl (Ne.symm ne9.1))
  have f18 := Fv3.other W11 (Or.inl (Ne.symm ne9.1))
  have f19 := V3.other W11 (Ne.symm ne9.2)
  have J20 := I3.wr W11 f8
  have f21 := f4.wr W11 (Or.inl (by simp))
  have N22 := own_Fr_snoc (sl := Jvm.RoadKit.slotOf Z "java/lang/String" "value" "[B") N0 ga
  refine own_on st11 ?_
  show own_Go p e below F (T11.setTop (mkF m 17 #[.val (.ref x), .val (.ref b), .val (.int ((0 : Int32))), .val (.int ((0 : Int32))), .val .null, .unset] []))
  refine own_aload_n X11.here hx (hb hby dE4_17) rfl rfl (pc' := 18) rfl ?_
  obtain ⟨b23, T23, t23, kb23, X23, E23, I23, C23, A23, Fc23, Fv23, V23, hn23, st23⟩ := own_ldcT X11 hx J20 (hw _ (List.mem_of_getElem? (i := 21) rfl)) (own_strW hw) e11 hEL (by simp [EL]) (vs := []) (z := 0) (by decide) (by decide) (by decide) (g := (mkF m 18 #[.val (.ref x), .val (.ref b), .val (.int ((0 : Int32))), .val (.int ((0 : Int32))), .val .null, .unset] [(.ref x)])) rfl (hb hby dE4_18) (n := 0) (by decide) (by decide) (by decide) (by decide)
  have f24 := f12.ext E23
  have f25 := f13.ext E23
  have f26 := f14.ext E23
  have f27 := C23.safe (f12).lt f15
  have f28 := f19.ext E23
  have f29 := f21.ext E23
  have ne30 := hn23 x f27
  refine own_on st23 ?_
  show own_Go p e below F (T23.setTop (mkF m 20 #[.val (.ref x), .val (.ref b), .val (.int ((0 : Int32))), .val (.int ((0 : Int32))), .val .null, .unset] [(.ref b23), (.ref x)]))
  obtain ⟨T31, X31, e31, st31⟩ := getF X23 hx I23.1 I23.2.1 (host := "") (Or.inl (hw _ (List.mem_of_getElem? (i := 28) rfl))) Via.refl rfl Fc23 (g := (mkF m 20 #[.val (.ref x), .val (.ref b), .val (.int ((0 : Int32))), .val (.int ((0 : Int32))), .val .null, .unset] [(.ref b23), (.ref x)])) rfl rfl (hb hby dE4_20)
  refine own_on st31 ?_
  show own_Go p e below F (T31.setTop (mkF m 23 #[.val (.ref x), .val (.ref b), .val (.int ((0 : Int32))), .val (.int ((0 : Int32))), .val .null, .unset] [(.int ((0 : Int32))), (.ref x)]))
  obtain ⟨T32, h32, X32, e32, W32, st32⟩ := putF X31 hx I23.1 I23.2.1 (host := "") (Or.inl (hw _ (List.mem_of_getElem? (i := 28) rfl))) Via.refl e31 f26 f24 (Or.inr ⟨(hw _ (List.mem_of_getElem? (i := 24) rfl)), rfl, hnm⟩) (hw _ (List.mem_of_getElem? (i := 9) rfl)) (ty := .byte) (by decide) rfl rfl (g := (mkF m 23 #[.val (.ref x), .val (.ref b), .val (.int ((0 : Int32))), .val (.int ((0 : Int32))), .val .null, .unset] [(.int ((0 : Int32))), (.ref x)])) rfl rfl (hb hby dE4_23)
  have f33 := f24.wr W32
  have f34 := f25.other W32 (Or.inr (slot_ne (Or.inr (hw _ (List.mem_of_getElem? (i := 23) rfl))) (Or.inr (hw _ (List.mem_of_getElem? (i := 24) rfl))) (by decide) (t := .array .byte) (by decide) (t' := .byte) (by decide)))
  have f35 := f26.same W32
  have f36 := Safe.wr W32 f27 I23.ch f27
  have f37 := f28.other W32 (Ne.symm ne9.2)
  have f38 := A23.wr W32
  have f39 := Fc23.other W32 (Or.inl (Ne.symm ne30.1))
  have f40 := Fv23.other W32 (Or.inl (Ne.symm ne30.1))
  have f41 := V23.other W32 (Ne.symm ne30.2)
  have J42 := I23.wr W32 f27
  have f43 := f29.wr W32 (Or.inl (by simp))
  have N44 := own_Fr_snoc (sl := Jvm.RoadKit.slotOf Z "java/lang/String" "coder" "B") N22 ga
  refine own_on st32 ?_
  show own_Go p e below F (T32.setTop (mkF m 26 #[.val (.ref x), .val (.ref b), .val (.int ((0 : Int32))), .val (.int ((0 : Int32))), .val .null, .unset] []))
  exact own_retVW X32 hx hlk hEL J42 e32 hret (hb hby dE4_26) (fun t ht hC hE => hF t _ _ _ _ (by rw [ht]; exact ⟨rfl, N44, f43, t3, kb3, f33, f34, f35, f37, (fun _ q => nomatch q), (by decide)⟩) hC hE (by decide) (by decide))
theorem efE1 (m : MethodId) (x0 : Addr) (x1 : Addr) : entryFrame m #[(.ref x0), (.ref x1)] 2 = mkF m 0 #[.val (.ref x0), .val (.ref x1)] [] := by first | (simp [entryFrame, mkF, argsToLocals, Value.category]; done) | rfl
def Q_rmE1 (Z : State) (x b : Addr) (kc : ClassId) (dv : Value) (h0 : Heap) (v : Option Value) (h : Heap) (L : List Loc) : Prop := v = none ∧ Fr Z.heap.size L ∧ Keep h0 h [x] ∧ own_Str Z h x []
set_option maxRecDepth 65536 in
set_option maxHeartbeats 40000000 in
theorem rmE1 (l : Launch) (Z : State) (a0 : Array Value) (hw : ∀ d ∈ tables_1, d.before a0 Z = true) (hEL : EW Z a0 EL) (x b : Addr) (kc : ClassId) (dv : Value) (h0 : Heap) (ga : Z.heap.size ≤ x) (A0 : Exa Z h0 x "java/lang/String") (Fv : Fld Z h0 x "java/lang/String" "value" "[B" .null) (Fc : Fld Z h0 x "java/lang/String" "coder" "B" (.int (0 : Int32))) (V0 : Arv Z h0 b kc .char (0 : Int32) [] dv) :
    MetFree l (⟨"java/lang/String", "<init>", "([C)V"⟩ : MethodName) (head1 (Jvm.Cond.code (⟨"java/lang/String", "<init>", "([C)V"⟩ : MethodName) jdk_42_method_3_code 2 (Option.none : Option FieldType) :: []) ({ frames := 2, cells := 4, slots := 8, locals := 29 } : Room)) (fun aa U => aa = #[(.ref x), (.ref b)] ∧ Z.Warmed39 U.vm ∧ U.heap = h0 ∧ CHv Z EL U.vm h0 ∧ ∀ yy ∈ ([x] : List Addr), Safe Z EL U.vm h0 yy) (fun _ _ _ _ _ => True) (fun _ U o U' => ∃ v L, o = .returned v ∧ (Q_rmE1 Z x b kc dv h0) v U'.heap L ∧ CHr Z EL U.vm U.heap U'.vm U'.heap ∧ ReturnedEndW U o U' L ({ frames := 2, cells := 4, slots := 8, locals := 29 } : Room).cells ({ frames := 2, cells := 4, slots := 8, locals := 29 } : Room).slots) := by
  refine own_walkW (by exact pnS) ?_
  intro p e s m below meth c T0 X0 hx hby hml hret hlk hnm hs0 e0 I0 hsf F hF
  refine own_on (fun _ => castTop (efE1 m x b)) ?_
  have N0 := Fr.nil Z.heap.size
  have Q0 := Keep.refl h0 [x]
  refine own_aload_n X0.here hx (hb hby dE1_0) rfl rfl (pc' := 1) rfl ?_
  refine own_aload_n X0.here hx (hb hby dE1_1) rfl rfl (pc' := 2) rfl ?_
  refine own_iconst X0.here hx (hb hby dE1_2) (v := 0) rfl (pc' := 3) rfl ?_
  refine own_aload_n X0.here hx (hb hby dE1_3) rfl rfl (pc' := 4) rfl ?_
  refine own_alen X0 hx I0.1 e0 V0 (hb hby dE1_4) (pc' := 5) rfl ?_
  refine own_aconst_null X0.here hx (hb hby dE1_5) (pc' := 6) rfl ?_
  obtain ⟨_, _, ⟨T1, L1, k1, n1⟩, -, X1, hS1, hG1, ⟨Lc1, hQ1, l1, y1, z1, C1⟩, st1⟩ := X0.specialBackS hx (y := (⟨"java/lang/String", "<init>", "([CIILjava/lang/Void;)V"⟩ : MethodName)) rfl I0.2.1 (mvT I0.1 (hw _ (List.mem_of_getElem? (i := 14) rfl))) (mvT I0.1 (hw _ (List.mem_of_getElem? (i := 15) rfl))) (mvT I0.1 (hw _ (List.mem_of_getElem? (i := 17) rfl))) (by decide) (own_backW (W := 0) (rmE4 l Z a0 hw hEL x b h0 ga A0 Fv Fc) I0.1 (hw _ (List.mem_of_getElem? (i := 17) rfl)) (hw _ (List.mem_of_getElem? (i := 10) rfl)) (by decide) (by decide) hEL I0.ch (fun y hy => by simp only [List.mem_cons, List.not_mem_nil, or_false] at hy; subst hy; exact ⟨A0.lt, hsf _ (by simp)⟩)) (g := (mkF m 6 #[.val (.ref x), .val (.ref b)] [.null, (.int ((0 : Int32))), (.int ((0 : Int32))), (.ref b), (.ref x)])) rfl (by rw [hml]; rfl) (Steps.refl _) (a := x) (argsL := [(.ref b), (.int ((0 : Int32))), (.int ((0 : Int32))), .null]) (rest := []) (lenOf pdE4 rfl) rfl (by show 2 * 0 + _ ≤ _; exact Nat.le_of_eq rfl) (hb hby dE1_6) (fun _ _ => ⟨rfl, e0, (Nat.le_of_ble_eq_true rfl), (Nat.le_of_ble_eq_true rfl)⟩)
  dsimp only [Pt.U, Pt.locs, Pt.cells, Pt.slots] at X1 hS1 hG1 l1 y1 z1 C1 st1 hQ1
  rw [l1, y1, z1] at X1
  replace X1 := (show Stand _ _ _ _ (s.setVm T1.vm) _ _ _ _ _ _ _ _ _ from X1)
  have I1 := I0.later hS1 (Nat.le_refl _) (by have q := hG1; rw [(e0 : _ = h0)] at q; exact q) C1
  obtain ⟨rfl, N1, K1, S1⟩ := hQ1
  refine own_to st1 ?_
  show own_Go p e below F (T1.setTop (mkF m 9 #[.val (.ref x), .val (.ref b)] []))
  have f2 := Q0.trans K1 (fun y hy => by simp only [List.mem_cons, List.not_mem_nil, or_false] at hy; rcases hy with rfl <;> first | exact Or.inr (by assumption) | exact Or.inl (by simp))
  have N3 := Fr.app N0 N1
  exact own_retVW X1 hx hlk hEL I1 rfl hret (hb hby dE1_9) (fun t ht hC hE => hF t _ _ _ _ (by rw [ht]; exact ⟨rfl, N3, f2, S1⟩) hC hE (by decide) (by decide))
theorem pnL : plainName "com/example/kerb/kerb/call/AppendOnlyTextSnapshotPinLaw" = true := by first | (simp [plainName, overriddenIn]; done) | decide +kernel
theorem pnAT : plainName "com/example/kerb/kerb/call/AppendOnlyText" = true := by first | (simp [plainName, overriddenIn]; done) | decide +kernel
theorem pnSN : plainName "com/example/kerb/kerb/call/AppendOnlyText$Snapshot" = true := by first | (simp [plainName, overriddenIn]; done) | decide +kernel
theorem pnPC : plainName "jdk/internal/util/Preconditions" = true := by first | (simp [plainName, overriddenIn]; done) | decide +kernel
theorem pnSL : plainName "java/lang/StringLatin1" = true := by first | (simp [plainName, overriddenIn]; done) | decide +kernel
theorem pnAR : plainName "java/util/Arrays" = true := by first | (simp [plainName, overriddenIn]; done) | decide +kernel
theorem efR (m : MethodId) (x0 : Addr) : entryFrame m #[(.ref x0)] 1 = mkF m 0 #[.val (.ref x0)] [] := by first | (simp [entryFrame, mkF, argsToLocals, Value.category]; done) | rfl
theorem pdx2 : parseMethodDescriptor "(I)I" = some ⟨[.int], some .int⟩ := by decide +kernel
theorem pdx3 : parseMethodDescriptor "(I)[B" = some ⟨[.int], some (.array .byte)⟩ := by decide +kernel
theorem pdx4 : parseMethodDescriptor "([BII)V" = some ⟨[.array .byte, .int, .int], none⟩ := by decide +kernel
theorem pdx5 : parseMethodDescriptor "([CII)[B" = some ⟨[.array .char, .int, .int], some (.array .byte)⟩ := by decide +kernel
theorem pdx6 : parseMethodDescriptor "([BI)C" = some ⟨[.array .byte, .int], some .char⟩ := by decide +kernel
theorem pdx7 : parseMethodDescriptor "([CI[BII)I" = some ⟨[.array .char, .int, .array .byte, .int, .int], some .int⟩ := by decide +kernel
theorem pdx8 : parseMethodDescriptor "([BI)B" = some ⟨[.array .byte, .int], some .byte⟩ := by decide +kernel
theorem pnU : plainName "java/lang/StringUTF16" = true := by first | (simp [plainName, overriddenIn]; done) | decide +kernel
theorem dNL_0 : decode jdk_52_method_3_code 0 = .ok (.iload_n 0, 1) := by decide +kernel
theorem dNL_1 : decode jdk_52_method_3_code 1 = .ok (.ifCond .ge 11, 3) := by decide +kernel
theorem dNL_4 : decode jdk_52_method_3_code 4 = .ok (.new 17, 3) := by decide +kernel
theorem dNL_7 : decode jdk_52_method_3_code 7 = .ok (.dup, 1) := by decide +kernel
theorem dNL_8 : decode jdk_52_method_3_code 8 = .ok (.invokespecial 19, 3) := by decide +kernel
theorem dNL_11 : decode jdk_52_method_3_code 11 = .ok (.athrow, 1) := by decide +kernel
theorem dNL_12 : decode jdk_52_method_3_code 12 = .ok (.iload_n 0, 1) := by decide +kernel
theorem dNL_13 : decode jdk_52_method_3_code 13 = .ok (.ldc 20, 2) := by decide +kernel
theorem dNL_15 : decode jdk_52_method_3_code 15 = .ok (.if_icmp .lt 40, 3) := by decide +kernel
theorem dNL_18 : decode jdk_52_method_3_code 18 = .ok (.new 21, 3) := by decide +kernel
theorem dNL_21 : decode jdk_52_method_3_code 21 = .ok (.dup, 1) := by decide +kernel
theorem dNL_22 : decode jdk_52_method_3_code 22 = .ok (.new 23, 3) := by decide +kernel
theorem dNL_25 : decode jdk_52_method_3_code 25 = .ok (.dup, 1) := by decide +kernel
theorem dNL_26 : decode jdk_52_method_3_code 26 = .ok (.invokespecial 25, 3) := by decide +kernel
theorem dNL_29 : decode jdk_52_method_3_code 29 = .ok (.ldc 26, 2) := by decide +kernel
theorem dNL_31 : decode jdk_52_method_3_code 31 = .ok (.invokevirtual 28, 3) := by decide +kernel
theorem dNL_34 : decode jdk_52_method_3_code 34 = .ok (.iload_n 0, 1) := by decide +kernel
theorem dNL_35 : decode jdk_52_method_3_code 35 = .ok (.invokevirtual 32, 3) := by decide +kernel
theorem dNL_38 : decode jdk_52_method_3_code 38 = .ok (.ldc 35, 2) := by decide +kernel
theorem dNL_40 : decode jdk_52_method_3_code 40 = .ok (.invokevirtual 28, 3) := by decide +kernel
theorem dNL_43 : decode jdk_52_method_3_code 43 = .ok (.ldc 20, 2) := by decide +kernel
theorem dNL_45 : decode jdk_52_method_3_code 45 = .ok (.invokevirtual 32, 3) := by decide +kernel
theorem dNL_48 : decode jdk_52_method_3_code 48 = .ok (.invokevirtual 37, 3) := by decide +kernel
theorem dNL_51 : decode jdk_52_method_3_code 51 = .ok (.invokespecial 41, 3) := by decide +kernel
theorem dNL_54 : decode jdk_52_method_3_code 54 = .ok (.athrow, 1) := by decide +kernel
theorem dNL_55 : decode jdk_52_method_3_code 55 = .ok (.iload_n 0, 1) := by decide +kernel
theorem dNL_56 : decode jdk_52_method_3_code 56 = .ok (.iconst 1, 1) := by decide +kernel
theorem dNL_57 : decode jdk_52_method_3_code 57 = .ok (.ishl, 1) := by decide +kernel
theorem dNL_58 : decode jdk_52_method_3_code 58 = .ok (.ireturn, 1) := by decide +kernel
theorem efI1 (m : MethodId) (x0 : Int32) : entryFrame m #[(.int x0)] 1 = mkF m 0 #[.val (.int x0)] [] := by first | (simp [entryFrame, mkF, argsToLocals, Value.category]; done) | rfl
def Q_rmNL (Z : State) (n : Nat) (h0 : Heap) (v : Option Value) (h : Heap) (L : List Loc) : Prop := v = some (.int (Int32.ofNat (2 * n))) ∧ Fr Z.heap.size L ∧ h = h0
set_option maxRecDepth 65536 in
set_option maxHeartbeats 40000000 in
theorem rmNL (l : Launch) (Z : State) (a0 : Array Value) (hw : ∀ d ∈ tables_1, d.before a0 Z = true) (n : Nat) (h0 : Heap) (hn : n ≤ 4000) :
    MetFree l (⟨"java/lang/StringUTF16", "newBytesLength", "(I)I"⟩ : MethodName) (head1 (Jvm.Cond.code (⟨"java/lang/StringUTF16", "newBytesLength", "(I)I"⟩ : MethodName) jdk_52_method_3_code 1 (Option.some FieldType.int) :: []) ({ frames := 0, cells := 0, slots := 0, locals := 0 } : Room)) (fun aa U => aa = #[(.int (Int32.ofNat n))] ∧ Z.Warmed39 U.vm ∧ U.heap = h0) (fun _ _ _ _ _ => True) (fun _ U o U' => ∃ v L, o = .returned v ∧ (Q_rmNL Z n h0) v U'.heap L ∧ FrameEnd U o U' L ({ frames := 0, cells := 0, slots := 0, locals := 0 } : Room).cells ({ frames := 0, cells := 0, slots := 0, locals := 0 } : Room).slots) := by
  refine own_walkN (by exact pnU) ?_
  intro p e s m below meth c T0 X0 hx hby hml hret hlk hnm hown hZ e0 es0 F hF
  refine own_on (fun _ => castTop (efI1 m _)) ?_
  have N0 := Fr.nil Z.heap.size
  refine own_iload_n X0.here hx (hb hby dNL_0) rfl (pc' := 1) rfl ?_
  refine own_ifge X0.here hx (hb hby dNL_1) (by decide) (pc' := 12) (by decide) (pc2 := 4) rfl (fun q1 => ?_) (fun q => absurd q (own_nn (by omega)))
  refine own_iload_n X0.here hx (hb hby dNL_12) rfl (pc' := 13) rfl ?_
  refine own_on (fun _ => X0.ldcI hx hown (mv hZ (hw _ (List.mem_of_getElem? (i := 189) rfl))) (g := (mkF m 13 #[.val (.int (Int32.ofNat n))] [(.int (Int32.ofNat n))])) rfl (hb hby dNL_13)) ?_
  show own_Go p e below F (T0.setTop (mkF m 15 #[.val (.int (Int32.ofNat n))] [(.int ((1073741823 : Int32))), (.int (Int32.ofNat n))]))
  refine own_icmplt X0.here hx (hb hby dNL_15) (by decide) (pc' := 55) (by decide) (pc2 := 18) rfl (fun q2 => ?_) (fun q => absurd (show Int32.ofNat n < 1073741823 by rw [Int32.lt_iff_toInt_lt, own_toInt (by omega)]; show (n : Int) < 1073741823; omega) q)
  refine own_iload_n X0.here hx (hb hby dNL_55) rfl (pc' := 56) rfl ?_
  refine own_iconst X0.here hx (hb hby dNL_56) (v := 1) rfl (pc' := 57) rfl ?_
  refine own_ishl X0.here hx (hb hby dNL_57) (pc' := 58) rfl ?_
  rw [own_shl1 (by omega)]
  show own_Go p e below F (T0.setTop (mkF m 58 #[.val (.int (Int32.ofNat n))] [(.int (Int32.ofNat (2 * n)))]))
  exact own_retI X0 hx hlk hret (hb hby dNL_58) (fun t ht hE => hF t _ _ _ _ (by rw [ht, (e0 : _ = h0)]; exact ⟨rfl, Fr.nil _, rfl⟩) hE (by decide) (by decide))
theorem dNF_0 : decode jdk_52_method_2_code 0 = .ok (.iload_n 0, 1) := by decide +kernel
theorem dNF_1 : decode jdk_52_method_2_code 1 = .ok (.invokestatic 11, 3) := by decide +kernel
theorem dNF_4 : decode jdk_52_method_2_code 4 = .ok (.newarray .byte, 2) := by decide +kernel
theorem dNF_6 : decode jdk_52_method_2_code 6 = .ok (.areturn, 1) := by decide +kernel
def Q_rmNF (Z : State) (n : Nat) (h0 : Heap) (v : Option Value) (h : Heap) (L : List Loc) : Prop := ∃ t kt, v = some (.ref t) ∧ Ext h0 h ∧ Fr Z.heap.size L ∧ h0.size ≤ t ∧ Arv Z h t kt .byte (Int32.ofNat (2 * n)) (List.replicate (2 * n) (.int 0)) (.int 0)
set_option maxRecDepth 65536 in
set_option maxHeartbeats 40000000 in
theorem rmNF (l : Launch) (Z : State) (a0 : Array Value) (hw : ∀ d ∈ tables_1, d.before a0 Z = true) (n : Nat) (h0 : Heap) (hn : n ≤ 16) :
    MetFree l (⟨"java/lang/StringUTF16", "newBytesFor", "(I)[B"⟩ : MethodName) (head1 (Jvm.Cond.code (⟨"java/lang/StringUTF16", "newBytesFor", "(I)[B"⟩ : MethodName) jdk_52_method_2_code 1 (Option.some (FieldType.array FieldType.byte)) :: []) ({ frames := 1, cells := 1, slots := 32, locals := 12 } : Room)) (fun aa U => aa = #[(.int (Int32.ofNat n))] ∧ Z.Warmed39 U.vm ∧ U.heap = h0) (fun _ _ _ _ _ => True) (fun _ U o U' => ∃ v L, o = .returned v ∧ (Q_rmNF Z n h0) v U'.heap L ∧ FrameEnd U o U' L ({ frames := 1, cells := 1, slots := 32, locals := 12 } : Room).cells ({ frames := 1, cells := 1, slots := 32, locals := 12 } : Room).slots) := by
  refine own_walkN (by exact pnU) ?_
  intro p e s m below meth c T0 X0 hx hby hml hret hlk hnm hown hZ e0 es0 F hF
  refine own_on (fun _ => castTop (efI1 m _)) ?_
  have M0 := own_ext_refl h0
  have N0 := Fr.nil Z.heap.size
  refine own_iload_n X0.here hx (hb hby dNF_0) rfl (pc' := 1) rfl ?_
  obtain ⟨_, _, ⟨T1, L1, k1, n1⟩, -, X1, ⟨Lc1, hQ1, l1, y1, z1⟩, st1⟩ := Jvm.LawKit.callS X0 hx (y := (⟨"java/lang/StringUTF16", "newBytesLength", "(I)I"⟩ : MethodName)) hown (mvT hZ (hw _ (List.mem_of_getElem? (i := 186) rfl))) (mvT hZ (hw _ (List.mem_of_getElem? (i := 187) rfl))) (mvT hZ (hw _ (List.mem_of_getElem? (i := 123) rfl))) (mvT hZ (hw _ (List.mem_of_getElem? (i := 188) rfl))) (by decide) (backOf (W := 0) (rmNL l Z a0 hw n h0 (by omega)) hZ (hw _ (List.mem_of_getElem? (i := 188) rfl)) (hw _ (List.mem_of_getElem? (i := 123) rfl)) (by decide) (by decide)) (g := (mkF m 1 #[.val (.int (Int32.ofNat n))] [(.int (Int32.ofNat n))])) rfl (by rw [hml]; rfl) (argsL := [(.int (Int32.ofNat n))]) (rest := []) (lenOf pdx2 rfl) rfl (by show 2 * 0 + _ ≤ _; exact Nat.le_of_eq rfl) (hb hby dNF_1) (fun _ _ => ⟨rfl, e0, (Nat.le_of_ble_eq_true rfl), (Nat.le_of_ble_eq_true rfl)⟩)
  dsimp only [Pt.U, Pt.locs, Pt.cells, Pt.slots] at X1 l1 y1 z1 st1 hQ1
  rw [l1, y1, z1] at X1
  obtain ⟨rfl, N1, E1⟩ := hQ1
  refine own_on (st1) ?_
  show own_Go p e below F (T1.setTop (mkF m 4 #[.val (.int (Int32.ofNat n))] [(.int (Int32.ofNat (2 * n)))]))
  have N2 := Fr.app N0 N1
  obtain ⟨T3, h3, k3, X3, e3, E3, A3, st3⟩ := newP X1 hx hZ (hw _ (List.mem_of_getElem? (i := 22) rfl)) E1 (g := (mkF m 4 #[.val (.int (Int32.ofNat n))] [(.int (Int32.ofNat (2 * n)))])) rfl (hb hby dNF_4) rfl (own_nn (by omega)) (cap := 32) (by rw [own_tn (by omega)]; omega) (by decide) (by decide) (by decide)
  obtain ⟨a3, g3⟩ : ∃ z, z = h0.size := ⟨_, rfl⟩
  rw [← g3] at A3 st3
  have ge4 : h0.size ≤ a3 := by rw [g3]; exact M0.1
  have f5 := own_ext_trans M0 E3
  have V3 := (Arv.new A3 (own_nn (by omega))).pad (pad_rep [] (defaultValue (newarray.typeOf .byte)) (Int32.ofNat (2 * n)).toNatClampNeg)
  refine own_on st3 ?_
  show own_Go p e below F (T3.setTop (mkF m 6 #[.val (.int (Int32.ofNat n))] [(.ref a3)]))
  have V9 : Arv Z h3 a3 k3 .byte (Int32.ofNat (2 * n)) (List.replicate (2 * n) (.int 0)) (.int 0) := by have q := V3; rw [own_tn (by omega), List.nil_append] at q; exact q
  exact own_retA X3 hx hlk hret rfl rfl (hb hby dNF_6) (fun t ht hE => hF t _ _ _ _ (by rw [ht, (e3 : _ = h3)]; exact ⟨_, _, rfl, f5, N2, ge4, V9⟩) hE (by decide) (by decide))
theorem dPu_0 : decode jdk_52_method_4_code 0 = .ok (.getstatic 44, 3) := by decide +kernel
theorem dPu_3 : decode jdk_52_method_4_code 3 = .ok (.ifCond .ne 25, 3) := by decide +kernel
theorem dPu_6 : decode jdk_52_method_4_code 6 = .ok (.iload_n 1, 1) := by decide +kernel
theorem dPu_7 : decode jdk_52_method_4_code 7 = .ok (.ifCond .lt 11, 3) := by decide +kernel
theorem dPu_10 : decode jdk_52_method_4_code 10 = .ok (.iload_n 1, 1) := by decide +kernel
theorem dPu_11 : decode jdk_52_method_4_code 11 = .ok (.aload_n 0, 1) := by decide +kernel
theorem dPu_12 : decode jdk_52_method_4_code 12 = .ok (.invokestatic 48, 3) := by decide +kernel
theorem dPu_15 : decode jdk_52_method_4_code 15 = .ok (.if_icmp .lt 13, 3) := by decide +kernel
theorem dPu_18 : decode jdk_52_method_4_code 18 = .ok (.new 52, 3) := by decide +kernel
theorem dPu_21 : decode jdk_52_method_4_code 21 = .ok (.dup, 1) := by decide +kernel
theorem dPu_22 : decode jdk_52_method_4_code 22 = .ok (.ldc 54, 2) := by decide +kernel
theorem dPu_24 : decode jdk_52_method_4_code 24 = .ok (.invokespecial 56, 3) := by decide +kernel
theorem dPu_27 : decode jdk_52_method_4_code 27 = .ok (.athrow, 1) := by decide +kernel
theorem dPu_28 : decode jdk_52_method_4_code 28 = .ok (.iload_n 1, 1) := by decide +kernel
theorem dPu_29 : decode jdk_52_method_4_code 29 = .ok (.iconst 1, 1) := by decide +kernel
theorem dPu_30 : decode jdk_52_method_4_code 30 = .ok (.ishl, 1) := by decide +kernel
theorem dPu_31 : decode jdk_52_method_4_code 31 = .ok (.istore_n 1, 1) := by decide +kernel
theorem dPu_32 : decode jdk_52_method_4_code 32 = .ok (.aload_n 0, 1) := by decide +kernel
theorem dPu_33 : decode jdk_52_method_4_code 33 = .ok (.iload_n 1, 1) := by decide +kernel
theorem dPu_34 : decode jdk_52_method_4_code 34 = .ok (.iinc 1 1, 3) := by decide +kernel
theorem dPu_37 : decode jdk_52_method_4_code 37 = .ok (.iload_n 2, 1) := by decide +kernel
theorem dPu_38 : decode jdk_52_method_4_code 38 = .ok (.getstatic 59, 3) := by decide +kernel
theorem dPu_41 : decode jdk_52_method_4_code 41 = .ok (.ishr, 1) := by decide +kernel
theorem dPu_42 : decode jdk_52_method_4_code 42 = .ok (.i2b, 1) := by decide +kernel
theorem dPu_43 : decode jdk_52_method_4_code 43 = .ok (.bastore, 1) := by decide +kernel
theorem dPu_44 : decode jdk_52_method_4_code 44 = .ok (.aload_n 0, 1) := by decide +kernel
theorem dPu_45 : decode jdk_52_method_4_code 45 = .ok (.iload_n 1, 1) := by decide +kernel
theorem dPu_46 : decode jdk_52_method_4_code 46 = .ok (.iload_n 2, 1) := by decide +kernel
theorem dPu_47 : decode jdk_52_method_4_code 47 = .ok (.getstatic 63, 3) := by decide +kernel
theorem dPu_50 : decode jdk_52_method_4_code 50 = .ok (.ishr, 1) := by decide +kernel
theorem dPu_51 : decode jdk_52_method_4_code 51 = .ok (.i2b, 1) := by decide +kernel
theorem dPu_52 : decode jdk_52_method_4_code 52 = .ok (.bastore, 1) := by decide +kernel
theorem dPu_53 : decode jdk_52_method_4_code 53 = .ok (.return_, 1) := by decide +kernel
theorem efPu (m : MethodId) (x0 : Addr) (x1 : Int32) (x2 : Int32) : entryFrame m #[(.ref x0), (.int x1), (.int x2)] 3 = mkF m 0 #[.val (.ref x0), .val (.int x1), .val (.int x2)] [] := by first | (simp [entryFrame, mkF, argsToLocals, Value.category]; done) | rfl
def Q_rmPu (Z : State) (t : Addr) (kt : ClassId) (vs : List Value) (n i : Nat) (c0 : Int32) (h0 : Heap) (v : Option Value) (h : Heap) (L : List Loc) : Prop := v = none ∧ Fr Z.heap.size L ∧ Keep h0 h [t] ∧ Arv Z h t kt .byte (Int32.ofNat (2 * n)) ((vs.set (2 * i) (.int c0.toInt8.toInt32)).set (2 * i + 1) (.int (StrChars.hi8 c0))) (.int 0)
set_option maxRecDepth 65536 in
set_option maxHeartbeats 40000000 in
theorem rmPu (l : Launch) (Z : State) (a0 : Array Value) (hw : ∀ d ∈ tables_1, d.before a0 Z = true) (t : Addr) (kt : ClassId) (vs : List Value) (n i : Nat) (c0 : Int32) (h0 : Heap) (EZ : Ext Z.heap h0) (O3 : Sta Z Z.heap "java/lang/StringUTF16" "$assertionsDisabled" "Z" (.int 1)) (O4 : Sta Z Z.heap "java/lang/StringUTF16" "HI_BYTE_SHIFT" "I" (.int 0)) (O5 : Sta Z Z.heap "java/lang/StringUTF16" "LO_BYTE_SHIFT" "I" (.int 8)) (gt : Z.heap.size ≤ t) (A0 : Arv Z h0 t kt .byte (Int32.ofNat (2 * n)) vs (.int 0)) (hv : vs.length = 2 * n) (hi : i < n) (hn : n ≤ 4000) :
    MetFree l (⟨"java/lang/StringUTF16", "putChar", "([BII)V"⟩ : MethodName) (head1 (Jvm.Cond.code (⟨"java/lang/StringUTF16", "putChar", "([BII)V"⟩ : MethodName) jdk_52_method_4_code 3 (Option.none : Option FieldType) :: []) ({ frames := 0, cells := 0, slots := 0, locals := 0 } : Room)) (fun aa U => aa = #[(.ref t), (.int (Int32.ofNat i)), (.int c0)] ∧ Z.Warmed39 U.vm ∧ U.heap = h0) (fun _ _ _ _ _ => True) (fun _ U o U' => ∃ v L, o = .returned v ∧ (Q_rmPu Z t kt vs n i c0 h0) v U'.heap L ∧ FrameEnd U o U' L ({ frames := 0, cells := 0, slots := 0, locals := 0 } : Room).cells ({ frames := 0, cells := 0, slots := 0, locals := 0 } : Room).slots) := by
  refine own_walkN (by exact pnU) ?_
  intro p e s m below meth c T0 X0 hx hby hml hret hlk hnm hown hZ e0 es0 F hF
  refine own_on (fun _ => castTop (efPu m t _ c0)) ?_
  have N0 := Fr.nil Z.heap.size
  have Q0 := Keep.refl h0 [t]
  have M0 := own_ext_refl h0
  obtain ⟨T1, X1, e1, st1⟩ := getS (host := "") X0 hx hZ hown (hw _ (List.mem_of_getElem? (i := 193) rfl)) Via.refl e0 (O3.ext EZ) (g := (mkF m 0 #[.val (.ref t), .val (.int (Int32.ofNat i)), .val (.int c0)] [])) rfl (hb hby dPu_0)
  refine own_on st1 ?_
  show own_Go p e below F (T1.setTop (mkF m 3 #[.val (.ref t), .val (.int (Int32.ofNat i)), .val (.int c0)] [(.int ((1 : Int32)))]))
  refine own_ifne X1.here hx (hb hby dPu_3) (by decide) (pc' := 28) (by decide) (pc2 := 6) rfl (fun q2 => ?_) (fun q => absurd q (by decide))
  refine own_iload_n X1.here hx (hb hby dPu_28) rfl (pc' := 29) rfl ?_
  refine own_iconst X1.here hx (hb hby dPu_29) (v := 1) rfl (pc' := 30) rfl ?_
  refine own_ishl X1.here hx (hb hby dPu_30) (pc' := 31) rfl ?_
  rw [own_shl1 (by omega)]
  show own_Go p e below F (T1.setTop (mkF m 31 #[.val (.ref t), .val (.int (Int32.ofNat i)), .val (.int c0)] [(.int (Int32.ofNat (2 * i)))]))
  refine own_istore_n X1.here hx (hb hby dPu_31) (L' := #[.val (.ref t), .val (.int (Int32.ofNat (2 * i))), .val (.int c0)]) rfl (pc' := 32) rfl ?_
  refine own_aload_n X1.here hx (hb hby dPu_32) rfl rfl (pc' := 33) rfl ?_
  refine own_iload_n X1.here hx (hb hby dPu_33) rfl (pc' := 34) rfl ?_
  refine own_iinc X1.here hx (hb hby dPu_34) rfl (y := Int32.ofNat (2 * i + 1)) (own_inc _) (L' := #[.val (.ref t), .val (.int (Int32.ofNat (2 * i + 1))), .val (.int c0)]) rfl (pc' := 37) rfl ?_
  refine own_iload_n X1.here hx (hb hby dPu_37) rfl (pc' := 38) rfl ?_
  obtain ⟨T3, X3, e3, st3⟩ := getS (host := "") X1 hx hZ hown (hw _ (List.mem_of_getElem? (i := 194) rfl)) Via.refl e1 (O4.ext EZ) (g := (mkF m 38 #[.val (.ref t), .val (.int (Int32.ofNat (2 * i + 1))), .val (.int c0)] [(.int c0), (.int (Int32.ofNat (2 * i))), (.ref t)])) rfl (hb hby dPu_38)
  refine own_on st3 ?_
  show own_Go p e below F (T3.setTop (mkF m 41 #[.val (.ref t), .val (.int (Int32.ofNat (2 * i + 1))), .val (.int c0)] [(.int ((0 : Int32))), (.int c0), (.int (Int32.ofNat (2 * i))), (.ref t)]))
  refine own_ishr X3.here hx (hb hby dPu_41) (pc' := 42) rfl ?_
  rw [own_shr0]
  show own_Go p e below F (T3.setTop (mkF m 42 #[.val (.ref t), .val (.int (Int32.ofNat (2 * i + 1))), .val (.int c0)] [(.int c0), (.int (Int32.ofNat (2 * i))), (.ref t)]))
  refine own_i2b X3.here hx (hb hby dPu_42) (pc' := 43) rfl ?_
  obtain ⟨T4, h4, X4, e4, W4, V4, st4⟩ := own_bast X3 hx hZ e3 A0 (i := 2 * i) (own_tn (by omega)) (by omega) ⟨own_nn (by omega), own_ltN (by omega) (by omega)⟩  (g := (mkF m 43 #[.val (.ref t), .val (.int (Int32.ofNat (2 * i + 1))), .val (.int c0)] [(.int c0.toInt8.toInt32), (.int (Int32.ofNat (2 * i))), (.ref t)])) rfl rfl (hb hby dPu_43)
  have f5 := Q0.wr W4 (Or.inl (by simp))
  have N6 := own_Fr_snoc (sl := (Int32.ofNat (2 * i)).toNatClampNeg) N0 gt
  refine own_on st4 ?_
  show own_Go p e below F (T4.setTop (mkF m 44 #[.val (.ref t), .val (.int (Int32.ofNat (2 * i + 1))), .val (.int c0)] []))
  have EZ1 : Ext Z.heap h4 := own_ext_keep EZ f5 (fun y hy => by simp only [List.mem_cons, List.not_mem_nil, or_false] at hy; subst hy; exact gt)
  refine own_aload_n X4.here hx (hb hby dPu_44) rfl rfl (pc' := 45) rfl ?_
  refine own_iload_n X4.here hx (hb hby dPu_45) rfl (pc' := 46) rfl ?_
  refine own_iload_n X4.here hx (hb hby dPu_46) rfl (pc' := 47) rfl ?_
  obtain ⟨T7, X7, e7, st7⟩ := getS (host := "") X4 hx hZ hown (hw _ (List.mem_of_getElem? (i := 195) rfl)) Via.refl e4 (O5.ext EZ1) (g := (mkF m 47 #[.val (.ref t), .val (.int (Int32.ofNat (2 * i + 1))), .val (.int c0)] [(.int c0), (.int (Int32.ofNat (2 * i + 1))), (.ref t)])) rfl (hb hby dPu_47)
  refine own_on st7 ?_
  show own_Go p e below F (T7.setTop (mkF m 50 #[.val (.ref t), .val (.int (Int32.ofNat (2 * i + 1))), .val (.int c0)] [(.int ((8 : Int32))), (.int c0), (.int (Int32.ofNat (2 * i + 1))), (.ref t)]))
  refine own_ishr X7.here hx (hb hby dPu_50) (pc' := 51) rfl ?_
  refine own_i2b X7.here hx (hb hby dPu_51) (pc' := 52) rfl ?_
  obtain ⟨T8, h8, X8, e8, W8, V8, st8⟩ := own_bast X7 hx hZ e7 V4 (i := 2 * i + 1) (own_tn (by omega)) (by rw [List.length_set]; omega) ⟨own_nn (by omega), own_ltN (by omega) (by omega)⟩  (g := (mkF m 52 #[.val (.ref t), .val (.int (Int32.ofNat (2 * i + 1))), .val (.int c0)] [(.int ((c0 >>> ((8 : Int32) &&& 31)).toInt8.toInt32)), (.int (Int32.ofNat (2 * i + 1))), (.ref t)])) rfl rfl (hb hby dPu_52)
  have f9 := f5.wr W8 (Or.inl (by simp))
  have N10 := own_Fr_snoc (sl := (Int32.ofNat (2 * i + 1)).toNatClampNeg) N6 gt
  refine own_on st8 ?_
  show own_Go p e below F (T8.setTop (mkF m 53 #[.val (.ref t), .val (.int (Int32.ofNat (2 * i + 1))), .val (.int c0)] []))
  exact own_retV X8 hx hlk hret (hb hby dPu_53) (fun t ht hE => hF t _ _ _ _ (by rw [ht, (e8 : _ = h8)]; exact ⟨rfl, N10, f9, V8⟩) hE (by decide) (by decide))
theorem dTB_0 : decode jdk_52_method_14_code 0 = .ok (.iload_n 2, 1) := by decide +kernel
theorem dTB_1 : decode jdk_52_method_14_code 1 = .ok (.invokestatic 107, 3) := by decide +kernel
theorem dTB_4 : decode jdk_52_method_14_code 4 = .ok (.astore_n 3, 1) := by decide +kernel
theorem dTB_5 : decode jdk_52_method_14_code 5 = .ok (.iconst 0, 1) := by decide +kernel
theorem dTB_6 : decode jdk_52_method_14_code 6 = .ok (.istore 4, 2) := by decide +kernel
theorem dTB_8 : decode jdk_52_method_14_code 8 = .ok (.iload 4, 2) := by decide +kernel
theorem dTB_10 : decode jdk_52_method_14_code 10 = .ok (.iload_n 2, 1) := by decide +kernel
theorem dTB_11 : decode jdk_52_method_14_code 11 = .ok (.if_icmp .ge 21, 3) := by decide +kernel
theorem dTB_14 : decode jdk_52_method_14_code 14 = .ok (.aload_n 3, 1) := by decide +kernel
theorem dTB_15 : decode jdk_52_method_14_code 15 = .ok (.iload 4, 2) := by decide +kernel
theorem dTB_17 : decode jdk_52_method_14_code 17 = .ok (.aload_n 0, 1) := by decide +kernel
theorem dTB_18 : decode jdk_52_method_14_code 18 = .ok (.iload_n 1, 1) := by decide +kernel
theorem dTB_19 : decode jdk_52_method_14_code 19 = .ok (.caload, 1) := by decide +kernel
theorem dTB_20 : decode jdk_52_method_14_code 20 = .ok (.invokestatic 111, 3) := by decide +kernel
theorem dTB_23 : decode jdk_52_method_14_code 23 = .ok (.iinc 1 1, 3) := by decide +kernel
theorem dTB_26 : decode jdk_52_method_14_code 26 = .ok (.iinc 4 1, 3) := by decide +kernel
theorem dTB_29 : decode jdk_52_method_14_code 29 = .ok (.goto (-21), 3) := by decide +kernel
theorem dTB_32 : decode jdk_52_method_14_code 32 = .ok (.aload_n 3, 1) := by decide +kernel
theorem dTB_33 : decode jdk_52_method_14_code 33 = .ok (.areturn, 1) := by decide +kernel
theorem efTB (m : MethodId) (x0 : Addr) (x1 : Int32) (x2 : Int32) : entryFrame m #[(.ref x0), (.int x1), (.int x2)] 5 = mkF m 0 #[.val (.ref x0), .val (.int x1), .val (.int x2), .unset, .unset] [] := by first | (simp [entryFrame, mkF, argsToLocals, Value.category]; done) | rfl
def Q_rmTB (Z : State) (ar : Addr) (ka : ClassId) (cs : List Int32) (N : Int32) (d0 : Value) (n : Nat) (h0 : Heap) (v : Option Value) (h : Heap) (L : List Loc) : Prop := ∃ t kt, v = some (.ref t) ∧ Ext h0 h ∧ Fr Z.heap.size L ∧ h0.size ≤ t ∧ Arv Z h t kt .byte (Int32.ofNat (2 * n)) (own_wi cs n n) (.int 0)
set_option maxRecDepth 65536 in
set_option maxHeartbeats 40000000 in
theorem rmTB (l : Launch) (Z : State) (a0 : Array Value) (hw : ∀ d ∈ tables_1, d.before a0 Z = true) (ar : Addr) (ka : ClassId) (cs : List Int32) (N : Int32) (d0 : Value) (n : Nat) (h0 : Heap) (EZ : Ext Z.heap h0) (O3 : Sta Z Z.heap "java/lang/StringUTF16" "$assertionsDisabled" "Z" (.int 1)) (O4 : Sta Z Z.heap "java/lang/StringUTF16" "HI_BYTE_SHIFT" "I" (.int 0)) (O5 : Sta Z Z.heap "java/lang/StringUTF16" "LO_BYTE_SHIFT" "I" (.int 8)) (A0 : Arv Z h0 ar ka .char N (cs.map Value.int) d0) (hN : N = Int32.ofNat cs.length) (hc : n ≤ cs.length) (hl : cs.length ≤ 4000) (hn : n ≤ 16) :
    MetFree l (⟨"java/lang/StringUTF16", "toBytes", "([CII)[B"⟩ : MethodName) (head1 (Jvm.Cond.code (⟨"java/lang/StringUTF16", "toBytes", "([CII)[B"⟩ : MethodName) jdk_52_method_14_code 5 (Option.some (FieldType.array FieldType.byte)) :: []) ({ frames := 2, cells := 1, slots := 32, locals := 24 } : Room)) (fun aa U => aa = #[(.ref ar), (.int (0 : Int32)), (.int (Int32.ofNat n))] ∧ Z.Warmed39 U.vm ∧ U.heap = h0) (fun _ _ _ _ _ => True) (fun _ U o U' => ∃ v L, o = .returned v ∧ (Q_rmTB Z ar ka cs N d0 n h0) v U'.heap L ∧ FrameEnd U o U' L ({ frames := 2, cells := 1, slots := 32, locals := 24 } : Room).cells ({ frames := 2, cells := 1, slots := 32, locals := 24 } : Room).slots) := by
  refine own_walkN (by exact pnU) ?_
  intro p e s m below meth c T0 X0 hx hby hml hret hlk hnm hown hZ e0 es0 F hF
  refine own_on (fun _ => castTop (efTB m ar 0 _)) ?_
  have M0 := own_ext_refl h0
  have N0 := Fr.nil Z.heap.size
  refine own_iload_n X0.here hx (hb hby dTB_0) rfl (pc' := 1) rfl ?_
  obtain ⟨_, _, ⟨T1, L1, k1, n1⟩, -, X1, ⟨Lc1, hQ1, l1, y1, z1⟩, st1⟩ := Jvm.LawKit.callS X0 hx (y := (⟨"java/lang/StringUTF16", "newBytesFor", "(I)[B"⟩ : MethodName)) hown (mvT hZ (hw _ (List.mem_of_getElem? (i := 183) rfl))) (mvT hZ (hw _ (List.mem_of_getElem? (i := 184) rfl))) (mvT hZ (hw _ (List.mem_of_getElem? (i := 123) rfl))) (mvT hZ (hw _ (List.mem_of_getElem? (i := 185) rfl))) (by decide) (backOf (W := 0) (rmNF l Z a0 hw n h0 hn) hZ (hw _ (List.mem_of_getElem? (i := 185) rfl)) (hw _ (List.mem_of_getElem? (i := 123) rfl)) (by decide) (by decide)) (g := (mkF m 1 #[.val (.ref ar), .val (.int ((0 : Int32))), .val (.int (Int32.ofNat n)), .unset, .unset] [(.int (Int32.ofNat n))])) rfl (by rw [hml]; rfl) (argsL := [(.int (Int32.ofNat n))]) (rest := []) (lenOf pdx3 rfl) rfl (by show 2 * 0 + _ ≤ _; exact Nat.le_of_eq rfl) (hb hby dTB_1) (fun _ _ => ⟨rfl, e0, (Nat.le_of_ble_eq_true rfl), (Nat.le_of_ble_eq_true rfl)⟩)
  dsimp only [Pt.U, Pt.locs, Pt.cells, Pt.slots] at X1 l1 y1 z1 st1 hQ1
  rw [l1, y1, z1] at X1
  obtain ⟨t1, k1t, rfl, E1, N1, g1, V1⟩ := hQ1
  refine own_on (st1) ?_
  show own_Go p e below F (T1.setTop (mkF m 4 #[.val (.ref ar), .val (.int ((0 : Int32))), .val (.int (Int32.ofNat n)), .unset, .unset] [(.ref t1)]))
  have f2 := own_ext_trans M0 E1
  have f3 := A0.ext E1
  have N4 := Fr.app N0 N1
  have hne : ar ≠ t1 := Nat.ne_of_lt (Nat.lt_of_lt_of_le A0.lt g1)
  have gt : Z.heap.size ≤ t1 := Nat.le_trans EZ.1 g1
  have gh : h0.size ≤ t1 := g1
  refine own_astore_n X1.here hx (hb hby dTB_4) rfl (L' := #[.val (.ref ar), .val (.int ((0 : Int32))), .val (.int (Int32.ofNat n)), .val (.ref t1), .unset]) rfl (pc' := 5) rfl ?_
  refine own_iconst X1.here hx (hb hby dTB_5) (v := 0) rfl (pc' := 6) rfl ?_
  refine own_istore X1.here hx (hb hby dTB_6) (L' := #[.val (.ref ar), .val (.int ((0 : Int32))), .val (.int (Int32.ofNat n)), .val (.ref t1), .val (.int ((0 : Int32)))]) rfl (pc' := 8) rfl ?_
  have J : ∀ (d i : Nat) (_ : i + d = n) (TJ : State) (hJ : Heap) (LJ : List Loc), Stand p l e ({ frames := 2, cells := 1, slots := 32, locals := 24 } : Room) s m #[(.ref ar), (.int (0 : Int32)), (.int (Int32.ofNat n))] below meth c TJ LJ 1 32 → TJ.heap = hJ → Fr Z.heap.size LJ → Ext h0 hJ → Arv Z hJ ar ka .char N (cs.map Value.int) d0 → Arv Z hJ t1 k1t .byte (Int32.ofNat (2 * n)) (own_wi cs n i) (.int 0) → own_Go p e below F (TJ.setTop (mkF m 8 #[.val (.ref ar), .val (.int (Int32.ofNat i)), .val (.int (Int32.ofNat n)), .val (.ref t1), .val (.int (Int32.ofNat i))] [])) := by
    intro d
    induction d with
    | zero =>
      intro i hi TJ hJ LJ XJ eJ NJ fM fA fV
      obtain rfl : i = n := by omega
      refine own_iload XJ.here hx (hb hby dTB_8) rfl (pc' := 10) rfl ?_
      refine own_iload_n XJ.here hx (hb hby dTB_10) rfl (pc' := 11) rfl ?_
      refine own_icmpge XJ.here hx (hb hby dTB_11) (by decide) (pc' := 32) (by decide) (pc2 := 14) rfl (fun q5 => ?_) (fun q => absurd q (own_nltN (Nat.le_refl _) (by omega)))
      refine own_aload_n XJ.here hx (hb hby dTB_32) rfl rfl (pc' := 33) rfl ?_
      exact own_retA XJ hx hlk hret rfl rfl (hb hby dTB_33) (fun t ht hE => hF t _ _ _ _ (by rw [ht, (eJ : _ = hJ)]; exact ⟨t1, k1t, rfl, fM, NJ, gh, fV⟩) hE (by decide) (by decide))
    | succ d ih =>
      intro i hi TJ hJ LJ XJ eJ NJ fM fA fV
      refine own_iload XJ.here hx (hb hby dTB_8) rfl (pc' := 10) rfl ?_
      refine own_iload_n XJ.here hx (hb hby dTB_10) rfl (pc' := 11) rfl ?_
      refine own_icmpge XJ.here hx (hb hby dTB_11) (by decide) (pc' := 32) (by decide) (pc2 := 14) rfl (fun q => absurd (own_ltN (by omega) (by omega)) q) (fun q6 => ?_)
      refine own_aload_n XJ.here hx (hb hby dTB_14) rfl rfl (pc' := 15) rfl ?_
      refine own_iload XJ.here hx (hb hby dTB_15) rfl (pc' := 17) rfl ?_
      refine own_aload_n XJ.here hx (hb hby dTB_17) rfl rfl (pc' := 18) rfl ?_
      refine own_iload_n XJ.here hx (hb hby dTB_18) rfl (pc' := 19) rfl ?_
      refine own_caload XJ hx hZ eJ fA (w := cs.getD i 0) ⟨own_nn (by omega), by rw [hN]; exact own_ltN (by omega) (by omega)⟩ (by rw [own_tn (by omega)]; exact own_mapget (by omega)) (hb hby dTB_19) (pc' := 20) rfl ?_
      obtain ⟨_, _, ⟨T7, L7, k7, n7⟩, -, X7, ⟨Lc7, hQ7, l7, y7, z7⟩, st7⟩ := Jvm.LawKit.callS XJ hx (y := (⟨"java/lang/StringUTF16", "putChar", "([BII)V"⟩ : MethodName)) hown (mvT hZ (hw _ (List.mem_of_getElem? (i := 190) rfl))) (mvT hZ (hw _ (List.mem_of_getElem? (i := 191) rfl))) (mvT hZ (hw _ (List.mem_of_getElem? (i := 123) rfl))) (mvT hZ (hw _ (List.mem_of_getElem? (i := 192) rfl))) (by decide) (backOf (W := 0) (rmPu l Z a0 hw t1 k1t (own_wi cs n i) n i (cs.getD i 0) hJ (own_ext_trans EZ fM) O3 O4 O5 gt fV (own_wi_len (by omega) hc) (by omega) (by omega)) hZ (hw _ (List.mem_of_getElem? (i := 192) rfl)) (hw _ (List.mem_of_getElem? (i := 123) rfl)) (by decide) (by decide)) (g := (mkF m 20 #[.val (.ref ar), .val (.int (Int32.ofNat i)), .val (.int (Int32.ofNat n)), .val (.ref t1), .val (.int (Int32.ofNat i))] [(.int (cs.getD i 0)), (.int (Int32.ofNat i)), (.ref t1)])) rfl (by rw [hml]; rfl) (argsL := [(.ref t1), (.int (Int32.ofNat i)), (.int (cs.getD i 0))]) (rest := []) (lenOf pdx4 rfl) rfl (by show 2 * 0 + _ ≤ _; exact Nat.le_of_eq rfl) (hb hby dTB_20) (fun _ _ => ⟨rfl, eJ, (Nat.le_of_ble_eq_true rfl), (Nat.le_of_ble_eq_true rfl)⟩)
      dsimp only [Pt.U, Pt.locs, Pt.cells, Pt.slots] at X7 l7 y7 z7 st7 hQ7
      rw [l7, y7, z7] at X7
      obtain ⟨rfl, N7, K7, V7⟩ := hQ7
      refine own_on (st7) ?_
      show own_Go p e below F (T7.setTop (mkF m 23 #[.val (.ref ar), .val (.int (Int32.ofNat i)), .val (.int (Int32.ofNat n)), .val (.ref t1), .val (.int (Int32.ofNat i))] []))
      have f8 := own_ext_keep fM K7 (fun y hy => by simp only [List.mem_cons, List.not_mem_nil, or_false] at hy; rcases hy with rfl <;> assumption)
      have f9 := fA.keep K7 (by simp only [List.mem_cons, List.not_mem_nil, or_false, not_or]; exact hne)
      have N11 := Fr.app NJ N7
      rw [own_wi_set (by omega) hc] at V7
      refine own_iinc X7.here hx (hb hby dTB_23) rfl (y := Int32.ofNat (i + 1)) (own_inc _) (L' := #[.val (.ref ar), .val (.int (Int32.ofNat (i + 1))), .val (.int (Int32.ofNat n)), .val (.ref t1), .val (.int (Int32.ofNat i))]) rfl (pc' := 26) rfl ?_
      refine own_iinc X7.here hx (hb hby dTB_26) rfl (y := Int32.ofNat (i + 1)) (own_inc _) (L' := #[.val (.ref ar), .val (.int (Int32.ofNat (i + 1))), .val (.int (Int32.ofNat n)), .val (.ref t1), .val (.int (Int32.ofNat (i + 1)))]) rfl (pc' := 29) rfl ?_
      refine own_goto X7.here hx (hb hby dTB_29) (by decide) (pc' := 8) (by decide) ?_
      exact ih (i + 1) (by omega) _ _ _ X7 rfl N11 f8 f9 V7
  exact J n 0 (by omega) _ _ _ X1 rfl N4 f2 f3 (by have q := V1; rw [show own_wi cs n 0 = List.replicate (2 * n) (.int 0) by simp [own_wi, StrChars.Road.wideBytes]]; exact q)
theorem dGC_0 : decode jdk_52_method_5_code 0 = .ok (.getstatic 44, 3) := by decide +kernel
theorem dGC_3 : decode jdk_52_method_5_code 3 = .ok (.ifCond .ne 25, 3) := by decide +kernel
theorem dGC_6 : decode jdk_52_method_5_code 6 = .ok (.iload_n 1, 1) := by decide +kernel
theorem dGC_7 : decode jdk_52_method_5_code 7 = .ok (.ifCond .lt 11, 3) := by decide +kernel
theorem dGC_10 : decode jdk_52_method_5_code 10 = .ok (.iload_n 1, 1) := by decide +kernel
theorem dGC_11 : decode jdk_52_method_5_code 11 = .ok (.aload_n 0, 1) := by decide +kernel
theorem dGC_12 : decode jdk_52_method_5_code 12 = .ok (.invokestatic 48, 3) := by decide +kernel
theorem dGC_15 : decode jdk_52_method_5_code 15 = .ok (.if_icmp .lt 13, 3) := by decide +kernel
theorem dGC_18 : decode jdk_52_method_5_code 18 = .ok (.new 52, 3) := by decide +kernel
theorem dGC_21 : decode jdk_52_method_5_code 21 = .ok (.dup, 1) := by decide +kernel
theorem dGC_22 : decode jdk_52_method_5_code 22 = .ok (.ldc 54, 2) := by decide +kernel
theorem dGC_24 : decode jdk_52_method_5_code 24 = .ok (.invokespecial 56, 3) := by decide +kernel
theorem dGC_27 : decode jdk_52_method_5_code 27 = .ok (.athrow, 1) := by decide +kernel
theorem dGC_28 : decode jdk_52_method_5_code 28 = .ok (.iload_n 1, 1) := by decide +kernel
theorem dGC_29 : decode jdk_52_method_5_code 29 = .ok (.iconst 1, 1) := by decide +kernel
theorem dGC_30 : decode jdk_52_method_5_code 30 = .ok (.ishl, 1) := by decide +kernel
theorem dGC_31 : decode jdk_52_method_5_code 31 = .ok (.istore_n 1, 1) := by decide +kernel
theorem dGC_32 : decode jdk_52_method_5_code 32 = .ok (.aload_n 0, 1) := by decide +kernel
theorem dGC_33 : decode jdk_52_method_5_code 33 = .ok (.iload_n 1, 1) := by decide +kernel
theorem dGC_34 : decode jdk_52_method_5_code 34 = .ok (.iinc 1 1, 3) := by decide +kernel
theorem dGC_37 : decode jdk_52_method_5_code 37 = .ok (.baload, 1) := by decide +kernel
theorem dGC_38 : decode jdk_52_method_5_code 38 = .ok (.sipush 255, 3) := by decide +kernel
theorem dGC_41 : decode jdk_52_method_5_code 41 = .ok (.iand, 1) := by decide +kernel
theorem dGC_42 : decode jdk_52_method_5_code 42 = .ok (.getstatic 59, 3) := by decide +kernel
theorem dGC_45 : decode jdk_52_method_5_code 45 = .ok (.ishl, 1) := by decide +kernel
theorem dGC_46 : decode jdk_52_method_5_code 46 = .ok (.aload_n 0, 1) := by decide +kernel
theorem dGC_47 : decode jdk_52_method_5_code 47 = .ok (.iload_n 1, 1) := by decide +kernel
theorem dGC_48 : decode jdk_52_method_5_code 48 = .ok (.baload, 1) := by decide +kernel
theorem dGC_49 : decode jdk_52_method_5_code 49 = .ok (.sipush 255, 3) := by decide +kernel
theorem dGC_52 : decode jdk_52_method_5_code 52 = .ok (.iand, 1) := by decide +kernel
theorem dGC_53 : decode jdk_52_method_5_code 53 = .ok (.getstatic 63, 3) := by decide +kernel
theorem dGC_56 : decode jdk_52_method_5_code 56 = .ok (.ishl, 1) := by decide +kernel
theorem dGC_57 : decode jdk_52_method_5_code 57 = .ok (.ior, 1) := by decide +kernel
theorem dGC_58 : decode jdk_52_method_5_code 58 = .ok (.i2c, 1) := by decide +kernel
theorem dGC_59 : decode jdk_52_method_5_code 59 = .ok (.ireturn, 1) := by decide +kernel
theorem efGC (m : MethodId) (x0 : Addr) (x1 : Int32) : entryFrame m #[(.ref x0), (.int x1)] 2 = mkF m 0 #[.val (.ref x0), .val (.int x1)] [] := by first | (simp [entryFrame, mkF, argsToLocals, Value.category]; done) | rfl
def Q_rmGC (Z : State) (t : Addr) (kt : ClassId) (cs : List Int32) (i : Nat) (h0 : Heap) (v : Option Value) (h : Heap) (L : List Loc) : Prop := v = some (.int (cs.getD i 0)) ∧ Fr Z.heap.size L ∧ h = h0
set_option maxRecDepth 65536 in
set_option maxHeartbeats 40000000 in
theorem rmGC (l : Launch) (Z : State) (a0 : Array Value) (hw : ∀ d ∈ tables_1, d.before a0 Z = true) (t : Addr) (kt : ClassId) (cs : List Int32) (i : Nat) (h0 : Heap) (EZ : Ext Z.heap h0) (O3 : Sta Z Z.heap "java/lang/StringUTF16" "$assertionsDisabled" "Z" (.int 1)) (O4 : Sta Z Z.heap "java/lang/StringUTF16" "HI_BYTE_SHIFT" "I" (.int 0)) (O5 : Sta Z Z.heap "java/lang/StringUTF16" "LO_BYTE_SHIFT" "I" (.int 8)) (A0 : Arv Z h0 t kt .byte (Int32.ofNat (2 * cs.length)) (StrChars.Road.wideBytes cs) (.int 0)) (hp : ∀ c ∈ cs, ¬ c < 0 ∧ ¬ (65535 : Int32) < c) (hl : cs.length ≤ 4000) (hi : i < cs.length) :
    MetFree l (⟨"java/lang/StringUTF16", "getChar", "([BI)C"⟩ : MethodName) (head1 (Jvm.Cond.code (⟨"java/lang/StringUTF16", "getChar", "([BI)C"⟩ : MethodName) jdk_52_method_5_code 2 (Option.some FieldType.char) :: []) ({ frames := 0, cells := 0, slots := 0, locals := 0 } : Room)) (fun aa U => aa = #[(.ref t), (.int (Int32.ofNat i))] ∧ Z.Warmed39 U.vm ∧ U.heap = h0) (fun _ _ _ _ _ => True) (fun _ U o U' => ∃ v L, o = .returned v ∧ (Q_rmGC Z t kt cs i h0) v U'.heap L ∧ FrameEnd U o U' L ({ frames := 0, cells := 0, slots := 0, locals := 0 } : Room).cells ({ frames := 0, cells := 0, slots := 0, locals := 0 } : Room).slots) := by
  refine own_walkN (by exact pnU) ?_
  intro p e s m below meth c T0 X0 hx hby hml hret hlk hnm hown hZ e0 es0 F hF
  refine own_on (fun _ => castTop (efGC m t _)) ?_
  have N0 := Fr.nil Z.heap.size
  have hpc := StrChars.pair_says (hp _ (own_mem hi)).1 (hp _ (own_mem hi)).2
  obtain ⟨T1, X1, e1, st1⟩ := getS (host := "") X0 hx hZ hown (hw _ (List.mem_of_getElem? (i := 193) rfl)) Via.refl e0 (O3.ext EZ) (g := (mkF m 0 #[.val (.ref t), .val (.int (Int32.ofNat i))] [])) rfl (hb hby dGC_0)
  refine own_on st1 ?_
  show own_Go p e below F (T1.setTop (mkF m 3 #[.val (.ref t), .val (.int (Int32.ofNat i))] [(.int ((1 : Int32)))]))
  refine own_ifne X1.here hx (hb hby dGC_3) (by decide) (pc' := 28) (by decide) (pc2 := 6) rfl (fun q2 => ?_) (fun q => absurd q (by decide))
  refine own_iload_n X1.here hx (hb hby dGC_28) rfl (pc' := 29) rfl ?_
  refine own_iconst X1.here hx (hb hby dGC_29) (v := 1) rfl (pc' := 30) rfl ?_
  refine own_ishl X1.here hx (hb hby dGC_30) (pc' := 31) rfl ?_
  rw [own_shl1 (by omega)]
  show own_Go p e below F (T1.setTop (mkF m 31 #[.val (.ref t), .val (.int (Int32.ofNat i))] [(.int (Int32.ofNat (2 * i)))]))
  refine own_istore_n X1.here hx (hb hby dGC_31) (L' := #[.val (.ref t), .val (.int (Int32.ofNat (2 * i)))]) rfl (pc' := 32) rfl ?_
  refine own_aload_n X1.here hx (hb hby dGC_32) rfl rfl (pc' := 33) rfl ?_
  refine own_iload_n X1.here hx (hb hby dGC_33) rfl (pc' := 34) rfl ?_
  refine own_iinc X1.here hx (hb hby dGC_34) rfl (y := Int32.ofNat (2 * i + 1)) (own_inc _) (L' := #[.val (.ref t), .val (.int (Int32.ofNat (2 * i + 1)))]) rfl (pc' := 37) rfl ?_
  refine own_baload X1 hx hZ e1 A0 (w := StrChars.lo8 (cs.getD i 0)) ⟨own_nn (by omega), own_ltN (by omega) (by omega)⟩ (by rw [own_tn (by omega)]; exact StrChars.Road.wide_lo _ cs i hi) (hb hby dGC_37) (pc' := 38) rfl ?_
  refine own_sipush X1.here hx (hb hby dGC_38) (v := 255) rfl (pc' := 41) rfl ?_
  refine own_iand X1.here hx (hb hby dGC_41) (pc' := 42) rfl ?_
  obtain ⟨T3, X3, e3, st3⟩ := getS (host := "") X1 hx hZ hown (hw _ (List.mem_of_getElem? (i := 194) rfl)) Via.refl e1 (O4.ext EZ) (g := (mkF m 42 #[.val (.ref t), .val (.int (Int32.ofNat (2 * i + 1)))] [(.int ((StrChars.lo8 (cs.getD i 0)) &&& (255 : Int32)))])) rfl (hb hby dGC_42)
  refine own_on st3 ?_
  show own_Go p e below F (T3.setTop (mkF m 45 #[.val (.ref t), .val (.int (Int32.ofNat (2 * i + 1)))] [(.int ((0 : Int32))), (.int ((StrChars.lo8 (cs.getD i 0)) &&& (255 : Int32)))]))
  refine own_ishl X3.here hx (hb hby dGC_45) (pc' := 46) rfl ?_
  refine own_aload_n X3.here hx (hb hby dGC_46) rfl rfl (pc' := 47) rfl ?_
  refine own_iload_n X3.here hx (hb hby dGC_47) rfl (pc' := 48) rfl ?_
  refine own_baload X3 hx hZ e3 A0 (w := StrChars.hi8 (cs.getD i 0)) ⟨own_nn (by omega), own_ltN (by omega) (by omega)⟩ (by rw [own_tn (by omega)]; exact StrChars.Road.wide_hi _ cs i hi) (hb hby dGC_48) (pc' := 49) rfl ?_
  refine own_sipush X3.here hx (hb hby dGC_49) (v := 255) rfl (pc' := 52) rfl ?_
  refine own_iand X3.here hx (hb hby dGC_52) (pc' := 53) rfl ?_
  obtain ⟨T4, X4, e4, st4⟩ := getS (host := "") X3 hx hZ hown (hw _ (List.mem_of_getElem? (i := 195) rfl)) Via.refl e3 (O5.ext EZ) (g := (mkF m 53 #[.val (.ref t), .val (.int (Int32.ofNat (2 * i + 1)))] [(.int ((StrChars.hi8 (cs.getD i 0)) &&& (255 : Int32))), (.int (((StrChars.lo8 (cs.getD i 0)) &&& (255 : Int32)) <<< ((0 : Int32) &&& 31)))])) rfl (hb hby dGC_53)
  refine own_on st4 ?_
  show own_Go p e below F (T4.setTop (mkF m 56 #[.val (.ref t), .val (.int (Int32.ofNat (2 * i + 1)))] [(.int ((8 : Int32))), (.int ((StrChars.hi8 (cs.getD i 0)) &&& (255 : Int32))), (.int (((StrChars.lo8 (cs.getD i 0)) &&& (255 : Int32)) <<< ((0 : Int32) &&& 31)))]))
  refine own_ishl X4.here hx (hb hby dGC_56) (pc' := 57) rfl ?_
  refine own_ior X4.here hx (hb hby dGC_57) (pc' := 58) rfl ?_
  refine own_i2c X4.here hx (hb hby dGC_58) (pc' := 59) rfl ?_
  have hpq : own_c ((((StrChars.lo8 (cs.getD i 0)) &&& (255 : Int32)) <<< ((0 : Int32) &&& 31)) ||| (((StrChars.hi8 (cs.getD i 0)) &&& (255 : Int32)) <<< ((8 : Int32) &&& 31))) = cs.getD i 0 := hpc
  have hnar : nar .char (cs.getD i 0) = cs.getD i 0 := by rw [← hpq]; exact own_nar _
  rw [hpq]
  show own_Go p e below F (T4.setTop (mkF m 59 #[.val (.ref t), .val (.int (Int32.ofNat (2 * i + 1)))] [(.int (cs.getD i 0))]))
  exact own_retC X4 hx hlk (own_nch hnar) hret (hb hby dGC_59) (fun t ht hE => hF t _ _ _ _ (by rw [ht, (e4 : _ = h0)]; exact ⟨rfl, Fr.nil _, rfl⟩) hE (by decide) (by decide))
theorem dC2_0 : decode jdk_52_method_21_code 0 = .ok (.iconst 0, 1) := by decide +kernel
theorem dC2_1 : decode jdk_52_method_21_code 1 = .ok (.istore 5, 2) := by decide +kernel
theorem dC2_3 : decode jdk_52_method_21_code 3 = .ok (.iload 5, 2) := by decide +kernel
theorem dC2_5 : decode jdk_52_method_21_code 5 = .ok (.iload 4, 2) := by decide +kernel
theorem dC2_7 : decode jdk_52_method_21_code 7 = .ok (.if_icmp .ge 37, 3) := by decide +kernel
theorem dC2_10 : decode jdk_52_method_21_code 10 = .ok (.aload_n 0, 1) := by decide +kernel
theorem dC2_11 : decode jdk_52_method_21_code 11 = .ok (.iload_n 1, 1) := by decide +kernel
theorem dC2_12 : decode jdk_52_method_21_code 12 = .ok (.caload, 1) := by decide +kernel
theorem dC2_13 : decode jdk_52_method_21_code 13 = .ok (.istore 6, 2) := by decide +kernel
theorem dC2_15 : decode jdk_52_method_21_code 15 = .ok (.iload 6, 2) := by decide +kernel
theorem dC2_17 : decode jdk_52_method_21_code 17 = .ok (.sipush 255, 3) := by decide +kernel
theorem dC2_20 : decode jdk_52_method_21_code 20 = .ok (.if_icmp .le 6, 3) := by decide +kernel
theorem dC2_23 : decode jdk_52_method_21_code 23 = .ok (.iload 5, 2) := by decide +kernel
theorem dC2_25 : decode jdk_52_method_21_code 25 = .ok (.ireturn, 1) := by decide +kernel
theorem dC2_26 : decode jdk_52_method_21_code 26 = .ok (.aload_n 2, 1) := by decide +kernel
theorem dC2_27 : decode jdk_52_method_21_code 27 = .ok (.iload_n 3, 1) := by decide +kernel
theorem dC2_28 : decode jdk_52_method_21_code 28 = .ok (.iload 6, 2) := by decide +kernel
theorem dC2_30 : decode jdk_52_method_21_code 30 = .ok (.i2b, 1) := by decide +kernel
theorem dC2_31 : decode jdk_52_method_21_code 31 = .ok (.bastore, 1) := by decide +kernel
theorem dC2_32 : decode jdk_52_method_21_code 32 = .ok (.iinc 1 1, 3) := by decide +kernel
theorem dC2_35 : decode jdk_52_method_21_code 35 = .ok (.iinc 3 1, 3) := by decide +kernel
theorem dC2_38 : decode jdk_52_method_21_code 38 = .ok (.iinc 5 1, 3) := by decide +kernel
theorem dC2_41 : decode jdk_52_method_21_code 41 = .ok (.goto (-38), 3) := by decide +kernel
theorem dC2_44 : decode jdk_52_method_21_code 44 = .ok (.iload 4, 2) := by decide +kernel
theorem dC2_46 : decode jdk_52_method_21_code 46 = .ok (.ireturn, 1) := by decide +kernel
theorem efC2 (m : MethodId) (x0 : Addr) (x1 : Int32) (x2 : Addr) (x3 : Int32) (x4 : Int32) : entryFrame m #[(.ref x0), (.int x1), (.ref x2), (.int x3), (.int x4)] 7 = mkF m 0 #[.val (.ref x0), .val (.int x1), .val (.ref x2), .val (.int x3), .val (.int x4), .unset, .unset] [] := by first | (simp [entryFrame, mkF, argsToLocals, Value.category]; done) | rfl
def Q_rmC2 (Z : State) (dt : Addr) (kd : ClassId) (ar : Addr) (ka : ClassId) (cs : List Int32) (N : Int32) (d0 : Value) (n : Nat) (h0 : Heap) (v : Option Value) (h : Heap) (L : List Loc) : Prop := v = some (.int (Int32.ofNat n)) ∧ Fr Z.heap.size L ∧ Keep h0 h [dt] ∧ Arv Z h dt kd .byte (Int32.ofNat n) (own_lo cs n n) (.int 0)
set_option maxRecDepth 65536 in
set_option maxHeartbeats 40000000 in
theorem rmC2 (l : Launch) (Z : State) (a0 : Array Value) (hw : ∀ d ∈ tables_1, d.before a0 Z = true) (dt : Addr) (kd : ClassId) (ar : Addr) (ka : ClassId) (cs : List Int32) (N : Int32) (d0 : Value) (n : Nat) (h0 : Heap) (EZ : Ext Z.heap h0) (A0 : Arv Z h0 ar ka .char N (cs.map Value.int) d0) (hN : N = Int32.ofNat cs.length) (hc : n ≤ cs.length) (hl : cs.length ≤ 4000) (gd : Z.heap.size ≤ dt) (hne : ar ≠ dt) (D0 : Arv Z h0 dt kd .byte (Int32.ofNat n) (own_lo cs n 0) (.int 0)) (hq : ∀ j, j < n → ¬ (255 : Int32) < cs.getD j 0) :
    MetFree l (⟨"java/lang/StringUTF16", "compress", "([CI[BII)I"⟩ : MethodName) (head1 (Jvm.Cond.code (⟨"java/lang/StringUTF16", "compress", "([CI[BII)I"⟩ : MethodName) jdk_52_method_21_code 7 (Option.some FieldType.int) :: []) ({ frames := 0, cells := 0, slots := 0, locals := 0 } : Room)) (fun aa U => aa = #[(.ref ar), (.int (0 : Int32)), (.ref dt), (.int (0 : Int32)), (.int (Int32.ofNat n))] ∧ Z.Warmed39 U.vm ∧ U.heap = h0) (fun _ _ _ _ _ => True) (fun _ U o U' => ∃ v L, o = .returned v ∧ (Q_rmC2 Z dt kd ar ka cs N d0 n h0) v U'.heap L ∧ FrameEnd U o U' L ({ frames := 0, cells := 0, slots := 0, locals := 0 } : Room).cells ({ frames := 0, cells := 0, slots := 0, locals := 0 } : Room).slots) := by
  refine own_walkN (by exact pnU) ?_
  intro p e s m below meth c T0 X0 hx hby hml hret hlk hnm hown hZ e0 es0 F hF
  refine own_on (fun _ => castTop (efC2 m ar 0 dt 0 _)) ?_
  have N0 := Fr.nil Z.heap.size
  refine own_iconst X0.here hx (hb hby dC2_0) (v := 0) rfl (pc' := 1) rfl ?_
  refine own_istore X0.here hx (hb hby dC2_1) (L' := #[.val (.ref ar), .val (.int ((0 : Int32))), .val (.ref dt), .val (.int ((0 : Int32))), .val (.int (Int32.ofNat n)), .val (.int ((0 : Int32))), .unset]) rfl (pc' := 3) rfl ?_
  have J : ∀ (d i : Nat) (_ : i + d = n) (sl : Slot) (_ : sl = .unset ∨ ∃ cc : Int32, sl = .val (.int cc)) (TJ : State) (hJ : Heap) (LJ : List Loc), Stand p l e ({ frames := 0, cells := 0, slots := 0, locals := 0 } : Room) s m #[(.ref ar), (.int (0 : Int32)), (.ref dt), (.int (0 : Int32)), (.int (Int32.ofNat n))] below meth c TJ LJ 0 0 → TJ.heap = hJ → Fr Z.heap.size LJ → Keep h0 hJ [dt] → Arv Z hJ ar ka .char N (cs.map Value.int) d0 → Arv Z hJ dt kd .byte (Int32.ofNat n) (own_lo cs n i) (.int 0) → own_Go p e below F (TJ.setTop (mkF m 3 #[.val (.ref ar), .val (.int (Int32.ofNat i)), .val (.ref dt), .val (.int (Int32.ofNat i)), .val (.int (Int32.ofNat n)), .val (.int (Int32.ofNat i)), sl] [])) := by
    intro d
    induction d with
    | zero =>
      intro i hi sl hsl TJ hJ LJ XJ eJ NJ fQ fA fV
      obtain rfl : i = n := by omega
      rcases hsl with rfl | ⟨cc, rfl⟩
      · refine own_iload XJ.here hx (hb hby dC2_3) rfl (pc' := 5) rfl ?_
        refine own_iload XJ.here hx (hb hby dC2_5) rfl (pc' := 7) rfl ?_
        refine own_icmpge XJ.here hx (hb hby dC2_7) (by decide) (pc' := 44) (by decide) (pc2 := 10) rfl (fun q1 => ?_) (fun q => absurd q (own_nltN (Nat.le_refl _) (by omega)))
        refine own_iload XJ.here hx (hb hby dC2_44) rfl (pc' := 46) rfl ?_
        exact own_retI XJ hx hlk hret (hb hby dC2_46) (fun t ht hE => hF t _ _ _ _ (by rw [ht, (eJ : _ = hJ)]; exact ⟨rfl, NJ, fQ, fV⟩) hE (by decide) (by decide))
      · refine own_iload XJ.here hx (hb hby dC2_3) rfl (pc' := 5) rfl ?_
        refine own_iload XJ.here hx (hb hby dC2_5) rfl (pc' := 7) rfl ?_
        refine own_icmpge XJ.here hx (hb hby dC2_7) (by decide) (pc' := 44) (by decide) (pc2 := 10) rfl (fun q2 => ?_) (fun q => absurd q (own_nltN (Nat.le_refl _) (by omega)))
        refine own_iload XJ.here hx (hb hby dC2_44) rfl (pc' := 46) rfl ?_
        exact own_retI XJ hx hlk hret (hb hby dC2_46) (fun t ht hE => hF t _ _ _ _ (by rw [ht, (eJ : _ = hJ)]; exact ⟨rfl, NJ, fQ, fV⟩) hE (by decide) (by decide))
    | succ d ih =>
      intro i hi sl hsl TJ hJ LJ XJ eJ NJ fQ fA fV
      rcases hsl with rfl | ⟨cc, rfl⟩
      · refine own_iload XJ.here hx (hb hby dC2_3) rfl (pc' := 5) rfl ?_
        refine own_iload XJ.here hx (hb hby dC2_5) rfl (pc' := 7) rfl ?_
        refine own_icmpge XJ.here hx (hb hby dC2_7) (by decide) (pc' := 44) (by decide) (pc2 := 10) rfl (fun q => absurd (own_ltN (by omega) (by omega)) q) (fun q3 => ?_)
        refine own_aload_n XJ.here hx (hb hby dC2_10) rfl rfl (pc' := 11) rfl ?_
        refine own_iload_n XJ.here hx (hb hby dC2_11) rfl (pc' := 12) rfl ?_
        refine own_caload XJ hx hZ eJ fA (w := cs.getD i 0) ⟨own_nn (by omega), by rw [hN]; exact own_ltN (by omega) (by omega)⟩ (by rw [own_tn (by omega)]; exact own_mapget (by omega)) (hb hby dC2_12) (pc' := 13) rfl ?_
        refine own_istore XJ.here hx (hb hby dC2_13) (L' := #[.val (.ref ar), .val (.int (Int32.ofNat i)), .val (.ref dt), .val (.int (Int32.ofNat i)), .val (.int (Int32.ofNat n)), .val (.int (Int32.ofNat i)), .val (.int (cs.getD i 0))]) rfl (pc' := 15) rfl ?_
        refine own_iload XJ.here hx (hb hby dC2_15) rfl (pc' := 17) rfl ?_
        refine own_sipush XJ.here hx (hb hby dC2_17) (v := 255) rfl (pc' := 20) rfl ?_
        refine own_icmple XJ.here hx (hb hby dC2_20) (by decide) (pc' := 26) (by decide) (pc2 := 23) rfl (fun q4 => ?_) (fun q => absurd q (hq i (by omega)))
        refine own_aload_n XJ.here hx (hb hby dC2_26) rfl rfl (pc' := 27) rfl ?_
        refine own_iload_n XJ.here hx (hb hby dC2_27) rfl (pc' := 28) rfl ?_
        refine own_iload XJ.here hx (hb hby dC2_28) rfl (pc' := 30) rfl ?_
        refine own_i2b XJ.here hx (hb hby dC2_30) (pc' := 31) rfl ?_
        obtain ⟨T5, h5, X5, e5, W5, V5, st5⟩ := own_bast XJ hx hZ eJ fV (i := i) (own_tn (by omega)) (by rw [own_lo_len (by omega) hc]; omega) ⟨own_nn (by omega), own_ltN (by omega) (by omega)⟩  (g := (mkF m 31 #[.val (.ref ar), .val (.int (Int32.ofNat i)), .val (.ref dt), .val (.int (Int32.ofNat i)), .val (.int (Int32.ofNat n)), .val (.int (Int32.ofNat i)), .val (.int (cs.getD i 0))] [(.int ((cs.getD i 0).toInt8.toInt32)), (.int (Int32.ofNat i)), (.ref dt)])) rfl rfl (hb hby dC2_31)
        have f6 := fA.other W5 hne
        have f7 := fQ.wr W5 (Or.inl (by simp))
        have N8 := own_Fr_snoc (sl := (Int32.ofNat i).toNatClampNeg) NJ gd
        refine own_on st5 ?_
        show own_Go p e below F (T5.setTop (mkF m 32 #[.val (.ref ar), .val (.int (Int32.ofNat i)), .val (.ref dt), .val (.int (Int32.ofNat i)), .val (.int (Int32.ofNat n)), .val (.int (Int32.ofNat i)), .val (.int (cs.getD i 0))] []))
        rw [own_lo_set (by omega) hc] at V5
        refine own_iinc X5.here hx (hb hby dC2_32) rfl (y := Int32.ofNat (i + 1)) (own_inc _) (L' := #[.val (.ref ar), .val (.int (Int32.ofNat (i + 1))), .val (.ref dt), .val (.int (Int32.ofNat i)), .val (.int (Int32.ofNat n)), .val (.int (Int32.ofNat i)), .val (.int (cs.getD i 0))]) rfl (pc' := 35) rfl ?_
        refine own_iinc X5.here hx (hb hby dC2_35) rfl (y := Int32.ofNat (i + 1)) (own_inc _) (L' := #[.val (.ref ar), .val (.int (Int32.ofNat (i + 1))), .val (.ref dt), .val (.int (Int32.ofNat (i + 1))), .val (.int (Int32.ofNat n)), .val (.int (Int32.ofNat i)), .val (.int (cs.getD i 0))]) rfl (pc' := 38) rfl ?_
        refine own_iinc X5.here hx (hb hby dC2_38) rfl (y := Int32.ofNat (i + 1)) (own_inc _) (L' := #[.val (.ref ar), .val (.int (Int32.ofNat (i + 1))), .val (.ref dt), .val (.int (Int32.ofNat (i + 1))), .val (.int (Int32.ofNat n)), .val (.int (Int32.ofNat (i + 1))), .val (.int (cs.getD i 0))]) rfl (pc' := 41) rfl ?_
        refine own_goto X5.here hx (hb hby dC2_41) (by decide) (pc' := 3) (by decide) ?_
        exact ih (i + 1) (by omega) _ (Or.inr ⟨_, rfl⟩) _ _ _ X5 e5 N8 f7 f6 V5
      · refine own_iload XJ.here hx (hb hby dC2_3) rfl (pc' := 5) rfl ?_
        refine own_iload XJ.here hx (hb hby dC2_5) rfl (pc' := 7) rfl ?_
        refine own_icmpge XJ.here hx (hb hby dC2_7) (by decide) (pc' := 44) (by decide) (pc2 := 10) rfl (fun q => absurd (own_ltN (by omega) (by omega)) q) (fun q9 => ?_)
        refine own_aload_n XJ.here hx (hb hby dC2_10) rfl rfl (pc' := 11) rfl ?_
        refine own_iload_n XJ.here hx (hb hby dC2_11) rfl (pc' := 12) rfl ?_
        refine own_caload XJ hx hZ eJ fA (w := cs.getD i 0) ⟨own_nn (by omega), by rw [hN]; exact own_ltN (by omega) (by omega)⟩ (by rw [own_tn (by omega)]; exact own_mapget (by omega)) (hb hby dC2_12) (pc' := 13) rfl ?_
        refine own_istore XJ.here hx (hb hby dC2_13) (L' := #[.val (.ref ar), .val (.int (Int32.ofNat i)), .val (.ref dt), .val (.int (Int32.ofNat i)), .val (.int (Int32.ofNat n)), .val (.int (Int32.ofNat i)), .val (.int (cs.getD i 0))]) rfl (pc' := 15) rfl ?_
        refine own_iload XJ.here hx (hb hby dC2_15) rfl (pc' := 17) rfl ?_
        refine own_sipush XJ.here hx (hb hby dC2_17) (v := 255) rfl (pc' := 20) rfl ?_
        refine own_icmple XJ.here hx (hb hby dC2_20) (by decide) (pc' := 26) (by decide) (pc2 := 23) rfl (fun q10 => ?_) (fun q => absurd q (hq i (by omega)))
        refine own_aload_n XJ.here hx (hb hby dC2_26) rfl rfl (pc' := 27) rfl ?_
        refine own_iload_n XJ.here hx (hb hby dC2_27) rfl (pc' := 28) rfl ?_
        refine own_iload XJ.here hx (hb hby dC2_28) rfl (pc' := 30) rfl ?_
        refine own_i2b XJ.here hx (hb hby dC2_30) (pc' := 31) rfl ?_
        obtain ⟨T11, h11, X11, e11, W11, V11, st11⟩ := own_bast XJ hx hZ eJ fV (i := i) (own_tn (by omega)) (by rw [own_lo_len (by omega) hc]; omega) ⟨own_nn (by omega), own_ltN (by omega) (by omega)⟩  (g := (mkF m 31 #[.val (.ref ar), .val (.int (Int32.ofNat i)), .val (.ref dt), .val (.int (Int32.ofNat i)), .val (.int (Int32.ofNat n)), .val (.int (Int32.ofNat i)), .val (.int (cs.getD i 0))] [(.int ((cs.getD i 0).toInt8.toInt32)), (.int (Int32.ofNat i)), (.ref dt)])) rfl rfl (hb hby dC2_31)
        have f12 := fA.other W11 hne
        have f13 := fQ.wr W11 (Or.inl (by simp))
        have N14 := own_Fr_snoc (sl := (Int32.ofNat i).toNatClampNeg) NJ gd
        refine own_on st11 ?_
        show own_Go p e below F (T11.setTop (mkF m 32 #[.val (.ref ar), .val (.int (Int32.ofNat i)), .val (.ref dt), .val (.int (Int32.ofNat i)), .val (.int (Int32.ofNat n)), .val (.int (Int32.ofNat i)), .val (.int (cs.getD i 0))] []))
        rw [own_lo_set (by omega) hc] at V11
        refine own_iinc X11.here hx (hb hby dC2_32) rfl (y := Int32.ofNat (i + 1)) (own_inc _) (L' := #[.val (.ref ar), .val (.int (Int32.ofNat (i + 1))), .val (.ref dt), .val (.int (Int32.ofNat i)), .val (.int (Int32.ofNat n)), .val (.int (Int32.ofNat i)), .val (.int (cs.getD i 0))]) rfl (pc' := 35) rfl ?_
        refine own_iinc X11.here hx (hb hby dC2_35) rfl (y := Int32.ofNat (i + 1)) (own_inc _) (L' := #[.val (.ref ar), .val (.int (Int32.ofNat (i + 1))), .val (.ref dt), .val (.int (Int32.ofNat (i + 1))), .val (.int (Int32.ofNat n)), .val (.int (Int32.ofNat i)), .val (.int (cs.getD i 0))]) rfl (pc' := 38) rfl ?_
        refine own_iinc X11.here hx (hb hby dC2_38) rfl (y := Int32.ofNat (i + 1)) (own_inc _) (L' := #[.val (.ref ar), .val (.int (Int32.ofNat (i + 1))), .val (.ref dt), .val (.int (Int32.ofNat (i + 1))), .val (.int (Int32.ofNat n)), .val (.int (Int32.ofNat (i + 1))), .val (.int (cs.getD i 0))]) rfl (pc' := 41) rfl ?_
        refine own_goto X11.here hx (hb hby dC2_41) (by decide) (pc' := 3) (by decide) ?_
        exact ih (i + 1) (by omega) _ (Or.inr ⟨_, rfl⟩) _ _ _ X11 e11 N14 f13 f12 V11
  exact J n 0 (by omega) _ (Or.inl rfl) _ _ _ X0 e0 N0 (Keep.refl h0 [dt]) A0 D0
def Q_rmC3 (Z : State) (dt : Addr) (kd : ClassId) (ar : Addr) (ka : ClassId) (cs : List Int32) (N : Int32) (d0 : Value) (n : Nat) (h0 : Heap) (k0 : Nat) (v : Option Value) (h : Heap) (L : List Loc) : Prop := v = some (.int (Int32.ofNat k0)) ∧ Fr Z.heap.size L ∧ Keep h0 h [dt] ∧ Arv Z h dt kd .byte (Int32.ofNat n) (own_lo cs n k0) (.int 0)
set_option maxRecDepth 65536 in
set_option maxHeartbeats 40000000 in
theorem rmC3 (l : Launch) (Z : State) (a0 : Array Value) (hw : ∀ d ∈ tables_1, d.before a0 Z = true) (dt : Addr) (kd : ClassId) (ar : Addr) (ka : ClassId) (cs : List Int32) (N : Int32) (d0 : Value) (n : Nat) (h0 : Heap) (EZ : Ext Z.heap h0) (A0 : Arv Z h0 ar ka .char N (cs.map Value.int) d0) (hN : N = Int32.ofNat cs.length) (hc : n ≤ cs.length) (hl : cs.length ≤ 4000) (gd : Z.heap.size ≤ dt) (hne : ar ≠ dt) (D0 : Arv Z h0 dt kd .byte (Int32.ofNat n) (own_lo cs n 0) (.int 0)) (k0 : Nat) (hk : k0 < n) (hk1 : (255 : Int32) < cs.getD k0 0) (hq : ∀ j, j < k0 → ¬ (255 : Int32) < cs.getD j 0) :
    MetFree l (⟨"java/lang/StringUTF16", "compress", "([CI[BII)I"⟩ : MethodName) (head1 (Jvm.Cond.code (⟨"java/lang/StringUTF16", "compress", "([CI[BII)I"⟩ : MethodName) jdk_52_method_21_code 7 (Option.some FieldType.int) :: []) ({ frames := 0, cells := 0, slots := 0, locals := 0 } : Room)) (fun aa U => aa = #[(.ref ar), (.int (0 : Int32)), (.ref dt), (.int (0 : Int32)), (.int (Int32.ofNat n))] ∧ Z.Warmed39 U.vm ∧ U.heap = h0) (fun _ _ _ _ _ => True) (fun _ U o U' => ∃ v L, o = .returned v ∧ (Q_rmC3 Z dt kd ar ka cs N d0 n h0 k0) v U'.heap L ∧ FrameEnd U o U' L ({ frames := 0, cells := 0, slots := 0, locals := 0 } : Room).cells ({ frames := 0, cells := 0, slots := 0, locals := 0 } : Room).slots) := by
  refine own_walkN (by exact pnU) ?_
  intro p e s m below meth c T0 X0 hx hby hml hret hlk hnm hown hZ e0 es0 F hF
  refine own_on (fun _ => castTop (efC2 m ar 0 dt 0 _)) ?_
  have N0 := Fr.nil Z.heap.size
  refine own_iconst X0.here hx (hb hby dC2_0) (v := 0) rfl (pc' := 1) rfl ?_
  refine own_istore X0.here hx (hb hby dC2_1) (L' := #[.val (.ref ar), .val (.int ((0 : Int32))), .val (.ref dt), .val (.int ((0 : Int32))), .val (.int (Int32.ofNat n)), .val (.int ((0 : Int32))), .unset]) rfl (pc' := 3) rfl ?_
  have J : ∀ (d i : Nat) (_ : i + d = k0) (sl : Slot) (_ : sl = .unset ∨ ∃ cc : Int32, sl = .val (.int cc)) (TJ : State) (hJ : Heap) (LJ : List Loc), Stand p l e ({ frames := 0, cells := 0, slots := 0, locals := 0 } : Room) s m #[(.ref ar), (.int (0 : Int32)), (.ref dt), (.int (0 : Int32)), (.int (Int32.ofNat n))] below meth c TJ LJ 0 0 → TJ.heap = hJ → Fr Z.heap.size LJ → Keep h0 hJ [dt] → Arv Z hJ ar ka .char N (cs.map Value.int) d0 → Arv Z hJ dt kd .byte (Int32.ofNat n) (own_lo cs n i) (.int 0) → own_Go p e below F (TJ.setTop (mkF m 3 #[.val (.ref ar), .val (.int (Int32.ofNat i)), .val (.ref dt), .val (.int (Int32.ofNat i)), .val (.int (Int32.ofNat n)), .val (.int (Int32.ofNat i)), sl] [])) := by
    intro d
    induction d with
    | zero =>
      intro i hi sl hsl TJ hJ LJ XJ eJ NJ fQ fA fV
      obtain rfl : i = k0 := by omega
      rcases hsl with rfl | ⟨cc, rfl⟩
      · refine own_iload XJ.here hx (hb hby dC2_3) rfl (pc' := 5) rfl ?_
        refine own_iload XJ.here hx (hb hby dC2_5) rfl (pc' := 7) rfl ?_
        refine own_icmpge XJ.here hx (hb hby dC2_7) (by decide) (pc' := 44) (by decide) (pc2 := 10) rfl (fun q => absurd (own_ltN (by omega) (by omega)) q) (fun q1 => ?_)
        refine own_aload_n XJ.here hx (hb hby dC2_10) rfl rfl (pc' := 11) rfl ?_
        refine own_iload_n XJ.here hx (hb hby dC2_11) rfl (pc' := 12) rfl ?_
        refine own_caload XJ hx hZ eJ fA (w := cs.getD i 0) ⟨own_nn (by omega), by rw [hN]; exact own_ltN (by omega) (by omega)⟩ (by rw [own_tn (by omega)]; exact own_mapget (by omega)) (hb hby dC2_12) (pc' := 13) rfl ?_
        refine own_istore XJ.here hx (hb hby dC2_13) (L' := #[.val (.ref ar), .val (.int (Int32.ofNat i)), .val (.ref dt), .val (.int (Int32.ofNat i)), .val (.int (Int32.ofNat n)), .val (.int (Int32.ofNat i)), .val (.int (cs.getD i 0))]) rfl (pc' := 15) rfl ?_
        refine own_iload XJ.here hx (hb hby dC2_15) rfl (pc' := 17) rfl ?_
        refine own_sipush XJ.here hx (hb hby dC2_17) (v := 255) rfl (pc' := 20) rfl ?_
        refine own_icmple XJ.here hx (hb hby dC2_20) (by decide) (pc' := 26) (by decide) (pc2 := 23) rfl (fun q => absurd hk1 q) (fun q2 => ?_)
        refine own_iload XJ.here hx (hb hby dC2_23) rfl (pc' := 25) rfl ?_
        exact own_retI XJ hx hlk hret (hb hby dC2_25) (fun t ht hE => hF t _ _ _ _ (by rw [ht, (eJ : _ = hJ)]; exact ⟨rfl, NJ, fQ, fV⟩) hE (by decide) (by decide))
      · refine own_iload XJ.here hx (hb hby dC2_3) rfl (pc' := 5) rfl ?_
        refine own_iload XJ.here hx (hb hby dC2_5) rfl (pc' := 7) rfl ?_
        refine own_icmpge XJ.here hx (hb hby dC2_7) (by decide) (pc' := 44) (by decide) (pc2 := 10) rfl (fun q => absurd (own_ltN (by omega) (by omega)) q) (fun q3 => ?_)
        refine own_aload_n XJ.here hx (hb hby dC2_10) rfl rfl (pc' := 11) rfl ?_
        refine own_iload_n XJ.here hx (hb hby dC2_11) rfl (pc' := 12) rfl ?_
        refine own_caload XJ hx hZ eJ fA (w := cs.getD i 0) ⟨own_nn (by omega), by rw [hN]; exact own_ltN (by omega) (by omega)⟩ (by rw [own_tn (by omega)]; exact own_mapget (by omega)) (hb hby dC2_12) (pc' := 13) rfl ?_
        refine own_istore XJ.here hx (hb hby dC2_13) (L' := #[.val (.ref ar), .val (.int (Int32.ofNat i)), .val (.ref dt), .val (.int (Int32.ofNat i)), .val (.int (Int32.ofNat n)), .val (.int (Int32.ofNat i)), .val (.int (cs.getD i 0))]) rfl (pc' := 15) rfl ?_
        refine own_iload XJ.here hx (hb hby dC2_15) rfl (pc' := 17) rfl ?_
        refine own_sipush XJ.here hx (hb hby dC2_17) (v := 255) rfl (pc' := 20) rfl ?_
        refine own_icmple XJ.here hx (hb hby dC2_20) (by decide) (pc' := 26) (by decide) (pc2 := 23) rfl (fun q => absurd hk1 q) (fun q4 => ?_)
        refine own_iload XJ.here hx (hb hby dC2_23) rfl (pc' := 25) rfl ?_
        exact own_retI XJ hx hlk hret (hb hby dC2_25) (fun t ht hE => hF t _ _ _ _ (by rw [ht, (eJ : _ = hJ)]; exact ⟨rfl, NJ, fQ, fV⟩) hE (by decide) (by decide))
    | succ d ih =>
      intro i hi sl hsl TJ hJ LJ XJ eJ NJ fQ fA fV
      rcases hsl with rfl | ⟨cc, rfl⟩
      · refine own_iload XJ.here hx (hb hby dC2_3) rfl (pc' := 5) rfl ?_
        refine own_iload XJ.here hx (hb hby dC2_5) rfl (pc' := 7) rfl ?_
        refine own_icmpge XJ.here hx (hb hby dC2_7) (by decide) (pc' := 44) (by decide) (pc2 := 10) rfl (fun q => absurd (own_ltN (by omega) (by omega)) q) (fun q5 => ?_)
        refine own_aload_n XJ.here hx (hb hby dC2_10) rfl rfl (pc' := 11) rfl ?_
        refine own_iload_n XJ.here hx (hb hby dC2_11) rfl (pc' := 12) rfl ?_
        refine own_caload XJ hx hZ eJ fA (w := cs.getD i 0) ⟨own_nn (by omega), by rw [hN]; exact own_ltN (by omega) (by omega)⟩ (by rw [own_tn (by omega)]; exact own_mapget (by omega)) (hb hby dC2_12) (pc' := 13) rfl ?_
        refine own_istore XJ.here hx (hb hby dC2_13) (L' := #[.val (.ref ar), .val (.int (Int32.ofNat i)), .val (.ref dt), .val (.int (Int32.ofNat i)), .val (.int (Int32.ofNat n)), .val (.int (Int32.ofNat i)), .val (.int (cs.getD i 0))]) rfl (pc' := 15) rfl ?_
        refine own_iload XJ.here hx (hb hby dC2_15) rfl (pc' := 17) rfl ?_
        refine own_sipush XJ.here hx (hb hby dC2_17) (v := 255) rfl (pc' := 20) rfl ?_
        refine own_icmple XJ.here hx (hb hby dC2_20) (by decide) (pc' := 26) (by decide) (pc2 := 23) rfl (fun q6 => ?_) (fun q => absurd q (hq i (by omega)))
        refine own_aload_n XJ.here hx (hb hby dC2_26) rfl rfl (pc' := 27) rfl ?_
        refine own_iload_n XJ.here hx (hb hby dC2_27) rfl (pc' := 28) rfl ?_
        refine own_iload XJ.here hx (hb hby dC2_28) rfl (pc' := 30) rfl ?_
        refine own_i2b XJ.here hx (hb hby dC2_30) (pc' := 31) rfl ?_
        obtain ⟨T7, h7, X7, e7, W7, V7, st7⟩ := own_bast XJ hx hZ eJ fV (i := i) (own_tn (by omega)) (by rw [own_lo_len (by omega) hc]; omega) ⟨own_nn (by omega), own_ltN (by omega) (by omega)⟩  (g := (mkF m 31 #[.val (.ref ar), .val (.int (Int32.ofNat i)), .val (.ref dt), .val (.int (Int32.ofNat i)), .val (.int (Int32.ofNat n)), .val (.int (Int32.ofNat i)), .val (.int (cs.getD i 0))] [(.int ((cs.getD i 0).toInt8.toInt32)), (.int (Int32.ofNat i)), (.ref dt)])) rfl rfl (hb hby dC2_31)
        have f8 := fA.other W7 hne
        have f9 := fQ.wr W7 (Or.inl (by simp))
        have N10 := own_Fr_snoc (sl := (Int32.ofNat i).toNatClampNeg) NJ gd
        refine own_on st7 ?_
        show own_Go p e below F (T7.setTop (mkF m 32 #[.val (.ref ar), .val (.int (Int32.ofNat i)), .val (.ref dt), .val (.int (Int32.ofNat i)), .val (.int (Int32.ofNat n)), .val (.int (Int32.ofNat i)), .val (.int (cs.getD i 0))] []))
        rw [own_lo_set (by omega) hc] at V7
        refine own_iinc X7.here hx (hb hby dC2_32) rfl (y := Int32.ofNat (i + 1)) (own_inc _) (L' := #[.val (.ref ar), .val (.int (Int32.ofNat (i + 1))), .val (.ref dt), .val (.int (Int32.ofNat i)), .val (.int (Int32.ofNat n)), .val (.int (Int32.ofNat i)), .val (.int (cs.getD i 0))]) rfl (pc' := 35) rfl ?_
        refine own_iinc X7.here hx (hb hby dC2_35) rfl (y := Int32.ofNat (i + 1)) (own_inc _) (L' := #[.val (.ref ar), .val (.int (Int32.ofNat (i + 1))), .val (.ref dt), .val (.int (Int32.ofNat (i + 1))), .val (.int (Int32.ofNat n)), .val (.int (Int32.ofNat i)), .val (.int (cs.getD i 0))]) rfl (pc' := 38) rfl ?_
        refine own_iinc X7.here hx (hb hby dC2_38) rfl (y := Int32.ofNat (i + 1)) (own_inc _) (L' := #[.val (.ref ar), .val (.int (Int32.ofNat (i + 1))), .val (.ref dt), .val (.int (Int32.ofNat (i + 1))), .val (.int (Int32.ofNat n)), .val (.int (Int32.ofNat (i + 1))), .val (.int (cs.getD i 0))]) rfl (pc' := 41) rfl ?_
        refine own_goto X7.here hx (hb hby dC2_41) (by decide) (pc' := 3) (by decide) ?_
        exact ih (i + 1) (by omega) _ (Or.inr ⟨_, rfl⟩) _ _ _ X7 e7 N10 f9 f8 V7
      · refine own_iload XJ.here hx (hb hby dC2_3) rfl (pc' := 5) rfl ?_
        refine own_iload XJ.here hx (hb hby dC2_5) rfl (pc' := 7) rfl ?_
        refine own_icmpge XJ.here hx (hb hby dC2_7) (by decide) (pc' := 44) (by decide) (pc2 := 10) rfl (fun q => absurd (own_ltN (by omega) (by omega)) q) (fun q11 => ?_)
        refine own_aload_n XJ.here hx (hb hby dC2_10) rfl rfl (pc' := 11) rfl ?_
        refine own_iload_n XJ.here hx (hb hby dC2_11) rfl (pc' := 12) rfl ?_
        refine own_caload XJ hx hZ eJ fA (w := cs.getD i 0) ⟨own_nn (by omega), by rw [hN]; exact own_ltN (by omega) (by omega)⟩ (by rw [own_tn (by omega)]; exact own_mapget (by omega)) (hb hby dC2_12) (pc' := 13) rfl ?_
        refine own_istore XJ.here hx (hb hby dC2_13) (L' := #[.val (.ref ar), .val (.int (Int32.ofNat i)), .val (.ref dt), .val (.int (Int32.ofNat i)), .val (.int (Int32.ofNat n)), .val (.int (Int32.ofNat i)), .val (.int (cs.getD i 0))]) rfl (pc' := 15) rfl ?_
        refine own_iload XJ.here hx (hb hby dC2_15) rfl (pc' := 17) rfl ?_
        refine own_sipush XJ.here hx (hb hby dC2_17) (v := 255) rfl (pc' := 20) rfl ?_
        refine own_icmple XJ.here hx (hb hby dC2_20) (by decide) (pc' := 26) (by decide) (pc2 := 23) rfl (fun q12 => ?_) (fun q => absurd q (hq i (by omega)))
        refine own_aload_n XJ.here hx (hb hby dC2_26) rfl rfl (pc' := 27) rfl ?_
        refine own_iload_n XJ.here hx (hb hby dC2_27) rfl (pc' := 28) rfl ?_
        refine own_iload XJ.here hx (hb hby dC2_28) rfl (pc' := 30) rfl ?_
        refine own_i2b XJ.here hx (hb hby dC2_30) (pc' := 31) rfl ?_
        obtain ⟨T13, h13, X13, e13, W13, V13, st13⟩ := own_bast XJ hx hZ eJ fV (i := i) (own_tn (by omega)) (by rw [own_lo_len (by omega) hc]; omega) ⟨own_nn (by omega), own_ltN (by omega) (by omega)⟩  (g := (mkF m 31 #[.val (.ref ar), .val (.int (Int32.ofNat i)), .val (.ref dt), .val (.int (Int32.ofNat i)), .val (.int (Int32.ofNat n)), .val (.int (Int32.ofNat i)), .val (.int (cs.getD i 0))] [(.int ((cs.getD i 0).toInt8.toInt32)), (.int (Int32.ofNat i)), (.ref dt)])) rfl rfl (hb hby dC2_31)
        have f14 := fA.other W13 hne
        have f15 := fQ.wr W13 (Or.inl (by simp))
        have N16 := own_Fr_snoc (sl := (Int32.ofNat i).toNatClampNeg) NJ gd
        refine own_on st13 ?_
        show own_Go p e below F (T13.setTop (mkF m 32 #[.val (.ref ar), .val (.int (Int32.ofNat i)), .val (.ref dt), .val (.int (Int32.ofNat i)), .val (.int (Int32.ofNat n)), .val (.int (Int32.ofNat i)), .val (.int (cs.getD i 0))] []))
        rw [own_lo_set (by omega) hc] at V13
        refine own_iinc X13.here hx (hb hby dC2_32) rfl (y := Int32.ofNat (i + 1)) (own_inc _) (L' := #[.val (.ref ar), .val (.int (Int32.ofNat (i + 1))), .val (.ref dt), .val (.int (Int32.ofNat i)), .val (.int (Int32.ofNat n)), .val (.int (Int32.ofNat i)), .val (.int (cs.getD i 0))]) rfl (pc' := 35) rfl ?_
        refine own_iinc X13.here hx (hb hby dC2_35) rfl (y := Int32.ofNat (i + 1)) (own_inc _) (L' := #[.val (.ref ar), .val (.int (Int32.ofNat (i + 1))), .val (.ref dt), .val (.int (Int32.ofNat (i + 1))), .val (.int (Int32.ofNat n)), .val (.int (Int32.ofNat i)), .val (.int (cs.getD i 0))]) rfl (pc' := 38) rfl ?_
        refine own_iinc X13.here hx (hb hby dC2_38) rfl (y := Int32.ofNat (i + 1)) (own_inc _) (L' := #[.val (.ref ar), .val (.int (Int32.ofNat (i + 1))), .val (.ref dt), .val (.int (Int32.ofNat (i + 1))), .val (.int (Int32.ofNat n)), .val (.int (Int32.ofNat (i + 1))), .val (.int (cs.getD i 0))]) rfl (pc' := 41) rfl ?_
        refine own_goto X13.here hx (hb hby dC2_41) (by decide) (pc' := 3) (by decide) ?_
        exact ih (i + 1) (by omega) _ (Or.inr ⟨_, rfl⟩) _ _ _ X13 e13 N16 f15 f14 V13
  exact J k0 0 (by omega) _ (Or.inl rfl) _ _ _ X0 e0 N0 (Keep.refl h0 [dt]) A0 D0
theorem dC1_0 : decode jdk_52_method_16_code 0 = .ok (.iload_n 2, 1) := by decide +kernel
theorem dC1_1 : decode jdk_52_method_16_code 1 = .ok (.newarray .byte, 2) := by decide +kernel
theorem dC1_3 : decode jdk_52_method_16_code 3 = .ok (.astore_n 3, 1) := by decide +kernel
theorem dC1_4 : decode jdk_52_method_16_code 4 = .ok (.aload_n 0, 1) := by decide +kernel
theorem dC1_5 : decode jdk_52_method_16_code 5 = .ok (.iload_n 1, 1) := by decide +kernel
theorem dC1_6 : decode jdk_52_method_16_code 6 = .ok (.aload_n 3, 1) := by decide +kernel
theorem dC1_7 : decode jdk_52_method_16_code 7 = .ok (.iconst 0, 1) := by decide +kernel
theorem dC1_8 : decode jdk_52_method_16_code 8 = .ok (.iload_n 2, 1) := by decide +kernel
theorem dC1_9 : decode jdk_52_method_16_code 9 = .ok (.invokestatic 115, 3) := by decide +kernel
theorem dC1_12 : decode jdk_52_method_16_code 12 = .ok (.istore 4, 2) := by decide +kernel
theorem dC1_14 : decode jdk_52_method_16_code 14 = .ok (.iload 4, 2) := by decide +kernel
theorem dC1_16 : decode jdk_52_method_16_code 16 = .ok (.iload_n 2, 1) := by decide +kernel
theorem dC1_17 : decode jdk_52_method_16_code 17 = .ok (.if_icmp .eq 40, 3) := by decide +kernel
theorem dC1_20 : decode jdk_52_method_16_code 20 = .ok (.aload_n 0, 1) := by decide +kernel
theorem dC1_21 : decode jdk_52_method_16_code 21 = .ok (.iload_n 1, 1) := by decide +kernel
theorem dC1_22 : decode jdk_52_method_16_code 22 = .ok (.iload_n 2, 1) := by decide +kernel
theorem dC1_23 : decode jdk_52_method_16_code 23 = .ok (.invokestatic 119, 3) := by decide +kernel
theorem dC1_26 : decode jdk_52_method_16_code 26 = .ok (.astore 5, 2) := by decide +kernel
theorem dC1_28 : decode jdk_52_method_16_code 28 = .ok (.aload 5, 2) := by decide +kernel
theorem dC1_30 : decode jdk_52_method_16_code 30 = .ok (.iload 4, 2) := by decide +kernel
theorem dC1_32 : decode jdk_52_method_16_code 32 = .ok (.invokestatic 71, 3) := by decide +kernel
theorem dC1_35 : decode jdk_52_method_16_code 35 = .ok (.sipush 255, 3) := by decide +kernel
theorem dC1_38 : decode jdk_52_method_16_code 38 = .ok (.if_icmp .gt 16, 3) := by decide +kernel
theorem dC1_41 : decode jdk_52_method_16_code 41 = .ok (.aload 5, 2) := by decide +kernel
theorem dC1_43 : decode jdk_52_method_16_code 43 = .ok (.iconst 0, 1) := by decide +kernel
theorem dC1_44 : decode jdk_52_method_16_code 44 = .ok (.aload_n 3, 1) := by decide +kernel
theorem dC1_45 : decode jdk_52_method_16_code 45 = .ok (.iconst 0, 1) := by decide +kernel
theorem dC1_46 : decode jdk_52_method_16_code 46 = .ok (.iload_n 2, 1) := by decide +kernel
theorem dC1_47 : decode jdk_52_method_16_code 47 = .ok (.invokestatic 123, 3) := by decide +kernel
theorem dC1_50 : decode jdk_52_method_16_code 50 = .ok (.iload_n 2, 1) := by decide +kernel
theorem dC1_51 : decode jdk_52_method_16_code 51 = .ok (.if_icmp .eq 6, 3) := by decide +kernel
theorem dC1_54 : decode jdk_52_method_16_code 54 = .ok (.aload 5, 2) := by decide +kernel
theorem dC1_56 : decode jdk_52_method_16_code 56 = .ok (.areturn, 1) := by decide +kernel
theorem dC1_57 : decode jdk_52_method_16_code 57 = .ok (.aload_n 3, 1) := by decide +kernel
theorem dC1_58 : decode jdk_52_method_16_code 58 = .ok (.areturn, 1) := by decide +kernel
theorem efC1 (m : MethodId) (x0 : Addr) (x1 : Int32) (x2 : Int32) : entryFrame m #[(.ref x0), (.int x1), (.int x2)] 6 = mkF m 0 #[.val (.ref x0), .val (.int x1), .val (.int x2), .unset, .unset, .unset] [] := by first | (simp [entryFrame, mkF, argsToLocals, Value.category]; done) | rfl
def Q_rmC1 (Z : State) (ar : Addr) (ka : ClassId) (cs : List Int32) (N : Int32) (d0 : Value) (n : Nat) (h0 : Heap) (v : Option Value) (h : Heap) (L : List Loc) : Prop := ∃ t kt cd N2 vs, v = some (.ref t) ∧ Ext h0 h ∧ Fr Z.heap.size L ∧ h0.size ≤ t ∧ Arv Z h t kt .byte N2 vs (.int 0) ∧ StrChars.Road.CodA (cs.take n) cd N2 vs
set_option maxRecDepth 65536 in
set_option maxHeartbeats 40000000 in
theorem rmC1 (l : Launch) (Z : State) (a0 : Array Value) (hw : ∀ d ∈ tables_1, d.before a0 Z = true) (ar : Addr) (ka : ClassId) (cs : List Int32) (N : Int32) (d0 : Value) (n : Nat) (h0 : Heap) (EZ : Ext Z.heap h0) (O3 : Sta Z Z.heap "java/lang/StringUTF16" "$assertionsDisabled" "Z" (.int 1)) (O4 : Sta Z Z.heap "java/lang/StringUTF16" "HI_BYTE_SHIFT" "I" (.int 0)) (O5 : Sta Z Z.heap "java/lang/StringUTF16" "LO_BYTE_SHIFT" "I" (.int 8)) (A0 : Arv Z h0 ar ka .char N (cs.map Value.int) d0) (hN : N = Int32.ofNat cs.length) (hc : n ≤ cs.length) (hl : cs.length ≤ 4000) (hp : ∀ c ∈ cs, ¬ c < 0 ∧ ¬ (65535 : Int32) < c) (hn : n ≤ 16) :
    MetFree l (⟨"java/lang/StringUTF16", "compress", "([CII)[B"⟩ : MethodName) (head1 (Jvm.Cond.code (⟨"java/lang/StringUTF16", "compress", "([CII)[B"⟩ : MethodName) jdk_52_method_16_code 6 (Option.some (FieldType.array FieldType.byte)) :: []) ({ frames := 3, cells := 2, slots := 48, locals := 40 } : Room)) (fun aa U => aa = #[(.ref ar), (.int (0 : Int32)), (.int (Int32.ofNat n))] ∧ Z.Warmed39 U.vm ∧ U.heap = h0) (fun _ _ _ _ _ => True) (fun _ U o U' => ∃ v L, o = .returned v ∧ (Q_rmC1 Z ar ka cs N d0 n h0) v U'.heap L ∧ FrameEnd U o U' L ({ frames := 3, cells := 2, slots := 48, locals := 40 } : Room).cells ({ frames := 3, cells := 2, slots := 48, locals := 40 } : Room).slots) := by
  refine own_walkN (by exact pnU) ?_
  intro p e s m below meth c T0 X0 hx hby hml hret hlk hnm hown hZ e0 es0 F hF
  refine own_on (fun _ => castTop (efC1 m ar 0 _)) ?_
  have M0 := own_ext_refl h0
  have N0 := Fr.nil Z.heap.size
  refine own_iload_n X0.here hx (hb hby dC1_0) rfl (pc' := 1) rfl ?_
  obtain ⟨T1, h1, k1, X1, e1, E1, A1, st1⟩ := newP X0 hx hZ (hw _ (List.mem_of_getElem? (i := 22) rfl)) e0 (g := (mkF m 1 #[.val (.ref ar), .val (.int ((0 : Int32))), .val (.int (Int32.ofNat n)), .unset, .unset, .unset] [(.int (Int32.ofNat n))])) rfl (hb hby dC1_1) rfl (own_nn (by omega)) (cap := 16) (by rw [own_tn (by omega)]; omega) (by decide) (by decide) (by decide)
  obtain ⟨a1, g1⟩ : ∃ z, z = h0.size := ⟨_, rfl⟩
  rw [← g1] at A1 st1
  have ne2 : ar ≠ a1 := Nat.ne_of_lt (by rw [g1]; exact A0.lt)
  have ge3 : h0.size ≤ a1 := by rw [g1]; exact M0.1
  have f4 := own_ext_trans M0 E1
  have f5 := A0.ext E1
  have V1 := (Arv.new A1 (own_nn (by omega))).pad (pad_rep [] (defaultValue (newarray.typeOf .byte)) (Int32.ofNat n).toNatClampNeg)
  refine own_on st1 ?_
  show own_Go p e below F (T1.setTop (mkF m 3 #[.val (.ref ar), .val (.int ((0 : Int32))), .val (.int (Int32.ofNat n)), .unset, .unset, .unset] [(.ref a1)]))
  have gz_a1 : Z.heap.size ≤ a1 := Nat.le_trans EZ.1 ge3
  have D0 : Arv Z h1 a1 k1 .byte (Int32.ofNat n) (own_lo cs n 0) (.int 0) := by have q := V1; rw [own_tn (by omega)] at q; rw [show own_lo cs n 0 = [] ++ List.replicate n (.int 0) by simp [own_lo]]; exact q
  refine own_astore_n X1.here hx (hb hby dC1_3) rfl (L' := #[.val (.ref ar), .val (.int ((0 : Int32))), .val (.int (Int32.ofNat n)), .val (.ref a1), .unset, .unset]) rfl (pc' := 4) rfl ?_
  refine own_aload_n X1.here hx (hb hby dC1_4) rfl rfl (pc' := 5) rfl ?_
  refine own_iload_n X1.here hx (hb hby dC1_5) rfl (pc' := 6) rfl ?_
  refine own_aload_n X1.here hx (hb hby dC1_6) rfl rfl (pc' := 7) rfl ?_
  refine own_iconst X1.here hx (hb hby dC1_7) (v := 0) rfl (pc' := 8) rfl ?_
  refine own_iload_n X1.here hx (hb hby dC1_8) rfl (pc' := 9) rfl ?_
  rcases own_cases cs n hc with hq | ⟨k0, hk, hk1, hq⟩
  · obtain ⟨_, _, ⟨T6, L6, k6, n6⟩, -, X6, ⟨Lc6, hQ6, l6, y6, z6⟩, st6⟩ := Jvm.LawKit.callS X1 hx (y := (⟨"java/lang/StringUTF16", "compress", "([CI[BII)I"⟩ : MethodName)) hown (mvT hZ (hw _ (List.mem_of_getElem? (i := 125) rfl))) (mvT hZ (hw _ (List.mem_of_getElem? (i := 126) rfl))) (mvT hZ (hw _ (List.mem_of_getElem? (i := 123) rfl))) (mvT hZ (hw _ (List.mem_of_getElem? (i := 127) rfl))) (by decide) (backOf (W := 0) (rmC2 l Z a0 hw a1 k1 ar ka cs N d0 n h1 (own_ext_trans EZ f4) f5 hN hc hl gz_a1 ne2 D0 hq) hZ (hw _ (List.mem_of_getElem? (i := 127) rfl)) (hw _ (List.mem_of_getElem? (i := 123) rfl)) (by decide) (by decide)) (g := (mkF m 9 #[.val (.ref ar), .val (.int ((0 : Int32))), .val (.int (Int32.ofNat n)), .val (.ref a1), .unset, .unset] [(.int (Int32.ofNat n)), (.int ((0 : Int32))), (.ref a1), (.int ((0 : Int32))), (.ref ar)])) rfl (by rw [hml]; rfl) (argsL := [(.ref ar), (.int ((0 : Int32))), (.ref a1), (.int ((0 : Int32))), (.int (Int32.ofNat n))]) (rest := []) (lenOf pdx7 rfl) rfl (by show 2 * 0 + _ ≤ _; exact Nat.le_of_eq rfl) (hb hby dC1_9) (fun _ _ => ⟨rfl, e1, (Nat.le_of_ble_eq_true rfl), (Nat.le_of_ble_eq_true rfl)⟩)
    dsimp only [Pt.U, Pt.locs, Pt.cells, Pt.slots] at X6 l6 y6 z6 st6 hQ6
    rw [l6, y6, z6] at X6
    obtain ⟨rfl, N6, K6, V6⟩ := hQ6
    refine own_on (st6) ?_
    show own_Go p e below F (T6.setTop (mkF m 12 #[.val (.ref ar), .val (.int ((0 : Int32))), .val (.int (Int32.ofNat n)), .val (.ref a1), .unset, .unset] [(.int (Int32.ofNat n))]))
    have f7 := own_ext_keep f4 K6 (fun y hy => by simp only [List.mem_cons, List.not_mem_nil, or_false] at hy; rcases hy with rfl <;> assumption)
    have f8 := f5.keep K6 (by simp only [List.mem_cons, List.not_mem_nil, or_false, not_or]; exact ne2)
    have N10 := Fr.app N0 N6
    refine own_istore X6.here hx (hb hby dC1_12) (L' := #[.val (.ref ar), .val (.int ((0 : Int32))), .val (.int (Int32.ofNat n)), .val (.ref a1), .val (.int (Int32.ofNat n)), .unset]) rfl (pc' := 14) rfl ?_
    refine own_iload X6.here hx (hb hby dC1_14) rfl (pc' := 16) rfl ?_
    refine own_iload_n X6.here hx (hb hby dC1_16) rfl (pc' := 17) rfl ?_
    refine own_icmpeq X6.here hx (hb hby dC1_17) (by decide) (pc' := 57) (by decide) (pc2 := 20) rfl (fun q11 => ?_) (fun q => absurd rfl q)
    refine own_aload_n X6.here hx (hb hby dC1_57) rfl rfl (pc' := 58) rfl ?_
    exact own_retA X6 hx hlk hret rfl rfl (hb hby dC1_58) (fun t ht hE => hF t _ _ _ _ (by rw [ht, (rfl : _ = T6.heap)]; exact ⟨a1, k1, 0, _, _, rfl, f7, N10, ge3, V6, own_codL hc hq⟩) hE (by decide) (by decide))
  · obtain ⟨_, _, ⟨T12, L12, k12, n12⟩, -, X12, ⟨Lc12, hQ12, l12, y12, z12⟩, st12⟩ := Jvm.LawKit.callS X1 hx (y := (⟨"java/lang/StringUTF16", "compress", "([CI[BII)I"⟩ : MethodName)) hown (mvT hZ (hw _ (List.mem_of_getElem? (i := 125) rfl))) (mvT hZ (hw _ (List.mem_of_getElem? (i := 126) rfl))) (mvT hZ (hw _ (List.mem_of_getElem? (i := 123) rfl))) (mvT hZ (hw _ (List.mem_of_getElem? (i := 127) rfl))) (by decide) (backOf (W := 0) (rmC3 l Z a0 hw a1 k1 ar ka cs N d0 n h1 (own_ext_trans EZ f4) f5 hN hc hl gz_a1 ne2 D0 k0 hk hk1 hq) hZ (hw _ (List.mem_of_getElem? (i := 127) rfl)) (hw _ (List.mem_of_getElem? (i := 123) rfl)) (by decide) (by decide)) (g := (mkF m 9 #[.val (.ref ar), .val (.int ((0 : Int32))), .val (.int (Int32.ofNat n)), .val (.ref a1), .unset, .unset] [(.int (Int32.ofNat n)), (.int ((0 : Int32))), (.ref a1), (.int ((0 : Int32))), (.ref ar)])) rfl (by rw [hml]; rfl) (argsL := [(.ref ar), (.int ((0 : Int32))), (.ref a1), (.int ((0 : Int32))), (.int (Int32.ofNat n))]) (rest := []) (lenOf pdx7 rfl) rfl (by show 2 * 0 + _ ≤ _; exact Nat.le_of_eq rfl) (hb hby dC1_9) (fun _ _ => ⟨rfl, e1, (Nat.le_of_ble_eq_true rfl), (Nat.le_of_ble_eq_true rfl)⟩)
    dsimp only [Pt.U, Pt.locs, Pt.cells, Pt.slots] at X12 l12 y12 z12 st12 hQ12
    rw [l12, y12, z12] at X12
    obtain ⟨rfl, N12, K12, V12⟩ := hQ12
    refine own_on (st12) ?_
    show own_Go p e below F (T12.setTop (mkF m 12 #[.val (.ref ar), .val (.int ((0 : Int32))), .val (.int (Int32.ofNat n)), .val (.ref a1), .unset, .unset] [(.int (Int32.ofNat k0))]))
    have f13 := own_ext_keep f4 K12 (fun y hy => by simp only [List.mem_cons, List.not_mem_nil, or_false] at hy; rcases hy with rfl <;> assumption)
    have f14 := f5.keep K12 (by simp only [List.mem_cons, List.not_mem_nil, or_false, not_or]; exact ne2)
    have N16 := Fr.app N0 N12
    refine own_istore X12.here hx (hb hby dC1_12) (L' := #[.val (.ref ar), .val (.int ((0 : Int32))), .val (.int (Int32.ofNat n)), .val (.ref a1), .val (.int (Int32.ofNat k0)), .unset]) rfl (pc' := 14) rfl ?_
    refine own_iload X12.here hx (hb hby dC1_14) rfl (pc' := 16) rfl ?_
    refine own_iload_n X12.here hx (hb hby dC1_16) rfl (pc' := 17) rfl ?_
    refine own_icmpeq X12.here hx (hb hby dC1_17) (by decide) (pc' := 57) (by decide) (pc2 := 20) rfl (fun q => absurd (own_inj (by omega) (by omega) q) (by omega)) (fun q17 => ?_)
    refine own_aload_n X12.here hx (hb hby dC1_20) rfl rfl (pc' := 21) rfl ?_
    refine own_iload_n X12.here hx (hb hby dC1_21) rfl (pc' := 22) rfl ?_
    refine own_iload_n X12.here hx (hb hby dC1_22) rfl (pc' := 23) rfl ?_
    obtain ⟨_, _, ⟨T18, L18, k18, n18⟩, -, X18, ⟨Lc18, hQ18, l18, y18, z18⟩, st18⟩ := Jvm.LawKit.callS X12 hx (y := (⟨"java/lang/StringUTF16", "toBytes", "([CII)[B"⟩ : MethodName)) hown (mvT hZ (hw _ (List.mem_of_getElem? (i := 180) rfl))) (mvT hZ (hw _ (List.mem_of_getElem? (i := 181) rfl))) (mvT hZ (hw _ (List.mem_of_getElem? (i := 123) rfl))) (mvT hZ (hw _ (List.mem_of_getElem? (i := 182) rfl))) (by decide) (backOf (W := 0) (rmTB l Z a0 hw ar ka cs N d0 n T12.heap (own_ext_trans EZ f13) O3 O4 O5 f14 hN hc hl hn) hZ (hw _ (List.mem_of_getElem? (i := 182) rfl)) (hw _ (List.mem_of_getElem? (i := 123) rfl)) (by decide) (by decide)) (g := (mkF m 23 #[.val (.ref ar), .val (.int ((0 : Int32))), .val (.int (Int32.ofNat n)), .val (.ref a1), .val (.int (Int32.ofNat k0)), .unset] [(.int (Int32.ofNat n)), (.int ((0 : Int32))), (.ref ar)])) rfl (by rw [hml]; rfl) (argsL := [(.ref ar), (.int ((0 : Int32))), (.int (Int32.ofNat n))]) (rest := []) (lenOf pdx5 rfl) rfl (by show 2 * 0 + _ ≤ _; exact Nat.le_of_eq rfl) (hb hby dC1_23) (fun _ _ => ⟨rfl, rfl, (Nat.le_of_ble_eq_true rfl), (Nat.le_of_ble_eq_true rfl)⟩)
    dsimp only [Pt.U, Pt.locs, Pt.cells, Pt.slots] at X18 l18 y18 z18 st18 hQ18
    rw [l18, y18, z18] at X18
    obtain ⟨t18, k18t, rfl, E18, N18, g18, V18⟩ := hQ18
    refine own_on (st18) ?_
    show own_Go p e below F (T18.setTop (mkF m 26 #[.val (.ref ar), .val (.int ((0 : Int32))), .val (.int (Int32.ofNat n)), .val (.ref a1), .val (.int (Int32.ofNat k0)), .unset] [(.ref t18)]))
    have f19 := own_ext_trans f13 E18
    have f20 := f14.ext E18
    have N21 := Fr.app N16 N18
    have hgl : h0.size ≤ t18 := Nat.le_trans f13.1 g18
    have hln : (cs.take n).length = n := by rw [List.length_take, Nat.min_eq_left hc]
    refine own_astore X18.here hx (hb hby dC1_26) rfl (L' := #[.val (.ref ar), .val (.int ((0 : Int32))), .val (.int (Int32.ofNat n)), .val (.ref a1), .val (.int (Int32.ofNat k0)), .val (.ref t18)]) rfl (pc' := 28) rfl ?_
    refine own_aload X18.here hx (hb hby dC1_28) rfl rfl (pc' := 30) rfl ?_
    refine own_iload X18.here hx (hb hby dC1_30) rfl (pc' := 32) rfl ?_
    obtain ⟨_, _, ⟨T22, L22, k22, n22⟩, -, X22, ⟨Lc22, hQ22, l22, y22, z22⟩, st22⟩ := Jvm.LawKit.callS X18 hx (y := (⟨"java/lang/StringUTF16", "getChar", "([BI)C"⟩ : MethodName)) hown (mvT hZ (hw _ (List.mem_of_getElem? (i := 196) rfl))) (mvT hZ (hw _ (List.mem_of_getElem? (i := 197) rfl))) (mvT hZ (hw _ (List.mem_of_getElem? (i := 123) rfl))) (mvT hZ (hw _ (List.mem_of_getElem? (i := 198) rfl))) (by decide) (backOf (W := 0) (rmGC l Z a0 hw t18 k18t (cs.take n) k0 T18.heap (own_ext_trans EZ f19) O3 O4 O5 (by rw [hln]; have q := V18; rw [show own_wi cs n n = StrChars.Road.wideBytes (cs.take n) by simp [own_wi]] at q; exact q) (fun c hc => hp c (List.mem_of_mem_take hc)) (by omega) (by omega)) hZ (hw _ (List.mem_of_getElem? (i := 198) rfl)) (hw _ (List.mem_of_getElem? (i := 123) rfl)) (by decide) (by decide)) (g := (mkF m 32 #[.val (.ref ar), .val (.int ((0 : Int32))), .val (.int (Int32.ofNat n)), .val (.ref a1), .val (.int (Int32.ofNat k0)), .val (.ref t18)] [(.int (Int32.ofNat k0)), (.ref t18)])) rfl (by rw [hml]; rfl) (argsL := [(.ref t18), (.int (Int32.ofNat k0))]) (rest := []) (lenOf pdx6 rfl) rfl (by show 2 * 0 + _ ≤ _; exact Nat.le_of_eq rfl) (hb hby dC1_32) (fun _ _ => ⟨rfl, rfl, (Nat.le_of_ble_eq_true rfl), (Nat.le_of_ble_eq_true rfl)⟩)
    dsimp only [Pt.U, Pt.locs, Pt.cells, Pt.slots] at X22 l22 y22 z22 st22 hQ22
    rw [l22, y22, z22] at X22
    obtain ⟨rfl, N22, E22⟩ := hQ22
    refine own_on (st22) ?_
    show own_Go p e below F (T22.setTop (mkF m 35 #[.val (.ref ar), .val (.int ((0 : Int32))), .val (.int (Int32.ofNat n)), .val (.ref a1), .val (.int (Int32.ofNat k0)), .val (.ref t18)] [(.int ((cs.take n).getD k0 0))]))
    have N23 := Fr.app N21 N22
    rw [own_take_get hk]
    show own_Go p e below F (T22.setTop (mkF m 35 #[.val (.ref ar), .val (.int ((0 : Int32))), .val (.int (Int32.ofNat n)), .val (.ref a1), .val (.int (Int32.ofNat k0)), .val (.ref t18)] [(.int (cs.getD k0 0))]))
    refine own_sipush X22.here hx (hb hby dC1_35) (v := 255) rfl (pc' := 38) rfl ?_
    refine own_icmpgt X22.here hx (hb hby dC1_38) (by decide) (pc' := 54) (by decide) (pc2 := 41) rfl (fun q24 => ?_) (fun q => absurd hk1 q)
    refine own_aload X22.here hx (hb hby dC1_54) rfl rfl (pc' := 56) rfl ?_
    exact own_retA X22 hx hlk hret rfl rfl (hb hby dC1_56) (fun t ht hE => hF t _ _ _ _ (by rw [ht, (E22 : _ = T18.heap)]; exact ⟨t18, k18t, 1, _, _, rfl, f19, N23, hgl, V18, own_codW hc hk hk1⟩) hE (by decide) (by decide))
theorem dCr_0 : decode jdk_52_method_15_code 0 = .ok (.iload_n 1, 1) := by decide +kernel
theorem dCr_1 : decode jdk_52_method_15_code 1 = .ok (.aload_n 0, 1) := by decide +kernel
theorem dCr_2 : decode jdk_52_method_15_code 2 = .ok (.arraylength, 1) := by decide +kernel
theorem dCr_3 : decode jdk_52_method_15_code 3 = .ok (.isub, 1) := by decide +kernel
theorem dCr_4 : decode jdk_52_method_15_code 4 = .ok (.bipush 31, 2) := by decide +kernel
theorem dCr_6 : decode jdk_52_method_15_code 6 = .ok (.iushr, 1) := by decide +kernel
theorem dCr_7 : decode jdk_52_method_15_code 7 = .ok (.i2b, 1) := by decide +kernel
theorem dCr_8 : decode jdk_52_method_15_code 8 = .ok (.ireturn, 1) := by decide +kernel
def Q_rmCr (Z : State) (t : Addr) (kt : ClassId) (cs : List Int32) (cd N2 : Int32) (vs : List Value) (h0 : Heap) (v : Option Value) (h : Heap) (L : List Loc) : Prop := v = some (.int cd) ∧ Fr Z.heap.size L ∧ h = h0
set_option maxRecDepth 65536 in
set_option maxHeartbeats 40000000 in
theorem rmCr (l : Launch) (Z : State) (a0 : Array Value) (hw : ∀ d ∈ tables_1, d.before a0 Z = true) (t : Addr) (kt : ClassId) (cs : List Int32) (cd N2 : Int32) (vs : List Value) (h0 : Heap) (A0 : Arv Z h0 t kt .byte N2 vs (.int 0)) (hcd : StrChars.Road.CodA cs cd N2 vs) (hl0 : 0 < cs.length) (hl : cs.length ≤ 4000) :
    MetFree l (⟨"java/lang/StringUTF16", "coderFromArrayLen", "([BI)B"⟩ : MethodName) (head1 (Jvm.Cond.code (⟨"java/lang/StringUTF16", "coderFromArrayLen", "([BI)B"⟩ : MethodName) jdk_52_method_15_code 2 (Option.some FieldType.byte) :: []) ({ frames := 0, cells := 0, slots := 0, locals := 0 } : Room)) (fun aa U => aa = #[(.ref t), (.int (Int32.ofNat cs.length))] ∧ Z.Warmed39 U.vm ∧ U.heap = h0) (fun _ _ _ _ _ => True) (fun _ U o U' => ∃ v L, o = .returned v ∧ (Q_rmCr Z t kt cs cd N2 vs h0) v U'.heap L ∧ FrameEnd U o U' L ({ frames := 0, cells := 0, slots := 0, locals := 0 } : Room).cells ({ frames := 0, cells := 0, slots := 0, locals := 0 } : Room).slots) := by
  refine own_walkN (by exact pnU) ?_
  intro p e s m below meth c T0 X0 hx hby hml hret hlk hnm hown hZ e0 es0 F hF
  refine own_on (fun _ => castTop (efGC m t _)) ?_
  have N0 := Fr.nil Z.heap.size
  refine own_iload_n X0.here hx (hb hby dCr_0) rfl (pc' := 1) rfl ?_
  refine own_aload_n X0.here hx (hb hby dCr_1) rfl rfl (pc' := 2) rfl ?_
  refine own_alen X0 hx hZ e0 A0 (hb hby dCr_2) (pc' := 3) rfl ?_
  refine own_isub X0.here hx (hb hby dCr_3) (pc' := 4) rfl ?_
  refine own_bipush X0.here hx (hb hby dCr_4) (v := 31) rfl (pc' := 6) rfl ?_
  refine own_iushr X0.here hx (hb hby dCr_6) (pc' := 7) rfl ?_
  refine own_i2b X0.here hx (hb hby dCr_7) (pc' := 8) rfl ?_
  have hv : (XT.ushr ((Int32.ofNat cs.length) - N2) (31 : Int32)).toInt8.toInt32 = cd ∧ (cd = 0 ∨ cd = 1) := by
    rcases hcd with ⟨rfl, rfl, -, -⟩ | ⟨rfl, rfl, -, -⟩
    · exact ⟨own_coder0 _, Or.inl rfl⟩
    · exact ⟨own_coder1 hl0 hl, Or.inr rfl⟩
  rw [hv.1]
  show own_Go p e below F (T0.setTop (mkF m 8 #[.val (.ref t), .val (.int (Int32.ofNat cs.length))] [(.int cd)]))
  exact own_ret X0 hx hlk hret (by rcases hv.2 with rfl | rfl <;> rfl) (Or.inl ⟨rfl, Or.inr (Or.inr (Or.inl rfl)), _, rfl⟩) (hb hby dCr_8) (fun t ht hE => hF t _ _ _ _ (by rw [ht, (e0 : _ = h0)]; exact ⟨rfl, Fr.nil _, rfl⟩) hE (by decide) (by decide))
def Q_rmI4 (Z : State) (x ar : Addr) (ka : ClassId) (cs : List Int32) (N : Int32) (d0 : Value) (n : Nat) (h0 : Heap) (z0 : Int32) (v : Option Value) (h : Heap) (L : List Loc) : Prop := v = none ∧ Fr Z.heap.size L ∧ Keep h0 h [x] ∧ own_S Z h x (cs.take n)
set_option maxRecDepth 65536 in
set_option maxHeartbeats 40000000 in
theorem rmI4 (l : Launch) (Z : State) (a0 : Array Value) (hw : ∀ d ∈ tables_1, d.before a0 Z = true) (x ar : Addr) (ka : ClassId) (cs : List Int32) (N : Int32) (d0 : Value) (n : Nat) (h0 : Heap) (EZ : Ext Z.heap h0) (z0 : Int32) (O1 : Sta Z Z.heap "java/lang/String" "COMPACT_STRINGS" "Z" (.int z0)) (P5 : ¬ z0 = 0) (O3 : Sta Z Z.heap "java/lang/StringUTF16" "$assertionsDisabled" "Z" (.int 1)) (O4 : Sta Z Z.heap "java/lang/StringUTF16" "HI_BYTE_SHIFT" "I" (.int 0)) (O5 : Sta Z Z.heap "java/lang/StringUTF16" "LO_BYTE_SHIFT" "I" (.int 8)) (gx : Z.heap.size ≤ x) (hxa : ar ≠ x) (E0 : Exa Z h0 x "java/lang/String") (Fv : Fld Z h0 x "java/lang/String" "value" "[B" .null) (Fc : Fld Z h0 x "java/lang/String" "coder" "B" (.int (0 : Int32))) (A0 : Arv Z h0 ar ka .char N (cs.map Value.int) d0) (hN : N = Int32.ofNat cs.length) (hl : cs.length ≤ 4000) (hp : ∀ c ∈ cs, ¬ c < 0 ∧ ¬ (65535 : Int32) < c) (hc : n ≤ cs.length) (hn : n ≤ 16) (hn0 : 0 < n) :
    MetFree l (⟨"java/lang/String", "<init>", "([CIILjava/lang/Void;)V"⟩ : MethodName) (head1 (Jvm.Cond.code (⟨"java/lang/String", "<init>", "([CIILjava/lang/Void;)V"⟩ : MethodName) jdk_42_method_149_code 6 (Option.none : Option FieldType) :: []) ({ frames := 4, cells := 2, slots := 48, locals := 57 } : Room)) (fun aa U => aa = #[(.ref x), (.ref ar), (.int (0 : Int32)), (.int (Int32.ofNat n)), .null] ∧ Z.Warmed39 U.vm ∧ U.heap = h0) (fun _ _ _ _ _ => True) (fun _ U o U' => ∃ v L, o = .returned v ∧ (Q_rmI4 Z x ar ka cs N d0 n h0 z0) v U'.heap L ∧ FrameEnd U o U' L ({ frames := 4, cells := 2, slots := 48, locals := 57 } : Room).cells ({ frames := 4, cells := 2, slots := 48, locals := 57 } : Room).slots) := by
  refine own_walkN (by exact pnS) ?_
  intro p e s m below meth c T0 X0 hx hby hml hret hlk hnm hown hZ e0 es0 F hF
  refine own_on (fun _ => castTop (efE4 m x ar 0 _)) ?_
  have N0 := Fr.nil Z.heap.size
  have Q0 := Keep.refl h0 [x]
  have hln : (cs.take n).length = n := by rw [List.length_take, Nat.min_eq_left hc]
  refine own_aload_n X0.here hx (hb hby dE4_0) rfl rfl (pc' := 1) rfl ?_
  obtain ⟨T1, X1, e1, st1⟩ := initO X0 hx hZ hown (hw _ (List.mem_of_getElem? (i := 18) rfl)) (hw _ (List.mem_of_getElem? (i := 19) rfl)) (hw _ (List.mem_of_getElem? (i := 20) rfl)) e0 (g := (mkF m 1 #[.val (.ref x), .val (.ref ar), .val (.int ((0 : Int32))), .val (.int (Int32.ofNat n)), .val .null, .unset] [(.ref x)])) rfl (by rw [hml]; rfl) rfl (hb hby dE4_1) (by decide) (W := 0) (by show 2 * 0 + _ ≤ _; exact Nat.le_of_eq rfl) (by decide)
  refine own_on st1 ?_
  show own_Go p e below F (T1.setTop (mkF m 4 #[.val (.ref x), .val (.ref ar), .val (.int ((0 : Int32))), .val (.int (Int32.ofNat n)), .val .null, .unset] []))
  refine own_iload_n X1.here hx (hb hby dE4_4) rfl (pc' := 5) rfl ?_
  refine own_ifne X1.here hx (hb hby dE4_5) (by decide) (pc' := 27) (by decide) (pc2 := 8) rfl (fun q2 => ?_) (fun q => absurd (own_inj (k := 0) (by omega) (by omega) q) (by omega))
  obtain ⟨T3, X3, e3, st3⟩ := getS (host := "") X1 hx hZ hown (hw _ (List.mem_of_getElem? (i := 55) rfl)) Via.refl e1 (O1.ext EZ) (g := (mkF m 27 #[.val (.ref x), .val (.ref ar), .val (.int ((0 : Int32))), .val (.int (Int32.ofNat n)), .val .null, .unset] [])) rfl (hb hby dE4_27)
  refine own_on st3 ?_
  show own_Go p e below F (T3.setTop (mkF m 30 #[.val (.ref x), .val (.ref ar), .val (.int ((0 : Int32))), .val (.int (Int32.ofNat n)), .val .null, .unset] [(.int z0)]))
  refine own_ifeq X3.here hx (hb hby dE4_30) (by decide) (pc' := 58) (by decide) (pc2 := 33) rfl (fun q => absurd q P5) (fun q4 => ?_)
  refine own_aload_n X3.here hx (hb hby dE4_33) rfl rfl (pc' := 34) rfl ?_
  refine own_iload_n X3.here hx (hb hby dE4_34) rfl (pc' := 35) rfl ?_
  refine own_iload_n X3.here hx (hb hby dE4_35) rfl (pc' := 36) rfl ?_
  obtain ⟨_, _, ⟨T5, L5, k5, n5⟩, -, X5, ⟨Lc5, hQ5, l5, y5, z5⟩, st5⟩ := Jvm.LawKit.callS X3 hx (y := (⟨"java/lang/StringUTF16", "compress", "([CII)[B"⟩ : MethodName)) hown (mvT hZ (hw _ (List.mem_of_getElem? (i := 121) rfl))) (mvT hZ (hw _ (List.mem_of_getElem? (i := 122) rfl))) (mvT hZ (hw _ (List.mem_of_getElem? (i := 123) rfl))) (mvT hZ (hw _ (List.mem_of_getElem? (i := 124) rfl))) (by decide) (backOf (W := 0) (rmC1 l Z a0 hw ar ka cs N d0 n h0 EZ O3 O4 O5 A0 hN hc hl hp hn) hZ (hw _ (List.mem_of_getElem? (i := 124) rfl)) (hw _ (List.mem_of_getElem? (i := 123) rfl)) (by decide) (by decide)) (g := (mkF m 36 #[.val (.ref x), .val (.ref ar), .val (.int ((0 : Int32))), .val (.int (Int32.ofNat n)), .val .null, .unset] [(.int (Int32.ofNat n)), (.int ((0 : Int32))), (.ref ar)])) rfl (by rw [hml]; rfl) (argsL := [(.ref ar), (.int ((0 : Int32))), (.int (Int32.ofNat n))]) (rest := []) (lenOf pdx5 rfl) rfl (by show 2 * 0 + _ ≤ _; exact Nat.le_of_eq rfl) (hb hby dE4_36) (fun _ _ => ⟨rfl, e3, (Nat.le_of_ble_eq_true rfl), (Nat.le_of_ble_eq_true rfl)⟩)
  dsimp only [Pt.U, Pt.locs, Pt.cells, Pt.slots] at X5 l5 y5 z5 st5 hQ5
  rw [l5, y5, z5] at X5
  obtain ⟨t5, k5t, cd, N2, vs, rfl, E5, N5, g5, V5, hcd⟩ := hQ5
  refine own_on (st5) ?_
  show own_Go p e below F (T5.setTop (mkF m 39 #[.val (.ref x), .val (.ref ar), .val (.int ((0 : Int32))), .val (.int (Int32.ofNat n)), .val .null, .unset] [(.ref t5)]))
  have f6 := Q0.ext E5
  have f7 := E0.ext E5
  have f8 := Fv.ext E5
  have f9 := Fc.ext E5
  have N10 := Fr.app N0 N5
  have hxt : x ≠ t5 := Nat.ne_of_lt (Nat.lt_of_lt_of_le E0.lt g5)
  refine own_astore X5.here hx (hb hby dE4_39) rfl (L' := #[.val (.ref x), .val (.ref ar), .val (.int ((0 : Int32))), .val (.int (Int32.ofNat n)), .val .null, .val (.ref t5)]) rfl (pc' := 41) rfl ?_
  refine own_aload_n X5.here hx (hb hby dE4_41) rfl rfl (pc' := 42) rfl ?_
  refine own_aload X5.here hx (hb hby dE4_42) rfl rfl (pc' := 44) rfl ?_
  refine own_iload_n X5.here hx (hb hby dE4_44) rfl (pc' := 45) rfl ?_
  have hcf := rmCr l Z a0 hw t5 k5t (cs.take n) cd N2 vs T5.heap V5 hcd (by omega) (by omega)
  rw [hln] at hcf
  obtain ⟨_, _, ⟨T11, L11, k11, n11⟩, -, X11, ⟨Lc11, hQ11, l11, y11, z11⟩, st11⟩ := Jvm.LawKit.callS X5 hx (y := (⟨"java/lang/StringUTF16", "coderFromArrayLen", "([BI)B"⟩ : MethodName)) hown (mvT hZ (hw _ (List.mem_of_getElem? (i := 128) rfl))) (mvT hZ (hw _ (List.mem_of_getElem? (i := 129) rfl))) (mvT hZ (hw _ (List.mem_of_getElem? (i := 123) rfl))) (mvT hZ (hw _ (List.mem_of_getElem? (i := 130) rfl))) (by decide) (backOf (W := 1) (hcf) hZ (hw _ (List.mem_of_getElem? (i := 130) rfl)) (hw _ (List.mem_of_getElem? (i := 123) rfl)) (by decide) (by decide)) (g := (mkF m 45 #[.val (.ref x), .val (.ref ar), .val (.int ((0 : Int32))), .val (.int (Int32.ofNat n)), .val .null, .val (.ref t5)] [(.int (Int32.ofNat n)), (.ref t5), (.ref x)])) rfl (by rw [hml]; rfl) (argsL := [(.ref t5), (.int (Int32.ofNat n))]) (rest := [(.ref x)]) (lenOf pdx8 rfl) rfl (by show 2 * 0 + _ ≤ _; exact Nat.le_of_eq rfl) (hb hby dE4_45) (fun _ _ => ⟨rfl, rfl, (Nat.le_of_ble_eq_true rfl), (Nat.le_of_ble_eq_true rfl)⟩)
  dsimp only [Pt.U, Pt.locs, Pt.cells, Pt.slots] at X11 l11 y11 z11 st11 hQ11
  rw [l11, y11, z11] at X11
  obtain ⟨rfl, N11, E11⟩ := hQ11
  refine own_on (st11) ?_
  show own_Go p e below F (T11.setTop (mkF m 48 #[.val (.ref x), .val (.ref ar), .val (.int ((0 : Int32))), .val (.int (Int32.ofNat n)), .val .null, .val (.ref t5)] [(.int cd), (.ref x)]))
  have N12 := Fr.app N10 N11
  obtain ⟨T13, h13, X13, e13, W13, st13⟩ := putF X11 hx hZ hown (host := "") (Or.inl (hw _ (List.mem_of_getElem? (i := 28) rfl))) Via.refl E11 f9 f7 (Or.inr ⟨(hw _ (List.mem_of_getElem? (i := 24) rfl)), rfl, hnm⟩) (hw _ (List.mem_of_getElem? (i := 9) rfl)) (ty := .byte) (by decide) (by rcases hcd with ⟨rfl, -⟩ | ⟨rfl, -⟩ <;> rfl) (by rcases hcd with ⟨rfl, -⟩ | ⟨rfl, -⟩ <;> rfl) (g := (mkF m 48 #[.val (.ref x), .val (.ref ar), .val (.int ((0 : Int32))), .val (.int (Int32.ofNat n)), .val .null, .val (.ref t5)] [(.int cd), (.ref x)])) rfl rfl (hb hby dE4_48)
  have f14 := f7.wr W13
  have f15 := f8.other W13 (Or.inr (slot_ne (Or.inr (hw _ (List.mem_of_getElem? (i := 23) rfl))) (Or.inr (hw _ (List.mem_of_getElem? (i := 24) rfl))) (by decide) (t := .array .byte) (by decide) (t' := .byte) (by decide)))
  have f16 := f9.same W13
  have f17 := V5.other W13 (Ne.symm hxt)
  have f18 := f6.wr W13 (Or.inl (by simp))
  have N19 := own_Fr_snoc (sl := Jvm.RoadKit.slotOf Z "java/lang/String" "coder" "B") N12 gx
  refine own_on st13 ?_
  show own_Go p e below F (T13.setTop (mkF m 51 #[.val (.ref x), .val (.ref ar), .val (.int ((0 : Int32))), .val (.int (Int32.ofNat n)), .val .null, .val (.ref t5)] []))
  refine own_aload_n X13.here hx (hb hby dE4_51) rfl rfl (pc' := 52) rfl ?_
  refine own_aload X13.here hx (hb hby dE4_52) rfl rfl (pc' := 54) rfl ?_
  obtain ⟨T20, h20, X20, e20, W20, st20⟩ := putF X13 hx hZ hown (host := "") (Or.inl (hw _ (List.mem_of_getElem? (i := 27) rfl))) Via.refl e13 f15 f14 (Or.inr ⟨(hw _ (List.mem_of_getElem? (i := 23) rfl)), rfl, hnm⟩) (hw _ (List.mem_of_getElem? (i := 9) rfl)) (ty := .array .byte) (by decide) rfl rfl (g := (mkF m 54 #[.val (.ref x), .val (.ref ar), .val (.int ((0 : Int32))), .val (.int (Int32.ofNat n)), .val .null, .val (.ref t5)] [(.ref t5), (.ref x)])) rfl rfl (hb hby dE4_54)
  have f21 := f14.wr W20
  have f22 := f15.same W20
  have f23 := f16.other W20 (Or.inr (slot_ne (Or.inr (hw _ (List.mem_of_getElem? (i := 24) rfl))) (Or.inr (hw _ (List.mem_of_getElem? (i := 23) rfl))) (by decide) (t := .byte) (by decide) (t' := .array .byte) (by decide)))
  have f24 := f17.other W20 (Ne.symm hxt)
  have f25 := f18.wr W20 (Or.inl (by simp))
  have N26 := own_Fr_snoc (sl := Jvm.RoadKit.slotOf Z "java/lang/String" "value" "[B") N19 gx
  refine own_on st20 ?_
  show own_Go p e below F (T20.setTop (mkF m 57 #[.val (.ref x), .val (.ref ar), .val (.int ((0 : Int32))), .val (.int (Int32.ofNat n)), .val .null, .val (.ref t5)] []))
  exact own_retV X20 hx hlk hret (hb hby dE4_57) (fun t ht hE => hF t _ _ _ _ (by rw [ht, (e20 : _ = h20)]; exact ⟨rfl, N26, f25, t5, k5t, cd, N2, vs, f21, f22, f23, f24, hcd, (fun c hc => hp c (List.mem_of_mem_take hc)), (by omega)⟩) hE (by decide) (by decide))
def Q_rmI1 (Z : State) (x ar : Addr) (ka : ClassId) (cs : List Int32) (N : Int32) (d0 : Value) (h0 : Heap) (z0 : Int32) (v : Option Value) (h : Heap) (L : List Loc) : Prop := v = none ∧ Fr Z.heap.size L ∧ Keep h0 h [x] ∧ own_S Z h x cs
set_option maxRecDepth 65536 in
set_option maxHeartbeats 40000000 in
theorem rmI1 (l : Launch) (Z : State) (a0 : Array Value) (hw : ∀ d ∈ tables_1, d.before a0 Z = true) (x ar : Addr) (ka : ClassId) (cs : List Int32) (N : Int32) (d0 : Value) (h0 : Heap) (EZ : Ext Z.heap h0) (z0 : Int32) (O1 : Sta Z Z.heap "java/lang/String" "COMPACT_STRINGS" "Z" (.int z0)) (P5 : ¬ z0 = 0) (O3 : Sta Z Z.heap "java/lang/StringUTF16" "$assertionsDisabled" "Z" (.int 1)) (O4 : Sta Z Z.heap "java/lang/StringUTF16" "HI_BYTE_SHIFT" "I" (.int 0)) (O5 : Sta Z Z.heap "java/lang/StringUTF16" "LO_BYTE_SHIFT" "I" (.int 8)) (gx : Z.heap.size ≤ x) (hxa : ar ≠ x) (E0 : Exa Z h0 x "java/lang/String") (Fv : Fld Z h0 x "java/lang/String" "value" "[B" .null) (Fc : Fld Z h0 x "java/lang/String" "coder" "B" (.int (0 : Int32))) (A0 : Arv Z h0 ar ka .char N (cs.map Value.int) d0) (hN : N = Int32.ofNat cs.length) (hl : cs.length ≤ 4000) (hp : ∀ c ∈ cs, ¬ c < 0 ∧ ¬ (65535 : Int32) < c) (hn : cs.length ≤ 16) (hn0 : 0 < cs.length) :
    MetFree l (⟨"java/lang/String", "<init>", "([C)V"⟩ : MethodName) (head1 (Jvm.Cond.code (⟨"java/lang/String", "<init>", "([C)V"⟩ : MethodName) jdk_42_method_3_code 2 (Option.none : Option FieldType) :: []) ({ frames := 5, cells := 2, slots := 48, locals := 74 } : Room)) (fun aa U => aa = #[(.ref x), (.ref ar)] ∧ Z.Warmed39 U.vm ∧ U.heap = h0) (fun _ _ _ _ _ => True) (fun _ U o U' => ∃ v L, o = .returned v ∧ (Q_rmI1 Z x ar ka cs N d0 h0 z0) v U'.heap L ∧ FrameEnd U o U' L ({ frames := 5, cells := 2, slots := 48, locals := 74 } : Room).cells ({ frames := 5, cells := 2, slots := 48, locals := 74 } : Room).slots) := by
  subst hN
  refine own_walkN (by exact pnS) ?_
  intro p e s m below meth c T0 X0 hx hby hml hret hlk hnm hown hZ e0 es0 F hF
  refine own_on (fun _ => castTop (efE1 m x ar)) ?_
  have N0 := Fr.nil Z.heap.size
  refine own_aload_n X0.here hx (hb hby dE1_0) rfl rfl (pc' := 1) rfl ?_
  refine own_aload_n X0.here hx (hb hby dE1_1) rfl rfl (pc' := 2) rfl ?_
  refine own_iconst X0.here hx (hb hby dE1_2) (v := 0) rfl (pc' := 3) rfl ?_
  refine own_aload_n X0.here hx (hb hby dE1_3) rfl rfl (pc' := 4) rfl ?_
  refine own_alen X0 hx hZ e0 A0 (hb hby dE1_4) (pc' := 5) rfl ?_
  refine own_aconst_null X0.here hx (hb hby dE1_5) (pc' := 6) rfl ?_
  obtain ⟨_, _, ⟨T1, L1, k1, n1⟩, -, X1, ⟨Lc1, hQ1, l1, y1, z1⟩, st1⟩ := X0.specialBack hx (y := (⟨"java/lang/String", "<init>", "([CIILjava/lang/Void;)V"⟩ : MethodName)) rfl hown (mvT hZ (hw _ (List.mem_of_getElem? (i := 14) rfl))) (mvT hZ (hw _ (List.mem_of_getElem? (i := 15) rfl))) (mvT hZ (hw _ (List.mem_of_getElem? (i := 17) rfl))) (by decide) (backOf (W := 0) (rmI4 l Z a0 hw x ar ka cs _ d0 cs.length h0 EZ z0 O1 P5 O3 O4 O5 gx hxa E0 Fv Fc A0 rfl hl hp (Nat.le_refl _) hn hn0) hZ (hw _ (List.mem_of_getElem? (i := 17) rfl)) (hw _ (List.mem_of_getElem? (i := 10) rfl)) (by decide) (by decide)) (g := (mkF m 6 #[.val (.ref x), .val (.ref ar)] [.null, (.int (Int32.ofNat cs.length)), (.int ((0 : Int32))), (.ref ar), (.ref x)])) rfl (by rw [hml]; rfl) (Steps.refl _) (a := x) (argsL := [(.ref ar), (.int ((0 : Int32))), (.int (Int32.ofNat cs.length)), .null]) (rest := []) (lenOf pdE4 rfl) rfl (by show 2 * 0 + _ ≤ _; exact Nat.le_of_eq rfl) (hb hby dE1_6) (fun _ _ => ⟨rfl, e0, (Nat.le_of_ble_eq_true rfl), (Nat.le_of_ble_eq_true rfl)⟩)
  dsimp only [Pt.U, Pt.locs, Pt.cells, Pt.slots] at X1 l1 y1 z1 st1 hQ1
  rw [l1, y1, z1] at X1
  obtain ⟨rfl, N1, K1, S1⟩ := hQ1
  refine own_to st1 ?_
  show own_Go p e below F (T1.setTop (mkF m 9 #[.val (.ref x), .val (.ref ar)] []))
  have N2 := Fr.app N0 N1
  rw [List.take_length] at S1
  exact own_retV X1 hx hlk hret (hb hby dE1_9) (fun t ht hE => hF t _ _ _ _ (by rw [ht, (rfl : _ = T1.heap)]; exact ⟨rfl, N2, K1, S1⟩) hE (by decide) (by decide))
theorem pdx9 : parseMethodDescriptor "()Z" = some ⟨[], some .boolean⟩ := by decide +kernel
theorem dIL_0 : decode jdk_42_method_154_code 0 = .ok (.getstatic 38, 3) := by decide +kernel
theorem dIL_3 : decode jdk_42_method_154_code 3 = .ok (.ifCond .eq 14, 3) := by decide +kernel
theorem dIL_6 : decode jdk_42_method_154_code 6 = .ok (.aload_n 0, 1) := by decide +kernel
theorem dIL_7 : decode jdk_42_method_154_code 7 = .ok (.getfield 15, 3) := by decide +kernel
theorem dIL_10 : decode jdk_42_method_154_code 10 = .ok (.ifCond .ne 7, 3) := by decide +kernel
theorem dIL_13 : decode jdk_42_method_154_code 13 = .ok (.iconst 1, 1) := by decide +kernel
theorem dIL_14 : decode jdk_42_method_154_code 14 = .ok (.goto 4, 3) := by decide +kernel
theorem dIL_17 : decode jdk_42_method_154_code 17 = .ok (.iconst 0, 1) := by decide +kernel
theorem dIL_18 : decode jdk_42_method_154_code 18 = .ok (.ireturn, 1) := by decide +kernel
def Q_rmIL (Z : State) (x : Addr) (cd : Int32) (h0 : Heap) (z0 : Int32) (v : Option Value) (h : Heap) (L : List Loc) : Prop := v = some (.int (if cd = 0 then (1 : Int32) else 0)) ∧ Fr Z.heap.size L ∧ h = h0
set_option maxRecDepth 65536 in
set_option maxHeartbeats 40000000 in
theorem rmIL (l : Launch) (Z : State) (a0 : Array Value) (hw : ∀ d ∈ tables_1, d.before a0 Z = true) (x : Addr) (cd : Int32) (h0 : Heap) (EZ : Ext Z.heap h0) (z0 : Int32) (O1 : Sta Z Z.heap "java/lang/String" "COMPACT_STRINGS" "Z" (.int z0)) (P5 : ¬ z0 = 0) (sC : Fld Z h0 x "java/lang/String" "coder" "B" (.int cd)) :
    MetFree l (⟨"java/lang/String", "isLatin1", "()Z"⟩ : MethodName) (head1 (Jvm.Cond.code (⟨"java/lang/String", "isLatin1", "()Z"⟩ : MethodName) jdk_42_method_154_code 1 (Option.some FieldType.boolean) :: []) ({ frames := 0, cells := 0, slots := 0, locals := 0 } : Room)) (fun aa U => aa = #[(.ref x)] ∧ Z.Warmed39 U.vm ∧ U.heap = h0) (fun _ _ _ _ _ => True) (fun _ U o U' => ∃ v L, o = .returned v ∧ (Q_rmIL Z x cd h0 z0) v U'.heap L ∧ FrameEnd U o U' L ({ frames := 0, cells := 0, slots := 0, locals := 0 } : Room).cells ({ frames := 0, cells := 0, slots := 0, locals := 0 } : Room).slots) := by
  refine own_walkN (by exact pnS) ?_
  intro p e s m below meth c T0 X0 hx hby hml hret hlk hnm hown hZ e0 es0 F hF
  refine own_on (fun _ => castTop (efR m x)) ?_
  obtain ⟨T1, X1, e1, st1⟩ := getS (host := "") X0 hx hZ hown (hw _ (List.mem_of_getElem? (i := 55) rfl)) Via.refl e0 (O1.ext EZ) (g := (mkF m 0 #[.val (.ref x)] [])) rfl (hb hby dIL_0)
  refine own_on st1 ?_
  show own_Go p e below F (T1.setTop (mkF m 3 #[.val (.ref x)] [(.int z0)]))
  refine own_ifeq X1.here hx (hb hby dIL_3) (by decide) (pc' := 17) (by decide) (pc2 := 6) rfl (fun q => absurd q P5) (fun q2 => ?_)
  refine own_aload_n X1.here hx (hb hby dIL_6) rfl rfl (pc' := 7) rfl ?_
  obtain ⟨T3, X3, e3, st3⟩ := getF X1 hx hZ hown (host := "") (Or.inl (hw _ (List.mem_of_getElem? (i := 28) rfl))) Via.refl e1 sC (g := (mkF m 7 #[.val (.ref x)] [(.ref x)])) rfl rfl (hb hby dIL_7)
  refine own_on st3 ?_
  show own_Go p e below F (T3.setTop (mkF m 10 #[.val (.ref x)] [(.int cd)]))
  refine own_ifne X3.here hx (hb hby dIL_10) (by decide) (pc' := 17) (by decide) (pc2 := 13) rfl (fun q1 => ?_) (fun q1 => ?_)
  · refine own_iconst X3.here hx (hb hby dIL_17) (v := 0) rfl (pc' := 18) rfl ?_
    exact own_retZ X3 hx hlk (by decide) hret (hb hby dIL_18) (fun t ht hE => hF t _ _ _ _ (by rw [ht, (e3 : _ = h0)]; exact ⟨by rw [if_neg q1], Fr.nil _, rfl⟩) hE (by decide) (by decide))
  · refine own_iconst X3.here hx (hb hby dIL_13) (v := 1) rfl (pc' := 14) rfl ?_
    refine own_goto X3.here hx (hb hby dIL_14) (by decide) (pc' := 18) (by decide) ?_
    exact own_retZ X3 hx hlk (by decide) hret (hb hby dIL_18) (fun t ht hE => hF t _ _ _ _ (by rw [ht, (e3 : _ = h0)]; exact ⟨by rw [if_pos q1], Fr.nil _, rfl⟩) hE (by decide) (by decide))
theorem pdx10 : parseMethodDescriptor "()I" = some ⟨[], some .int⟩ := by decide +kernel
theorem pdx11 : parseMethodDescriptor "(III)V" = some ⟨[.int, .int, .int], none⟩ := by decide +kernel
theorem pdx12 : parseMethodDescriptor "(III)I" = some ⟨[.int, .int, .int], some .int⟩ := by decide +kernel
theorem pdx13 : parseMethodDescriptor "(IIILjava/util/function/BiFunction;)I" = some ⟨[.int, .int, .int, .object "java/util/function/BiFunction"], some .int⟩ := by decide +kernel
theorem pdx14 : parseMethodDescriptor "([BI[CII)V" = some ⟨[.array .byte, .int, .array .char, .int, .int], none⟩ := by decide +kernel
theorem pdx15 : parseMethodDescriptor "([BII[CI)V" = some ⟨[.array .byte, .int, .int, .array .char, .int], none⟩ := by decide +kernel
theorem pdx16 : parseMethodDescriptor "(II[CI)V" = some ⟨[.int, .int, .array .char, .int], none⟩ := by decide +kernel
theorem pdx17 : parseMethodDescriptor "(II[B)V" = some ⟨[.int, .int, .array .byte], none⟩ := by decide +kernel
theorem pdx18 : parseMethodDescriptor "([B)I" = some ⟨[.array .byte], some .int⟩ := by decide +kernel
theorem pdx19 : parseMethodDescriptor "([CII)V" = some ⟨[.array .char, .int, .int], none⟩ := by decide +kernel
theorem pdx20 : parseMethodDescriptor "([CII)Ljava/lang/Void;" = some ⟨[.array .char, .int, .int], some (.object "java/lang/Void")⟩ := by decide +kernel
theorem dCF_0 : decode jdk_41_method_12_code 0 = .ok (.iload_n 0, 1) := by decide +kernel
theorem dCF_1 : decode jdk_41_method_12_code 1 = .ok (.ifCond .lt 13, 3) := by decide +kernel
theorem dCF_4 : decode jdk_41_method_12_code 4 = .ok (.iload_n 0, 1) := by decide +kernel
theorem dCF_5 : decode jdk_41_method_12_code 5 = .ok (.iload_n 1, 1) := by decide +kernel
theorem dCF_6 : decode jdk_41_method_12_code 6 = .ok (.if_icmp .gt 8, 3) := by decide +kernel
theorem dCF_9 : decode jdk_41_method_12_code 9 = .ok (.iload_n 1, 1) := by decide +kernel
theorem dCF_10 : decode jdk_41_method_12_code 10 = .ok (.iload_n 2, 1) := by decide +kernel
theorem dCF_11 : decode jdk_41_method_12_code 11 = .ok (.if_icmp .le 11, 3) := by decide +kernel
theorem dCF_14 : decode jdk_41_method_12_code 14 = .ok (.aload_n 3, 1) := by decide +kernel
theorem dCF_15 : decode jdk_41_method_12_code 15 = .ok (.iload_n 0, 1) := by decide +kernel
theorem dCF_16 : decode jdk_41_method_12_code 16 = .ok (.iload_n 1, 1) := by decide +kernel
theorem dCF_17 : decode jdk_41_method_12_code 17 = .ok (.iload_n 2, 1) := by decide +kernel
theorem dCF_18 : decode jdk_41_method_12_code 18 = .ok (.invokestatic 99, 3) := by decide +kernel
theorem dCF_21 : decode jdk_41_method_12_code 21 = .ok (.athrow, 1) := by decide +kernel
theorem dCF_22 : decode jdk_41_method_12_code 22 = .ok (.iload_n 0, 1) := by decide +kernel
theorem dCF_23 : decode jdk_41_method_12_code 23 = .ok (.ireturn, 1) := by decide +kernel
theorem efCF (m : MethodId) (x0 : Int32) (x1 : Int32) (x2 : Int32) (x3 : Value) (hc : x3.isRef = true) : entryFrame m #[(.int x0), (.int x1), (.int x2), x3] 4 = mkF m 0 #[.val (.int x0), .val (.int x1), .val (.int x2), .val x3] [] := by cases x3 <;> first | (cases hc; done) | (simp [entryFrame, mkF, argsToLocals, Value.category]; done) | rfl
def Q_rmCF (Z : State) (e0 n0 : Int32) (h0 : Heap) (fm : Value) (v : Option Value) (h : Heap) (L : List Loc) : Prop := v = some (.int (0 : Int32)) ∧ Fr Z.heap.size L ∧ h = h0
set_option maxRecDepth 65536 in
set_option maxHeartbeats 40000000 in
theorem rmCF (l : Launch) (Z : State) (a0 : Array Value) (hw : ∀ d ∈ tables_1, d.before a0 Z = true) (e0 n0 : Int32) (h0 : Heap) (fm : Value) (hc : fm.isRef = true) (hq1 : ¬ e0 < 0) (hq2 : ¬ n0 < e0) :
    MetFree l (⟨"jdk/internal/util/Preconditions", "checkFromToIndex", "(IIILjava/util/function/BiFunction;)I"⟩ : MethodName) (head1 (Jvm.Cond.code (⟨"jdk/internal/util/Preconditions", "checkFromToIndex", "(IIILjava/util/function/BiFunction;)I"⟩ : MethodName) jdk_41_method_12_code 4 (Option.some FieldType.int) :: []) ({ frames := 0, cells := 0, slots := 0, locals := 0 } : Room)) (fun aa U => aa = #[(.int (0 : Int32)), (.int e0), (.int n0), fm] ∧ Z.Warmed39 U.vm ∧ U.heap = h0) (fun _ _ _ _ _ => True) (fun _ U o U' => ∃ v L, o = .returned v ∧ (Q_rmCF Z e0 n0 h0 fm) v U'.heap L ∧ FrameEnd U o U' L ({ frames := 0, cells := 0, slots := 0, locals := 0 } : Room).cells ({ frames := 0, cells := 0, slots := 0, locals := 0 } : Room).slots) := by
  refine own_walkN (by exact pnPC) ?_
  intro p e s m below meth c T0 X0 hx hby hml hret hlk hnm hown hZ e00 es0 F hF
  refine own_on (fun _ => castTop (efCF m 0 e0 n0 fm hc)) ?_
  refine own_iload_n X0.here hx (hb hby dCF_0) rfl (pc' := 1) rfl ?_
  refine own_iflt X0.here hx (hb hby dCF_1) (by decide) (pc' := 14) (by decide) (pc2 := 4) rfl (fun q => absurd q (by decide)) (fun q1 => ?_)
  refine own_iload_n X0.here hx (hb hby dCF_4) rfl (pc' := 5) rfl ?_
  refine own_iload_n X0.here hx (hb hby dCF_5) rfl (pc' := 6) rfl ?_
  refine own_icmpgt X0.here hx (hb hby dCF_6) (by decide) (pc' := 14) (by decide) (pc2 := 9) rfl (fun q => absurd q hq1) (fun q2 => ?_)
  refine own_iload_n X0.here hx (hb hby dCF_9) rfl (pc' := 10) rfl ?_
  refine own_iload_n X0.here hx (hb hby dCF_10) rfl (pc' := 11) rfl ?_
  refine own_icmple X0.here hx (hb hby dCF_11) (by decide) (pc' := 22) (by decide) (pc2 := 14) rfl (fun q3 => ?_) (fun q => absurd q hq2)
  refine own_iload_n X0.here hx (hb hby dCF_22) rfl (pc' := 23) rfl ?_
  exact own_retI X0 hx hlk hret (hb hby dCF_23) (fun t ht hE => hF t _ _ _ _ (by rw [ht, (e00 : _ = h0)]; exact ⟨rfl, Fr.nil _, rfl⟩) hE (by decide) (by decide))
theorem dCB_0 : decode jdk_42_method_158_code 0 = .ok (.iload_n 0, 1) := by decide +kernel
theorem dCB_1 : decode jdk_42_method_158_code 1 = .ok (.iload_n 1, 1) := by decide +kernel
theorem dCB_2 : decode jdk_42_method_158_code 2 = .ok (.iload_n 2, 1) := by decide +kernel
theorem dCB_3 : decode jdk_42_method_158_code 3 = .ok (.getstatic 1053, 3) := by decide +kernel
theorem dCB_6 : decode jdk_42_method_158_code 6 = .ok (.invokestatic 1062, 3) := by decide +kernel
theorem dCB_9 : decode jdk_42_method_158_code 9 = .ok (.pop, 1) := by decide +kernel
theorem dCB_10 : decode jdk_42_method_158_code 10 = .ok (.return_, 1) := by decide +kernel
theorem efIII (m : MethodId) (x0 : Int32) (x1 : Int32) (x2 : Int32) : entryFrame m #[(.int x0), (.int x1), (.int x2)] 3 = mkF m 0 #[.val (.int x0), .val (.int x1), .val (.int x2)] [] := by first | (simp [entryFrame, mkF, argsToLocals, Value.category]; done) | rfl
def Q_rmCB (Z : State) (e0 n0 : Int32) (h0 : Heap) (fm : Value) (v : Option Value) (h : Heap) (L : List Loc) : Prop := v = none ∧ Fr Z.heap.size L ∧ h = h0
set_option maxRecDepth 65536 in
set_option maxHeartbeats 40000000 in
theorem rmCB (l : Launch) (Z : State) (a0 : Array Value) (hw : ∀ d ∈ tables_1, d.before a0 Z = true) (e0 n0 : Int32) (h0 : Heap) (EZ : Ext Z.heap h0) (fm : Value) (O2 : Sta Z Z.heap "jdk/internal/util/Preconditions" "SIOOBE_FORMATTER" "Ljava/util/function/BiFunction;" fm) (rf : fm.isRef = true) (hq1 : ¬ e0 < 0) (hq2 : ¬ n0 < e0) :
    MetFree l (⟨"java/lang/String", "checkBoundsBeginEnd", "(III)V"⟩ : MethodName) (head1 (Jvm.Cond.code (⟨"java/lang/String", "checkBoundsBeginEnd", "(III)V"⟩ : MethodName) jdk_42_method_158_code 3 (Option.none : Option FieldType) :: []) ({ frames := 1, cells := 0, slots := 0, locals := 15 } : Room)) (fun aa U => aa = #[(.int (0 : Int32)), (.int e0), (.int n0)] ∧ Z.Warmed39 U.vm ∧ U.heap = h0) (fun _ _ _ _ _ => True) (fun _ U o U' => ∃ v L, o = .returned v ∧ (Q_rmCB Z e0 n0 h0 fm) v U'.heap L ∧ FrameEnd U o U' L ({ frames := 1, cells := 0, slots := 0, locals := 15 } : Room).cells ({ frames := 1, cells := 0, slots := 0, locals := 15 } : Room).slots) := by
  refine own_walkN (by exact pnS) ?_
  intro p e s m below meth c T0 X0 hx hby hml hret hlk hnm hown hZ e00 es0 F hF
  refine own_on (fun _ => castTop (efIII m 0 e0 n0)) ?_
  have N0 := Fr.nil Z.heap.size
  refine own_iload_n X0.here hx (hb hby dCB_0) rfl (pc' := 1) rfl ?_
  refine own_iload_n X0.here hx (hb hby dCB_1) rfl (pc' := 2) rfl ?_
  refine own_iload_n X0.here hx (hb hby dCB_2) rfl (pc' := 3) rfl ?_
  obtain ⟨T1, X1, e1, st1⟩ := getS (host := "") X0 hx hZ hown (hw _ (List.mem_of_getElem? (i := 68) rfl)) Via.refl e00 (O2.ext EZ) (g := (mkF m 3 #[.val (.int ((0 : Int32))), .val (.int e0), .val (.int n0)] [(.int n0), (.int e0), (.int ((0 : Int32)))])) rfl (hb hby dCB_3)
  refine own_on st1 ?_
  show own_Go p e below F (T1.setTop (mkF m 6 #[.val (.int ((0 : Int32))), .val (.int e0), .val (.int n0)] [fm, (.int n0), (.int e0), (.int ((0 : Int32)))]))
  obtain ⟨_, _, ⟨T2, L2, k2, n2⟩, -, X2, ⟨Lc2, hQ2, l2, y2, z2⟩, st2⟩ := Jvm.LawKit.callS X1 hx (y := (⟨"jdk/internal/util/Preconditions", "checkFromToIndex", "(IIILjava/util/function/BiFunction;)I"⟩ : MethodName)) hown (mvT hZ (hw _ (List.mem_of_getElem? (i := 70) rfl))) (mvT hZ (hw _ (List.mem_of_getElem? (i := 71) rfl))) (mvT hZ (hw _ (List.mem_of_getElem? (i := 69) rfl))) (mvT hZ (hw _ (List.mem_of_getElem? (i := 72) rfl))) (by decide) (backOf (W := 0) (rmCF l Z a0 hw e0 n0 h0 fm rf hq1 hq2) hZ (hw _ (List.mem_of_getElem? (i := 72) rfl)) (hw _ (List.mem_of_getElem? (i := 69) rfl)) (by decide) (by decide)) (g := (mkF m 6 #[.val (.int ((0 : Int32))), .val (.int e0), .val (.int n0)] [fm, (.int n0), (.int e0), (.int ((0 : Int32)))])) rfl (by rw [hml]; rfl) (argsL := [(.int ((0 : Int32))), (.int e0), (.int n0), fm]) (rest := []) (lenOf pdx13 rfl) rfl (by show 2 * 0 + _ ≤ _; exact Nat.le_of_eq rfl) (hb hby dCB_6) (fun _ _ => ⟨rfl, e1, (Nat.le_of_ble_eq_true rfl), (Nat.le_of_ble_eq_true rfl)⟩)
  dsimp only [Pt.U, Pt.locs, Pt.cells, Pt.slots] at X2 l2 y2 z2 st2 hQ2
  rw [l2, y2, z2] at X2
  obtain ⟨rfl, N2, E2⟩ := hQ2
  refine own_on (st2) ?_
  show own_Go p e below F (T2.setTop (mkF m 9 #[.val (.int ((0 : Int32))), .val (.int e0), .val (.int n0)] [(.int ((0 : Int32)))]))
  have N3 := Fr.app N0 N2
  refine own_pop X2.here hx (hb hby dCB_9) rfl (pc' := 10) rfl ?_
  exact own_retV X2 hx hlk hret (hb hby dCB_10) (fun t ht hE => hF t _ _ _ _ (by rw [ht, (E2 : _ = h0)]; exact ⟨rfl, N3, rfl⟩) hE (by decide) (by decide))
theorem dFS_0 : decode jdk_41_method_13_code 0 = .ok (.iload_n 2, 1) := by decide +kernel
theorem dFS_1 : decode jdk_41_method_13_code 1 = .ok (.iload_n 0, 1) := by decide +kernel
theorem dFS_2 : decode jdk_41_method_13_code 2 = .ok (.ior, 1) := by decide +kernel
theorem dFS_3 : decode jdk_41_method_13_code 3 = .ok (.iload_n 1, 1) := by decide +kernel
theorem dFS_4 : decode jdk_41_method_13_code 4 = .ok (.ior, 1) := by decide +kernel
theorem dFS_5 : decode jdk_41_method_13_code 5 = .ok (.ifCond .lt 10, 3) := by decide +kernel
theorem dFS_8 : decode jdk_41_method_13_code 8 = .ok (.iload_n 1, 1) := by decide +kernel
theorem dFS_9 : decode jdk_41_method_13_code 9 = .ok (.iload_n 2, 1) := by decide +kernel
theorem dFS_10 : decode jdk_41_method_13_code 10 = .ok (.iload_n 0, 1) := by decide +kernel
theorem dFS_11 : decode jdk_41_method_13_code 11 = .ok (.isub, 1) := by decide +kernel
theorem dFS_12 : decode jdk_41_method_13_code 12 = .ok (.if_icmp .le 11, 3) := by decide +kernel
theorem dFS_15 : decode jdk_41_method_13_code 15 = .ok (.aload_n 3, 1) := by decide +kernel
theorem dFS_16 : decode jdk_41_method_13_code 16 = .ok (.iload_n 0, 1) := by decide +kernel
theorem dFS_17 : decode jdk_41_method_13_code 17 = .ok (.iload_n 1, 1) := by decide +kernel
theorem dFS_18 : decode jdk_41_method_13_code 18 = .ok (.iload_n 2, 1) := by decide +kernel
theorem dFS_19 : decode jdk_41_method_13_code 19 = .ok (.invokestatic 103, 3) := by decide +kernel
theorem dFS_22 : decode jdk_41_method_13_code 22 = .ok (.athrow, 1) := by decide +kernel
theorem dFS_23 : decode jdk_41_method_13_code 23 = .ok (.iload_n 0, 1) := by decide +kernel
theorem dFS_24 : decode jdk_41_method_13_code 24 = .ok (.ireturn, 1) := by decide +kernel
def Q_rmFS (Z : State) (d n N : Nat) (h0 : Heap) (fm : Value) (v : Option Value) (h : Heap) (L : List Loc) : Prop := v = some (.int (Int32.ofNat d)) ∧ Fr Z.heap.size L ∧ h = h0
set_option maxRecDepth 65536 in
set_option maxHeartbeats 40000000 in
theorem rmFS (l : Launch) (Z : State) (a0 : Array Value) (hw : ∀ d ∈ tables_1, d.before a0 Z = true) (d n N : Nat) (h0 : Heap) (fm : Value) (hc : fm.isRef = true) (hbd : d + n ≤ N) (hN : N ≤ 4000) :
    MetFree l (⟨"jdk/internal/util/Preconditions", "checkFromIndexSize", "(IIILjava/util/function/BiFunction;)I"⟩ : MethodName) (head1 (Jvm.Cond.code (⟨"jdk/internal/util/Preconditions", "checkFromIndexSize", "(IIILjava/util/function/BiFunction;)I"⟩ : MethodName) jdk_41_method_13_code 4 (Option.some FieldType.int) :: []) ({ frames := 0, cells := 0, slots := 0, locals := 0 } : Room)) (fun aa U => aa = #[(.int (Int32.ofNat d)), (.int (Int32.ofNat n)), (.int (Int32.ofNat N)), fm] ∧ Z.Warmed39 U.vm ∧ U.heap = h0) (fun _ _ _ _ _ => True) (fun _ U o U' => ∃ v L, o = .returned v ∧ (Q_rmFS Z d n N h0 fm) v U'.heap L ∧ FrameEnd U o U' L ({ frames := 0, cells := 0, slots := 0, locals := 0 } : Room).cells ({ frames := 0, cells := 0, slots := 0, locals := 0 } : Room).slots) := by
  refine own_walkN (by exact pnPC) ?_
  intro p e s m below meth c T0 X0 hx hby hml hret hlk hnm hown hZ e0 es0 F hF
  refine own_on (fun _ => castTop (efCF m _ _ _ fm hc)) ?_
  refine own_iload_n X0.here hx (hb hby dFS_0) rfl (pc' := 1) rfl ?_
  refine own_iload_n X0.here hx (hb hby dFS_1) rfl (pc' := 2) rfl ?_
  refine own_ior X0.here hx (hb hby dFS_2) (pc' := 3) rfl ?_
  refine own_iload_n X0.here hx (hb hby dFS_3) rfl (pc' := 4) rfl ?_
  refine own_ior X0.here hx (hb hby dFS_4) (pc' := 5) rfl ?_
  refine own_iflt X0.here hx (hb hby dFS_5) (by decide) (pc' := 15) (by decide) (pc2 := 8) rfl (fun q => absurd q (own_or3 (by omega) (by omega) (by omega))) (fun q1 => ?_)
  refine own_iload_n X0.here hx (hb hby dFS_8) rfl (pc' := 9) rfl ?_
  refine own_iload_n X0.here hx (hb hby dFS_9) rfl (pc' := 10) rfl ?_
  refine own_iload_n X0.here hx (hb hby dFS_10) rfl (pc' := 11) rfl ?_
  refine own_isub X0.here hx (hb hby dFS_11) (pc' := 12) rfl ?_
  rw [own_subN (by omega)]
  show own_Go p e below F (T0.setTop (mkF m 12 #[.val (.int (Int32.ofNat d)), .val (.int (Int32.ofNat n)), .val (.int (Int32.ofNat N)), .val fm] [(.int (Int32.ofNat (N - d))), (.int (Int32.ofNat n))]))
  refine own_icmple X0.here hx (hb hby dFS_12) (by decide) (pc' := 23) (by decide) (pc2 := 15) rfl (fun q2 => ?_) (fun q => absurd q (own_nltN (by omega) (by omega)))
  refine own_iload_n X0.here hx (hb hby dFS_23) rfl (pc' := 24) rfl ?_
  exact own_retI X0 hx hlk hret (hb hby dFS_24) (fun t ht hE => hF t _ _ _ _ (by rw [ht, (e0 : _ = h0)]; exact ⟨rfl, Fr.nil _, rfl⟩) hE (by decide) (by decide))
theorem dBO_0 : decode jdk_42_method_157_code 0 = .ok (.iload_n 0, 1) := by decide +kernel
theorem dBO_1 : decode jdk_42_method_157_code 1 = .ok (.iload_n 1, 1) := by decide +kernel
theorem dBO_2 : decode jdk_42_method_157_code 2 = .ok (.iload_n 2, 1) := by decide +kernel
theorem dBO_3 : decode jdk_42_method_157_code 3 = .ok (.getstatic 1053, 3) := by decide +kernel
theorem dBO_6 : decode jdk_42_method_157_code 6 = .ok (.invokestatic 1065, 3) := by decide +kernel
theorem dBO_9 : decode jdk_42_method_157_code 9 = .ok (.ireturn, 1) := by decide +kernel
def Q_rmBO (Z : State) (d n N : Nat) (h0 : Heap) (fm : Value) (v : Option Value) (h : Heap) (L : List Loc) : Prop := v = some (.int (Int32.ofNat d)) ∧ Fr Z.heap.size L ∧ h = h0
set_option maxRecDepth 65536 in
set_option maxHeartbeats 40000000 in
theorem rmBO (l : Launch) (Z : State) (a0 : Array Value) (hw : ∀ d ∈ tables_1, d.before a0 Z = true) (d n N : Nat) (h0 : Heap) (EZ : Ext Z.heap h0) (fm : Value) (O2 : Sta Z Z.heap "jdk/internal/util/Preconditions" "SIOOBE_FORMATTER" "Ljava/util/function/BiFunction;" fm) (rf : fm.isRef = true) (hbd : d + n ≤ N) (hN : N ≤ 4000) :
    MetFree l (⟨"java/lang/String", "checkBoundsOffCount", "(III)I"⟩ : MethodName) (head1 (Jvm.Cond.code (⟨"java/lang/String", "checkBoundsOffCount", "(III)I"⟩ : MethodName) jdk_42_method_157_code 3 (Option.some FieldType.int) :: []) ({ frames := 1, cells := 0, slots := 0, locals := 15 } : Room)) (fun aa U => aa = #[(.int (Int32.ofNat d)), (.int (Int32.ofNat n)), (.int (Int32.ofNat N))] ∧ Z.Warmed39 U.vm ∧ U.heap = h0) (fun _ _ _ _ _ => True) (fun _ U o U' => ∃ v L, o = .returned v ∧ (Q_rmBO Z d n N h0 fm) v U'.heap L ∧ FrameEnd U o U' L ({ frames := 1, cells := 0, slots := 0, locals := 15 } : Room).cells ({ frames := 1, cells := 0, slots := 0, locals := 15 } : Room).slots) := by
  refine own_walkN (by exact pnS) ?_
  intro p e s m below meth c T0 X0 hx hby hml hret hlk hnm hown hZ e0 es0 F hF
  refine own_on (fun _ => castTop (efIII m _ _ _)) ?_
  have N0 := Fr.nil Z.heap.size
  refine own_iload_n X0.here hx (hb hby dBO_0) rfl (pc' := 1) rfl ?_
  refine own_iload_n X0.here hx (hb hby dBO_1) rfl (pc' := 2) rfl ?_
  refine own_iload_n X0.here hx (hb hby dBO_2) rfl (pc' := 3) rfl ?_
  obtain ⟨T1, X1, e1, st1⟩ := getS (host := "") X0 hx hZ hown (hw _ (List.mem_of_getElem? (i := 68) rfl)) Via.refl e0 (O2.ext EZ) (g := (mkF m 3 #[.val (.int (Int32.ofNat d)), .val (.int (Int32.ofNat n)), .val (.int (Int32.ofNat N))] [(.int (Int32.ofNat N)), (.int (Int32.ofNat n)), (.int (Int32.ofNat d))])) rfl (hb hby dBO_3)
  refine own_on st1 ?_
  show own_Go p e below F (T1.setTop (mkF m 6 #[.val (.int (Int32.ofNat d)), .val (.int (Int32.ofNat n)), .val (.int (Int32.ofNat N))] [fm, (.int (Int32.ofNat N)), (.int (Int32.ofNat n)), (.int (Int32.ofNat d))]))
  obtain ⟨_, _, ⟨T2, L2, k2, n2⟩, -, X2, ⟨Lc2, hQ2, l2, y2, z2⟩, st2⟩ := Jvm.LawKit.callS X1 hx (y := (⟨"jdk/internal/util/Preconditions", "checkFromIndexSize", "(IIILjava/util/function/BiFunction;)I"⟩ : MethodName)) hown (mvT hZ (hw _ (List.mem_of_getElem? (i := 76) rfl))) (mvT hZ (hw _ (List.mem_of_getElem? (i := 77) rfl))) (mvT hZ (hw _ (List.mem_of_getElem? (i := 69) rfl))) (mvT hZ (hw _ (List.mem_of_getElem? (i := 78) rfl))) (by decide) (backOf (W := 0) (rmFS l Z a0 hw d n N h0 fm rf hbd hN) hZ (hw _ (List.mem_of_getElem? (i := 78) rfl)) (hw _ (List.mem_of_getElem? (i := 69) rfl)) (by decide) (by decide)) (g := (mkF m 6 #[.val (.int (Int32.ofNat d)), .val (.int (Int32.ofNat n)), .val (.int (Int32.ofNat N))] [fm, (.int (Int32.ofNat N)), (.int (Int32.ofNat n)), (.int (Int32.ofNat d))])) rfl (by rw [hml]; rfl) (argsL := [(.int (Int32.ofNat d)), (.int (Int32.ofNat n)), (.int (Int32.ofNat N)), fm]) (rest := []) (lenOf pdx13 rfl) rfl (by show 2 * 0 + _ ≤ _; exact Nat.le_of_eq rfl) (hb hby dBO_6) (fun _ _ => ⟨rfl, e1, (Nat.le_of_ble_eq_true rfl), (Nat.le_of_ble_eq_true rfl)⟩)
  dsimp only [Pt.U, Pt.locs, Pt.cells, Pt.slots] at X2 l2 y2 z2 st2 hQ2
  rw [l2, y2, z2] at X2
  obtain ⟨rfl, N2, E2⟩ := hQ2
  refine own_on (st2) ?_
  show own_Go p e below F (T2.setTop (mkF m 9 #[.val (.int (Int32.ofNat d)), .val (.int (Int32.ofNat n)), .val (.int (Int32.ofNat N))] [(.int (Int32.ofNat d))]))
  have N3 := Fr.app N0 N2
  exact own_retI X2 hx hlk hret (hb hby dBO_9) (fun t ht hE => hF t _ _ _ _ (by rw [ht, (E2 : _ = h0)]; exact ⟨rfl, N3, rfl⟩) hE (by decide) (by decide))
theorem dIn_0 : decode jdk_43_method_49_code 0 = .ok (.iconst 0, 1) := by decide +kernel
theorem dIn_1 : decode jdk_43_method_49_code 1 = .ok (.istore 5, 2) := by decide +kernel
theorem dIn_3 : decode jdk_43_method_49_code 3 = .ok (.iload 5, 2) := by decide +kernel
theorem dIn_5 : decode jdk_43_method_49_code 5 = .ok (.iload 4, 2) := by decide +kernel
theorem dIn_7 : decode jdk_43_method_49_code 7 = .ok (.if_icmp .ge 26, 3) := by decide +kernel
theorem dIn_10 : decode jdk_43_method_49_code 10 = .ok (.aload_n 2, 1) := by decide +kernel
theorem dIn_11 : decode jdk_43_method_49_code 11 = .ok (.iload_n 3, 1) := by decide +kernel
theorem dIn_12 : decode jdk_43_method_49_code 12 = .ok (.iinc 3 1, 3) := by decide +kernel
theorem dIn_15 : decode jdk_43_method_49_code 15 = .ok (.aload_n 0, 1) := by decide +kernel
theorem dIn_16 : decode jdk_43_method_49_code 16 = .ok (.iload_n 1, 1) := by decide +kernel
theorem dIn_17 : decode jdk_43_method_49_code 17 = .ok (.iinc 1 1, 3) := by decide +kernel
theorem dIn_20 : decode jdk_43_method_49_code 20 = .ok (.baload, 1) := by decide +kernel
theorem dIn_21 : decode jdk_43_method_49_code 21 = .ok (.sipush 255, 3) := by decide +kernel
theorem dIn_24 : decode jdk_43_method_49_code 24 = .ok (.iand, 1) := by decide +kernel
theorem dIn_25 : decode jdk_43_method_49_code 25 = .ok (.i2c, 1) := by decide +kernel
theorem dIn_26 : decode jdk_43_method_49_code 26 = .ok (.castore, 1) := by decide +kernel
theorem dIn_27 : decode jdk_43_method_49_code 27 = .ok (.iinc 5 1, 3) := by decide +kernel
theorem dIn_30 : decode jdk_43_method_49_code 30 = .ok (.goto (-27), 3) := by decide +kernel
theorem dIn_33 : decode jdk_43_method_49_code 33 = .ok (.return_, 1) := by decide +kernel
theorem efIn (m : MethodId) (x0 : Addr) (x1 : Int32) (x2 : Addr) (x3 : Int32) (x4 : Int32) : entryFrame m #[(.ref x0), (.int x1), (.ref x2), (.int x3), (.int x4)] 6 = mkF m 0 #[.val (.ref x0), .val (.int x1), .val (.ref x2), .val (.int x3), .val (.int x4), .unset] [] := by first | (simp [entryFrame, mkF, argsToLocals, Value.category]; done) | rfl
def Q_rmIn (Z : State) (t : Addr) (kt : ClassId) (es : List Int32) (ar : Addr) (ka : ClassId) (vs : List Value) (d N : Nat) (h0 : Heap) (v : Option Value) (h : Heap) (L : List Loc) : Prop := v = none ∧ Fr Z.heap.size L ∧ Keep h0 h [ar] ∧ Arv Z h ar ka .char (Int32.ofNat N) (own_mid vs d es es.length) (.int 0)
set_option maxRecDepth 65536 in
set_option maxHeartbeats 40000000 in
theorem rmIn (l : Launch) (Z : State) (a0 : Array Value) (hw : ∀ d ∈ tables_1, d.before a0 Z = true) (t : Addr) (kt : ClassId) (es : List Int32) (ar : Addr) (ka : ClassId) (vs : List Value) (d N : Nat) (h0 : Heap) (sA : Arv Z h0 t kt .byte (Int32.ofNat es.length) (es.map fun c => Value.int (StrChars.lo8 c)) (.int 0)) (hp : ∀ c ∈ es, ¬ c < 0 ∧ ¬ (255 : Int32) < c) (hne : t ≠ ar) (A0 : Arv Z h0 ar ka .char (Int32.ofNat N) vs (.int 0)) (hv : vs.length = N) (hd : d + es.length ≤ N) (hN : N ≤ 4000) (ga : 0 < es.length → Z.heap.size ≤ ar) :
    MetFree l (⟨"java/lang/StringLatin1", "inflate", "([BI[CII)V"⟩ : MethodName) (head1 (Jvm.Cond.code (⟨"java/lang/StringLatin1", "inflate", "([BI[CII)V"⟩ : MethodName) jdk_43_method_49_code 6 (Option.none : Option FieldType) :: []) ({ frames := 0, cells := 0, slots := 0, locals := 0 } : Room)) (fun aa U => aa = #[(.ref t), (.int (0 : Int32)), (.ref ar), (.int (Int32.ofNat d)), (.int (Int32.ofNat es.length))] ∧ Z.Warmed39 U.vm ∧ U.heap = h0) (fun _ _ _ _ _ => True) (fun _ U o U' => ∃ v L, o = .returned v ∧ (Q_rmIn Z t kt es ar ka vs d N h0) v U'.heap L ∧ FrameEnd U o U' L ({ frames := 0, cells := 0, slots := 0, locals := 0 } : Room).cells ({ frames := 0, cells := 0, slots := 0, locals := 0 } : Room).slots) := by
  refine own_walkN (by exact pnSL) ?_
  intro p e s m below meth c T0 X0 hx hby hml hret hlk hnm hown hZ e0 es0 F hF
  refine own_on (fun _ => castTop (efIn m t 0 ar _ _)) ?_
  have N0 := Fr.nil Z.heap.size
  refine own_iconst X0.here hx (hb hby dIn_0) (v := 0) rfl (pc' := 1) rfl ?_
  refine own_istore X0.here hx (hb hby dIn_1) (L' := #[.val (.ref t), .val (.int ((0 : Int32))), .val (.ref ar), .val (.int (Int32.ofNat d)), .val (.int (Int32.ofNat es.length)), .val (.int ((0 : Int32)))]) rfl (pc' := 3) rfl ?_
  have J : ∀ (r i : Nat) (_ : i + r = es.length) (TJ : State) (hJ : Heap) (LJ : List Loc), Stand p l e ({ frames := 0, cells := 0, slots := 0, locals := 0 } : Room) s m #[(.ref t), (.int (0 : Int32)), (.ref ar), (.int (Int32.ofNat d)), (.int (Int32.ofNat es.length))] below meth c TJ LJ 0 0 → TJ.heap = hJ → Fr Z.heap.size LJ → Keep h0 hJ [ar] → Arv Z hJ t kt .byte (Int32.ofNat es.length) (es.map fun c => Value.int (StrChars.lo8 c)) (.int 0) → Arv Z hJ ar ka .char (Int32.ofNat N) (own_mid vs d es i) (.int 0) → own_Go p e below F (TJ.setTop (mkF m 3 #[.val (.ref t), .val (.int (Int32.ofNat i)), .val (.ref ar), .val (.int (Int32.ofNat (d + i))), .val (.int (Int32.ofNat es.length)), .val (.int (Int32.ofNat i))] [])) := by
    intro r
    induction r with
    | zero =>
      intro i hi TJ hJ LJ XJ eJ NJ fQ fA fV
      obtain rfl : i = es.length := by omega
      refine own_iload XJ.here hx (hb hby dIn_3) rfl (pc' := 5) rfl ?_
      refine own_iload XJ.here hx (hb hby dIn_5) rfl (pc' := 7) rfl ?_
      refine own_icmpge XJ.here hx (hb hby dIn_7) (by decide) (pc' := 33) (by decide) (pc2 := 10) rfl (fun q1 => ?_) (fun q => absurd q (own_nltN (Nat.le_refl _) (by omega)))
      exact own_retV XJ hx hlk hret (hb hby dIn_33) (fun t ht hE => hF t _ _ _ _ (by rw [ht, (eJ : _ = hJ)]; exact ⟨rfl, NJ, fQ, fV⟩) hE (by decide) (by decide))
    | succ r ih =>
      intro i hi TJ hJ LJ XJ eJ NJ fQ fA fV
      have ga1 := ga (by omega)
      refine own_iload XJ.here hx (hb hby dIn_3) rfl (pc' := 5) rfl ?_
      refine own_iload XJ.here hx (hb hby dIn_5) rfl (pc' := 7) rfl ?_
      refine own_icmpge XJ.here hx (hb hby dIn_7) (by decide) (pc' := 33) (by decide) (pc2 := 10) rfl (fun q => absurd (own_ltN (by omega) (by omega)) q) (fun q2 => ?_)
      refine own_aload_n XJ.here hx (hb hby dIn_10) rfl rfl (pc' := 11) rfl ?_
      refine own_iload_n XJ.here hx (hb hby dIn_11) rfl (pc' := 12) rfl ?_
      refine own_iinc XJ.here hx (hb hby dIn_12) rfl (y := Int32.ofNat (d + (i + 1))) (own_inc _) (L' := #[.val (.ref t), .val (.int (Int32.ofNat i)), .val (.ref ar), .val (.int (Int32.ofNat (d + (i + 1)))), .val (.int (Int32.ofNat es.length)), .val (.int (Int32.ofNat i))]) rfl (pc' := 15) rfl ?_
      refine own_aload_n XJ.here hx (hb hby dIn_15) rfl rfl (pc' := 16) rfl ?_
      refine own_iload_n XJ.here hx (hb hby dIn_16) rfl (pc' := 17) rfl ?_
      refine own_iinc XJ.here hx (hb hby dIn_17) rfl (y := Int32.ofNat (i + 1)) (own_inc _) (L' := #[.val (.ref t), .val (.int (Int32.ofNat (i + 1))), .val (.ref ar), .val (.int (Int32.ofNat (d + (i + 1)))), .val (.int (Int32.ofNat es.length)), .val (.int (Int32.ofNat i))]) rfl (pc' := 20) rfl ?_
      refine own_baload XJ hx hZ eJ fA (w := StrChars.lo8 (es.getD i 0)) ⟨own_nn (by omega), own_ltN (by omega) (by omega)⟩ (by rw [own_tn (by omega)]; exact StrChars.Road.low_at _ es i (by omega)) (hb hby dIn_20) (pc' := 21) rfl ?_
      refine own_sipush XJ.here hx (hb hby dIn_21) (v := 255) rfl (pc' := 24) rfl ?_
      refine own_iand XJ.here hx (hb hby dIn_24) (pc' := 25) rfl ?_
      refine own_i2c XJ.here hx (hb hby dIn_25) (pc' := 26) rfl ?_
      have hv1 : own_c ((StrChars.lo8 (es.getD i 0)) &&& (255 : Int32)) = es.getD i 0 := (own_bc (hp _ (own_mem (by omega))).1 (hp _ (own_mem (by omega))).2).2
      have hnar : nar .char (es.getD i 0) = es.getD i 0 := by rw [← hv1]; exact own_nar _
      rw [hv1]
      show own_Go p e below F (TJ.setTop (mkF m 26 #[.val (.ref t), .val (.int (Int32.ofNat (i + 1))), .val (.ref ar), .val (.int (Int32.ofNat (d + (i + 1)))), .val (.int (Int32.ofNat es.length)), .val (.int (Int32.ofNat i))] [(.int (es.getD i 0)), (.int (Int32.ofNat (d + i))), (.ref ar)]))
      obtain ⟨T3, h3, X3, e3, W3, V3, st3⟩ := own_cast XJ hx hZ eJ fV (i := d + i) (own_tn (by omega)) (by rw [own_mid_len (by omega) (by omega)]; omega) ⟨own_nn (by omega), own_ltN (by omega) (by omega)⟩ hnar (g := (mkF m 26 #[.val (.ref t), .val (.int (Int32.ofNat (i + 1))), .val (.ref ar), .val (.int (Int32.ofNat (d + (i + 1)))), .val (.int (Int32.ofNat es.length)), .val (.int (Int32.ofNat i))] [(.int (es.getD i 0)), (.int (Int32.ofNat (d + i))), (.ref ar)])) rfl rfl (hb hby dIn_26)
      have f4 := fA.other W3 hne
      have f5 := fQ.wr W3 (Or.inl (by simp))
      have N6 := own_Fr_snoc (sl := (Int32.ofNat (d + i)).toNatClampNeg) NJ ga1
      refine own_on st3 ?_
      show own_Go p e below F (T3.setTop (mkF m 27 #[.val (.ref t), .val (.int (Int32.ofNat (i + 1))), .val (.ref ar), .val (.int (Int32.ofNat (d + (i + 1)))), .val (.int (Int32.ofNat es.length)), .val (.int (Int32.ofNat i))] []))
      rw [own_mid_set (by omega) (by omega)] at V3
      refine own_iinc X3.here hx (hb hby dIn_27) rfl (y := Int32.ofNat (i + 1)) (own_inc _) (L' := #[.val (.ref t), .val (.int (Int32.ofNat (i + 1))), .val (.ref ar), .val (.int (Int32.ofNat (d + (i + 1)))), .val (.int (Int32.ofNat es.length)), .val (.int (Int32.ofNat (i + 1)))]) rfl (pc' := 30) rfl ?_
      refine own_goto X3.here hx (hb hby dIn_30) (by decide) (pc' := 3) (by decide) ?_
      exact ih (i + 1) (by omega) _ _ _ X3 e3 (by simpa using N6) f5 f4 V3
  exact J es.length 0 (by omega) _ _ _ X0 e0 (by simpa using N0) (Keep.refl h0 [ar]) sA (by rw [own_mid0]; exact A0)
theorem dLG_0 : decode jdk_43_method_11_code 0 = .ok (.aload_n 0, 1) := by decide +kernel
theorem dLG_1 : decode jdk_43_method_11_code 1 = .ok (.iload_n 1, 1) := by decide +kernel
theorem dLG_2 : decode jdk_43_method_11_code 2 = .ok (.aload_n 3, 1) := by decide +kernel
theorem dLG_3 : decode jdk_43_method_11_code 3 = .ok (.iload 4, 2) := by decide +kernel
theorem dLG_5 : decode jdk_43_method_11_code 5 = .ok (.iload_n 2, 1) := by decide +kernel
theorem dLG_6 : decode jdk_43_method_11_code 6 = .ok (.iload_n 1, 1) := by decide +kernel
theorem dLG_7 : decode jdk_43_method_11_code 7 = .ok (.isub, 1) := by decide +kernel
theorem dLG_8 : decode jdk_43_method_11_code 8 = .ok (.invokestatic 13, 3) := by decide +kernel
theorem dLG_11 : decode jdk_43_method_11_code 11 = .ok (.return_, 1) := by decide +kernel
theorem efLG (m : MethodId) (x0 : Addr) (x1 : Int32) (x2 : Int32) (x3 : Addr) (x4 : Int32) : entryFrame m #[(.ref x0), (.int x1), (.int x2), (.ref x3), (.int x4)] 5 = mkF m 0 #[.val (.ref x0), .val (.int x1), .val (.int x2), .val (.ref x3), .val (.int x4)] [] := by first | (simp [entryFrame, mkF, argsToLocals, Value.category]; done) | rfl
def Q_rmLG (Z : State) (t : Addr) (kt : ClassId) (es : List Int32) (ar : Addr) (ka : ClassId) (vs : List Value) (d N : Nat) (h0 : Heap) (v : Option Value) (h : Heap) (L : List Loc) : Prop := v = none ∧ Fr Z.heap.size L ∧ Keep h0 h [ar] ∧ Arv Z h ar ka .char (Int32.ofNat N) (own_mid vs d es es.length) (.int 0)
set_option maxRecDepth 65536 in
set_option maxHeartbeats 40000000 in
theorem rmLG (l : Launch) (Z : State) (a0 : Array Value) (hw : ∀ d ∈ tables_1, d.before a0 Z = true) (t : Addr) (kt : ClassId) (es : List Int32) (ar : Addr) (ka : ClassId) (vs : List Value) (d N : Nat) (h0 : Heap) (sA : Arv Z h0 t kt .byte (Int32.ofNat es.length) (es.map fun c => Value.int (StrChars.lo8 c)) (.int 0)) (hp : ∀ c ∈ es, ¬ c < 0 ∧ ¬ (255 : Int32) < c) (hne : t ≠ ar) (A0 : Arv Z h0 ar ka .char (Int32.ofNat N) vs (.int 0)) (hv : vs.length = N) (hd : d + es.length ≤ N) (hN : N ≤ 4000) (ga : 0 < es.length → Z.heap.size ≤ ar) :
    MetFree l (⟨"java/lang/StringLatin1", "getChars", "([BII[CI)V"⟩ : MethodName) (head1 (Jvm.Cond.code (⟨"java/lang/StringLatin1", "getChars", "([BII[CI)V"⟩ : MethodName) jdk_43_method_11_code 5 (Option.none : Option FieldType) :: []) ({ frames := 1, cells := 0, slots := 0, locals := 17 } : Room)) (fun aa U => aa = #[(.ref t), (.int (0 : Int32)), (.int (Int32.ofNat es.length)), (.ref ar), (.int (Int32.ofNat d))] ∧ Z.Warmed39 U.vm ∧ U.heap = h0) (fun _ _ _ _ _ => True) (fun _ U o U' => ∃ v L, o = .returned v ∧ (Q_rmLG Z t kt es ar ka vs d N h0) v U'.heap L ∧ FrameEnd U o U' L ({ frames := 1, cells := 0, slots := 0, locals := 17 } : Room).cells ({ frames := 1, cells := 0, slots := 0, locals := 17 } : Room).slots) := by
  refine own_walkN (by exact pnSL) ?_
  intro p e s m below meth c T0 X0 hx hby hml hret hlk hnm hown hZ e0 es0 F hF
  refine own_on (fun _ => castTop (efLG m t 0 _ ar _)) ?_
  have N0 := Fr.nil Z.heap.size
  refine own_aload_n X0.here hx (hb hby dLG_0) rfl rfl (pc' := 1) rfl ?_
  refine own_iload_n X0.here hx (hb hby dLG_1) rfl (pc' := 2) rfl ?_
  refine own_aload_n X0.here hx (hb hby dLG_2) rfl rfl (pc' := 3) rfl ?_
  refine own_iload X0.here hx (hb hby dLG_3) rfl (pc' := 5) rfl ?_
  refine own_iload_n X0.here hx (hb hby dLG_5) rfl (pc' := 6) rfl ?_
  refine own_iload_n X0.here hx (hb hby dLG_6) rfl (pc' := 7) rfl ?_
  refine own_isub X0.here hx (hb hby dLG_7) (pc' := 8) rfl ?_
  rw [Int32.sub_zero]
  show own_Go p e below F (T0.setTop (mkF m 8 #[.val (.ref t), .val (.int ((0 : Int32))), .val (.int (Int32.ofNat es.length)), .val (.ref ar), .val (.int (Int32.ofNat d))] [(.int (Int32.ofNat es.length)), (.int (Int32.ofNat d)), (.ref ar), (.int ((0 : Int32))), (.ref t)]))
  obtain ⟨_, _, ⟨T1, L1, k1, n1⟩, -, X1, ⟨Lc1, hQ1, l1, y1, z1⟩, st1⟩ := Jvm.LawKit.callS X0 hx (y := (⟨"java/lang/StringLatin1", "inflate", "([BI[CII)V"⟩ : MethodName)) hown (mvT hZ (hw _ (List.mem_of_getElem? (i := 88) rfl))) (mvT hZ (hw _ (List.mem_of_getElem? (i := 89) rfl))) (mvT hZ (hw _ (List.mem_of_getElem? (i := 86) rfl))) (mvT hZ (hw _ (List.mem_of_getElem? (i := 90) rfl))) (by decide) (backOf (W := 0) (rmIn l Z a0 hw t kt es ar ka vs d N h0 sA hp hne A0 hv hd hN ga) hZ (hw _ (List.mem_of_getElem? (i := 90) rfl)) (hw _ (List.mem_of_getElem? (i := 86) rfl)) (by decide) (by decide)) (g := (mkF m 8 #[.val (.ref t), .val (.int ((0 : Int32))), .val (.int (Int32.ofNat es.length)), .val (.ref ar), .val (.int (Int32.ofNat d))] [(.int (Int32.ofNat es.length)), (.int (Int32.ofNat d)), (.ref ar), (.int ((0 : Int32))), (.ref t)])) rfl (by rw [hml]; rfl) (argsL := [(.ref t), (.int ((0 : Int32))), (.ref ar), (.int (Int32.ofNat d)), (.int (Int32.ofNat es.length))]) (rest := []) (lenOf pdx14 rfl) rfl (by show 2 * 0 + _ ≤ _; exact Nat.le_of_eq rfl) (hb hby dLG_8) (fun _ _ => ⟨rfl, e0, (Nat.le_of_ble_eq_true rfl), (Nat.le_of_ble_eq_true rfl)⟩)
  dsimp only [Pt.U, Pt.locs, Pt.cells, Pt.slots] at X1 l1 y1 z1 st1 hQ1
  rw [l1, y1, z1] at X1
  obtain ⟨rfl, N1, K1, V1⟩ := hQ1
  refine own_on (st1) ?_
  show own_Go p e below F (T1.setTop (mkF m 11 #[.val (.ref t), .val (.int ((0 : Int32))), .val (.int (Int32.ofNat es.length)), .val (.ref ar), .val (.int (Int32.ofNat d))] []))
  have N2 := Fr.app N0 N1
  exact own_retV X1 hx hlk hret (hb hby dLG_11) (fun t ht hE => hF t _ _ _ _ (by rw [ht, (rfl : _ = T1.heap)]; exact ⟨rfl, N2, K1, V1⟩) hE (by decide) (by decide))
theorem dUL_0 : decode jdk_52_method_6_code 0 = .ok (.aload_n 0, 1) := by decide +kernel
theorem dUL_1 : decode jdk_52_method_6_code 1 = .ok (.arraylength, 1) := by decide +kernel
theorem dUL_2 : decode jdk_52_method_6_code 2 = .ok (.iconst 1, 1) := by decide +kernel
theorem dUL_3 : decode jdk_52_method_6_code 3 = .ok (.ishr, 1) := by decide +kernel
theorem dUL_4 : decode jdk_52_method_6_code 4 = .ok (.ireturn, 1) := by decide +kernel
def Q_rmUL (Z : State) (t : Addr) (kt : ClassId) (vs : List Value) (n : Nat) (h0 : Heap) (v : Option Value) (h : Heap) (L : List Loc) : Prop := v = some (.int (Int32.ofNat n)) ∧ Fr Z.heap.size L ∧ h = h0
set_option maxRecDepth 65536 in
set_option maxHeartbeats 40000000 in
theorem rmUL (l : Launch) (Z : State) (a0 : Array Value) (hw : ∀ d ∈ tables_1, d.before a0 Z = true) (t : Addr) (kt : ClassId) (vs : List Value) (n : Nat) (h0 : Heap) (A0 : Arv Z h0 t kt .byte (Int32.ofNat (2 * n)) vs (.int 0)) (hn : n ≤ 4000) :
    MetFree l (⟨"java/lang/StringUTF16", "length", "([B)I"⟩ : MethodName) (head1 (Jvm.Cond.code (⟨"java/lang/StringUTF16", "length", "([B)I"⟩ : MethodName) jdk_52_method_6_code 1 (Option.some FieldType.int) :: []) ({ frames := 0, cells := 0, slots := 0, locals := 0 } : Room)) (fun aa U => aa = #[(.ref t)] ∧ Z.Warmed39 U.vm ∧ U.heap = h0) (fun _ _ _ _ _ => True) (fun _ U o U' => ∃ v L, o = .returned v ∧ (Q_rmUL Z t kt vs n h0) v U'.heap L ∧ FrameEnd U o U' L ({ frames := 0, cells := 0, slots := 0, locals := 0 } : Room).cells ({ frames := 0, cells := 0, slots := 0, locals := 0 } : Room).slots) := by
  refine own_walkN (by exact pnU) ?_
  intro p e s m below meth c T0 X0 hx hby hml hret hlk hnm hown hZ e0 es0 F hF
  refine own_on (fun _ => castTop (efR m t)) ?_
  have N0 := Fr.nil Z.heap.size
  refine own_aload_n X0.here hx (hb hby dUL_0) rfl rfl (pc' := 1) rfl ?_
  refine own_alen X0 hx hZ e0 A0 (hb hby dUL_1) (pc' := 2) rfl ?_
  refine own_iconst X0.here hx (hb hby dUL_2) (v := 1) rfl (pc' := 3) rfl ?_
  refine own_ishr X0.here hx (hb hby dUL_3) (pc' := 4) rfl ?_
  rw [own_shr1 (by omega)]
  show own_Go p e below F (T0.setTop (mkF m 4 #[.val (.ref t)] [(.int (Int32.ofNat n))]))
  exact own_retI X0 hx hlk hret (hb hby dUL_4) (fun t ht hE => hF t _ _ _ _ (by rw [ht, (e0 : _ = h0)]; exact ⟨rfl, Fr.nil _, rfl⟩) hE (by decide) (by decide))
theorem dUB_0 : decode jdk_52_method_94_code 0 = .ok (.iload_n 0, 1) := by decide +kernel
theorem dUB_1 : decode jdk_52_method_94_code 1 = .ok (.iload_n 1, 1) := by decide +kernel
theorem dUB_2 : decode jdk_52_method_94_code 2 = .ok (.aload_n 2, 1) := by decide +kernel
theorem dUB_3 : decode jdk_52_method_94_code 3 = .ok (.invokestatic 48, 3) := by decide +kernel
theorem dUB_6 : decode jdk_52_method_94_code 6 = .ok (.invokestatic 419, 3) := by decide +kernel
theorem dUB_9 : decode jdk_52_method_94_code 9 = .ok (.pop, 1) := by decide +kernel
theorem dUB_10 : decode jdk_52_method_94_code 10 = .ok (.return_, 1) := by decide +kernel
theorem efUB (m : MethodId) (x0 : Int32) (x1 : Int32) (x2 : Addr) : entryFrame m #[(.int x0), (.int x1), (.ref x2)] 3 = mkF m 0 #[.val (.int x0), .val (.int x1), .val (.ref x2)] [] := by first | (simp [entryFrame, mkF, argsToLocals, Value.category]; done) | rfl
def Q_rmUB (Z : State) (t : Addr) (kt : ClassId) (vs : List Value) (n : Nat) (h0 : Heap) (fm : Value) (v : Option Value) (h : Heap) (L : List Loc) : Prop := v = none ∧ Fr Z.heap.size L ∧ h = h0
set_option maxRecDepth 65536 in
set_option maxHeartbeats 40000000 in
theorem rmUB (l : Launch) (Z : State) (a0 : Array Value) (hw : ∀ d ∈ tables_1, d.before a0 Z = true) (t : Addr) (kt : ClassId) (vs : List Value) (n : Nat) (h0 : Heap) (EZ : Ext Z.heap h0) (fm : Value) (O2 : Sta Z Z.heap "jdk/internal/util/Preconditions" "SIOOBE_FORMATTER" "Ljava/util/function/BiFunction;" fm) (rf : fm.isRef = true) (A0 : Arv Z h0 t kt .byte (Int32.ofNat (2 * n)) vs (.int 0)) (hn : n ≤ 4000) :
    MetFree l (⟨"java/lang/StringUTF16", "checkBoundsOffCount", "(II[B)V"⟩ : MethodName) (head1 (Jvm.Cond.code (⟨"java/lang/StringUTF16", "checkBoundsOffCount", "(II[B)V"⟩ : MethodName) jdk_52_method_94_code 3 (Option.none : Option FieldType) :: []) ({ frames := 2, cells := 0, slots := 0, locals := 29 } : Room)) (fun aa U => aa = #[(.int (0 : Int32)), (.int (Int32.ofNat n)), (.ref t)] ∧ Z.Warmed39 U.vm ∧ U.heap = h0) (fun _ _ _ _ _ => True) (fun _ U o U' => ∃ v L, o = .returned v ∧ (Q_rmUB Z t kt vs n h0 fm) v U'.heap L ∧ FrameEnd U o U' L ({ frames := 2, cells := 0, slots := 0, locals := 29 } : Room).cells ({ frames := 2, cells := 0, slots := 0, locals := 29 } : Room).slots) := by
  refine own_walkN (by exact pnU) ?_
  intro p e s m below meth c T0 X0 hx hby hml hret hlk hnm hown hZ e0 es0 F hF
  refine own_on (fun _ => castTop (efUB m 0 _ t)) ?_
  have N0 := Fr.nil Z.heap.size
  refine own_iload_n X0.here hx (hb hby dUB_0) rfl (pc' := 1) rfl ?_
  refine own_iload_n X0.here hx (hb hby dUB_1) rfl (pc' := 2) rfl ?_
  refine own_aload_n X0.here hx (hb hby dUB_2) rfl rfl (pc' := 3) rfl ?_
  obtain ⟨_, _, ⟨T1, L1, k1, n1⟩, -, X1, ⟨Lc1, hQ1, l1, y1, z1⟩, st1⟩ := Jvm.LawKit.callS X0 hx (y := (⟨"java/lang/StringUTF16", "length", "([B)I"⟩ : MethodName)) hown (mvT hZ (hw _ (List.mem_of_getElem? (i := 205) rfl))) (mvT hZ (hw _ (List.mem_of_getElem? (i := 206) rfl))) (mvT hZ (hw _ (List.mem_of_getElem? (i := 123) rfl))) (mvT hZ (hw _ (List.mem_of_getElem? (i := 207) rfl))) (by decide) (backOf (W := 2) (rmUL l Z a0 hw t kt vs n h0 A0 hn) hZ (hw _ (List.mem_of_getElem? (i := 207) rfl)) (hw _ (List.mem_of_getElem? (i := 123) rfl)) (by decide) (by decide)) (g := (mkF m 3 #[.val (.int ((0 : Int32))), .val (.int (Int32.ofNat n)), .val (.ref t)] [(.ref t), (.int (Int32.ofNat n)), (.int ((0 : Int32)))])) rfl (by rw [hml]; rfl) (argsL := [(.ref t)]) (rest := [(.int (Int32.ofNat n)), (.int ((0 : Int32)))]) (lenOf pdx18 rfl) rfl (by show 2 * 0 + _ ≤ _; exact Nat.le_of_eq rfl) (hb hby dUB_3) (fun _ _ => ⟨rfl, e0, (Nat.le_of_ble_eq_true rfl), (Nat.le_of_ble_eq_true rfl)⟩)
  dsimp only [Pt.U, Pt.locs, Pt.cells, Pt.slots] at X1 l1 y1 z1 st1 hQ1
  rw [l1, y1, z1] at X1
  obtain ⟨rfl, N1, E1⟩ := hQ1
  refine own_on (st1) ?_
  show own_Go p e below F (T1.setTop (mkF m 6 #[.val (.int ((0 : Int32))), .val (.int (Int32.ofNat n)), .val (.ref t)] [(.int (Int32.ofNat n)), (.int (Int32.ofNat n)), (.int ((0 : Int32)))]))
  have N2 := Fr.app N0 N1
  obtain ⟨_, _, ⟨T3, L3, k3, n3⟩, -, X3, ⟨Lc3, hQ3, l3, y3, z3⟩, st3⟩ := Jvm.LawKit.callS X1 hx (y := (⟨"java/lang/String", "checkBoundsOffCount", "(III)I"⟩ : MethodName)) hown (mvT hZ (hw _ (List.mem_of_getElem? (i := 208) rfl))) (mvT hZ (hw _ (List.mem_of_getElem? (i := 74) rfl))) (mvT hZ (hw _ (List.mem_of_getElem? (i := 10) rfl))) (mvT hZ (hw _ (List.mem_of_getElem? (i := 75) rfl))) (by decide) (backOf (W := 0) (rmBO l Z a0 hw 0 n n h0 EZ fm O2 rf (by omega) (by omega)) hZ (hw _ (List.mem_of_getElem? (i := 75) rfl)) (hw _ (List.mem_of_getElem? (i := 10) rfl)) (by decide) (by decide)) (g := (mkF m 6 #[.val (.int ((0 : Int32))), .val (.int (Int32.ofNat n)), .val (.ref t)] [(.int (Int32.ofNat n)), (.int (Int32.ofNat n)), (.int ((0 : Int32)))])) rfl (by rw [hml]; rfl) (argsL := [(.int ((0 : Int32))), (.int (Int32.ofNat n)), (.int (Int32.ofNat n))]) (rest := []) (lenOf pdx12 rfl) rfl (by show 2 * 0 + _ ≤ _; exact Nat.le_of_eq rfl) (hb hby dUB_6) (fun _ _ => ⟨rfl, E1, (Nat.le_of_ble_eq_true rfl), (Nat.le_of_ble_eq_true rfl)⟩)
  dsimp only [Pt.U, Pt.locs, Pt.cells, Pt.slots] at X3 l3 y3 z3 st3 hQ3
  rw [l3, y3, z3] at X3
  obtain ⟨rfl, N3, E3⟩ := hQ3
  refine own_on (st3) ?_
  show own_Go p e below F (T3.setTop (mkF m 9 #[.val (.int ((0 : Int32))), .val (.int (Int32.ofNat n)), .val (.ref t)] [(.int ((0 : Int32)))]))
  have N4 := Fr.app N2 N3
  refine own_pop X3.here hx (hb hby dUB_9) rfl (pc' := 10) rfl ?_
  exact own_retV X3 hx hlk hret (hb hby dUB_10) (fun t ht hE => hF t _ _ _ _ (by rw [ht, (E3 : _ = h0)]; exact ⟨rfl, N4, rfl⟩) hE (by decide) (by decide))
theorem dUG_0 : decode jdk_52_method_26_code 0 = .ok (.iload_n 1, 1) := by decide +kernel
theorem dUG_1 : decode jdk_52_method_26_code 1 = .ok (.iload_n 2, 1) := by decide +kernel
theorem dUG_2 : decode jdk_52_method_26_code 2 = .ok (.if_icmp .ge 11, 3) := by decide +kernel
theorem dUG_5 : decode jdk_52_method_26_code 5 = .ok (.iload_n 1, 1) := by decide +kernel
theorem dUG_6 : decode jdk_52_method_26_code 6 = .ok (.iload_n 2, 1) := by decide +kernel
theorem dUG_7 : decode jdk_52_method_26_code 7 = .ok (.iload_n 1, 1) := by decide +kernel
theorem dUG_8 : decode jdk_52_method_26_code 8 = .ok (.isub, 1) := by decide +kernel
theorem dUG_9 : decode jdk_52_method_26_code 9 = .ok (.aload_n 0, 1) := by decide +kernel
theorem dUG_10 : decode jdk_52_method_26_code 10 = .ok (.invokestatic 173, 3) := by decide +kernel
theorem dUG_13 : decode jdk_52_method_26_code 13 = .ok (.iload_n 1, 1) := by decide +kernel
theorem dUG_14 : decode jdk_52_method_26_code 14 = .ok (.istore 5, 2) := by decide +kernel
theorem dUG_16 : decode jdk_52_method_26_code 16 = .ok (.iload 5, 2) := by decide +kernel
theorem dUG_18 : decode jdk_52_method_26_code 18 = .ok (.iload_n 2, 1) := by decide +kernel
theorem dUG_19 : decode jdk_52_method_26_code 19 = .ok (.if_icmp .ge 22, 3) := by decide +kernel
theorem dUG_22 : decode jdk_52_method_26_code 22 = .ok (.aload_n 3, 1) := by decide +kernel
theorem dUG_23 : decode jdk_52_method_26_code 23 = .ok (.iload 4, 2) := by decide +kernel
theorem dUG_25 : decode jdk_52_method_26_code 25 = .ok (.iinc 4 1, 3) := by decide +kernel
theorem dUG_28 : decode jdk_52_method_26_code 28 = .ok (.aload_n 0, 1) := by decide +kernel
theorem dUG_29 : decode jdk_52_method_26_code 29 = .ok (.iload 5, 2) := by decide +kernel
theorem dUG_31 : decode jdk_52_method_26_code 31 = .ok (.invokestatic 71, 3) := by decide +kernel
theorem dUG_34 : decode jdk_52_method_26_code 34 = .ok (.castore, 1) := by decide +kernel
theorem dUG_35 : decode jdk_52_method_26_code 35 = .ok (.iinc 5 1, 3) := by decide +kernel
theorem dUG_38 : decode jdk_52_method_26_code 38 = .ok (.goto (-22), 3) := by decide +kernel
theorem dUG_41 : decode jdk_52_method_26_code 41 = .ok (.return_, 1) := by decide +kernel
theorem efUG (m : MethodId) (x0 : Addr) (x1 : Int32) (x2 : Int32) (x3 : Addr) (x4 : Int32) : entryFrame m #[(.ref x0), (.int x1), (.int x2), (.ref x3), (.int x4)] 6 = mkF m 0 #[.val (.ref x0), .val (.int x1), .val (.int x2), .val (.ref x3), .val (.int x4), .unset] [] := by first | (simp [entryFrame, mkF, argsToLocals, Value.category]; done) | rfl
def Q_rmUG (Z : State) (t : Addr) (kt : ClassId) (es : List Int32) (ar : Addr) (ka : ClassId) (vs : List Value) (d N : Nat) (h0 : Heap) (fm : Value) (v : Option Value) (h : Heap) (L : List Loc) : Prop := v = none ∧ Fr Z.heap.size L ∧ Keep h0 h [ar] ∧ Arv Z h ar ka .char (Int32.ofNat N) (own_mid vs d es es.length) (.int 0)
set_option maxRecDepth 65536 in
set_option maxHeartbeats 40000000 in
theorem rmUG (l : Launch) (Z : State) (a0 : Array Value) (hw : ∀ d ∈ tables_1, d.before a0 Z = true) (t : Addr) (kt : ClassId) (es : List Int32) (ar : Addr) (ka : ClassId) (vs : List Value) (d N : Nat) (h0 : Heap) (EZ : Ext Z.heap h0) (fm : Value) (O2 : Sta Z Z.heap "jdk/internal/util/Preconditions" "SIOOBE_FORMATTER" "Ljava/util/function/BiFunction;" fm) (rf : fm.isRef = true) (O3 : Sta Z Z.heap "java/lang/StringUTF16" "$assertionsDisabled" "Z" (.int 1)) (O4 : Sta Z Z.heap "java/lang/StringUTF16" "HI_BYTE_SHIFT" "I" (.int 0)) (O5 : Sta Z Z.heap "java/lang/StringUTF16" "LO_BYTE_SHIFT" "I" (.int 8)) (sA : Arv Z h0 t kt .byte (Int32.ofNat (2 * es.length)) (StrChars.Road.wideBytes es) (.int 0)) (hp : ∀ c ∈ es, ¬ c < 0 ∧ ¬ (65535 : Int32) < c) (hl0 : 0 < es.length) (hne : t ≠ ar) (A0 : Arv Z h0 ar ka .char (Int32.ofNat N) vs (.int 0)) (hv : vs.length = N) (hd : d + es.length ≤ N) (hN : N ≤ 4000) (ga : 0 < es.length → Z.heap.size ≤ ar) :
    MetFree l (⟨"java/lang/StringUTF16", "getChars", "([BII[CI)V"⟩ : MethodName) (head1 (Jvm.Cond.code (⟨"java/lang/StringUTF16", "getChars", "([BII[CI)V"⟩ : MethodName) jdk_52_method_26_code 6 (Option.none : Option FieldType) :: []) ({ frames := 3, cells := 0, slots := 0, locals := 43 } : Room)) (fun aa U => aa = #[(.ref t), (.int (0 : Int32)), (.int (Int32.ofNat es.length)), (.ref ar), (.int (Int32.ofNat d))] ∧ Z.Warmed39 U.vm ∧ U.heap = h0) (fun _ _ _ _ _ => True) (fun _ U o U' => ∃ v L, o = .returned v ∧ (Q_rmUG Z t kt es ar ka vs d N h0 fm) v U'.heap L ∧ FrameEnd U o U' L ({ frames := 3, cells := 0, slots := 0, locals := 43 } : Room).cells ({ frames := 3, cells := 0, slots := 0, locals := 43 } : Room).slots) := by
  refine own_walkN (by exact pnU) ?_
  intro p e s m below meth c T0 X0 hx hby hml hret hlk hnm hown hZ e0 es0 F hF
  refine own_on (fun _ => castTop (efUG m t 0 _ ar _)) ?_
  have N0 := Fr.nil Z.heap.size
  refine own_iload_n X0.here hx (hb hby dUG_0) rfl (pc' := 1) rfl ?_
  refine own_iload_n X0.here hx (hb hby dUG_1) rfl (pc' := 2) rfl ?_
  refine own_icmpge X0.here hx (hb hby dUG_2) (by decide) (pc' := 13) (by decide) (pc2 := 5) rfl (fun q => absurd (own_ltN (j := 0) hl0 (by omega)) q) (fun q1 => ?_)
  refine own_iload_n X0.here hx (hb hby dUG_5) rfl (pc' := 6) rfl ?_
  refine own_iload_n X0.here hx (hb hby dUG_6) rfl (pc' := 7) rfl ?_
  refine own_iload_n X0.here hx (hb hby dUG_7) rfl (pc' := 8) rfl ?_
  refine own_isub X0.here hx (hb hby dUG_8) (pc' := 9) rfl ?_
  rw [Int32.sub_zero]
  show own_Go p e below F (T0.setTop (mkF m 9 #[.val (.ref t), .val (.int ((0 : Int32))), .val (.int (Int32.ofNat es.length)), .val (.ref ar), .val (.int (Int32.ofNat d)), .unset] [(.int (Int32.ofNat es.length)), (.int ((0 : Int32)))]))
  refine own_aload_n X0.here hx (hb hby dUG_9) rfl rfl (pc' := 10) rfl ?_
  obtain ⟨_, _, ⟨T2, L2, k2, n2⟩, -, X2, ⟨Lc2, hQ2, l2, y2, z2⟩, st2⟩ := Jvm.LawKit.callS X0 hx (y := (⟨"java/lang/StringUTF16", "checkBoundsOffCount", "(II[B)V"⟩ : MethodName)) hown (mvT hZ (hw _ (List.mem_of_getElem? (i := 202) rfl))) (mvT hZ (hw _ (List.mem_of_getElem? (i := 203) rfl))) (mvT hZ (hw _ (List.mem_of_getElem? (i := 123) rfl))) (mvT hZ (hw _ (List.mem_of_getElem? (i := 204) rfl))) (by decide) (backOf (W := 0) (rmUB l Z a0 hw t kt _ es.length h0 EZ fm O2 rf sA (by omega)) hZ (hw _ (List.mem_of_getElem? (i := 204) rfl)) (hw _ (List.mem_of_getElem? (i := 123) rfl)) (by decide) (by decide)) (g := (mkF m 10 #[.val (.ref t), .val (.int ((0 : Int32))), .val (.int (Int32.ofNat es.length)), .val (.ref ar), .val (.int (Int32.ofNat d)), .unset] [(.ref t), (.int (Int32.ofNat es.length)), (.int ((0 : Int32)))])) rfl (by rw [hml]; rfl) (argsL := [(.int ((0 : Int32))), (.int (Int32.ofNat es.length)), (.ref t)]) (rest := []) (lenOf pdx17 rfl) rfl (by show 2 * 0 + _ ≤ _; exact Nat.le_of_eq rfl) (hb hby dUG_10) (fun _ _ => ⟨rfl, e0, (Nat.le_of_ble_eq_true rfl), (Nat.le_of_ble_eq_true rfl)⟩)
  dsimp only [Pt.U, Pt.locs, Pt.cells, Pt.slots] at X2 l2 y2 z2 st2 hQ2
  rw [l2, y2, z2] at X2
  obtain ⟨rfl, N2, E2⟩ := hQ2
  refine own_on (st2) ?_
  show own_Go p e below F (T2.setTop (mkF m 13 #[.val (.ref t), .val (.int ((0 : Int32))), .val (.int (Int32.ofNat es.length)), .val (.ref ar), .val (.int (Int32.ofNat d)), .unset] []))
  have N3 := Fr.app N0 N2
  refine own_iload_n X2.here hx (hb hby dUG_13) rfl (pc' := 14) rfl ?_
  refine own_istore X2.here hx (hb hby dUG_14) (L' := #[.val (.ref t), .val (.int ((0 : Int32))), .val (.int (Int32.ofNat es.length)), .val (.ref ar), .val (.int (Int32.ofNat d)), .val (.int ((0 : Int32)))]) rfl (pc' := 16) rfl ?_
  have J : ∀ (r i : Nat) (_ : i + r = es.length) (TJ : State) (hJ : Heap) (LJ : List Loc), Stand p l e ({ frames := 3, cells := 0, slots := 0, locals := 43 } : Room) s m #[(.ref t), (.int (0 : Int32)), (.int (Int32.ofNat es.length)), (.ref ar), (.int (Int32.ofNat d))] below meth c TJ LJ 0 0 → TJ.heap = hJ → Fr Z.heap.size LJ → Keep h0 hJ [ar] → Arv Z hJ t kt .byte (Int32.ofNat (2 * es.length)) (StrChars.Road.wideBytes es) (.int 0) → Arv Z hJ ar ka .char (Int32.ofNat N) (own_mid vs d es i) (.int 0) → own_Go p e below F (TJ.setTop (mkF m 16 #[.val (.ref t), .val (.int ((0 : Int32))), .val (.int (Int32.ofNat es.length)), .val (.ref ar), .val (.int (Int32.ofNat (d + i))), .val (.int (Int32.ofNat i))] [])) := by
    intro r
    induction r with
    | zero =>
      intro i hi TJ hJ LJ XJ eJ NJ fQ fA fV
      obtain rfl : i = es.length := by omega
      refine own_iload XJ.here hx (hb hby dUG_16) rfl (pc' := 18) rfl ?_
      refine own_iload_n XJ.here hx (hb hby dUG_18) rfl (pc' := 19) rfl ?_
      refine own_icmpge XJ.here hx (hb hby dUG_19) (by decide) (pc' := 41) (by decide) (pc2 := 22) rfl (fun q4 => ?_) (fun q => absurd q (own_nltN (Nat.le_refl _) (by omega)))
      exact own_retV XJ hx hlk hret (hb hby dUG_41) (fun t ht hE => hF t _ _ _ _ (by rw [ht, (eJ : _ = hJ)]; exact ⟨rfl, NJ, fQ, fV⟩) hE (by decide) (by decide))
    | succ r ih =>
      intro i hi TJ hJ LJ XJ eJ NJ fQ fA fV
      have ga1 := ga (by omega)
      refine own_iload XJ.here hx (hb hby dUG_16) rfl (pc' := 18) rfl ?_
      refine own_iload_n XJ.here hx (hb hby dUG_18) rfl (pc' := 19) rfl ?_
      refine own_icmpge XJ.here hx (hb hby dUG_19) (by decide) (pc' := 41) (by decide) (pc2 := 22) rfl (fun q => absurd (own_ltN (by omega) (by omega)) q) (fun q5 => ?_)
      have EZ1 : Ext Z.heap hJ := own_ext_keep EZ fQ (fun y hy => by simp only [List.mem_cons, List.not_mem_nil, or_false] at hy; subst hy; exact ga1)
      refine own_aload_n XJ.here hx (hb hby dUG_22) rfl rfl (pc' := 23) rfl ?_
      refine own_iload XJ.here hx (hb hby dUG_23) rfl (pc' := 25) rfl ?_
      refine own_iinc XJ.here hx (hb hby dUG_25) rfl (y := Int32.ofNat (d + (i + 1))) (own_inc _) (L' := #[.val (.ref t), .val (.int ((0 : Int32))), .val (.int (Int32.ofNat es.length)), .val (.ref ar), .val (.int (Int32.ofNat (d + (i + 1)))), .val (.int (Int32.ofNat i))]) rfl (pc' := 28) rfl ?_
      refine own_aload_n XJ.here hx (hb hby dUG_28) rfl rfl (pc' := 29) rfl ?_
      refine own_iload XJ.here hx (hb hby dUG_29) rfl (pc' := 31) rfl ?_
      obtain ⟨_, _, ⟨T6, L6, k6, n6⟩, -, X6, ⟨Lc6, hQ6, l6, y6, z6⟩, st6⟩ := Jvm.LawKit.callS XJ hx (y := (⟨"java/lang/StringUTF16", "getChar", "([BI)C"⟩ : MethodName)) hown (mvT hZ (hw _ (List.mem_of_getElem? (i := 196) rfl))) (mvT hZ (hw _ (List.mem_of_getElem? (i := 197) rfl))) (mvT hZ (hw _ (List.mem_of_getElem? (i := 123) rfl))) (mvT hZ (hw _ (List.mem_of_getElem? (i := 198) rfl))) (by decide) (backOf (W := 2) (rmGC l Z a0 hw t kt es i hJ EZ1 O3 O4 O5 fA hp (by omega) (by omega)) hZ (hw _ (List.mem_of_getElem? (i := 198) rfl)) (hw _ (List.mem_of_getElem? (i := 123) rfl)) (by decide) (by decide)) (g := (mkF m 31 #[.val (.ref t), .val (.int ((0 : Int32))), .val (.int (Int32.ofNat es.length)), .val (.ref ar), .val (.int (Int32.ofNat (d + (i + 1)))), .val (.int (Int32.ofNat i))] [(.int (Int32.ofNat i)), (.ref t), (.int (Int32.ofNat (d + i))), (.ref ar)])) rfl (by rw [hml]; rfl) (argsL := [(.ref t), (.int (Int32.ofNat i))]) (rest := [(.int (Int32.ofNat (d + i))), (.ref ar)]) (lenOf pdx6 rfl) rfl (by show 2 * 0 + _ ≤ _; exact Nat.le_of_eq rfl) (hb hby dUG_31) (fun _ _ => ⟨rfl, eJ, (Nat.le_of_ble_eq_true rfl), (Nat.le_of_ble_eq_true rfl)⟩)
      dsimp only [Pt.U, Pt.locs, Pt.cells, Pt.slots] at X6 l6 y6 z6 st6 hQ6
      rw [l6, y6, z6] at X6
      obtain ⟨rfl, N6, E6⟩ := hQ6
      refine own_on (st6) ?_
      show own_Go p e below F (T6.setTop (mkF m 34 #[.val (.ref t), .val (.int ((0 : Int32))), .val (.int (Int32.ofNat es.length)), .val (.ref ar), .val (.int (Int32.ofNat (d + (i + 1)))), .val (.int (Int32.ofNat i))] [(.int (es.getD i 0)), (.int (Int32.ofNat (d + i))), (.ref ar)]))
      have N7 := Fr.app NJ N6
      obtain ⟨T8, h8, X8, e8, W8, V8, st8⟩ := own_cast X6 hx hZ E6 fV (i := d + i) (own_tn (by omega)) (by rw [own_mid_len (by omega) (by omega)]; omega) ⟨own_nn (by omega), own_ltN (by omega) (by omega)⟩ (own_narc (hp _ (own_mem (by omega))).1 (hp _ (own_mem (by omega))).2) (g := (mkF m 34 #[.val (.ref t), .val (.int ((0 : Int32))), .val (.int (Int32.ofNat es.length)), .val (.ref ar), .val (.int (Int32.ofNat (d + (i + 1)))), .val (.int (Int32.ofNat i))] [(.int (es.getD i 0)), (.int (Int32.ofNat (d + i))), (.ref ar)])) rfl rfl (hb hby dUG_34)
      have f9 := fA.other W8 hne
      have f10 := fQ.wr W8 (Or.inl (by simp))
      have N11 := own_Fr_snoc (sl := (Int32.ofNat (d + i)).toNatClampNeg) N7 ga1
      refine own_on st8 ?_
      show own_Go p e below F (T8.setTop (mkF m 35 #[.val (.ref t), .val (.int ((0 : Int32))), .val (.int (Int32.ofNat es.length)), .val (.ref ar), .val (.int (Int32.ofNat (d + (i + 1)))), .val (.int (Int32.ofNat i))] []))
      rw [own_mid_set (by omega) (by omega)] at V8
      refine own_iinc X8.here hx (hb hby dUG_35) rfl (y := Int32.ofNat (i + 1)) (own_inc _) (L' := #[.val (.ref t), .val (.int ((0 : Int32))), .val (.int (Int32.ofNat es.length)), .val (.ref ar), .val (.int (Int32.ofNat (d + (i + 1)))), .val (.int (Int32.ofNat (i + 1)))]) rfl (pc' := 38) rfl ?_
      refine own_goto X8.here hx (hb hby dUG_38) (by decide) (pc' := 16) (by decide) ?_
      exact ih (i + 1) (by omega) _ _ _ X8 e8 (by simpa using N11) f10 f9 V8
  exact J es.length 0 (by omega) _ _ _ X2 E2 (by simpa using N3) (Keep.refl h0 [ar]) sA (by rw [own_mid0]; exact A0)
theorem dGs_0 : decode jdk_42_method_61_code 0 = .ok (.iload_n 1, 1) := by decide +kernel
theorem dGs_1 : decode jdk_42_method_61_code 1 = .ok (.iload_n 2, 1) := by decide +kernel
theorem dGs_2 : decode jdk_42_method_61_code 2 = .ok (.aload_n 0, 1) := by decide +kernel
theorem dGs_3 : decode jdk_42_method_61_code 3 = .ok (.invokevirtual 505, 3) := by decide +kernel
theorem dGs_6 : decode jdk_42_method_61_code 6 = .ok (.invokestatic 521, 3) := by decide +kernel
theorem dGs_9 : decode jdk_42_method_61_code 9 = .ok (.iload 4, 2) := by decide +kernel
theorem dGs_11 : decode jdk_42_method_61_code 11 = .ok (.iload_n 2, 1) := by decide +kernel
theorem dGs_12 : decode jdk_42_method_61_code 12 = .ok (.iload_n 1, 1) := by decide +kernel
theorem dGs_13 : decode jdk_42_method_61_code 13 = .ok (.isub, 1) := by decide +kernel
theorem dGs_14 : decode jdk_42_method_61_code 14 = .ok (.aload_n 3, 1) := by decide +kernel
theorem dGs_15 : decode jdk_42_method_61_code 15 = .ok (.arraylength, 1) := by decide +kernel
theorem dGs_16 : decode jdk_42_method_61_code 16 = .ok (.invokestatic 34, 3) := by decide +kernel
theorem dGs_19 : decode jdk_42_method_61_code 19 = .ok (.pop, 1) := by decide +kernel
theorem dGs_20 : decode jdk_42_method_61_code 20 = .ok (.aload_n 0, 1) := by decide +kernel
theorem dGs_21 : decode jdk_42_method_61_code 21 = .ok (.invokevirtual 492, 3) := by decide +kernel
theorem dGs_24 : decode jdk_42_method_61_code 24 = .ok (.ifCond .eq 18, 3) := by decide +kernel
theorem dGs_27 : decode jdk_42_method_61_code 27 = .ok (.aload_n 0, 1) := by decide +kernel
theorem dGs_28 : decode jdk_42_method_61_code 28 = .ok (.getfield 9, 3) := by decide +kernel
theorem dGs_31 : decode jdk_42_method_61_code 31 = .ok (.iload_n 1, 1) := by decide +kernel
theorem dGs_32 : decode jdk_42_method_61_code 32 = .ok (.iload_n 2, 1) := by decide +kernel
theorem dGs_33 : decode jdk_42_method_61_code 33 = .ok (.aload_n 3, 1) := by decide +kernel
theorem dGs_34 : decode jdk_42_method_61_code 34 = .ok (.iload 4, 2) := by decide +kernel
theorem dGs_36 : decode jdk_42_method_61_code 36 = .ok (.invokestatic 525, 3) := by decide +kernel
theorem dGs_39 : decode jdk_42_method_61_code 39 = .ok (.goto 15, 3) := by decide +kernel
theorem dGs_42 : decode jdk_42_method_61_code 42 = .ok (.aload_n 0, 1) := by decide +kernel
theorem dGs_43 : decode jdk_42_method_61_code 43 = .ok (.getfield 9, 3) := by decide +kernel
theorem dGs_46 : decode jdk_42_method_61_code 46 = .ok (.iload_n 1, 1) := by decide +kernel
theorem dGs_47 : decode jdk_42_method_61_code 47 = .ok (.iload_n 2, 1) := by decide +kernel
theorem dGs_48 : decode jdk_42_method_61_code 48 = .ok (.aload_n 3, 1) := by decide +kernel
theorem dGs_49 : decode jdk_42_method_61_code 49 = .ok (.iload 4, 2) := by decide +kernel
theorem dGs_51 : decode jdk_42_method_61_code 51 = .ok (.invokestatic 529, 3) := by decide +kernel
theorem dGs_54 : decode jdk_42_method_61_code 54 = .ok (.return_, 1) := by decide +kernel
def Q_rmGs (Z : State) (x : Addr) (es : List Int32) (ar : Addr) (ka : ClassId) (vs : List Value) (d N : Nat) (h0 : Heap) (z0 : Int32) (fm : Value) (v : Option Value) (h : Heap) (L : List Loc) : Prop := v = none ∧ Fr Z.heap.size L ∧ Keep h0 h [ar] ∧ Arv Z h ar ka .char (Int32.ofNat N) (own_mid vs d es es.length) (.int 0)
set_option maxRecDepth 65536 in
set_option maxHeartbeats 40000000 in
theorem rmGs (l : Launch) (Z : State) (a0 : Array Value) (hw : ∀ d ∈ tables_1, d.before a0 Z = true) (x : Addr) (es : List Int32) (ar : Addr) (ka : ClassId) (vs : List Value) (d N : Nat) (h0 : Heap) (EZ : Ext Z.heap h0) (z0 : Int32) (O1 : Sta Z Z.heap "java/lang/String" "COMPACT_STRINGS" "Z" (.int z0)) (P5 : ¬ z0 = 0) (fm : Value) (O2 : Sta Z Z.heap "jdk/internal/util/Preconditions" "SIOOBE_FORMATTER" "Ljava/util/function/BiFunction;" fm) (rf : fm.isRef = true) (O3 : Sta Z Z.heap "java/lang/StringUTF16" "$assertionsDisabled" "Z" (.int 1)) (O4 : Sta Z Z.heap "java/lang/StringUTF16" "HI_BYTE_SHIFT" "I" (.int 0)) (O5 : Sta Z Z.heap "java/lang/StringUTF16" "LO_BYTE_SHIFT" "I" (.int 8)) (S : own_S Z h0 x es) (A0 : Arv Z h0 ar ka .char (Int32.ofNat N) vs (.int 0)) (hv : vs.length = N) (hd : d + es.length ≤ N) (hN : N ≤ 4000) (ga : 0 < es.length → Z.heap.size ≤ ar) :
    MetFree l (⟨"java/lang/String", "getChars", "(II[CI)V"⟩ : MethodName) (head1 (Jvm.Cond.code (⟨"java/lang/String", "getChars", "(II[CI)V"⟩ : MethodName) jdk_42_method_61_code 5 (Option.none : Option FieldType) :: []) ({ frames := 4, cells := 0, slots := 0, locals := 60 } : Room)) (fun aa U => aa = #[(.ref x), (.int (0 : Int32)), (.int (Int32.ofNat es.length)), (.ref ar), (.int (Int32.ofNat d))] ∧ Z.Warmed39 U.vm ∧ U.heap = h0) (fun _ _ _ _ _ => True) (fun _ U o U' => ∃ v L, o = .returned v ∧ (Q_rmGs Z x es ar ka vs d N h0 z0 fm) v U'.heap L ∧ FrameEnd U o U' L ({ frames := 4, cells := 0, slots := 0, locals := 60 } : Room).cells ({ frames := 4, cells := 0, slots := 0, locals := 60 } : Room).slots) := by
  have S1 := S
  obtain ⟨t, kt, cd, N2, bs, sE, sV, sC, sA, hcd, hp, hl⟩ := S
  have hne : t ≠ ar := own_tyne sA A0 (by decide)
  refine own_walkN (by exact pnS) ?_
  intro p e s m below meth c T0 X0 hx hby hml hret hlk hnm hown hZ e0 es0 F hF
  refine own_on (fun _ => castTop (efLG m x 0 _ ar _)) ?_
  have N0 := Fr.nil Z.heap.size
  refine own_iload_n X0.here hx (hb hby dGs_0) rfl (pc' := 1) rfl ?_
  refine own_iload_n X0.here hx (hb hby dGs_1) rfl (pc' := 2) rfl ?_
  refine own_aload_n X0.here hx (hb hby dGs_2) rfl rfl (pc' := 3) rfl ?_
  obtain ⟨cq1, kq1, qa1, qb1, qc1⟩ := isOf hZ e0 sE
  obtain ⟨_, _, ⟨T1, L1, k1, n1⟩, -, X1, ⟨Lc1, hQ1, l1, y1, z1⟩, st1⟩ := X0.virtualBack hx (y := (⟨"java/lang/String", "length", "()I"⟩ : MethodName)) (z := (⟨"java/lang/String", "length", "()I"⟩ : MethodName)) hown (mvT hZ (hw _ (List.mem_of_getElem? (i := 64) rfl))) (mvT hZ (hw _ (List.mem_of_getElem? (i := 46) rfl))) (notFace_of_selects (args := #[]) (mvT hZ (hw _ (List.mem_of_getElem? (i := 48) rfl)))) (mvT hZ (hw _ (List.mem_of_getElem? (i := 48) rfl))) (mvT hZ (hw _ (List.mem_of_getElem? (i := 47) rfl))) (by decide) (own_lenS (s := s) (W := 2) hZ hw S1 (O1.ext EZ) P5 (by decide) (by decide)) qa1 qc1 (g := (mkF m 3 #[.val (.ref x), .val (.int ((0 : Int32))), .val (.int (Int32.ofNat es.length)), .val (.ref ar), .val (.int (Int32.ofNat d))] [(.ref x), (.int (Int32.ofNat es.length)), (.int ((0 : Int32)))])) rfl (by rw [hml]; rfl) (Steps.refl _) (argsL := []) (rest := [(.int (Int32.ofNat es.length)), (.int ((0 : Int32)))]) (lenOf pdx10 rfl) rfl (by show 2 * 0 + _ ≤ _; exact Nat.le_of_eq rfl) (hb hby dGs_3) (fun _ _ => ⟨rfl, e0, (Nat.le_of_ble_eq_true rfl), (Nat.le_of_ble_eq_true rfl)⟩)
  dsimp only [Pt.U, Pt.locs, Pt.cells, Pt.slots] at X1 l1 y1 z1 st1 hQ1
  rw [l1, y1, z1] at X1
  obtain ⟨rfl, rfl, E1⟩ := hQ1
  refine own_to st1 ?_
  show own_Go p e below F (T1.setTop (mkF m 6 #[.val (.ref x), .val (.int ((0 : Int32))), .val (.int (Int32.ofNat es.length)), .val (.ref ar), .val (.int (Int32.ofNat d))] [(.int (Int32.ofNat es.length)), (.int (Int32.ofNat es.length)), (.int ((0 : Int32)))]))
  obtain ⟨_, _, ⟨T2, L2, k2, n2⟩, -, X2, ⟨Lc2, hQ2, l2, y2, z2⟩, st2⟩ := Jvm.LawKit.callS X1 hx (y := (⟨"java/lang/String", "checkBoundsBeginEnd", "(III)V"⟩ : MethodName)) hown (mvT hZ (hw _ (List.mem_of_getElem? (i := 65) rfl))) (mvT hZ (hw _ (List.mem_of_getElem? (i := 66) rfl))) (mvT hZ (hw _ (List.mem_of_getElem? (i := 10) rfl))) (mvT hZ (hw _ (List.mem_of_getElem? (i := 67) rfl))) (by decide) (backOf (W := 0) (rmCB l Z a0 hw (Int32.ofNat es.length) (Int32.ofNat es.length) h0 EZ fm O2 rf (own_nn (by omega)) (own_nltN (Nat.le_refl _) (by omega))) hZ (hw _ (List.mem_of_getElem? (i := 67) rfl)) (hw _ (List.mem_of_getElem? (i := 10) rfl)) (by decide) (by decide)) (g := (mkF m 6 #[.val (.ref x), .val (.int ((0 : Int32))), .val (.int (Int32.ofNat es.length)), .val (.ref ar), .val (.int (Int32.ofNat d))] [(.int (Int32.ofNat es.length)), (.int (Int32.ofNat es.length)), (.int ((0 : Int32)))])) rfl (by rw [hml]; rfl) (argsL := [(.int ((0 : Int32))), (.int (Int32.ofNat es.length)), (.int (Int32.ofNat es.length))]) (rest := []) (lenOf pdx11 rfl) rfl (by show 2 * 0 + _ ≤ _; exact Nat.le_of_eq rfl) (hb hby dGs_6) (fun _ _ => ⟨rfl, E1, (Nat.le_of_ble_eq_true rfl), (Nat.le_of_ble_eq_true rfl)⟩)
  dsimp only [Pt.U, Pt.locs, Pt.cells, Pt.slots] at X2 l2 y2 z2 st2 hQ2
  rw [l2, y2, z2] at X2
  obtain ⟨rfl, N2, E2⟩ := hQ2
  refine own_on (st2) ?_
  show own_Go p e below F (T2.setTop (mkF m 9 #[.val (.ref x), .val (.int ((0 : Int32))), .val (.int (Int32.ofNat es.length)), .val (.ref ar), .val (.int (Int32.ofNat d))] []))
  have N3 := Fr.app N0 N2
  refine own_iload X2.here hx (hb hby dGs_9) rfl (pc' := 11) rfl ?_
  refine own_iload_n X2.here hx (hb hby dGs_11) rfl (pc' := 12) rfl ?_
  refine own_iload_n X2.here hx (hb hby dGs_12) rfl (pc' := 13) rfl ?_
  refine own_isub X2.here hx (hb hby dGs_13) (pc' := 14) rfl ?_
  rw [Int32.sub_zero]
  show own_Go p e below F (T2.setTop (mkF m 14 #[.val (.ref x), .val (.int ((0 : Int32))), .val (.int (Int32.ofNat es.length)), .val (.ref ar), .val (.int (Int32.ofNat d))] [(.int (Int32.ofNat es.length)), (.int (Int32.ofNat d))]))
  refine own_aload_n X2.here hx (hb hby dGs_14) rfl rfl (pc' := 15) rfl ?_
  refine own_alen X2 hx hZ E2 A0 (hb hby dGs_15) (pc' := 16) rfl ?_
  obtain ⟨_, _, ⟨T4, L4, k4, n4⟩, -, X4, ⟨Lc4, hQ4, l4, y4, z4⟩, st4⟩ := Jvm.LawKit.callS X2 hx (y := (⟨"java/lang/String", "checkBoundsOffCount", "(III)I"⟩ : MethodName)) hown (mvT hZ (hw _ (List.mem_of_getElem? (i := 73) rfl))) (mvT hZ (hw _ (List.mem_of_getElem? (i := 74) rfl))) (mvT hZ (hw _ (List.mem_of_getElem? (i := 10) rfl))) (mvT hZ (hw _ (List.mem_of_getElem? (i := 75) rfl))) (by decide) (backOf (W := 0) (rmBO l Z a0 hw d es.length N h0 EZ fm O2 rf hd hN) hZ (hw _ (List.mem_of_getElem? (i := 75) rfl)) (hw _ (List.mem_of_getElem? (i := 10) rfl)) (by decide) (by decide)) (g := (mkF m 16 #[.val (.ref x), .val (.int ((0 : Int32))), .val (.int (Int32.ofNat es.length)), .val (.ref ar), .val (.int (Int32.ofNat d))] [(.int (Int32.ofNat N)), (.int (Int32.ofNat es.length)), (.int (Int32.ofNat d))])) rfl (by rw [hml]; rfl) (argsL := [(.int (Int32.ofNat d)), (.int (Int32.ofNat es.length)), (.int (Int32.ofNat N))]) (rest := []) (lenOf pdx12 rfl) rfl (by show 2 * 0 + _ ≤ _; exact Nat.le_of_eq rfl) (hb hby dGs_16) (fun _ _ => ⟨rfl, E2, (Nat.le_of_ble_eq_true rfl), (Nat.le_of_ble_eq_true rfl)⟩)
  dsimp only [Pt.U, Pt.locs, Pt.cells, Pt.slots] at X4 l4 y4 z4 st4 hQ4
  rw [l4, y4, z4] at X4
  obtain ⟨rfl, N4, E4⟩ := hQ4
  refine own_on (st4) ?_
  show own_Go p e below F (T4.setTop (mkF m 19 #[.val (.ref x), .val (.int ((0 : Int32))), .val (.int (Int32.ofNat es.length)), .val (.ref ar), .val (.int (Int32.ofNat d))] [(.int (Int32.ofNat d))]))
  have N5 := Fr.app N3 N4
  refine own_pop X4.here hx (hb hby dGs_19) rfl (pc' := 20) rfl ?_
  refine own_aload_n X4.here hx (hb hby dGs_20) rfl rfl (pc' := 21) rfl ?_
  obtain ⟨cq6, kq6, qa6, qb6, qc6⟩ := isOf hZ E4 sE
  obtain ⟨_, _, ⟨T6, L6, k6, n6⟩, -, X6, ⟨Lc6, hQ6, l6, y6, z6⟩, st6⟩ := X4.virtualBack hx (y := (⟨"java/lang/String", "isLatin1", "()Z"⟩ : MethodName)) (z := (⟨"java/lang/String", "isLatin1", "()Z"⟩ : MethodName)) hown (mvT hZ (hw _ (List.mem_of_getElem? (i := 79) rfl))) (mvT hZ (hw _ (List.mem_of_getElem? (i := 80) rfl))) (notFace_of_selects (args := #[]) (mvT hZ (hw _ (List.mem_of_getElem? (i := 82) rfl)))) (mvT hZ (hw _ (List.mem_of_getElem? (i := 82) rfl))) (mvT hZ (hw _ (List.mem_of_getElem? (i := 81) rfl))) (by decide) (backOf (W := 0) (rmIL l Z a0 hw x cd h0 EZ z0 O1 P5 sC) hZ (hw _ (List.mem_of_getElem? (i := 83) rfl)) (hw _ (List.mem_of_getElem? (i := 10) rfl)) (by decide) (by decide)) qa6 qc6 (g := (mkF m 21 #[.val (.ref x), .val (.int ((0 : Int32))), .val (.int (Int32.ofNat es.length)), .val (.ref ar), .val (.int (Int32.ofNat d))] [(.ref x)])) rfl (by rw [hml]; rfl) (Steps.refl _) (argsL := []) (rest := []) (lenOf pdx9 rfl) rfl (by show 2 * 0 + _ ≤ _; exact Nat.le_of_eq rfl) (hb hby dGs_21) (fun _ _ => ⟨rfl, E4, (Nat.le_of_ble_eq_true rfl), (Nat.le_of_ble_eq_true rfl)⟩)
  dsimp only [Pt.U, Pt.locs, Pt.cells, Pt.slots] at X6 l6 y6 z6 st6 hQ6
  rw [l6, y6, z6] at X6
  obtain ⟨rfl, N6, E6⟩ := hQ6
  refine own_to st6 ?_
  show own_Go p e below F (T6.setTop (mkF m 24 #[.val (.ref x), .val (.int ((0 : Int32))), .val (.int (Int32.ofNat es.length)), .val (.ref ar), .val (.int (Int32.ofNat d))] [(.int ((if cd = 0 then (1 : Int32) else 0)))]))
  have N7 := Fr.app N5 N6
  rcases hcd with ⟨rfl, rfl, rfl, hq⟩ | ⟨rfl, rfl, rfl, hq⟩
  · rw [if_pos rfl]
    show own_Go p e below F (T6.setTop (mkF m 24 #[.val (.ref x), .val (.int ((0 : Int32))), .val (.int (Int32.ofNat es.length)), .val (.ref ar), .val (.int (Int32.ofNat d))] [(.int ((1 : Int32)))]))
    refine own_ifeq X6.here hx (hb hby dGs_24) (by decide) (pc' := 42) (by decide) (pc2 := 27) rfl (fun q => absurd q (by decide)) (fun q8 => ?_)
    refine own_aload_n X6.here hx (hb hby dGs_27) rfl rfl (pc' := 28) rfl ?_
    obtain ⟨T9, X9, e9, st9⟩ := getF X6 hx hZ hown (host := "") (Or.inl (hw _ (List.mem_of_getElem? (i := 27) rfl))) Via.refl E6 sV (g := (mkF m 28 #[.val (.ref x), .val (.int ((0 : Int32))), .val (.int (Int32.ofNat es.length)), .val (.ref ar), .val (.int (Int32.ofNat d))] [(.ref x)])) rfl rfl (hb hby dGs_28)
    refine own_on st9 ?_
    show own_Go p e below F (T9.setTop (mkF m 31 #[.val (.ref x), .val (.int ((0 : Int32))), .val (.int (Int32.ofNat es.length)), .val (.ref ar), .val (.int (Int32.ofNat d))] [(.ref t)]))
    refine own_iload_n X9.here hx (hb hby dGs_31) rfl (pc' := 32) rfl ?_
    refine own_iload_n X9.here hx (hb hby dGs_32) rfl (pc' := 33) rfl ?_
    refine own_aload_n X9.here hx (hb hby dGs_33) rfl rfl (pc' := 34) rfl ?_
    refine own_iload X9.here hx (hb hby dGs_34) rfl (pc' := 36) rfl ?_
    obtain ⟨_, _, ⟨T10, L10, k10, n10⟩, -, X10, ⟨Lc10, hQ10, l10, y10, z10⟩, st10⟩ := Jvm.LawKit.callS X9 hx (y := (⟨"java/lang/StringLatin1", "getChars", "([BII[CI)V"⟩ : MethodName)) hown (mvT hZ (hw _ (List.mem_of_getElem? (i := 84) rfl))) (mvT hZ (hw _ (List.mem_of_getElem? (i := 85) rfl))) (mvT hZ (hw _ (List.mem_of_getElem? (i := 86) rfl))) (mvT hZ (hw _ (List.mem_of_getElem? (i := 87) rfl))) (by decide) (backOf (W := 0) (rmLG l Z a0 hw t kt es ar ka vs d N h0 sA (fun c hc => ⟨(hp c hc).1, hq c hc⟩) hne A0 hv hd hN ga) hZ (hw _ (List.mem_of_getElem? (i := 87) rfl)) (hw _ (List.mem_of_getElem? (i := 86) rfl)) (by decide) (by decide)) (g := (mkF m 36 #[.val (.ref x), .val (.int ((0 : Int32))), .val (.int (Int32.ofNat es.length)), .val (.ref ar), .val (.int (Int32.ofNat d))] [(.int (Int32.ofNat d)), (.ref ar), (.int (Int32.ofNat es.length)), (.int ((0 : Int32))), (.ref t)])) rfl (by rw [hml]; rfl) (argsL := [(.ref t), (.int ((0 : Int32))), (.int (Int32.ofNat es.length)), (.ref ar), (.int (Int32.ofNat d))]) (rest := []) (lenOf pdx15 rfl) rfl (by show 2 * 0 + _ ≤ _; exact Nat.le_of_eq rfl) (hb hby dGs_36) (fun _ _ => ⟨rfl, e9, (Nat.le_of_ble_eq_true rfl), (Nat.le_of_ble_eq_true rfl)⟩)
    dsimp only [Pt.U, Pt.locs, Pt.cells, Pt.slots] at X10 l10 y10 z10 st10 hQ10
    rw [l10, y10, z10] at X10
    obtain ⟨rfl, N10, K10, V10⟩ := hQ10
    refine own_on (st10) ?_
    show own_Go p e below F (T10.setTop (mkF m 39 #[.val (.ref x), .val (.int ((0 : Int32))), .val (.int (Int32.ofNat es.length)), .val (.ref ar), .val (.int (Int32.ofNat d))] []))
    have N11 := Fr.app N7 N10
    refine own_goto X10.here hx (hb hby dGs_39) (by decide) (pc' := 54) (by decide) ?_
    exact own_retV X10 hx hlk hret (hb hby dGs_54) (fun t ht hE => hF t _ _ _ _ (by rw [ht, (rfl : _ = T10.heap)]; exact ⟨rfl, (by simpa using N11), K10, V10⟩) hE (by decide) (by decide))
  · rw [if_neg (by decide)]
    have hl0 : 0 < es.length := by obtain ⟨c, hc, -⟩ := hq; exact List.length_pos_of_mem hc
    show own_Go p e below F (T6.setTop (mkF m 24 #[.val (.ref x), .val (.int ((0 : Int32))), .val (.int (Int32.ofNat es.length)), .val (.ref ar), .val (.int (Int32.ofNat d))] [(.int ((0 : Int32)))]))
    refine own_ifeq X6.here hx (hb hby dGs_24) (by decide) (pc' := 42) (by decide) (pc2 := 27) rfl (fun q12 => ?_) (fun q => absurd rfl q)
    refine own_aload_n X6.here hx (hb hby dGs_42) rfl rfl (pc' := 43) rfl ?_
    obtain ⟨T13, X13, e13, st13⟩ := getF X6 hx hZ hown (host := "") (Or.inl (hw _ (List.mem_of_getElem? (i := 27) rfl))) Via.refl E6 sV (g := (mkF m 43 #[.val (.ref x), .val (.int ((0 : Int32))), .val (.int (Int32.ofNat es.length)), .val (.ref ar), .val (.int (Int32.ofNat d))] [(.ref x)])) rfl rfl (hb hby dGs_43)
    refine own_on st13 ?_
    show own_Go p e below F (T13.setTop (mkF m 46 #[.val (.ref x), .val (.int ((0 : Int32))), .val (.int (Int32.ofNat es.length)), .val (.ref ar), .val (.int (Int32.ofNat d))] [(.ref t)]))
    refine own_iload_n X13.here hx (hb hby dGs_46) rfl (pc' := 47) rfl ?_
    refine own_iload_n X13.here hx (hb hby dGs_47) rfl (pc' := 48) rfl ?_
    refine own_aload_n X13.here hx (hb hby dGs_48) rfl rfl (pc' := 49) rfl ?_
    refine own_iload X13.here hx (hb hby dGs_49) rfl (pc' := 51) rfl ?_
    obtain ⟨_, _, ⟨T14, L14, k14, n14⟩, -, X14, ⟨Lc14, hQ14, l14, y14, z14⟩, st14⟩ := Jvm.LawKit.callS X13 hx (y := (⟨"java/lang/StringUTF16", "getChars", "([BII[CI)V"⟩ : MethodName)) hown (mvT hZ (hw _ (List.mem_of_getElem? (i := 199) rfl))) (mvT hZ (hw _ (List.mem_of_getElem? (i := 200) rfl))) (mvT hZ (hw _ (List.mem_of_getElem? (i := 123) rfl))) (mvT hZ (hw _ (List.mem_of_getElem? (i := 201) rfl))) (by decide) (backOf (W := 0) (rmUG l Z a0 hw t kt es ar ka vs d N h0 EZ fm O2 rf O3 O4 O5 sA hp hl0 hne A0 hv hd hN ga) hZ (hw _ (List.mem_of_getElem? (i := 201) rfl)) (hw _ (List.mem_of_getElem? (i := 123) rfl)) (by decide) (by decide)) (g := (mkF m 51 #[.val (.ref x), .val (.int ((0 : Int32))), .val (.int (Int32.ofNat es.length)), .val (.ref ar), .val (.int (Int32.ofNat d))] [(.int (Int32.ofNat d)), (.ref ar), (.int (Int32.ofNat es.length)), (.int ((0 : Int32))), (.ref t)])) rfl (by rw [hml]; rfl) (argsL := [(.ref t), (.int ((0 : Int32))), (.int (Int32.ofNat es.length)), (.ref ar), (.int (Int32.ofNat d))]) (rest := []) (lenOf pdx15 rfl) rfl (by show 2 * 0 + _ ≤ _; exact Nat.le_of_eq rfl) (hb hby dGs_51) (fun _ _ => ⟨rfl, e13, (Nat.le_of_ble_eq_true rfl), (Nat.le_of_ble_eq_true rfl)⟩)
    dsimp only [Pt.U, Pt.locs, Pt.cells, Pt.slots] at X14 l14 y14 z14 st14 hQ14
    rw [l14, y14, z14] at X14
    obtain ⟨rfl, N14, K14, V14⟩ := hQ14
    refine own_on (st14) ?_
    show own_Go p e below F (T14.setTop (mkF m 54 #[.val (.ref x), .val (.int ((0 : Int32))), .val (.int (Int32.ofNat es.length)), .val (.ref ar), .val (.int (Int32.ofNat d))] []))
    have N15 := Fr.app N7 N14
    exact own_retV X14 hx hlk hret (hb hby dGs_54) (fun t ht hE => hF t _ _ _ _ (by rw [ht, (rfl : _ = T14.heap)]; exact ⟨rfl, (by simpa using N15), K14, V14⟩) hE (by decide) (by decide))
theorem pdx21 : parseMethodDescriptor "(JJ)J" = some ⟨[.long, .long], some .long⟩ := by decide +kernel
theorem pdx22 : parseMethodDescriptor "(II)I" = some ⟨[.int, .int], some .int⟩ := by decide +kernel
theorem pdx23 : parseMethodDescriptor "([CI)[C" = some ⟨[.array .char, .int], some (.array .char)⟩ := by decide +kernel
theorem pdx24 : parseMethodDescriptor "([CI)V" = some ⟨[.array .char, .int], none⟩ := by decide +kernel
theorem pdx25 : parseMethodDescriptor "()V" = some ⟨[], none⟩ := by decide +kernel
theorem pdx26 : parseMethodDescriptor "(Ljava/lang/String;)V" = some ⟨[.object "java/lang/String"], none⟩ := by decide +kernel
theorem pdx27 : parseMethodDescriptor "()Ljava/lang/CharSequence;" = some ⟨[], some (.object "java/lang/CharSequence")⟩ := by decide +kernel
theorem pdx28 : parseMethodDescriptor "()Ljava/lang/String;" = some ⟨[], some (.object "java/lang/String")⟩ := by decide +kernel
theorem pdx29 : parseMethodDescriptor "(Ljava/lang/Object;)Z" = some ⟨[.object "java/lang/Object"], some .boolean⟩ := by decide +kernel
theorem pdx30 : parseMethodDescriptor "([CI)Ljava/lang/String;" = some ⟨[.array .char, .int], some (.object "java/lang/String")⟩ := by decide +kernel
theorem pdx31 : parseMethodDescriptor "([CII)Ljava/lang/String;" = some ⟨[.array .char, .int, .int], some (.object "java/lang/String")⟩ := by decide +kernel
theorem dMJ_0 : decode jdk_29_method_70_code 0 = .ok (.lload_n 0, 1) := by decide +kernel
theorem dMJ_1 : decode jdk_29_method_70_code 1 = .ok (.lload_n 2, 1) := by decide +kernel
theorem dMJ_2 : decode jdk_29_method_70_code 2 = .ok (.lcmp, 1) := by decide +kernel
theorem dMJ_3 : decode jdk_29_method_70_code 3 = .ok (.ifCond .gt 7, 3) := by decide +kernel
theorem dMJ_6 : decode jdk_29_method_70_code 6 = .ok (.lload_n 0, 1) := by decide +kernel
theorem dMJ_7 : decode jdk_29_method_70_code 7 = .ok (.goto 4, 3) := by decide +kernel
theorem dMJ_10 : decode jdk_29_method_70_code 10 = .ok (.lload_n 2, 1) := by decide +kernel
theorem dMJ_11 : decode jdk_29_method_70_code 11 = .ok (.lreturn, 1) := by decide +kernel
theorem efJJ (m : MethodId) (x0 : Int64) (x1 : Int64) : entryFrame m #[(.long x0), (.long x1)] 4 = mkF m 0 #[.val (.long x0), .second, .val (.long x1), .second] [] := by first | (simp [entryFrame, mkF, argsToLocals, Value.category]; done) | rfl
def Q_rmMJ (Z : State) (a b : Int64) (h0 : Heap) (v : Option Value) (h : Heap) (L : List Loc) : Prop := v = some (.long b) ∧ Fr Z.heap.size L ∧ h = h0
set_option maxRecDepth 65536 in
set_option maxHeartbeats 40000000 in
theorem rmMJ (l : Launch) (Z : State) (a0 : Array Value) (hw : ∀ d ∈ tables_1, d.before a0 Z = true) (a b : Int64) (h0 : Heap) (hgt : XT.cmpL a b = 1) :
    MetFree l (⟨"java/lang/Math", "min", "(JJ)J"⟩ : MethodName) (head1 (Jvm.Cond.code (⟨"java/lang/Math", "min", "(JJ)J"⟩ : MethodName) jdk_29_method_70_code 4 (Option.some FieldType.long) :: []) ({ frames := 0, cells := 0, slots := 0, locals := 0 } : Room)) (fun aa U => aa = #[(.long a), (.long b)] ∧ Z.Warmed39 U.vm ∧ U.heap = h0) (fun _ _ _ _ _ => True) (fun _ U o U' => ∃ v L, o = .returned v ∧ (Q_rmMJ Z a b h0) v U'.heap L ∧ FrameEnd U o U' L ({ frames := 0, cells := 0, slots := 0, locals := 0 } : Room).cells ({ frames := 0, cells := 0, slots := 0, locals := 0 } : Room).slots) := by
  refine own_walkP (by decide +kernel) ?_
  intro p e s m below meth c T0 X0 hx hby hml hret hlk hnm hown hZ e0 es0 F hF
  refine own_on (fun _ => castTop (efJJ m a b)) ?_
  refine own_lload_n X0.here hx (hb hby dMJ_0) rfl (pc' := 1) rfl ?_
  refine own_lload_n X0.here hx (hb hby dMJ_1) rfl (pc' := 2) rfl ?_
  refine own_lcmp X0.here hx (hb hby dMJ_2) (pc' := 3) rfl ?_
  rw [hgt]
  show own_Go p e below F (T0.setTop (mkF m 3 #[.val (.long a), .second, .val (.long b), .second] [(.int ((1 : Int32)))]))
  refine own_ifgt X0.here hx (hb hby dMJ_3) (by decide) (pc' := 10) (by decide) (pc2 := 6) rfl (fun q1 => ?_) (fun q => absurd (by decide) q)
  refine own_lload_n X0.here hx (hb hby dMJ_10) rfl (pc' := 11) rfl ?_
  exact own_ret X0 hx hlk hret rfl (Or.inr (Or.inl ⟨rfl, rfl, _, rfl⟩)) (hb hby dMJ_11) (fun t ht hE => hF t _ _ _ _ (by rw [ht, (e0 : _ = h0)]; exact ⟨rfl, Fr.nil _, rfl⟩) hE (by decide) (by decide))
theorem dMi_0 : decode jdk_29_method_69_code 0 = .ok (.iload_n 0, 1) := by decide +kernel
theorem dMi_1 : decode jdk_29_method_69_code 1 = .ok (.iload_n 1, 1) := by decide +kernel
theorem dMi_2 : decode jdk_29_method_69_code 2 = .ok (.if_icmp .gt 7, 3) := by decide +kernel
theorem dMi_5 : decode jdk_29_method_69_code 5 = .ok (.iload_n 0, 1) := by decide +kernel
theorem dMi_6 : decode jdk_29_method_69_code 6 = .ok (.goto 4, 3) := by decide +kernel
theorem dMi_9 : decode jdk_29_method_69_code 9 = .ok (.iload_n 1, 1) := by decide +kernel
theorem dMi_10 : decode jdk_29_method_69_code 10 = .ok (.ireturn, 1) := by decide +kernel
theorem efII (m : MethodId) (x0 : Int32) (x1 : Int32) : entryFrame m #[(.int x0), (.int x1)] 2 = mkF m 0 #[.val (.int x0), .val (.int x1)] [] := by first | (simp [entryFrame, mkF, argsToLocals, Value.category]; done) | rfl
def Q_rmMi (Z : State) (a b r : Int32) (h0 : Heap) (v : Option Value) (h : Heap) (L : List Loc) : Prop := v = some (.int r) ∧ Fr Z.heap.size L ∧ h = h0
set_option maxRecDepth 65536 in
set_option maxHeartbeats 40000000 in
theorem rmMi (l : Launch) (Z : State) (a0 : Array Value) (hw : ∀ d ∈ tables_1, d.before a0 Z = true) (a b r : Int32) (h0 : Heap) (hr : r = if b < a then b else a) :
    MetFree l (⟨"java/lang/Math", "min", "(II)I"⟩ : MethodName) (head1 (Jvm.Cond.code (⟨"java/lang/Math", "min", "(II)I"⟩ : MethodName) jdk_29_method_69_code 2 (Option.some FieldType.int) :: []) ({ frames := 0, cells := 0, slots := 0, locals := 0 } : Room)) (fun aa U => aa = #[(.int a), (.int b)] ∧ Z.Warmed39 U.vm ∧ U.heap = h0) (fun _ _ _ _ _ => True) (fun _ U o U' => ∃ v L, o = .returned v ∧ (Q_rmMi Z a b r h0) v U'.heap L ∧ FrameEnd U o U' L ({ frames := 0, cells := 0, slots := 0, locals := 0 } : Room).cells ({ frames := 0, cells := 0, slots := 0, locals := 0 } : Room).slots) := by
  refine own_walkP (by decide +kernel) ?_
  intro p e s m below meth c T0 X0 hx hby hml hret hlk hnm hown hZ e0 es0 F hF
  refine own_on (fun _ => castTop (efII m a b)) ?_
  refine own_iload_n X0.here hx (hb hby dMi_0) rfl (pc' := 1) rfl ?_
  refine own_iload_n X0.here hx (hb hby dMi_1) rfl (pc' := 2) rfl ?_
  refine own_icmpgt X0.here hx (hb hby dMi_2) (by decide) (pc' := 9) (by decide) (pc2 := 5) rfl (fun q1 => ?_) (fun q1 => ?_)
  · refine own_iload_n X0.here hx (hb hby dMi_9) rfl (pc' := 10) rfl ?_
    exact own_retI X0 hx hlk hret (hb hby dMi_10) (fun t ht hE => hF t _ _ _ _ (by rw [ht, (e0 : _ = h0)]; exact ⟨by simp [hr, q1], Fr.nil _, rfl⟩) hE (by decide) (by decide))
  · refine own_iload_n X0.here hx (hb hby dMi_5) rfl (pc' := 6) rfl ?_
    refine own_goto X0.here hx (hb hby dMi_6) (by decide) (pc' := 10) (by decide) ?_
    exact own_retI X0 hx hlk hret (hb hby dMi_10) (fun t ht hE => hF t _ _ _ _ (by rw [ht, (e0 : _ = h0)]; exact ⟨by simp [hr, q1], Fr.nil _, rfl⟩) hE (by decide) (by decide))
theorem dMx_0 : decode jdk_29_method_65_code 0 = .ok (.iload_n 0, 1) := by decide +kernel
theorem dMx_1 : decode jdk_29_method_65_code 1 = .ok (.iload_n 1, 1) := by decide +kernel
theorem dMx_2 : decode jdk_29_method_65_code 2 = .ok (.if_icmp .lt 7, 3) := by decide +kernel
theorem dMx_5 : decode jdk_29_method_65_code 5 = .ok (.iload_n 0, 1) := by decide +kernel
theorem dMx_6 : decode jdk_29_method_65_code 6 = .ok (.goto 4, 3) := by decide +kernel
theorem dMx_9 : decode jdk_29_method_65_code 9 = .ok (.iload_n 1, 1) := by decide +kernel
theorem dMx_10 : decode jdk_29_method_65_code 10 = .ok (.ireturn, 1) := by decide +kernel
def Q_rmMx (Z : State) (a b : Nat) (h0 : Heap) (v : Option Value) (h : Heap) (L : List Loc) : Prop := v = some (.int (Int32.ofNat (max a b))) ∧ Fr Z.heap.size L ∧ h = h0
set_option maxRecDepth 65536 in
set_option maxHeartbeats 40000000 in
theorem rmMx (l : Launch) (Z : State) (a0 : Array Value) (hw : ∀ d ∈ tables_1, d.before a0 Z = true) (a b : Nat) (h0 : Heap) (ha : a ≤ 4000) (hb1 : b ≤ 4000) :
    MetFree l (⟨"java/lang/Math", "max", "(II)I"⟩ : MethodName) (head1 (Jvm.Cond.code (⟨"java/lang/Math", "max", "(II)I"⟩ : MethodName) jdk_29_method_65_code 2 (Option.some FieldType.int) :: []) ({ frames := 0, cells := 0, slots := 0, locals := 0 } : Room)) (fun aa U => aa = #[(.int (Int32.ofNat a)), (.int (Int32.ofNat b))] ∧ Z.Warmed39 U.vm ∧ U.heap = h0) (fun _ _ _ _ _ => True) (fun _ U o U' => ∃ v L, o = .returned v ∧ (Q_rmMx Z a b h0) v U'.heap L ∧ FrameEnd U o U' L ({ frames := 0, cells := 0, slots := 0, locals := 0 } : Room).cells ({ frames := 0, cells := 0, slots := 0, locals := 0 } : Room).slots) := by
  refine own_walkP (by decide +kernel) ?_
  intro p e s m below meth c T0 X0 hx hby hml hret hlk hnm hown hZ e0 es0 F hF
  refine own_on (fun _ => castTop (efII m _ _)) ?_
  refine own_iload_n X0.here hx (hb hby dMx_0) rfl (pc' := 1) rfl ?_
  refine own_iload_n X0.here hx (hb hby dMx_1) rfl (pc' := 2) rfl ?_
  refine own_icmplt X0.here hx (hb hby dMx_2) (by decide) (pc' := 9) (by decide) (pc2 := 5) rfl (fun q1 => ?_) (fun q1 => ?_)
  · have hm : max a b = b := by rcases Nat.lt_or_ge a b with z | z; omega; exact absurd q1 (own_nltN z (by omega))
    refine own_iload_n X0.here hx (hb hby dMx_9) rfl (pc' := 10) rfl ?_
    exact own_retI X0 hx hlk hret (hb hby dMx_10) (fun t ht hE => hF t _ _ _ _ (by rw [ht, (e0 : _ = h0)]; exact ⟨by rw [hm], Fr.nil _, rfl⟩) hE (by decide) (by decide))
  · have hm : max a b = a := by rcases Nat.lt_or_ge a b with z | z; exact absurd (own_ltN z (by omega)) q1; omega
    refine own_iload_n X0.here hx (hb hby dMx_5) rfl (pc' := 6) rfl ?_
    refine own_goto X0.here hx (hb hby dMx_6) (by decide) (pc' := 10) (by decide) ?_
    exact own_retI X0 hx hlk hret (hb hby dMx_10) (fun t ht hE => hF t _ _ _ _ (by rw [ht, (e0 : _ = h0)]; exact ⟨by rw [hm], Fr.nil _, rfl⟩) hE (by decide) (by decide))
theorem dCO_0 : decode jdk_65_method_125_code 0 = .ok (.iload_n 1, 1) := by decide +kernel
theorem dCO_1 : decode jdk_65_method_125_code 1 = .ok (.aload_n 0, 1) := by decide +kernel
theorem dCO_2 : decode jdk_65_method_125_code 2 = .ok (.arraylength, 1) := by decide +kernel
theorem dCO_3 : decode jdk_65_method_125_code 3 = .ok (.if_icmp .ne 11, 3) := by decide +kernel
theorem dCO_6 : decode jdk_65_method_125_code 6 = .ok (.aload_n 0, 1) := by decide +kernel
theorem dCO_7 : decode jdk_65_method_125_code 7 = .ok (.invokevirtual 322, 3) := by decide +kernel
theorem dCO_10 : decode jdk_65_method_125_code 10 = .ok (.checkcast 323, 3) := by decide +kernel
theorem dCO_13 : decode jdk_65_method_125_code 13 = .ok (.areturn, 1) := by decide +kernel
theorem dCO_14 : decode jdk_65_method_125_code 14 = .ok (.iload_n 1, 1) := by decide +kernel
theorem dCO_15 : decode jdk_65_method_125_code 15 = .ok (.newarray .char, 2) := by decide +kernel
theorem dCO_17 : decode jdk_65_method_125_code 17 = .ok (.astore_n 2, 1) := by decide +kernel
theorem dCO_18 : decode jdk_65_method_125_code 18 = .ok (.aload_n 0, 1) := by decide +kernel
theorem dCO_19 : decode jdk_65_method_125_code 19 = .ok (.iconst 0, 1) := by decide +kernel
theorem dCO_20 : decode jdk_65_method_125_code 20 = .ok (.aload_n 2, 1) := by decide +kernel
theorem dCO_21 : decode jdk_65_method_125_code 21 = .ok (.iconst 0, 1) := by decide +kernel
theorem dCO_22 : decode jdk_65_method_125_code 22 = .ok (.aload_n 0, 1) := by decide +kernel
theorem dCO_23 : decode jdk_65_method_125_code 23 = .ok (.arraylength, 1) := by decide +kernel
theorem dCO_24 : decode jdk_65_method_125_code 24 = .ok (.iload_n 1, 1) := by decide +kernel
theorem dCO_25 : decode jdk_65_method_125_code 25 = .ok (.invokestatic 304, 3) := by decide +kernel
theorem dCO_28 : decode jdk_65_method_125_code 28 = .ok (.invokestatic 150, 3) := by decide +kernel
theorem dCO_31 : decode jdk_65_method_125_code 31 = .ok (.aload_n 2, 1) := by decide +kernel
theorem dCO_32 : decode jdk_65_method_125_code 32 = .ok (.areturn, 1) := by decide +kernel
theorem efCO (m : MethodId) (x0 : Addr) (x1 : Int32) : entryFrame m #[(.ref x0), (.int x1)] 3 = mkF m 0 #[.val (.ref x0), .val (.int x1), .unset] [] := by first | (simp [entryFrame, mkF, argsToLocals, Value.category]; done) | rfl
def Q_rmCO (Z : State) (ar : Addr) (ka : ClassId) (cs : List Int32) (M : Nat) (d0 : Value) (h0 : Heap) (v : Option Value) (h : Heap) (L : List Loc) : Prop := ∃ t kt, v = some (.ref t) ∧ Ext h0 h ∧ Fr Z.heap.size L ∧ h0.size ≤ t ∧ Arv Z h t kt .char (Int32.ofNat M) ((cs ++ List.replicate (M - cs.length) 0).map Value.int) (.int 0)
set_option maxRecDepth 65536 in
set_option maxHeartbeats 40000000 in
theorem rmCO (l : Launch) (Z : State) (a0 : Array Value) (hw : ∀ d ∈ tables_1, d.before a0 Z = true) (ar : Addr) (ka : ClassId) (cs : List Int32) (M : Nat) (d0 : Value) (h0 : Heap) (EZ : Ext Z.heap h0) (A0 : Arv Z h0 ar ka .char (Int32.ofNat cs.length) (cs.map Value.int) d0) (hM : cs.length < M) (hM2 : M ≤ 16) :
    MetFree l (⟨"java/util/Arrays", "copyOf", "([CI)[C"⟩ : MethodName) (head1 (Jvm.Cond.code (⟨"java/util/Arrays", "copyOf", "([CI)[C"⟩ : MethodName) jdk_65_method_125_code 3 (Option.some (FieldType.array FieldType.char)) :: []) ({ frames := 1, cells := 1, slots := 16, locals := 60 } : Room)) (fun aa U => aa = #[(.ref ar), (.int (Int32.ofNat M))] ∧ Z.Warmed39 U.vm ∧ U.heap = h0) (fun _ _ _ _ _ => True) (fun _ U o U' => ∃ v L, o = .returned v ∧ (Q_rmCO Z ar ka cs M d0 h0) v U'.heap L ∧ FrameEnd U o U' L ({ frames := 1, cells := 1, slots := 16, locals := 60 } : Room).cells ({ frames := 1, cells := 1, slots := 16, locals := 60 } : Room).slots) := by
  refine own_walkN (by exact pnAR) ?_
  intro p e s m below meth c T0 X0 hx hby hml hret hlk hnm hown hZ e0 es0 F hF
  refine own_on (fun _ => castTop (efCO m ar _)) ?_
  have M0 := own_ext_refl h0
  have N0 := Fr.nil Z.heap.size
  refine own_iload_n X0.here hx (hb hby dCO_0) rfl (pc' := 1) rfl ?_
  refine own_aload_n X0.here hx (hb hby dCO_1) rfl rfl (pc' := 2) rfl ?_
  refine own_alen X0 hx hZ e0 A0 (hb hby dCO_2) (pc' := 3) rfl ?_
  refine own_icmpne X0.here hx (hb hby dCO_3) (by decide) (pc' := 14) (by decide) (pc2 := 6) rfl (fun q1 => ?_) (fun q => absurd (own_inj (by omega) (by omega) q) (by omega))
  refine own_iload_n X0.here hx (hb hby dCO_14) rfl (pc' := 15) rfl ?_
  obtain ⟨T2, h2, k2, X2, e2, E2, A2, st2⟩ := newP X0 hx hZ (hw _ (List.mem_of_getElem? (i := 0) rfl)) e0 (g := (mkF m 15 #[.val (.ref ar), .val (.int (Int32.ofNat M)), .unset] [(.int (Int32.ofNat M))])) rfl (hb hby dCO_15) rfl (own_nn (by omega)) (cap := 16) (by rw [own_tn (by omega)]; exact hM2) (by decide) (by decide) (by decide)
  obtain ⟨a2, g2⟩ : ∃ z, z = h0.size := ⟨_, rfl⟩
  rw [← g2] at A2 st2
  have ne3 : ar ≠ a2 := Nat.ne_of_lt (by rw [g2]; exact A0.lt)
  have ge4 : h0.size ≤ a2 := by rw [g2]; exact M0.1
  have f5 := own_ext_trans M0 E2
  have f6 := A0.ext E2
  have V2 := (Arv.new A2 (own_nn (by omega))).pad (pad_rep [] (defaultValue (newarray.typeOf .char)) (Int32.ofNat M).toNatClampNeg)
  refine own_on st2 ?_
  show own_Go p e below F (T2.setTop (mkF m 17 #[.val (.ref ar), .val (.int (Int32.ofNat M)), .unset] [(.ref a2)]))
  have gz_a2 : Z.heap.size ≤ a2 := Nat.le_trans EZ.1 ge4
  refine own_astore_n X2.here hx (hb hby dCO_17) rfl (L' := #[.val (.ref ar), .val (.int (Int32.ofNat M)), .val (.ref a2)]) rfl (pc' := 18) rfl ?_
  refine own_aload_n X2.here hx (hb hby dCO_18) rfl rfl (pc' := 19) rfl ?_
  refine own_iconst X2.here hx (hb hby dCO_19) (v := 0) rfl (pc' := 20) rfl ?_
  refine own_aload_n X2.here hx (hb hby dCO_20) rfl rfl (pc' := 21) rfl ?_
  refine own_iconst X2.here hx (hb hby dCO_21) (v := 0) rfl (pc' := 22) rfl ?_
  refine own_aload_n X2.here hx (hb hby dCO_22) rfl rfl (pc' := 23) rfl ?_
  refine own_alen X2 hx hZ e2 f6 (hb hby dCO_23) (pc' := 24) rfl ?_
  refine own_iload_n X2.here hx (hb hby dCO_24) rfl (pc' := 25) rfl ?_
  obtain ⟨_, _, ⟨T7, L7, k7, n7⟩, -, X7, ⟨Lc7, hQ7, l7, y7, z7⟩, st7⟩ := Jvm.LawKit.callS X2 hx (y := (⟨"java/lang/Math", "min", "(II)I"⟩ : MethodName)) hown (mvT hZ (hw _ (List.mem_of_getElem? (i := 144) rfl))) (mvT hZ (hw _ (List.mem_of_getElem? (i := 145) rfl))) (mvT hZ (hw _ (List.mem_of_getElem? (i := 135) rfl))) (mvT hZ (hw _ (List.mem_of_getElem? (i := 146) rfl))) (by decide) (backOf (W := 4) (rmMi l Z a0 hw (Int32.ofNat cs.length) (Int32.ofNat M) (Int32.ofNat cs.length) h2 (by rw [if_neg (own_nltN (by omega) (by omega))])) hZ (hw _ (List.mem_of_getElem? (i := 146) rfl)) (hw _ (List.mem_of_getElem? (i := 135) rfl)) (by decide) (by decide)) (g := (mkF m 25 #[.val (.ref ar), .val (.int (Int32.ofNat M)), .val (.ref a2)] [(.int (Int32.ofNat M)), (.int (Int32.ofNat cs.length)), (.int ((0 : Int32))), (.ref a2), (.int ((0 : Int32))), (.ref ar)])) rfl (by rw [hml]; rfl) (argsL := [(.int (Int32.ofNat cs.length)), (.int (Int32.ofNat M))]) (rest := [(.int ((0 : Int32))), (.ref a2), (.int ((0 : Int32))), (.ref ar)]) (lenOf pdx22 rfl) rfl (by show 2 * 0 + _ ≤ _; exact Nat.le_of_eq rfl) (hb hby dCO_25) (fun _ _ => ⟨rfl, e2, (Nat.le_of_ble_eq_true rfl), (Nat.le_of_ble_eq_true rfl)⟩)
  dsimp only [Pt.U, Pt.locs, Pt.cells, Pt.slots] at X7 l7 y7 z7 st7 hQ7
  rw [l7, y7, z7] at X7
  obtain ⟨rfl, N7, E7⟩ := hQ7
  refine own_on (st7) ?_
  show own_Go p e below F (T7.setTop (mkF m 28 #[.val (.ref ar), .val (.int (Int32.ofNat M)), .val (.ref a2)] [(.int (Int32.ofNat cs.length)), (.int ((0 : Int32))), (.ref a2), (.int ((0 : Int32))), (.ref ar)]))
  have N8 := Fr.app N0 N7
  obtain ⟨T9, h9, L9, X9, e9, N9, K9, V9, st9⟩ := cpA X7 hx hZ hown (hw _ (List.mem_of_getElem? (i := 147) rfl)) (hw _ (List.mem_of_getElem? (i := 150) rfl)) (hw _ (List.mem_of_getElem? (i := 148) rfl)) (hw _ (List.mem_of_getElem? (i := 149) rfl)) E7 f6 V2 (us := (cs.map Value.int)) (Or.inl ⟨rfl, rfl⟩) (by decide) (by decide) (own_nn (by omega)) (by rw [own_tn (by omega)]; show 0 + _ ≤ _; omega) (by rw [own_tn (by omega), own_tn (by omega)]; show 0 + _ ≤ _; omega) (by rw [own_tn (by omega)]; have q := own_rangeV (vs := cs.map Value.int) (d := d0); rw [List.length_map] at q; exact q.symm) (by rw [own_tn (by omega)]; simp; rw [own_tn (by omega)]; omega) N8 gz_a2 (g := (mkF m 28 #[.val (.ref ar), .val (.int (Int32.ofNat M)), .val (.ref a2)] [(.int (Int32.ofNat cs.length)), (.int ((0 : Int32))), (.ref a2), (.int ((0 : Int32))), (.ref ar)])) rfl (by rw [hml]; rfl) rfl (hb hby dCO_28) (by decide) (W := 0) (by show 2 * 0 + _ ≤ _; exact Nat.le_of_eq rfl) (by decide)
  have f10 := own_ext_keep f5 K9 (fun y hy => by simp only [List.mem_cons, List.not_mem_nil, or_false] at hy; rcases hy with rfl <;> assumption)
  have f11 := f6.keep K9 (by simp only [List.mem_cons, List.not_mem_nil, or_false, not_or]; exact ne3)
  refine own_on st9 ?_
  show own_Go p e below F (T9.setTop (mkF m 31 #[.val (.ref ar), .val (.int (Int32.ofNat M)), .val (.ref a2)] []))
  have V9 : Arv Z h9 a2 k2 .char (Int32.ofNat M) ((cs ++ List.replicate (M - cs.length) 0).map Value.int) (.int 0) := by
    have q := V9
    rw [own_tn (by omega), own_tn (by omega)] at q
    rw [show List.map Value.int (cs ++ List.replicate (M - cs.length) (0 : Int32)) = List.map Value.int cs ++ List.replicate (M - cs.length) (Value.int 0) by simp]
    have e : ∀ (u : Value), List.drop (0 + cs.length) ([] ++ List.replicate M u) = List.replicate (M - cs.length) u := fun u => by simp
    rw [show ((0 : Int32).toNatClampNeg) = 0 from rfl, e, List.take_zero, List.nil_append] at q
    exact q
  refine own_aload_n X9.here hx (hb hby dCO_31) rfl rfl (pc' := 32) rfl ?_
  exact own_retA X9 hx hlk hret rfl rfl (hb hby dCO_32) (fun t ht hE => hF t _ _ _ _ (by rw [ht, (e9 : _ = h9)]; exact ⟨_, _, rfl, f10, N9, ge4, V9⟩) hE (by decide) (by decide))
/-- t is an AppendOnlyText of length n over the array ar (of cs) -/
def own_AT (Z : State) (h : Heap) (t ar : Addr) (n : Nat) : Prop := Exa Z h t "com/example/kerb/kerb/call/AppendOnlyText" ∧ Fld Z h t "com/example/kerb/kerb/call/AppendOnlyText" "chars" "[C" (.ref ar) ∧ Fld Z h t "com/example/kerb/kerb/call/AppendOnlyText" "length" "I" (.int (Int32.ofNat n))
theorem dAI_0 : decode prog_23_method_1_code 0 = .ok (.aload_n 0, 1) := by decide +kernel
theorem dAI_1 : decode prog_23_method_1_code 1 = .ok (.invokespecial 3, 3) := by decide +kernel
theorem dAI_4 : decode prog_23_method_1_code 4 = .ok (.aload_n 0, 1) := by decide +kernel
theorem dAI_5 : decode prog_23_method_1_code 5 = .ok (.getstatic 9, 3) := by decide +kernel
theorem dAI_8 : decode prog_23_method_1_code 8 = .ok (.putfield 15, 3) := by decide +kernel
theorem dAI_11 : decode prog_23_method_1_code 11 = .ok (.return_, 1) := by decide +kernel
def Q_rmAI (Z : State) (t : Addr) (h0 : Heap) (nn : Addr) (v : Option Value) (h : Heap) (L : List Loc) : Prop := v = none ∧ Fr Z.heap.size L ∧ Keep h0 h [t] ∧ own_AT Z h t nn 0
set_option maxRecDepth 65536 in
set_option maxHeartbeats 40000000 in
theorem rmAI (l : Launch) (Z : State) (a0 : Array Value) (hw : ∀ d ∈ tables_1, d.before a0 Z = true) (t : Addr) (h0 : Heap) (EZ : Ext Z.heap h0) (nn : Addr) (O6 : Sta Z Z.heap "com/example/kerb/kerb/call/AppendOnlyText" "NONE" "[C" (.ref nn)) (gt : Z.heap.size ≤ t) (A0 : Exa Z h0 t "com/example/kerb/kerb/call/AppendOnlyText") (F0 : Fld Z h0 t "com/example/kerb/kerb/call/AppendOnlyText" "chars" "[C" .null) (F1 : Fld Z h0 t "com/example/kerb/kerb/call/AppendOnlyText" "length" "I" (.int (0 : Int32))) :
    MetFree l (⟨"com/example/kerb/kerb/call/AppendOnlyText", "<init>", "()V"⟩ : MethodName) (head1 (Jvm.Cond.code (⟨"com/example/kerb/kerb/call/AppendOnlyText", "<init>", "()V"⟩ : MethodName) prog_23_method_1_code 1 (Option.none : Option FieldType) :: []) ({ frames := 1, cells := 0, slots := 0, locals := 12 } : Room)) (fun aa U => aa = #[(.ref t)] ∧ Z.Warmed39 U.vm ∧ U.heap = h0) (fun _ _ _ _ _ => True) (fun _ U o U' => ∃ v L, o = .returned v ∧ (Q_rmAI Z t h0 nn) v U'.heap L ∧ FrameEnd U o U' L ({ frames := 1, cells := 0, slots := 0, locals := 12 } : Room).cells ({ frames := 1, cells := 0, slots := 0, locals := 12 } : Room).slots) := by
  refine own_walkN (by exact pnAT) ?_
  intro p e s m below meth c T0 X0 hx hby hml hret hlk hnm hown hZ e0 es0 F hF
  refine own_on (fun _ => castTop (efR m t)) ?_
  have N0 := Fr.nil Z.heap.size
  have Q0 := Keep.refl h0 [t]
  refine own_aload_n X0.here hx (hb hby dAI_0) rfl rfl (pc' := 1) rfl ?_
  obtain ⟨T1, X1, e1, st1⟩ := initO X0 hx hZ hown (hw _ (List.mem_of_getElem? (i := 35) rfl)) (hw _ (List.mem_of_getElem? (i := 19) rfl)) (hw _ (List.mem_of_getElem? (i := 20) rfl)) e0 (g := (mkF m 1 #[.val (.ref t)] [(.ref t)])) rfl (by rw [hml]; rfl) rfl (hb hby dAI_1) (by decide) (W := 0) (by show 2 * 0 + _ ≤ _; exact Nat.le_of_eq rfl) (by decide)
  refine own_on st1 ?_
  show own_Go p e below F (T1.setTop (mkF m 4 #[.val (.ref t)] []))
  refine own_aload_n X1.here hx (hb hby dAI_4) rfl rfl (pc' := 5) rfl ?_
  obtain ⟨T2, X2, e2, st2⟩ := getS (host := "") X1 hx hZ hown (hw _ (List.mem_of_getElem? (i := 36) rfl)) Via.refl e1 (O6.ext EZ) (g := (mkF m 5 #[.val (.ref t)] [(.ref t)])) rfl (hb hby dAI_5)
  refine own_on st2 ?_
  show own_Go p e below F (T2.setTop (mkF m 8 #[.val (.ref t)] [(.ref nn), (.ref t)]))
  obtain ⟨T3, h3, X3, e3, W3, st3⟩ := putF X2 hx hZ hown (host := "") (Or.inl (hw _ (List.mem_of_getElem? (i := 38) rfl))) Via.refl e2 F0 A0 (Or.inl (hw _ (List.mem_of_getElem? (i := 39) rfl))) (hw _ (List.mem_of_getElem? (i := 30) rfl)) (ty := .array .char) (by decide) rfl rfl (g := (mkF m 8 #[.val (.ref t)] [(.ref nn), (.ref t)])) rfl rfl (hb hby dAI_8)
  have f4 := A0.wr W3
  have f5 := F0.same W3
  have f6 := F1.other W3 (Or.inr (slot_ne (Or.inl (hw _ (List.mem_of_getElem? (i := 58) rfl))) (Or.inl (hw _ (List.mem_of_getElem? (i := 39) rfl))) (by decide) (t := .int) (by decide) (t' := .array .char) (by decide)))
  have f7 := Q0.wr W3 (Or.inl (by simp))
  have N8 := own_Fr_snoc (sl := Jvm.RoadKit.slotOf Z "com/example/kerb/kerb/call/AppendOnlyText" "chars" "[C") N0 gt
  refine own_on st3 ?_
  show own_Go p e below F (T3.setTop (mkF m 11 #[.val (.ref t)] []))
  exact own_retV X3 hx hlk hret (hb hby dAI_11) (fun t ht hE => hF t _ _ _ _ (by rw [ht, (e3 : _ = h3)]; exact ⟨rfl, N8, f7, f4, f5, f6⟩) hE (by decide) (by decide))
theorem dAp_0 : decode prog_23_method_2_code 0 = .ok (.aload_n 1, 1) := by decide +kernel
theorem dAp_1 : decode prog_23_method_2_code 1 = .ok (.invokevirtual 18, 3) := by decide +kernel
theorem dAp_4 : decode prog_23_method_2_code 4 = .ok (.ldc 24, 2) := by decide +kernel
theorem dAp_6 : decode prog_23_method_2_code 6 = .ok (.aload_n 0, 1) := by decide +kernel
theorem dAp_7 : decode prog_23_method_2_code 7 = .ok (.getfield 25, 3) := by decide +kernel
theorem dAp_10 : decode prog_23_method_2_code 10 = .ok (.isub, 1) := by decide +kernel
theorem dAp_11 : decode prog_23_method_2_code 11 = .ok (.if_icmp .le 13, 3) := by decide +kernel
theorem dAp_14 : decode prog_23_method_2_code 14 = .ok (.new 28, 3) := by decide +kernel
theorem dAp_17 : decode prog_23_method_2_code 17 = .ok (.dup, 1) := by decide +kernel
theorem dAp_18 : decode prog_23_method_2_code 18 = .ok (.ldc 30, 2) := by decide +kernel
theorem dAp_20 : decode prog_23_method_2_code 20 = .ok (.invokespecial 32, 3) := by decide +kernel
theorem dAp_23 : decode prog_23_method_2_code 23 = .ok (.athrow, 1) := by decide +kernel
theorem dAp_24 : decode prog_23_method_2_code 24 = .ok (.aload_n 0, 1) := by decide +kernel
theorem dAp_25 : decode prog_23_method_2_code 25 = .ok (.getfield 25, 3) := by decide +kernel
theorem dAp_28 : decode prog_23_method_2_code 28 = .ok (.aload_n 1, 1) := by decide +kernel
theorem dAp_29 : decode prog_23_method_2_code 29 = .ok (.invokevirtual 18, 3) := by decide +kernel
theorem dAp_32 : decode prog_23_method_2_code 32 = .ok (.iadd, 1) := by decide +kernel
theorem dAp_33 : decode prog_23_method_2_code 33 = .ok (.istore_n 2, 1) := by decide +kernel
theorem dAp_34 : decode prog_23_method_2_code 34 = .ok (.iload_n 2, 1) := by decide +kernel
theorem dAp_35 : decode prog_23_method_2_code 35 = .ok (.aload_n 0, 1) := by decide +kernel
theorem dAp_36 : decode prog_23_method_2_code 36 = .ok (.getfield 15, 3) := by decide +kernel
theorem dAp_39 : decode prog_23_method_2_code 39 = .ok (.arraylength, 1) := by decide +kernel
theorem dAp_40 : decode prog_23_method_2_code 40 = .ok (.if_icmp .le 37, 3) := by decide +kernel
theorem dAp_43 : decode prog_23_method_2_code 43 = .ok (.ldc2_w 35, 3) := by decide +kernel
theorem dAp_46 : decode prog_23_method_2_code 46 = .ok (.ldc2_w 37, 3) := by decide +kernel
theorem dAp_49 : decode prog_23_method_2_code 49 = .ok (.aload_n 0, 1) := by decide +kernel
theorem dAp_50 : decode prog_23_method_2_code 50 = .ok (.getfield 15, 3) := by decide +kernel
theorem dAp_53 : decode prog_23_method_2_code 53 = .ok (.arraylength, 1) := by decide +kernel
theorem dAp_54 : decode prog_23_method_2_code 54 = .ok (.i2l, 1) := by decide +kernel
theorem dAp_55 : decode prog_23_method_2_code 55 = .ok (.lmul, 1) := by decide +kernel
theorem dAp_56 : decode prog_23_method_2_code 56 = .ok (.invokestatic 39, 3) := by decide +kernel
theorem dAp_59 : decode prog_23_method_2_code 59 = .ok (.l2i, 1) := by decide +kernel
theorem dAp_60 : decode prog_23_method_2_code 60 = .ok (.istore_n 3, 1) := by decide +kernel
theorem dAp_61 : decode prog_23_method_2_code 61 = .ok (.aload_n 0, 1) := by decide +kernel
theorem dAp_62 : decode prog_23_method_2_code 62 = .ok (.aload_n 0, 1) := by decide +kernel
theorem dAp_63 : decode prog_23_method_2_code 63 = .ok (.getfield 15, 3) := by decide +kernel
theorem dAp_66 : decode prog_23_method_2_code 66 = .ok (.iload_n 2, 1) := by decide +kernel
theorem dAp_67 : decode prog_23_method_2_code 67 = .ok (.iload_n 3, 1) := by decide +kernel
theorem dAp_68 : decode prog_23_method_2_code 68 = .ok (.invokestatic 45, 3) := by decide +kernel
theorem dAp_71 : decode prog_23_method_2_code 71 = .ok (.invokestatic 49, 3) := by decide +kernel
theorem dAp_74 : decode prog_23_method_2_code 74 = .ok (.putfield 15, 3) := by decide +kernel
theorem dAp_77 : decode prog_23_method_2_code 77 = .ok (.aload_n 1, 1) := by decide +kernel
theorem dAp_78 : decode prog_23_method_2_code 78 = .ok (.iconst 0, 1) := by decide +kernel
theorem dAp_79 : decode prog_23_method_2_code 79 = .ok (.aload_n 1, 1) := by decide +kernel
theorem dAp_80 : decode prog_23_method_2_code 80 = .ok (.invokevirtual 18, 3) := by decide +kernel
theorem dAp_83 : decode prog_23_method_2_code 83 = .ok (.aload_n 0, 1) := by decide +kernel
theorem dAp_84 : decode prog_23_method_2_code 84 = .ok (.getfield 15, 3) := by decide +kernel
theorem dAp_87 : decode prog_23_method_2_code 87 = .ok (.aload_n 0, 1) := by decide +kernel
theorem dAp_88 : decode prog_23_method_2_code 88 = .ok (.getfield 25, 3) := by decide +kernel
theorem dAp_91 : decode prog_23_method_2_code 91 = .ok (.invokevirtual 55, 3) := by decide +kernel
theorem dAp_94 : decode prog_23_method_2_code 94 = .ok (.aload_n 0, 1) := by decide +kernel
theorem dAp_95 : decode prog_23_method_2_code 95 = .ok (.iload_n 2, 1) := by decide +kernel
theorem dAp_96 : decode prog_23_method_2_code 96 = .ok (.putfield 25, 3) := by decide +kernel
theorem dAp_99 : decode prog_23_method_2_code 99 = .ok (.return_, 1) := by decide +kernel
theorem efAp (m : MethodId) (x0 : Addr) (x1 : Addr) : entryFrame m #[(.ref x0), (.ref x1)] 4 = mkF m 0 #[.val (.ref x0), .val (.ref x1), .unset, .unset] [] := by first | (simp [entryFrame, mkF, argsToLocals, Value.category]; done) | rfl
def Q_rmA1 (Z : State) (t x ar : Addr) (ka : ClassId) (cs es : List Int32) (L0 : Nat) (d0 : Value) (h0 : Heap) (z0 : Int32) (fm : Value) (v : Option Value) (h : Heap) (L : List Loc) : Prop := v = none ∧ Fr Z.heap.size L ∧ Keep h0 h [ar, t] ∧ own_AT Z h t ar (L0 + es.length) ∧ Arv Z h ar ka .char (Int32.ofNat cs.length) ((own_lay cs L0 es).map Value.int) (.int 0)
set_option maxRecDepth 65536 in
set_option maxHeartbeats 40000000 in
theorem rmA1 (l : Launch) (Z : State) (a0 : Array Value) (hw : ∀ d ∈ tables_1, d.before a0 Z = true) (t x ar : Addr) (ka : ClassId) (cs es : List Int32) (L0 : Nat) (d0 : Value) (h0 : Heap) (EZ : Ext Z.heap h0) (z0 : Int32) (O1 : Sta Z Z.heap "java/lang/String" "COMPACT_STRINGS" "Z" (.int z0)) (P5 : ¬ z0 = 0) (fm : Value) (O2 : Sta Z Z.heap "jdk/internal/util/Preconditions" "SIOOBE_FORMATTER" "Ljava/util/function/BiFunction;" fm) (rf : fm.isRef = true) (O3 : Sta Z Z.heap "java/lang/StringUTF16" "$assertionsDisabled" "Z" (.int 1)) (O4 : Sta Z Z.heap "java/lang/StringUTF16" "HI_BYTE_SHIFT" "I" (.int 0)) (O5 : Sta Z Z.heap "java/lang/StringUTF16" "LO_BYTE_SHIFT" "I" (.int 8)) (S : own_S Z h0 x es) (HT : own_AT Z h0 t ar L0) (A0 : Arv Z h0 ar ka .char (Int32.ofNat cs.length) (cs.map Value.int) (.int 0)) (gt : Z.heap.size ≤ t) (hL : L0 ≤ cs.length) (hc : cs.length ≤ 8) (hf : L0 + es.length ≤ cs.length) (ga : 0 < es.length → Z.heap.size ≤ ar) :
    MetFree l (⟨"com/example/kerb/kerb/call/AppendOnlyText", "append", "(Ljava/lang/String;)V"⟩ : MethodName) (head1 (Jvm.Cond.code (⟨"com/example/kerb/kerb/call/AppendOnlyText", "append", "(Ljava/lang/String;)V"⟩ : MethodName) prog_23_method_2_code 4 (Option.none : Option FieldType) :: []) ({ frames := 5, cells := 1, slots := 16, locals := 76 } : Room)) (fun aa U => aa = #[(.ref t), (.ref x)] ∧ Z.Warmed39 U.vm ∧ U.heap = h0) (fun _ _ _ _ _ => True) (fun _ U o U' => ∃ v L, o = .returned v ∧ (Q_rmA1 Z t x ar ka cs es L0 d0 h0 z0 fm) v U'.heap L ∧ FrameEnd U o U' L ({ frames := 5, cells := 1, slots := 16, locals := 76 } : Room).cells ({ frames := 5, cells := 1, slots := 16, locals := 76 } : Room).slots) := by
  have hes := S.ok
  refine own_walkN (by exact pnAT) ?_
  intro p e s m below meth c T0 X0 hx hby hml hret hlk hnm hown hZ e0 es0 F hF
  refine own_on (fun _ => castTop (efAp m t x)) ?_
  have N0 := Fr.nil Z.heap.size
  have Q0 := Keep.refl h0 [ar, t]
  have hta : t ≠ ar := Exa.neArv HT.1 A0 (hw _ (List.mem_of_getElem? (i := 30) rfl))
  refine own_aload_n X0.here hx (hb hby dAp_0) rfl rfl (pc' := 1) rfl ?_
  obtain ⟨cq1, kq1, qa1, qb1, qc1⟩ := isOf hZ e0 S.exa
  obtain ⟨_, _, ⟨T1, L1, k1, n1⟩, -, X1, ⟨Lc1, hQ1, l1, y1, z1⟩, st1⟩ := X0.virtualBack hx (y := (⟨"java/lang/String", "length", "()I"⟩ : MethodName)) (z := (⟨"java/lang/String", "length", "()I"⟩ : MethodName)) hown (mvT hZ (hw _ (List.mem_of_getElem? (i := 45) rfl))) (mvT hZ (hw _ (List.mem_of_getElem? (i := 46) rfl))) (notFace_of_selects (args := #[]) (mvT hZ (hw _ (List.mem_of_getElem? (i := 48) rfl)))) (mvT hZ (hw _ (List.mem_of_getElem? (i := 48) rfl))) (mvT hZ (hw _ (List.mem_of_getElem? (i := 47) rfl))) (by decide) (own_lenS (s := s) (W := 0) hZ hw S (O1.ext EZ) P5 (by decide) (by decide)) qa1 qc1 (g := (mkF m 1 #[.val (.ref t), .val (.ref x), .unset, .unset] [(.ref x)])) rfl (by rw [hml]; rfl) (Steps.refl _) (argsL := []) (rest := []) (lenOf pdx10 rfl) rfl (by show 2 * 0 + _ ≤ _; exact Nat.le_of_eq rfl) (hb hby dAp_1) (fun _ _ => ⟨rfl, e0, (Nat.le_of_ble_eq_true rfl), (Nat.le_of_ble_eq_true rfl)⟩)
  dsimp only [Pt.U, Pt.locs, Pt.cells, Pt.slots] at X1 l1 y1 z1 st1 hQ1
  rw [l1, y1, z1] at X1
  obtain ⟨rfl, rfl, E1⟩ := hQ1
  refine own_to st1 ?_
  show own_Go p e below F (T1.setTop (mkF m 4 #[.val (.ref t), .val (.ref x), .unset, .unset] [(.int (Int32.ofNat es.length))]))
  refine own_on (fun _ => X1.ldcI hx hown (mv hZ (hw _ (List.mem_of_getElem? (i := 56) rfl))) (g := (mkF m 4 #[.val (.ref t), .val (.ref x), .unset, .unset] [(.int (Int32.ofNat es.length))])) rfl (hb hby dAp_4)) ?_
  show own_Go p e below F (T1.setTop (mkF m 6 #[.val (.ref t), .val (.ref x), .unset, .unset] [(.int ((2147483639 : Int32))), (.int (Int32.ofNat es.length))]))
  refine own_aload_n X1.here hx (hb hby dAp_6) rfl rfl (pc' := 7) rfl ?_
  obtain ⟨T2, X2, e2, st2⟩ := getF X1 hx hZ hown (host := "") (Or.inl (hw _ (List.mem_of_getElem? (i := 57) rfl))) Via.refl E1 HT.2.2 (g := (mkF m 7 #[.val (.ref t), .val (.ref x), .unset, .unset] [(.ref t), (.int ((2147483639 : Int32))), (.int (Int32.ofNat es.length))])) rfl rfl (hb hby dAp_7)
  refine own_on st2 ?_
  show own_Go p e below F (T2.setTop (mkF m 10 #[.val (.ref t), .val (.ref x), .unset, .unset] [(.int (Int32.ofNat L0)), (.int ((2147483639 : Int32))), (.int (Int32.ofNat es.length))]))
  refine own_isub X2.here hx (hb hby dAp_10) (pc' := 11) rfl ?_
  refine own_icmple X2.here hx (hb hby dAp_11) (by decide) (pc' := 24) (by decide) (pc2 := 14) rfl (fun q3 => ?_) (fun q => absurd q (own_big (by omega) (by omega)))
  refine own_aload_n X2.here hx (hb hby dAp_24) rfl rfl (pc' := 25) rfl ?_
  obtain ⟨T4, X4, e4, st4⟩ := getF X2 hx hZ hown (host := "") (Or.inl (hw _ (List.mem_of_getElem? (i := 57) rfl))) Via.refl e2 HT.2.2 (g := (mkF m 25 #[.val (.ref t), .val (.ref x), .unset, .unset] [(.ref t)])) rfl rfl (hb hby dAp_25)
  refine own_on st4 ?_
  show own_Go p e below F (T4.setTop (mkF m 28 #[.val (.ref t), .val (.ref x), .unset, .unset] [(.int (Int32.ofNat L0))]))
  refine own_aload_n X4.here hx (hb hby dAp_28) rfl rfl (pc' := 29) rfl ?_
  obtain ⟨cq5, kq5, qa5, qb5, qc5⟩ := isOf hZ e4 S.exa
  obtain ⟨_, _, ⟨T5, L5, k5, n5⟩, -, X5, ⟨Lc5, hQ5, l5, y5, z5⟩, st5⟩ := X4.virtualBack hx (y := (⟨"java/lang/String", "length", "()I"⟩ : MethodName)) (z := (⟨"java/lang/String", "length", "()I"⟩ : MethodName)) hown (mvT hZ (hw _ (List.mem_of_getElem? (i := 45) rfl))) (mvT hZ (hw _ (List.mem_of_getElem? (i := 46) rfl))) (notFace_of_selects (args := #[]) (mvT hZ (hw _ (List.mem_of_getElem? (i := 48) rfl)))) (mvT hZ (hw _ (List.mem_of_getElem? (i := 48) rfl))) (mvT hZ (hw _ (List.mem_of_getElem? (i := 47) rfl))) (by decide) (own_lenS (s := s) (W := 1) hZ hw S (O1.ext EZ) P5 (by decide) (by decide)) qa5 qc5 (g := (mkF m 29 #[.val (.ref t), .val (.ref x), .unset, .unset] [(.ref x), (.int (Int32.ofNat L0))])) rfl (by rw [hml]; rfl) (Steps.refl _) (argsL := []) (rest := [(.int (Int32.ofNat L0))]) (lenOf pdx10 rfl) rfl (by show 2 * 0 + _ ≤ _; exact Nat.le_of_eq rfl) (hb hby dAp_29) (fun _ _ => ⟨rfl, e4, (Nat.le_of_ble_eq_true rfl), (Nat.le_of_ble_eq_true rfl)⟩)
  dsimp only [Pt.U, Pt.locs, Pt.cells, Pt.slots] at X5 l5 y5 z5 st5 hQ5
  rw [l5, y5, z5] at X5
  obtain ⟨rfl, rfl, E5⟩ := hQ5
  refine own_to st5 ?_
  show own_Go p e below F (T5.setTop (mkF m 32 #[.val (.ref t), .val (.ref x), .unset, .unset] [(.int (Int32.ofNat es.length)), (.int (Int32.ofNat L0))]))
  refine own_iadd X5.here hx (hb hby dAp_32) (pc' := 33) rfl ?_
  rw [own_ofadd]
  show own_Go p e below F (T5.setTop (mkF m 33 #[.val (.ref t), .val (.ref x), .unset, .unset] [(.int (Int32.ofNat (L0 + es.length)))]))
  refine own_istore_n X5.here hx (hb hby dAp_33) (L' := #[.val (.ref t), .val (.ref x), .val (.int (Int32.ofNat (L0 + es.length))), .unset]) rfl (pc' := 34) rfl ?_
  refine own_iload_n X5.here hx (hb hby dAp_34) rfl (pc' := 35) rfl ?_
  refine own_aload_n X5.here hx (hb hby dAp_35) rfl rfl (pc' := 36) rfl ?_
  obtain ⟨T6, X6, e6, st6⟩ := getF X5 hx hZ hown (host := "") (Or.inl (hw _ (List.mem_of_getElem? (i := 38) rfl))) Via.refl E5 HT.2.1 (g := (mkF m 36 #[.val (.ref t), .val (.ref x), .val (.int (Int32.ofNat (L0 + es.length))), .unset] [(.ref t), (.int (Int32.ofNat (L0 + es.length)))])) rfl rfl (hb hby dAp_36)
  refine own_on st6 ?_
  show own_Go p e below F (T6.setTop (mkF m 39 #[.val (.ref t), .val (.ref x), .val (.int (Int32.ofNat (L0 + es.length))), .unset] [(.ref ar), (.int (Int32.ofNat (L0 + es.length)))]))
  refine own_alen X6 hx hZ e6 A0 (hb hby dAp_39) (pc' := 40) rfl ?_
  refine own_icmple X6.here hx (hb hby dAp_40) (by decide) (pc' := 77) (by decide) (pc2 := 43) rfl (fun q7 => ?_) (fun q => absurd q (own_nltN hf (by omega)))
  refine own_aload_n X6.here hx (hb hby dAp_77) rfl rfl (pc' := 78) rfl ?_
  refine own_iconst X6.here hx (hb hby dAp_78) (v := 0) rfl (pc' := 79) rfl ?_
  refine own_aload_n X6.here hx (hb hby dAp_79) rfl rfl (pc' := 80) rfl ?_
  obtain ⟨cq8, kq8, qa8, qb8, qc8⟩ := isOf hZ e6 S.exa
  obtain ⟨_, _, ⟨T8, L8, k8, n8⟩, -, X8, ⟨Lc8, hQ8, l8, y8, z8⟩, st8⟩ := X6.virtualBack hx (y := (⟨"java/lang/String", "length", "()I"⟩ : MethodName)) (z := (⟨"java/lang/String", "length", "()I"⟩ : MethodName)) hown (mvT hZ (hw _ (List.mem_of_getElem? (i := 45) rfl))) (mvT hZ (hw _ (List.mem_of_getElem? (i := 46) rfl))) (notFace_of_selects (args := #[]) (mvT hZ (hw _ (List.mem_of_getElem? (i := 48) rfl)))) (mvT hZ (hw _ (List.mem_of_getElem? (i := 48) rfl))) (mvT hZ (hw _ (List.mem_of_getElem? (i := 47) rfl))) (by decide) (own_lenS (s := s) (W := 2) hZ hw S (O1.ext EZ) P5 (by decide) (by decide)) qa8 qc8 (g := (mkF m 80 #[.val (.ref t), .val (.ref x), .val (.int (Int32.ofNat (L0 + es.length))), .unset] [(.ref x), (.int ((0 : Int32))), (.ref x)])) rfl (by rw [hml]; rfl) (Steps.refl _) (argsL := []) (rest := [(.int ((0 : Int32))), (.ref x)]) (lenOf pdx10 rfl) rfl (by show 2 * 0 + _ ≤ _; exact Nat.le_of_eq rfl) (hb hby dAp_80) (fun _ _ => ⟨rfl, e6, (Nat.le_of_ble_eq_true rfl), (Nat.le_of_ble_eq_true rfl)⟩)
  dsimp only [Pt.U, Pt.locs, Pt.cells, Pt.slots] at X8 l8 y8 z8 st8 hQ8
  rw [l8, y8, z8] at X8
  obtain ⟨rfl, rfl, E8⟩ := hQ8
  refine own_to st8 ?_
  show own_Go p e below F (T8.setTop (mkF m 83 #[.val (.ref t), .val (.ref x), .val (.int (Int32.ofNat (L0 + es.length))), .unset] [(.int (Int32.ofNat es.length)), (.int ((0 : Int32))), (.ref x)]))
  refine own_aload_n X8.here hx (hb hby dAp_83) rfl rfl (pc' := 84) rfl ?_
  obtain ⟨T9, X9, e9, st9⟩ := getF X8 hx hZ hown (host := "") (Or.inl (hw _ (List.mem_of_getElem? (i := 38) rfl))) Via.refl E8 HT.2.1 (g := (mkF m 84 #[.val (.ref t), .val (.ref x), .val (.int (Int32.ofNat (L0 + es.length))), .unset] [(.ref t), (.int (Int32.ofNat es.length)), (.int ((0 : Int32))), (.ref x)])) rfl rfl (hb hby dAp_84)
  refine own_on st9 ?_
  show own_Go p e below F (T9.setTop (mkF m 87 #[.val (.ref t), .val (.ref x), .val (.int (Int32.ofNat (L0 + es.length))), .unset] [(.ref ar), (.int (Int32.ofNat es.length)), (.int ((0 : Int32))), (.ref x)]))
  refine own_aload_n X9.here hx (hb hby dAp_87) rfl rfl (pc' := 88) rfl ?_
  obtain ⟨T10, X10, e10, st10⟩ := getF X9 hx hZ hown (host := "") (Or.inl (hw _ (List.mem_of_getElem? (i := 57) rfl))) Via.refl e9 HT.2.2 (g := (mkF m 88 #[.val (.ref t), .val (.ref x), .val (.int (Int32.ofNat (L0 + es.length))), .unset] [(.ref t), (.ref ar), (.int (Int32.ofNat es.length)), (.int ((0 : Int32))), (.ref x)])) rfl rfl (hb hby dAp_88)
  refine own_on st10 ?_
  show own_Go p e below F (T10.setTop (mkF m 91 #[.val (.ref t), .val (.ref x), .val (.int (Int32.ofNat (L0 + es.length))), .unset] [(.int (Int32.ofNat L0)), (.ref ar), (.int (Int32.ofNat es.length)), (.int ((0 : Int32))), (.ref x)]))
  obtain ⟨cq11, kq11, qa11, qb11, qc11⟩ := isOf hZ e10 S.exa
  obtain ⟨_, _, ⟨T11, L11, k11, n11⟩, -, X11, ⟨Lc11, hQ11, l11, y11, z11⟩, st11⟩ := X10.virtualBack hx (y := (⟨"java/lang/String", "getChars", "(II[CI)V"⟩ : MethodName)) (z := (⟨"java/lang/String", "getChars", "(II[CI)V"⟩ : MethodName)) hown (mvT hZ (hw _ (List.mem_of_getElem? (i := 59) rfl))) (mvT hZ (hw _ (List.mem_of_getElem? (i := 60) rfl))) (notFace_of_selects (args := #[]) (mvT hZ (hw _ (List.mem_of_getElem? (i := 62) rfl)))) (mvT hZ (hw _ (List.mem_of_getElem? (i := 62) rfl))) (mvT hZ (hw _ (List.mem_of_getElem? (i := 61) rfl))) (by decide) (backOf (W := 0) (rmGs l Z a0 hw x es ar ka (cs.map Value.int) L0 cs.length h0 EZ z0 O1 P5 fm O2 rf O3 O4 O5 S A0 (by rw [List.length_map]) hf (by omega) ga) hZ (hw _ (List.mem_of_getElem? (i := 63) rfl)) (hw _ (List.mem_of_getElem? (i := 10) rfl)) (by decide) (by decide)) qa11 qc11 (g := (mkF m 91 #[.val (.ref t), .val (.ref x), .val (.int (Int32.ofNat (L0 + es.length))), .unset] [(.int (Int32.ofNat L0)), (.ref ar), (.int (Int32.ofNat es.length)), (.int ((0 : Int32))), (.ref x)])) rfl (by rw [hml]; rfl) (Steps.refl _) (argsL := [(.int ((0 : Int32))), (.int (Int32.ofNat es.length)), (.ref ar), (.int (Int32.ofNat L0))]) (rest := []) (lenOf pdx16 rfl) rfl (by show 2 * 0 + _ ≤ _; exact Nat.le_of_eq rfl) (hb hby dAp_91) (fun _ _ => ⟨rfl, e10, (Nat.le_of_ble_eq_true rfl), (Nat.le_of_ble_eq_true rfl)⟩)
  dsimp only [Pt.U, Pt.locs, Pt.cells, Pt.slots] at X11 l11 y11 z11 st11 hQ11
  rw [l11, y11, z11] at X11
  obtain ⟨rfl, N11, K11, V11⟩ := hQ11
  refine own_to st11 ?_
  show own_Go p e below F (T11.setTop (mkF m 94 #[.val (.ref t), .val (.ref x), .val (.int (Int32.ofNat (L0 + es.length))), .unset] []))
  have f12 := Q0.trans K11 (fun y hy => by simp only [List.mem_cons, List.not_mem_nil, or_false] at hy; rcases hy with rfl <;> first | exact Or.inr (by assumption) | exact Or.inl (by simp))
  have f13 := HT.1.keep K11
  have f14 := HT.2.1.keep K11 (by simp only [List.mem_cons, List.not_mem_nil, or_false, not_or]; exact hta)
  have f15 := HT.2.2.keep K11 (by simp only [List.mem_cons, List.not_mem_nil, or_false, not_or]; exact hta)
  have N17 := Fr.app N0 N11
  rw [own_layM] at V11
  refine own_aload_n X11.here hx (hb hby dAp_94) rfl rfl (pc' := 95) rfl ?_
  refine own_iload_n X11.here hx (hb hby dAp_95) rfl (pc' := 96) rfl ?_
  obtain ⟨T18, h18, X18, e18, W18, st18⟩ := putF X11 hx hZ hown (host := "") (Or.inl (hw _ (List.mem_of_getElem? (i := 57) rfl))) Via.refl rfl f15 f13 (Or.inl (hw _ (List.mem_of_getElem? (i := 58) rfl))) (hw _ (List.mem_of_getElem? (i := 30) rfl)) (ty := .int) (by decide) rfl rfl (g := (mkF m 96 #[.val (.ref t), .val (.ref x), .val (.int (Int32.ofNat (L0 + es.length))), .unset] [(.int (Int32.ofNat (L0 + es.length))), (.ref t)])) rfl rfl (hb hby dAp_96)
  have f19 := f13.wr W18
  have f20 := f14.other W18 (Or.inr (slot_ne (Or.inl (hw _ (List.mem_of_getElem? (i := 39) rfl))) (Or.inl (hw _ (List.mem_of_getElem? (i := 58) rfl))) (by decide) (t := .array .char) (by decide) (t' := .int) (by decide)))
  have f21 := f15.same W18
  have f22 := V11.other W18 (Ne.symm hta)
  have f23 := f12.wr W18 (Or.inl (by simp))
  have N24 := own_Fr_snoc (sl := Jvm.RoadKit.slotOf Z "com/example/kerb/kerb/call/AppendOnlyText" "length" "I") N17 gt
  refine own_on st18 ?_
  show own_Go p e below F (T18.setTop (mkF m 99 #[.val (.ref t), .val (.ref x), .val (.int (Int32.ofNat (L0 + es.length))), .unset] []))
  exact own_retV X18 hx hlk hret (hb hby dAp_99) (fun t ht hE => hF t _ _ _ _ (by rw [ht, (e18 : _ = h18)]; exact ⟨rfl, (by simpa using N24), f23, ⟨f19, f20, f21⟩, f22⟩) hE (by decide) (by decide))
def Q_rmA2 (Z : State) (t x ar : Addr) (ka : ClassId) (cs es : List Int32) (L0 : Nat) (d0 : Value) (h0 : Heap) (z0 : Int32) (fm : Value) (v : Option Value) (h : Heap) (L : List Loc) : Prop := v = none ∧ ∃ (br : Addr) (kb : ClassId) (M : Nat), M = max (L0 + es.length) (2 * cs.length) ∧ Fr Z.heap.size L ∧ Keep h0 h [t] ∧ h0.size ≤ br ∧ own_AT Z h t br (L0 + es.length) ∧ Arv Z h br kb .char (Int32.ofNat M) ((own_lay (cs ++ List.replicate (M - cs.length) 0) L0 es).map Value.int) (.int 0)
set_option maxRecDepth 65536 in
set_option maxHeartbeats 40000000 in
theorem rmA2 (l : Launch) (Z : State) (a0 : Array Value) (hw : ∀ d ∈ tables_1, d.before a0 Z = true) (t x ar : Addr) (ka : ClassId) (cs es : List Int32) (L0 : Nat) (d0 : Value) (h0 : Heap) (EZ : Ext Z.heap h0) (z0 : Int32) (O1 : Sta Z Z.heap "java/lang/String" "COMPACT_STRINGS" "Z" (.int z0)) (P5 : ¬ z0 = 0) (fm : Value) (O2 : Sta Z Z.heap "jdk/internal/util/Preconditions" "SIOOBE_FORMATTER" "Ljava/util/function/BiFunction;" fm) (rf : fm.isRef = true) (O3 : Sta Z Z.heap "java/lang/StringUTF16" "$assertionsDisabled" "Z" (.int 1)) (O4 : Sta Z Z.heap "java/lang/StringUTF16" "HI_BYTE_SHIFT" "I" (.int 0)) (O5 : Sta Z Z.heap "java/lang/StringUTF16" "LO_BYTE_SHIFT" "I" (.int 8)) (S : own_S Z h0 x es) (HT : own_AT Z h0 t ar L0) (A0 : Arv Z h0 ar ka .char (Int32.ofNat cs.length) (cs.map Value.int) d0) (gt : Z.heap.size ≤ t) (hL : L0 ≤ cs.length) (hc : cs.length ≤ 8) (hf : cs.length < L0 + es.length) (hf2 : L0 + es.length ≤ 16) :
    MetFree l (⟨"com/example/kerb/kerb/call/AppendOnlyText", "append", "(Ljava/lang/String;)V"⟩ : MethodName) (head1 (Jvm.Cond.code (⟨"com/example/kerb/kerb/call/AppendOnlyText", "append", "(Ljava/lang/String;)V"⟩ : MethodName) prog_23_method_2_code 4 (Option.none : Option FieldType) :: []) ({ frames := 5, cells := 1, slots := 16, locals := 76 } : Room)) (fun aa U => aa = #[(.ref t), (.ref x)] ∧ Z.Warmed39 U.vm ∧ U.heap = h0) (fun _ _ _ _ _ => True) (fun _ U o U' => ∃ v L, o = .returned v ∧ (Q_rmA2 Z t x ar ka cs es L0 d0 h0 z0 fm) v U'.heap L ∧ FrameEnd U o U' L ({ frames := 5, cells := 1, slots := 16, locals := 76 } : Room).cells ({ frames := 5, cells := 1, slots := 16, locals := 76 } : Room).slots) := by
  have hes := S.ok
  refine own_walkN (by exact pnAT) ?_
  intro p e s m below meth c T0 X0 hx hby hml hret hlk hnm hown hZ e0 es0 F hF
  refine own_on (fun _ => castTop (efAp m t x)) ?_
  have N0 := Fr.nil Z.heap.size
  have Q0 := Keep.refl h0 [t]
  have hta : t ≠ ar := Exa.neArv HT.1 A0 (hw _ (List.mem_of_getElem? (i := 30) rfl))
  refine own_aload_n X0.here hx (hb hby dAp_0) rfl rfl (pc' := 1) rfl ?_
  obtain ⟨cq1, kq1, qa1, qb1, qc1⟩ := isOf hZ e0 S.exa
  obtain ⟨_, _, ⟨T1, L1, k1, n1⟩, -, X1, ⟨Lc1, hQ1, l1, y1, z1⟩, st1⟩ := X0.virtualBack hx (y := (⟨"java/lang/String", "length", "()I"⟩ : MethodName)) (z := (⟨"java/lang/String", "length", "()I"⟩ : MethodName)) hown (mvT hZ (hw _ (List.mem_of_getElem? (i := 45) rfl))) (mvT hZ (hw _ (List.mem_of_getElem? (i := 46) rfl))) (notFace_of_selects (args := #[]) (mvT hZ (hw _ (List.mem_of_getElem? (i := 48) rfl)))) (mvT hZ (hw _ (List.mem_of_getElem? (i := 48) rfl))) (mvT hZ (hw _ (List.mem_of_getElem? (i := 47) rfl))) (by decide) (own_lenS (s := s) (W := 0) hZ hw S (O1.ext EZ) P5 (by decide) (by decide)) qa1 qc1 (g := (mkF m 1 #[.val (.ref t), .val (.ref x), .unset, .unset] [(.ref x)])) rfl (by rw [hml]; rfl) (Steps.refl _) (argsL := []) (rest := []) (lenOf pdx10 rfl) rfl (by show 2 * 0 + _ ≤ _; exact Nat.le_of_eq rfl) (hb hby dAp_1) (fun _ _ => ⟨rfl, e0, (Nat.le_of_ble_eq_true rfl), (Nat.le_of_ble_eq_true rfl)⟩)
  dsimp only [Pt.U, Pt.locs, Pt.cells, Pt.slots] at X1 l1 y1 z1 st1 hQ1
  rw [l1, y1, z1] at X1
  obtain ⟨rfl, rfl, E1⟩ := hQ1
  refine own_to st1 ?_
  show own_Go p e below F (T1.setTop (mkF m 4 #[.val (.ref t), .val (.ref x), .unset, .unset] [(.int (Int32.ofNat es.length))]))
  refine own_on (fun _ => X1.ldcI hx hown (mv hZ (hw _ (List.mem_of_getElem? (i := 56) rfl))) (g := (mkF m 4 #[.val (.ref t), .val (.ref x), .unset, .unset] [(.int (Int32.ofNat es.length))])) rfl (hb hby dAp_4)) ?_
  show own_Go p e below F (T1.setTop (mkF m 6 #[.val (.ref t), .val (.ref x), .unset, .unset] [(.int ((2147483639 : Int32))), (.int (Int32.ofNat es.length))]))
  refine own_aload_n X1.here hx (hb hby dAp_6) rfl rfl (pc' := 7) rfl ?_
  obtain ⟨T2, X2, e2, st2⟩ := getF X1 hx hZ hown (host := "") (Or.inl (hw _ (List.mem_of_getElem? (i := 57) rfl))) Via.refl E1 HT.2.2 (g := (mkF m 7 #[.val (.ref t), .val (.ref x), .unset, .unset] [(.ref t), (.int ((2147483639 : Int32))), (.int (Int32.ofNat es.length))])) rfl rfl (hb hby dAp_7)
  refine own_on st2 ?_
  show own_Go p e below F (T2.setTop (mkF m 10 #[.val (.ref t), .val (.ref x), .unset, .unset] [(.int (Int32.ofNat L0)), (.int ((2147483639 : Int32))), (.int (Int32.ofNat es.length))]))
  refine own_isub X2.here hx (hb hby dAp_10) (pc' := 11) rfl ?_
  refine own_icmple X2.here hx (hb hby dAp_11) (by decide) (pc' := 24) (by decide) (pc2 := 14) rfl (fun q3 => ?_) (fun q => absurd q (own_big (by omega) (by omega)))
  refine own_aload_n X2.here hx (hb hby dAp_24) rfl rfl (pc' := 25) rfl ?_
  obtain ⟨T4, X4, e4, st4⟩ := getF X2 hx hZ hown (host := "") (Or.inl (hw _ (List.mem_of_getElem? (i := 57) rfl))) Via.refl e2 HT.2.2 (g := (mkF m 25 #[.val (.ref t), .val (.ref x), .unset, .unset] [(.ref t)])) rfl rfl (hb hby dAp_25)
  refine own_on st4 ?_
  show own_Go p e below F (T4.setTop (mkF m 28 #[.val (.ref t), .val (.ref x), .unset, .unset] [(.int (Int32.ofNat L0))]))
  refine own_aload_n X4.here hx (hb hby dAp_28) rfl rfl (pc' := 29) rfl ?_
  obtain ⟨cq5, kq5, qa5, qb5, qc5⟩ := isOf hZ e4 S.exa
  obtain ⟨_, _, ⟨T5, L5, k5, n5⟩, -, X5, ⟨Lc5, hQ5, l5, y5, z5⟩, st5⟩ := X4.virtualBack hx (y := (⟨"java/lang/String", "length", "()I"⟩ : MethodName)) (z := (⟨"java/lang/String", "length", "()I"⟩ : MethodName)) hown (mvT hZ (hw _ (List.mem_of_getElem? (i := 45) rfl))) (mvT hZ (hw _ (List.mem_of_getElem? (i := 46) rfl))) (notFace_of_selects (args := #[]) (mvT hZ (hw _ (List.mem_of_getElem? (i := 48) rfl)))) (mvT hZ (hw _ (List.mem_of_getElem? (i := 48) rfl))) (mvT hZ (hw _ (List.mem_of_getElem? (i := 47) rfl))) (by decide) (own_lenS (s := s) (W := 1) hZ hw S (O1.ext EZ) P5 (by decide) (by decide)) qa5 qc5 (g := (mkF m 29 #[.val (.ref t), .val (.ref x), .unset, .unset] [(.ref x), (.int (Int32.ofNat L0))])) rfl (by rw [hml]; rfl) (Steps.refl _) (argsL := []) (rest := [(.int (Int32.ofNat L0))]) (lenOf pdx10 rfl) rfl (by show 2 * 0 + _ ≤ _; exact Nat.le_of_eq rfl) (hb hby dAp_29) (fun _ _ => ⟨rfl, e4, (Nat.le_of_ble_eq_true rfl), (Nat.le_of_ble_eq_true rfl)⟩)
  dsimp only [Pt.U, Pt.locs, Pt.cells, Pt.slots] at X5 l5 y5 z5 st5 hQ5
  rw [l5, y5, z5] at X5
  obtain ⟨rfl, rfl, E5⟩ := hQ5
  refine own_to st5 ?_
  show own_Go p e below F (T5.setTop (mkF m 32 #[.val (.ref t), .val (.ref x), .unset, .unset] [(.int (Int32.ofNat es.length)), (.int (Int32.ofNat L0))]))
  refine own_iadd X5.here hx (hb hby dAp_32) (pc' := 33) rfl ?_
  rw [own_ofadd]
  show own_Go p e below F (T5.setTop (mkF m 33 #[.val (.ref t), .val (.ref x), .unset, .unset] [(.int (Int32.ofNat (L0 + es.length)))]))
  refine own_istore_n X5.here hx (hb hby dAp_33) (L' := #[.val (.ref t), .val (.ref x), .val (.int (Int32.ofNat (L0 + es.length))), .unset]) rfl (pc' := 34) rfl ?_
  refine own_iload_n X5.here hx (hb hby dAp_34) rfl (pc' := 35) rfl ?_
  refine own_aload_n X5.here hx (hb hby dAp_35) rfl rfl (pc' := 36) rfl ?_
  obtain ⟨T6, X6, e6, st6⟩ := getF X5 hx hZ hown (host := "") (Or.inl (hw _ (List.mem_of_getElem? (i := 38) rfl))) Via.refl E5 HT.2.1 (g := (mkF m 36 #[.val (.ref t), .val (.ref x), .val (.int (Int32.ofNat (L0 + es.length))), .unset] [(.ref t), (.int (Int32.ofNat (L0 + es.length)))])) rfl rfl (hb hby dAp_36)
  refine own_on st6 ?_
  show own_Go p e below F (T6.setTop (mkF m 39 #[.val (.ref t), .val (.ref x), .val (.int (Int32.ofNat (L0 + es.length))), .unset] [(.ref ar), (.int (Int32.ofNat (L0 + es.length)))]))
  refine own_alen X6 hx hZ e6 A0 (hb hby dAp_39) (pc' := 40) rfl ?_
  refine own_icmple X6.here hx (hb hby dAp_40) (by decide) (pc' := 77) (by decide) (pc2 := 43) rfl (fun q => absurd (own_ltN hf (by omega)) q) (fun q7 => ?_)
  refine own_on (fun _ => X6.ldc2J hx hown (mv hZ (hw _ (List.mem_of_getElem? (i := 131) rfl))) (g := (mkF m 43 #[.val (.ref t), .val (.ref x), .val (.int (Int32.ofNat (L0 + es.length))), .unset] [])) rfl (hb hby dAp_43)) ?_
  show own_Go p e below F (T6.setTop (mkF m 46 #[.val (.ref t), .val (.ref x), .val (.int (Int32.ofNat (L0 + es.length))), .unset] [(.long ((2147483639 : Int64)))]))
  refine own_on (fun _ => X6.ldc2J hx hown (mv hZ (hw _ (List.mem_of_getElem? (i := 132) rfl))) (g := (mkF m 46 #[.val (.ref t), .val (.ref x), .val (.int (Int32.ofNat (L0 + es.length))), .unset] [(.long ((2147483639 : Int64)))])) rfl (hb hby dAp_46)) ?_
  show own_Go p e below F (T6.setTop (mkF m 49 #[.val (.ref t), .val (.ref x), .val (.int (Int32.ofNat (L0 + es.length))), .unset] [(.long ((2 : Int64))), (.long ((2147483639 : Int64)))]))
  refine own_aload_n X6.here hx (hb hby dAp_49) rfl rfl (pc' := 50) rfl ?_
  obtain ⟨T8, X8, e8, st8⟩ := getF X6 hx hZ hown (host := "") (Or.inl (hw _ (List.mem_of_getElem? (i := 38) rfl))) Via.refl e6 HT.2.1 (g := (mkF m 50 #[.val (.ref t), .val (.ref x), .val (.int (Int32.ofNat (L0 + es.length))), .unset] [(.ref t), (.long ((2 : Int64))), (.long ((2147483639 : Int64)))])) rfl rfl (hb hby dAp_50)
  refine own_on st8 ?_
  show own_Go p e below F (T8.setTop (mkF m 53 #[.val (.ref t), .val (.ref x), .val (.int (Int32.ofNat (L0 + es.length))), .unset] [(.ref ar), (.long ((2 : Int64))), (.long ((2147483639 : Int64)))]))
  refine own_alen X8 hx hZ e8 A0 (hb hby dAp_53) (pc' := 54) rfl ?_
  refine own_i2l X8.here hx (hb hby dAp_54) (pc' := 55) rfl ?_
  refine own_lmul X8.here hx (hb hby dAp_55) (pc' := 56) rfl ?_
  obtain ⟨_, _, ⟨T9, L9, k9, n9⟩, -, X9, ⟨Lc9, hQ9, l9, y9, z9⟩, st9⟩ := Jvm.LawKit.callS X8 hx (y := (⟨"java/lang/Math", "min", "(JJ)J"⟩ : MethodName)) hown (mvT hZ (hw _ (List.mem_of_getElem? (i := 133) rfl))) (mvT hZ (hw _ (List.mem_of_getElem? (i := 134) rfl))) (mvT hZ (hw _ (List.mem_of_getElem? (i := 135) rfl))) (mvT hZ (hw _ (List.mem_of_getElem? (i := 136) rfl))) (by decide) (backOf (W := 0) (rmMJ l Z a0 hw 2147483639 ((2 : Int64) * (Int32.ofNat cs.length).toInt64) h0 (own_two (by omega)).2) hZ (hw _ (List.mem_of_getElem? (i := 136) rfl)) (hw _ (List.mem_of_getElem? (i := 135) rfl)) (by decide) (by decide)) (g := (mkF m 56 #[.val (.ref t), .val (.ref x), .val (.int (Int32.ofNat (L0 + es.length))), .unset] [(.long ((2 : Int64) * ((Int32.ofNat cs.length).toInt64))), (.long ((2147483639 : Int64)))])) rfl (by rw [hml]; rfl) (argsL := [(.long ((2147483639 : Int64))), (.long ((2 : Int64) * ((Int32.ofNat cs.length).toInt64)))]) (rest := []) (lenOf pdx21 rfl) rfl (by show 2 * 0 + _ ≤ _; exact Nat.le_of_eq rfl) (hb hby dAp_56) (fun _ _ => ⟨rfl, e8, (Nat.le_of_ble_eq_true rfl), (Nat.le_of_ble_eq_true rfl)⟩)
  dsimp only [Pt.U, Pt.locs, Pt.cells, Pt.slots] at X9 l9 y9 z9 st9 hQ9
  rw [l9, y9, z9] at X9
  obtain ⟨rfl, N9, E9⟩ := hQ9
  refine own_on (st9) ?_
  show own_Go p e below F (T9.setTop (mkF m 59 #[.val (.ref t), .val (.ref x), .val (.int (Int32.ofNat (L0 + es.length))), .unset] [(.long ((2 : Int64) * (Int32.ofNat cs.length).toInt64))]))
  have N10 := Fr.app N0 N9
  refine own_l2i X9.here hx (hb hby dAp_59) (pc' := 60) rfl ?_
  rw [(own_two (N := cs.length) (by omega)).1]
  show own_Go p e below F (T9.setTop (mkF m 60 #[.val (.ref t), .val (.ref x), .val (.int (Int32.ofNat (L0 + es.length))), .unset] [(.int (Int32.ofNat (2 * cs.length)))]))
  refine own_istore_n X9.here hx (hb hby dAp_60) (L' := #[.val (.ref t), .val (.ref x), .val (.int (Int32.ofNat (L0 + es.length))), .val (.int (Int32.ofNat (2 * cs.length)))]) rfl (pc' := 61) rfl ?_
  refine own_aload_n X9.here hx (hb hby dAp_61) rfl rfl (pc' := 62) rfl ?_
  refine own_aload_n X9.here hx (hb hby dAp_62) rfl rfl (pc' := 63) rfl ?_
  obtain ⟨T11, X11, e11, st11⟩ := getF X9 hx hZ hown (host := "") (Or.inl (hw _ (List.mem_of_getElem? (i := 38) rfl))) Via.refl E9 HT.2.1 (g := (mkF m 63 #[.val (.ref t), .val (.ref x), .val (.int (Int32.ofNat (L0 + es.length))), .val (.int (Int32.ofNat (2 * cs.length)))] [(.ref t), (.ref t)])) rfl rfl (hb hby dAp_63)
  refine own_on st11 ?_
  show own_Go p e below F (T11.setTop (mkF m 66 #[.val (.ref t), .val (.ref x), .val (.int (Int32.ofNat (L0 + es.length))), .val (.int (Int32.ofNat (2 * cs.length)))] [(.ref ar), (.ref t)]))
  refine own_iload_n X11.here hx (hb hby dAp_66) rfl (pc' := 67) rfl ?_
  refine own_iload_n X11.here hx (hb hby dAp_67) rfl (pc' := 68) rfl ?_
  obtain ⟨_, _, ⟨T12, L12, k12, n12⟩, -, X12, ⟨Lc12, hQ12, l12, y12, z12⟩, st12⟩ := Jvm.LawKit.callS X11 hx (y := (⟨"java/lang/Math", "max", "(II)I"⟩ : MethodName)) hown (mvT hZ (hw _ (List.mem_of_getElem? (i := 137) rfl))) (mvT hZ (hw _ (List.mem_of_getElem? (i := 138) rfl))) (mvT hZ (hw _ (List.mem_of_getElem? (i := 135) rfl))) (mvT hZ (hw _ (List.mem_of_getElem? (i := 139) rfl))) (by decide) (backOf (W := 2) (rmMx l Z a0 hw (L0 + es.length) (2 * cs.length) h0 (by omega) (by omega)) hZ (hw _ (List.mem_of_getElem? (i := 139) rfl)) (hw _ (List.mem_of_getElem? (i := 135) rfl)) (by decide) (by decide)) (g := (mkF m 68 #[.val (.ref t), .val (.ref x), .val (.int (Int32.ofNat (L0 + es.length))), .val (.int (Int32.ofNat (2 * cs.length)))] [(.int (Int32.ofNat (2 * cs.length))), (.int (Int32.ofNat (L0 + es.length))), (.ref ar), (.ref t)])) rfl (by rw [hml]; rfl) (argsL := [(.int (Int32.ofNat (L0 + es.length))), (.int (Int32.ofNat (2 * cs.length)))]) (rest := [(.ref ar), (.ref t)]) (lenOf pdx22 rfl) rfl (by show 2 * 0 + _ ≤ _; exact Nat.le_of_eq rfl) (hb hby dAp_68) (fun _ _ => ⟨rfl, e11, (Nat.le_of_ble_eq_true rfl), (Nat.le_of_ble_eq_true rfl)⟩)
  dsimp only [Pt.U, Pt.locs, Pt.cells, Pt.slots] at X12 l12 y12 z12 st12 hQ12
  rw [l12, y12, z12] at X12
  obtain ⟨rfl, N12, E12⟩ := hQ12
  refine own_on (st12) ?_
  show own_Go p e below F (T12.setTop (mkF m 71 #[.val (.ref t), .val (.ref x), .val (.int (Int32.ofNat (L0 + es.length))), .val (.int (Int32.ofNat (2 * cs.length)))] [(.int (Int32.ofNat (max (L0 + es.length) (2 * cs.length)))), (.ref ar), (.ref t)]))
  have N13 := Fr.app N10 N12
  obtain ⟨M, hM⟩ : ∃ M, M = max (L0 + es.length) (2 * cs.length) := ⟨_, rfl⟩
  rw [← hM]
  show own_Go p e below F (T12.setTop (mkF m 71 #[.val (.ref t), .val (.ref x), .val (.int (Int32.ofNat (L0 + es.length))), .val (.int (Int32.ofNat (2 * cs.length)))] [(.int (Int32.ofNat M)), (.ref ar), (.ref t)]))
  have M0 := own_ext_refl h0
  obtain ⟨_, _, ⟨T14, L14, k14, n14⟩, -, X14, ⟨Lc14, hQ14, l14, y14, z14⟩, st14⟩ := Jvm.LawKit.callS X12 hx (y := (⟨"java/util/Arrays", "copyOf", "([CI)[C"⟩ : MethodName)) hown (mvT hZ (hw _ (List.mem_of_getElem? (i := 140) rfl))) (mvT hZ (hw _ (List.mem_of_getElem? (i := 141) rfl))) (mvT hZ (hw _ (List.mem_of_getElem? (i := 142) rfl))) (mvT hZ (hw _ (List.mem_of_getElem? (i := 143) rfl))) (by decide) (backOf (W := 1) (rmCO l Z a0 hw ar ka cs M d0 h0 EZ A0 (by omega) (by omega)) hZ (hw _ (List.mem_of_getElem? (i := 143) rfl)) (hw _ (List.mem_of_getElem? (i := 142) rfl)) (by decide) (by decide)) (g := (mkF m 71 #[.val (.ref t), .val (.ref x), .val (.int (Int32.ofNat (L0 + es.length))), .val (.int (Int32.ofNat (2 * cs.length)))] [(.int (Int32.ofNat M)), (.ref ar), (.ref t)])) rfl (by rw [hml]; rfl) (argsL := [(.ref ar), (.int (Int32.ofNat M))]) (rest := [(.ref t)]) (lenOf pdx23 rfl) rfl (by show 2 * 0 + _ ≤ _; exact Nat.le_of_eq rfl) (hb hby dAp_71) (fun _ _ => ⟨rfl, E12, (Nat.le_of_ble_eq_true rfl), (Nat.le_of_ble_eq_true rfl)⟩)
  dsimp only [Pt.U, Pt.locs, Pt.cells, Pt.slots] at X14 l14 y14 z14 st14 hQ14
  rw [l14, y14, z14] at X14
  obtain ⟨u14, k14u, rfl, E14, N14, g14, V14⟩ := hQ14
  refine own_on (st14) ?_
  show own_Go p e below F (T14.setTop (mkF m 74 #[.val (.ref t), .val (.ref x), .val (.int (Int32.ofNat (L0 + es.length))), .val (.int (Int32.ofNat (2 * cs.length)))] [(.ref u14), (.ref t)]))
  have f15 := Q0.ext E14
  have f16 := HT.1.ext E14
  have f17 := HT.2.1.ext E14
  have f18 := HT.2.2.ext E14
  have f19 := A0.ext E14
  have f20 := own_ext_trans M0 E14
  have N21 := Fr.app N13 N14
  have htb : t ≠ u14 := Nat.ne_of_lt (Nat.lt_of_lt_of_le HT.1.lt g14)
  have hlm : (cs ++ List.replicate (M - cs.length) (0 : Int32)).length = M := by simp; omega
  have gb : Z.heap.size ≤ u14 := Nat.le_trans EZ.1 g14
  have gh : h0.size ≤ u14 := g14
  have EX1 : Ext h0 T14.heap := f20
  obtain ⟨T22, h22, X22, e22, W22, st22⟩ := putF X14 hx hZ hown (host := "") (Or.inl (hw _ (List.mem_of_getElem? (i := 38) rfl))) Via.refl rfl f17 f16 (Or.inl (hw _ (List.mem_of_getElem? (i := 39) rfl))) (hw _ (List.mem_of_getElem? (i := 30) rfl)) (ty := .array .char) (by decide) rfl rfl (g := (mkF m 74 #[.val (.ref t), .val (.ref x), .val (.int (Int32.ofNat (L0 + es.length))), .val (.int (Int32.ofNat (2 * cs.length)))] [(.ref u14), (.ref t)])) rfl rfl (hb hby dAp_74)
  have f23 := f16.wr W22
  have f24 := f17.same W22
  have f25 := f18.other W22 (Or.inr (slot_ne (Or.inl (hw _ (List.mem_of_getElem? (i := 58) rfl))) (Or.inl (hw _ (List.mem_of_getElem? (i := 39) rfl))) (by decide) (t := .int) (by decide) (t' := .array .char) (by decide)))
  have f26 := V14.other W22 (Ne.symm htb)
  have f27 := f15.wr W22 (Or.inl (by simp))
  have N28 := own_Fr_snoc (sl := Jvm.RoadKit.slotOf Z "com/example/kerb/kerb/call/AppendOnlyText" "chars" "[C") N21 gt
  refine own_on st22 ?_
  show own_Go p e below F (T22.setTop (mkF m 77 #[.val (.ref t), .val (.ref x), .val (.int (Int32.ofNat (L0 + es.length))), .val (.int (Int32.ofNat (2 * cs.length)))] []))
  have EZ2 : Ext Z.heap h22 := own_ext_keep EZ f27 (fun y hy => by simp only [List.mem_cons, List.not_mem_nil, or_false] at hy; subst hy; exact gt)
  have S2 := own_SkT S HT.1 f27 (by decide) (hw _ (List.mem_of_getElem? (i := 30) rfl))
  refine own_aload_n X22.here hx (hb hby dAp_77) rfl rfl (pc' := 78) rfl ?_
  refine own_iconst X22.here hx (hb hby dAp_78) (v := 0) rfl (pc' := 79) rfl ?_
  refine own_aload_n X22.here hx (hb hby dAp_79) rfl rfl (pc' := 80) rfl ?_
  obtain ⟨cq29, kq29, qa29, qb29, qc29⟩ := isOf hZ e22 S2.exa
  obtain ⟨_, _, ⟨T29, L29, k29, n29⟩, -, X29, ⟨Lc29, hQ29, l29, y29, z29⟩, st29⟩ := X22.virtualBack hx (y := (⟨"java/lang/String", "length", "()I"⟩ : MethodName)) (z := (⟨"java/lang/String", "length", "()I"⟩ : MethodName)) hown (mvT hZ (hw _ (List.mem_of_getElem? (i := 45) rfl))) (mvT hZ (hw _ (List.mem_of_getElem? (i := 46) rfl))) (notFace_of_selects (args := #[]) (mvT hZ (hw _ (List.mem_of_getElem? (i := 48) rfl)))) (mvT hZ (hw _ (List.mem_of_getElem? (i := 48) rfl))) (mvT hZ (hw _ (List.mem_of_getElem? (i := 47) rfl))) (by decide) (own_lenS (s := s) (W := 2) hZ hw S2 (O1.ext EZ2) P5 (by decide) (by decide)) qa29 qc29 (g := (mkF m 80 #[.val (.ref t), .val (.ref x), .val (.int (Int32.ofNat (L0 + es.length))), .val (.int (Int32.ofNat (2 * cs.length)))] [(.ref x), (.int ((0 : Int32))), (.ref x)])) rfl (by rw [hml]; rfl) (Steps.refl _) (argsL := []) (rest := [(.int ((0 : Int32))), (.ref x)]) (lenOf pdx10 rfl) rfl (by show 2 * 0 + _ ≤ _; exact Nat.le_of_eq rfl) (hb hby dAp_80) (fun _ _ => ⟨rfl, e22, (Nat.le_of_ble_eq_true rfl), (Nat.le_of_ble_eq_true rfl)⟩)
  dsimp only [Pt.U, Pt.locs, Pt.cells, Pt.slots] at X29 l29 y29 z29 st29 hQ29
  rw [l29, y29, z29] at X29
  obtain ⟨rfl, rfl, E29⟩ := hQ29
  refine own_to st29 ?_
  show own_Go p e below F (T29.setTop (mkF m 83 #[.val (.ref t), .val (.ref x), .val (.int (Int32.ofNat (L0 + es.length))), .val (.int (Int32.ofNat (2 * cs.length)))] [(.int (Int32.ofNat es.length)), (.int ((0 : Int32))), (.ref x)]))
  refine own_aload_n X29.here hx (hb hby dAp_83) rfl rfl (pc' := 84) rfl ?_
  obtain ⟨T30, X30, e30, st30⟩ := getF X29 hx hZ hown (host := "") (Or.inl (hw _ (List.mem_of_getElem? (i := 38) rfl))) Via.refl E29 f24 (g := (mkF m 84 #[.val (.ref t), .val (.ref x), .val (.int (Int32.ofNat (L0 + es.length))), .val (.int (Int32.ofNat (2 * cs.length)))] [(.ref t), (.int (Int32.ofNat es.length)), (.int ((0 : Int32))), (.ref x)])) rfl rfl (hb hby dAp_84)
  refine own_on st30 ?_
  show own_Go p e below F (T30.setTop (mkF m 87 #[.val (.ref t), .val (.ref x), .val (.int (Int32.ofNat (L0 + es.length))), .val (.int (Int32.ofNat (2 * cs.length)))] [(.ref u14), (.int (Int32.ofNat es.length)), (.int ((0 : Int32))), (.ref x)]))
  refine own_aload_n X30.here hx (hb hby dAp_87) rfl rfl (pc' := 88) rfl ?_
  obtain ⟨T31, X31, e31, st31⟩ := getF X30 hx hZ hown (host := "") (Or.inl (hw _ (List.mem_of_getElem? (i := 57) rfl))) Via.refl e30 f25 (g := (mkF m 88 #[.val (.ref t), .val (.ref x), .val (.int (Int32.ofNat (L0 + es.length))), .val (.int (Int32.ofNat (2 * cs.length)))] [(.ref t), (.ref u14), (.int (Int32.ofNat es.length)), (.int ((0 : Int32))), (.ref x)])) rfl rfl (hb hby dAp_88)
  refine own_on st31 ?_
  show own_Go p e below F (T31.setTop (mkF m 91 #[.val (.ref t), .val (.ref x), .val (.int (Int32.ofNat (L0 + es.length))), .val (.int (Int32.ofNat (2 * cs.length)))] [(.int (Int32.ofNat L0)), (.ref u14), (.int (Int32.ofNat es.length)), (.int ((0 : Int32))), (.ref x)]))
  obtain ⟨cq32, kq32, qa32, qb32, qc32⟩ := isOf hZ e31 S2.exa
  obtain ⟨_, _, ⟨T32, L32, k32, n32⟩, -, X32, ⟨Lc32, hQ32, l32, y32, z32⟩, st32⟩ := X31.virtualBack hx (y := (⟨"java/lang/String", "getChars", "(II[CI)V"⟩ : MethodName)) (z := (⟨"java/lang/String", "getChars", "(II[CI)V"⟩ : MethodName)) hown (mvT hZ (hw _ (List.mem_of_getElem? (i := 59) rfl))) (mvT hZ (hw _ (List.mem_of_getElem? (i := 60) rfl))) (notFace_of_selects (args := #[]) (mvT hZ (hw _ (List.mem_of_getElem? (i := 62) rfl)))) (mvT hZ (hw _ (List.mem_of_getElem? (i := 62) rfl))) (mvT hZ (hw _ (List.mem_of_getElem? (i := 61) rfl))) (by decide) (backOf (W := 0) (rmGs l Z a0 hw x es u14 k14u ((cs ++ List.replicate (M - cs.length) (0 : Int32)).map Value.int) L0 M h22 EZ2 z0 O1 P5 fm O2 rf O3 O4 O5 S2 f26 (by rw [List.length_map, hlm]) (by omega) (by omega) (fun _ => gb)) hZ (hw _ (List.mem_of_getElem? (i := 63) rfl)) (hw _ (List.mem_of_getElem? (i := 10) rfl)) (by decide) (by decide)) qa32 qc32 (g := (mkF m 91 #[.val (.ref t), .val (.ref x), .val (.int (Int32.ofNat (L0 + es.length))), .val (.int (Int32.ofNat (2 * cs.length)))] [(.int (Int32.ofNat L0)), (.ref u14), (.int (Int32.ofNat es.length)), (.int ((0 : Int32))), (.ref x)])) rfl (by rw [hml]; rfl) (Steps.refl _) (argsL := [(.int ((0 : Int32))), (.int (Int32.ofNat es.length)), (.ref u14), (.int (Int32.ofNat L0))]) (rest := []) (lenOf pdx16 rfl) rfl (by show 2 * 0 + _ ≤ _; exact Nat.le_of_eq rfl) (hb hby dAp_91) (fun _ _ => ⟨rfl, e31, (Nat.le_of_ble_eq_true rfl), (Nat.le_of_ble_eq_true rfl)⟩)
  dsimp only [Pt.U, Pt.locs, Pt.cells, Pt.slots] at X32 l32 y32 z32 st32 hQ32
  rw [l32, y32, z32] at X32
  obtain ⟨rfl, N32, K32, V32⟩ := hQ32
  refine own_to st32 ?_
  show own_Go p e below F (T32.setTop (mkF m 94 #[.val (.ref t), .val (.ref x), .val (.int (Int32.ofNat (L0 + es.length))), .val (.int (Int32.ofNat (2 * cs.length)))] []))
  have f33 := f23.keep K32
  have f34 := f24.keep K32 (by simp only [List.mem_cons, List.not_mem_nil, or_false, not_or]; exact htb)
  have f35 := f25.keep K32 (by simp only [List.mem_cons, List.not_mem_nil, or_false, not_or]; exact htb)
  have f37 := f27.trans K32 (fun y hy => by simp only [List.mem_cons, List.not_mem_nil, or_false] at hy; rcases hy with rfl <;> first | exact Or.inr (by assumption) | exact Or.inl (by simp))
  have N38 := Fr.app N28 N32
  rw [own_layM] at V32
  refine own_aload_n X32.here hx (hb hby dAp_94) rfl rfl (pc' := 95) rfl ?_
  refine own_iload_n X32.here hx (hb hby dAp_95) rfl (pc' := 96) rfl ?_
  obtain ⟨T39, h39, X39, e39, W39, st39⟩ := putF X32 hx hZ hown (host := "") (Or.inl (hw _ (List.mem_of_getElem? (i := 57) rfl))) Via.refl rfl f35 f33 (Or.inl (hw _ (List.mem_of_getElem? (i := 58) rfl))) (hw _ (List.mem_of_getElem? (i := 30) rfl)) (ty := .int) (by decide) rfl rfl (g := (mkF m 96 #[.val (.ref t), .val (.ref x), .val (.int (Int32.ofNat (L0 + es.length))), .val (.int (Int32.ofNat (2 * cs.length)))] [(.int (Int32.ofNat (L0 + es.length))), (.ref t)])) rfl rfl (hb hby dAp_96)
  have f40 := f33.wr W39
  have f41 := f34.other W39 (Or.inr (slot_ne (Or.inl (hw _ (List.mem_of_getElem? (i := 39) rfl))) (Or.inl (hw _ (List.mem_of_getElem? (i := 58) rfl))) (by decide) (t := .array .char) (by decide) (t' := .int) (by decide)))
  have f42 := f35.same W39
  have f43 := V32.other W39 (Ne.symm htb)
  have f44 := f37.wr W39 (Or.inl (by simp))
  have N45 := own_Fr_snoc (sl := Jvm.RoadKit.slotOf Z "com/example/kerb/kerb/call/AppendOnlyText" "length" "I") N38 gt
  refine own_on st39 ?_
  show own_Go p e below F (T39.setTop (mkF m 99 #[.val (.ref t), .val (.ref x), .val (.int (Int32.ofNat (L0 + es.length))), .val (.int (Int32.ofNat (2 * cs.length)))] []))
  exact own_retV X39 hx hlk hret (hb hby dAp_99) (fun t ht hE => hF t _ _ _ _ (by rw [ht, (e39 : _ = h39)]; exact ⟨rfl, u14, k14u, M, hM, (by simpa using N45), f44, gh, ⟨f40, f41, f42⟩, f43⟩) hE (by decide) (by decide))
/-- sn is a Snapshot of n chars of the array ar -/
def own_Sn (Z : State) (h : Heap) (sn ar : Addr) (n : Nat) : Prop := Exa Z h sn "com/example/kerb/kerb/call/AppendOnlyText$Snapshot" ∧ Fld Z h sn "com/example/kerb/kerb/call/AppendOnlyText$Snapshot" "chars" "[C" (.ref ar) ∧ Fld Z h sn "com/example/kerb/kerb/call/AppendOnlyText$Snapshot" "length" "I" (.int (Int32.ofNat n))
theorem dSI_0 : decode prog_24_method_1_code 0 = .ok (.aload_n 0, 1) := by decide +kernel
theorem dSI_1 : decode prog_24_method_1_code 1 = .ok (.invokespecial 1, 3) := by decide +kernel
theorem dSI_4 : decode prog_24_method_1_code 4 = .ok (.aload_n 0, 1) := by decide +kernel
theorem dSI_5 : decode prog_24_method_1_code 5 = .ok (.aload_n 1, 1) := by decide +kernel
theorem dSI_6 : decode prog_24_method_1_code 6 = .ok (.putfield 7, 3) := by decide +kernel
theorem dSI_9 : decode prog_24_method_1_code 9 = .ok (.aload_n 0, 1) := by decide +kernel
theorem dSI_10 : decode prog_24_method_1_code 10 = .ok (.iload_n 2, 1) := by decide +kernel
theorem dSI_11 : decode prog_24_method_1_code 11 = .ok (.putfield 13, 3) := by decide +kernel
theorem dSI_14 : decode prog_24_method_1_code 14 = .ok (.return_, 1) := by decide +kernel
theorem efSI (m : MethodId) (x0 : Addr) (x1 : Addr) (x2 : Int32) : entryFrame m #[(.ref x0), (.ref x1), (.int x2)] 3 = mkF m 0 #[.val (.ref x0), .val (.ref x1), .val (.int x2)] [] := by first | (simp [entryFrame, mkF, argsToLocals, Value.category]; done) | rfl
def Q_rmSI (Z : State) (sn ar : Addr) (n : Nat) (h0 : Heap) (v : Option Value) (h : Heap) (L : List Loc) : Prop := v = none ∧ Fr Z.heap.size L ∧ Keep h0 h [sn] ∧ own_Sn Z h sn ar n
set_option maxRecDepth 65536 in
set_option maxHeartbeats 40000000 in
theorem rmSI (l : Launch) (Z : State) (a0 : Array Value) (hw : ∀ d ∈ tables_1, d.before a0 Z = true) (sn ar : Addr) (n : Nat) (h0 : Heap) (gs : Z.heap.size ≤ sn) (A0 : Exa Z h0 sn "com/example/kerb/kerb/call/AppendOnlyText$Snapshot") (F0 : Fld Z h0 sn "com/example/kerb/kerb/call/AppendOnlyText$Snapshot" "chars" "[C" .null) (F1 : Fld Z h0 sn "com/example/kerb/kerb/call/AppendOnlyText$Snapshot" "length" "I" (.int (0 : Int32))) :
    MetFree l (⟨"com/example/kerb/kerb/call/AppendOnlyText$Snapshot", "<init>", "([CI)V"⟩ : MethodName) (head1 (Jvm.Cond.code (⟨"com/example/kerb/kerb/call/AppendOnlyText$Snapshot", "<init>", "([CI)V"⟩ : MethodName) prog_24_method_1_code 3 (Option.none : Option FieldType) :: []) ({ frames := 1, cells := 0, slots := 0, locals := 12 } : Room)) (fun aa U => aa = #[(.ref sn), (.ref ar), (.int (Int32.ofNat n))] ∧ Z.Warmed39 U.vm ∧ U.heap = h0) (fun _ _ _ _ _ => True) (fun _ U o U' => ∃ v L, o = .returned v ∧ (Q_rmSI Z sn ar n h0) v U'.heap L ∧ FrameEnd U o U' L ({ frames := 1, cells := 0, slots := 0, locals := 12 } : Room).cells ({ frames := 1, cells := 0, slots := 0, locals := 12 } : Room).slots) := by
  refine own_walkN (by exact pnSN) ?_
  intro p e s m below meth c T0 X0 hx hby hml hret hlk hnm hown hZ e0 es0 F hF
  refine own_on (fun _ => castTop (efSI m sn ar _)) ?_
  have N0 := Fr.nil Z.heap.size
  have Q0 := Keep.refl h0 [sn]
  refine own_aload_n X0.here hx (hb hby dSI_0) rfl rfl (pc' := 1) rfl ?_
  obtain ⟨T1, X1, e1, st1⟩ := initO X0 hx hZ hown (hw _ (List.mem_of_getElem? (i := 157) rfl)) (hw _ (List.mem_of_getElem? (i := 19) rfl)) (hw _ (List.mem_of_getElem? (i := 20) rfl)) e0 (g := (mkF m 1 #[.val (.ref sn), .val (.ref ar), .val (.int (Int32.ofNat n))] [(.ref sn)])) rfl (by rw [hml]; rfl) rfl (hb hby dSI_1) (by decide) (W := 0) (by show 2 * 0 + _ ≤ _; exact Nat.le_of_eq rfl) (by decide)
  refine own_on st1 ?_
  show own_Go p e below F (T1.setTop (mkF m 4 #[.val (.ref sn), .val (.ref ar), .val (.int (Int32.ofNat n))] []))
  refine own_aload_n X1.here hx (hb hby dSI_4) rfl rfl (pc' := 5) rfl ?_
  refine own_aload_n X1.here hx (hb hby dSI_5) rfl rfl (pc' := 6) rfl ?_
  obtain ⟨T2, h2, X2, e2, W2, st2⟩ := putF X1 hx hZ hown (host := "") (Or.inl (hw _ (List.mem_of_getElem? (i := 158) rfl))) Via.refl e1 F0 A0 (Or.inr ⟨(hw _ (List.mem_of_getElem? (i := 159) rfl)), rfl, hnm⟩) (hw _ (List.mem_of_getElem? (i := 152) rfl)) (ty := .array .char) (by decide) rfl rfl (g := (mkF m 6 #[.val (.ref sn), .val (.ref ar), .val (.int (Int32.ofNat n))] [(.ref ar), (.ref sn)])) rfl rfl (hb hby dSI_6)
  have f3 := A0.wr W2
  have f4 := F0.same W2
  have f5 := F1.other W2 (Or.inr (slot_ne (Or.inr (hw _ (List.mem_of_getElem? (i := 161) rfl))) (Or.inr (hw _ (List.mem_of_getElem? (i := 159) rfl))) (by decide) (t := .int) (by decide) (t' := .array .char) (by decide)))
  have f6 := Q0.wr W2 (Or.inl (by simp))
  have N7 := own_Fr_snoc (sl := Jvm.RoadKit.slotOf Z "com/example/kerb/kerb/call/AppendOnlyText$Snapshot" "chars" "[C") N0 gs
  refine own_on st2 ?_
  show own_Go p e below F (T2.setTop (mkF m 9 #[.val (.ref sn), .val (.ref ar), .val (.int (Int32.ofNat n))] []))
  refine own_aload_n X2.here hx (hb hby dSI_9) rfl rfl (pc' := 10) rfl ?_
  refine own_iload_n X2.here hx (hb hby dSI_10) rfl (pc' := 11) rfl ?_
  obtain ⟨T8, h8, X8, e8, W8, st8⟩ := putF X2 hx hZ hown (host := "") (Or.inl (hw _ (List.mem_of_getElem? (i := 160) rfl))) Via.refl e2 f5 f3 (Or.inr ⟨(hw _ (List.mem_of_getElem? (i := 161) rfl)), rfl, hnm⟩) (hw _ (List.mem_of_getElem? (i := 152) rfl)) (ty := .int) (by decide) rfl rfl (g := (mkF m 11 #[.val (.ref sn), .val (.ref ar), .val (.int (Int32.ofNat n))] [(.int (Int32.ofNat n)), (.ref sn)])) rfl rfl (hb hby dSI_11)
  have f9 := f3.wr W8
  have f10 := f4.other W8 (Or.inr (slot_ne (Or.inr (hw _ (List.mem_of_getElem? (i := 159) rfl))) (Or.inr (hw _ (List.mem_of_getElem? (i := 161) rfl))) (by decide) (t := .array .char) (by decide) (t' := .int) (by decide)))
  have f11 := f5.same W8
  have f12 := f6.wr W8 (Or.inl (by simp))
  have N13 := own_Fr_snoc (sl := Jvm.RoadKit.slotOf Z "com/example/kerb/kerb/call/AppendOnlyText$Snapshot" "length" "I") N7 gs
  refine own_on st8 ?_
  show own_Go p e below F (T8.setTop (mkF m 14 #[.val (.ref sn), .val (.ref ar), .val (.int (Int32.ofNat n))] []))
  exact own_retV X8 hx hlk hret (hb hby dSI_14) (fun t ht hE => hF t _ _ _ _ (by rw [ht, (e8 : _ = h8)]; exact ⟨rfl, N13, f12, f9, f10, f11⟩) hE (by decide) (by decide))
theorem dSn_0 : decode prog_23_method_3_code 0 = .ok (.aload_n 0, 1) := by decide +kernel
theorem dSn_1 : decode prog_23_method_3_code 1 = .ok (.getfield 25, 3) := by decide +kernel
theorem dSn_4 : decode prog_23_method_3_code 4 = .ok (.ifCond .ne 8, 3) := by decide +kernel
theorem dSn_7 : decode prog_23_method_3_code 7 = .ok (.ldc 59, 2) := by decide +kernel
theorem dSn_9 : decode prog_23_method_3_code 9 = .ok (.goto 18, 3) := by decide +kernel
theorem dSn_12 : decode prog_23_method_3_code 12 = .ok (.new 61, 3) := by decide +kernel
theorem dSn_15 : decode prog_23_method_3_code 15 = .ok (.dup, 1) := by decide +kernel
theorem dSn_16 : decode prog_23_method_3_code 16 = .ok (.aload_n 0, 1) := by decide +kernel
theorem dSn_17 : decode prog_23_method_3_code 17 = .ok (.getfield 15, 3) := by decide +kernel
theorem dSn_20 : decode prog_23_method_3_code 20 = .ok (.aload_n 0, 1) := by decide +kernel
theorem dSn_21 : decode prog_23_method_3_code 21 = .ok (.getfield 25, 3) := by decide +kernel
theorem dSn_24 : decode prog_23_method_3_code 24 = .ok (.invokespecial 63, 3) := by decide +kernel
theorem dSn_27 : decode prog_23_method_3_code 27 = .ok (.areturn, 1) := by decide +kernel
def Q_rmN0 (Z : State) (t ar : Addr) (h0 : Heap) (v : Option Value) (h : Heap) (L : List Loc) : Prop := ∃ x, v = some (.ref x) ∧ own_S Z h x [] ∧ Ext h0 h ∧ Fr Z.heap.size L
set_option maxRecDepth 65536 in
set_option maxHeartbeats 40000000 in
theorem rmN0 (l : Launch) (Z : State) (a0 : Array Value) (hw : ∀ d ∈ tables_1, d.before a0 Z = true) (hEL : EW Z a0 EL) (t ar : Addr) (h0 : Heap) (HT : own_AT Z h0 t ar 0) :
    MetFree l (⟨"com/example/kerb/kerb/call/AppendOnlyText", "snapshot", "()Ljava/lang/CharSequence;"⟩ : MethodName) (head1 (Jvm.Cond.code (⟨"com/example/kerb/kerb/call/AppendOnlyText", "snapshot", "()Ljava/lang/CharSequence;"⟩ : MethodName) prog_23_method_3_code 1 (Option.some (FieldType.object "java/lang/CharSequence")) :: []) ({ frames := 0, cells := 2, slots := 4, locals := 0 } : Room)) (fun aa U => aa = #[(.ref t)] ∧ Z.Warmed39 U.vm ∧ U.heap = h0 ∧ CHv Z EL U.vm h0 ∧ ∀ yy ∈ ([] : List Addr), Safe Z EL U.vm h0 yy) (fun _ _ _ _ _ => True) (fun _ U o U' => ∃ v L, o = .returned v ∧ (Q_rmN0 Z t ar h0) v U'.heap L ∧ CHr Z EL U.vm U.heap U'.vm U'.heap ∧ ReturnedEndW U o U' L ({ frames := 0, cells := 2, slots := 4, locals := 0 } : Room).cells ({ frames := 0, cells := 2, slots := 4, locals := 0 } : Room).slots) := by
  refine own_walkW (by exact pnAT) ?_
  intro p e s m below meth c T0 X0 hx hby hml hret hlk hnm hs0 e0 I0 hsf F hF
  refine own_on (fun _ => castTop (efR m t)) ?_
  have M0 := own_ext_refl h0
  have N0 := Fr.nil Z.heap.size
  refine own_aload_n X0.here hx (hb hby dSn_0) rfl rfl (pc' := 1) rfl ?_
  obtain ⟨T1, X1, e1, st1⟩ := getF X0 hx I0.1 I0.2.1 (host := "") (Or.inl (hw _ (List.mem_of_getElem? (i := 57) rfl))) Via.refl e0 HT.2.2 (g := (mkF m 1 #[.val (.ref t)] [(.ref t)])) rfl rfl (hb hby dSn_1)
  refine own_on st1 ?_
  show own_Go p e below F (T1.setTop (mkF m 4 #[.val (.ref t)] [(.int ((0 : Int32)))]))
  refine own_ifne X1.here hx (hb hby dSn_4) (by decide) (pc' := 12) (by decide) (pc2 := 7) rfl (fun q => absurd rfl q) (fun q2 => ?_)
  obtain ⟨b3, T3, t3, kb3, X3, E3, I3, C3, A3, Fc3, Fv3, V3, hn3, st3⟩ := own_ldcT X1 hx I0 (hw _ (List.mem_of_getElem? (i := 96) rfl)) (own_strW hw) e1 hEL (by simp [EL]) (vs := []) (z := 0) (by decide) (by decide) (by decide) (g := (mkF m 7 #[.val (.ref t)] [])) rfl (hb hby dSn_7) (n := 0) (by decide) (by decide) (by decide) (by decide)
  have f4 := own_ext_trans M0 E3
  have f5 := HT.2.2.ext E3
  refine own_on st3 ?_
  show own_Go p e below F (T3.setTop (mkF m 9 #[.val (.ref t)] [(.ref b3)]))
  refine own_goto X3.here hx (hb hby dSn_9) (by decide) (pc' := 27) (by decide) ?_
  exact own_retAW X3 hx hlk hEL I3 rfl hret rfl rfl (hb hby dSn_27) (fun t ht hC hE => hF t _ _ _ _ (by rw [ht]; exact ⟨_, rfl, own_Str.S ⟨t3, kb3, A3, Fv3, Fc3, V3, (fun _ q => nomatch q), (by decide)⟩, f4, N0⟩) hC hE (by decide) (by decide))
def Q_rmN1 (Z : State) (t ar : Addr) (n : Nat) (h0 : Heap) (v : Option Value) (h : Heap) (L : List Loc) : Prop := ∃ x, v = some (.ref x) ∧ own_Sn Z h x ar n ∧ Ext h0 h ∧ Fr Z.heap.size L ∧ h0.size ≤ x
set_option maxRecDepth 65536 in
set_option maxHeartbeats 40000000 in
theorem rmN1 (l : Launch) (Z : State) (a0 : Array Value) (hw : ∀ d ∈ tables_1, d.before a0 Z = true) (t ar : Addr) (n : Nat) (h0 : Heap) (EZ : Ext Z.heap h0) (HT : own_AT Z h0 t ar n) (hn : 0 < n) (hn2 : n ≤ 4000) :
    MetFree l (⟨"com/example/kerb/kerb/call/AppendOnlyText", "snapshot", "()Ljava/lang/CharSequence;"⟩ : MethodName) (head1 (Jvm.Cond.code (⟨"com/example/kerb/kerb/call/AppendOnlyText", "snapshot", "()Ljava/lang/CharSequence;"⟩ : MethodName) prog_23_method_3_code 1 (Option.some (FieldType.object "java/lang/CharSequence")) :: []) ({ frames := 2, cells := 1, slots := 2, locals := 27 } : Room)) (fun aa U => aa = #[(.ref t)] ∧ Z.Warmed39 U.vm ∧ U.heap = h0) (fun _ _ _ _ _ => True) (fun _ U o U' => ∃ v L, o = .returned v ∧ (Q_rmN1 Z t ar n h0) v U'.heap L ∧ FrameEnd U o U' L ({ frames := 2, cells := 1, slots := 2, locals := 27 } : Room).cells ({ frames := 2, cells := 1, slots := 2, locals := 27 } : Room).slots) := by
  refine own_walkN (by exact pnAT) ?_
  intro p e s m below meth c T0 X0 hx hby hml hret hlk hnm hown hZ e0 es0 F hF
  refine own_on (fun _ => castTop (efR m t)) ?_
  have M0 := own_ext_refl h0
  have N0 := Fr.nil Z.heap.size
  refine own_aload_n X0.here hx (hb hby dSn_0) rfl rfl (pc' := 1) rfl ?_
  obtain ⟨T1, X1, e1, st1⟩ := getF X0 hx hZ hown (host := "") (Or.inl (hw _ (List.mem_of_getElem? (i := 57) rfl))) Via.refl e0 HT.2.2 (g := (mkF m 1 #[.val (.ref t)] [(.ref t)])) rfl rfl (hb hby dSn_1)
  refine own_on st1 ?_
  show own_Go p e below F (T1.setTop (mkF m 4 #[.val (.ref t)] [(.int (Int32.ofNat n))]))
  refine own_ifne X1.here hx (hb hby dSn_4) (by decide) (pc' := 12) (by decide) (pc2 := 7) rfl (fun q2 => ?_) (fun q => absurd (own_inj (k := 0) (by omega) (by omega) q) (by omega))
  obtain ⟨T3, h3, X3, e3, E3, A3, D3, -, st3⟩ := newO X1 hx hZ hown (hw _ (List.mem_of_getElem? (i := 151) rfl)) (hw _ (List.mem_of_getElem? (i := 152) rfl)) (hw _ (List.mem_of_getElem? (i := 153) rfl)) e1 (g := (mkF m 12 #[.val (.ref t)] [])) rfl (hb hby dSn_12) (by decide) (by decide)
  obtain ⟨a3, g3⟩ : ∃ z, z = h0.size := ⟨_, rfl⟩
  rw [← g3] at A3 D3 st3
  have ne4 : t ≠ a3 := Nat.ne_of_lt (by rw [g3]; exact HT.1.lt)
  have ge5 : h0.size ≤ a3 := by rw [g3]; exact M0.1
  have f6 := own_ext_trans M0 E3
  have f7 := HT.1.ext E3
  have f8 := HT.2.1.ext E3
  have f9 := HT.2.2.ext E3
  have F3_0 : Fld Z h3 a3 "com/example/kerb/kerb/call/AppendOnlyText$Snapshot" "chars" "[C" (.null) := (D3 (Or.inr (hw _ (List.mem_of_getElem? (i := 159) rfl))) (ty := .array .char) (by decide))
  have F3_1 : Fld Z h3 a3 "com/example/kerb/kerb/call/AppendOnlyText$Snapshot" "length" "I" (.int ((0 : Int32))) := (D3 (Or.inr (hw _ (List.mem_of_getElem? (i := 161) rfl))) (ty := .int) (by decide))
  refine own_on st3 ?_
  show own_Go p e below F (T3.setTop (mkF m 15 #[.val (.ref t)] [(.ref a3)]))
  have gz_a3 : Z.heap.size ≤ a3 := Nat.le_trans EZ.1 ge5
  refine own_dup X3.here hx (hb hby dSn_15) rfl (pc' := 16) rfl ?_
  refine own_aload_n X3.here hx (hb hby dSn_16) rfl rfl (pc' := 17) rfl ?_
  obtain ⟨T10, X10, e10, st10⟩ := getF X3 hx hZ hown (host := "") (Or.inl (hw _ (List.mem_of_getElem? (i := 38) rfl))) Via.refl e3 f8 (g := (mkF m 17 #[.val (.ref t)] [(.ref t), (.ref a3), (.ref a3)])) rfl rfl (hb hby dSn_17)
  refine own_on st10 ?_
  show own_Go p e below F (T10.setTop (mkF m 20 #[.val (.ref t)] [(.ref ar), (.ref a3), (.ref a3)]))
  refine own_aload_n X10.here hx (hb hby dSn_20) rfl rfl (pc' := 21) rfl ?_
  obtain ⟨T11, X11, e11, st11⟩ := getF X10 hx hZ hown (host := "") (Or.inl (hw _ (List.mem_of_getElem? (i := 57) rfl))) Via.refl e10 f9 (g := (mkF m 21 #[.val (.ref t)] [(.ref t), (.ref ar), (.ref a3), (.ref a3)])) rfl rfl (hb hby dSn_21)
  refine own_on st11 ?_
  show own_Go p e below F (T11.setTop (mkF m 24 #[.val (.ref t)] [(.int (Int32.ofNat n)), (.ref ar), (.ref a3), (.ref a3)]))
  obtain ⟨_, _, ⟨T12, L12, k12, n12⟩, -, X12, ⟨Lc12, hQ12, l12, y12, z12⟩, st12⟩ := X11.specialBack hx (y := (⟨"com/example/kerb/kerb/call/AppendOnlyText$Snapshot", "<init>", "([CI)V"⟩ : MethodName)) rfl hown (mvT hZ (hw _ (List.mem_of_getElem? (i := 154) rfl))) (mvT hZ (hw _ (List.mem_of_getElem? (i := 155) rfl))) (mvT hZ (hw _ (List.mem_of_getElem? (i := 156) rfl))) (by decide) (backOf (W := 1) (rmSI l Z a0 hw a3 ar n h3 gz_a3 A3 F3_0 F3_1) hZ (hw _ (List.mem_of_getElem? (i := 156) rfl)) (hw _ (List.mem_of_getElem? (i := 153) rfl)) (by decide) (by decide)) (g := (mkF m 24 #[.val (.ref t)] [(.int (Int32.ofNat n)), (.ref ar), (.ref a3), (.ref a3)])) rfl (by rw [hml]; rfl) (Steps.refl _) (a := a3) (argsL := [(.ref ar), (.int (Int32.ofNat n))]) (rest := [(.ref a3)]) (lenOf pdx24 rfl) rfl (by show 2 * 0 + _ ≤ _; exact Nat.le_of_eq rfl) (hb hby dSn_24) (fun _ _ => ⟨rfl, e11, (Nat.le_of_ble_eq_true rfl), (Nat.le_of_ble_eq_true rfl)⟩)
  dsimp only [Pt.U, Pt.locs, Pt.cells, Pt.slots] at X12 l12 y12 z12 st12 hQ12
  rw [l12, y12, z12] at X12
  obtain ⟨rfl, N12, K12, B12⟩ := hQ12
  refine own_to st12 ?_
  show own_Go p e below F (T12.setTop (mkF m 27 #[.val (.ref t)] [(.ref a3)]))
  have f13 := own_ext_keep f6 K12 (fun y hy => by simp only [List.mem_cons, List.not_mem_nil, or_false] at hy; rcases hy with rfl <;> assumption)
  have N14 := Fr.app N0 N12
  exact own_retA X12 hx hlk hret rfl rfl (hb hby dSn_27) (fun t ht hE => hF t _ _ _ _ (by rw [ht, (rfl : _ = T12.heap)]; exact ⟨_, rfl, B12, f13, N14, ge5⟩) hE (by decide) (by decide))
theorem dNl_0 : decode prog_24_method_2_code 0 = .ok (.aload_n 0, 1) := by decide +kernel
theorem dNl_1 : decode prog_24_method_2_code 1 = .ok (.getfield 13, 3) := by decide +kernel
theorem dNl_4 : decode prog_24_method_2_code 4 = .ok (.ireturn, 1) := by decide +kernel
def Q_rmNl (Z : State) (sn ar : Addr) (n : Nat) (h0 : Heap) (v : Option Value) (h : Heap) (L : List Loc) : Prop := v = some (.int (Int32.ofNat n)) ∧ Fr Z.heap.size L ∧ h = h0
set_option maxRecDepth 65536 in
set_option maxHeartbeats 40000000 in
theorem rmNl (l : Launch) (Z : State) (a0 : Array Value) (hw : ∀ d ∈ tables_1, d.before a0 Z = true) (sn ar : Addr) (n : Nat) (h0 : Heap) (HS : own_Sn Z h0 sn ar n) :
    MetFree l (⟨"com/example/kerb/kerb/call/AppendOnlyText$Snapshot", "length", "()I"⟩ : MethodName) (head1 (Jvm.Cond.code (⟨"com/example/kerb/kerb/call/AppendOnlyText$Snapshot", "length", "()I"⟩ : MethodName) prog_24_method_2_code 1 (Option.some FieldType.int) :: []) ({ frames := 0, cells := 0, slots := 0, locals := 0 } : Room)) (fun aa U => aa = #[(.ref sn)] ∧ Z.Warmed39 U.vm ∧ U.heap = h0) (fun _ _ _ _ _ => True) (fun _ U o U' => ∃ v L, o = .returned v ∧ (Q_rmNl Z sn ar n h0) v U'.heap L ∧ FrameEnd U o U' L ({ frames := 0, cells := 0, slots := 0, locals := 0 } : Room).cells ({ frames := 0, cells := 0, slots := 0, locals := 0 } : Room).slots) := by
  refine own_walkN (by exact pnSN) ?_
  intro p e s m below meth c T0 X0 hx hby hml hret hlk hnm hown hZ e0 es0 F hF
  refine own_on (fun _ => castTop (efR m sn)) ?_
  refine own_aload_n X0.here hx (hb hby dNl_0) rfl rfl (pc' := 1) rfl ?_
  obtain ⟨T1, X1, e1, st1⟩ := getF X0 hx hZ hown (host := "") (Or.inl (hw _ (List.mem_of_getElem? (i := 160) rfl))) Via.refl e0 HS.2.2 (g := (mkF m 1 #[.val (.ref sn)] [(.ref sn)])) rfl rfl (hb hby dNl_1)
  refine own_on st1 ?_
  show own_Go p e below F (T1.setTop (mkF m 4 #[.val (.ref sn)] [(.int (Int32.ofNat n))]))
  exact own_retI X1 hx hlk hret (hb hby dNl_4) (fun t ht hE => hF t _ _ _ _ (by rw [ht, (e1 : _ = h0)]; exact ⟨rfl, Fr.nil _, rfl⟩) hE (by decide) (by decide))
theorem dRC_0 : decode jdk_42_method_5_code 0 = .ok (.iload_n 1, 1) := by decide +kernel
theorem dRC_1 : decode jdk_42_method_5_code 1 = .ok (.iload_n 2, 1) := by decide +kernel
theorem dRC_2 : decode jdk_42_method_5_code 2 = .ok (.aload_n 0, 1) := by decide +kernel
theorem dRC_3 : decode jdk_42_method_5_code 3 = .ok (.arraylength, 1) := by decide +kernel
theorem dRC_4 : decode jdk_42_method_5_code 4 = .ok (.invokestatic 34, 3) := by decide +kernel
theorem dRC_7 : decode jdk_42_method_5_code 7 = .ok (.pop, 1) := by decide +kernel
theorem dRC_8 : decode jdk_42_method_5_code 8 = .ok (.aconst_null, 1) := by decide +kernel
theorem dRC_9 : decode jdk_42_method_5_code 9 = .ok (.areturn, 1) := by decide +kernel
theorem efRC (m : MethodId) (x0 : Addr) (x1 : Int32) (x2 : Int32) : entryFrame m #[(.ref x0), (.int x1), (.int x2)] 3 = mkF m 0 #[.val (.ref x0), .val (.int x1), .val (.int x2)] [] := by first | (simp [entryFrame, mkF, argsToLocals, Value.category]; done) | rfl
def Q_rmRC (Z : State) (ar : Addr) (ka : ClassId) (cs : List Int32) (d0 : Value) (n : Nat) (h0 : Heap) (fm : Value) (v : Option Value) (h : Heap) (L : List Loc) : Prop := v = some .null ∧ Fr Z.heap.size L ∧ h = h0
set_option maxRecDepth 65536 in
set_option maxHeartbeats 40000000 in
theorem rmRC (l : Launch) (Z : State) (a0 : Array Value) (hw : ∀ d ∈ tables_1, d.before a0 Z = true) (ar : Addr) (ka : ClassId) (cs : List Int32) (d0 : Value) (n : Nat) (h0 : Heap) (EZ : Ext Z.heap h0) (fm : Value) (O2 : Sta Z Z.heap "jdk/internal/util/Preconditions" "SIOOBE_FORMATTER" "Ljava/util/function/BiFunction;" fm) (rf : fm.isRef = true) (A0 : Arv Z h0 ar ka .char (Int32.ofNat cs.length) (cs.map Value.int) d0) (hn : n ≤ cs.length) (hl : cs.length ≤ 4000) :
    MetFree l (⟨"java/lang/String", "rangeCheck", "([CII)Ljava/lang/Void;"⟩ : MethodName) (head1 (Jvm.Cond.code (⟨"java/lang/String", "rangeCheck", "([CII)Ljava/lang/Void;"⟩ : MethodName) jdk_42_method_5_code 3 (Option.some (FieldType.object "java/lang/Void")) :: []) ({ frames := 2, cells := 0, slots := 0, locals := 29 } : Room)) (fun aa U => aa = #[(.ref ar), (.int (0 : Int32)), (.int (Int32.ofNat n))] ∧ Z.Warmed39 U.vm ∧ U.heap = h0) (fun _ _ _ _ _ => True) (fun _ U o U' => ∃ v L, o = .returned v ∧ (Q_rmRC Z ar ka cs d0 n h0 fm) v U'.heap L ∧ FrameEnd U o U' L ({ frames := 2, cells := 0, slots := 0, locals := 29 } : Room).cells ({ frames := 2, cells := 0, slots := 0, locals := 29 } : Room).slots) := by
  refine own_walkN (by exact pnS) ?_
  intro p e s m below meth c T0 X0 hx hby hml hret hlk hnm hown hZ e0 es0 F hF
  refine own_on (fun _ => castTop (efRC m ar 0 _)) ?_
  have N0 := Fr.nil Z.heap.size
  refine own_iload_n X0.here hx (hb hby dRC_0) rfl (pc' := 1) rfl ?_
  refine own_iload_n X0.here hx (hb hby dRC_1) rfl (pc' := 2) rfl ?_
  refine own_aload_n X0.here hx (hb hby dRC_2) rfl rfl (pc' := 3) rfl ?_
  refine own_alen X0 hx hZ e0 A0 (hb hby dRC_3) (pc' := 4) rfl ?_
  obtain ⟨_, _, ⟨T1, L1, k1, n1⟩, -, X1, ⟨Lc1, hQ1, l1, y1, z1⟩, st1⟩ := Jvm.LawKit.callS X0 hx (y := (⟨"java/lang/String", "checkBoundsOffCount", "(III)I"⟩ : MethodName)) hown (mvT hZ (hw _ (List.mem_of_getElem? (i := 73) rfl))) (mvT hZ (hw _ (List.mem_of_getElem? (i := 74) rfl))) (mvT hZ (hw _ (List.mem_of_getElem? (i := 10) rfl))) (mvT hZ (hw _ (List.mem_of_getElem? (i := 75) rfl))) (by decide) (backOf (W := 0) (rmBO l Z a0 hw 0 n cs.length h0 EZ fm O2 rf (by omega) hl) hZ (hw _ (List.mem_of_getElem? (i := 75) rfl)) (hw _ (List.mem_of_getElem? (i := 10) rfl)) (by decide) (by decide)) (g := (mkF m 4 #[.val (.ref ar), .val (.int ((0 : Int32))), .val (.int (Int32.ofNat n))] [(.int (Int32.ofNat cs.length)), (.int (Int32.ofNat n)), (.int ((0 : Int32)))])) rfl (by rw [hml]; rfl) (argsL := [(.int ((0 : Int32))), (.int (Int32.ofNat n)), (.int (Int32.ofNat cs.length))]) (rest := []) (lenOf pdx12 rfl) rfl (by show 2 * 0 + _ ≤ _; exact Nat.le_of_eq rfl) (hb hby dRC_4) (fun _ _ => ⟨rfl, e0, (Nat.le_of_ble_eq_true rfl), (Nat.le_of_ble_eq_true rfl)⟩)
  dsimp only [Pt.U, Pt.locs, Pt.cells, Pt.slots] at X1 l1 y1 z1 st1 hQ1
  rw [l1, y1, z1] at X1
  obtain ⟨rfl, N1, E1⟩ := hQ1
  refine own_on (st1) ?_
  show own_Go p e below F (T1.setTop (mkF m 7 #[.val (.ref ar), .val (.int ((0 : Int32))), .val (.int (Int32.ofNat n))] [(.int ((0 : Int32)))]))
  have N2 := Fr.app N0 N1
  refine own_pop X1.here hx (hb hby dRC_7) rfl (pc' := 8) rfl ?_
  refine own_aconst_null X1.here hx (hb hby dRC_8) (pc' := 9) rfl ?_
  exact own_retA X1 hx hlk hret rfl rfl (hb hby dRC_9) (fun t ht hE => hF t _ _ _ _ (by rw [ht, (E1 : _ = h0)]; exact ⟨rfl, N2, rfl⟩) hE (by decide) (by decide))
theorem dI3_0 : decode jdk_42_method_4_code 0 = .ok (.aload_n 0, 1) := by decide +kernel
theorem dI3_1 : decode jdk_42_method_4_code 1 = .ok (.aload_n 1, 1) := by decide +kernel
theorem dI3_2 : decode jdk_42_method_4_code 2 = .ok (.iload_n 2, 1) := by decide +kernel
theorem dI3_3 : decode jdk_42_method_4_code 3 = .ok (.iload_n 3, 1) := by decide +kernel
theorem dI3_4 : decode jdk_42_method_4_code 4 = .ok (.aload_n 1, 1) := by decide +kernel
theorem dI3_5 : decode jdk_42_method_4_code 5 = .ok (.iload_n 2, 1) := by decide +kernel
theorem dI3_6 : decode jdk_42_method_4_code 6 = .ok (.iload_n 3, 1) := by decide +kernel
theorem dI3_7 : decode jdk_42_method_4_code 7 = .ok (.invokestatic 30, 3) := by decide +kernel
theorem dI3_10 : decode jdk_42_method_4_code 10 = .ok (.invokespecial 27, 3) := by decide +kernel
theorem dI3_13 : decode jdk_42_method_4_code 13 = .ok (.return_, 1) := by decide +kernel
theorem efI3 (m : MethodId) (x0 : Addr) (x1 : Addr) (x2 : Int32) (x3 : Int32) : entryFrame m #[(.ref x0), (.ref x1), (.int x2), (.int x3)] 4 = mkF m 0 #[.val (.ref x0), .val (.ref x1), .val (.int x2), .val (.int x3)] [] := by first | (simp [entryFrame, mkF, argsToLocals, Value.category]; done) | rfl
def Q_rmI3 (Z : State) (x ar : Addr) (ka : ClassId) (cs : List Int32) (d0 : Value) (n : Nat) (h0 : Heap) (z0 : Int32) (fm : Value) (v : Option Value) (h : Heap) (L : List Loc) : Prop := v = none ∧ Fr Z.heap.size L ∧ Keep h0 h [x] ∧ own_S Z h x (cs.take n)
set_option maxRecDepth 65536 in
set_option maxHeartbeats 40000000 in
theorem rmI3 (l : Launch) (Z : State) (a0 : Array Value) (hw : ∀ d ∈ tables_1, d.before a0 Z = true) (x ar : Addr) (ka : ClassId) (cs : List Int32) (d0 : Value) (n : Nat) (h0 : Heap) (EZ : Ext Z.heap h0) (z0 : Int32) (O1 : Sta Z Z.heap "java/lang/String" "COMPACT_STRINGS" "Z" (.int z0)) (P5 : ¬ z0 = 0) (fm : Value) (O2 : Sta Z Z.heap "jdk/internal/util/Preconditions" "SIOOBE_FORMATTER" "Ljava/util/function/BiFunction;" fm) (rf : fm.isRef = true) (O3 : Sta Z Z.heap "java/lang/StringUTF16" "$assertionsDisabled" "Z" (.int 1)) (O4 : Sta Z Z.heap "java/lang/StringUTF16" "HI_BYTE_SHIFT" "I" (.int 0)) (O5 : Sta Z Z.heap "java/lang/StringUTF16" "LO_BYTE_SHIFT" "I" (.int 8)) (gx : Z.heap.size ≤ x) (hxa : ar ≠ x) (E0 : Exa Z h0 x "java/lang/String") (Fv : Fld Z h0 x "java/lang/String" "value" "[B" .null) (Fc : Fld Z h0 x "java/lang/String" "coder" "B" (.int (0 : Int32))) (A0 : Arv Z h0 ar ka .char (Int32.ofNat cs.length) (cs.map Value.int) d0) (hl : cs.length ≤ 4000) (hp : ∀ c ∈ cs, ¬ c < 0 ∧ ¬ (65535 : Int32) < c) (hc : n ≤ cs.length) (hn : n ≤ 16) (hn0 : 0 < n) :
    MetFree l (⟨"java/lang/String", "<init>", "([CII)V"⟩ : MethodName) (head1 (Jvm.Cond.code (⟨"java/lang/String", "<init>", "([CII)V"⟩ : MethodName) jdk_42_method_4_code 4 (Option.none : Option FieldType) :: []) ({ frames := 5, cells := 2, slots := 48, locals := 74 } : Room)) (fun aa U => aa = #[(.ref x), (.ref ar), (.int (0 : Int32)), (.int (Int32.ofNat n))] ∧ Z.Warmed39 U.vm ∧ U.heap = h0) (fun _ _ _ _ _ => True) (fun _ U o U' => ∃ v L, o = .returned v ∧ (Q_rmI3 Z x ar ka cs d0 n h0 z0 fm) v U'.heap L ∧ FrameEnd U o U' L ({ frames := 5, cells := 2, slots := 48, locals := 74 } : Room).cells ({ frames := 5, cells := 2, slots := 48, locals := 74 } : Room).slots) := by
  refine own_walkN (by exact pnS) ?_
  intro p e s m below meth c T0 X0 hx hby hml hret hlk hnm hown hZ e0 es0 F hF
  refine own_on (fun _ => castTop (efI3 m x ar 0 _)) ?_
  have N0 := Fr.nil Z.heap.size
  refine own_aload_n X0.here hx (hb hby dI3_0) rfl rfl (pc' := 1) rfl ?_
  refine own_aload_n X0.here hx (hb hby dI3_1) rfl rfl (pc' := 2) rfl ?_
  refine own_iload_n X0.here hx (hb hby dI3_2) rfl (pc' := 3) rfl ?_
  refine own_iload_n X0.here hx (hb hby dI3_3) rfl (pc' := 4) rfl ?_
  refine own_aload_n X0.here hx (hb hby dI3_4) rfl rfl (pc' := 5) rfl ?_
  refine own_iload_n X0.here hx (hb hby dI3_5) rfl (pc' := 6) rfl ?_
  refine own_iload_n X0.here hx (hb hby dI3_6) rfl (pc' := 7) rfl ?_
  obtain ⟨_, _, ⟨T1, L1, k1, n1⟩, -, X1, ⟨Lc1, hQ1, l1, y1, z1⟩, st1⟩ := Jvm.LawKit.callS X0 hx (y := (⟨"java/lang/String", "rangeCheck", "([CII)Ljava/lang/Void;"⟩ : MethodName)) hown (mvT hZ (hw _ (List.mem_of_getElem? (i := 177) rfl))) (mvT hZ (hw _ (List.mem_of_getElem? (i := 178) rfl))) (mvT hZ (hw _ (List.mem_of_getElem? (i := 10) rfl))) (mvT hZ (hw _ (List.mem_of_getElem? (i := 179) rfl))) (by decide) (backOf (W := 4) (rmRC l Z a0 hw ar ka cs d0 n h0 EZ fm O2 rf A0 hc hl) hZ (hw _ (List.mem_of_getElem? (i := 179) rfl)) (hw _ (List.mem_of_getElem? (i := 10) rfl)) (by decide) (by decide)) (g := (mkF m 7 #[.val (.ref x), .val (.ref ar), .val (.int ((0 : Int32))), .val (.int (Int32.ofNat n))] [(.int (Int32.ofNat n)), (.int ((0 : Int32))), (.ref ar), (.int (Int32.ofNat n)), (.int ((0 : Int32))), (.ref ar), (.ref x)])) rfl (by rw [hml]; rfl) (argsL := [(.ref ar), (.int ((0 : Int32))), (.int (Int32.ofNat n))]) (rest := [(.int (Int32.ofNat n)), (.int ((0 : Int32))), (.ref ar), (.ref x)]) (lenOf pdx20 rfl) rfl (by show 2 * 0 + _ ≤ _; exact Nat.le_of_eq rfl) (hb hby dI3_7) (fun _ _ => ⟨rfl, e0, (Nat.le_of_ble_eq_true rfl), (Nat.le_of_ble_eq_true rfl)⟩)
  dsimp only [Pt.U, Pt.locs, Pt.cells, Pt.slots] at X1 l1 y1 z1 st1 hQ1
  rw [l1, y1, z1] at X1
  obtain ⟨rfl, N1, E1⟩ := hQ1
  refine own_on (st1) ?_
  show own_Go p e below F (T1.setTop (mkF m 10 #[.val (.ref x), .val (.ref ar), .val (.int ((0 : Int32))), .val (.int (Int32.ofNat n))] [.null, (.int (Int32.ofNat n)), (.int ((0 : Int32))), (.ref ar), (.ref x)]))
  have N2 := Fr.app N0 N1
  obtain ⟨_, _, ⟨T3, L3, k3, n3⟩, -, X3, ⟨Lc3, hQ3, l3, y3, z3⟩, st3⟩ := X1.specialBack hx (y := (⟨"java/lang/String", "<init>", "([CIILjava/lang/Void;)V"⟩ : MethodName)) rfl hown (mvT hZ (hw _ (List.mem_of_getElem? (i := 14) rfl))) (mvT hZ (hw _ (List.mem_of_getElem? (i := 15) rfl))) (mvT hZ (hw _ (List.mem_of_getElem? (i := 17) rfl))) (by decide) (backOf (W := 0) (rmI4 l Z a0 hw x ar ka cs _ d0 n h0 EZ z0 O1 P5 O3 O4 O5 gx hxa E0 Fv Fc A0 rfl hl hp hc hn hn0) hZ (hw _ (List.mem_of_getElem? (i := 17) rfl)) (hw _ (List.mem_of_getElem? (i := 10) rfl)) (by decide) (by decide)) (g := (mkF m 10 #[.val (.ref x), .val (.ref ar), .val (.int ((0 : Int32))), .val (.int (Int32.ofNat n))] [.null, (.int (Int32.ofNat n)), (.int ((0 : Int32))), (.ref ar), (.ref x)])) rfl (by rw [hml]; rfl) (Steps.refl _) (a := x) (argsL := [(.ref ar), (.int ((0 : Int32))), (.int (Int32.ofNat n)), .null]) (rest := []) (lenOf pdE4 rfl) rfl (by show 2 * 0 + _ ≤ _; exact Nat.le_of_eq rfl) (hb hby dI3_10) (fun _ _ => ⟨rfl, E1, (Nat.le_of_ble_eq_true rfl), (Nat.le_of_ble_eq_true rfl)⟩)
  dsimp only [Pt.U, Pt.locs, Pt.cells, Pt.slots] at X3 l3 y3 z3 st3 hQ3
  rw [l3, y3, z3] at X3
  obtain ⟨rfl, N3, K3, S3⟩ := hQ3
  refine own_to st3 ?_
  show own_Go p e below F (T3.setTop (mkF m 13 #[.val (.ref x), .val (.ref ar), .val (.int ((0 : Int32))), .val (.int (Int32.ofNat n))] []))
  have N4 := Fr.app N2 N3
  exact own_retV X3 hx hlk hret (hb hby dI3_13) (fun t ht hE => hF t _ _ _ _ (by rw [ht, (rfl : _ = T3.heap)]; exact ⟨rfl, N4, K3, S3⟩) hE (by decide) (by decide))
theorem dNt_0 : decode prog_24_method_5_code 0 = .ok (.new 27, 3) := by decide +kernel
theorem dNt_3 : decode prog_24_method_5_code 3 = .ok (.dup, 1) := by decide +kernel
theorem dNt_4 : decode prog_24_method_5_code 4 = .ok (.aload_n 0, 1) := by decide +kernel
theorem dNt_5 : decode prog_24_method_5_code 5 = .ok (.getfield 7, 3) := by decide +kernel
theorem dNt_8 : decode prog_24_method_5_code 8 = .ok (.iconst 0, 1) := by decide +kernel
theorem dNt_9 : decode prog_24_method_5_code 9 = .ok (.aload_n 0, 1) := by decide +kernel
theorem dNt_10 : decode prog_24_method_5_code 10 = .ok (.getfield 13, 3) := by decide +kernel
theorem dNt_13 : decode prog_24_method_5_code 13 = .ok (.invokespecial 29, 3) := by decide +kernel
theorem dNt_16 : decode prog_24_method_5_code 16 = .ok (.areturn, 1) := by decide +kernel
def Q_rmNt (Z : State) (sn ar : Addr) (ka : ClassId) (cs : List Int32) (d0 : Value) (n : Nat) (h0 : Heap) (z0 : Int32) (fm : Value) (v : Option Value) (h : Heap) (L : List Loc) : Prop := ∃ x, v = some (.ref x) ∧ own_S Z h x (cs.take n) ∧ Ext h0 h ∧ Fr Z.heap.size L
set_option maxRecDepth 65536 in
set_option maxHeartbeats 40000000 in
theorem rmNt (l : Launch) (Z : State) (a0 : Array Value) (hw : ∀ d ∈ tables_1, d.before a0 Z = true) (sn ar : Addr) (ka : ClassId) (cs : List Int32) (d0 : Value) (n : Nat) (h0 : Heap) (EZ : Ext Z.heap h0) (z0 : Int32) (O1 : Sta Z Z.heap "java/lang/String" "COMPACT_STRINGS" "Z" (.int z0)) (P5 : ¬ z0 = 0) (fm : Value) (O2 : Sta Z Z.heap "jdk/internal/util/Preconditions" "SIOOBE_FORMATTER" "Ljava/util/function/BiFunction;" fm) (rf : fm.isRef = true) (O3 : Sta Z Z.heap "java/lang/StringUTF16" "$assertionsDisabled" "Z" (.int 1)) (O4 : Sta Z Z.heap "java/lang/StringUTF16" "HI_BYTE_SHIFT" "I" (.int 0)) (O5 : Sta Z Z.heap "java/lang/StringUTF16" "LO_BYTE_SHIFT" "I" (.int 8)) (HS : own_Sn Z h0 sn ar n) (A0 : Arv Z h0 ar ka .char (Int32.ofNat cs.length) (cs.map Value.int) d0) (hl : cs.length ≤ 4000) (hp : ∀ c ∈ cs, ¬ c < 0 ∧ ¬ (65535 : Int32) < c) (hc : n ≤ cs.length) (hn : n ≤ 16) (hn0 : 0 < n) :
    MetFree l (⟨"com/example/kerb/kerb/call/AppendOnlyText$Snapshot", "toString", "()Ljava/lang/String;"⟩ : MethodName) (head1 (Jvm.Cond.code (⟨"com/example/kerb/kerb/call/AppendOnlyText$Snapshot", "toString", "()Ljava/lang/String;"⟩ : MethodName) prog_24_method_5_code 1 (Option.some (FieldType.object "java/lang/String")) :: []) ({ frames := 6, cells := 3, slots := 52, locals := 90 } : Room)) (fun aa U => aa = #[(.ref sn)] ∧ Z.Warmed39 U.vm ∧ U.heap = h0) (fun _ _ _ _ _ => True) (fun _ U o U' => ∃ v L, o = .returned v ∧ (Q_rmNt Z sn ar ka cs d0 n h0 z0 fm) v U'.heap L ∧ FrameEnd U o U' L ({ frames := 6, cells := 3, slots := 52, locals := 90 } : Room).cells ({ frames := 6, cells := 3, slots := 52, locals := 90 } : Room).slots) := by
  refine own_walkN (by exact pnSN) ?_
  intro p e s m below meth c T0 X0 hx hby hml hret hlk hnm hown hZ e0 es0 F hF
  refine own_on (fun _ => castTop (efR m sn)) ?_
  have M0 := own_ext_refl h0
  have N0 := Fr.nil Z.heap.size
  obtain ⟨T1, h1, X1, e1, E1, A1, D1, -, st1⟩ := newO X0 hx hZ hown (hw _ (List.mem_of_getElem? (i := 173) rfl)) (hw _ (List.mem_of_getElem? (i := 9) rfl)) (hw _ (List.mem_of_getElem? (i := 10) rfl)) e0 (g := (mkF m 0 #[.val (.ref sn)] [])) rfl (hb hby dNt_0) (by decide) (by decide)
  obtain ⟨a1, g1⟩ : ∃ z, z = h0.size := ⟨_, rfl⟩
  rw [← g1] at A1 D1 st1
  have ne2 : sn ≠ a1 := Nat.ne_of_lt (by rw [g1]; exact HS.1.lt)
  have ne3 : ar ≠ a1 := Nat.ne_of_lt (by rw [g1]; exact A0.lt)
  have ge4 : h0.size ≤ a1 := by rw [g1]; exact M0.1
  have f5 := own_ext_trans M0 E1
  have f6 := HS.1.ext E1
  have f7 := HS.2.1.ext E1
  have f8 := HS.2.2.ext E1
  have f9 := A0.ext E1
  have F1_0 : Fld Z h1 a1 "java/lang/String" "value" "[B" (.null) := (D1 (Or.inr (hw _ (List.mem_of_getElem? (i := 23) rfl))) (ty := .array .byte) (by decide))
  have F1_1 : Fld Z h1 a1 "java/lang/String" "coder" "B" (.int ((0 : Int32))) := (D1 (Or.inr (hw _ (List.mem_of_getElem? (i := 24) rfl))) (ty := .byte) (by decide))
  refine own_on st1 ?_
  show own_Go p e below F (T1.setTop (mkF m 3 #[.val (.ref sn)] [(.ref a1)]))
  have gz_a1 : Z.heap.size ≤ a1 := Nat.le_trans EZ.1 ge4
  refine own_dup X1.here hx (hb hby dNt_3) rfl (pc' := 4) rfl ?_
  refine own_aload_n X1.here hx (hb hby dNt_4) rfl rfl (pc' := 5) rfl ?_
  obtain ⟨T10, X10, e10, st10⟩ := getF X1 hx hZ hown (host := "") (Or.inl (hw _ (List.mem_of_getElem? (i := 158) rfl))) Via.refl e1 f7 (g := (mkF m 5 #[.val (.ref sn)] [(.ref sn), (.ref a1), (.ref a1)])) rfl rfl (hb hby dNt_5)
  refine own_on st10 ?_
  show own_Go p e below F (T10.setTop (mkF m 8 #[.val (.ref sn)] [(.ref ar), (.ref a1), (.ref a1)]))
  refine own_iconst X10.here hx (hb hby dNt_8) (v := 0) rfl (pc' := 9) rfl ?_
  refine own_aload_n X10.here hx (hb hby dNt_9) rfl rfl (pc' := 10) rfl ?_
  obtain ⟨T11, X11, e11, st11⟩ := getF X10 hx hZ hown (host := "") (Or.inl (hw _ (List.mem_of_getElem? (i := 160) rfl))) Via.refl e10 f8 (g := (mkF m 10 #[.val (.ref sn)] [(.ref sn), (.int ((0 : Int32))), (.ref ar), (.ref a1), (.ref a1)])) rfl rfl (hb hby dNt_10)
  refine own_on st11 ?_
  show own_Go p e below F (T11.setTop (mkF m 13 #[.val (.ref sn)] [(.int (Int32.ofNat n)), (.int ((0 : Int32))), (.ref ar), (.ref a1), (.ref a1)]))
  obtain ⟨_, _, ⟨T12, L12, k12, n12⟩, -, X12, ⟨Lc12, hQ12, l12, y12, z12⟩, st12⟩ := X11.specialBack hx (y := (⟨"java/lang/String", "<init>", "([CII)V"⟩ : MethodName)) rfl hown (mvT hZ (hw _ (List.mem_of_getElem? (i := 174) rfl))) (mvT hZ (hw _ (List.mem_of_getElem? (i := 175) rfl))) (mvT hZ (hw _ (List.mem_of_getElem? (i := 176) rfl))) (by decide) (backOf (W := 1) (rmI3 l Z a0 hw a1 ar ka cs d0 n h1 (own_ext_trans EZ f5) z0 O1 P5 fm O2 rf O3 O4 O5 gz_a1 ne3 A1 F1_0 F1_1 f9 hl hp hc hn hn0) hZ (hw _ (List.mem_of_getElem? (i := 176) rfl)) (hw _ (List.mem_of_getElem? (i := 10) rfl)) (by decide) (by decide)) (g := (mkF m 13 #[.val (.ref sn)] [(.int (Int32.ofNat n)), (.int ((0 : Int32))), (.ref ar), (.ref a1), (.ref a1)])) rfl (by rw [hml]; rfl) (Steps.refl _) (a := a1) (argsL := [(.ref ar), (.int ((0 : Int32))), (.int (Int32.ofNat n))]) (rest := [(.ref a1)]) (lenOf pdx19 rfl) rfl (by show 2 * 0 + _ ≤ _; exact Nat.le_of_eq rfl) (hb hby dNt_13) (fun _ _ => ⟨rfl, e11, (Nat.le_of_ble_eq_true rfl), (Nat.le_of_ble_eq_true rfl)⟩)
  dsimp only [Pt.U, Pt.locs, Pt.cells, Pt.slots] at X12 l12 y12 z12 st12 hQ12
  rw [l12, y12, z12] at X12
  obtain ⟨rfl, N12, K12, S12⟩ := hQ12
  refine own_to st12 ?_
  show own_Go p e below F (T12.setTop (mkF m 16 #[.val (.ref sn)] [(.ref a1)]))
  have f13 := own_ext_keep f5 K12 (fun y hy => by simp only [List.mem_cons, List.not_mem_nil, or_false] at hy; rcases hy with rfl <;> assumption)
  have N14 := Fr.app N0 N12
  exact own_retA X12 hx hlk hret rfl rfl (hb hby dNt_16) (fun t ht hE => hF t _ _ _ _ (by rw [ht, (rfl : _ = T12.heap)]; exact ⟨_, rfl, S12, f13, N14⟩) hE (by decide) (by decide))
theorem dSt_0 : decode jdk_42_method_126_code 0 = .ok (.aload_n 0, 1) := by decide +kernel
theorem dSt_1 : decode jdk_42_method_126_code 1 = .ok (.areturn, 1) := by decide +kernel
def Q_rmSt (Z : State) (x : Addr) (h0 : Heap) (v : Option Value) (h : Heap) (L : List Loc) : Prop := v = some (.ref x) ∧ Fr Z.heap.size L ∧ h = h0
set_option maxRecDepth 65536 in
set_option maxHeartbeats 40000000 in
theorem rmSt (l : Launch) (Z : State) (a0 : Array Value) (hw : ∀ d ∈ tables_1, d.before a0 Z = true) (x : Addr) (h0 : Heap) :
    MetFree l (⟨"java/lang/String", "toString", "()Ljava/lang/String;"⟩ : MethodName) (head1 (Jvm.Cond.code (⟨"java/lang/String", "toString", "()Ljava/lang/String;"⟩ : MethodName) jdk_42_method_126_code 1 (Option.some (FieldType.object "java/lang/String")) :: []) ({ frames := 0, cells := 0, slots := 0, locals := 0 } : Room)) (fun aa U => aa = #[(.ref x)] ∧ Z.Warmed39 U.vm ∧ U.heap = h0) (fun _ _ _ _ _ => True) (fun _ U o U' => ∃ v L, o = .returned v ∧ (Q_rmSt Z x h0) v U'.heap L ∧ FrameEnd U o U' L ({ frames := 0, cells := 0, slots := 0, locals := 0 } : Room).cells ({ frames := 0, cells := 0, slots := 0, locals := 0 } : Room).slots) := by
  refine own_walkN (by exact pnS) ?_
  intro p e s m below meth c T0 X0 hx hby hml hret hlk hnm hown hZ e0 es0 F hF
  refine own_on (fun _ => castTop (efR m x)) ?_
  refine own_aload_n X0.here hx (hb hby dSt_0) rfl rfl (pc' := 1) rfl ?_
  exact own_retA X0 hx hlk hret rfl rfl (hb hby dSt_1) (fun t ht hE => hF t _ _ _ _ (by rw [ht, (e0 : _ = h0)]; exact ⟨rfl, Fr.nil _, rfl⟩) hE (by decide) (by decide))
theorem dPf_0 : decode method_4_code 0 = .ok (.iload_n 1, 1) := by decide +kernel
theorem dPf_1 : decode method_4_code 1 = .ok (.ifCond .ne 14, 3) := by decide +kernel
theorem dPf_4 : decode method_4_code 4 = .ok (.new 39, 3) := by decide +kernel
theorem dPf_7 : decode method_4_code 7 = .ok (.dup, 1) := by decide +kernel
theorem dPf_8 : decode method_4_code 8 = .ok (.iconst 0, 1) := by decide +kernel
theorem dPf_9 : decode method_4_code 9 = .ok (.newarray .char, 2) := by decide +kernel
theorem dPf_11 : decode method_4_code 11 = .ok (.invokespecial 44, 3) := by decide +kernel
theorem dPf_14 : decode method_4_code 14 = .ok (.areturn, 1) := by decide +kernel
theorem dPf_15 : decode method_4_code 15 = .ok (.iload_n 1, 1) := by decide +kernel
theorem dPf_16 : decode method_4_code 16 = .ok (.iconst 1, 1) := by decide +kernel
theorem dPf_17 : decode method_4_code 17 = .ok (.if_icmp .ne 20, 3) := by decide +kernel
theorem dPf_20 : decode method_4_code 20 = .ok (.new 39, 3) := by decide +kernel
theorem dPf_23 : decode method_4_code 23 = .ok (.dup, 1) := by decide +kernel
theorem dPf_24 : decode method_4_code 24 = .ok (.iconst 1, 1) := by decide +kernel
theorem dPf_25 : decode method_4_code 25 = .ok (.newarray .char, 2) := by decide +kernel
theorem dPf_27 : decode method_4_code 27 = .ok (.dup, 1) := by decide +kernel
theorem dPf_28 : decode method_4_code 28 = .ok (.iconst 0, 1) := by decide +kernel
theorem dPf_29 : decode method_4_code 29 = .ok (.aload_n 0, 1) := by decide +kernel
theorem dPf_30 : decode method_4_code 30 = .ok (.iconst 0, 1) := by decide +kernel
theorem dPf_31 : decode method_4_code 31 = .ok (.caload, 1) := by decide +kernel
theorem dPf_32 : decode method_4_code 32 = .ok (.castore, 1) := by decide +kernel
theorem dPf_33 : decode method_4_code 33 = .ok (.invokespecial 44, 3) := by decide +kernel
theorem dPf_36 : decode method_4_code 36 = .ok (.areturn, 1) := by decide +kernel
theorem dPf_37 : decode method_4_code 37 = .ok (.iload_n 1, 1) := by decide +kernel
theorem dPf_38 : decode method_4_code 38 = .ok (.iconst 2, 1) := by decide +kernel
theorem dPf_39 : decode method_4_code 39 = .ok (.if_icmp .ne 26, 3) := by decide +kernel
theorem dPf_42 : decode method_4_code 42 = .ok (.new 39, 3) := by decide +kernel
theorem dPf_45 : decode method_4_code 45 = .ok (.dup, 1) := by decide +kernel
theorem dPf_46 : decode method_4_code 46 = .ok (.iconst 2, 1) := by decide +kernel
theorem dPf_47 : decode method_4_code 47 = .ok (.newarray .char, 2) := by decide +kernel
theorem dPf_49 : decode method_4_code 49 = .ok (.dup, 1) := by decide +kernel
theorem dPf_50 : decode method_4_code 50 = .ok (.iconst 0, 1) := by decide +kernel
theorem dPf_51 : decode method_4_code 51 = .ok (.aload_n 0, 1) := by decide +kernel
theorem dPf_52 : decode method_4_code 52 = .ok (.iconst 0, 1) := by decide +kernel
theorem dPf_53 : decode method_4_code 53 = .ok (.caload, 1) := by decide +kernel
theorem dPf_54 : decode method_4_code 54 = .ok (.castore, 1) := by decide +kernel
theorem dPf_55 : decode method_4_code 55 = .ok (.dup, 1) := by decide +kernel
theorem dPf_56 : decode method_4_code 56 = .ok (.iconst 1, 1) := by decide +kernel
theorem dPf_57 : decode method_4_code 57 = .ok (.aload_n 0, 1) := by decide +kernel
theorem dPf_58 : decode method_4_code 58 = .ok (.iconst 1, 1) := by decide +kernel
theorem dPf_59 : decode method_4_code 59 = .ok (.caload, 1) := by decide +kernel
theorem dPf_60 : decode method_4_code 60 = .ok (.castore, 1) := by decide +kernel
theorem dPf_61 : decode method_4_code 61 = .ok (.invokespecial 44, 3) := by decide +kernel
theorem dPf_64 : decode method_4_code 64 = .ok (.areturn, 1) := by decide +kernel
theorem dPf_65 : decode method_4_code 65 = .ok (.iload_n 1, 1) := by decide +kernel
theorem dPf_66 : decode method_4_code 66 = .ok (.iconst 3, 1) := by decide +kernel
theorem dPf_67 : decode method_4_code 67 = .ok (.if_icmp .ne 32, 3) := by decide +kernel
theorem dPf_70 : decode method_4_code 70 = .ok (.new 39, 3) := by decide +kernel
theorem dPf_73 : decode method_4_code 73 = .ok (.dup, 1) := by decide +kernel
theorem dPf_74 : decode method_4_code 74 = .ok (.iconst 3, 1) := by decide +kernel
theorem dPf_75 : decode method_4_code 75 = .ok (.newarray .char, 2) := by decide +kernel
theorem dPf_77 : decode method_4_code 77 = .ok (.dup, 1) := by decide +kernel
theorem dPf_78 : decode method_4_code 78 = .ok (.iconst 0, 1) := by decide +kernel
theorem dPf_79 : decode method_4_code 79 = .ok (.aload_n 0, 1) := by decide +kernel
theorem dPf_80 : decode method_4_code 80 = .ok (.iconst 0, 1) := by decide +kernel
theorem dPf_81 : decode method_4_code 81 = .ok (.caload, 1) := by decide +kernel
theorem dPf_82 : decode method_4_code 82 = .ok (.castore, 1) := by decide +kernel
theorem dPf_83 : decode method_4_code 83 = .ok (.dup, 1) := by decide +kernel
theorem dPf_84 : decode method_4_code 84 = .ok (.iconst 1, 1) := by decide +kernel
theorem dPf_85 : decode method_4_code 85 = .ok (.aload_n 0, 1) := by decide +kernel
theorem dPf_86 : decode method_4_code 86 = .ok (.iconst 1, 1) := by decide +kernel
theorem dPf_87 : decode method_4_code 87 = .ok (.caload, 1) := by decide +kernel
theorem dPf_88 : decode method_4_code 88 = .ok (.castore, 1) := by decide +kernel
theorem dPf_89 : decode method_4_code 89 = .ok (.dup, 1) := by decide +kernel
theorem dPf_90 : decode method_4_code 90 = .ok (.iconst 2, 1) := by decide +kernel
theorem dPf_91 : decode method_4_code 91 = .ok (.aload_n 0, 1) := by decide +kernel
theorem dPf_92 : decode method_4_code 92 = .ok (.iconst 2, 1) := by decide +kernel
theorem dPf_93 : decode method_4_code 93 = .ok (.caload, 1) := by decide +kernel
theorem dPf_94 : decode method_4_code 94 = .ok (.castore, 1) := by decide +kernel
theorem dPf_95 : decode method_4_code 95 = .ok (.invokespecial 44, 3) := by decide +kernel
theorem dPf_98 : decode method_4_code 98 = .ok (.areturn, 1) := by decide +kernel
theorem dPf_99 : decode method_4_code 99 = .ok (.iload_n 1, 1) := by decide +kernel
theorem dPf_100 : decode method_4_code 100 = .ok (.iconst 4, 1) := by decide +kernel
theorem dPf_101 : decode method_4_code 101 = .ok (.if_icmp .ne 38, 3) := by decide +kernel
theorem dPf_104 : decode method_4_code 104 = .ok (.new 39, 3) := by decide +kernel
theorem dPf_107 : decode method_4_code 107 = .ok (.dup, 1) := by decide +kernel
theorem dPf_108 : decode method_4_code 108 = .ok (.iconst 4, 1) := by decide +kernel
theorem dPf_109 : decode method_4_code 109 = .ok (.newarray .char, 2) := by decide +kernel
theorem dPf_111 : decode method_4_code 111 = .ok (.dup, 1) := by decide +kernel
theorem dPf_112 : decode method_4_code 112 = .ok (.iconst 0, 1) := by decide +kernel
theorem dPf_113 : decode method_4_code 113 = .ok (.aload_n 0, 1) := by decide +kernel
theorem dPf_114 : decode method_4_code 114 = .ok (.iconst 0, 1) := by decide +kernel
theorem dPf_115 : decode method_4_code 115 = .ok (.caload, 1) := by decide +kernel
theorem dPf_116 : decode method_4_code 116 = .ok (.castore, 1) := by decide +kernel
theorem dPf_117 : decode method_4_code 117 = .ok (.dup, 1) := by decide +kernel
theorem dPf_118 : decode method_4_code 118 = .ok (.iconst 1, 1) := by decide +kernel
theorem dPf_119 : decode method_4_code 119 = .ok (.aload_n 0, 1) := by decide +kernel
theorem dPf_120 : decode method_4_code 120 = .ok (.iconst 1, 1) := by decide +kernel
theorem dPf_121 : decode method_4_code 121 = .ok (.caload, 1) := by decide +kernel
theorem dPf_122 : decode method_4_code 122 = .ok (.castore, 1) := by decide +kernel
theorem dPf_123 : decode method_4_code 123 = .ok (.dup, 1) := by decide +kernel
theorem dPf_124 : decode method_4_code 124 = .ok (.iconst 2, 1) := by decide +kernel
theorem dPf_125 : decode method_4_code 125 = .ok (.aload_n 0, 1) := by decide +kernel
theorem dPf_126 : decode method_4_code 126 = .ok (.iconst 2, 1) := by decide +kernel
theorem dPf_127 : decode method_4_code 127 = .ok (.caload, 1) := by decide +kernel
theorem dPf_128 : decode method_4_code 128 = .ok (.castore, 1) := by decide +kernel
theorem dPf_129 : decode method_4_code 129 = .ok (.dup, 1) := by decide +kernel
theorem dPf_130 : decode method_4_code 130 = .ok (.iconst 3, 1) := by decide +kernel
theorem dPf_131 : decode method_4_code 131 = .ok (.aload_n 0, 1) := by decide +kernel
theorem dPf_132 : decode method_4_code 132 = .ok (.iconst 3, 1) := by decide +kernel
theorem dPf_133 : decode method_4_code 133 = .ok (.caload, 1) := by decide +kernel
theorem dPf_134 : decode method_4_code 134 = .ok (.castore, 1) := by decide +kernel
theorem dPf_135 : decode method_4_code 135 = .ok (.invokespecial 44, 3) := by decide +kernel
theorem dPf_138 : decode method_4_code 138 = .ok (.areturn, 1) := by decide +kernel
theorem dPf_139 : decode method_4_code 139 = .ok (.iload_n 1, 1) := by decide +kernel
theorem dPf_140 : decode method_4_code 140 = .ok (.iconst 5, 1) := by decide +kernel
theorem dPf_141 : decode method_4_code 141 = .ok (.if_icmp .ne 44, 3) := by decide +kernel
theorem dPf_144 : decode method_4_code 144 = .ok (.new 39, 3) := by decide +kernel
theorem dPf_147 : decode method_4_code 147 = .ok (.dup, 1) := by decide +kernel
theorem dPf_148 : decode method_4_code 148 = .ok (.iconst 5, 1) := by decide +kernel
theorem dPf_149 : decode method_4_code 149 = .ok (.newarray .char, 2) := by decide +kernel
theorem dPf_151 : decode method_4_code 151 = .ok (.dup, 1) := by decide +kernel
theorem dPf_152 : decode method_4_code 152 = .ok (.iconst 0, 1) := by decide +kernel
theorem dPf_153 : decode method_4_code 153 = .ok (.aload_n 0, 1) := by decide +kernel
theorem dPf_154 : decode method_4_code 154 = .ok (.iconst 0, 1) := by decide +kernel
theorem dPf_155 : decode method_4_code 155 = .ok (.caload, 1) := by decide +kernel
theorem dPf_156 : decode method_4_code 156 = .ok (.castore, 1) := by decide +kernel
theorem dPf_157 : decode method_4_code 157 = .ok (.dup, 1) := by decide +kernel
theorem dPf_158 : decode method_4_code 158 = .ok (.iconst 1, 1) := by decide +kernel
theorem dPf_159 : decode method_4_code 159 = .ok (.aload_n 0, 1) := by decide +kernel
theorem dPf_160 : decode method_4_code 160 = .ok (.iconst 1, 1) := by decide +kernel
theorem dPf_161 : decode method_4_code 161 = .ok (.caload, 1) := by decide +kernel
theorem dPf_162 : decode method_4_code 162 = .ok (.castore, 1) := by decide +kernel
theorem dPf_163 : decode method_4_code 163 = .ok (.dup, 1) := by decide +kernel
theorem dPf_164 : decode method_4_code 164 = .ok (.iconst 2, 1) := by decide +kernel
theorem dPf_165 : decode method_4_code 165 = .ok (.aload_n 0, 1) := by decide +kernel
theorem dPf_166 : decode method_4_code 166 = .ok (.iconst 2, 1) := by decide +kernel
theorem dPf_167 : decode method_4_code 167 = .ok (.caload, 1) := by decide +kernel
theorem dPf_168 : decode method_4_code 168 = .ok (.castore, 1) := by decide +kernel
theorem dPf_169 : decode method_4_code 169 = .ok (.dup, 1) := by decide +kernel
theorem dPf_170 : decode method_4_code 170 = .ok (.iconst 3, 1) := by decide +kernel
theorem dPf_171 : decode method_4_code 171 = .ok (.aload_n 0, 1) := by decide +kernel
theorem dPf_172 : decode method_4_code 172 = .ok (.iconst 3, 1) := by decide +kernel
theorem dPf_173 : decode method_4_code 173 = .ok (.caload, 1) := by decide +kernel
theorem dPf_174 : decode method_4_code 174 = .ok (.castore, 1) := by decide +kernel
theorem dPf_175 : decode method_4_code 175 = .ok (.dup, 1) := by decide +kernel
theorem dPf_176 : decode method_4_code 176 = .ok (.iconst 4, 1) := by decide +kernel
theorem dPf_177 : decode method_4_code 177 = .ok (.aload_n 0, 1) := by decide +kernel
theorem dPf_178 : decode method_4_code 178 = .ok (.iconst 4, 1) := by decide +kernel
theorem dPf_179 : decode method_4_code 179 = .ok (.caload, 1) := by decide +kernel
theorem dPf_180 : decode method_4_code 180 = .ok (.castore, 1) := by decide +kernel
theorem dPf_181 : decode method_4_code 181 = .ok (.invokespecial 44, 3) := by decide +kernel
theorem dPf_184 : decode method_4_code 184 = .ok (.areturn, 1) := by decide +kernel
theorem dPf_185 : decode method_4_code 185 = .ok (.iload_n 1, 1) := by decide +kernel
theorem dPf_186 : decode method_4_code 186 = .ok (.bipush 6, 2) := by decide +kernel
theorem dPf_188 : decode method_4_code 188 = .ok (.if_icmp .ne 51, 3) := by decide +kernel
theorem dPf_191 : decode method_4_code 191 = .ok (.new 39, 3) := by decide +kernel
theorem dPf_194 : decode method_4_code 194 = .ok (.dup, 1) := by decide +kernel
theorem dPf_195 : decode method_4_code 195 = .ok (.bipush 6, 2) := by decide +kernel
theorem dPf_197 : decode method_4_code 197 = .ok (.newarray .char, 2) := by decide +kernel
theorem dPf_199 : decode method_4_code 199 = .ok (.dup, 1) := by decide +kernel
theorem dPf_200 : decode method_4_code 200 = .ok (.iconst 0, 1) := by decide +kernel
theorem dPf_201 : decode method_4_code 201 = .ok (.aload_n 0, 1) := by decide +kernel
theorem dPf_202 : decode method_4_code 202 = .ok (.iconst 0, 1) := by decide +kernel
theorem dPf_203 : decode method_4_code 203 = .ok (.caload, 1) := by decide +kernel
theorem dPf_204 : decode method_4_code 204 = .ok (.castore, 1) := by decide +kernel
theorem dPf_205 : decode method_4_code 205 = .ok (.dup, 1) := by decide +kernel
theorem dPf_206 : decode method_4_code 206 = .ok (.iconst 1, 1) := by decide +kernel
theorem dPf_207 : decode method_4_code 207 = .ok (.aload_n 0, 1) := by decide +kernel
theorem dPf_208 : decode method_4_code 208 = .ok (.iconst 1, 1) := by decide +kernel
theorem dPf_209 : decode method_4_code 209 = .ok (.caload, 1) := by decide +kernel
theorem dPf_210 : decode method_4_code 210 = .ok (.castore, 1) := by decide +kernel
theorem dPf_211 : decode method_4_code 211 = .ok (.dup, 1) := by decide +kernel
theorem dPf_212 : decode method_4_code 212 = .ok (.iconst 2, 1) := by decide +kernel
theorem dPf_213 : decode method_4_code 213 = .ok (.aload_n 0, 1) := by decide +kernel
theorem dPf_214 : decode method_4_code 214 = .ok (.iconst 2, 1) := by decide +kernel
theorem dPf_215 : decode method_4_code 215 = .ok (.caload, 1) := by decide +kernel
theorem dPf_216 : decode method_4_code 216 = .ok (.castore, 1) := by decide +kernel
theorem dPf_217 : decode method_4_code 217 = .ok (.dup, 1) := by decide +kernel
theorem dPf_218 : decode method_4_code 218 = .ok (.iconst 3, 1) := by decide +kernel
theorem dPf_219 : decode method_4_code 219 = .ok (.aload_n 0, 1) := by decide +kernel
theorem dPf_220 : decode method_4_code 220 = .ok (.iconst 3, 1) := by decide +kernel
theorem dPf_221 : decode method_4_code 221 = .ok (.caload, 1) := by decide +kernel
theorem dPf_222 : decode method_4_code 222 = .ok (.castore, 1) := by decide +kernel
theorem dPf_223 : decode method_4_code 223 = .ok (.dup, 1) := by decide +kernel
theorem dPf_224 : decode method_4_code 224 = .ok (.iconst 4, 1) := by decide +kernel
theorem dPf_225 : decode method_4_code 225 = .ok (.aload_n 0, 1) := by decide +kernel
theorem dPf_226 : decode method_4_code 226 = .ok (.iconst 4, 1) := by decide +kernel
theorem dPf_227 : decode method_4_code 227 = .ok (.caload, 1) := by decide +kernel
theorem dPf_228 : decode method_4_code 228 = .ok (.castore, 1) := by decide +kernel
theorem dPf_229 : decode method_4_code 229 = .ok (.dup, 1) := by decide +kernel
theorem dPf_230 : decode method_4_code 230 = .ok (.iconst 5, 1) := by decide +kernel
theorem dPf_231 : decode method_4_code 231 = .ok (.aload_n 0, 1) := by decide +kernel
theorem dPf_232 : decode method_4_code 232 = .ok (.iconst 5, 1) := by decide +kernel
theorem dPf_233 : decode method_4_code 233 = .ok (.caload, 1) := by decide +kernel
theorem dPf_234 : decode method_4_code 234 = .ok (.castore, 1) := by decide +kernel
theorem dPf_235 : decode method_4_code 235 = .ok (.invokespecial 44, 3) := by decide +kernel
theorem dPf_238 : decode method_4_code 238 = .ok (.areturn, 1) := by decide +kernel
theorem dPf_239 : decode method_4_code 239 = .ok (.iload_n 1, 1) := by decide +kernel
theorem dPf_240 : decode method_4_code 240 = .ok (.bipush 7, 2) := by decide +kernel
theorem dPf_242 : decode method_4_code 242 = .ok (.if_icmp .ne 59, 3) := by decide +kernel
theorem dPf_245 : decode method_4_code 245 = .ok (.new 39, 3) := by decide +kernel
theorem dPf_248 : decode method_4_code 248 = .ok (.dup, 1) := by decide +kernel
theorem dPf_249 : decode method_4_code 249 = .ok (.bipush 7, 2) := by decide +kernel
theorem dPf_251 : decode method_4_code 251 = .ok (.newarray .char, 2) := by decide +kernel
theorem dPf_253 : decode method_4_code 253 = .ok (.dup, 1) := by decide +kernel
theorem dPf_254 : decode method_4_code 254 = .ok (.iconst 0, 1) := by decide +kernel
theorem dPf_255 : decode method_4_code 255 = .ok (.aload_n 0, 1) := by decide +kernel
theorem dPf_256 : decode method_4_code 256 = .ok (.iconst 0, 1) := by decide +kernel
theorem dPf_257 : decode method_4_code 257 = .ok (.caload, 1) := by decide +kernel
theorem dPf_258 : decode method_4_code 258 = .ok (.castore, 1) := by decide +kernel
theorem dPf_259 : decode method_4_code 259 = .ok (.dup, 1) := by decide +kernel
theorem dPf_260 : decode method_4_code 260 = .ok (.iconst 1, 1) := by decide +kernel
theorem dPf_261 : decode method_4_code 261 = .ok (.aload_n 0, 1) := by decide +kernel
theorem dPf_262 : decode method_4_code 262 = .ok (.iconst 1, 1) := by decide +kernel
theorem dPf_263 : decode method_4_code 263 = .ok (.caload, 1) := by decide +kernel
theorem dPf_264 : decode method_4_code 264 = .ok (.castore, 1) := by decide +kernel
theorem dPf_265 : decode method_4_code 265 = .ok (.dup, 1) := by decide +kernel
theorem dPf_266 : decode method_4_code 266 = .ok (.iconst 2, 1) := by decide +kernel
theorem dPf_267 : decode method_4_code 267 = .ok (.aload_n 0, 1) := by decide +kernel
theorem dPf_268 : decode method_4_code 268 = .ok (.iconst 2, 1) := by decide +kernel
theorem dPf_269 : decode method_4_code 269 = .ok (.caload, 1) := by decide +kernel
theorem dPf_270 : decode method_4_code 270 = .ok (.castore, 1) := by decide +kernel
theorem dPf_271 : decode method_4_code 271 = .ok (.dup, 1) := by decide +kernel
theorem dPf_272 : decode method_4_code 272 = .ok (.iconst 3, 1) := by decide +kernel
theorem dPf_273 : decode method_4_code 273 = .ok (.aload_n 0, 1) := by decide +kernel
theorem dPf_274 : decode method_4_code 274 = .ok (.iconst 3, 1) := by decide +kernel
theorem dPf_275 : decode method_4_code 275 = .ok (.caload, 1) := by decide +kernel
theorem dPf_276 : decode method_4_code 276 = .ok (.castore, 1) := by decide +kernel
theorem dPf_277 : decode method_4_code 277 = .ok (.dup, 1) := by decide +kernel
theorem dPf_278 : decode method_4_code 278 = .ok (.iconst 4, 1) := by decide +kernel
theorem dPf_279 : decode method_4_code 279 = .ok (.aload_n 0, 1) := by decide +kernel
theorem dPf_280 : decode method_4_code 280 = .ok (.iconst 4, 1) := by decide +kernel
theorem dPf_281 : decode method_4_code 281 = .ok (.caload, 1) := by decide +kernel
theorem dPf_282 : decode method_4_code 282 = .ok (.castore, 1) := by decide +kernel
theorem dPf_283 : decode method_4_code 283 = .ok (.dup, 1) := by decide +kernel
theorem dPf_284 : decode method_4_code 284 = .ok (.iconst 5, 1) := by decide +kernel
theorem dPf_285 : decode method_4_code 285 = .ok (.aload_n 0, 1) := by decide +kernel
theorem dPf_286 : decode method_4_code 286 = .ok (.iconst 5, 1) := by decide +kernel
theorem dPf_287 : decode method_4_code 287 = .ok (.caload, 1) := by decide +kernel
theorem dPf_288 : decode method_4_code 288 = .ok (.castore, 1) := by decide +kernel
theorem dPf_289 : decode method_4_code 289 = .ok (.dup, 1) := by decide +kernel
theorem dPf_290 : decode method_4_code 290 = .ok (.bipush 6, 2) := by decide +kernel
theorem dPf_292 : decode method_4_code 292 = .ok (.aload_n 0, 1) := by decide +kernel
theorem dPf_293 : decode method_4_code 293 = .ok (.bipush 6, 2) := by decide +kernel
theorem dPf_295 : decode method_4_code 295 = .ok (.caload, 1) := by decide +kernel
theorem dPf_296 : decode method_4_code 296 = .ok (.castore, 1) := by decide +kernel
theorem dPf_297 : decode method_4_code 297 = .ok (.invokespecial 44, 3) := by decide +kernel
theorem dPf_300 : decode method_4_code 300 = .ok (.areturn, 1) := by decide +kernel
theorem dPf_301 : decode method_4_code 301 = .ok (.iload_n 1, 1) := by decide +kernel
theorem dPf_302 : decode method_4_code 302 = .ok (.bipush 8, 2) := by decide +kernel
theorem dPf_304 : decode method_4_code 304 = .ok (.if_icmp .ne 67, 3) := by decide +kernel
theorem dPf_307 : decode method_4_code 307 = .ok (.new 39, 3) := by decide +kernel
theorem dPf_310 : decode method_4_code 310 = .ok (.dup, 1) := by decide +kernel
theorem dPf_311 : decode method_4_code 311 = .ok (.bipush 8, 2) := by decide +kernel
theorem dPf_313 : decode method_4_code 313 = .ok (.newarray .char, 2) := by decide +kernel
theorem dPf_315 : decode method_4_code 315 = .ok (.dup, 1) := by decide +kernel
theorem dPf_316 : decode method_4_code 316 = .ok (.iconst 0, 1) := by decide +kernel
theorem dPf_317 : decode method_4_code 317 = .ok (.aload_n 0, 1) := by decide +kernel
theorem dPf_318 : decode method_4_code 318 = .ok (.iconst 0, 1) := by decide +kernel
theorem dPf_319 : decode method_4_code 319 = .ok (.caload, 1) := by decide +kernel
theorem dPf_320 : decode method_4_code 320 = .ok (.castore, 1) := by decide +kernel
theorem dPf_321 : decode method_4_code 321 = .ok (.dup, 1) := by decide +kernel
theorem dPf_322 : decode method_4_code 322 = .ok (.iconst 1, 1) := by decide +kernel
theorem dPf_323 : decode method_4_code 323 = .ok (.aload_n 0, 1) := by decide +kernel
theorem dPf_324 : decode method_4_code 324 = .ok (.iconst 1, 1) := by decide +kernel
theorem dPf_325 : decode method_4_code 325 = .ok (.caload, 1) := by decide +kernel
theorem dPf_326 : decode method_4_code 326 = .ok (.castore, 1) := by decide +kernel
theorem dPf_327 : decode method_4_code 327 = .ok (.dup, 1) := by decide +kernel
theorem dPf_328 : decode method_4_code 328 = .ok (.iconst 2, 1) := by decide +kernel
theorem dPf_329 : decode method_4_code 329 = .ok (.aload_n 0, 1) := by decide +kernel
theorem dPf_330 : decode method_4_code 330 = .ok (.iconst 2, 1) := by decide +kernel
theorem dPf_331 : decode method_4_code 331 = .ok (.caload, 1) := by decide +kernel
theorem dPf_332 : decode method_4_code 332 = .ok (.castore, 1) := by decide +kernel
theorem dPf_333 : decode method_4_code 333 = .ok (.dup, 1) := by decide +kernel
theorem dPf_334 : decode method_4_code 334 = .ok (.iconst 3, 1) := by decide +kernel
theorem dPf_335 : decode method_4_code 335 = .ok (.aload_n 0, 1) := by decide +kernel
theorem dPf_336 : decode method_4_code 336 = .ok (.iconst 3, 1) := by decide +kernel
theorem dPf_337 : decode method_4_code 337 = .ok (.caload, 1) := by decide +kernel
theorem dPf_338 : decode method_4_code 338 = .ok (.castore, 1) := by decide +kernel
theorem dPf_339 : decode method_4_code 339 = .ok (.dup, 1) := by decide +kernel
theorem dPf_340 : decode method_4_code 340 = .ok (.iconst 4, 1) := by decide +kernel
theorem dPf_341 : decode method_4_code 341 = .ok (.aload_n 0, 1) := by decide +kernel
theorem dPf_342 : decode method_4_code 342 = .ok (.iconst 4, 1) := by decide +kernel
theorem dPf_343 : decode method_4_code 343 = .ok (.caload, 1) := by decide +kernel
theorem dPf_344 : decode method_4_code 344 = .ok (.castore, 1) := by decide +kernel
theorem dPf_345 : decode method_4_code 345 = .ok (.dup, 1) := by decide +kernel
theorem dPf_346 : decode method_4_code 346 = .ok (.iconst 5, 1) := by decide +kernel
theorem dPf_347 : decode method_4_code 347 = .ok (.aload_n 0, 1) := by decide +kernel
theorem dPf_348 : decode method_4_code 348 = .ok (.iconst 5, 1) := by decide +kernel
theorem dPf_349 : decode method_4_code 349 = .ok (.caload, 1) := by decide +kernel
theorem dPf_350 : decode method_4_code 350 = .ok (.castore, 1) := by decide +kernel
theorem dPf_351 : decode method_4_code 351 = .ok (.dup, 1) := by decide +kernel
theorem dPf_352 : decode method_4_code 352 = .ok (.bipush 6, 2) := by decide +kernel
theorem dPf_354 : decode method_4_code 354 = .ok (.aload_n 0, 1) := by decide +kernel
theorem dPf_355 : decode method_4_code 355 = .ok (.bipush 6, 2) := by decide +kernel
theorem dPf_357 : decode method_4_code 357 = .ok (.caload, 1) := by decide +kernel
theorem dPf_358 : decode method_4_code 358 = .ok (.castore, 1) := by decide +kernel
theorem dPf_359 : decode method_4_code 359 = .ok (.dup, 1) := by decide +kernel
theorem dPf_360 : decode method_4_code 360 = .ok (.bipush 7, 2) := by decide +kernel
theorem dPf_362 : decode method_4_code 362 = .ok (.aload_n 0, 1) := by decide +kernel
theorem dPf_363 : decode method_4_code 363 = .ok (.bipush 7, 2) := by decide +kernel
theorem dPf_365 : decode method_4_code 365 = .ok (.caload, 1) := by decide +kernel
theorem dPf_366 : decode method_4_code 366 = .ok (.castore, 1) := by decide +kernel
theorem dPf_367 : decode method_4_code 367 = .ok (.invokespecial 44, 3) := by decide +kernel
theorem dPf_370 : decode method_4_code 370 = .ok (.areturn, 1) := by decide +kernel
theorem dPf_371 : decode method_4_code 371 = .ok (.new 39, 3) := by decide +kernel
theorem dPf_374 : decode method_4_code 374 = .ok (.dup, 1) := by decide +kernel
theorem dPf_375 : decode method_4_code 375 = .ok (.bipush 9, 2) := by decide +kernel
theorem dPf_377 : decode method_4_code 377 = .ok (.newarray .char, 2) := by decide +kernel
theorem dPf_379 : decode method_4_code 379 = .ok (.dup, 1) := by decide +kernel
theorem dPf_380 : decode method_4_code 380 = .ok (.iconst 0, 1) := by decide +kernel
theorem dPf_381 : decode method_4_code 381 = .ok (.aload_n 0, 1) := by decide +kernel
theorem dPf_382 : decode method_4_code 382 = .ok (.iconst 0, 1) := by decide +kernel
theorem dPf_383 : decode method_4_code 383 = .ok (.caload, 1) := by decide +kernel
theorem dPf_384 : decode method_4_code 384 = .ok (.castore, 1) := by decide +kernel
theorem dPf_385 : decode method_4_code 385 = .ok (.dup, 1) := by decide +kernel
theorem dPf_386 : decode method_4_code 386 = .ok (.iconst 1, 1) := by decide +kernel
theorem dPf_387 : decode method_4_code 387 = .ok (.aload_n 0, 1) := by decide +kernel
theorem dPf_388 : decode method_4_code 388 = .ok (.iconst 1, 1) := by decide +kernel
theorem dPf_389 : decode method_4_code 389 = .ok (.caload, 1) := by decide +kernel
theorem dPf_390 : decode method_4_code 390 = .ok (.castore, 1) := by decide +kernel
theorem dPf_391 : decode method_4_code 391 = .ok (.dup, 1) := by decide +kernel
theorem dPf_392 : decode method_4_code 392 = .ok (.iconst 2, 1) := by decide +kernel
theorem dPf_393 : decode method_4_code 393 = .ok (.aload_n 0, 1) := by decide +kernel
theorem dPf_394 : decode method_4_code 394 = .ok (.iconst 2, 1) := by decide +kernel
theorem dPf_395 : decode method_4_code 395 = .ok (.caload, 1) := by decide +kernel
theorem dPf_396 : decode method_4_code 396 = .ok (.castore, 1) := by decide +kernel
theorem dPf_397 : decode method_4_code 397 = .ok (.dup, 1) := by decide +kernel
theorem dPf_398 : decode method_4_code 398 = .ok (.iconst 3, 1) := by decide +kernel
theorem dPf_399 : decode method_4_code 399 = .ok (.aload_n 0, 1) := by decide +kernel
theorem dPf_400 : decode method_4_code 400 = .ok (.iconst 3, 1) := by decide +kernel
theorem dPf_401 : decode method_4_code 401 = .ok (.caload, 1) := by decide +kernel
theorem dPf_402 : decode method_4_code 402 = .ok (.castore, 1) := by decide +kernel
theorem dPf_403 : decode method_4_code 403 = .ok (.dup, 1) := by decide +kernel
theorem dPf_404 : decode method_4_code 404 = .ok (.iconst 4, 1) := by decide +kernel
theorem dPf_405 : decode method_4_code 405 = .ok (.aload_n 0, 1) := by decide +kernel
theorem dPf_406 : decode method_4_code 406 = .ok (.iconst 4, 1) := by decide +kernel
theorem dPf_407 : decode method_4_code 407 = .ok (.caload, 1) := by decide +kernel
theorem dPf_408 : decode method_4_code 408 = .ok (.castore, 1) := by decide +kernel
theorem dPf_409 : decode method_4_code 409 = .ok (.dup, 1) := by decide +kernel
theorem dPf_410 : decode method_4_code 410 = .ok (.iconst 5, 1) := by decide +kernel
theorem dPf_411 : decode method_4_code 411 = .ok (.aload_n 0, 1) := by decide +kernel
theorem dPf_412 : decode method_4_code 412 = .ok (.iconst 5, 1) := by decide +kernel
theorem dPf_413 : decode method_4_code 413 = .ok (.caload, 1) := by decide +kernel
theorem dPf_414 : decode method_4_code 414 = .ok (.castore, 1) := by decide +kernel
theorem dPf_415 : decode method_4_code 415 = .ok (.dup, 1) := by decide +kernel
theorem dPf_416 : decode method_4_code 416 = .ok (.bipush 6, 2) := by decide +kernel
theorem dPf_418 : decode method_4_code 418 = .ok (.aload_n 0, 1) := by decide +kernel
theorem dPf_419 : decode method_4_code 419 = .ok (.bipush 6, 2) := by decide +kernel
theorem dPf_421 : decode method_4_code 421 = .ok (.caload, 1) := by decide +kernel
theorem dPf_422 : decode method_4_code 422 = .ok (.castore, 1) := by decide +kernel
theorem dPf_423 : decode method_4_code 423 = .ok (.dup, 1) := by decide +kernel
theorem dPf_424 : decode method_4_code 424 = .ok (.bipush 7, 2) := by decide +kernel
theorem dPf_426 : decode method_4_code 426 = .ok (.aload_n 0, 1) := by decide +kernel
theorem dPf_427 : decode method_4_code 427 = .ok (.bipush 7, 2) := by decide +kernel
theorem dPf_429 : decode method_4_code 429 = .ok (.caload, 1) := by decide +kernel
theorem dPf_430 : decode method_4_code 430 = .ok (.castore, 1) := by decide +kernel
theorem dPf_431 : decode method_4_code 431 = .ok (.dup, 1) := by decide +kernel
theorem dPf_432 : decode method_4_code 432 = .ok (.bipush 8, 2) := by decide +kernel
theorem dPf_434 : decode method_4_code 434 = .ok (.aload_n 0, 1) := by decide +kernel
theorem dPf_435 : decode method_4_code 435 = .ok (.bipush 8, 2) := by decide +kernel
theorem dPf_437 : decode method_4_code 437 = .ok (.caload, 1) := by decide +kernel
theorem dPf_438 : decode method_4_code 438 = .ok (.castore, 1) := by decide +kernel
theorem dPf_439 : decode method_4_code 439 = .ok (.invokespecial 44, 3) := by decide +kernel
theorem dPf_442 : decode method_4_code 442 = .ok (.areturn, 1) := by decide +kernel
theorem efPf (m : MethodId) (x0 : Addr) (x1 : Int32) : entryFrame m #[(.ref x0), (.int x1)] 2 = mkF m 0 #[.val (.ref x0), .val (.int x1)] [] := by first | (simp [entryFrame, mkF, argsToLocals, Value.category]; done) | rfl
def Q_rmPf (Z : State) (ca : Addr) (kc : ClassId) (dv : Value) (d0 d1 d2 d3 d4 d5 d6 d7 d8 : Int32) (n : Nat) (h0 : Heap) (z0 : Int32) (v : Option Value) (h : Heap) (L : List Loc) : Prop := ∃ x, v = some (.ref x) ∧ own_S Z h x (([d0, d1, d2, d3, d4, d5, d6, d7, d8] : List Int32).take n) ∧ Ext h0 h ∧ Fr Z.heap.size L
set_option maxRecDepth 65536 in
set_option maxHeartbeats 40000000 in
theorem rmPf (l : Launch) (Z : State) (a0 : Array Value) (hw : ∀ d ∈ tables_1, d.before a0 Z = true) (hEL : EW Z a0 EL) (ca : Addr) (kc : ClassId) (dv : Value) (d0 d1 d2 d3 d4 d5 d6 d7 d8 : Int32) (n : Nat) (h0 : Heap) (EZ : Ext Z.heap h0) (z0 : Int32) (O1 : Sta Z Z.heap "java/lang/String" "COMPACT_STRINGS" "Z" (.int z0)) (P5 : ¬ z0 = 0) (O3 : Sta Z Z.heap "java/lang/StringUTF16" "$assertionsDisabled" "Z" (.int 1)) (O4 : Sta Z Z.heap "java/lang/StringUTF16" "HI_BYTE_SHIFT" "I" (.int 0)) (O5 : Sta Z Z.heap "java/lang/StringUTF16" "LO_BYTE_SHIFT" "I" (.int 8)) (C0 : Arv Z h0 ca kc .char (9 : Int32) (([d0, d1, d2, d3, d4, d5, d6, d7, d8] : List Int32).map Value.int) dv) (hp : ∀ c ∈ ([d0, d1, d2, d3, d4, d5, d6, d7, d8] : List Int32), ¬ c < 0 ∧ ¬ (65535 : Int32) < c) (hn : n ≤ 9) :
    MetFree l (⟨"com/example/kerb/kerb/call/AppendOnlyTextSnapshotPinLaw", "prefix", "([CI)Ljava/lang/String;"⟩ : MethodName) (head1 (Jvm.Cond.code (⟨"com/example/kerb/kerb/call/AppendOnlyTextSnapshotPinLaw", "prefix", "([CI)Ljava/lang/String;"⟩ : MethodName) method_4_code 2 (Option.some (FieldType.object "java/lang/String")) :: []) ({ frames := 6, cells := 6, slots := 64, locals := 88 } : Room)) (fun aa U => aa = #[(.ref ca), (.int (Int32.ofNat n))] ∧ Z.Warmed39 U.vm ∧ U.heap = h0 ∧ CHv Z EL U.vm h0 ∧ ∀ yy ∈ ([] : List Addr), Safe Z EL U.vm h0 yy) (fun _ _ _ _ _ => True) (fun _ U o U' => ∃ v L, o = .returned v ∧ (Q_rmPf Z ca kc dv d0 d1 d2 d3 d4 d5 d6 d7 d8 n h0 z0) v U'.heap L ∧ CHr Z EL U.vm U.heap U'.vm U'.heap ∧ ReturnedEndW U o U' L ({ frames := 6, cells := 6, slots := 64, locals := 88 } : Room).cells ({ frames := 6, cells := 6, slots := 64, locals := 88 } : Room).slots) := by
  refine own_walkW (by exact pnL) ?_
  intro p e s m below meth c T0 X0 hx hby hml hret hlk hnm hs0 e0 I0 hsf F hF
  refine own_on (fun _ => castTop (efPf m ca _)) ?_
  have M0 := own_ext_refl h0
  have N0 := Fr.nil Z.heap.size
  have pd0 := hp d0 (by simp)
  have nd0 := own_narc pd0.1 pd0.2
  have pd1 := hp d1 (by simp)
  have nd1 := own_narc pd1.1 pd1.2
  have pd2 := hp d2 (by simp)
  have nd2 := own_narc pd2.1 pd2.2
  have pd3 := hp d3 (by simp)
  have nd3 := own_narc pd3.1 pd3.2
  have pd4 := hp d4 (by simp)
  have nd4 := own_narc pd4.1 pd4.2
  have pd5 := hp d5 (by simp)
  have nd5 := own_narc pd5.1 pd5.2
  have pd6 := hp d6 (by simp)
  have nd6 := own_narc pd6.1 pd6.2
  have pd7 := hp d7 (by simp)
  have nd7 := own_narc pd7.1 pd7.2
  have pd8 := hp d8 (by simp)
  have nd8 := own_narc pd8.1 pd8.2
  have hcs : n = 0 ∨ n = 1 ∨ n = 2 ∨ n = 3 ∨ n = 4 ∨ n = 5 ∨ n = 6 ∨ n = 7 ∨ n = 8 ∨ n = 9 := by omega
  rcases hcs with rfl | rfl | rfl | rfl | rfl | rfl | rfl | rfl | rfl | rfl
  · show own_Go p e below F (T0.setTop (mkF m 0 #[.val (.ref ca), .val (.int ((0 : Int32)))] []))
    refine own_iload_n X0.here hx (hb hby dPf_0) rfl (pc' := 1) rfl ?_
    refine own_ifne X0.here hx (hb hby dPf_1) (by decide) (pc' := 15) (by decide) (pc2 := 4) rfl (fun q => absurd rfl q) (fun q1 => ?_)
    obtain ⟨T2, h2, X2, e2, E2, A2, D2, -, st2⟩ := newO X0 hx I0.1 I0.2.1 (hw _ (List.mem_of_getElem? (i := 8) rfl)) (hw _ (List.mem_of_getElem? (i := 9) rfl)) (hw _ (List.mem_of_getElem? (i := 10) rfl)) e0 (g := (mkF m 4 #[.val (.ref ca), .val (.int ((0 : Int32)))] [])) rfl (hb hby dPf_4) (by decide) (by decide)
    obtain ⟨a2, g2⟩ : ∃ z, z = h0.size := ⟨_, rfl⟩
    rw [← g2] at A2 D2 st2
    have ge3 : h0.size ≤ a2 := by rw [g2]; exact M0.1
    have sf2 := Safe.ext E2 I0.ch (Safe.new (Nat.le_of_eq g2.symm))
    have f4 := own_ext_trans M0 E2
    have J5 := I0.ext E2
    have F2_0 : Fld Z h2 a2 "java/lang/String" "value" "[B" (.null) := (D2 (Or.inr (hw _ (List.mem_of_getElem? (i := 23) rfl))) (ty := .array .byte) (by decide))
    have F2_1 : Fld Z h2 a2 "java/lang/String" "coder" "B" (.int ((0 : Int32))) := (D2 (Or.inr (hw _ (List.mem_of_getElem? (i := 24) rfl))) (ty := .byte) (by decide))
    refine own_on st2 ?_
    show own_Go p e below F (T2.setTop (mkF m 7 #[.val (.ref ca), .val (.int ((0 : Int32)))] [(.ref a2)]))
    have gz_a2 : Z.heap.size ≤ a2 := Nat.le_trans EZ.1 ge3
    refine own_dup X2.here hx (hb hby dPf_7) rfl (pc' := 8) rfl ?_
    refine own_iconst X2.here hx (hb hby dPf_8) (v := 0) rfl (pc' := 9) rfl ?_
    obtain ⟨T6, h6, k6, X6, e6, E6, A6, st6⟩ := newP X2 hx J5.1 (hw _ (List.mem_of_getElem? (i := 0) rfl)) e2 (g := (mkF m 9 #[.val (.ref ca), .val (.int ((0 : Int32)))] [(.int ((0 : Int32))), (.ref a2), (.ref a2)])) rfl (hb hby dPf_9) rfl (by decide : ¬ ((0 : Int32) < (0 : Int32))) (cap := 0) (by decide) (by decide) (by decide) (by decide)
    obtain ⟨a6, g6⟩ : ∃ z, z = h2.size := ⟨_, rfl⟩
    rw [← g6] at A6 st6
    have ne7 : a2 ≠ a6 := Nat.ne_of_lt (by rw [g6]; exact A2.lt)
    have ge8 : h0.size ≤ a6 := by rw [g6]; exact f4.1
    have f9 := own_ext_trans f4 E6
    have f10 := A2.ext E6
    have f11 := F2_0.ext E6
    have f12 := F2_1.ext E6
    have f13 := Safe.ext E6 J5.ch sf2
    have J14 := J5.ext E6
    have V6 : Arv Z h6 a6 k6 .char (0 : Int32) [] (.int (0 : Int32)) := (Arv.new A6 (by decide)).pad (pad_rep [] (.int (0 : Int32)) 0)
    refine own_on st6 ?_
    show own_Go p e below F (T6.setTop (mkF m 11 #[.val (.ref ca), .val (.int ((0 : Int32)))] [(.ref a6), (.ref a2), (.ref a2)]))
    obtain ⟨_, _, ⟨T15, L15, k15, n15⟩, -, X15, hS15, hG15, ⟨Lc15, hQ15, l15, y15, z15, C15⟩, st15⟩ := X6.specialBackS hx (y := (⟨"java/lang/String", "<init>", "([C)V"⟩ : MethodName)) rfl J14.2.1 (mvT J14.1 (hw _ (List.mem_of_getElem? (i := 11) rfl))) (mvT J14.1 (hw _ (List.mem_of_getElem? (i := 12) rfl))) (mvT J14.1 (hw _ (List.mem_of_getElem? (i := 13) rfl))) (by decide) (own_backW (W := 1) (rmE1 l Z a0 hw hEL a2 a6 k6 _ h6 gz_a2 f10 f11 f12 V6) J14.1 (hw _ (List.mem_of_getElem? (i := 13) rfl)) (hw _ (List.mem_of_getElem? (i := 10) rfl)) (by decide) (by decide) hEL J14.ch (fun y hy => by simp only [List.mem_cons, List.not_mem_nil, or_false] at hy; subst hy; exact ⟨f10.lt, f13⟩)) (g := (mkF m 11 #[.val (.ref ca), .val (.int ((0 : Int32)))] [(.ref a6), (.ref a2), (.ref a2)])) rfl (by rw [hml]; rfl) (Steps.refl _) (a := a2) (argsL := [(.ref a6)]) (rest := [(.ref a2)]) (lenOf pdE1 rfl) rfl (by show 2 * 0 + _ ≤ _; exact Nat.le_of_eq rfl) (hb hby dPf_11) (fun _ _ => ⟨rfl, e6, (Nat.le_of_ble_eq_true rfl), (Nat.le_of_ble_eq_true rfl)⟩)
    dsimp only [Pt.U, Pt.locs, Pt.cells, Pt.slots] at X15 hS15 hG15 l15 y15 z15 C15 st15 hQ15
    rw [l15, y15, z15] at X15
    replace X15 := (show Stand _ _ _ _ (s.setVm T15.vm) _ _ _ _ _ _ _ _ _ from X15)
    have I15 := J14.later hS15 (Nat.le_refl _) (by have q := hG15; rw [(e6 : _ = h6)] at q; exact q) C15
    obtain ⟨rfl, N15, K15, S15⟩ := hQ15
    refine own_to st15 ?_
    show own_Go p e below F (T15.setTop (mkF m 14 #[.val (.ref ca), .val (.int ((0 : Int32)))] [(.ref a2)]))
    have f16 := own_ext_keep f9 K15 (fun y hy => by simp only [List.mem_cons, List.not_mem_nil, or_false] at hy; rcases hy with rfl <;> assumption)
    have N17 := Fr.app N0 N15
    exact own_retAW X15 hx hlk hEL I15 rfl hret rfl rfl (hb hby dPf_14) (fun t ht hC hE => hF t _ _ _ _ (by rw [ht]; exact ⟨_, rfl, S15.S, f16, N17⟩) hC hE (by decide) (by decide))
  · show own_Go p e below F (T0.setTop (mkF m 0 #[.val (.ref ca), .val (.int ((1 : Int32)))] []))
    refine own_iload_n X0.here hx (hb hby dPf_0) rfl (pc' := 1) rfl ?_
    refine own_ifne X0.here hx (hb hby dPf_1) (by decide) (pc' := 15) (by decide) (pc2 := 4) rfl (fun q18 => ?_) (fun q => absurd q (by decide))
    refine own_iload_n X0.here hx (hb hby dPf_15) rfl (pc' := 16) rfl ?_
    refine own_iconst X0.here hx (hb hby dPf_16) (v := 1) rfl (pc' := 17) rfl ?_
    refine own_icmpne X0.here hx (hb hby dPf_17) (by decide) (pc' := 37) (by decide) (pc2 := 20) rfl (fun q => absurd rfl q) (fun q19 => ?_)
    obtain ⟨T20, h20, X20, e20, E20, A20, D20, -, st20⟩ := newO X0 hx I0.1 I0.2.1 (hw _ (List.mem_of_getElem? (i := 8) rfl)) (hw _ (List.mem_of_getElem? (i := 9) rfl)) (hw _ (List.mem_of_getElem? (i := 10) rfl)) e0 (g := (mkF m 20 #[.val (.ref ca), .val (.int ((1 : Int32)))] [])) rfl (hb hby dPf_20) (by decide) (by decide)
    obtain ⟨a20, g20⟩ : ∃ z, z = h0.size := ⟨_, rfl⟩
    rw [← g20] at A20 D20 st20
    have ne21 : ca ≠ a20 := Nat.ne_of_lt (by rw [g20]; exact C0.lt)
    have ge22 : h0.size ≤ a20 := by rw [g20]; exact M0.1
    have sf20 := Safe.ext E20 I0.ch (Safe.new (Nat.le_of_eq g20.symm))
    have f23 := own_ext_trans M0 E20
    have f24 := C0.ext E20
    have J25 := I0.ext E20
    have F20_0 : Fld Z h20 a20 "java/lang/String" "value" "[B" (.null) := (D20 (Or.inr (hw _ (List.mem_of_getElem? (i := 23) rfl))) (ty := .array .byte) (by decide))
    have F20_1 : Fld Z h20 a20 "java/lang/String" "coder" "B" (.int ((0 : Int32))) := (D20 (Or.inr (hw _ (List.mem_of_getElem? (i := 24) rfl))) (ty := .byte) (by decide))
    refine own_on st20 ?_
    show own_Go p e below F (T20.setTop (mkF m 23 #[.val (.ref ca), .val (.int ((1 : Int32)))] [(.ref a20)]))
    have gz_a20 : Z.heap.size ≤ a20 := Nat.le_trans EZ.1 ge22
    refine own_dup X20.here hx (hb hby dPf_23) rfl (pc' := 24) rfl ?_
    refine own_iconst X20.here hx (hb hby dPf_24) (v := 1) rfl (pc' := 25) rfl ?_
    obtain ⟨T26, h26, k26, X26, e26, E26, A26, st26⟩ := newP X20 hx J25.1 (hw _ (List.mem_of_getElem? (i := 0) rfl)) e20 (g := (mkF m 25 #[.val (.ref ca), .val (.int ((1 : Int32)))] [(.int ((1 : Int32))), (.ref a20), (.ref a20)])) rfl (hb hby dPf_25) rfl (by decide : ¬ ((1 : Int32) < (0 : Int32))) (cap := 1) (by decide) (by decide) (by decide) (by decide)
    obtain ⟨a26, g26⟩ : ∃ z, z = h20.size := ⟨_, rfl⟩
    rw [← g26] at A26 st26
    have ne27 : ca ≠ a26 := Nat.ne_of_lt (by rw [g26]; exact f24.lt)
    have ne28 : a20 ≠ a26 := Nat.ne_of_lt (by rw [g26]; exact A20.lt)
    have ge29 : h0.size ≤ a26 := by rw [g26]; exact f23.1
    have f30 := own_ext_trans f23 E26
    have f31 := f24.ext E26
    have f32 := A20.ext E26
    have f33 := F20_0.ext E26
    have f34 := F20_1.ext E26
    have f35 := Safe.ext E26 J25.ch sf20
    have J36 := J25.ext E26
    have V26 : Arv Z h26 a26 k26 .char (1 : Int32) [.int (0 : Int32)] (.int (0 : Int32)) := (Arv.new A26 (by decide)).pad (pad_rep [] (.int (0 : Int32)) 1)
    refine own_on st26 ?_
    show own_Go p e below F (T26.setTop (mkF m 27 #[.val (.ref ca), .val (.int ((1 : Int32)))] [(.ref a26), (.ref a20), (.ref a20)]))
    have gz_a26 : Z.heap.size ≤ a26 := Nat.le_trans EZ.1 ge29
    refine own_dup X26.here hx (hb hby dPf_27) rfl (pc' := 28) rfl ?_
    refine own_iconst X26.here hx (hb hby dPf_28) (v := 0) rfl (pc' := 29) rfl ?_
    refine own_aload_n X26.here hx (hb hby dPf_29) rfl rfl (pc' := 30) rfl ?_
    refine own_iconst X26.here hx (hb hby dPf_30) (v := 0) rfl (pc' := 31) rfl ?_
    refine own_caload X26 hx J36.1 e26 f31 (w := d0) (by decide) rfl (hb hby dPf_31) (pc' := 32) rfl ?_
    obtain ⟨T37, h37, X37, e37, W37, V37, st37⟩ := own_cast X26 hx J36.1 e26 V26 (i := 0) rfl (Nat.le_of_ble_eq_true rfl) (by decide) nd0 (g := (mkF m 32 #[.val (.ref ca), .val (.int ((1 : Int32)))] [(.int d0), (.int ((0 : Int32))), (.ref a26), (.ref a26), (.ref a20), (.ref a20)])) rfl rfl (hb hby dPf_32)
    replace V37 : Arv Z h37 a26 k26 .char (1 : Int32) [.int d0] (.int (0 : Int32)) := V37
    have f38 := own_ext_wr f30 W37 ge29
    have f39 := f31.other W37 ne27
    have f40 := f32.wr W37
    have f41 := f33.other W37 (Or.inl ne28)
    have f42 := f34.other W37 (Or.inl ne28)
    have f43 := Safe.wr W37 (Safe.arv J36.1.alike V26 (by decide)) J36.ch f35
    have J44 := J36.wr W37 (Safe.arv J36.1.alike V26 (by decide))
    have N45 := own_Fr_snoc (sl := ((0 : Int32)).toNatClampNeg) N0 gz_a26
    refine own_on st37 ?_
    show own_Go p e below F (T37.setTop (mkF m 33 #[.val (.ref ca), .val (.int ((1 : Int32)))] [(.ref a26), (.ref a20), (.ref a20)]))
    obtain ⟨_, _, ⟨T46, L46, k46, n46⟩, -, X46, ⟨Lc46, hQ46, l46, y46, z46⟩, st46⟩ := X37.specialBack hx (y := (⟨"java/lang/String", "<init>", "([C)V"⟩ : MethodName)) rfl J44.2.1 (mvT J44.1 (hw _ (List.mem_of_getElem? (i := 11) rfl))) (mvT J44.1 (hw _ (List.mem_of_getElem? (i := 12) rfl))) (mvT J44.1 (hw _ (List.mem_of_getElem? (i := 13) rfl))) (by decide) (backOf (W := 1) (rmI1 l Z a0 hw a20 a26 k26 [d0] (1 : Int32) (.int (0 : Int32)) h37 (own_ext_trans EZ f38) z0 O1 P5 O3 O4 O5 gz_a20 (Ne.symm ne28) f40 f41 f42 V37 rfl (Nat.le_of_ble_eq_true rfl) (fun c hc => hp c (List.mem_of_mem_take (i := 1) hc)) (Nat.le_of_ble_eq_true rfl) (Nat.le_of_ble_eq_true rfl)) J44.1 (hw _ (List.mem_of_getElem? (i := 13) rfl)) (hw _ (List.mem_of_getElem? (i := 10) rfl)) (by decide) (by decide)) (g := (mkF m 33 #[.val (.ref ca), .val (.int ((1 : Int32)))] [(.ref a26), (.ref a20), (.ref a20)])) rfl (by rw [hml]; rfl) (Steps.refl _) (a := a20) (argsL := [(.ref a26)]) (rest := [(.ref a20)]) (lenOf pdE1 rfl) rfl (by show 2 * 0 + _ ≤ _; exact Nat.le_of_eq rfl) (hb hby dPf_33) (fun _ _ => ⟨rfl, e37, (Nat.le_of_ble_eq_true rfl), (Nat.le_of_ble_eq_true rfl)⟩)
    dsimp only [Pt.U, Pt.locs, Pt.cells, Pt.slots] at X46 l46 y46 z46 st46 hQ46
    rw [l46, y46, z46] at X46
    obtain ⟨rfl, N46, K46, S46⟩ := hQ46
    refine own_to st46 ?_
    show own_Go p e below F (T46.setTop (mkF m 36 #[.val (.ref ca), .val (.int ((1 : Int32)))] [(.ref a20)]))
    have f47 := own_ext_keep f38 K46 (fun y hy => by simp only [List.mem_cons, List.not_mem_nil, or_false] at hy; rcases hy with rfl <;> assumption)
    have J48 := J44.keep K46 (sfS f43 sf0)
    have N49 := Fr.app N45 N46
    exact own_retAW X46 hx hlk hEL J48 rfl hret rfl rfl (hb hby dPf_36) (fun t ht hC hE => hF t _ _ _ _ (by rw [ht]; exact ⟨_, rfl, S46, f47, N49⟩) hC hE (by decide) (by decide))
  · show own_Go p e below F (T0.setTop (mkF m 0 #[.val (.ref ca), .val (.int ((2 : Int32)))] []))
    refine own_iload_n X0.here hx (hb hby dPf_0) rfl (pc' := 1) rfl ?_
    refine own_ifne X0.here hx (hb hby dPf_1) (by decide) (pc' := 15) (by decide) (pc2 := 4) rfl (fun q50 => ?_) (fun q => absurd q (by decide))
    refine own_iload_n X0.here hx (hb hby dPf_15) rfl (pc' := 16) rfl ?_
    refine own_iconst X0.here hx (hb hby dPf_16) (v := 1) rfl (pc' := 17) rfl ?_
    refine own_icmpne X0.here hx (hb hby dPf_17) (by decide) (pc' := 37) (by decide) (pc2 := 20) rfl (fun q51 => ?_) (fun q => absurd q (by decide))
    refine own_iload_n X0.here hx (hb hby dPf_37) rfl (pc' := 38) rfl ?_
    refine own_iconst X0.here hx (hb hby dPf_38) (v := 2) rfl (pc' := 39) rfl ?_
    refine own_icmpne X0.here hx (hb hby dPf_39) (by decide) (pc' := 65) (by decide) (pc2 := 42) rfl (fun q => absurd rfl q) (fun q52 => ?_)
    obtain ⟨T53, h53, X53, e53, E53, A53, D53, -, st53⟩ := newO X0 hx I0.1 I0.2.1 (hw _ (List.mem_of_getElem? (i := 8) rfl)) (hw _ (List.mem_of_getElem? (i := 9) rfl)) (hw _ (List.mem_of_getElem? (i := 10) rfl)) e0 (g := (mkF m 42 #[.val (.ref ca), .val (.int ((2 : Int32)))] [])) rfl (hb hby dPf_42) (by decide) (by decide)
    obtain ⟨a53, g53⟩ : ∃ z, z = h0.size := ⟨_, rfl⟩
    rw [← g53] at A53 D53 st53
    have ne54 : ca ≠ a53 := Nat.ne_of_lt (by rw [g53]; exact C0.lt)
    have ge55 : h0.size ≤ a53 := by rw [g53]; exact M0.1
    have sf53 := Safe.ext E53 I0.ch (Safe.new (Nat.le_of_eq g53.symm))
    have f56 := own_ext_trans M0 E53
    have f57 := C0.ext E53
    have J58 := I0.ext E53
    have F53_0 : Fld Z h53 a53 "java/lang/String" "value" "[B" (.null) := (D53 (Or.inr (hw _ (List.mem_of_getElem? (i := 23) rfl))) (ty := .array .byte) (by decide))
    have F53_1 : Fld Z h53 a53 "java/lang/String" "coder" "B" (.int ((0 : Int32))) := (D53 (Or.inr (hw _ (List.mem_of_getElem? (i := 24) rfl))) (ty := .byte) (by decide))
    refine own_on st53 ?_
    show own_Go p e below F (T53.setTop (mkF m 45 #[.val (.ref ca), .val (.int ((2 : Int32)))] [(.ref a53)]))
    have gz_a53 : Z.heap.size ≤ a53 := Nat.le_trans EZ.1 ge55
    refine own_dup X53.here hx (hb hby dPf_45) rfl (pc' := 46) rfl ?_
    refine own_iconst X53.here hx (hb hby dPf_46) (v := 2) rfl (pc' := 47) rfl ?_
    obtain ⟨T59, h59, k59, X59, e59, E59, A59, st59⟩ := newP X53 hx J58.1 (hw _ (List.mem_of_getElem? (i := 0) rfl)) e53 (g := (mkF m 47 #[.val (.ref ca), .val (.int ((2 : Int32)))] [(.int ((2 : Int32))), (.ref a53), (.ref a53)])) rfl (hb hby dPf_47) rfl (by decide : ¬ ((2 : Int32) < (0 : Int32))) (cap := 2) (by decide) (by decide) (by decide) (by decide)
    obtain ⟨a59, g59⟩ : ∃ z, z = h53.size := ⟨_, rfl⟩
    rw [← g59] at A59 st59
    have ne60 : ca ≠ a59 := Nat.ne_of_lt (by rw [g59]; exact f57.lt)
    have ne61 : a53 ≠ a59 := Nat.ne_of_lt (by rw [g59]; exact A53.lt)
    have ge62 : h0.size ≤ a59 := by rw [g59]; exact f56.1
    have f63 := own_ext_trans f56 E59
    have f64 := f57.ext E59
    have f65 := A53.ext E59
    have f66 := F53_0.ext E59
    have f67 := F53_1.ext E59
    have f68 := Safe.ext E59 J58.ch sf53
    have J69 := J58.ext E59
    have V59 : Arv Z h59 a59 k59 .char (2 : Int32) [.int (0 : Int32), .int (0 : Int32)] (.int (0 : Int32)) := (Arv.new A59 (by decide)).pad (pad_rep [] (.int (0 : Int32)) 2)
    refine own_on st59 ?_
    show own_Go p e below F (T59.setTop (mkF m 49 #[.val (.ref ca), .val (.int ((2 : Int32)))] [(.ref a59), (.ref a53), (.ref a53)]))
    have gz_a59 : Z.heap.size ≤ a59 := Nat.le_trans EZ.1 ge62
    refine own_dup X59.here hx (hb hby dPf_49) rfl (pc' := 50) rfl ?_
    refine own_iconst X59.here hx (hb hby dPf_50) (v := 0) rfl (pc' := 51) rfl ?_
    refine own_aload_n X59.here hx (hb hby dPf_51) rfl rfl (pc' := 52) rfl ?_
    refine own_iconst X59.here hx (hb hby dPf_52) (v := 0) rfl (pc' := 53) rfl ?_
    refine own_caload X59 hx J69.1 e59 f64 (w := d0) (by decide) rfl (hb hby dPf_53) (pc' := 54) rfl ?_
    obtain ⟨T70, h70, X70, e70, W70, V70, st70⟩ := own_cast X59 hx J69.1 e59 V59 (i := 0) rfl (Nat.le_of_ble_eq_true rfl) (by decide) nd0 (g := (mkF m 54 #[.val (.ref ca), .val (.int ((2 : Int32)))] [(.int d0), (.int ((0 : Int32))), (.ref a59), (.ref a59), (.ref a53), (.ref a53)])) rfl rfl (hb hby dPf_54)
    replace V70 : Arv Z h70 a59 k59 .char (2 : Int32) [.int d0, .int (0 : Int32)] (.int (0 : Int32)) := V70
    have f71 := own_ext_wr f63 W70 ge62
    have f72 := f64.other W70 ne60
    have f73 := f65.wr W70
    have f74 := f66.other W70 (Or.inl ne61)
    have f75 := f67.other W70 (Or.inl ne61)
    have f76 := Safe.wr W70 (Safe.arv J69.1.alike V59 (by decide)) J69.ch f68
    have J77 := J69.wr W70 (Safe.arv J69.1.alike V59 (by decide))
    have N78 := own_Fr_snoc (sl := ((0 : Int32)).toNatClampNeg) N0 gz_a59
    refine own_on st70 ?_
    show own_Go p e below F (T70.setTop (mkF m 55 #[.val (.ref ca), .val (.int ((2 : Int32)))] [(.ref a59), (.ref a53), (.ref a53)]))
    refine own_dup X70.here hx (hb hby dPf_55) rfl (pc' := 56) rfl ?_
    refine own_iconst X70.here hx (hb hby dPf_56) (v := 1) rfl (pc' := 57) rfl ?_
    refine own_aload_n X70.here hx (hb hby dPf_57) rfl rfl (pc' := 58) rfl ?_
    refine own_iconst X70.here hx (hb hby dPf_58) (v := 1) rfl (pc' := 59) rfl ?_
    refine own_caload X70 hx J77.1 e70 f72 (w := d1) (by decide) rfl (hb hby dPf_59) (pc' := 60) rfl ?_
    obtain ⟨T79, h79, X79, e79, W79, V79, st79⟩ := own_cast X70 hx J77.1 e70 V70 (i := 1) rfl (Nat.le_of_ble_eq_true rfl) (by decide) nd1 (g := (mkF m 60 #[.val (.ref ca), .val (.int ((2 : Int32)))] [(.int d1), (.int ((1 : Int32))), (.ref a59), (.ref a59), (.ref a53), (.ref a53)])) rfl rfl (hb hby dPf_60)
    replace V79 : Arv Z h79 a59 k59 .char (2 : Int32) [.int d0, .int d1] (.int (0 : Int32)) := V79
    have f80 := own_ext_wr f71 W79 ge62
    have f81 := f72.other W79 ne60
    have f82 := f73.wr W79
    have f83 := f74.other W79 (Or.inl ne61)
    have f84 := f75.other W79 (Or.inl ne61)
    have f85 := Safe.wr W79 (Safe.arv J77.1.alike V70 (by decide)) J77.ch f76
    have J86 := J77.wr W79 (Safe.arv J77.1.alike V70 (by decide))
    have N87 := own_Fr_snoc (sl := ((1 : Int32)).toNatClampNeg) N78 gz_a59
    refine own_on st79 ?_
    show own_Go p e below F (T79.setTop (mkF m 61 #[.val (.ref ca), .val (.int ((2 : Int32)))] [(.ref a59), (.ref a53), (.ref a53)]))
    obtain ⟨_, _, ⟨T88, L88, k88, n88⟩, -, X88, ⟨Lc88, hQ88, l88, y88, z88⟩, st88⟩ := X79.specialBack hx (y := (⟨"java/lang/String", "<init>", "([C)V"⟩ : MethodName)) rfl J86.2.1 (mvT J86.1 (hw _ (List.mem_of_getElem? (i := 11) rfl))) (mvT J86.1 (hw _ (List.mem_of_getElem? (i := 12) rfl))) (mvT J86.1 (hw _ (List.mem_of_getElem? (i := 13) rfl))) (by decide) (backOf (W := 1) (rmI1 l Z a0 hw a53 a59 k59 [d0, d1] (2 : Int32) (.int (0 : Int32)) h79 (own_ext_trans EZ f80) z0 O1 P5 O3 O4 O5 gz_a53 (Ne.symm ne61) f82 f83 f84 V79 rfl (Nat.le_of_ble_eq_true rfl) (fun c hc => hp c (List.mem_of_mem_take (i := 2) hc)) (Nat.le_of_ble_eq_true rfl) (Nat.le_of_ble_eq_true rfl)) J86.1 (hw _ (List.mem_of_getElem? (i := 13) rfl)) (hw _ (List.mem_of_getElem? (i := 10) rfl)) (by decide) (by decide)) (g := (mkF m 61 #[.val (.ref ca), .val (.int ((2 : Int32)))] [(.ref a59), (.ref a53), (.ref a53)])) rfl (by rw [hml]; rfl) (Steps.refl _) (a := a53) (argsL := [(.ref a59)]) (rest := [(.ref a53)]) (lenOf pdE1 rfl) rfl (by show 2 * 0 + _ ≤ _; exact Nat.le_of_eq rfl) (hb hby dPf_61) (fun _ _ => ⟨rfl, e79, (Nat.le_of_ble_eq_true rfl), (Nat.le_of_ble_eq_true rfl)⟩)
    dsimp only [Pt.U, Pt.locs, Pt.cells, Pt.slots] at X88 l88 y88 z88 st88 hQ88
    rw [l88, y88, z88] at X88
    obtain ⟨rfl, N88, K88, S88⟩ := hQ88
    refine own_to st88 ?_
    show own_Go p e below F (T88.setTop (mkF m 64 #[.val (.ref ca), .val (.int ((2 : Int32)))] [(.ref a53)]))
    have f89 := own_ext_keep f80 K88 (fun y hy => by simp only [List.mem_cons, List.not_mem_nil, or_false] at hy; rcases hy with rfl <;> assumption)
    have J90 := J86.keep K88 (sfS f85 sf0)
    have N91 := Fr.app N87 N88
    exact own_retAW X88 hx hlk hEL J90 rfl hret rfl rfl (hb hby dPf_64) (fun t ht hC hE => hF t _ _ _ _ (by rw [ht]; exact ⟨_, rfl, S88, f89, N91⟩) hC hE (by decide) (by decide))
  · show own_Go p e below F (T0.setTop (mkF m 0 #[.val (.ref ca), .val (.int ((3 : Int32)))] []))
    refine own_iload_n X0.here hx (hb hby dPf_0) rfl (pc' := 1) rfl ?_
    refine own_ifne X0.here hx (hb hby dPf_1) (by decide) (pc' := 15) (by decide) (pc2 := 4) rfl (fun q92 => ?_) (fun q => absurd q (by decide))
    refine own_iload_n X0.here hx (hb hby dPf_15) rfl (pc' := 16) rfl ?_
    refine own_iconst X0.here hx (hb hby dPf_16) (v := 1) rfl (pc' := 17) rfl ?_
    refine own_icmpne X0.here hx (hb hby dPf_17) (by decide) (pc' := 37) (by decide) (pc2 := 20) rfl (fun q93 => ?_) (fun q => absurd q (by decide))
    refine own_iload_n X0.here hx (hb hby dPf_37) rfl (pc' := 38) rfl ?_
    refine own_iconst X0.here hx (hb hby dPf_38) (v := 2) rfl (pc' := 39) rfl ?_
    refine own_icmpne X0.here hx (hb hby dPf_39) (by decide) (pc' := 65) (by decide) (pc2 := 42) rfl (fun q94 => ?_) (fun q => absurd q (by decide))
    refine own_iload_n X0.here hx (hb hby dPf_65) rfl (pc' := 66) rfl ?_
    refine own_iconst X0.here hx (hb hby dPf_66) (v := 3) rfl (pc' := 67) rfl ?_
    refine own_icmpne X0.here hx (hb hby dPf_67) (by decide) (pc' := 99) (by decide) (pc2 := 70) rfl (fun q => absurd rfl q) (fun q95 => ?_)
    obtain ⟨T96, h96, X96, e96, E96, A96, D96, -, st96⟩ := newO X0 hx I0.1 I0.2.1 (hw _ (List.mem_of_getElem? (i := 8) rfl)) (hw _ (List.mem_of_getElem? (i := 9) rfl)) (hw _ (List.mem_of_getElem? (i := 10) rfl)) e0 (g := (mkF m 70 #[.val (.ref ca), .val (.int ((3 : Int32)))] [])) rfl (hb hby dPf_70) (by decide) (by decide)
    obtain ⟨a96, g96⟩ : ∃ z, z = h0.size := ⟨_, rfl⟩
    rw [← g96] at A96 D96 st96
    have ne97 : ca ≠ a96 := Nat.ne_of_lt (by rw [g96]; exact C0.lt)
    have ge98 : h0.size ≤ a96 := by rw [g96]; exact M0.1
    have sf96 := Safe.ext E96 I0.ch (Safe.new (Nat.le_of_eq g96.symm))
    have f99 := own_ext_trans M0 E96
    have f100 := C0.ext E96
    have J101 := I0.ext E96
    have F96_0 : Fld Z h96 a96 "java/lang/String" "value" "[B" (.null) := (D96 (Or.inr (hw _ (List.mem_of_getElem? (i := 23) rfl))) (ty := .array .byte) (by decide))
    have F96_1 : Fld Z h96 a96 "java/lang/String" "coder" "B" (.int ((0 : Int32))) := (D96 (Or.inr (hw _ (List.mem_of_getElem? (i := 24) rfl))) (ty := .byte) (by decide))
    refine own_on st96 ?_
    show own_Go p e below F (T96.setTop (mkF m 73 #[.val (.ref ca), .val (.int ((3 : Int32)))] [(.ref a96)]))
    have gz_a96 : Z.heap.size ≤ a96 := Nat.le_trans EZ.1 ge98
    refine own_dup X96.here hx (hb hby dPf_73) rfl (pc' := 74) rfl ?_
    refine own_iconst X96.here hx (hb hby dPf_74) (v := 3) rfl (pc' := 75) rfl ?_
    obtain ⟨T102, h102, k102, X102, e102, E102, A102, st102⟩ := newP X96 hx J101.1 (hw _ (List.mem_of_getElem? (i := 0) rfl)) e96 (g := (mkF m 75 #[.val (.ref ca), .val (.int ((3 : Int32)))] [(.int ((3 : Int32))), (.ref a96), (.ref a96)])) rfl (hb hby dPf_75) rfl (by decide : ¬ ((3 : Int32) < (0 : Int32))) (cap := 3) (by decide) (by decide) (by decide) (by decide)
    obtain ⟨a102, g102⟩ : ∃ z, z = h96.size := ⟨_, rfl⟩
    rw [← g102] at A102 st102
    have ne103 : ca ≠ a102 := Nat.ne_of_lt (by rw [g102]; exact f100.lt)
    have ne104 : a96 ≠ a102 := Nat.ne_of_lt (by rw [g102]; exact A96.lt)
    have ge105 : h0.size ≤ a102 := by rw [g102]; exact f99.1
    have f106 := own_ext_trans f99 E102
    have f107 := f100.ext E102
    have f108 := A96.ext E102
    have f109 := F96_0.ext E102
    have f110 := F96_1.ext E102
    have f111 := Safe.ext E102 J101.ch sf96
    have J112 := J101.ext E102
    have V102 : Arv Z h102 a102 k102 .char (3 : Int32) [.int (0 : Int32), .int (0 : Int32), .int (0 : Int32)] (.int (0 : Int32)) := (Arv.new A102 (by decide)).pad (pad_rep [] (.int (0 : Int32)) 3)
    refine own_on st102 ?_
    show own_Go p e below F (T102.setTop (mkF m 77 #[.val (.ref ca), .val (.int ((3 : Int32)))] [(.ref a102), (.ref a96), (.ref a96)]))
    have gz_a102 : Z.heap.size ≤ a102 := Nat.le_trans EZ.1 ge105
    refine own_dup X102.here hx (hb hby dPf_77) rfl (pc' := 78) rfl ?_
    refine own_iconst X102.here hx (hb hby dPf_78) (v := 0) rfl (pc' := 79) rfl ?_
    refine own_aload_n X102.here hx (hb hby dPf_79) rfl rfl (pc' := 80) rfl ?_
    refine own_iconst X102.here hx (hb hby dPf_80) (v := 0) rfl (pc' := 81) rfl ?_
    refine own_caload X102 hx J112.1 e102 f107 (w := d0) (by decide) rfl (hb hby dPf_81) (pc' := 82) rfl ?_
    obtain ⟨T113, h113, X113, e113, W113, V113, st113⟩ := own_cast X102 hx J112.1 e102 V102 (i := 0) rfl (Nat.le_of_ble_eq_true rfl) (by decide) nd0 (g := (mkF m 82 #[.val (.ref ca), .val (.int ((3 : Int32)))] [(.int d0), (.int ((0 : Int32))), (.ref a102), (.ref a102), (.ref a96), (.ref a96)])) rfl rfl (hb hby dPf_82)
    replace V113 : Arv Z h113 a102 k102 .char (3 : Int32) [.int d0, .int (0 : Int32), .int (0 : Int32)] (.int (0 : Int32)) := V113
    have f114 := own_ext_wr f106 W113 ge105
    have f115 := f107.other W113 ne103
    have f116 := f108.wr W113
    have f117 := f109.other W113 (Or.inl ne104)
    have f118 := f110.other W113 (Or.inl ne104)
    have f119 := Safe.wr W113 (Safe.arv J112.1.alike V102 (by decide)) J112.ch f111
    have J120 := J112.wr W113 (Safe.arv J112.1.alike V102 (by decide))
    have N121 := own_Fr_snoc (sl := ((0 : Int32)).toNatClampNeg) N0 gz_a102
    refine own_on st113 ?_
    show own_Go p e below F (T113.setTop (mkF m 83 #[.val (.ref ca), .val (.int ((3 : Int32)))] [(.ref a102), (.ref a96), (.ref a96)]))
    refine own_dup X113.here hx (hb hby dPf_83) rfl (pc' := 84) rfl ?_
    refine own_iconst X113.here hx (hb hby dPf_84) (v := 1) rfl (pc' := 85) rfl ?_
    refine own_aload_n X113.here hx (hb hby dPf_85) rfl rfl (pc' := 86) rfl ?_
    refine own_iconst X113.here hx (hb hby dPf_86) (v := 1) rfl (pc' := 87) rfl ?_
    refine own_caload X113 hx J120.1 e113 f115 (w := d1) (by decide) rfl (hb hby dPf_87) (pc' := 88) rfl ?_
    obtain ⟨T122, h122, X122, e122, W122, V122, st122⟩ := own_cast X113 hx J120.1 e113 V113 (i := 1) rfl (Nat.le_of_ble_eq_true rfl) (by decide) nd1 (g := (mkF m 88 #[.val (.ref ca), .val (.int ((3 : Int32)))] [(.int d1), (.int ((1 : Int32))), (.ref a102), (.ref a102), (.ref a96), (.ref a96)])) rfl rfl (hb hby dPf_88)
    replace V122 : Arv Z h122 a102 k102 .char (3 : Int32) [.int d0, .int d1, .int (0 : Int32)] (.int (0 : Int32)) := V122
    have f123 := own_ext_wr f114 W122 ge105
    have f124 := f115.other W122 ne103
    have f125 := f116.wr W122
    have f126 := f117.other W122 (Or.inl ne104)
    have f127 := f118.other W122 (Or.inl ne104)
    have f128 := Safe.wr W122 (Safe.arv J120.1.alike V113 (by decide)) J120.ch f119
    have J129 := J120.wr W122 (Safe.arv J120.1.alike V113 (by decide))
    have N130 := own_Fr_snoc (sl := ((1 : Int32)).toNatClampNeg) N121 gz_a102
    refine own_on st122 ?_
    show own_Go p e below F (T122.setTop (mkF m 89 #[.val (.ref ca), .val (.int ((3 : Int32)))] [(.ref a102), (.ref a96), (.ref a96)]))
    refine own_dup X122.here hx (hb hby dPf_89) rfl (pc' := 90) rfl ?_
    refine own_iconst X122.here hx (hb hby dPf_90) (v := 2) rfl (pc' := 91) rfl ?_
    refine own_aload_n X122.here hx (hb hby dPf_91) rfl rfl (pc' := 92) rfl ?_
    refine own_iconst X122.here hx (hb hby dPf_92) (v := 2) rfl (pc' := 93) rfl ?_
    refine own_caload X122 hx J129.1 e122 f124 (w := d2) (by decide) rfl (hb hby dPf_93) (pc' := 94) rfl ?_
    obtain ⟨T131, h131, X131, e131, W131, V131, st131⟩ := own_cast X122 hx J129.1 e122 V122 (i := 2) rfl (Nat.le_of_ble_eq_true rfl) (by decide) nd2 (g := (mkF m 94 #[.val (.ref ca), .val (.int ((3 : Int32)))] [(.int d2), (.int ((2 : Int32))), (.ref a102), (.ref a102), (.ref a96), (.ref a96)])) rfl rfl (hb hby dPf_94)
    replace V131 : Arv Z h131 a102 k102 .char (3 : Int32) [.int d0, .int d1, .int d2] (.int (0 : Int32)) := V131
    have f132 := own_ext_wr f123 W131 ge105
    have f133 := f124.other W131 ne103
    have f134 := f125.wr W131
    have f135 := f126.other W131 (Or.inl ne104)
    have f136 := f127.other W131 (Or.inl ne104)
    have f137 := Safe.wr W131 (Safe.arv J129.1.alike V122 (by decide)) J129.ch f128
    have J138 := J129.wr W131 (Safe.arv J129.1.alike V122 (by decide))
    have N139 := own_Fr_snoc (sl := ((2 : Int32)).toNatClampNeg) N130 gz_a102
    refine own_on st131 ?_
    show own_Go p e below F (T131.setTop (mkF m 95 #[.val (.ref ca), .val (.int ((3 : Int32)))] [(.ref a102), (.ref a96), (.ref a96)]))
    obtain ⟨_, _, ⟨T140, L140, k140, n140⟩, -, X140, ⟨Lc140, hQ140, l140, y140, z140⟩, st140⟩ := X131.specialBack hx (y := (⟨"java/lang/String", "<init>", "([C)V"⟩ : MethodName)) rfl J138.2.1 (mvT J138.1 (hw _ (List.mem_of_getElem? (i := 11) rfl))) (mvT J138.1 (hw _ (List.mem_of_getElem? (i := 12) rfl))) (mvT J138.1 (hw _ (List.mem_of_getElem? (i := 13) rfl))) (by decide) (backOf (W := 1) (rmI1 l Z a0 hw a96 a102 k102 [d0, d1, d2] (3 : Int32) (.int (0 : Int32)) h131 (own_ext_trans EZ f132) z0 O1 P5 O3 O4 O5 gz_a96 (Ne.symm ne104) f134 f135 f136 V131 rfl (Nat.le_of_ble_eq_true rfl) (fun c hc => hp c (List.mem_of_mem_take (i := 3) hc)) (Nat.le_of_ble_eq_true rfl) (Nat.le_of_ble_eq_true rfl)) J138.1 (hw _ (List.mem_of_getElem? (i := 13) rfl)) (hw _ (List.mem_of_getElem? (i := 10) rfl)) (by decide) (by decide)) (g := (mkF m 95 #[.val (.ref ca), .val (.int ((3 : Int32)))] [(.ref a102), (.ref a96), (.ref a96)])) rfl (by rw [hml]; rfl) (Steps.refl _) (a := a96) (argsL := [(.ref a102)]) (rest := [(.ref a96)]) (lenOf pdE1 rfl) rfl (by show 2 * 0 + _ ≤ _; exact Nat.le_of_eq rfl) (hb hby dPf_95) (fun _ _ => ⟨rfl, e131, (Nat.le_of_ble_eq_true rfl), (Nat.le_of_ble_eq_true rfl)⟩)
    dsimp only [Pt.U, Pt.locs, Pt.cells, Pt.slots] at X140 l140 y140 z140 st140 hQ140
    rw [l140, y140, z140] at X140
    obtain ⟨rfl, N140, K140, S140⟩ := hQ140
    refine own_to st140 ?_
    show own_Go p e below F (T140.setTop (mkF m 98 #[.val (.ref ca), .val (.int ((3 : Int32)))] [(.ref a96)]))
    have f141 := own_ext_keep f132 K140 (fun y hy => by simp only [List.mem_cons, List.not_mem_nil, or_false] at hy; rcases hy with rfl <;> assumption)
    have J142 := J138.keep K140 (sfS f137 sf0)
    have N143 := Fr.app N139 N140
    exact own_retAW X140 hx hlk hEL J142 rfl hret rfl rfl (hb hby dPf_98) (fun t ht hC hE => hF t _ _ _ _ (by rw [ht]; exact ⟨_, rfl, S140, f141, N143⟩) hC hE (by decide) (by decide))
  · show own_Go p e below F (T0.setTop (mkF m 0 #[.val (.ref ca), .val (.int ((4 : Int32)))] []))
    refine own_iload_n X0.here hx (hb hby dPf_0) rfl (pc' := 1) rfl ?_
    refine own_ifne X0.here hx (hb hby dPf_1) (by decide) (pc' := 15) (by decide) (pc2 := 4) rfl (fun q144 => ?_) (fun q => absurd q (by decide))
    refine own_iload_n X0.here hx (hb hby dPf_15) rfl (pc' := 16) rfl ?_
    refine own_iconst X0.here hx (hb hby dPf_16) (v := 1) rfl (pc' := 17) rfl ?_
    refine own_icmpne X0.here hx (hb hby dPf_17) (by decide) (pc' := 37) (by decide) (pc2 := 20) rfl (fun q145 => ?_) (fun q => absurd q (by decide))
    refine own_iload_n X0.here hx (hb hby dPf_37) rfl (pc' := 38) rfl ?_
    refine own_iconst X0.here hx (hb hby dPf_38) (v := 2) rfl (pc' := 39) rfl ?_
    refine own_icmpne X0.here hx (hb hby dPf_39) (by decide) (pc' := 65) (by decide) (pc2 := 42) rfl (fun q146 => ?_) (fun q => absurd q (by decide))
    refine own_iload_n X0.here hx (hb hby dPf_65) rfl (pc' := 66) rfl ?_
    refine own_iconst X0.here hx (hb hby dPf_66) (v := 3) rfl (pc' := 67) rfl ?_
    refine own_icmpne X0.here hx (hb hby dPf_67) (by decide) (pc' := 99) (by decide) (pc2 := 70) rfl (fun q147 => ?_) (fun q => absurd q (by decide))
    refine own_iload_n X0.here hx (hb hby dPf_99) rfl (pc' := 100) rfl ?_
    refine own_iconst X0.here hx (hb hby dPf_100) (v := 4) rfl (pc' := 101) rfl ?_
    refine own_icmpne X0.here hx (hb hby dPf_101) (by decide) (pc' := 139) (by decide) (pc2 := 104) rfl (fun q => absurd rfl q) (fun q148 => ?_)
    obtain ⟨T149, h149, X149, e149, E149, A149, D149, -, st149⟩ := newO X0 hx I0.1 I0.2.1 (hw _ (List.mem_of_getElem? (i := 8) rfl)) (hw _ (List.mem_of_getElem? (i := 9) rfl)) (hw _ (List.mem_of_getElem? (i := 10) rfl)) e0 (g := (mkF m 104 #[.val (.ref ca), .val (.int ((4 : Int32)))] [])) rfl (hb hby dPf_104) (by decide) (by decide)
    obtain ⟨a149, g149⟩ : ∃ z, z = h0.size := ⟨_, rfl⟩
    rw [← g149] at A149 D149 st149
    have ne150 : ca ≠ a149 := Nat.ne_of_lt (by rw [g149]; exact C0.lt)
    have ge151 : h0.size ≤ a149 := by rw [g149]; exact M0.1
    have sf149 := Safe.ext E149 I0.ch (Safe.new (Nat.le_of_eq g149.symm))
    have f152 := own_ext_trans M0 E149
    have f153 := C0.ext E149
    have J154 := I0.ext E149
    have F149_0 : Fld Z h149 a149 "java/lang/String" "value" "[B" (.null) := (D149 (Or.inr (hw _ (List.mem_of_getElem? (i := 23) rfl))) (ty := .array .byte) (by decide))
    have F149_1 : Fld Z h149 a149 "java/lang/String" "coder" "B" (.int ((0 : Int32))) := (D149 (Or.inr (hw _ (List.mem_of_getElem? (i := 24) rfl))) (ty := .byte) (by decide))
    refine own_on st149 ?_
    show own_Go p e below F (T149.setTop (mkF m 107 #[.val (.ref ca), .val (.int ((4 : Int32)))] [(.ref a149)]))
    have gz_a149 : Z.heap.size ≤ a149 := Nat.le_trans EZ.1 ge151
    refine own_dup X149.here hx (hb hby dPf_107) rfl (pc' := 108) rfl ?_
    refine own_iconst X149.here hx (hb hby dPf_108) (v := 4) rfl (pc' := 109) rfl ?_
    obtain ⟨T155, h155, k155, X155, e155, E155, A155, st155⟩ := newP X149 hx J154.1 (hw _ (List.mem_of_getElem? (i := 0) rfl)) e149 (g := (mkF m 109 #[.val (.ref ca), .val (.int ((4 : Int32)))] [(.int ((4 : Int32))), (.ref a149), (.ref a149)])) rfl (hb hby dPf_109) rfl (by decide : ¬ ((4 : Int32) < (0 : Int32))) (cap := 4) (by decide) (by decide) (by decide) (by decide)
    obtain ⟨a155, g155⟩ : ∃ z, z = h149.size := ⟨_, rfl⟩
    rw [← g155] at A155 st155
    have ne156 : ca ≠ a155 := Nat.ne_of_lt (by rw [g155]; exact f153.lt)
    have ne157 : a149 ≠ a155 := Nat.ne_of_lt (by rw [g155]; exact A149.lt)
    have ge158 : h0.size ≤ a155 := by rw [g155]; exact f152.1
    have f159 := own_ext_trans f152 E155
    have f160 := f153.ext E155
    have f161 := A149.ext E155
    have f162 := F149_0.ext E155
    have f163 := F149_1.ext E155
    have f164 := Safe.ext E155 J154.ch sf149
    have J165 := J154.ext E155
    have V155 : Arv Z h155 a155 k155 .char (4 : Int32) [.int (0 : Int32), .int (0 : Int32), .int (0 : Int32), .int (0 : Int32)] (.int (0 : Int32)) := (Arv.new A155 (by decide)).pad (pad_rep [] (.int (0 : Int32)) 4)
    refine own_on st155 ?_
    show own_Go p e below F (T155.setTop (mkF m 111 #[.val (.ref ca), .val (.int ((4 : Int32)))] [(.ref a155), (.ref a149), (.ref a149)]))
    have gz_a155 : Z.heap.size ≤ a155 := Nat.le_trans EZ.1 ge158
    refine own_dup X155.here hx (hb hby dPf_111) rfl (pc' := 112) rfl ?_
    refine own_iconst X155.here hx (hb hby dPf_112) (v := 0) rfl (pc' := 113) rfl ?_
    refine own_aload_n X155.here hx (hb hby dPf_113) rfl rfl (pc' := 114) rfl ?_
    refine own_iconst X155.here hx (hb hby dPf_114) (v := 0) rfl (pc' := 115) rfl ?_
    refine own_caload X155 hx J165.1 e155 f160 (w := d0) (by decide) rfl (hb hby dPf_115) (pc' := 116) rfl ?_
    obtain ⟨T166, h166, X166, e166, W166, V166, st166⟩ := own_cast X155 hx J165.1 e155 V155 (i := 0) rfl (Nat.le_of_ble_eq_true rfl) (by decide) nd0 (g := (mkF m 116 #[.val (.ref ca), .val (.int ((4 : Int32)))] [(.int d0), (.int ((0 : Int32))), (.ref a155), (.ref a155), (.ref a149), (.ref a149)])) rfl rfl (hb hby dPf_116)
    replace V166 : Arv Z h166 a155 k155 .char (4 : Int32) [.int d0, .int (0 : Int32), .int (0 : Int32), .int (0 : Int32)] (.int (0 : Int32)) := V166
    have f167 := own_ext_wr f159 W166 ge158
    have f168 := f160.other W166 ne156
    have f169 := f161.wr W166
    have f170 := f162.other W166 (Or.inl ne157)
    have f171 := f163.other W166 (Or.inl ne157)
    have f172 := Safe.wr W166 (Safe.arv J165.1.alike V155 (by decide)) J165.ch f164
    have J173 := J165.wr W166 (Safe.arv J165.1.alike V155 (by decide))
    have N174 := own_Fr_snoc (sl := ((0 : Int32)).toNatClampNeg) N0 gz_a155
    refine own_on st166 ?_
    show own_Go p e below F (T166.setTop (mkF m 117 #[.val (.ref ca), .val (.int ((4 : Int32)))] [(.ref a155), (.ref a149), (.ref a149)]))
    refine own_dup X166.here hx (hb hby dPf_117) rfl (pc' := 118) rfl ?_
    refine own_iconst X166.here hx (hb hby dPf_118) (v := 1) rfl (pc' := 119) rfl ?_
    refine own_aload_n X166.here hx (hb hby dPf_119) rfl rfl (pc' := 120) rfl ?_
    refine own_iconst X166.here hx (hb hby dPf_120) (v := 1) rfl (pc' := 121) rfl ?_
    refine own_caload X166 hx J173.1 e166 f168 (w := d1) (by decide) rfl (hb hby dPf_121) (pc' := 122) rfl ?_
    obtain ⟨T175, h175, X175, e175, W175, V175, st175⟩ := own_cast X166 hx J173.1 e166 V166 (i := 1) rfl (Nat.le_of_ble_eq_true rfl) (by decide) nd1 (g := (mkF m 122 #[.val (.ref ca), .val (.int ((4 : Int32)))] [(.int d1), (.int ((1 : Int32))), (.ref a155), (.ref a155), (.ref a149), (.ref a149)])) rfl rfl (hb hby dPf_122)
    replace V175 : Arv Z h175 a155 k155 .char (4 : Int32) [.int d0, .int d1, .int (0 : Int32), .int (0 : Int32)] (.int (0 : Int32)) := V175
    have f176 := own_ext_wr f167 W175 ge158
    have f177 := f168.other W175 ne156
    have f178 := f169.wr W175
    have f179 := f170.other W175 (Or.inl ne157)
    have f180 := f171.other W175 (Or.inl ne157)
    have f181 := Safe.wr W175 (Safe.arv J173.1.alike V166 (by decide)) J173.ch f172
    have J182 := J173.wr W175 (Safe.arv J173.1.alike V166 (by decide))
    have N183 := own_Fr_snoc (sl := ((1 : Int32)).toNatClampNeg) N174 gz_a155
    refine own_on st175 ?_
    show own_Go p e below F (T175.setTop (mkF m 123 #[.val (.ref ca), .val (.int ((4 : Int32)))] [(.ref a155), (.ref a149), (.ref a149)]))
    refine own_dup X175.here hx (hb hby dPf_123) rfl (pc' := 124) rfl ?_
    refine own_iconst X175.here hx (hb hby dPf_124) (v := 2) rfl (pc' := 125) rfl ?_
    refine own_aload_n X175.here hx (hb hby dPf_125) rfl rfl (pc' := 126) rfl ?_
    refine own_iconst X175.here hx (hb hby dPf_126) (v := 2) rfl (pc' := 127) rfl ?_
    refine own_caload X175 hx J182.1 e175 f177 (w := d2) (by decide) rfl (hb hby dPf_127) (pc' := 128) rfl ?_
    obtain ⟨T184, h184, X184, e184, W184, V184, st184⟩ := own_cast X175 hx J182.1 e175 V175 (i := 2) rfl (Nat.le_of_ble_eq_true rfl) (by decide) nd2 (g := (mkF m 128 #[.val (.ref ca), .val (.int ((4 : Int32)))] [(.int d2), (.int ((2 : Int32))), (.ref a155), (.ref a155), (.ref a149), (.ref a149)])) rfl rfl (hb hby dPf_128)
    replace V184 : Arv Z h184 a155 k155 .char (4 : Int32) [.int d0, .int d1, .int d2, .int (0 : Int32)] (.int (0 : Int32)) := V184
    have f185 := own_ext_wr f176 W184 ge158
    have f186 := f177.other W184 ne156
    have f187 := f178.wr W184
    have f188 := f179.other W184 (Or.inl ne157)
    have f189 := f180.other W184 (Or.inl ne157)
    have f190 := Safe.wr W184 (Safe.arv J182.1.alike V175 (by decide)) J182.ch f181
    have J191 := J182.wr W184 (Safe.arv J182.1.alike V175 (by decide))
    have N192 := own_Fr_snoc (sl := ((2 : Int32)).toNatClampNeg) N183 gz_a155
    refine own_on st184 ?_
    show own_Go p e below F (T184.setTop (mkF m 129 #[.val (.ref ca), .val (.int ((4 : Int32)))] [(.ref a155), (.ref a149), (.ref a149)]))
    refine own_dup X184.here hx (hb hby dPf_129) rfl (pc' := 130) rfl ?_
    refine own_iconst X184.here hx (hb hby dPf_130) (v := 3) rfl (pc' := 131) rfl ?_
    refine own_aload_n X184.here hx (hb hby dPf_131) rfl rfl (pc' := 132) rfl ?_
    refine own_iconst X184.here hx (hb hby dPf_132) (v := 3) rfl (pc' := 133) rfl ?_
    refine own_caload X184 hx J191.1 e184 f186 (w := d3) (by decide) rfl (hb hby dPf_133) (pc' := 134) rfl ?_
    obtain ⟨T193, h193, X193, e193, W193, V193, st193⟩ := own_cast X184 hx J191.1 e184 V184 (i := 3) rfl (Nat.le_of_ble_eq_true rfl) (by decide) nd3 (g := (mkF m 134 #[.val (.ref ca), .val (.int ((4 : Int32)))] [(.int d3), (.int ((3 : Int32))), (.ref a155), (.ref a155), (.ref a149), (.ref a149)])) rfl rfl (hb hby dPf_134)
    replace V193 : Arv Z h193 a155 k155 .char (4 : Int32) [.int d0, .int d1, .int d2, .int d3] (.int (0 : Int32)) := V193
    have f194 := own_ext_wr f185 W193 ge158
    have f195 := f186.other W193 ne156
    have f196 := f187.wr W193
    have f197 := f188.other W193 (Or.inl ne157)
    have f198 := f189.other W193 (Or.inl ne157)
    have f199 := Safe.wr W193 (Safe.arv J191.1.alike V184 (by decide)) J191.ch f190
    have J200 := J191.wr W193 (Safe.arv J191.1.alike V184 (by decide))
    have N201 := own_Fr_snoc (sl := ((3 : Int32)).toNatClampNeg) N192 gz_a155
    refine own_on st193 ?_
    show own_Go p e below F (T193.setTop (mkF m 135 #[.val (.ref ca), .val (.int ((4 : Int32)))] [(.ref a155), (.ref a149), (.ref a149)]))
    obtain ⟨_, _, ⟨T202, L202, k202, n202⟩, -, X202, ⟨Lc202, hQ202, l202, y202, z202⟩, st202⟩ := X193.specialBack hx (y := (⟨"java/lang/String", "<init>", "([C)V"⟩ : MethodName)) rfl J200.2.1 (mvT J200.1 (hw _ (List.mem_of_getElem? (i := 11) rfl))) (mvT J200.1 (hw _ (List.mem_of_getElem? (i := 12) rfl))) (mvT J200.1 (hw _ (List.mem_of_getElem? (i := 13) rfl))) (by decide) (backOf (W := 1) (rmI1 l Z a0 hw a149 a155 k155 [d0, d1, d2, d3] (4 : Int32) (.int (0 : Int32)) h193 (own_ext_trans EZ f194) z0 O1 P5 O3 O4 O5 gz_a149 (Ne.symm ne157) f196 f197 f198 V193 rfl (Nat.le_of_ble_eq_true rfl) (fun c hc => hp c (List.mem_of_mem_take (i := 4) hc)) (Nat.le_of_ble_eq_true rfl) (Nat.le_of_ble_eq_true rfl)) J200.1 (hw _ (List.mem_of_getElem? (i := 13) rfl)) (hw _ (List.mem_of_getElem? (i := 10) rfl)) (by decide) (by decide)) (g := (mkF m 135 #[.val (.ref ca), .val (.int ((4 : Int32)))] [(.ref a155), (.ref a149), (.ref a149)])) rfl (by rw [hml]; rfl) (Steps.refl _) (a := a149) (argsL := [(.ref a155)]) (rest := [(.ref a149)]) (lenOf pdE1 rfl) rfl (by show 2 * 0 + _ ≤ _; exact Nat.le_of_eq rfl) (hb hby dPf_135) (fun _ _ => ⟨rfl, e193, (Nat.le_of_ble_eq_true rfl), (Nat.le_of_ble_eq_true rfl)⟩)
    dsimp only [Pt.U, Pt.locs, Pt.cells, Pt.slots] at X202 l202 y202 z202 st202 hQ202
    rw [l202, y202, z202] at X202
    obtain ⟨rfl, N202, K202, S202⟩ := hQ202
    refine own_to st202 ?_
    show own_Go p e below F (T202.setTop (mkF m 138 #[.val (.ref ca), .val (.int ((4 : Int32)))] [(.ref a149)]))
    have f203 := own_ext_keep f194 K202 (fun y hy => by simp only [List.mem_cons, List.not_mem_nil, or_false] at hy; rcases hy with rfl <;> assumption)
    have J204 := J200.keep K202 (sfS f199 sf0)
    have N205 := Fr.app N201 N202
    exact own_retAW X202 hx hlk hEL J204 rfl hret rfl rfl (hb hby dPf_138) (fun t ht hC hE => hF t _ _ _ _ (by rw [ht]; exact ⟨_, rfl, S202, f203, N205⟩) hC hE (by decide) (by decide))
  · show own_Go p e below F (T0.setTop (mkF m 0 #[.val (.ref ca), .val (.int ((5 : Int32)))] []))
    refine own_iload_n X0.here hx (hb hby dPf_0) rfl (pc' := 1) rfl ?_
    refine own_ifne X0.here hx (hb hby dPf_1) (by decide) (pc' := 15) (by decide) (pc2 := 4) rfl (fun q206 => ?_) (fun q => absurd q (by decide))
    refine own_iload_n X0.here hx (hb hby dPf_15) rfl (pc' := 16) rfl ?_
    refine own_iconst X0.here hx (hb hby dPf_16) (v := 1) rfl (pc' := 17) rfl ?_
    refine own_icmpne X0.here hx (hb hby dPf_17) (by decide) (pc' := 37) (by decide) (pc2 := 20) rfl (fun q207 => ?_) (fun q => absurd q (by decide))
    refine own_iload_n X0.here hx (hb hby dPf_37) rfl (pc' := 38) rfl ?_
    refine own_iconst X0.here hx (hb hby dPf_38) (v := 2) rfl (pc' := 39) rfl ?_
    refine own_icmpne X0.here hx (hb hby dPf_39) (by decide) (pc' := 65) (by decide) (pc2 := 42) rfl (fun q208 => ?_) (fun q => absurd q (by decide))
    refine own_iload_n X0.here hx (hb hby dPf_65) rfl (pc' := 66) rfl ?_
    refine own_iconst X0.here hx (hb hby dPf_66) (v := 3) rfl (pc' := 67) rfl ?_
    refine own_icmpne X0.here hx (hb hby dPf_67) (by decide) (pc' := 99) (by decide) (pc2 := 70) rfl (fun q209 => ?_) (fun q => absurd q (by decide))
    refine own_iload_n X0.here hx (hb hby dPf_99) rfl (pc' := 100) rfl ?_
    refine own_iconst X0.here hx (hb hby dPf_100) (v := 4) rfl (pc' := 101) rfl ?_
    refine own_icmpne X0.here hx (hb hby dPf_101) (by decide) (pc' := 139) (by decide) (pc2 := 104) rfl (fun q210 => ?_) (fun q => absurd q (by decide))
    refine own_iload_n X0.here hx (hb hby dPf_139) rfl (pc' := 140) rfl ?_
    refine own_iconst X0.here hx (hb hby dPf_140) (v := 5) rfl (pc' := 141) rfl ?_
    refine own_icmpne X0.here hx (hb hby dPf_141) (by decide) (pc' := 185) (by decide) (pc2 := 144) rfl (fun q => absurd rfl q) (fun q211 => ?_)
    obtain ⟨T212, h212, X212, e212, E212, A212, D212, -, st212⟩ := newO X0 hx I0.1 I0.2.1 (hw _ (List.mem_of_getElem? (i := 8) rfl)) (hw _ (List.mem_of_getElem? (i := 9) rfl)) (hw _ (List.mem_of_getElem? (i := 10) rfl)) e0 (g := (mkF m 144 #[.val (.ref ca), .val (.int ((5 : Int32)))] [])) rfl (hb hby dPf_144) (by decide) (by decide)
    obtain ⟨a212, g212⟩ : ∃ z, z = h0.size := ⟨_, rfl⟩
    rw [← g212] at A212 D212 st212
    have ne213 : ca ≠ a212 := Nat.ne_of_lt (by rw [g212]; exact C0.lt)
    have ge214 : h0.size ≤ a212 := by rw [g212]; exact M0.1
    have sf212 := Safe.ext E212 I0.ch (Safe.new (Nat.le_of_eq g212.symm))
    have f215 := own_ext_trans M0 E212
    have f216 := C0.ext E212
    have J217 := I0.ext E212
    have F212_0 : Fld Z h212 a212 "java/lang/String" "value" "[B" (.null) := (D212 (Or.inr (hw _ (List.mem_of_getElem? (i := 23) rfl))) (ty := .array .byte) (by decide))
    have F212_1 : Fld Z h212 a212 "java/lang/String" "coder" "B" (.int ((0 : Int32))) := (D212 (Or.inr (hw _ (List.mem_of_getElem? (i := 24) rfl))) (ty := .byte) (by decide))
    refine own_on st212 ?_
    show own_Go p e below F (T212.setTop (mkF m 147 #[.val (.ref ca), .val (.int ((5 : Int32)))] [(.ref a212)]))
    have gz_a212 : Z.heap.size ≤ a212 := Nat.le_trans EZ.1 ge214
    refine own_dup X212.here hx (hb hby dPf_147) rfl (pc' := 148) rfl ?_
    refine own_iconst X212.here hx (hb hby dPf_148) (v := 5) rfl (pc' := 149) rfl ?_
    obtain ⟨T218, h218, k218, X218, e218, E218, A218, st218⟩ := newP X212 hx J217.1 (hw _ (List.mem_of_getElem? (i := 0) rfl)) e212 (g := (mkF m 149 #[.val (.ref ca), .val (.int ((5 : Int32)))] [(.int ((5 : Int32))), (.ref a212), (.ref a212)])) rfl (hb hby dPf_149) rfl (by decide : ¬ ((5 : Int32) < (0 : Int32))) (cap := 5) (by decide) (by decide) (by decide) (by decide)
    obtain ⟨a218, g218⟩ : ∃ z, z = h212.size := ⟨_, rfl⟩
    rw [← g218] at A218 st218
    have ne219 : ca ≠ a218 := Nat.ne_of_lt (by rw [g218]; exact f216.lt)
    have ne220 : a212 ≠ a218 := Nat.ne_of_lt (by rw [g218]; exact A212.lt)
    have ge221 : h0.size ≤ a218 := by rw [g218]; exact f215.1
    have f222 := own_ext_trans f215 E218
    have f223 := f216.ext E218
    have f224 := A212.ext E218
    have f225 := F212_0.ext E218
    have f226 := F212_1.ext E218
    have f227 := Safe.ext E218 J217.ch sf212
    have J228 := J217.ext E218
    have V218 : Arv Z h218 a218 k218 .char (5 : Int32) [.int (0 : Int32), .int (0 : Int32), .int (0 : Int32), .int (0 : Int32), .int (0 : Int32)] (.int (0 : Int32)) := (Arv.new A218 (by decide)).pad (pad_rep [] (.int (0 : Int32)) 5)
    refine own_on st218 ?_
    show own_Go p e below F (T218.setTop (mkF m 151 #[.val (.ref ca), .val (.int ((5 : Int32)))] [(.ref a218), (.ref a212), (.ref a212)]))
    have gz_a218 : Z.heap.size ≤ a218 := Nat.le_trans EZ.1 ge221
    refine own_dup X218.here hx (hb hby dPf_151) rfl (pc' := 152) rfl ?_
    refine own_iconst X218.here hx (hb hby dPf_152) (v := 0) rfl (pc' := 153) rfl ?_
    refine own_aload_n X218.here hx (hb hby dPf_153) rfl rfl (pc' := 154) rfl ?_
    refine own_iconst X218.here hx (hb hby dPf_154) (v := 0) rfl (pc' := 155) rfl ?_
    refine own_caload X218 hx J228.1 e218 f223 (w := d0) (by decide) rfl (hb hby dPf_155) (pc' := 156) rfl ?_
    obtain ⟨T229, h229, X229, e229, W229, V229, st229⟩ := own_cast X218 hx J228.1 e218 V218 (i := 0) rfl (Nat.le_of_ble_eq_true rfl) (by decide) nd0 (g := (mkF m 156 #[.val (.ref ca), .val (.int ((5 : Int32)))] [(.int d0), (.int ((0 : Int32))), (.ref a218), (.ref a218), (.ref a212), (.ref a212)])) rfl rfl (hb hby dPf_156)
    replace V229 : Arv Z h229 a218 k218 .char (5 : Int32) [.int d0, .int (0 : Int32), .int (0 : Int32), .int (0 : Int32), .int (0 : Int32)] (.int (0 : Int32)) := V229
    have f230 := own_ext_wr f222 W229 ge221
    have f231 := f223.other W229 ne219
    have f232 := f224.wr W229
    have f233 := f225.other W229 (Or.inl ne220)
    have f234 := f226.other W229 (Or.inl ne220)
    have f235 := Safe.wr W229 (Safe.arv J228.1.alike V218 (by decide)) J228.ch f227
    have J236 := J228.wr W229 (Safe.arv J228.1.alike V218 (by decide))
    have N237 := own_Fr_snoc (sl := ((0 : Int32)).toNatClampNeg) N0 gz_a218
    refine own_on st229 ?_
    show own_Go p e below F (T229.setTop (mkF m 157 #[.val (.ref ca), .val (.int ((5 : Int32)))] [(.ref a218), (.ref a212), (.ref a212)]))
    refine own_dup X229.here hx (hb hby dPf_157) rfl (pc' := 158) rfl ?_
    refine own_iconst X229.here hx (hb hby dPf_158) (v := 1) rfl (pc' := 159) rfl ?_
    refine own_aload_n X229.here hx (hb hby dPf_159) rfl rfl (pc' := 160) rfl ?_
    refine own_iconst X229.here hx (hb hby dPf_160) (v := 1) rfl (pc' := 161) rfl ?_
    refine own_caload X229 hx J236.1 e229 f231 (w := d1) (by decide) rfl (hb hby dPf_161) (pc' := 162) rfl ?_
    obtain ⟨T238, h238, X238, e238, W238, V238, st238⟩ := own_cast X229 hx J236.1 e229 V229 (i := 1) rfl (Nat.le_of_ble_eq_true rfl) (by decide) nd1 (g := (mkF m 162 #[.val (.ref ca), .val (.int ((5 : Int32)))] [(.int d1), (.int ((1 : Int32))), (.ref a218), (.ref a218), (.ref a212), (.ref a212)])) rfl rfl (hb hby dPf_162)
    replace V238 : Arv Z h238 a218 k218 .char (5 : Int32) [.int d0, .int d1, .int (0 : Int32), .int (0 : Int32), .int (0 : Int32)] (.int (0 : Int32)) := V238
    have f239 := own_ext_wr f230 W238 ge221
    have f240 := f231.other W238 ne219
    have f241 := f232.wr W238
    have f242 := f233.other W238 (Or.inl ne220)
    have f243 := f234.other W238 (Or.inl ne220)
    have f244 := Safe.wr W238 (Safe.arv J236.1.alike V229 (by decide)) J236.ch f235
    have J245 := J236.wr W238 (Safe.arv J236.1.alike V229 (by decide))
    have N246 := own_Fr_snoc (sl := ((1 : Int32)).toNatClampNeg) N237 gz_a218
    refine own_on st238 ?_
    show own_Go p e below F (T238.setTop (mkF m 163 #[.val (.ref ca), .val (.int ((5 : Int32)))] [(.ref a218), (.ref a212), (.ref a212)]))
    refine own_dup X238.here hx (hb hby dPf_163) rfl (pc' := 164) rfl ?_
    refine own_iconst X238.here hx (hb hby dPf_164) (v := 2) rfl (pc' := 165) rfl ?_
    refine own_aload_n X238.here hx (hb hby dPf_165) rfl rfl (pc' := 166) rfl ?_
    refine own_iconst X238.here hx (hb hby dPf_166) (v := 2) rfl (pc' := 167) rfl ?_
    refine own_caload X238 hx J245.1 e238 f240 (w := d2) (by decide) rfl (hb hby dPf_167) (pc' := 168) rfl ?_
    obtain ⟨T247, h247, X247, e247, W247, V247, st247⟩ := own_cast X238 hx J245.1 e238 V238 (i := 2) rfl (Nat.le_of_ble_eq_true rfl) (by decide) nd2 (g := (mkF m 168 #[.val (.ref ca), .val (.int ((5 : Int32)))] [(.int d2), (.int ((2 : Int32))), (.ref a218), (.ref a218), (.ref a212), (.ref a212)])) rfl rfl (hb hby dPf_168)
    replace V247 : Arv Z h247 a218 k218 .char (5 : Int32) [.int d0, .int d1, .int d2, .int (0 : Int32), .int (0 : Int32)] (.int (0 : Int32)) := V247
    have f248 := own_ext_wr f239 W247 ge221
    have f249 := f240.other W247 ne219
    have f250 := f241.wr W247
    have f251 := f242.other W247 (Or.inl ne220)
    have f252 := f243.other W247 (Or.inl ne220)
    have f253 := Safe.wr W247 (Safe.arv J245.1.alike V238 (by decide)) J245.ch f244
    have J254 := J245.wr W247 (Safe.arv J245.1.alike V238 (by decide))
    have N255 := own_Fr_snoc (sl := ((2 : Int32)).toNatClampNeg) N246 gz_a218
    refine own_on st247 ?_
    show own_Go p e below F (T247.setTop (mkF m 169 #[.val (.ref ca), .val (.int ((5 : Int32)))] [(.ref a218), (.ref a212), (.ref a212)]))
    refine own_dup X247.here hx (hb hby dPf_169) rfl (pc' := 170) rfl ?_
    refine own_iconst X247.here hx (hb hby dPf_170) (v := 3) rfl (pc' := 171) rfl ?_
    refine own_aload_n X247.here hx (hb hby dPf_171) rfl rfl (pc' := 172) rfl ?_
    refine own_iconst X247.here hx (hb hby dPf_172) (v := 3) rfl (pc' := 173) rfl ?_
    refine own_caload X247 hx J254.1 e247 f249 (w := d3) (by decide) rfl (hb hby dPf_173) (pc' := 174) rfl ?_
    obtain ⟨T256, h256, X256, e256, W256, V256, st256⟩ := own_cast X247 hx J254.1 e247 V247 (i := 3) rfl (Nat.le_of_ble_eq_true rfl) (by decide) nd3 (g := (mkF m 174 #[.val (.ref ca), .val (.int ((5 : Int32)))] [(.int d3), (.int ((3 : Int32))), (.ref a218), (.ref a218), (.ref a212), (.ref a212)])) rfl rfl (hb hby dPf_174)
    replace V256 : Arv Z h256 a218 k218 .char (5 : Int32) [.int d0, .int d1, .int d2, .int d3, .int (0 : Int32)] (.int (0 : Int32)) := V256
    have f257 := own_ext_wr f248 W256 ge221
    have f258 := f249.other W256 ne219
    have f259 := f250.wr W256
    have f260 := f251.other W256 (Or.inl ne220)
    have f261 := f252.other W256 (Or.inl ne220)
    have f262 := Safe.wr W256 (Safe.arv J254.1.alike V247 (by decide)) J254.ch f253
    have J263 := J254.wr W256 (Safe.arv J254.1.alike V247 (by decide))
    have N264 := own_Fr_snoc (sl := ((3 : Int32)).toNatClampNeg) N255 gz_a218
    refine own_on st256 ?_
    show own_Go p e below F (T256.setTop (mkF m 175 #[.val (.ref ca), .val (.int ((5 : Int32)))] [(.ref a218), (.ref a212), (.ref a212)]))
    refine own_dup X256.here hx (hb hby dPf_175) rfl (pc' := 176) rfl ?_
    refine own_iconst X256.here hx (hb hby dPf_176) (v := 4) rfl (pc' := 177) rfl ?_
    refine own_aload_n X256.here hx (hb hby dPf_177) rfl rfl (pc' := 178) rfl ?_
    refine own_iconst X256.here hx (hb hby dPf_178) (v := 4) rfl (pc' := 179) rfl ?_
    refine own_caload X256 hx J263.1 e256 f258 (w := d4) (by decide) rfl (hb hby dPf_179) (pc' := 180) rfl ?_
    obtain ⟨T265, h265, X265, e265, W265, V265, st265⟩ := own_cast X256 hx J263.1 e256 V256 (i := 4) rfl (Nat.le_of_ble_eq_true rfl) (by decide) nd4 (g := (mkF m 180 #[.val (.ref ca), .val (.int ((5 : Int32)))] [(.int d4), (.int ((4 : Int32))), (.ref a218), (.ref a218), (.ref a212), (.ref a212)])) rfl rfl (hb hby dPf_180)
    replace V265 : Arv Z h265 a218 k218 .char (5 : Int32) [.int d0, .int d1, .int d2, .int d3, .int d4] (.int (0 : Int32)) := V265
    have f266 := own_ext_wr f257 W265 ge221
    have f267 := f258.other W265 ne219
    have f268 := f259.wr W265
    have f269 := f260.other W265 (Or.inl ne220)
    have f270 := f261.other W265 (Or.inl ne220)
    have f271 := Safe.wr W265 (Safe.arv J263.1.alike V256 (by decide)) J263.ch f262
    have J272 := J263.wr W265 (Safe.arv J263.1.alike V256 (by decide))
    have N273 := own_Fr_snoc (sl := ((4 : Int32)).toNatClampNeg) N264 gz_a218
    refine own_on st265 ?_
    show own_Go p e below F (T265.setTop (mkF m 181 #[.val (.ref ca), .val (.int ((5 : Int32)))] [(.ref a218), (.ref a212), (.ref a212)]))
    obtain ⟨_, _, ⟨T274, L274, k274, n274⟩, -, X274, ⟨Lc274, hQ274, l274, y274, z274⟩, st274⟩ := X265.specialBack hx (y := (⟨"java/lang/String", "<init>", "([C)V"⟩ : MethodName)) rfl J272.2.1 (mvT J272.1 (hw _ (List.mem_of_getElem? (i := 11) rfl))) (mvT J272.1 (hw _ (List.mem_of_getElem? (i := 12) rfl))) (mvT J272.1 (hw _ (List.mem_of_getElem? (i := 13) rfl))) (by decide) (backOf (W := 1) (rmI1 l Z a0 hw a212 a218 k218 [d0, d1, d2, d3, d4] (5 : Int32) (.int (0 : Int32)) h265 (own_ext_trans EZ f266) z0 O1 P5 O3 O4 O5 gz_a212 (Ne.symm ne220) f268 f269 f270 V265 rfl (Nat.le_of_ble_eq_true rfl) (fun c hc => hp c (List.mem_of_mem_take (i := 5) hc)) (Nat.le_of_ble_eq_true rfl) (Nat.le_of_ble_eq_true rfl)) J272.1 (hw _ (List.mem_of_getElem? (i := 13) rfl)) (hw _ (List.mem_of_getElem? (i := 10) rfl)) (by decide) (by decide)) (g := (mkF m 181 #[.val (.ref ca), .val (.int ((5 : Int32)))] [(.ref a218), (.ref a212), (.ref a212)])) rfl (by rw [hml]; rfl) (Steps.refl _) (a := a212) (argsL := [(.ref a218)]) (rest := [(.ref a212)]) (lenOf pdE1 rfl) rfl (by show 2 * 0 + _ ≤ _; exact Nat.le_of_eq rfl) (hb hby dPf_181) (fun _ _ => ⟨rfl, e265, (Nat.le_of_ble_eq_true rfl), (Nat.le_of_ble_eq_true rfl)⟩)
    dsimp only [Pt.U, Pt.locs, Pt.cells, Pt.slots] at X274 l274 y274 z274 st274 hQ274
    rw [l274, y274, z274] at X274
    obtain ⟨rfl, N274, K274, S274⟩ := hQ274
    refine own_to st274 ?_
    show own_Go p e below F (T274.setTop (mkF m 184 #[.val (.ref ca), .val (.int ((5 : Int32)))] [(.ref a212)]))
    have f275 := own_ext_keep f266 K274 (fun y hy => by simp only [List.mem_cons, List.not_mem_nil, or_false] at hy; rcases hy with rfl <;> assumption)
    have J276 := J272.keep K274 (sfS f271 sf0)
    have N277 := Fr.app N273 N274
    exact own_retAW X274 hx hlk hEL J276 rfl hret rfl rfl (hb hby dPf_184) (fun t ht hC hE => hF t _ _ _ _ (by rw [ht]; exact ⟨_, rfl, S274, f275, N277⟩) hC hE (by decide) (by decide))
  · show own_Go p e below F (T0.setTop (mkF m 0 #[.val (.ref ca), .val (.int ((6 : Int32)))] []))
    refine own_iload_n X0.here hx (hb hby dPf_0) rfl (pc' := 1) rfl ?_
    refine own_ifne X0.here hx (hb hby dPf_1) (by decide) (pc' := 15) (by decide) (pc2 := 4) rfl (fun q278 => ?_) (fun q => absurd q (by decide))
    refine own_iload_n X0.here hx (hb hby dPf_15) rfl (pc' := 16) rfl ?_
    refine own_iconst X0.here hx (hb hby dPf_16) (v := 1) rfl (pc' := 17) rfl ?_
    refine own_icmpne X0.here hx (hb hby dPf_17) (by decide) (pc' := 37) (by decide) (pc2 := 20) rfl (fun q279 => ?_) (fun q => absurd q (by decide))
    refine own_iload_n X0.here hx (hb hby dPf_37) rfl (pc' := 38) rfl ?_
    refine own_iconst X0.here hx (hb hby dPf_38) (v := 2) rfl (pc' := 39) rfl ?_
    refine own_icmpne X0.here hx (hb hby dPf_39) (by decide) (pc' := 65) (by decide) (pc2 := 42) rfl (fun q280 => ?_) (fun q => absurd q (by decide))
    refine own_iload_n X0.here hx (hb hby dPf_65) rfl (pc' := 66) rfl ?_
    refine own_iconst X0.here hx (hb hby dPf_66) (v := 3) rfl (pc' := 67) rfl ?_
    refine own_icmpne X0.here hx (hb hby dPf_67) (by decide) (pc' := 99) (by decide) (pc2 := 70) rfl (fun q281 => ?_) (fun q => absurd q (by decide))
    refine own_iload_n X0.here hx (hb hby dPf_99) rfl (pc' := 100) rfl ?_
    refine own_iconst X0.here hx (hb hby dPf_100) (v := 4) rfl (pc' := 101) rfl ?_
    refine own_icmpne X0.here hx (hb hby dPf_101) (by decide) (pc' := 139) (by decide) (pc2 := 104) rfl (fun q282 => ?_) (fun q => absurd q (by decide))
    refine own_iload_n X0.here hx (hb hby dPf_139) rfl (pc' := 140) rfl ?_
    refine own_iconst X0.here hx (hb hby dPf_140) (v := 5) rfl (pc' := 141) rfl ?_
    refine own_icmpne X0.here hx (hb hby dPf_141) (by decide) (pc' := 185) (by decide) (pc2 := 144) rfl (fun q283 => ?_) (fun q => absurd q (by decide))
    refine own_iload_n X0.here hx (hb hby dPf_185) rfl (pc' := 186) rfl ?_
    refine own_bipush X0.here hx (hb hby dPf_186) (v := 6) rfl (pc' := 188) rfl ?_
    refine own_icmpne X0.here hx (hb hby dPf_188) (by decide) (pc' := 239) (by decide) (pc2 := 191) rfl (fun q => absurd rfl q) (fun q284 => ?_)
    obtain ⟨T285, h285, X285, e285, E285, A285, D285, -, st285⟩ := newO X0 hx I0.1 I0.2.1 (hw _ (List.mem_of_getElem? (i := 8) rfl)) (hw _ (List.mem_of_getElem? (i := 9) rfl)) (hw _ (List.mem_of_getElem? (i := 10) rfl)) e0 (g := (mkF m 191 #[.val (.ref ca), .val (.int ((6 : Int32)))] [])) rfl (hb hby dPf_191) (by decide) (by decide)
    obtain ⟨a285, g285⟩ : ∃ z, z = h0.size := ⟨_, rfl⟩
    rw [← g285] at A285 D285 st285
    have ne286 : ca ≠ a285 := Nat.ne_of_lt (by rw [g285]; exact C0.lt)
    have ge287 : h0.size ≤ a285 := by rw [g285]; exact M0.1
    have sf285 := Safe.ext E285 I0.ch (Safe.new (Nat.le_of_eq g285.symm))
    have f288 := own_ext_trans M0 E285
    have f289 := C0.ext E285
    have J290 := I0.ext E285
    have F285_0 : Fld Z h285 a285 "java/lang/String" "value" "[B" (.null) := (D285 (Or.inr (hw _ (List.mem_of_getElem? (i := 23) rfl))) (ty := .array .byte) (by decide))
    have F285_1 : Fld Z h285 a285 "java/lang/String" "coder" "B" (.int ((0 : Int32))) := (D285 (Or.inr (hw _ (List.mem_of_getElem? (i := 24) rfl))) (ty := .byte) (by decide))
    refine own_on st285 ?_
    show own_Go p e below F (T285.setTop (mkF m 194 #[.val (.ref ca), .val (.int ((6 : Int32)))] [(.ref a285)]))
    have gz_a285 : Z.heap.size ≤ a285 := Nat.le_trans EZ.1 ge287
    refine own_dup X285.here hx (hb hby dPf_194) rfl (pc' := 195) rfl ?_
    refine own_bipush X285.here hx (hb hby dPf_195) (v := 6) rfl (pc' := 197) rfl ?_
    obtain ⟨T291, h291, k291, X291, e291, E291, A291, st291⟩ := newP X285 hx J290.1 (hw _ (List.mem_of_getElem? (i := 0) rfl)) e285 (g := (mkF m 197 #[.val (.ref ca), .val (.int ((6 : Int32)))] [(.int ((6 : Int32))), (.ref a285), (.ref a285)])) rfl (hb hby dPf_197) rfl (by decide : ¬ ((6 : Int32) < (0 : Int32))) (cap := 6) (by decide) (by decide) (by decide) (by decide)
    obtain ⟨a291, g291⟩ : ∃ z, z = h285.size := ⟨_, rfl⟩
    rw [← g291] at A291 st291
    have ne292 : ca ≠ a291 := Nat.ne_of_lt (by rw [g291]; exact f289.lt)
    have ne293 : a285 ≠ a291 := Nat.ne_of_lt (by rw [g291]; exact A285.lt)
    have ge294 : h0.size ≤ a291 := by rw [g291]; exact f288.1
    have f295 := own_ext_trans f288 E291
    have f296 := f289.ext E291
    have f297 := A285.ext E291
    have f298 := F285_0.ext E291
    have f299 := F285_1.ext E291
    have f300 := Safe.ext E291 J290.ch sf285
    have J301 := J290.ext E291
    have V291 : Arv Z h291 a291 k291 .char (6 : Int32) [.int (0 : Int32), .int (0 : Int32), .int (0 : Int32), .int (0 : Int32), .int (0 : Int32), .int (0 : Int32)] (.int (0 : Int32)) := (Arv.new A291 (by decide)).pad (pad_rep [] (.int (0 : Int32)) 6)
    refine own_on st291 ?_
    show own_Go p e below F (T291.setTop (mkF m 199 #[.val (.ref ca), .val (.int ((6 : Int32)))] [(.ref a291), (.ref a285), (.ref a285)]))
    have gz_a291 : Z.heap.size ≤ a291 := Nat.le_trans EZ.1 ge294
    refine own_dup X291.here hx (hb hby dPf_199) rfl (pc' := 200) rfl ?_
    refine own_iconst X291.here hx (hb hby dPf_200) (v := 0) rfl (pc' := 201) rfl ?_
    refine own_aload_n X291.here hx (hb hby dPf_201) rfl rfl (pc' := 202) rfl ?_
    refine own_iconst X291.here hx (hb hby dPf_202) (v := 0) rfl (pc' := 203) rfl ?_
    refine own_caload X291 hx J301.1 e291 f296 (w := d0) (by decide) rfl (hb hby dPf_203) (pc' := 204) rfl ?_
    obtain ⟨T302, h302, X302, e302, W302, V302, st302⟩ := own_cast X291 hx J301.1 e291 V291 (i := 0) rfl (Nat.le_of_ble_eq_true rfl) (by decide) nd0 (g := (mkF m 204 #[.val (.ref ca), .val (.int ((6 : Int32)))] [(.int d0), (.int ((0 : Int32))), (.ref a291), (.ref a291), (.ref a285), (.ref a285)])) rfl rfl (hb hby dPf_204)
    replace V302 : Arv Z h302 a291 k291 .char (6 : Int32) [.int d0, .int (0 : Int32), .int (0 : Int32), .int (0 : Int32), .int (0 : Int32), .int (0 : Int32)] (.int (0 : Int32)) := V302
    have f303 := own_ext_wr f295 W302 ge294
    have f304 := f296.other W302 ne292
    have f305 := f297.wr W302
    have f306 := f298.other W302 (Or.inl ne293)
    have f307 := f299.other W302 (Or.inl ne293)
    have f308 := Safe.wr W302 (Safe.arv J301.1.alike V291 (by decide)) J301.ch f300
    have J309 := J301.wr W302 (Safe.arv J301.1.alike V291 (by decide))
    have N310 := own_Fr_snoc (sl := ((0 : Int32)).toNatClampNeg) N0 gz_a291
    refine own_on st302 ?_
    show own_Go p e below F (T302.setTop (mkF m 205 #[.val (.ref ca), .val (.int ((6 : Int32)))] [(.ref a291), (.ref a285), (.ref a285)]))
    refine own_dup X302.here hx (hb hby dPf_205) rfl (pc' := 206) rfl ?_
    refine own_iconst X302.here hx (hb hby dPf_206) (v := 1) rfl (pc' := 207) rfl ?_
    refine own_aload_n X302.here hx (hb hby dPf_207) rfl rfl (pc' := 208) rfl ?_
    refine own_iconst X302.here hx (hb hby dPf_208) (v := 1) rfl (pc' := 209) rfl ?_
    refine own_caload X302 hx J309.1 e302 f304 (w := d1) (by decide) rfl (hb hby dPf_209) (pc' := 210) rfl ?_
    obtain ⟨T311, h311, X311, e311, W311, V311, st311⟩ := own_cast X302 hx J309.1 e302 V302 (i := 1) rfl (Nat.le_of_ble_eq_true rfl) (by decide) nd1 (g := (mkF m 210 #[.val (.ref ca), .val (.int ((6 : Int32)))] [(.int d1), (.int ((1 : Int32))), (.ref a291), (.ref a291), (.ref a285), (.ref a285)])) rfl rfl (hb hby dPf_210)
    replace V311 : Arv Z h311 a291 k291 .char (6 : Int32) [.int d0, .int d1, .int (0 : Int32), .int (0 : Int32), .int (0 : Int32), .int (0 : Int32)] (.int (0 : Int32)) := V311
    have f312 := own_ext_wr f303 W311 ge294
    have f313 := f304.other W311 ne292
    have f314 := f305.wr W311
    have f315 := f306.other W311 (Or.inl ne293)
    have f316 := f307.other W311 (Or.inl ne293)
    have f317 := Safe.wr W311 (Safe.arv J309.1.alike V302 (by decide)) J309.ch f308
    have J318 := J309.wr W311 (Safe.arv J309.1.alike V302 (by decide))
    have N319 := own_Fr_snoc (sl := ((1 : Int32)).toNatClampNeg) N310 gz_a291
    refine own_on st311 ?_
    show own_Go p e below F (T311.setTop (mkF m 211 #[.val (.ref ca), .val (.int ((6 : Int32)))] [(.ref a291), (.ref a285), (.ref a285)]))
    refine own_dup X311.here hx (hb hby dPf_211) rfl (pc' := 212) rfl ?_
    refine own_iconst X311.here hx (hb hby dPf_212) (v := 2) rfl (pc' := 213) rfl ?_
    refine own_aload_n X311.here hx (hb hby dPf_213) rfl rfl (pc' := 214) rfl ?_
    refine own_iconst X311.here hx (hb hby dPf_214) (v := 2) rfl (pc' := 215) rfl ?_
    refine own_caload X311 hx J318.1 e311 f313 (w := d2) (by decide) rfl (hb hby dPf_215) (pc' := 216) rfl ?_
    obtain ⟨T320, h320, X320, e320, W320, V320, st320⟩ := own_cast X311 hx J318.1 e311 V311 (i := 2) rfl (Nat.le_of_ble_eq_true rfl) (by decide) nd2 (g := (mkF m 216 #[.val (.ref ca), .val (.int ((6 : Int32)))] [(.int d2), (.int ((2 : Int32))), (.ref a291), (.ref a291), (.ref a285), (.ref a285)])) rfl rfl (hb hby dPf_216)
    replace V320 : Arv Z h320 a291 k291 .char (6 : Int32) [.int d0, .int d1, .int d2, .int (0 : Int32), .int (0 : Int32), .int (0 : Int32)] (.int (0 : Int32)) := V320
    have f321 := own_ext_wr f312 W320 ge294
    have f322 := f313.other W320 ne292
    have f323 := f314.wr W320
    have f324 := f315.other W320 (Or.inl ne293)
    have f325 := f316.other W320 (Or.inl ne293)
    have f326 := Safe.wr W320 (Safe.arv J318.1.alike V311 (by decide)) J318.ch f317
    have J327 := J318.wr W320 (Safe.arv J318.1.alike V311 (by decide))
    have N328 := own_Fr_snoc (sl := ((2 : Int32)).toNatClampNeg) N319 gz_a291
    refine own_on st320 ?_
    show own_Go p e below F (T320.setTop (mkF m 217 #[.val (.ref ca), .val (.int ((6 : Int32)))] [(.ref a291), (.ref a285), (.ref a285)]))
    refine own_dup X320.here hx (hb hby dPf_217) rfl (pc' := 218) rfl ?_
    refine own_iconst X320.here hx (hb hby dPf_218) (v := 3) rfl (pc' := 219) rfl ?_
    refine own_aload_n X320.here hx (hb hby dPf_219) rfl rfl (pc' := 220) rfl ?_
    refine own_iconst X320.here hx (hb hby dPf_220) (v := 3) rfl (pc' := 221) rfl ?_
    refine own_caload X320 hx J327.1 e320 f322 (w := d3) (by decide) rfl (hb hby dPf_221) (pc' := 222) rfl ?_
    obtain ⟨T329, h329, X329, e329, W329, V329, st329⟩ := own_cast X320 hx J327.1 e320 V320 (i := 3) rfl (Nat.le_of_ble_eq_true rfl) (by decide) nd3 (g := (mkF m 222 #[.val (.ref ca), .val (.int ((6 : Int32)))] [(.int d3), (.int ((3 : Int32))), (.ref a291), (.ref a291), (.ref a285), (.ref a285)])) rfl rfl (hb hby dPf_222)
    replace V329 : Arv Z h329 a291 k291 .char (6 : Int32) [.int d0, .int d1, .int d2, .int d3, .int (0 : Int32), .int (0 : Int32)] (.int (0 : Int32)) := V329
    have f330 := own_ext_wr f321 W329 ge294
    have f331 := f322.other W329 ne292
    have f332 := f323.wr W329
    have f333 := f324.other W329 (Or.inl ne293)
    have f334 := f325.other W329 (Or.inl ne293)
    have f335 := Safe.wr W329 (Safe.arv J327.1.alike V320 (by decide)) J327.ch f326
    have J336 := J327.wr W329 (Safe.arv J327.1.alike V320 (by decide))
    have N337 := own_Fr_snoc (sl := ((3 : Int32)).toNatClampNeg) N328 gz_a291
    refine own_on st329 ?_
    show own_Go p e below F (T329.setTop (mkF m 223 #[.val (.ref ca), .val (.int ((6 : Int32)))] [(.ref a291), (.ref a285), (.ref a285)]))
    refine own_dup X329.here hx (hb hby dPf_223) rfl (pc' := 224) rfl ?_
    refine own_iconst X329.here hx (hb hby dPf_224) (v := 4) rfl (pc' := 225) rfl ?_
    refine own_aload_n X329.here hx (hb hby dPf_225) rfl rfl (pc' := 226) rfl ?_
    refine own_iconst X329.here hx (hb hby dPf_226) (v := 4) rfl (pc' := 227) rfl ?_
    refine own_caload X329 hx J336.1 e329 f331 (w := d4) (by decide) rfl (hb hby dPf_227) (pc' := 228) rfl ?_
    obtain ⟨T338, h338, X338, e338, W338, V338, st338⟩ := own_cast X329 hx J336.1 e329 V329 (i := 4) rfl (Nat.le_of_ble_eq_true rfl) (by decide) nd4 (g := (mkF m 228 #[.val (.ref ca), .val (.int ((6 : Int32)))] [(.int d4), (.int ((4 : Int32))), (.ref a291), (.ref a291), (.ref a285), (.ref a285)])) rfl rfl (hb hby dPf_228)
    replace V338 : Arv Z h338 a291 k291 .char (6 : Int32) [.int d0, .int d1, .int d2, .int d3, .int d4, .int (0 : Int32)] (.int (0 : Int32)) := V338
    have f339 := own_ext_wr f330 W338 ge294
    have f340 := f331.other W338 ne292
    have f341 := f332.wr W338
    have f342 := f333.other W338 (Or.inl ne293)
    have f343 := f334.other W338 (Or.inl ne293)
    have f344 := Safe.wr W338 (Safe.arv J336.1.alike V329 (by decide)) J336.ch f335
    have J345 := J336.wr W338 (Safe.arv J336.1.alike V329 (by decide))
    have N346 := own_Fr_snoc (sl := ((4 : Int32)).toNatClampNeg) N337 gz_a291
    refine own_on st338 ?_
    show own_Go p e below F (T338.setTop (mkF m 229 #[.val (.ref ca), .val (.int ((6 : Int32)))] [(.ref a291), (.ref a285), (.ref a285)]))
    refine own_dup X338.here hx (hb hby dPf_229) rfl (pc' := 230) rfl ?_
    refine own_iconst X338.here hx (hb hby dPf_230) (v := 5) rfl (pc' := 231) rfl ?_
    refine own_aload_n X338.here hx (hb hby dPf_231) rfl rfl (pc' := 232) rfl ?_
    refine own_iconst X338.here hx (hb hby dPf_232) (v := 5) rfl (pc' := 233) rfl ?_
    refine own_caload X338 hx J345.1 e338 f340 (w := d5) (by decide) rfl (hb hby dPf_233) (pc' := 234) rfl ?_
    obtain ⟨T347, h347, X347, e347, W347, V347, st347⟩ := own_cast X338 hx J345.1 e338 V338 (i := 5) rfl (Nat.le_of_ble_eq_true rfl) (by decide) nd5 (g := (mkF m 234 #[.val (.ref ca), .val (.int ((6 : Int32)))] [(.int d5), (.int ((5 : Int32))), (.ref a291), (.ref a291), (.ref a285), (.ref a285)])) rfl rfl (hb hby dPf_234)
    replace V347 : Arv Z h347 a291 k291 .char (6 : Int32) [.int d0, .int d1, .int d2, .int d3, .int d4, .int d5] (.int (0 : Int32)) := V347
    have f348 := own_ext_wr f339 W347 ge294
    have f349 := f340.other W347 ne292
    have f350 := f341.wr W347
    have f351 := f342.other W347 (Or.inl ne293)
    have f352 := f343.other W347 (Or.inl ne293)
    have f353 := Safe.wr W347 (Safe.arv J345.1.alike V338 (by decide)) J345.ch f344
    have J354 := J345.wr W347 (Safe.arv J345.1.alike V338 (by decide))
    have N355 := own_Fr_snoc (sl := ((5 : Int32)).toNatClampNeg) N346 gz_a291
    refine own_on st347 ?_
    show own_Go p e below F (T347.setTop (mkF m 235 #[.val (.ref ca), .val (.int ((6 : Int32)))] [(.ref a291), (.ref a285), (.ref a285)]))
    obtain ⟨_, _, ⟨T356, L356, k356, n356⟩, -, X356, ⟨Lc356, hQ356, l356, y356, z356⟩, st356⟩ := X347.specialBack hx (y := (⟨"java/lang/String", "<init>", "([C)V"⟩ : MethodName)) rfl J354.2.1 (mvT J354.1 (hw _ (List.mem_of_getElem? (i := 11) rfl))) (mvT J354.1 (hw _ (List.mem_of_getElem? (i := 12) rfl))) (mvT J354.1 (hw _ (List.mem_of_getElem? (i := 13) rfl))) (by decide) (backOf (W := 1) (rmI1 l Z a0 hw a285 a291 k291 [d0, d1, d2, d3, d4, d5] (6 : Int32) (.int (0 : Int32)) h347 (own_ext_trans EZ f348) z0 O1 P5 O3 O4 O5 gz_a285 (Ne.symm ne293) f350 f351 f352 V347 rfl (Nat.le_of_ble_eq_true rfl) (fun c hc => hp c (List.mem_of_mem_take (i := 6) hc)) (Nat.le_of_ble_eq_true rfl) (Nat.le_of_ble_eq_true rfl)) J354.1 (hw _ (List.mem_of_getElem? (i := 13) rfl)) (hw _ (List.mem_of_getElem? (i := 10) rfl)) (by decide) (by decide)) (g := (mkF m 235 #[.val (.ref ca), .val (.int ((6 : Int32)))] [(.ref a291), (.ref a285), (.ref a285)])) rfl (by rw [hml]; rfl) (Steps.refl _) (a := a285) (argsL := [(.ref a291)]) (rest := [(.ref a285)]) (lenOf pdE1 rfl) rfl (by show 2 * 0 + _ ≤ _; exact Nat.le_of_eq rfl) (hb hby dPf_235) (fun _ _ => ⟨rfl, e347, (Nat.le_of_ble_eq_true rfl), (Nat.le_of_ble_eq_true rfl)⟩)
    dsimp only [Pt.U, Pt.locs, Pt.cells, Pt.slots] at X356 l356 y356 z356 st356 hQ356
    rw [l356, y356, z356] at X356
    obtain ⟨rfl, N356, K356, S356⟩ := hQ356
    refine own_to st356 ?_
    show own_Go p e below F (T356.setTop (mkF m 238 #[.val (.ref ca), .val (.int ((6 : Int32)))] [(.ref a285)]))
    have f357 := own_ext_keep f348 K356 (fun y hy => by simp only [List.mem_cons, List.not_mem_nil, or_false] at hy; rcases hy with rfl <;> assumption)
    have J358 := J354.keep K356 (sfS f353 sf0)
    have N359 := Fr.app N355 N356
    exact own_retAW X356 hx hlk hEL J358 rfl hret rfl rfl (hb hby dPf_238) (fun t ht hC hE => hF t _ _ _ _ (by rw [ht]; exact ⟨_, rfl, S356, f357, N359⟩) hC hE (by decide) (by decide))
  · show own_Go p e below F (T0.setTop (mkF m 0 #[.val (.ref ca), .val (.int ((7 : Int32)))] []))
    refine own_iload_n X0.here hx (hb hby dPf_0) rfl (pc' := 1) rfl ?_
    refine own_ifne X0.here hx (hb hby dPf_1) (by decide) (pc' := 15) (by decide) (pc2 := 4) rfl (fun q360 => ?_) (fun q => absurd q (by decide))
    refine own_iload_n X0.here hx (hb hby dPf_15) rfl (pc' := 16) rfl ?_
    refine own_iconst X0.here hx (hb hby dPf_16) (v := 1) rfl (pc' := 17) rfl ?_
    refine own_icmpne X0.here hx (hb hby dPf_17) (by decide) (pc' := 37) (by decide) (pc2 := 20) rfl (fun q361 => ?_) (fun q => absurd q (by decide))
    refine own_iload_n X0.here hx (hb hby dPf_37) rfl (pc' := 38) rfl ?_
    refine own_iconst X0.here hx (hb hby dPf_38) (v := 2) rfl (pc' := 39) rfl ?_
    refine own_icmpne X0.here hx (hb hby dPf_39) (by decide) (pc' := 65) (by decide) (pc2 := 42) rfl (fun q362 => ?_) (fun q => absurd q (by decide))
    refine own_iload_n X0.here hx (hb hby dPf_65) rfl (pc' := 66) rfl ?_
    refine own_iconst X0.here hx (hb hby dPf_66) (v := 3) rfl (pc' := 67) rfl ?_
    refine own_icmpne X0.here hx (hb hby dPf_67) (by decide) (pc' := 99) (by decide) (pc2 := 70) rfl (fun q363 => ?_) (fun q => absurd q (by decide))
    refine own_iload_n X0.here hx (hb hby dPf_99) rfl (pc' := 100) rfl ?_
    refine own_iconst X0.here hx (hb hby dPf_100) (v := 4) rfl (pc' := 101) rfl ?_
    refine own_icmpne X0.here hx (hb hby dPf_101) (by decide) (pc' := 139) (by decide) (pc2 := 104) rfl (fun q364 => ?_) (fun q => absurd q (by decide))
    refine own_iload_n X0.here hx (hb hby dPf_139) rfl (pc' := 140) rfl ?_
    refine own_iconst X0.here hx (hb hby dPf_140) (v := 5) rfl (pc' := 141) rfl ?_
    refine own_icmpne X0.here hx (hb hby dPf_141) (by decide) (pc' := 185) (by decide) (pc2 := 144) rfl (fun q365 => ?_) (fun q => absurd q (by decide))
    refine own_iload_n X0.here hx (hb hby dPf_185) rfl (pc' := 186) rfl ?_
    refine own_bipush X0.here hx (hb hby dPf_186) (v := 6) rfl (pc' := 188) rfl ?_
    refine own_icmpne X0.here hx (hb hby dPf_188) (by decide) (pc' := 239) (by decide) (pc2 := 191) rfl (fun q366 => ?_) (fun q => absurd q (by decide))
    refine own_iload_n X0.here hx (hb hby dPf_239) rfl (pc' := 240) rfl ?_
    refine own_bipush X0.here hx (hb hby dPf_240) (v := 7) rfl (pc' := 242) rfl ?_
    refine own_icmpne X0.here hx (hb hby dPf_242) (by decide) (pc' := 301) (by decide) (pc2 := 245) rfl (fun q => absurd rfl q) (fun q367 => ?_)
    obtain ⟨T368, h368, X368, e368, E368, A368, D368, -, st368⟩ := newO X0 hx I0.1 I0.2.1 (hw _ (List.mem_of_getElem? (i := 8) rfl)) (hw _ (List.mem_of_getElem? (i := 9) rfl)) (hw _ (List.mem_of_getElem? (i := 10) rfl)) e0 (g := (mkF m 245 #[.val (.ref ca), .val (.int ((7 : Int32)))] [])) rfl (hb hby dPf_245) (by decide) (by decide)
    obtain ⟨a368, g368⟩ : ∃ z, z = h0.size := ⟨_, rfl⟩
    rw [← g368] at A368 D368 st368
    have ne369 : ca ≠ a368 := Nat.ne_of_lt (by rw [g368]; exact C0.lt)
    have ge370 : h0.size ≤ a368 := by rw [g368]; exact M0.1
    have sf368 := Safe.ext E368 I0.ch (Safe.new (Nat.le_of_eq g368.symm))
    have f371 := own_ext_trans M0 E368
    have f372 := C0.ext E368
    have J373 := I0.ext E368
    have F368_0 : Fld Z h368 a368 "java/lang/String" "value" "[B" (.null) := (D368 (Or.inr (hw _ (List.mem_of_getElem? (i := 23) rfl))) (ty := .array .byte) (by decide))
    have F368_1 : Fld Z h368 a368 "java/lang/String" "coder" "B" (.int ((0 : Int32))) := (D368 (Or.inr (hw _ (List.mem_of_getElem? (i := 24) rfl))) (ty := .byte) (by decide))
    refine own_on st368 ?_
    show own_Go p e below F (T368.setTop (mkF m 248 #[.val (.ref ca), .val (.int ((7 : Int32)))] [(.ref a368)]))
    have gz_a368 : Z.heap.size ≤ a368 := Nat.le_trans EZ.1 ge370
    refine own_dup X368.here hx (hb hby dPf_248) rfl (pc' := 249) rfl ?_
    refine own_bipush X368.here hx (hb hby dPf_249) (v := 7) rfl (pc' := 251) rfl ?_
    obtain ⟨T374, h374, k374, X374, e374, E374, A374, st374⟩ := newP X368 hx J373.1 (hw _ (List.mem_of_getElem? (i := 0) rfl)) e368 (g := (mkF m 251 #[.val (.ref ca), .val (.int ((7 : Int32)))] [(.int ((7 : Int32))), (.ref a368), (.ref a368)])) rfl (hb hby dPf_251) rfl (by decide : ¬ ((7 : Int32) < (0 : Int32))) (cap := 7) (by decide) (by decide) (by decide) (by decide)
    obtain ⟨a374, g374⟩ : ∃ z, z = h368.size := ⟨_, rfl⟩
    rw [← g374] at A374 st374
    have ne375 : ca ≠ a374 := Nat.ne_of_lt (by rw [g374]; exact f372.lt)
    have ne376 : a368 ≠ a374 := Nat.ne_of_lt (by rw [g374]; exact A368.lt)
    have ge377 : h0.size ≤ a374 := by rw [g374]; exact f371.1
    have f378 := own_ext_trans f371 E374
    have f379 := f372.ext E374
    have f380 := A368.ext E374
    have f381 := F368_0.ext E374
    have f382 := F368_1.ext E374
    have f383 := Safe.ext E374 J373.ch sf368
    have J384 := J373.ext E374
    have V374 : Arv Z h374 a374 k374 .char (7 : Int32) [.int (0 : Int32), .int (0 : Int32), .int (0 : Int32), .int (0 : Int32), .int (0 : Int32), .int (0 : Int32), .int (0 : Int32)] (.int (0 : Int32)) := (Arv.new A374 (by decide)).pad (pad_rep [] (.int (0 : Int32)) 7)
    refine own_on st374 ?_
    show own_Go p e below F (T374.setTop (mkF m 253 #[.val (.ref ca), .val (.int ((7 : Int32)))] [(.ref a374), (.ref a368), (.ref a368)]))
    have gz_a374 : Z.heap.size ≤ a374 := Nat.le_trans EZ.1 ge377
    refine own_dup X374.here hx (hb hby dPf_253) rfl (pc' := 254) rfl ?_
    refine own_iconst X374.here hx (hb hby dPf_254) (v := 0) rfl (pc' := 255) rfl ?_
    refine own_aload_n X374.here hx (hb hby dPf_255) rfl rfl (pc' := 256) rfl ?_
    refine own_iconst X374.here hx (hb hby dPf_256) (v := 0) rfl (pc' := 257) rfl ?_
    refine own_caload X374 hx J384.1 e374 f379 (w := d0) (by decide) rfl (hb hby dPf_257) (pc' := 258) rfl ?_
    obtain ⟨T385, h385, X385, e385, W385, V385, st385⟩ := own_cast X374 hx J384.1 e374 V374 (i := 0) rfl (Nat.le_of_ble_eq_true rfl) (by decide) nd0 (g := (mkF m 258 #[.val (.ref ca), .val (.int ((7 : Int32)))] [(.int d0), (.int ((0 : Int32))), (.ref a374), (.ref a374), (.ref a368), (.ref a368)])) rfl rfl (hb hby dPf_258)
    replace V385 : Arv Z h385 a374 k374 .char (7 : Int32) [.int d0, .int (0 : Int32), .int (0 : Int32), .int (0 : Int32), .int (0 : Int32), .int (0 : Int32), .int (0 : Int32)] (.int (0 : Int32)) := V385
    have f386 := own_ext_wr f378 W385 ge377
    have f387 := f379.other W385 ne375
    have f388 := f380.wr W385
    have f389 := f381.other W385 (Or.inl ne376)
    have f390 := f382.other W385 (Or.inl ne376)
    have f391 := Safe.wr W385 (Safe.arv J384.1.alike V374 (by decide)) J384.ch f383
    have J392 := J384.wr W385 (Safe.arv J384.1.alike V374 (by decide))
    have N393 := own_Fr_snoc (sl := ((0 : Int32)).toNatClampNeg) N0 gz_a374
    refine own_on st385 ?_
    show own_Go p e below F (T385.setTop (mkF m 259 #[.val (.ref ca), .val (.int ((7 : Int32)))] [(.ref a374), (.ref a368), (.ref a368)]))
    refine own_dup X385.here hx (hb hby dPf_259) rfl (pc' := 260) rfl ?_
    refine own_iconst X385.here hx (hb hby dPf_260) (v := 1) rfl (pc' := 261) rfl ?_
    refine own_aload_n X385.here hx (hb hby dPf_261) rfl rfl (pc' := 262) rfl ?_
    refine own_iconst X385.here hx (hb hby dPf_262) (v := 1) rfl (pc' := 263) rfl ?_
    refine own_caload X385 hx J392.1 e385 f387 (w := d1) (by decide) rfl (hb hby dPf_263) (pc' := 264) rfl ?_
    obtain ⟨T394, h394, X394, e394, W394, V394, st394⟩ := own_cast X385 hx J392.1 e385 V385 (i := 1) rfl (Nat.le_of_ble_eq_true rfl) (by decide) nd1 (g := (mkF m 264 #[.val (.ref ca), .val (.int ((7 : Int32)))] [(.int d1), (.int ((1 : Int32))), (.ref a374), (.ref a374), (.ref a368), (.ref a368)])) rfl rfl (hb hby dPf_264)
    replace V394 : Arv Z h394 a374 k374 .char (7 : Int32) [.int d0, .int d1, .int (0 : Int32), .int (0 : Int32), .int (0 : Int32), .int (0 : Int32), .int (0 : Int32)] (.int (0 : Int32)) := V394
    have f395 := own_ext_wr f386 W394 ge377
    have f396 := f387.other W394 ne375
    have f397 := f388.wr W394
    have f398 := f389.other W394 (Or.inl ne376)
    have f399 := f390.other W394 (Or.inl ne376)
    have f400 := Safe.wr W394 (Safe.arv J392.1.alike V385 (by decide)) J392.ch f391
    have J401 := J392.wr W394 (Safe.arv J392.1.alike V385 (by decide))
    have N402 := own_Fr_snoc (sl := ((1 : Int32)).toNatClampNeg) N393 gz_a374
    refine own_on st394 ?_
    show own_Go p e below F (T394.setTop (mkF m 265 #[.val (.ref ca), .val (.int ((7 : Int32)))] [(.ref a374), (.ref a368), (.ref a368)]))
    refine own_dup X394.here hx (hb hby dPf_265) rfl (pc' := 266) rfl ?_
    refine own_iconst X394.here hx (hb hby dPf_266) (v := 2) rfl (pc' := 267) rfl ?_
    refine own_aload_n X394.here hx (hb hby dPf_267) rfl rfl (pc' := 268) rfl ?_
    refine own_iconst X394.here hx (hb hby dPf_268) (v := 2) rfl (pc' := 269) rfl ?_
    refine own_caload X394 hx J401.1 e394 f396 (w := d2) (by decide) rfl (hb hby dPf_269) (pc' := 270) rfl ?_
    obtain ⟨T403, h403, X403, e403, W403, V403, st403⟩ := own_cast X394 hx J401.1 e394 V394 (i := 2) rfl (Nat.le_of_ble_eq_true rfl) (by decide) nd2 (g := (mkF m 270 #[.val (.ref ca), .val (.int ((7 : Int32)))] [(.int d2), (.int ((2 : Int32))), (.ref a374), (.ref a374), (.ref a368), (.ref a368)])) rfl rfl (hb hby dPf_270)
    replace V403 : Arv Z h403 a374 k374 .char (7 : Int32) [.int d0, .int d1, .int d2, .int (0 : Int32), .int (0 : Int32), .int (0 : Int32), .int (0 : Int32)] (.int (0 : Int32)) := V403
    have f404 := own_ext_wr f395 W403 ge377
    have f405 := f396.other W403 ne375
    have f406 := f397.wr W403
    have f407 := f398.other W403 (Or.inl ne376)
    have f408 := f399.other W403 (Or.inl ne376)
    have f409 := Safe.wr W403 (Safe.arv J401.1.alike V394 (by decide)) J401.ch f400
    have J410 := J401.wr W403 (Safe.arv J401.1.alike V394 (by decide))
    have N411 := own_Fr_snoc (sl := ((2 : Int32)).toNatClampNeg) N402 gz_a374
    refine own_on st403 ?_
    show own_Go p e below F (T403.setTop (mkF m 271 #[.val (.ref ca), .val (.int ((7 : Int32)))] [(.ref a374), (.ref a368), (.ref a368)]))
    refine own_dup X403.here hx (hb hby dPf_271) rfl (pc' := 272) rfl ?_
    refine own_iconst X403.here hx (hb hby dPf_272) (v := 3) rfl (pc' := 273) rfl ?_
    refine own_aload_n X403.here hx (hb hby dPf_273) rfl rfl (pc' := 274) rfl ?_
    refine own_iconst X403.here hx (hb hby dPf_274) (v := 3) rfl (pc' := 275) rfl ?_
    refine own_caload X403 hx J410.1 e403 f405 (w := d3) (by decide) rfl (hb hby dPf_275) (pc' := 276) rfl ?_
    obtain ⟨T412, h412, X412, e412, W412, V412, st412⟩ := own_cast X403 hx J410.1 e403 V403 (i := 3) rfl (Nat.le_of_ble_eq_true rfl) (by decide) nd3 (g := (mkF m 276 #[.val (.ref ca), .val (.int ((7 : Int32)))] [(.int d3), (.int ((3 : Int32))), (.ref a374), (.ref a374), (.ref a368), (.ref a368)])) rfl rfl (hb hby dPf_276)
    replace V412 : Arv Z h412 a374 k374 .char (7 : Int32) [.int d0, .int d1, .int d2, .int d3, .int (0 : Int32), .int (0 : Int32), .int (0 : Int32)] (.int (0 : Int32)) := V412
    have f413 := own_ext_wr f404 W412 ge377
    have f414 := f405.other W412 ne375
    have f415 := f406.wr W412
    have f416 := f407.other W412 (Or.inl ne376)
    have f417 := f408.other W412 (Or.inl ne376)
    have f418 := Safe.wr W412 (Safe.arv J410.1.alike V403 (by decide)) J410.ch f409
    have J419 := J410.wr W412 (Safe.arv J410.1.alike V403 (by decide))
    have N420 := own_Fr_snoc (sl := ((3 : Int32)).toNatClampNeg) N411 gz_a374
    refine own_on st412 ?_
    show own_Go p e below F (T412.setTop (mkF m 277 #[.val (.ref ca), .val (.int ((7 : Int32)))] [(.ref a374), (.ref a368), (.ref a368)]))
    refine own_dup X412.here hx (hb hby dPf_277) rfl (pc' := 278) rfl ?_
    refine own_iconst X412.here hx (hb hby dPf_278) (v := 4) rfl (pc' := 279) rfl ?_
    refine own_aload_n X412.here hx (hb hby dPf_279) rfl rfl (pc' := 280) rfl ?_
    refine own_iconst X412.here hx (hb hby dPf_280) (v := 4) rfl (pc' := 281) rfl ?_
    refine own_caload X412 hx J419.1 e412 f414 (w := d4) (by decide) rfl (hb hby dPf_281) (pc' := 282) rfl ?_
    obtain ⟨T421, h421, X421, e421, W421, V421, st421⟩ := own_cast X412 hx J419.1 e412 V412 (i := 4) rfl (Nat.le_of_ble_eq_true rfl) (by decide) nd4 (g := (mkF m 282 #[.val (.ref ca), .val (.int ((7 : Int32)))] [(.int d4), (.int ((4 : Int32))), (.ref a374), (.ref a374), (.ref a368), (.ref a368)])) rfl rfl (hb hby dPf_282)
    replace V421 : Arv Z h421 a374 k374 .char (7 : Int32) [.int d0, .int d1, .int d2, .int d3, .int d4, .int (0 : Int32), .int (0 : Int32)] (.int (0 : Int32)) := V421
    have f422 := own_ext_wr f413 W421 ge377
    have f423 := f414.other W421 ne375
    have f424 := f415.wr W421
    have f425 := f416.other W421 (Or.inl ne376)
    have f426 := f417.other W421 (Or.inl ne376)
    have f427 := Safe.wr W421 (Safe.arv J419.1.alike V412 (by decide)) J419.ch f418
    have J428 := J419.wr W421 (Safe.arv J419.1.alike V412 (by decide))
    have N429 := own_Fr_snoc (sl := ((4 : Int32)).toNatClampNeg) N420 gz_a374
    refine own_on st421 ?_
    show own_Go p e below F (T421.setTop (mkF m 283 #[.val (.ref ca), .val (.int ((7 : Int32)))] [(.ref a374), (.ref a368), (.ref a368)]))
    refine own_dup X421.here hx (hb hby dPf_283) rfl (pc' := 284) rfl ?_
    refine own_iconst X421.here hx (hb hby dPf_284) (v := 5) rfl (pc' := 285) rfl ?_
    refine own_aload_n X421.here hx (hb hby dPf_285) rfl rfl (pc' := 286) rfl ?_
    refine own_iconst X421.here hx (hb hby dPf_286) (v := 5) rfl (pc' := 287) rfl ?_
    refine own_caload X421 hx J428.1 e421 f423 (w := d5) (by decide) rfl (hb hby dPf_287) (pc' := 288) rfl ?_
    obtain ⟨T430, h430, X430, e430, W430, V430, st430⟩ := own_cast X421 hx J428.1 e421 V421 (i := 5) rfl (Nat.le_of_ble_eq_true rfl) (by decide) nd5 (g := (mkF m 288 #[.val (.ref ca), .val (.int ((7 : Int32)))] [(.int d5), (.int ((5 : Int32))), (.ref a374), (.ref a374), (.ref a368), (.ref a368)])) rfl rfl (hb hby dPf_288)
    replace V430 : Arv Z h430 a374 k374 .char (7 : Int32) [.int d0, .int d1, .int d2, .int d3, .int d4, .int d5, .int (0 : Int32)] (.int (0 : Int32)) := V430
    have f431 := own_ext_wr f422 W430 ge377
    have f432 := f423.other W430 ne375
    have f433 := f424.wr W430
    have f434 := f425.other W430 (Or.inl ne376)
    have f435 := f426.other W430 (Or.inl ne376)
    have f436 := Safe.wr W430 (Safe.arv J428.1.alike V421 (by decide)) J428.ch f427
    have J437 := J428.wr W430 (Safe.arv J428.1.alike V421 (by decide))
    have N438 := own_Fr_snoc (sl := ((5 : Int32)).toNatClampNeg) N429 gz_a374
    refine own_on st430 ?_
    show own_Go p e below F (T430.setTop (mkF m 289 #[.val (.ref ca), .val (.int ((7 : Int32)))] [(.ref a374), (.ref a368), (.ref a368)]))
    refine own_dup X430.here hx (hb hby dPf_289) rfl (pc' := 290) rfl ?_
    refine own_bipush X430.here hx (hb hby dPf_290) (v := 6) rfl (pc' := 292) rfl ?_
    refine own_aload_n X430.here hx (hb hby dPf_292) rfl rfl (pc' := 293) rfl ?_
    refine own_bipush X430.here hx (hb hby dPf_293) (v := 6) rfl (pc' := 295) rfl ?_
    refine own_caload X430 hx J437.1 e430 f432 (w := d6) (by decide) rfl (hb hby dPf_295) (pc' := 296) rfl ?_
    obtain ⟨T439, h439, X439, e439, W439, V439, st439⟩ := own_cast X430 hx J437.1 e430 V430 (i := 6) rfl (Nat.le_of_ble_eq_true rfl) (by decide) nd6 (g := (mkF m 296 #[.val (.ref ca), .val (.int ((7 : Int32)))] [(.int d6), (.int ((6 : Int32))), (.ref a374), (.ref a374), (.ref a368), (.ref a368)])) rfl rfl (hb hby dPf_296)
    replace V439 : Arv Z h439 a374 k374 .char (7 : Int32) [.int d0, .int d1, .int d2, .int d3, .int d4, .int d5, .int d6] (.int (0 : Int32)) := V439
    have f440 := own_ext_wr f431 W439 ge377
    have f441 := f432.other W439 ne375
    have f442 := f433.wr W439
    have f443 := f434.other W439 (Or.inl ne376)
    have f444 := f435.other W439 (Or.inl ne376)
    have f445 := Safe.wr W439 (Safe.arv J437.1.alike V430 (by decide)) J437.ch f436
    have J446 := J437.wr W439 (Safe.arv J437.1.alike V430 (by decide))
    have N447 := own_Fr_snoc (sl := ((6 : Int32)).toNatClampNeg) N438 gz_a374
    refine own_on st439 ?_
    show own_Go p e below F (T439.setTop (mkF m 297 #[.val (.ref ca), .val (.int ((7 : Int32)))] [(.ref a374), (.ref a368), (.ref a368)]))
    obtain ⟨_, _, ⟨T448, L448, k448, n448⟩, -, X448, ⟨Lc448, hQ448, l448, y448, z448⟩, st448⟩ := X439.specialBack hx (y := (⟨"java/lang/String", "<init>", "([C)V"⟩ : MethodName)) rfl J446.2.1 (mvT J446.1 (hw _ (List.mem_of_getElem? (i := 11) rfl))) (mvT J446.1 (hw _ (List.mem_of_getElem? (i := 12) rfl))) (mvT J446.1 (hw _ (List.mem_of_getElem? (i := 13) rfl))) (by decide) (backOf (W := 1) (rmI1 l Z a0 hw a368 a374 k374 [d0, d1, d2, d3, d4, d5, d6] (7 : Int32) (.int (0 : Int32)) h439 (own_ext_trans EZ f440) z0 O1 P5 O3 O4 O5 gz_a368 (Ne.symm ne376) f442 f443 f444 V439 rfl (Nat.le_of_ble_eq_true rfl) (fun c hc => hp c (List.mem_of_mem_take (i := 7) hc)) (Nat.le_of_ble_eq_true rfl) (Nat.le_of_ble_eq_true rfl)) J446.1 (hw _ (List.mem_of_getElem? (i := 13) rfl)) (hw _ (List.mem_of_getElem? (i := 10) rfl)) (by decide) (by decide)) (g := (mkF m 297 #[.val (.ref ca), .val (.int ((7 : Int32)))] [(.ref a374), (.ref a368), (.ref a368)])) rfl (by rw [hml]; rfl) (Steps.refl _) (a := a368) (argsL := [(.ref a374)]) (rest := [(.ref a368)]) (lenOf pdE1 rfl) rfl (by show 2 * 0 + _ ≤ _; exact Nat.le_of_eq rfl) (hb hby dPf_297) (fun _ _ => ⟨rfl, e439, (Nat.le_of_ble_eq_true rfl), (Nat.le_of_ble_eq_true rfl)⟩)
    dsimp only [Pt.U, Pt.locs, Pt.cells, Pt.slots] at X448 l448 y448 z448 st448 hQ448
    rw [l448, y448, z448] at X448
    obtain ⟨rfl, N448, K448, S448⟩ := hQ448
    refine own_to st448 ?_
    show own_Go p e below F (T448.setTop (mkF m 300 #[.val (.ref ca), .val (.int ((7 : Int32)))] [(.ref a368)]))
    have f449 := own_ext_keep f440 K448 (fun y hy => by simp only [List.mem_cons, List.not_mem_nil, or_false] at hy; rcases hy with rfl <;> assumption)
    have J450 := J446.keep K448 (sfS f445 sf0)
    have N451 := Fr.app N447 N448
    exact own_retAW X448 hx hlk hEL J450 rfl hret rfl rfl (hb hby dPf_300) (fun t ht hC hE => hF t _ _ _ _ (by rw [ht]; exact ⟨_, rfl, S448, f449, N451⟩) hC hE (by decide) (by decide))
  · show own_Go p e below F (T0.setTop (mkF m 0 #[.val (.ref ca), .val (.int ((8 : Int32)))] []))
    refine own_iload_n X0.here hx (hb hby dPf_0) rfl (pc' := 1) rfl ?_
    refine own_ifne X0.here hx (hb hby dPf_1) (by decide) (pc' := 15) (by decide) (pc2 := 4) rfl (fun q452 => ?_) (fun q => absurd q (by decide))
    refine own_iload_n X0.here hx (hb hby dPf_15) rfl (pc' := 16) rfl ?_
    refine own_iconst X0.here hx (hb hby dPf_16) (v := 1) rfl (pc' := 17) rfl ?_
    refine own_icmpne X0.here hx (hb hby dPf_17) (by decide) (pc' := 37) (by decide) (pc2 := 20) rfl (fun q453 => ?_) (fun q => absurd q (by decide))
    refine own_iload_n X0.here hx (hb hby dPf_37) rfl (pc' := 38) rfl ?_
    refine own_iconst X0.here hx (hb hby dPf_38) (v := 2) rfl (pc' := 39) rfl ?_
    refine own_icmpne X0.here hx (hb hby dPf_39) (by decide) (pc' := 65) (by decide) (pc2 := 42) rfl (fun q454 => ?_) (fun q => absurd q (by decide))
    refine own_iload_n X0.here hx (hb hby dPf_65) rfl (pc' := 66) rfl ?_
    refine own_iconst X0.here hx (hb hby dPf_66) (v := 3) rfl (pc' := 67) rfl ?_
    refine own_icmpne X0.here hx (hb hby dPf_67) (by decide) (pc' := 99) (by decide) (pc2 := 70) rfl (fun q455 => ?_) (fun q => absurd q (by decide))
    refine own_iload_n X0.here hx (hb hby dPf_99) rfl (pc' := 100) rfl ?_
    refine own_iconst X0.here hx (hb hby dPf_100) (v := 4) rfl (pc' := 101) rfl ?_
    refine own_icmpne X0.here hx (hb hby dPf_101) (by decide) (pc' := 139) (by decide) (pc2 := 104) rfl (fun q456 => ?_) (fun q => absurd q (by decide))
    refine own_iload_n X0.here hx (hb hby dPf_139) rfl (pc' := 140) rfl ?_
    refine own_iconst X0.here hx (hb hby dPf_140) (v := 5) rfl (pc' := 141) rfl ?_
    refine own_icmpne X0.here hx (hb hby dPf_141) (by decide) (pc' := 185) (by decide) (pc2 := 144) rfl (fun q457 => ?_) (fun q => absurd q (by decide))
    refine own_iload_n X0.here hx (hb hby dPf_185) rfl (pc' := 186) rfl ?_
    refine own_bipush X0.here hx (hb hby dPf_186) (v := 6) rfl (pc' := 188) rfl ?_
    refine own_icmpne X0.here hx (hb hby dPf_188) (by decide) (pc' := 239) (by decide) (pc2 := 191) rfl (fun q458 => ?_) (fun q => absurd q (by decide))
    refine own_iload_n X0.here hx (hb hby dPf_239) rfl (pc' := 240) rfl ?_
    refine own_bipush X0.here hx (hb hby dPf_240) (v := 7) rfl (pc' := 242) rfl ?_
    refine own_icmpne X0.here hx (hb hby dPf_242) (by decide) (pc' := 301) (by decide) (pc2 := 245) rfl (fun q459 => ?_) (fun q => absurd q (by decide))
    refine own_iload_n X0.here hx (hb hby dPf_301) rfl (pc' := 302) rfl ?_
    refine own_bipush X0.here hx (hb hby dPf_302) (v := 8) rfl (pc' := 304) rfl ?_
    refine own_icmpne X0.here hx (hb hby dPf_304) (by decide) (pc' := 371) (by decide) (pc2 := 307) rfl (fun q => absurd rfl q) (fun q460 => ?_)
    obtain ⟨T461, h461, X461, e461, E461, A461, D461, -, st461⟩ := newO X0 hx I0.1 I0.2.1 (hw _ (List.mem_of_getElem? (i := 8) rfl)) (hw _ (List.mem_of_getElem? (i := 9) rfl)) (hw _ (List.mem_of_getElem? (i := 10) rfl)) e0 (g := (mkF m 307 #[.val (.ref ca), .val (.int ((8 : Int32)))] [])) rfl (hb hby dPf_307) (by decide) (by decide)
    obtain ⟨a461, g461⟩ : ∃ z, z = h0.size := ⟨_, rfl⟩
    rw [← g461] at A461 D461 st461
    have ne462 : ca ≠ a461 := Nat.ne_of_lt (by rw [g461]; exact C0.lt)
    have ge463 : h0.size ≤ a461 := by rw [g461]; exact M0.1
    have sf461 := Safe.ext E461 I0.ch (Safe.new (Nat.le_of_eq g461.symm))
    have f464 := own_ext_trans M0 E461
    have f465 := C0.ext E461
    have J466 := I0.ext E461
    have F461_0 : Fld Z h461 a461 "java/lang/String" "value" "[B" (.null) := (D461 (Or.inr (hw _ (List.mem_of_getElem? (i := 23) rfl))) (ty := .array .byte) (by decide))
    have F461_1 : Fld Z h461 a461 "java/lang/String" "coder" "B" (.int ((0 : Int32))) := (D461 (Or.inr (hw _ (List.mem_of_getElem? (i := 24) rfl))) (ty := .byte) (by decide))
    refine own_on st461 ?_
    show own_Go p e below F (T461.setTop (mkF m 310 #[.val (.ref ca), .val (.int ((8 : Int32)))] [(.ref a461)]))
    have gz_a461 : Z.heap.size ≤ a461 := Nat.le_trans EZ.1 ge463
    refine own_dup X461.here hx (hb hby dPf_310) rfl (pc' := 311) rfl ?_
    refine own_bipush X461.here hx (hb hby dPf_311) (v := 8) rfl (pc' := 313) rfl ?_
    obtain ⟨T467, h467, k467, X467, e467, E467, A467, st467⟩ := newP X461 hx J466.1 (hw _ (List.mem_of_getElem? (i := 0) rfl)) e461 (g := (mkF m 313 #[.val (.ref ca), .val (.int ((8 : Int32)))] [(.int ((8 : Int32))), (.ref a461), (.ref a461)])) rfl (hb hby dPf_313) rfl (by decide : ¬ ((8 : Int32) < (0 : Int32))) (cap := 8) (by decide) (by decide) (by decide) (by decide)
    obtain ⟨a467, g467⟩ : ∃ z, z = h461.size := ⟨_, rfl⟩
    rw [← g467] at A467 st467
    have ne468 : ca ≠ a467 := Nat.ne_of_lt (by rw [g467]; exact f465.lt)
    have ne469 : a461 ≠ a467 := Nat.ne_of_lt (by rw [g467]; exact A461.lt)
    have ge470 : h0.size ≤ a467 := by rw [g467]; exact f464.1
    have f471 := own_ext_trans f464 E467
    have f472 := f465.ext E467
    have f473 := A461.ext E467
    have f474 := F461_0.ext E467
    have f475 := F461_1.ext E467
    have f476 := Safe.ext E467 J466.ch sf461
    have J477 := J466.ext E467
    have V467 : Arv Z h467 a467 k467 .char (8 : Int32) [.int (0 : Int32), .int (0 : Int32), .int (0 : Int32), .int (0 : Int32), .int (0 : Int32), .int (0 : Int32), .int (0 : Int32), .int (0 : Int32)] (.int (0 : Int32)) := (Arv.new A467 (by decide)).pad (pad_rep [] (.int (0 : Int32)) 8)
    refine own_on st467 ?_
    show own_Go p e below F (T467.setTop (mkF m 315 #[.val (.ref ca), .val (.int ((8 : Int32)))] [(.ref a467), (.ref a461), (.ref a461)]))
    have gz_a467 : Z.heap.size ≤ a467 := Nat.le_trans EZ.1 ge470
    refine own_dup X467.here hx (hb hby dPf_315) rfl (pc' := 316) rfl ?_
    refine own_iconst X467.here hx (hb hby dPf_316) (v := 0) rfl (pc' := 317) rfl ?_
    refine own_aload_n X467.here hx (hb hby dPf_317) rfl rfl (pc' := 318) rfl ?_
    refine own_iconst X467.here hx (hb hby dPf_318) (v := 0) rfl (pc' := 319) rfl ?_
    refine own_caload X467 hx J477.1 e467 f472 (w := d0) (by decide) rfl (hb hby dPf_319) (pc' := 320) rfl ?_
    obtain ⟨T478, h478, X478, e478, W478, V478, st478⟩ := own_cast X467 hx J477.1 e467 V467 (i := 0) rfl (Nat.le_of_ble_eq_true rfl) (by decide) nd0 (g := (mkF m 320 #[.val (.ref ca), .val (.int ((8 : Int32)))] [(.int d0), (.int ((0 : Int32))), (.ref a467), (.ref a467), (.ref a461), (.ref a461)])) rfl rfl (hb hby dPf_320)
    replace V478 : Arv Z h478 a467 k467 .char (8 : Int32) [.int d0, .int (0 : Int32), .int (0 : Int32), .int (0 : Int32), .int (0 : Int32), .int (0 : Int32), .int (0 : Int32), .int (0 : Int32)] (.int (0 : Int32)) := V478
    have f479 := own_ext_wr f471 W478 ge470
    have f480 := f472.other W478 ne468
    have f481 := f473.wr W478
    have f482 := f474.other W478 (Or.inl ne469)
    have f483 := f475.other W478 (Or.inl ne469)
    have f484 := Safe.wr W478 (Safe.arv J477.1.alike V467 (by decide)) J477.ch f476
    have J485 := J477.wr W478 (Safe.arv J477.1.alike V467 (by decide))
    have N486 := own_Fr_snoc (sl := ((0 : Int32)).toNatClampNeg) N0 gz_a467
    refine own_on st478 ?_
    show own_Go p e below F (T478.setTop (mkF m 321 #[.val (.ref ca), .val (.int ((8 : Int32)))] [(.ref a467), (.ref a461), (.ref a461)]))
    refine own_dup X478.here hx (hb hby dPf_321) rfl (pc' := 322) rfl ?_
    refine own_iconst X478.here hx (hb hby dPf_322) (v := 1) rfl (pc' := 323) rfl ?_
    refine own_aload_n X478.here hx (hb hby dPf_323) rfl rfl (pc' := 324) rfl ?_
    refine own_iconst X478.here hx (hb hby dPf_324) (v := 1) rfl (pc' := 325) rfl ?_
    refine own_caload X478 hx J485.1 e478 f480 (w := d1) (by decide) rfl (hb hby dPf_325) (pc' := 326) rfl ?_
    obtain ⟨T487, h487, X487, e487, W487, V487, st487⟩ := own_cast X478 hx J485.1 e478 V478 (i := 1) rfl (Nat.le_of_ble_eq_true rfl) (by decide) nd1 (g := (mkF m 326 #[.val (.ref ca), .val (.int ((8 : Int32)))] [(.int d1), (.int ((1 : Int32))), (.ref a467), (.ref a467), (.ref a461), (.ref a461)])) rfl rfl (hb hby dPf_326)
    replace V487 : Arv Z h487 a467 k467 .char (8 : Int32) [.int d0, .int d1, .int (0 : Int32), .int (0 : Int32), .int (0 : Int32), .int (0 : Int32), .int (0 : Int32), .int (0 : Int32)] (.int (0 : Int32)) := V487
    have f488 := own_ext_wr f479 W487 ge470
    have f489 := f480.other W487 ne468
    have f490 := f481.wr W487
    have f491 := f482.other W487 (Or.inl ne469)
    have f492 := f483.other W487 (Or.inl ne469)
    have f493 := Safe.wr W487 (Safe.arv J485.1.alike V478 (by decide)) J485.ch f484
    have J494 := J485.wr W487 (Safe.arv J485.1.alike V478 (by decide))
    have N495 := own_Fr_snoc (sl := ((1 : Int32)).toNatClampNeg) N486 gz_a467
    refine own_on st487 ?_
    show own_Go p e below F (T487.setTop (mkF m 327 #[.val (.ref ca), .val (.int ((8 : Int32)))] [(.ref a467), (.ref a461), (.ref a461)]))
    refine own_dup X487.here hx (hb hby dPf_327) rfl (pc' := 328) rfl ?_
    refine own_iconst X487.here hx (hb hby dPf_328) (v := 2) rfl (pc' := 329) rfl ?_
    refine own_aload_n X487.here hx (hb hby dPf_329) rfl rfl (pc' := 330) rfl ?_
    refine own_iconst X487.here hx (hb hby dPf_330) (v := 2) rfl (pc' := 331) rfl ?_
    refine own_caload X487 hx J494.1 e487 f489 (w := d2) (by decide) rfl (hb hby dPf_331) (pc' := 332) rfl ?_
    obtain ⟨T496, h496, X496, e496, W496, V496, st496⟩ := own_cast X487 hx J494.1 e487 V487 (i := 2) rfl (Nat.le_of_ble_eq_true rfl) (by decide) nd2 (g := (mkF m 332 #[.val (.ref ca), .val (.int ((8 : Int32)))] [(.int d2), (.int ((2 : Int32))), (.ref a467), (.ref a467), (.ref a461), (.ref a461)])) rfl rfl (hb hby dPf_332)
    replace V496 : Arv Z h496 a467 k467 .char (8 : Int32) [.int d0, .int d1, .int d2, .int (0 : Int32), .int (0 : Int32), .int (0 : Int32), .int (0 : Int32), .int (0 : Int32)] (.int (0 : Int32)) := V496
    have f497 := own_ext_wr f488 W496 ge470
    have f498 := f489.other W496 ne468
    have f499 := f490.wr W496
    have f500 := f491.other W496 (Or.inl ne469)
    have f501 := f492.other W496 (Or.inl ne469)
    have f502 := Safe.wr W496 (Safe.arv J494.1.alike V487 (by decide)) J494.ch f493
    have J503 := J494.wr W496 (Safe.arv J494.1.alike V487 (by decide))
    have N504 := own_Fr_snoc (sl := ((2 : Int32)).toNatClampNeg) N495 gz_a467
    refine own_on st496 ?_
    show own_Go p e below F (T496.setTop (mkF m 333 #[.val (.ref ca), .val (.int ((8 : Int32)))] [(.ref a467), (.ref a461), (.ref a461)]))
    refine own_dup X496.here hx (hb hby dPf_333) rfl (pc' := 334) rfl ?_
    refine own_iconst X496.here hx (hb hby dPf_334) (v := 3) rfl (pc' := 335) rfl ?_
    refine own_aload_n X496.here hx (hb hby dPf_335) rfl rfl (pc' := 336) rfl ?_
    refine own_iconst X496.here hx (hb hby dPf_336) (v := 3) rfl (pc' := 337) rfl ?_
    refine own_caload X496 hx J503.1 e496 f498 (w := d3) (by decide) rfl (hb hby dPf_337) (pc' := 338) rfl ?_
    obtain ⟨T505, h505, X505, e505, W505, V505, st505⟩ := own_cast X496 hx J503.1 e496 V496 (i := 3) rfl (Nat.le_of_ble_eq_true rfl) (by decide) nd3 (g := (mkF m 338 #[.val (.ref ca), .val (.int ((8 : Int32)))] [(.int d3), (.int ((3 : Int32))), (.ref a467), (.ref a467), (.ref a461), (.ref a461)])) rfl rfl (hb hby dPf_338)
    replace V505 : Arv Z h505 a467 k467 .char (8 : Int32) [.int d0, .int d1, .int d2, .int d3, .int (0 : Int32), .int (0 : Int32), .int (0 : Int32), .int (0 : Int32)] (.int (0 : Int32)) := V505
    have f506 := own_ext_wr f497 W505 ge470
    have f507 := f498.other W505 ne468
    have f508 := f499.wr W505
    have f509 := f500.other W505 (Or.inl ne469)
    have f510 := f501.other W505 (Or.inl ne469)
    have f511 := Safe.wr W505 (Safe.arv J503.1.alike V496 (by decide)) J503.ch f502
    have J512 := J503.wr W505 (Safe.arv J503.1.alike V496 (by decide))
    have N513 := own_Fr_snoc (sl := ((3 : Int32)).toNatClampNeg) N504 gz_a467
    refine own_on st505 ?_
    show own_Go p e below F (T505.setTop (mkF m 339 #[.val (.ref ca), .val (.int ((8 : Int32)))] [(.ref a467), (.ref a461), (.ref a461)]))
    refine own_dup X505.here hx (hb hby dPf_339) rfl (pc' := 340) rfl ?_
    refine own_iconst X505.here hx (hb hby dPf_340) (v := 4) rfl (pc' := 341) rfl ?_
    refine own_aload_n X505.here hx (hb hby dPf_341) rfl rfl (pc' := 342) rfl ?_
    refine own_iconst X505.here hx (hb hby dPf_342) (v := 4) rfl (pc' := 343) rfl ?_
    refine own_caload X505 hx J512.1 e505 f507 (w := d4) (by decide) rfl (hb hby dPf_343) (pc' := 344) rfl ?_
    obtain ⟨T514, h514, X514, e514, W514, V514, st514⟩ := own_cast X505 hx J512.1 e505 V505 (i := 4) rfl (Nat.le_of_ble_eq_true rfl) (by decide) nd4 (g := (mkF m 344 #[.val (.ref ca), .val (.int ((8 : Int32)))] [(.int d4), (.int ((4 : Int32))), (.ref a467), (.ref a467), (.ref a461), (.ref a461)])) rfl rfl (hb hby dPf_344)
    replace V514 : Arv Z h514 a467 k467 .char (8 : Int32) [.int d0, .int d1, .int d2, .int d3, .int d4, .int (0 : Int32), .int (0 : Int32), .int (0 : Int32)] (.int (0 : Int32)) := V514
    have f515 := own_ext_wr f506 W514 ge470
    have f516 := f507.other W514 ne468
    have f517 := f508.wr W514
    have f518 := f509.other W514 (Or.inl ne469)
    have f519 := f510.other W514 (Or.inl ne469)
    have f520 := Safe.wr W514 (Safe.arv J512.1.alike V505 (by decide)) J512.ch f511
    have J521 := J512.wr W514 (Safe.arv J512.1.alike V505 (by decide))
    have N522 := own_Fr_snoc (sl := ((4 : Int32)).toNatClampNeg) N513 gz_a467
    refine own_on st514 ?_
    show own_Go p e below F (T514.setTop (mkF m 345 #[.val (.ref ca), .val (.int ((8 : Int32)))] [(.ref a467), (.ref a461), (.ref a461)]))
    refine own_dup X514.here hx (hb hby dPf_345) rfl (pc' := 346) rfl ?_
    refine own_iconst X514.here hx (hb hby dPf_346) (v := 5) rfl (pc' := 347) rfl ?_
    refine own_aload_n X514.here hx (hb hby dPf_347) rfl rfl (pc' := 348) rfl ?_
    refine own_iconst X514.here hx (hb hby dPf_348) (v := 5) rfl (pc' := 349) rfl ?_
    refine own_caload X514 hx J521.1 e514 f516 (w := d5) (by decide) rfl (hb hby dPf_349) (pc' := 350) rfl ?_
    obtain ⟨T523, h523, X523, e523, W523, V523, st523⟩ := own_cast X514 hx J521.1 e514 V514 (i := 5) rfl (Nat.le_of_ble_eq_true rfl) (by decide) nd5 (g := (mkF m 350 #[.val (.ref ca), .val (.int ((8 : Int32)))] [(.int d5), (.int ((5 : Int32))), (.ref a467), (.ref a467), (.ref a461), (.ref a461)])) rfl rfl (hb hby dPf_350)
    replace V523 : Arv Z h523 a467 k467 .char (8 : Int32) [.int d0, .int d1, .int d2, .int d3, .int d4, .int d5, .int (0 : Int32), .int (0 : Int32)] (.int (0 : Int32)) := V523
    have f524 := own_ext_wr f515 W523 ge470
    have f525 := f516.other W523 ne468
    have f526 := f517.wr W523
    have f527 := f518.other W523 (Or.inl ne469)
    have f528 := f519.other W523 (Or.inl ne469)
    have f529 := Safe.wr W523 (Safe.arv J521.1.alike V514 (by decide)) J521.ch f520
    have J530 := J521.wr W523 (Safe.arv J521.1.alike V514 (by decide))
    have N531 := own_Fr_snoc (sl := ((5 : Int32)).toNatClampNeg) N522 gz_a467
    refine own_on st523 ?_
    show own_Go p e below F (T523.setTop (mkF m 351 #[.val (.ref ca), .val (.int ((8 : Int32)))] [(.ref a467), (.ref a461), (.ref a461)]))
    refine own_dup X523.here hx (hb hby dPf_351) rfl (pc' := 352) rfl ?_
    refine own_bipush X523.here hx (hb hby dPf_352) (v := 6) rfl (pc' := 354) rfl ?_
    refine own_aload_n X523.here hx (hb hby dPf_354) rfl rfl (pc' := 355) rfl ?_
    refine own_bipush X523.here hx (hb hby dPf_355) (v := 6) rfl (pc' := 357) rfl ?_
    refine own_caload X523 hx J530.1 e523 f525 (w := d6) (by decide) rfl (hb hby dPf_357) (pc' := 358) rfl ?_
    obtain ⟨T532, h532, X532, e532, W532, V532, st532⟩ := own_cast X523 hx J530.1 e523 V523 (i := 6) rfl (Nat.le_of_ble_eq_true rfl) (by decide) nd6 (g := (mkF m 358 #[.val (.ref ca), .val (.int ((8 : Int32)))] [(.int d6), (.int ((6 : Int32))), (.ref a467), (.ref a467), (.ref a461), (.ref a461)])) rfl rfl (hb hby dPf_358)
    replace V532 : Arv Z h532 a467 k467 .char (8 : Int32) [.int d0, .int d1, .int d2, .int d3, .int d4, .int d5, .int d6, .int (0 : Int32)] (.int (0 : Int32)) := V532
    have f533 := own_ext_wr f524 W532 ge470
    have f534 := f525.other W532 ne468
    have f535 := f526.wr W532
    have f536 := f527.other W532 (Or.inl ne469)
    have f537 := f528.other W532 (Or.inl ne469)
    have f538 := Safe.wr W532 (Safe.arv J530.1.alike V523 (by decide)) J530.ch f529
    have J539 := J530.wr W532 (Safe.arv J530.1.alike V523 (by decide))
    have N540 := own_Fr_snoc (sl := ((6 : Int32)).toNatClampNeg) N531 gz_a467
    refine own_on st532 ?_
    show own_Go p e below F (T532.setTop (mkF m 359 #[.val (.ref ca), .val (.int ((8 : Int32)))] [(.ref a467), (.ref a461), (.ref a461)]))
    refine own_dup X532.here hx (hb hby dPf_359) rfl (pc' := 360) rfl ?_
    refine own_bipush X532.here hx (hb hby dPf_360) (v := 7) rfl (pc' := 362) rfl ?_
    refine own_aload_n X532.here hx (hb hby dPf_362) rfl rfl (pc' := 363) rfl ?_
    refine own_bipush X532.here hx (hb hby dPf_363) (v := 7) rfl (pc' := 365) rfl ?_
    refine own_caload X532 hx J539.1 e532 f534 (w := d7) (by decide) rfl (hb hby dPf_365) (pc' := 366) rfl ?_
    obtain ⟨T541, h541, X541, e541, W541, V541, st541⟩ := own_cast X532 hx J539.1 e532 V532 (i := 7) rfl (Nat.le_of_ble_eq_true rfl) (by decide) nd7 (g := (mkF m 366 #[.val (.ref ca), .val (.int ((8 : Int32)))] [(.int d7), (.int ((7 : Int32))), (.ref a467), (.ref a467), (.ref a461), (.ref a461)])) rfl rfl (hb hby dPf_366)
    replace V541 : Arv Z h541 a467 k467 .char (8 : Int32) [.int d0, .int d1, .int d2, .int d3, .int d4, .int d5, .int d6, .int d7] (.int (0 : Int32)) := V541
    have f542 := own_ext_wr f533 W541 ge470
    have f543 := f534.other W541 ne468
    have f544 := f535.wr W541
    have f545 := f536.other W541 (Or.inl ne469)
    have f546 := f537.other W541 (Or.inl ne469)
    have f547 := Safe.wr W541 (Safe.arv J539.1.alike V532 (by decide)) J539.ch f538
    have J548 := J539.wr W541 (Safe.arv J539.1.alike V532 (by decide))
    have N549 := own_Fr_snoc (sl := ((7 : Int32)).toNatClampNeg) N540 gz_a467
    refine own_on st541 ?_
    show own_Go p e below F (T541.setTop (mkF m 367 #[.val (.ref ca), .val (.int ((8 : Int32)))] [(.ref a467), (.ref a461), (.ref a461)]))
    obtain ⟨_, _, ⟨T550, L550, k550, n550⟩, -, X550, ⟨Lc550, hQ550, l550, y550, z550⟩, st550⟩ := X541.specialBack hx (y := (⟨"java/lang/String", "<init>", "([C)V"⟩ : MethodName)) rfl J548.2.1 (mvT J548.1 (hw _ (List.mem_of_getElem? (i := 11) rfl))) (mvT J548.1 (hw _ (List.mem_of_getElem? (i := 12) rfl))) (mvT J548.1 (hw _ (List.mem_of_getElem? (i := 13) rfl))) (by decide) (backOf (W := 1) (rmI1 l Z a0 hw a461 a467 k467 [d0, d1, d2, d3, d4, d5, d6, d7] (8 : Int32) (.int (0 : Int32)) h541 (own_ext_trans EZ f542) z0 O1 P5 O3 O4 O5 gz_a461 (Ne.symm ne469) f544 f545 f546 V541 rfl (Nat.le_of_ble_eq_true rfl) (fun c hc => hp c (List.mem_of_mem_take (i := 8) hc)) (Nat.le_of_ble_eq_true rfl) (Nat.le_of_ble_eq_true rfl)) J548.1 (hw _ (List.mem_of_getElem? (i := 13) rfl)) (hw _ (List.mem_of_getElem? (i := 10) rfl)) (by decide) (by decide)) (g := (mkF m 367 #[.val (.ref ca), .val (.int ((8 : Int32)))] [(.ref a467), (.ref a461), (.ref a461)])) rfl (by rw [hml]; rfl) (Steps.refl _) (a := a461) (argsL := [(.ref a467)]) (rest := [(.ref a461)]) (lenOf pdE1 rfl) rfl (by show 2 * 0 + _ ≤ _; exact Nat.le_of_eq rfl) (hb hby dPf_367) (fun _ _ => ⟨rfl, e541, (Nat.le_of_ble_eq_true rfl), (Nat.le_of_ble_eq_true rfl)⟩)
    dsimp only [Pt.U, Pt.locs, Pt.cells, Pt.slots] at X550 l550 y550 z550 st550 hQ550
    rw [l550, y550, z550] at X550
    obtain ⟨rfl, N550, K550, S550⟩ := hQ550
    refine own_to st550 ?_
    show own_Go p e below F (T550.setTop (mkF m 370 #[.val (.ref ca), .val (.int ((8 : Int32)))] [(.ref a461)]))
    have f551 := own_ext_keep f542 K550 (fun y hy => by simp only [List.mem_cons, List.not_mem_nil, or_false] at hy; rcases hy with rfl <;> assumption)
    have J552 := J548.keep K550 (sfS f547 sf0)
    have N553 := Fr.app N549 N550
    exact own_retAW X550 hx hlk hEL J552 rfl hret rfl rfl (hb hby dPf_370) (fun t ht hC hE => hF t _ _ _ _ (by rw [ht]; exact ⟨_, rfl, S550, f551, N553⟩) hC hE (by decide) (by decide))
  · show own_Go p e below F (T0.setTop (mkF m 0 #[.val (.ref ca), .val (.int ((9 : Int32)))] []))
    refine own_iload_n X0.here hx (hb hby dPf_0) rfl (pc' := 1) rfl ?_
    refine own_ifne X0.here hx (hb hby dPf_1) (by decide) (pc' := 15) (by decide) (pc2 := 4) rfl (fun q554 => ?_) (fun q => absurd q (by decide))
    refine own_iload_n X0.here hx (hb hby dPf_15) rfl (pc' := 16) rfl ?_
    refine own_iconst X0.here hx (hb hby dPf_16) (v := 1) rfl (pc' := 17) rfl ?_
    refine own_icmpne X0.here hx (hb hby dPf_17) (by decide) (pc' := 37) (by decide) (pc2 := 20) rfl (fun q555 => ?_) (fun q => absurd q (by decide))
    refine own_iload_n X0.here hx (hb hby dPf_37) rfl (pc' := 38) rfl ?_
    refine own_iconst X0.here hx (hb hby dPf_38) (v := 2) rfl (pc' := 39) rfl ?_
    refine own_icmpne X0.here hx (hb hby dPf_39) (by decide) (pc' := 65) (by decide) (pc2 := 42) rfl (fun q556 => ?_) (fun q => absurd q (by decide))
    refine own_iload_n X0.here hx (hb hby dPf_65) rfl (pc' := 66) rfl ?_
    refine own_iconst X0.here hx (hb hby dPf_66) (v := 3) rfl (pc' := 67) rfl ?_
    refine own_icmpne X0.here hx (hb hby dPf_67) (by decide) (pc' := 99) (by decide) (pc2 := 70) rfl (fun q557 => ?_) (fun q => absurd q (by decide))
    refine own_iload_n X0.here hx (hb hby dPf_99) rfl (pc' := 100) rfl ?_
    refine own_iconst X0.here hx (hb hby dPf_100) (v := 4) rfl (pc' := 101) rfl ?_
    refine own_icmpne X0.here hx (hb hby dPf_101) (by decide) (pc' := 139) (by decide) (pc2 := 104) rfl (fun q558 => ?_) (fun q => absurd q (by decide))
    refine own_iload_n X0.here hx (hb hby dPf_139) rfl (pc' := 140) rfl ?_
    refine own_iconst X0.here hx (hb hby dPf_140) (v := 5) rfl (pc' := 141) rfl ?_
    refine own_icmpne X0.here hx (hb hby dPf_141) (by decide) (pc' := 185) (by decide) (pc2 := 144) rfl (fun q559 => ?_) (fun q => absurd q (by decide))
    refine own_iload_n X0.here hx (hb hby dPf_185) rfl (pc' := 186) rfl ?_
    refine own_bipush X0.here hx (hb hby dPf_186) (v := 6) rfl (pc' := 188) rfl ?_
    refine own_icmpne X0.here hx (hb hby dPf_188) (by decide) (pc' := 239) (by decide) (pc2 := 191) rfl (fun q560 => ?_) (fun q => absurd q (by decide))
    refine own_iload_n X0.here hx (hb hby dPf_239) rfl (pc' := 240) rfl ?_
    refine own_bipush X0.here hx (hb hby dPf_240) (v := 7) rfl (pc' := 242) rfl ?_
    refine own_icmpne X0.here hx (hb hby dPf_242) (by decide) (pc' := 301) (by decide) (pc2 := 245) rfl (fun q561 => ?_) (fun q => absurd q (by decide))
    refine own_iload_n X0.here hx (hb hby dPf_301) rfl (pc' := 302) rfl ?_
    refine own_bipush X0.here hx (hb hby dPf_302) (v := 8) rfl (pc' := 304) rfl ?_
    refine own_icmpne X0.here hx (hb hby dPf_304) (by decide) (pc' := 371) (by decide) (pc2 := 307) rfl (fun q562 => ?_) (fun q => absurd q (by decide))
    obtain ⟨T563, h563, X563, e563, E563, A563, D563, -, st563⟩ := newO X0 hx I0.1 I0.2.1 (hw _ (List.mem_of_getElem? (i := 8) rfl)) (hw _ (List.mem_of_getElem? (i := 9) rfl)) (hw _ (List.mem_of_getElem? (i := 10) rfl)) e0 (g := (mkF m 371 #[.val (.ref ca), .val (.int ((9 : Int32)))] [])) rfl (hb hby dPf_371) (by decide) (by decide)
    obtain ⟨a563, g563⟩ : ∃ z, z = h0.size := ⟨_, rfl⟩
    rw [← g563] at A563 D563 st563
    have ne564 : ca ≠ a563 := Nat.ne_of_lt (by rw [g563]; exact C0.lt)
    have ge565 : h0.size ≤ a563 := by rw [g563]; exact M0.1
    have sf563 := Safe.ext E563 I0.ch (Safe.new (Nat.le_of_eq g563.symm))
    have f566 := own_ext_trans M0 E563
    have f567 := C0.ext E563
    have J568 := I0.ext E563
    have F563_0 : Fld Z h563 a563 "java/lang/String" "value" "[B" (.null) := (D563 (Or.inr (hw _ (List.mem_of_getElem? (i := 23) rfl))) (ty := .array .byte) (by decide))
    have F563_1 : Fld Z h563 a563 "java/lang/String" "coder" "B" (.int ((0 : Int32))) := (D563 (Or.inr (hw _ (List.mem_of_getElem? (i := 24) rfl))) (ty := .byte) (by decide))
    refine own_on st563 ?_
    show own_Go p e below F (T563.setTop (mkF m 374 #[.val (.ref ca), .val (.int ((9 : Int32)))] [(.ref a563)]))
    have gz_a563 : Z.heap.size ≤ a563 := Nat.le_trans EZ.1 ge565
    refine own_dup X563.here hx (hb hby dPf_374) rfl (pc' := 375) rfl ?_
    refine own_bipush X563.here hx (hb hby dPf_375) (v := 9) rfl (pc' := 377) rfl ?_
    obtain ⟨T569, h569, k569, X569, e569, E569, A569, st569⟩ := newP X563 hx J568.1 (hw _ (List.mem_of_getElem? (i := 0) rfl)) e563 (g := (mkF m 377 #[.val (.ref ca), .val (.int ((9 : Int32)))] [(.int ((9 : Int32))), (.ref a563), (.ref a563)])) rfl (hb hby dPf_377) rfl (by decide : ¬ ((9 : Int32) < (0 : Int32))) (cap := 9) (by decide) (by decide) (by decide) (by decide)
    obtain ⟨a569, g569⟩ : ∃ z, z = h563.size := ⟨_, rfl⟩
    rw [← g569] at A569 st569
    have ne570 : ca ≠ a569 := Nat.ne_of_lt (by rw [g569]; exact f567.lt)
    have ne571 : a563 ≠ a569 := Nat.ne_of_lt (by rw [g569]; exact A563.lt)
    have ge572 : h0.size ≤ a569 := by rw [g569]; exact f566.1
    have f573 := own_ext_trans f566 E569
    have f574 := f567.ext E569
    have f575 := A563.ext E569
    have f576 := F563_0.ext E569
    have f577 := F563_1.ext E569
    have f578 := Safe.ext E569 J568.ch sf563
    have J579 := J568.ext E569
    have V569 : Arv Z h569 a569 k569 .char (9 : Int32) [.int (0 : Int32), .int (0 : Int32), .int (0 : Int32), .int (0 : Int32), .int (0 : Int32), .int (0 : Int32), .int (0 : Int32), .int (0 : Int32), .int (0 : Int32)] (.int (0 : Int32)) := (Arv.new A569 (by decide)).pad (pad_rep [] (.int (0 : Int32)) 9)
    refine own_on st569 ?_
    show own_Go p e below F (T569.setTop (mkF m 379 #[.val (.ref ca), .val (.int ((9 : Int32)))] [(.ref a569), (.ref a563), (.ref a563)]))
    have gz_a569 : Z.heap.size ≤ a569 := Nat.le_trans EZ.1 ge572
    refine own_dup X569.here hx (hb hby dPf_379) rfl (pc' := 380) rfl ?_
    refine own_iconst X569.here hx (hb hby dPf_380) (v := 0) rfl (pc' := 381) rfl ?_
    refine own_aload_n X569.here hx (hb hby dPf_381) rfl rfl (pc' := 382) rfl ?_
    refine own_iconst X569.here hx (hb hby dPf_382) (v := 0) rfl (pc' := 383) rfl ?_
    refine own_caload X569 hx J579.1 e569 f574 (w := d0) (by decide) rfl (hb hby dPf_383) (pc' := 384) rfl ?_
    obtain ⟨T580, h580, X580, e580, W580, V580, st580⟩ := own_cast X569 hx J579.1 e569 V569 (i := 0) rfl (Nat.le_of_ble_eq_true rfl) (by decide) nd0 (g := (mkF m 384 #[.val (.ref ca), .val (.int ((9 : Int32)))] [(.int d0), (.int ((0 : Int32))), (.ref a569), (.ref a569), (.ref a563), (.ref a563)])) rfl rfl (hb hby dPf_384)
    replace V580 : Arv Z h580 a569 k569 .char (9 : Int32) [.int d0, .int (0 : Int32), .int (0 : Int32), .int (0 : Int32), .int (0 : Int32), .int (0 : Int32), .int (0 : Int32), .int (0 : Int32), .int (0 : Int32)] (.int (0 : Int32)) := V580
    have f581 := own_ext_wr f573 W580 ge572
    have f582 := f574.other W580 ne570
    have f583 := f575.wr W580
    have f584 := f576.other W580 (Or.inl ne571)
    have f585 := f577.other W580 (Or.inl ne571)
    have f586 := Safe.wr W580 (Safe.arv J579.1.alike V569 (by decide)) J579.ch f578
    have J587 := J579.wr W580 (Safe.arv J579.1.alike V569 (by decide))
    have N588 := own_Fr_snoc (sl := ((0 : Int32)).toNatClampNeg) N0 gz_a569
    refine own_on st580 ?_
    show own_Go p e below F (T580.setTop (mkF m 385 #[.val (.ref ca), .val (.int ((9 : Int32)))] [(.ref a569), (.ref a563), (.ref a563)]))
    refine own_dup X580.here hx (hb hby dPf_385) rfl (pc' := 386) rfl ?_
    refine own_iconst X580.here hx (hb hby dPf_386) (v := 1) rfl (pc' := 387) rfl ?_
    refine own_aload_n X580.here hx (hb hby dPf_387) rfl rfl (pc' := 388) rfl ?_
    refine own_iconst X580.here hx (hb hby dPf_388) (v := 1) rfl (pc' := 389) rfl ?_
    refine own_caload X580 hx J587.1 e580 f582 (w := d1) (by decide) rfl (hb hby dPf_389) (pc' := 390) rfl ?_
    obtain ⟨T589, h589, X589, e589, W589, V589, st589⟩ := own_cast X580 hx J587.1 e580 V580 (i := 1) rfl (Nat.le_of_ble_eq_true rfl) (by decide) nd1 (g := (mkF m 390 #[.val (.ref ca), .val (.int ((9 : Int32)))] [(.int d1), (.int ((1 : Int32))), (.ref a569), (.ref a569), (.ref a563), (.ref a563)])) rfl rfl (hb hby dPf_390)
    replace V589 : Arv Z h589 a569 k569 .char (9 : Int32) [.int d0, .int d1, .int (0 : Int32), .int (0 : Int32), .int (0 : Int32), .int (0 : Int32), .int (0 : Int32), .int (0 : Int32), .int (0 : Int32)] (.int (0 : Int32)) := V589
    have f590 := own_ext_wr f581 W589 ge572
    have f591 := f582.other W589 ne570
    have f592 := f583.wr W589
    have f593 := f584.other W589 (Or.inl ne571)
    have f594 := f585.other W589 (Or.inl ne571)
    have f595 := Safe.wr W589 (Safe.arv J587.1.alike V580 (by decide)) J587.ch f586
    have J596 := J587.wr W589 (Safe.arv J587.1.alike V580 (by decide))
    have N597 := own_Fr_snoc (sl := ((1 : Int32)).toNatClampNeg) N588 gz_a569
    refine own_on st589 ?_
    show own_Go p e below F (T589.setTop (mkF m 391 #[.val (.ref ca), .val (.int ((9 : Int32)))] [(.ref a569), (.ref a563), (.ref a563)]))
    refine own_dup X589.here hx (hb hby dPf_391) rfl (pc' := 392) rfl ?_
    refine own_iconst X589.here hx (hb hby dPf_392) (v := 2) rfl (pc' := 393) rfl ?_
    refine own_aload_n X589.here hx (hb hby dPf_393) rfl rfl (pc' := 394) rfl ?_
    refine own_iconst X589.here hx (hb hby dPf_394) (v := 2) rfl (pc' := 395) rfl ?_
    refine own_caload X589 hx J596.1 e589 f591 (w := d2) (by decide) rfl (hb hby dPf_395) (pc' := 396) rfl ?_
    obtain ⟨T598, h598, X598, e598, W598, V598, st598⟩ := own_cast X589 hx J596.1 e589 V589 (i := 2) rfl (Nat.le_of_ble_eq_true rfl) (by decide) nd2 (g := (mkF m 396 #[.val (.ref ca), .val (.int ((9 : Int32)))] [(.int d2), (.int ((2 : Int32))), (.ref a569), (.ref a569), (.ref a563), (.ref a563)])) rfl rfl (hb hby dPf_396)
    replace V598 : Arv Z h598 a569 k569 .char (9 : Int32) [.int d0, .int d1, .int d2, .int (0 : Int32), .int (0 : Int32), .int (0 : Int32), .int (0 : Int32), .int (0 : Int32), .int (0 : Int32)] (.int (0 : Int32)) := V598
    have f599 := own_ext_wr f590 W598 ge572
    have f600 := f591.other W598 ne570
    have f601 := f592.wr W598
    have f602 := f593.other W598 (Or.inl ne571)
    have f603 := f594.other W598 (Or.inl ne571)
    have f604 := Safe.wr W598 (Safe.arv J596.1.alike V589 (by decide)) J596.ch f595
    have J605 := J596.wr W598 (Safe.arv J596.1.alike V589 (by decide))
    have N606 := own_Fr_snoc (sl := ((2 : Int32)).toNatClampNeg) N597 gz_a569
    refine own_on st598 ?_
    show own_Go p e below F (T598.setTop (mkF m 397 #[.val (.ref ca), .val (.int ((9 : Int32)))] [(.ref a569), (.ref a563), (.ref a563)]))
    refine own_dup X598.here hx (hb hby dPf_397) rfl (pc' := 398) rfl ?_
    refine own_iconst X598.here hx (hb hby dPf_398) (v := 3) rfl (pc' := 399) rfl ?_
    refine own_aload_n X598.here hx (hb hby dPf_399) rfl rfl (pc' := 400) rfl ?_
    refine own_iconst X598.here hx (hb hby dPf_400) (v := 3) rfl (pc' := 401) rfl ?_
    refine own_caload X598 hx J605.1 e598 f600 (w := d3) (by decide) rfl (hb hby dPf_401) (pc' := 402) rfl ?_
    obtain ⟨T607, h607, X607, e607, W607, V607, st607⟩ := own_cast X598 hx J605.1 e598 V598 (i := 3) rfl (Nat.le_of_ble_eq_true rfl) (by decide) nd3 (g := (mkF m 402 #[.val (.ref ca), .val (.int ((9 : Int32)))] [(.int d3), (.int ((3 : Int32))), (.ref a569), (.ref a569), (.ref a563), (.ref a563)])) rfl rfl (hb hby dPf_402)
    replace V607 : Arv Z h607 a569 k569 .char (9 : Int32) [.int d0, .int d1, .int d2, .int d3, .int (0 : Int32), .int (0 : Int32), .int (0 : Int32), .int (0 : Int32), .int (0 : Int32)] (.int (0 : Int32)) := V607
    have f608 := own_ext_wr f599 W607 ge572
    have f609 := f600.other W607 ne570
    have f610 := f601.wr W607
    have f611 := f602.other W607 (Or.inl ne571)
    have f612 := f603.other W607 (Or.inl ne571)
    have f613 := Safe.wr W607 (Safe.arv J605.1.alike V598 (by decide)) J605.ch f604
    have J614 := J605.wr W607 (Safe.arv J605.1.alike V598 (by decide))
    have N615 := own_Fr_snoc (sl := ((3 : Int32)).toNatClampNeg) N606 gz_a569
    refine own_on st607 ?_
    show own_Go p e below F (T607.setTop (mkF m 403 #[.val (.ref ca), .val (.int ((9 : Int32)))] [(.ref a569), (.ref a563), (.ref a563)]))
    refine own_dup X607.here hx (hb hby dPf_403) rfl (pc' := 404) rfl ?_
    refine own_iconst X607.here hx (hb hby dPf_404) (v := 4) rfl (pc' := 405) rfl ?_
    refine own_aload_n X607.here hx (hb hby dPf_405) rfl rfl (pc' := 406) rfl ?_
    refine own_iconst X607.here hx (hb hby dPf_406) (v := 4) rfl (pc' := 407) rfl ?_
    refine own_caload X607 hx J614.1 e607 f609 (w := d4) (by decide) rfl (hb hby dPf_407) (pc' := 408) rfl ?_
    obtain ⟨T616, h616, X616, e616, W616, V616, st616⟩ := own_cast X607 hx J614.1 e607 V607 (i := 4) rfl (Nat.le_of_ble_eq_true rfl) (by decide) nd4 (g := (mkF m 408 #[.val (.ref ca), .val (.int ((9 : Int32)))] [(.int d4), (.int ((4 : Int32))), (.ref a569), (.ref a569), (.ref a563), (.ref a563)])) rfl rfl (hb hby dPf_408)
    replace V616 : Arv Z h616 a569 k569 .char (9 : Int32) [.int d0, .int d1, .int d2, .int d3, .int d4, .int (0 : Int32), .int (0 : Int32), .int (0 : Int32), .int (0 : Int32)] (.int (0 : Int32)) := V616
    have f617 := own_ext_wr f608 W616 ge572
    have f618 := f609.other W616 ne570
    have f619 := f610.wr W616
    have f620 := f611.other W616 (Or.inl ne571)
    have f621 := f612.other W616 (Or.inl ne571)
    have f622 := Safe.wr W616 (Safe.arv J614.1.alike V607 (by decide)) J614.ch f613
    have J623 := J614.wr W616 (Safe.arv J614.1.alike V607 (by decide))
    have N624 := own_Fr_snoc (sl := ((4 : Int32)).toNatClampNeg) N615 gz_a569
    refine own_on st616 ?_
    show own_Go p e below F (T616.setTop (mkF m 409 #[.val (.ref ca), .val (.int ((9 : Int32)))] [(.ref a569), (.ref a563), (.ref a563)]))
    refine own_dup X616.here hx (hb hby dPf_409) rfl (pc' := 410) rfl ?_
    refine own_iconst X616.here hx (hb hby dPf_410) (v := 5) rfl (pc' := 411) rfl ?_
    refine own_aload_n X616.here hx (hb hby dPf_411) rfl rfl (pc' := 412) rfl ?_
    refine own_iconst X616.here hx (hb hby dPf_412) (v := 5) rfl (pc' := 413) rfl ?_
    refine own_caload X616 hx J623.1 e616 f618 (w := d5) (by decide) rfl (hb hby dPf_413) (pc' := 414) rfl ?_
    obtain ⟨T625, h625, X625, e625, W625, V625, st625⟩ := own_cast X616 hx J623.1 e616 V616 (i := 5) rfl (Nat.le_of_ble_eq_true rfl) (by decide) nd5 (g := (mkF m 414 #[.val (.ref ca), .val (.int ((9 : Int32)))] [(.int d5), (.int ((5 : Int32))), (.ref a569), (.ref a569), (.ref a563), (.ref a563)])) rfl rfl (hb hby dPf_414)
    replace V625 : Arv Z h625 a569 k569 .char (9 : Int32) [.int d0, .int d1, .int d2, .int d3, .int d4, .int d5, .int (0 : Int32), .int (0 : Int32), .int (0 : Int32)] (.int (0 : Int32)) := V625
    have f626 := own_ext_wr f617 W625 ge572
    have f627 := f618.other W625 ne570
    have f628 := f619.wr W625
    have f629 := f620.other W625 (Or.inl ne571)
    have f630 := f621.other W625 (Or.inl ne571)
    have f631 := Safe.wr W625 (Safe.arv J623.1.alike V616 (by decide)) J623.ch f622
    have J632 := J623.wr W625 (Safe.arv J623.1.alike V616 (by decide))
    have N633 := own_Fr_snoc (sl := ((5 : Int32)).toNatClampNeg) N624 gz_a569
    refine own_on st625 ?_
    show own_Go p e below F (T625.setTop (mkF m 415 #[.val (.ref ca), .val (.int ((9 : Int32)))] [(.ref a569), (.ref a563), (.ref a563)]))
    refine own_dup X625.here hx (hb hby dPf_415) rfl (pc' := 416) rfl ?_
    refine own_bipush X625.here hx (hb hby dPf_416) (v := 6) rfl (pc' := 418) rfl ?_
    refine own_aload_n X625.here hx (hb hby dPf_418) rfl rfl (pc' := 419) rfl ?_
    refine own_bipush X625.here hx (hb hby dPf_419) (v := 6) rfl (pc' := 421) rfl ?_
    refine own_caload X625 hx J632.1 e625 f627 (w := d6) (by decide) rfl (hb hby dPf_421) (pc' := 422) rfl ?_
    obtain ⟨T634, h634, X634, e634, W634, V634, st634⟩ := own_cast X625 hx J632.1 e625 V625 (i := 6) rfl (Nat.le_of_ble_eq_true rfl) (by decide) nd6 (g := (mkF m 422 #[.val (.ref ca), .val (.int ((9 : Int32)))] [(.int d6), (.int ((6 : Int32))), (.ref a569), (.ref a569), (.ref a563), (.ref a563)])) rfl rfl (hb hby dPf_422)
    replace V634 : Arv Z h634 a569 k569 .char (9 : Int32) [.int d0, .int d1, .int d2, .int d3, .int d4, .int d5, .int d6, .int (0 : Int32), .int (0 : Int32)] (.int (0 : Int32)) := V634
    have f635 := own_ext_wr f626 W634 ge572
    have f636 := f627.other W634 ne570
    have f637 := f628.wr W634
    have f638 := f629.other W634 (Or.inl ne571)
    have f639 := f630.other W634 (Or.inl ne571)
    have f640 := Safe.wr W634 (Safe.arv J632.1.alike V625 (by decide)) J632.ch f631
    have J641 := J632.wr W634 (Safe.arv J632.1.alike V625 (by decide))
    have N642 := own_Fr_snoc (sl := ((6 : Int32)).toNatClampNeg) N633 gz_a569
    refine own_on st634 ?_
    show own_Go p e below F (T634.setTop (mkF m 423 #[.val (.ref ca), .val (.int ((9 : Int32)))] [(.ref a569), (.ref a563), (.ref a563)]))
    refine own_dup X634.here hx (hb hby dPf_423) rfl (pc' := 424) rfl ?_
    refine own_bipush X634.here hx (hb hby dPf_424) (v := 7) rfl (pc' := 426) rfl ?_
    refine own_aload_n X634.here hx (hb hby dPf_426) rfl rfl (pc' := 427) rfl ?_
    refine own_bipush X634.here hx (hb hby dPf_427) (v := 7) rfl (pc' := 429) rfl ?_
    refine own_caload X634 hx J641.1 e634 f636 (w := d7) (by decide) rfl (hb hby dPf_429) (pc' := 430) rfl ?_
    obtain ⟨T643, h643, X643, e643, W643, V643, st643⟩ := own_cast X634 hx J641.1 e634 V634 (i := 7) rfl (Nat.le_of_ble_eq_true rfl) (by decide) nd7 (g := (mkF m 430 #[.val (.ref ca), .val (.int ((9 : Int32)))] [(.int d7), (.int ((7 : Int32))), (.ref a569), (.ref a569), (.ref a563), (.ref a563)])) rfl rfl (hb hby dPf_430)
    replace V643 : Arv Z h643 a569 k569 .char (9 : Int32) [.int d0, .int d1, .int d2, .int d3, .int d4, .int d5, .int d6, .int d7, .int (0 : Int32)] (.int (0 : Int32)) := V643
    have f644 := own_ext_wr f635 W643 ge572
    have f645 := f636.other W643 ne570
    have f646 := f637.wr W643
    have f647 := f638.other W643 (Or.inl ne571)
    have f648 := f639.other W643 (Or.inl ne571)
    have f649 := Safe.wr W643 (Safe.arv J641.1.alike V634 (by decide)) J641.ch f640
    have J650 := J641.wr W643 (Safe.arv J641.1.alike V634 (by decide))
    have N651 := own_Fr_snoc (sl := ((7 : Int32)).toNatClampNeg) N642 gz_a569
    refine own_on st643 ?_
    show own_Go p e below F (T643.setTop (mkF m 431 #[.val (.ref ca), .val (.int ((9 : Int32)))] [(.ref a569), (.ref a563), (.ref a563)]))
    refine own_dup X643.here hx (hb hby dPf_431) rfl (pc' := 432) rfl ?_
    refine own_bipush X643.here hx (hb hby dPf_432) (v := 8) rfl (pc' := 434) rfl ?_
    refine own_aload_n X643.here hx (hb hby dPf_434) rfl rfl (pc' := 435) rfl ?_
    refine own_bipush X643.here hx (hb hby dPf_435) (v := 8) rfl (pc' := 437) rfl ?_
    refine own_caload X643 hx J650.1 e643 f645 (w := d8) (by decide) rfl (hb hby dPf_437) (pc' := 438) rfl ?_
    obtain ⟨T652, h652, X652, e652, W652, V652, st652⟩ := own_cast X643 hx J650.1 e643 V643 (i := 8) rfl (Nat.le_of_ble_eq_true rfl) (by decide) nd8 (g := (mkF m 438 #[.val (.ref ca), .val (.int ((9 : Int32)))] [(.int d8), (.int ((8 : Int32))), (.ref a569), (.ref a569), (.ref a563), (.ref a563)])) rfl rfl (hb hby dPf_438)
    replace V652 : Arv Z h652 a569 k569 .char (9 : Int32) [.int d0, .int d1, .int d2, .int d3, .int d4, .int d5, .int d6, .int d7, .int d8] (.int (0 : Int32)) := V652
    have f653 := own_ext_wr f644 W652 ge572
    have f654 := f645.other W652 ne570
    have f655 := f646.wr W652
    have f656 := f647.other W652 (Or.inl ne571)
    have f657 := f648.other W652 (Or.inl ne571)
    have f658 := Safe.wr W652 (Safe.arv J650.1.alike V643 (by decide)) J650.ch f649
    have J659 := J650.wr W652 (Safe.arv J650.1.alike V643 (by decide))
    have N660 := own_Fr_snoc (sl := ((8 : Int32)).toNatClampNeg) N651 gz_a569
    refine own_on st652 ?_
    show own_Go p e below F (T652.setTop (mkF m 439 #[.val (.ref ca), .val (.int ((9 : Int32)))] [(.ref a569), (.ref a563), (.ref a563)]))
    obtain ⟨_, _, ⟨T661, L661, k661, n661⟩, -, X661, ⟨Lc661, hQ661, l661, y661, z661⟩, st661⟩ := X652.specialBack hx (y := (⟨"java/lang/String", "<init>", "([C)V"⟩ : MethodName)) rfl J659.2.1 (mvT J659.1 (hw _ (List.mem_of_getElem? (i := 11) rfl))) (mvT J659.1 (hw _ (List.mem_of_getElem? (i := 12) rfl))) (mvT J659.1 (hw _ (List.mem_of_getElem? (i := 13) rfl))) (by decide) (backOf (W := 1) (rmI1 l Z a0 hw a563 a569 k569 [d0, d1, d2, d3, d4, d5, d6, d7, d8] (9 : Int32) (.int (0 : Int32)) h652 (own_ext_trans EZ f653) z0 O1 P5 O3 O4 O5 gz_a563 (Ne.symm ne571) f655 f656 f657 V652 rfl (Nat.le_of_ble_eq_true rfl) (fun c hc => hp c (List.mem_of_mem_take (i := 9) hc)) (Nat.le_of_ble_eq_true rfl) (Nat.le_of_ble_eq_true rfl)) J659.1 (hw _ (List.mem_of_getElem? (i := 13) rfl)) (hw _ (List.mem_of_getElem? (i := 10) rfl)) (by decide) (by decide)) (g := (mkF m 439 #[.val (.ref ca), .val (.int ((9 : Int32)))] [(.ref a569), (.ref a563), (.ref a563)])) rfl (by rw [hml]; rfl) (Steps.refl _) (a := a563) (argsL := [(.ref a569)]) (rest := [(.ref a563)]) (lenOf pdE1 rfl) rfl (by show 2 * 0 + _ ≤ _; exact Nat.le_of_eq rfl) (hb hby dPf_439) (fun _ _ => ⟨rfl, e652, (Nat.le_of_ble_eq_true rfl), (Nat.le_of_ble_eq_true rfl)⟩)
    dsimp only [Pt.U, Pt.locs, Pt.cells, Pt.slots] at X661 l661 y661 z661 st661 hQ661
    rw [l661, y661, z661] at X661
    obtain ⟨rfl, N661, K661, S661⟩ := hQ661
    refine own_to st661 ?_
    show own_Go p e below F (T661.setTop (mkF m 442 #[.val (.ref ca), .val (.int ((9 : Int32)))] [(.ref a563)]))
    have f662 := own_ext_keep f653 K661 (fun y hy => by simp only [List.mem_cons, List.not_mem_nil, or_false] at hy; rcases hy with rfl <;> assumption)
    have J663 := J659.keep K661 (sfS f658 sf0)
    have N664 := Fr.app N660 N661
    exact own_retAW X661 hx hlk hEL J663 rfl hret rfl rfl (hb hby dPf_442) (fun t ht hC hE => hF t _ _ _ _ (by rw [ht]; exact ⟨_, rfl, S661, f662, N664⟩) hC hE (by decide) (by decide))
theorem dPc_0 : decode method_3_code 0 = .ok (.bipush 9, 2) := by decide +kernel
theorem dPc_2 : decode method_3_code 2 = .ok (.newarray .char, 2) := by decide +kernel
theorem dPc_4 : decode method_3_code 4 = .ok (.astore_n 3, 1) := by decide +kernel
theorem dPc_5 : decode method_3_code 5 = .ok (.aload_n 3, 1) := by decide +kernel
theorem dPc_6 : decode method_3_code 6 = .ok (.iconst 0, 1) := by decide +kernel
theorem dPc_7 : decode method_3_code 7 = .ok (.aload_n 0, 1) := by decide +kernel
theorem dPc_8 : decode method_3_code 8 = .ok (.iload_n 1, 1) := by decide +kernel
theorem dPc_9 : decode method_3_code 9 = .ok (.caload, 1) := by decide +kernel
theorem dPc_10 : decode method_3_code 10 = .ok (.castore, 1) := by decide +kernel
theorem dPc_11 : decode method_3_code 11 = .ok (.aload_n 3, 1) := by decide +kernel
theorem dPc_12 : decode method_3_code 12 = .ok (.iconst 1, 1) := by decide +kernel
theorem dPc_13 : decode method_3_code 13 = .ok (.aload_n 0, 1) := by decide +kernel
theorem dPc_14 : decode method_3_code 14 = .ok (.iload_n 1, 1) := by decide +kernel
theorem dPc_15 : decode method_3_code 15 = .ok (.iconst 1, 1) := by decide +kernel
theorem dPc_16 : decode method_3_code 16 = .ok (.iadd, 1) := by decide +kernel
theorem dPc_17 : decode method_3_code 17 = .ok (.caload, 1) := by decide +kernel
theorem dPc_18 : decode method_3_code 18 = .ok (.castore, 1) := by decide +kernel
theorem dPc_19 : decode method_3_code 19 = .ok (.aload_n 3, 1) := by decide +kernel
theorem dPc_20 : decode method_3_code 20 = .ok (.iconst 2, 1) := by decide +kernel
theorem dPc_21 : decode method_3_code 21 = .ok (.aload_n 0, 1) := by decide +kernel
theorem dPc_22 : decode method_3_code 22 = .ok (.iload_n 1, 1) := by decide +kernel
theorem dPc_23 : decode method_3_code 23 = .ok (.iconst 2, 1) := by decide +kernel
theorem dPc_24 : decode method_3_code 24 = .ok (.iadd, 1) := by decide +kernel
theorem dPc_25 : decode method_3_code 25 = .ok (.caload, 1) := by decide +kernel
theorem dPc_26 : decode method_3_code 26 = .ok (.castore, 1) := by decide +kernel
theorem dPc_27 : decode method_3_code 27 = .ok (.aload_n 3, 1) := by decide +kernel
theorem dPc_28 : decode method_3_code 28 = .ok (.iload_n 2, 1) := by decide +kernel
theorem dPc_29 : decode method_3_code 29 = .ok (.invokestatic 13, 3) := by decide +kernel
theorem dPc_32 : decode method_3_code 32 = .ok (.areturn, 1) := by decide +kernel
theorem efPc (m : MethodId) (x0 : Addr) (x1 : Int32) (x2 : Int32) : entryFrame m #[(.ref x0), (.int x1), (.int x2)] 4 = mkF m 0 #[.val (.ref x0), .val (.int x1), .val (.int x2), .unset] [] := by first | (simp [entryFrame, mkF, argsToLocals, Value.category]; done) | rfl
def Q_rmPc (Z : State) (ca : Addr) (kc : ClassId) (dv : Value) (ds : List Int32) (oo n : Nat) (h0 : Heap) (z0 : Int32) (v : Option Value) (h : Heap) (L : List Loc) : Prop := ∃ x, v = some (.ref x) ∧ own_S Z h x (([ds.getD oo 0, ds.getD (oo + 1) 0, ds.getD (oo + 2) 0, 0, 0, 0, 0, 0, 0] : List Int32).take n) ∧ Ext h0 h ∧ Fr Z.heap.size L
set_option maxRecDepth 65536 in
set_option maxHeartbeats 40000000 in
theorem rmPc (l : Launch) (Z : State) (a0 : Array Value) (hw : ∀ d ∈ tables_1, d.before a0 Z = true) (hEL : EW Z a0 EL) (ca : Addr) (kc : ClassId) (dv : Value) (ds : List Int32) (oo n : Nat) (h0 : Heap) (EZ : Ext Z.heap h0) (z0 : Int32) (O1 : Sta Z Z.heap "java/lang/String" "COMPACT_STRINGS" "Z" (.int z0)) (P5 : ¬ z0 = 0) (O3 : Sta Z Z.heap "java/lang/StringUTF16" "$assertionsDisabled" "Z" (.int 1)) (O4 : Sta Z Z.heap "java/lang/StringUTF16" "HI_BYTE_SHIFT" "I" (.int 0)) (O5 : Sta Z Z.heap "java/lang/StringUTF16" "LO_BYTE_SHIFT" "I" (.int 8)) (C0 : Arv Z h0 ca kc .char (9 : Int32) (ds.map Value.int) dv) (hd : ds.length = 9) (hp : ∀ c ∈ ds, ¬ c < 0 ∧ ¬ (65535 : Int32) < c) (ho : oo + 3 ≤ 9) (hn : n ≤ 9) :
    MetFree l (⟨"com/example/kerb/kerb/call/AppendOnlyTextSnapshotPinLaw", "piece", "([CII)Ljava/lang/String;"⟩ : MethodName) (head1 (Jvm.Cond.code (⟨"com/example/kerb/kerb/call/AppendOnlyTextSnapshotPinLaw", "piece", "([CII)Ljava/lang/String;"⟩ : MethodName) method_3_code 4 (Option.some (FieldType.object "java/lang/String")) :: []) ({ frames := 7, cells := 7, slots := 73, locals := 101 } : Room)) (fun aa U => aa = #[(.ref ca), (.int (Int32.ofNat oo)), (.int (Int32.ofNat n))] ∧ Z.Warmed39 U.vm ∧ U.heap = h0 ∧ CHv Z EL U.vm h0 ∧ ∀ yy ∈ ([] : List Addr), Safe Z EL U.vm h0 yy) (fun _ _ _ _ _ => True) (fun _ U o U' => ∃ v L, o = .returned v ∧ (Q_rmPc Z ca kc dv ds oo n h0 z0) v U'.heap L ∧ CHr Z EL U.vm U.heap U'.vm U'.heap ∧ ReturnedEndW U o U' L ({ frames := 7, cells := 7, slots := 73, locals := 101 } : Room).cells ({ frames := 7, cells := 7, slots := 73, locals := 101 } : Room).slots) := by
  refine own_walkW (by exact pnL) ?_
  intro p e s m below meth c T0 X0 hx hby hml hret hlk hnm hs0 e0 I0 hsf F hF
  refine own_on (fun _ => castTop (efPc m ca _ _)) ?_
  have M0 := own_ext_refl h0
  have N0 := Fr.nil Z.heap.size
  obtain ⟨v0v, he0⟩ : ∃ c, ds.getD (oo + 0) 0 = c := ⟨_, rfl⟩
  have pe0 : ¬ v0v < 0 ∧ ¬ (65535 : Int32) < v0v := by rw [← he0]; exact hp _ (own_mem (by omega))
  have ne0n := own_narc pe0.1 pe0.2
  obtain ⟨v1v, he1⟩ : ∃ c, ds.getD (oo + 1) 0 = c := ⟨_, rfl⟩
  have pe1 : ¬ v1v < 0 ∧ ¬ (65535 : Int32) < v1v := by rw [← he1]; exact hp _ (own_mem (by omega))
  have ne1n := own_narc pe1.1 pe1.2
  obtain ⟨v2v, he2⟩ : ∃ c, ds.getD (oo + 2) 0 = c := ⟨_, rfl⟩
  have pe2 : ¬ v2v < 0 ∧ ¬ (65535 : Int32) < v2v := by rw [← he2]; exact hp _ (own_mem (by omega))
  have ne2n := own_narc pe2.1 pe2.2
  refine own_bipush X0.here hx (hb hby dPc_0) (v := 9) rfl (pc' := 2) rfl ?_
  obtain ⟨T1, h1, k1, X1, e1, E1, A1, st1⟩ := newP X0 hx I0.1 (hw _ (List.mem_of_getElem? (i := 0) rfl)) e0 (g := (mkF m 2 #[.val (.ref ca), .val (.int (Int32.ofNat oo)), .val (.int (Int32.ofNat n)), .unset] [(.int ((9 : Int32)))])) rfl (hb hby dPc_2) rfl (by decide : ¬ ((9 : Int32) < (0 : Int32))) (cap := 9) (by decide) (by decide) (by decide) (by decide)
  obtain ⟨a1, g1⟩ : ∃ z, z = h0.size := ⟨_, rfl⟩
  rw [← g1] at A1 st1
  have ne2 : ca ≠ a1 := Nat.ne_of_lt (by rw [g1]; exact C0.lt)
  have ge3 : h0.size ≤ a1 := by rw [g1]; exact M0.1
  have f4 := own_ext_trans M0 E1
  have f5 := C0.ext E1
  have J6 := I0.ext E1
  have V1 : Arv Z h1 a1 k1 .char (9 : Int32) [.int (0 : Int32), .int (0 : Int32), .int (0 : Int32), .int (0 : Int32), .int (0 : Int32), .int (0 : Int32), .int (0 : Int32), .int (0 : Int32), .int (0 : Int32)] (.int (0 : Int32)) := (Arv.new A1 (by decide)).pad (pad_rep [] (.int (0 : Int32)) 9)
  refine own_on st1 ?_
  show own_Go p e below F (T1.setTop (mkF m 4 #[.val (.ref ca), .val (.int (Int32.ofNat oo)), .val (.int (Int32.ofNat n)), .unset] [(.ref a1)]))
  have gz_a1 : Z.heap.size ≤ a1 := Nat.le_trans EZ.1 ge3
  refine own_astore_n X1.here hx (hb hby dPc_4) rfl (L' := #[.val (.ref ca), .val (.int (Int32.ofNat oo)), .val (.int (Int32.ofNat n)), .val (.ref a1)]) rfl (pc' := 5) rfl ?_
  refine own_aload_n X1.here hx (hb hby dPc_5) rfl rfl (pc' := 6) rfl ?_
  refine own_iconst X1.here hx (hb hby dPc_6) (v := 0) rfl (pc' := 7) rfl ?_
  refine own_aload_n X1.here hx (hb hby dPc_7) rfl rfl (pc' := 8) rfl ?_
  refine own_iload_n X1.here hx (hb hby dPc_8) rfl (pc' := 9) rfl ?_
  refine own_caload X1 hx J6.1 e1 f5 (w := v0v) ⟨own_nn (by omega), own_ltN (k := 9) (by omega) (by omega)⟩ (by rw [own_tn (by omega), own_mapget (by omega)]; exact congrArg Value.int he0) (hb hby dPc_9) (pc' := 10) rfl ?_
  obtain ⟨T7, h7, X7, e7, W7, V7, st7⟩ := own_cast X1 hx J6.1 e1 V1 (i := 0) rfl (Nat.le_of_ble_eq_true rfl) (by decide) ne0n (g := (mkF m 10 #[.val (.ref ca), .val (.int (Int32.ofNat oo)), .val (.int (Int32.ofNat n)), .val (.ref a1)] [(.int v0v), (.int ((0 : Int32))), (.ref a1)])) rfl rfl (hb hby dPc_10)
  replace V7 : Arv Z h7 a1 k1 .char (9 : Int32) [.int v0v, .int (0 : Int32), .int (0 : Int32), .int (0 : Int32), .int (0 : Int32), .int (0 : Int32), .int (0 : Int32), .int (0 : Int32), .int (0 : Int32)] (.int (0 : Int32)) := V7
  have f8 := own_ext_wr f4 W7 ge3
  have f9 := f5.other W7 ne2
  have J10 := J6.wr W7 (Safe.arv J6.1.alike V1 (by decide))
  have N11 := own_Fr_snoc (sl := ((0 : Int32)).toNatClampNeg) N0 gz_a1
  refine own_on st7 ?_
  show own_Go p e below F (T7.setTop (mkF m 11 #[.val (.ref ca), .val (.int (Int32.ofNat oo)), .val (.int (Int32.ofNat n)), .val (.ref a1)] []))
  refine own_aload_n X7.here hx (hb hby dPc_11) rfl rfl (pc' := 12) rfl ?_
  refine own_iconst X7.here hx (hb hby dPc_12) (v := 1) rfl (pc' := 13) rfl ?_
  refine own_aload_n X7.here hx (hb hby dPc_13) rfl rfl (pc' := 14) rfl ?_
  refine own_iload_n X7.here hx (hb hby dPc_14) rfl (pc' := 15) rfl ?_
  refine own_iconst X7.here hx (hb hby dPc_15) (v := 1) rfl (pc' := 16) rfl ?_
  refine own_iadd X7.here hx (hb hby dPc_16) (pc' := 17) rfl ?_
  rw [show Int32.ofNat oo + (1 : Int32) = Int32.ofNat (oo + 1) from own_ofadd oo 1]
  show own_Go p e below F (T7.setTop (mkF m 17 #[.val (.ref ca), .val (.int (Int32.ofNat oo)), .val (.int (Int32.ofNat n)), .val (.ref a1)] [(.int (Int32.ofNat (oo + 1))), (.ref ca), (.int ((1 : Int32))), (.ref a1)]))
  refine own_caload X7 hx J10.1 e7 f9 (w := v1v) ⟨own_nn (by omega), own_ltN (k := 9) (by omega) (by omega)⟩ (by rw [own_tn (by omega), own_mapget (by omega)]; exact congrArg Value.int he1) (hb hby dPc_17) (pc' := 18) rfl ?_
  obtain ⟨T12, h12, X12, e12, W12, V12, st12⟩ := own_cast X7 hx J10.1 e7 V7 (i := 1) rfl (Nat.le_of_ble_eq_true rfl) (by decide) ne1n (g := (mkF m 18 #[.val (.ref ca), .val (.int (Int32.ofNat oo)), .val (.int (Int32.ofNat n)), .val (.ref a1)] [(.int v1v), (.int ((1 : Int32))), (.ref a1)])) rfl rfl (hb hby dPc_18)
  replace V12 : Arv Z h12 a1 k1 .char (9 : Int32) [.int v0v, .int v1v, .int (0 : Int32), .int (0 : Int32), .int (0 : Int32), .int (0 : Int32), .int (0 : Int32), .int (0 : Int32), .int (0 : Int32)] (.int (0 : Int32)) := V12
  have f13 := own_ext_wr f8 W12 ge3
  have f14 := f9.other W12 ne2
  have J15 := J10.wr W12 (Safe.arv J10.1.alike V7 (by decide))
  have N16 := own_Fr_snoc (sl := ((1 : Int32)).toNatClampNeg) N11 gz_a1
  refine own_on st12 ?_
  show own_Go p e below F (T12.setTop (mkF m 19 #[.val (.ref ca), .val (.int (Int32.ofNat oo)), .val (.int (Int32.ofNat n)), .val (.ref a1)] []))
  refine own_aload_n X12.here hx (hb hby dPc_19) rfl rfl (pc' := 20) rfl ?_
  refine own_iconst X12.here hx (hb hby dPc_20) (v := 2) rfl (pc' := 21) rfl ?_
  refine own_aload_n X12.here hx (hb hby dPc_21) rfl rfl (pc' := 22) rfl ?_
  refine own_iload_n X12.here hx (hb hby dPc_22) rfl (pc' := 23) rfl ?_
  refine own_iconst X12.here hx (hb hby dPc_23) (v := 2) rfl (pc' := 24) rfl ?_
  refine own_iadd X12.here hx (hb hby dPc_24) (pc' := 25) rfl ?_
  rw [show Int32.ofNat oo + (2 : Int32) = Int32.ofNat (oo + 2) from own_ofadd oo 2]
  show own_Go p e below F (T12.setTop (mkF m 25 #[.val (.ref ca), .val (.int (Int32.ofNat oo)), .val (.int (Int32.ofNat n)), .val (.ref a1)] [(.int (Int32.ofNat (oo + 2))), (.ref ca), (.int ((2 : Int32))), (.ref a1)]))
  refine own_caload X12 hx J15.1 e12 f14 (w := v2v) ⟨own_nn (by omega), own_ltN (k := 9) (by omega) (by omega)⟩ (by rw [own_tn (by omega), own_mapget (by omega)]; exact congrArg Value.int he2) (hb hby dPc_25) (pc' := 26) rfl ?_
  obtain ⟨T17, h17, X17, e17, W17, V17, st17⟩ := own_cast X12 hx J15.1 e12 V12 (i := 2) rfl (Nat.le_of_ble_eq_true rfl) (by decide) ne2n (g := (mkF m 26 #[.val (.ref ca), .val (.int (Int32.ofNat oo)), .val (.int (Int32.ofNat n)), .val (.ref a1)] [(.int v2v), (.int ((2 : Int32))), (.ref a1)])) rfl rfl (hb hby dPc_26)
  replace V17 : Arv Z h17 a1 k1 .char (9 : Int32) [.int v0v, .int v1v, .int v2v, .int (0 : Int32), .int (0 : Int32), .int (0 : Int32), .int (0 : Int32), .int (0 : Int32), .int (0 : Int32)] (.int (0 : Int32)) := V17
  have f18 := own_ext_wr f13 W17 ge3
  have f19 := f14.other W17 ne2
  have J20 := J15.wr W17 (Safe.arv J15.1.alike V12 (by decide))
  have N21 := own_Fr_snoc (sl := ((2 : Int32)).toNatClampNeg) N16 gz_a1
  refine own_on st17 ?_
  show own_Go p e below F (T17.setTop (mkF m 27 #[.val (.ref ca), .val (.int (Int32.ofNat oo)), .val (.int (Int32.ofNat n)), .val (.ref a1)] []))
  refine own_aload_n X17.here hx (hb hby dPc_27) rfl rfl (pc' := 28) rfl ?_
  refine own_iload_n X17.here hx (hb hby dPc_28) rfl (pc' := 29) rfl ?_
  have hb9 : ∀ c ∈ ([v0v, v1v, v2v, 0, 0, 0, 0, 0, 0] : List Int32), ¬ c < 0 ∧ ¬ (65535 : Int32) < c := fun c hc => by
    simp only [List.mem_cons, List.not_mem_nil, or_false] at hc
    rcases hc with rfl | rfl | rfl | rfl | rfl | rfl | rfl | rfl | rfl <;> first | assumption | decide
  obtain ⟨_, _, ⟨T22, L22, k22, n22⟩, -, X22, hS22, hG22, ⟨Lc22, hQ22, l22, y22, z22, C22⟩, st22⟩ := callSS X17 hx (y := (⟨"com/example/kerb/kerb/call/AppendOnlyTextSnapshotPinLaw", "prefix", "([CI)Ljava/lang/String;"⟩ : MethodName)) J20.2.1 (mvT J20.1 (hw _ (List.mem_of_getElem? (i := 5) rfl))) (mvT J20.1 (hw _ (List.mem_of_getElem? (i := 6) rfl))) (mvT J20.1 (hw _ (List.mem_of_getElem? (i := 3) rfl))) (mvT J20.1 (hw _ (List.mem_of_getElem? (i := 7) rfl))) (by decide) (own_backW (W := 0) (rmPf l Z a0 hw hEL a1 k1 _ v0v v1v v2v 0 0 0 0 0 0 n h17 (own_ext_trans EZ f18) z0 O1 P5 O3 O4 O5 V17 hb9 hn) J20.1 (hw _ (List.mem_of_getElem? (i := 7) rfl)) (hw _ (List.mem_of_getElem? (i := 3) rfl)) (by decide) (by decide) hEL J20.ch (fun _ q => nomatch q)) (g := (mkF m 29 #[.val (.ref ca), .val (.int (Int32.ofNat oo)), .val (.int (Int32.ofNat n)), .val (.ref a1)] [(.int (Int32.ofNat n)), (.ref a1)])) rfl (by rw [hml]; rfl) (argsL := [(.ref a1), (.int (Int32.ofNat n))]) (rest := []) (lenOf pdx30 rfl) rfl (by show 2 * 0 + _ ≤ _; exact Nat.le_of_eq rfl) (hb hby dPc_29) (fun _ _ => ⟨rfl, e17, (Nat.le_of_ble_eq_true rfl), (Nat.le_of_ble_eq_true rfl)⟩)
  dsimp only [Pt.U, Pt.locs, Pt.cells, Pt.slots] at X22 hS22 hG22 l22 y22 z22 C22 st22 hQ22
  rw [l22, y22, z22] at X22
  replace X22 := (show Stand _ _ _ _ (s.setVm T22.vm) _ _ _ _ _ _ _ _ _ from X22)
  have I22 := J20.later hS22 (Nat.le_refl _) (by have q := hG22; rw [(e17 : _ = h17)] at q; exact q) C22
  obtain ⟨x22, rfl, S22, E22, N22⟩ := hQ22
  refine own_to st22 ?_
  show own_Go p e below F (T22.setTop (mkF m 32 #[.val (.ref ca), .val (.int (Int32.ofNat oo)), .val (.int (Int32.ofNat n)), .val (.ref a1)] [(.ref x22)]))
  have f23 := own_ext_trans f18 E22
  have f24 := f19.ext E22
  have f25 := V17.ext E22
  have N26 := Fr.app N21 N22
  have SF : own_S Z T22.heap x22 (([ds.getD oo 0, ds.getD (oo + 1) 0, ds.getD (oo + 2) 0, 0, 0, 0, 0, 0, 0] : List Int32).take n) := by rw [show ds.getD oo 0 = v0v from he0, he1, he2]; exact S22
  exact own_retAW X22 hx hlk hEL I22 rfl hret rfl rfl (hb hby dPc_32) (fun t ht hC hE => hF t _ _ _ _ (by rw [ht]; exact ⟨_, rfl, SF, f23, N26⟩) hC hE (by decide) (by decide))
def Q_rmIn0 (Z : State) (t ar : Addr) (d : Nat) (h0 : Heap) (v : Option Value) (h : Heap) (L : List Loc) : Prop := v = none ∧ Fr Z.heap.size L ∧ h = h0
set_option maxRecDepth 65536 in
set_option maxHeartbeats 40000000 in
theorem rmIn0 (l : Launch) (Z : State) (a0 : Array Value) (hw : ∀ d ∈ tables_1, d.before a0 Z = true) (t ar : Addr) (d : Nat) (h0 : Heap) :
    MetFree l (⟨"java/lang/StringLatin1", "inflate", "([BI[CII)V"⟩ : MethodName) (head1 (Jvm.Cond.code (⟨"java/lang/StringLatin1", "inflate", "([BI[CII)V"⟩ : MethodName) jdk_43_method_49_code 6 (Option.none : Option FieldType) :: []) ({ frames := 0, cells := 0, slots := 0, locals := 0 } : Room)) (fun aa U => aa = #[(.ref t), (.int (0 : Int32)), (.ref ar), (.int (Int32.ofNat d)), (.int (0 : Int32))] ∧ Z.Warmed39 U.vm ∧ U.heap = h0) (fun _ _ _ _ _ => True) (fun _ U o U' => ∃ v L, o = .returned v ∧ (Q_rmIn0 Z t ar d h0) v U'.heap L ∧ FrameEnd U o U' L ({ frames := 0, cells := 0, slots := 0, locals := 0 } : Room).cells ({ frames := 0, cells := 0, slots := 0, locals := 0 } : Room).slots) := by
  refine own_walkN (by exact pnSL) ?_
  intro p e s m below meth c T0 X0 hx hby hml hret hlk hnm hown hZ e0 es0 F hF
  refine own_on (fun _ => castTop (efIn m t 0 ar _ 0)) ?_
  refine own_iconst X0.here hx (hb hby dIn_0) (v := 0) rfl (pc' := 1) rfl ?_
  refine own_istore X0.here hx (hb hby dIn_1) (L' := #[.val (.ref t), .val (.int ((0 : Int32))), .val (.ref ar), .val (.int (Int32.ofNat d)), .val (.int ((0 : Int32))), .val (.int ((0 : Int32)))]) rfl (pc' := 3) rfl ?_
  refine own_iload X0.here hx (hb hby dIn_3) rfl (pc' := 5) rfl ?_
  refine own_iload X0.here hx (hb hby dIn_5) rfl (pc' := 7) rfl ?_
  refine own_icmpge X0.here hx (hb hby dIn_7) (by decide) (pc' := 33) (by decide) (pc2 := 10) rfl (fun q1 => ?_) (fun q => absurd q (by decide))
  exact own_retV X0 hx hlk hret (hb hby dIn_33) (fun t ht hE => hF t _ _ _ _ (by rw [ht, (e0 : _ = h0)]; exact ⟨rfl, Fr.nil _, rfl⟩) hE (by decide) (by decide))
def Q_rmLG0 (Z : State) (t ar : Addr) (d : Nat) (h0 : Heap) (v : Option Value) (h : Heap) (L : List Loc) : Prop := v = none ∧ Fr Z.heap.size L ∧ h = h0
set_option maxRecDepth 65536 in
set_option maxHeartbeats 40000000 in
theorem rmLG0 (l : Launch) (Z : State) (a0 : Array Value) (hw : ∀ d ∈ tables_1, d.before a0 Z = true) (t ar : Addr) (d : Nat) (h0 : Heap) :
    MetFree l (⟨"java/lang/StringLatin1", "getChars", "([BII[CI)V"⟩ : MethodName) (head1 (Jvm.Cond.code (⟨"java/lang/StringLatin1", "getChars", "([BII[CI)V"⟩ : MethodName) jdk_43_method_11_code 5 (Option.none : Option FieldType) :: []) ({ frames := 1, cells := 0, slots := 0, locals := 17 } : Room)) (fun aa U => aa = #[(.ref t), (.int (0 : Int32)), (.int (0 : Int32)), (.ref ar), (.int (Int32.ofNat d))] ∧ Z.Warmed39 U.vm ∧ U.heap = h0) (fun _ _ _ _ _ => True) (fun _ U o U' => ∃ v L, o = .returned v ∧ (Q_rmLG0 Z t ar d h0) v U'.heap L ∧ FrameEnd U o U' L ({ frames := 1, cells := 0, slots := 0, locals := 17 } : Room).cells ({ frames := 1, cells := 0, slots := 0, locals := 17 } : Room).slots) := by
  refine own_walkN (by exact pnSL) ?_
  intro p e s m below meth c T0 X0 hx hby hml hret hlk hnm hown hZ e0 es0 F hF
  refine own_on (fun _ => castTop (efLG m t 0 0 ar _)) ?_
  have N0 := Fr.nil Z.heap.size
  refine own_aload_n X0.here hx (hb hby dLG_0) rfl rfl (pc' := 1) rfl ?_
  refine own_iload_n X0.here hx (hb hby dLG_1) rfl (pc' := 2) rfl ?_
  refine own_aload_n X0.here hx (hb hby dLG_2) rfl rfl (pc' := 3) rfl ?_
  refine own_iload X0.here hx (hb hby dLG_3) rfl (pc' := 5) rfl ?_
  refine own_iload_n X0.here hx (hb hby dLG_5) rfl (pc' := 6) rfl ?_
  refine own_iload_n X0.here hx (hb hby dLG_6) rfl (pc' := 7) rfl ?_
  refine own_isub X0.here hx (hb hby dLG_7) (pc' := 8) rfl ?_
  rw [Int32.sub_zero]
  show own_Go p e below F (T0.setTop (mkF m 8 #[.val (.ref t), .val (.int ((0 : Int32))), .val (.int ((0 : Int32))), .val (.ref ar), .val (.int (Int32.ofNat d))] [(.int ((0 : Int32))), (.int (Int32.ofNat d)), (.ref ar), (.int ((0 : Int32))), (.ref t)]))
  obtain ⟨_, _, ⟨T1, L1, k1, n1⟩, -, X1, ⟨Lc1, hQ1, l1, y1, z1⟩, st1⟩ := Jvm.LawKit.callS X0 hx (y := (⟨"java/lang/StringLatin1", "inflate", "([BI[CII)V"⟩ : MethodName)) hown (mvT hZ (hw _ (List.mem_of_getElem? (i := 88) rfl))) (mvT hZ (hw _ (List.mem_of_getElem? (i := 89) rfl))) (mvT hZ (hw _ (List.mem_of_getElem? (i := 86) rfl))) (mvT hZ (hw _ (List.mem_of_getElem? (i := 90) rfl))) (by decide) (backOf (W := 0) (rmIn0 l Z a0 hw t ar d h0) hZ (hw _ (List.mem_of_getElem? (i := 90) rfl)) (hw _ (List.mem_of_getElem? (i := 86) rfl)) (by decide) (by decide)) (g := (mkF m 8 #[.val (.ref t), .val (.int ((0 : Int32))), .val (.int ((0 : Int32))), .val (.ref ar), .val (.int (Int32.ofNat d))] [(.int ((0 : Int32))), (.int (Int32.ofNat d)), (.ref ar), (.int ((0 : Int32))), (.ref t)])) rfl (by rw [hml]; rfl) (argsL := [(.ref t), (.int ((0 : Int32))), (.ref ar), (.int (Int32.ofNat d)), (.int ((0 : Int32)))]) (rest := []) (lenOf pdx14 rfl) rfl (by show 2 * 0 + _ ≤ _; exact Nat.le_of_eq rfl) (hb hby dLG_8) (fun _ _ => ⟨rfl, e0, (Nat.le_of_ble_eq_true rfl), (Nat.le_of_ble_eq_true rfl)⟩)
  dsimp only [Pt.U, Pt.locs, Pt.cells, Pt.slots] at X1 l1 y1 z1 st1 hQ1
  rw [l1, y1, z1] at X1
  obtain ⟨rfl, N1, E1⟩ := hQ1
  refine own_on (st1) ?_
  show own_Go p e below F (T1.setTop (mkF m 11 #[.val (.ref t), .val (.int ((0 : Int32))), .val (.int ((0 : Int32))), .val (.ref ar), .val (.int (Int32.ofNat d))] []))
  have N2 := Fr.app N0 N1
  exact own_retV X1 hx hlk hret (hb hby dLG_11) (fun t ht hE => hF t _ _ _ _ (by rw [ht, (E1 : _ = h0)]; exact ⟨rfl, N2, rfl⟩) hE (by decide) (by decide))
def Q_rmGs0 (Z : State) (x ar : Addr) (ka : ClassId) (vs : List Value) (dv : Value) (d N : Nat) (h0 : Heap) (z0 : Int32) (fm : Value) (v : Option Value) (h : Heap) (L : List Loc) : Prop := v = none ∧ Fr Z.heap.size L ∧ h = h0
set_option maxRecDepth 65536 in
set_option maxHeartbeats 40000000 in
theorem rmGs0 (l : Launch) (Z : State) (a0 : Array Value) (hw : ∀ d ∈ tables_1, d.before a0 Z = true) (x ar : Addr) (ka : ClassId) (vs : List Value) (dv : Value) (d N : Nat) (h0 : Heap) (EZ : Ext Z.heap h0) (z0 : Int32) (O1 : Sta Z Z.heap "java/lang/String" "COMPACT_STRINGS" "Z" (.int z0)) (P5 : ¬ z0 = 0) (fm : Value) (O2 : Sta Z Z.heap "jdk/internal/util/Preconditions" "SIOOBE_FORMATTER" "Ljava/util/function/BiFunction;" fm) (rf : fm.isRef = true) (S : own_S Z h0 x []) (A0 : Arv Z h0 ar ka .char (Int32.ofNat N) vs dv) (hd : d ≤ N) (hN : N ≤ 4000) :
    MetFree l (⟨"java/lang/String", "getChars", "(II[CI)V"⟩ : MethodName) (head1 (Jvm.Cond.code (⟨"java/lang/String", "getChars", "(II[CI)V"⟩ : MethodName) jdk_42_method_61_code 5 (Option.none : Option FieldType) :: []) ({ frames := 4, cells := 0, slots := 0, locals := 60 } : Room)) (fun aa U => aa = #[(.ref x), (.int (0 : Int32)), (.int (0 : Int32)), (.ref ar), (.int (Int32.ofNat d))] ∧ Z.Warmed39 U.vm ∧ U.heap = h0) (fun _ _ _ _ _ => True) (fun _ U o U' => ∃ v L, o = .returned v ∧ (Q_rmGs0 Z x ar ka vs dv d N h0 z0 fm) v U'.heap L ∧ FrameEnd U o U' L ({ frames := 4, cells := 0, slots := 0, locals := 60 } : Room).cells ({ frames := 4, cells := 0, slots := 0, locals := 60 } : Room).slots) := by
  have S1 := S
  obtain ⟨t, kt, cd, N2, bs, sE, sV, sC, sA, hcd, hp, hl⟩ := S
  have hcd0 : cd = 0 := by rcases hcd with ⟨q, -⟩ | ⟨-, -, -, c, hc, -⟩; exact q; exact absurd hc (by simp)
  subst hcd0
  refine own_walkN (by exact pnS) ?_
  intro p e s m below meth c T0 X0 hx hby hml hret hlk hnm hown hZ e0 es0 F hF
  refine own_on (fun _ => castTop (efLG m x 0 0 ar _)) ?_
  have N0 := Fr.nil Z.heap.size
  refine own_iload_n X0.here hx (hb hby dGs_0) rfl (pc' := 1) rfl ?_
  refine own_iload_n X0.here hx (hb hby dGs_1) rfl (pc' := 2) rfl ?_
  refine own_aload_n X0.here hx (hb hby dGs_2) rfl rfl (pc' := 3) rfl ?_
  obtain ⟨cq1, kq1, qa1, qb1, qc1⟩ := isOf hZ e0 sE
  obtain ⟨_, _, ⟨T1, L1, k1, n1⟩, -, X1, ⟨Lc1, hQ1, l1, y1, z1⟩, st1⟩ := X0.virtualBack hx (y := (⟨"java/lang/String", "length", "()I"⟩ : MethodName)) (z := (⟨"java/lang/String", "length", "()I"⟩ : MethodName)) hown (mvT hZ (hw _ (List.mem_of_getElem? (i := 64) rfl))) (mvT hZ (hw _ (List.mem_of_getElem? (i := 46) rfl))) (notFace_of_selects (args := #[]) (mvT hZ (hw _ (List.mem_of_getElem? (i := 48) rfl)))) (mvT hZ (hw _ (List.mem_of_getElem? (i := 48) rfl))) (mvT hZ (hw _ (List.mem_of_getElem? (i := 47) rfl))) (by decide) (own_lenS (s := s) (W := 2) hZ hw S1 (O1.ext EZ) P5 (by decide) (by decide)) qa1 qc1 (g := (mkF m 3 #[.val (.ref x), .val (.int ((0 : Int32))), .val (.int ((0 : Int32))), .val (.ref ar), .val (.int (Int32.ofNat d))] [(.ref x), (.int ((0 : Int32))), (.int ((0 : Int32)))])) rfl (by rw [hml]; rfl) (Steps.refl _) (argsL := []) (rest := [(.int ((0 : Int32))), (.int ((0 : Int32)))]) (lenOf pdx10 rfl) rfl (by show 2 * 0 + _ ≤ _; exact Nat.le_of_eq rfl) (hb hby dGs_3) (fun _ _ => ⟨rfl, e0, (Nat.le_of_ble_eq_true rfl), (Nat.le_of_ble_eq_true rfl)⟩)
  dsimp only [Pt.U, Pt.locs, Pt.cells, Pt.slots] at X1 l1 y1 z1 st1 hQ1
  rw [l1, y1, z1] at X1
  obtain ⟨rfl, rfl, E1⟩ := hQ1
  refine own_to st1 ?_
  show own_Go p e below F (T1.setTop (mkF m 6 #[.val (.ref x), .val (.int ((0 : Int32))), .val (.int ((0 : Int32))), .val (.ref ar), .val (.int (Int32.ofNat d))] [(.int ((0 : Int32))), (.int ((0 : Int32))), (.int ((0 : Int32)))]))
  obtain ⟨_, _, ⟨T2, L2, k2, n2⟩, -, X2, ⟨Lc2, hQ2, l2, y2, z2⟩, st2⟩ := Jvm.LawKit.callS X1 hx (y := (⟨"java/lang/String", "checkBoundsBeginEnd", "(III)V"⟩ : MethodName)) hown (mvT hZ (hw _ (List.mem_of_getElem? (i := 65) rfl))) (mvT hZ (hw _ (List.mem_of_getElem? (i := 66) rfl))) (mvT hZ (hw _ (List.mem_of_getElem? (i := 10) rfl))) (mvT hZ (hw _ (List.mem_of_getElem? (i := 67) rfl))) (by decide) (backOf (W := 0) (rmCB l Z a0 hw 0 0 h0 EZ fm O2 rf (by decide) (by decide)) hZ (hw _ (List.mem_of_getElem? (i := 67) rfl)) (hw _ (List.mem_of_getElem? (i := 10) rfl)) (by decide) (by decide)) (g := (mkF m 6 #[.val (.ref x), .val (.int ((0 : Int32))), .val (.int ((0 : Int32))), .val (.ref ar), .val (.int (Int32.ofNat d))] [(.int ((0 : Int32))), (.int ((0 : Int32))), (.int ((0 : Int32)))])) rfl (by rw [hml]; rfl) (argsL := [(.int ((0 : Int32))), (.int ((0 : Int32))), (.int ((0 : Int32)))]) (rest := []) (lenOf pdx11 rfl) rfl (by show 2 * 0 + _ ≤ _; exact Nat.le_of_eq rfl) (hb hby dGs_6) (fun _ _ => ⟨rfl, E1, (Nat.le_of_ble_eq_true rfl), (Nat.le_of_ble_eq_true rfl)⟩)
  dsimp only [Pt.U, Pt.locs, Pt.cells, Pt.slots] at X2 l2 y2 z2 st2 hQ2
  rw [l2, y2, z2] at X2
  obtain ⟨rfl, N2, E2⟩ := hQ2
  refine own_on (st2) ?_
  show own_Go p e below F (T2.setTop (mkF m 9 #[.val (.ref x), .val (.int ((0 : Int32))), .val (.int ((0 : Int32))), .val (.ref ar), .val (.int (Int32.ofNat d))] []))
  have N3 := Fr.app N0 N2
  refine own_iload X2.here hx (hb hby dGs_9) rfl (pc' := 11) rfl ?_
  refine own_iload_n X2.here hx (hb hby dGs_11) rfl (pc' := 12) rfl ?_
  refine own_iload_n X2.here hx (hb hby dGs_12) rfl (pc' := 13) rfl ?_
  refine own_isub X2.here hx (hb hby dGs_13) (pc' := 14) rfl ?_
  rw [Int32.sub_zero]
  show own_Go p e below F (T2.setTop (mkF m 14 #[.val (.ref x), .val (.int ((0 : Int32))), .val (.int ((0 : Int32))), .val (.ref ar), .val (.int (Int32.ofNat d))] [(.int ((0 : Int32))), (.int (Int32.ofNat d))]))
  refine own_aload_n X2.here hx (hb hby dGs_14) rfl rfl (pc' := 15) rfl ?_
  refine own_alen X2 hx hZ E2 A0 (hb hby dGs_15) (pc' := 16) rfl ?_
  obtain ⟨_, _, ⟨T4, L4, k4, n4⟩, -, X4, ⟨Lc4, hQ4, l4, y4, z4⟩, st4⟩ := Jvm.LawKit.callS X2 hx (y := (⟨"java/lang/String", "checkBoundsOffCount", "(III)I"⟩ : MethodName)) hown (mvT hZ (hw _ (List.mem_of_getElem? (i := 73) rfl))) (mvT hZ (hw _ (List.mem_of_getElem? (i := 74) rfl))) (mvT hZ (hw _ (List.mem_of_getElem? (i := 10) rfl))) (mvT hZ (hw _ (List.mem_of_getElem? (i := 75) rfl))) (by decide) (backOf (W := 0) (rmBO l Z a0 hw d 0 N h0 EZ fm O2 rf (by omega) hN) hZ (hw _ (List.mem_of_getElem? (i := 75) rfl)) (hw _ (List.mem_of_getElem? (i := 10) rfl)) (by decide) (by decide)) (g := (mkF m 16 #[.val (.ref x), .val (.int ((0 : Int32))), .val (.int ((0 : Int32))), .val (.ref ar), .val (.int (Int32.ofNat d))] [(.int (Int32.ofNat N)), (.int ((0 : Int32))), (.int (Int32.ofNat d))])) rfl (by rw [hml]; rfl) (argsL := [(.int (Int32.ofNat d)), (.int ((0 : Int32))), (.int (Int32.ofNat N))]) (rest := []) (lenOf pdx12 rfl) rfl (by show 2 * 0 + _ ≤ _; exact Nat.le_of_eq rfl) (hb hby dGs_16) (fun _ _ => ⟨rfl, E2, (Nat.le_of_ble_eq_true rfl), (Nat.le_of_ble_eq_true rfl)⟩)
  dsimp only [Pt.U, Pt.locs, Pt.cells, Pt.slots] at X4 l4 y4 z4 st4 hQ4
  rw [l4, y4, z4] at X4
  obtain ⟨rfl, N4, E4⟩ := hQ4
  refine own_on (st4) ?_
  show own_Go p e below F (T4.setTop (mkF m 19 #[.val (.ref x), .val (.int ((0 : Int32))), .val (.int ((0 : Int32))), .val (.ref ar), .val (.int (Int32.ofNat d))] [(.int (Int32.ofNat d))]))
  have N5 := Fr.app N3 N4
  refine own_pop X4.here hx (hb hby dGs_19) rfl (pc' := 20) rfl ?_
  refine own_aload_n X4.here hx (hb hby dGs_20) rfl rfl (pc' := 21) rfl ?_
  obtain ⟨cq6, kq6, qa6, qb6, qc6⟩ := isOf hZ E4 sE
  obtain ⟨_, _, ⟨T6, L6, k6, n6⟩, -, X6, ⟨Lc6, hQ6, l6, y6, z6⟩, st6⟩ := X4.virtualBack hx (y := (⟨"java/lang/String", "isLatin1", "()Z"⟩ : MethodName)) (z := (⟨"java/lang/String", "isLatin1", "()Z"⟩ : MethodName)) hown (mvT hZ (hw _ (List.mem_of_getElem? (i := 79) rfl))) (mvT hZ (hw _ (List.mem_of_getElem? (i := 80) rfl))) (notFace_of_selects (args := #[]) (mvT hZ (hw _ (List.mem_of_getElem? (i := 82) rfl)))) (mvT hZ (hw _ (List.mem_of_getElem? (i := 82) rfl))) (mvT hZ (hw _ (List.mem_of_getElem? (i := 81) rfl))) (by decide) (backOf (W := 0) (rmIL l Z a0 hw x 0 h0 EZ z0 O1 P5 sC) hZ (hw _ (List.mem_of_getElem? (i := 83) rfl)) (hw _ (List.mem_of_getElem? (i := 10) rfl)) (by decide) (by decide)) qa6 qc6 (g := (mkF m 21 #[.val (.ref x), .val (.int ((0 : Int32))), .val (.int ((0 : Int32))), .val (.ref ar), .val (.int (Int32.ofNat d))] [(.ref x)])) rfl (by rw [hml]; rfl) (Steps.refl _) (argsL := []) (rest := []) (lenOf pdx9 rfl) rfl (by show 2 * 0 + _ ≤ _; exact Nat.le_of_eq rfl) (hb hby dGs_21) (fun _ _ => ⟨rfl, E4, (Nat.le_of_ble_eq_true rfl), (Nat.le_of_ble_eq_true rfl)⟩)
  dsimp only [Pt.U, Pt.locs, Pt.cells, Pt.slots] at X6 l6 y6 z6 st6 hQ6
  rw [l6, y6, z6] at X6
  obtain ⟨rfl, N6, E6⟩ := hQ6
  refine own_to st6 ?_
  show own_Go p e below F (T6.setTop (mkF m 24 #[.val (.ref x), .val (.int ((0 : Int32))), .val (.int ((0 : Int32))), .val (.ref ar), .val (.int (Int32.ofNat d))] [(.int ((if (0 : Int32) = 0 then (1 : Int32) else 0)))]))
  have N7 := Fr.app N5 N6
  rw [if_pos rfl]
  show own_Go p e below F (T6.setTop (mkF m 24 #[.val (.ref x), .val (.int ((0 : Int32))), .val (.int ((0 : Int32))), .val (.ref ar), .val (.int (Int32.ofNat d))] [(.int ((1 : Int32)))]))
  refine own_ifeq X6.here hx (hb hby dGs_24) (by decide) (pc' := 42) (by decide) (pc2 := 27) rfl (fun q => absurd q (by decide)) (fun q8 => ?_)
  refine own_aload_n X6.here hx (hb hby dGs_27) rfl rfl (pc' := 28) rfl ?_
  obtain ⟨T9, X9, e9, st9⟩ := getF X6 hx hZ hown (host := "") (Or.inl (hw _ (List.mem_of_getElem? (i := 27) rfl))) Via.refl E6 sV (g := (mkF m 28 #[.val (.ref x), .val (.int ((0 : Int32))), .val (.int ((0 : Int32))), .val (.ref ar), .val (.int (Int32.ofNat d))] [(.ref x)])) rfl rfl (hb hby dGs_28)
  refine own_on st9 ?_
  show own_Go p e below F (T9.setTop (mkF m 31 #[.val (.ref x), .val (.int ((0 : Int32))), .val (.int ((0 : Int32))), .val (.ref ar), .val (.int (Int32.ofNat d))] [(.ref t)]))
  refine own_iload_n X9.here hx (hb hby dGs_31) rfl (pc' := 32) rfl ?_
  refine own_iload_n X9.here hx (hb hby dGs_32) rfl (pc' := 33) rfl ?_
  refine own_aload_n X9.here hx (hb hby dGs_33) rfl rfl (pc' := 34) rfl ?_
  refine own_iload X9.here hx (hb hby dGs_34) rfl (pc' := 36) rfl ?_
  obtain ⟨_, _, ⟨T10, L10, k10, n10⟩, -, X10, ⟨Lc10, hQ10, l10, y10, z10⟩, st10⟩ := Jvm.LawKit.callS X9 hx (y := (⟨"java/lang/StringLatin1", "getChars", "([BII[CI)V"⟩ : MethodName)) hown (mvT hZ (hw _ (List.mem_of_getElem? (i := 84) rfl))) (mvT hZ (hw _ (List.mem_of_getElem? (i := 85) rfl))) (mvT hZ (hw _ (List.mem_of_getElem? (i := 86) rfl))) (mvT hZ (hw _ (List.mem_of_getElem? (i := 87) rfl))) (by decide) (backOf (W := 0) (rmLG0 l Z a0 hw t ar d h0) hZ (hw _ (List.mem_of_getElem? (i := 87) rfl)) (hw _ (List.mem_of_getElem? (i := 86) rfl)) (by decide) (by decide)) (g := (mkF m 36 #[.val (.ref x), .val (.int ((0 : Int32))), .val (.int ((0 : Int32))), .val (.ref ar), .val (.int (Int32.ofNat d))] [(.int (Int32.ofNat d)), (.ref ar), (.int ((0 : Int32))), (.int ((0 : Int32))), (.ref t)])) rfl (by rw [hml]; rfl) (argsL := [(.ref t), (.int ((0 : Int32))), (.int ((0 : Int32))), (.ref ar), (.int (Int32.ofNat d))]) (rest := []) (lenOf pdx15 rfl) rfl (by show 2 * 0 + _ ≤ _; exact Nat.le_of_eq rfl) (hb hby dGs_36) (fun _ _ => ⟨rfl, e9, (Nat.le_of_ble_eq_true rfl), (Nat.le_of_ble_eq_true rfl)⟩)
  dsimp only [Pt.U, Pt.locs, Pt.cells, Pt.slots] at X10 l10 y10 z10 st10 hQ10
  rw [l10, y10, z10] at X10
  obtain ⟨rfl, N10, E10⟩ := hQ10
  refine own_on (st10) ?_
  show own_Go p e below F (T10.setTop (mkF m 39 #[.val (.ref x), .val (.int ((0 : Int32))), .val (.int ((0 : Int32))), .val (.ref ar), .val (.int (Int32.ofNat d))] []))
  have N11 := Fr.app N7 N10
  refine own_goto X10.here hx (hb hby dGs_39) (by decide) (pc' := 54) (by decide) ?_
  exact own_retV X10 hx hlk hret (hb hby dGs_54) (fun t ht hE => hF t _ _ _ _ (by rw [ht, (E10 : _ = h0)]; exact ⟨rfl, (by simpa using N11), rfl⟩) hE (by decide) (by decide))
def Q_rmA0 (Z : State) (t x ar : Addr) (ka : ClassId) (cs es : List Int32) (L0 : Nat) (d0 : Value) (h0 : Heap) (z0 : Int32) (fm : Value) (v : Option Value) (h : Heap) (L : List Loc) : Prop := v = none ∧ Fr Z.heap.size L ∧ Keep h0 h [t] ∧ own_AT Z h t ar L0
set_option maxRecDepth 65536 in
set_option maxHeartbeats 40000000 in
theorem rmA0 (l : Launch) (Z : State) (a0 : Array Value) (hw : ∀ d ∈ tables_1, d.before a0 Z = true) (t x ar : Addr) (ka : ClassId) (cs es : List Int32) (L0 : Nat) (d0 : Value) (h0 : Heap) (EZ : Ext Z.heap h0) (z0 : Int32) (O1 : Sta Z Z.heap "java/lang/String" "COMPACT_STRINGS" "Z" (.int z0)) (P5 : ¬ z0 = 0) (fm : Value) (O2 : Sta Z Z.heap "jdk/internal/util/Preconditions" "SIOOBE_FORMATTER" "Ljava/util/function/BiFunction;" fm) (rf : fm.isRef = true) (O3 : Sta Z Z.heap "java/lang/StringUTF16" "$assertionsDisabled" "Z" (.int 1)) (O4 : Sta Z Z.heap "java/lang/StringUTF16" "HI_BYTE_SHIFT" "I" (.int 0)) (O5 : Sta Z Z.heap "java/lang/StringUTF16" "LO_BYTE_SHIFT" "I" (.int 8)) (S : own_S Z h0 x es) (HT : own_AT Z h0 t ar L0) (A0 : Arv Z h0 ar ka .char (Int32.ofNat cs.length) (cs.map Value.int) d0) (gt : Z.heap.size ≤ t) (hL : L0 ≤ cs.length) (hc : cs.length ≤ 8) (he : es = []) :
    MetFree l (⟨"com/example/kerb/kerb/call/AppendOnlyText", "append", "(Ljava/lang/String;)V"⟩ : MethodName) (head1 (Jvm.Cond.code (⟨"com/example/kerb/kerb/call/AppendOnlyText", "append", "(Ljava/lang/String;)V"⟩ : MethodName) prog_23_method_2_code 4 (Option.none : Option FieldType) :: []) ({ frames := 5, cells := 1, slots := 16, locals := 76 } : Room)) (fun aa U => aa = #[(.ref t), (.ref x)] ∧ Z.Warmed39 U.vm ∧ U.heap = h0) (fun _ _ _ _ _ => True) (fun _ U o U' => ∃ v L, o = .returned v ∧ (Q_rmA0 Z t x ar ka cs es L0 d0 h0 z0 fm) v U'.heap L ∧ FrameEnd U o U' L ({ frames := 5, cells := 1, slots := 16, locals := 76 } : Room).cells ({ frames := 5, cells := 1, slots := 16, locals := 76 } : Room).slots) := by
  have hl0 : es.length = 0 := by rw [he]; rfl
  have hes := S.ok
  refine own_walkN (by exact pnAT) ?_
  intro p e s m below meth c T0 X0 hx hby hml hret hlk hnm hown hZ e0 es0 F hF
  refine own_on (fun _ => castTop (efAp m t x)) ?_
  have N0 := Fr.nil Z.heap.size
  have Q0 := Keep.refl h0 [t]
  have hta : t ≠ ar := Exa.neArv HT.1 A0 (hw _ (List.mem_of_getElem? (i := 30) rfl))
  refine own_aload_n X0.here hx (hb hby dAp_0) rfl rfl (pc' := 1) rfl ?_
  obtain ⟨cq1, kq1, qa1, qb1, qc1⟩ := isOf hZ e0 S.exa
  obtain ⟨_, _, ⟨T1, L1, k1, n1⟩, -, X1, ⟨Lc1, hQ1, l1, y1, z1⟩, st1⟩ := X0.virtualBack hx (y := (⟨"java/lang/String", "length", "()I"⟩ : MethodName)) (z := (⟨"java/lang/String", "length", "()I"⟩ : MethodName)) hown (mvT hZ (hw _ (List.mem_of_getElem? (i := 45) rfl))) (mvT hZ (hw _ (List.mem_of_getElem? (i := 46) rfl))) (notFace_of_selects (args := #[]) (mvT hZ (hw _ (List.mem_of_getElem? (i := 48) rfl)))) (mvT hZ (hw _ (List.mem_of_getElem? (i := 48) rfl))) (mvT hZ (hw _ (List.mem_of_getElem? (i := 47) rfl))) (by decide) (own_lenS (s := s) (W := 0) hZ hw S (O1.ext EZ) P5 (by decide) (by decide)) qa1 qc1 (g := (mkF m 1 #[.val (.ref t), .val (.ref x), .unset, .unset] [(.ref x)])) rfl (by rw [hml]; rfl) (Steps.refl _) (argsL := []) (rest := []) (lenOf pdx10 rfl) rfl (by show 2 * 0 + _ ≤ _; exact Nat.le_of_eq rfl) (hb hby dAp_1) (fun _ _ => ⟨rfl, e0, (Nat.le_of_ble_eq_true rfl), (Nat.le_of_ble_eq_true rfl)⟩)
  dsimp only [Pt.U, Pt.locs, Pt.cells, Pt.slots] at X1 l1 y1 z1 st1 hQ1
  rw [l1, y1, z1] at X1
  obtain ⟨rfl, rfl, E1⟩ := hQ1
  refine own_to st1 ?_
  show own_Go p e below F (T1.setTop (mkF m 4 #[.val (.ref t), .val (.ref x), .unset, .unset] [(.int (Int32.ofNat es.length))]))
  refine own_on (fun _ => X1.ldcI hx hown (mv hZ (hw _ (List.mem_of_getElem? (i := 56) rfl))) (g := (mkF m 4 #[.val (.ref t), .val (.ref x), .unset, .unset] [(.int (Int32.ofNat es.length))])) rfl (hb hby dAp_4)) ?_
  show own_Go p e below F (T1.setTop (mkF m 6 #[.val (.ref t), .val (.ref x), .unset, .unset] [(.int ((2147483639 : Int32))), (.int (Int32.ofNat es.length))]))
  refine own_aload_n X1.here hx (hb hby dAp_6) rfl rfl (pc' := 7) rfl ?_
  obtain ⟨T2, X2, e2, st2⟩ := getF X1 hx hZ hown (host := "") (Or.inl (hw _ (List.mem_of_getElem? (i := 57) rfl))) Via.refl E1 HT.2.2 (g := (mkF m 7 #[.val (.ref t), .val (.ref x), .unset, .unset] [(.ref t), (.int ((2147483639 : Int32))), (.int (Int32.ofNat es.length))])) rfl rfl (hb hby dAp_7)
  refine own_on st2 ?_
  show own_Go p e below F (T2.setTop (mkF m 10 #[.val (.ref t), .val (.ref x), .unset, .unset] [(.int (Int32.ofNat L0)), (.int ((2147483639 : Int32))), (.int (Int32.ofNat es.length))]))
  refine own_isub X2.here hx (hb hby dAp_10) (pc' := 11) rfl ?_
  refine own_icmple X2.here hx (hb hby dAp_11) (by decide) (pc' := 24) (by decide) (pc2 := 14) rfl (fun q3 => ?_) (fun q => absurd q (own_big (by omega) (by omega)))
  refine own_aload_n X2.here hx (hb hby dAp_24) rfl rfl (pc' := 25) rfl ?_
  obtain ⟨T4, X4, e4, st4⟩ := getF X2 hx hZ hown (host := "") (Or.inl (hw _ (List.mem_of_getElem? (i := 57) rfl))) Via.refl e2 HT.2.2 (g := (mkF m 25 #[.val (.ref t), .val (.ref x), .unset, .unset] [(.ref t)])) rfl rfl (hb hby dAp_25)
  refine own_on st4 ?_
  show own_Go p e below F (T4.setTop (mkF m 28 #[.val (.ref t), .val (.ref x), .unset, .unset] [(.int (Int32.ofNat L0))]))
  refine own_aload_n X4.here hx (hb hby dAp_28) rfl rfl (pc' := 29) rfl ?_
  obtain ⟨cq5, kq5, qa5, qb5, qc5⟩ := isOf hZ e4 S.exa
  obtain ⟨_, _, ⟨T5, L5, k5, n5⟩, -, X5, ⟨Lc5, hQ5, l5, y5, z5⟩, st5⟩ := X4.virtualBack hx (y := (⟨"java/lang/String", "length", "()I"⟩ : MethodName)) (z := (⟨"java/lang/String", "length", "()I"⟩ : MethodName)) hown (mvT hZ (hw _ (List.mem_of_getElem? (i := 45) rfl))) (mvT hZ (hw _ (List.mem_of_getElem? (i := 46) rfl))) (notFace_of_selects (args := #[]) (mvT hZ (hw _ (List.mem_of_getElem? (i := 48) rfl)))) (mvT hZ (hw _ (List.mem_of_getElem? (i := 48) rfl))) (mvT hZ (hw _ (List.mem_of_getElem? (i := 47) rfl))) (by decide) (own_lenS (s := s) (W := 1) hZ hw S (O1.ext EZ) P5 (by decide) (by decide)) qa5 qc5 (g := (mkF m 29 #[.val (.ref t), .val (.ref x), .unset, .unset] [(.ref x), (.int (Int32.ofNat L0))])) rfl (by rw [hml]; rfl) (Steps.refl _) (argsL := []) (rest := [(.int (Int32.ofNat L0))]) (lenOf pdx10 rfl) rfl (by show 2 * 0 + _ ≤ _; exact Nat.le_of_eq rfl) (hb hby dAp_29) (fun _ _ => ⟨rfl, e4, (Nat.le_of_ble_eq_true rfl), (Nat.le_of_ble_eq_true rfl)⟩)
  dsimp only [Pt.U, Pt.locs, Pt.cells, Pt.slots] at X5 l5 y5 z5 st5 hQ5
  rw [l5, y5, z5] at X5
  obtain ⟨rfl, rfl, E5⟩ := hQ5
  refine own_to st5 ?_
  show own_Go p e below F (T5.setTop (mkF m 32 #[.val (.ref t), .val (.ref x), .unset, .unset] [(.int (Int32.ofNat es.length)), (.int (Int32.ofNat L0))]))
  refine own_iadd X5.here hx (hb hby dAp_32) (pc' := 33) rfl ?_
  rw [own_ofadd]
  show own_Go p e below F (T5.setTop (mkF m 33 #[.val (.ref t), .val (.ref x), .unset, .unset] [(.int (Int32.ofNat (L0 + es.length)))]))
  refine own_istore_n X5.here hx (hb hby dAp_33) (L' := #[.val (.ref t), .val (.ref x), .val (.int (Int32.ofNat (L0 + es.length))), .unset]) rfl (pc' := 34) rfl ?_
  refine own_iload_n X5.here hx (hb hby dAp_34) rfl (pc' := 35) rfl ?_
  refine own_aload_n X5.here hx (hb hby dAp_35) rfl rfl (pc' := 36) rfl ?_
  obtain ⟨T6, X6, e6, st6⟩ := getF X5 hx hZ hown (host := "") (Or.inl (hw _ (List.mem_of_getElem? (i := 38) rfl))) Via.refl E5 HT.2.1 (g := (mkF m 36 #[.val (.ref t), .val (.ref x), .val (.int (Int32.ofNat (L0 + es.length))), .unset] [(.ref t), (.int (Int32.ofNat (L0 + es.length)))])) rfl rfl (hb hby dAp_36)
  refine own_on st6 ?_
  show own_Go p e below F (T6.setTop (mkF m 39 #[.val (.ref t), .val (.ref x), .val (.int (Int32.ofNat (L0 + es.length))), .unset] [(.ref ar), (.int (Int32.ofNat (L0 + es.length)))]))
  refine own_alen X6 hx hZ e6 A0 (hb hby dAp_39) (pc' := 40) rfl ?_
  refine own_icmple X6.here hx (hb hby dAp_40) (by decide) (pc' := 77) (by decide) (pc2 := 43) rfl (fun q7 => ?_) (fun q => absurd q (own_nltN (by omega) (by omega)))
  refine own_aload_n X6.here hx (hb hby dAp_77) rfl rfl (pc' := 78) rfl ?_
  refine own_iconst X6.here hx (hb hby dAp_78) (v := 0) rfl (pc' := 79) rfl ?_
  refine own_aload_n X6.here hx (hb hby dAp_79) rfl rfl (pc' := 80) rfl ?_
  obtain ⟨cq8, kq8, qa8, qb8, qc8⟩ := isOf hZ e6 S.exa
  obtain ⟨_, _, ⟨T8, L8, k8, n8⟩, -, X8, ⟨Lc8, hQ8, l8, y8, z8⟩, st8⟩ := X6.virtualBack hx (y := (⟨"java/lang/String", "length", "()I"⟩ : MethodName)) (z := (⟨"java/lang/String", "length", "()I"⟩ : MethodName)) hown (mvT hZ (hw _ (List.mem_of_getElem? (i := 45) rfl))) (mvT hZ (hw _ (List.mem_of_getElem? (i := 46) rfl))) (notFace_of_selects (args := #[]) (mvT hZ (hw _ (List.mem_of_getElem? (i := 48) rfl)))) (mvT hZ (hw _ (List.mem_of_getElem? (i := 48) rfl))) (mvT hZ (hw _ (List.mem_of_getElem? (i := 47) rfl))) (by decide) (own_lenS (s := s) (W := 2) hZ hw S (O1.ext EZ) P5 (by decide) (by decide)) qa8 qc8 (g := (mkF m 80 #[.val (.ref t), .val (.ref x), .val (.int (Int32.ofNat (L0 + es.length))), .unset] [(.ref x), (.int ((0 : Int32))), (.ref x)])) rfl (by rw [hml]; rfl) (Steps.refl _) (argsL := []) (rest := [(.int ((0 : Int32))), (.ref x)]) (lenOf pdx10 rfl) rfl (by show 2 * 0 + _ ≤ _; exact Nat.le_of_eq rfl) (hb hby dAp_80) (fun _ _ => ⟨rfl, e6, (Nat.le_of_ble_eq_true rfl), (Nat.le_of_ble_eq_true rfl)⟩)
  dsimp only [Pt.U, Pt.locs, Pt.cells, Pt.slots] at X8 l8 y8 z8 st8 hQ8
  rw [l8, y8, z8] at X8
  obtain ⟨rfl, rfl, E8⟩ := hQ8
  refine own_to st8 ?_
  show own_Go p e below F (T8.setTop (mkF m 83 #[.val (.ref t), .val (.ref x), .val (.int (Int32.ofNat (L0 + es.length))), .unset] [(.int (Int32.ofNat es.length)), (.int ((0 : Int32))), (.ref x)]))
  rw [hl0, Nat.add_zero]
  show own_Go p e below F (T8.setTop (mkF m 83 #[.val (.ref t), .val (.ref x), .val (.int (Int32.ofNat L0)), .unset] [(.int (Int32.ofNat 0)), (.int ((0 : Int32))), (.ref x)]))
  refine own_aload_n X8.here hx (hb hby dAp_83) rfl rfl (pc' := 84) rfl ?_
  obtain ⟨T9, X9, e9, st9⟩ := getF X8 hx hZ hown (host := "") (Or.inl (hw _ (List.mem_of_getElem? (i := 38) rfl))) Via.refl E8 HT.2.1 (g := (mkF m 84 #[.val (.ref t), .val (.ref x), .val (.int (Int32.ofNat L0)), .unset] [(.ref t), (.int (Int32.ofNat 0)), (.int ((0 : Int32))), (.ref x)])) rfl rfl (hb hby dAp_84)
  refine own_on st9 ?_
  show own_Go p e below F (T9.setTop (mkF m 87 #[.val (.ref t), .val (.ref x), .val (.int (Int32.ofNat L0)), .unset] [(.ref ar), (.int (Int32.ofNat 0)), (.int ((0 : Int32))), (.ref x)]))
  refine own_aload_n X9.here hx (hb hby dAp_87) rfl rfl (pc' := 88) rfl ?_
  obtain ⟨T10, X10, e10, st10⟩ := getF X9 hx hZ hown (host := "") (Or.inl (hw _ (List.mem_of_getElem? (i := 57) rfl))) Via.refl e9 HT.2.2 (g := (mkF m 88 #[.val (.ref t), .val (.ref x), .val (.int (Int32.ofNat L0)), .unset] [(.ref t), (.ref ar), (.int (Int32.ofNat 0)), (.int ((0 : Int32))), (.ref x)])) rfl rfl (hb hby dAp_88)
  refine own_on st10 ?_
  show own_Go p e below F (T10.setTop (mkF m 91 #[.val (.ref t), .val (.ref x), .val (.int (Int32.ofNat L0)), .unset] [(.int (Int32.ofNat L0)), (.ref ar), (.int (Int32.ofNat 0)), (.int ((0 : Int32))), (.ref x)]))
  obtain ⟨cq11, kq11, qa11, qb11, qc11⟩ := isOf hZ e10 S.exa
  obtain ⟨_, _, ⟨T11, L11, k11, n11⟩, -, X11, ⟨Lc11, hQ11, l11, y11, z11⟩, st11⟩ := X10.virtualBack hx (y := (⟨"java/lang/String", "getChars", "(II[CI)V"⟩ : MethodName)) (z := (⟨"java/lang/String", "getChars", "(II[CI)V"⟩ : MethodName)) hown (mvT hZ (hw _ (List.mem_of_getElem? (i := 59) rfl))) (mvT hZ (hw _ (List.mem_of_getElem? (i := 60) rfl))) (notFace_of_selects (args := #[]) (mvT hZ (hw _ (List.mem_of_getElem? (i := 62) rfl)))) (mvT hZ (hw _ (List.mem_of_getElem? (i := 62) rfl))) (mvT hZ (hw _ (List.mem_of_getElem? (i := 61) rfl))) (by decide) (backOf (W := 0) (rmGs0 l Z a0 hw x ar ka (cs.map Value.int) d0 L0 cs.length h0 EZ z0 O1 P5 fm O2 rf (by rw [← he]; exact S) A0 hL (by omega)) hZ (hw _ (List.mem_of_getElem? (i := 63) rfl)) (hw _ (List.mem_of_getElem? (i := 10) rfl)) (by decide) (by decide)) qa11 qc11 (g := (mkF m 91 #[.val (.ref t), .val (.ref x), .val (.int (Int32.ofNat L0)), .unset] [(.int (Int32.ofNat L0)), (.ref ar), (.int (Int32.ofNat 0)), (.int ((0 : Int32))), (.ref x)])) rfl (by rw [hml]; rfl) (Steps.refl _) (argsL := [(.int ((0 : Int32))), (.int (Int32.ofNat 0)), (.ref ar), (.int (Int32.ofNat L0))]) (rest := []) (lenOf pdx16 rfl) rfl (by show 2 * 0 + _ ≤ _; exact Nat.le_of_eq rfl) (hb hby dAp_91) (fun _ _ => ⟨rfl, e10, (Nat.le_of_ble_eq_true rfl), (Nat.le_of_ble_eq_true rfl)⟩)
  dsimp only [Pt.U, Pt.locs, Pt.cells, Pt.slots] at X11 l11 y11 z11 st11 hQ11
  rw [l11, y11, z11] at X11
  obtain ⟨rfl, N11, E11⟩ := hQ11
  refine own_to st11 ?_
  show own_Go p e below F (T11.setTop (mkF m 94 #[.val (.ref t), .val (.ref x), .val (.int (Int32.ofNat L0)), .unset] []))
  have N12 := Fr.app N0 N11
  refine own_aload_n X11.here hx (hb hby dAp_94) rfl rfl (pc' := 95) rfl ?_
  refine own_iload_n X11.here hx (hb hby dAp_95) rfl (pc' := 96) rfl ?_
  obtain ⟨T13, h13, X13, e13, W13, st13⟩ := putF X11 hx hZ hown (host := "") (Or.inl (hw _ (List.mem_of_getElem? (i := 57) rfl))) Via.refl E11 HT.2.2 HT.1 (Or.inl (hw _ (List.mem_of_getElem? (i := 58) rfl))) (hw _ (List.mem_of_getElem? (i := 30) rfl)) (ty := .int) (by decide) rfl rfl (g := (mkF m 96 #[.val (.ref t), .val (.ref x), .val (.int (Int32.ofNat L0)), .unset] [(.int (Int32.ofNat L0)), (.ref t)])) rfl rfl (hb hby dAp_96)
  have f14 := HT.1.wr W13
  have f15 := HT.2.1.other W13 (Or.inr (slot_ne (Or.inl (hw _ (List.mem_of_getElem? (i := 39) rfl))) (Or.inl (hw _ (List.mem_of_getElem? (i := 58) rfl))) (by decide) (t := .array .char) (by decide) (t' := .int) (by decide)))
  have f16 := HT.2.2.same W13
  have f17 := A0.other W13 (Ne.symm hta)
  have f18 := Q0.wr W13 (Or.inl (by simp))
  have N19 := own_Fr_snoc (sl := Jvm.RoadKit.slotOf Z "com/example/kerb/kerb/call/AppendOnlyText" "length" "I") N12 gt
  refine own_on st13 ?_
  show own_Go p e below F (T13.setTop (mkF m 99 #[.val (.ref t), .val (.ref x), .val (.int (Int32.ofNat L0)), .unset] []))
  exact own_retV X13 hx hlk hret (hb hby dAp_99) (fun t ht hE => hF t _ _ _ _ (by rw [ht, (e13 : _ = h13)]; exact ⟨rfl, (by simpa using N19), f18, ⟨f14, f15, f16⟩⟩) hE (by decide) (by decide))
def Q_rmAx (Z : State) (t x ar : Addr) (ka : ClassId) (cs es : List Int32) (L0 : Nat) (d0 : Value) (h0 : Heap) (z0 : Int32) (fm : Value) (v : Option Value) (h : Heap) (L : List Loc) : Prop := v = none ∧ ∃ (br : Addr) (kb : ClassId) (cb co : List Int32), Fr Z.heap.size L ∧ Keep h0 h [ar, t] ∧ (∀ hq : Heap, Ext hq h0 → hq.size ≤ t → (0 < cs.length → hq.size ≤ ar) → Ext hq h) ∧ own_AT Z h t br (L0 + es.length) ∧ Arv Z h br kb .char (Int32.ofNat cb.length) (cb.map Value.int) (.int 0) ∧ cb.take (L0 + es.length) = cs.take L0 ++ es ∧ (∀ c ∈ cb, ¬ c < 0 ∧ ¬ (65535 : Int32) < c) ∧ L0 + es.length ≤ cb.length ∧ cb.length ≤ max (L0 + es.length) (2 * cs.length) ∧ ((br = ar ∧ cb.length = cs.length) ∨ h0.size ≤ br) ∧ Arv Z h ar ka .char (Int32.ofNat cs.length) (co.map Value.int) (.int 0) ∧ co.length = cs.length ∧ co.take L0 = cs.take L0 ∧ (∀ c ∈ co, ¬ c < 0 ∧ ¬ (65535 : Int32) < c)
set_option maxRecDepth 65536 in
set_option maxHeartbeats 40000000 in
theorem rmAx (l : Launch) (Z : State) (a0 : Array Value) (hw : ∀ d ∈ tables_1, d.before a0 Z = true) (t x ar : Addr) (ka : ClassId) (cs es : List Int32) (L0 : Nat) (d0 : Value) (h0 : Heap) (EZ : Ext Z.heap h0) (z0 : Int32) (O1 : Sta Z Z.heap "java/lang/String" "COMPACT_STRINGS" "Z" (.int z0)) (P5 : ¬ z0 = 0) (fm : Value) (O2 : Sta Z Z.heap "jdk/internal/util/Preconditions" "SIOOBE_FORMATTER" "Ljava/util/function/BiFunction;" fm) (rf : fm.isRef = true) (O3 : Sta Z Z.heap "java/lang/StringUTF16" "$assertionsDisabled" "Z" (.int 1)) (O4 : Sta Z Z.heap "java/lang/StringUTF16" "HI_BYTE_SHIFT" "I" (.int 0)) (O5 : Sta Z Z.heap "java/lang/StringUTF16" "LO_BYTE_SHIFT" "I" (.int 8)) (S : own_S Z h0 x es) (HT : own_AT Z h0 t ar L0) (A0 : Arv Z h0 ar ka .char (Int32.ofNat cs.length) (cs.map Value.int) (.int 0)) (gt : Z.heap.size ≤ t) (hL : L0 ≤ cs.length) (hc : cs.length ≤ 8) (hcs : ∀ c ∈ cs, ¬ c < 0 ∧ ¬ (65535 : Int32) < c) (hsum : L0 + es.length ≤ 16) (ga : 0 < cs.length → Z.heap.size ≤ ar) :
    MetFree l (⟨"com/example/kerb/kerb/call/AppendOnlyText", "append", "(Ljava/lang/String;)V"⟩ : MethodName) (head1 (Jvm.Cond.code (⟨"com/example/kerb/kerb/call/AppendOnlyText", "append", "(Ljava/lang/String;)V"⟩ : MethodName) prog_23_method_2_code 4 (Option.none : Option FieldType) :: []) ({ frames := 5, cells := 1, slots := 16, locals := 76 } : Room)) (fun aa U => aa = #[(.ref t), (.ref x)] ∧ Z.Warmed39 U.vm ∧ U.heap = h0) (fun _ _ _ _ _ => True) (fun _ U o U' => ∃ v L, o = .returned v ∧ (Q_rmAx Z t x ar ka cs es L0 d0 h0 z0 fm) v U'.heap L ∧ FrameEnd U o U' L ({ frames := 5, cells := 1, slots := 16, locals := 76 } : Room).cells ({ frames := 5, cells := 1, slots := 16, locals := 76 } : Room).slots) := by
  have hes := S.ok
  have hta : t ≠ ar := Exa.neArv HT.1 A0 (hw _ (List.mem_of_getElem? (i := 30) rfl))
  have n1 : ar ∉ [t] := by simp only [List.mem_singleton]; exact fun q => hta q.symm
  rcases Nat.eq_zero_or_pos es.length with hz | hpos
  · have he : es = [] := List.eq_nil_of_length_eq_zero hz
    refine MetFree.imp (rmA0 l Z a0 hw t x ar ka cs es L0 (.int 0) h0 EZ z0 O1 P5 fm O2 rf O3 O4 O5 S HT A0 gt hL hc he) ?_
    rintro a s o s' ⟨v, L, r1, ⟨rfl, N, K, T⟩, r3⟩
    exact ⟨_, L, r1, ⟨rfl, ar, ka, cs, cs, N, own_keepW K, fun hq E q _ => own_ext_keep E K (fun y hy => by cases List.mem_singleton.mp hy; exact q), by rw [hz]; exact T, A0.keep K n1, by rw [hz, he]; simp, hcs, by omega, by omega, Or.inl ⟨rfl, rfl⟩, A0.keep K n1, rfl, rfl, hcs⟩, r3⟩
  · rcases Nat.lt_or_ge cs.length (L0 + es.length) with hf | hf
    · refine MetFree.imp (rmA2 l Z a0 hw t x ar ka cs es L0 (.int 0) h0 EZ z0 O1 P5 fm O2 rf O3 O4 O5 S HT A0 gt hL hc hf hsum) ?_
      rintro a s o s' ⟨v, L, r1, ⟨rfl, br, kb, M, hM, N, K, G, T, V⟩, r3⟩
      have hlm : (cs ++ List.replicate (M - cs.length) (0 : Int32)).length = M := by simp; omega
      have hly : (own_lay (cs ++ List.replicate (M - cs.length) (0 : Int32)) L0 es).length = M := by rw [own_layL (by omega)]; exact hlm
      have hV : Arv Z s'.heap br kb .char (Int32.ofNat (own_lay (cs ++ List.replicate (M - cs.length) (0 : Int32)) L0 es).length) ((own_lay (cs ++ List.replicate (M - cs.length) (0 : Int32)) L0 es).map Value.int) (.int 0) := by rw [hly]; exact V
      have hB : ∀ c ∈ own_lay (cs ++ List.replicate (M - cs.length) (0 : Int32)) L0 es, ¬ c < 0 ∧ ¬ (65535 : Int32) < c := own_layB (fun c hc => by
        rcases List.mem_append.mp hc with u | u
        · exact hcs c u
        · rw [List.eq_of_mem_replicate u]; decide) hes.1
      have hT : (own_lay (cs ++ List.replicate (M - cs.length) (0 : Int32)) L0 es).take (L0 + es.length) = cs.take L0 ++ es := by rw [own_layT (by omega), List.take_append_of_le_length hL]
      exact ⟨_, L, r1, ⟨rfl, br, kb, own_lay (cs ++ List.replicate (M - cs.length) (0 : Int32)) L0 es, cs, N, own_keepW K, fun hq E q _ => own_ext_keep E K (fun y hy => by cases List.mem_singleton.mp hy; exact q), T, hV, hT, hB, by omega, by omega, Or.inr G, A0.keep K n1, rfl, rfl, hcs⟩, r3⟩
    · refine MetFree.imp (rmA1 l Z a0 hw t x ar ka cs es L0 (.int 0) h0 EZ z0 O1 P5 fm O2 rf O3 O4 O5 S HT A0 gt hL hc hf (fun _ => ga (by omega))) ?_
      rintro a s o s' ⟨v, L, r1, ⟨rfl, N, K, T, V⟩, r3⟩
      have hly := own_layL hf
      exact ⟨_, L, r1, ⟨rfl, ar, ka, own_lay cs L0 es, own_lay cs L0 es, N, K, fun hq E q g => own_ext_keep E K (fun y hy => by
        rcases List.mem_cons.mp hy with u | u
        · rw [u]; exact g (by omega)
        · cases List.mem_singleton.mp u; exact q), T, by rw [hly]; exact V, own_layT hf, own_layB hcs hes.1, by omega, by omega, Or.inl ⟨rfl, hly⟩, V, hly, own_layP hL, own_layB hcs hes.1⟩, r3⟩
theorem own_AT.ext {Z : State} {h h' : Heap} {t ar : Addr} {n : Nat} (T : own_AT Z h t ar n) (E : Ext h h') : own_AT Z h' t ar n := ⟨T.1.ext E, T.2.1.ext E, T.2.2.ext E⟩
theorem own_Sn.ext {Z : State} {h h' : Heap} {t ar : Addr} {n : Nat} (T : own_Sn Z h t ar n) (E : Ext h h') : own_Sn Z h' t ar n := ⟨T.1.ext E, T.2.1.ext E, T.2.2.ext E⟩
theorem own_SnkA {Z : State} {h h2 : Heap} {x t ar ar2 : Addr} {ka : ClassId} {z : Int32} {vs : List Value} {dv : Value} {n : Nat} (S : own_Sn Z h x ar n) (E : Exa Z h t "com/example/kerb/kerb/call/AppendOnlyText") (A : Arv Z h ar2 ka .char z vs dv) (K : Keep h h2 [ar2, t]) {a0 : Array Value} {k : Nat} (w : (Jvm.Cond.instantiable "com/example/kerb/kerb/call/AppendOnlyText$Snapshot" k).before a0 Z = true) : own_Sn Z h2 x ar n := by
  have n1 : x ∉ [ar2, t] := by
    simp only [List.mem_cons, List.not_mem_nil, or_false, not_or]
    exact ⟨S.1.neArv A w, fun q => (E.ne S.1 (by decide)) q.symm⟩
  exact ⟨S.1.keep K, S.2.1.keep K n1, S.2.2.keep K n1⟩
theorem efL (m : MethodId) (x0 : Int32) (x1 : Int64) (x2 : Int64) (x3 : Int32) : entryFrame m #[(.int x0), (.long x1), (.long x2), (.int x3)] 18 = mkF m 0 #[.val (.int x0), .val (.long x1), .second, .val (.long x2), .second, .val (.int x3), .unset, .unset, .unset, .unset, .unset, .unset, .unset, .unset, .unset, .unset, .unset, .unset] [] := by first | (simp [entryFrame, mkF, argsToLocals, Value.category]; done) | rfl
def Q_rmL (Z : State) (le : Int32) (xa ya : Int64) (zc : Int32) (h0 : Heap) (z0 : Int32) (fm : Value) (nn : Addr) (v : Option Value) (h : Heap) (L : List Loc) : Prop := v = some (.int 1) ∧ Fr Z.heap.size L
set_option maxRecDepth 65536 in
set_option maxHeartbeats 40000000 in
theorem rmL (l : Launch) (Z : State) (a0 : Array Value) (hw : ∀ d ∈ tables_1, d.before a0 Z = true) (hEL : EW Z a0 EL) (le : Int32) (xa ya : Int64) (zc : Int32) (h0 : Heap) (EZ : Ext Z.heap h0) (z0 : Int32) (O1 : Sta Z Z.heap "java/lang/String" "COMPACT_STRINGS" "Z" (.int z0)) (P5 : ¬ z0 = 0) (fm : Value) (O2 : Sta Z Z.heap "jdk/internal/util/Preconditions" "SIOOBE_FORMATTER" "Ljava/util/function/BiFunction;" fm) (rf : fm.isRef = true) (O3 : Sta Z Z.heap "java/lang/StringUTF16" "$assertionsDisabled" "Z" (.int 1)) (O4 : Sta Z Z.heap "java/lang/StringUTF16" "HI_BYTE_SHIFT" "I" (.int 0)) (O5 : Sta Z Z.heap "java/lang/StringUTF16" "LO_BYTE_SHIFT" "I" (.int 8)) (nn : Addr) (O6 : Sta Z Z.heap "com/example/kerb/kerb/call/AppendOnlyText" "NONE" "[C" (.ref nn)) (kn : ClassId) (AN : Arv Z Z.heap nn kn .char (Int32.ofNat ([] : List Int32).length) (([] : List Int32).map Value.int) (.int 0)) :
    MetFree l x (head1 (Jvm.Cond.code x code maxLocals ret :: tables_1) room_1) (fun aa U => aa = #[(.int le), (.long xa), (.long ya), (.int zc)] ∧ Z.Warmed39 U.vm ∧ U.heap = h0 ∧ CHv Z EL U.vm h0 ∧ ∀ yy ∈ ([] : List Addr), Safe Z EL U.vm h0 yy) (fun _ _ _ _ _ => True) (fun _ U o U' => ∃ v L, o = .returned v ∧ (Q_rmL Z le xa ya zc h0 z0 fm nn) v U'.heap L ∧ CHr Z EL U.vm U.heap U'.vm U'.heap ∧ ReturnedEndW U o U' L room_1.cells room_1.slots) := by
  refine own_walkW (by exact pnL) ?_
  intro p e s m below meth c T0 X0 hx hby hml hret hlk hnm hs0 e0 I0 hsf F hF
  refine own_on (fun _ => castTop (efL m le xa ya zc)) ?_
  have M0 := own_ext_refl h0
  have N0 := Fr.nil Z.heap.size
  refine own_iload_n X0.here hx (hb hby at_0) rfl (pc' := 1) rfl ?_
  refine own_iconst X0.here hx (hb hby at_1) (v := 3) rfl (pc' := 2) rfl ?_
  refine own_iand X0.here hx (hb hby at_2) (pc' := 3) rfl ?_
  refine own_istore X0.here hx (hb hby at_3) (L' := #[.val (.int le), .val (.long xa), .second, .val (.long ya), .second, .val (.int zc), .val (.int (le &&& (3 : Int32))), .unset, .unset, .unset, .unset, .unset, .unset, .unset, .unset, .unset, .unset, .unset]) rfl (pc' := 5) rfl ?_
  refine own_iload_n X0.here hx (hb hby at_5) rfl (pc' := 6) rfl ?_
  refine own_iconst X0.here hx (hb hby at_6) (v := 2) rfl (pc' := 7) rfl ?_
  refine own_iushr X0.here hx (hb hby at_7) (pc' := 8) rfl ?_
  refine own_iconst X0.here hx (hb hby at_8) (v := 3) rfl (pc' := 9) rfl ?_
  refine own_iand X0.here hx (hb hby at_9) (pc' := 10) rfl ?_
  refine own_istore X0.here hx (hb hby at_10) (L' := #[.val (.int le), .val (.long xa), .second, .val (.long ya), .second, .val (.int zc), .val (.int (le &&& (3 : Int32))), .val (.int ((XT.ushr le (2 : Int32)) &&& (3 : Int32))), .unset, .unset, .unset, .unset, .unset, .unset, .unset, .unset, .unset, .unset]) rfl (pc' := 12) rfl ?_
  refine own_iload_n X0.here hx (hb hby at_12) rfl (pc' := 13) rfl ?_
  refine own_iconst X0.here hx (hb hby at_13) (v := 4) rfl (pc' := 14) rfl ?_
  refine own_iushr X0.here hx (hb hby at_14) (pc' := 15) rfl ?_
  refine own_iconst X0.here hx (hb hby at_15) (v := 3) rfl (pc' := 16) rfl ?_
  refine own_iand X0.here hx (hb hby at_16) (pc' := 17) rfl ?_
  refine own_istore X0.here hx (hb hby at_17) (L' := #[.val (.int le), .val (.long xa), .second, .val (.long ya), .second, .val (.int zc), .val (.int (le &&& (3 : Int32))), .val (.int ((XT.ushr le (2 : Int32)) &&& (3 : Int32))), .val (.int ((XT.ushr le (4 : Int32)) &&& (3 : Int32))), .unset, .unset, .unset, .unset, .unset, .unset, .unset, .unset, .unset]) rfl (pc' := 19) rfl ?_
  obtain ⟨n1n, hn1, en1⟩ : ∃ n, n ≤ 3 ∧ le &&& (3 : Int32) = Int32.ofNat n := own_andN 3 _
  rw [en1]
  obtain ⟨n2n, hn2, en2⟩ : ∃ n, n ≤ 3 ∧ (XT.ushr le (2 : Int32)) &&& (3 : Int32) = Int32.ofNat n := own_andN 3 _
  rw [en2]
  obtain ⟨n3n, hn3, en3⟩ : ∃ n, n ≤ 3 ∧ (XT.ushr le (4 : Int32)) &&& (3 : Int32) = Int32.ofNat n := own_andN 3 _
  rw [en3]
  show own_Go p e below F (T0.setTop (mkF m 19 #[.val (.int le), .val (.long xa), .second, .val (.long ya), .second, .val (.int zc), .val (.int (Int32.ofNat n1n)), .val (.int (Int32.ofNat n2n)), .val (.int (Int32.ofNat n3n)), .unset, .unset, .unset, .unset, .unset, .unset, .unset, .unset, .unset] []))
  refine own_bipush X0.here hx (hb hby at_19) (v := 9) rfl (pc' := 21) rfl ?_
  obtain ⟨T1, h1, k1, X1, e1, E1, A1, st1⟩ := newP X0 hx I0.1 (hw _ (List.mem_of_getElem? (i := 0) rfl)) e0 (g := (mkF m 21 #[.val (.int le), .val (.long xa), .second, .val (.long ya), .second, .val (.int zc), .val (.int (Int32.ofNat n1n)), .val (.int (Int32.ofNat n2n)), .val (.int (Int32.ofNat n3n)), .unset, .unset, .unset, .unset, .unset, .unset, .unset, .unset, .unset] [(.int ((9 : Int32)))])) rfl (hb hby at_21) rfl (by decide : ¬ ((9 : Int32) < (0 : Int32))) (cap := 9) (by decide) (by decide) (by decide) (by decide)
  obtain ⟨a1, g1⟩ : ∃ z, z = h0.size := ⟨_, rfl⟩
  rw [← g1] at A1 st1
  have ge2 : h0.size ≤ a1 := by rw [g1]; exact M0.1
  have f3 := own_ext_trans M0 E1
  have J4 := I0.ext E1
  have V1 : Arv Z h1 a1 k1 .char (9 : Int32) [.int (0 : Int32), .int (0 : Int32), .int (0 : Int32), .int (0 : Int32), .int (0 : Int32), .int (0 : Int32), .int (0 : Int32), .int (0 : Int32), .int (0 : Int32)] (.int (0 : Int32)) := (Arv.new A1 (by decide)).pad (pad_rep [] (.int (0 : Int32)) 9)
  refine own_on st1 ?_
  show own_Go p e below F (T1.setTop (mkF m 23 #[.val (.int le), .val (.long xa), .second, .val (.long ya), .second, .val (.int zc), .val (.int (Int32.ofNat n1n)), .val (.int (Int32.ofNat n2n)), .val (.int (Int32.ofNat n3n)), .unset, .unset, .unset, .unset, .unset, .unset, .unset, .unset, .unset] [(.ref a1)]))
  have gz_a1 : Z.heap.size ≤ a1 := Nat.le_trans EZ.1 ge2
  refine own_astore X1.here hx (hb hby at_23) rfl (L' := #[.val (.int le), .val (.long xa), .second, .val (.long ya), .second, .val (.int zc), .val (.int (Int32.ofNat n1n)), .val (.int (Int32.ofNat n2n)), .val (.int (Int32.ofNat n3n)), .val (.ref a1), .unset, .unset, .unset, .unset, .unset, .unset, .unset, .unset]) rfl (pc' := 25) rfl ?_
  refine own_aload X1.here hx (hb hby at_25) rfl rfl (pc' := 27) rfl ?_
  refine own_iconst X1.here hx (hb hby at_27) (v := 0) rfl (pc' := 28) rfl ?_
  refine own_lload_n X1.here hx (hb hby at_28) rfl (pc' := 29) rfl ?_
  refine own_l2i X1.here hx (hb hby at_29) (pc' := 30) rfl ?_
  refine own_i2c X1.here hx (hb hby at_30) (pc' := 31) rfl ?_
  obtain ⟨dd0, edd0⟩ : ∃ c, c = own_c xa.toInt32 := ⟨_, rfl⟩
  have ndd0 : nar .char dd0 = dd0 := by rw [edd0]; exact own_nar _
  have pdd0 : ¬ dd0 < 0 ∧ ¬ (65535 : Int32) < dd0 := by rw [edd0]; exact own_c0 _
  rw [← edd0]
  show own_Go p e below F (T1.setTop (mkF m 31 #[.val (.int le), .val (.long xa), .second, .val (.long ya), .second, .val (.int zc), .val (.int (Int32.ofNat n1n)), .val (.int (Int32.ofNat n2n)), .val (.int (Int32.ofNat n3n)), .val (.ref a1), .unset, .unset, .unset, .unset, .unset, .unset, .unset, .unset] [(.int dd0), (.int ((0 : Int32))), (.ref a1)]))
  obtain ⟨T5, h5, X5, e5, W5, V5, st5⟩ := own_cast X1 hx J4.1 e1 V1 (i := 0) rfl (Nat.le_of_ble_eq_true rfl) (by decide) ndd0 (g := (mkF m 31 #[.val (.int le), .val (.long xa), .second, .val (.long ya), .second, .val (.int zc), .val (.int (Int32.ofNat n1n)), .val (.int (Int32.ofNat n2n)), .val (.int (Int32.ofNat n3n)), .val (.ref a1), .unset, .unset, .unset, .unset, .unset, .unset, .unset, .unset] [(.int dd0), (.int ((0 : Int32))), (.ref a1)])) rfl rfl (hb hby at_31)
  replace V5 : Arv Z h5 a1 k1 .char (9 : Int32) [.int dd0, .int (0 : Int32), .int (0 : Int32), .int (0 : Int32), .int (0 : Int32), .int (0 : Int32), .int (0 : Int32), .int (0 : Int32), .int (0 : Int32)] (.int (0 : Int32)) := V5
  have f6 := own_ext_wr f3 W5 ge2
  have J7 := J4.wr W5 (Safe.arv J4.1.alike V1 (by decide))
  have N8 := own_Fr_snoc (sl := ((0 : Int32)).toNatClampNeg) N0 gz_a1
  refine own_on st5 ?_
  show own_Go p e below F (T5.setTop (mkF m 32 #[.val (.int le), .val (.long xa), .second, .val (.long ya), .second, .val (.int zc), .val (.int (Int32.ofNat n1n)), .val (.int (Int32.ofNat n2n)), .val (.int (Int32.ofNat n3n)), .val (.ref a1), .unset, .unset, .unset, .unset, .unset, .unset, .unset, .unset] []))
  refine own_aload X5.here hx (hb hby at_32) rfl rfl (pc' := 34) rfl ?_
  refine own_iconst X5.here hx (hb hby at_34) (v := 1) rfl (pc' := 35) rfl ?_
  refine own_lload_n X5.here hx (hb hby at_35) rfl (pc' := 36) rfl ?_
  refine own_bipush X5.here hx (hb hby at_36) (v := 16) rfl (pc' := 38) rfl ?_
  refine own_lushr X5.here hx (hb hby at_38) (pc' := 39) rfl ?_
  refine own_l2i X5.here hx (hb hby at_39) (pc' := 40) rfl ?_
  refine own_i2c X5.here hx (hb hby at_40) (pc' := 41) rfl ?_
  obtain ⟨dd1, edd1⟩ : ∃ c, c = own_c ((XT.ushrL xa (16 : Int32)).toInt32) := ⟨_, rfl⟩
  have ndd1 : nar .char dd1 = dd1 := by rw [edd1]; exact own_nar _
  have pdd1 : ¬ dd1 < 0 ∧ ¬ (65535 : Int32) < dd1 := by rw [edd1]; exact own_c0 _
  rw [← edd1]
  show own_Go p e below F (T5.setTop (mkF m 41 #[.val (.int le), .val (.long xa), .second, .val (.long ya), .second, .val (.int zc), .val (.int (Int32.ofNat n1n)), .val (.int (Int32.ofNat n2n)), .val (.int (Int32.ofNat n3n)), .val (.ref a1), .unset, .unset, .unset, .unset, .unset, .unset, .unset, .unset] [(.int dd1), (.int ((1 : Int32))), (.ref a1)]))
  obtain ⟨T9, h9, X9, e9, W9, V9, st9⟩ := own_cast X5 hx J7.1 e5 V5 (i := 1) rfl (Nat.le_of_ble_eq_true rfl) (by decide) ndd1 (g := (mkF m 41 #[.val (.int le), .val (.long xa), .second, .val (.long ya), .second, .val (.int zc), .val (.int (Int32.ofNat n1n)), .val (.int (Int32.ofNat n2n)), .val (.int (Int32.ofNat n3n)), .val (.ref a1), .unset, .unset, .unset, .unset, .unset, .unset, .unset, .unset] [(.int dd1), (.int ((1 : Int32))), (.ref a1)])) rfl rfl (hb hby at_41)
  replace V9 : Arv Z h9 a1 k1 .char (9 : Int32) [.int dd0, .int dd1, .int (0 : Int32), .int (0 : Int32), .int (0 : Int32), .int (0 : Int32), .int (0 : Int32), .int (0 : Int32), .int (0 : Int32)] (.int (0 : Int32)) := V9
  have f10 := own_ext_wr f6 W9 ge2
  have J11 := J7.wr W9 (Safe.arv J7.1.alike V5 (by decide))
  have N12 := own_Fr_snoc (sl := ((1 : Int32)).toNatClampNeg) N8 gz_a1
  refine own_on st9 ?_
  show own_Go p e below F (T9.setTop (mkF m 42 #[.val (.int le), .val (.long xa), .second, .val (.long ya), .second, .val (.int zc), .val (.int (Int32.ofNat n1n)), .val (.int (Int32.ofNat n2n)), .val (.int (Int32.ofNat n3n)), .val (.ref a1), .unset, .unset, .unset, .unset, .unset, .unset, .unset, .unset] []))
  refine own_aload X9.here hx (hb hby at_42) rfl rfl (pc' := 44) rfl ?_
  refine own_iconst X9.here hx (hb hby at_44) (v := 2) rfl (pc' := 45) rfl ?_
  refine own_lload_n X9.here hx (hb hby at_45) rfl (pc' := 46) rfl ?_
  refine own_bipush X9.here hx (hb hby at_46) (v := 32) rfl (pc' := 48) rfl ?_
  refine own_lushr X9.here hx (hb hby at_48) (pc' := 49) rfl ?_
  refine own_l2i X9.here hx (hb hby at_49) (pc' := 50) rfl ?_
  refine own_i2c X9.here hx (hb hby at_50) (pc' := 51) rfl ?_
  obtain ⟨dd2, edd2⟩ : ∃ c, c = own_c ((XT.ushrL xa (32 : Int32)).toInt32) := ⟨_, rfl⟩
  have ndd2 : nar .char dd2 = dd2 := by rw [edd2]; exact own_nar _
  have pdd2 : ¬ dd2 < 0 ∧ ¬ (65535 : Int32) < dd2 := by rw [edd2]; exact own_c0 _
  rw [← edd2]
  show own_Go p e below F (T9.setTop (mkF m 51 #[.val (.int le), .val (.long xa), .second, .val (.long ya), .second, .val (.int zc), .val (.int (Int32.ofNat n1n)), .val (.int (Int32.ofNat n2n)), .val (.int (Int32.ofNat n3n)), .val (.ref a1), .unset, .unset, .unset, .unset, .unset, .unset, .unset, .unset] [(.int dd2), (.int ((2 : Int32))), (.ref a1)]))
  obtain ⟨T13, h13, X13, e13, W13, V13, st13⟩ := own_cast X9 hx J11.1 e9 V9 (i := 2) rfl (Nat.le_of_ble_eq_true rfl) (by decide) ndd2 (g := (mkF m 51 #[.val (.int le), .val (.long xa), .second, .val (.long ya), .second, .val (.int zc), .val (.int (Int32.ofNat n1n)), .val (.int (Int32.ofNat n2n)), .val (.int (Int32.ofNat n3n)), .val (.ref a1), .unset, .unset, .unset, .unset, .unset, .unset, .unset, .unset] [(.int dd2), (.int ((2 : Int32))), (.ref a1)])) rfl rfl (hb hby at_51)
  replace V13 : Arv Z h13 a1 k1 .char (9 : Int32) [.int dd0, .int dd1, .int dd2, .int (0 : Int32), .int (0 : Int32), .int (0 : Int32), .int (0 : Int32), .int (0 : Int32), .int (0 : Int32)] (.int (0 : Int32)) := V13
  have f14 := own_ext_wr f10 W13 ge2
  have J15 := J11.wr W13 (Safe.arv J11.1.alike V9 (by decide))
  have N16 := own_Fr_snoc (sl := ((2 : Int32)).toNatClampNeg) N12 gz_a1
  refine own_on st13 ?_
  show own_Go p e below F (T13.setTop (mkF m 52 #[.val (.int le), .val (.long xa), .second, .val (.long ya), .second, .val (.int zc), .val (.int (Int32.ofNat n1n)), .val (.int (Int32.ofNat n2n)), .val (.int (Int32.ofNat n3n)), .val (.ref a1), .unset, .unset, .unset, .unset, .unset, .unset, .unset, .unset] []))
  refine own_aload X13.here hx (hb hby at_52) rfl rfl (pc' := 54) rfl ?_
  refine own_iconst X13.here hx (hb hby at_54) (v := 3) rfl (pc' := 55) rfl ?_
  refine own_lload_n X13.here hx (hb hby at_55) rfl (pc' := 56) rfl ?_
  refine own_bipush X13.here hx (hb hby at_56) (v := 48) rfl (pc' := 58) rfl ?_
  refine own_lushr X13.here hx (hb hby at_58) (pc' := 59) rfl ?_
  refine own_l2i X13.here hx (hb hby at_59) (pc' := 60) rfl ?_
  refine own_i2c X13.here hx (hb hby at_60) (pc' := 61) rfl ?_
  obtain ⟨dd3, edd3⟩ : ∃ c, c = own_c ((XT.ushrL xa (48 : Int32)).toInt32) := ⟨_, rfl⟩
  have ndd3 : nar .char dd3 = dd3 := by rw [edd3]; exact own_nar _
  have pdd3 : ¬ dd3 < 0 ∧ ¬ (65535 : Int32) < dd3 := by rw [edd3]; exact own_c0 _
  rw [← edd3]
  show own_Go p e below F (T13.setTop (mkF m 61 #[.val (.int le), .val (.long xa), .second, .val (.long ya), .second, .val (.int zc), .val (.int (Int32.ofNat n1n)), .val (.int (Int32.ofNat n2n)), .val (.int (Int32.ofNat n3n)), .val (.ref a1), .unset, .unset, .unset, .unset, .unset, .unset, .unset, .unset] [(.int dd3), (.int ((3 : Int32))), (.ref a1)]))
  obtain ⟨T17, h17, X17, e17, W17, V17, st17⟩ := own_cast X13 hx J15.1 e13 V13 (i := 3) rfl (Nat.le_of_ble_eq_true rfl) (by decide) ndd3 (g := (mkF m 61 #[.val (.int le), .val (.long xa), .second, .val (.long ya), .second, .val (.int zc), .val (.int (Int32.ofNat n1n)), .val (.int (Int32.ofNat n2n)), .val (.int (Int32.ofNat n3n)), .val (.ref a1), .unset, .unset, .unset, .unset, .unset, .unset, .unset, .unset] [(.int dd3), (.int ((3 : Int32))), (.ref a1)])) rfl rfl (hb hby at_61)
  replace V17 : Arv Z h17 a1 k1 .char (9 : Int32) [.int dd0, .int dd1, .int dd2, .int dd3, .int (0 : Int32), .int (0 : Int32), .int (0 : Int32), .int (0 : Int32), .int (0 : Int32)] (.int (0 : Int32)) := V17
  have f18 := own_ext_wr f14 W17 ge2
  have J19 := J15.wr W17 (Safe.arv J15.1.alike V13 (by decide))
  have N20 := own_Fr_snoc (sl := ((3 : Int32)).toNatClampNeg) N16 gz_a1
  refine own_on st17 ?_
  show own_Go p e below F (T17.setTop (mkF m 62 #[.val (.int le), .val (.long xa), .second, .val (.long ya), .second, .val (.int zc), .val (.int (Int32.ofNat n1n)), .val (.int (Int32.ofNat n2n)), .val (.int (Int32.ofNat n3n)), .val (.ref a1), .unset, .unset, .unset, .unset, .unset, .unset, .unset, .unset] []))
  refine own_aload X17.here hx (hb hby at_62) rfl rfl (pc' := 64) rfl ?_
  refine own_iconst X17.here hx (hb hby at_64) (v := 4) rfl (pc' := 65) rfl ?_
  refine own_lload_n X17.here hx (hb hby at_65) rfl (pc' := 66) rfl ?_
  refine own_l2i X17.here hx (hb hby at_66) (pc' := 67) rfl ?_
  refine own_i2c X17.here hx (hb hby at_67) (pc' := 68) rfl ?_
  obtain ⟨dd4, edd4⟩ : ∃ c, c = own_c ya.toInt32 := ⟨_, rfl⟩
  have ndd4 : nar .char dd4 = dd4 := by rw [edd4]; exact own_nar _
  have pdd4 : ¬ dd4 < 0 ∧ ¬ (65535 : Int32) < dd4 := by rw [edd4]; exact own_c0 _
  rw [← edd4]
  show own_Go p e below F (T17.setTop (mkF m 68 #[.val (.int le), .val (.long xa), .second, .val (.long ya), .second, .val (.int zc), .val (.int (Int32.ofNat n1n)), .val (.int (Int32.ofNat n2n)), .val (.int (Int32.ofNat n3n)), .val (.ref a1), .unset, .unset, .unset, .unset, .unset, .unset, .unset, .unset] [(.int dd4), (.int ((4 : Int32))), (.ref a1)]))
  obtain ⟨T21, h21, X21, e21, W21, V21, st21⟩ := own_cast X17 hx J19.1 e17 V17 (i := 4) rfl (Nat.le_of_ble_eq_true rfl) (by decide) ndd4 (g := (mkF m 68 #[.val (.int le), .val (.long xa), .second, .val (.long ya), .second, .val (.int zc), .val (.int (Int32.ofNat n1n)), .val (.int (Int32.ofNat n2n)), .val (.int (Int32.ofNat n3n)), .val (.ref a1), .unset, .unset, .unset, .unset, .unset, .unset, .unset, .unset] [(.int dd4), (.int ((4 : Int32))), (.ref a1)])) rfl rfl (hb hby at_68)
  replace V21 : Arv Z h21 a1 k1 .char (9 : Int32) [.int dd0, .int dd1, .int dd2, .int dd3, .int dd4, .int (0 : Int32), .int (0 : Int32), .int (0 : Int32), .int (0 : Int32)] (.int (0 : Int32)) := V21
  have f22 := own_ext_wr f18 W21 ge2
  have J23 := J19.wr W21 (Safe.arv J19.1.alike V17 (by decide))
  have N24 := own_Fr_snoc (sl := ((4 : Int32)).toNatClampNeg) N20 gz_a1
  refine own_on st21 ?_
  show own_Go p e below F (T21.setTop (mkF m 69 #[.val (.int le), .val (.long xa), .second, .val (.long ya), .second, .val (.int zc), .val (.int (Int32.ofNat n1n)), .val (.int (Int32.ofNat n2n)), .val (.int (Int32.ofNat n3n)), .val (.ref a1), .unset, .unset, .unset, .unset, .unset, .unset, .unset, .unset] []))
  refine own_aload X21.here hx (hb hby at_69) rfl rfl (pc' := 71) rfl ?_
  refine own_iconst X21.here hx (hb hby at_71) (v := 5) rfl (pc' := 72) rfl ?_
  refine own_lload_n X21.here hx (hb hby at_72) rfl (pc' := 73) rfl ?_
  refine own_bipush X21.here hx (hb hby at_73) (v := 16) rfl (pc' := 75) rfl ?_
  refine own_lushr X21.here hx (hb hby at_75) (pc' := 76) rfl ?_
  refine own_l2i X21.here hx (hb hby at_76) (pc' := 77) rfl ?_
  refine own_i2c X21.here hx (hb hby at_77) (pc' := 78) rfl ?_
  obtain ⟨dd5, edd5⟩ : ∃ c, c = own_c ((XT.ushrL ya (16 : Int32)).toInt32) := ⟨_, rfl⟩
  have ndd5 : nar .char dd5 = dd5 := by rw [edd5]; exact own_nar _
  have pdd5 : ¬ dd5 < 0 ∧ ¬ (65535 : Int32) < dd5 := by rw [edd5]; exact own_c0 _
  rw [← edd5]
  show own_Go p e below F (T21.setTop (mkF m 78 #[.val (.int le), .val (.long xa), .second, .val (.long ya), .second, .val (.int zc), .val (.int (Int32.ofNat n1n)), .val (.int (Int32.ofNat n2n)), .val (.int (Int32.ofNat n3n)), .val (.ref a1), .unset, .unset, .unset, .unset, .unset, .unset, .unset, .unset] [(.int dd5), (.int ((5 : Int32))), (.ref a1)]))
  obtain ⟨T25, h25, X25, e25, W25, V25, st25⟩ := own_cast X21 hx J23.1 e21 V21 (i := 5) rfl (Nat.le_of_ble_eq_true rfl) (by decide) ndd5 (g := (mkF m 78 #[.val (.int le), .val (.long xa), .second, .val (.long ya), .second, .val (.int zc), .val (.int (Int32.ofNat n1n)), .val (.int (Int32.ofNat n2n)), .val (.int (Int32.ofNat n3n)), .val (.ref a1), .unset, .unset, .unset, .unset, .unset, .unset, .unset, .unset] [(.int dd5), (.int ((5 : Int32))), (.ref a1)])) rfl rfl (hb hby at_78)
  replace V25 : Arv Z h25 a1 k1 .char (9 : Int32) [.int dd0, .int dd1, .int dd2, .int dd3, .int dd4, .int dd5, .int (0 : Int32), .int (0 : Int32), .int (0 : Int32)] (.int (0 : Int32)) := V25
  have f26 := own_ext_wr f22 W25 ge2
  have J27 := J23.wr W25 (Safe.arv J23.1.alike V21 (by decide))
  have N28 := own_Fr_snoc (sl := ((5 : Int32)).toNatClampNeg) N24 gz_a1
  refine own_on st25 ?_
  show own_Go p e below F (T25.setTop (mkF m 79 #[.val (.int le), .val (.long xa), .second, .val (.long ya), .second, .val (.int zc), .val (.int (Int32.ofNat n1n)), .val (.int (Int32.ofNat n2n)), .val (.int (Int32.ofNat n3n)), .val (.ref a1), .unset, .unset, .unset, .unset, .unset, .unset, .unset, .unset] []))
  refine own_aload X25.here hx (hb hby at_79) rfl rfl (pc' := 81) rfl ?_
  refine own_bipush X25.here hx (hb hby at_81) (v := 6) rfl (pc' := 83) rfl ?_
  refine own_lload_n X25.here hx (hb hby at_83) rfl (pc' := 84) rfl ?_
  refine own_bipush X25.here hx (hb hby at_84) (v := 32) rfl (pc' := 86) rfl ?_
  refine own_lushr X25.here hx (hb hby at_86) (pc' := 87) rfl ?_
  refine own_l2i X25.here hx (hb hby at_87) (pc' := 88) rfl ?_
  refine own_i2c X25.here hx (hb hby at_88) (pc' := 89) rfl ?_
  obtain ⟨dd6, edd6⟩ : ∃ c, c = own_c ((XT.ushrL ya (32 : Int32)).toInt32) := ⟨_, rfl⟩
  have ndd6 : nar .char dd6 = dd6 := by rw [edd6]; exact own_nar _
  have pdd6 : ¬ dd6 < 0 ∧ ¬ (65535 : Int32) < dd6 := by rw [edd6]; exact own_c0 _
  rw [← edd6]
  show own_Go p e below F (T25.setTop (mkF m 89 #[.val (.int le), .val (.long xa), .second, .val (.long ya), .second, .val (.int zc), .val (.int (Int32.ofNat n1n)), .val (.int (Int32.ofNat n2n)), .val (.int (Int32.ofNat n3n)), .val (.ref a1), .unset, .unset, .unset, .unset, .unset, .unset, .unset, .unset] [(.int dd6), (.int ((6 : Int32))), (.ref a1)]))
  obtain ⟨T29, h29, X29, e29, W29, V29, st29⟩ := own_cast X25 hx J27.1 e25 V25 (i := 6) rfl (Nat.le_of_ble_eq_true rfl) (by decide) ndd6 (g := (mkF m 89 #[.val (.int le), .val (.long xa), .second, .val (.long ya), .second, .val (.int zc), .val (.int (Int32.ofNat n1n)), .val (.int (Int32.ofNat n2n)), .val (.int (Int32.ofNat n3n)), .val (.ref a1), .unset, .unset, .unset, .unset, .unset, .unset, .unset, .unset] [(.int dd6), (.int ((6 : Int32))), (.ref a1)])) rfl rfl (hb hby at_89)
  replace V29 : Arv Z h29 a1 k1 .char (9 : Int32) [.int dd0, .int dd1, .int dd2, .int dd3, .int dd4, .int dd5, .int dd6, .int (0 : Int32), .int (0 : Int32)] (.int (0 : Int32)) := V29
  have f30 := own_ext_wr f26 W29 ge2
  have J31 := J27.wr W29 (Safe.arv J27.1.alike V25 (by decide))
  have N32 := own_Fr_snoc (sl := ((6 : Int32)).toNatClampNeg) N28 gz_a1
  refine own_on st29 ?_
  show own_Go p e below F (T29.setTop (mkF m 90 #[.val (.int le), .val (.long xa), .second, .val (.long ya), .second, .val (.int zc), .val (.int (Int32.ofNat n1n)), .val (.int (Int32.ofNat n2n)), .val (.int (Int32.ofNat n3n)), .val (.ref a1), .unset, .unset, .unset, .unset, .unset, .unset, .unset, .unset] []))
  refine own_aload X29.here hx (hb hby at_90) rfl rfl (pc' := 92) rfl ?_
  refine own_bipush X29.here hx (hb hby at_92) (v := 7) rfl (pc' := 94) rfl ?_
  refine own_lload_n X29.here hx (hb hby at_94) rfl (pc' := 95) rfl ?_
  refine own_bipush X29.here hx (hb hby at_95) (v := 48) rfl (pc' := 97) rfl ?_
  refine own_lushr X29.here hx (hb hby at_97) (pc' := 98) rfl ?_
  refine own_l2i X29.here hx (hb hby at_98) (pc' := 99) rfl ?_
  refine own_i2c X29.here hx (hb hby at_99) (pc' := 100) rfl ?_
  obtain ⟨dd7, edd7⟩ : ∃ c, c = own_c ((XT.ushrL ya (48 : Int32)).toInt32) := ⟨_, rfl⟩
  have ndd7 : nar .char dd7 = dd7 := by rw [edd7]; exact own_nar _
  have pdd7 : ¬ dd7 < 0 ∧ ¬ (65535 : Int32) < dd7 := by rw [edd7]; exact own_c0 _
  rw [← edd7]
  show own_Go p e below F (T29.setTop (mkF m 100 #[.val (.int le), .val (.long xa), .second, .val (.long ya), .second, .val (.int zc), .val (.int (Int32.ofNat n1n)), .val (.int (Int32.ofNat n2n)), .val (.int (Int32.ofNat n3n)), .val (.ref a1), .unset, .unset, .unset, .unset, .unset, .unset, .unset, .unset] [(.int dd7), (.int ((7 : Int32))), (.ref a1)]))
  obtain ⟨T33, h33, X33, e33, W33, V33, st33⟩ := own_cast X29 hx J31.1 e29 V29 (i := 7) rfl (Nat.le_of_ble_eq_true rfl) (by decide) ndd7 (g := (mkF m 100 #[.val (.int le), .val (.long xa), .second, .val (.long ya), .second, .val (.int zc), .val (.int (Int32.ofNat n1n)), .val (.int (Int32.ofNat n2n)), .val (.int (Int32.ofNat n3n)), .val (.ref a1), .unset, .unset, .unset, .unset, .unset, .unset, .unset, .unset] [(.int dd7), (.int ((7 : Int32))), (.ref a1)])) rfl rfl (hb hby at_100)
  replace V33 : Arv Z h33 a1 k1 .char (9 : Int32) [.int dd0, .int dd1, .int dd2, .int dd3, .int dd4, .int dd5, .int dd6, .int dd7, .int (0 : Int32)] (.int (0 : Int32)) := V33
  have f34 := own_ext_wr f30 W33 ge2
  have J35 := J31.wr W33 (Safe.arv J31.1.alike V29 (by decide))
  have N36 := own_Fr_snoc (sl := ((7 : Int32)).toNatClampNeg) N32 gz_a1
  refine own_on st33 ?_
  show own_Go p e below F (T33.setTop (mkF m 101 #[.val (.int le), .val (.long xa), .second, .val (.long ya), .second, .val (.int zc), .val (.int (Int32.ofNat n1n)), .val (.int (Int32.ofNat n2n)), .val (.int (Int32.ofNat n3n)), .val (.ref a1), .unset, .unset, .unset, .unset, .unset, .unset, .unset, .unset] []))
  refine own_aload X33.here hx (hb hby at_101) rfl rfl (pc' := 103) rfl ?_
  refine own_bipush X33.here hx (hb hby at_103) (v := 8) rfl (pc' := 105) rfl ?_
  refine own_iload X33.here hx (hb hby at_105) rfl (pc' := 107) rfl ?_
  refine own_i2c X33.here hx (hb hby at_107) (pc' := 108) rfl ?_
  obtain ⟨dd8, edd8⟩ : ∃ c, c = own_c zc := ⟨_, rfl⟩
  have ndd8 : nar .char dd8 = dd8 := by rw [edd8]; exact own_nar _
  have pdd8 : ¬ dd8 < 0 ∧ ¬ (65535 : Int32) < dd8 := by rw [edd8]; exact own_c0 _
  rw [← edd8]
  show own_Go p e below F (T33.setTop (mkF m 108 #[.val (.int le), .val (.long xa), .second, .val (.long ya), .second, .val (.int zc), .val (.int (Int32.ofNat n1n)), .val (.int (Int32.ofNat n2n)), .val (.int (Int32.ofNat n3n)), .val (.ref a1), .unset, .unset, .unset, .unset, .unset, .unset, .unset, .unset] [(.int dd8), (.int ((8 : Int32))), (.ref a1)]))
  obtain ⟨T37, h37, X37, e37, W37, V37, st37⟩ := own_cast X33 hx J35.1 e33 V33 (i := 8) rfl (Nat.le_of_ble_eq_true rfl) (by decide) ndd8 (g := (mkF m 108 #[.val (.int le), .val (.long xa), .second, .val (.long ya), .second, .val (.int zc), .val (.int (Int32.ofNat n1n)), .val (.int (Int32.ofNat n2n)), .val (.int (Int32.ofNat n3n)), .val (.ref a1), .unset, .unset, .unset, .unset, .unset, .unset, .unset, .unset] [(.int dd8), (.int ((8 : Int32))), (.ref a1)])) rfl rfl (hb hby at_108)
  replace V37 : Arv Z h37 a1 k1 .char (9 : Int32) [.int dd0, .int dd1, .int dd2, .int dd3, .int dd4, .int dd5, .int dd6, .int dd7, .int dd8] (.int (0 : Int32)) := V37
  have f38 := own_ext_wr f34 W37 ge2
  have J39 := J35.wr W37 (Safe.arv J35.1.alike V33 (by decide))
  have N40 := own_Fr_snoc (sl := ((8 : Int32)).toNatClampNeg) N36 gz_a1
  refine own_on st37 ?_
  show own_Go p e below F (T37.setTop (mkF m 109 #[.val (.int le), .val (.long xa), .second, .val (.long ya), .second, .val (.int zc), .val (.int (Int32.ofNat n1n)), .val (.int (Int32.ofNat n2n)), .val (.int (Int32.ofNat n3n)), .val (.ref a1), .unset, .unset, .unset, .unset, .unset, .unset, .unset, .unset] []))
  obtain ⟨ds, hds⟩ : ∃ u, u = ([dd0, dd1, dd2, dd3, dd4, dd5, dd6, dd7, dd8] : List Int32) := ⟨_, rfl⟩
  have CA : Arv Z h37 a1 k1 .char (9 : Int32) (ds.map Value.int) (.int (0 : Int32)) := by rw [hds]; exact V37
  have hld : ds.length = 9 := by rw [hds]; rfl
  have hpd : ∀ c ∈ ds, ¬ c < 0 ∧ ¬ (65535 : Int32) < c := by
    rw [hds]; intro c hc
    simp only [List.mem_cons, List.not_mem_nil, or_false] at hc
    rcases hc with rfl | rfl | rfl | rfl | rfl | rfl | rfl | rfl | rfl <;> assumption
  obtain ⟨es1l, he1⟩ : ∃ u, u = (ds.drop (0)).take n1n := ⟨_, rfl⟩
  have hl1 : es1l.length = n1n := by rw [he1, List.length_take, List.length_drop, hld]; omega
  obtain ⟨es2l, he2⟩ : ∃ u, u = (ds.drop (n1n)).take n2n := ⟨_, rfl⟩
  have hl2 : es2l.length = n2n := by rw [he2, List.length_take, List.length_drop, hld]; omega
  obtain ⟨es3l, he3⟩ : ∃ u, u = (ds.drop (n1n + n2n)).take n3n := ⟨_, rfl⟩
  have hl3 : es3l.length = n3n := by rw [he3, List.length_take, List.length_drop, hld]; omega
  have hE2 : es1l ++ es2l = ds.take (n1n + n2n) := by rw [he1, he2, List.take_add, List.drop_zero]
  have hE3 : es1l ++ es2l ++ es3l = ds.take (n1n + n2n + n3n) := by rw [hE2, he3, ← List.take_add]
  refine own_aload X37.here hx (hb hby at_109) rfl rfl (pc' := 111) rfl ?_
  refine own_iconst X37.here hx (hb hby at_111) (v := 0) rfl (pc' := 112) rfl ?_
  refine own_iload X37.here hx (hb hby at_112) rfl (pc' := 114) rfl ?_
  show own_Go p e below F (T37.setTop (mkF m 114 #[.val (.int le), .val (.long xa), .second, .val (.long ya), .second, .val (.int zc), .val (.int (Int32.ofNat n1n)), .val (.int (Int32.ofNat n2n)), .val (.int (Int32.ofNat n3n)), .val (.ref a1), .unset, .unset, .unset, .unset, .unset, .unset, .unset, .unset] [(.int (Int32.ofNat n1n)), (.int (Int32.ofNat 0)), (.ref a1)]))
  obtain ⟨_, _, ⟨T41, L41, k41, n41⟩, -, X41, hS41, hG41, ⟨Lc41, hQ41, l41, y41, z41, C41⟩, st41⟩ := callSS X37 hx (y := (⟨"com/example/kerb/kerb/call/AppendOnlyTextSnapshotPinLaw", "piece", "([CII)Ljava/lang/String;"⟩ : MethodName)) J39.2.1 (mvT J39.1 (hw _ (List.mem_of_getElem? (i := 1) rfl))) (mvT J39.1 (hw _ (List.mem_of_getElem? (i := 2) rfl))) (mvT J39.1 (hw _ (List.mem_of_getElem? (i := 3) rfl))) (mvT J39.1 (hw _ (List.mem_of_getElem? (i := 4) rfl))) (by decide) (own_backW (W := 0) (rmPc l Z a0 hw hEL a1 k1 _ ds (0) n1n h37 (own_ext_trans EZ f38) z0 O1 P5 O3 O4 O5 CA hld hpd (by omega) (by omega)) J39.1 (hw _ (List.mem_of_getElem? (i := 4) rfl)) (hw _ (List.mem_of_getElem? (i := 3) rfl)) (by decide) (by decide) hEL J39.ch (fun _ q => nomatch q)) (g := (mkF m 114 #[.val (.int le), .val (.long xa), .second, .val (.long ya), .second, .val (.int zc), .val (.int (Int32.ofNat n1n)), .val (.int (Int32.ofNat n2n)), .val (.int (Int32.ofNat n3n)), .val (.ref a1), .unset, .unset, .unset, .unset, .unset, .unset, .unset, .unset] [(.int (Int32.ofNat n1n)), (.int (Int32.ofNat 0)), (.ref a1)])) rfl (by rw [hml]; rfl) (argsL := [(.ref a1), (.int (Int32.ofNat 0)), (.int (Int32.ofNat n1n))]) (rest := []) (lenOf pdx31 rfl) rfl (by show 2 * 0 + _ ≤ _; exact Nat.le_of_eq rfl) (hb hby at_114) (fun _ _ => ⟨rfl, e37, (Nat.le_of_ble_eq_true rfl), (Nat.le_of_ble_eq_true rfl)⟩)
  dsimp only [Pt.U, Pt.locs, Pt.cells, Pt.slots] at X41 hS41 hG41 l41 y41 z41 C41 st41 hQ41
  rw [l41, y41, z41] at X41
  replace X41 := (show Stand _ _ _ _ (s.setVm T41.vm) _ _ _ _ _ _ _ _ _ from X41)
  have I41 := J39.later hS41 (Nat.le_refl _) (by have q := hG41; rw [(e37 : _ = h37)] at q; exact q) C41
  obtain ⟨x41, rfl, S41, E41, N41⟩ := hQ41
  refine own_to st41 ?_
  show own_Go p e below F (T41.setTop (mkF m 117 #[.val (.int le), .val (.long xa), .second, .val (.long ya), .second, .val (.int zc), .val (.int (Int32.ofNat n1n)), .val (.int (Int32.ofNat n2n)), .val (.int (Int32.ofNat n3n)), .val (.ref a1), .unset, .unset, .unset, .unset, .unset, .unset, .unset, .unset] [(.ref x41)]))
  have f42 := own_ext_trans f38 E41
  have f43 := CA.ext E41
  have N44 := Fr.app N40 N41
  have P41 : own_S Z T41.heap x41 es1l := by rw [he1, ← own_pieces (oo := 0) (n := n1n) hld (by omega) hn1]; exact S41
  refine own_astore X41.here hx (hb hby at_117) rfl (L' := #[.val (.int le), .val (.long xa), .second, .val (.long ya), .second, .val (.int zc), .val (.int (Int32.ofNat n1n)), .val (.int (Int32.ofNat n2n)), .val (.int (Int32.ofNat n3n)), .val (.ref a1), .val (.ref x41), .unset, .unset, .unset, .unset, .unset, .unset, .unset]) rfl (pc' := 119) rfl ?_
  refine own_aload X41.here hx (hb hby at_119) rfl rfl (pc' := 121) rfl ?_
  refine own_iload X41.here hx (hb hby at_121) rfl (pc' := 123) rfl ?_
  refine own_iload X41.here hx (hb hby at_123) rfl (pc' := 125) rfl ?_
  obtain ⟨_, _, ⟨T45, L45, k45, n45⟩, -, X45, hS45, hG45, ⟨Lc45, hQ45, l45, y45, z45, C45⟩, st45⟩ := callSS X41 hx (y := (⟨"com/example/kerb/kerb/call/AppendOnlyTextSnapshotPinLaw", "piece", "([CII)Ljava/lang/String;"⟩ : MethodName)) I41.2.1 (mvT I41.1 (hw _ (List.mem_of_getElem? (i := 1) rfl))) (mvT I41.1 (hw _ (List.mem_of_getElem? (i := 2) rfl))) (mvT I41.1 (hw _ (List.mem_of_getElem? (i := 3) rfl))) (mvT I41.1 (hw _ (List.mem_of_getElem? (i := 4) rfl))) (by decide) (own_backW (W := 0) (rmPc l Z a0 hw hEL a1 k1 _ ds (n1n) n2n T41.heap (own_ext_trans EZ f42) z0 O1 P5 O3 O4 O5 f43 hld hpd (by omega) (by omega)) I41.1 (hw _ (List.mem_of_getElem? (i := 4) rfl)) (hw _ (List.mem_of_getElem? (i := 3) rfl)) (by decide) (by decide) hEL I41.ch (fun _ q => nomatch q)) (g := (mkF m 125 #[.val (.int le), .val (.long xa), .second, .val (.long ya), .second, .val (.int zc), .val (.int (Int32.ofNat n1n)), .val (.int (Int32.ofNat n2n)), .val (.int (Int32.ofNat n3n)), .val (.ref a1), .val (.ref x41), .unset, .unset, .unset, .unset, .unset, .unset, .unset] [(.int (Int32.ofNat n2n)), (.int (Int32.ofNat n1n)), (.ref a1)])) rfl (by rw [hml]; rfl) (argsL := [(.ref a1), (.int (Int32.ofNat n1n)), (.int (Int32.ofNat n2n))]) (rest := []) (lenOf pdx31 rfl) rfl (by show 2 * 0 + _ ≤ _; exact Nat.le_of_eq rfl) (hb hby at_125) (fun _ _ => ⟨rfl, rfl, (Nat.le_of_ble_eq_true rfl), (Nat.le_of_ble_eq_true rfl)⟩)
  dsimp only [Pt.U, Pt.locs, Pt.cells, Pt.slots] at X45 hS45 hG45 l45 y45 z45 C45 st45 hQ45
  rw [l45, y45, z45] at X45
  replace X45 := (show Stand _ _ _ _ (s.setVm T45.vm) _ _ _ _ _ _ _ _ _ from X45)
  have I45 := I41.later hS45 (Nat.le_refl _) (by have q := hG45; rw [(rfl : _ = T41.heap)] at q; exact q) C45
  obtain ⟨x45, rfl, S45, E45, N45⟩ := hQ45
  refine own_to st45 ?_
  show own_Go p e below F (T45.setTop (mkF m 128 #[.val (.int le), .val (.long xa), .second, .val (.long ya), .second, .val (.int zc), .val (.int (Int32.ofNat n1n)), .val (.int (Int32.ofNat n2n)), .val (.int (Int32.ofNat n3n)), .val (.ref a1), .val (.ref x41), .unset, .unset, .unset, .unset, .unset, .unset, .unset] [(.ref x45)]))
  have f46 := own_ext_trans f42 E45
  have f47 := f43.ext E45
  have f48 := P41.ext E45
  have N49 := Fr.app N44 N45
  have P45 : own_S Z T45.heap x45 es2l := by rw [he2, ← own_pieces (oo := n1n) (n := n2n) hld (by omega) hn2]; exact S45
  refine own_astore X45.here hx (hb hby at_128) rfl (L' := #[.val (.int le), .val (.long xa), .second, .val (.long ya), .second, .val (.int zc), .val (.int (Int32.ofNat n1n)), .val (.int (Int32.ofNat n2n)), .val (.int (Int32.ofNat n3n)), .val (.ref a1), .val (.ref x41), .val (.ref x45), .unset, .unset, .unset, .unset, .unset, .unset]) rfl (pc' := 130) rfl ?_
  refine own_aload X45.here hx (hb hby at_130) rfl rfl (pc' := 132) rfl ?_
  refine own_iload X45.here hx (hb hby at_132) rfl (pc' := 134) rfl ?_
  refine own_iload X45.here hx (hb hby at_134) rfl (pc' := 136) rfl ?_
  refine own_iadd X45.here hx (hb hby at_136) (pc' := 137) rfl ?_
  rw [own_ofadd]
  show own_Go p e below F (T45.setTop (mkF m 137 #[.val (.int le), .val (.long xa), .second, .val (.long ya), .second, .val (.int zc), .val (.int (Int32.ofNat n1n)), .val (.int (Int32.ofNat n2n)), .val (.int (Int32.ofNat n3n)), .val (.ref a1), .val (.ref x41), .val (.ref x45), .unset, .unset, .unset, .unset, .unset, .unset] [(.int (Int32.ofNat (n1n + n2n))), (.ref a1)]))
  refine own_iload X45.here hx (hb hby at_137) rfl (pc' := 139) rfl ?_
  obtain ⟨_, _, ⟨T50, L50, k50, n50⟩, -, X50, hS50, hG50, ⟨Lc50, hQ50, l50, y50, z50, C50⟩, st50⟩ := callSS X45 hx (y := (⟨"com/example/kerb/kerb/call/AppendOnlyTextSnapshotPinLaw", "piece", "([CII)Ljava/lang/String;"⟩ : MethodName)) I45.2.1 (mvT I45.1 (hw _ (List.mem_of_getElem? (i := 1) rfl))) (mvT I45.1 (hw _ (List.mem_of_getElem? (i := 2) rfl))) (mvT I45.1 (hw _ (List.mem_of_getElem? (i := 3) rfl))) (mvT I45.1 (hw _ (List.mem_of_getElem? (i := 4) rfl))) (by decide) (own_backW (W := 0) (rmPc l Z a0 hw hEL a1 k1 _ ds (n1n + n2n) n3n T45.heap (own_ext_trans EZ f46) z0 O1 P5 O3 O4 O5 f47 hld hpd (by omega) (by omega)) I45.1 (hw _ (List.mem_of_getElem? (i := 4) rfl)) (hw _ (List.mem_of_getElem? (i := 3) rfl)) (by decide) (by decide) hEL I45.ch (fun _ q => nomatch q)) (g := (mkF m 139 #[.val (.int le), .val (.long xa), .second, .val (.long ya), .second, .val (.int zc), .val (.int (Int32.ofNat n1n)), .val (.int (Int32.ofNat n2n)), .val (.int (Int32.ofNat n3n)), .val (.ref a1), .val (.ref x41), .val (.ref x45), .unset, .unset, .unset, .unset, .unset, .unset] [(.int (Int32.ofNat n3n)), (.int (Int32.ofNat (n1n + n2n))), (.ref a1)])) rfl (by rw [hml]; rfl) (argsL := [(.ref a1), (.int (Int32.ofNat (n1n + n2n))), (.int (Int32.ofNat n3n))]) (rest := []) (lenOf pdx31 rfl) rfl (by show 2 * 0 + _ ≤ _; exact Nat.le_of_eq rfl) (hb hby at_139) (fun _ _ => ⟨rfl, rfl, (Nat.le_of_ble_eq_true rfl), (Nat.le_of_ble_eq_true rfl)⟩)
  dsimp only [Pt.U, Pt.locs, Pt.cells, Pt.slots] at X50 hS50 hG50 l50 y50 z50 C50 st50 hQ50
  rw [l50, y50, z50] at X50
  replace X50 := (show Stand _ _ _ _ (s.setVm T50.vm) _ _ _ _ _ _ _ _ _ from X50)
  have I50 := I45.later hS50 (Nat.le_refl _) (by have q := hG50; rw [(rfl : _ = T45.heap)] at q; exact q) C50
  obtain ⟨x50, rfl, S50, E50, N50⟩ := hQ50
  refine own_to st50 ?_
  show own_Go p e below F (T50.setTop (mkF m 142 #[.val (.int le), .val (.long xa), .second, .val (.long ya), .second, .val (.int zc), .val (.int (Int32.ofNat n1n)), .val (.int (Int32.ofNat n2n)), .val (.int (Int32.ofNat n3n)), .val (.ref a1), .val (.ref x41), .val (.ref x45), .unset, .unset, .unset, .unset, .unset, .unset] [(.ref x50)]))
  have f51 := own_ext_trans f46 E50
  have f52 := f47.ext E50
  have f53 := f48.ext E50
  have f54 := P45.ext E50
  have N55 := Fr.app N49 N50
  have P50 : own_S Z T50.heap x50 es3l := by rw [he3, ← own_pieces (oo := n1n + n2n) (n := n3n) hld (by omega) hn3]; exact S50
  refine own_astore X50.here hx (hb hby at_142) rfl (L' := #[.val (.int le), .val (.long xa), .second, .val (.long ya), .second, .val (.int zc), .val (.int (Int32.ofNat n1n)), .val (.int (Int32.ofNat n2n)), .val (.int (Int32.ofNat n3n)), .val (.ref a1), .val (.ref x41), .val (.ref x45), .val (.ref x50), .unset, .unset, .unset, .unset, .unset]) rfl (pc' := 144) rfl ?_
  refine own_aload X50.here hx (hb hby at_144) rfl rfl (pc' := 146) rfl ?_
  refine own_iload X50.here hx (hb hby at_146) rfl (pc' := 148) rfl ?_
  refine own_iload X50.here hx (hb hby at_148) rfl (pc' := 150) rfl ?_
  refine own_iadd X50.here hx (hb hby at_150) (pc' := 151) rfl ?_
  rw [own_ofadd]
  show own_Go p e below F (T50.setTop (mkF m 151 #[.val (.int le), .val (.long xa), .second, .val (.long ya), .second, .val (.int zc), .val (.int (Int32.ofNat n1n)), .val (.int (Int32.ofNat n2n)), .val (.int (Int32.ofNat n3n)), .val (.ref a1), .val (.ref x41), .val (.ref x45), .val (.ref x50), .unset, .unset, .unset, .unset, .unset] [(.int (Int32.ofNat (n1n + n2n))), (.ref a1)]))
  obtain ⟨_, _, ⟨T56, L56, k56, n56⟩, -, X56, hS56, hG56, ⟨Lc56, hQ56, l56, y56, z56, C56⟩, st56⟩ := callSS X50 hx (y := (⟨"com/example/kerb/kerb/call/AppendOnlyTextSnapshotPinLaw", "prefix", "([CI)Ljava/lang/String;"⟩ : MethodName)) I50.2.1 (mvT I50.1 (hw _ (List.mem_of_getElem? (i := 5) rfl))) (mvT I50.1 (hw _ (List.mem_of_getElem? (i := 6) rfl))) (mvT I50.1 (hw _ (List.mem_of_getElem? (i := 3) rfl))) (mvT I50.1 (hw _ (List.mem_of_getElem? (i := 7) rfl))) (by decide) (own_backW (W := 0) (rmPf l Z a0 hw hEL a1 k1 _ dd0 dd1 dd2 dd3 dd4 dd5 dd6 dd7 dd8 (n1n + n2n) T50.heap (own_ext_trans EZ f51) z0 O1 P5 O3 O4 O5 (by have q := f52; rw [hds] at q; exact q) (by have q := hpd; rw [hds] at q; exact q) (by omega)) I50.1 (hw _ (List.mem_of_getElem? (i := 7) rfl)) (hw _ (List.mem_of_getElem? (i := 3) rfl)) (by decide) (by decide) hEL I50.ch (fun _ q => nomatch q)) (g := (mkF m 151 #[.val (.int le), .val (.long xa), .second, .val (.long ya), .second, .val (.int zc), .val (.int (Int32.ofNat n1n)), .val (.int (Int32.ofNat n2n)), .val (.int (Int32.ofNat n3n)), .val (.ref a1), .val (.ref x41), .val (.ref x45), .val (.ref x50), .unset, .unset, .unset, .unset, .unset] [(.int (Int32.ofNat (n1n + n2n))), (.ref a1)])) rfl (by rw [hml]; rfl) (argsL := [(.ref a1), (.int (Int32.ofNat (n1n + n2n)))]) (rest := []) (lenOf pdx30 rfl) rfl (by show 2 * 0 + _ ≤ _; exact Nat.le_of_eq rfl) (hb hby at_151) (fun _ _ => ⟨rfl, rfl, (Nat.le_of_ble_eq_true rfl), (Nat.le_of_ble_eq_true rfl)⟩)
  dsimp only [Pt.U, Pt.locs, Pt.cells, Pt.slots] at X56 hS56 hG56 l56 y56 z56 C56 st56 hQ56
  rw [l56, y56, z56] at X56
  replace X56 := (show Stand _ _ _ _ (s.setVm T56.vm) _ _ _ _ _ _ _ _ _ from X56)
  have I56 := I50.later hS56 (Nat.le_refl _) (by have q := hG56; rw [(rfl : _ = T50.heap)] at q; exact q) C56
  obtain ⟨x56, rfl, S56, E56, N56⟩ := hQ56
  refine own_to st56 ?_
  show own_Go p e below F (T56.setTop (mkF m 154 #[.val (.int le), .val (.long xa), .second, .val (.long ya), .second, .val (.int zc), .val (.int (Int32.ofNat n1n)), .val (.int (Int32.ofNat n2n)), .val (.int (Int32.ofNat n3n)), .val (.ref a1), .val (.ref x41), .val (.ref x45), .val (.ref x50), .unset, .unset, .unset, .unset, .unset] [(.ref x56)]))
  have f57 := own_ext_trans f51 E56
  have f58 := f52.ext E56
  have f59 := f53.ext E56
  have f60 := f54.ext E56
  have f61 := P50.ext E56
  have N62 := Fr.app N55 N56
  have P56 : own_S Z T56.heap x56 (ds.take (n1n + n2n)) := by rw [hds]; exact S56
  refine own_astore X56.here hx (hb hby at_154) rfl (L' := #[.val (.int le), .val (.long xa), .second, .val (.long ya), .second, .val (.int zc), .val (.int (Int32.ofNat n1n)), .val (.int (Int32.ofNat n2n)), .val (.int (Int32.ofNat n3n)), .val (.ref a1), .val (.ref x41), .val (.ref x45), .val (.ref x50), .val (.ref x56), .unset, .unset, .unset, .unset]) rfl (pc' := 156) rfl ?_
  refine own_aload X56.here hx (hb hby at_156) rfl rfl (pc' := 158) rfl ?_
  refine own_iload X56.here hx (hb hby at_158) rfl (pc' := 160) rfl ?_
  refine own_iload X56.here hx (hb hby at_160) rfl (pc' := 162) rfl ?_
  refine own_iadd X56.here hx (hb hby at_162) (pc' := 163) rfl ?_
  rw [own_ofadd]
  show own_Go p e below F (T56.setTop (mkF m 163 #[.val (.int le), .val (.long xa), .second, .val (.long ya), .second, .val (.int zc), .val (.int (Int32.ofNat n1n)), .val (.int (Int32.ofNat n2n)), .val (.int (Int32.ofNat n3n)), .val (.ref a1), .val (.ref x41), .val (.ref x45), .val (.ref x50), .val (.ref x56), .unset, .unset, .unset, .unset] [(.int (Int32.ofNat (n1n + n2n))), (.ref a1)]))
  refine own_iload X56.here hx (hb hby at_163) rfl (pc' := 165) rfl ?_
  refine own_iadd X56.here hx (hb hby at_165) (pc' := 166) rfl ?_
  rw [own_ofadd]
  show own_Go p e below F (T56.setTop (mkF m 166 #[.val (.int le), .val (.long xa), .second, .val (.long ya), .second, .val (.int zc), .val (.int (Int32.ofNat n1n)), .val (.int (Int32.ofNat n2n)), .val (.int (Int32.ofNat n3n)), .val (.ref a1), .val (.ref x41), .val (.ref x45), .val (.ref x50), .val (.ref x56), .unset, .unset, .unset, .unset] [(.int (Int32.ofNat (n1n + n2n + n3n))), (.ref a1)]))
  obtain ⟨_, _, ⟨T63, L63, k63, n63⟩, -, X63, hS63, hG63, ⟨Lc63, hQ63, l63, y63, z63, C63⟩, st63⟩ := callSS X56 hx (y := (⟨"com/example/kerb/kerb/call/AppendOnlyTextSnapshotPinLaw", "prefix", "([CI)Ljava/lang/String;"⟩ : MethodName)) I56.2.1 (mvT I56.1 (hw _ (List.mem_of_getElem? (i := 5) rfl))) (mvT I56.1 (hw _ (List.mem_of_getElem? (i := 6) rfl))) (mvT I56.1 (hw _ (List.mem_of_getElem? (i := 3) rfl))) (mvT I56.1 (hw _ (List.mem_of_getElem? (i := 7) rfl))) (by decide) (own_backW (W := 0) (rmPf l Z a0 hw hEL a1 k1 _ dd0 dd1 dd2 dd3 dd4 dd5 dd6 dd7 dd8 (n1n + n2n + n3n) T56.heap (own_ext_trans EZ f57) z0 O1 P5 O3 O4 O5 (by have q := f58; rw [hds] at q; exact q) (by have q := hpd; rw [hds] at q; exact q) (by omega)) I56.1 (hw _ (List.mem_of_getElem? (i := 7) rfl)) (hw _ (List.mem_of_getElem? (i := 3) rfl)) (by decide) (by decide) hEL I56.ch (fun _ q => nomatch q)) (g := (mkF m 166 #[.val (.int le), .val (.long xa), .second, .val (.long ya), .second, .val (.int zc), .val (.int (Int32.ofNat n1n)), .val (.int (Int32.ofNat n2n)), .val (.int (Int32.ofNat n3n)), .val (.ref a1), .val (.ref x41), .val (.ref x45), .val (.ref x50), .val (.ref x56), .unset, .unset, .unset, .unset] [(.int (Int32.ofNat (n1n + n2n + n3n))), (.ref a1)])) rfl (by rw [hml]; rfl) (argsL := [(.ref a1), (.int (Int32.ofNat (n1n + n2n + n3n)))]) (rest := []) (lenOf pdx30 rfl) rfl (by show 2 * 0 + _ ≤ _; exact Nat.le_of_eq rfl) (hb hby at_166) (fun _ _ => ⟨rfl, rfl, (Nat.le_of_ble_eq_true rfl), (Nat.le_of_ble_eq_true rfl)⟩)
  dsimp only [Pt.U, Pt.locs, Pt.cells, Pt.slots] at X63 hS63 hG63 l63 y63 z63 C63 st63 hQ63
  rw [l63, y63, z63] at X63
  replace X63 := (show Stand _ _ _ _ (s.setVm T63.vm) _ _ _ _ _ _ _ _ _ from X63)
  have I63 := I56.later hS63 (Nat.le_refl _) (by have q := hG63; rw [(rfl : _ = T56.heap)] at q; exact q) C63
  obtain ⟨x63, rfl, S63, E63, N63⟩ := hQ63
  refine own_to st63 ?_
  show own_Go p e below F (T63.setTop (mkF m 169 #[.val (.int le), .val (.long xa), .second, .val (.long ya), .second, .val (.int zc), .val (.int (Int32.ofNat n1n)), .val (.int (Int32.ofNat n2n)), .val (.int (Int32.ofNat n3n)), .val (.ref a1), .val (.ref x41), .val (.ref x45), .val (.ref x50), .val (.ref x56), .unset, .unset, .unset, .unset] [(.ref x63)]))
  have f64 := own_ext_trans f57 E63
  have f65 := f58.ext E63
  have f66 := f59.ext E63
  have f67 := f60.ext E63
  have f68 := f61.ext E63
  have f69 := P56.ext E63
  have N70 := Fr.app N62 N63
  have P63 : own_S Z T63.heap x63 (ds.take (n1n + n2n + n3n)) := by rw [hds]; exact S63
  refine own_astore X63.here hx (hb hby at_169) rfl (L' := #[.val (.int le), .val (.long xa), .second, .val (.long ya), .second, .val (.int zc), .val (.int (Int32.ofNat n1n)), .val (.int (Int32.ofNat n2n)), .val (.int (Int32.ofNat n3n)), .val (.ref a1), .val (.ref x41), .val (.ref x45), .val (.ref x50), .val (.ref x56), .val (.ref x63), .unset, .unset, .unset]) rfl (pc' := 171) rfl ?_
  obtain ⟨T71, h71, X71, e71, E71, A71, D71, -, st71⟩ := newO X63 hx I63.1 I63.2.1 (hw _ (List.mem_of_getElem? (i := 29) rfl)) (hw _ (List.mem_of_getElem? (i := 30) rfl)) (hw _ (List.mem_of_getElem? (i := 31) rfl)) rfl (g := (mkF m 171 #[.val (.int le), .val (.long xa), .second, .val (.long ya), .second, .val (.int zc), .val (.int (Int32.ofNat n1n)), .val (.int (Int32.ofNat n2n)), .val (.int (Int32.ofNat n3n)), .val (.ref a1), .val (.ref x41), .val (.ref x45), .val (.ref x50), .val (.ref x56), .val (.ref x63), .unset, .unset, .unset] [])) rfl (hb hby at_171) (by decide) (by decide)
  obtain ⟨a71, g71⟩ : ∃ z, z = T63.heap.size := ⟨_, rfl⟩
  rw [← g71] at A71 D71 st71
  have ne72 : a1 ≠ a71 := Nat.ne_of_lt (by rw [g71]; exact f65.lt)
  have ge73 : h0.size ≤ a71 := by rw [g71]; exact f64.1
  have f74 := own_ext_trans f64 E71
  have f75 := f65.ext E71
  have f76 := f66.ext E71
  have f77 := f67.ext E71
  have f78 := f68.ext E71
  have f79 := f69.ext E71
  have f80 := P63.ext E71
  have J81 := I63.ext E71
  have F71_0 : Fld Z h71 a71 "com/example/kerb/kerb/call/AppendOnlyText" "chars" "[C" (.null) := (D71 (Or.inl (hw _ (List.mem_of_getElem? (i := 39) rfl))) (ty := .array .char) (by decide))
  have F71_1 : Fld Z h71 a71 "com/example/kerb/kerb/call/AppendOnlyText" "length" "I" (.int ((0 : Int32))) := (D71 (Or.inl (hw _ (List.mem_of_getElem? (i := 58) rfl))) (ty := .int) (by decide))
  refine own_on st71 ?_
  show own_Go p e below F (T71.setTop (mkF m 174 #[.val (.int le), .val (.long xa), .second, .val (.long ya), .second, .val (.int zc), .val (.int (Int32.ofNat n1n)), .val (.int (Int32.ofNat n2n)), .val (.int (Int32.ofNat n3n)), .val (.ref a1), .val (.ref x41), .val (.ref x45), .val (.ref x50), .val (.ref x56), .val (.ref x63), .unset, .unset, .unset] [(.ref a71)]))
  have gz_a71 : Z.heap.size ≤ a71 := Nat.le_trans EZ.1 ge73
  refine own_dup X71.here hx (hb hby at_174) rfl (pc' := 175) rfl ?_
  obtain ⟨_, _, ⟨T82, L82, k82, n82⟩, -, X82, ⟨Lc82, hQ82, l82, y82, z82⟩, st82⟩ := X71.specialBack hx (y := (⟨"com/example/kerb/kerb/call/AppendOnlyText", "<init>", "()V"⟩ : MethodName)) rfl J81.2.1 (mvT J81.1 (hw _ (List.mem_of_getElem? (i := 32) rfl))) (mvT J81.1 (hw _ (List.mem_of_getElem? (i := 33) rfl))) (mvT J81.1 (hw _ (List.mem_of_getElem? (i := 34) rfl))) (by decide) (backOf (W := 1) (rmAI l Z a0 hw a71 h71 (own_ext_trans EZ f74) nn O6 gz_a71 A71 F71_0 F71_1) J81.1 (hw _ (List.mem_of_getElem? (i := 34) rfl)) (hw _ (List.mem_of_getElem? (i := 31) rfl)) (by decide) (by decide)) (g := (mkF m 175 #[.val (.int le), .val (.long xa), .second, .val (.long ya), .second, .val (.int zc), .val (.int (Int32.ofNat n1n)), .val (.int (Int32.ofNat n2n)), .val (.int (Int32.ofNat n3n)), .val (.ref a1), .val (.ref x41), .val (.ref x45), .val (.ref x50), .val (.ref x56), .val (.ref x63), .unset, .unset, .unset] [(.ref a71), (.ref a71)])) rfl (by rw [hml]; rfl) (Steps.refl _) (a := a71) (argsL := []) (rest := [(.ref a71)]) (lenOf pdx25 rfl) rfl (by show 2 * 0 + _ ≤ _; exact Nat.le_of_eq rfl) (hb hby at_175) (fun _ _ => ⟨rfl, e71, (Nat.le_of_ble_eq_true rfl), (Nat.le_of_ble_eq_true rfl)⟩)
  dsimp only [Pt.U, Pt.locs, Pt.cells, Pt.slots] at X82 l82 y82 z82 st82 hQ82
  rw [l82, y82, z82] at X82
  obtain ⟨rfl, N82, K82, oa82⟩ := hQ82
  refine own_to st82 ?_
  show own_Go p e below F (T82.setTop (mkF m 178 #[.val (.int le), .val (.long xa), .second, .val (.long ya), .second, .val (.int zc), .val (.int (Int32.ofNat n1n)), .val (.int (Int32.ofNat n2n)), .val (.int (Int32.ofNat n3n)), .val (.ref a1), .val (.ref x41), .val (.ref x45), .val (.ref x50), .val (.ref x56), .val (.ref x63), .unset, .unset, .unset] [(.ref a71)]))
  have f83 := own_ext_keep f74 K82 (fun y hy => by simp only [List.mem_cons, List.not_mem_nil, or_false] at hy; rcases hy with rfl <;> assumption)
  have J84 := J81.keep K82 (sfS (Safe.exa J81.1.alike A71 (by decide) (by decide)) sf0)
  have N85 := Fr.app N70 N82
  have f86 := own_SkT f76 A71 K82 (by decide) (hw _ (List.mem_of_getElem? (i := 30) rfl))
  have f87 := own_SkT f77 A71 K82 (by decide) (hw _ (List.mem_of_getElem? (i := 30) rfl))
  have f88 := own_SkT f78 A71 K82 (by decide) (hw _ (List.mem_of_getElem? (i := 30) rfl))
  have f89 := own_SkT f79 A71 K82 (by decide) (hw _ (List.mem_of_getElem? (i := 30) rfl))
  have f90 := own_SkT f80 A71 K82 (by decide) (hw _ (List.mem_of_getElem? (i := 30) rfl))
  have AN0 : Arv Z T82.heap nn kn .char (Int32.ofNat ([] : List Int32).length) (([] : List Int32).map Value.int) (.int 0) := AN.ext (own_ext_trans EZ f83)
  refine own_astore X82.here hx (hb hby at_178) rfl (L' := #[.val (.int le), .val (.long xa), .second, .val (.long ya), .second, .val (.int zc), .val (.int (Int32.ofNat n1n)), .val (.int (Int32.ofNat n2n)), .val (.int (Int32.ofNat n3n)), .val (.ref a1), .val (.ref x41), .val (.ref x45), .val (.ref x50), .val (.ref x56), .val (.ref x63), .val (.ref a71), .unset, .unset]) rfl (pc' := 180) rfl ?_
  refine own_aload X82.here hx (hb hby at_180) rfl rfl (pc' := 182) rfl ?_
  refine own_aload X82.here hx (hb hby at_182) rfl rfl (pc' := 184) rfl ?_
  obtain ⟨cq91, kq91, qa91, qb91, qc91⟩ := isOf J84.1 rfl (oa82).1
  obtain ⟨_, _, ⟨T91, L91, k91, n91⟩, -, X91, ⟨Lc91, hQ91, l91, y91, z91⟩, st91⟩ := X82.virtualBack hx (y := (⟨"com/example/kerb/kerb/call/AppendOnlyText", "append", "(Ljava/lang/String;)V"⟩ : MethodName)) (z := (⟨"com/example/kerb/kerb/call/AppendOnlyText", "append", "(Ljava/lang/String;)V"⟩ : MethodName)) J84.2.1 (mvT J84.1 (hw _ (List.mem_of_getElem? (i := 40) rfl))) (mvT J84.1 (hw _ (List.mem_of_getElem? (i := 41) rfl))) (notFace_of_selects (args := #[]) (mvT J84.1 (hw _ (List.mem_of_getElem? (i := 43) rfl)))) (mvT J84.1 (hw _ (List.mem_of_getElem? (i := 43) rfl))) (mvT J84.1 (hw _ (List.mem_of_getElem? (i := 42) rfl))) (by decide) (backOf (W := 0) (rmAx l Z a0 hw a71 x41 nn kn ([] : List Int32) es1l (0) (.int 0) T82.heap (own_ext_trans EZ f83) z0 O1 P5 fm O2 rf O3 O4 O5 f86 oa82 AN0 gz_a71 (Nat.le_refl 0) (by first | omega | decide) (fun _ q => nomatch q) (by first | omega | (simp; omega)) (fun q => Nat.le_trans EZ.1 ((fun q => absurd q (Nat.lt_irrefl 0)) q))) J84.1 (hw _ (List.mem_of_getElem? (i := 44) rfl)) (hw _ (List.mem_of_getElem? (i := 31) rfl)) (by decide) (by decide)) qa91 qc91 (g := (mkF m 184 #[.val (.int le), .val (.long xa), .second, .val (.long ya), .second, .val (.int zc), .val (.int (Int32.ofNat n1n)), .val (.int (Int32.ofNat n2n)), .val (.int (Int32.ofNat n3n)), .val (.ref a1), .val (.ref x41), .val (.ref x45), .val (.ref x50), .val (.ref x56), .val (.ref x63), .val (.ref a71), .unset, .unset] [(.ref x41), (.ref a71)])) rfl (by rw [hml]; rfl) (Steps.refl _) (argsL := [(.ref x41)]) (rest := []) (lenOf pdx26 rfl) rfl (by show 2 * 0 + _ ≤ _; exact Nat.le_of_eq rfl) (hb hby at_184) (fun _ _ => ⟨rfl, rfl, (Nat.le_of_ble_eq_true rfl), (Nat.le_of_ble_eq_true rfl)⟩)
  dsimp only [Pt.U, Pt.locs, Pt.cells, Pt.slots] at X91 l91 y91 z91 st91 hQ91
  rw [l91, y91, z91] at X91
  obtain ⟨rfl, br91, kb91, cb91, co91, N91, K91, gB91, oa91, va91, tk91, bp91, le91, lm91, or91, vo91, lo91, to91, bo91⟩ := hQ91
  refine own_to st91 ?_
  show own_Go p e below F (T91.setTop (mkF m 187 #[.val (.int le), .val (.long xa), .second, .val (.long ya), .second, .val (.int zc), .val (.int (Int32.ofNat n1n)), .val (.int (Int32.ofNat n2n)), .val (.int (Int32.ofNat n3n)), .val (.ref a1), .val (.ref x41), .val (.ref x45), .val (.ref x50), .val (.ref x56), .val (.ref x63), .val (.ref a71), .unset, .unset] []))
  have J92 := J84.keep K91 (sfS (Safe.arv J84.1.alike AN0 (by decide)) (sfS (Safe.exa J84.1.alike (oa82).1 (by decide) (by decide)) sf0))
  have N93 := Fr.app N85 N91
  have eL91 : (0 : Nat) + es1l.length = n1n := by omega
  rw [eL91] at oa91 tk91 le91 lm91
  replace lm91 : cb91.length ≤ n1n := by have q := lm91; simp only [List.length_nil] at q; omega
  have f94 := gB91 h0 f83 ge73 (fun q => absurd q (Nat.lt_irrefl 0))
  have f95 := own_SkA f86 (oa82).1 AN0 K91 (by decide) (hw _ (List.mem_of_getElem? (i := 30) rfl)) (hw _ own_wiS)
  have f96 := own_SkA f87 (oa82).1 AN0 K91 (by decide) (hw _ (List.mem_of_getElem? (i := 30) rfl)) (hw _ own_wiS)
  have f97 := own_SkA f88 (oa82).1 AN0 K91 (by decide) (hw _ (List.mem_of_getElem? (i := 30) rfl)) (hw _ own_wiS)
  have f98 := own_SkA f89 (oa82).1 AN0 K91 (by decide) (hw _ (List.mem_of_getElem? (i := 30) rfl)) (hw _ own_wiS)
  have f99 := own_SkA f90 (oa82).1 AN0 K91 (by decide) (hw _ (List.mem_of_getElem? (i := 30) rfl)) (hw _ own_wiS)
  have hT91 : cb91.take (n1n) = es1l := by rw [tk91, show ([] : List Int32).take 0 = [] from rfl]; rfl
  have gh91 : 0 < cb91.length → h0.size ≤ br91 := by
    rcases or91 with ⟨q1, q2⟩ | q
    · intro z; rw [q1]; exact (fun q => absurd q (Nat.lt_irrefl 0)) (by rw [q2] at z; exact z)
    · exact fun _ => Nat.le_trans f83.1 q
  refine own_aload X91.here hx (hb hby at_187) rfl rfl (pc' := 189) rfl ?_
  refine own_aload X91.here hx (hb hby at_189) rfl rfl (pc' := 191) rfl ?_
  obtain ⟨cq102, kq102, qa102, qb102, qc102⟩ := isOf J92.1 rfl (oa91).1
  obtain ⟨_, _, ⟨T102, L102, k102, n102⟩, -, X102, ⟨Lc102, hQ102, l102, y102, z102⟩, st102⟩ := X91.virtualBack hx (y := (⟨"com/example/kerb/kerb/call/AppendOnlyText", "append", "(Ljava/lang/String;)V"⟩ : MethodName)) (z := (⟨"com/example/kerb/kerb/call/AppendOnlyText", "append", "(Ljava/lang/String;)V"⟩ : MethodName)) J92.2.1 (mvT J92.1 (hw _ (List.mem_of_getElem? (i := 40) rfl))) (mvT J92.1 (hw _ (List.mem_of_getElem? (i := 41) rfl))) (notFace_of_selects (args := #[]) (mvT J92.1 (hw _ (List.mem_of_getElem? (i := 43) rfl)))) (mvT J92.1 (hw _ (List.mem_of_getElem? (i := 43) rfl))) (mvT J92.1 (hw _ (List.mem_of_getElem? (i := 42) rfl))) (by decide) (backOf (W := 0) (rmAx l Z a0 hw a71 x45 br91 kb91 cb91 es2l (n1n) (.int 0) T91.heap (own_ext_trans EZ f94) z0 O1 P5 fm O2 rf O3 O4 O5 f96 oa91 va91 gz_a71 le91 (by first | omega | decide) bp91 (by first | omega | (simp; omega)) (fun q => Nat.le_trans EZ.1 (gh91 q))) J92.1 (hw _ (List.mem_of_getElem? (i := 44) rfl)) (hw _ (List.mem_of_getElem? (i := 31) rfl)) (by decide) (by decide)) qa102 qc102 (g := (mkF m 191 #[.val (.int le), .val (.long xa), .second, .val (.long ya), .second, .val (.int zc), .val (.int (Int32.ofNat n1n)), .val (.int (Int32.ofNat n2n)), .val (.int (Int32.ofNat n3n)), .val (.ref a1), .val (.ref x41), .val (.ref x45), .val (.ref x50), .val (.ref x56), .val (.ref x63), .val (.ref a71), .unset, .unset] [(.ref x45), (.ref a71)])) rfl (by rw [hml]; rfl) (Steps.refl _) (argsL := [(.ref x45)]) (rest := []) (lenOf pdx26 rfl) rfl (by show 2 * 0 + _ ≤ _; exact Nat.le_of_eq rfl) (hb hby at_191) (fun _ _ => ⟨rfl, rfl, (Nat.le_of_ble_eq_true rfl), (Nat.le_of_ble_eq_true rfl)⟩)
  dsimp only [Pt.U, Pt.locs, Pt.cells, Pt.slots] at X102 l102 y102 z102 st102 hQ102
  rw [l102, y102, z102] at X102
  obtain ⟨rfl, br102, kb102, cb102, co102, N102, K102, gB102, oa102, va102, tk102, bp102, le102, lm102, or102, vo102, lo102, to102, bo102⟩ := hQ102
  refine own_to st102 ?_
  show own_Go p e below F (T102.setTop (mkF m 194 #[.val (.int le), .val (.long xa), .second, .val (.long ya), .second, .val (.int zc), .val (.int (Int32.ofNat n1n)), .val (.int (Int32.ofNat n2n)), .val (.int (Int32.ofNat n3n)), .val (.ref a1), .val (.ref x41), .val (.ref x45), .val (.ref x50), .val (.ref x56), .val (.ref x63), .val (.ref a71), .unset, .unset] []))
  have J103 := J92.keep K102 (sfS (Safe.arv J92.1.alike va91 (by decide)) (sfS (Safe.exa J92.1.alike (oa91).1 (by decide) (by decide)) sf0))
  have N104 := Fr.app N93 N102
  have eL102 : (n1n) + es2l.length = n1n + n2n := by omega
  rw [eL102] at oa102 tk102 le102 lm102
  have f105 := gB102 h0 f94 ge73 gh91
  have f106 := own_SkA f95 (oa91).1 va91 K102 (by decide) (hw _ (List.mem_of_getElem? (i := 30) rfl)) (hw _ own_wiS)
  have f107 := own_SkA f96 (oa91).1 va91 K102 (by decide) (hw _ (List.mem_of_getElem? (i := 30) rfl)) (hw _ own_wiS)
  have f108 := own_SkA f97 (oa91).1 va91 K102 (by decide) (hw _ (List.mem_of_getElem? (i := 30) rfl)) (hw _ own_wiS)
  have f109 := own_SkA f98 (oa91).1 va91 K102 (by decide) (hw _ (List.mem_of_getElem? (i := 30) rfl)) (hw _ own_wiS)
  have f110 := own_SkA f99 (oa91).1 va91 K102 (by decide) (hw _ (List.mem_of_getElem? (i := 30) rfl)) (hw _ own_wiS)
  have hT102 : cb102.take (n1n + n2n) = es1l ++ es2l := by rw [tk102, hT91]
  have gh102 : 0 < cb102.length → h0.size ≤ br102 := by
    rcases or102 with ⟨q1, q2⟩ | q
    · intro z; rw [q1]; exact gh91 (by rw [q2] at z; exact z)
    · exact fun _ => Nat.le_trans f94.1 q
  refine own_aload X102.here hx (hb hby at_194) rfl rfl (pc' := 196) rfl ?_
  rcases Nat.eq_zero_or_pos (n1n + n2n) with z12 | z12
  · obtain ⟨cq114, kq114, qa114, qb114, qc114⟩ := isOf (s := s.setVm T63.vm) J103.1 rfl (oa102).1
    obtain ⟨_, _, ⟨T114, L114, k114, n114⟩, -, X114, hS114, hG114, ⟨Lc114, hQ114, l114, y114, z114, C114⟩, st114⟩ := X102.virtualBackS hx (y := (⟨"com/example/kerb/kerb/call/AppendOnlyText", "snapshot", "()Ljava/lang/CharSequence;"⟩ : MethodName)) (z := (⟨"com/example/kerb/kerb/call/AppendOnlyText", "snapshot", "()Ljava/lang/CharSequence;"⟩ : MethodName)) J103.2.1 (mvT J103.1 (hw _ (List.mem_of_getElem? (i := 91) rfl))) (mvT J103.1 (hw _ (List.mem_of_getElem? (i := 92) rfl))) (notFace_of_selects (args := #[]) (mvT J103.1 (hw _ (List.mem_of_getElem? (i := 94) rfl)))) (mvT J103.1 (hw _ (List.mem_of_getElem? (i := 94) rfl))) (mvT J103.1 (hw _ (List.mem_of_getElem? (i := 93) rfl))) (by decide) (own_backW (W := 0) (rmN0 l Z a0 hw hEL a71 br102 T102.heap (by have q := oa102; rw [z12] at q; exact q)) J103.1 (hw _ (List.mem_of_getElem? (i := 95) rfl)) (hw _ (List.mem_of_getElem? (i := 31) rfl)) (by decide) (by decide) hEL J103.ch (fun _ q => nomatch q)) qa114 qc114 (g := (mkF m 196 #[.val (.int le), .val (.long xa), .second, .val (.long ya), .second, .val (.int zc), .val (.int (Int32.ofNat n1n)), .val (.int (Int32.ofNat n2n)), .val (.int (Int32.ofNat n3n)), .val (.ref a1), .val (.ref x41), .val (.ref x45), .val (.ref x50), .val (.ref x56), .val (.ref x63), .val (.ref a71), .unset, .unset] [(.ref a71)])) rfl (by rw [hml]; rfl) (Steps.refl _) (argsL := []) (rest := []) (lenOf pdx27 rfl) rfl (by show 2 * 0 + _ ≤ _; exact Nat.le_of_eq rfl) (hb hby at_196) (fun _ _ => ⟨rfl, rfl, (Nat.le_of_ble_eq_true rfl), (Nat.le_of_ble_eq_true rfl)⟩)
    dsimp only [Pt.U, Pt.locs, Pt.cells, Pt.slots] at X114 hS114 hG114 l114 y114 z114 C114 st114 hQ114
    rw [l114, y114, z114] at X114
    replace X114 := (show Stand _ _ _ _ (s.setVm T114.vm) _ _ _ _ _ _ _ _ _ from X114)
    have I114 := J103.later hS114 (Nat.le_refl _) (by have q := hG114; rw [(rfl : _ = T102.heap)] at q; exact q) C114
    obtain ⟨x114, rfl, S114, E114, N114⟩ := hQ114
    refine own_to st114 ?_
    show own_Go p e below F (T114.setTop (mkF m 199 #[.val (.int le), .val (.long xa), .second, .val (.long ya), .second, .val (.int zc), .val (.int (Int32.ofNat n1n)), .val (.int (Int32.ofNat n2n)), .val (.int (Int32.ofNat n3n)), .val (.ref a1), .val (.ref x41), .val (.ref x45), .val (.ref x50), .val (.ref x56), .val (.ref x63), .val (.ref a71), .unset, .unset] [(.ref x114)]))
    have f115 := own_ext_trans f105 E114
    have f116 := f106.ext E114
    have f117 := f107.ext E114
    have f118 := f108.ext E114
    have f119 := f109.ext E114
    have f120 := f110.ext E114
    have f121 := oa102.ext E114
    have f122 := va102.ext E114
    have f123 := vo102.ext E114
    have N124 := Fr.app N104 N114
    refine own_astore X114.here hx (hb hby at_199) rfl (L' := #[.val (.int le), .val (.long xa), .second, .val (.long ya), .second, .val (.int zc), .val (.int (Int32.ofNat n1n)), .val (.int (Int32.ofNat n2n)), .val (.int (Int32.ofNat n3n)), .val (.ref a1), .val (.ref x41), .val (.ref x45), .val (.ref x50), .val (.ref x56), .val (.ref x63), .val (.ref a71), .val (.ref x114), .unset]) rfl (pc' := 201) rfl ?_
    refine own_aload X114.here hx (hb hby at_201) rfl rfl (pc' := 203) rfl ?_
    refine own_aload X114.here hx (hb hby at_203) rfl rfl (pc' := 205) rfl ?_
    obtain ⟨cq125, kq125, qa125, qb125, qc125⟩ := isOf I114.1 rfl (f121).1
    obtain ⟨_, _, ⟨T125, L125, k125, n125⟩, -, X125, ⟨Lc125, hQ125, l125, y125, z125⟩, st125⟩ := X114.virtualBack hx (y := (⟨"com/example/kerb/kerb/call/AppendOnlyText", "append", "(Ljava/lang/String;)V"⟩ : MethodName)) (z := (⟨"com/example/kerb/kerb/call/AppendOnlyText", "append", "(Ljava/lang/String;)V"⟩ : MethodName)) I114.2.1 (mvT I114.1 (hw _ (List.mem_of_getElem? (i := 40) rfl))) (mvT I114.1 (hw _ (List.mem_of_getElem? (i := 41) rfl))) (notFace_of_selects (args := #[]) (mvT I114.1 (hw _ (List.mem_of_getElem? (i := 43) rfl)))) (mvT I114.1 (hw _ (List.mem_of_getElem? (i := 43) rfl))) (mvT I114.1 (hw _ (List.mem_of_getElem? (i := 42) rfl))) (by decide) (backOf (W := 0) (rmAx l Z a0 hw a71 x50 br102 kb102 cb102 es3l (n1n + n2n) (.int 0) T114.heap (own_ext_trans EZ f115) z0 O1 P5 fm O2 rf O3 O4 O5 f118 f121 f122 gz_a71 le102 (by first | omega | decide) bp102 (by first | omega | (simp; omega)) (fun q => Nat.le_trans EZ.1 (gh102 q))) I114.1 (hw _ (List.mem_of_getElem? (i := 44) rfl)) (hw _ (List.mem_of_getElem? (i := 31) rfl)) (by decide) (by decide)) qa125 qc125 (g := (mkF m 205 #[.val (.int le), .val (.long xa), .second, .val (.long ya), .second, .val (.int zc), .val (.int (Int32.ofNat n1n)), .val (.int (Int32.ofNat n2n)), .val (.int (Int32.ofNat n3n)), .val (.ref a1), .val (.ref x41), .val (.ref x45), .val (.ref x50), .val (.ref x56), .val (.ref x63), .val (.ref a71), .val (.ref x114), .unset] [(.ref x50), (.ref a71)])) rfl (by rw [hml]; rfl) (Steps.refl _) (argsL := [(.ref x50)]) (rest := []) (lenOf pdx26 rfl) rfl (by show 2 * 0 + _ ≤ _; exact Nat.le_of_eq rfl) (hb hby at_205) (fun _ _ => ⟨rfl, rfl, (Nat.le_of_ble_eq_true rfl), (Nat.le_of_ble_eq_true rfl)⟩)
    dsimp only [Pt.U, Pt.locs, Pt.cells, Pt.slots] at X125 l125 y125 z125 st125 hQ125
    rw [l125, y125, z125] at X125
    obtain ⟨rfl, br125, kb125, cb125, co125, N125, K125, gB125, oa125, va125, tk125, bp125, le125, lm125, or125, vo125, lo125, to125, bo125⟩ := hQ125
    refine own_to st125 ?_
    show own_Go p e below F (T125.setTop (mkF m 208 #[.val (.int le), .val (.long xa), .second, .val (.long ya), .second, .val (.int zc), .val (.int (Int32.ofNat n1n)), .val (.int (Int32.ofNat n2n)), .val (.int (Int32.ofNat n3n)), .val (.ref a1), .val (.ref x41), .val (.ref x45), .val (.ref x50), .val (.ref x56), .val (.ref x63), .val (.ref a71), .val (.ref x114), .unset] []))
    have J126 := I114.keep K125 (sfS (Safe.arv I114.1.alike f122 (by decide)) (sfS (Safe.exa I114.1.alike (f121).1 (by decide) (by decide)) sf0))
    have N127 := Fr.app N124 N125
    have eL125 : (n1n + n2n) + es3l.length = n1n + n2n + n3n := by omega
    rw [eL125] at oa125 tk125 le125 lm125
    have f128 := gB125 h0 f115 ge73 gh102
    have f129 := own_SkA f116 (f121).1 f122 K125 (by decide) (hw _ (List.mem_of_getElem? (i := 30) rfl)) (hw _ own_wiS)
    have f130 := own_SkA f117 (f121).1 f122 K125 (by decide) (hw _ (List.mem_of_getElem? (i := 30) rfl)) (hw _ own_wiS)
    have f131 := own_SkA f118 (f121).1 f122 K125 (by decide) (hw _ (List.mem_of_getElem? (i := 30) rfl)) (hw _ own_wiS)
    have f132 := own_SkA f119 (f121).1 f122 K125 (by decide) (hw _ (List.mem_of_getElem? (i := 30) rfl)) (hw _ own_wiS)
    have f133 := own_SkA f120 (f121).1 f122 K125 (by decide) (hw _ (List.mem_of_getElem? (i := 30) rfl)) (hw _ own_wiS)
    have f137 := own_SkA S114 (f121).1 f122 K125 (by decide) (hw _ (List.mem_of_getElem? (i := 30) rfl)) (hw _ own_wiS)
    have hT125 : cb125.take (n1n + n2n + n3n) = es1l ++ es2l ++ es3l := by rw [tk125, hT102]
    have gh125 : 0 < cb125.length → h0.size ≤ br125 := by
      rcases or125 with ⟨q1, q2⟩ | q
      · intro z; rw [q1]; exact gh102 (by rw [q2] at z; exact z)
      · exact fun _ => Nat.le_trans f115.1 q
    refine own_aload X125.here hx (hb hby at_208) rfl rfl (pc' := 210) rfl ?_
    have ov125 : Arv Z T125.heap br102 kb102 .char (Int32.ofNat co125.length) (co125.map Value.int) (.int 0) := by rw [lo125]; exact vo125
    rcases Nat.eq_zero_or_pos (n1n + n2n + n3n) with z13 | z13
    · obtain ⟨cq138, kq138, qa138, qb138, qc138⟩ := isOf (s := s.setVm T114.vm) J126.1 rfl (oa125).1
      obtain ⟨_, _, ⟨T138, L138, k138, n138⟩, -, X138, hS138, hG138, ⟨Lc138, hQ138, l138, y138, z138, C138⟩, st138⟩ := X125.virtualBackS hx (y := (⟨"com/example/kerb/kerb/call/AppendOnlyText", "snapshot", "()Ljava/lang/CharSequence;"⟩ : MethodName)) (z := (⟨"com/example/kerb/kerb/call/AppendOnlyText", "snapshot", "()Ljava/lang/CharSequence;"⟩ : MethodName)) J126.2.1 (mvT J126.1 (hw _ (List.mem_of_getElem? (i := 91) rfl))) (mvT J126.1 (hw _ (List.mem_of_getElem? (i := 92) rfl))) (notFace_of_selects (args := #[]) (mvT J126.1 (hw _ (List.mem_of_getElem? (i := 94) rfl)))) (mvT J126.1 (hw _ (List.mem_of_getElem? (i := 94) rfl))) (mvT J126.1 (hw _ (List.mem_of_getElem? (i := 93) rfl))) (by decide) (own_backW (W := 0) (rmN0 l Z a0 hw hEL a71 br125 T125.heap (by have q := oa125; rw [z13] at q; exact q)) J126.1 (hw _ (List.mem_of_getElem? (i := 95) rfl)) (hw _ (List.mem_of_getElem? (i := 31) rfl)) (by decide) (by decide) hEL J126.ch (fun _ q => nomatch q)) qa138 qc138 (g := (mkF m 210 #[.val (.int le), .val (.long xa), .second, .val (.long ya), .second, .val (.int zc), .val (.int (Int32.ofNat n1n)), .val (.int (Int32.ofNat n2n)), .val (.int (Int32.ofNat n3n)), .val (.ref a1), .val (.ref x41), .val (.ref x45), .val (.ref x50), .val (.ref x56), .val (.ref x63), .val (.ref a71), .val (.ref x114), .unset] [(.ref a71)])) rfl (by rw [hml]; rfl) (Steps.refl _) (argsL := []) (rest := []) (lenOf pdx27 rfl) rfl (by show 2 * 0 + _ ≤ _; exact Nat.le_of_eq rfl) (hb hby at_210) (fun _ _ => ⟨rfl, rfl, (Nat.le_of_ble_eq_true rfl), (Nat.le_of_ble_eq_true rfl)⟩)
      dsimp only [Pt.U, Pt.locs, Pt.cells, Pt.slots] at X138 hS138 hG138 l138 y138 z138 C138 st138 hQ138
      rw [l138, y138, z138] at X138
      replace X138 := (show Stand _ _ _ _ (s.setVm T138.vm) _ _ _ _ _ _ _ _ _ from X138)
      have I138 := J126.later hS138 (Nat.le_refl _) (by have q := hG138; rw [(rfl : _ = T125.heap)] at q; exact q) C138
      obtain ⟨x138, rfl, S138, E138, N138⟩ := hQ138
      refine own_to st138 ?_
      show own_Go p e below F (T138.setTop (mkF m 213 #[.val (.int le), .val (.long xa), .second, .val (.long ya), .second, .val (.int zc), .val (.int (Int32.ofNat n1n)), .val (.int (Int32.ofNat n2n)), .val (.int (Int32.ofNat n3n)), .val (.ref a1), .val (.ref x41), .val (.ref x45), .val (.ref x50), .val (.ref x56), .val (.ref x63), .val (.ref a71), .val (.ref x114), .unset] [(.ref x138)]))
      have f139 := own_ext_trans f128 E138
      have f140 := f129.ext E138
      have f141 := f130.ext E138
      have f142 := f131.ext E138
      have f143 := f132.ext E138
      have f144 := f133.ext E138
      have f145 := f137.ext E138
      have f146 := oa125.ext E138
      have f147 := va125.ext E138
      have f148 := ov125.ext E138
      have N149 := Fr.app N127 N138
      refine own_astore X138.here hx (hb hby at_213) rfl (L' := #[.val (.int le), .val (.long xa), .second, .val (.long ya), .second, .val (.int zc), .val (.int (Int32.ofNat n1n)), .val (.int (Int32.ofNat n2n)), .val (.int (Int32.ofNat n3n)), .val (.ref a1), .val (.ref x41), .val (.ref x45), .val (.ref x50), .val (.ref x56), .val (.ref x63), .val (.ref a71), .val (.ref x114), .val (.ref x138)]) rfl (pc' := 215) rfl ?_
      refine own_aload X138.here hx (hb hby at_215) rfl rfl (pc' := 217) rfl ?_
      obtain ⟨cq150, kq150, qa150, qb150, qc150⟩ := isOf (s := s.setVm T138.vm) I138.1 rfl (f145).exa
      obtain ⟨_, _, ⟨T150, L150, k150, n150⟩, -, X150, ⟨Lc150, hQ150, l150, y150, z150⟩, st150⟩ := X138.interfaceBack hx (xi := (⟨"java/lang/CharSequence", "length", "()I"⟩ : MethodName)) (y := (⟨"java/lang/String", "length", "()I"⟩ : MethodName)) I138.2.1 (mvT I138.1 (hw _ (List.mem_of_getElem? (i := 97) rfl))) (mvT I138.1 (hw _ (List.mem_of_getElem? (i := 98) rfl))) (mvT I138.1 (hw _ (List.mem_of_getElem? (i := 99) rfl))) (mvT I138.1 (hw _ (List.mem_of_getElem? (i := 100) rfl))) (mvT I138.1 (hw _ (List.mem_of_getElem? (i := 47) rfl))) (mvT I138.1 (hw _ (List.mem_of_getElem? (i := 101) rfl))) (mvT I138.1 (hw _ (List.mem_of_getElem? (i := 102) rfl))) (mvT I138.1 (hw _ (List.mem_of_getElem? (i := 103) rfl))) (by decide) (own_lenS (s := s.setVm T138.vm) (W := 0) I138.1 hw f145 (O1.ext (own_ext_trans EZ f139)) P5 (by decide) (by decide)) qa150 qb150 qc150 (g := (mkF m 217 #[.val (.int le), .val (.long xa), .second, .val (.long ya), .second, .val (.int zc), .val (.int (Int32.ofNat n1n)), .val (.int (Int32.ofNat n2n)), .val (.int (Int32.ofNat n3n)), .val (.ref a1), .val (.ref x41), .val (.ref x45), .val (.ref x50), .val (.ref x56), .val (.ref x63), .val (.ref a71), .val (.ref x114), .val (.ref x138)] [(.ref x114)])) rfl (by rw [hml]; rfl) (Steps.refl _) (argsL := []) (rest := []) (lenOf pdx10 rfl) rfl (by show 2 * 0 + _ ≤ _; exact Nat.le_of_eq rfl) (hb hby at_217) (fun _ _ => ⟨rfl, rfl, (Nat.le_of_ble_eq_true rfl), (Nat.le_of_ble_eq_true rfl)⟩)
      dsimp only [Pt.U, Pt.locs, Pt.cells, Pt.slots] at X150 l150 y150 z150 st150 hQ150
      rw [l150, y150, z150] at X150
      obtain ⟨rfl, rfl, E150⟩ := hQ150
      refine own_to st150 ?_
      show own_Go p e below F (T150.setTop (mkF m 222 #[.val (.int le), .val (.long xa), .second, .val (.long ya), .second, .val (.int zc), .val (.int (Int32.ofNat n1n)), .val (.int (Int32.ofNat n2n)), .val (.int (Int32.ofNat n3n)), .val (.ref a1), .val (.ref x41), .val (.ref x45), .val (.ref x50), .val (.ref x56), .val (.ref x63), .val (.ref a71), .val (.ref x114), .val (.ref x138)] [(.int (Int32.ofNat 0))]))
      refine own_iload X150.here hx (hb hby at_222) rfl (pc' := 224) rfl ?_
      refine own_iload X150.here hx (hb hby at_224) rfl (pc' := 226) rfl ?_
      refine own_iadd X150.here hx (hb hby at_226) (pc' := 227) rfl ?_
      rw [own_ofadd]
      show own_Go p e below F (T150.setTop (mkF m 227 #[.val (.int le), .val (.long xa), .second, .val (.long ya), .second, .val (.int zc), .val (.int (Int32.ofNat n1n)), .val (.int (Int32.ofNat n2n)), .val (.int (Int32.ofNat n3n)), .val (.ref a1), .val (.ref x41), .val (.ref x45), .val (.ref x50), .val (.ref x56), .val (.ref x63), .val (.ref a71), .val (.ref x114), .val (.ref x138)] [(.int (Int32.ofNat (n1n + n2n))), (.int (Int32.ofNat 0))]))
      refine own_icmpne X150.here hx (hb hby at_227) (by decide) (pc' := 282) (by decide) (pc2 := 230) rfl (fun q => absurd (by rw [z12]) q) (fun q151 => ?_)
      refine own_aload X150.here hx (hb hby at_230) rfl rfl (pc' := 232) rfl ?_
      refine own_aload X150.here hx (hb hby at_232) rfl rfl (pc' := 234) rfl ?_
      obtain ⟨cq152, kq152, qa152, qb152, qc152⟩ := isOf (s := s.setVm T138.vm) I138.1 E150 (f145).exa
      obtain ⟨_, _, ⟨T152, L152, k152, n152⟩, -, X152, ⟨Lc152, hQ152, l152, y152, z152⟩, st152⟩ := X150.interfaceBack hx (xi := (⟨"java/lang/CharSequence", "toString", "()Ljava/lang/String;"⟩ : MethodName)) (y := (⟨"java/lang/String", "toString", "()Ljava/lang/String;"⟩ : MethodName)) I138.2.1 (mvT I138.1 (hw _ (List.mem_of_getElem? (i := 104) rfl))) (mvT I138.1 (hw _ (List.mem_of_getElem? (i := 105) rfl))) (mvT I138.1 (hw _ (List.mem_of_getElem? (i := 106) rfl))) (mvT I138.1 (hw _ (List.mem_of_getElem? (i := 107) rfl))) (mvT I138.1 (hw _ (List.mem_of_getElem? (i := 108) rfl))) (mvT I138.1 (hw _ (List.mem_of_getElem? (i := 109) rfl))) (mvT I138.1 (hw _ (List.mem_of_getElem? (i := 110) rfl))) (mvT I138.1 (hw _ (List.mem_of_getElem? (i := 103) rfl))) (by decide) (backOf (W := 1) (rmSt l Z a0 hw x114 T138.heap) I138.1 (hw _ (List.mem_of_getElem? (i := 111) rfl)) (hw _ (List.mem_of_getElem? (i := 10) rfl)) (by decide) (by decide)) qa152 qb152 qc152 (g := (mkF m 234 #[.val (.int le), .val (.long xa), .second, .val (.long ya), .second, .val (.int zc), .val (.int (Int32.ofNat n1n)), .val (.int (Int32.ofNat n2n)), .val (.int (Int32.ofNat n3n)), .val (.ref a1), .val (.ref x41), .val (.ref x45), .val (.ref x50), .val (.ref x56), .val (.ref x63), .val (.ref a71), .val (.ref x114), .val (.ref x138)] [(.ref x114), (.ref x56)])) rfl (by rw [hml]; rfl) (Steps.refl _) (argsL := []) (rest := [(.ref x56)]) (lenOf pdx28 rfl) rfl (by show 2 * 0 + _ ≤ _; exact Nat.le_of_eq rfl) (hb hby at_234) (fun _ _ => ⟨rfl, E150, (Nat.le_of_ble_eq_true rfl), (Nat.le_of_ble_eq_true rfl)⟩)
      dsimp only [Pt.U, Pt.locs, Pt.cells, Pt.slots] at X152 l152 y152 z152 st152 hQ152
      rw [l152, y152, z152] at X152
      obtain ⟨rfl, N152, E152⟩ := hQ152
      refine own_to st152 ?_
      show own_Go p e below F (T152.setTop (mkF m 239 #[.val (.int le), .val (.long xa), .second, .val (.long ya), .second, .val (.int zc), .val (.int (Int32.ofNat n1n)), .val (.int (Int32.ofNat n2n)), .val (.int (Int32.ofNat n3n)), .val (.ref a1), .val (.ref x41), .val (.ref x45), .val (.ref x50), .val (.ref x56), .val (.ref x63), .val (.ref a71), .val (.ref x114), .val (.ref x138)] [(.ref x114), (.ref x56)]))
      have N153 := Fr.app N149 N152
      obtain ⟨cq154, kq154, qa154, qb154, qc154⟩ := isOf I138.1 E152 (f143).exa
      obtain ⟨_, _, ⟨T154, L154, k154, n154⟩, -, X154, ⟨Lc154, hQ154, l154, y154, z154⟩, st154⟩ := X152.virtualBack hx (y := (⟨"java/lang/String", "equals", "(Ljava/lang/Object;)Z"⟩ : MethodName)) (z := (⟨"java/lang/String", "equals", "(Ljava/lang/Object;)Z"⟩ : MethodName)) I138.2.1 (mvT I138.1 (hw _ (List.mem_of_getElem? (i := 112) rfl))) (mvT I138.1 (hw _ (List.mem_of_getElem? (i := 113) rfl))) (notFace_of_selects (args := #[]) (mvT I138.1 (hw _ (List.mem_of_getElem? (i := 115) rfl)))) (mvT I138.1 (hw _ (List.mem_of_getElem? (i := 115) rfl))) (mvT I138.1 (hw _ (List.mem_of_getElem? (i := 114) rfl))) (by decide) (own_eqS (s := s.setVm T138.vm) (W := 0) I138.1 hw f143 f145 (by simp [z12]) (O1.ext (own_ext_trans EZ f139)) P5 (by decide) (by decide)) qa154 qc154 (g := (mkF m 239 #[.val (.int le), .val (.long xa), .second, .val (.long ya), .second, .val (.int zc), .val (.int (Int32.ofNat n1n)), .val (.int (Int32.ofNat n2n)), .val (.int (Int32.ofNat n3n)), .val (.ref a1), .val (.ref x41), .val (.ref x45), .val (.ref x50), .val (.ref x56), .val (.ref x63), .val (.ref a71), .val (.ref x114), .val (.ref x138)] [(.ref x114), (.ref x56)])) rfl (by rw [hml]; rfl) (Steps.refl _) (argsL := [(.ref x114)]) (rest := []) (lenOf pdx29 rfl) rfl (by show 2 * 0 + _ ≤ _; exact Nat.le_of_eq rfl) (hb hby at_239) (fun _ _ => ⟨rfl, E152, (Nat.le_of_ble_eq_true rfl), (Nat.le_of_ble_eq_true rfl)⟩)
      dsimp only [Pt.U, Pt.locs, Pt.cells, Pt.slots] at X154 l154 y154 z154 st154 hQ154
      rw [l154, y154, z154] at X154
      obtain ⟨rfl, rfl, E154⟩ := hQ154
      refine own_to st154 ?_
      show own_Go p e below F (T154.setTop (mkF m 242 #[.val (.int le), .val (.long xa), .second, .val (.long ya), .second, .val (.int zc), .val (.int (Int32.ofNat n1n)), .val (.int (Int32.ofNat n2n)), .val (.int (Int32.ofNat n3n)), .val (.ref a1), .val (.ref x41), .val (.ref x45), .val (.ref x50), .val (.ref x56), .val (.ref x63), .val (.ref a71), .val (.ref x114), .val (.ref x138)] [(.int ((1 : Int32)))]))
      refine own_ifeq X154.here hx (hb hby at_242) (by decide) (pc' := 282) (by decide) (pc2 := 245) rfl (fun q => absurd q (by decide)) (fun q155 => ?_)
      refine own_aload X154.here hx (hb hby at_245) rfl rfl (pc' := 247) rfl ?_
      obtain ⟨cq156, kq156, qa156, qb156, qc156⟩ := isOf (s := s.setVm T138.vm) I138.1 E154 (S138).exa
      obtain ⟨_, _, ⟨T156, L156, k156, n156⟩, -, X156, ⟨Lc156, hQ156, l156, y156, z156⟩, st156⟩ := X154.interfaceBack hx (xi := (⟨"java/lang/CharSequence", "length", "()I"⟩ : MethodName)) (y := (⟨"java/lang/String", "length", "()I"⟩ : MethodName)) I138.2.1 (mvT I138.1 (hw _ (List.mem_of_getElem? (i := 97) rfl))) (mvT I138.1 (hw _ (List.mem_of_getElem? (i := 98) rfl))) (mvT I138.1 (hw _ (List.mem_of_getElem? (i := 99) rfl))) (mvT I138.1 (hw _ (List.mem_of_getElem? (i := 100) rfl))) (mvT I138.1 (hw _ (List.mem_of_getElem? (i := 47) rfl))) (mvT I138.1 (hw _ (List.mem_of_getElem? (i := 101) rfl))) (mvT I138.1 (hw _ (List.mem_of_getElem? (i := 102) rfl))) (mvT I138.1 (hw _ (List.mem_of_getElem? (i := 103) rfl))) (by decide) (own_lenS (s := s.setVm T138.vm) (W := 0) I138.1 hw S138 (O1.ext (own_ext_trans EZ f139)) P5 (by decide) (by decide)) qa156 qb156 qc156 (g := (mkF m 247 #[.val (.int le), .val (.long xa), .second, .val (.long ya), .second, .val (.int zc), .val (.int (Int32.ofNat n1n)), .val (.int (Int32.ofNat n2n)), .val (.int (Int32.ofNat n3n)), .val (.ref a1), .val (.ref x41), .val (.ref x45), .val (.ref x50), .val (.ref x56), .val (.ref x63), .val (.ref a71), .val (.ref x114), .val (.ref x138)] [(.ref x138)])) rfl (by rw [hml]; rfl) (Steps.refl _) (argsL := []) (rest := []) (lenOf pdx10 rfl) rfl (by show 2 * 0 + _ ≤ _; exact Nat.le_of_eq rfl) (hb hby at_247) (fun _ _ => ⟨rfl, E154, (Nat.le_of_ble_eq_true rfl), (Nat.le_of_ble_eq_true rfl)⟩)
      dsimp only [Pt.U, Pt.locs, Pt.cells, Pt.slots] at X156 l156 y156 z156 st156 hQ156
      rw [l156, y156, z156] at X156
      obtain ⟨rfl, rfl, E156⟩ := hQ156
      refine own_to st156 ?_
      show own_Go p e below F (T156.setTop (mkF m 252 #[.val (.int le), .val (.long xa), .second, .val (.long ya), .second, .val (.int zc), .val (.int (Int32.ofNat n1n)), .val (.int (Int32.ofNat n2n)), .val (.int (Int32.ofNat n3n)), .val (.ref a1), .val (.ref x41), .val (.ref x45), .val (.ref x50), .val (.ref x56), .val (.ref x63), .val (.ref a71), .val (.ref x114), .val (.ref x138)] [(.int (Int32.ofNat 0))]))
      refine own_iload X156.here hx (hb hby at_252) rfl (pc' := 254) rfl ?_
      refine own_iload X156.here hx (hb hby at_254) rfl (pc' := 256) rfl ?_
      refine own_iadd X156.here hx (hb hby at_256) (pc' := 257) rfl ?_
      rw [own_ofadd]
      show own_Go p e below F (T156.setTop (mkF m 257 #[.val (.int le), .val (.long xa), .second, .val (.long ya), .second, .val (.int zc), .val (.int (Int32.ofNat n1n)), .val (.int (Int32.ofNat n2n)), .val (.int (Int32.ofNat n3n)), .val (.ref a1), .val (.ref x41), .val (.ref x45), .val (.ref x50), .val (.ref x56), .val (.ref x63), .val (.ref a71), .val (.ref x114), .val (.ref x138)] [(.int (Int32.ofNat (n1n + n2n))), (.int (Int32.ofNat 0))]))
      refine own_iload X156.here hx (hb hby at_257) rfl (pc' := 259) rfl ?_
      refine own_iadd X156.here hx (hb hby at_259) (pc' := 260) rfl ?_
      rw [own_ofadd]
      show own_Go p e below F (T156.setTop (mkF m 260 #[.val (.int le), .val (.long xa), .second, .val (.long ya), .second, .val (.int zc), .val (.int (Int32.ofNat n1n)), .val (.int (Int32.ofNat n2n)), .val (.int (Int32.ofNat n3n)), .val (.ref a1), .val (.ref x41), .val (.ref x45), .val (.ref x50), .val (.ref x56), .val (.ref x63), .val (.ref a71), .val (.ref x114), .val (.ref x138)] [(.int (Int32.ofNat (n1n + n2n + n3n))), (.int (Int32.ofNat 0))]))
      refine own_icmpne X156.here hx (hb hby at_260) (by decide) (pc' := 282) (by decide) (pc2 := 263) rfl (fun q => absurd (by rw [z13]) q) (fun q157 => ?_)
      refine own_aload X156.here hx (hb hby at_263) rfl rfl (pc' := 265) rfl ?_
      refine own_aload X156.here hx (hb hby at_265) rfl rfl (pc' := 267) rfl ?_
      obtain ⟨cq158, kq158, qa158, qb158, qc158⟩ := isOf (s := s.setVm T138.vm) I138.1 E156 (S138).exa
      obtain ⟨_, _, ⟨T158, L158, k158, n158⟩, -, X158, ⟨Lc158, hQ158, l158, y158, z158⟩, st158⟩ := X156.interfaceBack hx (xi := (⟨"java/lang/CharSequence", "toString", "()Ljava/lang/String;"⟩ : MethodName)) (y := (⟨"java/lang/String", "toString", "()Ljava/lang/String;"⟩ : MethodName)) I138.2.1 (mvT I138.1 (hw _ (List.mem_of_getElem? (i := 104) rfl))) (mvT I138.1 (hw _ (List.mem_of_getElem? (i := 105) rfl))) (mvT I138.1 (hw _ (List.mem_of_getElem? (i := 106) rfl))) (mvT I138.1 (hw _ (List.mem_of_getElem? (i := 107) rfl))) (mvT I138.1 (hw _ (List.mem_of_getElem? (i := 108) rfl))) (mvT I138.1 (hw _ (List.mem_of_getElem? (i := 109) rfl))) (mvT I138.1 (hw _ (List.mem_of_getElem? (i := 110) rfl))) (mvT I138.1 (hw _ (List.mem_of_getElem? (i := 103) rfl))) (by decide) (backOf (W := 1) (rmSt l Z a0 hw x138 T138.heap) I138.1 (hw _ (List.mem_of_getElem? (i := 111) rfl)) (hw _ (List.mem_of_getElem? (i := 10) rfl)) (by decide) (by decide)) qa158 qb158 qc158 (g := (mkF m 267 #[.val (.int le), .val (.long xa), .second, .val (.long ya), .second, .val (.int zc), .val (.int (Int32.ofNat n1n)), .val (.int (Int32.ofNat n2n)), .val (.int (Int32.ofNat n3n)), .val (.ref a1), .val (.ref x41), .val (.ref x45), .val (.ref x50), .val (.ref x56), .val (.ref x63), .val (.ref a71), .val (.ref x114), .val (.ref x138)] [(.ref x138), (.ref x63)])) rfl (by rw [hml]; rfl) (Steps.refl _) (argsL := []) (rest := [(.ref x63)]) (lenOf pdx28 rfl) rfl (by show 2 * 0 + _ ≤ _; exact Nat.le_of_eq rfl) (hb hby at_267) (fun _ _ => ⟨rfl, E156, (Nat.le_of_ble_eq_true rfl), (Nat.le_of_ble_eq_true rfl)⟩)
      dsimp only [Pt.U, Pt.locs, Pt.cells, Pt.slots] at X158 l158 y158 z158 st158 hQ158
      rw [l158, y158, z158] at X158
      obtain ⟨rfl, N158, E158⟩ := hQ158
      refine own_to st158 ?_
      show own_Go p e below F (T158.setTop (mkF m 272 #[.val (.int le), .val (.long xa), .second, .val (.long ya), .second, .val (.int zc), .val (.int (Int32.ofNat n1n)), .val (.int (Int32.ofNat n2n)), .val (.int (Int32.ofNat n3n)), .val (.ref a1), .val (.ref x41), .val (.ref x45), .val (.ref x50), .val (.ref x56), .val (.ref x63), .val (.ref a71), .val (.ref x114), .val (.ref x138)] [(.ref x138), (.ref x63)]))
      have N159 := Fr.app N153 N158
      obtain ⟨cq160, kq160, qa160, qb160, qc160⟩ := isOf I138.1 E158 (f144).exa
      obtain ⟨_, _, ⟨T160, L160, k160, n160⟩, -, X160, ⟨Lc160, hQ160, l160, y160, z160⟩, st160⟩ := X158.virtualBack hx (y := (⟨"java/lang/String", "equals", "(Ljava/lang/Object;)Z"⟩ : MethodName)) (z := (⟨"java/lang/String", "equals", "(Ljava/lang/Object;)Z"⟩ : MethodName)) I138.2.1 (mvT I138.1 (hw _ (List.mem_of_getElem? (i := 112) rfl))) (mvT I138.1 (hw _ (List.mem_of_getElem? (i := 113) rfl))) (notFace_of_selects (args := #[]) (mvT I138.1 (hw _ (List.mem_of_getElem? (i := 115) rfl)))) (mvT I138.1 (hw _ (List.mem_of_getElem? (i := 115) rfl))) (mvT I138.1 (hw _ (List.mem_of_getElem? (i := 114) rfl))) (by decide) (own_eqS (s := s.setVm T138.vm) (W := 0) I138.1 hw f144 S138 (by simp [z13]) (O1.ext (own_ext_trans EZ f139)) P5 (by decide) (by decide)) qa160 qc160 (g := (mkF m 272 #[.val (.int le), .val (.long xa), .second, .val (.long ya), .second, .val (.int zc), .val (.int (Int32.ofNat n1n)), .val (.int (Int32.ofNat n2n)), .val (.int (Int32.ofNat n3n)), .val (.ref a1), .val (.ref x41), .val (.ref x45), .val (.ref x50), .val (.ref x56), .val (.ref x63), .val (.ref a71), .val (.ref x114), .val (.ref x138)] [(.ref x138), (.ref x63)])) rfl (by rw [hml]; rfl) (Steps.refl _) (argsL := [(.ref x138)]) (rest := []) (lenOf pdx29 rfl) rfl (by show 2 * 0 + _ ≤ _; exact Nat.le_of_eq rfl) (hb hby at_272) (fun _ _ => ⟨rfl, E158, (Nat.le_of_ble_eq_true rfl), (Nat.le_of_ble_eq_true rfl)⟩)
      dsimp only [Pt.U, Pt.locs, Pt.cells, Pt.slots] at X160 l160 y160 z160 st160 hQ160
      rw [l160, y160, z160] at X160
      obtain ⟨rfl, rfl, E160⟩ := hQ160
      refine own_to st160 ?_
      show own_Go p e below F (T160.setTop (mkF m 275 #[.val (.int le), .val (.long xa), .second, .val (.long ya), .second, .val (.int zc), .val (.int (Int32.ofNat n1n)), .val (.int (Int32.ofNat n2n)), .val (.int (Int32.ofNat n3n)), .val (.ref a1), .val (.ref x41), .val (.ref x45), .val (.ref x50), .val (.ref x56), .val (.ref x63), .val (.ref a71), .val (.ref x114), .val (.ref x138)] [(.int ((1 : Int32)))]))
      refine own_ifeq X160.here hx (hb hby at_275) (by decide) (pc' := 282) (by decide) (pc2 := 278) rfl (fun q => absurd q (by decide)) (fun q161 => ?_)
      refine own_iconst X160.here hx (hb hby at_278) (v := 1) rfl (pc' := 279) rfl ?_
      refine own_goto X160.here hx (hb hby at_279) (by decide) (pc' := 283) (by decide) ?_
      exact own_retZW X160 hx hlk hEL I138 E160 (by decide) hret (hb hby at_283) (fun t ht hC hE => hF t _ _ _ _ (by rw [ht]; exact ⟨rfl, (by simpa using N159)⟩) hC hE (by decide) (by decide))
    · obtain ⟨cq162, kq162, qa162, qb162, qc162⟩ := isOf J126.1 rfl (oa125).1
      obtain ⟨_, _, ⟨T162, L162, k162, n162⟩, -, X162, ⟨Lc162, hQ162, l162, y162, z162⟩, st162⟩ := X125.virtualBack hx (y := (⟨"com/example/kerb/kerb/call/AppendOnlyText", "snapshot", "()Ljava/lang/CharSequence;"⟩ : MethodName)) (z := (⟨"com/example/kerb/kerb/call/AppendOnlyText", "snapshot", "()Ljava/lang/CharSequence;"⟩ : MethodName)) J126.2.1 (mvT J126.1 (hw _ (List.mem_of_getElem? (i := 91) rfl))) (mvT J126.1 (hw _ (List.mem_of_getElem? (i := 92) rfl))) (notFace_of_selects (args := #[]) (mvT J126.1 (hw _ (List.mem_of_getElem? (i := 94) rfl)))) (mvT J126.1 (hw _ (List.mem_of_getElem? (i := 94) rfl))) (mvT J126.1 (hw _ (List.mem_of_getElem? (i := 93) rfl))) (by decide) (backOf (W := 0) (rmN1 l Z a0 hw a71 br125 (n1n + n2n + n3n) T125.heap (own_ext_trans EZ f128) oa125 z13 (by omega)) J126.1 (hw _ (List.mem_of_getElem? (i := 95) rfl)) (hw _ (List.mem_of_getElem? (i := 31) rfl)) (by decide) (by decide)) qa162 qc162 (g := (mkF m 210 #[.val (.int le), .val (.long xa), .second, .val (.long ya), .second, .val (.int zc), .val (.int (Int32.ofNat n1n)), .val (.int (Int32.ofNat n2n)), .val (.int (Int32.ofNat n3n)), .val (.ref a1), .val (.ref x41), .val (.ref x45), .val (.ref x50), .val (.ref x56), .val (.ref x63), .val (.ref a71), .val (.ref x114), .unset] [(.ref a71)])) rfl (by rw [hml]; rfl) (Steps.refl _) (argsL := []) (rest := []) (lenOf pdx27 rfl) rfl (by show 2 * 0 + _ ≤ _; exact Nat.le_of_eq rfl) (hb hby at_210) (fun _ _ => ⟨rfl, rfl, (Nat.le_of_ble_eq_true rfl), (Nat.le_of_ble_eq_true rfl)⟩)
      dsimp only [Pt.U, Pt.locs, Pt.cells, Pt.slots] at X162 l162 y162 z162 st162 hQ162
      rw [l162, y162, z162] at X162
      obtain ⟨x162, rfl, B162, E162, N162, G162⟩ := hQ162
      refine own_to st162 ?_
      show own_Go p e below F (T162.setTop (mkF m 213 #[.val (.int le), .val (.long xa), .second, .val (.long ya), .second, .val (.int zc), .val (.int (Int32.ofNat n1n)), .val (.int (Int32.ofNat n2n)), .val (.int (Int32.ofNat n3n)), .val (.ref a1), .val (.ref x41), .val (.ref x45), .val (.ref x50), .val (.ref x56), .val (.ref x63), .val (.ref a71), .val (.ref x114), .unset] [(.ref x162)]))
      have f163 := own_ext_trans f128 E162
      have f164 := f129.ext E162
      have f165 := f130.ext E162
      have f166 := f131.ext E162
      have f167 := f132.ext E162
      have f168 := f133.ext E162
      have f169 := f137.ext E162
      have f170 := oa125.ext E162
      have f171 := va125.ext E162
      have f172 := ov125.ext E162
      have J173 := J126.ext E162
      have N174 := Fr.app N127 N162
      refine own_astore X162.here hx (hb hby at_213) rfl (L' := #[.val (.int le), .val (.long xa), .second, .val (.long ya), .second, .val (.int zc), .val (.int (Int32.ofNat n1n)), .val (.int (Int32.ofNat n2n)), .val (.int (Int32.ofNat n3n)), .val (.ref a1), .val (.ref x41), .val (.ref x45), .val (.ref x50), .val (.ref x56), .val (.ref x63), .val (.ref a71), .val (.ref x114), .val (.ref x162)]) rfl (pc' := 215) rfl ?_
      refine own_aload X162.here hx (hb hby at_215) rfl rfl (pc' := 217) rfl ?_
      obtain ⟨cq175, kq175, qa175, qb175, qc175⟩ := isOf (s := s.setVm T114.vm) J173.1 rfl (f169).exa
      obtain ⟨_, _, ⟨T175, L175, k175, n175⟩, -, X175, ⟨Lc175, hQ175, l175, y175, z175⟩, st175⟩ := X162.interfaceBack hx (xi := (⟨"java/lang/CharSequence", "length", "()I"⟩ : MethodName)) (y := (⟨"java/lang/String", "length", "()I"⟩ : MethodName)) J173.2.1 (mvT J173.1 (hw _ (List.mem_of_getElem? (i := 97) rfl))) (mvT J173.1 (hw _ (List.mem_of_getElem? (i := 98) rfl))) (mvT J173.1 (hw _ (List.mem_of_getElem? (i := 99) rfl))) (mvT J173.1 (hw _ (List.mem_of_getElem? (i := 100) rfl))) (mvT J173.1 (hw _ (List.mem_of_getElem? (i := 47) rfl))) (mvT J173.1 (hw _ (List.mem_of_getElem? (i := 101) rfl))) (mvT J173.1 (hw _ (List.mem_of_getElem? (i := 102) rfl))) (mvT J173.1 (hw _ (List.mem_of_getElem? (i := 103) rfl))) (by decide) (own_lenS (s := s.setVm T114.vm) (W := 0) J173.1 hw f169 (O1.ext (own_ext_trans EZ f163)) P5 (by decide) (by decide)) qa175 qb175 qc175 (g := (mkF m 217 #[.val (.int le), .val (.long xa), .second, .val (.long ya), .second, .val (.int zc), .val (.int (Int32.ofNat n1n)), .val (.int (Int32.ofNat n2n)), .val (.int (Int32.ofNat n3n)), .val (.ref a1), .val (.ref x41), .val (.ref x45), .val (.ref x50), .val (.ref x56), .val (.ref x63), .val (.ref a71), .val (.ref x114), .val (.ref x162)] [(.ref x114)])) rfl (by rw [hml]; rfl) (Steps.refl _) (argsL := []) (rest := []) (lenOf pdx10 rfl) rfl (by show 2 * 0 + _ ≤ _; exact Nat.le_of_eq rfl) (hb hby at_217) (fun _ _ => ⟨rfl, rfl, (Nat.le_of_ble_eq_true rfl), (Nat.le_of_ble_eq_true rfl)⟩)
      dsimp only [Pt.U, Pt.locs, Pt.cells, Pt.slots] at X175 l175 y175 z175 st175 hQ175
      rw [l175, y175, z175] at X175
      obtain ⟨rfl, rfl, E175⟩ := hQ175
      refine own_to st175 ?_
      show own_Go p e below F (T175.setTop (mkF m 222 #[.val (.int le), .val (.long xa), .second, .val (.long ya), .second, .val (.int zc), .val (.int (Int32.ofNat n1n)), .val (.int (Int32.ofNat n2n)), .val (.int (Int32.ofNat n3n)), .val (.ref a1), .val (.ref x41), .val (.ref x45), .val (.ref x50), .val (.ref x56), .val (.ref x63), .val (.ref a71), .val (.ref x114), .val (.ref x162)] [(.int (Int32.ofNat 0))]))
      refine own_iload X175.here hx (hb hby at_222) rfl (pc' := 224) rfl ?_
      refine own_iload X175.here hx (hb hby at_224) rfl (pc' := 226) rfl ?_
      refine own_iadd X175.here hx (hb hby at_226) (pc' := 227) rfl ?_
      rw [own_ofadd]
      show own_Go p e below F (T175.setTop (mkF m 227 #[.val (.int le), .val (.long xa), .second, .val (.long ya), .second, .val (.int zc), .val (.int (Int32.ofNat n1n)), .val (.int (Int32.ofNat n2n)), .val (.int (Int32.ofNat n3n)), .val (.ref a1), .val (.ref x41), .val (.ref x45), .val (.ref x50), .val (.ref x56), .val (.ref x63), .val (.ref a71), .val (.ref x114), .val (.ref x162)] [(.int (Int32.ofNat (n1n + n2n))), (.int (Int32.ofNat 0))]))
      refine own_icmpne X175.here hx (hb hby at_227) (by decide) (pc' := 282) (by decide) (pc2 := 230) rfl (fun q => absurd (by rw [z12]) q) (fun q176 => ?_)
      refine own_aload X175.here hx (hb hby at_230) rfl rfl (pc' := 232) rfl ?_
      refine own_aload X175.here hx (hb hby at_232) rfl rfl (pc' := 234) rfl ?_
      obtain ⟨cq177, kq177, qa177, qb177, qc177⟩ := isOf (s := s.setVm T114.vm) J173.1 E175 (f169).exa
      obtain ⟨_, _, ⟨T177, L177, k177, n177⟩, -, X177, ⟨Lc177, hQ177, l177, y177, z177⟩, st177⟩ := X175.interfaceBack hx (xi := (⟨"java/lang/CharSequence", "toString", "()Ljava/lang/String;"⟩ : MethodName)) (y := (⟨"java/lang/String", "toString", "()Ljava/lang/String;"⟩ : MethodName)) J173.2.1 (mvT J173.1 (hw _ (List.mem_of_getElem? (i := 104) rfl))) (mvT J173.1 (hw _ (List.mem_of_getElem? (i := 105) rfl))) (mvT J173.1 (hw _ (List.mem_of_getElem? (i := 106) rfl))) (mvT J173.1 (hw _ (List.mem_of_getElem? (i := 107) rfl))) (mvT J173.1 (hw _ (List.mem_of_getElem? (i := 108) rfl))) (mvT J173.1 (hw _ (List.mem_of_getElem? (i := 109) rfl))) (mvT J173.1 (hw _ (List.mem_of_getElem? (i := 110) rfl))) (mvT J173.1 (hw _ (List.mem_of_getElem? (i := 103) rfl))) (by decide) (backOf (W := 1) (rmSt l Z a0 hw x114 T162.heap) J173.1 (hw _ (List.mem_of_getElem? (i := 111) rfl)) (hw _ (List.mem_of_getElem? (i := 10) rfl)) (by decide) (by decide)) qa177 qb177 qc177 (g := (mkF m 234 #[.val (.int le), .val (.long xa), .second, .val (.long ya), .second, .val (.int zc), .val (.int (Int32.ofNat n1n)), .val (.int (Int32.ofNat n2n)), .val (.int (Int32.ofNat n3n)), .val (.ref a1), .val (.ref x41), .val (.ref x45), .val (.ref x50), .val (.ref x56), .val (.ref x63), .val (.ref a71), .val (.ref x114), .val (.ref x162)] [(.ref x114), (.ref x56)])) rfl (by rw [hml]; rfl) (Steps.refl _) (argsL := []) (rest := [(.ref x56)]) (lenOf pdx28 rfl) rfl (by show 2 * 0 + _ ≤ _; exact Nat.le_of_eq rfl) (hb hby at_234) (fun _ _ => ⟨rfl, E175, (Nat.le_of_ble_eq_true rfl), (Nat.le_of_ble_eq_true rfl)⟩)
      dsimp only [Pt.U, Pt.locs, Pt.cells, Pt.slots] at X177 l177 y177 z177 st177 hQ177
      rw [l177, y177, z177] at X177
      obtain ⟨rfl, N177, E177⟩ := hQ177
      refine own_to st177 ?_
      show own_Go p e below F (T177.setTop (mkF m 239 #[.val (.int le), .val (.long xa), .second, .val (.long ya), .second, .val (.int zc), .val (.int (Int32.ofNat n1n)), .val (.int (Int32.ofNat n2n)), .val (.int (Int32.ofNat n3n)), .val (.ref a1), .val (.ref x41), .val (.ref x45), .val (.ref x50), .val (.ref x56), .val (.ref x63), .val (.ref a71), .val (.ref x114), .val (.ref x162)] [(.ref x114), (.ref x56)]))
      have N178 := Fr.app N174 N177
      obtain ⟨cq179, kq179, qa179, qb179, qc179⟩ := isOf J173.1 E177 (f167).exa
      obtain ⟨_, _, ⟨T179, L179, k179, n179⟩, -, X179, ⟨Lc179, hQ179, l179, y179, z179⟩, st179⟩ := X177.virtualBack hx (y := (⟨"java/lang/String", "equals", "(Ljava/lang/Object;)Z"⟩ : MethodName)) (z := (⟨"java/lang/String", "equals", "(Ljava/lang/Object;)Z"⟩ : MethodName)) J173.2.1 (mvT J173.1 (hw _ (List.mem_of_getElem? (i := 112) rfl))) (mvT J173.1 (hw _ (List.mem_of_getElem? (i := 113) rfl))) (notFace_of_selects (args := #[]) (mvT J173.1 (hw _ (List.mem_of_getElem? (i := 115) rfl)))) (mvT J173.1 (hw _ (List.mem_of_getElem? (i := 115) rfl))) (mvT J173.1 (hw _ (List.mem_of_getElem? (i := 114) rfl))) (by decide) (own_eqS (s := s.setVm T114.vm) (W := 0) J173.1 hw f167 f169 (by simp [z12]) (O1.ext (own_ext_trans EZ f163)) P5 (by decide) (by decide)) qa179 qc179 (g := (mkF m 239 #[.val (.int le), .val (.long xa), .second, .val (.long ya), .second, .val (.int zc), .val (.int (Int32.ofNat n1n)), .val (.int (Int32.ofNat n2n)), .val (.int (Int32.ofNat n3n)), .val (.ref a1), .val (.ref x41), .val (.ref x45), .val (.ref x50), .val (.ref x56), .val (.ref x63), .val (.ref a71), .val (.ref x114), .val (.ref x162)] [(.ref x114), (.ref x56)])) rfl (by rw [hml]; rfl) (Steps.refl _) (argsL := [(.ref x114)]) (rest := []) (lenOf pdx29 rfl) rfl (by show 2 * 0 + _ ≤ _; exact Nat.le_of_eq rfl) (hb hby at_239) (fun _ _ => ⟨rfl, E177, (Nat.le_of_ble_eq_true rfl), (Nat.le_of_ble_eq_true rfl)⟩)
      dsimp only [Pt.U, Pt.locs, Pt.cells, Pt.slots] at X179 l179 y179 z179 st179 hQ179
      rw [l179, y179, z179] at X179
      obtain ⟨rfl, rfl, E179⟩ := hQ179
      refine own_to st179 ?_
      show own_Go p e below F (T179.setTop (mkF m 242 #[.val (.int le), .val (.long xa), .second, .val (.long ya), .second, .val (.int zc), .val (.int (Int32.ofNat n1n)), .val (.int (Int32.ofNat n2n)), .val (.int (Int32.ofNat n3n)), .val (.ref a1), .val (.ref x41), .val (.ref x45), .val (.ref x50), .val (.ref x56), .val (.ref x63), .val (.ref a71), .val (.ref x114), .val (.ref x162)] [(.int ((1 : Int32)))]))
      refine own_ifeq X179.here hx (hb hby at_242) (by decide) (pc' := 282) (by decide) (pc2 := 245) rfl (fun q => absurd q (by decide)) (fun q180 => ?_)
      refine own_aload X179.here hx (hb hby at_245) rfl rfl (pc' := 247) rfl ?_
      obtain ⟨cq181, kq181, qa181, qb181, qc181⟩ := isOf (s := s.setVm T114.vm) J173.1 E179 (B162).1
      obtain ⟨_, _, ⟨T181, L181, k181, n181⟩, -, X181, ⟨Lc181, hQ181, l181, y181, z181⟩, st181⟩ := X179.interfaceBack hx (xi := (⟨"java/lang/CharSequence", "length", "()I"⟩ : MethodName)) (y := (⟨"com/example/kerb/kerb/call/AppendOnlyText$Snapshot", "length", "()I"⟩ : MethodName)) J173.2.1 (mvT J173.1 (hw _ (List.mem_of_getElem? (i := 97) rfl))) (mvT J173.1 (hw _ (List.mem_of_getElem? (i := 98) rfl))) (mvT J173.1 (hw _ (List.mem_of_getElem? (i := 99) rfl))) (mvT J173.1 (hw _ (List.mem_of_getElem? (i := 162) rfl))) (mvT J173.1 (hw _ (List.mem_of_getElem? (i := 163) rfl))) (mvT J173.1 (hw _ (List.mem_of_getElem? (i := 164) rfl))) (mvT J173.1 (hw _ (List.mem_of_getElem? (i := 165) rfl))) (mvT J173.1 (hw _ (List.mem_of_getElem? (i := 166) rfl))) (by decide) (backOf (W := 0) (rmNl l Z a0 hw x162 br125 (n1n + n2n + n3n) T162.heap B162) J173.1 (hw _ (List.mem_of_getElem? (i := 167) rfl)) (hw _ (List.mem_of_getElem? (i := 153) rfl)) (by decide) (by decide)) qa181 qb181 qc181 (g := (mkF m 247 #[.val (.int le), .val (.long xa), .second, .val (.long ya), .second, .val (.int zc), .val (.int (Int32.ofNat n1n)), .val (.int (Int32.ofNat n2n)), .val (.int (Int32.ofNat n3n)), .val (.ref a1), .val (.ref x41), .val (.ref x45), .val (.ref x50), .val (.ref x56), .val (.ref x63), .val (.ref a71), .val (.ref x114), .val (.ref x162)] [(.ref x162)])) rfl (by rw [hml]; rfl) (Steps.refl _) (argsL := []) (rest := []) (lenOf pdx10 rfl) rfl (by show 2 * 0 + _ ≤ _; exact Nat.le_of_eq rfl) (hb hby at_247) (fun _ _ => ⟨rfl, E179, (Nat.le_of_ble_eq_true rfl), (Nat.le_of_ble_eq_true rfl)⟩)
      dsimp only [Pt.U, Pt.locs, Pt.cells, Pt.slots] at X181 l181 y181 z181 st181 hQ181
      rw [l181, y181, z181] at X181
      obtain ⟨rfl, N181, E181⟩ := hQ181
      refine own_to st181 ?_
      show own_Go p e below F (T181.setTop (mkF m 252 #[.val (.int le), .val (.long xa), .second, .val (.long ya), .second, .val (.int zc), .val (.int (Int32.ofNat n1n)), .val (.int (Int32.ofNat n2n)), .val (.int (Int32.ofNat n3n)), .val (.ref a1), .val (.ref x41), .val (.ref x45), .val (.ref x50), .val (.ref x56), .val (.ref x63), .val (.ref a71), .val (.ref x114), .val (.ref x162)] [(.int (Int32.ofNat (n1n + n2n + n3n)))]))
      have N182 := Fr.app N178 N181
      refine own_iload X181.here hx (hb hby at_252) rfl (pc' := 254) rfl ?_
      refine own_iload X181.here hx (hb hby at_254) rfl (pc' := 256) rfl ?_
      refine own_iadd X181.here hx (hb hby at_256) (pc' := 257) rfl ?_
      rw [own_ofadd]
      show own_Go p e below F (T181.setTop (mkF m 257 #[.val (.int le), .val (.long xa), .second, .val (.long ya), .second, .val (.int zc), .val (.int (Int32.ofNat n1n)), .val (.int (Int32.ofNat n2n)), .val (.int (Int32.ofNat n3n)), .val (.ref a1), .val (.ref x41), .val (.ref x45), .val (.ref x50), .val (.ref x56), .val (.ref x63), .val (.ref a71), .val (.ref x114), .val (.ref x162)] [(.int (Int32.ofNat (n1n + n2n))), (.int (Int32.ofNat (n1n + n2n + n3n)))]))
      refine own_iload X181.here hx (hb hby at_257) rfl (pc' := 259) rfl ?_
      refine own_iadd X181.here hx (hb hby at_259) (pc' := 260) rfl ?_
      rw [own_ofadd]
      show own_Go p e below F (T181.setTop (mkF m 260 #[.val (.int le), .val (.long xa), .second, .val (.long ya), .second, .val (.int zc), .val (.int (Int32.ofNat n1n)), .val (.int (Int32.ofNat n2n)), .val (.int (Int32.ofNat n3n)), .val (.ref a1), .val (.ref x41), .val (.ref x45), .val (.ref x50), .val (.ref x56), .val (.ref x63), .val (.ref a71), .val (.ref x114), .val (.ref x162)] [(.int (Int32.ofNat (n1n + n2n + n3n))), (.int (Int32.ofNat (n1n + n2n + n3n)))]))
      refine own_icmpne X181.here hx (hb hby at_260) (by decide) (pc' := 282) (by decide) (pc2 := 263) rfl (fun q => absurd rfl q) (fun q183 => ?_)
      refine own_aload X181.here hx (hb hby at_263) rfl rfl (pc' := 265) rfl ?_
      refine own_aload X181.here hx (hb hby at_265) rfl rfl (pc' := 267) rfl ?_
      obtain ⟨cq184, kq184, qa184, qb184, qc184⟩ := isOf (s := s.setVm T114.vm) J173.1 E181 (B162).1
      obtain ⟨_, _, ⟨T184, L184, k184, n184⟩, -, X184, ⟨Lc184, hQ184, l184, y184, z184⟩, st184⟩ := X181.interfaceBack hx (xi := (⟨"java/lang/CharSequence", "toString", "()Ljava/lang/String;"⟩ : MethodName)) (y := (⟨"com/example/kerb/kerb/call/AppendOnlyText$Snapshot", "toString", "()Ljava/lang/String;"⟩ : MethodName)) J173.2.1 (mvT J173.1 (hw _ (List.mem_of_getElem? (i := 104) rfl))) (mvT J173.1 (hw _ (List.mem_of_getElem? (i := 105) rfl))) (mvT J173.1 (hw _ (List.mem_of_getElem? (i := 106) rfl))) (mvT J173.1 (hw _ (List.mem_of_getElem? (i := 168) rfl))) (mvT J173.1 (hw _ (List.mem_of_getElem? (i := 169) rfl))) (mvT J173.1 (hw _ (List.mem_of_getElem? (i := 170) rfl))) (mvT J173.1 (hw _ (List.mem_of_getElem? (i := 171) rfl))) (mvT J173.1 (hw _ (List.mem_of_getElem? (i := 166) rfl))) (by decide) (backOf (W := 1) (rmNt l Z a0 hw x162 br125 kb125 cb125 (.int 0) (n1n + n2n + n3n) T162.heap (own_ext_trans EZ f163) z0 O1 P5 fm O2 rf O3 O4 O5 B162 f171 (by omega) bp125 le125 (by omega) z13) J173.1 (hw _ (List.mem_of_getElem? (i := 172) rfl)) (hw _ (List.mem_of_getElem? (i := 153) rfl)) (by decide) (by decide)) qa184 qb184 qc184 (g := (mkF m 267 #[.val (.int le), .val (.long xa), .second, .val (.long ya), .second, .val (.int zc), .val (.int (Int32.ofNat n1n)), .val (.int (Int32.ofNat n2n)), .val (.int (Int32.ofNat n3n)), .val (.ref a1), .val (.ref x41), .val (.ref x45), .val (.ref x50), .val (.ref x56), .val (.ref x63), .val (.ref a71), .val (.ref x114), .val (.ref x162)] [(.ref x162), (.ref x63)])) rfl (by rw [hml]; rfl) (Steps.refl _) (argsL := []) (rest := [(.ref x63)]) (lenOf pdx28 rfl) rfl (by show 2 * 0 + _ ≤ _; exact Nat.le_of_eq rfl) (hb hby at_267) (fun _ _ => ⟨rfl, E181, (Nat.le_of_ble_eq_true rfl), (Nat.le_of_ble_eq_true rfl)⟩)
      dsimp only [Pt.U, Pt.locs, Pt.cells, Pt.slots] at X184 l184 y184 z184 st184 hQ184
      rw [l184, y184, z184] at X184
      obtain ⟨x184, rfl, S184, E184, N184⟩ := hQ184
      refine own_to st184 ?_
      show own_Go p e below F (T184.setTop (mkF m 272 #[.val (.int le), .val (.long xa), .second, .val (.long ya), .second, .val (.int zc), .val (.int (Int32.ofNat n1n)), .val (.int (Int32.ofNat n2n)), .val (.int (Int32.ofNat n3n)), .val (.ref a1), .val (.ref x41), .val (.ref x45), .val (.ref x50), .val (.ref x56), .val (.ref x63), .val (.ref a71), .val (.ref x114), .val (.ref x162)] [(.ref x184), (.ref x63)]))
      have f185 := own_ext_trans f163 E184
      have f186 := f164.ext E184
      have f187 := f165.ext E184
      have f188 := f166.ext E184
      have f189 := f167.ext E184
      have f190 := f168.ext E184
      have f191 := f169.ext E184
      have f192 := f170.ext E184
      have f193 := f171.ext E184
      have f194 := f172.ext E184
      have f195 := B162.ext E184
      have J196 := J173.ext E184
      have N197 := Fr.app N182 N184
      obtain ⟨cq198, kq198, qa198, qb198, qc198⟩ := isOf J196.1 rfl (f190).exa
      obtain ⟨_, _, ⟨T198, L198, k198, n198⟩, -, X198, ⟨Lc198, hQ198, l198, y198, z198⟩, st198⟩ := X184.virtualBack hx (y := (⟨"java/lang/String", "equals", "(Ljava/lang/Object;)Z"⟩ : MethodName)) (z := (⟨"java/lang/String", "equals", "(Ljava/lang/Object;)Z"⟩ : MethodName)) J196.2.1 (mvT J196.1 (hw _ (List.mem_of_getElem? (i := 112) rfl))) (mvT J196.1 (hw _ (List.mem_of_getElem? (i := 113) rfl))) (notFace_of_selects (args := #[]) (mvT J196.1 (hw _ (List.mem_of_getElem? (i := 115) rfl)))) (mvT J196.1 (hw _ (List.mem_of_getElem? (i := 115) rfl))) (mvT J196.1 (hw _ (List.mem_of_getElem? (i := 114) rfl))) (by decide) (own_eqS (s := s.setVm T114.vm) (W := 0) J196.1 hw f190 S184 (by rw [hT125, hE3]) (O1.ext (own_ext_trans EZ f185)) P5 (by decide) (by decide)) qa198 qc198 (g := (mkF m 272 #[.val (.int le), .val (.long xa), .second, .val (.long ya), .second, .val (.int zc), .val (.int (Int32.ofNat n1n)), .val (.int (Int32.ofNat n2n)), .val (.int (Int32.ofNat n3n)), .val (.ref a1), .val (.ref x41), .val (.ref x45), .val (.ref x50), .val (.ref x56), .val (.ref x63), .val (.ref a71), .val (.ref x114), .val (.ref x162)] [(.ref x184), (.ref x63)])) rfl (by rw [hml]; rfl) (Steps.refl _) (argsL := [(.ref x184)]) (rest := []) (lenOf pdx29 rfl) rfl (by show 2 * 0 + _ ≤ _; exact Nat.le_of_eq rfl) (hb hby at_272) (fun _ _ => ⟨rfl, rfl, (Nat.le_of_ble_eq_true rfl), (Nat.le_of_ble_eq_true rfl)⟩)
      dsimp only [Pt.U, Pt.locs, Pt.cells, Pt.slots] at X198 l198 y198 z198 st198 hQ198
      rw [l198, y198, z198] at X198
      obtain ⟨rfl, rfl, E198⟩ := hQ198
      refine own_to st198 ?_
      show own_Go p e below F (T198.setTop (mkF m 275 #[.val (.int le), .val (.long xa), .second, .val (.long ya), .second, .val (.int zc), .val (.int (Int32.ofNat n1n)), .val (.int (Int32.ofNat n2n)), .val (.int (Int32.ofNat n3n)), .val (.ref a1), .val (.ref x41), .val (.ref x45), .val (.ref x50), .val (.ref x56), .val (.ref x63), .val (.ref a71), .val (.ref x114), .val (.ref x162)] [(.int ((1 : Int32)))]))
      refine own_ifeq X198.here hx (hb hby at_275) (by decide) (pc' := 282) (by decide) (pc2 := 278) rfl (fun q => absurd q (by decide)) (fun q199 => ?_)
      refine own_iconst X198.here hx (hb hby at_278) (v := 1) rfl (pc' := 279) rfl ?_
      refine own_goto X198.here hx (hb hby at_279) (by decide) (pc' := 283) (by decide) ?_
      exact own_retZW X198 hx hlk hEL J196 E198 (by decide) hret (hb hby at_283) (fun t ht hC hE => hF t _ _ _ _ (by rw [ht]; exact ⟨rfl, (by simpa using N197)⟩) hC hE (by decide) (by decide))
  · obtain ⟨cq200, kq200, qa200, qb200, qc200⟩ := isOf J103.1 rfl (oa102).1
    obtain ⟨_, _, ⟨T200, L200, k200, n200⟩, -, X200, ⟨Lc200, hQ200, l200, y200, z200⟩, st200⟩ := X102.virtualBack hx (y := (⟨"com/example/kerb/kerb/call/AppendOnlyText", "snapshot", "()Ljava/lang/CharSequence;"⟩ : MethodName)) (z := (⟨"com/example/kerb/kerb/call/AppendOnlyText", "snapshot", "()Ljava/lang/CharSequence;"⟩ : MethodName)) J103.2.1 (mvT J103.1 (hw _ (List.mem_of_getElem? (i := 91) rfl))) (mvT J103.1 (hw _ (List.mem_of_getElem? (i := 92) rfl))) (notFace_of_selects (args := #[]) (mvT J103.1 (hw _ (List.mem_of_getElem? (i := 94) rfl)))) (mvT J103.1 (hw _ (List.mem_of_getElem? (i := 94) rfl))) (mvT J103.1 (hw _ (List.mem_of_getElem? (i := 93) rfl))) (by decide) (backOf (W := 0) (rmN1 l Z a0 hw a71 br102 (n1n + n2n) T102.heap (own_ext_trans EZ f105) oa102 z12 (by omega)) J103.1 (hw _ (List.mem_of_getElem? (i := 95) rfl)) (hw _ (List.mem_of_getElem? (i := 31) rfl)) (by decide) (by decide)) qa200 qc200 (g := (mkF m 196 #[.val (.int le), .val (.long xa), .second, .val (.long ya), .second, .val (.int zc), .val (.int (Int32.ofNat n1n)), .val (.int (Int32.ofNat n2n)), .val (.int (Int32.ofNat n3n)), .val (.ref a1), .val (.ref x41), .val (.ref x45), .val (.ref x50), .val (.ref x56), .val (.ref x63), .val (.ref a71), .unset, .unset] [(.ref a71)])) rfl (by rw [hml]; rfl) (Steps.refl _) (argsL := []) (rest := []) (lenOf pdx27 rfl) rfl (by show 2 * 0 + _ ≤ _; exact Nat.le_of_eq rfl) (hb hby at_196) (fun _ _ => ⟨rfl, rfl, (Nat.le_of_ble_eq_true rfl), (Nat.le_of_ble_eq_true rfl)⟩)
    dsimp only [Pt.U, Pt.locs, Pt.cells, Pt.slots] at X200 l200 y200 z200 st200 hQ200
    rw [l200, y200, z200] at X200
    obtain ⟨x200, rfl, B200, E200, N200, G200⟩ := hQ200
    refine own_to st200 ?_
    show own_Go p e below F (T200.setTop (mkF m 199 #[.val (.int le), .val (.long xa), .second, .val (.long ya), .second, .val (.int zc), .val (.int (Int32.ofNat n1n)), .val (.int (Int32.ofNat n2n)), .val (.int (Int32.ofNat n3n)), .val (.ref a1), .val (.ref x41), .val (.ref x45), .val (.ref x50), .val (.ref x56), .val (.ref x63), .val (.ref a71), .unset, .unset] [(.ref x200)]))
    have f201 := own_ext_trans f105 E200
    have f202 := f106.ext E200
    have f203 := f107.ext E200
    have f204 := f108.ext E200
    have f205 := f109.ext E200
    have f206 := f110.ext E200
    have f207 := oa102.ext E200
    have f208 := va102.ext E200
    have f209 := vo102.ext E200
    have J210 := J103.ext E200
    have N211 := Fr.app N104 N200
    refine own_astore X200.here hx (hb hby at_199) rfl (L' := #[.val (.int le), .val (.long xa), .second, .val (.long ya), .second, .val (.int zc), .val (.int (Int32.ofNat n1n)), .val (.int (Int32.ofNat n2n)), .val (.int (Int32.ofNat n3n)), .val (.ref a1), .val (.ref x41), .val (.ref x45), .val (.ref x50), .val (.ref x56), .val (.ref x63), .val (.ref a71), .val (.ref x200), .unset]) rfl (pc' := 201) rfl ?_
    refine own_aload X200.here hx (hb hby at_201) rfl rfl (pc' := 203) rfl ?_
    refine own_aload X200.here hx (hb hby at_203) rfl rfl (pc' := 205) rfl ?_
    obtain ⟨cq212, kq212, qa212, qb212, qc212⟩ := isOf J210.1 rfl (f207).1
    obtain ⟨_, _, ⟨T212, L212, k212, n212⟩, -, X212, ⟨Lc212, hQ212, l212, y212, z212⟩, st212⟩ := X200.virtualBack hx (y := (⟨"com/example/kerb/kerb/call/AppendOnlyText", "append", "(Ljava/lang/String;)V"⟩ : MethodName)) (z := (⟨"com/example/kerb/kerb/call/AppendOnlyText", "append", "(Ljava/lang/String;)V"⟩ : MethodName)) J210.2.1 (mvT J210.1 (hw _ (List.mem_of_getElem? (i := 40) rfl))) (mvT J210.1 (hw _ (List.mem_of_getElem? (i := 41) rfl))) (notFace_of_selects (args := #[]) (mvT J210.1 (hw _ (List.mem_of_getElem? (i := 43) rfl)))) (mvT J210.1 (hw _ (List.mem_of_getElem? (i := 43) rfl))) (mvT J210.1 (hw _ (List.mem_of_getElem? (i := 42) rfl))) (by decide) (backOf (W := 0) (rmAx l Z a0 hw a71 x50 br102 kb102 cb102 es3l (n1n + n2n) (.int 0) T200.heap (own_ext_trans EZ f201) z0 O1 P5 fm O2 rf O3 O4 O5 f204 f207 f208 gz_a71 le102 (by first | omega | decide) bp102 (by first | omega | (simp; omega)) (fun q => Nat.le_trans EZ.1 (gh102 q))) J210.1 (hw _ (List.mem_of_getElem? (i := 44) rfl)) (hw _ (List.mem_of_getElem? (i := 31) rfl)) (by decide) (by decide)) qa212 qc212 (g := (mkF m 205 #[.val (.int le), .val (.long xa), .second, .val (.long ya), .second, .val (.int zc), .val (.int (Int32.ofNat n1n)), .val (.int (Int32.ofNat n2n)), .val (.int (Int32.ofNat n3n)), .val (.ref a1), .val (.ref x41), .val (.ref x45), .val (.ref x50), .val (.ref x56), .val (.ref x63), .val (.ref a71), .val (.ref x200), .unset] [(.ref x50), (.ref a71)])) rfl (by rw [hml]; rfl) (Steps.refl _) (argsL := [(.ref x50)]) (rest := []) (lenOf pdx26 rfl) rfl (by show 2 * 0 + _ ≤ _; exact Nat.le_of_eq rfl) (hb hby at_205) (fun _ _ => ⟨rfl, rfl, (Nat.le_of_ble_eq_true rfl), (Nat.le_of_ble_eq_true rfl)⟩)
    dsimp only [Pt.U, Pt.locs, Pt.cells, Pt.slots] at X212 l212 y212 z212 st212 hQ212
    rw [l212, y212, z212] at X212
    obtain ⟨rfl, br212, kb212, cb212, co212, N212, K212, gB212, oa212, va212, tk212, bp212, le212, lm212, or212, vo212, lo212, to212, bo212⟩ := hQ212
    refine own_to st212 ?_
    show own_Go p e below F (T212.setTop (mkF m 208 #[.val (.int le), .val (.long xa), .second, .val (.long ya), .second, .val (.int zc), .val (.int (Int32.ofNat n1n)), .val (.int (Int32.ofNat n2n)), .val (.int (Int32.ofNat n3n)), .val (.ref a1), .val (.ref x41), .val (.ref x45), .val (.ref x50), .val (.ref x56), .val (.ref x63), .val (.ref a71), .val (.ref x200), .unset] []))
    have J213 := J210.keep K212 (sfS (Safe.arv J210.1.alike f208 (by decide)) (sfS (Safe.exa J210.1.alike (f207).1 (by decide) (by decide)) sf0))
    have N214 := Fr.app N211 N212
    have eL212 : (n1n + n2n) + es3l.length = n1n + n2n + n3n := by omega
    rw [eL212] at oa212 tk212 le212 lm212
    have f215 := gB212 h0 f201 ge73 gh102
    have f216 := own_SkA f202 (f207).1 f208 K212 (by decide) (hw _ (List.mem_of_getElem? (i := 30) rfl)) (hw _ own_wiS)
    have f217 := own_SkA f203 (f207).1 f208 K212 (by decide) (hw _ (List.mem_of_getElem? (i := 30) rfl)) (hw _ own_wiS)
    have f218 := own_SkA f204 (f207).1 f208 K212 (by decide) (hw _ (List.mem_of_getElem? (i := 30) rfl)) (hw _ own_wiS)
    have f219 := own_SkA f205 (f207).1 f208 K212 (by decide) (hw _ (List.mem_of_getElem? (i := 30) rfl)) (hw _ own_wiS)
    have f220 := own_SkA f206 (f207).1 f208 K212 (by decide) (hw _ (List.mem_of_getElem? (i := 30) rfl)) (hw _ own_wiS)
    have f224 := own_SnkA B200 (f207).1 f208 K212 (hw _ (List.mem_of_getElem? (i := 152) rfl))
    have hT212 : cb212.take (n1n + n2n + n3n) = es1l ++ es2l ++ es3l := by rw [tk212, hT102]
    have gh212 : 0 < cb212.length → h0.size ≤ br212 := by
      rcases or212 with ⟨q1, q2⟩ | q
      · intro z; rw [q1]; exact gh102 (by rw [q2] at z; exact z)
      · exact fun _ => Nat.le_trans f201.1 q
    refine own_aload X212.here hx (hb hby at_208) rfl rfl (pc' := 210) rfl ?_
    have ov212 : Arv Z T212.heap br102 kb102 .char (Int32.ofNat co212.length) (co212.map Value.int) (.int 0) := by rw [lo212]; exact vo212
    have z13 : 0 < n1n + n2n + n3n := by omega
    obtain ⟨cq225, kq225, qa225, qb225, qc225⟩ := isOf J213.1 rfl (oa212).1
    obtain ⟨_, _, ⟨T225, L225, k225, n225⟩, -, X225, ⟨Lc225, hQ225, l225, y225, z225⟩, st225⟩ := X212.virtualBack hx (y := (⟨"com/example/kerb/kerb/call/AppendOnlyText", "snapshot", "()Ljava/lang/CharSequence;"⟩ : MethodName)) (z := (⟨"com/example/kerb/kerb/call/AppendOnlyText", "snapshot", "()Ljava/lang/CharSequence;"⟩ : MethodName)) J213.2.1 (mvT J213.1 (hw _ (List.mem_of_getElem? (i := 91) rfl))) (mvT J213.1 (hw _ (List.mem_of_getElem? (i := 92) rfl))) (notFace_of_selects (args := #[]) (mvT J213.1 (hw _ (List.mem_of_getElem? (i := 94) rfl)))) (mvT J213.1 (hw _ (List.mem_of_getElem? (i := 94) rfl))) (mvT J213.1 (hw _ (List.mem_of_getElem? (i := 93) rfl))) (by decide) (backOf (W := 0) (rmN1 l Z a0 hw a71 br212 (n1n + n2n + n3n) T212.heap (own_ext_trans EZ f215) oa212 z13 (by omega)) J213.1 (hw _ (List.mem_of_getElem? (i := 95) rfl)) (hw _ (List.mem_of_getElem? (i := 31) rfl)) (by decide) (by decide)) qa225 qc225 (g := (mkF m 210 #[.val (.int le), .val (.long xa), .second, .val (.long ya), .second, .val (.int zc), .val (.int (Int32.ofNat n1n)), .val (.int (Int32.ofNat n2n)), .val (.int (Int32.ofNat n3n)), .val (.ref a1), .val (.ref x41), .val (.ref x45), .val (.ref x50), .val (.ref x56), .val (.ref x63), .val (.ref a71), .val (.ref x200), .unset] [(.ref a71)])) rfl (by rw [hml]; rfl) (Steps.refl _) (argsL := []) (rest := []) (lenOf pdx27 rfl) rfl (by show 2 * 0 + _ ≤ _; exact Nat.le_of_eq rfl) (hb hby at_210) (fun _ _ => ⟨rfl, rfl, (Nat.le_of_ble_eq_true rfl), (Nat.le_of_ble_eq_true rfl)⟩)
    dsimp only [Pt.U, Pt.locs, Pt.cells, Pt.slots] at X225 l225 y225 z225 st225 hQ225
    rw [l225, y225, z225] at X225
    obtain ⟨x225, rfl, B225, E225, N225, G225⟩ := hQ225
    refine own_to st225 ?_
    show own_Go p e below F (T225.setTop (mkF m 213 #[.val (.int le), .val (.long xa), .second, .val (.long ya), .second, .val (.int zc), .val (.int (Int32.ofNat n1n)), .val (.int (Int32.ofNat n2n)), .val (.int (Int32.ofNat n3n)), .val (.ref a1), .val (.ref x41), .val (.ref x45), .val (.ref x50), .val (.ref x56), .val (.ref x63), .val (.ref a71), .val (.ref x200), .unset] [(.ref x225)]))
    have f226 := own_ext_trans f215 E225
    have f227 := f216.ext E225
    have f228 := f217.ext E225
    have f229 := f218.ext E225
    have f230 := f219.ext E225
    have f231 := f220.ext E225
    have f232 := f224.ext E225
    have f233 := oa212.ext E225
    have f234 := va212.ext E225
    have f235 := ov212.ext E225
    have J236 := J213.ext E225
    have N237 := Fr.app N214 N225
    refine own_astore X225.here hx (hb hby at_213) rfl (L' := #[.val (.int le), .val (.long xa), .second, .val (.long ya), .second, .val (.int zc), .val (.int (Int32.ofNat n1n)), .val (.int (Int32.ofNat n2n)), .val (.int (Int32.ofNat n3n)), .val (.ref a1), .val (.ref x41), .val (.ref x45), .val (.ref x50), .val (.ref x56), .val (.ref x63), .val (.ref a71), .val (.ref x200), .val (.ref x225)]) rfl (pc' := 215) rfl ?_
    refine own_aload X225.here hx (hb hby at_215) rfl rfl (pc' := 217) rfl ?_
    obtain ⟨cq238, kq238, qa238, qb238, qc238⟩ := isOf (s := s.setVm T63.vm) J236.1 rfl (f232).1
    obtain ⟨_, _, ⟨T238, L238, k238, n238⟩, -, X238, ⟨Lc238, hQ238, l238, y238, z238⟩, st238⟩ := X225.interfaceBack hx (xi := (⟨"java/lang/CharSequence", "length", "()I"⟩ : MethodName)) (y := (⟨"com/example/kerb/kerb/call/AppendOnlyText$Snapshot", "length", "()I"⟩ : MethodName)) J236.2.1 (mvT J236.1 (hw _ (List.mem_of_getElem? (i := 97) rfl))) (mvT J236.1 (hw _ (List.mem_of_getElem? (i := 98) rfl))) (mvT J236.1 (hw _ (List.mem_of_getElem? (i := 99) rfl))) (mvT J236.1 (hw _ (List.mem_of_getElem? (i := 162) rfl))) (mvT J236.1 (hw _ (List.mem_of_getElem? (i := 163) rfl))) (mvT J236.1 (hw _ (List.mem_of_getElem? (i := 164) rfl))) (mvT J236.1 (hw _ (List.mem_of_getElem? (i := 165) rfl))) (mvT J236.1 (hw _ (List.mem_of_getElem? (i := 166) rfl))) (by decide) (backOf (W := 0) (rmNl l Z a0 hw x200 br102 (n1n + n2n) T225.heap f232) J236.1 (hw _ (List.mem_of_getElem? (i := 167) rfl)) (hw _ (List.mem_of_getElem? (i := 153) rfl)) (by decide) (by decide)) qa238 qb238 qc238 (g := (mkF m 217 #[.val (.int le), .val (.long xa), .second, .val (.long ya), .second, .val (.int zc), .val (.int (Int32.ofNat n1n)), .val (.int (Int32.ofNat n2n)), .val (.int (Int32.ofNat n3n)), .val (.ref a1), .val (.ref x41), .val (.ref x45), .val (.ref x50), .val (.ref x56), .val (.ref x63), .val (.ref a71), .val (.ref x200), .val (.ref x225)] [(.ref x200)])) rfl (by rw [hml]; rfl) (Steps.refl _) (argsL := []) (rest := []) (lenOf pdx10 rfl) rfl (by show 2 * 0 + _ ≤ _; exact Nat.le_of_eq rfl) (hb hby at_217) (fun _ _ => ⟨rfl, rfl, (Nat.le_of_ble_eq_true rfl), (Nat.le_of_ble_eq_true rfl)⟩)
    dsimp only [Pt.U, Pt.locs, Pt.cells, Pt.slots] at X238 l238 y238 z238 st238 hQ238
    rw [l238, y238, z238] at X238
    obtain ⟨rfl, N238, E238⟩ := hQ238
    refine own_to st238 ?_
    show own_Go p e below F (T238.setTop (mkF m 222 #[.val (.int le), .val (.long xa), .second, .val (.long ya), .second, .val (.int zc), .val (.int (Int32.ofNat n1n)), .val (.int (Int32.ofNat n2n)), .val (.int (Int32.ofNat n3n)), .val (.ref a1), .val (.ref x41), .val (.ref x45), .val (.ref x50), .val (.ref x56), .val (.ref x63), .val (.ref a71), .val (.ref x200), .val (.ref x225)] [(.int (Int32.ofNat (n1n + n2n)))]))
    have N239 := Fr.app N237 N238
    refine own_iload X238.here hx (hb hby at_222) rfl (pc' := 224) rfl ?_
    refine own_iload X238.here hx (hb hby at_224) rfl (pc' := 226) rfl ?_
    refine own_iadd X238.here hx (hb hby at_226) (pc' := 227) rfl ?_
    rw [own_ofadd]
    show own_Go p e below F (T238.setTop (mkF m 227 #[.val (.int le), .val (.long xa), .second, .val (.long ya), .second, .val (.int zc), .val (.int (Int32.ofNat n1n)), .val (.int (Int32.ofNat n2n)), .val (.int (Int32.ofNat n3n)), .val (.ref a1), .val (.ref x41), .val (.ref x45), .val (.ref x50), .val (.ref x56), .val (.ref x63), .val (.ref a71), .val (.ref x200), .val (.ref x225)] [(.int (Int32.ofNat (n1n + n2n))), (.int (Int32.ofNat (n1n + n2n)))]))
    refine own_icmpne X238.here hx (hb hby at_227) (by decide) (pc' := 282) (by decide) (pc2 := 230) rfl (fun q => absurd rfl q) (fun q240 => ?_)
    refine own_aload X238.here hx (hb hby at_230) rfl rfl (pc' := 232) rfl ?_
    refine own_aload X238.here hx (hb hby at_232) rfl rfl (pc' := 234) rfl ?_
    obtain ⟨cq241, kq241, qa241, qb241, qc241⟩ := isOf (s := s.setVm T63.vm) J236.1 E238 (f232).1
    obtain ⟨_, _, ⟨T241, L241, k241, n241⟩, -, X241, ⟨Lc241, hQ241, l241, y241, z241⟩, st241⟩ := X238.interfaceBack hx (xi := (⟨"java/lang/CharSequence", "toString", "()Ljava/lang/String;"⟩ : MethodName)) (y := (⟨"com/example/kerb/kerb/call/AppendOnlyText$Snapshot", "toString", "()Ljava/lang/String;"⟩ : MethodName)) J236.2.1 (mvT J236.1 (hw _ (List.mem_of_getElem? (i := 104) rfl))) (mvT J236.1 (hw _ (List.mem_of_getElem? (i := 105) rfl))) (mvT J236.1 (hw _ (List.mem_of_getElem? (i := 106) rfl))) (mvT J236.1 (hw _ (List.mem_of_getElem? (i := 168) rfl))) (mvT J236.1 (hw _ (List.mem_of_getElem? (i := 169) rfl))) (mvT J236.1 (hw _ (List.mem_of_getElem? (i := 170) rfl))) (mvT J236.1 (hw _ (List.mem_of_getElem? (i := 171) rfl))) (mvT J236.1 (hw _ (List.mem_of_getElem? (i := 166) rfl))) (by decide) (backOf (W := 1) (rmNt l Z a0 hw x200 br102 kb102 co212 (.int 0) (n1n + n2n) T225.heap (own_ext_trans EZ f226) z0 O1 P5 fm O2 rf O3 O4 O5 f232 f235 (by omega) bo212 (by omega) (by omega) z12) J236.1 (hw _ (List.mem_of_getElem? (i := 172) rfl)) (hw _ (List.mem_of_getElem? (i := 153) rfl)) (by decide) (by decide)) qa241 qb241 qc241 (g := (mkF m 234 #[.val (.int le), .val (.long xa), .second, .val (.long ya), .second, .val (.int zc), .val (.int (Int32.ofNat n1n)), .val (.int (Int32.ofNat n2n)), .val (.int (Int32.ofNat n3n)), .val (.ref a1), .val (.ref x41), .val (.ref x45), .val (.ref x50), .val (.ref x56), .val (.ref x63), .val (.ref a71), .val (.ref x200), .val (.ref x225)] [(.ref x200), (.ref x56)])) rfl (by rw [hml]; rfl) (Steps.refl _) (argsL := []) (rest := [(.ref x56)]) (lenOf pdx28 rfl) rfl (by show 2 * 0 + _ ≤ _; exact Nat.le_of_eq rfl) (hb hby at_234) (fun _ _ => ⟨rfl, E238, (Nat.le_of_ble_eq_true rfl), (Nat.le_of_ble_eq_true rfl)⟩)
    dsimp only [Pt.U, Pt.locs, Pt.cells, Pt.slots] at X241 l241 y241 z241 st241 hQ241
    rw [l241, y241, z241] at X241
    obtain ⟨x241, rfl, S241, E241, N241⟩ := hQ241
    refine own_to st241 ?_
    show own_Go p e below F (T241.setTop (mkF m 239 #[.val (.int le), .val (.long xa), .second, .val (.long ya), .second, .val (.int zc), .val (.int (Int32.ofNat n1n)), .val (.int (Int32.ofNat n2n)), .val (.int (Int32.ofNat n3n)), .val (.ref a1), .val (.ref x41), .val (.ref x45), .val (.ref x50), .val (.ref x56), .val (.ref x63), .val (.ref a71), .val (.ref x200), .val (.ref x225)] [(.ref x241), (.ref x56)]))
    have f242 := own_ext_trans f226 E241
    have f243 := f227.ext E241
    have f244 := f228.ext E241
    have f245 := f229.ext E241
    have f246 := f230.ext E241
    have f247 := f231.ext E241
    have f248 := f232.ext E241
    have f249 := f233.ext E241
    have f250 := f234.ext E241
    have f251 := f235.ext E241
    have f252 := B225.ext E241
    have J253 := J236.ext E241
    have N254 := Fr.app N239 N241
    obtain ⟨cq255, kq255, qa255, qb255, qc255⟩ := isOf J253.1 rfl (f246).exa
    obtain ⟨_, _, ⟨T255, L255, k255, n255⟩, -, X255, ⟨Lc255, hQ255, l255, y255, z255⟩, st255⟩ := X241.virtualBack hx (y := (⟨"java/lang/String", "equals", "(Ljava/lang/Object;)Z"⟩ : MethodName)) (z := (⟨"java/lang/String", "equals", "(Ljava/lang/Object;)Z"⟩ : MethodName)) J253.2.1 (mvT J253.1 (hw _ (List.mem_of_getElem? (i := 112) rfl))) (mvT J253.1 (hw _ (List.mem_of_getElem? (i := 113) rfl))) (notFace_of_selects (args := #[]) (mvT J253.1 (hw _ (List.mem_of_getElem? (i := 115) rfl)))) (mvT J253.1 (hw _ (List.mem_of_getElem? (i := 115) rfl))) (mvT J253.1 (hw _ (List.mem_of_getElem? (i := 114) rfl))) (by decide) (own_eqS (s := s.setVm T63.vm) (W := 0) J253.1 hw f246 S241 (by rw [to212, hT102, hE2]) (O1.ext (own_ext_trans EZ f242)) P5 (by decide) (by decide)) qa255 qc255 (g := (mkF m 239 #[.val (.int le), .val (.long xa), .second, .val (.long ya), .second, .val (.int zc), .val (.int (Int32.ofNat n1n)), .val (.int (Int32.ofNat n2n)), .val (.int (Int32.ofNat n3n)), .val (.ref a1), .val (.ref x41), .val (.ref x45), .val (.ref x50), .val (.ref x56), .val (.ref x63), .val (.ref a71), .val (.ref x200), .val (.ref x225)] [(.ref x241), (.ref x56)])) rfl (by rw [hml]; rfl) (Steps.refl _) (argsL := [(.ref x241)]) (rest := []) (lenOf pdx29 rfl) rfl (by show 2 * 0 + _ ≤ _; exact Nat.le_of_eq rfl) (hb hby at_239) (fun _ _ => ⟨rfl, rfl, (Nat.le_of_ble_eq_true rfl), (Nat.le_of_ble_eq_true rfl)⟩)
    dsimp only [Pt.U, Pt.locs, Pt.cells, Pt.slots] at X255 l255 y255 z255 st255 hQ255
    rw [l255, y255, z255] at X255
    obtain ⟨rfl, rfl, E255⟩ := hQ255
    refine own_to st255 ?_
    show own_Go p e below F (T255.setTop (mkF m 242 #[.val (.int le), .val (.long xa), .second, .val (.long ya), .second, .val (.int zc), .val (.int (Int32.ofNat n1n)), .val (.int (Int32.ofNat n2n)), .val (.int (Int32.ofNat n3n)), .val (.ref a1), .val (.ref x41), .val (.ref x45), .val (.ref x50), .val (.ref x56), .val (.ref x63), .val (.ref a71), .val (.ref x200), .val (.ref x225)] [(.int ((1 : Int32)))]))
    refine own_ifeq X255.here hx (hb hby at_242) (by decide) (pc' := 282) (by decide) (pc2 := 245) rfl (fun q => absurd q (by decide)) (fun q256 => ?_)
    refine own_aload X255.here hx (hb hby at_245) rfl rfl (pc' := 247) rfl ?_
    obtain ⟨cq257, kq257, qa257, qb257, qc257⟩ := isOf (s := s.setVm T63.vm) J253.1 E255 (f252).1
    obtain ⟨_, _, ⟨T257, L257, k257, n257⟩, -, X257, ⟨Lc257, hQ257, l257, y257, z257⟩, st257⟩ := X255.interfaceBack hx (xi := (⟨"java/lang/CharSequence", "length", "()I"⟩ : MethodName)) (y := (⟨"com/example/kerb/kerb/call/AppendOnlyText$Snapshot", "length", "()I"⟩ : MethodName)) J253.2.1 (mvT J253.1 (hw _ (List.mem_of_getElem? (i := 97) rfl))) (mvT J253.1 (hw _ (List.mem_of_getElem? (i := 98) rfl))) (mvT J253.1 (hw _ (List.mem_of_getElem? (i := 99) rfl))) (mvT J253.1 (hw _ (List.mem_of_getElem? (i := 162) rfl))) (mvT J253.1 (hw _ (List.mem_of_getElem? (i := 163) rfl))) (mvT J253.1 (hw _ (List.mem_of_getElem? (i := 164) rfl))) (mvT J253.1 (hw _ (List.mem_of_getElem? (i := 165) rfl))) (mvT J253.1 (hw _ (List.mem_of_getElem? (i := 166) rfl))) (by decide) (backOf (W := 0) (rmNl l Z a0 hw x225 br212 (n1n + n2n + n3n) T241.heap f252) J253.1 (hw _ (List.mem_of_getElem? (i := 167) rfl)) (hw _ (List.mem_of_getElem? (i := 153) rfl)) (by decide) (by decide)) qa257 qb257 qc257 (g := (mkF m 247 #[.val (.int le), .val (.long xa), .second, .val (.long ya), .second, .val (.int zc), .val (.int (Int32.ofNat n1n)), .val (.int (Int32.ofNat n2n)), .val (.int (Int32.ofNat n3n)), .val (.ref a1), .val (.ref x41), .val (.ref x45), .val (.ref x50), .val (.ref x56), .val (.ref x63), .val (.ref a71), .val (.ref x200), .val (.ref x225)] [(.ref x225)])) rfl (by rw [hml]; rfl) (Steps.refl _) (argsL := []) (rest := []) (lenOf pdx10 rfl) rfl (by show 2 * 0 + _ ≤ _; exact Nat.le_of_eq rfl) (hb hby at_247) (fun _ _ => ⟨rfl, E255, (Nat.le_of_ble_eq_true rfl), (Nat.le_of_ble_eq_true rfl)⟩)
    dsimp only [Pt.U, Pt.locs, Pt.cells, Pt.slots] at X257 l257 y257 z257 st257 hQ257
    rw [l257, y257, z257] at X257
    obtain ⟨rfl, N257, E257⟩ := hQ257
    refine own_to st257 ?_
    show own_Go p e below F (T257.setTop (mkF m 252 #[.val (.int le), .val (.long xa), .second, .val (.long ya), .second, .val (.int zc), .val (.int (Int32.ofNat n1n)), .val (.int (Int32.ofNat n2n)), .val (.int (Int32.ofNat n3n)), .val (.ref a1), .val (.ref x41), .val (.ref x45), .val (.ref x50), .val (.ref x56), .val (.ref x63), .val (.ref a71), .val (.ref x200), .val (.ref x225)] [(.int (Int32.ofNat (n1n + n2n + n3n)))]))
    have N258 := Fr.app N254 N257
    refine own_iload X257.here hx (hb hby at_252) rfl (pc' := 254) rfl ?_
    refine own_iload X257.here hx (hb hby at_254) rfl (pc' := 256) rfl ?_
    refine own_iadd X257.here hx (hb hby at_256) (pc' := 257) rfl ?_
    rw [own_ofadd]
    show own_Go p e below F (T257.setTop (mkF m 257 #[.val (.int le), .val (.long xa), .second, .val (.long ya), .second, .val (.int zc), .val (.int (Int32.ofNat n1n)), .val (.int (Int32.ofNat n2n)), .val (.int (Int32.ofNat n3n)), .val (.ref a1), .val (.ref x41), .val (.ref x45), .val (.ref x50), .val (.ref x56), .val (.ref x63), .val (.ref a71), .val (.ref x200), .val (.ref x225)] [(.int (Int32.ofNat (n1n + n2n))), (.int (Int32.ofNat (n1n + n2n + n3n)))]))
    refine own_iload X257.here hx (hb hby at_257) rfl (pc' := 259) rfl ?_
    refine own_iadd X257.here hx (hb hby at_259) (pc' := 260) rfl ?_
    rw [own_ofadd]
    show own_Go p e below F (T257.setTop (mkF m 260 #[.val (.int le), .val (.long xa), .second, .val (.long ya), .second, .val (.int zc), .val (.int (Int32.ofNat n1n)), .val (.int (Int32.ofNat n2n)), .val (.int (Int32.ofNat n3n)), .val (.ref a1), .val (.ref x41), .val (.ref x45), .val (.ref x50), .val (.ref x56), .val (.ref x63), .val (.ref a71), .val (.ref x200), .val (.ref x225)] [(.int (Int32.ofNat (n1n + n2n + n3n))), (.int (Int32.ofNat (n1n + n2n + n3n)))]))
    refine own_icmpne X257.here hx (hb hby at_260) (by decide) (pc' := 282) (by decide) (pc2 := 263) rfl (fun q => absurd rfl q) (fun q259 => ?_)
    refine own_aload X257.here hx (hb hby at_263) rfl rfl (pc' := 265) rfl ?_
    refine own_aload X257.here hx (hb hby at_265) rfl rfl (pc' := 267) rfl ?_
    obtain ⟨cq260, kq260, qa260, qb260, qc260⟩ := isOf (s := s.setVm T63.vm) J253.1 E257 (f252).1
    obtain ⟨_, _, ⟨T260, L260, k260, n260⟩, -, X260, ⟨Lc260, hQ260, l260, y260, z260⟩, st260⟩ := X257.interfaceBack hx (xi := (⟨"java/lang/CharSequence", "toString", "()Ljava/lang/String;"⟩ : MethodName)) (y := (⟨"com/example/kerb/kerb/call/AppendOnlyText$Snapshot", "toString", "()Ljava/lang/String;"⟩ : MethodName)) J253.2.1 (mvT J253.1 (hw _ (List.mem_of_getElem? (i := 104) rfl))) (mvT J253.1 (hw _ (List.mem_of_getElem? (i := 105) rfl))) (mvT J253.1 (hw _ (List.mem_of_getElem? (i := 106) rfl))) (mvT J253.1 (hw _ (List.mem_of_getElem? (i := 168) rfl))) (mvT J253.1 (hw _ (List.mem_of_getElem? (i := 169) rfl))) (mvT J253.1 (hw _ (List.mem_of_getElem? (i := 170) rfl))) (mvT J253.1 (hw _ (List.mem_of_getElem? (i := 171) rfl))) (mvT J253.1 (hw _ (List.mem_of_getElem? (i := 166) rfl))) (by decide) (backOf (W := 1) (rmNt l Z a0 hw x225 br212 kb212 cb212 (.int 0) (n1n + n2n + n3n) T241.heap (own_ext_trans EZ f242) z0 O1 P5 fm O2 rf O3 O4 O5 f252 f250 (by omega) bp212 le212 (by omega) z13) J253.1 (hw _ (List.mem_of_getElem? (i := 172) rfl)) (hw _ (List.mem_of_getElem? (i := 153) rfl)) (by decide) (by decide)) qa260 qb260 qc260 (g := (mkF m 267 #[.val (.int le), .val (.long xa), .second, .val (.long ya), .second, .val (.int zc), .val (.int (Int32.ofNat n1n)), .val (.int (Int32.ofNat n2n)), .val (.int (Int32.ofNat n3n)), .val (.ref a1), .val (.ref x41), .val (.ref x45), .val (.ref x50), .val (.ref x56), .val (.ref x63), .val (.ref a71), .val (.ref x200), .val (.ref x225)] [(.ref x225), (.ref x63)])) rfl (by rw [hml]; rfl) (Steps.refl _) (argsL := []) (rest := [(.ref x63)]) (lenOf pdx28 rfl) rfl (by show 2 * 0 + _ ≤ _; exact Nat.le_of_eq rfl) (hb hby at_267) (fun _ _ => ⟨rfl, E257, (Nat.le_of_ble_eq_true rfl), (Nat.le_of_ble_eq_true rfl)⟩)
    dsimp only [Pt.U, Pt.locs, Pt.cells, Pt.slots] at X260 l260 y260 z260 st260 hQ260
    rw [l260, y260, z260] at X260
    obtain ⟨x260, rfl, S260, E260, N260⟩ := hQ260
    refine own_to st260 ?_
    show own_Go p e below F (T260.setTop (mkF m 272 #[.val (.int le), .val (.long xa), .second, .val (.long ya), .second, .val (.int zc), .val (.int (Int32.ofNat n1n)), .val (.int (Int32.ofNat n2n)), .val (.int (Int32.ofNat n3n)), .val (.ref a1), .val (.ref x41), .val (.ref x45), .val (.ref x50), .val (.ref x56), .val (.ref x63), .val (.ref a71), .val (.ref x200), .val (.ref x225)] [(.ref x260), (.ref x63)]))
    have f261 := own_ext_trans f242 E260
    have f262 := f243.ext E260
    have f263 := f244.ext E260
    have f264 := f245.ext E260
    have f265 := f246.ext E260
    have f266 := f247.ext E260
    have f267 := f248.ext E260
    have f268 := f249.ext E260
    have f269 := f250.ext E260
    have f270 := f251.ext E260
    have f271 := f252.ext E260
    have J272 := J253.ext E260
    have N273 := Fr.app N258 N260
    obtain ⟨cq274, kq274, qa274, qb274, qc274⟩ := isOf J272.1 rfl (f266).exa
    obtain ⟨_, _, ⟨T274, L274, k274, n274⟩, -, X274, ⟨Lc274, hQ274, l274, y274, z274⟩, st274⟩ := X260.virtualBack hx (y := (⟨"java/lang/String", "equals", "(Ljava/lang/Object;)Z"⟩ : MethodName)) (z := (⟨"java/lang/String", "equals", "(Ljava/lang/Object;)Z"⟩ : MethodName)) J272.2.1 (mvT J272.1 (hw _ (List.mem_of_getElem? (i := 112) rfl))) (mvT J272.1 (hw _ (List.mem_of_getElem? (i := 113) rfl))) (notFace_of_selects (args := #[]) (mvT J272.1 (hw _ (List.mem_of_getElem? (i := 115) rfl)))) (mvT J272.1 (hw _ (List.mem_of_getElem? (i := 115) rfl))) (mvT J272.1 (hw _ (List.mem_of_getElem? (i := 114) rfl))) (by decide) (own_eqS (s := s.setVm T63.vm) (W := 0) J272.1 hw f266 S260 (by rw [hT212, hE3]) (O1.ext (own_ext_trans EZ f261)) P5 (by decide) (by decide)) qa274 qc274 (g := (mkF m 272 #[.val (.int le), .val (.long xa), .second, .val (.long ya), .second, .val (.int zc), .val (.int (Int32.ofNat n1n)), .val (.int (Int32.ofNat n2n)), .val (.int (Int32.ofNat n3n)), .val (.ref a1), .val (.ref x41), .val (.ref x45), .val (.ref x50), .val (.ref x56), .val (.ref x63), .val (.ref a71), .val (.ref x200), .val (.ref x225)] [(.ref x260), (.ref x63)])) rfl (by rw [hml]; rfl) (Steps.refl _) (argsL := [(.ref x260)]) (rest := []) (lenOf pdx29 rfl) rfl (by show 2 * 0 + _ ≤ _; exact Nat.le_of_eq rfl) (hb hby at_272) (fun _ _ => ⟨rfl, rfl, (Nat.le_of_ble_eq_true rfl), (Nat.le_of_ble_eq_true rfl)⟩)
    dsimp only [Pt.U, Pt.locs, Pt.cells, Pt.slots] at X274 l274 y274 z274 st274 hQ274
    rw [l274, y274, z274] at X274
    obtain ⟨rfl, rfl, E274⟩ := hQ274
    refine own_to st274 ?_
    show own_Go p e below F (T274.setTop (mkF m 275 #[.val (.int le), .val (.long xa), .second, .val (.long ya), .second, .val (.int zc), .val (.int (Int32.ofNat n1n)), .val (.int (Int32.ofNat n2n)), .val (.int (Int32.ofNat n3n)), .val (.ref a1), .val (.ref x41), .val (.ref x45), .val (.ref x50), .val (.ref x56), .val (.ref x63), .val (.ref a71), .val (.ref x200), .val (.ref x225)] [(.int ((1 : Int32)))]))
    refine own_ifeq X274.here hx (hb hby at_275) (by decide) (pc' := 282) (by decide) (pc2 := 278) rfl (fun q => absurd q (by decide)) (fun q275 => ?_)
    refine own_iconst X274.here hx (hb hby at_278) (v := 1) rfl (pc' := 279) rfl ?_
    refine own_goto X274.here hx (hb hby at_279) (by decide) (pc' := 283) (by decide) ?_
    exact own_retZW X274 hx hlk hEL J272 E274 (by decide) hret (hb hby at_283) (fun t ht hC hE => hF t _ _ _ _ (by rw [ht]; exact ⟨rfl, (by simpa using N273)⟩) hC hE (by decide) (by decide))
set_option maxRecDepth 65536 in
set_option maxHeartbeats 40000000 in
theorem comes_1 {Post : Tables → Env → Array Value → State → Outcome → State → Prop} (hpost : ∀ tb e args s v u, (limb_1_1.after args s (.returned v) u = true ∧ limb_1_2.after args s (.returned v) u = true ∧ True) → FramedW s (.returned v) u (Jvm.fieldLocs frame_1_writes args s ++ Jvm.arrayLocs frame_1_arrays args s ++ Jvm.staticLocs frame_1_statics s) 88 2624 → Post tb e args s (.returned v) u) :
    ArmFor flags0 classFile x code maxLocals ret World_1 tables_1 room_1 Calls_1 rest_1 Pre_1 Post := by
  intro l hfl _ _ p e ha hc hk s m args below hf hA hF happ hP
  obtain ⟨hcalls, hrest, hpre⟩ := hP
  obtain ⟨-, -, -, hnamed, -, -, -, hat⟩ := (Spec.applies_iff hf).mp happ
  obtain ⟨hg, hn⟩ := and_e (Cond.before_iff.mp (show (Jvm.Cond.and given_1 narrow_1).before args s = true from hpre))
  obtain ⟨g1, g2⟩ := and_e hg
  obtain ⟨w0, w1, w2, w3, rfl⟩ : ∃ w0 w1 w2 w3 : Value, args = #[w0, w1, w2, w3] := by
    have hs : args.size = 4 := by simpa [Cond.value, given_1] using g1
    obtain ⟨L⟩ := args
    match L, hs with
    | [w0, w1, w2, w3], _ => exact ⟨w0, w1, w2, w3, rfl⟩
  have hw := fun d (hd : d ∈ tables_1) => atoms_spec (ws := Jvm.Cond.code x code maxLocals ret :: tables_1) hat d (List.mem_cons_of_mem _ hd)
  have hfit : Fit s := fun {y c} hc i hi => by
    obtain ⟨ha, rfl⟩ := Array.getElem?_eq_some_iff.mp hc
    have q := List.all_eq_true.mp ((Array.all_eq_true_iff_forall_mem.mp hF) _ (Array.getElem_mem ha)) i (List.mem_range.mpr hi)
    simpa [Array.getElem?_eq_getElem hi] using q
  obtain ⟨a0, g3⟩ := and_e g2
  obtain ⟨i0, b0⟩ := is_v a0
  obtain rfl : w0 = (.int i0) := Option.some.inj b0
  obtain ⟨a1, g4⟩ := and_e g3
  obtain ⟨i1, b1⟩ := isL_v a1
  obtain rfl : w1 = (.long i1) := Option.some.inj b1
  obtain ⟨a2, g5⟩ := and_e g4
  obtain ⟨i2, b2⟩ := isL_v a2
  obtain rfl : w2 = (.long i2) := Option.some.inj b2
  obtain ⟨i3, b3⟩ := is_v g5
  obtain rfl : w3 = (.int i3) := Option.some.inj b3
  obtain ⟨hsets, -⟩ := atoms_of _ (rest_1_c_eq ▸ (show rest_1_c.before _ s = true from hrest))
  have hz0 := not_v (Cond.before_iff.mp (hsets _ (List.mem_of_getElem? (i := 2) rfl)))
  obtain ⟨z0, ez0⟩ := is_v (Cond.before_iff.mp (hsets _ (List.mem_of_getElem? (i := 1) rfl)))
  have O1 : Sta s s.heap "java/lang/String" "COMPACT_STRINGS" "Z" (.int z0) := Sta.start ez0 (Or.inl (hsets _ (List.mem_of_getElem? (i := 0) rfl)))
  obtain ⟨fm, efm, rf⟩ := isR_v (Cond.before_iff.mp (hsets _ (List.mem_of_getElem? (i := 8) rfl)))
  have O2 : Sta s s.heap "jdk/internal/util/Preconditions" "SIOOBE_FORMATTER" "Ljava/util/function/BiFunction;" fm := Sta.start efm (Or.inl (hsets _ (List.mem_of_getElem? (i := 7) rfl)))
  have P5 : ¬ (z0 = (0 : Int32)) := gotF (Cond.eq_ints ez0 (Term.int_eval (0))) hz0
  have hcw : Jvm.Lit.compactW.before _ s = true := hsets _ (List.mem_of_getElem? (i := 2) rfl)
  have O3 : Sta s s.heap "java/lang/StringUTF16" "$assertionsDisabled" "Z" (.int 1) := Sta.start (eqv_i (Term.int_eval (1)) (Cond.before_iff.mp (hsets _ (List.mem_of_getElem? (i := 12) rfl)))) (Or.inl (hsets _ (List.mem_of_getElem? (i := 11) rfl)))
  have O4 : Sta s s.heap "java/lang/StringUTF16" "HI_BYTE_SHIFT" "I" (.int 0) := Sta.start (eqv_i (Term.int_eval (0)) (Cond.before_iff.mp (hsets _ (List.mem_of_getElem? (i := 15) rfl)))) (Or.inl (hsets _ (List.mem_of_getElem? (i := 14) rfl)))
  have O5 : Sta s s.heap "java/lang/StringUTF16" "LO_BYTE_SHIFT" "I" (.int 8) := Sta.start (eqv_i (Term.int_eval (8)) (Cond.before_iff.mp (hsets _ (List.mem_of_getElem? (i := 18) rfl)))) (Or.inl (hsets _ (List.mem_of_getElem? (i := 17) rfl)))
  obtain ⟨hn1, hn2⟩ := and_e hn
  obtain ⟨hn3, hn4⟩ := and_e hn2
  obtain ⟨nn, kn, en, AN⟩ := own_noneA hfit hn1 hn4
  have O6 : Sta s s.heap "com/example/kerb/kerb/call/AppendOnlyText" "NONE" "[C" (.ref nn) := Sta.start en (Or.inr ⟨(hw _ (List.mem_of_getElem? (i := 31) rfl)), (hw _ (List.mem_of_getElem? (i := 37) rfl))⟩)
  have hEL : EW s _ EL := EW.cons (hw _ (List.mem_of_getElem? (i := 96) rfl)) (by decide) (EW.cons (hw _ (List.mem_of_getElem? (i := 21) rfl)) (by decide) (EW.nil))
  have hC : CHv s EL s.vm s.heap := CHv.start hEL (fun q hq => by
    simp only [EL, List.mem_cons, List.not_mem_nil, or_false] at hq
    exact hcalls.1 q (by rcases hq with rfl | rfl <;> simp [consts_1])) hcw (hw _ (by decide +kernel)) (hw _ own_wiS)
  obtain ⟨n, o, h1, h2, h3, _, L, rfl, ⟨rfl, N⟩, -, hq⟩ := rmL l s _ hw hEL i0 i1 i2 i3 s.heap (own_ext_refl _) z0 O1 P5 fm O2 rf O3 O4 O5 nn O6 kn AN p e ha hc hk s m _ below hf ((Spec.applies_iff_loose hf).mp happ).1 ⟨rfl, State.Warmed39.refl s, rfl, hC, fun _ q => nomatch q⟩ trivial
  refine ⟨n, _, h1, h2, h3, hpost _ _ _ _ _ _ ⟨Cond.after_iff.mpr rfl, Cond.after_iff.mpr (eq_i res_at (Term.int_eval (1)) rfl), trivial⟩ ⟨hq.1, hq.2.1, hq.2.2.1, hq.2.2.2.sift fun y hy => Or.inr (N y hy)⟩⟩
theorem main_1_1 : Claimed_1_1 := comes_1 fun _ _ _ _ _ _ h hF => ⟨h.1, hF⟩
theorem main_1_2 : Claimed_1_2 := comes_1 fun _ _ _ _ _ _ h hF => ⟨h.2.1, hF⟩
end Jvm.Pilot.@@N@@
namespace Jvm.Pilot.@@N@@
open Jvm Jvm.ClassFile Sem Op Lib Jvm.Free Jvm.Stand Jvm.Pilot.@@N@@.Jvm.D
/-! MADE BY PROGRAM (witnessworld.py) out of the Statement's table words and the real class files: 24 classes; the members and pool entries that the words name. The judged class is class 1, her method 1. -/
namespace start1
open Jvm.ClassFile
def u (s : String) : CpInfo := .utf8 (stringToUtf16 s)
/-- a pool by its gaps: so many unusable entries, then the entry; so many at the end -/
def gap : Nat → List CpInfo → List CpInfo
  | 0, r => r
  | n + 1, r => .unusable :: gap n r
def poolList (es : List (Nat × CpInfo)) (last : Nat) : List CpInfo := es.foldr (fun e r => gap e.1 (e.2 :: r)) (gap last [])
def pool (es : List (Nat × CpInfo)) (last : Nat) : Array CpInfo := ⟨poolList es last⟩
def fileOf (pool : Array CpInfo) (this : Nat) (attrs : Array Attribute := #[]) (ms : Array MethodInfo := #[]) (fl : Nat := 33) (sup : Nat := 0) (ifs : Array Nat := #[]) (fds : Array FieldInfo := #[]) : ClassFile where
  minorVersion := 0
  majorVersion := 65
  constantPool := pool
  accessFlags := fl
  thisClass := this
  superClass := sup
  interfaces := ifs
  fields := fds
  methods := ms
  attributes := attrs
def plain (name : String) (sup : Option ClassId) : Class where
  name := name
  kind := .ordinary
  loader := none
  accessFlags := 33
  super := sup
  interfaces := #[]
  cf := none
  fields := #[]
  methods := #[]
  instanceTypes := #[]
  staticTypes := #[]
  resolved := #[]
  callSites := []
  init := .initialized
  statics := none
  mirror := none

def pool0 : Array CpInfo := pool [(5, u "<init>"), (0, u "()V"), (1, .class_ 10), (1, u "java/lang/Object")] 113

def k0c0 : Code := { maxStack := 0, maxLocals := 1, code := object_method_1_code, exceptionTable := #[], attributes := #[] }
def k0m0 : Method := { name := "<init>", desc := "()V", sig := { parameters := [], returnType := none }, accessFlags := 1, code := some k0c0 }
/-- java/lang/Object -/
def k0 : Class := { plain "java/lang/Object" none with
  accessFlags := 33
  interfaces := #[]
  cf := some (fileOf pool0 8 #[] #[{ accessFlags := 1, nameIndex := 5, descriptorIndex := 6, attributes := #[] }] 33 0 #[] #[])
  fields := #[]
  methods := #[k0m0]
  instanceTypes := #[]
  staticTypes := #[]
  resolved := Array.replicate 124 none
  statics := none }

def pool1 : Array CpInfo := pool [(2, .class_ 4), (0, .nameAndType 5 6), (0, u "java/lang/Object"), (0, u "<init>"), (0, u "()V"), (0, .methodref 8 9), (0, .class_ 10), (0, .nameAndType 11 12), (0, u "com/example/kerb/kerb/call/AppendOnlyTextSnapshotPinLaw"), (0, u "piece"), (0, u "([CII)Ljava/lang/String;"), (0, .methodref 8 14), (0, .nameAndType 15 16), (0, u "prefix"), (0, u "([CI)Ljava/lang/String;"), (0, .class_ 18), (0, u "com/example/kerb/kerb/call/AppendOnlyText"), (0, .methodref 17 3), (0, .methodref 17 21), (0, .nameAndType 22 23), (0, u "append"), (0, u "(Ljava/lang/String;)V"), (0, .methodref 17 25), (0, .nameAndType 26 27), (0, u "snapshot"), (0, u "()Ljava/lang/CharSequence;"), (0, .interfaceMethodref 29 30), (0, .class_ 31), (0, .nameAndType 32 33), (0, u "java/lang/CharSequence"), (0, u "length"), (0, u "()I"), (0, .interfaceMethodref 29 35), (0, .nameAndType 36 37), (0, u "toString"), (0, u "()Ljava/lang/String;"), (0, .methodref 39 40), (0, .class_ 41), (0, .nameAndType 42 43), (0, u "java/lang/String"), (0, u "equals"), (0, u "(Ljava/lang/Object;)Z"), (0, .methodref 39 45), (0, .nameAndType 5 46), (0, u "([C)V"), (2, u "law"), (0, u "(IJJI)Z")] 5

def k1m0 : Method := { name := "<init>", desc := "()V", sig := { parameters := [], returnType := none }, accessFlags := 1, code := none }
def k1c1 : Code := { maxStack := 5, maxLocals := 18, code := code, exceptionTable := #[], attributes := #[] }
def k1m1 : Method := { name := "law", desc := "(IJJI)Z", sig := { parameters := [.int, .long, .long, .int], returnType := some .boolean }, accessFlags := 9, code := some k1c1 }
def k1c2 : Code := { maxStack := 5, maxLocals := 4, code := method_3_code, exceptionTable := #[], attributes := #[] }
def k1m2 : Method := { name := "piece", desc := "([CII)Ljava/lang/String;", sig := { parameters := [(.array .char), .int, .int], returnType := some (.object "java/lang/String") }, accessFlags := 10, code := some k1c2 }
def k1c3 : Code := { maxStack := 7, maxLocals := 2, code := method_4_code, exceptionTable := #[], attributes := #[] }
def k1m3 : Method := { name := "prefix", desc := "([CI)Ljava/lang/String;", sig := { parameters := [(.array .char), .int], returnType := some (.object "java/lang/String") }, accessFlags := 10, code := some k1c3 }
/-- com/example/kerb/kerb/call/AppendOnlyTextSnapshotPinLaw -/
def k1 : Class := { plain "com/example/kerb/kerb/call/AppendOnlyTextSnapshotPinLaw" (some 0) with
  accessFlags := 49
  interfaces := #[]
  cf := some (fileOf pool1 8 #[] #[{ accessFlags := 1, nameIndex := 5, descriptorIndex := 6, attributes := #[] }, { accessFlags := 9, nameIndex := 49, descriptorIndex := 50, attributes := #[] }, { accessFlags := 10, nameIndex := 11, descriptorIndex := 12, attributes := #[] }, { accessFlags := 10, nameIndex := 15, descriptorIndex := 16, attributes := #[] }] 49 2 #[] #[])
  fields := #[]
  methods := #[k1m0, k1m1, k1m2, k1m3]
  instanceTypes := #[]
  staticTypes := #[]
  resolved := Array.replicate 56 none
  statics := none }

def pool2 : Array CpInfo := pool [(1, .class_ 2), (0, u "java/io/Serializable"), (0, .class_ 4), (0, u "java/lang/Object")] 2

/-- java/io/Serializable -/
def k2 : Class := { plain "java/io/Serializable" (some 0) with
  accessFlags := 1537
  interfaces := #[]
  cf := some (fileOf pool2 1 #[] #[] 1537 3 #[] #[])
  fields := #[]
  methods := #[]
  instanceTypes := #[]
  staticTypes := #[]
  resolved := Array.replicate 7 none
  statics := none }

def pool3 : Array CpInfo := pool [(1, .class_ 2), (0, u "java/lang/Comparable"), (0, .class_ 4), (0, u "java/lang/Object")] 7

/-- java/lang/Comparable -/
def k3 : Class := { plain "java/lang/Comparable" (some 0) with
  accessFlags := 1537
  interfaces := #[]
  cf := some (fileOf pool3 1 #[] #[] 1537 3 #[] #[])
  fields := #[]
  methods := #[]
  instanceTypes := #[]
  staticTypes := #[]
  resolved := Array.replicate 12 none
  statics := none }

def pool4 : Array CpInfo := pool [(2, .class_ 4), (1, u "java/lang/CharSequence"), (0, u "length"), (0, u "()I"), (40, .class_ 48), (0, u "java/lang/CharSequence$1CodePointIterator"), (10, .class_ 60), (0, u "java/lang/CharSequence$1CharIterator"), (5, .class_ 67), (0, u "java/lang/Object"), (10, u "toString"), (0, u "()Ljava/lang/String;")] 51

def k4m0 : Method := { name := "length", desc := "()I", sig := { parameters := [], returnType := some .int }, accessFlags := 1025, code := none }
def k4m1 : Method := { name := "toString", desc := "()Ljava/lang/String;", sig := { parameters := [], returnType := some (.object "java/lang/String") }, accessFlags := 1025, code := none }
/-- java/lang/CharSequence -/
def k4 : Class := { plain "java/lang/CharSequence" (some 0) with
  accessFlags := 1537
  interfaces := #[]
  cf := some (fileOf pool4 2 #[.nestMembers #[47, 59]] #[{ accessFlags := 1025, nameIndex := 5, descriptorIndex := 6, attributes := #[] }, { accessFlags := 1025, nameIndex := 78, descriptorIndex := 79, attributes := #[] }] 1537 66 #[] #[])
  fields := #[]
  methods := #[k4m0, k4m1]
  instanceTypes := #[]
  staticTypes := #[]
  resolved := Array.replicate 131 none
  statics := none }

def pool5 : Array CpInfo := pool [(1, .class_ 2), (0, u "java/lang/constant/Constable"), (0, .class_ 4), (0, u "java/lang/Object")] 6

/-- java/lang/constant/Constable -/
def k5 : Class := { plain "java/lang/constant/Constable" (some 0) with
  accessFlags := 1537
  interfaces := #[]
  cf := some (fileOf pool5 1 #[] #[] 1537 3 #[] #[])
  fields := #[]
  methods := #[]
  instanceTypes := #[]
  staticTypes := #[]
  resolved := Array.replicate 11 none
  statics := none }

def pool6 : Array CpInfo := pool [(1, .class_ 2), (0, u "java/lang/constant/ConstantDesc"), (0, .class_ 4), (0, u "java/lang/Object")] 32

/-- java/lang/constant/ConstantDesc -/
def k6 : Class := { plain "java/lang/constant/ConstantDesc" (some 0) with
  accessFlags := 1537
  interfaces := #[]
  cf := some (fileOf pool6 1 #[] #[] 1537 3 #[] #[])
  fields := #[]
  methods := #[]
  instanceTypes := #[]
  staticTypes := #[]
  resolved := Array.replicate 37 none
  statics := none }

def pool7 : Array CpInfo := pool [(1, .methodref 2 3), (0, .class_ 4), (0, .nameAndType 5 6), (0, u "java/lang/Object"), (0, u "<init>"), (0, u "()V"), (0, .string 8), (0, u ""), (0, .fieldref 10 11), (0, .class_ 12), (0, .nameAndType 13 14), (0, u "java/lang/String"), (0, u "value"), (0, u "[B"), (0, .fieldref 10 16), (0, .nameAndType 17 18), (0, u "coder"), (0, u "B"), (2, u "hash"), (0, u "I"), (2, u "hashIsZero"), (0, u "Z"), (0, .methodref 10 28), (0, .nameAndType 5 29), (0, u "([CIILjava/lang/Void;)V"), (0, .methodref 10 31), (0, .nameAndType 32 33), (0, u "rangeCheck"), (0, u "([CII)Ljava/lang/Void;"), (0, .methodref 10 35), (0, .nameAndType 36 37), (0, u "checkBoundsOffCount"), (0, u "(III)I"), (0, .fieldref 10 39), (0, .nameAndType 40 26), (0, u "COMPACT_STRINGS"), (1, .class_ 44), (1, u "java/lang/StringUTF16"), (0, u "compress"), (1, .methodref 42 48), (0, .nameAndType 49 50), (0, u "coderFromArrayLen"), (0, u "([BI)B"), (56, .class_ 109), (1, u "java/lang/StringLatin1"), (32, u "()Z"), (34, .methodref 42 178), (0, .nameAndType 45 179), (0, u "([CII)[B"), (154, u "()I"), (0, .methodref 10 336), (0, .nameAndType 17 337), (0, u "()B"), (125, u "toString"), (0, u "()Ljava/lang/String;"), (27, .methodref 10 493), (0, .nameAndType 494 142), (0, u "isLatin1"), (10, .methodref 10 506), (0, .nameAndType 507 334), (0, u "length"), (5, u "checkFromToIndex"), (7, .methodref 10 522), (0, .nameAndType 523 524), (0, u "checkBoundsBeginEnd"), (0, u "(III)V"), (0, .methodref 107 526), (0, .nameAndType 527 528), (0, u "getChars"), (0, u "([BII[CI)V"), (0, .methodref 42 526), (11, .methodref 107 542), (0, .nameAndType 543 544), (0, u "equals"), (0, u "([B[B)Z"), (28, u "(Ljava/lang/Object;)Z"), (1, .class_ 576), (0, u "java/lang/CharSequence"), (22, u "CASE_INSENSITIVE_ORDER"), (0, u "Ljava/util/Comparator;"), (371, u "([CII)V"), (37, u "([C)V"), (42, .fieldref 1054 1055), (0, .class_ 1056), (0, .nameAndType 1057 1058), (0, u "jdk/internal/util/Preconditions"), (0, u "SIOOBE_FORMATTER"), (0, u "Ljava/util/function/BiFunction;"), (3, .methodref 1054 1063), (0, .nameAndType 513 1064), (0, u "(IIILjava/util/function/BiFunction;)I"), (0, .methodref 1054 1066), (0, .nameAndType 1067 1064), (0, u "checkFromIndexSize"), (33, u "serialPersistentFields"), (0, u "[Ljava/io/ObjectStreamField;"), (0, .class_ 1104), (0, u "java/lang/String$CaseInsensitiveComparator"), (1, .class_ 1107), (0, u "java/io/Serializable"), (0, .class_ 1109), (0, u "java/lang/Comparable"), (0, .class_ 1111), (0, u "java/lang/constant/Constable"), (0, .class_ 1113), (0, u "java/lang/constant/ConstantDesc"), (2, u "serialVersionUID"), (0, u "J"), (3, u "REPL"), (0, u "C"), (2, u "LATIN1"), (1, u "UTF16"), (112, u "(II[CI)V")] 210

def k7m0 : Method := { name := "<init>", desc := "()V", sig := { parameters := [], returnType := none }, accessFlags := 1, code := none }
def k7c1 : Code := { maxStack := 5, maxLocals := 2, code := jdk_42_method_3_code, exceptionTable := #[], attributes := #[] }
def k7m1 : Method := { name := "<init>", desc := "([C)V", sig := { parameters := [(.array .char)], returnType := none }, accessFlags := 1, code := some k7c1 }
def k7c2 : Code := { maxStack := 7, maxLocals := 4, code := jdk_42_method_4_code, exceptionTable := #[], attributes := #[] }
def k7m2 : Method := { name := "<init>", desc := "([CII)V", sig := { parameters := [(.array .char), .int, .int], returnType := none }, accessFlags := 1, code := some k7c2 }
def k7c3 : Code := { maxStack := 3, maxLocals := 3, code := jdk_42_method_5_code, exceptionTable := #[], attributes := #[] }
def k7m3 : Method := { name := "rangeCheck", desc := "([CII)Ljava/lang/Void;", sig := { parameters := [(.array .char), .int, .int], returnType := some (.object "java/lang/Void") }, accessFlags := 10, code := some k7c3 }
def k7c4 : Code := { maxStack := 2, maxLocals := 1, code := jdk_42_method_54_code, exceptionTable := #[], attributes := #[] }
def k7m4 : Method := { name := "length", desc := "()I", sig := { parameters := [], returnType := some .int }, accessFlags := 1, code := some k7c4 }
def k7c5 : Code := { maxStack := 5, maxLocals := 5, code := jdk_42_method_61_code, exceptionTable := #[], attributes := #[] }
def k7m5 : Method := { name := "getChars", desc := "(II[CI)V", sig := { parameters := [.int, .int, (.array .char), .int], returnType := none }, accessFlags := 1, code := some k7c5 }
def k7c6 : Code := { maxStack := 2, maxLocals := 3, code := jdk_42_method_66_code, exceptionTable := #[], attributes := #[] }
def k7m6 : Method := { name := "equals", desc := "(Ljava/lang/Object;)Z", sig := { parameters := [(.object "java/lang/Object")], returnType := some .boolean }, accessFlags := 1, code := some k7c6 }
def k7c7 : Code := { maxStack := 1, maxLocals := 1, code := jdk_42_method_126_code, exceptionTable := #[], attributes := #[] }
def k7m7 : Method := { name := "toString", desc := "()Ljava/lang/String;", sig := { parameters := [], returnType := some (.object "java/lang/String") }, accessFlags := 1, code := some k7c7 }
def k7c8 : Code := { maxStack := 4, maxLocals := 6, code := jdk_42_method_149_code, exceptionTable := #[], attributes := #[] }
def k7m8 : Method := { name := "<init>", desc := "([CIILjava/lang/Void;)V", sig := { parameters := [(.array .char), .int, .int, (.object "java/lang/Void")], returnType := none }, accessFlags := 2, code := some k7c8 }
def k7c9 : Code := { maxStack := 1, maxLocals := 1, code := jdk_42_method_152_code, exceptionTable := #[], attributes := #[] }
def k7m9 : Method := { name := "coder", desc := "()B", sig := { parameters := [], returnType := some .byte }, accessFlags := 0, code := some k7c9 }
def k7c10 : Code := { maxStack := 1, maxLocals := 1, code := jdk_42_method_154_code, exceptionTable := #[], attributes := #[] }
def k7m10 : Method := { name := "isLatin1", desc := "()Z", sig := { parameters := [], returnType := some .boolean }, accessFlags := 0, code := some k7c10 }
def k7c11 : Code := { maxStack := 4, maxLocals := 3, code := jdk_42_method_157_code, exceptionTable := #[], attributes := #[] }
def k7m11 : Method := { name := "checkBoundsOffCount", desc := "(III)I", sig := { parameters := [.int, .int, .int], returnType := some .int }, accessFlags := 8, code := some k7c11 }
def k7c12 : Code := { maxStack := 4, maxLocals := 3, code := jdk_42_method_158_code, exceptionTable := #[], attributes := #[] }
def k7m12 : Method := { name := "checkBoundsBeginEnd", desc := "(III)V", sig := { parameters := [.int, .int, .int], returnType := none }, accessFlags := 8, code := some k7c12 }
/-- java/lang/String -/
def k7 : Class := { plain "java/lang/String" (some 0) with
  accessFlags := 49
  interfaces := #[2, 3, 4, 5, 6]
  cf := some (fileOf pool7 10 #[.nestMembers #[1103]] #[{ accessFlags := 1, nameIndex := 5, descriptorIndex := 6, attributes := #[] }, { accessFlags := 1, nameIndex := 5, descriptorIndex := 1010, attributes := #[] }, { accessFlags := 1, nameIndex := 5, descriptorIndex := 972, attributes := #[] }, { accessFlags := 10, nameIndex := 32, descriptorIndex := 33, attributes := #[] }, { accessFlags := 1, nameIndex := 507, descriptorIndex := 334, attributes := #[] }, { accessFlags := 1, nameIndex := 527, descriptorIndex := 1240, attributes := #[] }, { accessFlags := 1, nameIndex := 543, descriptorIndex := 573, attributes := #[] }, { accessFlags := 1, nameIndex := 463, descriptorIndex := 464, attributes := #[] }, { accessFlags := 2, nameIndex := 5, descriptorIndex := 29, attributes := #[] }, { accessFlags := 0, nameIndex := 17, descriptorIndex := 337, attributes := #[] }, { accessFlags := 0, nameIndex := 494, descriptorIndex := 142, attributes := #[] }, { accessFlags := 8, nameIndex := 36, descriptorIndex := 37, attributes := #[] }, { accessFlags := 8, nameIndex := 523, descriptorIndex := 524, attributes := #[] }] 49 2 #[1106, 1108, 575, 1110, 1112] #[{ accessFlags := 18, nameIndex := 13, descriptorIndex := 14, attributes := #[] }, { accessFlags := 18, nameIndex := 17, descriptorIndex := 18, attributes := #[] }, { accessFlags := 2, nameIndex := 21, descriptorIndex := 22, attributes := #[] }, { accessFlags := 2, nameIndex := 25, descriptorIndex := 26, attributes := #[] }, { accessFlags := 26, nameIndex := 1116, descriptorIndex := 1117, attributes := #[] }, { accessFlags := 24, nameIndex := 40, descriptorIndex := 26, attributes := #[] }, { accessFlags := 26, nameIndex := 1101, descriptorIndex := 1102, attributes := #[] }, { accessFlags := 26, nameIndex := 1121, descriptorIndex := 1122, attributes := #[] }, { accessFlags := 25, nameIndex := 599, descriptorIndex := 600, attributes := #[] }, { accessFlags := 24, nameIndex := 1125, descriptorIndex := 18, attributes := #[] }, { accessFlags := 24, nameIndex := 1127, descriptorIndex := 18, attributes := #[] }])
  fields := #[{ name := "value", type := (.array .byte), accessFlags := 18, slot := 0, constantValue := 0 }, { name := "coder", type := .byte, accessFlags := 18, slot := 1, constantValue := 0 }, { name := "hash", type := .int, accessFlags := 2, slot := 2, constantValue := 0 }, { name := "hashIsZero", type := .boolean, accessFlags := 2, slot := 3, constantValue := 0 }, { name := "serialVersionUID", type := .long, accessFlags := 26, slot := 0, constantValue := 0 }, { name := "COMPACT_STRINGS", type := .boolean, accessFlags := 24, slot := 1, constantValue := 0 }, { name := "serialPersistentFields", type := (.array (.object "java/io/ObjectStreamField")), accessFlags := 26, slot := 2, constantValue := 0 }, { name := "REPL", type := .char, accessFlags := 26, slot := 3, constantValue := 0 }, { name := "CASE_INSENSITIVE_ORDER", type := (.object "java/util/Comparator"), accessFlags := 25, slot := 4, constantValue := 0 }, { name := "LATIN1", type := .byte, accessFlags := 24, slot := 5, constantValue := 0 }, { name := "UTF16", type := .byte, accessFlags := 24, slot := 6, constantValue := 0 }]
  methods := #[k7m0, k7m1, k7m2, k7m3, k7m4, k7m5, k7m6, k7m7, k7m8, k7m9, k7m10, k7m11, k7m12]
  instanceTypes := #[(.array .byte), .byte, .int, .boolean]
  staticTypes := #[.long, .boolean, (.array (.object "java/io/ObjectStreamField")), .char, (.object "java/util/Comparator"), .byte, .byte]
  resolved := Array.replicate 1451 none
  statics := some 0 }

def pool8 : Array CpInfo := pool [(3, .methodref 4 5), (0, .class_ 6), (0, .nameAndType 7 8), (0, u "java/lang/Object"), (0, u "<init>"), (0, u "()V"), (0, .fieldref 10 11), (0, .class_ 12), (0, .nameAndType 13 14), (0, u "com/example/kerb/kerb/call/AppendOnlyText"), (0, u "NONE"), (0, u "[C"), (0, .fieldref 10 16), (0, .nameAndType 17 14), (0, u "chars"), (0, .methodref 19 20), (0, .class_ 21), (0, .nameAndType 22 23), (0, u "java/lang/String"), (0, u "length"), (0, u "()I"), (0, .integer 2147483639), (0, .fieldref 10 26), (0, .nameAndType 22 27), (0, u "I"), (6, u "(Ljava/lang/String;)V"), (0, .long 2147483639), (1, .long 2), (1, .methodref 40 41), (0, .class_ 42), (0, .nameAndType 43 44), (0, u "java/lang/Math"), (0, u "min"), (0, u "(JJ)J"), (0, .methodref 40 46), (0, .nameAndType 47 48), (0, u "max"), (0, u "(II)I"), (0, .methodref 50 51), (0, .class_ 52), (0, .nameAndType 53 54), (0, u "java/util/Arrays"), (0, u "copyOf"), (0, u "([CI)[C"), (0, .methodref 19 56), (0, .nameAndType 57 58), (0, u "getChars"), (0, u "(II[CI)V"), (0, .string 60), (0, u ""), (0, .class_ 62), (0, u "com/example/kerb/kerb/call/AppendOnlyText$Snapshot"), (0, .methodref 61 64), (0, .nameAndType 7 65), (0, u "([CI)V"), (0, u "MAX_LENGTH"), (3, u "append"), (1, u "snapshot"), (0, u "()Ljava/lang/CharSequence;")] 8

def k8c0 : Code := { maxStack := 2, maxLocals := 1, code := prog_23_method_1_code, exceptionTable := #[], attributes := #[] }
def k8m0 : Method := { name := "<init>", desc := "()V", sig := { parameters := [], returnType := none }, accessFlags := 0, code := some k8c0 }
def k8c1 : Code := { maxStack := 6, maxLocals := 4, code := prog_23_method_2_code, exceptionTable := #[], attributes := #[] }
def k8m1 : Method := { name := "append", desc := "(Ljava/lang/String;)V", sig := { parameters := [(.object "java/lang/String")], returnType := none }, accessFlags := 0, code := some k8c1 }
def k8c2 : Code := { maxStack := 4, maxLocals := 1, code := prog_23_method_3_code, exceptionTable := #[], attributes := #[] }
def k8m2 : Method := { name := "snapshot", desc := "()Ljava/lang/CharSequence;", sig := { parameters := [], returnType := some (.object "java/lang/CharSequence") }, accessFlags := 0, code := some k8c2 }
/-- com/example/kerb/kerb/call/AppendOnlyText -/
def k8 : Class := { plain "com/example/kerb/kerb/call/AppendOnlyText" (some 0) with
  accessFlags := 48
  interfaces := #[]
  cf := some (fileOf pool8 10 #[.nestMembers #[61]] #[{ accessFlags := 0, nameIndex := 7, descriptorIndex := 8, attributes := #[] }, { accessFlags := 0, nameIndex := 70, descriptorIndex := 34, attributes := #[] }, { accessFlags := 0, nameIndex := 72, descriptorIndex := 73, attributes := #[] }] 48 4 #[] #[{ accessFlags := 26, nameIndex := 66, descriptorIndex := 27, attributes := #[] }, { accessFlags := 26, nameIndex := 13, descriptorIndex := 14, attributes := #[] }, { accessFlags := 2, nameIndex := 17, descriptorIndex := 14, attributes := #[] }, { accessFlags := 2, nameIndex := 22, descriptorIndex := 27, attributes := #[] }])
  fields := #[{ name := "MAX_LENGTH", type := .int, accessFlags := 26, slot := 0, constantValue := 0 }, { name := "NONE", type := (.array .char), accessFlags := 26, slot := 1, constantValue := 0 }, { name := "chars", type := (.array .char), accessFlags := 2, slot := 0, constantValue := 0 }, { name := "length", type := .int, accessFlags := 2, slot := 1, constantValue := 0 }]
  methods := #[k8m0, k8m1, k8m2]
  instanceTypes := #[(.array .char), .int]
  staticTypes := #[.int, (.array .char)]
  resolved := Array.replicate 82 none
  statics := some 1 }

def pool9 : Array CpInfo := pool [(2, .class_ 4), (1, u "java/lang/Object"), (0, u "<init>"), (0, u "()V"), (17, .class_ 26), (1, u "jdk/internal/util/Preconditions"), (20, u "checkFromToIndex"), (1, u "checkFromIndexSize"), (5, .class_ 56), (0, u "jdk/internal/util/Preconditions$4"), (57, .class_ 115), (0, u "jdk/internal/util/Preconditions$1"), (7, u "SIOOBE_FORMATTER"), (0, u "Ljava/util/function/BiFunction;"), (0, .class_ 126), (0, u "jdk/internal/util/Preconditions$2"), (3, u "AIOOBE_FORMATTER"), (0, .class_ 132), (0, u "jdk/internal/util/Preconditions$3"), (3, u "IOOBE_FORMATTER"), (46, u "(IIILjava/util/function/BiFunction;)I")] 10

def k9m0 : Method := { name := "<init>", desc := "()V", sig := { parameters := [], returnType := none }, accessFlags := 1, code := none }
def k9c1 : Code := { maxStack := 4, maxLocals := 4, code := jdk_41_method_12_code, exceptionTable := #[], attributes := #[] }
def k9m1 : Method := { name := "checkFromToIndex", desc := "(IIILjava/util/function/BiFunction;)I", sig := { parameters := [.int, .int, .int, (.object "java/util/function/BiFunction")], returnType := some .int }, accessFlags := 9, code := some k9c1 }
def k9c2 : Code := { maxStack := 4, maxLocals := 4, code := jdk_41_method_13_code, exceptionTable := #[], attributes := #[] }
def k9m2 : Method := { name := "checkFromIndexSize", desc := "(IIILjava/util/function/BiFunction;)I", sig := { parameters := [.int, .int, .int, (.object "java/util/function/BiFunction")], returnType := some .int }, accessFlags := 9, code := some k9c2 }
/-- jdk/internal/util/Preconditions -/
def k9 : Class := { plain "jdk/internal/util/Preconditions" (some 0) with
  accessFlags := 33
  interfaces := #[]
  cf := some (fileOf pool9 24 #[.nestMembers #[55, 131, 125, 114]] #[{ accessFlags := 1, nameIndex := 5, descriptorIndex := 6, attributes := #[] }, { accessFlags := 9, nameIndex := 47, descriptorIndex := 183, attributes := #[] }, { accessFlags := 9, nameIndex := 49, descriptorIndex := 183, attributes := #[] }] 33 2 #[] #[{ accessFlags := 25, nameIndex := 123, descriptorIndex := 124, attributes := #[] }, { accessFlags := 25, nameIndex := 130, descriptorIndex := 124, attributes := #[] }, { accessFlags := 25, nameIndex := 136, descriptorIndex := 124, attributes := #[] }])
  fields := #[{ name := "SIOOBE_FORMATTER", type := (.object "java/util/function/BiFunction"), accessFlags := 25, slot := 0, constantValue := 0 }, { name := "AIOOBE_FORMATTER", type := (.object "java/util/function/BiFunction"), accessFlags := 25, slot := 1, constantValue := 0 }, { name := "IOOBE_FORMATTER", type := (.object "java/util/function/BiFunction"), accessFlags := 25, slot := 2, constantValue := 0 }]
  methods := #[k9m0, k9m1, k9m2]
  instanceTypes := #[]
  staticTypes := #[(.object "java/util/function/BiFunction"), (.object "java/util/function/BiFunction"), (.object "java/util/function/BiFunction")]
  resolved := Array.replicate 194 none
  statics := some 2 }

def pool10 : Array CpInfo := pool [(4, .class_ 6), (1, u "java/lang/Object"), (0, u "<init>"), (0, u "()V"), (4, .methodref 14 15), (0, .class_ 16), (0, .nameAndType 17 18), (0, u "java/lang/StringLatin1"), (0, u "inflate"), (0, u "([BI[CII)V"), (102, u "$assertionsDisabled"), (0, u "Z"), (98, .class_ 223), (1, u "java/lang/StringLatin1$LinesSpliterator"), (50, u "getChars"), (0, u "([BII[CI)V"), (5, u "equals"), (0, u "([B[B)Z"), (107, .class_ 391), (0, u "java/lang/StringLatin1$CharsSpliterator")] 3

def k10m0 : Method := { name := "<init>", desc := "()V", sig := { parameters := [], returnType := none }, accessFlags := 0, code := none }
def k10c1 : Code := { maxStack := 6, maxLocals := 5, code := jdk_43_method_11_code, exceptionTable := #[], attributes := #[] }
def k10m1 : Method := { name := "getChars", desc := "([BII[CI)V", sig := { parameters := [(.array .byte), .int, .int, (.array .char), .int], returnType := none }, accessFlags := 9, code := some k10c1 }
def k10c2 : Code := { maxStack := 3, maxLocals := 3, code := jdk_43_method_13_code, exceptionTable := #[], attributes := #[] }
def k10m2 : Method := { name := "equals", desc := "([B[B)Z", sig := { parameters := [(.array .byte), (.array .byte)], returnType := some .boolean }, accessFlags := 9, code := some k10c2 }
def k10c3 : Code := { maxStack := 4, maxLocals := 6, code := jdk_43_method_49_code, exceptionTable := #[], attributes := #[] }
def k10m3 : Method := { name := "inflate", desc := "([BI[CII)V", sig := { parameters := [(.array .byte), .int, (.array .char), .int, .int], returnType := none }, accessFlags := 9, code := some k10c3 }
/-- java/lang/StringLatin1 -/
def k10 : Class := { plain "java/lang/StringLatin1" (some 0) with
  accessFlags := 48
  interfaces := #[]
  cf := some (fileOf pool10 14 #[.nestMembers #[390, 221]] #[{ accessFlags := 0, nameIndex := 7, descriptorIndex := 8, attributes := #[] }, { accessFlags := 9, nameIndex := 274, descriptorIndex := 275, attributes := #[] }, { accessFlags := 9, nameIndex := 281, descriptorIndex := 282, attributes := #[] }, { accessFlags := 9, nameIndex := 17, descriptorIndex := 18, attributes := #[] }] 48 4 #[] #[{ accessFlags := 4120, nameIndex := 121, descriptorIndex := 122, attributes := #[] }])
  fields := #[{ name := "$assertionsDisabled", type := .boolean, accessFlags := 4120, slot := 0, constantValue := 0 }]
  methods := #[k10m0, k10m1, k10m2, k10m3]
  instanceTypes := #[]
  staticTypes := #[.boolean]
  resolved := Array.replicate 395 none
  statics := none }

def pool11 : Array CpInfo := pool [(3, .class_ 4), (0, u "java/lang/String"), (1, .class_ 8), (1, u "java/lang/Object"), (0, u "<init>"), (0, u "()V"), (0, .methodref 12 13), (0, .class_ 14), (0, .nameAndType 15 16), (0, u "java/lang/StringUTF16"), (0, u "newBytesLength"), (0, u "(I)I"), (3, .integer 1073741823), (23, .fieldref 12 45), (0, .nameAndType 46 47), (0, u "$assertionsDisabled"), (0, u "Z"), (0, .methodref 12 49), (0, .nameAndType 50 51), (0, u "length"), (0, u "([B)I"), (7, .fieldref 12 60), (0, .nameAndType 61 62), (0, u "HI_BYTE_SHIFT"), (0, u "I"), (0, .fieldref 12 64), (0, .nameAndType 65 62), (0, u "LO_BYTE_SHIFT"), (5, .methodref 12 72), (0, .nameAndType 73 74), (0, u "getChar"), (0, u "([BI)C"), (24, u "(II[B)V"), (5, u "getChars"), (0, u "([BII[CI)V"), (0, .methodref 12 108), (0, .nameAndType 109 110), (0, u "newBytesFor"), (0, u "(I)[B"), (0, .methodref 12 112), (0, .nameAndType 113 114), (0, u "putChar"), (0, u "([BII)V"), (0, .methodref 12 116), (0, .nameAndType 117 118), (0, u "compress"), (0, u "([CI[BII)I"), (0, .methodref 12 120), (0, .nameAndType 121 122), (0, u "toBytes"), (0, u "([CII)[B"), (50, .methodref 12 174), (0, .nameAndType 175 99), (0, u "checkBoundsOffCount"), (85, u "coderFromArrayLen"), (0, u "([BI)B"), (18, u "(III)I"), (87, .class_ 371), (1, u "java/lang/StringUTF16$LinesSpliterator"), (47, .methodref 3 420), (0, .nameAndType 175 281), (9, u "MAX_LENGTH"), (196, .class_ 628), (0, u "java/lang/StringUTF16$CodePointsSpliterator"), (0, .class_ 630), (0, u "java/lang/StringUTF16$CharsSpliterator")] 4

def k11m0 : Method := { name := "<init>", desc := "()V", sig := { parameters := [], returnType := none }, accessFlags := 0, code := none }
def k11c1 : Code := { maxStack := 1, maxLocals := 1, code := jdk_52_method_2_code, exceptionTable := #[], attributes := #[] }
def k11m1 : Method := { name := "newBytesFor", desc := "(I)[B", sig := { parameters := [.int], returnType := some (.array .byte) }, accessFlags := 9, code := some k11c1 }
def k11c2 : Code := { maxStack := 4, maxLocals := 1, code := jdk_52_method_3_code, exceptionTable := #[], attributes := #[] }
def k11m2 : Method := { name := "newBytesLength", desc := "(I)I", sig := { parameters := [.int], returnType := some .int }, accessFlags := 9, code := some k11c2 }
def k11c3 : Code := { maxStack := 4, maxLocals := 3, code := jdk_52_method_4_code, exceptionTable := #[], attributes := #[] }
def k11m3 : Method := { name := "putChar", desc := "([BII)V", sig := { parameters := [(.array .byte), .int, .int], returnType := none }, accessFlags := 8, code := some k11c3 }
def k11c4 : Code := { maxStack := 3, maxLocals := 2, code := jdk_52_method_5_code, exceptionTable := #[], attributes := #[] }
def k11m4 : Method := { name := "getChar", desc := "([BI)C", sig := { parameters := [(.array .byte), .int], returnType := some .char }, accessFlags := 8, code := some k11c4 }
def k11c5 : Code := { maxStack := 2, maxLocals := 1, code := jdk_52_method_6_code, exceptionTable := #[], attributes := #[] }
def k11m5 : Method := { name := "length", desc := "([B)I", sig := { parameters := [(.array .byte)], returnType := some .int }, accessFlags := 9, code := some k11c5 }
def k11c6 : Code := { maxStack := 4, maxLocals := 5, code := jdk_52_method_14_code, exceptionTable := #[], attributes := #[] }
def k11m6 : Method := { name := "toBytes", desc := "([CII)[B", sig := { parameters := [(.array .char), .int, .int], returnType := some (.array .byte) }, accessFlags := 9, code := some k11c6 }
def k11c7 : Code := { maxStack := 2, maxLocals := 2, code := jdk_52_method_15_code, exceptionTable := #[], attributes := #[] }
def k11m7 : Method := { name := "coderFromArrayLen", desc := "([BI)B", sig := { parameters := [(.array .byte), .int], returnType := some .byte }, accessFlags := 8, code := some k11c7 }
def k11c8 : Code := { maxStack := 5, maxLocals := 6, code := jdk_52_method_16_code, exceptionTable := #[], attributes := #[] }
def k11m8 : Method := { name := "compress", desc := "([CII)[B", sig := { parameters := [(.array .char), .int, .int], returnType := some (.array .byte) }, accessFlags := 9, code := some k11c8 }
def k11c9 : Code := { maxStack := 3, maxLocals := 7, code := jdk_52_method_21_code, exceptionTable := #[], attributes := #[] }
def k11m9 : Method := { name := "compress", desc := "([CI[BII)I", sig := { parameters := [(.array .char), .int, (.array .byte), .int, .int], returnType := some .int }, accessFlags := 9, code := some k11c9 }
def k11c10 : Code := { maxStack := 4, maxLocals := 6, code := jdk_52_method_26_code, exceptionTable := #[], attributes := #[] }
def k11m10 : Method := { name := "getChars", desc := "([BII[CI)V", sig := { parameters := [(.array .byte), .int, .int, (.array .char), .int], returnType := none }, accessFlags := 9, code := some k11c10 }
def k11c11 : Code := { maxStack := 3, maxLocals := 3, code := jdk_52_method_94_code, exceptionTable := #[], attributes := #[] }
def k11m11 : Method := { name := "checkBoundsOffCount", desc := "(II[B)V", sig := { parameters := [.int, .int, (.array .byte)], returnType := none }, accessFlags := 9, code := some k11c11 }
/-- java/lang/StringUTF16 -/
def k11 : Class := { plain "java/lang/StringUTF16" (some 0) with
  accessFlags := 48
  interfaces := #[]
  cf := some (fileOf pool11 12 #[.nestMembers #[627, 629, 369]] #[{ accessFlags := 0, nameIndex := 9, descriptorIndex := 10, attributes := #[] }, { accessFlags := 9, nameIndex := 109, descriptorIndex := 110, attributes := #[] }, { accessFlags := 9, nameIndex := 15, descriptorIndex := 16, attributes := #[] }, { accessFlags := 8, nameIndex := 113, descriptorIndex := 114, attributes := #[] }, { accessFlags := 8, nameIndex := 73, descriptorIndex := 74, attributes := #[] }, { accessFlags := 9, nameIndex := 50, descriptorIndex := 51, attributes := #[] }, { accessFlags := 9, nameIndex := 121, descriptorIndex := 122, attributes := #[] }, { accessFlags := 8, nameIndex := 261, descriptorIndex := 262, attributes := #[] }, { accessFlags := 9, nameIndex := 117, descriptorIndex := 122, attributes := #[] }, { accessFlags := 9, nameIndex := 117, descriptorIndex := 118, attributes := #[] }, { accessFlags := 9, nameIndex := 105, descriptorIndex := 106, attributes := #[] }, { accessFlags := 9, nameIndex := 175, descriptorIndex := 99, attributes := #[] }] 48 6 #[] #[{ accessFlags := 26, nameIndex := 61, descriptorIndex := 62, attributes := #[] }, { accessFlags := 26, nameIndex := 65, descriptorIndex := 62, attributes := #[] }, { accessFlags := 24, nameIndex := 430, descriptorIndex := 62, attributes := #[] }, { accessFlags := 4120, nameIndex := 46, descriptorIndex := 47, attributes := #[] }])
  fields := #[{ name := "HI_BYTE_SHIFT", type := .int, accessFlags := 26, slot := 0, constantValue := 0 }, { name := "LO_BYTE_SHIFT", type := .int, accessFlags := 26, slot := 1, constantValue := 0 }, { name := "MAX_LENGTH", type := .int, accessFlags := 24, slot := 2, constantValue := 0 }, { name := "$assertionsDisabled", type := .boolean, accessFlags := 4120, slot := 3, constantValue := 0 }]
  methods := #[k11m0, k11m1, k11m2, k11m3, k11m4, k11m5, k11m6, k11m7, k11m8, k11m9, k11m10, k11m11]
  instanceTypes := #[]
  staticTypes := #[.int, .int, .int, .boolean]
  resolved := Array.replicate 635 none
  statics := some 3 }

def pool12 : Array CpInfo := pool [(1, .class_ 2), (0, u "java/lang/Math"), (1, .class_ 6), (1, u "java/lang/Object"), (0, u "<init>"), (0, u "()V"), (89, .class_ 100), (1, u "java/lang/Math$RandomNumberGeneratorHolder"), (20, u "(JJ)J"), (50, u "negativeZeroFloatBits"), (0, u "J"), (2, u "negativeZeroDoubleBits"), (21, u "max"), (2, u "min"), (43, u "$assertionsDisabled"), (0, u "Z"), (88, u "(II)I"), (2, u "twoToTheDoubleScaleDown"), (0, u "D"), (4, u "twoToTheDoubleScaleUp"), (9, u "E"), (3, u "PI"), (2, u "TAU"), (2, u "DEGREES_TO_RADIANS"), (0, u "RADIANS_TO_DEGREES")] 94

def k12m0 : Method := { name := "<init>", desc := "()V", sig := { parameters := [], returnType := none }, accessFlags := 2, code := none }
def k12c1 : Code := { maxStack := 2, maxLocals := 2, code := jdk_29_method_65_code, exceptionTable := #[], attributes := #[] }
def k12m1 : Method := { name := "max", desc := "(II)I", sig := { parameters := [.int, .int], returnType := some .int }, accessFlags := 9, code := some k12c1 }
def k12c2 : Code := { maxStack := 2, maxLocals := 2, code := jdk_29_method_69_code, exceptionTable := #[], attributes := #[] }
def k12m2 : Method := { name := "min", desc := "(II)I", sig := { parameters := [.int, .int], returnType := some .int }, accessFlags := 9, code := some k12c2 }
def k12c3 : Code := { maxStack := 4, maxLocals := 4, code := jdk_29_method_70_code, exceptionTable := #[], attributes := #[] }
def k12m3 : Method := { name := "min", desc := "(JJ)J", sig := { parameters := [.long, .long], returnType := some .long }, accessFlags := 9, code := some k12c3 }
/-- java/lang/Math -/
def k12 : Class := { plain "java/lang/Math" (some 0) with
  accessFlags := 49
  interfaces := #[]
  cf := some (fileOf pool12 1 #[.nestMembers #[98]] #[{ accessFlags := 2, nameIndex := 7, descriptorIndex := 8, attributes := #[] }, { accessFlags := 9, nameIndex := 198, descriptorIndex := 335, attributes := #[] }, { accessFlags := 9, nameIndex := 201, descriptorIndex := 335, attributes := #[] }, { accessFlags := 9, nameIndex := 201, descriptorIndex := 121, attributes := #[] }] 49 4 #[] #[{ accessFlags := 25, nameIndex := 354, descriptorIndex := 339, attributes := #[] }, { accessFlags := 25, nameIndex := 358, descriptorIndex := 339, attributes := #[] }, { accessFlags := 25, nameIndex := 361, descriptorIndex := 339, attributes := #[] }, { accessFlags := 26, nameIndex := 364, descriptorIndex := 339, attributes := #[] }, { accessFlags := 26, nameIndex := 365, descriptorIndex := 339, attributes := #[] }, { accessFlags := 26, nameIndex := 172, descriptorIndex := 173, attributes := #[] }, { accessFlags := 26, nameIndex := 176, descriptorIndex := 173, attributes := #[] }, { accessFlags := 8, nameIndex := 344, descriptorIndex := 339, attributes := #[] }, { accessFlags := 8, nameIndex := 338, descriptorIndex := 339, attributes := #[] }, { accessFlags := 4120, nameIndex := 245, descriptorIndex := 246, attributes := #[] }])
  fields := #[{ name := "E", type := .double, accessFlags := 25, slot := 0, constantValue := 0 }, { name := "PI", type := .double, accessFlags := 25, slot := 1, constantValue := 0 }, { name := "TAU", type := .double, accessFlags := 25, slot := 2, constantValue := 0 }, { name := "DEGREES_TO_RADIANS", type := .double, accessFlags := 26, slot := 3, constantValue := 0 }, { name := "RADIANS_TO_DEGREES", type := .double, accessFlags := 26, slot := 4, constantValue := 0 }, { name := "negativeZeroFloatBits", type := .long, accessFlags := 26, slot := 5, constantValue := 0 }, { name := "negativeZeroDoubleBits", type := .long, accessFlags := 26, slot := 6, constantValue := 0 }, { name := "twoToTheDoubleScaleUp", type := .double, accessFlags := 8, slot := 7, constantValue := 0 }, { name := "twoToTheDoubleScaleDown", type := .double, accessFlags := 8, slot := 8, constantValue := 0 }, { name := "$assertionsDisabled", type := .boolean, accessFlags := 4120, slot := 9, constantValue := 0 }]
  methods := #[k12m0, k12m1, k12m2, k12m3]
  instanceTypes := #[]
  staticTypes := #[.double, .double, .double, .double, .double, .long, .long, .double, .double, .boolean]
  resolved := Array.replicate 460 none
  statics := none }

def pool13 : Array CpInfo := pool [(2, .class_ 4), (1, u "java/lang/Object"), (0, u "<init>"), (0, u "()V"), (7, .class_ 16), (1, u "java/util/Arrays"), (57, .class_ 76), (1, u "java/util/Arrays$NaturalOrder"), (36, .class_ 115), (1, u "java/util/Arrays$LegacyMergeSort"), (1, u "Z"), (32, .methodref 151 152), (0, .class_ 153), (0, .nameAndType 154 155), (0, u "java/lang/System"), (0, u "arraycopy"), (0, u "(Ljava/lang/Object;ILjava/lang/Object;II)V"), (146, u "copyOf"), (1, .methodref 305 306), (0, .class_ 307), (0, .nameAndType 308 309), (0, u "java/lang/Math"), (0, u "min"), (0, u "(II)I"), (65, .class_ 376), (0, u "java/util/Arrays$ArrayList"), (68, u "$assertionsDisabled"), (269, u "MIN_ARRAY_SORT_GRAN"), (0, u "I"), (2, u "INSERTIONSORT_THRESHOLD"), (153, u "([CI)[C"), (101, .class_ 976), (0, u "java/util/Arrays$ArrayItr")] 52

def k13m0 : Method := { name := "<init>", desc := "()V", sig := { parameters := [], returnType := none }, accessFlags := 2, code := none }
def k13c1 : Code := { maxStack := 6, maxLocals := 3, code := jdk_65_method_125_code, exceptionTable := #[], attributes := #[] }
def k13m1 : Method := { name := "copyOf", desc := "([CI)[C", sig := { parameters := [(.array .char), .int], returnType := some (.array .char) }, accessFlags := 9, code := some k13c1 }
/-- java/util/Arrays -/
def k13 : Class := { plain "java/util/Arrays" (some 0) with
  accessFlags := 49
  interfaces := #[]
  cf := some (fileOf pool13 14 #[.nestMembers #[975, 375, 113, 74]] #[{ accessFlags := 2, nameIndex := 5, descriptorIndex := 6, attributes := #[] }, { accessFlags := 9, nameIndex := 302, descriptorIndex := 873, attributes := #[] }] 49 2 #[] #[{ accessFlags := 26, nameIndex := 715, descriptorIndex := 716, attributes := #[] }, { accessFlags := 26, nameIndex := 719, descriptorIndex := 716, attributes := #[] }, { accessFlags := 4120, nameIndex := 445, descriptorIndex := 117, attributes := #[] }])
  fields := #[{ name := "MIN_ARRAY_SORT_GRAN", type := .int, accessFlags := 26, slot := 0, constantValue := 0 }, { name := "INSERTIONSORT_THRESHOLD", type := .int, accessFlags := 26, slot := 1, constantValue := 0 }, { name := "$assertionsDisabled", type := .boolean, accessFlags := 4120, slot := 2, constantValue := 0 }]
  methods := #[k13m0, k13m1]
  instanceTypes := #[]
  staticTypes := #[.int, .int, .boolean]
  resolved := Array.replicate 1029 none
  statics := none }

def pool14 : Array CpInfo := pool [(2, .class_ 4), (1, u "java/lang/Object"), (0, u "<init>"), (0, u "()V"), (1, .class_ 10), (1, u "java/lang/System"), (0, u "allowSecurityManager"), (0, u "I"), (16, u "cons"), (0, u "Ljava/io/Console;"), (77, .class_ 110), (1, u "java/lang/System$CallersHolder"), (43, u "initialErrStream"), (0, u "Ljava/io/PrintStream;"), (19, u "security"), (0, u "Ljava/lang/SecurityManager;"), (31, .class_ 209), (0, u "java/lang/System$1"), (7, u "props"), (0, u "Ljava/util/Properties;"), (2, u "lineSeparator"), (0, u "Ljava/lang/String;"), (96, .class_ 321), (1, u "java/lang/System$LoggerFinder"), (5, .class_ 328), (0, u "java/lang/System$Logger"), (67, u "err"), (2, u "out"), (91, u "notSupportedJnuEncoding"), (15, u "in"), (17, u "initialIn"), (0, u "Ljava/io/InputStream;"), (35, u "bootLayer"), (0, u "Ljava/lang/ModuleLayer;"), (99, .class_ 664), (0, u "java/lang/System$2"), (9, u "NEVER"), (2, u "MAYBE"), (49, u "arraycopy"), (0, u "(Ljava/lang/Object;ILjava/lang/Object;II)V"), (72, .class_ 802), (0, u "java/lang/System$Logger$Level")] 31

def k14m0 : Method := { name := "<init>", desc := "()V", sig := { parameters := [], returnType := none }, accessFlags := 2, code := none }
def k14m1 : Method := { name := "arraycopy", desc := "(Ljava/lang/Object;ILjava/lang/Object;II)V", sig := { parameters := [(.object "java/lang/Object"), .int, (.object "java/lang/Object"), .int, .int], returnType := none }, accessFlags := 265, code := none }
/-- java/lang/System -/
def k14 : Class := { plain "java/lang/System" (some 0) with
  accessFlags := 49
  interfaces := #[]
  cf := some (fileOf pool14 8 #[.nestMembers #[319, 327, 801, 108, 663, 208]] #[{ accessFlags := 2, nameIndex := 5, descriptorIndex := 6, attributes := #[] }, { accessFlags := 265, nameIndex := 727, descriptorIndex := 728, attributes := #[] }] 49 2 #[] #[{ accessFlags := 25, nameIndex := 507, descriptorIndex := 526, attributes := #[] }, { accessFlags := 25, nameIndex := 399, descriptorIndex := 155, attributes := #[] }, { accessFlags := 25, nameIndex := 396, descriptorIndex := 155, attributes := #[] }, { accessFlags := 10, nameIndex := 525, descriptorIndex := 526, attributes := #[] }, { accessFlags := 26, nameIndex := 674, descriptorIndex := 12, attributes := #[] }, { accessFlags := 26, nameIndex := 677, descriptorIndex := 12, attributes := #[] }, { accessFlags := 10, nameIndex := 11, descriptorIndex := 12, attributes := #[] }, { accessFlags := 74, nameIndex := 175, descriptorIndex := 176, attributes := #[] }, { accessFlags := 10, nameIndex := 491, descriptorIndex := 222, attributes := #[] }, { accessFlags := 74, nameIndex := 29, descriptorIndex := 30, attributes := #[] }, { accessFlags := 74, nameIndex := 154, descriptorIndex := 155, attributes := #[] }, { accessFlags := 10, nameIndex := 217, descriptorIndex := 218, attributes := #[] }, { accessFlags := 10, nameIndex := 221, descriptorIndex := 222, attributes := #[] }, { accessFlags := 8, nameIndex := 562, descriptorIndex := 563, attributes := #[] }])
  fields := #[{ name := "in", type := (.object "java/io/InputStream"), accessFlags := 25, slot := 0, constantValue := 0 }, { name := "out", type := (.object "java/io/PrintStream"), accessFlags := 25, slot := 1, constantValue := 0 }, { name := "err", type := (.object "java/io/PrintStream"), accessFlags := 25, slot := 2, constantValue := 0 }, { name := "initialIn", type := (.object "java/io/InputStream"), accessFlags := 10, slot := 3, constantValue := 0 }, { name := "NEVER", type := .int, accessFlags := 26, slot := 4, constantValue := 0 }, { name := "MAYBE", type := .int, accessFlags := 26, slot := 5, constantValue := 0 }, { name := "allowSecurityManager", type := .int, accessFlags := 10, slot := 6, constantValue := 0 }, { name := "security", type := (.object "java/lang/SecurityManager"), accessFlags := 74, slot := 7, constantValue := 0 }, { name := "notSupportedJnuEncoding", type := (.object "java/lang/String"), accessFlags := 10, slot := 8, constantValue := 0 }, { name := "cons", type := (.object "java/io/Console"), accessFlags := 74, slot := 9, constantValue := 0 }, { name := "initialErrStream", type := (.object "java/io/PrintStream"), accessFlags := 74, slot := 10, constantValue := 0 }, { name := "props", type := (.object "java/util/Properties"), accessFlags := 10, slot := 11, constantValue := 0 }, { name := "lineSeparator", type := (.object "java/lang/String"), accessFlags := 10, slot := 12, constantValue := 0 }, { name := "bootLayer", type := (.object "java/lang/ModuleLayer"), accessFlags := 8, slot := 13, constantValue := 0 }]
  methods := #[k14m0, k14m1]
  instanceTypes := #[]
  staticTypes := #[(.object "java/io/InputStream"), (.object "java/io/PrintStream"), (.object "java/io/PrintStream"), (.object "java/io/InputStream"), .int, .int, .int, (.object "java/lang/SecurityManager"), (.object "java/lang/String"), (.object "java/io/Console"), (.object "java/io/PrintStream"), (.object "java/util/Properties"), (.object "java/lang/String"), (.object "java/lang/ModuleLayer")]
  resolved := Array.replicate 834 none
  statics := none }

def pool15 : Array CpInfo := pool [(1, .methodref 2 3), (0, .class_ 4), (0, .nameAndType 5 6), (0, u "java/lang/Object"), (0, u "<init>"), (0, u "()V"), (0, .fieldref 8 9), (0, .class_ 10), (0, .nameAndType 11 12), (0, u "com/example/kerb/kerb/call/AppendOnlyText$Snapshot"), (0, u "chars"), (0, u "[C"), (0, .fieldref 8 14), (0, .nameAndType 15 16), (0, u "length"), (0, u "I"), (10, .class_ 28), (0, u "java/lang/String"), (0, .methodref 27 30), (0, .nameAndType 5 31), (0, u "([CII)V"), (4, .class_ 37), (0, u "java/lang/CharSequence"), (0, u "([CI)V"), (2, u "()I"), (2, u "toString"), (0, u "()Ljava/lang/String;"), (5, .class_ 52), (0, u "com/example/kerb/kerb/call/AppendOnlyText")] 2

def k15c0 : Code := { maxStack := 2, maxLocals := 3, code := prog_24_method_1_code, exceptionTable := #[], attributes := #[] }
def k15m0 : Method := { name := "<init>", desc := "([CI)V", sig := { parameters := [(.array .char), .int], returnType := none }, accessFlags := 0, code := some k15c0 }
def k15c1 : Code := { maxStack := 1, maxLocals := 1, code := prog_24_method_2_code, exceptionTable := #[], attributes := #[] }
def k15m1 : Method := { name := "length", desc := "()I", sig := { parameters := [], returnType := some .int }, accessFlags := 1, code := some k15c1 }
def k15c2 : Code := { maxStack := 5, maxLocals := 1, code := prog_24_method_5_code, exceptionTable := #[], attributes := #[] }
def k15m2 : Method := { name := "toString", desc := "()Ljava/lang/String;", sig := { parameters := [], returnType := some (.object "java/lang/String") }, accessFlags := 1, code := some k15c2 }
/-- com/example/kerb/kerb/call/AppendOnlyText$Snapshot -/
def k15 : Class := { plain "com/example/kerb/kerb/call/AppendOnlyText$Snapshot" (some 0) with
  accessFlags := 48
  interfaces := #[4]
  cf := some (fileOf pool15 8 #[.nestHost 51] #[{ accessFlags := 0, nameIndex := 5, descriptorIndex := 38, attributes := #[] }, { accessFlags := 1, nameIndex := 15, descriptorIndex := 41, attributes := #[] }, { accessFlags := 1, nameIndex := 44, descriptorIndex := 45, attributes := #[] }] 48 2 #[36] #[{ accessFlags := 18, nameIndex := 11, descriptorIndex := 12, attributes := #[] }, { accessFlags := 18, nameIndex := 15, descriptorIndex := 16, attributes := #[] }])
  fields := #[{ name := "chars", type := (.array .char), accessFlags := 18, slot := 0, constantValue := 0 }, { name := "length", type := .int, accessFlags := 18, slot := 1, constantValue := 0 }]
  methods := #[k15m0, k15m1, k15m2]
  instanceTypes := #[(.array .char), .int]
  staticTypes := #[]
  resolved := Array.replicate 55 none
  statics := none }

def pool16 : Array CpInfo := pool [(9, u "<init>"), (6, .class_ 18), (1, u "java/lang/Object"), (0, u "()V"), (1, .class_ 23), (1, u "jdk/internal/util/ArraysSupport"), (0, u "LOG2_ARRAY_LONG_INDEX_SCALE"), (0, u "I"), (2, u "U"), (0, u "Ljdk/internal/misc/Unsafe;"), (8, u "BIG_ENDIAN"), (0, u "Z"), (8, u "LOG2_BYTE_BIT_SIZE"), (4, u "LOG2_ARRAY_INT_INDEX_SCALE"), (54, u "JLA"), (0, u "Ljdk/internal/access/JavaLangAccess;"), (11, u "LOG2_ARRAY_BOOLEAN_INDEX_SCALE"), (9, u "LOG2_ARRAY_BYTE_INDEX_SCALE"), (5, u "LOG2_ARRAY_CHAR_INDEX_SCALE"), (5, u "LOG2_ARRAY_SHORT_INDEX_SCALE"), (18, u "LOG2_ARRAY_FLOAT_INDEX_SCALE"), (24, u "LOG2_ARRAY_DOUBLE_INDEX_SCALE"), (89, u "T_BOOLEAN"), (2, u "T_CHAR"), (1, u "T_FLOAT"), (1, u "T_DOUBLE"), (1, u "T_BYTE"), (1, u "T_SHORT"), (1, u "T_INT"), (1, u "T_LONG"), (1, u "SOFT_MAX_ARRAY_LENGTH")] 83

def k16m0 : Method := { name := "<init>", desc := "()V", sig := { parameters := [], returnType := none }, accessFlags := 2, code := none }
/-- jdk/internal/util/ArraysSupport -/
def k16 : Class := { plain "jdk/internal/util/ArraysSupport" (some 0) with
  accessFlags := 33
  interfaces := #[]
  cf := some (fileOf pool16 21 #[] #[{ accessFlags := 2, nameIndex := 9, descriptorIndex := 19, attributes := #[] }] 33 16 #[] #[{ accessFlags := 24, nameIndex := 28, descriptorIndex := 29, attributes := #[] }, { accessFlags := 26, nameIndex := 38, descriptorIndex := 39, attributes := #[] }, { accessFlags := 25, nameIndex := 121, descriptorIndex := 25, attributes := #[] }, { accessFlags := 25, nameIndex := 131, descriptorIndex := 25, attributes := #[] }, { accessFlags := 25, nameIndex := 137, descriptorIndex := 25, attributes := #[] }, { accessFlags := 25, nameIndex := 143, descriptorIndex := 25, attributes := #[] }, { accessFlags := 25, nameIndex := 53, descriptorIndex := 25, attributes := #[] }, { accessFlags := 25, nameIndex := 24, descriptorIndex := 25, attributes := #[] }, { accessFlags := 25, nameIndex := 162, descriptorIndex := 25, attributes := #[] }, { accessFlags := 25, nameIndex := 187, descriptorIndex := 25, attributes := #[] }, { accessFlags := 26, nameIndex := 48, descriptorIndex := 25, attributes := #[] }, { accessFlags := 25, nameIndex := 277, descriptorIndex := 25, attributes := #[] }, { accessFlags := 25, nameIndex := 280, descriptorIndex := 25, attributes := #[] }, { accessFlags := 25, nameIndex := 282, descriptorIndex := 25, attributes := #[] }, { accessFlags := 25, nameIndex := 284, descriptorIndex := 25, attributes := #[] }, { accessFlags := 25, nameIndex := 286, descriptorIndex := 25, attributes := #[] }, { accessFlags := 25, nameIndex := 288, descriptorIndex := 25, attributes := #[] }, { accessFlags := 25, nameIndex := 290, descriptorIndex := 25, attributes := #[] }, { accessFlags := 25, nameIndex := 292, descriptorIndex := 25, attributes := #[] }, { accessFlags := 26, nameIndex := 108, descriptorIndex := 109, attributes := #[] }, { accessFlags := 25, nameIndex := 294, descriptorIndex := 25, attributes := #[] }])
  fields := #[{ name := "U", type := (.object "jdk/internal/misc/Unsafe"), accessFlags := 24, slot := 0, constantValue := 0 }, { name := "BIG_ENDIAN", type := .boolean, accessFlags := 26, slot := 1, constantValue := 0 }, { name := "LOG2_ARRAY_BOOLEAN_INDEX_SCALE", type := .int, accessFlags := 25, slot := 2, constantValue := 0 }, { name := "LOG2_ARRAY_BYTE_INDEX_SCALE", type := .int, accessFlags := 25, slot := 3, constantValue := 0 }, { name := "LOG2_ARRAY_CHAR_INDEX_SCALE", type := .int, accessFlags := 25, slot := 4, constantValue := 0 }, { name := "LOG2_ARRAY_SHORT_INDEX_SCALE", type := .int, accessFlags := 25, slot := 5, constantValue := 0 }, { name := "LOG2_ARRAY_INT_INDEX_SCALE", type := .int, accessFlags := 25, slot := 6, constantValue := 0 }, { name := "LOG2_ARRAY_LONG_INDEX_SCALE", type := .int, accessFlags := 25, slot := 7, constantValue := 0 }, { name := "LOG2_ARRAY_FLOAT_INDEX_SCALE", type := .int, accessFlags := 25, slot := 8, constantValue := 0 }, { name := "LOG2_ARRAY_DOUBLE_INDEX_SCALE", type := .int, accessFlags := 25, slot := 9, constantValue := 0 }, { name := "LOG2_BYTE_BIT_SIZE", type := .int, accessFlags := 26, slot := 10, constantValue := 0 }, { name := "T_BOOLEAN", type := .int, accessFlags := 25, slot := 11, constantValue := 0 }, { name := "T_CHAR", type := .int, accessFlags := 25, slot := 12, constantValue := 0 }, { name := "T_FLOAT", type := .int, accessFlags := 25, slot := 13, constantValue := 0 }, { name := "T_DOUBLE", type := .int, accessFlags := 25, slot := 14, constantValue := 0 }, { name := "T_BYTE", type := .int, accessFlags := 25, slot := 15, constantValue := 0 }, { name := "T_SHORT", type := .int, accessFlags := 25, slot := 16, constantValue := 0 }, { name := "T_INT", type := .int, accessFlags := 25, slot := 17, constantValue := 0 }, { name := "T_LONG", type := .int, accessFlags := 25, slot := 18, constantValue := 0 }, { name := "JLA", type := (.object "jdk/internal/access/JavaLangAccess"), accessFlags := 26, slot := 19, constantValue := 0 }, { name := "SOFT_MAX_ARRAY_LENGTH", type := .int, accessFlags := 25, slot := 20, constantValue := 0 }]
  methods := #[k16m0]
  instanceTypes := #[]
  staticTypes := #[(.object "jdk/internal/misc/Unsafe"), .boolean, .int, .int, .int, .int, .int, .int, .int, .int, .int, .int, .int, .int, .int, .int, .int, .int, .int, (.object "jdk/internal/access/JavaLangAccess"), .int]
  resolved := Array.replicate 378 none
  statics := none }

def pool17 : Array CpInfo := pool [(1, u "java/lang/Cloneable"), (0, .class_ 1), (0, u "java/lang/Object"), (0, .class_ 3)] 3

/-- java/lang/Cloneable -/
def k17 : Class := { plain "java/lang/Cloneable" (some 0) with
  accessFlags := 1537
  interfaces := #[]
  cf := some (fileOf pool17 2 #[] #[] 1537 4 #[] #[])
  fields := #[]
  methods := #[]
  instanceTypes := #[]
  staticTypes := #[]
  resolved := Array.replicate 8 none
  statics := none }

/-- the primitive byte -/
def k18 : Class := { plain "byte" none with kind := .primitive 'B', accessFlags := 0x411 }
/-- [B -/
def k19 : Class := { plain "[B" (some 0) with kind := .array 18 .byte, interfaces := #[17, 2], accessFlags := 1041 }

/-- the primitive char -/
def k20 : Class := { plain "char" none with kind := .primitive 'C', accessFlags := 0x411 }
/-- [C -/
def k21 : Class := { plain "[C" (some 0) with kind := .array 20 .char, interfaces := #[17, 2], accessFlags := 1041 }

/-- the primitive int -/
def k22 : Class := { plain "int" none with kind := .primitive 'I', accessFlags := 0x411 }
/-- [I -/
def k23 : Class := { plain "[I" (some 0) with kind := .array 22 .int, interfaces := #[17, 2], accessFlags := 1041 }

def heap : Heap := #[{ cls := 7, slots := #[.long 0, .int 1, .null, .int 0, .null, .int 0, .int 0], vm := .statics 7 },
  { cls := 8, slots := #[.int 0, .ref 4], vm := .statics 8 },
  { cls := 9, slots := #[.null, .null, .null], vm := .statics 9 },
  { cls := 11, slots := #[.int 0, .int 8, .int 0, .int 1], vm := .statics 11 },
  { cls := 21, slots := #[], vm := .none }]
def classes : Array Class := #[k0, k1, k2, k3, k4, k5, k6, k7, k8, k9, k10, k11, k12, k13, k14, k15, k16, k17, k18, k19, k20, k21, k22, k23]
def interned : List (Array UInt16 × Addr) := []
def slotsUsed : Nat := 16
def theMethod : MethodId := ⟨1, 1⟩
def args0 : Array Value := #[.int 0, .long 0, .long 0, .int 0]
def aboutOver (below : List Frame) : State where
  vm := { classes := classes, interned := interned.toArray }
  heap := heap
  slotsUsed := slotsUsed
  threads := #[{ frames := .invoking theMethod args0 :: below }]
def below0 : List Frame := [.native { method := ⟨0, 0⟩, args := #[] }]
def about1 : State := aboutOver below0
def p0 : Program := .bare "" "" ""
def e0 : Env := launch0.env 0 0 0
theorem w_frames : about1.frames = Frame.invoking theMethod args0 :: below0 := rfl
set_option maxRecDepth 65536 in
theorem w_args : argsFit about1.vm theMethod args0 = true := by decide +kernel
set_option maxRecDepth 65536 in
theorem w_heap : heapFits about1 = true := by decide +kernel
set_option maxRecDepth 65536 in
theorem w_runnable : about1.curStatus? = some .runnable := by decide +kernel
set_option maxRecDepth 65536 in
theorem w_alone : about1.alone = true := by decide +kernel
set_option maxRecDepth 65536 in
theorem w_named : about1.methodNamed? x = some theMethod := by decide +kernel
set_option maxRecDepth 65536 in
theorem w_hears : about1.hears theMethod below0 = true := by decide +kernel
set_option maxRecDepth 65536 in
theorem w_ripe : about1.ripe theMethod args0 below0 = true := by decide +kernel
theorem w_running : about1.status = .running := rfl
set_option maxRecDepth 65536 in
theorem w_room : about1.hasRoom e0.platform room_1 = true :=
  launch0.hasRoom_least _ room_1 (by decide +kernel) (by decide +kernel) (by decide +kernel) (by decide +kernel) (by decide +kernel) (by decide +kernel)
theorem allAtoms_all (ts : List Jvm.Cond) (a : Array Jvm.Value) (st : Jvm.State) : (allAtoms ts).before a st = ts.all (fun c => c.before a st) := by
  induction ts with
  | nil => rfl
  | cons c t ih =>
    show (Jvm.Cond.and c (allAtoms t)).before a st = _
    rw [Jvm.Cond.before_and, ih, List.all_cons]
def words1 : List Jvm.Cond := Jvm.Cond.code x code maxLocals ret :: tables_1
/-- a 'code' word, met by the world's own term for the bytes: nothing is compared byte by byte -/
theorem code_word {y : MethodName} {bytes : ByteArray} {mx : Nat} {rt : Option FieldType} {a : Array Value} {s : State} {m : MethodId} {meth : Method} {c : Code} (h1 : s.methodNamed? y = some m) (h2 : s.vm.method? m = some meth) (h3 : meth.code = some c) (h4 : c.code = bytes)
    (h5 : (c.maxLocals == mx && c.exceptionTable.isEmpty && decide (c.maxStack ≤ mostOperands) && decide (meth.sig.returnType = rt) && !meth.locks && decide (parseMethodDescriptor y.desc = some meth.sig)) = true) : (Jvm.Cond.code y bytes mx rt).before a s = true := by
  simp only [Bool.and_eq_true, beq_iff_eq, Bool.not_eq_true', decide_eq_true_eq] at h5
  obtain ⟨⟨⟨⟨⟨g1, g2⟩, g3⟩, g4⟩, g5⟩, g6⟩ := h5
  simp [Cond.before, Cond.holds, Cond.value, h1, h2, h3, h4, g1, g2, g3, g4, g5, g6]
def isCode : Jvm.Cond → Bool
  | .code _ _ _ _ => true
  | _ => false
theorem all_split {L : List Jvm.Cond} {P : Jvm.Cond → Bool} (h1 : L.all (fun c => isCode c || P c) = true) (h2 : ∀ c ∈ L.filter isCode, P c = true) : L.all P = true := by
  refine List.all_eq_true.mpr fun c hc => ?_
  have h := List.all_eq_true.mp h1 c hc
  rcases Bool.eq_false_or_eq_true (isCode c) with hi | hi
  · exact h2 c (List.mem_filter.mpr ⟨hc, hi⟩)
  · simpa [hi] using h
set_option maxRecDepth 65536 in
theorem w_c0 : (Jvm.Cond.code x code maxLocals ret).before args0 about1 = true := code_word (m := ⟨1, 1⟩) (meth := k1m1) (c := k1c1) (by decide +kernel) rfl rfl rfl (by decide +kernel)
set_option maxRecDepth 65536 in
theorem w_c1 : (Jvm.Cond.code ({ cls := "com/example/kerb/kerb/call/AppendOnlyTextSnapshotPinLaw", name := "piece", desc := "([CII)Ljava/lang/String;" } : Jvm.MethodName) method_3_code (4 : Nat) (Option.some (Jvm.ClassFile.FieldType.object "java/lang/String"))).before args0 about1 = true := code_word (m := ⟨1, 2⟩) (meth := k1m2) (c := k1c2) (by decide +kernel) rfl rfl rfl (by decide +kernel)
set_option maxRecDepth 65536 in
theorem w_c2 : (Jvm.Cond.code ({ cls := "com/example/kerb/kerb/call/AppendOnlyTextSnapshotPinLaw", name := "prefix", desc := "([CI)Ljava/lang/String;" } : Jvm.MethodName) method_4_code (2 : Nat) (Option.some (Jvm.ClassFile.FieldType.object "java/lang/String"))).before args0 about1 = true := code_word (m := ⟨1, 3⟩) (meth := k1m3) (c := k1c3) (by decide +kernel) rfl rfl rfl (by decide +kernel)
set_option maxRecDepth 65536 in
theorem w_c3 : (Jvm.Cond.code ({ cls := "java/lang/String", name := "<init>", desc := "([C)V" } : Jvm.MethodName) jdk_42_method_3_code (2 : Nat) (Option.none : Option Jvm.ClassFile.FieldType)).before args0 about1 = true := code_word (m := ⟨7, 1⟩) (meth := k7m1) (c := k7c1) (by decide +kernel) rfl rfl rfl (by decide +kernel)
set_option maxRecDepth 65536 in
theorem w_c4 : (Jvm.Cond.code ({ cls := "java/lang/String", name := "<init>", desc := "([CIILjava/lang/Void;)V" } : Jvm.MethodName) jdk_42_method_149_code (6 : Nat) (Option.none : Option Jvm.ClassFile.FieldType)).before args0 about1 = true := code_word (m := ⟨7, 8⟩) (meth := k7m8) (c := k7c8) (by decide +kernel) rfl rfl rfl (by decide +kernel)
set_option maxRecDepth 65536 in
theorem w_c5 : (Jvm.Cond.code ({ cls := "java/lang/Object", name := "<init>", desc := "()V" } : Jvm.MethodName) object_method_1_code (1 : Nat) (Option.none : Option Jvm.ClassFile.FieldType)).before args0 about1 = true := code_word (m := ⟨0, 0⟩) (meth := k0m0) (c := k0c0) (by decide +kernel) rfl rfl rfl (by decide +kernel)
set_option maxRecDepth 65536 in
theorem w_c6 : (Jvm.Cond.code ({ cls := "com/example/kerb/kerb/call/AppendOnlyText", name := "<init>", desc := "()V" } : Jvm.MethodName) prog_23_method_1_code (1 : Nat) (Option.none : Option Jvm.ClassFile.FieldType)).before args0 about1 = true := code_word (m := ⟨8, 0⟩) (meth := k8m0) (c := k8c0) (by decide +kernel) rfl rfl rfl (by decide +kernel)
set_option maxRecDepth 65536 in
theorem w_c7 : (Jvm.Cond.code ({ cls := "com/example/kerb/kerb/call/AppendOnlyText", name := "append", desc := "(Ljava/lang/String;)V" } : Jvm.MethodName) prog_23_method_2_code (4 : Nat) (Option.none : Option Jvm.ClassFile.FieldType)).before args0 about1 = true := code_word (m := ⟨8, 1⟩) (meth := k8m1) (c := k8c1) (by decide +kernel) rfl rfl rfl (by decide +kernel)
set_option maxRecDepth 65536 in
theorem w_c8 : (Jvm.Cond.code ({ cls := "java/lang/String", name := "length", desc := "()I" } : Jvm.MethodName) jdk_42_method_54_code (1 : Nat) (Option.some Jvm.ClassFile.FieldType.int)).before args0 about1 = true := code_word (m := ⟨7, 4⟩) (meth := k7m4) (c := k7c4) (by decide +kernel) rfl rfl rfl (by decide +kernel)
set_option maxRecDepth 65536 in
theorem w_c9 : (Jvm.Cond.code ({ cls := "java/lang/String", name := "coder", desc := "()B" } : Jvm.MethodName) jdk_42_method_152_code (1 : Nat) (Option.some Jvm.ClassFile.FieldType.byte)).before args0 about1 = true := code_word (m := ⟨7, 9⟩) (meth := k7m9) (c := k7c9) (by decide +kernel) rfl rfl rfl (by decide +kernel)
set_option maxRecDepth 65536 in
theorem w_c10 : (Jvm.Cond.code ({ cls := "java/lang/String", name := "getChars", desc := "(II[CI)V" } : Jvm.MethodName) jdk_42_method_61_code (5 : Nat) (Option.none : Option Jvm.ClassFile.FieldType)).before args0 about1 = true := code_word (m := ⟨7, 5⟩) (meth := k7m5) (c := k7c5) (by decide +kernel) rfl rfl rfl (by decide +kernel)
set_option maxRecDepth 65536 in
theorem w_c11 : (Jvm.Cond.code ({ cls := "java/lang/String", name := "checkBoundsBeginEnd", desc := "(III)V" } : Jvm.MethodName) jdk_42_method_158_code (3 : Nat) (Option.none : Option Jvm.ClassFile.FieldType)).before args0 about1 = true := code_word (m := ⟨7, 12⟩) (meth := k7m12) (c := k7c12) (by decide +kernel) rfl rfl rfl (by decide +kernel)
set_option maxRecDepth 65536 in
theorem w_c12 : (Jvm.Cond.code ({ cls := "jdk/internal/util/Preconditions", name := "checkFromToIndex", desc := "(IIILjava/util/function/BiFunction;)I" } : Jvm.MethodName) jdk_41_method_12_code (4 : Nat) (Option.some Jvm.ClassFile.FieldType.int)).before args0 about1 = true := code_word (m := ⟨9, 1⟩) (meth := k9m1) (c := k9c1) (by decide +kernel) rfl rfl rfl (by decide +kernel)
set_option maxRecDepth 65536 in
theorem w_c13 : (Jvm.Cond.code ({ cls := "java/lang/String", name := "checkBoundsOffCount", desc := "(III)I" } : Jvm.MethodName) jdk_42_method_157_code (3 : Nat) (Option.some Jvm.ClassFile.FieldType.int)).before args0 about1 = true := code_word (m := ⟨7, 11⟩) (meth := k7m11) (c := k7c11) (by decide +kernel) rfl rfl rfl (by decide +kernel)
set_option maxRecDepth 65536 in
theorem w_c14 : (Jvm.Cond.code ({ cls := "jdk/internal/util/Preconditions", name := "checkFromIndexSize", desc := "(IIILjava/util/function/BiFunction;)I" } : Jvm.MethodName) jdk_41_method_13_code (4 : Nat) (Option.some Jvm.ClassFile.FieldType.int)).before args0 about1 = true := code_word (m := ⟨9, 2⟩) (meth := k9m2) (c := k9c2) (by decide +kernel) rfl rfl rfl (by decide +kernel)
set_option maxRecDepth 65536 in
theorem w_c15 : (Jvm.Cond.code ({ cls := "java/lang/String", name := "isLatin1", desc := "()Z" } : Jvm.MethodName) jdk_42_method_154_code (1 : Nat) (Option.some Jvm.ClassFile.FieldType.boolean)).before args0 about1 = true := code_word (m := ⟨7, 10⟩) (meth := k7m10) (c := k7c10) (by decide +kernel) rfl rfl rfl (by decide +kernel)
set_option maxRecDepth 65536 in
theorem w_c16 : (Jvm.Cond.code ({ cls := "java/lang/StringLatin1", name := "getChars", desc := "([BII[CI)V" } : Jvm.MethodName) jdk_43_method_11_code (5 : Nat) (Option.none : Option Jvm.ClassFile.FieldType)).before args0 about1 = true := code_word (m := ⟨10, 1⟩) (meth := k10m1) (c := k10c1) (by decide +kernel) rfl rfl rfl (by decide +kernel)
set_option maxRecDepth 65536 in
theorem w_c17 : (Jvm.Cond.code ({ cls := "java/lang/StringLatin1", name := "inflate", desc := "([BI[CII)V" } : Jvm.MethodName) jdk_43_method_49_code (6 : Nat) (Option.none : Option Jvm.ClassFile.FieldType)).before args0 about1 = true := code_word (m := ⟨10, 3⟩) (meth := k10m3) (c := k10c3) (by decide +kernel) rfl rfl rfl (by decide +kernel)
set_option maxRecDepth 65536 in
theorem w_c18 : (Jvm.Cond.code ({ cls := "com/example/kerb/kerb/call/AppendOnlyText", name := "snapshot", desc := "()Ljava/lang/CharSequence;" } : Jvm.MethodName) prog_23_method_3_code (1 : Nat) (Option.some (Jvm.ClassFile.FieldType.object "java/lang/CharSequence"))).before args0 about1 = true := code_word (m := ⟨8, 2⟩) (meth := k8m2) (c := k8c2) (by decide +kernel) rfl rfl rfl (by decide +kernel)
set_option maxRecDepth 65536 in
theorem w_c19 : (Jvm.Cond.code ({ cls := "java/lang/String", name := "toString", desc := "()Ljava/lang/String;" } : Jvm.MethodName) jdk_42_method_126_code (1 : Nat) (Option.some (Jvm.ClassFile.FieldType.object "java/lang/String"))).before args0 about1 = true := code_word (m := ⟨7, 7⟩) (meth := k7m7) (c := k7c7) (by decide +kernel) rfl rfl rfl (by decide +kernel)
set_option maxRecDepth 65536 in
theorem w_c20 : (Jvm.Cond.code ({ cls := "java/lang/String", name := "equals", desc := "(Ljava/lang/Object;)Z" } : Jvm.MethodName) jdk_42_method_66_code (3 : Nat) (Option.some Jvm.ClassFile.FieldType.boolean)).before args0 about1 = true := code_word (m := ⟨7, 6⟩) (meth := k7m6) (c := k7c6) (by decide +kernel) rfl rfl rfl (by decide +kernel)
set_option maxRecDepth 65536 in
theorem w_c21 : (Jvm.Cond.code ({ cls := "java/lang/StringLatin1", name := "equals", desc := "([B[B)Z" } : Jvm.MethodName) jdk_43_method_13_code (3 : Nat) (Option.some Jvm.ClassFile.FieldType.boolean)).before args0 about1 = true := code_word (m := ⟨10, 2⟩) (meth := k10m2) (c := k10c2) (by decide +kernel) rfl rfl rfl (by decide +kernel)
set_option maxRecDepth 65536 in
theorem w_c22 : (Jvm.Cond.code ({ cls := "java/lang/StringUTF16", name := "compress", desc := "([CII)[B" } : Jvm.MethodName) jdk_52_method_16_code (6 : Nat) (Option.some (Jvm.ClassFile.FieldType.array Jvm.ClassFile.FieldType.byte))).before args0 about1 = true := code_word (m := ⟨11, 8⟩) (meth := k11m8) (c := k11c8) (by decide +kernel) rfl rfl rfl (by decide +kernel)
set_option maxRecDepth 65536 in
theorem w_c23 : (Jvm.Cond.code ({ cls := "java/lang/StringUTF16", name := "compress", desc := "([CI[BII)I" } : Jvm.MethodName) jdk_52_method_21_code (7 : Nat) (Option.some Jvm.ClassFile.FieldType.int)).before args0 about1 = true := code_word (m := ⟨11, 9⟩) (meth := k11m9) (c := k11c9) (by decide +kernel) rfl rfl rfl (by decide +kernel)
set_option maxRecDepth 65536 in
theorem w_c24 : (Jvm.Cond.code ({ cls := "java/lang/StringUTF16", name := "coderFromArrayLen", desc := "([BI)B" } : Jvm.MethodName) jdk_52_method_15_code (2 : Nat) (Option.some Jvm.ClassFile.FieldType.byte)).before args0 about1 = true := code_word (m := ⟨11, 7⟩) (meth := k11m7) (c := k11c7) (by decide +kernel) rfl rfl rfl (by decide +kernel)
set_option maxRecDepth 65536 in
theorem w_c25 : (Jvm.Cond.code ({ cls := "java/lang/Math", name := "min", desc := "(JJ)J" } : Jvm.MethodName) jdk_29_method_70_code (4 : Nat) (Option.some Jvm.ClassFile.FieldType.long)).before args0 about1 = true := code_word (m := ⟨12, 3⟩) (meth := k12m3) (c := k12c3) (by decide +kernel) rfl rfl rfl (by decide +kernel)
set_option maxRecDepth 65536 in
theorem w_c26 : (Jvm.Cond.code ({ cls := "java/lang/Math", name := "max", desc := "(II)I" } : Jvm.MethodName) jdk_29_method_65_code (2 : Nat) (Option.some Jvm.ClassFile.FieldType.int)).before args0 about1 = true := code_word (m := ⟨12, 1⟩) (meth := k12m1) (c := k12c1) (by decide +kernel) rfl rfl rfl (by decide +kernel)
set_option maxRecDepth 65536 in
theorem w_c27 : (Jvm.Cond.code ({ cls := "java/util/Arrays", name := "copyOf", desc := "([CI)[C" } : Jvm.MethodName) jdk_65_method_125_code (3 : Nat) (Option.some (Jvm.ClassFile.FieldType.array Jvm.ClassFile.FieldType.char))).before args0 about1 = true := code_word (m := ⟨13, 1⟩) (meth := k13m1) (c := k13c1) (by decide +kernel) rfl rfl rfl (by decide +kernel)
set_option maxRecDepth 65536 in
theorem w_c28 : (Jvm.Cond.code ({ cls := "java/lang/Math", name := "min", desc := "(II)I" } : Jvm.MethodName) jdk_29_method_69_code (2 : Nat) (Option.some Jvm.ClassFile.FieldType.int)).before args0 about1 = true := code_word (m := ⟨12, 2⟩) (meth := k12m2) (c := k12c2) (by decide +kernel) rfl rfl rfl (by decide +kernel)
set_option maxRecDepth 65536 in
theorem w_c29 : (Jvm.Cond.code ({ cls := "com/example/kerb/kerb/call/AppendOnlyText$Snapshot", name := "<init>", desc := "([CI)V" } : Jvm.MethodName) prog_24_method_1_code (3 : Nat) (Option.none : Option Jvm.ClassFile.FieldType)).before args0 about1 = true := code_word (m := ⟨15, 0⟩) (meth := k15m0) (c := k15c0) (by decide +kernel) rfl rfl rfl (by decide +kernel)
set_option maxRecDepth 65536 in
theorem w_c30 : (Jvm.Cond.code ({ cls := "com/example/kerb/kerb/call/AppendOnlyText$Snapshot", name := "length", desc := "()I" } : Jvm.MethodName) prog_24_method_2_code (1 : Nat) (Option.some Jvm.ClassFile.FieldType.int)).before args0 about1 = true := code_word (m := ⟨15, 1⟩) (meth := k15m1) (c := k15c1) (by decide +kernel) rfl rfl rfl (by decide +kernel)
set_option maxRecDepth 65536 in
theorem w_c31 : (Jvm.Cond.code ({ cls := "com/example/kerb/kerb/call/AppendOnlyText$Snapshot", name := "toString", desc := "()Ljava/lang/String;" } : Jvm.MethodName) prog_24_method_5_code (1 : Nat) (Option.some (Jvm.ClassFile.FieldType.object "java/lang/String"))).before args0 about1 = true := code_word (m := ⟨15, 2⟩) (meth := k15m2) (c := k15c2) (by decide +kernel) rfl rfl rfl (by decide +kernel)
set_option maxRecDepth 65536 in
theorem w_c32 : (Jvm.Cond.code ({ cls := "java/lang/String", name := "<init>", desc := "([CII)V" } : Jvm.MethodName) jdk_42_method_4_code (4 : Nat) (Option.none : Option Jvm.ClassFile.FieldType)).before args0 about1 = true := code_word (m := ⟨7, 2⟩) (meth := k7m2) (c := k7c2) (by decide +kernel) rfl rfl rfl (by decide +kernel)
set_option maxRecDepth 65536 in
theorem w_c33 : (Jvm.Cond.code ({ cls := "java/lang/String", name := "rangeCheck", desc := "([CII)Ljava/lang/Void;" } : Jvm.MethodName) jdk_42_method_5_code (3 : Nat) (Option.some (Jvm.ClassFile.FieldType.object "java/lang/Void"))).before args0 about1 = true := code_word (m := ⟨7, 3⟩) (meth := k7m3) (c := k7c3) (by decide +kernel) rfl rfl rfl (by decide +kernel)
set_option maxRecDepth 65536 in
theorem w_c34 : (Jvm.Cond.code ({ cls := "java/lang/StringUTF16", name := "toBytes", desc := "([CII)[B" } : Jvm.MethodName) jdk_52_method_14_code (5 : Nat) (Option.some (Jvm.ClassFile.FieldType.array Jvm.ClassFile.FieldType.byte))).before args0 about1 = true := code_word (m := ⟨11, 6⟩) (meth := k11m6) (c := k11c6) (by decide +kernel) rfl rfl rfl (by decide +kernel)
set_option maxRecDepth 65536 in
theorem w_c35 : (Jvm.Cond.code ({ cls := "java/lang/StringUTF16", name := "newBytesFor", desc := "(I)[B" } : Jvm.MethodName) jdk_52_method_2_code (1 : Nat) (Option.some (Jvm.ClassFile.FieldType.array Jvm.ClassFile.FieldType.byte))).before args0 about1 = true := code_word (m := ⟨11, 1⟩) (meth := k11m1) (c := k11c1) (by decide +kernel) rfl rfl rfl (by decide +kernel)
set_option maxRecDepth 65536 in
theorem w_c36 : (Jvm.Cond.code ({ cls := "java/lang/StringUTF16", name := "newBytesLength", desc := "(I)I" } : Jvm.MethodName) jdk_52_method_3_code (1 : Nat) (Option.some Jvm.ClassFile.FieldType.int)).before args0 about1 = true := code_word (m := ⟨11, 2⟩) (meth := k11m2) (c := k11c2) (by decide +kernel) rfl rfl rfl (by decide +kernel)
set_option maxRecDepth 65536 in
theorem w_c37 : (Jvm.Cond.code ({ cls := "java/lang/StringUTF16", name := "putChar", desc := "([BII)V" } : Jvm.MethodName) jdk_52_method_4_code (3 : Nat) (Option.none : Option Jvm.ClassFile.FieldType)).before args0 about1 = true := code_word (m := ⟨11, 3⟩) (meth := k11m3) (c := k11c3) (by decide +kernel) rfl rfl rfl (by decide +kernel)
set_option maxRecDepth 65536 in
theorem w_c38 : (Jvm.Cond.code ({ cls := "java/lang/StringUTF16", name := "getChar", desc := "([BI)C" } : Jvm.MethodName) jdk_52_method_5_code (2 : Nat) (Option.some Jvm.ClassFile.FieldType.char)).before args0 about1 = true := code_word (m := ⟨11, 4⟩) (meth := k11m4) (c := k11c4) (by decide +kernel) rfl rfl rfl (by decide +kernel)
set_option maxRecDepth 65536 in
theorem w_c39 : (Jvm.Cond.code ({ cls := "java/lang/StringUTF16", name := "getChars", desc := "([BII[CI)V" } : Jvm.MethodName) jdk_52_method_26_code (6 : Nat) (Option.none : Option Jvm.ClassFile.FieldType)).before args0 about1 = true := code_word (m := ⟨11, 10⟩) (meth := k11m10) (c := k11c10) (by decide +kernel) rfl rfl rfl (by decide +kernel)
set_option maxRecDepth 65536 in
theorem w_c40 : (Jvm.Cond.code ({ cls := "java/lang/StringUTF16", name := "checkBoundsOffCount", desc := "(II[B)V" } : Jvm.MethodName) jdk_52_method_94_code (3 : Nat) (Option.none : Option Jvm.ClassFile.FieldType)).before args0 about1 = true := code_word (m := ⟨11, 11⟩) (meth := k11m11) (c := k11c11) (by decide +kernel) rfl rfl rfl (by decide +kernel)
set_option maxRecDepth 65536 in
theorem w_c41 : (Jvm.Cond.code ({ cls := "java/lang/StringUTF16", name := "length", desc := "([B)I" } : Jvm.MethodName) jdk_52_method_6_code (1 : Nat) (Option.some Jvm.ClassFile.FieldType.int)).before args0 about1 = true := code_word (m := ⟨11, 5⟩) (meth := k11m5) (c := k11c5) (by decide +kernel) rfl rfl rfl (by decide +kernel)
def codes1 : List Jvm.Cond := [Jvm.Cond.code x code maxLocals ret, Jvm.Cond.code ({ cls := "com/example/kerb/kerb/call/AppendOnlyTextSnapshotPinLaw", name := "piece", desc := "([CII)Ljava/lang/String;" } : Jvm.MethodName) method_3_code (4 : Nat) (Option.some (Jvm.ClassFile.FieldType.object "java/lang/String")), Jvm.Cond.code ({ cls := "com/example/kerb/kerb/call/AppendOnlyTextSnapshotPinLaw", name := "prefix", desc := "([CI)Ljava/lang/String;" } : Jvm.MethodName) method_4_code (2 : Nat) (Option.some (Jvm.ClassFile.FieldType.object "java/lang/String")), Jvm.Cond.code ({ cls := "java/lang/String", name := "<init>", desc := "([C)V" } : Jvm.MethodName) jdk_42_method_3_code (2 : Nat) (Option.none : Option Jvm.ClassFile.FieldType), Jvm.Cond.code ({ cls := "java/lang/String", name := "<init>", desc := "([CIILjava/lang/Void;)V" } : Jvm.MethodName) jdk_42_method_149_code (6 : Nat) (Option.none : Option Jvm.ClassFile.FieldType), Jvm.Cond.code ({ cls := "java/lang/Object", name := "<init>", desc := "()V" } : Jvm.MethodName) object_method_1_code (1 : Nat) (Option.none : Option Jvm.ClassFile.FieldType), Jvm.Cond.code ({ cls := "com/example/kerb/kerb/call/AppendOnlyText", name := "<init>", desc := "()V" } : Jvm.MethodName) prog_23_method_1_code (1 : Nat) (Option.none : Option Jvm.ClassFile.FieldType), Jvm.Cond.code ({ cls := "com/example/kerb/kerb/call/AppendOnlyText", name := "append", desc := "(Ljava/lang/String;)V" } : Jvm.MethodName) prog_23_method_2_code (4 : Nat) (Option.none : Option Jvm.ClassFile.FieldType), Jvm.Cond.code ({ cls := "java/lang/String", name := "length", desc := "()I" } : Jvm.MethodName) jdk_42_method_54_code (1 : Nat) (Option.some Jvm.ClassFile.FieldType.int), Jvm.Cond.code ({ cls := "java/lang/String", name := "coder", desc := "()B" } : Jvm.MethodName) jdk_42_method_152_code (1 : Nat) (Option.some Jvm.ClassFile.FieldType.byte), Jvm.Cond.code ({ cls := "java/lang/String", name := "getChars", desc := "(II[CI)V" } : Jvm.MethodName) jdk_42_method_61_code (5 : Nat) (Option.none : Option Jvm.ClassFile.FieldType), Jvm.Cond.code ({ cls := "java/lang/String", name := "checkBoundsBeginEnd", desc := "(III)V" } : Jvm.MethodName) jdk_42_method_158_code (3 : Nat) (Option.none : Option Jvm.ClassFile.FieldType), Jvm.Cond.code ({ cls := "jdk/internal/util/Preconditions", name := "checkFromToIndex", desc := "(IIILjava/util/function/BiFunction;)I" } : Jvm.MethodName) jdk_41_method_12_code (4 : Nat) (Option.some Jvm.ClassFile.FieldType.int), Jvm.Cond.code ({ cls := "java/lang/String", name := "checkBoundsOffCount", desc := "(III)I" } : Jvm.MethodName) jdk_42_method_157_code (3 : Nat) (Option.some Jvm.ClassFile.FieldType.int), Jvm.Cond.code ({ cls := "jdk/internal/util/Preconditions", name := "checkFromIndexSize", desc := "(IIILjava/util/function/BiFunction;)I" } : Jvm.MethodName) jdk_41_method_13_code (4 : Nat) (Option.some Jvm.ClassFile.FieldType.int), Jvm.Cond.code ({ cls := "java/lang/String", name := "isLatin1", desc := "()Z" } : Jvm.MethodName) jdk_42_method_154_code (1 : Nat) (Option.some Jvm.ClassFile.FieldType.boolean), Jvm.Cond.code ({ cls := "java/lang/StringLatin1", name := "getChars", desc := "([BII[CI)V" } : Jvm.MethodName) jdk_43_method_11_code (5 : Nat) (Option.none : Option Jvm.ClassFile.FieldType), Jvm.Cond.code ({ cls := "java/lang/StringLatin1", name := "inflate", desc := "([BI[CII)V" } : Jvm.MethodName) jdk_43_method_49_code (6 : Nat) (Option.none : Option Jvm.ClassFile.FieldType), Jvm.Cond.code ({ cls := "com/example/kerb/kerb/call/AppendOnlyText", name := "snapshot", desc := "()Ljava/lang/CharSequence;" } : Jvm.MethodName) prog_23_method_3_code (1 : Nat) (Option.some (Jvm.ClassFile.FieldType.object "java/lang/CharSequence")), Jvm.Cond.code ({ cls := "java/lang/String", name := "toString", desc := "()Ljava/lang/String;" } : Jvm.MethodName) jdk_42_method_126_code (1 : Nat) (Option.some (Jvm.ClassFile.FieldType.object "java/lang/String")), Jvm.Cond.code ({ cls := "java/lang/String", name := "equals", desc := "(Ljava/lang/Object;)Z" } : Jvm.MethodName) jdk_42_method_66_code (3 : Nat) (Option.some Jvm.ClassFile.FieldType.boolean), Jvm.Cond.code ({ cls := "java/lang/StringLatin1", name := "equals", desc := "([B[B)Z" } : Jvm.MethodName) jdk_43_method_13_code (3 : Nat) (Option.some Jvm.ClassFile.FieldType.boolean), Jvm.Cond.code ({ cls := "java/lang/StringUTF16", name := "compress", desc := "([CII)[B" } : Jvm.MethodName) jdk_52_method_16_code (6 : Nat) (Option.some (Jvm.ClassFile.FieldType.array Jvm.ClassFile.FieldType.byte)), Jvm.Cond.code ({ cls := "java/lang/StringUTF16", name := "compress", desc := "([CI[BII)I" } : Jvm.MethodName) jdk_52_method_21_code (7 : Nat) (Option.some Jvm.ClassFile.FieldType.int), Jvm.Cond.code ({ cls := "java/lang/StringUTF16", name := "coderFromArrayLen", desc := "([BI)B" } : Jvm.MethodName) jdk_52_method_15_code (2 : Nat) (Option.some Jvm.ClassFile.FieldType.byte), Jvm.Cond.code ({ cls := "java/lang/Math", name := "min", desc := "(JJ)J" } : Jvm.MethodName) jdk_29_method_70_code (4 : Nat) (Option.some Jvm.ClassFile.FieldType.long), Jvm.Cond.code ({ cls := "java/lang/Math", name := "max", desc := "(II)I" } : Jvm.MethodName) jdk_29_method_65_code (2 : Nat) (Option.some Jvm.ClassFile.FieldType.int), Jvm.Cond.code ({ cls := "java/util/Arrays", name := "copyOf", desc := "([CI)[C" } : Jvm.MethodName) jdk_65_method_125_code (3 : Nat) (Option.some (Jvm.ClassFile.FieldType.array Jvm.ClassFile.FieldType.char)), Jvm.Cond.code ({ cls := "java/lang/Math", name := "min", desc := "(II)I" } : Jvm.MethodName) jdk_29_method_69_code (2 : Nat) (Option.some Jvm.ClassFile.FieldType.int), Jvm.Cond.code ({ cls := "com/example/kerb/kerb/call/AppendOnlyText$Snapshot", name := "<init>", desc := "([CI)V" } : Jvm.MethodName) prog_24_method_1_code (3 : Nat) (Option.none : Option Jvm.ClassFile.FieldType), Jvm.Cond.code ({ cls := "com/example/kerb/kerb/call/AppendOnlyText$Snapshot", name := "length", desc := "()I" } : Jvm.MethodName) prog_24_method_2_code (1 : Nat) (Option.some Jvm.ClassFile.FieldType.int), Jvm.Cond.code ({ cls := "com/example/kerb/kerb/call/AppendOnlyText$Snapshot", name := "toString", desc := "()Ljava/lang/String;" } : Jvm.MethodName) prog_24_method_5_code (1 : Nat) (Option.some (Jvm.ClassFile.FieldType.object "java/lang/String")), Jvm.Cond.code ({ cls := "java/lang/String", name := "<init>", desc := "([CII)V" } : Jvm.MethodName) jdk_42_method_4_code (4 : Nat) (Option.none : Option Jvm.ClassFile.FieldType), Jvm.Cond.code ({ cls := "java/lang/String", name := "rangeCheck", desc := "([CII)Ljava/lang/Void;" } : Jvm.MethodName) jdk_42_method_5_code (3 : Nat) (Option.some (Jvm.ClassFile.FieldType.object "java/lang/Void")), Jvm.Cond.code ({ cls := "java/lang/StringUTF16", name := "toBytes", desc := "([CII)[B" } : Jvm.MethodName) jdk_52_method_14_code (5 : Nat) (Option.some (Jvm.ClassFile.FieldType.array Jvm.ClassFile.FieldType.byte)), Jvm.Cond.code ({ cls := "java/lang/StringUTF16", name := "newBytesFor", desc := "(I)[B" } : Jvm.MethodName) jdk_52_method_2_code (1 : Nat) (Option.some (Jvm.ClassFile.FieldType.array Jvm.ClassFile.FieldType.byte)), Jvm.Cond.code ({ cls := "java/lang/StringUTF16", name := "newBytesLength", desc := "(I)I" } : Jvm.MethodName) jdk_52_method_3_code (1 : Nat) (Option.some Jvm.ClassFile.FieldType.int), Jvm.Cond.code ({ cls := "java/lang/StringUTF16", name := "putChar", desc := "([BII)V" } : Jvm.MethodName) jdk_52_method_4_code (3 : Nat) (Option.none : Option Jvm.ClassFile.FieldType), Jvm.Cond.code ({ cls := "java/lang/StringUTF16", name := "getChar", desc := "([BI)C" } : Jvm.MethodName) jdk_52_method_5_code (2 : Nat) (Option.some Jvm.ClassFile.FieldType.char), Jvm.Cond.code ({ cls := "java/lang/StringUTF16", name := "getChars", desc := "([BII[CI)V" } : Jvm.MethodName) jdk_52_method_26_code (6 : Nat) (Option.none : Option Jvm.ClassFile.FieldType), Jvm.Cond.code ({ cls := "java/lang/StringUTF16", name := "checkBoundsOffCount", desc := "(II[B)V" } : Jvm.MethodName) jdk_52_method_94_code (3 : Nat) (Option.none : Option Jvm.ClassFile.FieldType), Jvm.Cond.code ({ cls := "java/lang/StringUTF16", name := "length", desc := "([B)I" } : Jvm.MethodName) jdk_52_method_6_code (1 : Nat) (Option.some Jvm.ClassFile.FieldType.int)]
set_option maxRecDepth 65536 in
theorem codes_eq : words1.filter isCode = codes1 := rfl
theorem w_codes : ∀ c ∈ words1.filter isCode, c.before args0 about1 = true := by
  rw [codes_eq]
  intro c hc
  simp only [codes1, List.mem_cons, List.not_mem_nil, or_false] at hc
  rcases hc with rfl | rfl | rfl | rfl | rfl | rfl | rfl | rfl | rfl | rfl | rfl | rfl | rfl | rfl | rfl | rfl | rfl | rfl | rfl | rfl | rfl | rfl | rfl | rfl | rfl | rfl | rfl | rfl | rfl | rfl | rfl | rfl | rfl | rfl | rfl | rfl | rfl | rfl | rfl | rfl | rfl | rfl
  · exact w_c0
  · exact w_c1
  · exact w_c2
  · exact w_c3
  · exact w_c4
  · exact w_c5
  · exact w_c6
  · exact w_c7
  · exact w_c8
  · exact w_c9
  · exact w_c10
  · exact w_c11
  · exact w_c12
  · exact w_c13
  · exact w_c14
  · exact w_c15
  · exact w_c16
  · exact w_c17
  · exact w_c18
  · exact w_c19
  · exact w_c20
  · exact w_c21
  · exact w_c22
  · exact w_c23
  · exact w_c24
  · exact w_c25
  · exact w_c26
  · exact w_c27
  · exact w_c28
  · exact w_c29
  · exact w_c30
  · exact w_c31
  · exact w_c32
  · exact w_c33
  · exact w_c34
  · exact w_c35
  · exact w_c36
  · exact w_c37
  · exact w_c38
  · exact w_c39
  · exact w_c40
  · exact w_c41
set_option maxRecDepth 65536 in
theorem w_t1 : (words1.take 24).all (fun c => isCode c || c.before args0 about1) = true := by decide +kernel
set_option maxRecDepth 65536 in
theorem w_t2 : ((words1.drop 24).take 24).all (fun c => isCode c || c.before args0 about1) = true := by decide +kernel
set_option maxRecDepth 65536 in
theorem w_t3 : (((words1.drop 24).drop 24).take 24).all (fun c => isCode c || c.before args0 about1) = true := by decide +kernel
set_option maxRecDepth 65536 in
theorem w_t4 : ((((words1.drop 24).drop 24).drop 24).take 24).all (fun c => isCode c || c.before args0 about1) = true := by decide +kernel
set_option maxRecDepth 65536 in
theorem w_t5 : (((((words1.drop 24).drop 24).drop 24).drop 24).take 24).all (fun c => isCode c || c.before args0 about1) = true := by decide +kernel
set_option maxRecDepth 65536 in
theorem w_t6 : ((((((words1.drop 24).drop 24).drop 24).drop 24).drop 24).take 24).all (fun c => isCode c || c.before args0 about1) = true := by decide +kernel
set_option maxRecDepth 65536 in
theorem w_t7 : (((((((words1.drop 24).drop 24).drop 24).drop 24).drop 24).drop 24).take 24).all (fun c => isCode c || c.before args0 about1) = true := by decide +kernel
set_option maxRecDepth 65536 in
theorem w_t8 : ((((((((words1.drop 24).drop 24).drop 24).drop 24).drop 24).drop 24).drop 24).take 24).all (fun c => isCode c || c.before args0 about1) = true := by decide +kernel
set_option maxRecDepth 65536 in
theorem w_t9 : ((((((((words1.drop 24).drop 24).drop 24).drop 24).drop 24).drop 24).drop 24).drop 24).all (fun c => isCode c || c.before args0 about1) = true := by decide +kernel
theorem w_tables : (allAtoms (Jvm.Cond.code x code maxLocals ret :: tables_1)).before args0 about1 = true := by
  rw [allAtoms_all]
  show words1.all (fun c => c.before args0 about1) = true
  refine all_split ?_ w_codes
  rw [← List.take_append_drop 24 words1, List.all_append, w_t1, ← List.take_append_drop 24 (words1.drop 24), List.all_append, w_t2, ← List.take_append_drop 24 ((words1.drop 24).drop 24), List.all_append, w_t3, ← List.take_append_drop 24 (((words1.drop 24).drop 24).drop 24), List.all_append, w_t4, ← List.take_append_drop 24 ((((words1.drop 24).drop 24).drop 24).drop 24), List.all_append, w_t5, ← List.take_append_drop 24 (((((words1.drop 24).drop 24).drop 24).drop 24).drop 24), List.all_append, w_t6, ← List.take_append_drop 24 ((((((words1.drop 24).drop 24).drop 24).drop 24).drop 24).drop 24), List.all_append, w_t7, ← List.take_append_drop 24 (((((((words1.drop 24).drop 24).drop 24).drop 24).drop 24).drop 24).drop 24), List.all_append, w_t8, w_t9]
  rfl
set_option maxRecDepth 65536 in
theorem w_rest : rest_1_c.before args0 about1 = true := by decide +kernel
set_option maxRecDepth 65536 in
theorem w_case : (Jvm.Cond.and given_1 narrow_1).before args0 about1 = true := by decide +kernel
set_option maxRecDepth 65536 in
theorem w_consts : constsHeld consts_1 about1 := Jvm.Lit.constsHeldB_iff.mp (by decide +kernel)
theorem w_applies : (headSpec (Jvm.Cond.code x code maxLocals ret :: tables_1) room_1).applies x e0.platform about1 = true :=
  (Spec.applies_iff w_frames).mpr ⟨w_running, w_runnable, w_alone, w_named, w_hears, w_ripe, w_room, w_tables⟩
theorem atStart : AtStart classFile x code maxLocals ret World_1 tables_1 room_1 Calls_1 rest_1 Pre_1 launch0 p0 e0 about1 theMethod args0 below0 :=
  ⟨lists_1, trivial, launch0.admits_env _ _ _, launch0.least_env, fairChoices_fair.cas, fairChoices_fair.clock, w_frames, w_args, w_heap, w_applies, ⟨w_consts, trivial⟩, w_rest, w_case⟩
end start1
theorem witness_1 : WitnessClaimed_1 := ⟨start1.p0, start1.e0, start1.about1, start1.theMethod, start1.args0, start1.below0, start1.atStart⟩
end Jvm.Pilot.@@N@@
