import JvmDerived
import JvmDerived.Pilot.@@N@@Statement
import JvmDerived.Pilot.@@N@@Code
set_option linter.unusedVariables false
set_option linter.unusedSimpArgs false
/- laws to paste: Road.backV (cut by pick.py; bodies as the Statement names them) -/
namespace Jvm.Pilot.@@N@@
namespace StrChars
open Jvm Sem ClassFile Op Lib Jvm.Stand Jvm.Free.XT Jvm.Free.ALB Jvm.Free.JM Jvm.Free
open Jvm.Lib.Cold (StaticIs)
/-- a char array whose places are chars -/
def Ch (a : Addr) (A : Cell) (U : State) : Prop := Arr .char a A U ∧ Typed .char A
theorem Ch.mv {a : Addr} {A : Cell} {U U' : State} (h : Ch a A U) (hal : U.vm.Alike U'.vm) (hh : U'.heap = U.heap) : Ch a A U' := ⟨h.1.mv hal hh, h.2⟩
theorem Ch.keep {a : Addr} {A : Cell} {U U' : State} (h : Ch a A U) (hal : U.vm.Alike U'.vm) (hk : U'.heap[a]? = some A) : Ch a A U' := ⟨h.1.keep hal hk, h.2⟩
/-- what place i of a char[]'s cell holds -/
def cv (A : Cell) (i : Nat) : Int32 := match A.slots[i]? with | some (.int x) => x | _ => 0
theorem Ch.get {a : Addr} {A : Cell} {U : State} (h : Ch a A U) {i : Nat} (hi : i < A.slots.size) : A.slots[i]? = some (.int (cv A i)) := by
  have e := Array.getElem?_eq_getElem hi
  have f := h.2 i _ e
  unfold cv; rw [e]
  generalize A.slots[i] = v at f
  cases v <;> simp [fits] at f ⊢
/-- the byte that i2b leaves of a char -/
def lo8 (x : Int32) : Int32 := x.toInt8.toInt32
theorem fits_lo8 (y : Int32) : fits .byte (.int (lo8 y)) = true := by
  have h1 := y.toInt8.le_toInt
  have h2 := y.toInt8.toInt_lt
  simp only [lo8, fits, Bool.and_eq_true, decide_eq_true_eq, Int32.le_iff_toInt_le, Int8.toInt_toInt32, show (-128 : Int32).toInt = -128 from by decide, show (127 : Int32).toInt = 127 from by decide]
  omega
/-- A' is A but that each place j of lo .. hi - 1 holds f j -/
def Laid (A A' : Cell) (lo hi : Nat) (f : Nat → Value) : Prop := A'.cls = A.cls ∧ A'.vm = A.vm ∧ A'.slots.size = A.slots.size ∧ ∀ i, A'.slots[i]? = if lo ≤ i ∧ i < hi then some (f i) else A.slots[i]?
theorem Laid.zero (A : Cell) (lo : Nat) (f : Nat → Value) : Laid A A lo (lo + 0) f := ⟨rfl, rfl, rfl, fun i => by rw [if_neg (by omega)]⟩
theorem Laid.step {A Ak : Cell} {lo k : Nat} {f : Nat → Value} {v : Value} (h : Laid A Ak lo k f) (hlo : lo ≤ k) (hk : k < Ak.slots.size) (hv : v = f k) : Laid A (Ak.setSlot k v) lo (k + 1) f := by
  refine ⟨h.1, h.2.1, by simpa [Cell.setSlot] using h.2.2.1, fun i => ?_⟩
  by_cases e : k = i
  · subst e; rw [Cell.slots_setSlot_self v hk, if_pos (by omega), hv]
  · rw [Cell.slots_setSlot_ne v e, h.2.2.2 i]
    by_cases q : lo ≤ i ∧ i < k
    · rw [if_pos q, if_pos (by omega)]
    · rw [if_neg q, if_neg (by omega)]
def U16 : String := "java/lang/StringUTF16"
namespace Cmp5
def yN : MethodName := ⟨"java/lang/StringUTF16", "compress", "([CI[BII)I"⟩
abbrev yB : ByteArray := jdk_52_method_21_code
theorem d0 : decode yB 0 = .ok (.iconst 0, 1) := by decide +kernel
theorem d1 : decode yB 1 = .ok (.istore 5, 2) := by decide +kernel
theorem d3 : decode yB 3 = .ok (.iload 5, 2) := by decide +kernel
theorem d5 : decode yB 5 = .ok (.iload 4, 2) := by decide +kernel
theorem d7 : decode yB 7 = .ok (.if_icmp (.ge) 37, 3) := by decide +kernel
theorem d10 : decode yB 10 = .ok (.aload_n 0, 1) := by decide +kernel
theorem d11 : decode yB 11 = .ok (.iload_n 1, 1) := by decide +kernel
theorem d12 : decode yB 12 = .ok (.caload, 1) := by decide +kernel
theorem d13 : decode yB 13 = .ok (.istore 6, 2) := by decide +kernel
theorem d15 : decode yB 15 = .ok (.iload 6, 2) := by decide +kernel
theorem d17 : decode yB 17 = .ok (.sipush 255, 3) := by decide +kernel
theorem d20 : decode yB 20 = .ok (.if_icmp (.le) 6, 3) := by decide +kernel
theorem d26 : decode yB 26 = .ok (.aload_n 2, 1) := by decide +kernel
theorem d27 : decode yB 27 = .ok (.iload_n 3, 1) := by decide +kernel
theorem d28 : decode yB 28 = .ok (.iload 6, 2) := by decide +kernel
theorem d30 : decode yB 30 = .ok (.i2b, 1) := by decide +kernel
theorem d31 : decode yB 31 = .ok (.bastore, 1) := by decide +kernel
theorem d32 : decode yB 32 = .ok (.iinc 1 1, 3) := by decide +kernel
theorem d35 : decode yB 35 = .ok (.iinc 3 1, 3) := by decide +kernel
theorem d38 : decode yB 38 = .ok (.iinc 5 1, 3) := by decide +kernel
theorem d41 : decode yB 41 = .ok (.goto (-38), 3) := by decide +kernel
theorem d44 : decode yB 44 = .ok (.iload 4, 2) := by decide +kernel
theorem d46 : decode yB 46 = .ok (.ireturn, 1) := by decide +kernel
def site : List Cond := []
def tab : Cond := tabOf yN yB 7 (some .int) site
def P (b : Addr) (A : Cell) (d : Addr) (B : Cell) (o q len : Nat) (args : Array Value) (s : State) : Prop := args = #[.ref b, .int (Int32.ofNat o), .ref d, .int (Int32.ofNat q), .int (Int32.ofNat len)] ∧ Ch b A s ∧ Arr .byte d B s ∧ b ≠ d ∧ o + len ≤ A.slots.size ∧ q + len ≤ B.slots.size ∧ ∀ i, i < len → ¬ 255 < cv A (o + i)
def E (b : Addr) (A : Cell) (d : Addr) (B : Cell) (o q len : Nat) (r : Option Value) (s u : State) : Prop := r = some (.int (Int32.ofNat len)) ∧ ∃ B', Put d B' s u ∧ Laid B B' q (q + len) (fun j => Value.int (lo8 (cv A (o + (j - q)))))
/-- no char of the range above 255: len; the places written hold each char's low byte -/
theorem law (l : Launch) (b : Addr) (A : Cell) (d : Addr) (B : Cell) (o q len : Nat) : Law l yN 5 5 0 0 yB 7 (some .int) site (P b A d B o q len) (E b A d B o q len) (copyLocs d q len) 0 0 := by
  refine Law.of_walk (plainFor_of_name (by decide +kernel)) (by decide +kernel) (by decide +kernel) (by decide) (fun _ _ h => by rw [h.1]; rfl) (fun _ U U' hal hh h => ⟨h.1, h.2.1.mv hal hh, h.2.2.1.mv hal hh, h.2.2.2⟩) (fun r U U' V V' h1 hal h2 h => ⟨h.1, h.2.elim fun B' q => ⟨B', q.1.mv h1 h2, q.2⟩⟩) ?_
  intro p e s m args below meth c s₁ X0 hexec hbytes hml hret hlk hnm hown hh0 W hP
  obtain ⟨rfl, hA, hB, hne, l1, l2, hp⟩ := hP
  have c1 : Steps p.tables e below (s₁.setTop (entryFrame m #[.ref b, .int (Int32.ofNat o), .ref d, .int (Int32.ofNat q), .int (Int32.ofNat len)] 7)) (s₁.setTop (mkF m 0 #[.val (.ref b), .val (.int (Int32.ofNat o)), .val (.ref d), .val (.int (Int32.ofNat q)), .val (.int (Int32.ofNat len)), .unset, .unset] [])) := entry rfl
  have hA0 := hA.1.mv X0.warmed.alike hh0
  have hB0 := hB.mv X0.warmed.alike hh0
  have a31 := hA.1.2.2.2
  have c2 : Steps p.tables e below (s₁.setTop (entryFrame m #[.ref b, .int (Int32.ofNat o), .ref d, .int (Int32.ofNat q), .int (Int32.ofNat len)] 7)) (s₁.setTop (mkF m 3 #[.val (.ref b), .val (.int (Int32.ofNat o)), .val (.ref d), .val (.int (Int32.ofNat q)), .val (.int (Int32.ofNat len)), .val (.int 0), .unset] [])) := c1.trans (by
    refine iconstV X0.here hexec rfl 0 (hb hbytes d0) (by decide) ?_
    refine XS.istore X0.here hexec rfl (hb hbytes d1) rfl rfl ?_
    exact Steps.refl _)
  have loop : ∀ (r i : Nat), i + r = len → ∀ (z : Slot), (z = .unset ∨ ∃ w, z = .val w ∧ w.category = 1) → ∀ (Tl : State) (Bk : Cell), Stand p l e { frames := 0, locals := 0, cells := 0, slots := 0 } s m #[.ref b, .int (Int32.ofNat o), .ref d, .int (Int32.ofNat q), .int (Int32.ofNat len)] below meth c Tl ([] ++ copyLocs d q i) 0 0 → Put d Bk s₁ Tl → Laid B Bk q (q + i) (fun j => Value.int (lo8 (cv A (o + (j - q))))) →
      Steps p.tables e below (s₁.setTop (entryFrame m #[.ref b, .int (Int32.ofNat o), .ref d, .int (Int32.ofNat q), .int (Int32.ofNat len)] 7)) (Tl.setTop (mkF m 3 #[.val (.ref b), .val (.int (Int32.ofNat (o + i))), .val (.ref d), .val (.int (Int32.ofNat (q + i))), .val (.int (Int32.ofNat len)), .val (.int (Int32.ofNat i)), z] [])) → ∃ (T' : State) (B' : Cell) (z' : Slot), Stand p l e { frames := 0, locals := 0, cells := 0, slots := 0 } s m #[.ref b, .int (Int32.ofNat o), .ref d, .int (Int32.ofNat q), .int (Int32.ofNat len)] below meth c T' ([] ++ copyLocs d q len) 0 0 ∧ Put d B' s₁ T' ∧ Laid B B' q (q + len) (fun j => Value.int (lo8 (cv A (o + (j - q))))) ∧
      Steps p.tables e below (s₁.setTop (entryFrame m #[.ref b, .int (Int32.ofNat o), .ref d, .int (Int32.ofNat q), .int (Int32.ofNat len)] 7)) (T'.setTop (mkF m 3 #[.val (.ref b), .val (.int (Int32.ofNat (o + len))), .val (.ref d), .val (.int (Int32.ofNat (q + len))), .val (.int (Int32.ofNat len)), .val (.int (Int32.ofNat len)), z'] [])) := by
    intro r
    induction r with
    | zero =>
      intro i hi z hz Tl Bk Xl pl fl cl
      have hil : i = len := by omega
      rw [hil] at Xl fl cl
      exact ⟨Tl, Bk, z, Xl, pl, fl, cl⟩
    | succ r ih =>
      intro i hi z hz Tl Bk Xl pl fl cl
      have all := X0.warmed.alike.symm.trans Xl.warmed.alike
      have hAl := hA0.keep all (pl.other hne hA0.1)
      have hBk := hB0.like all pl.1 fl.1 fl.2.1 fl.2.2.1
      have hlt : q + i < Bk.slots.size := by rw [fl.2.2.1]; omega
      have c3 : Steps p.tables e below (s₁.setTop (entryFrame m #[.ref b, .int (Int32.ofNat o), .ref d, .int (Int32.ofNat q), .int (Int32.ofNat len)] 7)) (Tl.setTop (mkF m 12 #[.val (.ref b), .val (.int (Int32.ofNat (o + i))), .val (.ref d), .val (.int (Int32.ofNat (q + i))), .val (.int (Int32.ofNat len)), .val (.int (Int32.ofNat i)), z] [.int (Int32.ofNat (o + i)), .ref b])) := cl.trans (by
        refine XS.iload Xl.here hexec rfl (hb hbytes d3) rfl ?_
        refine XS.iload Xl.here hexec rfl (hb hbytes d5) rfl ?_
        refine XS.icmpNo Xl.here hexec rfl (hb hbytes d7) rfl (ii_ge_f (lt32 (by omega) (by omega))) ?_
        refine XS.aloadN Xl.here hexec rfl (hb hbytes d10) rfl rfl ?_
        refine XS.iloadN Xl.here hexec rfl (hb hbytes d11) rfl ?_
        exact Steps.refl _)
      have c4 : Steps p.tables e below (s₁.setTop (entryFrame m #[.ref b, .int (Int32.ofNat o), .ref d, .int (Int32.ofNat q), .int (Int32.ofNat len)] 7)) (Tl.setTop (mkF m 13 #[.val (.ref b), .val (.int (Int32.ofNat (o + i))), .val (.ref d), .val (.int (Int32.ofNat (q + i))), .val (.int (Int32.ofNat len)), .val (.int (Int32.ofNat i)), z] [.int (cv A (o + i))])) := c3.trans (by
        refine Xl.aget hexec hAl rfl (hA.get (i := o + i) (by omega)) rfl rfl (hb hbytes d12) ?_
        exact Steps.refl _)
      have c5 : Steps p.tables e below (s₁.setTop (entryFrame m #[.ref b, .int (Int32.ofNat o), .ref d, .int (Int32.ofNat q), .int (Int32.ofNat len)] 7)) (Tl.setTop (mkF m 15 #[.val (.ref b), .val (.int (Int32.ofNat (o + i))), .val (.ref d), .val (.int (Int32.ofNat (q + i))), .val (.int (Int32.ofNat len)), .val (.int (Int32.ofNat i)), .val (.int (cv A (o + i)))] [])) := c4.trans (by
        refine XS.istoreS Xl.here hexec rfl (hb hbytes d13) rfl rfl hz ?_
        exact Steps.refl _)
      have c6 : Steps p.tables e below (s₁.setTop (entryFrame m #[.ref b, .int (Int32.ofNat o), .ref d, .int (Int32.ofNat q), .int (Int32.ofNat len)] 7)) (Tl.setTop (mkF m 31 #[.val (.ref b), .val (.int (Int32.ofNat (o + i))), .val (.ref d), .val (.int (Int32.ofNat (q + i))), .val (.int (Int32.ofNat len)), .val (.int (Int32.ofNat i)), .val (.int (cv A (o + i)))] [.int (lo8 (cv A (o + i))), .int (Int32.ofNat (q + i)), .ref d])) := c5.trans (by
        refine XS.iload Xl.here hexec rfl (hb hbytes d15) rfl ?_
        refine sipushV Xl.here hexec rfl 255 (hb hbytes d17) (by decide) ?_
        refine XS.icmpYes Xl.here hexec rfl (pc0 := 20) rfl (hb hbytes d20) rfl (ii_le_t (hp i (by omega))) (by decide) rfl ?_
        refine XS.aloadN Xl.here hexec rfl (hb hbytes d26) rfl rfl ?_
        refine XS.iloadN Xl.here hexec rfl (hb hbytes d27) rfl ?_
        refine XS.iload Xl.here hexec rfl (hb hbytes d28) rfl ?_
        refine i2b Xl.here hexec rfl (hb hbytes d30) rfl ?_
        exact Steps.refl _)
      obtain ⟨T7, X7, p7, st7⟩ := Xl.aput hexec hBk rfl hlt rfl (fits_lo8 (cv A (o + i))) (g := (mkF m 31 #[.val (.ref b), .val (.int (Int32.ofNat (o + i))), .val (.ref d), .val (.int (Int32.ofNat (q + i))), .val (.int (Int32.ofNat len)), .val (.int (Int32.ofNat i)), .val (.int (cv A (o + i)))] [.int (lo8 (cv A (o + i))), .int (Int32.ofNat (q + i)), .ref d])) rfl (rest := []) rfl (hb hbytes d31)
      have c8 : Steps p.tables e below (s₁.setTop (entryFrame m #[.ref b, .int (Int32.ofNat o), .ref d, .int (Int32.ofNat q), .int (Int32.ofNat len)] 7)) (T7.setTop (mkF m 32 #[.val (.ref b), .val (.int (Int32.ofNat (o + i))), .val (.ref d), .val (.int (Int32.ofNat (q + i))), .val (.int (Int32.ofNat len)), .val (.int (Int32.ofNat i)), .val (.int (cv A (o + i)))] [])) := c6.trans (st7 _ (Steps.refl _))
      have c9 : Steps p.tables e below (s₁.setTop (entryFrame m #[.ref b, .int (Int32.ofNat o), .ref d, .int (Int32.ofNat q), .int (Int32.ofNat len)] 7)) (T7.setTop (mkF m 3 #[.val (.ref b), .val (.int (Int32.ofNat (o + i) + 1)), .val (.ref d), .val (.int (Int32.ofNat (q + i) + 1)), .val (.int (Int32.ofNat len)), .val (.int (Int32.ofNat i + 1)), .val (.int (cv A (o + i)))] [])) := c8.trans (by
        refine iincV X7.here hexec rfl 1 (hb hbytes d32) (by decide) rfl rfl ?_
        refine iincV X7.here hexec rfl 1 (hb hbytes d35) (by decide) rfl rfl ?_
        refine iincV X7.here hexec rfl 1 (hb hbytes d38) (by decide) rfl rfl ?_
        refine XS.goto X7.here hexec rfl (pc0 := 41) rfl (hb hbytes d41) (by decide) rfl ?_
        exact Steps.refl _)
      have c10 : Steps p.tables e below (s₁.setTop (entryFrame m #[.ref b, .int (Int32.ofNat o), .ref d, .int (Int32.ofNat q), .int (Int32.ofNat len)] 7)) (T7.setTop (mkF m 3 #[.val (.ref b), .val (.int (Int32.ofNat (o + (i + 1)))), .val (.ref d), .val (.int (Int32.ofNat (q + (i + 1)))), .val (.int (Int32.ofNat len)), .val (.int (Int32.ofNat (i + 1))), .val (.int (cv A (o + i)))] [])) := by
        have := c9
        rw [succ32, succ32, succ32] at this
        exact this
      exact ih (i + 1) (by omega) _ (Or.inr ⟨_, rfl, rfl⟩) T7 _ (by rw [copyLocs_step, ← List.append_assoc]; exact X7) (pl.trans p7) (fl.step (by omega) hlt (by simp)) c10
  obtain ⟨T9, B9, z9, X9, p9, f9, g9⟩ := loop len 0 (by omega) .unset (Or.inl rfl) s₁ B (by simpa [copyLocs] using X0) ⟨hB0.1, fun _ _ => rfl, rfl⟩ (Laid.zero _ _ _) c2
  have c11 : Steps p.tables e below (s₁.setTop (entryFrame m #[.ref b, .int (Int32.ofNat o), .ref d, .int (Int32.ofNat q), .int (Int32.ofNat len)] 7)) (T9.setTop (mkF m 46 #[.val (.ref b), .val (.int (Int32.ofNat (o + len))), .val (.ref d), .val (.int (Int32.ofNat (q + len))), .val (.int (Int32.ofNat len)), .val (.int (Int32.ofNat len)), z9] [.int (Int32.ofNat len)])) := g9.trans (by
    refine XS.iload X9.here hexec rfl (hb hbytes d3) rfl ?_
    refine XS.iload X9.here hexec rfl (hb hbytes d5) rfl ?_
    refine XS.icmpYes X9.here hexec rfl (pc0 := 7) rfl (hb hbytes d7) rfl (ii_ge_t (nlt32 (by omega) (Nat.le_refl _))) (by decide) rfl ?_
    refine XS.iload X9.here hexec rfl (hb hbytes d44) rfl ?_
    exact Steps.refl _)
  exact ⟨T9, some (.int (Int32.ofNat len)), _, _, _, X9, by simp, rfl, rfl, (fun h => by cases h), ⟨rfl, B9, p9.from hh0, f9⟩, fun fs hl => c11.trans (X9.ireturnOut hexec hret rfl (Or.inl rfl) (hb hbytes d46) hl)⟩
end Cmp5
namespace Cmp3
def yN : MethodName := ⟨"java/lang/StringUTF16", "compress", "([CII)[B"⟩
abbrev yB : ByteArray := jdk_52_method_16_code
theorem d0 : decode yB 0 = .ok (.iload_n 2, 1) := by decide +kernel
theorem d1 : decode yB 1 = .ok (.newarray .byte, 2) := by decide +kernel
theorem d3 : decode yB 3 = .ok (.astore_n 3, 1) := by decide +kernel
theorem d4 : decode yB 4 = .ok (.aload_n 0, 1) := by decide +kernel
theorem d5 : decode yB 5 = .ok (.iload_n 1, 1) := by decide +kernel
theorem d6 : decode yB 6 = .ok (.aload_n 3, 1) := by decide +kernel
theorem d7 : decode yB 7 = .ok (.iconst 0, 1) := by decide +kernel
theorem d8 : decode yB 8 = .ok (.iload_n 2, 1) := by decide +kernel
theorem d9 : decode yB 9 = .ok (.invokestatic 115, 3) := by decide +kernel
theorem d12 : decode yB 12 = .ok (.istore 4, 2) := by decide +kernel
theorem d14 : decode yB 14 = .ok (.iload 4, 2) := by decide +kernel
theorem d16 : decode yB 16 = .ok (.iload_n 2, 1) := by decide +kernel
theorem d17 : decode yB 17 = .ok (.if_icmp (.eq) 40, 3) := by decide +kernel
theorem d57 : decode yB 57 = .ok (.aload_n 3, 1) := by decide +kernel
theorem d58 : decode yB 58 = .ok (.areturn, 1) := by decide +kernel
def site : List Cond := [.arrayClass .byte, Cmp5.tab] ++ staticW U16 115 Cmp5.yN
def tab : Cond := tabOf yN yB 6 (some (.array .byte)) site
def P (b : Addr) (A : Cell) (o len : Nat) (args : Array Value) (s : State) : Prop := args = #[.ref b, .int (Int32.ofNat o), .int (Int32.ofNat len)] ∧ Ch b A s ∧ o + len ≤ A.slots.size ∧ len ≤ 536870912 ∧ ∀ i, i < len → ¬ 255 < cv A (o + i)
def E (b : Addr) (A : Cell) (o len : Nat) (r : Option Value) (s u : State) : Prop := NewArr .byte "[B" len (fun j => .int (lo8 (cv A (o + j)))) r s u ∧ u.heap.size = s.heap.size + 1
/-- no char of the range above 255: a new byte[] of their low bytes -/
theorem law (l : Launch) (b : Addr) (A : Cell) (o len : Nat) : Law l yN 3 3 1 18 yB 6 (some (.array .byte)) site (P b A o len) (E b A o len) [] 1 len := by
  refine Law.of_walk (plainFor_of_name (by decide +kernel)) (by decide +kernel) (by decide +kernel) (by decide) (fun _ _ h => by rw [h.1]; rfl) (fun _ U U' hal hh h => ⟨h.1, h.2.1.mv hal hh, h.2.2⟩) (fun r U U' V V' h1 hal h2 h => ⟨NewArr.mv r U U' V V' h1 hal h2 h.1, by rw [h1, h2]; exact h.2⟩) ?_
  intro p e s m args below meth c s₁ X0 hexec hbytes hml hret hlk hnm hown hh0 W hP
  obtain ⟨rfl, hA, l1, l2, hp⟩ := hP
  have a31 := hA.1.2.2.2
  have c1 : Steps p.tables e below (s₁.setTop (entryFrame m #[.ref b, .int (Int32.ofNat o), .int (Int32.ofNat len)] 6)) (s₁.setTop (mkF m 0 #[.val (.ref b), .val (.int (Int32.ofNat o)), .val (.int (Int32.ofNat len)), .unset, .unset, .unset] [])) := entry rfl
  have c2 : Steps p.tables e below (s₁.setTop (entryFrame m #[.ref b, .int (Int32.ofNat o), .int (Int32.ofNat len)] 6)) (s₁.setTop (mkF m 1 #[.val (.ref b), .val (.int (Int32.ofNat o)), .val (.int (Int32.ofNat len)), .unset, .unset, .unset] [.int (Int32.ofNat len)])) := c1.trans (by
    refine XS.iloadN X0.here hexec rfl (hb hbytes d0) rfl ?_
    exact Steps.refl _)
  obtain ⟨T3, B3, X3, ba3, bs3, bv3, bh3, bf3, st3⟩ := X0.anew hexec (atype := .byte) (wk W (.arrayClass .byte)) rfl (by show len * 1 ≤ _; omega) (by omega) (g := (mkF m 1 #[.val (.ref b), .val (.int (Int32.ofNat o)), .val (.int (Int32.ofNat len)), .unset, .unset, .unset] [.int (Int32.ofNat len)])) rfl (hb hbytes d1) (rest := []) rfl (Nat.le_refl _) (by show 0 + len ≤ len; omega)
  rw [hh0] at ba3 st3
  have kp3 : XT.Kept s T3 := (XT.Kept.of_eq hh0).push bh3
  have hA3 := hA.keep X3.warmed.alike (kp3 _ _ hA.1.1)
  have hne : b ≠ s.heap.size := hA.1.ne
  have c4 : Steps p.tables e below (s₁.setTop (entryFrame m #[.ref b, .int (Int32.ofNat o), .int (Int32.ofNat len)] 6)) (T3.setTop (mkF m 3 #[.val (.ref b), .val (.int (Int32.ofNat o)), .val (.int (Int32.ofNat len)), .unset, .unset, .unset] [.ref s.heap.size])) := c2.trans (st3 _ (Steps.refl _))
  have c5 : Steps p.tables e below (s₁.setTop (entryFrame m #[.ref b, .int (Int32.ofNat o), .int (Int32.ofNat len)] 6)) (T3.setTop (mkF m 9 #[.val (.ref b), .val (.int (Int32.ofNat o)), .val (.int (Int32.ofNat len)), .val (.ref s.heap.size), .unset, .unset] [.int (Int32.ofNat len), .int 0, .ref s.heap.size, .int (Int32.ofNat o), .ref b])) := c4.trans (by
    refine XS.astoreN X3.here hexec rfl (hb hbytes d3) rfl rfl rfl ?_
    refine XS.aloadN X3.here hexec rfl (hb hbytes d4) rfl rfl ?_
    refine XS.iloadN X3.here hexec rfl (hb hbytes d5) rfl ?_
    refine XS.aloadN X3.here hexec rfl (hb hbytes d6) rfl rfl ?_
    refine iconstV X3.here hexec rfl 0 (hb hbytes d7) (by decide) ?_
    refine XS.iloadN X3.here hexec rfl (hb hbytes d8) rfl ?_
    exact Steps.refl _)
  obtain ⟨v6, T6, X6, E6, g6⟩ := X3.callS hexec (Cmp5.law l b A s.heap.size B3 o 0 len) hown (wks W (staticW U16 115 Cmp5.yN)) (wk W Cmp5.tab) (W := 0) (Nat.le_of_ble_eq_true rfl) (Nat.le_of_ble_eq_true rfl) (Nat.le_refl _) (by show 0 + len + 0 ≤ len; omega) (g := (mkF m 9 #[.val (.ref b), .val (.int (Int32.ofNat o)), .val (.int (Int32.ofNat len)), .val (.ref s.heap.size), .unset, .unset] [.int (Int32.ofNat len), .int (Int32.ofNat 0), .ref s.heap.size, .int (Int32.ofNat o), .ref b])) rfl (by rw [hml]; rfl) c5 (argsL := [.ref b, .int (Int32.ofNat o), .ref s.heap.size, .int (Int32.ofNat 0), .int (Int32.ofNat len)]) (rest := []) rfl rfl (by show 2 * 0 + 0 ≤ _; decide) (hb hbytes d9) (⟨rfl, hA3, ba3, hne, l1, by rw [bs3]; simp, hp⟩)
  obtain ⟨rfl, B6, p6, f6⟩ := E6
  have c7 : Steps p.tables e below (s₁.setTop (entryFrame m #[.ref b, .int (Int32.ofNat o), .int (Int32.ofNat len)] 6)) (T6.setTop (mkF m 12 #[.val (.ref b), .val (.int (Int32.ofNat o)), .val (.int (Int32.ofNat len)), .val (.ref s.heap.size), .unset, .unset] [.int (Int32.ofNat len)])) := g6
  have c8 : Steps p.tables e below (s₁.setTop (entryFrame m #[.ref b, .int (Int32.ofNat o), .int (Int32.ofNat len)] 6)) (T6.setTop (mkF m 58 #[.val (.ref b), .val (.int (Int32.ofNat o)), .val (.int (Int32.ofNat len)), .val (.ref s.heap.size), .val (.int (Int32.ofNat len)), .unset] [.ref s.heap.size])) := c7.trans (by
    refine XS.istore X6.here hexec rfl (hb hbytes d12) rfl rfl ?_
    refine XS.iload X6.here hexec rfl (hb hbytes d14) rfl ?_
    refine XS.iloadN X6.here hexec rfl (hb hbytes d16) rfl ?_
    refine XS.icmpYes X6.here hexec rfl (pc0 := 17) rfl (hb hbytes d17) rfl (ii_eq_t rfl) (by decide) rfl ?_
    refine XS.aloadN X6.here hexec rfl (hb hbytes d57) rfl rfl ?_
    exact Steps.refl _)
  have X8 := X6.wide (L' := []) (cells' := 1) (slots' := len) (fun x hx hlt => by
    simp only [List.nil_append, copyLocs, List.mem_map, List.mem_range] at hx
    obtain ⟨i, -, rfl⟩ := hx
    exact absurd hlt (Nat.lt_irrefl _)) (Nat.le_refl _) (by omega)
  exact ⟨T6, some (.ref s.heap.size), _, _, _, X8, rfl, rfl, rfl, (fun h => by cases h), ⟨⟨rfl, B6, ba3.like (X3.warmed.alike.symm.trans X6.warmed.alike) p6.1 f6.1 f6.2.1 f6.2.2.1, f6.2.1.trans bv3, by rw [X6.warmed.alike.findClass, f6.1]; exact bf3, by rw [f6.2.2.1, bs3]; simp, fun j hj => by rw [f6.2.2.2 j, if_pos (by omega)]; rfl, kp3.put p6 (Nat.le_refl _)⟩, by rw [p6.2.2, bh3, hh0]; simp⟩, fun fs hl => c8.trans (X8.areturnOut hexec rfl hret rfl (hb hbytes d58) hl)⟩
end Cmp3
namespace CodL
def yN : MethodName := ⟨"java/lang/StringUTF16", "coderFromArrayLen", "([BI)B"⟩
abbrev yB : ByteArray := jdk_52_method_15_code
theorem d0 : decode yB 0 = .ok (.iload_n 1, 1) := by decide +kernel
theorem d1 : decode yB 1 = .ok (.aload_n 0, 1) := by decide +kernel
theorem d2 : decode yB 2 = .ok (.arraylength, 1) := by decide +kernel
theorem d3 : decode yB 3 = .ok (.isub, 1) := by decide +kernel
theorem d4 : decode yB 4 = .ok (.bipush 31, 2) := by decide +kernel
theorem d6 : decode yB 6 = .ok (.iushr, 1) := by decide +kernel
theorem d7 : decode yB 7 = .ok (.i2b, 1) := by decide +kernel
theorem d8 : decode yB 8 = .ok (.ireturn, 1) := by decide +kernel
def site : List Cond := []
def tab : Cond := tabOf yN yB 2 (some .byte) site
def P (d : Addr) (B : Cell) (args : Array Value) (s : State) : Prop := args = #[.ref d, .int (Int32.ofNat B.slots.size)] ∧ Arr .byte d B s
def E (r : Option Value) (s u : State) : Prop := XT.PureE (some (.int 0)) r s u
/-- an array as long as the number of chars: LATIN1 -/
theorem law (l : Launch) (d : Addr) (B : Cell) : Law l yN 2 2 0 0 yB 2 (some .byte) site (P d B) E [] 0 0 := by
  refine Law.of_walk (plainFor_of_name (by decide +kernel)) (by decide +kernel) (by decide +kernel) (by decide) (fun _ _ h => by rw [h.1]; rfl) (fun _ U U' hal hh h => ⟨h.1, h.2.mv hal hh⟩) (fun r U U' V V' h1 hal h2 h => XT.PureE.mv r U U' V V' h1 hal h2 h) ?_
  intro p e s m args below meth c s₁ X0 hexec hbytes hml hret hlk hnm hown hh0 W hP
  obtain ⟨rfl, hB⟩ := hP
  have hB0 := hB.mv X0.warmed.alike hh0
  have c1 : Steps p.tables e below (s₁.setTop (entryFrame m #[.ref d, .int (Int32.ofNat B.slots.size)] 2)) (s₁.setTop (mkF m 0 #[.val (.ref d), .val (.int (Int32.ofNat B.slots.size))] [])) := entry rfl
  have c2 : Steps p.tables e below (s₁.setTop (entryFrame m #[.ref d, .int (Int32.ofNat B.slots.size)] 2)) (s₁.setTop (mkF m 2 #[.val (.ref d), .val (.int (Int32.ofNat B.slots.size))] [.ref d, .int (Int32.ofNat B.slots.size)])) := c1.trans (by
    refine XS.iloadN X0.here hexec rfl (hb hbytes d0) rfl ?_
    refine XS.aloadN X0.here hexec rfl (hb hbytes d1) rfl rfl ?_
    exact Steps.refl _)
  have c3 : Steps p.tables e below (s₁.setTop (entryFrame m #[.ref d, .int (Int32.ofNat B.slots.size)] 2)) (s₁.setTop (mkF m 8 #[.val (.ref d), .val (.int (Int32.ofNat B.slots.size))] [.int (lo8 (ushr (Int32.ofNat B.slots.size - Int32.ofNat B.slots.size) 31))])) := c2.trans (by
    refine X0.alen hexec hB0 rfl rfl (hb hbytes d2) ?_
    refine XS.isub X0.here hexec rfl (hb hbytes d3) rfl ?_
    refine bipushV X0.here hexec rfl 31 (hb hbytes d4) (by decide) ?_
    refine iushr X0.here hexec rfl (hb hbytes d6) rfl ?_
    refine i2b X0.here hexec rfl (hb hbytes d7) rfl ?_
    exact Steps.refl _)
  have e0 : lo8 (ushr (Int32.ofNat B.slots.size - Int32.ofNat B.slots.size) 31) = 0 := by rw [Int32.sub_self]; decide
  rw [e0] at c3
  exact ⟨s₁, some (.int 0), _, _, _, X0, rfl, rfl, rfl, (fun h => by cases h), ⟨rfl, hh0⟩, fun fs hl => c3.trans (X0.ireturnOut hexec hret rfl (Or.inr (Or.inr (Or.inl rfl))) (hb hbytes d8) hl)⟩
end CodL
/-- the String at a is Latin-1 over a new byte[] (the heap's one new cell): the low bytes of the len chars of A from o on; every cell but a is kept -/
def Got (a : Addr) (D : Cell) (fV fC : Field) (A : Cell) (o len : Nat) (r : Option Value) (s u : State) : Prop := r = none ∧ ∃ D' V : Cell, Blank "java/lang/String" a D' u ∧ Same D D' [fV.slot, fC.slot] ∧ D'.slots[fV.slot]? = some (.ref s.heap.size) ∧ D'.slots[fC.slot]? = some (.int 0) ∧ Arr .byte s.heap.size V u ∧ V.vm = .none ∧ u.vm.findClass "[B" = some V.cls ∧ V.slots.size = len ∧ (∀ j, j < len → V.slots[j]? = some (.int (lo8 (cv A (o + j))))) ∧ (∀ (y : Addr) (c : Cell), y ≠ a → s.heap[y]? = some c → u.heap[y]? = some c) ∧ u.heap.size = s.heap.size + 1
theorem Got.mv {a : Addr} {D A : Cell} {fV fC : Field} {o len : Nat} : ∀ r (U U' V V' : State), U'.heap = U.heap → V.vm.Alike V'.vm → V'.heap = V.heap → Got a D fV fC A o len r U V → Got a D fV fC A o len r U' V' :=
  fun r U U' V V' h1 hal h2 ⟨e0, D', X, a1, a2, a3, a4, a5, a6, a7, a8, a9, a10, a11⟩ => ⟨e0, D', X, a1.mv hal h2, a2, by rw [h1]; exact a3, a4, by rw [h1]; exact a5.mv hal h2, a6, by rw [hal.findClass]; exact a7, a8, a9, by rw [h1, h2]; exact a10, by rw [h1, h2]; exact a11⟩
namespace New4
def yN : MethodName := ⟨"java/lang/String", "<init>", "([CIILjava/lang/Void;)V"⟩
abbrev yB : ByteArray := jdk_42_method_149_code
theorem d0 : decode yB 0 = .ok (.aload_n 0, 1) := by decide +kernel
theorem d1 : decode yB 1 = .ok (.invokespecial 1, 3) := by decide +kernel
theorem d4 : decode yB 4 = .ok (.iload_n 3, 1) := by decide +kernel
theorem d5 : decode yB 5 = .ok (.ifCond (.ne) 22, 3) := by decide +kernel
theorem d27 : decode yB 27 = .ok (.getstatic 38, 3) := by decide +kernel
theorem d30 : decode yB 30 = .ok (.ifCond (.eq) 28, 3) := by decide +kernel
theorem d33 : decode yB 33 = .ok (.aload_n 1, 1) := by decide +kernel
theorem d34 : decode yB 34 = .ok (.iload_n 2, 1) := by decide +kernel
theorem d35 : decode yB 35 = .ok (.iload_n 3, 1) := by decide +kernel
theorem d36 : decode yB 36 = .ok (.invokestatic 177, 3) := by decide +kernel
theorem d39 : decode yB 39 = .ok (.astore 5, 2) := by decide +kernel
theorem d41 : decode yB 41 = .ok (.aload_n 0, 1) := by decide +kernel
theorem d42 : decode yB 42 = .ok (.aload 5, 2) := by decide +kernel
theorem d44 : decode yB 44 = .ok (.iload_n 3, 1) := by decide +kernel
theorem d45 : decode yB 45 = .ok (.invokestatic 47, 3) := by decide +kernel
theorem d48 : decode yB 48 = .ok (.putfield 15, 3) := by decide +kernel
theorem d51 : decode yB 51 = .ok (.aload_n 0, 1) := by decide +kernel
theorem d52 : decode yB 52 = .ok (.aload 5, 2) := by decide +kernel
theorem d54 : decode yB 54 = .ok (.putfield 9, 3) := by decide +kernel
theorem d57 : decode yB 57 = .ok (.return_, 1) := by decide +kernel
def site : List Cond := [.fieldLink "java/lang/String" 38 "java/lang/String" "COMPACT_STRINGS" "Z", Cmp3.tab, CodL.tab, .laysFinal "java/lang/String" "java/lang/String" "value" "[B", .fieldLink "java/lang/String" 9 "java/lang/String" "value" "[B", .laysFinal "java/lang/String" "java/lang/String" "coder" "B", .fieldLink "java/lang/String" 15 "java/lang/String" "coder" "B"] ++ objW "java/lang/String" 1 ++ staticW "java/lang/String" 177 Cmp3.yN ++ staticW "java/lang/String" 47 CodL.yN
def tab : Cond := tabOf yN yB 6 none site
def P (a : Addr) (D : Cell) (fV fC : Field) (b : Addr) (A : Cell) (z : Int32) (o len : Nat) (args : Array Value) (s : State) : Prop := args = #[.ref a, .ref b, .int (Int32.ofNat o), .int (Int32.ofNat len), .null] ∧ Blank "java/lang/String" a D s ∧ Found "java/lang/String" "value" "[B" fV s ∧ Found "java/lang/String" "coder" "B" fC s ∧ Ch b A s ∧ StaticIs s "java/lang/String" "COMPACT_STRINGS" "Z" (.int z) ∧ ¬ z = 0 ∧ 0 < len ∧ o + len ≤ A.slots.size ∧ len ≤ 536870912 ∧ ∀ i, i < len → ¬ 255 < cv A (o + i)
def E (a : Addr) (D : Cell) (fV fC : Field) (A : Cell) (o len : Nat) (r : Option Value) (s u : State) : Prop := Got a D fV fC A o len r s u
/-- len > 0, no char of the range above 255: a Latin-1 String of their low bytes -/
theorem law (l : Launch) (a : Addr) (D : Cell) (fV fC : Field) (b : Addr) (A : Cell) (z : Int32) (o len : Nat) : Law l yN 5 4 2 35 yB 6 none site (P a D fV fC b A z o len) (E a D fV fC A o len) [⟨a, fC.slot⟩, ⟨a, fV.slot⟩] 1 len := by
  refine Law.of_walk (plainFor_of_name (by decide +kernel)) (by decide +kernel) (by decide +kernel) (by decide) (fun _ _ h => by rw [h.1]; rfl) (fun _ U U' hal hh h => ⟨h.1, h.2.1.mv hal hh, h.2.2.1.al hal, h.2.2.2.1.al hal, h.2.2.2.2.1.mv hal hh, h.2.2.2.2.2.1.there hal hh, h.2.2.2.2.2.2⟩) (fun r U U' V V' h1 hal h2 h => Got.mv r U U' V V' h1 hal h2 h) ?_
  intro p e s m args below meth c s₁ X0 hexec hbytes hml hret hlk hnm hown hh0 W hP
  obtain ⟨rfl, hB, f1, f2, hA, s1, hz, l0, l1, l2, hp⟩ := hP
  have a31 := hA.1.2.2.2
  have c1 : Steps p.tables e below (s₁.setTop (entryFrame m #[.ref a, .ref b, .int (Int32.ofNat o), .int (Int32.ofNat len), .null] 6)) (s₁.setTop (mkF m 0 #[.val (.ref a), .val (.ref b), .val (.int (Int32.ofNat o)), .val (.int (Int32.ofNat len)), .val .null, .unset] [])) := entry rfl
  have c2 : Steps p.tables e below (s₁.setTop (entryFrame m #[.ref a, .ref b, .int (Int32.ofNat o), .int (Int32.ofNat len), .null] 6)) (s₁.setTop (mkF m 1 #[.val (.ref a), .val (.ref b), .val (.int (Int32.ofNat o)), .val (.int (Int32.ofNat len)), .val .null, .unset] [.ref a])) := c1.trans (by
    refine XS.aloadN X0.here hexec rfl (hb hbytes d0) rfl rfl ?_
    exact Steps.refl _)
  obtain ⟨T3, X3, q3, st3⟩ := X0.oinit hexec hown (wks W (objW "java/lang/String" 1)) (g := (mkF m 1 #[.val (.ref a), .val (.ref b), .val (.int (Int32.ofNat o)), .val (.int (Int32.ofNat len)), .val .null, .unset] [.ref a])) rfl (by rw [hml]; rfl) (rest := []) rfl (hb hbytes d1) (W := 0) (by show 2 * 0 + 0 ≤ _; decide) (Nat.le_of_ble_eq_true rfl) (Nat.le_of_ble_eq_true rfl)
  have hh3 := q3.trans hh0
  have c4 : Steps p.tables e below (s₁.setTop (entryFrame m #[.ref a, .ref b, .int (Int32.ofNat o), .int (Int32.ofNat len), .null] 6)) (T3.setTop (mkF m 27 #[.val (.ref a), .val (.ref b), .val (.int (Int32.ofNat o)), .val (.int (Int32.ofNat len)), .val .null, .unset] [])) := (c2.trans (st3 _ (Steps.refl _))).trans (by
    refine XS.iloadN X3.here hexec rfl (hb hbytes d4) rfl ?_
    refine XS.ifYes X3.here hexec rfl (pc0 := 5) rfl (hb hbytes d5) rfl (i0_ne_t (nz32 (by omega) l0)) (by decide) rfl ?_
    exact Steps.refl _)
  obtain ⟨T5, X5, q5, st5⟩ := X3.sget hexec hown (wk W (.fieldLink "java/lang/String" 38 "java/lang/String" "COMPACT_STRINGS" "Z")) s1 (fun _ _ h => by rw [hh3]; exact h) (g := (mkF m 27 #[.val (.ref a), .val (.ref b), .val (.int (Int32.ofNat o)), .val (.int (Int32.ofNat len)), .val .null, .unset] [])) rfl (hb hbytes d27)
  have hh5 := q5.trans hh3
  have c6 : Steps p.tables e below (s₁.setTop (entryFrame m #[.ref a, .ref b, .int (Int32.ofNat o), .int (Int32.ofNat len), .null] 6)) (T5.setTop (mkF m 30 #[.val (.ref a), .val (.ref b), .val (.int (Int32.ofNat o)), .val (.int (Int32.ofNat len)), .val .null, .unset] [.int z])) := c4.trans (st5 _ (Steps.refl _))
  have c7 : Steps p.tables e below (s₁.setTop (entryFrame m #[.ref a, .ref b, .int (Int32.ofNat o), .int (Int32.ofNat len), .null] 6)) (T5.setTop (mkF m 36 #[.val (.ref a), .val (.ref b), .val (.int (Int32.ofNat o)), .val (.int (Int32.ofNat len)), .val .null, .unset] [.int (Int32.ofNat len), .int (Int32.ofNat o), .ref b])) := c6.trans (by
    refine XS.ifNo X5.here hexec rfl (hb hbytes d30) rfl (i0_eq_f hz) ?_
    refine XS.aloadN X5.here hexec rfl (hb hbytes d33) rfl rfl ?_
    refine XS.iloadN X5.here hexec rfl (hb hbytes d34) rfl ?_
    refine XS.iloadN X5.here hexec rfl (hb hbytes d35) rfl ?_
    exact Steps.refl _)
  obtain ⟨v8, T8, X8, E8, g8⟩ := X5.callS hexec (Cmp3.law l b A o len) hown (wks W (staticW "java/lang/String" 177 Cmp3.yN)) (wk W Cmp3.tab) (W := 0) (Nat.le_of_ble_eq_true rfl) (Nat.le_of_ble_eq_true rfl) (Nat.le_refl _) (by show 0 + len ≤ len; omega) (g := (mkF m 36 #[.val (.ref a), .val (.ref b), .val (.int (Int32.ofNat o)), .val (.int (Int32.ofNat len)), .val .null, .unset] [.int (Int32.ofNat len), .int (Int32.ofNat o), .ref b])) rfl (by rw [hml]; rfl) c7 (argsL := [.ref b, .int (Int32.ofNat o), .int (Int32.ofNat len)]) (rest := []) rfl rfl (by show 2 * 0 + 0 ≤ _; decide) (hb hbytes d36) (⟨rfl, hA.mv X5.warmed.alike hh5, l1, l2, hp⟩)
  obtain ⟨e8, z8⟩ := E8
  obtain ⟨rfl, N, n1, n2, n3, n4, n5, n6⟩ := NewArr.mv _ T5 s _ _ hh5.symm (Vm.Alike.refl _) rfl e8
  rw [hh5] at z8
  have hB1 := hB.keep X8.warmed.alike (n6 _ _ hB.1)
  have hne : s.heap.size ≠ a := (Nat.ne_of_lt (Array.getElem?_eq_some_iff.mp hB.1).1).symm
  have c9 : Steps p.tables e below (s₁.setTop (entryFrame m #[.ref a, .ref b, .int (Int32.ofNat o), .int (Int32.ofNat len), .null] 6)) (T8.setTop (mkF m 39 #[.val (.ref a), .val (.ref b), .val (.int (Int32.ofNat o)), .val (.int (Int32.ofNat len)), .val .null, .unset] [.ref s.heap.size])) := g8
  have c10 : Steps p.tables e below (s₁.setTop (entryFrame m #[.ref a, .ref b, .int (Int32.ofNat o), .int (Int32.ofNat len), .null] 6)) (T8.setTop (mkF m 45 #[.val (.ref a), .val (.ref b), .val (.int (Int32.ofNat o)), .val (.int (Int32.ofNat len)), .val .null, .val (.ref s.heap.size)] [.int (Int32.ofNat N.slots.size), .ref s.heap.size, .ref a])) := by
    have hc : Steps p.tables e below (s₁.setTop (entryFrame m #[.ref a, .ref b, .int (Int32.ofNat o), .int (Int32.ofNat len), .null] 6)) (T8.setTop (mkF m 45 #[.val (.ref a), .val (.ref b), .val (.int (Int32.ofNat o)), .val (.int (Int32.ofNat len)), .val .null, .val (.ref s.heap.size)] [.int (Int32.ofNat len), .ref s.heap.size, .ref a])) := c9.trans (by
      refine XS.astore X8.here hexec rfl (hb hbytes d39) rfl rfl rfl ?_
      refine XS.aloadN X8.here hexec rfl (hb hbytes d41) rfl rfl ?_
      refine XS.aload X8.here hexec rfl (hb hbytes d42) rfl rfl ?_
      refine XS.iloadN X8.here hexec rfl (hb hbytes d44) rfl ?_
      exact Steps.refl _)
    rw [n4]; exact hc
  obtain ⟨v11, T11, X11, E11, g11⟩ := X8.callS hexec (CodL.law l s.heap.size N) hown (wks W (staticW "java/lang/String" 47 CodL.yN)) (wk W CodL.tab) (W := 1) (Nat.le_of_ble_eq_true rfl) (Nat.le_of_ble_eq_true rfl) (Nat.le_refl _) (by show 0 + len + 0 ≤ len; omega) (g := (mkF m 45 #[.val (.ref a), .val (.ref b), .val (.int (Int32.ofNat o)), .val (.int (Int32.ofNat len)), .val .null, .val (.ref s.heap.size)] [.int (Int32.ofNat N.slots.size), .ref s.heap.size, .ref a])) rfl (by rw [hml]; rfl) c10 (argsL := [.ref s.heap.size, .int (Int32.ofNat N.slots.size)]) (rest := [.ref a]) rfl rfl (by show 2 * 0 + (1 + 0) ≤ _; decide) (hb hbytes d45) (⟨rfl, n1⟩)
  obtain ⟨rfl, q11⟩ := E11
  have hB11 := hB1.mv (X8.warmed.alike.symm.trans X11.warmed.alike) q11
  have c12 : Steps p.tables e below (s₁.setTop (entryFrame m #[.ref a, .ref b, .int (Int32.ofNat o), .int (Int32.ofNat len), .null] 6)) (T11.setTop (mkF m 48 #[.val (.ref a), .val (.ref b), .val (.int (Int32.ofNat o)), .val (.int (Int32.ofNat len)), .val .null, .val (.ref s.heap.size)] [.int 0, .ref a])) := g11
  obtain ⟨T13, X13, p13, bl13, sl13, st13⟩ := X11.finit hexec hown (wk W (.fieldLink "java/lang/String" 15 "java/lang/String" "coder" "B")) (Or.inr ⟨_, (wk W (.laysFinal "java/lang/String" "java/lang/String" "coder" "B"))⟩) (Or.inl ⟨rfl, hnm⟩) f2 (Or.inl rfl) hB11 (t := .byte) (by decide +kernel) rfl (g := (mkF m 48 #[.val (.ref a), .val (.ref b), .val (.int (Int32.ofNat o)), .val (.int (Int32.ofNat len)), .val .null, .val (.ref s.heap.size)] [.int 0, .ref a])) rfl (rest := []) rfl (hb hbytes d48)
  have c14 : Steps p.tables e below (s₁.setTop (entryFrame m #[.ref a, .ref b, .int (Int32.ofNat o), .int (Int32.ofNat len), .null] 6)) (T13.setTop (mkF m 54 #[.val (.ref a), .val (.ref b), .val (.int (Int32.ofNat o)), .val (.int (Int32.ofNat len)), .val .null, .val (.ref s.heap.size)] [.ref s.heap.size, .ref a])) := (c12.trans (st13 _ (Steps.refl _))).trans (by
    refine XS.aloadN X13.here hexec rfl (hb hbytes d51) rfl rfl ?_
    refine XS.aload X13.here hexec rfl (hb hbytes d52) rfl rfl ?_
    exact Steps.refl _)
  obtain ⟨T15, X15, p15, bl15, sl15, st15⟩ := X13.finit hexec hown (wk W (.fieldLink "java/lang/String" 9 "java/lang/String" "value" "[B")) (Or.inr ⟨_, (wk W (.laysFinal "java/lang/String" "java/lang/String" "value" "[B"))⟩) (Or.inl ⟨rfl, hnm⟩) f1 (Or.inl rfl) bl13 (t := (.array .byte)) (by decide +kernel) rfl (g := (mkF m 54 #[.val (.ref a), .val (.ref b), .val (.int (Int32.ofNat o)), .val (.int (Int32.ofNat len)), .val .null, .val (.ref s.heap.size)] [.ref s.heap.size, .ref a])) rfl (rest := []) rfl (hb hbytes d54)
  have c16 : Steps p.tables e below (s₁.setTop (entryFrame m #[.ref a, .ref b, .int (Int32.ofNat o), .int (Int32.ofNat len), .null] 6)) (T15.setTop (mkF m 57 #[.val (.ref a), .val (.ref b), .val (.int (Int32.ofNat o)), .val (.int (Int32.ofNat len)), .val .null, .val (.ref s.heap.size)] [])) := c14.trans (st15 _ (Steps.refl _))
  have ap := apart (Or.inr ⟨_, (wk W (.laysFinal "java/lang/String" "java/lang/String" "value" "[B"))⟩) (Or.inr ⟨_, (wk W (.laysFinal "java/lang/String" "java/lang/String" "coder" "B"))⟩) f1 f2 (t₁ := .array .byte) (t₂ := .byte) (by decide +kernel) (by decide +kernel) (by decide)
  have al := X8.warmed.alike.symm.trans X15.warmed.alike
  have n7 : T11.heap[s.heap.size]? = some N := by rw [q11]; exact n1.1
  exact ⟨T15, none, _, _, _, X15, by simp, rfl, by omega, (fun _ => rfl), ⟨rfl, _, N, bl15, ((Same.refl D _).set _ (by simp)).set _ (by simp), sl15, (Cell.slots_setSlot_ne _ ap).trans sl13, n1.keep al (p15.other hne (p13.other hne n7)), n2, by rw [al.findClass]; exact n3, n4, n5, fun y c h1 h2 => p15.other h1 (p13.other h1 (by rw [q11]; exact n6 y c h2)), by rw [p15.2.2, p13.2.2, q11]; exact z8⟩, fun fs hl => c16.trans (X15.returnOut hexec hret (hb hbytes d57) hl)⟩
end New4
namespace New1
def yN : MethodName := ⟨"java/lang/String", "<init>", "([C)V"⟩
abbrev yB : ByteArray := jdk_42_method_3_code
theorem d0 : decode yB 0 = .ok (.aload_n 0, 1) := by decide +kernel
theorem d1 : decode yB 1 = .ok (.aload_n 1, 1) := by decide +kernel
theorem d2 : decode yB 2 = .ok (.iconst 0, 1) := by decide +kernel
theorem d3 : decode yB 3 = .ok (.aload_n 1, 1) := by decide +kernel
theorem d4 : decode yB 4 = .ok (.arraylength, 1) := by decide +kernel
theorem d5 : decode yB 5 = .ok (.aconst_null, 1) := by decide +kernel
theorem d6 : decode yB 6 = .ok (.invokespecial 27, 3) := by decide +kernel
theorem d9 : decode yB 9 = .ok (.return_, 1) := by decide +kernel
def site : List Cond := [New4.tab] ++ initW "java/lang/String" 27 New4.yN
def tab : Cond := tabOf yN yB 2 none site
def P (a : Addr) (D : Cell) (fV fC : Field) (b : Addr) (A : Cell) (z : Int32) (args : Array Value) (s : State) : Prop := args = #[.ref a, .ref b] ∧ Blank "java/lang/String" a D s ∧ Found "java/lang/String" "value" "[B" fV s ∧ Found "java/lang/String" "coder" "B" fC s ∧ Ch b A s ∧ StaticIs s "java/lang/String" "COMPACT_STRINGS" "Z" (.int z) ∧ ¬ z = 0 ∧ 0 < A.slots.size ∧ A.slots.size ≤ 536870912 ∧ ∀ i, i < A.slots.size → ¬ 255 < cv A i
def E (a : Addr) (D : Cell) (fV fC : Field) (A : Cell) (r : Option Value) (s u : State) : Prop := Got a D fV fC A 0 A.slots.size r s u
/-- new String(chars), not empty, no char above 255: a Latin-1 String of their low bytes -/
theorem law (l : Launch) (a : Addr) (D : Cell) (fV fC : Field) (b : Addr) (A : Cell) (z : Int32) : Law l yN 2 1 3 52 yB 2 none site (P a D fV fC b A z) (E a D fV fC A) [⟨a, fC.slot⟩, ⟨a, fV.slot⟩] 1 A.slots.size := by
  refine Law.of_walk (plainFor_of_name (by decide +kernel)) (by decide +kernel) (by decide +kernel) (by decide) (fun _ _ h => by rw [h.1]; rfl) (fun _ U U' hal hh h => ⟨h.1, h.2.1.mv hal hh, h.2.2.1.al hal, h.2.2.2.1.al hal, h.2.2.2.2.1.mv hal hh, h.2.2.2.2.2.1.there hal hh, h.2.2.2.2.2.2⟩) (fun r U U' V V' h1 hal h2 h => Got.mv r U U' V V' h1 hal h2 h) ?_
  intro p e s m args below meth c s₁ X0 hexec hbytes hml hret hlk hnm hown hh0 W hP
  obtain ⟨rfl, hB, f1, f2, hA, s1, hz, l0, l2, hp⟩ := hP
  have c1 : Steps p.tables e below (s₁.setTop (entryFrame m #[.ref a, .ref b] 2)) (s₁.setTop (mkF m 0 #[.val (.ref a), .val (.ref b)] [])) := entry rfl
  have c2 : Steps p.tables e below (s₁.setTop (entryFrame m #[.ref a, .ref b] 2)) (s₁.setTop (mkF m 6 #[.val (.ref a), .val (.ref b)] [.null, .int (Int32.ofNat A.slots.size), .int 0, .ref b, .ref a])) := c1.trans (by
    refine XS.aloadN X0.here hexec rfl (hb hbytes d0) rfl rfl ?_
    refine XS.aloadN X0.here hexec rfl (hb hbytes d1) rfl rfl ?_
    refine iconstV X0.here hexec rfl 0 (hb hbytes d2) (by decide) ?_
    refine XS.aloadN X0.here hexec rfl (hb hbytes d3) rfl rfl ?_
    refine X0.alen hexec (hA.1.mv X0.warmed.alike hh0) rfl rfl (hb hbytes d4) ?_
    refine XS.aconstNull X0.here hexec rfl (hb hbytes d5) ?_
    exact Steps.refl _)
  obtain ⟨v3, T3, X3, E3, g3⟩ := X0.callN hexec (New4.law l a D fV fC b A z 0 A.slots.size) rfl hown (wks W (initW "java/lang/String" 27 New4.yN)) (W New4.tab (by simp only [site, List.mem_cons, List.mem_append, true_or, or_true])) (W := 0) (Nat.le_of_ble_eq_true rfl) (Nat.le_of_ble_eq_true rfl) (Nat.le_refl _) (by show 0 + A.slots.size ≤ A.slots.size; omega) (g := (mkF m 6 #[.val (.ref a), .val (.ref b)] [.null, .int (Int32.ofNat A.slots.size), .int (Int32.ofNat 0), .ref b, .ref a])) rfl (by rw [hml]; rfl) c2 (argsL := [.ref b, .int (Int32.ofNat 0), .int (Int32.ofNat A.slots.size), .null]) (rest := []) rfl rfl (by show 2 * 0 + 0 ≤ _; decide) (hb hbytes d6) (⟨rfl, hB.mv X0.warmed.alike hh0, f1.al X0.warmed.alike, f2.al X0.warmed.alike, hA.mv X0.warmed.alike hh0, s1.there X0.warmed.alike hh0, hz, l0, by omega, l2, fun i hi => by rw [Nat.zero_add]; exact hp i hi⟩)
  have e0 := Got.mv _ s₁ s _ _ hh0.symm (Vm.Alike.refl _) rfl E3
  obtain rfl := e0.1
  have c4 : Steps p.tables e below (s₁.setTop (entryFrame m #[.ref a, .ref b] 2)) (T3.setTop (mkF m 9 #[.val (.ref a), .val (.ref b)] [])) := g3
  exact ⟨T3, none, _, _, _, X3, by simp, rfl, by omega, (fun _ => rfl), e0, fun fs hl => c4.trans (X3.returnOut hexec hret (hb hbytes d9) hl)⟩
theorem pays {l : Launch} {R : Room} {p : Program} {e : Env} {below : List Frame} {s : State} {sargs : Array Value} {len W : Nat} (a : Addr) (D : Cell) (fV fC : Field) (b : Addr) (A : Cell) (z : Int32) (htab : tab.before sargs s = true) (hfr : 4 ≤ R.frames) (hlo : W + 65 ≤ R.locals) :
    Back l R p e below s sargs yN len W (fun A₁ a₁ => A₁.cells + 1 ≤ R.cells ∧ A₁.slots + A.slots.size ≤ R.slots ∧ P a D fV fC b A z a₁ A₁.U) (fun A₁ _ v₁ B₁ => E a D fV fC A v₁ A₁.U B₁.U ∧ B₁.locs = A₁.locs ++ [⟨a, fC.slot⟩, ⟨a, fV.slot⟩] ∧ B₁.cells = A₁.cells + 1 ∧ B₁.slots = A₁.slots + A.slots.size) :=
  (law l a D fV fC b A z).pays htab hfr (by omega)
end New1
end StrChars
namespace StrChars.Road
open Jvm Sem ClassFile Op Lib Jvm.Stand Jvm.Free Jvm.Free.XT
open Jvm.Lib.Cold (StaticIs)
abbrev ST : String := "java/lang/String"
/-- every table word that New1's law asks, flat -/
abbrev words : List Jvm.Cond := [.code New1.yN New1.yB 2 none, .initialized ST, .methodLink ST 27 New4.yN, .instanceMethod New4.yN,
  .code New4.yN New4.yB 6 none, .fieldLink ST 38 ST "COMPACT_STRINGS" "Z", .laysFinal ST ST "value" "[B", .fieldLink ST 9 ST "value" "[B", .laysFinal ST ST "coder" "B", .fieldLink ST 15 ST "coder" "B",
  .methodLink ST 1 Lib.objectInit, .instanceMethod Lib.objectInit, .code Lib.objectInit ⟨#[0xb1]⟩ 1 none, .methodLink ST 177 Cmp3.yN, .static Cmp3.yN, .methodLink ST 47 CodL.yN, .static CodL.yN,
  .code Cmp3.yN Cmp3.yB 6 (some (.array .byte)), .initialized U16, .arrayClass .byte, .methodLink U16 115 Cmp5.yN, .static Cmp5.yN, .code Cmp5.yN Cmp5.yB 7 (some .int), .code CodL.yN CodL.yB 2 (some .byte)]
theorem tab_of {a : Array Value} {s : State} (h : ∀ w ∈ words, w.before a s = true) : New1.tab.before a s = true := by
  have h5 : Cmp5.tab.before a s = true := unparts (wk h (.code Cmp5.yN Cmp5.yB 7 (some .int))) (wks h (.initialized Cmp5.yN.cls :: Cmp5.site))
  have hc : CodL.tab.before a s = true := unparts (wk h (.code CodL.yN CodL.yB 2 (some .byte))) (wks h (.initialized CodL.yN.cls :: CodL.site))
  have q5 : ∀ w ∈ Cmp5.tab :: words, w.before a s = true := fun w hw => (List.mem_cons.mp hw).elim (fun e => e ▸ h5) (h w)
  have h3 : Cmp3.tab.before a s = true := unparts (wk q5 (.code Cmp3.yN Cmp3.yB 6 (some (.array .byte)))) (wks q5 (.initialized Cmp3.yN.cls :: Cmp3.site))
  have q3 : ∀ w ∈ Cmp3.tab :: CodL.tab :: words, w.before a s = true := fun w hw => (List.mem_cons.mp hw).elim (fun e => e ▸ h3) fun hw => (List.mem_cons.mp hw).elim (fun e => e ▸ hc) (h w)
  have h4 : New4.tab.before a s = true := unparts (wk q3 (.code New4.yN New4.yB 6 none)) (wks q3 (.initialized New4.yN.cls :: New4.site))
  have q4 : ∀ w ∈ New4.tab :: words, w.before a s = true := fun w hw => (List.mem_cons.mp hw).elim (fun e => e ▸ h4) (h w)
  exact unparts (wk q4 (.code New1.yN New1.yB 2 none)) (wks q4 (.initialized New1.yN.cls :: New1.site))
/-- the words ride from the start Z to the walk's own state -/
theorem moved {Z s : State} {a0 args : Array Value} (hZ : Z.Warmed39 s.vm) (hw : ∀ d ∈ words, d.before a0 Z = true) : ∀ d ∈ words, d.before args s = true := fun d hd => by
  have q := hw d hd
  have t : ∀ d ∈ words, d = .arrayClass .byte ∨ (d.onTables && d.keepsFace) = true := by decide +kernel
  rcases t d hd with rfl | t
  · exact RoadKit.mvA hZ q
  · exact RoadKit.mv hZ q t
/-- WHAT COMES BACK, over the tables of the start Z: h the heap at the call, h' behind it -/
def Q (Z : State) (x : Addr) (A : Cell) (h : Heap) (v : Option Value) (h' : Heap) (L : List Loc) : Prop := v = none ∧ (∀ y ∈ L, y.base = x) ∧ RoadKit.Keep h h' [x] ∧ h'.size = h.size + 1 ∧ RoadKit.Exa Z h' x ST ∧ RoadKit.Fld Z h' x ST "value" "[B" (.ref h.size) ∧ RoadKit.Fld Z h' x ST "coder" "B" (.int 0) ∧
  (∃ V : Cell, RoadKit.Arr Z h' h.size V .byte ∧ V.vm = .none ∧ Z.vm.findClass "[B" = some V.cls ∧ V.slots.size = A.slots.size ∧ ∀ j, j < A.slots.size → V.slots[j]? = some (.int (lo8 (cv A j)))) ∧
  ∀ (O n d : String) (w : Value), RoadKit.Fld Z h x O n d w → RoadKit.slotOf Z O n d ≠ RoadKit.slotOf Z ST "value" "[B" → RoadKit.slotOf Z O n d ≠ RoadKit.slotOf Z ST "coder" "B" → RoadKit.Fld Z h' x O n d w
/-- **new String(chars) AT A CALL, IN THE ROAD'S FORM**: for specialBack behind newO: x the fresh String, b the char[] with the cell A -/
theorem back {p : Program} {l : Launch} {e : Env} {R : Room} {s : State} {args : Array Value} {below : List Frame} {len W : Nat} {Z : State} {a0 : Array Value} {h : Heap} (hZ : Z.Warmed39 s.vm) (hw : ∀ d ∈ words, d.before a0 Z = true) {kI : Nat} (wi : (Jvm.Cond.instantiable ST kI).before a0 Z = true)
    {x b : Addr} {A : Cell} {z : Int32} {v0 c0 : Value} (E : RoadKit.Exa Z h x ST) (V : RoadKit.Fld Z h x ST "value" "[B" v0) (C : RoadKit.Fld Z h x ST "coder" "B" c0) (K : RoadKit.Arr Z h b A .char) (hty : Typed .char A) (S : RoadKit.Sta Z h ST "COMPACT_STRINGS" "Z" (.int z)) (hz : ¬ z = 0)
    (l0 : 0 < A.slots.size) (l2 : A.slots.size ≤ 536870912) (hp : ∀ i, i < A.slots.size → ¬ 255 < cv A i) (hfr : 4 ≤ R.frames) (hlo : W + 65 ≤ R.locals) :
    Back l R p e below s args New1.yN len W (fun P a => a = #[.ref x, .ref b] ∧ P.U.heap = h ∧ P.cells + 1 ≤ R.cells ∧ P.slots + A.slots.size ≤ R.slots)
      (fun P _ v B => ∃ L, Q Z x A h v B.U.heap L ∧ B.locs = P.locs ++ L ∧ B.cells = P.cells + 1 ∧ B.slots = P.slots + A.slots.size) := by
  intro m meth c P g ig mk a X hg hsize hdg hW hn hp'
  obtain ⟨rfl, rfl, r1, r2⟩ := hp'
  have al : Z.vm.Alike P.U.vm := hZ.alike.trans X.warmed.alike
  obtain ⟨D, cfV, kV, iV, fV, hD, gV, stV, knV, obV, asV, slV⟩ := id V
  obtain ⟨D', cfC, kC, iC, fC, hD', gC, stC, -, -, asC, slC⟩ := id C
  cases hD.symm.trans hD'
  obtain ⟨D2, kD, e1, e2, e3, e4, e5⟩ := id E
  cases hD.symm.trans e1
  obtain ⟨c2, k2, i1, i2, i3, -⟩ := Cond.instantiable_spec wi
  cases e2.symm.trans i1
  cases e3.symm.trans i2
  obtain ⟨kU, u1, u2⟩ := al.2.2 _ _ e3
  have hB : Blank ST x D P.U := ⟨hD, ⟨knV, fun q hq => by rw [hq] at obV; cases obV⟩, by rw [al.findClass]; exact e2, kU, u1, by rw [u2]; exact i3, by rw [u2]; exact e5 i3⟩
  have F1 : Found ST "value" "[B" fV P.U := ⟨SBG.found_only al ⟨cfV, kV, iV, gV⟩, stV⟩
  have F2 : Found ST "coder" "B" fC P.U := ⟨SBG.found_only al ⟨cfC, kC, iC, gC⟩, stC⟩
  have hA : Ch b A P.U := ⟨⟨K.1, State.isArrayOf_alike al K.2.1, K.2.2, by omega⟩, hty⟩
  have hS : StaticIs P.U ST "COMPACT_STRINGS" "Z" (.int z) := by
    obtain ⟨cfS, iS, kS, fS, st, cS, t1, t2, t3, t4, t5, t6, t7⟩ := S
    exact StaticIs.there (s := { Z with heap := P.U.heap }) ⟨cfS, iS, kS, fS, st, cS, t1, t2, t3, t4, t5, (fun q => by rw [q] at t6; cases t6), t7⟩ al rfl
  obtain ⟨v, B, X', ⟨⟨hv, E', V', q1, q2, q3, q4, q5, q6, q7, q8, q9, q10, q11⟩, hl, hc, hs⟩, st⟩ := New1.pays x D fV fC b A z (tab_of (moved hZ hw)) hfr hlo m meth c P g ig mk _ X hg hsize hdg hW hn ⟨r1, r2, rfl, hB, F1, F2, hA, hS, hz, l0, l2, hp⟩
  have al' : Z.vm.Alike B.U.vm := hZ.alike.trans X'.warmed.alike
  have hsz : E'.slots.size = D.slots.size := by
    obtain ⟨-, -, -, kB, w1, w2, w3⟩ := q1
    obtain ⟨kB', y1, y2⟩ := al'.2.2 _ _ e3
    rw [q2.2.1] at w1
    cases w1.symm.trans y1
    rw [w3, e5 i3, y2]
  refine ⟨v, B, X', ⟨_, ⟨hv, ?_, ⟨by omega, fun y cy hy hn' => q10 y cy (by simpa using hn') hy, fun y cy hy => ?_⟩, q11, ⟨E', _, q1.1, by rw [q2.2.1]; exact e2, by rw [q2.2.1]; exact e3, by rw [q2.1]; exact obV, fun _ => by rw [hsz]; exact e5 i3⟩,
    ⟨E', cfV, kV, iV, fV, q1.1, gV, stV, by rw [q2.1]; exact knV, by rw [q2.1]; exact obV, by rw [q2.2.1]; exact asV, q3⟩, ⟨E', cfC, kC, iC, fC, q1.1, gC, stC, by rw [q2.1]; exact knV, by rw [q2.1]; exact obV, by rw [q2.2.1]; exact asC, q4⟩,
    ⟨V', ⟨q5.1, State.isArrayOf_alike al'.symm q5.2.1, q5.2.2.1⟩, q6, by rw [← al'.findClass]; exact q7, q8, fun j hj => by have := q9 j hj; rwa [Nat.zero_add] at this⟩, fun O n d w F n1 n2 => ?_⟩, hl, hc, hs⟩, st⟩
  · intro y hy
    simp only [List.mem_cons, List.not_mem_nil, or_false] at hy
    rcases hy with rfl | rfl <;> rfl
  · by_cases q : y = x
    · subst q
      cases hD.symm.trans hy
      exact ⟨E', q1.1, q2.2.1, q2.1, hsz⟩
    · exact ⟨cy, q10 y cy q hy, rfl, rfl, rfl⟩
  · obtain ⟨D3, cf, k, i, f, g1, g2, g3, g4, g5, g6, g7⟩ := F
    cases hD.symm.trans g1
    simp only [RoadKit.slotOf, g2, gV, gC, Option.map_some, Option.getD_some] at n1 n2
    exact ⟨E', cf, k, i, f, q1.1, g2, g3, by rw [q2.1]; exact g4, by rw [q2.1]; exact g5, by rw [q2.2.1]; exact g6, by rw [q2.2.2 f.slot (by simp [n1, n2])]; exact g7⟩
end StrChars.Road
namespace StrChars.Road
open Jvm Sem ClassFile Op Lib Jvm.Stand Jvm.Free Jvm.Free.XT
/-- WHAT COMES BACK, the byte[] as a list of values -/
def QA (Z : State) (x : Addr) (zn : Int32) (cs : List Int32) (h : Heap) (v : Option Value) (h' : Heap) (L : List Loc) : Prop := v = none ∧ (∀ y ∈ L, y.base = x) ∧ RoadKit.Keep h h' [x] ∧ h'.size = h.size + 1 ∧ RoadKit.Exa Z h' x ST ∧ RoadKit.Fld Z h' x ST "value" "[B" (.ref h.size) ∧ RoadKit.Fld Z h' x ST "coder" "B" (.int 0) ∧
  (∃ kb, Z.vm.findClass "[B" = some kb ∧ RoadKit.Arv Z h' h.size kb .byte zn (cs.map fun c => .int (lo8 c)) (.int 0)) ∧
  ∀ (O n d : String) (w : Value), RoadKit.Fld Z h x O n d w → RoadKit.slotOf Z O n d ≠ RoadKit.slotOf Z ST "value" "[B" → RoadKit.slotOf Z O n d ≠ RoadKit.slotOf Z ST "coder" "B" → RoadKit.Fld Z h' x O n d w
/-- **new String(chars) AT A CALL, THE ARRAYS AS LISTS**: the char[] at b holds cs, not empty, no char above 255 -/
theorem backArv {p : Program} {l : Launch} {e : Env} {R : Room} {s : State} {args : Array Value} {below : List Frame} {len W : Nat} {Z : State} {a0 : Array Value} {h : Heap} (hZ : Z.Warmed39 s.vm) (hw : ∀ d ∈ words, d.before a0 Z = true) {kI : Nat} (wi : (Jvm.Cond.instantiable ST kI).before a0 Z = true)
    {x b : Addr} {k : ClassId} {zn z : Int32} {cs : List Int32} {dv v0 c0 : Value} (E : RoadKit.Exa Z h x ST) (V : RoadKit.Fld Z h x ST "value" "[B" v0) (C : RoadKit.Fld Z h x ST "coder" "B" c0) (K : RoadKit.Arv Z h b k .char zn (cs.map Value.int) dv) (S : RoadKit.Sta Z h ST "COMPACT_STRINGS" "Z" (.int z)) (hz : ¬ z = 0)
    (hlen : zn.toNatClampNeg = cs.length) (h0 : 0 < cs.length) (hbig : cs.length ≤ 536870912) (hall : ∀ c ∈ cs, ¬ 255 < c) (hfr : 4 ≤ R.frames) (hlo : W + 65 ≤ R.locals) :
    Back l R p e below s args New1.yN len W (fun P a => a = #[.ref x, .ref b] ∧ P.U.heap = h ∧ P.cells + 1 ≤ R.cells ∧ P.slots + cs.length ≤ R.slots)
      (fun P _ v B => ∃ L, QA Z x zn cs h v B.U.heap L ∧ B.locs = P.locs ++ L ∧ B.cells = P.cells + 1 ∧ B.slots = P.slots + cs.length) := by
  obtain ⟨A, K1, K2, K3, K4, K5, K6⟩ := K
  have e : A.slots.size = cs.length := K3.trans hlen
  have hat : ∀ (i : Nat) (hi : i < cs.length), A.slots[i]? = some (.int cs[i]) := fun i hi => by rw [K5 i (by omega)]; simp [List.getD_eq_getElem?_getD, hi]
  have hcv : ∀ (i : Nat) (hi : i < cs.length), cv A i = cs[i] := fun i hi => by unfold cv; rw [hat i hi]
  have hty : Typed .char A := fun i v hv => by
    have hi : i < A.slots.size := (Array.getElem?_eq_some_iff.mp hv).1
    have q := K5 i hi
    rw [hv] at q
    rw [Option.some.inj q]
    exact K6 i hi
  refine Back.mono (back hZ hw wi E V C K1 hty S hz (by omega) (by omega) (fun i hi => by rw [hcv i (by omega)]; exact hall _ (List.getElem_mem _)) hfr hlo) (fun P a hp => ⟨hp.1, hp.2.1, hp.2.2.1, by rw [e]; exact hp.2.2.2⟩) (fun P a v B hp hq => ?_)
  obtain ⟨L, ⟨q1, q2, q3, q4, q5, q6, q7, ⟨V', v1, v2, v3, v4, v5⟩, q9⟩, hl, hc, hs⟩ := hq
  refine ⟨L, ⟨q1, q2, q3, q4, q5, q6, q7, ⟨V'.cls, v3, V', v1, rfl, by rw [v4, e, hlen], K4, fun i hi => ?_, fun i hi => ?_⟩, q9⟩, hl, hc, by rw [hs, e]⟩
  · have hi' : i < cs.length := by omega
    rw [v5 i (by omega), hcv i hi']; simp [List.getD_eq_getElem?_getD, hi']
  · have hi' : i < cs.length := by omega
    simp only [List.getD_eq_getElem?_getD, List.getElem?_map, List.getElem?_eq_getElem hi', Option.map_some, Option.getD_some]
    exact fits_lo8 _
end StrChars.Road
namespace StrChars.Road
open Jvm Sem ClassFile Op Lib Jvm.Stand Jvm.Free Jvm.Free.XT
/-- WHAT COMES BACK, in the writer's own shape -/
def QV (Z : State) (x : Addr) (N : Int32) (bs : List Int32) (h : Heap) (n0 : Nat) (v : Option Value) (h' : Heap) (L : List Loc) : Prop := v = none ∧ RoadKit.Fr n0 L ∧ RoadKit.Keep h h' [x] ∧ RoadKit.Exa Z h' x ST ∧ RoadKit.Fld Z h' x ST "coder" "B" (.int 0) ∧
  ∃ (t : Addr) (kb : ClassId), n0 ≤ t ∧ h.size ≤ t ∧ ¬ t = x ∧ RoadKit.Fld Z h' x ST "value" "[B" (.ref t) ∧ RoadKit.Arv Z h' t kb .byte N (bs.map Value.int) (.int 0)
/-- **new String(chars) AT A CALL, FOR THE WRITER**: a char[] of n known ints, each 0 to 255 -/
theorem backV {p : Program} {l : Launch} {e : Env} {R : Room} {s : State} {args : Array Value} {below : List Frame} {len W : Nat} {Z : State} {a0 : Array Value} {h : Heap} (hZ : Z.Warmed39 s.vm) (hw : ∀ d ∈ words, d.before a0 Z = true) {kI : Nat} (wi : (Jvm.Cond.instantiable ST kI).before a0 Z = true)
    {x b : Addr} {kC : ClassId} {cs bs : List Int32} {d v0 c0 : Value} {z N : Int32} {n n0 : Nat} (hx0 : n0 ≤ x) (hh0 : n0 ≤ h.size) (E : RoadKit.Exa Z h x ST) (V : RoadKit.Fld Z h x ST "value" "[B" v0) (C : RoadKit.Fld Z h x ST "coder" "B" c0) (K : RoadKit.Arv Z h b kC .char N (cs.map Value.int) d) (S : RoadKit.Sta Z h ST "COMPACT_STRINGS" "Z" (.int z)) (hz : ¬ z = 0)
    (hn : cs.length = n) (hN : N = Int32.ofNat n) (l0 : 0 < n) (l2 : n ≤ 4000) (hp : ∀ c ∈ cs, ¬ c < 0 ∧ ¬ (255 : Int32) < c) (hb : bs = cs.map (fun c => c.toInt8.toInt32)) (hfr : 4 ≤ R.frames) (hlo : W + 65 ≤ R.locals) :
    Back l R p e below s args (⟨"java/lang/String", "<init>", "([C)V"⟩ : MethodName) len W (fun P a => a = #[.ref x, .ref b] ∧ P.U.heap = h ∧ P.cells + 1 ≤ R.cells ∧ P.slots + n ≤ R.slots)
      (fun P _ v B => ∃ L, QV Z x N bs h n0 v B.U.heap L ∧ B.locs = P.locs ++ L ∧ B.cells = P.cells + 1 ∧ B.slots = P.slots + n) := by
  subst hn hN hb
  refine Back.mono (backArv hZ hw wi E V C K S hz (n32 (by omega)) l0 (by omega) (fun c hc => (hp c hc).2) hfr hlo) (fun P a hp => hp) (fun P a v B hp hq => ?_)
  obtain ⟨L, ⟨q1, q2, q3, q4, q5, q6, q7, ⟨kb, v1, v2⟩, q9⟩, hl, hc, hs⟩ := hq
  exact ⟨L, ⟨q1, fun y hy => by rw [q2 y hy]; exact hx0, q3, q5, q7, h.size, kb, hh0, Nat.le_refl _, Nat.ne_of_gt E.lt, q6, by rw [List.map_map]; exact v2⟩, hl, hc, hs⟩
end StrChars.Road
end Jvm.Pilot.@@N@@
namespace Jvm.Pilot.@@N@@
open Jvm Jvm.ClassFile Sem Op Lib Jvm.Free Jvm.Stand Jvm.LawKit Jvm.RoadKit Bundle
/-! THE WALK's OWN LAYER: one predicate (Wk) for 'the walk stands at this frame', one lemma a step. -/
/-- a comparison of closed numbers -/
theorem nle {a b : Nat} (h : Nat.ble a b = true := by rfl) : a ≤ b := Nat.le_of_ble_eq_true h
section OwnWk
/-- the walk of y's body stands at the frame g, its heap h, its tables V; it has come from S0 -/
def Wk (p : Program) (l : Launch) (e : Env) (R : Room) (s : State) (m : MethodId) (args : Array Value) (below : List Frame) (meth : Method) (c : Code) (Z : State) (a0 : Array Value) (EL : List (String × Nat)) (S0 : State) (y : MethodName) (B : ByteArray) (ml : Nat) (ret : Option FieldType) (V : Vm) (h : Heap) (cl sl : Nat) (g : JFrame) : Prop :=
  (p.tables.exec = Jvm.exec ∧ c.code = B ∧ c.maxLocals = ml ∧ meth.sig.returnType = ret ∧ meth.locks = false ∧ Z.vm.findClass y.cls = some m.cls ∧ meth.name = y.name ∧ EW Z a0 EL) ∧
  (Z.Warmed39 V ∧ CHr Z EL s.vm s.heap V h ∧ Ext Z.heap h) ∧
  ∃ (T : State) (locs : List Loc) (k0 : Nat), Stand p l e R (s.setVm V) m args below meth c T locs cl sl ∧ T.heap = h ∧ s.Since V k0 ∧ k0 ≤ h.size ∧ Fr Z.heap.size locs ∧ ∀ t, Steps p.tables e below (T.setTop g) t → Steps p.tables e below S0 t
/-- the walk that began at S0 comes back, with Q of what it returns and leaves; k new cells, n new slots at the most -/
def Fini (p : Program) (e : Env) (below : List Frame) (s : State) (Z : State) (EL : List (String × Nat)) (S0 : State) (k n : Nat) (Q : Option Value → Heap → Prop) : Prop :=
  ∃ (s₂ : State) (o : Outcome), Steps p.tables e below S0 s₂ ∧ s₂.status = .running ∧ Ended s₂ below o ∧ ∃ (v : Option Value) (L : List Loc), o = .returned v ∧ Q v s₂.heap ∧ Ext Z.heap s₂.heap ∧ Fr Z.heap.size L ∧ CHr Z EL s.vm s.heap s₂.vm s₂.heap ∧ ReturnedEndW s o s₂ L k n
/-- a contract of y -/
def Met (l : Launch) (Z : State) (EL : List (String × Nat)) (y : MethodName) (B : ByteArray) (ml : Nat) (ret : Option FieldType) (ws : List Jvm.Cond) (rm : Room) (as' : Array Value) (h : Heap) (sf : List Addr) (Q : Option Value → Heap → Prop) : Prop :=
  MetFree l y (head1 (Jvm.Cond.code y B ml ret :: ws) rm) (fun a U => a = as' ∧ Z.Warmed39 U.vm ∧ U.heap = h ∧ CHv Z EL U.vm h ∧ ∀ x ∈ sf, Safe Z EL U.vm h x) (fun _ _ _ _ _ => True)
    (fun _ U o U' => ∃ (v : Option Value) (L : List Loc), o = .returned v ∧ Q v U'.heap ∧ Ext Z.heap U'.heap ∧ Fr Z.heap.size L ∧ CHr Z EL U.vm U.heap U'.vm U'.heap ∧ ReturnedEndW U o U' L rm.cells rm.slots)
variable {p : Program} {l : Launch} {e : Env} {R : Room} {s : State} {m : MethodId} {args : Array Value} {below : List Frame} {meth : Method} {c : Code} {Z : State} {a0 : Array Value} {EL : List (String × Nat)} {S0 : State} {y : MethodName} {B : ByteArray} {ml : Nat} {ret : Option FieldType} {V : Vm} {h : Heap} {cl sl : Nat}
theorem Met.of {ws : List Jvm.Cond} {rm : Room} {as' : Array Value} {sf : List Addr} {Q : Option Value → Heap → Prop} (hpl : plainFor y = true) (hEL : EW Z a0 EL) (hx : Ext Z.heap h)
    (body : ∀ (p : Program) (e : Env) (s : State) (m : MethodId) (below : List Frame) (meth : Method) (c : Code) (S0 : State) (V : Vm), Wk p l e rm s m as' below meth c Z a0 EL S0 y B ml ret V h 0 0 (entryFrame m as' ml) → s.heap = h → (∀ x ∈ sf, Safe Z EL V h x) → Fini p e below s Z EL S0 rm.cells rm.slots Q) :
    Met l Z EL y B ml ret ws rm as' h sf Q := by
  refine MetFree.of_bodySF hpl hisR ?_
  intro p e s m args below meth c s₁ Bd hml0 hP hK
  obtain ⟨rfl, hZ, hh, hC, hsf⟩ := hP
  have X0 : Stand p l e rm s m args below meth c s₁ [] 0 0 := Stand.of_body Bd
  have e0 : s₁.heap = h := by rw [← hh, Bd.state]; rfl
  have hown : s.vm.findClass y.cls = some m.cls := findClass_of_methodNamed Bd.named
  subst hh
  exact body p e s m below meth c (s₁.setTop (entryFrame m args ml)) s.vm
    ⟨⟨Bd.exec, Bd.bytes, hml0, Bd.returns, Bd.notSynchronized, by rw [← hZ.alike.findClass]; exact hown, (name_of_methodNamed Bd.named Bd.method).1, hEL⟩, ⟨hZ, CHr.refl hC, hx⟩, s₁, [], s.heap.size, X0, e0, (State.WarmedH.refl s).since _, Nat.le_refl _, Fr.nil _, fun t k => k⟩ rfl hsf
theorem Wk.hZ {g : JFrame} (w : Wk p l e R s m args below meth c Z a0 EL S0 y B ml ret V h cl sl g) : Z.Warmed39 V := w.2.1.1
theorem Wk.ch {g : JFrame} (w : Wk p l e R s m args below meth c Z a0 EL S0 y B ml ret V h cl sl g) : CHv Z EL V h := w.2.1.2.1.1
theorem Wk.old {g : JFrame} (w : Wk p l e R s m args below meth c Z a0 EL S0 y B ml ret V h cl sl g) : Ext Z.heap h := w.2.1.2.2
theorem Wk.zsz {g : JFrame} (w : Wk p l e R s m args below meth c Z a0 EL S0 y B ml ret V h cl sl g) : Z.heap.size ≤ h.size := w.2.1.2.2.1
theorem Wk.el {g : JFrame} (w : Wk p l e R s m args below meth c Z a0 EL S0 y B ml ret V h cl sl g) : EW Z a0 EL := w.1.2.2.2.2.2.2.2
/-- one plain step -/
theorem Wk.st {g g' : JFrame} (w : Wk p l e R s m args below meth c Z a0 EL S0 y B ml ret V h cl sl g)
    (k : ∀ (T : State) (t : State), At T m c below → p.tables.exec = Jvm.exec → c.code = B → Steps p.tables e below (T.setTop g') t → Steps p.tables e below (T.setTop g) t) : Wk p l e R s m args below meth c Z a0 EL S0 y B ml ret V h cl sl g' := by
  obtain ⟨hf, hz, T, locs, k0, X, e0, h1, h2, h3, st⟩ := w
  exact ⟨hf, hz, T, locs, k0, X, e0, h1, h2, h3, fun t hr => st t (k T t X.here hf.1 hf.2.1 hr)⟩
/-- a step that asks the Stand, and leaves it -/
theorem Wk.stX {g g' : JFrame} (w : Wk p l e R s m args below meth c Z a0 EL S0 y B ml ret V h cl sl g)
    (k : ∀ (T : State) (locs : List Loc) (t : State), Stand p l e R (s.setVm V) m args below meth c T locs cl sl → T.heap = h → Steps p.tables e below (T.setTop g') t → Steps p.tables e below (T.setTop g) t) : Wk p l e R s m args below meth c Z a0 EL S0 y B ml ret V h cl sl g' := by
  obtain ⟨hf, hz, T, locs, k0, X, e0, h1, h2, h3, st⟩ := w
  exact ⟨hf, hz, T, locs, k0, X, e0, h1, h2, h3, fun t hr => st t (k T locs t X e0 hr)⟩
theorem Wk.to {g g' : JFrame} (w : Wk p l e R s m args below meth c Z a0 EL S0 y B ml ret V h cl sl g) (q : g = g') : Wk p l e R s m args below meth c Z a0 EL S0 y B ml ret V h cl sl g' := q ▸ w
theorem Wk.more {g : JFrame} {cl' sl' : Nat} (w : Wk p l e R s m args below meth c Z a0 EL S0 y B ml ret V h cl sl g) (q1 : cl ≤ cl') (q2 : sl ≤ sl') : Wk p l e R s m args below meth c Z a0 EL S0 y B ml ret V h cl' sl' g := by
  obtain ⟨hf, hz, T, locs, k0, X, r⟩ := w
  exact ⟨hf, hz, T, locs, k0, X.more q1 q2, r⟩

theorem Wk.iloadN {pc pc' : Nat} {L : Array Slot} {st : List Value} {k : Fin 4} {x : Int32} (w : Wk p l e R s m args below meth c Z a0 EL S0 y B ml ret V h cl sl (mkF m pc L st)) (hd : decode B pc = .ok (.iload_n k, 1)) (hl : L[k.val]? = some (.val (.int x))) (hp : pc + 1 = pc' := by rfl) : Wk p l e R s m args below meth c Z a0 EL S0 y B ml ret V h cl sl (mkF m pc' L (.int x :: st)) := by
  subst hp
  exact w.st fun T t X hx hB k => XS.iloadN X hx rfl (hb hB hd) hl k
theorem Wk.iload {pc pc' : Nat} {L : Array Slot} {st : List Value} {k : Nat} {x : Int32} (w : Wk p l e R s m args below meth c Z a0 EL S0 y B ml ret V h cl sl (mkF m pc L st)) (hd : decode B pc = .ok (.iload k, 2)) (hl : L[k]? = some (.val (.int x))) (hp : pc + 2 = pc' := by rfl) : Wk p l e R s m args below meth c Z a0 EL S0 y B ml ret V h cl sl (mkF m pc' L (.int x :: st)) := by
  subst hp
  exact w.st fun T t X hx hB k => XS.iload X hx rfl (hb hB hd) hl k
theorem Wk.aloadN {pc pc' : Nat} {L : Array Slot} {st : List Value} {k : Fin 4} {x : Value} (w : Wk p l e R s m args below meth c Z a0 EL S0 y B ml ret V h cl sl (mkF m pc L st)) (hd : decode B pc = .ok (.aload_n k, 1)) (hl : L[k.val]? = some (.val x)) (hv : x.isRef = true := by rfl) (hp : pc + 1 = pc' := by rfl) : Wk p l e R s m args below meth c Z a0 EL S0 y B ml ret V h cl sl (mkF m pc' L (x :: st)) := by
  subst hp
  exact w.st fun T t X hx hB k => XS.aloadN X hx rfl (hb hB hd) hl hv k
theorem Wk.aload {pc pc' : Nat} {L : Array Slot} {st : List Value} {k : Nat} {x : Value} (w : Wk p l e R s m args below meth c Z a0 EL S0 y B ml ret V h cl sl (mkF m pc L st)) (hd : decode B pc = .ok (.aload k, 2)) (hl : L[k]? = some (.val x)) (hv : x.isRef = true := by rfl) (hp : pc + 2 = pc' := by rfl) : Wk p l e R s m args below meth c Z a0 EL S0 y B ml ret V h cl sl (mkF m pc' L (x :: st)) := by
  subst hp
  exact w.st fun T t X hx hB k => XS.aload X hx rfl (hb hB hd) hl hv k
theorem Wk.istoreN {pc pc' : Nat} {L : Array Slot} {st : List Value} {k : Fin 4} {x : Int32} {L' : Array Slot} (w : Wk p l e R s m args below meth c Z a0 EL S0 y B ml ret V h cl sl (mkF m pc L (.int x :: st))) (hd : decode B pc = .ok (.istore_n k, 1)) (hl : storeLocals L k.val (.int x) = some L') (hp : pc + 1 = pc' := by rfl) : Wk p l e R s m args below meth c Z a0 EL S0 y B ml ret V h cl sl (mkF m pc' L' st) := by
  subst hp
  exact w.st fun T t X hx hB k => XS.istoreN X hx rfl (hb hB hd) rfl hl k
theorem Wk.istore {pc pc' : Nat} {L : Array Slot} {st : List Value} {k : Nat} {x : Int32} {L' : Array Slot} (w : Wk p l e R s m args below meth c Z a0 EL S0 y B ml ret V h cl sl (mkF m pc L (.int x :: st))) (hd : decode B pc = .ok (.istore k, 2)) (hl : storeLocals L k (.int x) = some L') (hp : pc + 2 = pc' := by rfl) : Wk p l e R s m args below meth c Z a0 EL S0 y B ml ret V h cl sl (mkF m pc' L' st) := by
  subst hp
  exact w.st fun T t X hx hB k => XS.istore X hx rfl (hb hB hd) rfl hl k
theorem Wk.astoreN {pc pc' : Nat} {L : Array Slot} {st : List Value} {k : Fin 4} {x : Value} {L' : Array Slot} (w : Wk p l e R s m args below meth c Z a0 EL S0 y B ml ret V h cl sl (mkF m pc L (x :: st))) (hd : decode B pc = .ok (.astore_n k, 1)) (hl : storeLocals L k.val x = some L') (hv : x.isRef = true := by rfl) (hp : pc + 1 = pc' := by rfl) : Wk p l e R s m args below meth c Z a0 EL S0 y B ml ret V h cl sl (mkF m pc' L' st) := by
  subst hp
  exact w.st fun T t X hx hB k => XS.astoreN X hx rfl (hb hB hd) rfl hv hl k
theorem Wk.astore {pc pc' : Nat} {L : Array Slot} {st : List Value} {k : Nat} {x : Value} {L' : Array Slot} (w : Wk p l e R s m args below meth c Z a0 EL S0 y B ml ret V h cl sl (mkF m pc L (x :: st))) (hd : decode B pc = .ok (.astore k, 2)) (hl : storeLocals L k x = some L') (hv : x.isRef = true := by rfl) (hp : pc + 2 = pc' := by rfl) : Wk p l e R s m args below meth c Z a0 EL S0 y B ml ret V h cl sl (mkF m pc' L' st) := by
  subst hp
  exact w.st fun T t X hx hB k => XS.astore X hx rfl (hb hB hd) rfl hv hl k
theorem Wk.iinc {pc pc' : Nat} {L : Array Slot} {st : List Value} {k : Nat} {cst : Int} {x : Int32} {L' : Array Slot} (w : Wk p l e R s m args below meth c Z a0 EL S0 y B ml ret V h cl sl (mkF m pc L st)) (hd : decode B pc = .ok (.iinc k cst, 3)) (hl : L[k]? = some (.val (.int x))) (hl' : storeLocals L k (.int (x + Int32.ofInt cst)) = some L') (hp : pc + 3 = pc' := by rfl) : Wk p l e R s m args below meth c Z a0 EL S0 y B ml ret V h cl sl (mkF m pc' L' st) := by
  subst hp
  exact w.st fun T t X hx hB k => XS.iinc X hx rfl (hb hB hd) hl hl' k
theorem Wk.iconst {pc pc' : Nat} {L : Array Slot} {st : List Value} {i : Int} (x : Int32) (w : Wk p l e R s m args below meth c Z a0 EL S0 y B ml ret V h cl sl (mkF m pc L st)) (hd : decode B pc = .ok (.iconst i, 1)) (hx0 : Int32.ofInt i = x := by rfl) (hp : pc + 1 = pc' := by rfl) : Wk p l e R s m args below meth c Z a0 EL S0 y B ml ret V h cl sl (mkF m pc' L (.int x :: st)) := by
  subst hp hx0
  exact w.st fun T t X hx hB k => XS.iconst X hx rfl (hb hB hd) k
theorem Wk.bipush {pc pc' : Nat} {L : Array Slot} {st : List Value} {i : Int} (x : Int32) (w : Wk p l e R s m args below meth c Z a0 EL S0 y B ml ret V h cl sl (mkF m pc L st)) (hd : decode B pc = .ok (.bipush i, 2)) (hx0 : (Int8.ofInt i).toInt32 = x := by rfl) (hp : pc + 2 = pc' := by rfl) : Wk p l e R s m args below meth c Z a0 EL S0 y B ml ret V h cl sl (mkF m pc' L (.int x :: st)) := by
  subst hp hx0
  exact w.st fun T t X hx hB k => XS.bipush X hx rfl (hb hB hd) k
theorem Wk.sipush {pc pc' : Nat} {L : Array Slot} {st : List Value} {i : Int} (x : Int32) (w : Wk p l e R s m args below meth c Z a0 EL S0 y B ml ret V h cl sl (mkF m pc L st)) (hd : decode B pc = .ok (.sipush i, 3)) (hx0 : (Int16.ofInt i).toInt32 = x := by rfl) (hp : pc + 3 = pc' := by rfl) : Wk p l e R s m args below meth c Z a0 EL S0 y B ml ret V h cl sl (mkF m pc' L (.int x :: st)) := by
  subst hp hx0
  exact w.st fun T t X hx hB k => XS.sipush X hx rfl (hb hB hd) k
theorem Wk.aconstNull {pc pc' : Nat} {L : Array Slot} {st : List Value}  (w : Wk p l e R s m args below meth c Z a0 EL S0 y B ml ret V h cl sl (mkF m pc L st)) (hd : decode B pc = .ok (.aconst_null, 1))  (hp : pc + 1 = pc' := by rfl) : Wk p l e R s m args below meth c Z a0 EL S0 y B ml ret V h cl sl (mkF m pc' L (.null :: st)) := by
  subst hp
  exact w.st fun T t X hx hB k => XS.aconstNull X hx rfl (hb hB hd)  k
theorem Wk.dup {pc pc' : Nat} {L : Array Slot} {st : List Value} {x : Value} (w : Wk p l e R s m args below meth c Z a0 EL S0 y B ml ret V h cl sl (mkF m pc L (x :: st))) (hd : decode B pc = .ok (.dup, 1)) (hc : x.category = 1 := by rfl) (hp : pc + 1 = pc' := by rfl) : Wk p l e R s m args below meth c Z a0 EL S0 y B ml ret V h cl sl (mkF m pc' L (x :: x :: st)) := by
  subst hp
  exact w.st fun T t X hx hB k => XS.dup X hx rfl (hb hB hd) rfl hc k
theorem Wk.pop {pc pc' : Nat} {L : Array Slot} {st : List Value} {x : Value} (w : Wk p l e R s m args below meth c Z a0 EL S0 y B ml ret V h cl sl (mkF m pc L (x :: st))) (hd : decode B pc = .ok (.pop, 1)) (hc : x.category = 1 := by rfl) (hp : pc + 1 = pc' := by rfl) : Wk p l e R s m args below meth c Z a0 EL S0 y B ml ret V h cl sl (mkF m pc' L st) := by
  subst hp
  exact w.st fun T t X hx hB k => XS.pop X hx rfl (hb hB hd) rfl hc k
theorem Wk.iadd {pc pc' : Nat} {L : Array Slot} {st : List Value} {x yy : Int32} (w : Wk p l e R s m args below meth c Z a0 EL S0 y B ml ret V h cl sl (mkF m pc L (.int yy :: .int x :: st))) (hd : decode B pc = .ok (.iadd, 1))  (hp : pc + 1 = pc' := by rfl) : Wk p l e R s m args below meth c Z a0 EL S0 y B ml ret V h cl sl (mkF m pc' L (.int (x + yy) :: st)) := by
  subst hp
  exact w.st fun T t X hx hB k => XS.iadd X hx rfl (hb hB hd) rfl k
theorem Wk.isub {pc pc' : Nat} {L : Array Slot} {st : List Value} {x yy : Int32} (w : Wk p l e R s m args below meth c Z a0 EL S0 y B ml ret V h cl sl (mkF m pc L (.int yy :: .int x :: st))) (hd : decode B pc = .ok (.isub, 1))  (hp : pc + 1 = pc' := by rfl) : Wk p l e R s m args below meth c Z a0 EL S0 y B ml ret V h cl sl (mkF m pc' L (.int (x - yy) :: st)) := by
  subst hp
  exact w.st fun T t X hx hB k => XS.isub X hx rfl (hb hB hd) rfl k
theorem Wk.imul {pc pc' : Nat} {L : Array Slot} {st : List Value} {x yy : Int32} (w : Wk p l e R s m args below meth c Z a0 EL S0 y B ml ret V h cl sl (mkF m pc L (.int yy :: .int x :: st))) (hd : decode B pc = .ok (.imul, 1))  (hp : pc + 1 = pc' := by rfl) : Wk p l e R s m args below meth c Z a0 EL S0 y B ml ret V h cl sl (mkF m pc' L (.int (x * yy) :: st)) := by
  subst hp
  exact w.st fun T t X hx hB k => XS.imul X hx rfl (hb hB hd) rfl k
theorem Wk.iand {pc pc' : Nat} {L : Array Slot} {st : List Value} {x yy : Int32} (w : Wk p l e R s m args below meth c Z a0 EL S0 y B ml ret V h cl sl (mkF m pc L (.int yy :: .int x :: st))) (hd : decode B pc = .ok (.iand, 1))  (hp : pc + 1 = pc' := by rfl) : Wk p l e R s m args below meth c Z a0 EL S0 y B ml ret V h cl sl (mkF m pc' L (.int (x &&& yy) :: st)) := by
  subst hp
  exact w.st fun T t X hx hB k => XS.iand X hx rfl (hb hB hd) rfl k
theorem Wk.ior {pc pc' : Nat} {L : Array Slot} {st : List Value} {x yy : Int32} (w : Wk p l e R s m args below meth c Z a0 EL S0 y B ml ret V h cl sl (mkF m pc L (.int yy :: .int x :: st))) (hd : decode B pc = .ok (.ior, 1))  (hp : pc + 1 = pc' := by rfl) : Wk p l e R s m args below meth c Z a0 EL S0 y B ml ret V h cl sl (mkF m pc' L (.int (x ||| yy) :: st)) := by
  subst hp
  exact w.st fun T t X hx hB k => XS.ior X hx rfl (hb hB hd) rfl k
theorem Wk.ixor {pc pc' : Nat} {L : Array Slot} {st : List Value} {x yy : Int32} (w : Wk p l e R s m args below meth c Z a0 EL S0 y B ml ret V h cl sl (mkF m pc L (.int yy :: .int x :: st))) (hd : decode B pc = .ok (.ixor, 1))  (hp : pc + 1 = pc' := by rfl) : Wk p l e R s m args below meth c Z a0 EL S0 y B ml ret V h cl sl (mkF m pc' L (.int (x ^^^ yy) :: st)) := by
  subst hp
  exact w.st fun T t X hx hB k => XS.ixor X hx rfl (hb hB hd) rfl k
theorem Wk.ishl {pc pc' : Nat} {L : Array Slot} {st : List Value} {x yy : Int32} (w : Wk p l e R s m args below meth c Z a0 EL S0 y B ml ret V h cl sl (mkF m pc L (.int yy :: .int x :: st))) (hd : decode B pc = .ok (.ishl, 1))  (hp : pc + 1 = pc' := by rfl) : Wk p l e R s m args below meth c Z a0 EL S0 y B ml ret V h cl sl (mkF m pc' L (.int (x <<< (yy &&& 31)) :: st)) := by
  subst hp
  exact w.st fun T t X hx hB k => XS.ishl X hx rfl (hb hB hd) rfl k
theorem Wk.ishr {pc pc' : Nat} {L : Array Slot} {st : List Value} {x yy : Int32} (w : Wk p l e R s m args below meth c Z a0 EL S0 y B ml ret V h cl sl (mkF m pc L (.int yy :: .int x :: st))) (hd : decode B pc = .ok (.ishr, 1))  (hp : pc + 1 = pc' := by rfl) : Wk p l e R s m args below meth c Z a0 EL S0 y B ml ret V h cl sl (mkF m pc' L (.int (x >>> (yy &&& 31)) :: st)) := by
  subst hp
  exact w.st fun T t X hx hB k => XS.ishr X hx rfl (hb hB hd) rfl k
theorem Wk.iushr {pc pc' : Nat} {L : Array Slot} {st : List Value} {x yy : Int32} (w : Wk p l e R s m args below meth c Z a0 EL S0 y B ml ret V h cl sl (mkF m pc L (.int yy :: .int x :: st))) (hd : decode B pc = .ok (.iushr, 1))  (hp : pc + 1 = pc' := by rfl) : Wk p l e R s m args below meth c Z a0 EL S0 y B ml ret V h cl sl (mkF m pc' L (.int ((x.toUInt32 >>> (yy &&& 31).toUInt32).toInt32) :: st)) := by
  subst hp
  exact w.st fun T t X hx hB k => XS.iushr X hx rfl (hb hB hd) rfl k
theorem Wk.idiv {pc pc' : Nat} {L : Array Slot} {st : List Value} {x yy : Int32} (w : Wk p l e R s m args below meth c Z a0 EL S0 y B ml ret V h cl sl (mkF m pc L (.int yy :: .int x :: st))) (hd : decode B pc = .ok (.idiv, 1)) (hy : yy ≠ 0) (hp : pc + 1 = pc' := by rfl) : Wk p l e R s m args below meth c Z a0 EL S0 y B ml ret V h cl sl (mkF m pc' L (.int (x / yy) :: st)) := by
  subst hp
  exact w.st fun T t X hx hB k => XS.idiv X hx rfl (hb hB hd) rfl hy k
theorem Wk.irem {pc pc' : Nat} {L : Array Slot} {st : List Value} {x yy : Int32} (w : Wk p l e R s m args below meth c Z a0 EL S0 y B ml ret V h cl sl (mkF m pc L (.int yy :: .int x :: st))) (hd : decode B pc = .ok (.irem, 1)) (hy : yy ≠ 0) (hp : pc + 1 = pc' := by rfl) : Wk p l e R s m args below meth c Z a0 EL S0 y B ml ret V h cl sl (mkF m pc' L (.int (x % yy) :: st)) := by
  subst hp
  exact w.stX fun T locs t X e0 k => iremM X w.1.1 rfl (hb w.1.2.1 hd) rfl hy k
theorem Wk.ineg {pc pc' : Nat} {L : Array Slot} {st : List Value} {x : Int32} (w : Wk p l e R s m args below meth c Z a0 EL S0 y B ml ret V h cl sl (mkF m pc L (.int x :: st))) (hd : decode B pc = .ok (.ineg, 1))  (hp : pc + 1 = pc' := by rfl) : Wk p l e R s m args below meth c Z a0 EL S0 y B ml ret V h cl sl (mkF m pc' L (.int (-x) :: st)) := by
  subst hp
  exact w.st fun T t X hx hB k => XS.ineg X hx rfl (hb hB hd) rfl k
theorem Wk.i2b {pc pc' : Nat} {L : Array Slot} {st : List Value} {x : Int32} (w : Wk p l e R s m args below meth c Z a0 EL S0 y B ml ret V h cl sl (mkF m pc L (.int x :: st))) (hd : decode B pc = .ok (.i2b, 1))  (hp : pc + 1 = pc' := by rfl) : Wk p l e R s m args below meth c Z a0 EL S0 y B ml ret V h cl sl (mkF m pc' L (.int (x.toInt8.toInt32) :: st)) := by
  subst hp
  exact w.st fun T t X hx hB k => XS.i2b X hx rfl (hb hB hd) rfl k
theorem Wk.i2c {pc pc' : Nat} {L : Array Slot} {st : List Value} {x : Int32} (w : Wk p l e R s m args below meth c Z a0 EL S0 y B ml ret V h cl sl (mkF m pc L (.int x :: st))) (hd : decode B pc = .ok (.i2c, 1))  (hp : pc + 1 = pc' := by rfl) : Wk p l e R s m args below meth c Z a0 EL S0 y B ml ret V h cl sl (mkF m pc' L (.int (x.toUInt32.toUInt16.toUInt32.toInt32) :: st)) := by
  subst hp
  exact w.st fun T t X hx hB k => XS.i2c X hx rfl (hb hB hd) rfl k
theorem Wk.i2s {pc pc' : Nat} {L : Array Slot} {st : List Value} {x : Int32} (w : Wk p l e R s m args below meth c Z a0 EL S0 y B ml ret V h cl sl (mkF m pc L (.int x :: st))) (hd : decode B pc = .ok (.i2s, 1))  (hp : pc + 1 = pc' := by rfl) : Wk p l e R s m args below meth c Z a0 EL S0 y B ml ret V h cl sl (mkF m pc' L (.int (x.toInt16.toInt32) :: st)) := by
  subst hp
  exact w.st fun T t X hx hB k => XS.i2s X hx rfl (hb hB hd) rfl k
theorem Wk.goto {pc pc' : Nat} {L : Array Slot} {st : List Value} {o : Int} (w : Wk p l e R s m args below meth c Z a0 EL S0 y B ml ret V h cl sl (mkF m pc L st)) (hd : decode B pc = .ok (.goto o, 3)) (ho : 0 ≤ (pc : Int) + o := by decide) (hp : ((pc : Int) + o).toNat = pc' := by decide) : Wk p l e R s m args below meth c Z a0 EL S0 y B ml ret V h cl sl (mkF m pc' L st) := by
  subst hp
  exact w.st fun T t X hx hB k => XS.goto X hx rfl rfl (hb hB hd) ho rfl k
theorem Wk.ifYes {pc pc' : Nat} {L : Array Slot} {st : List Value} {cd : ClassFile.Cond} {o : Int} {x : Int32} (w : Wk p l e R s m args below meth c Z a0 EL S0 y B ml ret V h cl sl (mkF m pc L (.int x :: st))) (hd : decode B pc = .ok (.ifCond cd o, 3)) (hc : ifCond.holds cd x = true) (ho : 0 ≤ (pc : Int) + o := by decide) (hp : ((pc : Int) + o).toNat = pc' := by decide) : Wk p l e R s m args below meth c Z a0 EL S0 y B ml ret V h cl sl (mkF m pc' L st) := by
  subst hp
  exact w.st fun T t X hx hB k => XS.ifYes X hx rfl rfl (hb hB hd) rfl hc ho rfl k
theorem Wk.icmpYes {pc pc' : Nat} {L : Array Slot} {st : List Value} {cd : ClassFile.Cond} {o : Int} {x yy : Int32} (w : Wk p l e R s m args below meth c Z a0 EL S0 y B ml ret V h cl sl (mkF m pc L (.int yy :: .int x :: st))) (hd : decode B pc = .ok (.if_icmp cd o, 3)) (hc : if_icmp.holds cd x yy = true) (ho : 0 ≤ (pc : Int) + o := by decide) (hp : ((pc : Int) + o).toNat = pc' := by decide) : Wk p l e R s m args below meth c Z a0 EL S0 y B ml ret V h cl sl (mkF m pc' L st) := by
  subst hp
  exact w.st fun T t X hx hB k => XS.icmpYes X hx rfl rfl (hb hB hd) rfl hc ho rfl k
theorem Wk.ifnullYes {pc pc' : Nat} {L : Array Slot} {st : List Value} {o : Int} (w : Wk p l e R s m args below meth c Z a0 EL S0 y B ml ret V h cl sl (mkF m pc L (.null :: st))) (hd : decode B pc = .ok (.ifnull o, 3))  (ho : 0 ≤ (pc : Int) + o := by decide) (hp : ((pc : Int) + o).toNat = pc' := by decide) : Wk p l e R s m args below meth c Z a0 EL S0 y B ml ret V h cl sl (mkF m pc' L st) := by
  subst hp
  exact w.st fun T t X hx hB k => XS.ifnullYes X hx rfl rfl (hb hB hd) rfl ho rfl k
theorem Wk.ifnonnullYes {pc pc' : Nat} {L : Array Slot} {st : List Value} {o : Int} {b : Addr} (w : Wk p l e R s m args below meth c Z a0 EL S0 y B ml ret V h cl sl (mkF m pc L (.ref b :: st))) (hd : decode B pc = .ok (.ifnonnull o, 3))  (ho : 0 ≤ (pc : Int) + o := by decide) (hp : ((pc : Int) + o).toNat = pc' := by decide) : Wk p l e R s m args below meth c Z a0 EL S0 y B ml ret V h cl sl (mkF m pc' L st) := by
  subst hp
  exact w.st fun T t X hx hB k => XS.ifnonnullYes X hx rfl rfl (hb hB hd) rfl ho rfl k
theorem Wk.ifNo {pc pc' : Nat} {L : Array Slot} {st : List Value} {cd : ClassFile.Cond} {o : Int} {x : Int32} (w : Wk p l e R s m args below meth c Z a0 EL S0 y B ml ret V h cl sl (mkF m pc L (.int x :: st))) (hd : decode B pc = .ok (.ifCond cd o, 3)) (hc : ifCond.holds cd x = false) (hp : pc + 3 = pc' := by rfl) : Wk p l e R s m args below meth c Z a0 EL S0 y B ml ret V h cl sl (mkF m pc' L st) := by
  subst hp
  exact w.st fun T t X hx hB k => XS.ifNo X hx rfl (hb hB hd) rfl hc k
theorem Wk.icmpNo {pc pc' : Nat} {L : Array Slot} {st : List Value} {cd : ClassFile.Cond} {o : Int} {x yy : Int32} (w : Wk p l e R s m args below meth c Z a0 EL S0 y B ml ret V h cl sl (mkF m pc L (.int yy :: .int x :: st))) (hd : decode B pc = .ok (.if_icmp cd o, 3)) (hc : if_icmp.holds cd x yy = false) (hp : pc + 3 = pc' := by rfl) : Wk p l e R s m args below meth c Z a0 EL S0 y B ml ret V h cl sl (mkF m pc' L st) := by
  subst hp
  exact w.st fun T t X hx hB k => XS.icmpNo X hx rfl (hb hB hd) rfl hc k
theorem Wk.ifnullNo {pc pc' : Nat} {L : Array Slot} {st : List Value} {o : Int} {b : Addr} (w : Wk p l e R s m args below meth c Z a0 EL S0 y B ml ret V h cl sl (mkF m pc L (.ref b :: st))) (hd : decode B pc = .ok (.ifnull o, 3))  (hp : pc + 3 = pc' := by rfl) : Wk p l e R s m args below meth c Z a0 EL S0 y B ml ret V h cl sl (mkF m pc' L st) := by
  subst hp
  exact w.st fun T t X hx hB k => XS.ifnullNo X hx rfl (hb hB hd) rfl k
theorem Wk.ifnonnullNo {pc pc' : Nat} {L : Array Slot} {st : List Value} {o : Int} (w : Wk p l e R s m args below meth c Z a0 EL S0 y B ml ret V h cl sl (mkF m pc L (.null :: st))) (hd : decode B pc = .ok (.ifnonnull o, 3))  (hp : pc + 3 = pc' := by rfl) : Wk p l e R s m args below meth c Z a0 EL S0 y B ml ret V h cl sl (mkF m pc' L st) := by
  subst hp
  exact w.st fun T t X hx hB k => XS.ifnonnullNo X hx rfl (hb hB hd) rfl k

theorem Wk.acmp {pc pc' : Nat} {L : Array Slot} {st : List Value} {cd : ACond} {o : Int} {x yy : Value} (same : Bool) (w : Wk p l e R s m args below meth c Z a0 EL S0 y B ml ret V h cl sl (mkF m pc L (yy :: x :: st))) (hd : decode B pc = .ok (.if_acmp cd o, 3)) (hq : decide (x = yy) = same) (h1 : x.isRef = true := by rfl) (h2 : yy.isRef = true := by rfl) (ho : 0 ≤ (pc : Int) + o := by decide) (hp : pc' = if acV cd same = true then ((pc : Int) + o).toNat else pc + 3 := by rfl) :
    Wk p l e R s m args below meth c Z a0 EL S0 y B ml ret V h cl sl (mkF m pc' L st) :=
  w.stX fun T locs t X e0 k => RoadKit.acmp X w.1.1 rfl h1 h2 rfl (hb w.1.2.1 hd) rfl hq ho hp k
theorem Wk.ldcI {pc pc' : Nat} {L : Array Slot} {st : List Value} {index : Nat} {x : Int32} (w : Wk p l e R s m args below meth c Z a0 EL S0 y B ml ret V h cl sl (mkF m pc L st)) (wc : (Jvm.Cond.constant y.cls index x).before a0 Z = true) (hd : decode B pc = .ok (.ldc index, 2)) (hp : pc + 2 = pc' := by rfl) :
    Wk p l e R s m args below meth c Z a0 EL S0 y B ml ret V h cl sl (mkF m pc' L (.int x :: st)) := by
  subst hp
  exact w.stX fun T locs t X e0 k => X.ldcInt w.1.1 (by rw [show (s.setVm V).vm = V from rfl, w.hZ.alike.findClass]; exact w.1.2.2.2.2.2.1) (mv (s := s.setVm V) w.hZ wc) (g := mkF m pc L st) rfl (hb w.1.2.1 hd) t k
theorem Wk.own {g : JFrame} (w : Wk p l e R s m args below meth c Z a0 EL S0 y B ml ret V h cl sl g) : V.findClass y.cls = some m.cls := by rw [w.hZ.alike.findClass]; exact w.1.2.2.2.2.2.1
/-- the heap has changed: the walk goes on over h' -/
theorem Wk.heap {g g' : JFrame} {h' : Heap} {cl' sl' : Nat} (w : Wk p l e R s m args below meth c Z a0 EL S0 y B ml ret V h cl sl g) (A : CHr Z EL V h V h') (O : Ext Z.heap h')
    (k : ∀ (T : State) (locs : List Loc), Stand p l e R (s.setVm V) m args below meth c T locs cl sl → T.heap = h → Fr Z.heap.size locs → ∃ (T' : State) (locs' : List Loc), Stand p l e R (s.setVm V) m args below meth c T' locs' cl' sl' ∧ T'.heap = h' ∧ Fr Z.heap.size locs' ∧ ∀ t, Steps p.tables e below (T'.setTop g') t → Steps p.tables e below (T.setTop g) t) :
    Wk p l e R s m args below meth c Z a0 EL S0 y B ml ret V h' cl' sl' g' := by
  obtain ⟨hf, ⟨hz, hC, hO⟩, T, locs, k0, X, e0, h1, h2, h3, st⟩ := w
  obtain ⟨T', locs', X', e', f', st'⟩ := k T locs X e0 h3
  exact ⟨hf, ⟨hz, hC.trans A, O⟩, T', locs', k0, X', e', h1, Nat.le_trans h2 A.2.1, f', fun t q => st t (st' t q)⟩
theorem extT {h0 h1 h2 : Heap} (A : Ext h0 h1) (B : Ext h1 h2) : Ext h0 h2 := ⟨Nat.le_trans A.1 B.1, fun a c q => B.2 a c (A.2 a c q)⟩
theorem extR (h0 : Heap) : Ext h0 h0 := ⟨Nat.le_refl _, fun _ _ q => q⟩
theorem extW {h0 h1 h2 : Heap} {a : Addr} {n : Nat} {v : Value} (A : Ext h0 h1) (W : Wr h1 h2 a n v) (q : h0.size ≤ a) : Ext h0 h2 := by
  obtain ⟨cell, h1', h2', h3', rfl⟩ := W
  refine ⟨by simpa using A.1, fun b cb hb => ?_⟩
  have : a ≠ b := fun z => by subst z; exact absurd (Array.getElem?_eq_some_iff.mp hb).1 (Nat.not_lt.mpr q)
  rw [Array.getElem?_setIfInBounds_ne this]; exact A.2 b cb hb
theorem extK {h0 h1 h2 : Heap} {ws : List Addr} (A : Ext h0 h1) (K : Keep h1 h2 ws) (q : ∀ x ∈ ws, h0.size ≤ x) : Ext h0 h2 :=
  ⟨Nat.le_trans A.1 K.1, fun b cb hb => K.2.1 b cb (A.2 b cb hb) fun z => absurd (Array.getElem?_eq_some_iff.mp hb).1 (Nat.not_lt.mpr (q b z))⟩
theorem keepE {h0 h1 : Heap} (A : Ext h0 h1) (ws : List Addr) : Keep h0 h1 ws := (Keep.refl h0 ws).ext A
/-- new C -/
theorem Wk.new {pc pc' : Nat} {L : Array Slot} {st : List Value} {C : String} {index n : Nat} (w : Wk p l e R s m args below meth c Z a0 EL S0 y B ml ret V h cl sl (mkF m pc L st)) (wl : (Jvm.Cond.classLink y.cls index C).before a0 Z = true) (wi : (Jvm.Cond.instantiable C n).before a0 Z = true) (wz : (Jvm.Cond.initialized C).before a0 Z = true)
    (hd : decode B pc = .ok (.new index, 3)) (hc : cl + 1 ≤ R.cells) (hl : sl + n ≤ R.slots) (hp : pc + 3 = pc' := by rfl) :
    ∃ (h' : Heap) (a : Addr), a = h.size ∧ Ext h h' ∧ Exa Z h' a C ∧ (∀ {O nm d : String} {ty : FieldType}, Laid Z a0 C O nm d → parseFieldDescriptor d = some ty → Fld Z h' a O nm d (defaultValue ty)) ∧ Safe Z EL V h' a ∧ CHr Z EL V h V h' ∧
      Wk p l e R s m args below meth c Z a0 EL S0 y B ml ret V h' (cl + 1) (sl + n) (mkF m pc' L (.ref a :: st)) := by
  subst hp
  obtain ⟨hf, ⟨hz, hC, hO⟩, T, locs, k0, X, e0, h1, h2, h3, st0⟩ := id w
  obtain ⟨T', h', X', e', E, A, D, -, st'⟩ := newO X hf.1 hz w.own wl wi wz e0 (g := mkF m pc L st) rfl (hb hf.2.1 hd) hc hl
  have Q : CHr Z EL V h V h' := CHr.ext E w.ch
  exact ⟨h', h.size, rfl, E, A, D, Safe.ext E w.ch (Safe.new (Nat.le_refl _)), Q, hf, ⟨hz, hC.trans Q, extT hO E⟩, T', locs, k0, X', e', h1, Nat.le_trans h2 E.1, h3, fun t q => st0 t (st' t q)⟩
/-- newarray -/
theorem Wk.newarr {pc pc' : Nat} {L : Array Slot} {st : List Value} {aty : ArrayType} {n : Int32} {cap : Nat} (w : Wk p l e R s m args below meth c Z a0 EL S0 y B ml ret V h cl sl (mkF m pc L (.int n :: st))) (wa : (Jvm.Cond.arrayClass (newarray.typeOf aty)).before a0 Z = true)
    (hd : decode B pc = .ok (.newarray aty, 2)) (hn : ¬ n < 0) (hcap : n.toNatClampNeg ≤ cap) (hc : cl + 1 ≤ R.cells) (hl : sl + cap ≤ R.slots) (hb8 : cap * 8 ≤ 536870912 := by decide) (hp : pc + 2 = pc' := by rfl) :
    ∃ (h' : Heap) (a : Addr) (k : ClassId), a = h.size ∧ Ext h h' ∧ Arv Z h' a k (newarray.typeOf aty) n [] (defaultValue (newarray.typeOf aty)) ∧ Safe Z EL V h' a ∧ CHr Z EL V h V h' ∧
      Wk p l e R s m args below meth c Z a0 EL S0 y B ml ret V h' (cl + 1) (sl + cap) (mkF m pc' L (.ref a :: st)) := by
  subst hp
  obtain ⟨hf, ⟨hz, hC, hO⟩, T, locs, k0, X, e0, h1, h2, h3, st0⟩ := id w
  obtain ⟨T', h', k, X', e', E, A, st'⟩ := newP X hf.1 hz wa e0 (g := mkF m pc L (.int n :: st)) rfl (hb hf.2.1 hd) rfl hn hcap hb8 hc hl
  have Q : CHr Z EL V h V h' := CHr.ext E w.ch
  exact ⟨h', h.size, k, rfl, E, Arv.new A hn, Safe.ext E w.ch (Safe.new (Nat.le_refl _)), Q, hf, ⟨hz, hC.trans Q, extT hO E⟩, T', locs, k0, X', e', h1, Nat.le_trans h2 E.1, h3, fun t q => st0 t (st' t q)⟩
/-- castore into an array of the walk's own -/
theorem Wk.castore {pc pc' : Nat} {L : Array Slot} {st : List Value} {a : Addr} {k : ClassId} {z j x x' : Int32} {vs : List Value} {dv : Value} (w : Wk p l e R s m args below meth c Z a0 EL S0 y B ml ret V h cl sl (mkF m pc L (.int x :: .int j :: .ref a :: st))) (A : Arv Z h a k .char z vs dv)
    (hd : decode B pc = .ok (.castore, 1)) (hj : ¬ j < 0 ∧ j < z) (hx' : nar .char x = x') (i : Nat) (hi : j.toNatClampNeg = i) (hlen : i < vs.length) (ha : Z.heap.size ≤ a) (hp : pc + 1 = pc' := by rfl) :
    ∃ h' : Heap, Keep h h' [a] ∧ Arv Z h' a k .char z (vs.set i (.int x')) dv ∧ CHr Z EL V h V h' ∧ Wk p l e R s m args below meth c Z a0 EL S0 y B ml ret V h' cl sl (mkF m pc' L st) := by
  subst hp hx'
  obtain ⟨hf, ⟨hz, hC, hO⟩, T, locs, k0, X, e0, h1, h2, h3, st0⟩ := id w
  obtain ⟨cA, A1, A2, A3, A4, A5, A6⟩ := id A
  obtain ⟨T', h', X', e', W, st'⟩ := stC X hf.1 hz e0 A1 (j := j) (inb_of A3 hj) (g := mkF m pc L (.int x :: .int j :: .ref a :: st)) rfl rfl (hb hf.2.1 hd)
  have Q : CHr Z EL V h V h' := CHr.wr W (Safe.arr hz.alike A1 (by decide)) w.ch
  exact ⟨h', Keep.of_wr W, Arv.set A1 A2 A3 A4 A5 A6 (fits_nar_char x) W i hi hlen, Q, hf, ⟨hz, hC.trans Q, extW hO W ha⟩, T', _, k0, X', e', h1, Nat.le_trans h2 Q.2.1, Fr.snoc X' h3 ha, fun t q => st0 t (st' t q)⟩
theorem Wk.bastore {pc pc' : Nat} {L : Array Slot} {st : List Value} {a : Addr} {k : ClassId} {z j x x' : Int32} {vs : List Value} {dv : Value} (w : Wk p l e R s m args below meth c Z a0 EL S0 y B ml ret V h cl sl (mkF m pc L (.int x :: .int j :: .ref a :: st))) (A : Arv Z h a k .byte z vs dv)
    (hd : decode B pc = .ok (.bastore, 1)) (hj : ¬ j < 0 ∧ j < z) (hx' : x.toInt8.toInt32 = x') (i : Nat) (hi : j.toNatClampNeg = i) (hlen : i < vs.length) (ha : Z.heap.size ≤ a) (S : Safe Z EL V h a) (hp : pc + 1 = pc' := by rfl) :
    ∃ h' : Heap, Keep h h' [a] ∧ Arv Z h' a k .byte z (vs.set i (.int x')) dv ∧ CHr Z EL V h V h' ∧ Wk p l e R s m args below meth c Z a0 EL S0 y B ml ret V h' cl sl (mkF m pc' L st) := by
  subst hp hx'
  obtain ⟨hf, ⟨hz, hC, hO⟩, T, locs, k0, X, e0, h1, h2, h3, st0⟩ := id w
  obtain ⟨cA, A1, A2, A3, A4, A5, A6⟩ := id A
  obtain ⟨T', h', X', e', W, st'⟩ := stB X hf.1 hz e0 A1 (j := j) (inb_of A3 hj) (g := mkF m pc L (.int x :: .int j :: .ref a :: st)) rfl rfl (hb hf.2.1 hd)
  have Q : CHr Z EL V h V h' := CHr.wr W S w.ch
  exact ⟨h', Keep.of_wr W, Arv.set A1 A2 A3 A4 A5 A6 (fits_nar_byte x) W i hi hlen, Q, hf, ⟨hz, hC.trans Q, extW hO W ha⟩, T', _, k0, X', e', h1, Nat.le_trans h2 Q.2.1, Fr.snoc X' h3 ha, fun t q => st0 t (st' t q)⟩
theorem Wk.arrlen {pc pc' : Nat} {L : Array Slot} {st : List Value} {a : Addr} {k : ClassId} {ty : FieldType} {z : Int32} {vs : List Value} {dv : Value} (w : Wk p l e R s m args below meth c Z a0 EL S0 y B ml ret V h cl sl (mkF m pc L (.ref a :: st))) (A : Arv Z h a k ty z vs dv) (hd : decode B pc = .ok (.arraylength, 1)) (hp : pc + 1 = pc' := by rfl) :
    Wk p l e R s m args below meth c Z a0 EL S0 y B ml ret V h cl sl (mkF m pc' L (.int z :: st)) := by
  subst hp
  obtain ⟨cA, A1, A2, A3, A4, A5, A6⟩ := A
  have e1 := len_of A3 A4
  exact w.stX fun T locs t X e0 q => X.arraylength w.1.1 (by rw [e0]; exact A1.1) (State.isArrayOf_alike w.hZ.alike A1.2.1) (g := mkF m pc L (.ref a :: st)) rfl rfl (hb w.1.2.1 hd) t (by rw [e1]; exact q)
theorem Wk.caload {pc pc' : Nat} {L : Array Slot} {st : List Value} {a : Addr} {k : ClassId} {z j : Int32} {vs : List Value} {dv v : Value} (w : Wk p l e R s m args below meth c Z a0 EL S0 y B ml ret V h cl sl (mkF m pc L (.int j :: .ref a :: st))) (A : Arv Z h a k .char z vs dv) (hd : decode B pc = .ok (.caload, 1)) (hj : ¬ j < 0 ∧ j < z) (hv : vs.getD j.toNatClampNeg dv = v) (hp : pc + 1 = pc' := by rfl) :
    Wk p l e R s m args below meth c Z a0 EL S0 y B ml ret V h cl sl (mkF m pc' L (v :: st)) := by
  subst hp
  obtain ⟨cA, A1, A2, A3, A4, A5, A6⟩ := A
  have hin := inb_of A3 hj
  exact w.stX fun T locs t X e0 q => X.caload w.1.1 (by rw [e0]; exact A1.1) (State.isArrayOf_alike w.hZ.alike A1.2.1) A1.2.2 hin (A5.at hin hv) (g := mkF m pc L (.int j :: .ref a :: st)) rfl rfl (hb w.1.2.1 hd) t q
theorem Wk.baload {pc pc' : Nat} {L : Array Slot} {st : List Value} {a : Addr} {k : ClassId} {z j : Int32} {vs : List Value} {dv v : Value} (w : Wk p l e R s m args below meth c Z a0 EL S0 y B ml ret V h cl sl (mkF m pc L (.int j :: .ref a :: st))) (A : Arv Z h a k .byte z vs dv) (hd : decode B pc = .ok (.baload, 1)) (hj : ¬ j < 0 ∧ j < z) (hv : vs.getD j.toNatClampNeg dv = v) (hp : pc + 1 = pc' := by rfl) :
    Wk p l e R s m args below meth c Z a0 EL S0 y B ml ret V h cl sl (mkF m pc' L (v :: st)) := by
  subst hp
  obtain ⟨cA, A1, A2, A3, A4, A5, A6⟩ := A
  have hin := inb_of A3 hj
  exact w.stX fun T locs t X e0 q => X.baloadBytes w.1.1 (by rw [e0]; exact A1.1) (State.isArrayOf_alike w.hZ.alike A1.2.1) A1.2.2 hin (A5.at hin hv) (g := mkF m pc L (.int j :: .ref a :: st)) rfl rfl (hb w.1.2.1 hd) t q
theorem Wk.iaload {pc pc' : Nat} {L : Array Slot} {st : List Value} {a : Addr} {k : ClassId} {z j : Int32} {vs : List Value} {dv v : Value} (w : Wk p l e R s m args below meth c Z a0 EL S0 y B ml ret V h cl sl (mkF m pc L (.int j :: .ref a :: st))) (A : Arv Z h a k .int z vs dv) (hd : decode B pc = .ok (.iaload, 1)) (hj : ¬ j < 0 ∧ j < z) (hv : vs.getD j.toNatClampNeg dv = v) (hp : pc + 1 = pc' := by rfl) :
    Wk p l e R s m args below meth c Z a0 EL S0 y B ml ret V h cl sl (mkF m pc' L (v :: st)) := by
  subst hp
  obtain ⟨cA, A1, A2, A3, A4, A5, A6⟩ := A
  have hin := inb_of A3 hj
  exact w.stX fun T locs t X e0 q => X.iaload w.1.1 (by rw [e0]; exact A1.1) (State.isArrayOf_alike w.hZ.alike A1.2.1) A1.2.2 hin (A5.at hin hv) (g := mkF m pc L (.int j :: .ref a :: st)) rfl rfl (hb w.1.2.1 hd) t q
theorem Wk.aaload {pc pc' : Nat} {L : Array Slot} {st : List Value} {a : Addr} {k : ClassId} {z j : Int32} {ty : FieldType} {vs : List Value} {dv v : Value} (w : Wk p l e R s m args below meth c Z a0 EL S0 y B ml ret V h cl sl (mkF m pc L (.int j :: .ref a :: st))) (A : Arv Z h a k ty z vs dv) (hd : decode B pc = .ok (.aaload, 1)) (hj : ¬ j < 0 ∧ j < z) (hv : vs.getD j.toNatClampNeg dv = v) (hty : ty.isReference = true := by rfl) (hp : pc + 1 = pc' := by rfl) :
    Wk p l e R s m args below meth c Z a0 EL S0 y B ml ret V h cl sl (mkF m pc' L (v :: st)) := by
  subst hp
  obtain ⟨cA, A1, A2, A3, A4, A5, A6⟩ := A
  have hin := inb_of A3 hj
  exact w.stX fun T locs t X e0 q => X.aaload w.1.1 (by rw [e0]; exact A1.1) (State.isArrayOf_alike w.hZ.alike A1.2.1) hty A1.2.2 hin (A5.at hin hv) (g := mkF m pc L (.int j :: .ref a :: st)) rfl rfl (hb w.1.2.1 hd) t q

theorem Wk.getF {pc pc' : Nat} {L : Array Slot} {st : List Value} {index : Nat} {O n d : String} {a : Addr} {v : Value} (w : Wk p l e R s m args below meth c Z a0 EL S0 y B ml ret V h cl sl (mkF m pc L (.ref a :: st))) (wl : (Jvm.Cond.fieldLink y.cls index O n d).before a0 Z = true) (F : Fld Z h a O n d v) (hd : decode B pc = .ok (.getfield index, 3)) (hp : pc + 3 = pc' := by rfl) :
    Wk p l e R s m args below meth c Z a0 EL S0 y B ml ret V h cl sl (mkF m pc' L (v :: st)) := by
  subst hp
  refine w.heap (CHr.refl w.ch) w.old fun T locs X e0 f => ?_
  obtain ⟨T', X', e', st'⟩ := RoadKit.getF X w.1.1 w.hZ w.own (host := "") (Or.inl wl) Via.refl e0 F (g := mkF m pc L (.ref a :: st)) rfl rfl (hb w.1.2.1 hd)
  exact ⟨T', locs, X', e', f, st'⟩
theorem Wk.getS {pc pc' : Nat} {L : Array Slot} {st : List Value} {index : Nat} {O n d : String} {v : Value} (w : Wk p l e R s m args below meth c Z a0 EL S0 y B ml ret V h cl sl (mkF m pc L st)) (wl : (Jvm.Cond.fieldLink y.cls index O n d).before a0 Z = true) (F : Sta Z Z.heap O n d v) (hd : decode B pc = .ok (.getstatic index, 3)) (hp : pc + 3 = pc' := by rfl) :
    Wk p l e R s m args below meth c Z a0 EL S0 y B ml ret V h cl sl (mkF m pc' L (v :: st)) := by
  subst hp
  refine w.heap (CHr.refl w.ch) w.old fun T locs X e0 f => ?_
  obtain ⟨T', X', e', st'⟩ := RoadKit.getS X w.1.1 w.hZ (host := "") w.own wl Via.refl e0 (F.ext w.old) (g := mkF m pc L st) rfl (hb w.1.2.1 hd)
  exact ⟨T', locs, X', e', f, st'⟩
theorem Wk.putF {pc pc' : Nat} {L : Array Slot} {st : List Value} {index kk : Nat} {O n d C : String} {ty : FieldType} {a : Addr} {v old : Value} (w : Wk p l e R s m args below meth c Z a0 EL S0 y B ml ret V h cl sl (mkF m pc L (v :: .ref a :: st))) (wl : (Jvm.Cond.fieldLink y.cls index O n d).before a0 Z = true) (F : Fld Z h a O n d old) (E : Exa Z h a C)
    (La : (Jvm.Cond.lays C O n d).before a0 Z = true ∨ ((Jvm.Cond.laysFinal C O n d).before a0 Z = true ∧ y.cls = O ∧ y.name = "<init>")) (wi : (Jvm.Cond.instantiable C kk).before a0 Z = true) (hty : parseFieldDescriptor d = some ty) (hn : narrow ty v = v) (hf0 : fits ty v = true) (S : Safe Z EL V h a) (ha : Z.heap.size ≤ a) (hd : decode B pc = .ok (.putfield index, 3)) (hp : pc + 3 = pc' := by rfl) :
    ∃ h' : Heap, Wr h h' a (RoadKit.slotOf Z O n d) v ∧ Keep h h' [a] ∧ Fld Z h' a O n d v ∧ CHr Z EL V h V h' ∧ Wk p l e R s m args below meth c Z a0 EL S0 y B ml ret V h' cl sl (mkF m pc' L st) := by
  subst hp
  obtain ⟨hf, ⟨hz, hC, hO⟩, T, locs, k0, X, e0, h1, h2, h3, st0⟩ := id w
  obtain ⟨T', h', X', e', W, st'⟩ := RoadKit.putF X hf.1 hz w.own (host := "") (Or.inl wl) Via.refl e0 F E (La.imp id fun q => ⟨q.1, q.2.1, hf.2.2.2.2.2.2.1.trans q.2.2⟩) wi hty hn hf0 (g := mkF m pc L (v :: .ref a :: st)) rfl rfl (hb hf.2.1 hd)
  have Q : CHr Z EL V h V h' := CHr.wr W S w.ch
  exact ⟨h', W, Keep.of_wr W, F.same W, Q, hf, ⟨hz, hC.trans Q, extW hO W ha⟩, T', _, k0, X', e', h1, Nat.le_trans h2 Q.2.1, Fr.snoc X' h3 ha, fun t q => st0 t (st' t q)⟩
theorem Wk.putFN {pc pc' : Nat} {L : Array Slot} {st : List Value} {index kk : Nat} {O n d C : String} {ty : FieldType} {a : Addr} {v v' old : Value} (w : Wk p l e R s m args below meth c Z a0 EL S0 y B ml ret V h cl sl (mkF m pc L (v :: .ref a :: st))) (wl : (Jvm.Cond.fieldLink y.cls index O n d).before a0 Z = true) (F : Fld Z h a O n d old) (E : Exa Z h a C)
    (La : (Jvm.Cond.lays C O n d).before a0 Z = true ∨ ((Jvm.Cond.laysFinal C O n d).before a0 Z = true ∧ y.cls = O ∧ y.name = "<init>")) (wi : (Jvm.Cond.instantiable C kk).before a0 Z = true) (hty : parseFieldDescriptor d = some ty) (hn : narrow ty v = v') (hf0 : fits ty v' = true) (S : Safe Z EL V h a) (ha : Z.heap.size ≤ a) (hd : decode B pc = .ok (.putfield index, 3)) (hp : pc + 3 = pc' := by rfl) :
    ∃ h' : Heap, Wr h h' a (RoadKit.slotOf Z O n d) v' ∧ Keep h h' [a] ∧ Fld Z h' a O n d v' ∧ CHr Z EL V h V h' ∧ Wk p l e R s m args below meth c Z a0 EL S0 y B ml ret V h' cl sl (mkF m pc' L st) := by
  subst hp
  obtain ⟨hf, ⟨hz, hC, hO⟩, T, locs, k0, X, e0, h1, h2, h3, st0⟩ := id w
  obtain ⟨T', h', X', e', W, st'⟩ := RoadKit.putFN X hf.1 hz w.own wl Via.refl e0 F E (La.imp id fun q => ⟨q.1, q.2.1, hf.2.2.2.2.2.2.1.trans q.2.2⟩) wi hty hn hf0 (g := mkF m pc L (v :: .ref a :: st)) rfl rfl (hb hf.2.1 hd)
  have Q : CHr Z EL V h V h' := CHr.wr W S w.ch
  exact ⟨h', W, Keep.of_wr W, F.same W, Q, hf, ⟨hz, hC.trans Q, extW hO W ha⟩, T', _, k0, X', e', h1, Nat.le_trans h2 Q.2.1, Fr.snoc X' h3 ha, fun t q => st0 t (st' t q)⟩
theorem Wk.cast {pc pc' : Nat} {L : Array Slot} {st : List Value} {index : Nat} {K : String} {a : Addr} (w : Wk p l e R s m args below meth c Z a0 EL S0 y B ml ret V h cl sl (mkF m pc L (.ref a :: st))) (wl : (Jvm.Cond.classLink y.cls index K).before a0 Z = true) (F : Ins Z h a K true) (hd : decode B pc = .ok (.checkcast index, 3)) (hp : pc + 3 = pc' := by rfl) :
    Wk p l e R s m args below meth c Z a0 EL S0 y B ml ret V h cl sl (mkF m pc' L (.ref a :: st)) := by
  subst hp
  refine w.heap (CHr.refl w.ch) w.old fun T locs X e0 f => ?_
  obtain ⟨T', X', e', st'⟩ := castY X w.1.1 w.hZ w.own wl e0 F (g := mkF m pc L (.ref a :: st)) rfl rfl (hb w.1.2.1 hd)
  exact ⟨T', locs, X', e', f, st'⟩
theorem Wk.inst {pc pc' : Nat} {L : Array Slot} {st : List Value} {index : Nat} {K : String} {a : Addr} (w : Wk p l e R s m args below meth c Z a0 EL S0 y B ml ret V h cl sl (mkF m pc L (.ref a :: st))) (wl : (Jvm.Cond.classLink y.cls index K).before a0 Z = true) (F : Ins Z h a K true) (hd : decode B pc = .ok (.instanceof index, 3)) (hp : pc + 3 = pc' := by rfl) :
    Wk p l e R s m args below meth c Z a0 EL S0 y B ml ret V h cl sl (mkF m pc' L (.int 1 :: st)) := by
  subst hp
  refine w.heap (CHr.refl w.ch) w.old fun T locs X e0 f => ?_
  obtain ⟨T', X', e', st'⟩ := instY X w.1.1 w.hZ w.own wl e0 F (g := mkF m pc L (.ref a :: st)) rfl rfl (hb w.1.2.1 hd)
  exact ⟨T', locs, X', e', f, st'⟩
theorem Wk.instNull {pc pc' : Nat} {L : Array Slot} {st : List Value} {index : Nat} (w : Wk p l e R s m args below meth c Z a0 EL S0 y B ml ret V h cl sl (mkF m pc L (.null :: st))) (hd : decode B pc = .ok (.instanceof index, 3)) (hp : pc + 3 = pc' := by rfl) :
    Wk p l e R s m args below meth c Z a0 EL S0 y B ml ret V h cl sl (mkF m pc' L (.int 0 :: st)) := by
  subst hp
  exact w.stX fun T locs t X e0 k => X.instanceofNull w.1.1 (g := mkF m pc L (.null :: st)) rfl rfl (hb w.1.2.1 hd) t k
/-- Object.<init> -/
theorem Wk.initO {pc pc' : Nat} {L : Array Slot} {st : List Value} {idx : Nat} {a : Addr} (W : Nat) (w : Wk p l e R s m args below meth c Z a0 EL S0 y B ml ret V h cl sl (mkF m pc L (.ref a :: st))) (w1 : (Jvm.Cond.methodLink y.cls idx Lib.objectInit).before a0 Z = true) (w2 : (Jvm.Cond.instanceMethod Lib.objectInit).before a0 Z = true)
    (w3 : (Jvm.Cond.code Lib.objectInit ⟨#[0xb1]⟩ 1 none).before a0 Z = true) (hL : L.size = ml) (hd : decode B pc = .ok (.invokespecial idx, 3)) (hfr : 1 ≤ R.frames) (hW : (st.map fun v => v.category).sum ≤ W) (hlo : W + 12 ≤ R.locals) (hp : pc + 3 = pc' := by rfl) :
    Wk p l e R s m args below meth c Z a0 EL S0 y B ml ret V h cl sl (mkF m pc' L st) := by
  subst hp
  refine w.heap (CHr.refl w.ch) w.old fun T locs X e0 f => ?_
  obtain ⟨T', X', e', st'⟩ := RoadKit.initO X w.1.1 w.hZ w.own w1 w2 w3 e0 (g := mkF m pc L (.ref a :: st)) rfl (hL.trans w.1.2.2.1.symm) rfl (hb w.1.2.1 hd) hfr (W := W) (by show 2 * 0 + _ ≤ _; omega) hlo
  exact ⟨T', locs, X', e', f, st'⟩
/-- ldc of a String constant of EL, its text below 256 -/
theorem Wk.ldcS {pc pc' : Nat} {L : Array Slot} {st : List Value} {index : Nat} {text : String} {vs : List Value} {z : Int32} (n : Nat) (w : Wk p l e R s m args below meth c Z a0 EL S0 y B ml ret V h cl sl (mkF m pc L st)) (wl : (Jvm.Cond.stringLink y.cls index text).before a0 Z = true) (wS : ∀ a ∈ Bundle.stringAtoms, a.before a0 Z = true) (hm : (y.cls, index) ∈ EL)
    (ht : (∀ c ∈ text.toList, c.toNat < 256) ∧ text.toList.map (fun c => Value.int (Jvm.Lit.byteI c.toNat.toUInt16)) = vs) (hz : ¬ z < 0) (hl : z.toNatClampNeg = vs.length) (hd : decode B pc = .ok (.ldc index, 2)) (hn : 4 * text.toList.length ≤ n) (hbig : n ≤ 536870912) (hc : cl + 2 ≤ R.cells) (hl' : sl + (n + 4) ≤ R.slots) (hp : pc + 2 = pc' := by rfl) :
    ∃ (a : Addr) (V' : Vm) (h' : Heap) (b : Addr) (k : ClassId), Ext h h' ∧ Exa Z h' a "java/lang/String" ∧ Fld Z h' a "java/lang/String" "coder" "B" (.int 0) ∧ Fld Z h' a "java/lang/String" "value" "[B" (.ref b) ∧ Arv Z h' b k .byte z vs (.int 0) ∧ (∀ x, Safe Z EL V' h' x → x ≠ a ∧ x ≠ b) ∧ CHr Z EL V h V' h' ∧
      Wk p l e R s m args below meth c Z a0 EL S0 y B ml ret V' h' (cl + 2) (sl + (n + 4)) (mkF m pc' L (.ref a :: st)) := by
  subst hp
  obtain ⟨hf, ⟨hz0, hC, hO⟩, T, locs, k0, X, e0, h1, h2, h3, st0⟩ := id w
  obtain ⟨a, T', h', k1, b, k, X', e', E, hS, hk, hW, hown', q1, q2, q3, q4, -, -, Q, -, hne, st'⟩ := ldcCH X hf.1 hz0 w.own wl wS e0 h1 h2 hf.2.2.2.2.2.2.2 hm w.ch ht hz hl (g := mkF m pc L st) rfl (hb hf.2.1 hd) hn hbig hc hl'
  exact ⟨a, T'.vm, h', b, k, E, q1, q2, q3, q4, hne, Q, hf, ⟨hW, hC.trans Q, extT hO E⟩, T', locs, k1, X', e', hS, hk, h3, fun t q => st0 t (st' t q)⟩
/-! calls -/
/-- who pays a call of y': the shape of every payer here -/
def Pays (p : Program) (l : Launch) (e : Env) (R : Room) (s : State) (args : Array Value) (below : List Frame) (Z : State) (EL : List (String × Nat)) (V : Vm) (h : Heap) (y' : MethodName) (len W kc ks : Nat) (as' : Array Value) (Q : Option Value → Heap → Prop) : Prop :=
  BackS l R p e below (s.setVm V) args y' len W (fun A a => a = as' ∧ A.U.heap = h ∧ A.cells + kc ≤ R.cells ∧ A.slots + ks ≤ R.slots)
    (fun A _ v B => ∃ L : List Loc, Q v B.U.heap ∧ Ext Z.heap B.U.heap ∧ Fr Z.heap.size L ∧ CHr Z EL V h B.U.vm B.U.heap ∧ B.locs = A.locs ++ L ∧ B.cells = A.cells + kc ∧ B.slots = A.slots + ks)
theorem Wk.pays {g : JFrame} {y' : MethodName} {B' : ByteArray} {ml' : Nat} {ret' : Option FieldType} {rm : Room} {as' : Array Value} {sf : List Addr} {Q : Option Value → Heap → Prop} {len : Nat} (W : Nat) (w : Wk p l e R s m args below meth c Z a0 EL S0 y B ml ret V h cl sl g) (M : Met l Z EL y' B' ml' ret' [] rm as' h sf Q)
    (wc : (Jvm.Cond.code y' B' ml' ret').before a0 Z = true) (wz : (Jvm.Cond.initialized y'.cls).before a0 Z = true) (hsf : ∀ x ∈ sf, Safe Z EL V h x) (hf : rm.frames + 1 ≤ R.frames) (hl : W + (ml' + 11) + rm.locals ≤ R.locals) :
    Pays p l e R s args below Z EL V h y' len W rm.cells rm.slots as' Q :=
  BackS.of_freeW (bytes := B') (maxL := ml') (ret := ret') (E := fun _ first o t L k n => k = rm.cells ∧ n = rm.slots ∧ (∃ v, o = .returned v ∧ Q v t.heap) ∧ Ext Z.heap t.heap ∧ Fr Z.heap.size L ∧ CHr Z EL first.vm first.heap t.vm t.heap) M hf hl
    (fun m meth c A a Y hp => have hU : Z.Warmed39 A.U.vm := wtrans (s := s.setVm V) w.hZ Y.warmed
      ⟨by show (Jvm.Cond.and _ .tt).before a A.U = true; rw [Cond.before_and, mv hU wc]; rfl, mv hU wc, mv hU wz, hp.2.2.1, hp.2.2.2⟩)
    (fun m meth c A a g mk Y hp => ⟨hp.1, wtrans (s := s.setVm V) w.hZ Y.warmed, hp.2.1, (CHv.at Y w.hZ w.el w.ch).1, fun x hx => (CHv.at Y w.hZ w.el w.ch).2.2 x |> fun q B => (q B).elim (hsf x hx) (fun r => hsf x hx |> fun _ => by
      obtain ⟨cell, q0⟩ := B.there
      exact absurd (Array.getElem?_eq_some_iff.mp q0).1 (Nat.not_lt.mpr r))⟩) (fun _ _ _ _ _ _ _ _ _ => trivial)
    (fun _ _ _ _ ⟨v, L, h1, h2, h3, h4, h5, h6⟩ => ⟨L, _, _, h6, rfl, rfl, ⟨v, h1, h2⟩, h3, h4, h5⟩)
    (fun m meth c A a g mk v t L k n Y hp _ _ ⟨e1, e2, ⟨v', e3, e4⟩, e5, e6, e7⟩ => by
      cases e3; subst e1 e2
      refine ⟨L, e4, e5, e6, (CHv.at Y w.hZ w.el w.ch).trans ?_, rfl, rfl, rfl⟩
      rw [← hp.2.1]; exact e7)
/-- a payer of the library's (Back): what it writes lies in ws -/
theorem Wk.paysB {g : JFrame} {y' : MethodName} {as' : Array Value} {Qb : Option Value → Heap → List Loc → Prop} {len W kc ks : Nat} (w : Wk p l e R s m args below meth c Z a0 EL S0 y B ml ret V h cl sl g) (ws : List Addr)
    (K : Back l R p e below (s.setVm V) args y' len W (fun A a => a = as' ∧ A.U.heap = h ∧ A.cells + kc ≤ R.cells ∧ A.slots + ks ≤ R.slots) (fun A _ v B => ∃ L, Qb v B.U.heap L ∧ B.locs = A.locs ++ L ∧ B.cells = A.cells + kc ∧ B.slots = A.slots + ks))
    (hQ : ∀ v h' L, Qb v h' L → Keep h h' ws ∧ Fr Z.heap.size L) (hs : ∀ x ∈ ws, Safe Z EL V h x ∧ Z.heap.size ≤ x) :
    Pays p l e R s args below Z EL V h y' len W kc ks as' (fun v h' => ∃ L, Qb v h' L) := by
  intro m meth c A g ig mk a X hg hsize hdg hW hn hp
  obtain ⟨v, D, X', ⟨L, q1, q2, q3, q4⟩, st⟩ := K m meth c A g ig mk a X hg hsize hdg hW hn hp
  obtain ⟨K1, K2⟩ := hQ _ _ _ q1
  have A1 : CHr Z EL V h V D.U.heap := CHr.keep K1 (fun x hx => (hs x hx).1) w.ch
  refine ⟨v, D, X'.retabled X'.warmed.wide, X'.warmed.since _, by rw [hp.2.1]; exact K1.1, ⟨L, ⟨L, q1⟩, extK w.old K1 (fun x hx => (hs x hx).2), K2, A1.trans (CHv.at X' w.hZ w.el A1.1), q2, q3, q4⟩, st⟩
theorem Wk.back {g g' : JFrame} {y' : MethodName} {kc ks : Nat} {Q : Option Value → Heap → Prop} {v : Option Value} {T0 : State} {locs0 : List Loc} {D : Pt} {vm₁ : Vm} (w : Wk p l e R s m args below meth c Z a0 EL S0 y B ml ret V h cl sl g) {k0 : Nat} (h1 : s.Since V k0) (h2 : k0 ≤ h.size) (h3 : Fr Z.heap.size locs0) (e0 : T0.heap = h)
    (X' : Stand p l e R ((s.setVm V).setVm D.U.vm) m args below meth c D.U D.locs D.cells D.slots) (hS : (s.setVm V).Since D.U.vm D.U.heap.size) (hgr : T0.heap.size ≤ D.U.heap.size)
    (hpost : ∃ L : List Loc, Q v D.U.heap ∧ Ext Z.heap D.U.heap ∧ Fr Z.heap.size L ∧ CHr Z EL V h D.U.vm D.U.heap ∧ D.locs = Pt.locs (T0.setVm vm₁, locs0, cl, sl) ++ L ∧ D.cells = Pt.cells (T0.setVm vm₁, locs0, cl, sl) + kc ∧ D.slots = Pt.slots (T0.setVm vm₁, locs0, cl, sl) + ks)
    (st : ∀ t, Steps p.tables e below (D.U.setTop g') t → Steps p.tables e below S0 t) :
    ∃ (V' : Vm) (h' : Heap), Q v h' ∧ CHr Z EL V h V' h' ∧ Wk p l e R s m args below meth c Z a0 EL S0 y B ml ret V' h' (cl + kc) (sl + ks) g' := by
  obtain ⟨L, q1, q2, q3, q4, q5, q6, q7⟩ := hpost
  obtain ⟨U, locsD, cD, sD⟩ := D
  dsimp only [Pt.U, Pt.locs, Pt.cells, Pt.slots] at *
  subst q5 q6 q7
  exact ⟨U.vm, U.heap, q1, q4, w.1, ⟨State.Warmed39.trans (t := s.setVm V) w.hZ hS.1, w.2.1.2.1.trans q4, q2⟩, U, _, _, X', rfl, foldS (T := T0) h1 (by rw [e0]; exact h2) hS hgr, Nat.le_refl _, Fr.app h3 q3, st⟩
/-- invokestatic -/
theorem Wk.static {pc pc' : Nat} {L : Array Slot} {st rest argsL : List Value} {index W kc ks : Nat} {y' : MethodName} {B' : ByteArray} {ml' : Nat} {ret' : Option FieldType} {Q : Option Value → Heap → Prop} {ps : List FieldType} {r : Option FieldType} (w : Wk p l e R s m args below meth c Z a0 EL S0 y B ml ret V h cl sl (mkF m pc L st))
    (K : Pays p l e R s args below Z EL V h y' 3 W kc ks argsL.toArray Q) (wl : (Jvm.Cond.methodLink y.cls index y').before a0 Z = true) (wst : (Jvm.Cond.static y').before a0 Z = true) (wz : (Jvm.Cond.initialized y'.cls).before a0 Z = true) (wc : (Jvm.Cond.code y' B' ml' ret').before a0 Z = true)
    (hy : y'.cls ≠ "java/lang/invoke/MethodHandle" ∧ y'.cls ≠ "java/lang/invoke/VarHandle") (hpd : parseMethodDescriptor y'.desc = some ⟨ps, r⟩) (hlen : argsL.length = ps.length) (hst : st = argsL.reverse ++ rest) (hW : (rest.map fun v => v.category).sum ≤ W) (hL : L.size = ml) (hd : decode B pc = .ok (.invokestatic index, 3)) (hc : cl + kc ≤ R.cells) (hs : sl + ks ≤ R.slots) (hp : pc + 3 = pc' := by rfl) :
    ∃ (v : Option Value) (V' : Vm) (h' : Heap), Q v h' ∧ CHr Z EL V h V' h' ∧ Wk p l e R s m args below meth c Z a0 EL S0 y B ml ret V' h' (cl + kc) (sl + ks) (mkF m pc' L (v.toList ++ rest)) := by
  subst hp
  obtain ⟨hf, ⟨hz, hC, hO⟩, T, locs, k0, X, e0, h1, h2, h3, st0⟩ := id w
  obtain ⟨v, vm₁, D, -, X', hS, hgr, hpost, st'⟩ := callSS X hf.1 w.own (mv (s := s.setVm V) hz wl) (mv (s := s.setVm V) hz wst) (mv (s := s.setVm V) hz wz) (mv (s := s.setVm V) hz wc) hy K (g := mkF m pc L st) rfl (hL.trans hf.2.2.1.symm) (argsL := argsL) (rest := rest) (lenOf hpd hlen) hst (by show 2 * 0 + _ ≤ _; omega) (hb hf.2.1 hd) (fun _ _ => ⟨rfl, e0, hc, hs⟩)
  obtain ⟨V', h', a1, a2, a3⟩ := w.back (g' := mkF m (pc + 3) L (v.toList ++ rest)) (y' := y') h1 h2 h3 e0 X' hS hgr hpost (fun t q => st0 t (st'.trans q))
  exact ⟨v, V', h', a1, a2, a3⟩
/-- invokevirtual: the receiver is exactly a C, for which the call goes to z -/
theorem Wk.virtual {pc pc' : Nat} {L : Array Slot} {st rest argsL : List Value} {index W kc ks : Nat} {y' z : MethodName} {C : String} {b : Addr} {Q : Option Value → Heap → Prop} {ps : List FieldType} {r : Option FieldType} (w : Wk p l e R s m args below meth c Z a0 EL S0 y B ml ret V h cl sl (mkF m pc L st))
    (K : Pays p l e R s args below Z EL V h z 3 W kc ks (.ref b :: argsL).toArray Q) (wl : (Jvm.Cond.methodLink y.cls index y').before a0 Z = true) (wd : (Jvm.Cond.declares y').before a0 Z = true) (hnf : NotFace (s.setVm V) y') (ws : (Jvm.Cond.selects C y' z).before a0 Z = true) (wi : (Jvm.Cond.instanceMethod z).before a0 Z = true)
    (hy : y'.cls ≠ "java/lang/invoke/MethodHandle" ∧ y'.cls ≠ "java/lang/invoke/VarHandle") (E : Exa Z h b C) (hpd : parseMethodDescriptor y'.desc = some ⟨ps, r⟩) (hlen : argsL.length = ps.length) (hst : st = argsL.reverse ++ .ref b :: rest) (hW : (rest.map fun v => v.category).sum ≤ W) (hL : L.size = ml) (hd : decode B pc = .ok (.invokevirtual index, 3)) (hc : cl + kc ≤ R.cells) (hs : sl + ks ≤ R.slots) (hp : pc + 3 = pc' := by rfl) :
    ∃ (v : Option Value) (V' : Vm) (h' : Heap), Q v h' ∧ CHr Z EL V h V' h' ∧ Wk p l e R s m args below meth c Z a0 EL S0 y B ml ret V' h' (cl + kc) (sl + ks) (mkF m pc' L (v.toList ++ rest)) := by
  subst hp
  obtain ⟨hf, ⟨hz, hC, hO⟩, T, locs, k0, X, e0, h1, h2, h3, st0⟩ := id w
  obtain ⟨cB, kB, b1, b2, b3⟩ := isOf (s := s.setVm V) hz e0 E
  obtain ⟨v, vm₁, D, -, X', hS, hgr, hpost, st'⟩ := X.virtualBackS hf.1 w.own (mv (s := s.setVm V) hz wl) (mv (s := s.setVm V) hz wd) hnf (mv (s := s.setVm V) hz ws) (mv (s := s.setVm V) hz wi) hy K b1 b3 (g := mkF m pc L st) rfl (hL.trans hf.2.2.1.symm) (Steps.refl _) (argsL := argsL) (rest := rest) (lenOf hpd hlen) hst (by show 2 * 0 + _ ≤ _; omega) (hb hf.2.1 hd) (fun _ _ => ⟨rfl, e0, hc, hs⟩)
  obtain ⟨V', h', a1, a2, a3⟩ := w.back (g' := mkF m (pc + 3) L (v.toList ++ rest)) (y' := z) h1 h2 h3 e0 X' hS hgr hpost (fun t q => st0 t (st'.trans q))
  exact ⟨v, V', h', a1, a2, a3⟩
/-- .. where the entry's own class declares what is selected -/
theorem Wk.virt {pc pc' : Nat} {L : Array Slot} {st rest argsL : List Value} {index W kc ks : Nat} {y' : MethodName} {C : String} {b : Addr} {Q : Option Value → Heap → Prop} {ps : List FieldType} {r : Option FieldType} (w : Wk p l e R s m args below meth c Z a0 EL S0 y B ml ret V h cl sl (mkF m pc L st))
    (K : Pays p l e R s args below Z EL V h y' 3 W kc ks (.ref b :: argsL).toArray Q) (wl : (Jvm.Cond.methodLink y.cls index y').before a0 Z = true) (wd : (Jvm.Cond.declares y').before a0 Z = true) (ws : (Jvm.Cond.selects C y' y').before a0 Z = true) (wi : (Jvm.Cond.instanceMethod y').before a0 Z = true)
    (hy : y'.cls ≠ "java/lang/invoke/MethodHandle" ∧ y'.cls ≠ "java/lang/invoke/VarHandle") (E : Exa Z h b C) (hpd : parseMethodDescriptor y'.desc = some ⟨ps, r⟩) (hlen : argsL.length = ps.length) (hst : st = argsL.reverse ++ .ref b :: rest) (hW : (rest.map fun v => v.category).sum ≤ W) (hL : L.size = ml) (hd : decode B pc = .ok (.invokevirtual index, 3)) (hc : cl + kc ≤ R.cells) (hs : sl + ks ≤ R.slots) (hp : pc + 3 = pc' := by rfl) :
    ∃ (v : Option Value) (V' : Vm) (h' : Heap), Q v h' ∧ CHr Z EL V h V' h' ∧ Wk p l e R s m args below meth c Z a0 EL S0 y B ml ret V' h' (cl + kc) (sl + ks) (mkF m pc' L (v.toList ++ rest)) :=
  w.virtual K wl wd (notFace_of_selects (args := #[]) (mv (s := s.setVm V) w.hZ ws)) ws wi hy E hpd hlen hst hW hL hd hc hs hp
/-- invokespecial of a constructor -/
theorem Wk.ctor {pc pc' : Nat} {L : Array Slot} {st rest argsL : List Value} {index W kc ks : Nat} {y' : MethodName} {B' : ByteArray} {ml' : Nat} {a : Addr} {Q : Option Value → Heap → Prop} {ps : List FieldType} {r : Option FieldType} (w : Wk p l e R s m args below meth c Z a0 EL S0 y B ml ret V h cl sl (mkF m pc L st))
    (K : Pays p l e R s args below Z EL V h y' 3 W kc ks (.ref a :: argsL).toArray Q) (hy1 : y'.name = "<init>") (wl : (Jvm.Cond.methodLink y.cls index y').before a0 Z = true) (wi : (Jvm.Cond.instanceMethod y').before a0 Z = true) (wc : (Jvm.Cond.code y' B' ml' none).before a0 Z = true)
    (hy : y'.cls ≠ "java/lang/invoke/MethodHandle" ∧ y'.cls ≠ "java/lang/invoke/VarHandle") (hpd : parseMethodDescriptor y'.desc = some ⟨ps, r⟩) (hlen : argsL.length = ps.length) (hst : st = argsL.reverse ++ .ref a :: rest) (hW : (rest.map fun v => v.category).sum ≤ W) (hL : L.size = ml) (hd : decode B pc = .ok (.invokespecial index, 3)) (hc : cl + kc ≤ R.cells) (hs : sl + ks ≤ R.slots) (hp : pc + 3 = pc' := by rfl) :
    ∃ (v : Option Value) (V' : Vm) (h' : Heap), Q v h' ∧ CHr Z EL V h V' h' ∧ Wk p l e R s m args below meth c Z a0 EL S0 y B ml ret V' h' (cl + kc) (sl + ks) (mkF m pc' L (v.toList ++ rest)) := by
  subst hp
  obtain ⟨hf, ⟨hz, hC, hO⟩, T, locs, k0, X, e0, h1, h2, h3, st0⟩ := id w
  obtain ⟨v, vm₁, D, -, X', hS, hgr, hpost, st'⟩ := X.specialBackS hf.1 hy1 w.own (mv (s := s.setVm V) hz wl) (mv (s := s.setVm V) hz wi) (mv (s := s.setVm V) hz wc) hy K (g := mkF m pc L st) rfl (hL.trans hf.2.2.1.symm) (Steps.refl _) (a := a) (argsL := argsL) (rest := rest) (lenOf hpd hlen) hst (by show 2 * 0 + _ ≤ _; omega) (hb hf.2.1 hd) (fun _ _ => ⟨rfl, e0, hc, hs⟩)
  obtain ⟨V', h', a1, a2, a3⟩ := w.back (g' := mkF m (pc + 3) L (v.toList ++ rest)) (y' := y') h1 h2 h3 e0 X' hS hgr hpost (fun t q => st0 t (st'.trans q))
  exact ⟨v, V', h', a1, a2, a3⟩
/-- a private method by invokevirtual -/
theorem Wk.priv {pc pc' : Nat} {L : Array Slot} {st rest argsL : List Value} {index W kc ks : Nat} {y' : MethodName} {B' : ByteArray} {ml' : Nat} {ret' : Option FieldType} {C : String} {b : Addr} {Q : Option Value → Heap → Prop} {ps : List FieldType} {r : Option FieldType} (w : Wk p l e R s m args below meth c Z a0 EL S0 y B ml ret V h cl sl (mkF m pc L st))
    (K : Pays p l e R s args below Z EL V h y' 3 W kc ks (.ref b :: argsL).toArray Q) (wl : (Jvm.Cond.methodLink y.cls index y').before a0 Z = true) (wi : (Jvm.Cond.instanceMethod y').before a0 Z = true) (wp : (Jvm.Cond.privateMethod y').before a0 Z = true) (ws : (Jvm.Cond.selects C y' y').before a0 Z = true) (wc : (Jvm.Cond.code y' B' ml' ret').before a0 Z = true)
    (hy : y'.cls ≠ "java/lang/invoke/MethodHandle" ∧ y'.cls ≠ "java/lang/invoke/VarHandle") (E : Exa Z h b C) (hpd : parseMethodDescriptor y'.desc = some ⟨ps, r⟩) (hlen : argsL.length = ps.length) (hst : st = argsL.reverse ++ .ref b :: rest) (hW : (rest.map fun v => v.category).sum ≤ W) (hL : L.size = ml) (hd : decode B pc = .ok (.invokevirtual index, 3)) (hc : cl + kc ≤ R.cells) (hs : sl + ks ≤ R.slots) (hp : pc + 3 = pc' := by rfl) :
    ∃ (v : Option Value) (V' : Vm) (h' : Heap), Q v h' ∧ CHr Z EL V h V' h' ∧ Wk p l e R s m args below meth c Z a0 EL S0 y B ml ret V' h' (cl + kc) (sl + ks) (mkF m pc' L (v.toList ++ rest)) := by
  subst hp
  obtain ⟨hf, ⟨hz, hC, hO⟩, T, locs, k0, X, e0, h1, h2, h3, st0⟩ := id w
  obtain ⟨cell, q1, q2⟩ := E.cell
  obtain ⟨mk, methM, hnamed, hmethM, hstM, habM⟩ := Cond.instanceMethod_spec (mv (s := s.setVm V) (args := args) hz wi)
  obtain ⟨methM', cM, hmethM', -, -, -, -, -, -, hsigM⟩ := Cond.code_spec hnamed (mv (s := s.setVm V) (args := args) hz wc)
  cases hmethM.symm.trans hmethM'
  obtain ⟨c2, r2, m2, -, -, q3, -, kP, hkP, hkPi⟩ := Cond.selects_spec (mv (s := s.setVm V) (args := args) hz ws)
  cases hnamed.symm.trans q3
  have hselP : selectMethod e.platform (s.setVm V).vm cell.cls mk = .method mk := selectMethod_private hmethM (Cond.privateMethod_at (mvP (s := s.setVm V) hz wp (args := #[])) mk methM hnamed hmethM)
  obtain ⟨vm₁, X₁, hstep₁⟩ := X.invokevirtual hf.1 w.own (mv (s := s.setVm V) hz wl) hnamed hmethM hstM hkP hkPi hy (a := b) (cell := cell) (by rw [e0]; exact q1) q2 hselP hmethM habM hkP hkPi (g := mkF m pc L st) rfl (argsL := argsL) (rest := rest) (lenOf hpd hlen _ hsigM) hst (hb hf.2.1 hd)
  obtain ⟨v, D, X', hS, hgr, hpost, hsteps⟩ := K m meth c ⟨T.setVm vm₁, locs, cl, sl⟩ { (mkF m pc L st) with stack := rest } (.invokevirtual index) mk (.ref b :: argsL).toArray X₁ rfl (hL.trans hf.2.2.1.symm) (hb hf.2.1 hd) (by show 2 * 0 + (rest.map fun v => v.category).sum ≤ W; omega) (X₁.named hnamed) ⟨rfl, e0, hc, hs⟩
  obtain ⟨V', h', a1, a2, a3⟩ := w.back (g' := mkF m (pc + 3) L (v.toList ++ rest)) (y' := y') h1 h2 h3 e0 X' hS hgr hpost (fun t q => st0 t ((hstep₁ _ fun acts => by rw [doInvoke_state]; exact Steps.refl _).trans (hsteps.trans q)))
  exact ⟨v, V', h', a1, a2, a3⟩
theorem own_same {s0 : State} {as0 : Array Value} {y1 y2 : MethodName} {C : String} (w1 : (Jvm.Cond.instanceMethod y1).before as0 s0 = true) (w2 : (Jvm.Cond.instanceMethod y2).before as0 s0 = true) (ws : (Jvm.Cond.selects C y2 y2).before as0 s0 = true) (hc : y2.cls = y1.cls) (hy : y1.cls ≠ "java/lang/invoke/MethodHandle" ∧ y1.cls ≠ "java/lang/invoke/VarHandle") : (Jvm.Cond.sameMethod y1.cls y1.cls y1.name y1.desc).before as0 s0 = true := by
  obtain ⟨r0, m0, n1, -⟩ := Cond.instanceMethod_spec w1
  obtain ⟨r1, m1, n2, -⟩ := Cond.instanceMethod_spec w2
  obtain ⟨kr, hkr, hni⟩ := notFace_of_selects (args := as0) ws r1 n2
  have c1 := findClass_of_methodNamed n1
  have c2 := findClass_of_methodNamed n2
  rw [hc] at c2
  have f1 := State.methodFound?_of_named n1 hy
  have e1 : s0.methodNamed? ⟨y1.cls, y1.name, y1.desc⟩ = some r0 := n1
  have hk' : s0.vm.classes[r0.cls]? = some kr := by rw [Option.some.inj (c1.symm.trans c2)]; exact hkr
  simp [Cond.before, Cond.holds, Cond.value, c1, f1, e1, hk', hni]
theorem own_nf {s : State} {y1 y2 : MethodName} {C : String} (hZ : Z.Warmed39 s.vm) (w2 : (Jvm.Cond.instanceMethod y2).before a0 Z = true) (ws : (Jvm.Cond.selects C y2 y2).before a0 Z = true) (hc : y2.cls = y1.cls) : NotFace s y1 := fun r0 n1 => by
  obtain ⟨r1, m1, n2, -⟩ := Cond.instanceMethod_spec (mv (s := s) (args := #[]) hZ w2)
  obtain ⟨kr, hkr, hni⟩ := notFace_of_selects (args := #[]) (mv (s := s) hZ ws) r1 n2
  have c1 := findClass_of_methodNamed n1
  have c2 := findClass_of_methodNamed n2
  rw [hc] at c2
  exact ⟨kr, by rw [Option.some.inj (c1.symm.trans c2)]; exact hkr, hni⟩
/-- super.m(..) -/
theorem Wk.super {pc pc' : Nat} {L : Array Slot} {st rest argsL : List Value} {index W kc ks : Nat} {y' : MethodName} {B' : ByteArray} {ml' : Nat} {ret' : Option FieldType} {C : String} {b : Addr} {Q : Option Value → Heap → Prop} {ps : List FieldType} {r : Option FieldType} (w : Wk p l e R s m args below meth c Z a0 EL S0 y B ml ret V h cl sl (mkF m pc L st))
    (K : Pays p l e R s args below Z EL V h y' 3 W kc ks (.ref b :: argsL).toArray Q) (wl : (Jvm.Cond.methodLink y.cls index y').before a0 Z = true) (wsm : (Jvm.Cond.sameMethod y'.cls y'.cls y'.name y'.desc).before a0 Z = true) (wi : (Jvm.Cond.instanceMethod y').before a0 Z = true) (wsu : (Jvm.Cond.superclass y.cls y'.cls).before a0 Z = true) (wc : (Jvm.Cond.code y' B' ml' ret').before a0 Z = true)
    (hn : y'.name ≠ "<init>") (E : Exa Z h b C) (hpd : parseMethodDescriptor y'.desc = some ⟨ps, r⟩) (hlen : argsL.length = ps.length) (hst : st = argsL.reverse ++ .ref b :: rest) (hW : (rest.map fun v => v.category).sum ≤ W) (hL : L.size = ml) (hd : decode B pc = .ok (.invokespecial index, 3)) (hc : cl + kc ≤ R.cells) (hs : sl + ks ≤ R.slots) (hp : pc + 3 = pc' := by rfl) :
    ∃ (v : Option Value) (V' : Vm) (h' : Heap), Q v h' ∧ CHr Z EL V h V' h' ∧ Wk p l e R s m args below meth c Z a0 EL S0 y B ml ret V' h' (cl + kc) (sl + ks) (mkF m pc' L (v.toList ++ rest)) := by
  subst hp
  obtain ⟨hf, ⟨hz, hC, hO⟩, T, locs, k0, X, e0, h1, h2, h3, st0⟩ := id w
  obtain ⟨v, vm₁, D, -, X', hS, hgr, hpost, st'⟩ := superBackS X hf.1 hz w.own wl wsm wi wsu hn K e0 (Ins.self E) (g := mkF m pc L st) rfl (hL.trans hf.2.2.1.symm) wc (argsL := argsL) (rest := rest) (lenOf hpd hlen) hst (by show 2 * 0 + _ ≤ _; omega) (hb hf.2.1 hd) (fun _ _ => ⟨rfl, e0, hc, hs⟩)
  obtain ⟨V', h', a1, a2, a3⟩ := w.back (g' := mkF m (pc + 3) L (v.toList ++ rest)) (y' := y') h1 h2 h3 e0 X' hS hgr hpost (fun t q => st0 t (st'.trans q))
  exact ⟨v, V', h', a1, a2, a3⟩
/-- System.arraycopy of bytes into an array of the walk's own -/
theorem Wk.arrcopy {pc pc' : Nat} {L : Array Slot} {st : List Value} {index W : Nat} {a b : Addr} {k k' : ClassId} {z z' sp dp nn : Int32} {vs vd us : List Value} {dv dd : Value} (w : Wk p l e R s m args below meth c Z a0 EL S0 y B ml ret V h cl sl (mkF m pc L (.int nn :: .int dp :: .ref b :: .int sp :: .ref a :: st)))
    (w1 : (Jvm.Cond.methodLink y.cls index Jvm.Stand.acN).before a0 Z = true) (w2 : (Jvm.Cond.native Jvm.Stand.acN).before a0 Z = true) (w3 : (Jvm.Cond.static Jvm.Stand.acN).before a0 Z = true) (w4 : (Jvm.Cond.initialized "java/lang/System").before a0 Z = true) (A : Arv Z h a k .byte z vs dv) (D : Arv Z h b k' .byte z' vd dd)
    (h1 : ¬ sp < 0) (h2 : ¬ dp < 0) (h3 : ¬ nn < 0) (h4 : sp.toNatClampNeg + nn.toNatClampNeg ≤ z.toNatClampNeg) (h5 : dp.toNatClampNeg + nn.toNatClampNeg ≤ z'.toNatClampNeg) (hus : us = (List.range nn.toNatClampNeg).map fun i => vs.getD (sp.toNatClampNeg + i) dv) (hl : dp.toNatClampNeg + nn.toNatClampNeg ≤ vd.length) (ge : Z.heap.size ≤ b) (Sb : Safe Z EL V h b)
    (hL : L.size = ml) (hd : decode B pc = .ok (.invokestatic index, 3)) (hf : 1 ≤ R.frames) (hW : (st.map fun v => v.category).sum ≤ W) (hlo : W + (nativeFrameWords "java/lang/System" "arraycopy" 5 + 11) ≤ R.locals) (hp : pc + 3 = pc' := by rfl) :
    ∃ h' : Heap, Keep h h' [b] ∧ Arv Z h' b k' .byte z' (vd.take dp.toNatClampNeg ++ us ++ vd.drop (dp.toNatClampNeg + nn.toNatClampNeg)) dd ∧ CHr Z EL V h V h' ∧ Wk p l e R s m args below meth c Z a0 EL S0 y B ml ret V h' cl sl (mkF m pc' L st) := by
  subst hp
  obtain ⟨hf0, ⟨hz, hC, hO⟩, T, locs, k0, X, e0, g1, g2, g3, st0⟩ := id w
  obtain ⟨T', h', L', X', e', f', K, D', st'⟩ := cpA X hf0.1 hz w.own w1 w2 w3 w4 e0 A D (Or.inl ⟨rfl, rfl⟩) h1 h2 h3 h4 h5 hus hl g3 ge (g := mkF m pc L (.int nn :: .int dp :: .ref b :: .int sp :: .ref a :: st)) rfl (hL.trans hf0.2.2.1.symm) rfl (hb hf0.2.1 hd) hf (W := W) (by show 2 * 0 + _ ≤ _; omega) hlo
  have Q : CHr Z EL V h V h' := CHr.keep K (allS Sb all0) w.ch
  exact ⟨h', K, D', Q, hf0, ⟨hz, hC.trans Q, extK hO K (allS ge all0)⟩, T', L', k0, X', e', g1, Nat.le_trans g2 Q.2.1, f', fun t q => st0 t (st' t q)⟩
/-! the end -/
theorem Wk.fin {g : JFrame} {v : Option Value} {k n : Nat} {Q : Option Value → Heap → Prop} (w : Wk p l e R s m args below meth c Z a0 EL S0 y B ml ret V h cl sl g) (hv : ret = none → v = none)
    (step : ∀ (T : State) (locs : List Loc) (fs : List Frame), Stand p l e R (s.setVm V) m args below meth c T locs cl sl → (∀ (f : JFrame) (acts : List Action), f.method = m → f.locked = none → f.entered = [] → (doReturn e (T.setTop f) acts v).1 = T.setFrames fs) → Steps p.tables e below (T.setTop g) (T.setFrames fs))
    (hQ : Q v h) (hk : cl ≤ k) (hn : sl ≤ n) : Fini p e below s Z EL S0 k n Q := by
  obtain ⟨hf, ⟨hz, hC, hO⟩, T, locs, k0, X, e0, h1, h2, h3, st0⟩ := id w
  obtain ⟨fs, hr, hrun, hend, hR⟩ := (X.more hk hn).leaveW h1 (by rw [e0]; exact h2) (v := v) (fun q => hv (hf.2.2.2.1.symm.trans q)) hf.2.2.2.2.1
  have e1 : (T.setFrames fs).heap = h := e0
  refine ⟨T.setFrames fs, .returned v, st0 _ (step T locs fs X hr), hrun, hend, v, locs, rfl, by rw [e1]; exact hQ, by rw [e1]; exact hO, h3, ?_, hR⟩
  rw [e1]
  show CHr Z EL s.vm s.heap T.vm h
  exact hC.trans (CHv.at X hz w.el w.ch)
theorem Wk.ret0 {pc : Nat} {L : Array Slot} {k n : Nat} {Q : Option Value → Heap → Prop} (w : Wk p l e R s m args below meth c Z a0 EL S0 y B ml none V h cl sl (mkF m pc L [])) (hd : decode B pc = .ok (.return_, 1)) (hQ : Q none h) (hk : cl ≤ k) (hn : sl ≤ n) : Fini p e below s Z EL S0 k n Q :=
  w.fin (fun _ => rfl) (fun T locs fs X hr => X.returnOut w.1.1 w.1.2.2.2.1 (hb w.1.2.1 hd) hr) hQ hk hn
theorem Wk.retA {pc : Nat} {L : Array Slot} {st : List Value} {x : Value} {t : FieldType} {k n : Nat} {Q : Option Value → Heap → Prop} (w : Wk p l e R s m args below meth c Z a0 EL S0 y B ml (some t) V h cl sl (mkF m pc L (x :: st))) (hd : decode B pc = .ok (.areturn, 1)) (hQ : Q (some x) h) (hk : cl ≤ k) (hn : sl ≤ n) (ht : t.isReference = true := by rfl) (hx : x.isRef = true := by rfl) : Fini p e below s Z EL S0 k n Q :=
  w.fin (fun q => nomatch q) (fun T locs fs X hr => retOut X w.1.1 w.1.2.2.2.1 (by cases t <;> first | (cases ht; done) | (rcases ref_cases hx with rfl | ⟨z, rfl⟩ <;> rfl)) (Or.inr (Or.inr (Or.inr (Or.inr ⟨rfl, ht, hx⟩)))) (hb w.1.2.1 hd) hr) hQ hk hn
theorem Wk.retI {pc : Nat} {L : Array Slot} {st : List Value} {x : Int32} {k n : Nat} {Q : Option Value → Heap → Prop} (w : Wk p l e R s m args below meth c Z a0 EL S0 y B ml (some .int) V h cl sl (mkF m pc L (.int x :: st))) (hd : decode B pc = .ok (.ireturn, 1)) (hQ : Q (some (.int x)) h) (hk : cl ≤ k) (hn : sl ≤ n) : Fini p e below s Z EL S0 k n Q :=
  w.fin (fun q => nomatch q) (fun T locs fs X hr => retOut X w.1.1 w.1.2.2.2.1 rfl (Or.inl ⟨rfl, Or.inl rfl, _, rfl⟩) (hb w.1.2.1 hd) hr) hQ hk hn
theorem Wk.retN {pc : Nat} {L : Array Slot} {st : List Value} {x : Int32} {t : FieldType} {k n : Nat} {Q : Option Value → Heap → Prop} (w : Wk p l e R s m args below meth c Z a0 EL S0 y B ml (some t) V h cl sl (mkF m pc L (.int x :: st))) (hd : decode B pc = .ok (.ireturn, 1)) (ht : t = .boolean ∨ t = .byte ∨ t = .char ∨ t = .short) (hQ : Q (some (.int (nar t x))) h) (hk : cl ≤ k) (hn : sl ≤ n) : Fini p e below s Z EL S0 k n Q :=
  w.fin (fun q => nomatch q) (fun T locs fs X hr => RoadKit.retN X w.1.1 w.1.2.2.2.1 ht (hb w.1.2.1 hd) hr) hQ hk hn
theorem Fini.mono {k n : Nat} {Q Q' : Option Value → Heap → Prop} (F : Fini p e below s Z EL S0 k n Q) (hq : ∀ v h, Q v h → Q' v h) : Fini p e below s Z EL S0 k n Q' := by
  obtain ⟨s₂, o, h1, h2, h3, v, L, h4, h5, r⟩ := F
  exact ⟨s₂, o, h1, h2, h3, v, L, h4, hq _ _ h5, r⟩
end OwnWk
end Jvm.Pilot.@@N@@
namespace Jvm.Pilot.@@N@@
open Jvm Jvm.ClassFile Sem Op Lib Jvm.Free Jvm.Stand Jvm.LawKit Jvm.RoadKit Bundle
section OwnStr
variable {p : Program} {l : Launch} {e : Env} {R : Room} {s : State} {m : MethodId} {args : Array Value} {below : List Frame} {meth : Method} {c : Code} {Z : State} {a0 : Array Value} {EL : List (String × Nat)} {S0 : State} {y : MethodName} {B : ByteArray} {ml : Nat} {ret : Option FieldType} {V : Vm} {h h' : Heap} {cl sl : Nat} {g : JFrame}
theorem Pays.mono {y' : MethodName} {len W kc ks : Nat} {as' : Array Value} {Q Q' : Option Value → Heap → Prop} (K : Pays p l e R s args below Z EL V h y' len W kc ks as' Q) (hq : ∀ v h, Q v h → Q' v h) : Pays p l e R s args below Z EL V h y' len W kc ks as' Q' := by
  intro m meth c A g ig mk a X hg hsize hdg hW hn hp
  obtain ⟨v, D, X', h1, h2, ⟨L, q1, q2⟩, st⟩ := K m meth c A g ig mk a X hg hsize hdg hW hn hp
  exact ⟨v, D, X', h1, h2, ⟨L, hq _ _ q1, q2⟩, st⟩
/-- x is a String that spells cs, each sign 0 to 255 -/
def Str (Z : State) (h : Heap) (x : Addr) (cs : List Int32) : Prop :=
  (∀ c ∈ cs, ¬ c < 0 ∧ ¬ (255 : Int32) < c) ∧ ∃ (t : Addr) (kb : ClassId), Exa Z h x "java/lang/String" ∧ Fld Z h x "java/lang/String" "value" "[B" (.ref t) ∧ Fld Z h x "java/lang/String" "coder" "B" (.int 0) ∧ Arv Z h t kb .byte (Int32.ofNat cs.length) (cs.map fun c => Value.int c.toInt8.toInt32) (.int 0)
theorem Str.ext {x : Addr} {cs : List Int32} (E : Ext h h') (S : Str Z h x cs) : Str Z h' x cs := by
  obtain ⟨h1, t, kb, h2, h3, h4, h5⟩ := S; exact ⟨h1, t, kb, h2.ext E, h3.ext E, h4.ext E, h5.ext E⟩
theorem Str.exa {x : Addr} {cs : List Int32} (S : Str Z h x cs) : Exa Z h x "java/lang/String" := by obtain ⟨h1, t, kb, h2, h3, h4, h5⟩ := S; exact h2
theorem Str.lt {x : Addr} {cs : List Int32} (S : Str Z h x cs) : x < h.size := S.exa.lt
theorem up8 {cs : List Int32} (hp : ∀ c ∈ cs, ¬ c < 0 ∧ ¬ (255 : Int32) < c) : ∀ c ∈ cs, ¬ c < 0 ∧ ¬ (65535 : Int32) < c := fun c hc => ⟨(hp c hc).1, fun q => (hp c hc).2 (Int32.lt_trans (by decide) q)⟩
theorem and255 (x : Int32) : ¬ (x &&& 255) < 0 ∧ ¬ (255 : Int32) < (x &&& 255) := by
  have h := c_and x 255 (by decide)
  have e1 : (255 : Int32).toInt = 255 := by decide
  have e0 : (0 : Int32).toInt = 0 := by decide
  rw [Int32.lt_iff_toInt_lt, Int32.lt_iff_toInt_lt]; omega
theorem nar255 (x : Int32) : nar .char (x &&& 255) = x &&& 255 := i2c_mask x
theorem chars1 {a : Int32} (h : ¬ a < 0 ∧ ¬ (255 : Int32) < a) {cs : List Int32} (r : ∀ c ∈ cs, ¬ c < 0 ∧ ¬ (255 : Int32) < c) : ∀ c ∈ a :: cs, ¬ c < 0 ∧ ¬ (255 : Int32) < c := fun c hc => by
  rcases List.mem_cons.mp hc with rfl | hc
  · exact h
  · exact r c hc
theorem chars0 : ∀ c ∈ ([] : List Int32), ¬ c < 0 ∧ ¬ (255 : Int32) < c := fun _ q => nomatch q
/-- ldc of a String constant of EL: it spells cs -/
theorem Wk.ldcT {pc pc' : Nat} {L : Array Slot} {st : List Value} {index : Nat} {text : String} (cs : List Int32) (n : Nat) (w : Wk p l e R s m args below meth c Z a0 EL S0 y B ml ret V h cl sl (mkF m pc L st)) (wl : (Jvm.Cond.stringLink y.cls index text).before a0 Z = true) (wS : ∀ a ∈ Bundle.stringAtoms, a.before a0 Z = true) (hm : (y.cls, index) ∈ EL)
    (ht1 : ∀ c ∈ text.toList, c.toNat < 256) (ht2 : (text.toList.map fun c => Jvm.Lit.byteI c.toNat.toUInt16) = cs.map fun c => c.toInt8.toInt32) (hcs : ∀ c ∈ cs, ¬ c < 0 ∧ ¬ (255 : Int32) < c) (hz : ¬ Int32.ofNat cs.length < 0) (hl : (Int32.ofNat cs.length).toNatClampNeg = cs.length) (hd : decode B pc = .ok (.ldc index, 2)) (hn : 4 * text.toList.length ≤ n) (hbig : n ≤ 536870912) (hc : cl + 2 ≤ R.cells) (hl' : sl + (n + 4) ≤ R.slots) (hp : pc + 2 = pc' := by rfl) :
    ∃ (a : Addr) (V' : Vm) (h' : Heap), Ext h h' ∧ Str Z h' a cs ∧ (∀ x, Safe Z EL V' h' x → x ≠ a) ∧ CHr Z EL V h V' h' ∧
      Wk p l e R s m args below meth c Z a0 EL S0 y B ml ret V' h' (cl + 2) (sl + (n + 4)) (mkF m pc' L (.ref a :: st)) := by
  obtain ⟨a, V', h', b, k, E, q1, q2, q3, q4, q5, Q, w'⟩ := w.ldcS (vs := cs.map fun c => Value.int c.toInt8.toInt32) (z := Int32.ofNat cs.length) n wl wS hm ⟨ht1, by
    have := congrArg (List.map Value.int) ht2
    simpa [List.map_map, Function.comp_def] using this⟩ hz (by rw [hl]; simp) hd hn hbig hc hl' hp
  exact ⟨a, V', h', E, ⟨hcs, b, k, q1, q3, q2, q4⟩, fun x S => (q5 x S).1, Q, w'⟩
/-- clone() of an array -/
theorem Wk.clone {pc pc' : Nat} {L : Array Slot} {st : List Value} {index W cap : Nat} {ad : String} {a : Addr} {k : ClassId} {ty : FieldType} {z : Int32} {vs : List Value} {dv : Value} (w : Wk p l e R s m args below meth c Z a0 EL S0 y B ml ret V h cl sl (mkF m pc L (.ref a :: st)))
    (w1 : (Jvm.Cond.methodLink y.cls index ⟨ad, "clone", "()Ljava/lang/Object;"⟩).before a0 Z = true) (w2 : (Jvm.Cond.sameMethod ad "java/lang/Object" "clone" "()Ljava/lang/Object;").before a0 Z = true) (w3 : (Jvm.Cond.native ⟨"java/lang/Object", "clone", "()Ljava/lang/Object;"⟩).before a0 Z = true)
    (w4 : (Jvm.Cond.instanceMethod ⟨"java/lang/Object", "clone", "()Ljava/lang/Object;"⟩).before a0 Z = true) (w5 : (Jvm.Cond.selects ad ⟨ad, "clone", "()Ljava/lang/Object;"⟩ ⟨"java/lang/Object", "clone", "()Ljava/lang/Object;"⟩).before a0 Z = true) (w6 : (Jvm.Cond.castable ad "java/lang/Cloneable").before a0 Z = true)
    (F : Arv Z h a k ty z vs dv) (E : Exa Z h a ad) (hL : L.size = ml) (hd : decode B pc = .ok (.invokevirtual index, 3)) (hf : 1 ≤ R.frames) (hW : (st.map fun v => v.category).sum ≤ W) (hlo : W + 14 ≤ R.locals) (hcap : z.toNatClampNeg ≤ cap) (hc : cl + 1 ≤ R.cells) (hs : sl + cap ≤ R.slots) (hp : pc + 3 = pc' := by rfl) :
    ∃ (h' : Heap) (b : Addr), b = h.size ∧ Ext h h' ∧ Arv Z h' b k ty z vs dv ∧ Exa Z h' b ad ∧ CHr Z EL V h V h' ∧ Wk p l e R s m args below meth c Z a0 EL S0 y B ml ret V h' (cl + 1) (sl + cap) (mkF m pc' L (.ref b :: st)) := by
  subst hp
  obtain ⟨hf0, ⟨hz, hC, hO⟩, T, locs, k0, X, e0, h1, h2, h3, st0⟩ := id w
  obtain ⟨T', h', X', e', E', F', X2, st'⟩ := cloneH X hf0.1 hz w.own w1 w2 w3 w4 w5 w6 e0 (hs := []) F E (g := mkF m pc L (.ref a :: st)) rfl (hL.trans hf0.2.2.1.symm) rfl (hb hf0.2.1 hd) hf (W := W) (by show 2 * 0 + _ ≤ _; omega) hlo hcap hc hs
  have Q : CHr Z EL V h V h' := CHr.ext E' w.ch
  exact ⟨h', h.size, rfl, E', F', X2, Q, hf0, ⟨hz, hC.trans Q, extT hO E'⟩, T', locs, k0, X', e', h1, Nat.le_trans h2 E'.1, h3, fun t q => st0 t (st' t q)⟩
theorem eqv_r {Z : State} {args : Array Value} {X F : Term} {a : Addr} (hF : F.eval args Z none [] Z = some (.ref a)) (h : (Jvm.Cond.eq X F).value args Z none Z [] = some true) : X.eval args Z none [] Z = some (.ref a) := by
  obtain ⟨x, y, ex, ey, k1, k2⟩ := cmp_v (Or.inl h)
  cases hF.symm.trans ey
  have hx : x.isRef = true := k2.2
  have q := gotT (eq_R ex ey hx rfl) h
  rw [ex, q]
/-- an array of the start, by the words of the case -/
theorem own_arr0 {s : State} {args : Array Value} (hfit : Fit s) {t : Term} {b : Addr} {ty : FieldType} {n : Int32} (vs : List Value) (dv : Value) (ev : t.eval args s none [] s = some (.ref b)) (ha : (Jvm.Cond.arrayOf t ty).value args s none s [] = some true) (hl : (Jvm.Cond.eq (.length t) (.int n)).value args s none s [] = some true) (hn : ¬ n < 0) (hlen : n.toNatClampNeg = vs.length)
    (H : ∀ i v, vs[i]? = some v → (Term.elem t (.int (Int32.ofNat i))).eval args s none [] s = some v) : ∃ k, Arv s s.heap b k ty n vs dv := by
  obtain ⟨cl, A⟩ := Arr.start ev ha
  have e1 := eqv_i (Term.int_eval n) hl
  obtain ⟨b', cl', f1, f2, f3⟩ := Term.length_spec e1
  cases ev.symm.trans f1
  have f4 := (State.arrayAt?_spec f2).1
  cases A.1.symm.trans f4
  have q : cl.slots.size < 2 ^ 31 := SBG.length_lt ev f2 e1
  have hz : cl.slots.size.toInt32 = n := (Value.int.inj f3).symm
  refine ⟨cl.cls, Arv.start hfit A q hz hn hlen ?_⟩
  have key : ∀ (us : List Value) (i : Nat), (∀ j v, us[j]? = some v → vs[i + j]? = some v) → i + us.length ≤ vs.length → HasL cl i us := by
    intro us
    induction us with
    | nil => intro i _ _; trivial
    | cons u us ih =>
      intro i hi hle
      have hle' : i + (us.length + 1) ≤ vs.length := hle
      refine ⟨?_, ih (i + 1) (fun j v hv => by have := hi (j + 1) v (by simpa using hv); rwa [show i + (j + 1) = i + 1 + j by omega] at this) (by omega)⟩
      have hu := hi 0 u rfl
      have hE := H i u (by simpa using hu)
      have hi31 : i < 2 ^ 31 := by have := back32 hn; omega
      obtain ⟨-, g2⟩ := elem_in hE ev (Term.int_eval _) A.1
      have e3 : (Int32.ofNat i).toNatClampNeg = i := by
        have h0 : ¬ Int32.ofNat i < 0 := Int32.ofNat_not_neg hi31
        have h1 := nat_of h0
        have h2 : (Int32.ofNat i).toInt = i := Int32.toInt_ofNat_small hi31
        omega
      rw [e3] at g2; exact g2
  exact key vs 0 (fun j v hv => by simpa using hv) (by simp)
/-- a String of the start, by the words of the case -/
theorem own_str0 {s : State} {args : Array Value} (hfit : Fit s) {t : Term} {a : Addr} {n : Int32} (cs : List Int32) (ev : t.eval args s none [] s = some (.ref a)) (hx : (Jvm.Cond.exactly t "java/lang/String").value args s none s [] = some true) (hc : (Jvm.Cond.eq (.field t "java/lang/String" "coder" "B") (.int 0)).value args s none s [] = some true)
    (ha : (Jvm.Cond.arrayOf (.field t "java/lang/String" "value" "[B") .byte).value args s none s [] = some true) (hl : (Jvm.Cond.eq (.length (.field t "java/lang/String" "value" "[B")) (.int n)).value args s none s [] = some true) (hn : n = Int32.ofNat cs.length) (h0 : ¬ Int32.ofNat cs.length < 0) (h1 : (Int32.ofNat cs.length).toNatClampNeg = cs.length) (hcs : ∀ c ∈ cs, ¬ c < 0 ∧ ¬ (255 : Int32) < c)
    (H : ∀ i c, cs[i]? = some c → (Jvm.Cond.eq (.elem (.field t "java/lang/String" "value" "[B") (.int (Int32.ofNat i))) (.int c.toInt8.toInt32)).value args s none s [] = some true) : Str s s.heap a cs := by
  subst hn
  obtain ⟨b, eb⟩ := arr_v ha
  obtain ⟨k, A⟩ := own_arr0 hfit (cs.map fun c => Value.int c.toInt8.toInt32) (.int 0) eb ha hl h0 (by rw [h1]; simp) (fun i v hv => by
    rw [List.getElem?_map] at hv
    cases hq : cs[i]? with
    | none => rw [hq] at hv; cases hv
    | some c => rw [hq] at hv; cases hv; exact eqv_i (Term.int_eval _) (H i c hq))
  have ec := eqv_i (Term.int_eval 0) hc
  exact ⟨hcs, b, k, Exa.start ev hx, Fld.start (by rw [fld_at ev] at eb; exact eb), Fld.start (by rw [fld_at ev] at ec; exact ec), A⟩
/-- new String(char[]) of one to 4,000 signs -/
theorem Wk.payNew {len W kI : Nat} {x b : Addr} {kC : ClassId} {cs : List Int32} {N z : Int32} {dv v0 c0 : Value} (w : Wk p l e R s m args below meth c Z a0 EL S0 y B ml ret V h cl sl g) (hw : ∀ d ∈ StrChars.Road.words, d.before a0 Z = true) (wi : (Jvm.Cond.instantiable "java/lang/String" kI).before a0 Z = true)
    (E : Exa Z h x "java/lang/String") (Fv : Fld Z h x "java/lang/String" "value" "[B" v0) (Fc : Fld Z h x "java/lang/String" "coder" "B" c0) (K : Arv Z h b kC .char N (cs.map Value.int) dv) (S : Sta Z Z.heap "java/lang/String" "COMPACT_STRINGS" "Z" (.int z)) (hz : ¬ z = 0)
    (hN : N = Int32.ofNat cs.length) (l0 : 0 < cs.length) (l2 : cs.length ≤ 4000) (hp : ∀ c ∈ cs, ¬ c < 0 ∧ ¬ (255 : Int32) < c) (Sf : Safe Z EL V h x) (ge : Z.heap.size ≤ x) (hfr : 4 ≤ R.frames) (hlo : W + 65 ≤ R.locals) :
    Pays p l e R s args below Z EL V h (⟨"java/lang/String", "<init>", "([C)V"⟩ : MethodName) len W 1 cs.length #[.ref x, .ref b] (fun v h' => v = none ∧ Keep h h' [x] ∧ Str Z h' x cs) := by
  have K0 := StrChars.Road.backV (R := R) (p := p) (l := l) (e := e) (below := below) (args := args) (len := len) (W := W) (s := s.setVm V) w.hZ hw wi (n0 := Z.heap.size) ge w.zsz E Fv Fc K (S.ext w.old) hz rfl hN l0 l2 hp rfl hfr hlo
  refine Pays.mono (w.paysB [x] K0 (fun v h' L q => ⟨q.2.2.1, q.2.1⟩) (allS ⟨Sf, ge⟩ all0)) ?_
  rintro v h' ⟨L, q1, q2, q3, q4, q5, t, kb, q6, q7, q8, q9, q10⟩
  refine ⟨q1, q3, hp, t, kb, q4, q9, q5, ?_⟩
  rw [List.map_map] at q10
  rw [← hN]; exact q10
end OwnStr
end Jvm.Pilot.@@N@@
namespace Jvm.Pilot.@@N@@
open Jvm Jvm.ClassFile Sem Op Lib Jvm.Free Jvm.Stand Jvm.LawKit Jvm.RoadKit Bundle Jvm.Pilot.@@N@@.Jvm.D
theorem pd_0 : parseMethodDescriptor "([CIILjava/lang/Void;)V" = some ⟨[(.array .char), .int, .int, (.object "java/lang/Void")], none⟩ := by decide +kernel
theorem pd_1 : parseMethodDescriptor "(I)I" = some ⟨[.int], some .int⟩ := by decide +kernel
theorem pd_2 : parseMethodDescriptor "(I)[B" = some ⟨[.int], some (.array .byte)⟩ := by decide +kernel
theorem pd_3 : parseMethodDescriptor "([BII)V" = some ⟨[(.array .byte), .int, .int], none⟩ := by decide +kernel
theorem pd_4 : parseMethodDescriptor "([CI[BII)I" = some ⟨[(.array .char), .int, (.array .byte), .int, .int], some .int⟩ := by decide +kernel
theorem pd_5 : parseMethodDescriptor "([CII)[B" = some ⟨[(.array .char), .int, .int], some (.array .byte)⟩ := by decide +kernel
theorem pd_6 : parseMethodDescriptor "([BI)C" = some ⟨[(.array .byte), .int], some .char⟩ := by decide +kernel
theorem pd_7 : parseMethodDescriptor "([BI)B" = some ⟨[(.array .byte), .int], some .byte⟩ := by decide +kernel
theorem pd_8 : parseMethodDescriptor "(C)Z" = some ⟨[.char], some .boolean⟩ := by decide +kernel
theorem pd_9 : parseMethodDescriptor "(C)[B" = some ⟨[.char], some (.array .byte)⟩ := by decide +kernel
theorem pd_10 : parseMethodDescriptor "([BB)V" = some ⟨[(.array .byte), .byte], none⟩ := by decide +kernel
theorem pd_11 : parseMethodDescriptor "()B" = some ⟨[], some .byte⟩ := by decide +kernel
theorem pd_12 : parseMethodDescriptor "(IILjava/util/function/BiFunction;)I" = some ⟨[.int, .int, (.object "java/util/function/BiFunction")], some .int⟩ := by decide +kernel
theorem pd_13 : parseMethodDescriptor "()Z" = some ⟨[], some .boolean⟩ := by decide +kernel
theorem pd_14 : parseMethodDescriptor "(II)V" = some ⟨[.int, .int], none⟩ := by decide +kernel
theorem pd_15 : parseMethodDescriptor "(CC)I" = some ⟨[.char, .char], some .int⟩ := by decide +kernel
theorem pd_16 : parseMethodDescriptor "([BIIZ)I" = some ⟨[(.array .byte), .int, .int, .boolean], some .int⟩ := by decide +kernel
theorem pd_17 : parseMethodDescriptor "([BII)I" = some ⟨[(.array .byte), .int, .int], some .int⟩ := by decide +kernel
theorem pd_18 : parseMethodDescriptor "()I" = some ⟨[], some .int⟩ := by decide +kernel
theorem pd_19 : parseMethodDescriptor "([C)V" = some ⟨[(.array .char)], none⟩ := by decide +kernel
theorem pd_20 : parseMethodDescriptor "(Ljava/lang/String;)V" = some ⟨[(.object "java/lang/String")], none⟩ := by decide +kernel
theorem pd_21 : parseMethodDescriptor "(I)C" = some ⟨[.int], some .char⟩ := by decide +kernel
theorem pd_22 : parseMethodDescriptor "(C)Ljava/lang/String;" = some ⟨[.char], some (.object "java/lang/String")⟩ := by decide +kernel
theorem own_hstr {Z : State} {a0 : Array Value} (hw : ∀ d ∈ tables_1, d.before a0 Z = true) : ∀ a ∈ Bundle.stringAtoms, a.before a0 Z = true := fun d hd => hw d ((by decide +kernel : ∀ d ∈ Bundle.stringAtoms, d ∈ tables_1) d hd)
theorem own_words {Z : State} {a0 : Array Value} (hw : ∀ d ∈ tables_1, d.before a0 Z = true) : ∀ d ∈ StrChars.Road.words, d.before a0 Z = true := fun d hd => hw d ((by decide +kernel : ∀ d ∈ StrChars.Road.words, d ∈ tables_1) d hd)
theorem own_n32 {n : Nat} (h : n ≤ 5000) : ¬ Int32.ofNat n < 0 ∧ (Int32.ofNat n).toNatClampNeg = n ∧ (Int32.ofNat n).toInt = n := by
  have h31 : n < 2 ^ 31 := by omega
  have h0 : ¬ Int32.ofNat n < 0 := Int32.ofNat_not_neg h31
  have h2 : (Int32.ofNat n).toInt = n := Int32.toInt_ofNat_small h31
  have h1 := nat_of h0
  exact ⟨h0, by omega, h2⟩
theorem own_add32 {a b : Nat} (h : a + b ≤ 5000) : Int32.ofNat a + Int32.ofNat b = Int32.ofNat (a + b) := by
  have e1 := (own_n32 (n := a) (by omega)).2.2
  have e2 := (own_n32 (n := b) (by omega)).2.2
  have e3 := (own_n32 h).2.2
  refine Int32.toInt_inj.mp ?_
  have := c_iadd (Int32.ofNat a) (Int32.ofNat b)
  have := rng32 (Int32.ofNat a + Int32.ofNat b)
  omega
theorem own_sub32 {a b : Nat} (h : a ≤ 5000) (hb : b ≤ a) : Int32.ofNat a - Int32.ofNat b = Int32.ofNat (a - b) := by
  have e1 := (own_n32 (n := a) (by omega)).2.2
  have e2 := (own_n32 (n := b) (by omega)).2.2
  have e3 := (own_n32 (n := a - b) (by omega)).2.2
  refine Int32.toInt_inj.mp ?_
  have := c_isub (Int32.ofNat a) (Int32.ofNat b)
  have := rng32 (Int32.ofNat a - Int32.ofNat b)
  omega
theorem own_lt32 {a b : Nat} (ha : a ≤ 5000) (hb : b ≤ 5000) : Int32.ofNat a < Int32.ofNat b ↔ a < b := by
  have e1 := (own_n32 (n := a) ha).2.2
  have e2 := (own_n32 (n := b) hb).2.2
  rw [Int32.lt_iff_toInt_lt]; omega
theorem own_eq32 {a b : Nat} (ha : a ≤ 5000) (hb : b ≤ 5000) : Int32.ofNat a = Int32.ofNat b ↔ a = b := by
  have e1 := (own_n32 (n := a) ha).2.2
  have e2 := (own_n32 (n := b) hb).2.2
  rw [← Int32.toInt_inj]; omega
/-- an array of bytes whose length no booked constant has may be written -/
theorem own_safe {Z : State} {a0 : Array Value} {EL : List (String × Nat)} {V : Vm} {h : Heap} {t : Addr} {kb : ClassId} {n : Int32} {vs : List Value} {dv : Value} (hZ : Z.Warmed39 V) (F : Arv Z h t kb .byte n vs dv)
    (hw : ∀ p ∈ EL, ∃ text : String, (Jvm.Cond.stringLink p.1 p.2 text).before a0 Z = true ∧ (∀ c ∈ text.toList, c.toNat < 256) ∧ text.toList.length ≠ n.toNatClampNeg) : Safe Z EL V h t := fun B => by
  obtain ⟨cA, ⟨A1, ⟨-, kA, hkA, compA, hkindA⟩, -⟩, -, A3, -⟩ := F
  obtain ⟨p, hp, u, a, hb, q, hq, Fq, hy⟩ := B
  obtain ⟨kA', hkA', ekA⟩ := hZ.alike.2.2 _ _ hkA
  rcases hy with rfl | rfl
  · cases (show h[q.sa]? = some q.sC from Fq.ha).symm.trans A1
    obtain ⟨cS, ⟨-, -, e⟩, ⟨kS, g1, g2, -⟩, -⟩ := Fq
    subst e
    cases (show V.classes[q.sC.cls]? = some kS from g1).symm.trans hkA'
    rw [ekA] at g2
    exact nomatch hkindA.symm.trans g2
  · cases (show h[q.sd]? = some q.SA from Fq.hd).symm.trans A1
    obtain ⟨text, wl, ht, hne⟩ := hw p hp
    obtain ⟨c, k, cf, i, hc, hk, hcf, hpool, hu, -⟩ := hb
    have wl' : (Jvm.Cond.stringLink p.1 p.2 text).before a0 (Wst Z V h) = true := mvS (s := { Z with heap := h }) hZ wl
    obtain ⟨k0, cf0, i0, u0, hk0, hcf0, hp0, hu0, -, htext, -⟩ := Cond.stringLink_spec (s := Wst Z V h) hc wl'
    cases (show V.classes[c]? = some k from hk).symm.trans hk0
    cases hcf.symm.trans hcf0
    cases hpool.symm.trans hp0
    cases hu.symm.trans hu0
    have hlat := Jvm.ClassFile.lat_of_text htext ht
    obtain ⟨-, -, -, -, hbyt⟩ := Fq
    have e1 : q.SA.slots.size = u.size := by rw [hbyt, SBG.stringBytes_lat hlat, Array.size_map]
    have e2 := congrArg List.length (Jvm.ClassFile.units_of_text htext ht)
    simp at e2
    exact hne (by rw [← A3, e1, e2])
theorem own_shl0 (x : Int32) : x <<< ((0 : Int32) &&& 31) = x := by
  rw [show ((0 : Int32) &&& 31) = 0 from by decide]
  exact Int32.shiftLeft_zero
theorem own_shr0 (x : Int32) : x >>> ((0 : Int32) &&& 31) = x := by
  rw [show ((0 : Int32) &&& 31) = 0 from by decide]
  exact Int32.shiftRight_zero
theorem own_sub0 (x : Int32) : x - 0 = x := Int32.sub_zero x
theorem own_min16 {n : Nat} (h : n ≤ 16) : ¬ (16 : Int32) < Int32.ofNat n := fun q => by
  have := (own_lt32 (a := 16) (b := n) (by omega) (by omega)).mp q
  omega
theorem d4_0 : decode jdk_42_method_3_code 0 = .ok (.aload_n 0, 1) := by decide +kernel
theorem d4_1 : decode jdk_42_method_3_code 1 = .ok (.aload_n 1, 1) := by decide +kernel
theorem d4_2 : decode jdk_42_method_3_code 2 = .ok (.iconst 0, 1) := by decide +kernel
theorem d4_3 : decode jdk_42_method_3_code 3 = .ok (.aload_n 1, 1) := by decide +kernel
theorem d4_4 : decode jdk_42_method_3_code 4 = .ok (.arraylength, 1) := by decide +kernel
theorem d4_5 : decode jdk_42_method_3_code 5 = .ok (.aconst_null, 1) := by decide +kernel
theorem d4_6 : decode jdk_42_method_3_code 6 = .ok (.invokespecial 27, 3) := by decide +kernel
theorem d4_9 : decode jdk_42_method_3_code 9 = .ok (.return_, 1) := by decide +kernel
theorem d5_0 : decode jdk_42_method_149_code 0 = .ok (.aload_n 0, 1) := by decide +kernel
theorem d5_1 : decode jdk_42_method_149_code 1 = .ok (.invokespecial 1, 3) := by decide +kernel
theorem d5_4 : decode jdk_42_method_149_code 4 = .ok (.iload_n 3, 1) := by decide +kernel
theorem d5_5 : decode jdk_42_method_149_code 5 = .ok (.ifCond .ne 22, 3) := by decide +kernel
theorem d5_8 : decode jdk_42_method_149_code 8 = .ok (.aload_n 0, 1) := by decide +kernel
theorem d5_9 : decode jdk_42_method_149_code 9 = .ok (.ldc 7, 2) := by decide +kernel
theorem d5_11 : decode jdk_42_method_149_code 11 = .ok (.getfield 9, 3) := by decide +kernel
theorem d5_14 : decode jdk_42_method_149_code 14 = .ok (.putfield 9, 3) := by decide +kernel
theorem d5_17 : decode jdk_42_method_149_code 17 = .ok (.aload_n 0, 1) := by decide +kernel
theorem d5_18 : decode jdk_42_method_149_code 18 = .ok (.ldc 7, 2) := by decide +kernel
theorem d5_20 : decode jdk_42_method_149_code 20 = .ok (.getfield 15, 3) := by decide +kernel
theorem d5_23 : decode jdk_42_method_149_code 23 = .ok (.putfield 15, 3) := by decide +kernel
theorem d5_26 : decode jdk_42_method_149_code 26 = .ok (.return_, 1) := by decide +kernel
theorem d5_27 : decode jdk_42_method_149_code 27 = .ok (.getstatic 38, 3) := by decide +kernel
theorem d5_30 : decode jdk_42_method_149_code 30 = .ok (.ifCond .eq 28, 3) := by decide +kernel
theorem d5_33 : decode jdk_42_method_149_code 33 = .ok (.aload_n 1, 1) := by decide +kernel
theorem d5_34 : decode jdk_42_method_149_code 34 = .ok (.iload_n 2, 1) := by decide +kernel
theorem d5_35 : decode jdk_42_method_149_code 35 = .ok (.iload_n 3, 1) := by decide +kernel
theorem d5_36 : decode jdk_42_method_149_code 36 = .ok (.invokestatic 177, 3) := by decide +kernel
theorem d5_39 : decode jdk_42_method_149_code 39 = .ok (.astore 5, 2) := by decide +kernel
theorem d5_41 : decode jdk_42_method_149_code 41 = .ok (.aload_n 0, 1) := by decide +kernel
theorem d5_42 : decode jdk_42_method_149_code 42 = .ok (.aload 5, 2) := by decide +kernel
theorem d5_44 : decode jdk_42_method_149_code 44 = .ok (.iload_n 3, 1) := by decide +kernel
theorem d5_45 : decode jdk_42_method_149_code 45 = .ok (.invokestatic 47, 3) := by decide +kernel
theorem d5_48 : decode jdk_42_method_149_code 48 = .ok (.putfield 15, 3) := by decide +kernel
theorem d5_51 : decode jdk_42_method_149_code 51 = .ok (.aload_n 0, 1) := by decide +kernel
theorem d5_52 : decode jdk_42_method_149_code 52 = .ok (.aload 5, 2) := by decide +kernel
theorem d5_54 : decode jdk_42_method_149_code 54 = .ok (.putfield 9, 3) := by decide +kernel
theorem d5_57 : decode jdk_42_method_149_code 57 = .ok (.return_, 1) := by decide +kernel
theorem d5_58 : decode jdk_42_method_149_code 58 = .ok (.aload_n 0, 1) := by decide +kernel
theorem d5_59 : decode jdk_42_method_149_code 59 = .ok (.iconst 1, 1) := by decide +kernel
theorem d5_60 : decode jdk_42_method_149_code 60 = .ok (.putfield 15, 3) := by decide +kernel
theorem d5_63 : decode jdk_42_method_149_code 63 = .ok (.aload_n 0, 1) := by decide +kernel
theorem d5_64 : decode jdk_42_method_149_code 64 = .ok (.aload_n 1, 1) := by decide +kernel
theorem d5_65 : decode jdk_42_method_149_code 65 = .ok (.iload_n 2, 1) := by decide +kernel
theorem d5_66 : decode jdk_42_method_149_code 66 = .ok (.iload_n 3, 1) := by decide +kernel
theorem d5_67 : decode jdk_42_method_149_code 67 = .ok (.invokestatic 180, 3) := by decide +kernel
theorem d5_70 : decode jdk_42_method_149_code 70 = .ok (.putfield 9, 3) := by decide +kernel
theorem d5_73 : decode jdk_42_method_149_code 73 = .ok (.return_, 1) := by decide +kernel
/-! new String of no signs: the two constructors, and the constant "" -/
set_option maxRecDepth 65536 in
theorem rmI4 (l : Launch) (Z : State) (a0 : Array Value) (hw : ∀ d ∈ tables_1, d.before a0 Z = true) (hEL : EW Z a0 consts_1) (x b : Addr) (h0 : Heap) (hx : Ext Z.heap h0) (X : Exa Z h0 x "java/lang/String") (Fv : Fld Z h0 x "java/lang/String" "value" "[B" .null) (Fc : Fld Z h0 x "java/lang/String" "coder" "B" (.int 0)) (ge_x_Z : Z.heap.size ≤ x) :
    Met l Z consts_1 (⟨"java/lang/String", "<init>", "([CIILjava/lang/Void;)V"⟩ : MethodName) jdk_42_method_149_code 6 none [] ({ frames := 1, cells := 4, slots := 8, locals := 12 } : Room) #[.ref x, .ref b, .int 0, .int 0, .null] h0 [x] (fun v h => v = none ∧ Keep h0 h [x] ∧ Str Z h x []) := by
  refine Met.of (a0 := a0) (by decide +kernel) hEL hx ?_
  intro p e s m below meth c S0 V w hs hsf
  have hstr := own_hstr hw
  have Sx := hsf x (List.mem_cons_self ..)
  replace w := w.to (g' := mkF m 0 #[.val (.ref x), .val (.ref b), .val (.int (0 : Int32)), .val (.int (0 : Int32)), .val .null, .unset] []) (by first | (simp [entryFrame, mkF, argsToLocals, Value.category]; done) | rfl)
  have B0 := extR h0
  have C0 := CHr.refl w.ch
  replace w := w.aloadN (pc' := 1) d5_0 rfl
  replace w := w.initO 0 (hw _ (List.mem_of_getElem? (i := 25) rfl)) (hw _ (List.mem_of_getElem? (i := 26) rfl)) (hw _ (List.mem_of_getElem? (i := 27) rfl)) rfl d5_1 (by decide) (Nat.le_of_eq rfl) (by decide) (pc' := 4)
  replace w := w.iloadN (pc' := 5) d5_4 rfl
  replace w := w.ifNo (pc' := 8) d5_5 (by decide)
  replace w := w.aloadN (pc' := 9) d5_8 rfl
  obtain ⟨q, V1, h1, b_q, k_q, E1, X_q, Fc_q, Fv_q, V_q, N_q, A1, w⟩ := w.ldcS (vs := []) (z := 0) 0 (text := "") (hw _ (List.mem_of_getElem? (i := 28) rfl)) hstr (by decide) ⟨by decide, by decide⟩ (by decide) (by decide) d5_9 (by decide) (by decide) (by decide) (by decide) (pc' := 11)
  have B0 := extT B0 E1
  have C0 := C0.trans A1
  replace w := w.getF (hw _ (List.mem_of_getElem? (i := 34) rfl)) Fv_q d5_11 (pc' := 14)
  have Sx1 := A1.safe X.lt Sx
  obtain ⟨h2, W2, K2, Fw2, A2, w⟩ := w.putF (ty := (.array .byte)) (hw _ (List.mem_of_getElem? (i := 34) rfl)) (Fv.ext E1) (X.ext E1) (Or.inr ⟨(hw _ (List.mem_of_getElem? (i := 30) rfl)), rfl, rfl⟩) (hw _ (List.mem_of_getElem? (i := 16) rfl)) (by decide) rfl rfl (Sx1) (ge_x_Z) d5_14 (pc' := 17)
  have K01 : Keep h0 h2 [x] := (keepE E1 [x]).trans K2 (allS (Or.inl (List.mem_cons_self ..)) all0)
  have X2 := X.keep K01
  have Sx2 := A2.safe (X.ext E1).lt Sx1
  have Fc2 := (Fc.ext E1).other W2 (Or.inr (slot_ne (C := "java/lang/String") (Or.inr (hw _ (List.mem_of_getElem? (i := 31) rfl))) (Or.inr (hw _ (List.mem_of_getElem? (i := 30) rfl))) (by decide) (t := .byte) (t' := .array .byte) (by decide) (by decide)))
  have nb := (N_q x Sx1).2
  have Vb2 := V_q.other W2 (fun z => nb z.symm)
  replace w := w.aloadN (pc' := 18) d5_17 rfl
  obtain ⟨r, V3, h3, b_r, k_r, E3, X_r, Fc_r, Fv_r, V_r, N_r, A3, w⟩ := w.ldcS (vs := []) (z := 0) 0 (text := "") (hw _ (List.mem_of_getElem? (i := 28) rfl)) hstr (by decide) ⟨by decide, by decide⟩ (by decide) (by decide) d5_18 (by decide) (by decide) (by decide) (by decide) (pc' := 20)
  replace w := w.getF (hw _ (List.mem_of_getElem? (i := 35) rfl)) Fc_r d5_20 (pc' := 23)
  have Sx3 := A3.safe X2.lt Sx2
  obtain ⟨h4, W4, K4, Fw4, A4, w⟩ := w.putFN (v' := (.int (0 : Int32))) (ty := .byte) (hw _ (List.mem_of_getElem? (i := 35) rfl)) (Fc2.ext E3) (X2.ext E3) (Or.inr ⟨(hw _ (List.mem_of_getElem? (i := 31) rfl)), rfl, rfl⟩) (hw _ (List.mem_of_getElem? (i := 16) rfl)) (by decide) (rfl) (by decide) (Sx3) (ge_x_Z) d5_23 (pc' := 26)
  have K03 : Keep h0 h4 [x] := (K01.ext E3).trans K4 (allS (Or.inl (List.mem_cons_self ..)) all0)
  exact w.ret0 d5_26 ⟨rfl, K03, chars0, b_q, k_q, X.keep K03, (Fw2.ext E3).other W4 (Or.inr (slot_ne (C := "java/lang/String") (Or.inr (hw _ (List.mem_of_getElem? (i := 30) rfl))) (Or.inr (hw _ (List.mem_of_getElem? (i := 31) rfl))) (by decide) (t := .array .byte) (t' := .byte) (by decide) (by decide))), Fw4, (Vb2.ext E3).other W4 (fun z => nb z.symm)⟩ nle nle
set_option maxRecDepth 65536 in
theorem rmI1 (l : Launch) (Z : State) (a0 : Array Value) (hw : ∀ d ∈ tables_1, d.before a0 Z = true) (hEL : EW Z a0 consts_1) (x b : Addr) (kC : ClassId) (dv : Value) (h0 : Heap) (hx : Ext Z.heap h0) (X : Exa Z h0 x "java/lang/String") (Fv : Fld Z h0 x "java/lang/String" "value" "[B" .null) (Fc : Fld Z h0 x "java/lang/String" "coder" "B" (.int 0)) (ge_x_Z : Z.heap.size ≤ x) (A : Arv Z h0 b kC .char 0 [] dv) :
    Met l Z consts_1 (⟨"java/lang/String", "<init>", "([C)V"⟩ : MethodName) jdk_42_method_3_code 2 none [] ({ frames := 2, cells := 4, slots := 8, locals := 29 } : Room) #[.ref x, .ref b] h0 [x] (fun v h => v = none ∧ Keep h0 h [x] ∧ Str Z h x []) := by
  refine Met.of (a0 := a0) (by decide +kernel) hEL hx ?_
  intro p e s m below meth c S0 V w hs hsf
  have Sx := hsf x (List.mem_cons_self ..)
  replace w := w.to (g' := mkF m 0 #[.val (.ref x), .val (.ref b)] []) (by first | (simp [entryFrame, mkF, argsToLocals, Value.category]; done) | rfl)
  replace w := w.aloadN (pc' := 1) d4_0 rfl
  replace w := w.aloadN (pc' := 2) d4_1 rfl
  replace w := w.iconst (pc' := 3) (0 : Int32) d4_2
  replace w := w.aloadN (pc' := 4) d4_3 rfl
  replace w := w.arrlen A d4_4 (pc' := 5)
  replace w := w.aconstNull (pc' := 6) d4_5
  obtain ⟨v1, V1, h1, hq1, A1, w⟩ := w.ctor (y' := (⟨"java/lang/String", "<init>", "([CIILjava/lang/Void;)V"⟩ : MethodName)) (W := 0) (a := x) (w.pays 0 (rmI4 l Z a0 hw hEL x b h0 w.old X Fv Fc ge_x_Z) (hw _ (List.mem_of_getElem? (i := 24) rfl)) (hw _ (List.mem_of_getElem? (i := 17) rfl)) (allS Sx all0) nle nle) rfl (hw _ (List.mem_of_getElem? (i := 21) rfl)) (hw _ (List.mem_of_getElem? (i := 22) rfl)) (hw _ (List.mem_of_getElem? (i := 24) rfl)) (argsL := [(.ref b), (.int (0 : Int32)), (.int (0 : Int32)), .null]) (rest := []) (by decide) pd_0 rfl rfl (Nat.le_of_eq rfl) rfl d4_6 nle nle (pc' := 9)
  obtain ⟨rfl, K1, T1⟩ := hq1
  replace w := w.to (g' := mkF m 9 #[.val (.ref x), .val (.ref b)] []) rfl
  exact w.ret0 d4_9 ⟨rfl, K1, T1⟩ nle nle
theorem d1_0 : decode method_3_code 0 = .ok (.ldc 8, 2) := by decide +kernel
theorem d1_2 : decode method_3_code 2 = .ok (.iload_n 0, 1) := by decide +kernel
theorem d1_3 : decode method_3_code 3 = .ok (.bipush 16, 2) := by decide +kernel
theorem d1_5 : decode method_3_code 5 = .ok (.iushr, 1) := by decide +kernel
theorem d1_6 : decode method_3_code 6 = .ok (.sipush 1023, 3) := by decide +kernel
theorem d1_9 : decode method_3_code 9 = .ok (.iand, 1) := by decide +kernel
theorem d1_10 : decode method_3_code 10 = .ok (.ior, 1) := by decide +kernel
theorem d1_11 : decode method_3_code 11 = .ok (.i2c, 1) := by decide +kernel
theorem d1_12 : decode method_3_code 12 = .ok (.ireturn, 1) := by decide +kernel
theorem d2_0 : decode method_4_code 0 = .ok (.ldc 11, 2) := by decide +kernel
theorem d2_2 : decode method_4_code 2 = .ok (.iload_n 0, 1) := by decide +kernel
theorem d2_3 : decode method_4_code 3 = .ok (.sipush 1023, 3) := by decide +kernel
theorem d2_6 : decode method_4_code 6 = .ok (.iand, 1) := by decide +kernel
theorem d2_7 : decode method_4_code 7 = .ok (.ior, 1) := by decide +kernel
theorem d2_8 : decode method_4_code 8 = .ok (.i2c, 1) := by decide +kernel
theorem d2_9 : decode method_4_code 9 = .ok (.ireturn, 1) := by decide +kernel
theorem d3_0 : decode method_2_code 0 = .ok (.iload_n 0, 1) := by decide +kernel
theorem d3_1 : decode method_2_code 1 = .ok (.ldc 7, 2) := by decide +kernel
theorem d3_3 : decode method_2_code 3 = .ok (.iand, 1) := by decide +kernel
theorem d3_4 : decode method_2_code 4 = .ok (.istore_n 1, 1) := by decide +kernel
theorem d3_5 : decode method_2_code 5 = .ok (.iload_n 1, 1) := by decide +kernel
theorem d3_6 : decode method_2_code 6 = .ok (.ldc 8, 2) := by decide +kernel
theorem d3_8 : decode method_2_code 8 = .ok (.if_icmp .lt 14, 3) := by decide +kernel
theorem d3_11 : decode method_2_code 11 = .ok (.iload_n 1, 1) := by decide +kernel
theorem d3_12 : decode method_2_code 12 = .ok (.ldc 9, 2) := by decide +kernel
theorem d3_14 : decode method_2_code 14 = .ok (.if_icmp .gt 8, 3) := by decide +kernel
theorem d3_17 : decode method_2_code 17 = .ok (.iload_n 1, 1) := by decide +kernel
theorem d3_18 : decode method_2_code 18 = .ok (.ldc 10, 2) := by decide +kernel
theorem d3_20 : decode method_2_code 20 = .ok (.ixor, 1) := by decide +kernel
theorem d3_21 : decode method_2_code 21 = .ok (.istore_n 1, 1) := by decide +kernel
theorem d3_22 : decode method_2_code 22 = .ok (.iload_n 1, 1) := by decide +kernel
theorem d3_23 : decode method_2_code 23 = .ok (.i2c, 1) := by decide +kernel
theorem d3_24 : decode method_2_code 24 = .ok (.ireturn, 1) := by decide +kernel
theorem d7_0 : decode prog_3_method_4_code 0 = .ok (.iconst 1, 1) := by decide +kernel
theorem d7_1 : decode prog_3_method_4_code 1 = .ok (.istore_n 1, 1) := by decide +kernel
theorem d7_2 : decode prog_3_method_4_code 2 = .ok (.iconst 0, 1) := by decide +kernel
theorem d7_3 : decode prog_3_method_4_code 3 = .ok (.istore_n 2, 1) := by decide +kernel
theorem d7_4 : decode prog_3_method_4_code 4 = .ok (.iload_n 2, 1) := by decide +kernel
theorem d7_5 : decode prog_3_method_4_code 5 = .ok (.aload_n 0, 1) := by decide +kernel
theorem d7_6 : decode prog_3_method_4_code 6 = .ok (.invokevirtual 9, 3) := by decide +kernel
theorem d7_9 : decode prog_3_method_4_code 9 = .ok (.if_icmp .ge 60, 3) := by decide +kernel
theorem d7_12 : decode prog_3_method_4_code 12 = .ok (.aload_n 0, 1) := by decide +kernel
theorem d7_13 : decode prog_3_method_4_code 13 = .ok (.iload_n 2, 1) := by decide +kernel
theorem d7_14 : decode prog_3_method_4_code 14 = .ok (.invokevirtual 64, 3) := by decide +kernel
theorem d7_17 : decode prog_3_method_4_code 17 = .ok (.istore_n 3, 1) := by decide +kernel
theorem d7_18 : decode prog_3_method_4_code 18 = .ok (.iload_n 3, 1) := by decide +kernel
theorem d7_19 : decode prog_3_method_4_code 19 = .ok (.ldc 68, 2) := by decide +kernel
theorem d7_21 : decode prog_3_method_4_code 21 = .ok (.if_icmp .lt 13, 3) := by decide +kernel
theorem d7_24 : decode prog_3_method_4_code 24 = .ok (.iload_n 3, 1) := by decide +kernel
theorem d7_25 : decode prog_3_method_4_code 25 = .ok (.ldc 69, 2) := by decide +kernel
theorem d7_27 : decode prog_3_method_4_code 27 = .ok (.if_icmp .gt 7, 3) := by decide +kernel
theorem d7_30 : decode prog_3_method_4_code 30 = .ok (.iconst 1, 1) := by decide +kernel
theorem d7_31 : decode prog_3_method_4_code 31 = .ok (.goto 4, 3) := by decide +kernel
theorem d7_34 : decode prog_3_method_4_code 34 = .ok (.iconst 0, 1) := by decide +kernel
theorem d7_35 : decode prog_3_method_4_code 35 = .ok (.istore 4, 2) := by decide +kernel
theorem d7_37 : decode prog_3_method_4_code 37 = .ok (.iload 4, 2) := by decide +kernel
theorem d7_39 : decode prog_3_method_4_code 39 = .ok (.ifCond .eq 17, 3) := by decide +kernel
theorem d7_42 : decode prog_3_method_4_code 42 = .ok (.new 70, 3) := by decide +kernel
theorem d7_45 : decode prog_3_method_4_code 45 = .ok (.dup, 1) := by decide +kernel
theorem d7_46 : decode prog_3_method_4_code 46 = .ok (.iload_n 1, 1) := by decide +kernel
theorem d7_52 : decode prog_3_method_4_code 52 = .ok (.invokespecial 76, 3) := by decide +kernel
theorem d7_55 : decode prog_3_method_4_code 55 = .ok (.athrow, 1) := by decide +kernel
theorem d7_56 : decode prog_3_method_4_code 56 = .ok (.iload_n 2, 1) := by decide +kernel
theorem d7_57 : decode prog_3_method_4_code 57 = .ok (.iload_n 3, 1) := by decide +kernel
theorem d7_58 : decode prog_3_method_4_code 58 = .ok (.invokestatic 79, 3) := by decide +kernel
theorem d7_61 : decode prog_3_method_4_code 61 = .ok (.iadd, 1) := by decide +kernel
theorem d7_62 : decode prog_3_method_4_code 62 = .ok (.istore_n 2, 1) := by decide +kernel
theorem d7_63 : decode prog_3_method_4_code 63 = .ok (.iinc 1 1, 3) := by decide +kernel
theorem d7_66 : decode prog_3_method_4_code 66 = .ok (.goto (-62), 3) := by decide +kernel
theorem d7_69 : decode prog_3_method_4_code 69 = .ok (.return_, 1) := by decide +kernel
theorem d8_0 : decode jdk_42_method_54_code 0 = .ok (.aload_n 0, 1) := by decide +kernel
theorem d8_1 : decode jdk_42_method_54_code 1 = .ok (.getfield 9, 3) := by decide +kernel
theorem d8_4 : decode jdk_42_method_54_code 4 = .ok (.arraylength, 1) := by decide +kernel
theorem d8_5 : decode jdk_42_method_54_code 5 = .ok (.aload_n 0, 1) := by decide +kernel
theorem d8_6 : decode jdk_42_method_54_code 6 = .ok (.invokevirtual 335, 3) := by decide +kernel
theorem d8_9 : decode jdk_42_method_54_code 9 = .ok (.ishr, 1) := by decide +kernel
theorem d8_10 : decode jdk_42_method_54_code 10 = .ok (.ireturn, 1) := by decide +kernel
theorem d9_0 : decode jdk_42_method_152_code 0 = .ok (.getstatic 38, 3) := by decide +kernel
theorem d9_3 : decode jdk_42_method_152_code 3 = .ok (.ifCond .eq 10, 3) := by decide +kernel
theorem d9_6 : decode jdk_42_method_152_code 6 = .ok (.aload_n 0, 1) := by decide +kernel
theorem d9_7 : decode jdk_42_method_152_code 7 = .ok (.getfield 15, 3) := by decide +kernel
theorem d9_10 : decode jdk_42_method_152_code 10 = .ok (.goto 4, 3) := by decide +kernel
theorem d9_13 : decode jdk_42_method_152_code 13 = .ok (.iconst 1, 1) := by decide +kernel
theorem d9_14 : decode jdk_42_method_152_code 14 = .ok (.ireturn, 1) := by decide +kernel
theorem d10_0 : decode jdk_42_method_139_code 0 = .ok (.getstatic 38, 3) := by decide +kernel
theorem d10_3 : decode jdk_42_method_139_code 3 = .ok (.ifCond .eq 23, 3) := by decide +kernel
theorem d10_6 : decode jdk_42_method_139_code 6 = .ok (.iload_n 0, 1) := by decide +kernel
theorem d10_7 : decode jdk_42_method_139_code 7 = .ok (.invokestatic 1015, 3) := by decide +kernel
theorem d10_10 : decode jdk_42_method_139_code 10 = .ok (.ifCond .eq 16, 3) := by decide +kernel
theorem d10_13 : decode jdk_42_method_139_code 13 = .ok (.new 10, 3) := by decide +kernel
theorem d10_16 : decode jdk_42_method_139_code 16 = .ok (.dup, 1) := by decide +kernel
theorem d10_17 : decode jdk_42_method_139_code 17 = .ok (.iload_n 0, 1) := by decide +kernel
theorem d10_18 : decode jdk_42_method_139_code 18 = .ok (.invokestatic 1018, 3) := by decide +kernel
theorem d10_21 : decode jdk_42_method_139_code 21 = .ok (.iconst 0, 1) := by decide +kernel
theorem d10_22 : decode jdk_42_method_139_code 22 = .ok (.invokespecial 209, 3) := by decide +kernel
theorem d10_25 : decode jdk_42_method_139_code 25 = .ok (.areturn, 1) := by decide +kernel
theorem d10_26 : decode jdk_42_method_139_code 26 = .ok (.new 10, 3) := by decide +kernel
theorem d10_29 : decode jdk_42_method_139_code 29 = .ok (.dup, 1) := by decide +kernel
theorem d10_30 : decode jdk_42_method_139_code 30 = .ok (.iload_n 0, 1) := by decide +kernel
theorem d10_31 : decode jdk_42_method_139_code 31 = .ok (.invokestatic 1021, 3) := by decide +kernel
theorem d10_34 : decode jdk_42_method_139_code 34 = .ok (.iconst 1, 1) := by decide +kernel
theorem d10_35 : decode jdk_42_method_139_code 35 = .ok (.invokespecial 209, 3) := by decide +kernel
theorem d10_38 : decode jdk_42_method_139_code 38 = .ok (.areturn, 1) := by decide +kernel
theorem d11_0 : decode jdk_43_method_3_code 0 = .ok (.iload_n 0, 1) := by decide +kernel
theorem d11_1 : decode jdk_43_method_3_code 1 = .ok (.sipush 255, 3) := by decide +kernel
theorem d11_4 : decode jdk_43_method_3_code 4 = .ok (.if_icmp .gt 7, 3) := by decide +kernel
theorem d11_7 : decode jdk_43_method_3_code 7 = .ok (.iconst 1, 1) := by decide +kernel
theorem d11_8 : decode jdk_43_method_3_code 8 = .ok (.goto 4, 3) := by decide +kernel
theorem d11_11 : decode jdk_43_method_3_code 11 = .ok (.iconst 0, 1) := by decide +kernel
theorem d11_12 : decode jdk_43_method_3_code 12 = .ok (.ireturn, 1) := by decide +kernel
theorem d12_0 : decode jdk_43_method_46_code 0 = .ok (.iconst 1, 1) := by decide +kernel
theorem d12_1 : decode jdk_43_method_46_code 1 = .ok (.newarray .byte, 2) := by decide +kernel
theorem d12_3 : decode jdk_43_method_46_code 3 = .ok (.dup, 1) := by decide +kernel
theorem d12_4 : decode jdk_43_method_46_code 4 = .ok (.iconst 0, 1) := by decide +kernel
theorem d12_5 : decode jdk_43_method_46_code 5 = .ok (.iload_n 0, 1) := by decide +kernel
theorem d12_6 : decode jdk_43_method_46_code 6 = .ok (.i2b, 1) := by decide +kernel
theorem d12_7 : decode jdk_43_method_46_code 7 = .ok (.bastore, 1) := by decide +kernel
theorem d12_8 : decode jdk_43_method_46_code 8 = .ok (.areturn, 1) := by decide +kernel
theorem d13_0 : decode jdk_42_method_151_code 0 = .ok (.aload_n 0, 1) := by decide +kernel
theorem d13_1 : decode jdk_42_method_151_code 1 = .ok (.invokespecial 1, 3) := by decide +kernel
theorem d13_4 : decode jdk_42_method_151_code 4 = .ok (.aload_n 0, 1) := by decide +kernel
theorem d13_5 : decode jdk_42_method_151_code 5 = .ok (.aload_n 1, 1) := by decide +kernel
theorem d13_6 : decode jdk_42_method_151_code 6 = .ok (.putfield 9, 3) := by decide +kernel
theorem d13_9 : decode jdk_42_method_151_code 9 = .ok (.aload_n 0, 1) := by decide +kernel
theorem d13_10 : decode jdk_42_method_151_code 10 = .ok (.iload_n 2, 1) := by decide +kernel
theorem d13_11 : decode jdk_42_method_151_code 11 = .ok (.putfield 15, 3) := by decide +kernel
theorem d13_14 : decode jdk_42_method_151_code 14 = .ok (.return_, 1) := by decide +kernel
theorem d14_0 : decode jdk_42_method_57_code 0 = .ok (.aload_n 0, 1) := by decide +kernel
theorem d14_1 : decode jdk_42_method_57_code 1 = .ok (.invokevirtual 492, 3) := by decide +kernel
theorem d14_4 : decode jdk_42_method_57_code 4 = .ok (.ifCond .eq 23, 3) := by decide +kernel
theorem d14_7 : decode jdk_42_method_57_code 7 = .ok (.iload_n 1, 1) := by decide +kernel
theorem d14_8 : decode jdk_42_method_57_code 8 = .ok (.aload_n 0, 1) := by decide +kernel
theorem d14_9 : decode jdk_42_method_57_code 9 = .ok (.getfield 9, 3) := by decide +kernel
theorem d14_12 : decode jdk_42_method_57_code 12 = .ok (.arraylength, 1) := by decide +kernel
theorem d14_13 : decode jdk_42_method_57_code 13 = .ok (.invokestatic 499, 3) := by decide +kernel
theorem d14_16 : decode jdk_42_method_57_code 16 = .ok (.aload_n 0, 1) := by decide +kernel
theorem d14_17 : decode jdk_42_method_57_code 17 = .ok (.getfield 9, 3) := by decide +kernel
theorem d14_20 : decode jdk_42_method_57_code 20 = .ok (.iload_n 1, 1) := by decide +kernel
theorem d14_21 : decode jdk_42_method_57_code 21 = .ok (.baload, 1) := by decide +kernel
theorem d14_22 : decode jdk_42_method_57_code 22 = .ok (.sipush 255, 3) := by decide +kernel
theorem d14_25 : decode jdk_42_method_57_code 25 = .ok (.iand, 1) := by decide +kernel
theorem d14_26 : decode jdk_42_method_57_code 26 = .ok (.ireturn, 1) := by decide +kernel
theorem d14_27 : decode jdk_42_method_57_code 27 = .ok (.aload_n 0, 1) := by decide +kernel
theorem d14_28 : decode jdk_42_method_57_code 28 = .ok (.getfield 9, 3) := by decide +kernel
theorem d14_31 : decode jdk_42_method_57_code 31 = .ok (.arraylength, 1) := by decide +kernel
theorem d14_32 : decode jdk_42_method_57_code 32 = .ok (.iconst 1, 1) := by decide +kernel
theorem d14_33 : decode jdk_42_method_57_code 33 = .ok (.ishr, 1) := by decide +kernel
theorem d14_34 : decode jdk_42_method_57_code 34 = .ok (.istore_n 2, 1) := by decide +kernel
theorem d14_35 : decode jdk_42_method_57_code 35 = .ok (.iload_n 1, 1) := by decide +kernel
theorem d14_36 : decode jdk_42_method_57_code 36 = .ok (.iload_n 2, 1) := by decide +kernel
theorem d14_37 : decode jdk_42_method_57_code 37 = .ok (.invokestatic 499, 3) := by decide +kernel
theorem d14_40 : decode jdk_42_method_57_code 40 = .ok (.aload_n 0, 1) := by decide +kernel
theorem d14_41 : decode jdk_42_method_57_code 41 = .ok (.getfield 9, 3) := by decide +kernel
theorem d14_44 : decode jdk_42_method_57_code 44 = .ok (.iload_n 1, 1) := by decide +kernel
theorem d14_45 : decode jdk_42_method_57_code 45 = .ok (.iload_n 2, 1) := by decide +kernel
theorem d14_46 : decode jdk_42_method_57_code 46 = .ok (.invokestatic 502, 3) := by decide +kernel
theorem d14_49 : decode jdk_42_method_57_code 49 = .ok (.ireturn, 1) := by decide +kernel
theorem d15_0 : decode jdk_42_method_154_code 0 = .ok (.getstatic 38, 3) := by decide +kernel
theorem d15_3 : decode jdk_42_method_154_code 3 = .ok (.ifCond .eq 14, 3) := by decide +kernel
theorem d15_6 : decode jdk_42_method_154_code 6 = .ok (.aload_n 0, 1) := by decide +kernel
theorem d15_7 : decode jdk_42_method_154_code 7 = .ok (.getfield 15, 3) := by decide +kernel
theorem d15_10 : decode jdk_42_method_154_code 10 = .ok (.ifCond .ne 7, 3) := by decide +kernel
theorem d15_13 : decode jdk_42_method_154_code 13 = .ok (.iconst 1, 1) := by decide +kernel
theorem d15_14 : decode jdk_42_method_154_code 14 = .ok (.goto 4, 3) := by decide +kernel
theorem d15_17 : decode jdk_42_method_154_code 17 = .ok (.iconst 0, 1) := by decide +kernel
theorem d15_18 : decode jdk_42_method_154_code 18 = .ok (.ireturn, 1) := by decide +kernel
theorem d16_0 : decode jdk_42_method_155_code 0 = .ok (.iload_n 0, 1) := by decide +kernel
theorem d16_1 : decode jdk_42_method_155_code 1 = .ok (.iload_n 1, 1) := by decide +kernel
theorem d16_2 : decode jdk_42_method_155_code 2 = .ok (.getstatic 1053, 3) := by decide +kernel
theorem d16_5 : decode jdk_42_method_155_code 5 = .ok (.invokestatic 1059, 3) := by decide +kernel
theorem d16_8 : decode jdk_42_method_155_code 8 = .ok (.pop, 1) := by decide +kernel
theorem d16_9 : decode jdk_42_method_155_code 9 = .ok (.return_, 1) := by decide +kernel
theorem d17_0 : decode jdk_41_method_11_code 0 = .ok (.iload_n 0, 1) := by decide +kernel
theorem d17_1 : decode jdk_41_method_11_code 1 = .ok (.ifCond .lt 8, 3) := by decide +kernel
theorem d17_4 : decode jdk_41_method_11_code 4 = .ok (.iload_n 0, 1) := by decide +kernel
theorem d17_5 : decode jdk_41_method_11_code 5 = .ok (.iload_n 1, 1) := by decide +kernel
theorem d17_6 : decode jdk_41_method_11_code 6 = .ok (.if_icmp .lt 10, 3) := by decide +kernel
theorem d17_9 : decode jdk_41_method_11_code 9 = .ok (.aload_n 2, 1) := by decide +kernel
theorem d17_10 : decode jdk_41_method_11_code 10 = .ok (.iload_n 0, 1) := by decide +kernel
theorem d17_11 : decode jdk_41_method_11_code 11 = .ok (.iload_n 1, 1) := by decide +kernel
theorem d17_12 : decode jdk_41_method_11_code 12 = .ok (.invokestatic 95, 3) := by decide +kernel
theorem d17_15 : decode jdk_41_method_11_code 15 = .ok (.athrow, 1) := by decide +kernel
theorem d17_16 : decode jdk_41_method_11_code 16 = .ok (.iload_n 0, 1) := by decide +kernel
theorem d17_17 : decode jdk_41_method_11_code 17 = .ok (.ireturn, 1) := by decide +kernel
theorem d18_0 : decode jdk_89_method_18_code 0 = .ok (.iload_n 0, 1) := by decide +kernel
theorem d18_1 : decode jdk_89_method_18_code 1 = .ok (.ldc 73, 2) := by decide +kernel
theorem d18_3 : decode jdk_89_method_18_code 3 = .ok (.if_icmp .lt 7, 3) := by decide +kernel
theorem d18_6 : decode jdk_89_method_18_code 6 = .ok (.iconst 2, 1) := by decide +kernel
theorem d18_7 : decode jdk_89_method_18_code 7 = .ok (.goto 4, 3) := by decide +kernel
theorem d18_10 : decode jdk_89_method_18_code 10 = .ok (.iconst 1, 1) := by decide +kernel
theorem d18_11 : decode jdk_89_method_18_code 11 = .ok (.ireturn, 1) := by decide +kernel
theorem d19_0 : decode jdk_52_method_16_code 0 = .ok (.iload_n 2, 1) := by decide +kernel
theorem d19_1 : decode jdk_52_method_16_code 1 = .ok (.newarray .byte, 2) := by decide +kernel
theorem d19_3 : decode jdk_52_method_16_code 3 = .ok (.astore_n 3, 1) := by decide +kernel
theorem d19_4 : decode jdk_52_method_16_code 4 = .ok (.aload_n 0, 1) := by decide +kernel
theorem d19_5 : decode jdk_52_method_16_code 5 = .ok (.iload_n 1, 1) := by decide +kernel
theorem d19_6 : decode jdk_52_method_16_code 6 = .ok (.aload_n 3, 1) := by decide +kernel
theorem d19_7 : decode jdk_52_method_16_code 7 = .ok (.iconst 0, 1) := by decide +kernel
theorem d19_8 : decode jdk_52_method_16_code 8 = .ok (.iload_n 2, 1) := by decide +kernel
theorem d19_9 : decode jdk_52_method_16_code 9 = .ok (.invokestatic 115, 3) := by decide +kernel
theorem d19_12 : decode jdk_52_method_16_code 12 = .ok (.istore 4, 2) := by decide +kernel
theorem d19_14 : decode jdk_52_method_16_code 14 = .ok (.iload 4, 2) := by decide +kernel
theorem d19_16 : decode jdk_52_method_16_code 16 = .ok (.iload_n 2, 1) := by decide +kernel
theorem d19_17 : decode jdk_52_method_16_code 17 = .ok (.if_icmp .eq 40, 3) := by decide +kernel
theorem d19_20 : decode jdk_52_method_16_code 20 = .ok (.aload_n 0, 1) := by decide +kernel
theorem d19_21 : decode jdk_52_method_16_code 21 = .ok (.iload_n 1, 1) := by decide +kernel
theorem d19_22 : decode jdk_52_method_16_code 22 = .ok (.iload_n 2, 1) := by decide +kernel
theorem d19_23 : decode jdk_52_method_16_code 23 = .ok (.invokestatic 119, 3) := by decide +kernel
theorem d19_26 : decode jdk_52_method_16_code 26 = .ok (.astore 5, 2) := by decide +kernel
theorem d19_28 : decode jdk_52_method_16_code 28 = .ok (.aload 5, 2) := by decide +kernel
theorem d19_30 : decode jdk_52_method_16_code 30 = .ok (.iload 4, 2) := by decide +kernel
theorem d19_32 : decode jdk_52_method_16_code 32 = .ok (.invokestatic 71, 3) := by decide +kernel
theorem d19_35 : decode jdk_52_method_16_code 35 = .ok (.sipush 255, 3) := by decide +kernel
theorem d19_38 : decode jdk_52_method_16_code 38 = .ok (.if_icmp .gt 16, 3) := by decide +kernel
theorem d19_41 : decode jdk_52_method_16_code 41 = .ok (.aload 5, 2) := by decide +kernel
theorem d19_43 : decode jdk_52_method_16_code 43 = .ok (.iconst 0, 1) := by decide +kernel
theorem d19_44 : decode jdk_52_method_16_code 44 = .ok (.aload_n 3, 1) := by decide +kernel
theorem d19_45 : decode jdk_52_method_16_code 45 = .ok (.iconst 0, 1) := by decide +kernel
theorem d19_46 : decode jdk_52_method_16_code 46 = .ok (.iload_n 2, 1) := by decide +kernel
theorem d19_47 : decode jdk_52_method_16_code 47 = .ok (.invokestatic 123, 3) := by decide +kernel
theorem d19_50 : decode jdk_52_method_16_code 50 = .ok (.iload_n 2, 1) := by decide +kernel
theorem d19_51 : decode jdk_52_method_16_code 51 = .ok (.if_icmp .eq 6, 3) := by decide +kernel
theorem d19_54 : decode jdk_52_method_16_code 54 = .ok (.aload 5, 2) := by decide +kernel
theorem d19_56 : decode jdk_52_method_16_code 56 = .ok (.areturn, 1) := by decide +kernel
theorem d19_57 : decode jdk_52_method_16_code 57 = .ok (.aload_n 3, 1) := by decide +kernel
theorem d19_58 : decode jdk_52_method_16_code 58 = .ok (.areturn, 1) := by decide +kernel
theorem d20_0 : decode jdk_52_method_21_code 0 = .ok (.iconst 0, 1) := by decide +kernel
theorem d20_1 : decode jdk_52_method_21_code 1 = .ok (.istore 5, 2) := by decide +kernel
theorem d20_3 : decode jdk_52_method_21_code 3 = .ok (.iload 5, 2) := by decide +kernel
theorem d20_5 : decode jdk_52_method_21_code 5 = .ok (.iload 4, 2) := by decide +kernel
theorem d20_7 : decode jdk_52_method_21_code 7 = .ok (.if_icmp .ge 37, 3) := by decide +kernel
theorem d20_10 : decode jdk_52_method_21_code 10 = .ok (.aload_n 0, 1) := by decide +kernel
theorem d20_11 : decode jdk_52_method_21_code 11 = .ok (.iload_n 1, 1) := by decide +kernel
theorem d20_12 : decode jdk_52_method_21_code 12 = .ok (.caload, 1) := by decide +kernel
theorem d20_13 : decode jdk_52_method_21_code 13 = .ok (.istore 6, 2) := by decide +kernel
theorem d20_15 : decode jdk_52_method_21_code 15 = .ok (.iload 6, 2) := by decide +kernel
theorem d20_17 : decode jdk_52_method_21_code 17 = .ok (.sipush 255, 3) := by decide +kernel
theorem d20_20 : decode jdk_52_method_21_code 20 = .ok (.if_icmp .le 6, 3) := by decide +kernel
theorem d20_23 : decode jdk_52_method_21_code 23 = .ok (.iload 5, 2) := by decide +kernel
theorem d20_25 : decode jdk_52_method_21_code 25 = .ok (.ireturn, 1) := by decide +kernel
theorem d20_26 : decode jdk_52_method_21_code 26 = .ok (.aload_n 2, 1) := by decide +kernel
theorem d20_27 : decode jdk_52_method_21_code 27 = .ok (.iload_n 3, 1) := by decide +kernel
theorem d20_28 : decode jdk_52_method_21_code 28 = .ok (.iload 6, 2) := by decide +kernel
theorem d20_30 : decode jdk_52_method_21_code 30 = .ok (.i2b, 1) := by decide +kernel
theorem d20_31 : decode jdk_52_method_21_code 31 = .ok (.bastore, 1) := by decide +kernel
theorem d20_32 : decode jdk_52_method_21_code 32 = .ok (.iinc 1 1, 3) := by decide +kernel
theorem d20_35 : decode jdk_52_method_21_code 35 = .ok (.iinc 3 1, 3) := by decide +kernel
theorem d20_38 : decode jdk_52_method_21_code 38 = .ok (.iinc 5 1, 3) := by decide +kernel
theorem d20_41 : decode jdk_52_method_21_code 41 = .ok (.goto (-38), 3) := by decide +kernel
theorem d20_44 : decode jdk_52_method_21_code 44 = .ok (.iload 4, 2) := by decide +kernel
theorem d20_46 : decode jdk_52_method_21_code 46 = .ok (.ireturn, 1) := by decide +kernel
theorem d21_0 : decode jdk_52_method_14_code 0 = .ok (.iload_n 2, 1) := by decide +kernel
theorem d21_1 : decode jdk_52_method_14_code 1 = .ok (.invokestatic 107, 3) := by decide +kernel
theorem d21_4 : decode jdk_52_method_14_code 4 = .ok (.astore_n 3, 1) := by decide +kernel
theorem d21_5 : decode jdk_52_method_14_code 5 = .ok (.iconst 0, 1) := by decide +kernel
theorem d21_6 : decode jdk_52_method_14_code 6 = .ok (.istore 4, 2) := by decide +kernel
theorem d21_8 : decode jdk_52_method_14_code 8 = .ok (.iload 4, 2) := by decide +kernel
theorem d21_10 : decode jdk_52_method_14_code 10 = .ok (.iload_n 2, 1) := by decide +kernel
theorem d21_11 : decode jdk_52_method_14_code 11 = .ok (.if_icmp .ge 21, 3) := by decide +kernel
theorem d21_14 : decode jdk_52_method_14_code 14 = .ok (.aload_n 3, 1) := by decide +kernel
theorem d21_15 : decode jdk_52_method_14_code 15 = .ok (.iload 4, 2) := by decide +kernel
theorem d21_17 : decode jdk_52_method_14_code 17 = .ok (.aload_n 0, 1) := by decide +kernel
theorem d21_18 : decode jdk_52_method_14_code 18 = .ok (.iload_n 1, 1) := by decide +kernel
theorem d21_19 : decode jdk_52_method_14_code 19 = .ok (.caload, 1) := by decide +kernel
theorem d21_20 : decode jdk_52_method_14_code 20 = .ok (.invokestatic 111, 3) := by decide +kernel
theorem d21_23 : decode jdk_52_method_14_code 23 = .ok (.iinc 1 1, 3) := by decide +kernel
theorem d21_26 : decode jdk_52_method_14_code 26 = .ok (.iinc 4 1, 3) := by decide +kernel
theorem d21_29 : decode jdk_52_method_14_code 29 = .ok (.goto (-21), 3) := by decide +kernel
theorem d21_32 : decode jdk_52_method_14_code 32 = .ok (.aload_n 3, 1) := by decide +kernel
theorem d21_33 : decode jdk_52_method_14_code 33 = .ok (.areturn, 1) := by decide +kernel
theorem d22_0 : decode jdk_52_method_2_code 0 = .ok (.iload_n 0, 1) := by decide +kernel
theorem d22_1 : decode jdk_52_method_2_code 1 = .ok (.invokestatic 11, 3) := by decide +kernel
theorem d22_4 : decode jdk_52_method_2_code 4 = .ok (.newarray .byte, 2) := by decide +kernel
theorem d22_6 : decode jdk_52_method_2_code 6 = .ok (.areturn, 1) := by decide +kernel
theorem d23_0 : decode jdk_52_method_3_code 0 = .ok (.iload_n 0, 1) := by decide +kernel
theorem d23_1 : decode jdk_52_method_3_code 1 = .ok (.ifCond .ge 11, 3) := by decide +kernel
theorem d23_4 : decode jdk_52_method_3_code 4 = .ok (.new 17, 3) := by decide +kernel
theorem d23_7 : decode jdk_52_method_3_code 7 = .ok (.dup, 1) := by decide +kernel
theorem d23_8 : decode jdk_52_method_3_code 8 = .ok (.invokespecial 19, 3) := by decide +kernel
theorem d23_11 : decode jdk_52_method_3_code 11 = .ok (.athrow, 1) := by decide +kernel
theorem d23_12 : decode jdk_52_method_3_code 12 = .ok (.iload_n 0, 1) := by decide +kernel
theorem d23_13 : decode jdk_52_method_3_code 13 = .ok (.ldc 20, 2) := by decide +kernel
theorem d23_15 : decode jdk_52_method_3_code 15 = .ok (.if_icmp .lt 40, 3) := by decide +kernel
theorem d23_18 : decode jdk_52_method_3_code 18 = .ok (.new 21, 3) := by decide +kernel
theorem d23_21 : decode jdk_52_method_3_code 21 = .ok (.dup, 1) := by decide +kernel
theorem d23_22 : decode jdk_52_method_3_code 22 = .ok (.new 23, 3) := by decide +kernel
theorem d23_25 : decode jdk_52_method_3_code 25 = .ok (.dup, 1) := by decide +kernel
theorem d23_26 : decode jdk_52_method_3_code 26 = .ok (.invokespecial 25, 3) := by decide +kernel
theorem d23_29 : decode jdk_52_method_3_code 29 = .ok (.ldc 26, 2) := by decide +kernel
theorem d23_31 : decode jdk_52_method_3_code 31 = .ok (.invokevirtual 28, 3) := by decide +kernel
theorem d23_34 : decode jdk_52_method_3_code 34 = .ok (.iload_n 0, 1) := by decide +kernel
theorem d23_35 : decode jdk_52_method_3_code 35 = .ok (.invokevirtual 32, 3) := by decide +kernel
theorem d23_38 : decode jdk_52_method_3_code 38 = .ok (.ldc 35, 2) := by decide +kernel
theorem d23_40 : decode jdk_52_method_3_code 40 = .ok (.invokevirtual 28, 3) := by decide +kernel
theorem d23_43 : decode jdk_52_method_3_code 43 = .ok (.ldc 20, 2) := by decide +kernel
theorem d23_45 : decode jdk_52_method_3_code 45 = .ok (.invokevirtual 32, 3) := by decide +kernel
theorem d23_48 : decode jdk_52_method_3_code 48 = .ok (.invokevirtual 37, 3) := by decide +kernel
theorem d23_51 : decode jdk_52_method_3_code 51 = .ok (.invokespecial 41, 3) := by decide +kernel
theorem d23_54 : decode jdk_52_method_3_code 54 = .ok (.athrow, 1) := by decide +kernel
theorem d23_55 : decode jdk_52_method_3_code 55 = .ok (.iload_n 0, 1) := by decide +kernel
theorem d23_56 : decode jdk_52_method_3_code 56 = .ok (.iconst 1, 1) := by decide +kernel
theorem d23_57 : decode jdk_52_method_3_code 57 = .ok (.ishl, 1) := by decide +kernel
theorem d23_58 : decode jdk_52_method_3_code 58 = .ok (.ireturn, 1) := by decide +kernel
theorem d24_0 : decode jdk_52_method_4_code 0 = .ok (.getstatic 44, 3) := by decide +kernel
theorem d24_3 : decode jdk_52_method_4_code 3 = .ok (.ifCond .ne 25, 3) := by decide +kernel
theorem d24_6 : decode jdk_52_method_4_code 6 = .ok (.iload_n 1, 1) := by decide +kernel
theorem d24_7 : decode jdk_52_method_4_code 7 = .ok (.ifCond .lt 11, 3) := by decide +kernel
theorem d24_10 : decode jdk_52_method_4_code 10 = .ok (.iload_n 1, 1) := by decide +kernel
theorem d24_11 : decode jdk_52_method_4_code 11 = .ok (.aload_n 0, 1) := by decide +kernel
theorem d24_12 : decode jdk_52_method_4_code 12 = .ok (.invokestatic 48, 3) := by decide +kernel
theorem d24_15 : decode jdk_52_method_4_code 15 = .ok (.if_icmp .lt 13, 3) := by decide +kernel
theorem d24_18 : decode jdk_52_method_4_code 18 = .ok (.new 52, 3) := by decide +kernel
theorem d24_21 : decode jdk_52_method_4_code 21 = .ok (.dup, 1) := by decide +kernel
theorem d24_22 : decode jdk_52_method_4_code 22 = .ok (.ldc 54, 2) := by decide +kernel
theorem d24_24 : decode jdk_52_method_4_code 24 = .ok (.invokespecial 56, 3) := by decide +kernel
theorem d24_27 : decode jdk_52_method_4_code 27 = .ok (.athrow, 1) := by decide +kernel
theorem d24_28 : decode jdk_52_method_4_code 28 = .ok (.iload_n 1, 1) := by decide +kernel
theorem d24_29 : decode jdk_52_method_4_code 29 = .ok (.iconst 1, 1) := by decide +kernel
theorem d24_30 : decode jdk_52_method_4_code 30 = .ok (.ishl, 1) := by decide +kernel
theorem d24_31 : decode jdk_52_method_4_code 31 = .ok (.istore_n 1, 1) := by decide +kernel
theorem d24_32 : decode jdk_52_method_4_code 32 = .ok (.aload_n 0, 1) := by decide +kernel
theorem d24_33 : decode jdk_52_method_4_code 33 = .ok (.iload_n 1, 1) := by decide +kernel
theorem d24_34 : decode jdk_52_method_4_code 34 = .ok (.iinc 1 1, 3) := by decide +kernel
theorem d24_37 : decode jdk_52_method_4_code 37 = .ok (.iload_n 2, 1) := by decide +kernel
theorem d24_38 : decode jdk_52_method_4_code 38 = .ok (.getstatic 59, 3) := by decide +kernel
theorem d24_41 : decode jdk_52_method_4_code 41 = .ok (.ishr, 1) := by decide +kernel
theorem d24_42 : decode jdk_52_method_4_code 42 = .ok (.i2b, 1) := by decide +kernel
theorem d24_43 : decode jdk_52_method_4_code 43 = .ok (.bastore, 1) := by decide +kernel
theorem d24_44 : decode jdk_52_method_4_code 44 = .ok (.aload_n 0, 1) := by decide +kernel
theorem d24_45 : decode jdk_52_method_4_code 45 = .ok (.iload_n 1, 1) := by decide +kernel
theorem d24_46 : decode jdk_52_method_4_code 46 = .ok (.iload_n 2, 1) := by decide +kernel
theorem d24_47 : decode jdk_52_method_4_code 47 = .ok (.getstatic 63, 3) := by decide +kernel
theorem d24_50 : decode jdk_52_method_4_code 50 = .ok (.ishr, 1) := by decide +kernel
theorem d24_51 : decode jdk_52_method_4_code 51 = .ok (.i2b, 1) := by decide +kernel
theorem d24_52 : decode jdk_52_method_4_code 52 = .ok (.bastore, 1) := by decide +kernel
theorem d24_53 : decode jdk_52_method_4_code 53 = .ok (.return_, 1) := by decide +kernel
theorem d25_0 : decode jdk_52_method_5_code 0 = .ok (.getstatic 44, 3) := by decide +kernel
theorem d25_3 : decode jdk_52_method_5_code 3 = .ok (.ifCond .ne 25, 3) := by decide +kernel
theorem d25_6 : decode jdk_52_method_5_code 6 = .ok (.iload_n 1, 1) := by decide +kernel
theorem d25_7 : decode jdk_52_method_5_code 7 = .ok (.ifCond .lt 11, 3) := by decide +kernel
theorem d25_10 : decode jdk_52_method_5_code 10 = .ok (.iload_n 1, 1) := by decide +kernel
theorem d25_11 : decode jdk_52_method_5_code 11 = .ok (.aload_n 0, 1) := by decide +kernel
theorem d25_12 : decode jdk_52_method_5_code 12 = .ok (.invokestatic 48, 3) := by decide +kernel
theorem d25_15 : decode jdk_52_method_5_code 15 = .ok (.if_icmp .lt 13, 3) := by decide +kernel
theorem d25_18 : decode jdk_52_method_5_code 18 = .ok (.new 52, 3) := by decide +kernel
theorem d25_21 : decode jdk_52_method_5_code 21 = .ok (.dup, 1) := by decide +kernel
theorem d25_22 : decode jdk_52_method_5_code 22 = .ok (.ldc 54, 2) := by decide +kernel
theorem d25_24 : decode jdk_52_method_5_code 24 = .ok (.invokespecial 56, 3) := by decide +kernel
theorem d25_27 : decode jdk_52_method_5_code 27 = .ok (.athrow, 1) := by decide +kernel
theorem d25_28 : decode jdk_52_method_5_code 28 = .ok (.iload_n 1, 1) := by decide +kernel
theorem d25_29 : decode jdk_52_method_5_code 29 = .ok (.iconst 1, 1) := by decide +kernel
theorem d25_30 : decode jdk_52_method_5_code 30 = .ok (.ishl, 1) := by decide +kernel
theorem d25_31 : decode jdk_52_method_5_code 31 = .ok (.istore_n 1, 1) := by decide +kernel
theorem d25_32 : decode jdk_52_method_5_code 32 = .ok (.aload_n 0, 1) := by decide +kernel
theorem d25_33 : decode jdk_52_method_5_code 33 = .ok (.iload_n 1, 1) := by decide +kernel
theorem d25_34 : decode jdk_52_method_5_code 34 = .ok (.iinc 1 1, 3) := by decide +kernel
theorem d25_37 : decode jdk_52_method_5_code 37 = .ok (.baload, 1) := by decide +kernel
theorem d25_38 : decode jdk_52_method_5_code 38 = .ok (.sipush 255, 3) := by decide +kernel
theorem d25_41 : decode jdk_52_method_5_code 41 = .ok (.iand, 1) := by decide +kernel
theorem d25_42 : decode jdk_52_method_5_code 42 = .ok (.getstatic 59, 3) := by decide +kernel
theorem d25_45 : decode jdk_52_method_5_code 45 = .ok (.ishl, 1) := by decide +kernel
theorem d25_46 : decode jdk_52_method_5_code 46 = .ok (.aload_n 0, 1) := by decide +kernel
theorem d25_47 : decode jdk_52_method_5_code 47 = .ok (.iload_n 1, 1) := by decide +kernel
theorem d25_48 : decode jdk_52_method_5_code 48 = .ok (.baload, 1) := by decide +kernel
theorem d25_49 : decode jdk_52_method_5_code 49 = .ok (.sipush 255, 3) := by decide +kernel
theorem d25_52 : decode jdk_52_method_5_code 52 = .ok (.iand, 1) := by decide +kernel
theorem d25_53 : decode jdk_52_method_5_code 53 = .ok (.getstatic 63, 3) := by decide +kernel
theorem d25_56 : decode jdk_52_method_5_code 56 = .ok (.ishl, 1) := by decide +kernel
theorem d25_57 : decode jdk_52_method_5_code 57 = .ok (.ior, 1) := by decide +kernel
theorem d25_58 : decode jdk_52_method_5_code 58 = .ok (.i2c, 1) := by decide +kernel
theorem d25_59 : decode jdk_52_method_5_code 59 = .ok (.ireturn, 1) := by decide +kernel
theorem d26_0 : decode jdk_52_method_15_code 0 = .ok (.iload_n 1, 1) := by decide +kernel
theorem d26_1 : decode jdk_52_method_15_code 1 = .ok (.aload_n 0, 1) := by decide +kernel
theorem d26_2 : decode jdk_52_method_15_code 2 = .ok (.arraylength, 1) := by decide +kernel
theorem d26_3 : decode jdk_52_method_15_code 3 = .ok (.isub, 1) := by decide +kernel
theorem d26_4 : decode jdk_52_method_15_code 4 = .ok (.bipush 31, 2) := by decide +kernel
theorem d26_6 : decode jdk_52_method_15_code 6 = .ok (.iushr, 1) := by decide +kernel
theorem d26_7 : decode jdk_52_method_15_code 7 = .ok (.i2b, 1) := by decide +kernel
theorem d26_8 : decode jdk_52_method_15_code 8 = .ok (.ireturn, 1) := by decide +kernel
theorem d27_0 : decode jdk_52_method_8_code 0 = .ok (.aload_n 0, 1) := by decide +kernel
theorem d27_1 : decode jdk_52_method_8_code 1 = .ok (.iload_n 1, 1) := by decide +kernel
theorem d27_2 : decode jdk_52_method_8_code 2 = .ok (.iload_n 2, 1) := by decide +kernel
theorem d27_3 : decode jdk_52_method_8_code 3 = .ok (.iconst 0, 1) := by decide +kernel
theorem d27_4 : decode jdk_52_method_8_code 4 = .ok (.invokestatic 88, 3) := by decide +kernel
theorem d27_7 : decode jdk_52_method_8_code 7 = .ok (.ireturn, 1) := by decide +kernel
theorem d28_0 : decode jdk_52_method_7_code 0 = .ok (.getstatic 44, 3) := by decide +kernel
theorem d28_3 : decode jdk_52_method_7_code 3 = .ok (.ifCond .ne 16, 3) := by decide +kernel
theorem d28_6 : decode jdk_52_method_7_code 6 = .ok (.iload_n 1, 1) := by decide +kernel
theorem d28_7 : decode jdk_52_method_7_code 7 = .ok (.iload_n 2, 1) := by decide +kernel
theorem d28_8 : decode jdk_52_method_7_code 8 = .ok (.if_icmp .lt 11, 3) := by decide +kernel
theorem d28_11 : decode jdk_52_method_7_code 11 = .ok (.new 52, 3) := by decide +kernel
theorem d28_14 : decode jdk_52_method_7_code 14 = .ok (.dup, 1) := by decide +kernel
theorem d28_15 : decode jdk_52_method_7_code 15 = .ok (.invokespecial 66, 3) := by decide +kernel
theorem d28_18 : decode jdk_52_method_7_code 18 = .ok (.athrow, 1) := by decide +kernel
theorem d28_19 : decode jdk_52_method_7_code 19 = .ok (.iload_n 3, 1) := by decide +kernel
theorem d28_20 : decode jdk_52_method_7_code 20 = .ok (.ifCond .eq 8, 3) := by decide +kernel
theorem d28_23 : decode jdk_52_method_7_code 23 = .ok (.iload_n 1, 1) := by decide +kernel
theorem d28_24 : decode jdk_52_method_7_code 24 = .ok (.aload_n 0, 1) := by decide +kernel
theorem d28_25 : decode jdk_52_method_7_code 25 = .ok (.invokestatic 67, 3) := by decide +kernel
theorem d28_28 : decode jdk_52_method_7_code 28 = .ok (.aload_n 0, 1) := by decide +kernel
theorem d28_29 : decode jdk_52_method_7_code 29 = .ok (.iload_n 1, 1) := by decide +kernel
theorem d28_30 : decode jdk_52_method_7_code 30 = .ok (.invokestatic 71, 3) := by decide +kernel
theorem d28_33 : decode jdk_52_method_7_code 33 = .ok (.istore 4, 2) := by decide +kernel
theorem d28_35 : decode jdk_52_method_7_code 35 = .ok (.iload 4, 2) := by decide +kernel
theorem d28_37 : decode jdk_52_method_7_code 37 = .ok (.invokestatic 75, 3) := by decide +kernel
theorem d28_40 : decode jdk_52_method_7_code 40 = .ok (.ifCond .eq 43, 3) := by decide +kernel
theorem d28_43 : decode jdk_52_method_7_code 43 = .ok (.iinc 1 1, 3) := by decide +kernel
theorem d28_46 : decode jdk_52_method_7_code 46 = .ok (.iload_n 1, 1) := by decide +kernel
theorem d28_47 : decode jdk_52_method_7_code 47 = .ok (.iload_n 2, 1) := by decide +kernel
theorem d28_48 : decode jdk_52_method_7_code 48 = .ok (.if_icmp .ge 35, 3) := by decide +kernel
theorem d28_51 : decode jdk_52_method_7_code 51 = .ok (.iload_n 3, 1) := by decide +kernel
theorem d28_52 : decode jdk_52_method_7_code 52 = .ok (.ifCond .eq 8, 3) := by decide +kernel
theorem d28_55 : decode jdk_52_method_7_code 55 = .ok (.iload_n 1, 1) := by decide +kernel
theorem d28_56 : decode jdk_52_method_7_code 56 = .ok (.aload_n 0, 1) := by decide +kernel
theorem d28_57 : decode jdk_52_method_7_code 57 = .ok (.invokestatic 67, 3) := by decide +kernel
theorem d28_60 : decode jdk_52_method_7_code 60 = .ok (.aload_n 0, 1) := by decide +kernel
theorem d28_61 : decode jdk_52_method_7_code 61 = .ok (.iload_n 1, 1) := by decide +kernel
theorem d28_62 : decode jdk_52_method_7_code 62 = .ok (.invokestatic 71, 3) := by decide +kernel
theorem d28_65 : decode jdk_52_method_7_code 65 = .ok (.istore 5, 2) := by decide +kernel
theorem d28_67 : decode jdk_52_method_7_code 67 = .ok (.iload 5, 2) := by decide +kernel
theorem d28_69 : decode jdk_52_method_7_code 69 = .ok (.invokestatic 81, 3) := by decide +kernel
theorem d28_72 : decode jdk_52_method_7_code 72 = .ok (.ifCond .eq 11, 3) := by decide +kernel
theorem d28_75 : decode jdk_52_method_7_code 75 = .ok (.iload 4, 2) := by decide +kernel
theorem d28_77 : decode jdk_52_method_7_code 77 = .ok (.iload 5, 2) := by decide +kernel
theorem d28_79 : decode jdk_52_method_7_code 79 = .ok (.invokestatic 84, 3) := by decide +kernel
theorem d28_82 : decode jdk_52_method_7_code 82 = .ok (.ireturn, 1) := by decide +kernel
theorem d28_83 : decode jdk_52_method_7_code 83 = .ok (.iload 4, 2) := by decide +kernel
theorem d28_85 : decode jdk_52_method_7_code 85 = .ok (.ireturn, 1) := by decide +kernel
theorem d29_0 : decode jdk_89_method_14_code 0 = .ok (.iload_n 0, 1) := by decide +kernel
theorem d29_1 : decode jdk_89_method_14_code 1 = .ok (.ldc 75, 2) := by decide +kernel
theorem d29_3 : decode jdk_89_method_14_code 3 = .ok (.if_icmp .lt 13, 3) := by decide +kernel
theorem d29_6 : decode jdk_89_method_14_code 6 = .ok (.iload_n 0, 1) := by decide +kernel
theorem d29_7 : decode jdk_89_method_14_code 7 = .ok (.ldc 76, 2) := by decide +kernel
theorem d29_9 : decode jdk_89_method_14_code 9 = .ok (.if_icmp .ge 7, 3) := by decide +kernel
theorem d29_12 : decode jdk_89_method_14_code 12 = .ok (.iconst 1, 1) := by decide +kernel
theorem d29_13 : decode jdk_89_method_14_code 13 = .ok (.goto 4, 3) := by decide +kernel
theorem d29_16 : decode jdk_89_method_14_code 16 = .ok (.iconst 0, 1) := by decide +kernel
theorem d29_17 : decode jdk_89_method_14_code 17 = .ok (.ireturn, 1) := by decide +kernel
theorem d30_0 : decode jdk_89_method_15_code 0 = .ok (.iload_n 0, 1) := by decide +kernel
theorem d30_1 : decode jdk_89_method_15_code 1 = .ok (.ldc 76, 2) := by decide +kernel
theorem d30_3 : decode jdk_89_method_15_code 3 = .ok (.if_icmp .lt 13, 3) := by decide +kernel
theorem d30_6 : decode jdk_89_method_15_code 6 = .ok (.iload_n 0, 1) := by decide +kernel
theorem d30_7 : decode jdk_89_method_15_code 7 = .ok (.ldc 77, 2) := by decide +kernel
theorem d30_9 : decode jdk_89_method_15_code 9 = .ok (.if_icmp .ge 7, 3) := by decide +kernel
theorem d30_12 : decode jdk_89_method_15_code 12 = .ok (.iconst 1, 1) := by decide +kernel
theorem d30_13 : decode jdk_89_method_15_code 13 = .ok (.goto 4, 3) := by decide +kernel
theorem d30_16 : decode jdk_89_method_15_code 16 = .ok (.iconst 0, 1) := by decide +kernel
theorem d30_17 : decode jdk_89_method_15_code 17 = .ok (.ireturn, 1) := by decide +kernel
theorem d31_0 : decode jdk_89_method_19_code 0 = .ok (.iload_n 0, 1) := by decide +kernel
theorem d31_1 : decode jdk_89_method_19_code 1 = .ok (.bipush 10, 2) := by decide +kernel
theorem d31_3 : decode jdk_89_method_19_code 3 = .ok (.ishl, 1) := by decide +kernel
theorem d31_4 : decode jdk_89_method_19_code 4 = .ok (.iload_n 1, 1) := by decide +kernel
theorem d31_5 : decode jdk_89_method_19_code 5 = .ok (.iadd, 1) := by decide +kernel
theorem d31_6 : decode jdk_89_method_19_code 6 = .ok (.ldc 85, 2) := by decide +kernel
theorem d31_8 : decode jdk_89_method_19_code 8 = .ok (.iadd, 1) := by decide +kernel
theorem d31_9 : decode jdk_89_method_19_code 9 = .ok (.ireturn, 1) := by decide +kernel
theorem d32_0 : decode jdk_52_method_24_code 0 = .ok (.iconst 2, 1) := by decide +kernel
theorem d32_1 : decode jdk_52_method_24_code 1 = .ok (.newarray .byte, 2) := by decide +kernel
theorem d32_3 : decode jdk_52_method_24_code 3 = .ok (.astore_n 1, 1) := by decide +kernel
theorem d32_4 : decode jdk_52_method_24_code 4 = .ok (.aload_n 1, 1) := by decide +kernel
theorem d32_5 : decode jdk_52_method_24_code 5 = .ok (.iconst 0, 1) := by decide +kernel
theorem d32_6 : decode jdk_52_method_24_code 6 = .ok (.iload_n 0, 1) := by decide +kernel
theorem d32_7 : decode jdk_52_method_24_code 7 = .ok (.invokestatic 111, 3) := by decide +kernel
theorem d32_10 : decode jdk_52_method_24_code 10 = .ok (.aload_n 1, 1) := by decide +kernel
theorem d32_11 : decode jdk_52_method_24_code 11 = .ok (.areturn, 1) := by decide +kernel
/-! signs -/
def own_ns (c : Int32) : Prop := 0 ≤ c.toInt ∧ c.toInt ≤ 65535 ∧ (c.toInt < 55296 ∨ 57343 < c.toInt)
def own_hs (c : Int32) : Prop := 55296 ≤ c.toInt ∧ c.toInt ≤ 56319
def own_ls (c : Int32) : Prop := 56320 ≤ c.toInt ∧ c.toInt ≤ 57343
def own_c16 (c : Int32) : Prop := 0 ≤ c.toInt ∧ c.toInt ≤ 65535
def own_wf : List Int32 → Prop
  | [] => True
  | [c] => own_ns c
  | c :: d :: r => (own_ns c ∧ own_wf (d :: r)) ∨ (own_hs c ∧ own_ls d ∧ own_wf r)
theorem own_drop1 {cs : List Int32} {j : Nat} (h : j < cs.length) : cs.drop j = cs.getD j 0 :: cs.drop (j + 1) := by
  rw [List.drop_eq_getElem_cons h, List.getD_eq_getElem?_getD, List.getElem?_eq_getElem h]; rfl
theorem own_wf_at {cs : List Int32} {j : Nat} (h : j < cs.length) (q : own_wf (cs.drop j)) : (own_ns (cs.getD j 0) ∧ own_wf (cs.drop (j + 1))) ∨ (j + 1 < cs.length ∧ own_hs (cs.getD j 0) ∧ own_ls (cs.getD (j + 1) 0) ∧ own_wf (cs.drop (j + 2))) := by
  rw [own_drop1 h] at q
  by_cases h2 : j + 1 < cs.length
  · rw [own_drop1 h2] at q
    rcases q with ⟨q1, q2⟩ | ⟨q1, q2, q3⟩
    · exact Or.inl ⟨q1, by rw [own_drop1 h2]; exact q2⟩
    · exact Or.inr ⟨h2, q1, q2, q3⟩
  · have e : cs.drop (j + 1) = [] := List.drop_eq_nil_of_le (by omega)
    rw [e] at q ⊢
    exact Or.inl ⟨q, trivial⟩
theorem own_gmem {cs : List Int32} {j : Nat} (h : j < cs.length) : cs.getD j 0 ∈ cs := by
  rw [List.getD_eq_getElem?_getD, List.getElem?_eq_getElem h]; exact List.getElem_mem h
theorem own_bget {cs : List Int32} {j : Nat} (h : j < cs.length) (dv : Value) : (cs.map fun c => Value.int c.toInt8.toInt32).getD j dv = .int (cs.getD j 0).toInt8.toInt32 := by
  rw [List.getD_eq_getElem?_getD, List.getD_eq_getElem?_getD, List.getElem?_map, List.getElem?_eq_getElem h]; rfl
theorem own_cget {cs : List Int32} {j : Nat} (h : j < cs.length) (dv : Value) : (cs.map Value.int).getD j dv = .int (cs.getD j 0) := by
  rw [List.getD_eq_getElem?_getD, List.getD_eq_getElem?_getD, List.getElem?_map, List.getElem?_eq_getElem h]; rfl
def own_lo (c : Int32) : Int32 := (c >>> ((0 : Int32) &&& 31)).toInt8.toInt32.toInt8.toInt32
def own_hi (c : Int32) : Int32 := (c >>> ((8 : Int32) &&& 31)).toInt8.toInt32.toInt8.toInt32
def own_wide (cs : List Int32) : List Value := cs.flatMap fun c => [.int (own_lo c), .int (own_hi c)]
theorem own_wide_at (dv : Value) : ∀ (cs : List Int32) (i : Nat), i < cs.length → (own_wide cs).getD (2 * i) dv = .int (own_lo (cs.getD i 0)) ∧ (own_wide cs).getD (2 * i + 1) dv = .int (own_hi (cs.getD i 0))
  | [], _, h => nomatch h
  | c :: cs, 0, _ => ⟨rfl, rfl⟩
  | c :: cs, i + 1, h => own_wide_at dv cs i (Nat.lt_of_succ_lt_succ h)
theorem own_m8 (x : Int32) : (x &&& 255).toInt = x.toInt % 256 := by
  have := c_mask x 255 8 (by omega) (by decide)
  rw [this]; rfl
theorem own_chr {c : Int32} (h : own_c16 c) : (((own_lo c &&& 255) <<< ((0 : Int32) &&& 31)) ||| ((own_hi c &&& 255) <<< ((8 : Int32) &&& 31))).toUInt32.toUInt16.toUInt32.toInt32 = c := by
  have a1 := c_i2b (c >>> ((0 : Int32) &&& 31))
  have a2 := c_i2b (c >>> ((0 : Int32) &&& 31)).toInt8.toInt32
  have a3 := own_m8 (own_lo c)
  have b0 := c_ishr c 8 8 (by decide)
  have b1 := c_i2b (c >>> ((8 : Int32) &&& 31))
  have b2 := c_i2b (c >>> ((8 : Int32) &&& 31)).toInt8.toInt32
  have b3 := own_m8 (own_hi c)
  rw [own_shr0] at a1 a2
  have b4 := c_ishl (own_hi c &&& 255) 8 8 (by decide)
  have b5 := rng32 ((own_hi c &&& 255) <<< ((8 : Int32) &&& 31))
  rw [own_shl0]
  have e256 : ((2 ^ 8 : Nat) : Int) = 256 := by decide
  rw [e256] at b0 b4
  have l1 : (own_lo c).toInt = (c.toInt8.toInt32.toInt8.toInt32).toInt := by rw [own_lo, own_shr0]
  have l2 : (own_hi c).toInt = ((c >>> ((8 : Int32) &&& 31)).toInt8.toInt32.toInt8.toInt32).toInt := by rw [own_hi]
  have h1 := h.1; have h2 := h.2
  have d1 := c_or' (own_lo c &&& 255) ((own_hi c &&& 255) <<< ((8 : Int32) &&& 31)) 8 (by omega) 256 (by decide) (by omega) (by omega) (by omega)
  have d2 := rng32 ((own_lo c &&& 255) ||| ((own_hi c &&& 255) <<< ((8 : Int32) &&& 31)))
  have d3 := c_i2c ((own_lo c &&& 255) ||| ((own_hi c &&& 255) <<< ((8 : Int32) &&& 31)))
  exact Int32.toInt_inj.mp (by omega)
theorem own_b255 {c : Int32} (h : ¬ c < 0 ∧ ¬ (255 : Int32) < c) : c.toInt8.toInt32 &&& 255 = c := by
  have e0 : (0 : Int32).toInt = 0 := by decide
  have e1 : (255 : Int32).toInt = 255 := by decide
  have h1 := h.1; have h2 := h.2
  rw [Int32.lt_iff_toInt_lt] at h1 h2
  have h3 := c_i2b c
  have h4 := own_m8 c.toInt8.toInt32
  exact Int32.toInt_inj.mp (by omega)
theorem own_nar16 {c : Int32} (h : own_c16 c) : nar .char c = c := by
  have h1 := h.1; have h2 := h.2
  have h3 := c_i2c c
  exact Int32.toInt_inj.mp (show c.toUInt32.toUInt16.toUInt32.toInt32.toInt = c.toInt by omega)
theorem own_shl1 {n : Nat} (h : n ≤ 1000) : Int32.ofNat n <<< ((1 : Int32) &&& 31) = Int32.ofNat (2 * n) := by
  have e1 := (own_n32 (n := n) (by omega)).2.2
  have e2 := (own_n32 (n := 2 * n) (by omega)).2.2
  have e3 := c_ishl (Int32.ofNat n) 1 1 (by decide)
  have e4 := rng32 (Int32.ofNat n <<< ((1 : Int32) &&& 31))
  have e5 : ((2 ^ 1 : Nat) : Int) = 2 := by decide
  rw [e5] at e3
  exact Int32.toInt_inj.mp (by omega)
theorem own_shr1 {n : Nat} (h : n ≤ 1000) : Int32.ofNat (2 * n) >>> ((1 : Int32) &&& 31) = Int32.ofNat n := by
  have e1 := (own_n32 (n := n) (by omega)).2.2
  have e2 := (own_n32 (n := 2 * n) (by omega)).2.2
  have e3 := c_ishr (Int32.ofNat (2 * n)) 1 1 (by decide)
  have e5 : ((2 ^ 1 : Nat) : Int) = 2 := by decide
  rw [e5] at e3
  exact Int32.toInt_inj.mp (by omega)
theorem own_texts {Z : State} {a0 : Array Value} (hw : ∀ d ∈ tables_1, d.before a0 Z = true) {n : Int32} (hn : 0 < n.toNatClampNeg) : ∀ p ∈ consts_1, ∃ text : String, (Jvm.Cond.stringLink p.1 p.2 text).before a0 Z = true ∧ (∀ c ∈ text.toList, c.toNat < 256) ∧ text.toList.length ≠ n.toNatClampNeg := fun p hp => by
  simp only [consts_1, List.mem_cons, List.not_mem_nil, or_false] at hp
  rcases hp with rfl
  exact ⟨"", (hw _ (List.mem_of_getElem? (i := 28) rfl)), by decide, by show 0 ≠ _; omega⟩
theorem own_safeN {Z : State} {a0 : Array Value} {V : Vm} {h : Heap} {t : Addr} {kb : ClassId} {vs : List Value} {dv : Value} {n : Nat} (hw : ∀ d ∈ tables_1, d.before a0 Z = true) (hZ : Z.Warmed39 V) (F : Arv Z h t kb .byte (Int32.ofNat n) vs dv) (h0 : 0 < n) (h1 : n ≤ 1000) : Safe Z consts_1 V h t := own_safe (a0 := a0) hZ F (own_texts hw (by rw [(own_n32 (n := n) (by omega)).2.1]; exact h0))
/-- x is a String of two bytes a sign that spells cs -/
def WSt (Z : State) (h : Heap) (x : Addr) (cs : List Int32) : Prop :=
  (∀ c ∈ cs, own_c16 c) ∧ ∃ (t : Addr) (kb : ClassId), Exa Z h x "java/lang/String" ∧ Fld Z h x "java/lang/String" "value" "[B" (.ref t) ∧ Fld Z h x "java/lang/String" "coder" "B" (.int 1) ∧ Arv Z h t kb .byte (Int32.ofNat (2 * cs.length)) (own_wide cs) (.int 0)
theorem WSt.exa {Z : State} {h : Heap} {x : Addr} {cs : List Int32} (S : WSt Z h x cs) : Exa Z h x "java/lang/String" := by obtain ⟨h1, t, kb, h2, h3, h4, h5⟩ := S; exact h2
theorem own_svc {Z : State} {a0 : Array Value} (hw : ∀ d ∈ tables_1, d.before a0 Z = true) : RoadKit.slotOf Z "java/lang/String" "value" "[B" ≠ RoadKit.slotOf Z "java/lang/String" "coder" "B" := slot_ne (C := "java/lang/String") (Or.inr (hw _ (List.mem_of_getElem? (i := 30) rfl))) (Or.inr (hw _ (List.mem_of_getElem? (i := 31) rfl))) (by decide) (t := .array .byte) (t' := .byte) (by decide) (by decide)
/-! the law's own signs -/
theorem own_or10 (a x : Int32) (ha : a.toInt % 1024 = 0) (h1 : 55296 ≤ a.toInt) (h2 : a.toInt ≤ 56320) : (a ||| (x &&& 1023)).toInt = a.toInt + (x &&& 1023).toInt ∧ 0 ≤ (x &&& 1023).toInt ∧ (x &&& 1023).toInt ≤ 1023 := by
  have e : (1023 : Int32).toInt = 1023 := by decide
  have h := c_and x 1023 (by decide)
  have d1 := c_or a (x &&& 1023) 10 (by omega) 1024 (by decide) (by omega) (by omega) (by omega)
  have d2 := rng32 (a ||| (x &&& 1023))
  omega
set_option maxRecDepth 65536 in
theorem rmHI (l : Launch) (Z : State) (a0 : Array Value) (hw : ∀ d ∈ tables_1, d.before a0 Z = true) (hEL : EW Z a0 consts_1) (p0 : Int32) (h0 : Heap) (hx : Ext Z.heap h0) :
    Met l Z consts_1 (⟨"com/example/policy_prover/policyprover/model/TextRequireWellFormedPinLaw", "hi", "(I)C"⟩ : MethodName) method_3_code 1 (some .char) [] ({ frames := 0, cells := 0, slots := 0, locals := 0 } : Room) #[.int p0] h0 [] (fun v h => ∃ c, (v = some (.int c) ∧ own_hs c) ∧ h = h0) := by
  refine Met.of (a0 := a0) (by decide +kernel) hEL hx ?_
  intro p e s m below meth c S0 V w hs hsf
  replace w := w.to (g' := mkF m 0 #[.val (.int p0)] []) (by first | (simp [entryFrame, mkF, argsToLocals, Value.category]; done) | rfl)
  replace w := w.ldcI (pc' := 2) (x := (55296 : Int32)) (hw _ (List.mem_of_getElem? (i := 6) rfl)) d1_0
  replace w := w.iloadN (pc' := 3) d1_2 rfl
  replace w := w.bipush (pc' := 5) (16 : Int32) d1_3
  replace w := w.iushr (pc' := 6) d1_5
  replace w := w.sipush (pc' := 9) (1023 : Int32) d1_6
  replace w := w.iand (pc' := 10) d1_9
  replace w := w.ior (pc' := 11) d1_10
  obtain ⟨z, hz⟩ : ∃ z, z = ((55296 : Int32) ||| (((p0.toUInt32 >>> ((16 : Int32) &&& 31).toUInt32).toInt32) &&& (1023 : Int32))) := ⟨_, rfl⟩
  rw [← hz] at w
  have ho := own_or10 55296 ((p0.toUInt32 >>> ((16 : Int32) &&& 31).toUInt32).toInt32) (by decide) (by decide) (by decide)
  have e1 : (55296 : Int32).toInt = 55296 := by decide
  rw [← hz, e1] at ho
  have hzc : own_c16 z := ⟨by omega, by omega⟩
  have hzn : z.toUInt32.toUInt16.toUInt32.toInt32 = z := own_nar16 hzc
  replace w := w.i2c (pc' := 12) d1_11
  rw [hzn] at w
  exact w.retN d1_12 (by simp) ⟨z, ⟨congrArg (fun z => some (Value.int z)) hzn, by omega, by omega⟩, rfl⟩ nle nle
set_option maxRecDepth 65536 in
theorem rmLO (l : Launch) (Z : State) (a0 : Array Value) (hw : ∀ d ∈ tables_1, d.before a0 Z = true) (hEL : EW Z a0 consts_1) (p0 : Int32) (h0 : Heap) (hx : Ext Z.heap h0) :
    Met l Z consts_1 (⟨"com/example/policy_prover/policyprover/model/TextRequireWellFormedPinLaw", "lo", "(I)C"⟩ : MethodName) method_4_code 1 (some .char) [] ({ frames := 0, cells := 0, slots := 0, locals := 0 } : Room) #[.int p0] h0 [] (fun v h => ∃ c, (v = some (.int c) ∧ own_ls c) ∧ h = h0) := by
  refine Met.of (a0 := a0) (by decide +kernel) hEL hx ?_
  intro p e s m below meth c S0 V w hs hsf
  replace w := w.to (g' := mkF m 0 #[.val (.int p0)] []) (by first | (simp [entryFrame, mkF, argsToLocals, Value.category]; done) | rfl)
  replace w := w.ldcI (pc' := 2) (x := (56320 : Int32)) (hw _ (List.mem_of_getElem? (i := 10) rfl)) d2_0
  replace w := w.iloadN (pc' := 3) d2_2 rfl
  replace w := w.sipush (pc' := 6) (1023 : Int32) d2_3
  replace w := w.iand (pc' := 7) d2_6
  replace w := w.ior (pc' := 8) d2_7
  obtain ⟨z, hz⟩ : ∃ z, z = ((56320 : Int32) ||| (p0 &&& (1023 : Int32))) := ⟨_, rfl⟩
  rw [← hz] at w
  have ho := own_or10 56320 p0 (by decide) (by decide) (by decide)
  have e1 : (56320 : Int32).toInt = 56320 := by decide
  rw [← hz, e1] at ho
  have hzc : own_c16 z := ⟨by omega, by omega⟩
  have hzn : z.toUInt32.toUInt16.toUInt32.toInt32 = z := own_nar16 hzc
  replace w := w.i2c (pc' := 9) d2_8
  rw [hzn] at w
  exact w.retN d2_9 (by simp) ⟨z, ⟨congrArg (fun z => some (Value.int z)) hzn, by omega, by omega⟩, rfl⟩ nle nle
theorem own_xor {c : Int32} (h1 : 55296 ≤ c.toInt) (h2 : c.toInt ≤ 57343) : (c ^^^ 32768).toInt = c.toInt - 32768 := by
  have key := (by decide +kernel : ∀ k, k < 2048 → (Int32.ofNat (55296 + k) ^^^ 32768).toInt = 22528 + (k : Int)) (c.toInt - 55296).toNat (by omega)
  have e : Int32.ofNat (55296 + (c.toInt - 55296).toNat) = c := Int32.toInt_inj.mp (by
    have : (Int32.ofNat (55296 + (c.toInt - 55296).toNat)).toInt = ((55296 + (c.toInt - 55296).toNat : Nat) : Int) := Int32.toInt_ofNat_small (by omega)
    omega)
  rw [e] at key
  omega
set_option maxRecDepth 65536 in
theorem rmBMP (l : Launch) (Z : State) (a0 : Array Value) (hw : ∀ d ∈ tables_1, d.before a0 Z = true) (hEL : EW Z a0 consts_1) (p0 : Int32) (h0 : Heap) (hx : Ext Z.heap h0) :
    Met l Z consts_1 (⟨"com/example/policy_prover/policyprover/model/TextRequireWellFormedPinLaw", "bmp", "(I)C"⟩ : MethodName) method_2_code 2 (some .char) [] ({ frames := 0, cells := 0, slots := 0, locals := 0 } : Room) #[.int p0] h0 [] (fun v h => ∃ c, (v = some (.int c) ∧ own_ns c) ∧ h = h0) := by
  refine Met.of (a0 := a0) (by decide +kernel) hEL hx ?_
  intro p e s m below meth c S0 V w hs hsf
  replace w := w.to (g' := mkF m 0 #[.val (.int p0), .unset] []) (by first | (simp [entryFrame, mkF, argsToLocals, Value.category]; done) | rfl)
  replace w := w.iloadN (pc' := 1) d3_0 rfl
  replace w := w.ldcI (pc' := 3) (x := (65535 : Int32)) (hw _ (List.mem_of_getElem? (i := 14) rfl)) d3_1
  replace w := w.iand (pc' := 4) d3_3
  obtain ⟨z, hz⟩ : ∃ z, z = (p0 &&& (65535 : Int32)) := ⟨_, rfl⟩
  rw [← hz] at w
  have ha := c_and p0 65535 (by decide)
  have e1 : (65535 : Int32).toInt = 65535 := by decide
  have e2 : (55296 : Int32).toInt = 55296 := by decide
  have e3 : (57343 : Int32).toInt = 57343 := by decide
  rw [← hz, e1] at ha
  have hzn : z.toUInt32.toUInt16.toUInt32.toInt32 = z := own_nar16 ⟨ha.1, ha.2⟩
  replace w := w.istoreN (pc' := 5) (L' := #[.val (.int p0), .val (.int z)]) d3_4 rfl
  replace w := w.iloadN (pc' := 6) d3_5 rfl
  replace w := w.ldcI (pc' := 8) (x := (55296 : Int32)) (hw _ (List.mem_of_getElem? (i := 6) rfl)) d3_6
  by_cases q : z < 55296
  ·
    have q' := q
    rw [Int32.lt_iff_toInt_lt, e2] at q'
    replace w := w.icmpYes (pc' := 22) d3_8 ((tlt q).1)
    replace w := w.iloadN (pc' := 23) d3_22 rfl
    replace w := w.i2c (pc' := 24) d3_23
    rw [hzn] at w
    exact w.retN d3_24 (by simp) ⟨z, ⟨congrArg (fun z => some (Value.int z)) hzn, ha.1, ha.2, Or.inl q'⟩, rfl⟩ nle nle
  have q' := q
  rw [Int32.lt_iff_toInt_lt, e2] at q'
  replace w := w.icmpNo (pc' := 11) d3_8 ((flt q).1)
  replace w := w.iloadN (pc' := 12) d3_11 rfl
  replace w := w.ldcI (pc' := 14) (x := (57343 : Int32)) (hw _ (List.mem_of_getElem? (i := 141) rfl)) d3_12
  by_cases r : 57343 < z
  ·
    have r' := r
    rw [Int32.lt_iff_toInt_lt, e3] at r'
    replace w := w.icmpYes (pc' := 22) d3_14 ((tlt r).2.2.1)
    replace w := w.iloadN (pc' := 23) d3_22 rfl
    replace w := w.i2c (pc' := 24) d3_23
    rw [hzn] at w
    exact w.retN d3_24 (by simp) ⟨z, ⟨congrArg (fun z => some (Value.int z)) hzn, ha.1, ha.2, Or.inr r'⟩, rfl⟩ nle nle
  have r' := r
  rw [Int32.lt_iff_toInt_lt, e3] at r'
  have hx2 := own_xor (c := z) (by omega) (by omega)
  have hxn : (z ^^^ 32768).toUInt32.toUInt16.toUInt32.toInt32 = z ^^^ 32768 := own_nar16 ⟨by omega, by omega⟩
  replace w := w.icmpNo (pc' := 17) d3_14 ((flt r).2.2.1)
  replace w := w.iloadN (pc' := 18) d3_17 rfl
  replace w := w.ldcI (pc' := 20) (x := (32768 : Int32)) (hw _ (List.mem_of_getElem? (i := 142) rfl)) d3_18
  replace w := w.ixor (pc' := 21) d3_20
  replace w := w.istoreN (pc' := 22) (L' := #[.val (.int p0), .val (.int (z ^^^ (32768 : Int32)))]) d3_21 rfl
  replace w := w.iloadN (pc' := 23) d3_22 rfl
  replace w := w.i2c (pc' := 24) d3_23
  rw [hxn] at w
  exact w.retN d3_24 (by simp) ⟨z ^^^ 32768, ⟨congrArg (fun z => some (Value.int z)) hxn, by omega, by omega, Or.inl (by omega)⟩, rfl⟩ nle nle
/-! bytes of two-byte Strings -/
set_option maxRecDepth 65536 in
theorem rmPCH (l : Launch) (Z : State) (a0 : Array Value) (hw : ∀ d ∈ tables_1, d.before a0 Z = true) (hEL : EW Z a0 consts_1) (SA : Sta Z Z.heap "java/lang/StringUTF16" "$assertionsDisabled" "Z" (.int 1)) (SH : Sta Z Z.heap "java/lang/StringUTF16" "HI_BYTE_SHIFT" "I" (.int 0)) (SL : Sta Z Z.heap "java/lang/StringUTF16" "LO_BYTE_SHIFT" "I" (.int 8)) (t : Addr) (kb : ClassId) (N i : Nat) (c0 : Int32) (vs : List Value) (dv : Value) (hN : N ≤ 100) (hv : vs.length = N) (hi : 2 * i + 1 < N) (h0 : Heap) (hx : Ext Z.heap h0) (F : Arv Z h0 t kb .byte (Int32.ofNat N) vs dv) (ge_t_Z : Z.heap.size ≤ t) :
    Met l Z consts_1 (⟨"java/lang/StringUTF16", "putChar", "([BII)V"⟩ : MethodName) jdk_52_method_4_code 3 none [] ({ frames := 0, cells := 0, slots := 0, locals := 0 } : Room) #[.ref t, .int (Int32.ofNat i), .int c0] h0 [] (fun v h => v = none ∧ Keep h0 h [t] ∧ Arv Z h t kb .byte (Int32.ofNat N) ((vs.set (2 * i) (.int (own_lo c0))).set (2 * i + 1) (.int (own_hi c0))) dv) := by
  have e1 := own_shl1 (n := i) (by omega)
  have e2 : Int32.ofNat (2 * i) + (1 : Int32) = Int32.ofNat (2 * i + 1) := own_add32 (a := 2 * i) (b := 1) (by omega)
  refine Met.of (a0 := a0) (by decide +kernel) hEL hx ?_
  intro p e s m below meth c S0 V w hs hsf
  replace w := w.to (g' := mkF m 0 #[.val (.ref t), .val (.int (Int32.ofNat i)), .val (.int c0)] []) (by first | (simp [entryFrame, mkF, argsToLocals, Value.category]; done) | rfl)
  replace w := w.getS (hw _ (List.mem_of_getElem? (i := 109) rfl)) SA d24_0 (pc' := 3)
  replace w := w.ifYes (pc' := 28) d24_3 (by decide)
  replace w := w.iloadN (pc' := 29) d24_28 rfl
  replace w := w.iconst (pc' := 30) (1 : Int32) d24_29
  replace w := w.ishl (pc' := 31) d24_30
  rw [e1] at w
  replace w := w.istoreN (pc' := 32) (L' := #[.val (.ref t), .val (.int (Int32.ofNat (2 * i))), .val (.int c0)]) d24_31 rfl
  replace w := w.aloadN (pc' := 33) d24_32 rfl
  replace w := w.iloadN (pc' := 34) d24_33 rfl
  replace w := w.iinc (pc' := 37) (L' := #[.val (.ref t), .val (.int ((Int32.ofNat (2 * i)) + (1 : Int32))), .val (.int c0)]) d24_34 rfl rfl
  rw [e2] at w
  replace w := w.iloadN (pc' := 38) d24_37 rfl
  replace w := w.getS (hw _ (List.mem_of_getElem? (i := 110) rfl)) SH d24_38 (pc' := 41)
  replace w := w.ishr (pc' := 42) d24_41
  replace w := w.i2b (pc' := 43) d24_42
  obtain ⟨h1, K1, F1, A1, w⟩ := w.bastore (x' := own_lo c0) F d24_43 ⟨(own_n32 (by omega)).1, (own_lt32 (by omega) (by omega)).mpr (by omega)⟩ (rfl) (2 * i) ((own_n32 (by omega)).2.1) (by omega) (ge_t_Z) (own_safeN hw w.hZ F (by omega) (by omega)) (pc' := 44)
  replace w := w.aloadN (pc' := 45) d24_44 rfl
  replace w := w.iloadN (pc' := 46) d24_45 rfl
  replace w := w.iloadN (pc' := 47) d24_46 rfl
  replace w := w.getS (hw _ (List.mem_of_getElem? (i := 111) rfl)) SL d24_47 (pc' := 50)
  replace w := w.ishr (pc' := 51) d24_50
  replace w := w.i2b (pc' := 52) d24_51
  obtain ⟨h2, K2, F2, A2, w⟩ := w.bastore (x' := own_hi c0) F1 d24_52 ⟨(own_n32 (by omega)).1, (own_lt32 (by omega) (by omega)).mpr (by omega)⟩ (rfl) (2 * i + 1) ((own_n32 (by omega)).2.1) (by rw [List.length_set]; omega) (ge_t_Z) (own_safeN hw w.hZ F1 (by omega) (by omega)) (pc' := 53)
  exact w.ret0 d24_53 ⟨rfl, ((Keep.refl h0 [t]).trans K1 (allS (Or.inl (List.mem_cons_self ..)) all0)).trans K2 (allS (Or.inl (List.mem_cons_self ..)) all0), F2⟩ nle nle
set_option maxRecDepth 65536 in
theorem rmGCH (l : Launch) (Z : State) (a0 : Array Value) (hw : ∀ d ∈ tables_1, d.before a0 Z = true) (hEL : EW Z a0 consts_1) (SA : Sta Z Z.heap "java/lang/StringUTF16" "$assertionsDisabled" "Z" (.int 1)) (SH : Sta Z Z.heap "java/lang/StringUTF16" "HI_BYTE_SHIFT" "I" (.int 0)) (SL : Sta Z Z.heap "java/lang/StringUTF16" "LO_BYTE_SHIFT" "I" (.int 8)) (t : Addr) (kb : ClassId) (cs : List Int32) (i : Nat) (hl : cs.length ≤ 50) (hi : i < cs.length) (hc : own_c16 (cs.getD i 0)) (h0 : Heap) (hx : Ext Z.heap h0) (F : Arv Z h0 t kb .byte (Int32.ofNat (2 * cs.length)) (own_wide cs) (.int 0)) :
    Met l Z consts_1 (⟨"java/lang/StringUTF16", "getChar", "([BI)C"⟩ : MethodName) jdk_52_method_5_code 2 (some .char) [] ({ frames := 0, cells := 0, slots := 0, locals := 0 } : Room) #[.ref t, .int (Int32.ofNat i)] h0 [] (fun v h => v = some (.int (cs.getD i 0)) ∧ h = h0) := by
  have e1 := own_shl1 (n := i) (by omega)
  have e2 : Int32.ofNat (2 * i) + (1 : Int32) = Int32.ofNat (2 * i + 1) := own_add32 (a := 2 * i) (b := 1) (by omega)
  have ev := own_wide_at (.int 0) cs i hi
  have ec := own_chr hc
  have en := own_nar16 hc
  refine Met.of (a0 := a0) (by decide +kernel) hEL hx ?_
  intro p e s m below meth c S0 V w hs hsf
  replace w := w.to (g' := mkF m 0 #[.val (.ref t), .val (.int (Int32.ofNat i))] []) (by first | (simp [entryFrame, mkF, argsToLocals, Value.category]; done) | rfl)
  replace w := w.getS (hw _ (List.mem_of_getElem? (i := 109) rfl)) SA d25_0 (pc' := 3)
  replace w := w.ifYes (pc' := 28) d25_3 (by decide)
  replace w := w.iloadN (pc' := 29) d25_28 rfl
  replace w := w.iconst (pc' := 30) (1 : Int32) d25_29
  replace w := w.ishl (pc' := 31) d25_30
  rw [e1] at w
  replace w := w.istoreN (pc' := 32) (L' := #[.val (.ref t), .val (.int (Int32.ofNat (2 * i)))]) d25_31 rfl
  replace w := w.aloadN (pc' := 33) d25_32 rfl
  replace w := w.iloadN (pc' := 34) d25_33 rfl
  replace w := w.iinc (pc' := 37) (L' := #[.val (.ref t), .val (.int ((Int32.ofNat (2 * i)) + (1 : Int32)))]) d25_34 rfl rfl
  rw [e2] at w
  replace w := w.baload (v := (.int (own_lo (cs.getD i 0)))) F d25_37 ⟨(own_n32 (by omega)).1, (own_lt32 (by omega) (by omega)).mpr (by omega)⟩ (by rw [(own_n32 (n := 2 * i) (by omega)).2.1]; exact ev.1) (pc' := 38)
  replace w := w.sipush (pc' := 41) (255 : Int32) d25_38
  replace w := w.iand (pc' := 42) d25_41
  replace w := w.getS (hw _ (List.mem_of_getElem? (i := 110) rfl)) SH d25_42 (pc' := 45)
  replace w := w.ishl (pc' := 46) d25_45
  replace w := w.aloadN (pc' := 47) d25_46 rfl
  replace w := w.iloadN (pc' := 48) d25_47 rfl
  replace w := w.baload (v := (.int (own_hi (cs.getD i 0)))) F d25_48 ⟨(own_n32 (by omega)).1, (own_lt32 (by omega) (by omega)).mpr (by omega)⟩ (by rw [(own_n32 (n := 2 * i + 1) (by omega)).2.1]; exact ev.2) (pc' := 49)
  replace w := w.sipush (pc' := 52) (255 : Int32) d25_49
  replace w := w.iand (pc' := 53) d25_52
  replace w := w.getS (hw _ (List.mem_of_getElem? (i := 111) rfl)) SL d25_53 (pc' := 56)
  replace w := w.ishl (pc' := 57) d25_56
  replace w := w.ior (pc' := 58) d25_57
  replace w := w.i2c (pc' := 59) d25_58
  rw [ec] at w
  exact w.retN d25_59 (by simp) ⟨congrArg (fun z => some (Value.int z)) en, rfl⟩ nle nle
set_option maxRecDepth 65536 in
theorem rmNBL2 (l : Launch) (Z : State) (a0 : Array Value) (hw : ∀ d ∈ tables_1, d.before a0 Z = true) (hEL : EW Z a0 consts_1) (h0 : Heap) (hx : Ext Z.heap h0) :
    Met l Z consts_1 (⟨"java/lang/StringUTF16", "newBytesLength", "(I)I"⟩ : MethodName) jdk_52_method_3_code 1 (some .int) [] ({ frames := 0, cells := 0, slots := 0, locals := 0 } : Room) #[.int 2] h0 [] (fun v h => v = some (.int 4) ∧ h = h0) := by
  refine Met.of (a0 := a0) (by decide +kernel) hEL hx ?_
  intro p e s m below meth c S0 V w hs hsf
  replace w := w.to (g' := mkF m 0 #[.val (.int (2 : Int32))] []) (by first | (simp [entryFrame, mkF, argsToLocals, Value.category]; done) | rfl)
  replace w := w.iloadN (pc' := 1) d23_0 rfl
  replace w := w.ifYes (pc' := 12) d23_1 (by decide)
  replace w := w.iloadN (pc' := 13) d23_12 rfl
  replace w := w.ldcI (pc' := 15) (x := (1073741823 : Int32)) (hw _ (List.mem_of_getElem? (i := 105) rfl)) d23_13
  replace w := w.icmpYes (pc' := 55) d23_15 (by decide)
  replace w := w.iloadN (pc' := 56) d23_55 rfl
  replace w := w.iconst (pc' := 57) (1 : Int32) d23_56
  replace w := w.ishl (pc' := 58) d23_57
  rw [show (2 : Int32) <<< ((1 : Int32) &&& 31) = 4 from by decide] at w
  exact w.retI d23_58 ⟨rfl, rfl⟩ nle nle
set_option maxRecDepth 65536 in
theorem rmNBF2 (l : Launch) (Z : State) (a0 : Array Value) (hw : ∀ d ∈ tables_1, d.before a0 Z = true) (hEL : EW Z a0 consts_1) (h0 : Heap) (hx : Ext Z.heap h0) :
    Met l Z consts_1 (⟨"java/lang/StringUTF16", "newBytesFor", "(I)[B"⟩ : MethodName) jdk_52_method_2_code 1 (some (.array .byte)) [] ({ frames := 1, cells := 1, slots := 4, locals := 12 } : Room) #[.int 2] h0 [] (fun v h => ∃ t kb, v = some (.ref t) ∧ Ext h0 h ∧ Arv Z h t kb .byte 4 (List.replicate 4 (.int 0)) (.int 0) ∧ h0.size ≤ t) := by
  refine Met.of (a0 := a0) (by decide +kernel) hEL hx ?_
  intro p e s m below meth c S0 V w hs hsf
  replace w := w.to (g' := mkF m 0 #[.val (.int (2 : Int32))] []) (by first | (simp [entryFrame, mkF, argsToLocals, Value.category]; done) | rfl)
  have BZ := w.old
  have B0 := extR h0
  have C0 := CHr.refl w.ch
  replace w := w.iloadN (pc' := 1) d22_0 rfl
  obtain ⟨v1, V1, h1, hq1, A1, w⟩ := w.static (y' := (⟨"java/lang/StringUTF16", "newBytesLength", "(I)I"⟩ : MethodName)) (W := 0) (w.pays 0 (rmNBL2 l Z a0 hw hEL h0 w.old) (hw _ (List.mem_of_getElem? (i := 104) rfl)) (hw _ (List.mem_of_getElem? (i := 91) rfl)) all0 nle nle) (hw _ (List.mem_of_getElem? (i := 102) rfl)) (hw _ (List.mem_of_getElem? (i := 103) rfl)) (hw _ (List.mem_of_getElem? (i := 91) rfl)) (hw _ (List.mem_of_getElem? (i := 104) rfl)) (argsL := [(.int (2 : Int32))]) (rest := []) (by decide) pd_1 rfl rfl (Nat.le_of_eq rfl) rfl d22_1 nle nle (pc' := 4)
  obtain ⟨rfl, he1⟩ := hq1
  replace w := w.to (g' := mkF m 4 #[.val (.int (2 : Int32))] [(.int (4 : Int32))]) rfl
  replace he1 := he1.symm
  subst he1
  have C0 := C0.trans A1
  obtain ⟨h2, t, k_t, g_t, E2, V_t, S_t, A2, w⟩ := w.newarr (cap := 4) (hw _ (List.mem_of_getElem? (i := 29) rfl)) d22_4 (by decide) (by decide) nle nle (pc' := 6)
  have lt_t : t < h2.size := V_t.lt
  have ge_t_Z : Z.heap.size ≤ t := Nat.le_trans BZ.1 (Nat.le_of_eq g_t.symm)
  have ge_t_0 : h0.size ≤ t := Nat.le_trans B0.1 (Nat.le_of_eq g_t.symm)
  have BZ := extT BZ E2
  have B0 := extT B0 E2
  have C0 := C0.trans A2
  replace V_t := V_t.pad (vs' := [(.int (0 : Int32)), (.int (0 : Int32)), (.int (0 : Int32)), (.int (0 : Int32))]) (pad_rep [] _ 4)
  exact w.retA d22_6 ⟨t, k_t, rfl, B0, V_t, ge_t_0⟩ nle nle
set_option maxRecDepth 65536 in
theorem rmNBL3 (l : Launch) (Z : State) (a0 : Array Value) (hw : ∀ d ∈ tables_1, d.before a0 Z = true) (hEL : EW Z a0 consts_1) (h0 : Heap) (hx : Ext Z.heap h0) :
    Met l Z consts_1 (⟨"java/lang/StringUTF16", "newBytesLength", "(I)I"⟩ : MethodName) jdk_52_method_3_code 1 (some .int) [] ({ frames := 0, cells := 0, slots := 0, locals := 0 } : Room) #[.int 3] h0 [] (fun v h => v = some (.int 6) ∧ h = h0) := by
  refine Met.of (a0 := a0) (by decide +kernel) hEL hx ?_
  intro p e s m below meth c S0 V w hs hsf
  replace w := w.to (g' := mkF m 0 #[.val (.int (3 : Int32))] []) (by first | (simp [entryFrame, mkF, argsToLocals, Value.category]; done) | rfl)
  replace w := w.iloadN (pc' := 1) d23_0 rfl
  replace w := w.ifYes (pc' := 12) d23_1 (by decide)
  replace w := w.iloadN (pc' := 13) d23_12 rfl
  replace w := w.ldcI (pc' := 15) (x := (1073741823 : Int32)) (hw _ (List.mem_of_getElem? (i := 105) rfl)) d23_13
  replace w := w.icmpYes (pc' := 55) d23_15 (by decide)
  replace w := w.iloadN (pc' := 56) d23_55 rfl
  replace w := w.iconst (pc' := 57) (1 : Int32) d23_56
  replace w := w.ishl (pc' := 58) d23_57
  rw [show (3 : Int32) <<< ((1 : Int32) &&& 31) = 6 from by decide] at w
  exact w.retI d23_58 ⟨rfl, rfl⟩ nle nle
set_option maxRecDepth 65536 in
theorem rmNBF3 (l : Launch) (Z : State) (a0 : Array Value) (hw : ∀ d ∈ tables_1, d.before a0 Z = true) (hEL : EW Z a0 consts_1) (h0 : Heap) (hx : Ext Z.heap h0) :
    Met l Z consts_1 (⟨"java/lang/StringUTF16", "newBytesFor", "(I)[B"⟩ : MethodName) jdk_52_method_2_code 1 (some (.array .byte)) [] ({ frames := 1, cells := 1, slots := 6, locals := 12 } : Room) #[.int 3] h0 [] (fun v h => ∃ t kb, v = some (.ref t) ∧ Ext h0 h ∧ Arv Z h t kb .byte 6 (List.replicate 6 (.int 0)) (.int 0) ∧ h0.size ≤ t) := by
  refine Met.of (a0 := a0) (by decide +kernel) hEL hx ?_
  intro p e s m below meth c S0 V w hs hsf
  replace w := w.to (g' := mkF m 0 #[.val (.int (3 : Int32))] []) (by first | (simp [entryFrame, mkF, argsToLocals, Value.category]; done) | rfl)
  have BZ := w.old
  have B0 := extR h0
  have C0 := CHr.refl w.ch
  replace w := w.iloadN (pc' := 1) d22_0 rfl
  obtain ⟨v1, V1, h1, hq1, A1, w⟩ := w.static (y' := (⟨"java/lang/StringUTF16", "newBytesLength", "(I)I"⟩ : MethodName)) (W := 0) (w.pays 0 (rmNBL3 l Z a0 hw hEL h0 w.old) (hw _ (List.mem_of_getElem? (i := 104) rfl)) (hw _ (List.mem_of_getElem? (i := 91) rfl)) all0 nle nle) (hw _ (List.mem_of_getElem? (i := 102) rfl)) (hw _ (List.mem_of_getElem? (i := 103) rfl)) (hw _ (List.mem_of_getElem? (i := 91) rfl)) (hw _ (List.mem_of_getElem? (i := 104) rfl)) (argsL := [(.int (3 : Int32))]) (rest := []) (by decide) pd_1 rfl rfl (Nat.le_of_eq rfl) rfl d22_1 nle nle (pc' := 4)
  obtain ⟨rfl, he1⟩ := hq1
  replace w := w.to (g' := mkF m 4 #[.val (.int (3 : Int32))] [(.int (6 : Int32))]) rfl
  replace he1 := he1.symm
  subst he1
  have C0 := C0.trans A1
  obtain ⟨h2, t, k_t, g_t, E2, V_t, S_t, A2, w⟩ := w.newarr (cap := 6) (hw _ (List.mem_of_getElem? (i := 29) rfl)) d22_4 (by decide) (by decide) nle nle (pc' := 6)
  have lt_t : t < h2.size := V_t.lt
  have ge_t_Z : Z.heap.size ≤ t := Nat.le_trans BZ.1 (Nat.le_of_eq g_t.symm)
  have ge_t_0 : h0.size ≤ t := Nat.le_trans B0.1 (Nat.le_of_eq g_t.symm)
  have BZ := extT BZ E2
  have B0 := extT B0 E2
  have C0 := C0.trans A2
  replace V_t := V_t.pad (vs' := [(.int (0 : Int32)), (.int (0 : Int32)), (.int (0 : Int32)), (.int (0 : Int32)), (.int (0 : Int32)), (.int (0 : Int32))]) (pad_rep [] _ 6)
  exact w.retA d22_6 ⟨t, k_t, rfl, B0, V_t, ge_t_0⟩ nle nle
set_option maxRecDepth 65536 in
theorem rmTBY2 (l : Launch) (Z : State) (a0 : Array Value) (hw : ∀ d ∈ tables_1, d.before a0 Z = true) (hEL : EW Z a0 consts_1) (SA : Sta Z Z.heap "java/lang/StringUTF16" "$assertionsDisabled" "Z" (.int 1)) (SH : Sta Z Z.heap "java/lang/StringUTF16" "HI_BYTE_SHIFT" "I" (.int 0)) (SL : Sta Z Z.heap "java/lang/StringUTF16" "LO_BYTE_SHIFT" "I" (.int 8)) (b : Addr) (kC : ClassId) (dc : Value) (c0 c1 : Int32) (h0 : Heap) (hx : Ext Z.heap h0) (A : Arv Z h0 b kC .char 2 (([c0, c1] : List Int32).map Value.int) dc) :
    Met l Z consts_1 (⟨"java/lang/StringUTF16", "toBytes", "([CII)[B"⟩ : MethodName) jdk_52_method_14_code 5 (some (.array .byte)) [] ({ frames := 2, cells := 1, slots := 4, locals := 24 } : Room) #[.ref b, .int 0, .int 2] h0 [] (fun v h => ∃ t kb, v = some (.ref t) ∧ Ext h0 h ∧ Arv Z h t kb .byte 4 (own_wide [c0, c1]) (.int 0)) := by
  refine Met.of (a0 := a0) (by decide +kernel) hEL hx ?_
  intro p e s m below meth c S0 V w hs hsf
  have hbz : Z.heap.size ≤ h0.size := w.zsz
  replace w := w.to (g' := mkF m 0 #[.val (.ref b), .val (.int (0 : Int32)), .val (.int (2 : Int32)), .unset, .unset] []) (by first | (simp [entryFrame, mkF, argsToLocals, Value.category]; done) | rfl)
  have BZ := w.old
  have B0 := extR h0
  have C0 := CHr.refl w.ch
  replace w := w.iloadN (pc' := 1) d21_0 rfl
  obtain ⟨v1, V1, h1, hq1, A1, w⟩ := w.static (y' := (⟨"java/lang/StringUTF16", "newBytesFor", "(I)[B"⟩ : MethodName)) (W := 0) (w.pays 0 (rmNBF2 l Z a0 hw hEL h0 w.old) (hw _ (List.mem_of_getElem? (i := 101) rfl)) (hw _ (List.mem_of_getElem? (i := 91) rfl)) all0 nle nle) (hw _ (List.mem_of_getElem? (i := 99) rfl)) (hw _ (List.mem_of_getElem? (i := 100) rfl)) (hw _ (List.mem_of_getElem? (i := 91) rfl)) (hw _ (List.mem_of_getElem? (i := 101) rfl)) (argsL := [(.int (2 : Int32))]) (rest := []) (by decide) pd_2 rfl rfl (Nat.le_of_eq rfl) rfl d21_1 nle nle (pc' := 4)
  obtain ⟨t, kb, rfl, E1, F0, ge_t_0⟩ := hq1
  replace w := w.to (g' := mkF m 4 #[.val (.ref b), .val (.int (0 : Int32)), .val (.int (2 : Int32)), .unset, .unset] [(.ref t)]) rfl
  have BZ := extT BZ E1
  have B0 := extT B0 E1
  have C0 := C0.trans A1
  have ge_t_Z : Z.heap.size ≤ t := Nat.le_trans hbz ge_t_0
  replace w := w.astoreN (pc' := 5) (L' := #[.val (.ref b), .val (.int (0 : Int32)), .val (.int (2 : Int32)), .val (.ref t), .unset]) d21_4 rfl
  replace w := w.iconst (pc' := 6) (0 : Int32) d21_5
  replace w := w.istore (pc' := 8) (L' := #[.val (.ref b), .val (.int (0 : Int32)), .val (.int (2 : Int32)), .val (.ref t), .val (.int (0 : Int32))]) d21_6 rfl
  replace w := w.iload (pc' := 10) d21_8 rfl
  replace w := w.iloadN (pc' := 11) d21_10 rfl
  replace w := w.icmpNo (pc' := 14) d21_11 (by decide)
  replace w := w.aloadN (pc' := 15) d21_14 rfl
  replace w := w.iload (pc' := 17) d21_15 rfl
  replace w := w.aloadN (pc' := 18) d21_17 rfl
  replace w := w.iloadN (pc' := 19) d21_18 rfl
  have Q0 := A.ext B0
  replace w := w.caload (v := (.int c0)) Q0 d21_19 ⟨by decide, by decide⟩ (rfl) (pc' := 20)
  obtain ⟨v2, V2, h2, hq2, A2, w⟩ := w.static (y' := (⟨"java/lang/StringUTF16", "putChar", "([BII)V"⟩ : MethodName)) (W := 0) (w.pays 0 (rmPCH l Z a0 hw hEL SA SH SL t kb 4 0 c0 _ _ (by omega) (by rfl) (by omega) h1 w.old F0 ge_t_Z) (hw _ (List.mem_of_getElem? (i := 108) rfl)) (hw _ (List.mem_of_getElem? (i := 91) rfl)) all0 nle nle) (hw _ (List.mem_of_getElem? (i := 106) rfl)) (hw _ (List.mem_of_getElem? (i := 107) rfl)) (hw _ (List.mem_of_getElem? (i := 91) rfl)) (hw _ (List.mem_of_getElem? (i := 108) rfl)) (argsL := [(.ref t), (.int (0 : Int32)), (.int c0)]) (rest := []) (by decide) pd_3 rfl rfl (Nat.le_of_eq rfl) rfl d21_20 nle nle (pc' := 23)
  obtain ⟨rfl, K2, F1⟩ := hq2
  replace w := w.to (g' := mkF m 23 #[.val (.ref b), .val (.int (0 : Int32)), .val (.int (2 : Int32)), .val (.ref t), .val (.int (0 : Int32))] []) rfl
  have BZ := extK BZ K2 (allS ge_t_Z all0)
  have B0 := extK B0 K2 (allS ge_t_0 all0)
  have C0 := C0.trans A2
  replace w := w.iinc (pc' := 26) (L' := #[.val (.ref b), .val (.int ((0 : Int32) + (1 : Int32))), .val (.int (2 : Int32)), .val (.ref t), .val (.int (0 : Int32))]) d21_23 rfl rfl
  replace w := w.iinc (pc' := 29) (L' := #[.val (.ref b), .val (.int ((0 : Int32) + (1 : Int32))), .val (.int (2 : Int32)), .val (.ref t), .val (.int ((0 : Int32) + (1 : Int32)))]) d21_26 rfl rfl
  replace w := w.goto (pc' := 8) d21_29
  replace w := w.to (g' := mkF m 8 #[.val (.ref b), .val (.int (1 : Int32)), .val (.int (2 : Int32)), .val (.ref t), .val (.int (1 : Int32))] []) rfl
  replace w := w.iload (pc' := 10) d21_8 rfl
  replace w := w.iloadN (pc' := 11) d21_10 rfl
  replace w := w.icmpNo (pc' := 14) d21_11 (by decide)
  replace w := w.aloadN (pc' := 15) d21_14 rfl
  replace w := w.iload (pc' := 17) d21_15 rfl
  replace w := w.aloadN (pc' := 18) d21_17 rfl
  replace w := w.iloadN (pc' := 19) d21_18 rfl
  have Q1 := A.ext B0
  replace w := w.caload (v := (.int c1)) Q1 d21_19 ⟨by decide, by decide⟩ (rfl) (pc' := 20)
  obtain ⟨v3, V3, h3, hq3, A3, w⟩ := w.static (y' := (⟨"java/lang/StringUTF16", "putChar", "([BII)V"⟩ : MethodName)) (W := 0) (w.pays 0 (rmPCH l Z a0 hw hEL SA SH SL t kb 4 1 c1 _ _ (by omega) (by rfl) (by omega) h2 w.old F1 ge_t_Z) (hw _ (List.mem_of_getElem? (i := 108) rfl)) (hw _ (List.mem_of_getElem? (i := 91) rfl)) all0 nle nle) (hw _ (List.mem_of_getElem? (i := 106) rfl)) (hw _ (List.mem_of_getElem? (i := 107) rfl)) (hw _ (List.mem_of_getElem? (i := 91) rfl)) (hw _ (List.mem_of_getElem? (i := 108) rfl)) (argsL := [(.ref t), (.int (1 : Int32)), (.int c1)]) (rest := []) (by decide) pd_3 rfl rfl (Nat.le_of_eq rfl) rfl d21_20 nle nle (pc' := 23)
  obtain ⟨rfl, K3, F2⟩ := hq3
  replace w := w.to (g' := mkF m 23 #[.val (.ref b), .val (.int (1 : Int32)), .val (.int (2 : Int32)), .val (.ref t), .val (.int (1 : Int32))] []) rfl
  have BZ := extK BZ K3 (allS ge_t_Z all0)
  have B0 := extK B0 K3 (allS ge_t_0 all0)
  have C0 := C0.trans A3
  replace w := w.iinc (pc' := 26) (L' := #[.val (.ref b), .val (.int ((1 : Int32) + (1 : Int32))), .val (.int (2 : Int32)), .val (.ref t), .val (.int (1 : Int32))]) d21_23 rfl rfl
  replace w := w.iinc (pc' := 29) (L' := #[.val (.ref b), .val (.int ((1 : Int32) + (1 : Int32))), .val (.int (2 : Int32)), .val (.ref t), .val (.int ((1 : Int32) + (1 : Int32)))]) d21_26 rfl rfl
  replace w := w.goto (pc' := 8) d21_29
  replace w := w.to (g' := mkF m 8 #[.val (.ref b), .val (.int (2 : Int32)), .val (.int (2 : Int32)), .val (.ref t), .val (.int (2 : Int32))] []) rfl
  replace w := w.iload (pc' := 10) d21_8 rfl
  replace w := w.iloadN (pc' := 11) d21_10 rfl
  replace w := w.icmpYes (pc' := 32) d21_11 (by decide)
  replace w := w.aloadN (pc' := 33) d21_32 rfl
  exact w.retA d21_33 ⟨t, kb, rfl, B0, F2⟩ nle nle
set_option maxRecDepth 65536 in
theorem rmTBY3 (l : Launch) (Z : State) (a0 : Array Value) (hw : ∀ d ∈ tables_1, d.before a0 Z = true) (hEL : EW Z a0 consts_1) (SA : Sta Z Z.heap "java/lang/StringUTF16" "$assertionsDisabled" "Z" (.int 1)) (SH : Sta Z Z.heap "java/lang/StringUTF16" "HI_BYTE_SHIFT" "I" (.int 0)) (SL : Sta Z Z.heap "java/lang/StringUTF16" "LO_BYTE_SHIFT" "I" (.int 8)) (b : Addr) (kC : ClassId) (dc : Value) (c0 c1 c2 : Int32) (h0 : Heap) (hx : Ext Z.heap h0) (A : Arv Z h0 b kC .char 3 (([c0, c1, c2] : List Int32).map Value.int) dc) :
    Met l Z consts_1 (⟨"java/lang/StringUTF16", "toBytes", "([CII)[B"⟩ : MethodName) jdk_52_method_14_code 5 (some (.array .byte)) [] ({ frames := 2, cells := 1, slots := 6, locals := 24 } : Room) #[.ref b, .int 0, .int 3] h0 [] (fun v h => ∃ t kb, v = some (.ref t) ∧ Ext h0 h ∧ Arv Z h t kb .byte 6 (own_wide [c0, c1, c2]) (.int 0)) := by
  refine Met.of (a0 := a0) (by decide +kernel) hEL hx ?_
  intro p e s m below meth c S0 V w hs hsf
  have hbz : Z.heap.size ≤ h0.size := w.zsz
  replace w := w.to (g' := mkF m 0 #[.val (.ref b), .val (.int (0 : Int32)), .val (.int (3 : Int32)), .unset, .unset] []) (by first | (simp [entryFrame, mkF, argsToLocals, Value.category]; done) | rfl)
  have BZ := w.old
  have B0 := extR h0
  have C0 := CHr.refl w.ch
  replace w := w.iloadN (pc' := 1) d21_0 rfl
  obtain ⟨v1, V1, h1, hq1, A1, w⟩ := w.static (y' := (⟨"java/lang/StringUTF16", "newBytesFor", "(I)[B"⟩ : MethodName)) (W := 0) (w.pays 0 (rmNBF3 l Z a0 hw hEL h0 w.old) (hw _ (List.mem_of_getElem? (i := 101) rfl)) (hw _ (List.mem_of_getElem? (i := 91) rfl)) all0 nle nle) (hw _ (List.mem_of_getElem? (i := 99) rfl)) (hw _ (List.mem_of_getElem? (i := 100) rfl)) (hw _ (List.mem_of_getElem? (i := 91) rfl)) (hw _ (List.mem_of_getElem? (i := 101) rfl)) (argsL := [(.int (3 : Int32))]) (rest := []) (by decide) pd_2 rfl rfl (Nat.le_of_eq rfl) rfl d21_1 nle nle (pc' := 4)
  obtain ⟨t, kb, rfl, E1, F0, ge_t_0⟩ := hq1
  replace w := w.to (g' := mkF m 4 #[.val (.ref b), .val (.int (0 : Int32)), .val (.int (3 : Int32)), .unset, .unset] [(.ref t)]) rfl
  have BZ := extT BZ E1
  have B0 := extT B0 E1
  have C0 := C0.trans A1
  have ge_t_Z : Z.heap.size ≤ t := Nat.le_trans hbz ge_t_0
  replace w := w.astoreN (pc' := 5) (L' := #[.val (.ref b), .val (.int (0 : Int32)), .val (.int (3 : Int32)), .val (.ref t), .unset]) d21_4 rfl
  replace w := w.iconst (pc' := 6) (0 : Int32) d21_5
  replace w := w.istore (pc' := 8) (L' := #[.val (.ref b), .val (.int (0 : Int32)), .val (.int (3 : Int32)), .val (.ref t), .val (.int (0 : Int32))]) d21_6 rfl
  replace w := w.iload (pc' := 10) d21_8 rfl
  replace w := w.iloadN (pc' := 11) d21_10 rfl
  replace w := w.icmpNo (pc' := 14) d21_11 (by decide)
  replace w := w.aloadN (pc' := 15) d21_14 rfl
  replace w := w.iload (pc' := 17) d21_15 rfl
  replace w := w.aloadN (pc' := 18) d21_17 rfl
  replace w := w.iloadN (pc' := 19) d21_18 rfl
  have Q0 := A.ext B0
  replace w := w.caload (v := (.int c0)) Q0 d21_19 ⟨by decide, by decide⟩ (rfl) (pc' := 20)
  obtain ⟨v2, V2, h2, hq2, A2, w⟩ := w.static (y' := (⟨"java/lang/StringUTF16", "putChar", "([BII)V"⟩ : MethodName)) (W := 0) (w.pays 0 (rmPCH l Z a0 hw hEL SA SH SL t kb 6 0 c0 _ _ (by omega) (by rfl) (by omega) h1 w.old F0 ge_t_Z) (hw _ (List.mem_of_getElem? (i := 108) rfl)) (hw _ (List.mem_of_getElem? (i := 91) rfl)) all0 nle nle) (hw _ (List.mem_of_getElem? (i := 106) rfl)) (hw _ (List.mem_of_getElem? (i := 107) rfl)) (hw _ (List.mem_of_getElem? (i := 91) rfl)) (hw _ (List.mem_of_getElem? (i := 108) rfl)) (argsL := [(.ref t), (.int (0 : Int32)), (.int c0)]) (rest := []) (by decide) pd_3 rfl rfl (Nat.le_of_eq rfl) rfl d21_20 nle nle (pc' := 23)
  obtain ⟨rfl, K2, F1⟩ := hq2
  replace w := w.to (g' := mkF m 23 #[.val (.ref b), .val (.int (0 : Int32)), .val (.int (3 : Int32)), .val (.ref t), .val (.int (0 : Int32))] []) rfl
  have BZ := extK BZ K2 (allS ge_t_Z all0)
  have B0 := extK B0 K2 (allS ge_t_0 all0)
  have C0 := C0.trans A2
  replace w := w.iinc (pc' := 26) (L' := #[.val (.ref b), .val (.int ((0 : Int32) + (1 : Int32))), .val (.int (3 : Int32)), .val (.ref t), .val (.int (0 : Int32))]) d21_23 rfl rfl
  replace w := w.iinc (pc' := 29) (L' := #[.val (.ref b), .val (.int ((0 : Int32) + (1 : Int32))), .val (.int (3 : Int32)), .val (.ref t), .val (.int ((0 : Int32) + (1 : Int32)))]) d21_26 rfl rfl
  replace w := w.goto (pc' := 8) d21_29
  replace w := w.to (g' := mkF m 8 #[.val (.ref b), .val (.int (1 : Int32)), .val (.int (3 : Int32)), .val (.ref t), .val (.int (1 : Int32))] []) rfl
  replace w := w.iload (pc' := 10) d21_8 rfl
  replace w := w.iloadN (pc' := 11) d21_10 rfl
  replace w := w.icmpNo (pc' := 14) d21_11 (by decide)
  replace w := w.aloadN (pc' := 15) d21_14 rfl
  replace w := w.iload (pc' := 17) d21_15 rfl
  replace w := w.aloadN (pc' := 18) d21_17 rfl
  replace w := w.iloadN (pc' := 19) d21_18 rfl
  have Q1 := A.ext B0
  replace w := w.caload (v := (.int c1)) Q1 d21_19 ⟨by decide, by decide⟩ (rfl) (pc' := 20)
  obtain ⟨v3, V3, h3, hq3, A3, w⟩ := w.static (y' := (⟨"java/lang/StringUTF16", "putChar", "([BII)V"⟩ : MethodName)) (W := 0) (w.pays 0 (rmPCH l Z a0 hw hEL SA SH SL t kb 6 1 c1 _ _ (by omega) (by rfl) (by omega) h2 w.old F1 ge_t_Z) (hw _ (List.mem_of_getElem? (i := 108) rfl)) (hw _ (List.mem_of_getElem? (i := 91) rfl)) all0 nle nle) (hw _ (List.mem_of_getElem? (i := 106) rfl)) (hw _ (List.mem_of_getElem? (i := 107) rfl)) (hw _ (List.mem_of_getElem? (i := 91) rfl)) (hw _ (List.mem_of_getElem? (i := 108) rfl)) (argsL := [(.ref t), (.int (1 : Int32)), (.int c1)]) (rest := []) (by decide) pd_3 rfl rfl (Nat.le_of_eq rfl) rfl d21_20 nle nle (pc' := 23)
  obtain ⟨rfl, K3, F2⟩ := hq3
  replace w := w.to (g' := mkF m 23 #[.val (.ref b), .val (.int (1 : Int32)), .val (.int (3 : Int32)), .val (.ref t), .val (.int (1 : Int32))] []) rfl
  have BZ := extK BZ K3 (allS ge_t_Z all0)
  have B0 := extK B0 K3 (allS ge_t_0 all0)
  have C0 := C0.trans A3
  replace w := w.iinc (pc' := 26) (L' := #[.val (.ref b), .val (.int ((1 : Int32) + (1 : Int32))), .val (.int (3 : Int32)), .val (.ref t), .val (.int (1 : Int32))]) d21_23 rfl rfl
  replace w := w.iinc (pc' := 29) (L' := #[.val (.ref b), .val (.int ((1 : Int32) + (1 : Int32))), .val (.int (3 : Int32)), .val (.ref t), .val (.int ((1 : Int32) + (1 : Int32)))]) d21_26 rfl rfl
  replace w := w.goto (pc' := 8) d21_29
  replace w := w.to (g' := mkF m 8 #[.val (.ref b), .val (.int (2 : Int32)), .val (.int (3 : Int32)), .val (.ref t), .val (.int (2 : Int32))] []) rfl
  replace w := w.iload (pc' := 10) d21_8 rfl
  replace w := w.iloadN (pc' := 11) d21_10 rfl
  replace w := w.icmpNo (pc' := 14) d21_11 (by decide)
  replace w := w.aloadN (pc' := 15) d21_14 rfl
  replace w := w.iload (pc' := 17) d21_15 rfl
  replace w := w.aloadN (pc' := 18) d21_17 rfl
  replace w := w.iloadN (pc' := 19) d21_18 rfl
  have Q2 := A.ext B0
  replace w := w.caload (v := (.int c2)) Q2 d21_19 ⟨by decide, by decide⟩ (rfl) (pc' := 20)
  obtain ⟨v4, V4, h4, hq4, A4, w⟩ := w.static (y' := (⟨"java/lang/StringUTF16", "putChar", "([BII)V"⟩ : MethodName)) (W := 0) (w.pays 0 (rmPCH l Z a0 hw hEL SA SH SL t kb 6 2 c2 _ _ (by omega) (by rfl) (by omega) h3 w.old F2 ge_t_Z) (hw _ (List.mem_of_getElem? (i := 108) rfl)) (hw _ (List.mem_of_getElem? (i := 91) rfl)) all0 nle nle) (hw _ (List.mem_of_getElem? (i := 106) rfl)) (hw _ (List.mem_of_getElem? (i := 107) rfl)) (hw _ (List.mem_of_getElem? (i := 91) rfl)) (hw _ (List.mem_of_getElem? (i := 108) rfl)) (argsL := [(.ref t), (.int (2 : Int32)), (.int c2)]) (rest := []) (by decide) pd_3 rfl rfl (Nat.le_of_eq rfl) rfl d21_20 nle nle (pc' := 23)
  obtain ⟨rfl, K4, F3⟩ := hq4
  replace w := w.to (g' := mkF m 23 #[.val (.ref b), .val (.int (2 : Int32)), .val (.int (3 : Int32)), .val (.ref t), .val (.int (2 : Int32))] []) rfl
  have BZ := extK BZ K4 (allS ge_t_Z all0)
  have B0 := extK B0 K4 (allS ge_t_0 all0)
  have C0 := C0.trans A4
  replace w := w.iinc (pc' := 26) (L' := #[.val (.ref b), .val (.int ((2 : Int32) + (1 : Int32))), .val (.int (3 : Int32)), .val (.ref t), .val (.int (2 : Int32))]) d21_23 rfl rfl
  replace w := w.iinc (pc' := 29) (L' := #[.val (.ref b), .val (.int ((2 : Int32) + (1 : Int32))), .val (.int (3 : Int32)), .val (.ref t), .val (.int ((2 : Int32) + (1 : Int32)))]) d21_26 rfl rfl
  replace w := w.goto (pc' := 8) d21_29
  replace w := w.to (g' := mkF m 8 #[.val (.ref b), .val (.int (3 : Int32)), .val (.int (3 : Int32)), .val (.ref t), .val (.int (3 : Int32))] []) rfl
  replace w := w.iload (pc' := 10) d21_8 rfl
  replace w := w.iloadN (pc' := 11) d21_10 rfl
  replace w := w.icmpYes (pc' := 32) d21_11 (by decide)
  replace w := w.aloadN (pc' := 33) d21_32 rfl
  exact w.retA d21_33 ⟨t, kb, rfl, B0, F3⟩ nle nle
/-! compress of signs of which one is greater than 255 -/
set_option maxRecDepth 65536 in
theorem comp3 (l : Launch) (Z : State) (a0 : Array Value) (hw : ∀ d ∈ tables_1, d.before a0 Z = true) (hEL : EW Z a0 consts_1) {p : Program} {e : Env} {s : State} {m : MethodId} {args : Array Value} {below : List Frame} {meth : Method} {c : Code} {S0 : State} (hb : Heap) (b t : Addr) (kC kb : ClassId) (dc dv : Value) (cs : List Int32) (n : Nat) (hn : cs.length = n) (hl : n ≤ 9) (hpc : ∀ c ∈ cs, own_c16 c) (ne : b ≠ t) (ge_t_Z : Z.heap.size ≤ t) (f : Nat) :
    ∀ {V : Vm} (h0 : Heap) (i : Nat) (vs : List Value) (o6 : Slot), (o6 = .unset ∨ ∃ w, o6 = .val w ∧ w.category = 1) → i + f = n → vs.length = n → (∃ k, i ≤ k ∧ k < n ∧ 255 < cs.getD k 0) → Keep hb h0 [t] → Arv Z h0 t kb .byte (Int32.ofNat n) vs dv → Arv Z h0 b kC .char (Int32.ofNat n) (cs.map Value.int) dc →
      Wk p l e ({ frames := 0, cells := 0, slots := 0, locals := 0 } : Room) s m args below meth c Z a0 consts_1 S0 (⟨"java/lang/StringUTF16", "compress", "([CI[BII)I"⟩ : MethodName) jdk_52_method_21_code 7 (some .int) V h0 0 0 (mkF m 3 #[.val (.ref b), .val (.int (Int32.ofNat i)), .val (.ref t), .val (.int (Int32.ofNat i)), .val (.int (Int32.ofNat n)), .val (.int (Int32.ofNat i)), o6] []) → Fini p e below s Z consts_1 S0 0 0 (fun v h => ∃ k, v = some (.int (Int32.ofNat k)) ∧ k < n ∧ 255 < cs.getD k 0 ∧ Keep hb h [t]) := by
  induction f with
  | zero =>
    intro V h0 i vs o6 ho6 hi hvs hk Kb F A w
    obtain ⟨k, h1, h2, -⟩ := hk
    omega
  | succ f ih =>
    intro V h0 i vs o6 ho6 hi hvs hk Kb F A w
    have hil : i < cs.length := by omega
    replace w := w.iload (pc' := 5) d20_3 rfl
    replace w := w.iload (pc' := 7) d20_5 rfl
    replace w := w.icmpNo (pc' := 10) d20_7 ((tlt ((own_lt32 (by omega) (by omega)).mpr (by omega))).2.1)
    replace w := w.aloadN (pc' := 11) d20_10 rfl
    replace w := w.iloadN (pc' := 12) d20_11 rfl
    replace w := w.caload (v := (.int (cs.getD i 0))) A d20_12 ⟨(own_n32 (by omega)).1, (own_lt32 (by omega) (by omega)).mpr (by omega)⟩ (by rw [(own_n32 (n := i) (by omega)).2.1]; exact own_cget hil _) (pc' := 13)
    replace w := w.istore (pc' := 15) (L' := #[.val (.ref b), .val (.int (Int32.ofNat i)), .val (.ref t), .val (.int (Int32.ofNat i)), .val (.int (Int32.ofNat n)), .val (.int (Int32.ofNat i)), .val (.int (cs.getD i 0))]) d20_13 (XS.store1 rfl (ho6) rfl)
    replace w := w.iload (pc' := 17) d20_15 rfl
    replace w := w.sipush (pc' := 20) (255 : Int32) d20_17
    by_cases q : 255 < cs.getD i 0
    ·
      replace w := w.icmpNo (pc' := 23) d20_20 ((tlt q).2.2.2)
      replace w := w.iload (pc' := 25) d20_23 rfl
      exact w.retI d20_25 ⟨i, rfl, by omega, q, Kb⟩ nle nle
    replace w := w.icmpYes (pc' := 26) d20_20 ((flt q).2.2.2)
    replace w := w.aloadN (pc' := 27) d20_26 rfl
    replace w := w.iloadN (pc' := 28) d20_27 rfl
    replace w := w.iload (pc' := 30) d20_28 rfl
    replace w := w.i2b (pc' := 31) d20_30
    obtain ⟨h1, K1, F1, A1, w⟩ := w.bastore (x' := (cs.getD i 0).toInt8.toInt32.toInt8.toInt32) F d20_31 ⟨(own_n32 (by omega)).1, (own_lt32 (by omega) (by omega)).mpr (by omega)⟩ (rfl) (i) ((own_n32 (by omega)).2.1) (by omega) (ge_t_Z) (own_safeN hw w.hZ F (by omega) (by omega)) (pc' := 32)
    have ei : Int32.ofNat i + (1 : Int32) = Int32.ofNat (i + 1) := own_add32 (a := i) (b := 1) (by omega)
    replace w := w.iinc (pc' := 35) (L' := #[.val (.ref b), .val (.int ((Int32.ofNat i) + (1 : Int32))), .val (.ref t), .val (.int (Int32.ofNat i)), .val (.int (Int32.ofNat n)), .val (.int (Int32.ofNat i)), .val (.int (cs.getD i 0))]) d20_32 rfl rfl
    replace w := w.iinc (pc' := 38) (L' := #[.val (.ref b), .val (.int ((Int32.ofNat i) + (1 : Int32))), .val (.ref t), .val (.int ((Int32.ofNat i) + (1 : Int32))), .val (.int (Int32.ofNat n)), .val (.int (Int32.ofNat i)), .val (.int (cs.getD i 0))]) d20_35 rfl rfl
    replace w := w.iinc (pc' := 41) (L' := #[.val (.ref b), .val (.int ((Int32.ofNat i) + (1 : Int32))), .val (.ref t), .val (.int ((Int32.ofNat i) + (1 : Int32))), .val (.int (Int32.ofNat n)), .val (.int ((Int32.ofNat i) + (1 : Int32))), .val (.int (cs.getD i 0))]) d20_38 rfl rfl
    replace w := w.goto (pc' := 3) d20_41
    rw [ei] at w
    obtain ⟨k, h1, h2, h3⟩ := hk
    have hki : i ≠ k := fun z => q (z ▸ h3)
    exact ih _ (i + 1) _ _ (Or.inr ⟨_, rfl, rfl⟩) (by omega) (by rw [List.length_set]; exact hvs) ⟨k, by omega, h2, h3⟩ (Kb.trans K1 (allS (Or.inl (List.mem_cons_self ..)) all0)) F1 (A.keep K1 (ninS ne nin0)) w
set_option maxRecDepth 65536 in
theorem rmCMP (l : Launch) (Z : State) (a0 : Array Value) (hw : ∀ d ∈ tables_1, d.before a0 Z = true) (hEL : EW Z a0 consts_1) (b t : Addr) (kC kb : ClassId) (dc dv : Value) (cs : List Int32) (n : Nat) (hn : cs.length = n) (hl : n ≤ 9) (hpc : ∀ c ∈ cs, own_c16 c) (vs : List Value) (hvs : vs.length = n) (hk : ∃ k, 0 ≤ k ∧ k < n ∧ 255 < cs.getD k 0) (h0 : Heap) (hx : Ext Z.heap h0) (ne : b ≠ t) (ge_t_Z : Z.heap.size ≤ t) (F : Arv Z h0 t kb .byte (Int32.ofNat n) vs dv) (A : Arv Z h0 b kC .char (Int32.ofNat n) (cs.map Value.int) dc) :
    Met l Z consts_1 (⟨"java/lang/StringUTF16", "compress", "([CI[BII)I"⟩ : MethodName) jdk_52_method_21_code 7 (some .int) [] ({ frames := 0, cells := 0, slots := 0, locals := 0 } : Room) #[.ref b, .int 0, .ref t, .int 0, .int (Int32.ofNat n)] h0 [] (fun v h => ∃ k, v = some (.int (Int32.ofNat k)) ∧ k < n ∧ 255 < cs.getD k 0 ∧ Keep h0 h [t]) := by
  refine Met.of (a0 := a0) (by decide +kernel) hEL hx ?_
  intro p e s m below meth c S0 V w hs hsf
  replace w := w.to (g' := mkF m 0 #[.val (.ref b), .val (.int (0 : Int32)), .val (.ref t), .val (.int (0 : Int32)), .val (.int (Int32.ofNat n)), .unset, .unset] []) (by first | (simp [entryFrame, mkF, argsToLocals, Value.category]; done) | rfl)
  replace w := w.iconst (pc' := 1) (0 : Int32) d20_0
  replace w := w.istore (pc' := 3) (L' := #[.val (.ref b), .val (.int (0 : Int32)), .val (.ref t), .val (.int (0 : Int32)), .val (.int (Int32.ofNat n)), .val (.int (0 : Int32)), .unset]) d20_1 rfl
  exact comp3 l Z a0 hw hEL h0 b t kC kb dc dv cs n hn hl hpc ne ge_t_Z n h0 0 vs .unset (Or.inl rfl) (Nat.zero_add _) hvs hk (Keep.refl _ _) F A w
set_option maxRecDepth 65536 in
theorem rmCPR2 (l : Launch) (Z : State) (a0 : Array Value) (hw : ∀ d ∈ tables_1, d.before a0 Z = true) (hEL : EW Z a0 consts_1) (SA : Sta Z Z.heap "java/lang/StringUTF16" "$assertionsDisabled" "Z" (.int 1)) (SH : Sta Z Z.heap "java/lang/StringUTF16" "HI_BYTE_SHIFT" "I" (.int 0)) (SL : Sta Z Z.heap "java/lang/StringUTF16" "LO_BYTE_SHIFT" "I" (.int 8)) (b : Addr) (kC : ClassId) (dc : Value) (c0 c1 : Int32) (hpc : ∀ c ∈ [c0, c1], own_c16 c) (hk : ∃ k, 0 ≤ k ∧ k < 2 ∧ 255 < ([c0, c1] : List Int32).getD k 0) (h0 : Heap) (hx : Ext Z.heap h0) (A : Arv Z h0 b kC .char 2 (([c0, c1] : List Int32).map Value.int) dc) :
    Met l Z consts_1 (⟨"java/lang/StringUTF16", "compress", "([CII)[B"⟩ : MethodName) jdk_52_method_16_code 6 (some (.array .byte)) [] ({ frames := 3, cells := 2, slots := 6, locals := 40 } : Room) #[.ref b, .int 0, .int 2] h0 [] (fun v h => ∃ t kb, v = some (.ref t) ∧ Ext h0 h ∧ Arv Z h t kb .byte 4 (own_wide [c0, c1]) (.int 0)) := by
  refine Met.of (a0 := a0) (by decide +kernel) hEL hx ?_
  intro p e s m below meth c S0 V w hs hsf
  replace w := w.to (g' := mkF m 0 #[.val (.ref b), .val (.int (0 : Int32)), .val (.int (2 : Int32)), .unset, .unset, .unset] []) (by first | (simp [entryFrame, mkF, argsToLocals, Value.category]; done) | rfl)
  have BZ := w.old
  have B0 := extR h0
  have C0 := CHr.refl w.ch
  replace w := w.iloadN (pc' := 1) d19_0 rfl
  obtain ⟨h1, d, k_d, g_d, E1, V_d, S_d, A1, w⟩ := w.newarr (cap := 2) (hw _ (List.mem_of_getElem? (i := 29) rfl)) d19_1 (by decide) (by decide) nle nle (pc' := 3)
  have lt_d : d < h1.size := V_d.lt
  have ge_d_Z : Z.heap.size ≤ d := Nat.le_trans BZ.1 (Nat.le_of_eq g_d.symm)
  have ge_d_0 : h0.size ≤ d := Nat.le_trans B0.1 (Nat.le_of_eq g_d.symm)
  have BZ := extT BZ E1
  have B0 := extT B0 E1
  have C0 := C0.trans A1
  replace V_d := V_d.pad (vs' := [(.int (0 : Int32)), (.int (0 : Int32))]) (pad_rep [] _ 2)
  have ne : b ≠ d := Nat.ne_of_lt (Nat.lt_of_lt_of_le A.lt ge_d_0)
  have A1' := A.ext B0
  replace w := w.astoreN (pc' := 4) (L' := #[.val (.ref b), .val (.int (0 : Int32)), .val (.int (2 : Int32)), .val (.ref d), .unset, .unset]) d19_3 rfl
  replace w := w.aloadN (pc' := 5) d19_4 rfl
  replace w := w.iloadN (pc' := 6) d19_5 rfl
  replace w := w.aloadN (pc' := 7) d19_6 rfl
  replace w := w.iconst (pc' := 8) (0 : Int32) d19_7
  replace w := w.iloadN (pc' := 9) d19_8 rfl
  obtain ⟨v2, V2, h2, hq2, A2, w⟩ := w.static (y' := (⟨"java/lang/StringUTF16", "compress", "([CI[BII)I"⟩ : MethodName)) (W := 0) (w.pays 0 (rmCMP l Z a0 hw hEL b d kC k_d dc _ [c0, c1] 2 rfl nle hpc _ (by rfl) hk h1 w.old ne ge_d_Z V_d A1') (hw _ (List.mem_of_getElem? (i := 95) rfl)) (hw _ (List.mem_of_getElem? (i := 91) rfl)) all0 nle nle) (hw _ (List.mem_of_getElem? (i := 93) rfl)) (hw _ (List.mem_of_getElem? (i := 94) rfl)) (hw _ (List.mem_of_getElem? (i := 91) rfl)) (hw _ (List.mem_of_getElem? (i := 95) rfl)) (argsL := [(.ref b), (.int (0 : Int32)), (.ref d), (.int (0 : Int32)), (.int (2 : Int32))]) (rest := []) (by decide) pd_4 rfl rfl (Nat.le_of_eq rfl) rfl d19_9 nle nle (pc' := 12)
  obtain ⟨k, rfl, hkn, hk2, K2⟩ := hq2
  replace w := w.to (g' := mkF m 12 #[.val (.ref b), .val (.int (0 : Int32)), .val (.int (2 : Int32)), .val (.ref d), .unset, .unset] [(.int (Int32.ofNat k))]) rfl
  have B0 := extK B0 K2 (allS ge_d_0 all0)
  have BZ := extK BZ K2 (allS ge_d_Z all0)
  have A2' := A1'.keep K2 (ninS ne nin0)
  replace w := w.istore (pc' := 14) (L' := #[.val (.ref b), .val (.int (0 : Int32)), .val (.int (2 : Int32)), .val (.ref d), .val (.int (Int32.ofNat k)), .unset]) d19_12 rfl
  replace w := w.iload (pc' := 16) d19_14 rfl
  replace w := w.iloadN (pc' := 17) d19_16 rfl
  replace w := w.icmpNo (pc' := 20) d19_17 ((feq (fun z => Nat.ne_of_lt hkn ((own_eq32 (a := k) (b := 2) (by omega) (by omega)).mp z))).1)
  replace w := w.aloadN (pc' := 21) d19_20 rfl
  replace w := w.iloadN (pc' := 22) d19_21 rfl
  replace w := w.iloadN (pc' := 23) d19_22 rfl
  obtain ⟨v3, V3, h3, hq3, A3, w⟩ := w.static (y' := (⟨"java/lang/StringUTF16", "toBytes", "([CII)[B"⟩ : MethodName)) (W := 0) (w.pays 0 (rmTBY2 l Z a0 hw hEL SA SH SL b kC dc c0 c1 h2 w.old A2') (hw _ (List.mem_of_getElem? (i := 98) rfl)) (hw _ (List.mem_of_getElem? (i := 91) rfl)) all0 nle nle) (hw _ (List.mem_of_getElem? (i := 96) rfl)) (hw _ (List.mem_of_getElem? (i := 97) rfl)) (hw _ (List.mem_of_getElem? (i := 91) rfl)) (hw _ (List.mem_of_getElem? (i := 98) rfl)) (argsL := [(.ref b), (.int (0 : Int32)), (.int (2 : Int32))]) (rest := []) (by decide) pd_5 rfl rfl (Nat.le_of_eq rfl) rfl d19_23 nle nle (pc' := 26)
  obtain ⟨t, kb, rfl, E3, T⟩ := hq3
  replace w := w.to (g' := mkF m 26 #[.val (.ref b), .val (.int (0 : Int32)), .val (.int (2 : Int32)), .val (.ref d), .val (.int (Int32.ofNat k)), .unset] [(.ref t)]) rfl
  replace w := w.astore (pc' := 28) (L' := #[.val (.ref b), .val (.int (0 : Int32)), .val (.int (2 : Int32)), .val (.ref d), .val (.int (Int32.ofNat k)), .val (.ref t)]) d19_26 rfl
  replace w := w.aload (pc' := 30) d19_28 rfl
  replace w := w.iload (pc' := 32) d19_30 rfl
  obtain ⟨v4, V4, h4, hq4, A4, w⟩ := w.static (y' := (⟨"java/lang/StringUTF16", "getChar", "([BI)C"⟩ : MethodName)) (W := 0) (w.pays 0 (rmGCH l Z a0 hw hEL SA SH SL t kb [c0, c1] k nle hkn (hpc _ (own_gmem hkn)) h3 w.old T) (hw _ (List.mem_of_getElem? (i := 114) rfl)) (hw _ (List.mem_of_getElem? (i := 91) rfl)) all0 nle nle) (hw _ (List.mem_of_getElem? (i := 112) rfl)) (hw _ (List.mem_of_getElem? (i := 113) rfl)) (hw _ (List.mem_of_getElem? (i := 91) rfl)) (hw _ (List.mem_of_getElem? (i := 114) rfl)) (argsL := [(.ref t), (.int (Int32.ofNat k))]) (rest := []) (by decide) pd_6 rfl rfl (Nat.le_of_eq rfl) rfl d19_32 nle nle (pc' := 35)
  obtain ⟨rfl, he4⟩ := hq4
  replace w := w.to (g' := mkF m 35 #[.val (.ref b), .val (.int (0 : Int32)), .val (.int (2 : Int32)), .val (.ref d), .val (.int (Int32.ofNat k)), .val (.ref t)] [(.int (([c0, c1] : List Int32).getD k 0))]) rfl
  replace he4 := he4.symm
  subst he4
  replace w := w.sipush (pc' := 38) (255 : Int32) d19_35
  replace w := w.icmpYes (pc' := 54) d19_38 ((tlt hk2).2.2.1)
  replace w := w.aload (pc' := 56) d19_54 rfl
  exact w.retA d19_56 ⟨t, kb, rfl, extT B0 E3, T⟩ nle nle
set_option maxRecDepth 65536 in
theorem rmCFL2 (l : Launch) (Z : State) (a0 : Array Value) (hw : ∀ d ∈ tables_1, d.before a0 Z = true) (hEL : EW Z a0 consts_1) (t : Addr) (kb : ClassId) (vs : List Value) (dv : Value) (h0 : Heap) (hx : Ext Z.heap h0) (T : Arv Z h0 t kb .byte 4 vs dv) :
    Met l Z consts_1 (⟨"java/lang/StringUTF16", "coderFromArrayLen", "([BI)B"⟩ : MethodName) jdk_52_method_15_code 2 (some .byte) [] ({ frames := 0, cells := 0, slots := 0, locals := 0 } : Room) #[.ref t, .int 2] h0 [] (fun v h => v = some (.int 1) ∧ h = h0) := by
  refine Met.of (a0 := a0) (by decide +kernel) hEL hx ?_
  intro p e s m below meth c S0 V w hs hsf
  replace w := w.to (g' := mkF m 0 #[.val (.ref t), .val (.int (2 : Int32))] []) (by first | (simp [entryFrame, mkF, argsToLocals, Value.category]; done) | rfl)
  replace w := w.iloadN (pc' := 1) d26_0 rfl
  replace w := w.aloadN (pc' := 2) d26_1 rfl
  replace w := w.arrlen T d26_2 (pc' := 3)
  replace w := w.isub (pc' := 4) d26_3
  replace w := w.bipush (pc' := 6) (31 : Int32) d26_4
  replace w := w.iushr (pc' := 7) d26_6
  replace w := w.i2b (pc' := 8) d26_7
  exact w.retN d26_8 (by simp) ⟨congrArg (fun z => some (Value.int z)) (by decide), rfl⟩ nle nle
set_option maxRecDepth 65536 in
theorem rmI4w2 (l : Launch) (Z : State) (a0 : Array Value) (hw : ∀ d ∈ tables_1, d.before a0 Z = true) (hEL : EW Z a0 consts_1) (z0 : Int32) (Sc : Sta Z Z.heap "java/lang/String" "COMPACT_STRINGS" "Z" (.int z0)) (hz0 : ¬ z0 = 0) (SA : Sta Z Z.heap "java/lang/StringUTF16" "$assertionsDisabled" "Z" (.int 1)) (SH : Sta Z Z.heap "java/lang/StringUTF16" "HI_BYTE_SHIFT" "I" (.int 0)) (SL : Sta Z Z.heap "java/lang/StringUTF16" "LO_BYTE_SHIFT" "I" (.int 8)) (x b : Addr) (kC : ClassId) (dc : Value) (c0 c1 : Int32) (hpc : ∀ c ∈ [c0, c1], own_c16 c) (hk : ∃ k, 0 ≤ k ∧ k < 2 ∧ 255 < ([c0, c1] : List Int32).getD k 0) (h0 : Heap) (hx : Ext Z.heap h0) (A : Arv Z h0 b kC .char 2 (([c0, c1] : List Int32).map Value.int) dc) (X_x : Exa Z h0 x "java/lang/String") (Gv : Fld Z h0 x "java/lang/String" "value" "[B" .null) (Gc : Fld Z h0 x "java/lang/String" "coder" "B" (.int 0)) (ge_x_Z : Z.heap.size ≤ x) :
    Met l Z consts_1 (⟨"java/lang/String", "<init>", "([CIILjava/lang/Void;)V"⟩ : MethodName) jdk_42_method_149_code 6 none [] ({ frames := 4, cells := 2, slots := 6, locals := 57 } : Room) #[.ref x, .ref b, .int 0, .int 2, .null] h0 [x] (fun v h => v = none ∧ Keep h0 h [x] ∧ WSt Z h x [c0, c1]) := by
  refine Met.of (a0 := a0) (by decide +kernel) hEL hx ?_
  intro p e s m below meth c S0 V w hs hsf
  have Sx := hsf x (List.mem_cons_self ..)
  replace w := w.to (g' := mkF m 0 #[.val (.ref x), .val (.ref b), .val (.int (0 : Int32)), .val (.int (2 : Int32)), .val .null, .unset] []) (by first | (simp [entryFrame, mkF, argsToLocals, Value.category]; done) | rfl)
  replace w := w.aloadN (pc' := 1) d5_0 rfl
  replace w := w.initO 0 (hw _ (List.mem_of_getElem? (i := 25) rfl)) (hw _ (List.mem_of_getElem? (i := 26) rfl)) (hw _ (List.mem_of_getElem? (i := 27) rfl)) rfl d5_1 (by decide) (Nat.le_of_eq rfl) (by decide) (pc' := 4)
  replace w := w.iloadN (pc' := 5) d5_4 rfl
  replace w := w.ifYes (pc' := 27) d5_5 (by decide)
  replace w := w.getS (hw _ (List.mem_of_getElem? (i := 50) rfl)) Sc d5_27 (pc' := 30)
  replace w := w.ifNo (pc' := 33) d5_30 ((if0 _ _).trans (feq hz0).1)
  replace w := w.aloadN (pc' := 34) d5_33 rfl
  replace w := w.iloadN (pc' := 35) d5_34 rfl
  replace w := w.iloadN (pc' := 36) d5_35 rfl
  obtain ⟨v1, V1, h1, hq1, A1, w⟩ := w.static (y' := (⟨"java/lang/StringUTF16", "compress", "([CII)[B"⟩ : MethodName)) (W := 0) (w.pays 0 (rmCPR2 l Z a0 hw hEL SA SH SL b kC dc c0 c1 hpc hk h0 w.old A) (hw _ (List.mem_of_getElem? (i := 92) rfl)) (hw _ (List.mem_of_getElem? (i := 91) rfl)) all0 nle nle) (hw _ (List.mem_of_getElem? (i := 89) rfl)) (hw _ (List.mem_of_getElem? (i := 90) rfl)) (hw _ (List.mem_of_getElem? (i := 91) rfl)) (hw _ (List.mem_of_getElem? (i := 92) rfl)) (argsL := [(.ref b), (.int (0 : Int32)), (.int (2 : Int32))]) (rest := []) (by decide) pd_5 rfl rfl (Nat.le_of_eq rfl) rfl d5_36 nle nle (pc' := 39)
  obtain ⟨t, kb, rfl, E1, T⟩ := hq1
  replace w := w.to (g' := mkF m 39 #[.val (.ref x), .val (.ref b), .val (.int (0 : Int32)), .val (.int (2 : Int32)), .val .null, .unset] [(.ref t)]) rfl
  have X1 := X_x.ext E1
  have Sx1 := A1.safe X_x.lt Sx
  have ne : x ≠ t := Exa.neArv X1 T (hw _ (List.mem_of_getElem? (i := 16) rfl))
  replace w := w.astore (pc' := 41) (L' := #[.val (.ref x), .val (.ref b), .val (.int (0 : Int32)), .val (.int (2 : Int32)), .val .null, .val (.ref t)]) d5_39 rfl
  replace w := w.aloadN (pc' := 42) d5_41 rfl
  replace w := w.aload (pc' := 44) d5_42 rfl
  replace w := w.iloadN (pc' := 45) d5_44 rfl
  obtain ⟨v2, V2, h2, hq2, A2, w⟩ := w.static (y' := (⟨"java/lang/StringUTF16", "coderFromArrayLen", "([BI)B"⟩ : MethodName)) (W := 1) (w.pays 1 (rmCFL2 l Z a0 hw hEL t kb _ _ h1 w.old T) (hw _ (List.mem_of_getElem? (i := 117) rfl)) (hw _ (List.mem_of_getElem? (i := 91) rfl)) all0 nle nle) (hw _ (List.mem_of_getElem? (i := 115) rfl)) (hw _ (List.mem_of_getElem? (i := 116) rfl)) (hw _ (List.mem_of_getElem? (i := 91) rfl)) (hw _ (List.mem_of_getElem? (i := 117) rfl)) (argsL := [(.ref t), (.int (2 : Int32))]) (rest := [(.ref x)]) (by decide) pd_7 rfl rfl (Nat.le_of_eq rfl) rfl d5_45 nle nle (pc' := 48)
  obtain ⟨rfl, he2⟩ := hq2
  replace w := w.to (g' := mkF m 48 #[.val (.ref x), .val (.ref b), .val (.int (0 : Int32)), .val (.int (2 : Int32)), .val .null, .val (.ref t)] [(.int (1 : Int32)), (.ref x)]) rfl
  replace he2 := he2.symm
  subst he2
  have Sx2 := A2.safe X1.lt Sx1
  obtain ⟨h3, W3, K3, Fw3, A3, w⟩ := w.putFN (v' := (.int (1 : Int32))) (ty := .byte) (hw _ (List.mem_of_getElem? (i := 35) rfl)) (Gc.ext E1) (X1) (Or.inr ⟨(hw _ (List.mem_of_getElem? (i := 31) rfl)), rfl, rfl⟩) (hw _ (List.mem_of_getElem? (i := 16) rfl)) (by decide) (rfl) (by decide) (Sx2) (ge_x_Z) d5_48 (pc' := 51)
  have X3 := X1.wr W3
  have Gv3 := (Gv.ext E1).other W3 (Or.inr (own_svc hw))
  have Sx3 := A3.safe X1.lt Sx2
  replace w := w.aloadN (pc' := 52) d5_51 rfl
  replace w := w.aload (pc' := 54) d5_52 rfl
  obtain ⟨h4, W4, K4, Fw4, A4, w⟩ := w.putF (ty := (.array .byte)) (hw _ (List.mem_of_getElem? (i := 34) rfl)) (Gv3) (X3) (Or.inr ⟨(hw _ (List.mem_of_getElem? (i := 30) rfl)), rfl, rfl⟩) (hw _ (List.mem_of_getElem? (i := 16) rfl)) (by decide) rfl rfl (Sx3) (ge_x_Z) d5_54 (pc' := 57)
  have K04 : Keep h0 h4 [x] := ((keepE E1 [x]).trans K3 (allS (Or.inl (List.mem_cons_self ..)) all0)).trans K4 (allS (Or.inl (List.mem_cons_self ..)) all0)
  exact w.ret0 d5_57 ⟨rfl, K04, hpc, t, kb, X3.wr W4, Fw4, Fw3.other W4 (Or.inr (own_svc hw).symm), (T.other W3 ne.symm).other W4 ne.symm⟩ nle nle
set_option maxRecDepth 65536 in
theorem rmI1w2 (l : Launch) (Z : State) (a0 : Array Value) (hw : ∀ d ∈ tables_1, d.before a0 Z = true) (hEL : EW Z a0 consts_1) (z0 : Int32) (Sc : Sta Z Z.heap "java/lang/String" "COMPACT_STRINGS" "Z" (.int z0)) (hz0 : ¬ z0 = 0) (SA : Sta Z Z.heap "java/lang/StringUTF16" "$assertionsDisabled" "Z" (.int 1)) (SH : Sta Z Z.heap "java/lang/StringUTF16" "HI_BYTE_SHIFT" "I" (.int 0)) (SL : Sta Z Z.heap "java/lang/StringUTF16" "LO_BYTE_SHIFT" "I" (.int 8)) (x b : Addr) (kC : ClassId) (dc : Value) (c0 c1 : Int32) (hpc : ∀ c ∈ [c0, c1], own_c16 c) (hk : ∃ k, 0 ≤ k ∧ k < 2 ∧ 255 < ([c0, c1] : List Int32).getD k 0) (h0 : Heap) (hx : Ext Z.heap h0) (A : Arv Z h0 b kC .char 2 (([c0, c1] : List Int32).map Value.int) dc) (X_x : Exa Z h0 x "java/lang/String") (Gv : Fld Z h0 x "java/lang/String" "value" "[B" .null) (Gc : Fld Z h0 x "java/lang/String" "coder" "B" (.int 0)) (ge_x_Z : Z.heap.size ≤ x) :
    Met l Z consts_1 (⟨"java/lang/String", "<init>", "([C)V"⟩ : MethodName) jdk_42_method_3_code 2 none [] ({ frames := 5, cells := 2, slots := 6, locals := 74 } : Room) #[.ref x, .ref b] h0 [x] (fun v h => v = none ∧ Keep h0 h [x] ∧ WSt Z h x [c0, c1]) := by
  refine Met.of (a0 := a0) (by decide +kernel) hEL hx ?_
  intro p e s m below meth c S0 V w hs hsf
  have Sx := hsf x (List.mem_cons_self ..)
  replace w := w.to (g' := mkF m 0 #[.val (.ref x), .val (.ref b)] []) (by first | (simp [entryFrame, mkF, argsToLocals, Value.category]; done) | rfl)
  replace w := w.aloadN (pc' := 1) d4_0 rfl
  replace w := w.aloadN (pc' := 2) d4_1 rfl
  replace w := w.iconst (pc' := 3) (0 : Int32) d4_2
  replace w := w.aloadN (pc' := 4) d4_3 rfl
  replace w := w.arrlen A d4_4 (pc' := 5)
  replace w := w.aconstNull (pc' := 6) d4_5
  obtain ⟨v1, V1, h1, hq1, A1, w⟩ := w.ctor (y' := (⟨"java/lang/String", "<init>", "([CIILjava/lang/Void;)V"⟩ : MethodName)) (W := 0) (a := x) (w.pays 0 (rmI4w2 l Z a0 hw hEL z0 Sc hz0 SA SH SL x b kC dc c0 c1 hpc hk h0 w.old A X_x Gv Gc ge_x_Z) (hw _ (List.mem_of_getElem? (i := 24) rfl)) (hw _ (List.mem_of_getElem? (i := 17) rfl)) (allS Sx all0) nle nle) rfl (hw _ (List.mem_of_getElem? (i := 21) rfl)) (hw _ (List.mem_of_getElem? (i := 22) rfl)) (hw _ (List.mem_of_getElem? (i := 24) rfl)) (argsL := [(.ref b), (.int (0 : Int32)), (.int (2 : Int32)), .null]) (rest := []) (by decide) pd_0 rfl rfl (Nat.le_of_eq rfl) rfl d4_6 nle nle (pc' := 9)
  obtain ⟨rfl, K1, T1⟩ := hq1
  replace w := w.to (g' := mkF m 9 #[.val (.ref x), .val (.ref b)] []) rfl
  exact w.ret0 d4_9 ⟨rfl, K1, T1⟩ nle nle
set_option maxRecDepth 65536 in
theorem rmCPR3 (l : Launch) (Z : State) (a0 : Array Value) (hw : ∀ d ∈ tables_1, d.before a0 Z = true) (hEL : EW Z a0 consts_1) (SA : Sta Z Z.heap "java/lang/StringUTF16" "$assertionsDisabled" "Z" (.int 1)) (SH : Sta Z Z.heap "java/lang/StringUTF16" "HI_BYTE_SHIFT" "I" (.int 0)) (SL : Sta Z Z.heap "java/lang/StringUTF16" "LO_BYTE_SHIFT" "I" (.int 8)) (b : Addr) (kC : ClassId) (dc : Value) (c0 c1 c2 : Int32) (hpc : ∀ c ∈ [c0, c1, c2], own_c16 c) (hk : ∃ k, 0 ≤ k ∧ k < 3 ∧ 255 < ([c0, c1, c2] : List Int32).getD k 0) (h0 : Heap) (hx : Ext Z.heap h0) (A : Arv Z h0 b kC .char 3 (([c0, c1, c2] : List Int32).map Value.int) dc) :
    Met l Z consts_1 (⟨"java/lang/StringUTF16", "compress", "([CII)[B"⟩ : MethodName) jdk_52_method_16_code 6 (some (.array .byte)) [] ({ frames := 3, cells := 2, slots := 9, locals := 40 } : Room) #[.ref b, .int 0, .int 3] h0 [] (fun v h => ∃ t kb, v = some (.ref t) ∧ Ext h0 h ∧ Arv Z h t kb .byte 6 (own_wide [c0, c1, c2]) (.int 0)) := by
  refine Met.of (a0 := a0) (by decide +kernel) hEL hx ?_
  intro p e s m below meth c S0 V w hs hsf
  replace w := w.to (g' := mkF m 0 #[.val (.ref b), .val (.int (0 : Int32)), .val (.int (3 : Int32)), .unset, .unset, .unset] []) (by first | (simp [entryFrame, mkF, argsToLocals, Value.category]; done) | rfl)
  have BZ := w.old
  have B0 := extR h0
  have C0 := CHr.refl w.ch
  replace w := w.iloadN (pc' := 1) d19_0 rfl
  obtain ⟨h1, d, k_d, g_d, E1, V_d, S_d, A1, w⟩ := w.newarr (cap := 3) (hw _ (List.mem_of_getElem? (i := 29) rfl)) d19_1 (by decide) (by decide) nle nle (pc' := 3)
  have lt_d : d < h1.size := V_d.lt
  have ge_d_Z : Z.heap.size ≤ d := Nat.le_trans BZ.1 (Nat.le_of_eq g_d.symm)
  have ge_d_0 : h0.size ≤ d := Nat.le_trans B0.1 (Nat.le_of_eq g_d.symm)
  have BZ := extT BZ E1
  have B0 := extT B0 E1
  have C0 := C0.trans A1
  replace V_d := V_d.pad (vs' := [(.int (0 : Int32)), (.int (0 : Int32)), (.int (0 : Int32))]) (pad_rep [] _ 3)
  have ne : b ≠ d := Nat.ne_of_lt (Nat.lt_of_lt_of_le A.lt ge_d_0)
  have A1' := A.ext B0
  replace w := w.astoreN (pc' := 4) (L' := #[.val (.ref b), .val (.int (0 : Int32)), .val (.int (3 : Int32)), .val (.ref d), .unset, .unset]) d19_3 rfl
  replace w := w.aloadN (pc' := 5) d19_4 rfl
  replace w := w.iloadN (pc' := 6) d19_5 rfl
  replace w := w.aloadN (pc' := 7) d19_6 rfl
  replace w := w.iconst (pc' := 8) (0 : Int32) d19_7
  replace w := w.iloadN (pc' := 9) d19_8 rfl
  obtain ⟨v2, V2, h2, hq2, A2, w⟩ := w.static (y' := (⟨"java/lang/StringUTF16", "compress", "([CI[BII)I"⟩ : MethodName)) (W := 0) (w.pays 0 (rmCMP l Z a0 hw hEL b d kC k_d dc _ [c0, c1, c2] 3 rfl nle hpc _ (by rfl) hk h1 w.old ne ge_d_Z V_d A1') (hw _ (List.mem_of_getElem? (i := 95) rfl)) (hw _ (List.mem_of_getElem? (i := 91) rfl)) all0 nle nle) (hw _ (List.mem_of_getElem? (i := 93) rfl)) (hw _ (List.mem_of_getElem? (i := 94) rfl)) (hw _ (List.mem_of_getElem? (i := 91) rfl)) (hw _ (List.mem_of_getElem? (i := 95) rfl)) (argsL := [(.ref b), (.int (0 : Int32)), (.ref d), (.int (0 : Int32)), (.int (3 : Int32))]) (rest := []) (by decide) pd_4 rfl rfl (Nat.le_of_eq rfl) rfl d19_9 nle nle (pc' := 12)
  obtain ⟨k, rfl, hkn, hk2, K2⟩ := hq2
  replace w := w.to (g' := mkF m 12 #[.val (.ref b), .val (.int (0 : Int32)), .val (.int (3 : Int32)), .val (.ref d), .unset, .unset] [(.int (Int32.ofNat k))]) rfl
  have B0 := extK B0 K2 (allS ge_d_0 all0)
  have BZ := extK BZ K2 (allS ge_d_Z all0)
  have A2' := A1'.keep K2 (ninS ne nin0)
  replace w := w.istore (pc' := 14) (L' := #[.val (.ref b), .val (.int (0 : Int32)), .val (.int (3 : Int32)), .val (.ref d), .val (.int (Int32.ofNat k)), .unset]) d19_12 rfl
  replace w := w.iload (pc' := 16) d19_14 rfl
  replace w := w.iloadN (pc' := 17) d19_16 rfl
  replace w := w.icmpNo (pc' := 20) d19_17 ((feq (fun z => Nat.ne_of_lt hkn ((own_eq32 (a := k) (b := 3) (by omega) (by omega)).mp z))).1)
  replace w := w.aloadN (pc' := 21) d19_20 rfl
  replace w := w.iloadN (pc' := 22) d19_21 rfl
  replace w := w.iloadN (pc' := 23) d19_22 rfl
  obtain ⟨v3, V3, h3, hq3, A3, w⟩ := w.static (y' := (⟨"java/lang/StringUTF16", "toBytes", "([CII)[B"⟩ : MethodName)) (W := 0) (w.pays 0 (rmTBY3 l Z a0 hw hEL SA SH SL b kC dc c0 c1 c2 h2 w.old A2') (hw _ (List.mem_of_getElem? (i := 98) rfl)) (hw _ (List.mem_of_getElem? (i := 91) rfl)) all0 nle nle) (hw _ (List.mem_of_getElem? (i := 96) rfl)) (hw _ (List.mem_of_getElem? (i := 97) rfl)) (hw _ (List.mem_of_getElem? (i := 91) rfl)) (hw _ (List.mem_of_getElem? (i := 98) rfl)) (argsL := [(.ref b), (.int (0 : Int32)), (.int (3 : Int32))]) (rest := []) (by decide) pd_5 rfl rfl (Nat.le_of_eq rfl) rfl d19_23 nle nle (pc' := 26)
  obtain ⟨t, kb, rfl, E3, T⟩ := hq3
  replace w := w.to (g' := mkF m 26 #[.val (.ref b), .val (.int (0 : Int32)), .val (.int (3 : Int32)), .val (.ref d), .val (.int (Int32.ofNat k)), .unset] [(.ref t)]) rfl
  replace w := w.astore (pc' := 28) (L' := #[.val (.ref b), .val (.int (0 : Int32)), .val (.int (3 : Int32)), .val (.ref d), .val (.int (Int32.ofNat k)), .val (.ref t)]) d19_26 rfl
  replace w := w.aload (pc' := 30) d19_28 rfl
  replace w := w.iload (pc' := 32) d19_30 rfl
  obtain ⟨v4, V4, h4, hq4, A4, w⟩ := w.static (y' := (⟨"java/lang/StringUTF16", "getChar", "([BI)C"⟩ : MethodName)) (W := 0) (w.pays 0 (rmGCH l Z a0 hw hEL SA SH SL t kb [c0, c1, c2] k nle hkn (hpc _ (own_gmem hkn)) h3 w.old T) (hw _ (List.mem_of_getElem? (i := 114) rfl)) (hw _ (List.mem_of_getElem? (i := 91) rfl)) all0 nle nle) (hw _ (List.mem_of_getElem? (i := 112) rfl)) (hw _ (List.mem_of_getElem? (i := 113) rfl)) (hw _ (List.mem_of_getElem? (i := 91) rfl)) (hw _ (List.mem_of_getElem? (i := 114) rfl)) (argsL := [(.ref t), (.int (Int32.ofNat k))]) (rest := []) (by decide) pd_6 rfl rfl (Nat.le_of_eq rfl) rfl d19_32 nle nle (pc' := 35)
  obtain ⟨rfl, he4⟩ := hq4
  replace w := w.to (g' := mkF m 35 #[.val (.ref b), .val (.int (0 : Int32)), .val (.int (3 : Int32)), .val (.ref d), .val (.int (Int32.ofNat k)), .val (.ref t)] [(.int (([c0, c1, c2] : List Int32).getD k 0))]) rfl
  replace he4 := he4.symm
  subst he4
  replace w := w.sipush (pc' := 38) (255 : Int32) d19_35
  replace w := w.icmpYes (pc' := 54) d19_38 ((tlt hk2).2.2.1)
  replace w := w.aload (pc' := 56) d19_54 rfl
  exact w.retA d19_56 ⟨t, kb, rfl, extT B0 E3, T⟩ nle nle
set_option maxRecDepth 65536 in
theorem rmCFL3 (l : Launch) (Z : State) (a0 : Array Value) (hw : ∀ d ∈ tables_1, d.before a0 Z = true) (hEL : EW Z a0 consts_1) (t : Addr) (kb : ClassId) (vs : List Value) (dv : Value) (h0 : Heap) (hx : Ext Z.heap h0) (T : Arv Z h0 t kb .byte 6 vs dv) :
    Met l Z consts_1 (⟨"java/lang/StringUTF16", "coderFromArrayLen", "([BI)B"⟩ : MethodName) jdk_52_method_15_code 2 (some .byte) [] ({ frames := 0, cells := 0, slots := 0, locals := 0 } : Room) #[.ref t, .int 3] h0 [] (fun v h => v = some (.int 1) ∧ h = h0) := by
  refine Met.of (a0 := a0) (by decide +kernel) hEL hx ?_
  intro p e s m below meth c S0 V w hs hsf
  replace w := w.to (g' := mkF m 0 #[.val (.ref t), .val (.int (3 : Int32))] []) (by first | (simp [entryFrame, mkF, argsToLocals, Value.category]; done) | rfl)
  replace w := w.iloadN (pc' := 1) d26_0 rfl
  replace w := w.aloadN (pc' := 2) d26_1 rfl
  replace w := w.arrlen T d26_2 (pc' := 3)
  replace w := w.isub (pc' := 4) d26_3
  replace w := w.bipush (pc' := 6) (31 : Int32) d26_4
  replace w := w.iushr (pc' := 7) d26_6
  replace w := w.i2b (pc' := 8) d26_7
  exact w.retN d26_8 (by simp) ⟨congrArg (fun z => some (Value.int z)) (by decide), rfl⟩ nle nle
set_option maxRecDepth 65536 in
theorem rmI4w3 (l : Launch) (Z : State) (a0 : Array Value) (hw : ∀ d ∈ tables_1, d.before a0 Z = true) (hEL : EW Z a0 consts_1) (z0 : Int32) (Sc : Sta Z Z.heap "java/lang/String" "COMPACT_STRINGS" "Z" (.int z0)) (hz0 : ¬ z0 = 0) (SA : Sta Z Z.heap "java/lang/StringUTF16" "$assertionsDisabled" "Z" (.int 1)) (SH : Sta Z Z.heap "java/lang/StringUTF16" "HI_BYTE_SHIFT" "I" (.int 0)) (SL : Sta Z Z.heap "java/lang/StringUTF16" "LO_BYTE_SHIFT" "I" (.int 8)) (x b : Addr) (kC : ClassId) (dc : Value) (c0 c1 c2 : Int32) (hpc : ∀ c ∈ [c0, c1, c2], own_c16 c) (hk : ∃ k, 0 ≤ k ∧ k < 3 ∧ 255 < ([c0, c1, c2] : List Int32).getD k 0) (h0 : Heap) (hx : Ext Z.heap h0) (A : Arv Z h0 b kC .char 3 (([c0, c1, c2] : List Int32).map Value.int) dc) (X_x : Exa Z h0 x "java/lang/String") (Gv : Fld Z h0 x "java/lang/String" "value" "[B" .null) (Gc : Fld Z h0 x "java/lang/String" "coder" "B" (.int 0)) (ge_x_Z : Z.heap.size ≤ x) :
    Met l Z consts_1 (⟨"java/lang/String", "<init>", "([CIILjava/lang/Void;)V"⟩ : MethodName) jdk_42_method_149_code 6 none [] ({ frames := 4, cells := 2, slots := 9, locals := 57 } : Room) #[.ref x, .ref b, .int 0, .int 3, .null] h0 [x] (fun v h => v = none ∧ Keep h0 h [x] ∧ WSt Z h x [c0, c1, c2]) := by
  refine Met.of (a0 := a0) (by decide +kernel) hEL hx ?_
  intro p e s m below meth c S0 V w hs hsf
  have Sx := hsf x (List.mem_cons_self ..)
  replace w := w.to (g' := mkF m 0 #[.val (.ref x), .val (.ref b), .val (.int (0 : Int32)), .val (.int (3 : Int32)), .val .null, .unset] []) (by first | (simp [entryFrame, mkF, argsToLocals, Value.category]; done) | rfl)
  replace w := w.aloadN (pc' := 1) d5_0 rfl
  replace w := w.initO 0 (hw _ (List.mem_of_getElem? (i := 25) rfl)) (hw _ (List.mem_of_getElem? (i := 26) rfl)) (hw _ (List.mem_of_getElem? (i := 27) rfl)) rfl d5_1 (by decide) (Nat.le_of_eq rfl) (by decide) (pc' := 4)
  replace w := w.iloadN (pc' := 5) d5_4 rfl
  replace w := w.ifYes (pc' := 27) d5_5 (by decide)
  replace w := w.getS (hw _ (List.mem_of_getElem? (i := 50) rfl)) Sc d5_27 (pc' := 30)
  replace w := w.ifNo (pc' := 33) d5_30 ((if0 _ _).trans (feq hz0).1)
  replace w := w.aloadN (pc' := 34) d5_33 rfl
  replace w := w.iloadN (pc' := 35) d5_34 rfl
  replace w := w.iloadN (pc' := 36) d5_35 rfl
  obtain ⟨v1, V1, h1, hq1, A1, w⟩ := w.static (y' := (⟨"java/lang/StringUTF16", "compress", "([CII)[B"⟩ : MethodName)) (W := 0) (w.pays 0 (rmCPR3 l Z a0 hw hEL SA SH SL b kC dc c0 c1 c2 hpc hk h0 w.old A) (hw _ (List.mem_of_getElem? (i := 92) rfl)) (hw _ (List.mem_of_getElem? (i := 91) rfl)) all0 nle nle) (hw _ (List.mem_of_getElem? (i := 89) rfl)) (hw _ (List.mem_of_getElem? (i := 90) rfl)) (hw _ (List.mem_of_getElem? (i := 91) rfl)) (hw _ (List.mem_of_getElem? (i := 92) rfl)) (argsL := [(.ref b), (.int (0 : Int32)), (.int (3 : Int32))]) (rest := []) (by decide) pd_5 rfl rfl (Nat.le_of_eq rfl) rfl d5_36 nle nle (pc' := 39)
  obtain ⟨t, kb, rfl, E1, T⟩ := hq1
  replace w := w.to (g' := mkF m 39 #[.val (.ref x), .val (.ref b), .val (.int (0 : Int32)), .val (.int (3 : Int32)), .val .null, .unset] [(.ref t)]) rfl
  have X1 := X_x.ext E1
  have Sx1 := A1.safe X_x.lt Sx
  have ne : x ≠ t := Exa.neArv X1 T (hw _ (List.mem_of_getElem? (i := 16) rfl))
  replace w := w.astore (pc' := 41) (L' := #[.val (.ref x), .val (.ref b), .val (.int (0 : Int32)), .val (.int (3 : Int32)), .val .null, .val (.ref t)]) d5_39 rfl
  replace w := w.aloadN (pc' := 42) d5_41 rfl
  replace w := w.aload (pc' := 44) d5_42 rfl
  replace w := w.iloadN (pc' := 45) d5_44 rfl
  obtain ⟨v2, V2, h2, hq2, A2, w⟩ := w.static (y' := (⟨"java/lang/StringUTF16", "coderFromArrayLen", "([BI)B"⟩ : MethodName)) (W := 1) (w.pays 1 (rmCFL3 l Z a0 hw hEL t kb _ _ h1 w.old T) (hw _ (List.mem_of_getElem? (i := 117) rfl)) (hw _ (List.mem_of_getElem? (i := 91) rfl)) all0 nle nle) (hw _ (List.mem_of_getElem? (i := 115) rfl)) (hw _ (List.mem_of_getElem? (i := 116) rfl)) (hw _ (List.mem_of_getElem? (i := 91) rfl)) (hw _ (List.mem_of_getElem? (i := 117) rfl)) (argsL := [(.ref t), (.int (3 : Int32))]) (rest := [(.ref x)]) (by decide) pd_7 rfl rfl (Nat.le_of_eq rfl) rfl d5_45 nle nle (pc' := 48)
  obtain ⟨rfl, he2⟩ := hq2
  replace w := w.to (g' := mkF m 48 #[.val (.ref x), .val (.ref b), .val (.int (0 : Int32)), .val (.int (3 : Int32)), .val .null, .val (.ref t)] [(.int (1 : Int32)), (.ref x)]) rfl
  replace he2 := he2.symm
  subst he2
  have Sx2 := A2.safe X1.lt Sx1
  obtain ⟨h3, W3, K3, Fw3, A3, w⟩ := w.putFN (v' := (.int (1 : Int32))) (ty := .byte) (hw _ (List.mem_of_getElem? (i := 35) rfl)) (Gc.ext E1) (X1) (Or.inr ⟨(hw _ (List.mem_of_getElem? (i := 31) rfl)), rfl, rfl⟩) (hw _ (List.mem_of_getElem? (i := 16) rfl)) (by decide) (rfl) (by decide) (Sx2) (ge_x_Z) d5_48 (pc' := 51)
  have X3 := X1.wr W3
  have Gv3 := (Gv.ext E1).other W3 (Or.inr (own_svc hw))
  have Sx3 := A3.safe X1.lt Sx2
  replace w := w.aloadN (pc' := 52) d5_51 rfl
  replace w := w.aload (pc' := 54) d5_52 rfl
  obtain ⟨h4, W4, K4, Fw4, A4, w⟩ := w.putF (ty := (.array .byte)) (hw _ (List.mem_of_getElem? (i := 34) rfl)) (Gv3) (X3) (Or.inr ⟨(hw _ (List.mem_of_getElem? (i := 30) rfl)), rfl, rfl⟩) (hw _ (List.mem_of_getElem? (i := 16) rfl)) (by decide) rfl rfl (Sx3) (ge_x_Z) d5_54 (pc' := 57)
  have K04 : Keep h0 h4 [x] := ((keepE E1 [x]).trans K3 (allS (Or.inl (List.mem_cons_self ..)) all0)).trans K4 (allS (Or.inl (List.mem_cons_self ..)) all0)
  exact w.ret0 d5_57 ⟨rfl, K04, hpc, t, kb, X3.wr W4, Fw4, Fw3.other W4 (Or.inr (own_svc hw).symm), (T.other W3 ne.symm).other W4 ne.symm⟩ nle nle
set_option maxRecDepth 65536 in
theorem rmI1w3 (l : Launch) (Z : State) (a0 : Array Value) (hw : ∀ d ∈ tables_1, d.before a0 Z = true) (hEL : EW Z a0 consts_1) (z0 : Int32) (Sc : Sta Z Z.heap "java/lang/String" "COMPACT_STRINGS" "Z" (.int z0)) (hz0 : ¬ z0 = 0) (SA : Sta Z Z.heap "java/lang/StringUTF16" "$assertionsDisabled" "Z" (.int 1)) (SH : Sta Z Z.heap "java/lang/StringUTF16" "HI_BYTE_SHIFT" "I" (.int 0)) (SL : Sta Z Z.heap "java/lang/StringUTF16" "LO_BYTE_SHIFT" "I" (.int 8)) (x b : Addr) (kC : ClassId) (dc : Value) (c0 c1 c2 : Int32) (hpc : ∀ c ∈ [c0, c1, c2], own_c16 c) (hk : ∃ k, 0 ≤ k ∧ k < 3 ∧ 255 < ([c0, c1, c2] : List Int32).getD k 0) (h0 : Heap) (hx : Ext Z.heap h0) (A : Arv Z h0 b kC .char 3 (([c0, c1, c2] : List Int32).map Value.int) dc) (X_x : Exa Z h0 x "java/lang/String") (Gv : Fld Z h0 x "java/lang/String" "value" "[B" .null) (Gc : Fld Z h0 x "java/lang/String" "coder" "B" (.int 0)) (ge_x_Z : Z.heap.size ≤ x) :
    Met l Z consts_1 (⟨"java/lang/String", "<init>", "([C)V"⟩ : MethodName) jdk_42_method_3_code 2 none [] ({ frames := 5, cells := 2, slots := 9, locals := 74 } : Room) #[.ref x, .ref b] h0 [x] (fun v h => v = none ∧ Keep h0 h [x] ∧ WSt Z h x [c0, c1, c2]) := by
  refine Met.of (a0 := a0) (by decide +kernel) hEL hx ?_
  intro p e s m below meth c S0 V w hs hsf
  have Sx := hsf x (List.mem_cons_self ..)
  replace w := w.to (g' := mkF m 0 #[.val (.ref x), .val (.ref b)] []) (by first | (simp [entryFrame, mkF, argsToLocals, Value.category]; done) | rfl)
  replace w := w.aloadN (pc' := 1) d4_0 rfl
  replace w := w.aloadN (pc' := 2) d4_1 rfl
  replace w := w.iconst (pc' := 3) (0 : Int32) d4_2
  replace w := w.aloadN (pc' := 4) d4_3 rfl
  replace w := w.arrlen A d4_4 (pc' := 5)
  replace w := w.aconstNull (pc' := 6) d4_5
  obtain ⟨v1, V1, h1, hq1, A1, w⟩ := w.ctor (y' := (⟨"java/lang/String", "<init>", "([CIILjava/lang/Void;)V"⟩ : MethodName)) (W := 0) (a := x) (w.pays 0 (rmI4w3 l Z a0 hw hEL z0 Sc hz0 SA SH SL x b kC dc c0 c1 c2 hpc hk h0 w.old A X_x Gv Gc ge_x_Z) (hw _ (List.mem_of_getElem? (i := 24) rfl)) (hw _ (List.mem_of_getElem? (i := 17) rfl)) (allS Sx all0) nle nle) rfl (hw _ (List.mem_of_getElem? (i := 21) rfl)) (hw _ (List.mem_of_getElem? (i := 22) rfl)) (hw _ (List.mem_of_getElem? (i := 24) rfl)) (argsL := [(.ref b), (.int (0 : Int32)), (.int (3 : Int32)), .null]) (rest := []) (by decide) pd_0 rfl rfl (Nat.le_of_eq rfl) rfl d4_6 nle nle (pc' := 9)
  obtain ⟨rfl, K1, T1⟩ := hq1
  replace w := w.to (g' := mkF m 9 #[.val (.ref x), .val (.ref b)] []) rfl
  exact w.ret0 d4_9 ⟨rfl, K1, T1⟩ nle nle
/-! String.valueOf(char) -/
set_option maxRecDepth 65536 in
theorem rmCE (l : Launch) (Z : State) (a0 : Array Value) (hw : ∀ d ∈ tables_1, d.before a0 Z = true) (hEL : EW Z a0 consts_1) (c0 : Int32) (h0 : Heap) (hx : Ext Z.heap h0) :
    Met l Z consts_1 (⟨"java/lang/StringLatin1", "canEncode", "(C)Z"⟩ : MethodName) jdk_43_method_3_code 1 (some .boolean) [] ({ frames := 0, cells := 0, slots := 0, locals := 0 } : Room) #[.int c0] h0 [] (fun v h => v = some (.int (if 255 < c0 then 0 else 1)) ∧ h = h0) := by
  refine Met.of (a0 := a0) (by decide +kernel) hEL hx ?_
  intro p e s m below meth c S0 V w hs hsf
  replace w := w.to (g' := mkF m 0 #[.val (.int c0)] []) (by first | (simp [entryFrame, mkF, argsToLocals, Value.category]; done) | rfl)
  replace w := w.iloadN (pc' := 1) d11_0 rfl
  replace w := w.sipush (pc' := 4) (255 : Int32) d11_1
  by_cases q : 255 < c0
  ·
    replace w := w.icmpYes (pc' := 11) d11_4 ((tlt q).2.2.1)
    replace w := w.iconst (pc' := 12) (0 : Int32) d11_11
    exact w.retN d11_12 (by simp) ⟨by rw [if_pos q]; rfl, rfl⟩ nle nle
  replace w := w.icmpNo (pc' := 7) d11_4 ((flt q).2.2.1)
  replace w := w.iconst (pc' := 8) (1 : Int32) d11_7
  replace w := w.goto (pc' := 12) d11_8
  exact w.retN d11_12 (by simp) ⟨by rw [if_neg q]; rfl, rfl⟩ nle nle
set_option maxRecDepth 65536 in
theorem rmTB (l : Launch) (Z : State) (a0 : Array Value) (hw : ∀ d ∈ tables_1, d.before a0 Z = true) (hEL : EW Z a0 consts_1) (c0 : Int32) (h0 : Heap) (hx : Ext Z.heap h0) :
    Met l Z consts_1 (⟨"java/lang/StringLatin1", "toBytes", "(C)[B"⟩ : MethodName) jdk_43_method_46_code 1 (some (.array .byte)) [] ({ frames := 0, cells := 1, slots := 1, locals := 0 } : Room) #[.int c0] h0 [] (fun v h => ∃ t kb, v = some (.ref t) ∧ Ext h0 h ∧ Arv Z h t kb .byte 1 [.int c0.toInt8.toInt32] (.int 0)) := by
  refine Met.of (a0 := a0) (by decide +kernel) hEL hx ?_
  intro p e s m below meth c S0 V w hs hsf
  replace w := w.to (g' := mkF m 0 #[.val (.int c0)] []) (by first | (simp [entryFrame, mkF, argsToLocals, Value.category]; done) | rfl)
  have BZ := w.old
  have B0 := extR h0
  have C0 := CHr.refl w.ch
  replace w := w.iconst (pc' := 1) (1 : Int32) d12_0
  obtain ⟨h1, t, k_t, g_t, E1, V_t, S_t, A1, w⟩ := w.newarr (cap := 1) (hw _ (List.mem_of_getElem? (i := 29) rfl)) d12_1 (by decide) (by decide) nle nle (pc' := 3)
  have lt_t : t < h1.size := V_t.lt
  have ge_t_Z : Z.heap.size ≤ t := Nat.le_trans BZ.1 (Nat.le_of_eq g_t.symm)
  have ge_t_0 : h0.size ≤ t := Nat.le_trans B0.1 (Nat.le_of_eq g_t.symm)
  have BZ := extT BZ E1
  have B0 := extT B0 E1
  have C0 := C0.trans A1
  replace V_t := V_t.pad (vs' := [(.int (0 : Int32))]) (pad_rep [] _ 1)
  replace w := w.dup (pc' := 4) d12_3
  replace w := w.iconst (pc' := 5) (0 : Int32) d12_4
  replace w := w.iloadN (pc' := 6) d12_5 rfl
  replace w := w.i2b (pc' := 7) d12_6
  obtain ⟨h2, K2, V1, A2, w⟩ := w.bastore (x' := c0.toInt8.toInt32.toInt8.toInt32) V_t d12_7 ⟨by decide, by decide⟩ (rfl) (0) (rfl) (nle) (ge_t_Z) (S_t) (pc' := 8)
  have BZ := extK BZ K2 (allS ge_t_Z all0)
  have B0 := extK B0 K2 (allS ge_t_0 all0)
  have C0 := C0.trans A2
  have e8 : c0.toInt8.toInt32.toInt8.toInt32 = c0.toInt8.toInt32 := by
    have h1 := c_i2b c0
    have h2 := c_i2b c0.toInt8.toInt32
    exact Int32.toInt_inj.mp (by omega)
  rw [e8] at V1
  exact w.retA d12_8 ⟨t, k_t, rfl, B0, V1⟩ nle nle
set_option maxRecDepth 65536 in
theorem rmTBC (l : Launch) (Z : State) (a0 : Array Value) (hw : ∀ d ∈ tables_1, d.before a0 Z = true) (hEL : EW Z a0 consts_1) (SA : Sta Z Z.heap "java/lang/StringUTF16" "$assertionsDisabled" "Z" (.int 1)) (SH : Sta Z Z.heap "java/lang/StringUTF16" "HI_BYTE_SHIFT" "I" (.int 0)) (SL : Sta Z Z.heap "java/lang/StringUTF16" "LO_BYTE_SHIFT" "I" (.int 8)) (c0 : Int32) (h0 : Heap) (hx : Ext Z.heap h0) :
    Met l Z consts_1 (⟨"java/lang/StringUTF16", "toBytes", "(C)[B"⟩ : MethodName) jdk_52_method_24_code 2 (some (.array .byte)) [] ({ frames := 1, cells := 1, slots := 2, locals := 16 } : Room) #[.int c0] h0 [] (fun v h => ∃ t kb, v = some (.ref t) ∧ Ext h0 h ∧ Arv Z h t kb .byte 2 (own_wide [c0]) (.int 0)) := by
  refine Met.of (a0 := a0) (by decide +kernel) hEL hx ?_
  intro p e s m below meth c S0 V w hs hsf
  replace w := w.to (g' := mkF m 0 #[.val (.int c0), .unset] []) (by first | (simp [entryFrame, mkF, argsToLocals, Value.category]; done) | rfl)
  have BZ := w.old
  have B0 := extR h0
  have C0 := CHr.refl w.ch
  replace w := w.iconst (pc' := 1) (2 : Int32) d32_0
  obtain ⟨h1, t, k_t, g_t, E1, V_t, S_t, A1, w⟩ := w.newarr (cap := 2) (hw _ (List.mem_of_getElem? (i := 29) rfl)) d32_1 (by decide) (by decide) nle nle (pc' := 3)
  have lt_t : t < h1.size := V_t.lt
  have ge_t_Z : Z.heap.size ≤ t := Nat.le_trans BZ.1 (Nat.le_of_eq g_t.symm)
  have ge_t_0 : h0.size ≤ t := Nat.le_trans B0.1 (Nat.le_of_eq g_t.symm)
  have BZ := extT BZ E1
  have B0 := extT B0 E1
  have C0 := C0.trans A1
  replace V_t := V_t.pad (vs' := [(.int (0 : Int32)), (.int (0 : Int32))]) (pad_rep [] _ 2)
  replace w := w.astoreN (pc' := 4) (L' := #[.val (.int c0), .val (.ref t)]) d32_3 rfl
  replace w := w.aloadN (pc' := 5) d32_4 rfl
  replace w := w.iconst (pc' := 6) (0 : Int32) d32_5
  replace w := w.iloadN (pc' := 7) d32_6 rfl
  obtain ⟨v2, V2, h2, hq2, A2, w⟩ := w.static (y' := (⟨"java/lang/StringUTF16", "putChar", "([BII)V"⟩ : MethodName)) (W := 0) (w.pays 0 (rmPCH l Z a0 hw hEL SA SH SL t k_t 2 0 c0 _ _ (by omega) (by rfl) (by omega) h1 w.old V_t ge_t_Z) (hw _ (List.mem_of_getElem? (i := 108) rfl)) (hw _ (List.mem_of_getElem? (i := 91) rfl)) all0 nle nle) (hw _ (List.mem_of_getElem? (i := 106) rfl)) (hw _ (List.mem_of_getElem? (i := 107) rfl)) (hw _ (List.mem_of_getElem? (i := 91) rfl)) (hw _ (List.mem_of_getElem? (i := 108) rfl)) (argsL := [(.ref t), (.int (0 : Int32)), (.int c0)]) (rest := []) (by decide) pd_3 rfl rfl (Nat.le_of_eq rfl) rfl d32_7 nle nle (pc' := 10)
  obtain ⟨rfl, K2, V1⟩ := hq2
  replace w := w.to (g' := mkF m 10 #[.val (.int c0), .val (.ref t)] []) rfl
  have BZ := extK BZ K2 (allS ge_t_Z all0)
  have B0 := extK B0 K2 (allS ge_t_0 all0)
  have C0 := C0.trans A2
  replace w := w.aloadN (pc' := 11) d32_10 rfl
  exact w.retA d32_11 ⟨t, k_t, rfl, B0, V1⟩ nle nle
set_option maxRecDepth 65536 in
theorem rmSBBl (l : Launch) (Z : State) (a0 : Array Value) (hw : ∀ d ∈ tables_1, d.before a0 Z = true) (hEL : EW Z a0 consts_1) (x t : Addr) (kb : ClassId) (c0 : Int32) (r0 : ¬ c0 < 0 ∧ ¬ (255 : Int32) < c0) (h0 : Heap) (hx : Ext Z.heap h0) (X_x : Exa Z h0 x "java/lang/String") (Gv : Fld Z h0 x "java/lang/String" "value" "[B" .null) (Gc : Fld Z h0 x "java/lang/String" "coder" "B" (.int 0)) (ge_x_Z : Z.heap.size ≤ x) (A : Arv Z h0 t kb .byte 1 [.int c0.toInt8.toInt32] (.int 0)) :
    Met l Z consts_1 (⟨"java/lang/String", "<init>", "([BB)V"⟩ : MethodName) jdk_42_method_151_code 3 none [] ({ frames := 1, cells := 0, slots := 0, locals := 12 } : Room) #[.ref x, .ref t, .int 0] h0 [x] (fun v h => v = none ∧ Keep h0 h [x] ∧ Str Z h x [c0]) := by
  have ne : x ≠ t := Exa.neArv X_x A (hw _ (List.mem_of_getElem? (i := 16) rfl))
  refine Met.of (a0 := a0) (by decide +kernel) hEL hx ?_
  intro p e s m below meth c S0 V w hs hsf
  have Sx := hsf x (List.mem_cons_self ..)
  replace w := w.to (g' := mkF m 0 #[.val (.ref x), .val (.ref t), .val (.int (0 : Int32))] []) (by first | (simp [entryFrame, mkF, argsToLocals, Value.category]; done) | rfl)
  replace w := w.aloadN (pc' := 1) d13_0 rfl
  replace w := w.initO 0 (hw _ (List.mem_of_getElem? (i := 25) rfl)) (hw _ (List.mem_of_getElem? (i := 26) rfl)) (hw _ (List.mem_of_getElem? (i := 27) rfl)) rfl d13_1 (by decide) (Nat.le_of_eq rfl) (by decide) (pc' := 4)
  replace w := w.aloadN (pc' := 5) d13_4 rfl
  replace w := w.aloadN (pc' := 6) d13_5 rfl
  obtain ⟨h1, W1, K1, Fw1, A1, w⟩ := w.putF (ty := (.array .byte)) (hw _ (List.mem_of_getElem? (i := 34) rfl)) (Gv) (X_x) (Or.inr ⟨(hw _ (List.mem_of_getElem? (i := 30) rfl)), rfl, rfl⟩) (hw _ (List.mem_of_getElem? (i := 16) rfl)) (by decide) rfl rfl (Sx) (ge_x_Z) d13_6 (pc' := 9)
  have X1 := X_x.wr W1
  have Gc1 := Gc.other W1 (Or.inr (own_svc hw).symm)
  have Sx1 := A1.safe X_x.lt Sx
  replace w := w.aloadN (pc' := 10) d13_9 rfl
  replace w := w.iloadN (pc' := 11) d13_10 rfl
  obtain ⟨h2, W2, K2, Fw2, A2, w⟩ := w.putFN (v' := (.int (0 : Int32))) (ty := .byte) (hw _ (List.mem_of_getElem? (i := 35) rfl)) (Gc1) (X1) (Or.inr ⟨(hw _ (List.mem_of_getElem? (i := 31) rfl)), rfl, rfl⟩) (hw _ (List.mem_of_getElem? (i := 16) rfl)) (by decide) (rfl) (by decide) (Sx1) (ge_x_Z) d13_11 (pc' := 14)
  have K02 : Keep h0 h2 [x] := ((Keep.refl h0 [x]).trans K1 (allS (Or.inl (List.mem_cons_self ..)) all0)).trans K2 (allS (Or.inl (List.mem_cons_self ..)) all0)
  exact w.ret0 d13_14 ⟨rfl, K02, (chars1 r0 chars0), t, kb, X1.wr W2, Fw1.other W2 (Or.inr (own_svc hw)), Fw2, (A.other W1 ne.symm).other W2 ne.symm⟩ nle nle
set_option maxRecDepth 65536 in
theorem rmSBBw (l : Launch) (Z : State) (a0 : Array Value) (hw : ∀ d ∈ tables_1, d.before a0 Z = true) (hEL : EW Z a0 consts_1) (x t : Addr) (kb : ClassId) (c0 : Int32) (r0 : own_c16 c0) (h0 : Heap) (hx : Ext Z.heap h0) (X_x : Exa Z h0 x "java/lang/String") (Gv : Fld Z h0 x "java/lang/String" "value" "[B" .null) (Gc : Fld Z h0 x "java/lang/String" "coder" "B" (.int 0)) (ge_x_Z : Z.heap.size ≤ x) (A : Arv Z h0 t kb .byte 2 (own_wide [c0]) (.int 0)) :
    Met l Z consts_1 (⟨"java/lang/String", "<init>", "([BB)V"⟩ : MethodName) jdk_42_method_151_code 3 none [] ({ frames := 1, cells := 0, slots := 0, locals := 12 } : Room) #[.ref x, .ref t, .int 1] h0 [x] (fun v h => v = none ∧ Keep h0 h [x] ∧ WSt Z h x [c0]) := by
  have ne : x ≠ t := Exa.neArv X_x A (hw _ (List.mem_of_getElem? (i := 16) rfl))
  refine Met.of (a0 := a0) (by decide +kernel) hEL hx ?_
  intro p e s m below meth c S0 V w hs hsf
  have Sx := hsf x (List.mem_cons_self ..)
  replace w := w.to (g' := mkF m 0 #[.val (.ref x), .val (.ref t), .val (.int (1 : Int32))] []) (by first | (simp [entryFrame, mkF, argsToLocals, Value.category]; done) | rfl)
  replace w := w.aloadN (pc' := 1) d13_0 rfl
  replace w := w.initO 0 (hw _ (List.mem_of_getElem? (i := 25) rfl)) (hw _ (List.mem_of_getElem? (i := 26) rfl)) (hw _ (List.mem_of_getElem? (i := 27) rfl)) rfl d13_1 (by decide) (Nat.le_of_eq rfl) (by decide) (pc' := 4)
  replace w := w.aloadN (pc' := 5) d13_4 rfl
  replace w := w.aloadN (pc' := 6) d13_5 rfl
  obtain ⟨h1, W1, K1, Fw1, A1, w⟩ := w.putF (ty := (.array .byte)) (hw _ (List.mem_of_getElem? (i := 34) rfl)) (Gv) (X_x) (Or.inr ⟨(hw _ (List.mem_of_getElem? (i := 30) rfl)), rfl, rfl⟩) (hw _ (List.mem_of_getElem? (i := 16) rfl)) (by decide) rfl rfl (Sx) (ge_x_Z) d13_6 (pc' := 9)
  have X1 := X_x.wr W1
  have Gc1 := Gc.other W1 (Or.inr (own_svc hw).symm)
  have Sx1 := A1.safe X_x.lt Sx
  replace w := w.aloadN (pc' := 10) d13_9 rfl
  replace w := w.iloadN (pc' := 11) d13_10 rfl
  obtain ⟨h2, W2, K2, Fw2, A2, w⟩ := w.putFN (v' := (.int (1 : Int32))) (ty := .byte) (hw _ (List.mem_of_getElem? (i := 35) rfl)) (Gc1) (X1) (Or.inr ⟨(hw _ (List.mem_of_getElem? (i := 31) rfl)), rfl, rfl⟩) (hw _ (List.mem_of_getElem? (i := 16) rfl)) (by decide) (rfl) (by decide) (Sx1) (ge_x_Z) d13_11 (pc' := 14)
  have K02 : Keep h0 h2 [x] := ((Keep.refl h0 [x]).trans K1 (allS (Or.inl (List.mem_cons_self ..)) all0)).trans K2 (allS (Or.inl (List.mem_cons_self ..)) all0)
  exact w.ret0 d13_14 ⟨rfl, K02, (fun c hc => (List.mem_singleton.mp hc) ▸ r0), t, kb, X1.wr W2, Fw1.other W2 (Or.inr (own_svc hw)), Fw2, (A.other W1 ne.symm).other W2 ne.symm⟩ nle nle
set_option maxRecDepth 65536 in
theorem rmVO (l : Launch) (Z : State) (a0 : Array Value) (hw : ∀ d ∈ tables_1, d.before a0 Z = true) (hEL : EW Z a0 consts_1) (z0 : Int32) (Sc : Sta Z Z.heap "java/lang/String" "COMPACT_STRINGS" "Z" (.int z0)) (hz0 : ¬ z0 = 0) (SA : Sta Z Z.heap "java/lang/StringUTF16" "$assertionsDisabled" "Z" (.int 1)) (SH : Sta Z Z.heap "java/lang/StringUTF16" "HI_BYTE_SHIFT" "I" (.int 0)) (SL : Sta Z Z.heap "java/lang/StringUTF16" "LO_BYTE_SHIFT" "I" (.int 8)) (c0 : Int32) (r0 : own_c16 c0) (h0 : Heap) (hx : Ext Z.heap h0) :
    Met l Z consts_1 (⟨"java/lang/String", "valueOf", "(C)Ljava/lang/String;"⟩ : MethodName) jdk_42_method_139_code 1 (some (.object "java/lang/String")) [] ({ frames := 2, cells := 2, slots := 6, locals := 34 } : Room) #[.int c0] h0 [] (fun v h => ∃ x, v = some (.ref x) ∧ Ext h0 h ∧ (Str Z h x [c0] ∨ WSt Z h x [c0])) := by
  refine Met.of (a0 := a0) (by decide +kernel) hEL hx ?_
  intro p e s m below meth c S0 V w hs hsf
  replace w := w.to (g' := mkF m 0 #[.val (.int c0)] []) (by first | (simp [entryFrame, mkF, argsToLocals, Value.category]; done) | rfl)
  have BZ := w.old
  have B0 := extR h0
  have C0 := CHr.refl w.ch
  replace w := w.getS (hw _ (List.mem_of_getElem? (i := 50) rfl)) Sc d10_0 (pc' := 3)
  replace w := w.ifNo (pc' := 6) d10_3 ((if0 _ _).trans (feq hz0).1)
  replace w := w.iloadN (pc' := 7) d10_6 rfl
  obtain ⟨v1, V1, h1, hq1, A1, w⟩ := w.static (y' := (⟨"java/lang/StringLatin1", "canEncode", "(C)Z"⟩ : MethodName)) (W := 0) (w.pays 0 (rmCE l Z a0 hw hEL c0 h0 w.old) (hw _ (List.mem_of_getElem? (i := 57) rfl)) (hw _ (List.mem_of_getElem? (i := 56) rfl)) all0 nle nle) (hw _ (List.mem_of_getElem? (i := 54) rfl)) (hw _ (List.mem_of_getElem? (i := 55) rfl)) (hw _ (List.mem_of_getElem? (i := 56) rfl)) (hw _ (List.mem_of_getElem? (i := 57) rfl)) (argsL := [(.int c0)]) (rest := []) (by decide) pd_8 rfl rfl (Nat.le_of_eq rfl) rfl d10_7 nle nle (pc' := 10)
  obtain ⟨hv1, he1⟩ := hq1
  replace he1 := he1.symm
  subst he1
  have C0 := C0.trans A1
  by_cases q : 255 < c0
  ·
    rw [if_pos q] at hv1
    subst hv1
    replace w := w.to (g' := mkF m 10 #[.val (.int c0)] [(.int (0 : Int32))]) rfl
    replace w := w.ifYes (pc' := 26) d10_10 (by decide)
    obtain ⟨h2, x, g_x, E2, X_x, D_x, S_x, A2, w⟩ := w.new (hw _ (List.mem_of_getElem? (i := 58) rfl)) (hw _ (List.mem_of_getElem? (i := 16) rfl)) (hw _ (List.mem_of_getElem? (i := 17) rfl)) d10_26 nle nle (pc' := 29)
    have lt_x : x < h2.size := X_x.lt
    have ge_x_Z : Z.heap.size ≤ x := Nat.le_trans BZ.1 (Nat.le_of_eq g_x.symm)
    have ge_x_0 : h0.size ≤ x := Nat.le_trans B0.1 (Nat.le_of_eq g_x.symm)
    have F_x_value := D_x (Or.inr (hw _ (List.mem_of_getElem? (i := 30) rfl))) (ty := (.array .byte)) (by decide)
    have F_x_coder := D_x (Or.inr (hw _ (List.mem_of_getElem? (i := 31) rfl))) (ty := .byte) (by decide)
    have BZ := extT BZ E2
    have B0 := extT B0 E2
    have C0 := C0.trans A2
    have B1 := extR h2
    have C1 := CHr.refl w.ch
    replace w := w.dup (pc' := 30) d10_29
    replace w := w.iloadN (pc' := 31) d10_30 rfl
    obtain ⟨v3, V3, h3, hq3, A3, w⟩ := w.static (y' := (⟨"java/lang/StringUTF16", "toBytes", "(C)[B"⟩ : MethodName)) (W := 2) (w.pays 2 (rmTBC l Z a0 hw hEL SA SH SL c0 h2 w.old) (hw _ (List.mem_of_getElem? (i := 140) rfl)) (hw _ (List.mem_of_getElem? (i := 91) rfl)) all0 nle nle) (hw _ (List.mem_of_getElem? (i := 138) rfl)) (hw _ (List.mem_of_getElem? (i := 139) rfl)) (hw _ (List.mem_of_getElem? (i := 91) rfl)) (hw _ (List.mem_of_getElem? (i := 140) rfl)) (argsL := [(.int c0)]) (rest := [(.ref x), (.ref x)]) (by decide) pd_9 rfl rfl (Nat.le_of_eq rfl) rfl d10_31 nle nle (pc' := 34)
    obtain ⟨t, kb, rfl, E3, Vt⟩ := hq3
    replace w := w.to (g' := mkF m 34 #[.val (.int c0)] [(.ref t), (.ref x), (.ref x)]) rfl
    have BZ := extT BZ E3
    have B0 := extT B0 E3
    have C0 := C0.trans A3
    have B1 := extT B1 E3
    have C1 := C1.trans A3
    have Sx := C1.safe lt_x S_x
    replace w := w.iconst (pc' := 35) (1 : Int32) d10_34
    obtain ⟨v4, V4, h4, hq4, A4, w⟩ := w.ctor (y' := (⟨"java/lang/String", "<init>", "([BB)V"⟩ : MethodName)) (W := 1) (a := x) (w.pays 1 (rmSBBw l Z a0 hw hEL x t kb c0 r0 h3 w.old (X_x.ext B1) (F_x_value.ext B1) (F_x_coder.ext B1) ge_x_Z Vt) (hw _ (List.mem_of_getElem? (i := 64) rfl)) (hw _ (List.mem_of_getElem? (i := 17) rfl)) (allS Sx all0) nle nle) rfl (hw _ (List.mem_of_getElem? (i := 62) rfl)) (hw _ (List.mem_of_getElem? (i := 63) rfl)) (hw _ (List.mem_of_getElem? (i := 64) rfl)) (argsL := [(.ref t), (.int (1 : Int32))]) (rest := [(.ref x)]) (by decide) pd_10 rfl rfl (Nat.le_of_eq rfl) rfl d10_35 nle nle (pc' := 38)
    obtain ⟨rfl, K4, T1⟩ := hq4
    replace w := w.to (g' := mkF m 38 #[.val (.int c0)] [(.ref x)]) rfl
    have BZ := extK BZ K4 (allS ge_x_Z all0)
    have B0 := extK B0 K4 (allS ge_x_0 all0)
    have C0 := C0.trans A4
    exact w.retA d10_38 ⟨x, rfl, B0, Or.inr T1⟩ nle nle
  rw [if_neg q] at hv1
  subst hv1
  have r1 : ¬ c0 < 0 ∧ ¬ (255 : Int32) < c0 := by
    refine ⟨?_, q⟩
    have h1 := r0.1
    have e0 : (0 : Int32).toInt = 0 := by decide
    rw [Int32.lt_iff_toInt_lt]; omega
  replace w := w.to (g' := mkF m 10 #[.val (.int c0)] [(.int (1 : Int32))]) rfl
  replace w := w.ifNo (pc' := 13) d10_10 (by decide)
  obtain ⟨h5, x, g_x, E5, X_x, D_x, S_x, A5, w⟩ := w.new (hw _ (List.mem_of_getElem? (i := 58) rfl)) (hw _ (List.mem_of_getElem? (i := 16) rfl)) (hw _ (List.mem_of_getElem? (i := 17) rfl)) d10_13 nle nle (pc' := 16)
  have lt_x : x < h5.size := X_x.lt
  have ge_x_Z : Z.heap.size ≤ x := Nat.le_trans BZ.1 (Nat.le_of_eq g_x.symm)
  have ge_x_0 : h0.size ≤ x := Nat.le_trans B0.1 (Nat.le_of_eq g_x.symm)
  have F_x_value := D_x (Or.inr (hw _ (List.mem_of_getElem? (i := 30) rfl))) (ty := (.array .byte)) (by decide)
  have F_x_coder := D_x (Or.inr (hw _ (List.mem_of_getElem? (i := 31) rfl))) (ty := .byte) (by decide)
  have BZ := extT BZ E5
  have B0 := extT B0 E5
  have C0 := C0.trans A5
  have B1 := extR h5
  have C1 := CHr.refl w.ch
  replace w := w.dup (pc' := 17) d10_16
  replace w := w.iloadN (pc' := 18) d10_17 rfl
  obtain ⟨v6, V6, h6, hq6, A6, w⟩ := w.static (y' := (⟨"java/lang/StringLatin1", "toBytes", "(C)[B"⟩ : MethodName)) (W := 2) (w.pays 2 (rmTB l Z a0 hw hEL c0 h5 w.old) (hw _ (List.mem_of_getElem? (i := 61) rfl)) (hw _ (List.mem_of_getElem? (i := 56) rfl)) all0 nle nle) (hw _ (List.mem_of_getElem? (i := 59) rfl)) (hw _ (List.mem_of_getElem? (i := 60) rfl)) (hw _ (List.mem_of_getElem? (i := 56) rfl)) (hw _ (List.mem_of_getElem? (i := 61) rfl)) (argsL := [(.int c0)]) (rest := [(.ref x), (.ref x)]) (by decide) pd_9 rfl rfl (Nat.le_of_eq rfl) rfl d10_18 nle nle (pc' := 21)
  obtain ⟨t, kb, rfl, E6, Vt⟩ := hq6
  replace w := w.to (g' := mkF m 21 #[.val (.int c0)] [(.ref t), (.ref x), (.ref x)]) rfl
  have BZ := extT BZ E6
  have B0 := extT B0 E6
  have C0 := C0.trans A6
  have B1 := extT B1 E6
  have C1 := C1.trans A6
  have Sx := C1.safe lt_x S_x
  replace w := w.iconst (pc' := 22) (0 : Int32) d10_21
  obtain ⟨v7, V7, h7, hq7, A7, w⟩ := w.ctor (y' := (⟨"java/lang/String", "<init>", "([BB)V"⟩ : MethodName)) (W := 1) (a := x) (w.pays 1 (rmSBBl l Z a0 hw hEL x t kb c0 r1 h6 w.old (X_x.ext B1) (F_x_value.ext B1) (F_x_coder.ext B1) ge_x_Z Vt) (hw _ (List.mem_of_getElem? (i := 64) rfl)) (hw _ (List.mem_of_getElem? (i := 17) rfl)) (allS Sx all0) nle nle) rfl (hw _ (List.mem_of_getElem? (i := 62) rfl)) (hw _ (List.mem_of_getElem? (i := 63) rfl)) (hw _ (List.mem_of_getElem? (i := 64) rfl)) (argsL := [(.ref t), (.int (0 : Int32))]) (rest := [(.ref x)]) (by decide) pd_10 rfl rfl (Nat.le_of_eq rfl) rfl d10_22 nle nle (pc' := 25)
  obtain ⟨rfl, K7, T1⟩ := hq7
  replace w := w.to (g' := mkF m 25 #[.val (.int c0)] [(.ref x)]) rfl
  have BZ := extK BZ K7 (allS ge_x_Z all0)
  have B0 := extK B0 K7 (allS ge_x_0 all0)
  have C0 := C0.trans A7
  exact w.retA d10_25 ⟨x, rfl, B0, Or.inl T1⟩ nle nle
/-! length, codePointAt -/
set_option maxRecDepth 65536 in
theorem rmCODl (l : Launch) (Z : State) (a0 : Array Value) (hw : ∀ d ∈ tables_1, d.before a0 Z = true) (hEL : EW Z a0 consts_1) (z0 : Int32) (Sc : Sta Z Z.heap "java/lang/String" "COMPACT_STRINGS" "Z" (.int z0)) (hz0 : ¬ z0 = 0) (x : Addr) (h0 : Heap) (hx : Ext Z.heap h0) (Fc : Fld Z h0 x "java/lang/String" "coder" "B" (.int 0)) :
    Met l Z consts_1 (⟨"java/lang/String", "coder", "()B"⟩ : MethodName) jdk_42_method_152_code 1 (some .byte) [] ({ frames := 0, cells := 0, slots := 0, locals := 0 } : Room) #[.ref x] h0 [] (fun v h => v = some (.int 0) ∧ h = h0) := by
  refine Met.of (a0 := a0) (by decide +kernel) hEL hx ?_
  intro p e s m below meth c S0 V w hs hsf
  replace w := w.to (g' := mkF m 0 #[.val (.ref x)] []) (by first | (simp [entryFrame, mkF, argsToLocals, Value.category]; done) | rfl)
  replace w := w.getS (hw _ (List.mem_of_getElem? (i := 50) rfl)) Sc d9_0 (pc' := 3)
  replace w := w.ifNo (pc' := 6) d9_3 ((if0 _ _).trans (feq hz0).1)
  replace w := w.aloadN (pc' := 7) d9_6 rfl
  replace w := w.getF (hw _ (List.mem_of_getElem? (i := 35) rfl)) Fc d9_7 (pc' := 10)
  replace w := w.goto (pc' := 14) d9_10
  exact w.retN d9_14 (by simp) ⟨rfl, rfl⟩ nle nle
set_option maxRecDepth 65536 in
theorem rmCODw (l : Launch) (Z : State) (a0 : Array Value) (hw : ∀ d ∈ tables_1, d.before a0 Z = true) (hEL : EW Z a0 consts_1) (z0 : Int32) (Sc : Sta Z Z.heap "java/lang/String" "COMPACT_STRINGS" "Z" (.int z0)) (hz0 : ¬ z0 = 0) (x : Addr) (h0 : Heap) (hx : Ext Z.heap h0) (Fc : Fld Z h0 x "java/lang/String" "coder" "B" (.int 1)) :
    Met l Z consts_1 (⟨"java/lang/String", "coder", "()B"⟩ : MethodName) jdk_42_method_152_code 1 (some .byte) [] ({ frames := 0, cells := 0, slots := 0, locals := 0 } : Room) #[.ref x] h0 [] (fun v h => v = some (.int 1) ∧ h = h0) := by
  refine Met.of (a0 := a0) (by decide +kernel) hEL hx ?_
  intro p e s m below meth c S0 V w hs hsf
  replace w := w.to (g' := mkF m 0 #[.val (.ref x)] []) (by first | (simp [entryFrame, mkF, argsToLocals, Value.category]; done) | rfl)
  replace w := w.getS (hw _ (List.mem_of_getElem? (i := 50) rfl)) Sc d9_0 (pc' := 3)
  replace w := w.ifNo (pc' := 6) d9_3 ((if0 _ _).trans (feq hz0).1)
  replace w := w.aloadN (pc' := 7) d9_6 rfl
  replace w := w.getF (hw _ (List.mem_of_getElem? (i := 35) rfl)) Fc d9_7 (pc' := 10)
  replace w := w.goto (pc' := 14) d9_10
  exact w.retN d9_14 (by simp) ⟨rfl, rfl⟩ nle nle
set_option maxRecDepth 65536 in
theorem rmLENl (l : Launch) (Z : State) (a0 : Array Value) (hw : ∀ d ∈ tables_1, d.before a0 Z = true) (hEL : EW Z a0 consts_1) (z0 : Int32) (Sc : Sta Z Z.heap "java/lang/String" "COMPACT_STRINGS" "Z" (.int z0)) (hz0 : ¬ z0 = 0) (x : Addr) (cs : List Int32) (hl : cs.length ≤ 9) (h0 : Heap) (hx : Ext Z.heap h0) (U : Str Z h0 x cs) :
    Met l Z consts_1 (⟨"java/lang/String", "length", "()I"⟩ : MethodName) jdk_42_method_54_code 1 (some .int) [] ({ frames := 1, cells := 0, slots := 0, locals := 14 } : Room) #[.ref x] h0 [] (fun v h => v = some (.int (Int32.ofNat cs.length)) ∧ h = h0) := by
  obtain ⟨hp, tx, kx, X_x, Gv, Gc, Ax⟩ := U
  refine Met.of (a0 := a0) (by decide +kernel) hEL hx ?_
  intro p e s m below meth c S0 V w hs hsf
  replace w := w.to (g' := mkF m 0 #[.val (.ref x)] []) (by first | (simp [entryFrame, mkF, argsToLocals, Value.category]; done) | rfl)
  replace w := w.aloadN (pc' := 1) d8_0 rfl
  replace w := w.getF (hw _ (List.mem_of_getElem? (i := 34) rfl)) Gv d8_1 (pc' := 4)
  replace w := w.arrlen Ax d8_4 (pc' := 5)
  replace w := w.aloadN (pc' := 6) d8_5 rfl
  obtain ⟨v1, V1, h1, hq1, A1, w⟩ := w.virt (y' := (⟨"java/lang/String", "coder", "()B"⟩ : MethodName)) (W := 1) (C := "java/lang/String") (b := x) (w.pays 1 (rmCODl l Z a0 hw hEL z0 Sc hz0 x h0 w.old Gc) (hw _ (List.mem_of_getElem? (i := 49) rfl)) (hw _ (List.mem_of_getElem? (i := 17) rfl)) all0 nle nle) (hw _ (List.mem_of_getElem? (i := 45) rfl)) (hw _ (List.mem_of_getElem? (i := 46) rfl)) (hw _ (List.mem_of_getElem? (i := 48) rfl)) (hw _ (List.mem_of_getElem? (i := 47) rfl)) (argsL := []) (rest := [(.int (Int32.ofNat cs.length))]) (by decide) X_x pd_11 rfl rfl (Nat.le_of_eq rfl) rfl d8_6 nle nle (pc' := 9)
  obtain ⟨rfl, he1⟩ := hq1
  replace w := w.to (g' := mkF m 9 #[.val (.ref x)] [(.int (0 : Int32)), (.int (Int32.ofNat cs.length))]) rfl
  replace he1 := he1.symm
  subst he1
  replace w := w.ishr (pc' := 10) d8_9
  rw [own_shr0] at w
  exact w.retI d8_10 ⟨rfl, rfl⟩ nle nle
set_option maxRecDepth 65536 in
theorem rmLENw (l : Launch) (Z : State) (a0 : Array Value) (hw : ∀ d ∈ tables_1, d.before a0 Z = true) (hEL : EW Z a0 consts_1) (z0 : Int32) (Sc : Sta Z Z.heap "java/lang/String" "COMPACT_STRINGS" "Z" (.int z0)) (hz0 : ¬ z0 = 0) (x : Addr) (cs : List Int32) (hl : cs.length ≤ 9) (h0 : Heap) (hx : Ext Z.heap h0) (U : WSt Z h0 x cs) :
    Met l Z consts_1 (⟨"java/lang/String", "length", "()I"⟩ : MethodName) jdk_42_method_54_code 1 (some .int) [] ({ frames := 1, cells := 0, slots := 0, locals := 14 } : Room) #[.ref x] h0 [] (fun v h => v = some (.int (Int32.ofNat cs.length)) ∧ h = h0) := by
  obtain ⟨hp, tx, kx, X_x, Gv, Gc, Ax⟩ := U
  refine Met.of (a0 := a0) (by decide +kernel) hEL hx ?_
  intro p e s m below meth c S0 V w hs hsf
  replace w := w.to (g' := mkF m 0 #[.val (.ref x)] []) (by first | (simp [entryFrame, mkF, argsToLocals, Value.category]; done) | rfl)
  replace w := w.aloadN (pc' := 1) d8_0 rfl
  replace w := w.getF (hw _ (List.mem_of_getElem? (i := 34) rfl)) Gv d8_1 (pc' := 4)
  replace w := w.arrlen Ax d8_4 (pc' := 5)
  replace w := w.aloadN (pc' := 6) d8_5 rfl
  obtain ⟨v1, V1, h1, hq1, A1, w⟩ := w.virt (y' := (⟨"java/lang/String", "coder", "()B"⟩ : MethodName)) (W := 1) (C := "java/lang/String") (b := x) (w.pays 1 (rmCODw l Z a0 hw hEL z0 Sc hz0 x h0 w.old Gc) (hw _ (List.mem_of_getElem? (i := 49) rfl)) (hw _ (List.mem_of_getElem? (i := 17) rfl)) all0 nle nle) (hw _ (List.mem_of_getElem? (i := 45) rfl)) (hw _ (List.mem_of_getElem? (i := 46) rfl)) (hw _ (List.mem_of_getElem? (i := 48) rfl)) (hw _ (List.mem_of_getElem? (i := 47) rfl)) (argsL := []) (rest := [(.int (Int32.ofNat (2 * cs.length)))]) (by decide) X_x pd_11 rfl rfl (Nat.le_of_eq rfl) rfl d8_6 nle nle (pc' := 9)
  obtain ⟨rfl, he1⟩ := hq1
  replace w := w.to (g' := mkF m 9 #[.val (.ref x)] [(.int (1 : Int32)), (.int (Int32.ofNat (2 * cs.length)))]) rfl
  replace he1 := he1.symm
  subst he1
  replace w := w.ishr (pc' := 10) d8_9
  rw [own_shr1 (n := cs.length) (by omega)] at w
  exact w.retI d8_10 ⟨rfl, rfl⟩ nle nle
set_option maxRecDepth 65536 in
theorem rmLATl (l : Launch) (Z : State) (a0 : Array Value) (hw : ∀ d ∈ tables_1, d.before a0 Z = true) (hEL : EW Z a0 consts_1) (z0 : Int32) (Sc : Sta Z Z.heap "java/lang/String" "COMPACT_STRINGS" "Z" (.int z0)) (hz0 : ¬ z0 = 0) (x : Addr) (h0 : Heap) (hx : Ext Z.heap h0) (Fc : Fld Z h0 x "java/lang/String" "coder" "B" (.int 0)) :
    Met l Z consts_1 (⟨"java/lang/String", "isLatin1", "()Z"⟩ : MethodName) jdk_42_method_154_code 1 (some .boolean) [] ({ frames := 0, cells := 0, slots := 0, locals := 0 } : Room) #[.ref x] h0 [] (fun v h => v = some (.int 1) ∧ h = h0) := by
  refine Met.of (a0 := a0) (by decide +kernel) hEL hx ?_
  intro p e s m below meth c S0 V w hs hsf
  replace w := w.to (g' := mkF m 0 #[.val (.ref x)] []) (by first | (simp [entryFrame, mkF, argsToLocals, Value.category]; done) | rfl)
  replace w := w.getS (hw _ (List.mem_of_getElem? (i := 50) rfl)) Sc d15_0 (pc' := 3)
  replace w := w.ifNo (pc' := 6) d15_3 ((if0 _ _).trans (feq hz0).1)
  replace w := w.aloadN (pc' := 7) d15_6 rfl
  replace w := w.getF (hw _ (List.mem_of_getElem? (i := 35) rfl)) Fc d15_7 (pc' := 10)
  replace w := w.ifNo (pc' := 13) d15_10 (by decide)
  replace w := w.iconst (pc' := 14) (1 : Int32) d15_13
  replace w := w.goto (pc' := 18) d15_14
  exact w.retN d15_18 (by simp) ⟨rfl, rfl⟩ nle nle
set_option maxRecDepth 65536 in
theorem rmLATw (l : Launch) (Z : State) (a0 : Array Value) (hw : ∀ d ∈ tables_1, d.before a0 Z = true) (hEL : EW Z a0 consts_1) (z0 : Int32) (Sc : Sta Z Z.heap "java/lang/String" "COMPACT_STRINGS" "Z" (.int z0)) (hz0 : ¬ z0 = 0) (x : Addr) (h0 : Heap) (hx : Ext Z.heap h0) (Fc : Fld Z h0 x "java/lang/String" "coder" "B" (.int 1)) :
    Met l Z consts_1 (⟨"java/lang/String", "isLatin1", "()Z"⟩ : MethodName) jdk_42_method_154_code 1 (some .boolean) [] ({ frames := 0, cells := 0, slots := 0, locals := 0 } : Room) #[.ref x] h0 [] (fun v h => v = some (.int 0) ∧ h = h0) := by
  refine Met.of (a0 := a0) (by decide +kernel) hEL hx ?_
  intro p e s m below meth c S0 V w hs hsf
  replace w := w.to (g' := mkF m 0 #[.val (.ref x)] []) (by first | (simp [entryFrame, mkF, argsToLocals, Value.category]; done) | rfl)
  replace w := w.getS (hw _ (List.mem_of_getElem? (i := 50) rfl)) Sc d15_0 (pc' := 3)
  replace w := w.ifNo (pc' := 6) d15_3 ((if0 _ _).trans (feq hz0).1)
  replace w := w.aloadN (pc' := 7) d15_6 rfl
  replace w := w.getF (hw _ (List.mem_of_getElem? (i := 35) rfl)) Fc d15_7 (pc' := 10)
  replace w := w.ifYes (pc' := 17) d15_10 (by decide)
  replace w := w.iconst (pc' := 18) (0 : Int32) d15_17
  exact w.retN d15_18 (by simp) ⟨rfl, rfl⟩ nle nle
set_option maxRecDepth 65536 in
theorem rmPCIr (l : Launch) (Z : State) (a0 : Array Value) (hw : ∀ d ∈ tables_1, d.before a0 Z = true) (hEL : EW Z a0 consts_1) (fa : Addr) (i n : Nat) (hn : n ≤ 100) (hi : i < n) (h0 : Heap) (hx : Ext Z.heap h0) :
    Met l Z consts_1 (⟨"jdk/internal/util/Preconditions", "checkIndex", "(IILjava/util/function/BiFunction;)I"⟩ : MethodName) jdk_41_method_11_code 3 (some .int) [] ({ frames := 0, cells := 0, slots := 0, locals := 0 } : Room) #[.int (Int32.ofNat i), .int (Int32.ofNat n), (.ref fa)] h0 [] (fun v h => v = some (.int (Int32.ofNat i)) ∧ h = h0) := by
  have n1 := own_n32 (n := i) (by omega)
  refine Met.of (a0 := a0) (by decide +kernel) hEL hx ?_
  intro p e s m below meth c S0 V w hs hsf
  replace w := w.to (g' := mkF m 0 #[.val (.int (Int32.ofNat i)), .val (.int (Int32.ofNat n)), .val (.ref fa)] []) (by first | (simp [entryFrame, mkF, argsToLocals, Value.category]; done) | rfl)
  replace w := w.iloadN (pc' := 1) d17_0 rfl
  replace w := w.ifNo (pc' := 4) d17_1 ((if0 _ _).trans (flt n1.1).1)
  replace w := w.iloadN (pc' := 5) d17_4 rfl
  replace w := w.iloadN (pc' := 6) d17_5 rfl
  replace w := w.icmpYes (pc' := 16) d17_6 ((tlt ((own_lt32 (by omega) (by omega)).mpr hi)).1)
  replace w := w.iloadN (pc' := 17) d17_16 rfl
  exact w.retI d17_17 ⟨rfl, rfl⟩ nle nle
set_option maxRecDepth 65536 in
theorem rmCHKr (l : Launch) (Z : State) (a0 : Array Value) (hw : ∀ d ∈ tables_1, d.before a0 Z = true) (hEL : EW Z a0 consts_1) (fa : Addr) (Sf : Sta Z Z.heap "jdk/internal/util/Preconditions" "SIOOBE_FORMATTER" "Ljava/util/function/BiFunction;" (.ref fa)) (i n : Nat) (hn : n ≤ 100) (hi : i < n) (h0 : Heap) (hx : Ext Z.heap h0) :
    Met l Z consts_1 (⟨"java/lang/String", "checkIndex", "(II)V"⟩ : MethodName) jdk_42_method_155_code 2 none [] ({ frames := 1, cells := 0, slots := 0, locals := 14 } : Room) #[.int (Int32.ofNat i), .int (Int32.ofNat n)] h0 [] (fun v h => v = none ∧ h = h0) := by
  refine Met.of (a0 := a0) (by decide +kernel) hEL hx ?_
  intro p e s m below meth c S0 V w hs hsf
  replace w := w.to (g' := mkF m 0 #[.val (.int (Int32.ofNat i)), .val (.int (Int32.ofNat n))] []) (by first | (simp [entryFrame, mkF, argsToLocals, Value.category]; done) | rfl)
  replace w := w.iloadN (pc' := 1) d16_0 rfl
  replace w := w.iloadN (pc' := 2) d16_1 rfl
  replace w := w.getS (hw _ (List.mem_of_getElem? (i := 78) rfl)) Sf d16_2 (pc' := 5)
  obtain ⟨v1, V1, h1, hq1, A1, w⟩ := w.static (y' := (⟨"jdk/internal/util/Preconditions", "checkIndex", "(IILjava/util/function/BiFunction;)I"⟩ : MethodName)) (W := 0) (w.pays 0 (rmPCIr l Z a0 hw hEL fa i n hn hi h0 w.old) (hw _ (List.mem_of_getElem? (i := 82) rfl)) (hw _ (List.mem_of_getElem? (i := 79) rfl)) all0 nle nle) (hw _ (List.mem_of_getElem? (i := 80) rfl)) (hw _ (List.mem_of_getElem? (i := 81) rfl)) (hw _ (List.mem_of_getElem? (i := 79) rfl)) (hw _ (List.mem_of_getElem? (i := 82) rfl)) (argsL := [(.int (Int32.ofNat i)), (.int (Int32.ofNat n)), (.ref fa)]) (rest := []) (by decide) pd_12 rfl rfl (Nat.le_of_eq rfl) rfl d16_5 nle nle (pc' := 8)
  obtain ⟨rfl, he1⟩ := hq1
  replace w := w.to (g' := mkF m 8 #[.val (.int (Int32.ofNat i)), .val (.int (Int32.ofNat n))] [(.int (Int32.ofNat i))]) rfl
  replace he1 := he1.symm
  subst he1
  replace w := w.pop (pc' := 9) d16_8
  exact w.ret0 d16_9 ⟨rfl, rfl⟩ nle nle
set_option maxRecDepth 65536 in
theorem rmPCIn (l : Launch) (Z : State) (a0 : Array Value) (hw : ∀ d ∈ tables_1, d.before a0 Z = true) (hEL : EW Z a0 consts_1)  (i n : Nat) (hn : n ≤ 100) (hi : i < n) (h0 : Heap) (hx : Ext Z.heap h0) :
    Met l Z consts_1 (⟨"jdk/internal/util/Preconditions", "checkIndex", "(IILjava/util/function/BiFunction;)I"⟩ : MethodName) jdk_41_method_11_code 3 (some .int) [] ({ frames := 0, cells := 0, slots := 0, locals := 0 } : Room) #[.int (Int32.ofNat i), .int (Int32.ofNat n), .null] h0 [] (fun v h => v = some (.int (Int32.ofNat i)) ∧ h = h0) := by
  have n1 := own_n32 (n := i) (by omega)
  refine Met.of (a0 := a0) (by decide +kernel) hEL hx ?_
  intro p e s m below meth c S0 V w hs hsf
  replace w := w.to (g' := mkF m 0 #[.val (.int (Int32.ofNat i)), .val (.int (Int32.ofNat n)), .val .null] []) (by first | (simp [entryFrame, mkF, argsToLocals, Value.category]; done) | rfl)
  replace w := w.iloadN (pc' := 1) d17_0 rfl
  replace w := w.ifNo (pc' := 4) d17_1 ((if0 _ _).trans (flt n1.1).1)
  replace w := w.iloadN (pc' := 5) d17_4 rfl
  replace w := w.iloadN (pc' := 6) d17_5 rfl
  replace w := w.icmpYes (pc' := 16) d17_6 ((tlt ((own_lt32 (by omega) (by omega)).mpr hi)).1)
  replace w := w.iloadN (pc' := 17) d17_16 rfl
  exact w.retI d17_17 ⟨rfl, rfl⟩ nle nle
set_option maxRecDepth 65536 in
theorem rmCHKn (l : Launch) (Z : State) (a0 : Array Value) (hw : ∀ d ∈ tables_1, d.before a0 Z = true) (hEL : EW Z a0 consts_1)  (Sf : Sta Z Z.heap "jdk/internal/util/Preconditions" "SIOOBE_FORMATTER" "Ljava/util/function/BiFunction;" .null) (i n : Nat) (hn : n ≤ 100) (hi : i < n) (h0 : Heap) (hx : Ext Z.heap h0) :
    Met l Z consts_1 (⟨"java/lang/String", "checkIndex", "(II)V"⟩ : MethodName) jdk_42_method_155_code 2 none [] ({ frames := 1, cells := 0, slots := 0, locals := 14 } : Room) #[.int (Int32.ofNat i), .int (Int32.ofNat n)] h0 [] (fun v h => v = none ∧ h = h0) := by
  refine Met.of (a0 := a0) (by decide +kernel) hEL hx ?_
  intro p e s m below meth c S0 V w hs hsf
  replace w := w.to (g' := mkF m 0 #[.val (.int (Int32.ofNat i)), .val (.int (Int32.ofNat n))] []) (by first | (simp [entryFrame, mkF, argsToLocals, Value.category]; done) | rfl)
  replace w := w.iloadN (pc' := 1) d16_0 rfl
  replace w := w.iloadN (pc' := 2) d16_1 rfl
  replace w := w.getS (hw _ (List.mem_of_getElem? (i := 78) rfl)) Sf d16_2 (pc' := 5)
  obtain ⟨v1, V1, h1, hq1, A1, w⟩ := w.static (y' := (⟨"jdk/internal/util/Preconditions", "checkIndex", "(IILjava/util/function/BiFunction;)I"⟩ : MethodName)) (W := 0) (w.pays 0 (rmPCIn l Z a0 hw hEL  i n hn hi h0 w.old) (hw _ (List.mem_of_getElem? (i := 82) rfl)) (hw _ (List.mem_of_getElem? (i := 79) rfl)) all0 nle nle) (hw _ (List.mem_of_getElem? (i := 80) rfl)) (hw _ (List.mem_of_getElem? (i := 81) rfl)) (hw _ (List.mem_of_getElem? (i := 79) rfl)) (hw _ (List.mem_of_getElem? (i := 82) rfl)) (argsL := [(.int (Int32.ofNat i)), (.int (Int32.ofNat n)), .null]) (rest := []) (by decide) pd_12 rfl rfl (Nat.le_of_eq rfl) rfl d16_5 nle nle (pc' := 8)
  obtain ⟨rfl, he1⟩ := hq1
  replace w := w.to (g' := mkF m 8 #[.val (.int (Int32.ofNat i)), .val (.int (Int32.ofNat n))] [(.int (Int32.ofNat i))]) rfl
  replace he1 := he1.symm
  subst he1
  replace w := w.pop (pc' := 9) d16_8
  exact w.ret0 d16_9 ⟨rfl, rfl⟩ nle nle
theorem rmCHK (l : Launch) (Z : State) (a0 : Array Value) (hw : ∀ d ∈ tables_1, d.before a0 Z = true) (hEL : EW Z a0 consts_1) (fm : Value) (Sf : Sta Z Z.heap "jdk/internal/util/Preconditions" "SIOOBE_FORMATTER" "Ljava/util/function/BiFunction;" fm) (rfm : fm.isRef = true) (i n : Nat) (hn : n ≤ 100) (hi : i < n) (h0 : Heap) (hx : Ext Z.heap h0) :
    Met l Z consts_1 (⟨"java/lang/String", "checkIndex", "(II)V"⟩ : MethodName) jdk_42_method_155_code 2 none [] ({ frames := 1, cells := 0, slots := 0, locals := 14 } : Room) #[.int (Int32.ofNat i), .int (Int32.ofNat n)] h0 [] (fun v h => v = none ∧ h = h0) := by
  cases fm with
  | ref fa => exact rmCHKr l Z a0 hw hEL fa Sf i n hn hi h0 hx
  | null => exact rmCHKn l Z a0 hw hEL Sf i n hn hi h0 hx
  | _ => exact Bool.noConfusion (show false = true from rfm)
/-- what codePointAt(j) of a well-formed text gives: the point and its signs -/
def own_cp (cs : List Int32) (j : Nat) (r : Int32) (k : Nat) : Prop := 0 ≤ r.toInt ∧ (r.toInt < 55296 ∨ 57343 < r.toInt) ∧ ((k = 1 ∧ r.toInt < 65536) ∨ (k = 2 ∧ 65536 ≤ r.toInt)) ∧ j + k ≤ cs.length ∧ own_wf (cs.drop (j + k))
set_option maxRecDepth 65536 in
theorem rmCPAl (l : Launch) (Z : State) (a0 : Array Value) (hw : ∀ d ∈ tables_1, d.before a0 Z = true) (hEL : EW Z a0 consts_1) (z0 : Int32) (Sc : Sta Z Z.heap "java/lang/String" "COMPACT_STRINGS" "Z" (.int z0)) (hz0 : ¬ z0 = 0) (SA : Sta Z Z.heap "java/lang/StringUTF16" "$assertionsDisabled" "Z" (.int 1)) (SH : Sta Z Z.heap "java/lang/StringUTF16" "HI_BYTE_SHIFT" "I" (.int 0)) (SL : Sta Z Z.heap "java/lang/StringUTF16" "LO_BYTE_SHIFT" "I" (.int 8)) (fm : Value) (Sf : Sta Z Z.heap "jdk/internal/util/Preconditions" "SIOOBE_FORMATTER" "Ljava/util/function/BiFunction;" fm) (rfm : fm.isRef = true) (x : Addr) (cs : List Int32) (hl : cs.length ≤ 9) (j : Nat) (hj : j < cs.length) (hwf : own_wf (cs.drop j)) (h0 : Heap) (hx : Ext Z.heap h0) (U : Str Z h0 x cs) :
    Met l Z consts_1 (⟨"java/lang/String", "codePointAt", "(I)I"⟩ : MethodName) jdk_42_method_57_code 3 (some .int) [] ({ frames := 3, cells := 0, slots := 0, locals := 45 } : Room) #[.ref x, .int (Int32.ofNat j)] h0 [] (fun v h => ∃ r k, v = some (.int r) ∧ h = h0 ∧ own_cp cs j r k) := by
  obtain ⟨hp, tx, kx, X_x, Gv, Gc, Ax⟩ := U
  have hc := hp _ (own_gmem hj)
  have e0 : (0 : Int32).toInt = 0 := by decide
  have e1 : (255 : Int32).toInt = 255 := by decide
  have h1 := hc.1; have h2 := hc.2
  rw [Int32.lt_iff_toInt_lt] at h1 h2
  refine Met.of (a0 := a0) (by decide +kernel) hEL hx ?_
  intro p e s m below meth c S0 V w hs hsf
  replace w := w.to (g' := mkF m 0 #[.val (.ref x), .val (.int (Int32.ofNat j)), .unset] []) (by first | (simp [entryFrame, mkF, argsToLocals, Value.category]; done) | rfl)
  replace w := w.aloadN (pc' := 1) d14_0 rfl
  obtain ⟨v1, V1, h1, hq1, A1, w⟩ := w.virt (y' := (⟨"java/lang/String", "isLatin1", "()Z"⟩ : MethodName)) (W := 0) (C := "java/lang/String") (b := x) (w.pays 0 (rmLATl l Z a0 hw hEL z0 Sc hz0 x h0 w.old Gc) (hw _ (List.mem_of_getElem? (i := 74) rfl)) (hw _ (List.mem_of_getElem? (i := 17) rfl)) all0 nle nle) (hw _ (List.mem_of_getElem? (i := 70) rfl)) (hw _ (List.mem_of_getElem? (i := 71) rfl)) (hw _ (List.mem_of_getElem? (i := 73) rfl)) (hw _ (List.mem_of_getElem? (i := 72) rfl)) (argsL := []) (rest := []) (by decide) X_x pd_13 rfl rfl (Nat.le_of_eq rfl) rfl d14_1 nle nle (pc' := 4)
  obtain ⟨rfl, he1⟩ := hq1
  replace w := w.to (g' := mkF m 4 #[.val (.ref x), .val (.int (Int32.ofNat j)), .unset] [(.int (1 : Int32))]) rfl
  replace he1 := he1.symm
  subst he1
  replace w := w.ifNo (pc' := 7) d14_4 (by decide)
  replace w := w.iloadN (pc' := 8) d14_7 rfl
  replace w := w.aloadN (pc' := 9) d14_8 rfl
  replace w := w.getF (hw _ (List.mem_of_getElem? (i := 34) rfl)) Gv d14_9 (pc' := 12)
  replace w := w.arrlen Ax d14_12 (pc' := 13)
  obtain ⟨v2, V2, h2, hq2, A2, w⟩ := w.static (y' := (⟨"java/lang/String", "checkIndex", "(II)V"⟩ : MethodName)) (W := 0) (w.pays 0 (rmCHK l Z a0 hw hEL fm Sf rfm j cs.length (by omega) hj h0 w.old) (hw _ (List.mem_of_getElem? (i := 77) rfl)) (hw _ (List.mem_of_getElem? (i := 17) rfl)) all0 nle nle) (hw _ (List.mem_of_getElem? (i := 75) rfl)) (hw _ (List.mem_of_getElem? (i := 76) rfl)) (hw _ (List.mem_of_getElem? (i := 17) rfl)) (hw _ (List.mem_of_getElem? (i := 77) rfl)) (argsL := [(.int (Int32.ofNat j)), (.int (Int32.ofNat cs.length))]) (rest := []) (by decide) pd_14 rfl rfl (Nat.le_of_eq rfl) rfl d14_13 nle nle (pc' := 16)
  obtain ⟨rfl, he2⟩ := hq2
  replace w := w.to (g' := mkF m 16 #[.val (.ref x), .val (.int (Int32.ofNat j)), .unset] []) rfl
  replace he2 := he2.symm
  subst he2
  replace w := w.aloadN (pc' := 17) d14_16 rfl
  replace w := w.getF (hw _ (List.mem_of_getElem? (i := 34) rfl)) Gv d14_17 (pc' := 20)
  replace w := w.iloadN (pc' := 21) d14_20 rfl
  replace w := w.baload (v := (.int ((cs.getD j 0).toInt8.toInt32))) Ax d14_21 ⟨(own_n32 (by omega)).1, (own_lt32 (by omega) (by omega)).mpr hj⟩ (by rw [(own_n32 (n := j) (by omega)).2.1]; exact own_bget hj _) (pc' := 22)
  replace w := w.sipush (pc' := 25) (255 : Int32) d14_22
  replace w := w.iand (pc' := 26) d14_25
  rw [own_b255 hc] at w
  have hq : own_wf (cs.drop (j + 1)) := by
    rcases own_wf_at hj hwf with ⟨-, q⟩ | ⟨-, q, -⟩
    · exact q
    · have := q.1; omega
  exact w.retI d14_26 ⟨_, 1, rfl, rfl, by omega, Or.inl (by omega), Or.inl ⟨rfl, by omega⟩, by omega, hq⟩ nle nle
set_option maxRecDepth 65536 in
theorem rmIHS (l : Launch) (Z : State) (a0 : Array Value) (hw : ∀ d ∈ tables_1, d.before a0 Z = true) (hEL : EW Z a0 consts_1) (c0 : Int32) (b : Int32) (hb : (own_ns c0 ∧ b = 0) ∨ (own_hs c0 ∧ b = 1)) (h0 : Heap) (hx : Ext Z.heap h0) :
    Met l Z consts_1 (⟨"java/lang/Character", "isHighSurrogate", "(C)Z"⟩ : MethodName) jdk_89_method_14_code 1 (some .boolean) [] ({ frames := 0, cells := 0, slots := 0, locals := 0 } : Room) #[.int c0] h0 [] (fun v h => v = some (.int b) ∧ h = h0) := by
  have e2 : (55296 : Int32).toInt = 55296 := by decide
  have e3 : (56320 : Int32).toInt = 56320 := by decide
  refine Met.of (a0 := a0) (by decide +kernel) hEL hx ?_
  intro p e s m below meth c S0 V w hs hsf
  replace w := w.to (g' := mkF m 0 #[.val (.int c0)] []) (by first | (simp [entryFrame, mkF, argsToLocals, Value.category]; done) | rfl)
  replace w := w.iloadN (pc' := 1) d29_0 rfl
  replace w := w.ldcI (pc' := 3) (x := (55296 : Int32)) (hw _ (List.mem_of_getElem? (i := 127) rfl)) d29_1
  by_cases q : c0 < 55296
  ·
    have q' := q
    rw [Int32.lt_iff_toInt_lt, e2] at q'
    have eb : b = 0 := by rcases hb with ⟨-, h⟩ | ⟨h, -⟩; exact h; have := h.1; omega
    subst eb
    replace w := w.icmpYes (pc' := 16) d29_3 ((tlt q).1)
    replace w := w.iconst (pc' := 17) (0 : Int32) d29_16
    exact w.retN d29_17 (by simp) ⟨rfl, rfl⟩ nle nle
  have q' := q
  rw [Int32.lt_iff_toInt_lt, e2] at q'
  replace w := w.icmpNo (pc' := 6) d29_3 ((flt q).1)
  replace w := w.iloadN (pc' := 7) d29_6 rfl
  replace w := w.ldcI (pc' := 9) (x := (56320 : Int32)) (hw _ (List.mem_of_getElem? (i := 128) rfl)) d29_7
  by_cases r : c0 < 56320
  ·
    have r' := r
    rw [Int32.lt_iff_toInt_lt, e3] at r'
    have eb : b = 1 := by rcases hb with ⟨h, -⟩ | ⟨-, h⟩; have := h.2.2; omega; exact h
    subst eb
    replace w := w.icmpNo (pc' := 12) d29_9 ((tlt r).2.1)
    replace w := w.iconst (pc' := 13) (1 : Int32) d29_12
    replace w := w.goto (pc' := 17) d29_13
    exact w.retN d29_17 (by simp) ⟨rfl, rfl⟩ nle nle
  have r' := r
  rw [Int32.lt_iff_toInt_lt, e3] at r'
  have eb : b = 0 := by rcases hb with ⟨-, h⟩ | ⟨h, -⟩; exact h; have := h.2; omega
  subst eb
  replace w := w.icmpYes (pc' := 16) d29_9 ((flt r).2.1)
  replace w := w.iconst (pc' := 17) (0 : Int32) d29_16
  exact w.retN d29_17 (by simp) ⟨rfl, rfl⟩ nle nle
set_option maxRecDepth 65536 in
theorem rmILS (l : Launch) (Z : State) (a0 : Array Value) (hw : ∀ d ∈ tables_1, d.before a0 Z = true) (hEL : EW Z a0 consts_1) (c0 : Int32) (hb : own_ls c0) (h0 : Heap) (hx : Ext Z.heap h0) :
    Met l Z consts_1 (⟨"java/lang/Character", "isLowSurrogate", "(C)Z"⟩ : MethodName) jdk_89_method_15_code 1 (some .boolean) [] ({ frames := 0, cells := 0, slots := 0, locals := 0 } : Room) #[.int c0] h0 [] (fun v h => v = some (.int 1) ∧ h = h0) := by
  have e2 : (56320 : Int32).toInt = 56320 := by decide
  have e3 : (57344 : Int32).toInt = 57344 := by decide
  have b1 := hb.1; have b2 := hb.2
  refine Met.of (a0 := a0) (by decide +kernel) hEL hx ?_
  intro p e s m below meth c S0 V w hs hsf
  replace w := w.to (g' := mkF m 0 #[.val (.int c0)] []) (by first | (simp [entryFrame, mkF, argsToLocals, Value.category]; done) | rfl)
  replace w := w.iloadN (pc' := 1) d30_0 rfl
  replace w := w.ldcI (pc' := 3) (x := (56320 : Int32)) (hw _ (List.mem_of_getElem? (i := 128) rfl)) d30_1
  replace w := w.icmpNo (pc' := 6) d30_3 ((flt (by rw [Int32.lt_iff_toInt_lt, e2]; omega)).1)
  replace w := w.iloadN (pc' := 7) d30_6 rfl
  replace w := w.ldcI (pc' := 9) (x := (57344 : Int32)) (hw _ (List.mem_of_getElem? (i := 132) rfl)) d30_7
  replace w := w.icmpNo (pc' := 12) d30_9 ((tlt (by rw [Int32.lt_iff_toInt_lt, e3]; omega)).2.1)
  replace w := w.iconst (pc' := 13) (1 : Int32) d30_12
  replace w := w.goto (pc' := 17) d30_13
  exact w.retN d30_17 (by simp) ⟨rfl, rfl⟩ nle nle
set_option maxRecDepth 65536 in
theorem rmTCP (l : Launch) (Z : State) (a0 : Array Value) (hw : ∀ d ∈ tables_1, d.before a0 Z = true) (hEL : EW Z a0 consts_1) (c0 c1 : Int32) (h1 : own_hs c0) (h2 : own_ls c1) (h0 : Heap) (hx : Ext Z.heap h0) :
    Met l Z consts_1 (⟨"java/lang/Character", "toCodePoint", "(CC)I"⟩ : MethodName) jdk_89_method_19_code 2 (some .int) [] ({ frames := 0, cells := 0, slots := 0, locals := 0 } : Room) #[.int c0, .int c1] h0 [] (fun v h => ∃ r, v = some (.int r) ∧ h = h0 ∧ 65536 ≤ r.toInt) := by
  refine Met.of (a0 := a0) (by decide +kernel) hEL hx ?_
  intro p e s m below meth c S0 V w hs hsf
  replace w := w.to (g' := mkF m 0 #[.val (.int c0), .val (.int c1)] []) (by first | (simp [entryFrame, mkF, argsToLocals, Value.category]; done) | rfl)
  replace w := w.iloadN (pc' := 1) d31_0 rfl
  replace w := w.bipush (pc' := 3) (10 : Int32) d31_1
  replace w := w.ishl (pc' := 4) d31_3
  replace w := w.iloadN (pc' := 5) d31_4 rfl
  replace w := w.iadd (pc' := 6) d31_5
  replace w := w.ldcI (pc' := 8) (x := (-56613888 : Int32)) (hw _ (List.mem_of_getElem? (i := 136) rfl)) d31_6
  replace w := w.iadd (pc' := 9) d31_8
  obtain ⟨z, hz⟩ : ∃ z, z = (((c0 <<< ((10 : Int32) &&& 31)) + c1) + (-56613888 : Int32)) := ⟨_, rfl⟩
  rw [← hz] at w
  have a1 := c_ishl c0 10 10 (by decide)
  have a2 := rng32 (c0 <<< ((10 : Int32) &&& 31))
  have a3 := c_iadd (c0 <<< ((10 : Int32) &&& 31)) c1
  have a4 := rng32 (c0 <<< ((10 : Int32) &&& 31) + c1)
  have a5 := c_iadd (c0 <<< ((10 : Int32) &&& 31) + c1) (-56613888)
  have a6 := rng32 (c0 <<< ((10 : Int32) &&& 31) + c1 + (-56613888))
  have e1 : ((2 ^ 10 : Nat) : Int) = 1024 := by decide
  have e2 : (-56613888 : Int32).toInt = -56613888 := by decide
  rw [e1] at a1
  rw [e2] at a5
  rw [← hz] at a5 a6
  have g1 := h1.1; have g2 := h1.2; have g3 := h2.1; have g4 := h2.2
  exact w.retI d31_9 ⟨z, rfl, rfl, by omega⟩ nle nle
set_option maxRecDepth 65536 in
theorem rmCP4 (l : Launch) (Z : State) (a0 : Array Value) (hw : ∀ d ∈ tables_1, d.before a0 Z = true) (hEL : EW Z a0 consts_1) (SA : Sta Z Z.heap "java/lang/StringUTF16" "$assertionsDisabled" "Z" (.int 1)) (SH : Sta Z Z.heap "java/lang/StringUTF16" "HI_BYTE_SHIFT" "I" (.int 0)) (SL : Sta Z Z.heap "java/lang/StringUTF16" "LO_BYTE_SHIFT" "I" (.int 8)) (t : Addr) (kb : ClassId) (cs : List Int32) (hl : cs.length ≤ 9) (hpc : ∀ c ∈ cs, own_c16 c) (j : Nat) (hj : j < cs.length) (hwf : own_wf (cs.drop j)) (h0 : Heap) (hx : Ext Z.heap h0) (F : Arv Z h0 t kb .byte (Int32.ofNat (2 * cs.length)) (own_wide cs) (.int 0)) :
    Met l Z consts_1 (⟨"java/lang/StringUTF16", "codePointAt", "([BIIZ)I"⟩ : MethodName) jdk_52_method_7_code 6 (some .int) [] ({ frames := 1, cells := 0, slots := 0, locals := 14 } : Room) #[.ref t, .int (Int32.ofNat j), .int (Int32.ofNat cs.length), .int 0] h0 [] (fun v h => ∃ r k, v = some (.int r) ∧ h = h0 ∧ own_cp cs j r k) := by
  refine Met.of (a0 := a0) (by decide +kernel) hEL hx ?_
  intro p e s m below meth c S0 V w hs hsf
  replace w := w.to (g' := mkF m 0 #[.val (.ref t), .val (.int (Int32.ofNat j)), .val (.int (Int32.ofNat cs.length)), .val (.int (0 : Int32)), .unset, .unset] []) (by first | (simp [entryFrame, mkF, argsToLocals, Value.category]; done) | rfl)
  replace w := w.getS (hw _ (List.mem_of_getElem? (i := 109) rfl)) SA d28_0 (pc' := 3)
  replace w := w.ifYes (pc' := 19) d28_3 (by decide)
  replace w := w.iloadN (pc' := 20) d28_19 rfl
  replace w := w.ifYes (pc' := 28) d28_20 (by decide)
  replace w := w.aloadN (pc' := 29) d28_28 rfl
  replace w := w.iloadN (pc' := 30) d28_29 rfl
  obtain ⟨v1, V1, h1, hq1, A1, w⟩ := w.static (y' := (⟨"java/lang/StringUTF16", "getChar", "([BI)C"⟩ : MethodName)) (W := 0) (w.pays 0 (rmGCH l Z a0 hw hEL SA SH SL t kb cs j (by omega) hj (hpc _ (own_gmem hj)) h0 w.old F) (hw _ (List.mem_of_getElem? (i := 114) rfl)) (hw _ (List.mem_of_getElem? (i := 91) rfl)) all0 nle nle) (hw _ (List.mem_of_getElem? (i := 112) rfl)) (hw _ (List.mem_of_getElem? (i := 113) rfl)) (hw _ (List.mem_of_getElem? (i := 91) rfl)) (hw _ (List.mem_of_getElem? (i := 114) rfl)) (argsL := [(.ref t), (.int (Int32.ofNat j))]) (rest := []) (by decide) pd_6 rfl rfl (Nat.le_of_eq rfl) rfl d28_30 nle nle (pc' := 33)
  obtain ⟨rfl, he1⟩ := hq1
  replace w := w.to (g' := mkF m 33 #[.val (.ref t), .val (.int (Int32.ofNat j)), .val (.int (Int32.ofNat cs.length)), .val (.int (0 : Int32)), .unset, .unset] [(.int (cs.getD j 0))]) rfl
  replace he1 := he1.symm
  subst he1
  replace w := w.istore (pc' := 35) (L' := #[.val (.ref t), .val (.int (Int32.ofNat j)), .val (.int (Int32.ofNat cs.length)), .val (.int (0 : Int32)), .val (.int (cs.getD j 0)), .unset]) d28_33 rfl
  replace w := w.iload (pc' := 37) d28_35 rfl
  rcases own_wf_at hj hwf with ⟨q, qw⟩ | ⟨hj1, q, r, qw⟩
  ·
    obtain ⟨v2, V2, h2, hq2, A2, w⟩ := w.static (y' := (⟨"java/lang/Character", "isHighSurrogate", "(C)Z"⟩ : MethodName)) (W := 0) (w.pays 0 (rmIHS l Z a0 hw hEL (cs.getD j 0) 0 (Or.inl ⟨q, rfl⟩) h0 w.old) (hw _ (List.mem_of_getElem? (i := 126) rfl)) (hw _ (List.mem_of_getElem? (i := 86) rfl)) all0 nle nle) (hw _ (List.mem_of_getElem? (i := 124) rfl)) (hw _ (List.mem_of_getElem? (i := 125) rfl)) (hw _ (List.mem_of_getElem? (i := 86) rfl)) (hw _ (List.mem_of_getElem? (i := 126) rfl)) (argsL := [(.int (cs.getD j 0))]) (rest := []) (by decide) pd_8 rfl rfl (Nat.le_of_eq rfl) rfl d28_37 nle nle (pc' := 40)
    obtain ⟨rfl, he2⟩ := hq2
    replace w := w.to (g' := mkF m 40 #[.val (.ref t), .val (.int (Int32.ofNat j)), .val (.int (Int32.ofNat cs.length)), .val (.int (0 : Int32)), .val (.int (cs.getD j 0)), .unset] [(.int (0 : Int32))]) rfl
    replace he2 := he2.symm
    subst he2
    replace w := w.ifYes (pc' := 83) d28_40 (by decide)
    replace w := w.iload (pc' := 85) d28_83 rfl
    have q1 := q.1; have q2 := q.2.1; have q3 := q.2.2
    exact w.retI d28_85 ⟨_, 1, rfl, rfl, q1, q3, Or.inl ⟨rfl, by omega⟩, by omega, qw⟩ nle nle
  have ej : Int32.ofNat j + (1 : Int32) = Int32.ofNat (j + 1) := own_add32 (a := j) (b := 1) (by omega)
  obtain ⟨v3, V3, h3, hq3, A3, w⟩ := w.static (y' := (⟨"java/lang/Character", "isHighSurrogate", "(C)Z"⟩ : MethodName)) (W := 0) (w.pays 0 (rmIHS l Z a0 hw hEL (cs.getD j 0) 1 (Or.inr ⟨q, rfl⟩) h0 w.old) (hw _ (List.mem_of_getElem? (i := 126) rfl)) (hw _ (List.mem_of_getElem? (i := 86) rfl)) all0 nle nle) (hw _ (List.mem_of_getElem? (i := 124) rfl)) (hw _ (List.mem_of_getElem? (i := 125) rfl)) (hw _ (List.mem_of_getElem? (i := 86) rfl)) (hw _ (List.mem_of_getElem? (i := 126) rfl)) (argsL := [(.int (cs.getD j 0))]) (rest := []) (by decide) pd_8 rfl rfl (Nat.le_of_eq rfl) rfl d28_37 nle nle (pc' := 40)
  obtain ⟨rfl, he3⟩ := hq3
  replace w := w.to (g' := mkF m 40 #[.val (.ref t), .val (.int (Int32.ofNat j)), .val (.int (Int32.ofNat cs.length)), .val (.int (0 : Int32)), .val (.int (cs.getD j 0)), .unset] [(.int (1 : Int32))]) rfl
  replace he3 := he3.symm
  subst he3
  replace w := w.ifNo (pc' := 43) d28_40 (by decide)
  replace w := w.iinc (pc' := 46) (L' := #[.val (.ref t), .val (.int ((Int32.ofNat j) + (1 : Int32))), .val (.int (Int32.ofNat cs.length)), .val (.int (0 : Int32)), .val (.int (cs.getD j 0)), .unset]) d28_43 rfl rfl
  rw [ej] at w
  replace w := w.iloadN (pc' := 47) d28_46 rfl
  replace w := w.iloadN (pc' := 48) d28_47 rfl
  replace w := w.icmpNo (pc' := 51) d28_48 ((tlt ((own_lt32 (by omega) (by omega)).mpr hj1)).2.1)
  replace w := w.iloadN (pc' := 52) d28_51 rfl
  replace w := w.ifYes (pc' := 60) d28_52 (by decide)
  replace w := w.aloadN (pc' := 61) d28_60 rfl
  replace w := w.iloadN (pc' := 62) d28_61 rfl
  obtain ⟨v4, V4, h4, hq4, A4, w⟩ := w.static (y' := (⟨"java/lang/StringUTF16", "getChar", "([BI)C"⟩ : MethodName)) (W := 0) (w.pays 0 (rmGCH l Z a0 hw hEL SA SH SL t kb cs (j + 1) (by omega) hj1 (hpc _ (own_gmem hj1)) h0 w.old F) (hw _ (List.mem_of_getElem? (i := 114) rfl)) (hw _ (List.mem_of_getElem? (i := 91) rfl)) all0 nle nle) (hw _ (List.mem_of_getElem? (i := 112) rfl)) (hw _ (List.mem_of_getElem? (i := 113) rfl)) (hw _ (List.mem_of_getElem? (i := 91) rfl)) (hw _ (List.mem_of_getElem? (i := 114) rfl)) (argsL := [(.ref t), (.int (Int32.ofNat (j + 1)))]) (rest := []) (by decide) pd_6 rfl rfl (Nat.le_of_eq rfl) rfl d28_62 nle nle (pc' := 65)
  obtain ⟨rfl, he4⟩ := hq4
  replace w := w.to (g' := mkF m 65 #[.val (.ref t), .val (.int (Int32.ofNat (j + 1))), .val (.int (Int32.ofNat cs.length)), .val (.int (0 : Int32)), .val (.int (cs.getD j 0)), .unset] [(.int (cs.getD (j + 1) 0))]) rfl
  replace he4 := he4.symm
  subst he4
  replace w := w.istore (pc' := 67) (L' := #[.val (.ref t), .val (.int (Int32.ofNat (j + 1))), .val (.int (Int32.ofNat cs.length)), .val (.int (0 : Int32)), .val (.int (cs.getD j 0)), .val (.int (cs.getD (j + 1) 0))]) d28_65 rfl
  replace w := w.iload (pc' := 69) d28_67 rfl
  obtain ⟨v5, V5, h5, hq5, A5, w⟩ := w.static (y' := (⟨"java/lang/Character", "isLowSurrogate", "(C)Z"⟩ : MethodName)) (W := 0) (w.pays 0 (rmILS l Z a0 hw hEL (cs.getD (j + 1) 0) r h0 w.old) (hw _ (List.mem_of_getElem? (i := 131) rfl)) (hw _ (List.mem_of_getElem? (i := 86) rfl)) all0 nle nle) (hw _ (List.mem_of_getElem? (i := 129) rfl)) (hw _ (List.mem_of_getElem? (i := 130) rfl)) (hw _ (List.mem_of_getElem? (i := 86) rfl)) (hw _ (List.mem_of_getElem? (i := 131) rfl)) (argsL := [(.int (cs.getD (j + 1) 0))]) (rest := []) (by decide) pd_8 rfl rfl (Nat.le_of_eq rfl) rfl d28_69 nle nle (pc' := 72)
  obtain ⟨rfl, he5⟩ := hq5
  replace w := w.to (g' := mkF m 72 #[.val (.ref t), .val (.int (Int32.ofNat (j + 1))), .val (.int (Int32.ofNat cs.length)), .val (.int (0 : Int32)), .val (.int (cs.getD j 0)), .val (.int (cs.getD (j + 1) 0))] [(.int (1 : Int32))]) rfl
  replace he5 := he5.symm
  subst he5
  replace w := w.ifNo (pc' := 75) d28_72 (by decide)
  replace w := w.iload (pc' := 77) d28_75 rfl
  replace w := w.iload (pc' := 79) d28_77 rfl
  obtain ⟨v6, V6, h6, hq6, A6, w⟩ := w.static (y' := (⟨"java/lang/Character", "toCodePoint", "(CC)I"⟩ : MethodName)) (W := 0) (w.pays 0 (rmTCP l Z a0 hw hEL _ _ q r h0 w.old) (hw _ (List.mem_of_getElem? (i := 135) rfl)) (hw _ (List.mem_of_getElem? (i := 86) rfl)) all0 nle nle) (hw _ (List.mem_of_getElem? (i := 133) rfl)) (hw _ (List.mem_of_getElem? (i := 134) rfl)) (hw _ (List.mem_of_getElem? (i := 86) rfl)) (hw _ (List.mem_of_getElem? (i := 135) rfl)) (argsL := [(.int (cs.getD j 0)), (.int (cs.getD (j + 1) 0))]) (rest := []) (by decide) pd_15 rfl rfl (Nat.le_of_eq rfl) rfl d28_79 nle nle (pc' := 82)
  obtain ⟨rr, rfl, he6, hr⟩ := hq6
  replace w := w.to (g' := mkF m 82 #[.val (.ref t), .val (.int (Int32.ofNat (j + 1))), .val (.int (Int32.ofNat cs.length)), .val (.int (0 : Int32)), .val (.int (cs.getD j 0)), .val (.int (cs.getD (j + 1) 0))] [(.int rr)]) rfl
  replace he6 := he6.symm
  subst he6
  exact w.retI d28_82 ⟨_, 2, rfl, rfl, by omega, Or.inr (by omega), Or.inr ⟨rfl, hr⟩, by omega, qw⟩ nle nle
set_option maxRecDepth 65536 in
theorem rmCP3 (l : Launch) (Z : State) (a0 : Array Value) (hw : ∀ d ∈ tables_1, d.before a0 Z = true) (hEL : EW Z a0 consts_1) (SA : Sta Z Z.heap "java/lang/StringUTF16" "$assertionsDisabled" "Z" (.int 1)) (SH : Sta Z Z.heap "java/lang/StringUTF16" "HI_BYTE_SHIFT" "I" (.int 0)) (SL : Sta Z Z.heap "java/lang/StringUTF16" "LO_BYTE_SHIFT" "I" (.int 8)) (t : Addr) (kb : ClassId) (cs : List Int32) (hl : cs.length ≤ 9) (hpc : ∀ c ∈ cs, own_c16 c) (j : Nat) (hj : j < cs.length) (hwf : own_wf (cs.drop j)) (h0 : Heap) (hx : Ext Z.heap h0) (F : Arv Z h0 t kb .byte (Int32.ofNat (2 * cs.length)) (own_wide cs) (.int 0)) :
    Met l Z consts_1 (⟨"java/lang/StringUTF16", "codePointAt", "([BII)I"⟩ : MethodName) jdk_52_method_8_code 3 (some .int) [] ({ frames := 2, cells := 0, slots := 0, locals := 31 } : Room) #[.ref t, .int (Int32.ofNat j), .int (Int32.ofNat cs.length)] h0 [] (fun v h => ∃ r k, v = some (.int r) ∧ h = h0 ∧ own_cp cs j r k) := by
  refine Met.of (a0 := a0) (by decide +kernel) hEL hx ?_
  intro p e s m below meth c S0 V w hs hsf
  replace w := w.to (g' := mkF m 0 #[.val (.ref t), .val (.int (Int32.ofNat j)), .val (.int (Int32.ofNat cs.length))] []) (by first | (simp [entryFrame, mkF, argsToLocals, Value.category]; done) | rfl)
  replace w := w.aloadN (pc' := 1) d27_0 rfl
  replace w := w.iloadN (pc' := 2) d27_1 rfl
  replace w := w.iloadN (pc' := 3) d27_2 rfl
  replace w := w.iconst (pc' := 4) (0 : Int32) d27_3
  obtain ⟨v1, V1, h1, hq1, A1, w⟩ := w.static (y' := (⟨"java/lang/StringUTF16", "codePointAt", "([BIIZ)I"⟩ : MethodName)) (W := 0) (w.pays 0 (rmCP4 l Z a0 hw hEL SA SH SL t kb cs hl hpc j hj hwf h0 w.old F) (hw _ (List.mem_of_getElem? (i := 123) rfl)) (hw _ (List.mem_of_getElem? (i := 91) rfl)) all0 nle nle) (hw _ (List.mem_of_getElem? (i := 121) rfl)) (hw _ (List.mem_of_getElem? (i := 122) rfl)) (hw _ (List.mem_of_getElem? (i := 91) rfl)) (hw _ (List.mem_of_getElem? (i := 123) rfl)) (argsL := [(.ref t), (.int (Int32.ofNat j)), (.int (Int32.ofNat cs.length)), (.int (0 : Int32))]) (rest := []) (by decide) pd_16 rfl rfl (Nat.le_of_eq rfl) rfl d27_4 nle nle (pc' := 7)
  obtain ⟨r, k, rfl, he1, hr⟩ := hq1
  replace w := w.to (g' := mkF m 7 #[.val (.ref t), .val (.int (Int32.ofNat j)), .val (.int (Int32.ofNat cs.length))] [(.int r)]) rfl
  replace he1 := he1.symm
  subst he1
  exact w.retI d27_7 ⟨r, k, rfl, rfl, hr⟩ nle nle
set_option maxRecDepth 65536 in
theorem rmCPAw (l : Launch) (Z : State) (a0 : Array Value) (hw : ∀ d ∈ tables_1, d.before a0 Z = true) (hEL : EW Z a0 consts_1) (z0 : Int32) (Sc : Sta Z Z.heap "java/lang/String" "COMPACT_STRINGS" "Z" (.int z0)) (hz0 : ¬ z0 = 0) (SA : Sta Z Z.heap "java/lang/StringUTF16" "$assertionsDisabled" "Z" (.int 1)) (SH : Sta Z Z.heap "java/lang/StringUTF16" "HI_BYTE_SHIFT" "I" (.int 0)) (SL : Sta Z Z.heap "java/lang/StringUTF16" "LO_BYTE_SHIFT" "I" (.int 8)) (fm : Value) (Sf : Sta Z Z.heap "jdk/internal/util/Preconditions" "SIOOBE_FORMATTER" "Ljava/util/function/BiFunction;" fm) (rfm : fm.isRef = true) (x : Addr) (cs : List Int32) (hl : cs.length ≤ 9) (j : Nat) (hj : j < cs.length) (hwf : own_wf (cs.drop j)) (h0 : Heap) (hx : Ext Z.heap h0) (U : WSt Z h0 x cs) :
    Met l Z consts_1 (⟨"java/lang/String", "codePointAt", "(I)I"⟩ : MethodName) jdk_42_method_57_code 3 (some .int) [] ({ frames := 3, cells := 0, slots := 0, locals := 45 } : Room) #[.ref x, .int (Int32.ofNat j)] h0 [] (fun v h => ∃ r k, v = some (.int r) ∧ h = h0 ∧ own_cp cs j r k) := by
  obtain ⟨hp, tx, kx, X_x, Gv, Gc, Ax⟩ := U
  refine Met.of (a0 := a0) (by decide +kernel) hEL hx ?_
  intro p e s m below meth c S0 V w hs hsf
  replace w := w.to (g' := mkF m 0 #[.val (.ref x), .val (.int (Int32.ofNat j)), .unset] []) (by first | (simp [entryFrame, mkF, argsToLocals, Value.category]; done) | rfl)
  replace w := w.aloadN (pc' := 1) d14_0 rfl
  obtain ⟨v1, V1, h1, hq1, A1, w⟩ := w.virt (y' := (⟨"java/lang/String", "isLatin1", "()Z"⟩ : MethodName)) (W := 0) (C := "java/lang/String") (b := x) (w.pays 0 (rmLATw l Z a0 hw hEL z0 Sc hz0 x h0 w.old Gc) (hw _ (List.mem_of_getElem? (i := 74) rfl)) (hw _ (List.mem_of_getElem? (i := 17) rfl)) all0 nle nle) (hw _ (List.mem_of_getElem? (i := 70) rfl)) (hw _ (List.mem_of_getElem? (i := 71) rfl)) (hw _ (List.mem_of_getElem? (i := 73) rfl)) (hw _ (List.mem_of_getElem? (i := 72) rfl)) (argsL := []) (rest := []) (by decide) X_x pd_13 rfl rfl (Nat.le_of_eq rfl) rfl d14_1 nle nle (pc' := 4)
  obtain ⟨rfl, he1⟩ := hq1
  replace w := w.to (g' := mkF m 4 #[.val (.ref x), .val (.int (Int32.ofNat j)), .unset] [(.int (0 : Int32))]) rfl
  replace he1 := he1.symm
  subst he1
  replace w := w.ifYes (pc' := 27) d14_4 (by decide)
  replace w := w.aloadN (pc' := 28) d14_27 rfl
  replace w := w.getF (hw _ (List.mem_of_getElem? (i := 34) rfl)) Gv d14_28 (pc' := 31)
  replace w := w.arrlen Ax d14_31 (pc' := 32)
  replace w := w.iconst (pc' := 33) (1 : Int32) d14_32
  replace w := w.ishr (pc' := 34) d14_33
  rw [own_shr1 (n := cs.length) (by omega)] at w
  replace w := w.istoreN (pc' := 35) (L' := #[.val (.ref x), .val (.int (Int32.ofNat j)), .val (.int (Int32.ofNat cs.length))]) d14_34 rfl
  replace w := w.iloadN (pc' := 36) d14_35 rfl
  replace w := w.iloadN (pc' := 37) d14_36 rfl
  obtain ⟨v2, V2, h2, hq2, A2, w⟩ := w.static (y' := (⟨"java/lang/String", "checkIndex", "(II)V"⟩ : MethodName)) (W := 0) (w.pays 0 (rmCHK l Z a0 hw hEL fm Sf rfm j cs.length (by omega) hj h0 w.old) (hw _ (List.mem_of_getElem? (i := 77) rfl)) (hw _ (List.mem_of_getElem? (i := 17) rfl)) all0 nle nle) (hw _ (List.mem_of_getElem? (i := 75) rfl)) (hw _ (List.mem_of_getElem? (i := 76) rfl)) (hw _ (List.mem_of_getElem? (i := 17) rfl)) (hw _ (List.mem_of_getElem? (i := 77) rfl)) (argsL := [(.int (Int32.ofNat j)), (.int (Int32.ofNat cs.length))]) (rest := []) (by decide) pd_14 rfl rfl (Nat.le_of_eq rfl) rfl d14_37 nle nle (pc' := 40)
  obtain ⟨rfl, he2⟩ := hq2
  replace w := w.to (g' := mkF m 40 #[.val (.ref x), .val (.int (Int32.ofNat j)), .val (.int (Int32.ofNat cs.length))] []) rfl
  replace he2 := he2.symm
  subst he2
  replace w := w.aloadN (pc' := 41) d14_40 rfl
  replace w := w.getF (hw _ (List.mem_of_getElem? (i := 34) rfl)) Gv d14_41 (pc' := 44)
  replace w := w.iloadN (pc' := 45) d14_44 rfl
  replace w := w.iloadN (pc' := 46) d14_45 rfl
  obtain ⟨v3, V3, h3, hq3, A3, w⟩ := w.static (y' := (⟨"java/lang/StringUTF16", "codePointAt", "([BII)I"⟩ : MethodName)) (W := 0) (w.pays 0 (rmCP3 l Z a0 hw hEL SA SH SL tx kx cs hl hp j hj hwf h0 w.old Ax) (hw _ (List.mem_of_getElem? (i := 120) rfl)) (hw _ (List.mem_of_getElem? (i := 91) rfl)) all0 nle nle) (hw _ (List.mem_of_getElem? (i := 118) rfl)) (hw _ (List.mem_of_getElem? (i := 119) rfl)) (hw _ (List.mem_of_getElem? (i := 91) rfl)) (hw _ (List.mem_of_getElem? (i := 120) rfl)) (argsL := [(.ref tx), (.int (Int32.ofNat j)), (.int (Int32.ofNat cs.length))]) (rest := []) (by decide) pd_17 rfl rfl (Nat.le_of_eq rfl) rfl d14_46 nle nle (pc' := 49)
  obtain ⟨r, k, rfl, he3, hr⟩ := hq3
  replace w := w.to (g' := mkF m 49 #[.val (.ref x), .val (.int (Int32.ofNat j)), .val (.int (Int32.ofNat cs.length))] [(.int r)]) rfl
  replace he3 := he3.symm
  subst he3
  exact w.retI d14_49 ⟨r, k, rfl, rfl, hr⟩ nle nle
set_option maxRecDepth 65536 in
theorem rmCC (l : Launch) (Z : State) (a0 : Array Value) (hw : ∀ d ∈ tables_1, d.before a0 Z = true) (hEL : EW Z a0 consts_1) (r : Int32) (k : Nat) (hk : (k = 1 ∧ r.toInt < 65536) ∨ (k = 2 ∧ 65536 ≤ r.toInt)) (h0 : Heap) (hx : Ext Z.heap h0) :
    Met l Z consts_1 (⟨"java/lang/Character", "charCount", "(I)I"⟩ : MethodName) jdk_89_method_18_code 1 (some .int) [] ({ frames := 0, cells := 0, slots := 0, locals := 0 } : Room) #[.int r] h0 [] (fun v h => v = some (.int (Int32.ofNat k)) ∧ h = h0) := by
  have e2 : (65536 : Int32).toInt = 65536 := by decide
  refine Met.of (a0 := a0) (by decide +kernel) hEL hx ?_
  intro p e s m below meth c S0 V w hs hsf
  replace w := w.to (g' := mkF m 0 #[.val (.int r)] []) (by first | (simp [entryFrame, mkF, argsToLocals, Value.category]; done) | rfl)
  replace w := w.iloadN (pc' := 1) d18_0 rfl
  replace w := w.ldcI (pc' := 3) (x := (65536 : Int32)) (hw _ (List.mem_of_getElem? (i := 88) rfl)) d18_1
  rcases hk with ⟨rfl, q⟩ | ⟨rfl, q⟩
  ·
    replace w := w.icmpYes (pc' := 10) d18_3 ((tlt (by rw [Int32.lt_iff_toInt_lt, e2]; omega)).1)
    replace w := w.iconst (pc' := 11) (1 : Int32) d18_10
    exact w.retI d18_11 ⟨rfl, rfl⟩ nle nle
  replace w := w.icmpNo (pc' := 6) d18_3 ((flt (by rw [Int32.lt_iff_toInt_lt, e2]; omega)).1)
  replace w := w.iconst (pc' := 7) (2 : Int32) d18_6
  replace w := w.goto (pc' := 11) d18_7
  exact w.retI d18_11 ⟨rfl, rfl⟩ nle nle
/-! requireWellFormed -/
set_option maxRecDepth 65536 in
theorem rwfl (l : Launch) (Z : State) (a0 : Array Value) (hw : ∀ d ∈ tables_1, d.before a0 Z = true) (hEL : EW Z a0 consts_1) (z0 : Int32) (Sc : Sta Z Z.heap "java/lang/String" "COMPACT_STRINGS" "Z" (.int z0)) (hz0 : ¬ z0 = 0) (SA : Sta Z Z.heap "java/lang/StringUTF16" "$assertionsDisabled" "Z" (.int 1)) (SH : Sta Z Z.heap "java/lang/StringUTF16" "HI_BYTE_SHIFT" "I" (.int 0)) (SL : Sta Z Z.heap "java/lang/StringUTF16" "LO_BYTE_SHIFT" "I" (.int 8)) (fm : Value) (Sf : Sta Z Z.heap "jdk/internal/util/Preconditions" "SIOOBE_FORMATTER" "Ljava/util/function/BiFunction;" fm) (rfm : fm.isRef = true) {p : Program} {e : Env} {s : State} {m : MethodId} {args : Array Value} {below : List Frame} {meth : Method} {c : Code} {S0 : State} (h0 : Heap) (x : Addr) (cs : List Int32) (hl : cs.length ≤ 9) (U : Str Z h0 x cs) (f : Nat) :
    ∀ {V : Vm} (j : Nat) (k1 : Int32) (o3 o4 : Slot), (o3 = .unset ∨ ∃ w, o3 = .val w ∧ w.category = 1) → (o4 = .unset ∨ ∃ w, o4 = .val w ∧ w.category = 1) → j ≤ cs.length → cs.length ≤ j + f → own_wf (cs.drop j) →
      Wk p l e ({ frames := 4, cells := 0, slots := 0, locals := 60 } : Room) s m args below meth c Z a0 consts_1 S0 (⟨"com/example/policy_prover/policyprover/model/Text", "requireWellFormed", "(Ljava/lang/String;)V"⟩ : MethodName) prog_3_method_4_code 5 none V h0 0 0 (mkF m 4 #[.val (.ref x), .val (.int k1), .val (.int (Int32.ofNat j)), o3, o4] []) → Fini p e below s Z consts_1 S0 0 0 (fun v h => v = none ∧ h = h0) := by
  have X_x := U.exa
  have e2 : (55296 : Int32).toInt = 55296 := by decide
  have e3 : (57343 : Int32).toInt = 57343 := by decide
  induction f with
  | zero =>
    intro V j k1 o3 o4 ho3 ho4 hj hf hwf w
    replace w := w.iloadN (pc' := 5) d7_4 rfl
    replace w := w.aloadN (pc' := 6) d7_5 rfl
    obtain ⟨v1, V1, h1, hq1, A1, w⟩ := w.virt (y' := (⟨"java/lang/String", "length", "()I"⟩ : MethodName)) (W := 1) (C := "java/lang/String") (b := x) (w.pays 1 (rmLENl l Z a0 hw hEL z0 Sc hz0 x cs hl h0 w.old U) (hw _ (List.mem_of_getElem? (i := 44) rfl)) (hw _ (List.mem_of_getElem? (i := 17) rfl)) all0 nle nle) (hw _ (List.mem_of_getElem? (i := 40) rfl)) (hw _ (List.mem_of_getElem? (i := 41) rfl)) (hw _ (List.mem_of_getElem? (i := 43) rfl)) (hw _ (List.mem_of_getElem? (i := 42) rfl)) (argsL := []) (rest := [(.int (Int32.ofNat j))]) (by decide) X_x pd_18 rfl rfl (Nat.le_of_eq rfl) rfl d7_6 nle nle (pc' := 9)
    obtain ⟨rfl, he1⟩ := hq1
    replace w := w.to (g' := mkF m 9 #[.val (.ref x), .val (.int k1), .val (.int (Int32.ofNat j)), o3, o4] [(.int (Int32.ofNat cs.length)), (.int (Int32.ofNat j))]) rfl
    replace he1 := he1.symm
    subst he1
    replace w := w.icmpYes (pc' := 69) d7_9 ((flt (fun z => absurd ((own_lt32 (by omega) (by omega)).mp z) (by omega))).2.1)
    exact w.ret0 d7_69 ⟨rfl, rfl⟩ nle nle
  | succ f ih =>
    intro V j k1 o3 o4 ho3 ho4 hj hf hwf w
    replace w := w.iloadN (pc' := 5) d7_4 rfl
    replace w := w.aloadN (pc' := 6) d7_5 rfl
    obtain ⟨v1, V1, h1, hq1, A1, w⟩ := w.virt (y' := (⟨"java/lang/String", "length", "()I"⟩ : MethodName)) (W := 1) (C := "java/lang/String") (b := x) (w.pays 1 (rmLENl l Z a0 hw hEL z0 Sc hz0 x cs hl h0 w.old U) (hw _ (List.mem_of_getElem? (i := 44) rfl)) (hw _ (List.mem_of_getElem? (i := 17) rfl)) all0 nle nle) (hw _ (List.mem_of_getElem? (i := 40) rfl)) (hw _ (List.mem_of_getElem? (i := 41) rfl)) (hw _ (List.mem_of_getElem? (i := 43) rfl)) (hw _ (List.mem_of_getElem? (i := 42) rfl)) (argsL := []) (rest := [(.int (Int32.ofNat j))]) (by decide) X_x pd_18 rfl rfl (Nat.le_of_eq rfl) rfl d7_6 nle nle (pc' := 9)
    obtain ⟨rfl, he1⟩ := hq1
    replace w := w.to (g' := mkF m 9 #[.val (.ref x), .val (.int k1), .val (.int (Int32.ofNat j)), o3, o4] [(.int (Int32.ofNat cs.length)), (.int (Int32.ofNat j))]) rfl
    replace he1 := he1.symm
    subst he1
    by_cases q : j < cs.length
    ·
      replace w := w.icmpNo (pc' := 12) d7_9 ((tlt ((own_lt32 (by omega) (by omega)).mpr q)).2.1)
      replace w := w.aloadN (pc' := 13) d7_12 rfl
      replace w := w.iloadN (pc' := 14) d7_13 rfl
      obtain ⟨v2, V2, h2, hq2, A2, w⟩ := w.virt (y' := (⟨"java/lang/String", "codePointAt", "(I)I"⟩ : MethodName)) (W := 0) (C := "java/lang/String") (b := x) (w.pays 0 (rmCPAl l Z a0 hw hEL z0 Sc hz0 SA SH SL fm Sf rfm x cs hl j q hwf h0 w.old U) (hw _ (List.mem_of_getElem? (i := 69) rfl)) (hw _ (List.mem_of_getElem? (i := 17) rfl)) all0 nle nle) (hw _ (List.mem_of_getElem? (i := 65) rfl)) (hw _ (List.mem_of_getElem? (i := 66) rfl)) (hw _ (List.mem_of_getElem? (i := 68) rfl)) (hw _ (List.mem_of_getElem? (i := 67) rfl)) (argsL := [(.int (Int32.ofNat j))]) (rest := []) (by decide) X_x pd_1 rfl rfl (Nat.le_of_eq rfl) rfl d7_14 nle nle (pc' := 17)
      obtain ⟨r, k, rfl, he2, hr⟩ := hq2
      replace w := w.to (g' := mkF m 17 #[.val (.ref x), .val (.int k1), .val (.int (Int32.ofNat j)), o3, o4] [(.int r)]) rfl
      replace he2 := he2.symm
      subst he2
      obtain ⟨r0, r1, r2, r3, r4⟩ := hr
      have hk2 : 1 ≤ k ∧ k ≤ 2 := by omega
      have ej := own_add32 (a := j) (b := k) (by omega)
      replace w := w.istoreN (pc' := 18) (L' := #[.val (.ref x), .val (.int k1), .val (.int (Int32.ofNat j)), .val (.int r), o4]) d7_17 (XS.store1 rfl (ho3) rfl)
      replace w := w.iloadN (pc' := 19) d7_18 rfl
      replace w := w.ldcI (pc' := 21) (x := (55296 : Int32)) (hw _ (List.mem_of_getElem? (i := 83) rfl)) d7_19
      by_cases q1 : r < 55296
      ·
        replace w := w.icmpYes (pc' := 34) d7_21 ((tlt q1).1)
        replace w := w.iconst (pc' := 35) (0 : Int32) d7_34
        replace w := w.istore (pc' := 37) (L' := #[.val (.ref x), .val (.int k1), .val (.int (Int32.ofNat j)), .val (.int r), .val (.int (0 : Int32))]) d7_35 (XS.store1 rfl (ho4) rfl)
        replace w := w.iload (pc' := 39) d7_37 rfl
        replace w := w.ifYes (pc' := 56) d7_39 (by decide)
        replace w := w.iloadN (pc' := 57) d7_56 rfl
        replace w := w.iloadN (pc' := 58) d7_57 rfl
        obtain ⟨v3, V3, h3, hq3, A3, w⟩ := w.static (y' := (⟨"java/lang/Character", "charCount", "(I)I"⟩ : MethodName)) (W := 1) (w.pays 1 (rmCC l Z a0 hw hEL r k r2 h0 w.old) (hw _ (List.mem_of_getElem? (i := 87) rfl)) (hw _ (List.mem_of_getElem? (i := 86) rfl)) all0 nle nle) (hw _ (List.mem_of_getElem? (i := 84) rfl)) (hw _ (List.mem_of_getElem? (i := 85) rfl)) (hw _ (List.mem_of_getElem? (i := 86) rfl)) (hw _ (List.mem_of_getElem? (i := 87) rfl)) (argsL := [(.int r)]) (rest := [(.int (Int32.ofNat j))]) (by decide) pd_1 rfl rfl (Nat.le_of_eq rfl) rfl d7_58 nle nle (pc' := 61)
        obtain ⟨rfl, he3⟩ := hq3
        replace w := w.to (g' := mkF m 61 #[.val (.ref x), .val (.int k1), .val (.int (Int32.ofNat j)), .val (.int r), .val (.int (0 : Int32))] [(.int (Int32.ofNat k)), (.int (Int32.ofNat j))]) rfl
        replace he3 := he3.symm
        subst he3
        replace w := w.iadd (pc' := 62) d7_61
        rw [ej] at w
        replace w := w.istoreN (pc' := 63) (L' := #[.val (.ref x), .val (.int k1), .val (.int (Int32.ofNat (j + k))), .val (.int r), .val (.int (0 : Int32))]) d7_62 rfl
        replace w := w.iinc (pc' := 66) (L' := #[.val (.ref x), .val (.int (k1 + (1 : Int32))), .val (.int (Int32.ofNat (j + k))), .val (.int r), .val (.int (0 : Int32))]) d7_63 rfl rfl
        replace w := w.goto (pc' := 4) d7_66
        exact ih (j + k) _ _ _ (Or.inr ⟨_, rfl, rfl⟩) (Or.inr ⟨_, rfl, rfl⟩) r3 (by omega) r4 w
      have q1' := q1
      rw [Int32.lt_iff_toInt_lt, e2] at q1'
      replace w := w.icmpNo (pc' := 24) d7_21 ((flt q1).1)
      replace w := w.iloadN (pc' := 25) d7_24 rfl
      replace w := w.ldcI (pc' := 27) (x := (57343 : Int32)) (hw _ (List.mem_of_getElem? (i := 137) rfl)) d7_25
      replace w := w.icmpYes (pc' := 34) d7_27 ((tlt (by rw [Int32.lt_iff_toInt_lt, e3]; omega)).2.2.1)
      replace w := w.iconst (pc' := 35) (0 : Int32) d7_34
      replace w := w.istore (pc' := 37) (L' := #[.val (.ref x), .val (.int k1), .val (.int (Int32.ofNat j)), .val (.int r), .val (.int (0 : Int32))]) d7_35 (XS.store1 rfl (ho4) rfl)
      replace w := w.iload (pc' := 39) d7_37 rfl
      replace w := w.ifYes (pc' := 56) d7_39 (by decide)
      replace w := w.iloadN (pc' := 57) d7_56 rfl
      replace w := w.iloadN (pc' := 58) d7_57 rfl
      obtain ⟨v4, V4, h4, hq4, A4, w⟩ := w.static (y' := (⟨"java/lang/Character", "charCount", "(I)I"⟩ : MethodName)) (W := 1) (w.pays 1 (rmCC l Z a0 hw hEL r k r2 h0 w.old) (hw _ (List.mem_of_getElem? (i := 87) rfl)) (hw _ (List.mem_of_getElem? (i := 86) rfl)) all0 nle nle) (hw _ (List.mem_of_getElem? (i := 84) rfl)) (hw _ (List.mem_of_getElem? (i := 85) rfl)) (hw _ (List.mem_of_getElem? (i := 86) rfl)) (hw _ (List.mem_of_getElem? (i := 87) rfl)) (argsL := [(.int r)]) (rest := [(.int (Int32.ofNat j))]) (by decide) pd_1 rfl rfl (Nat.le_of_eq rfl) rfl d7_58 nle nle (pc' := 61)
      obtain ⟨rfl, he4⟩ := hq4
      replace w := w.to (g' := mkF m 61 #[.val (.ref x), .val (.int k1), .val (.int (Int32.ofNat j)), .val (.int r), .val (.int (0 : Int32))] [(.int (Int32.ofNat k)), (.int (Int32.ofNat j))]) rfl
      replace he4 := he4.symm
      subst he4
      replace w := w.iadd (pc' := 62) d7_61
      rw [ej] at w
      replace w := w.istoreN (pc' := 63) (L' := #[.val (.ref x), .val (.int k1), .val (.int (Int32.ofNat (j + k))), .val (.int r), .val (.int (0 : Int32))]) d7_62 rfl
      replace w := w.iinc (pc' := 66) (L' := #[.val (.ref x), .val (.int (k1 + (1 : Int32))), .val (.int (Int32.ofNat (j + k))), .val (.int r), .val (.int (0 : Int32))]) d7_63 rfl rfl
      replace w := w.goto (pc' := 4) d7_66
      exact ih (j + k) _ _ _ (Or.inr ⟨_, rfl, rfl⟩) (Or.inr ⟨_, rfl, rfl⟩) r3 (by omega) r4 w
    replace w := w.icmpYes (pc' := 69) d7_9 ((flt (fun z => q ((own_lt32 (by omega) (by omega)).mp z))).2.1)
    exact w.ret0 d7_69 ⟨rfl, rfl⟩ nle nle
set_option maxRecDepth 65536 in
theorem rmRWFl (l : Launch) (Z : State) (a0 : Array Value) (hw : ∀ d ∈ tables_1, d.before a0 Z = true) (hEL : EW Z a0 consts_1) (z0 : Int32) (Sc : Sta Z Z.heap "java/lang/String" "COMPACT_STRINGS" "Z" (.int z0)) (hz0 : ¬ z0 = 0) (SA : Sta Z Z.heap "java/lang/StringUTF16" "$assertionsDisabled" "Z" (.int 1)) (SH : Sta Z Z.heap "java/lang/StringUTF16" "HI_BYTE_SHIFT" "I" (.int 0)) (SL : Sta Z Z.heap "java/lang/StringUTF16" "LO_BYTE_SHIFT" "I" (.int 8)) (fm : Value) (Sf : Sta Z Z.heap "jdk/internal/util/Preconditions" "SIOOBE_FORMATTER" "Ljava/util/function/BiFunction;" fm) (rfm : fm.isRef = true) (x : Addr) (cs : List Int32) (hl : cs.length ≤ 9) (hwf : own_wf cs) (h0 : Heap) (hx : Ext Z.heap h0) (U : Str Z h0 x cs) :
    Met l Z consts_1 (⟨"com/example/policy_prover/policyprover/model/Text", "requireWellFormed", "(Ljava/lang/String;)V"⟩ : MethodName) prog_3_method_4_code 5 none [] ({ frames := 4, cells := 0, slots := 0, locals := 60 } : Room) #[.ref x] h0 [] (fun v h => v = none ∧ h = h0) := by
  refine Met.of (a0 := a0) (by decide +kernel) hEL hx ?_
  intro p e s m below meth c S0 V w hs hsf
  replace w := w.to (g' := mkF m 0 #[.val (.ref x), .unset, .unset, .unset, .unset] []) (by first | (simp [entryFrame, mkF, argsToLocals, Value.category]; done) | rfl)
  replace w := w.iconst (pc' := 1) (1 : Int32) d7_0
  replace w := w.istoreN (pc' := 2) (L' := #[.val (.ref x), .val (.int (1 : Int32)), .unset, .unset, .unset]) d7_1 rfl
  replace w := w.iconst (pc' := 3) (0 : Int32) d7_2
  replace w := w.istoreN (pc' := 4) (L' := #[.val (.ref x), .val (.int (1 : Int32)), .val (.int (0 : Int32)), .unset, .unset]) d7_3 rfl
  exact rwfl l Z a0 hw hEL z0 Sc hz0 SA SH SL fm Sf rfm h0 x cs hl U cs.length 0 1 .unset .unset (Or.inl rfl) (Or.inl rfl) (Nat.zero_le _) (by omega) hwf w
set_option maxRecDepth 65536 in
theorem rwfw (l : Launch) (Z : State) (a0 : Array Value) (hw : ∀ d ∈ tables_1, d.before a0 Z = true) (hEL : EW Z a0 consts_1) (z0 : Int32) (Sc : Sta Z Z.heap "java/lang/String" "COMPACT_STRINGS" "Z" (.int z0)) (hz0 : ¬ z0 = 0) (SA : Sta Z Z.heap "java/lang/StringUTF16" "$assertionsDisabled" "Z" (.int 1)) (SH : Sta Z Z.heap "java/lang/StringUTF16" "HI_BYTE_SHIFT" "I" (.int 0)) (SL : Sta Z Z.heap "java/lang/StringUTF16" "LO_BYTE_SHIFT" "I" (.int 8)) (fm : Value) (Sf : Sta Z Z.heap "jdk/internal/util/Preconditions" "SIOOBE_FORMATTER" "Ljava/util/function/BiFunction;" fm) (rfm : fm.isRef = true) {p : Program} {e : Env} {s : State} {m : MethodId} {args : Array Value} {below : List Frame} {meth : Method} {c : Code} {S0 : State} (h0 : Heap) (x : Addr) (cs : List Int32) (hl : cs.length ≤ 9) (U : WSt Z h0 x cs) (f : Nat) :
    ∀ {V : Vm} (j : Nat) (k1 : Int32) (o3 o4 : Slot), (o3 = .unset ∨ ∃ w, o3 = .val w ∧ w.category = 1) → (o4 = .unset ∨ ∃ w, o4 = .val w ∧ w.category = 1) → j ≤ cs.length → cs.length ≤ j + f → own_wf (cs.drop j) →
      Wk p l e ({ frames := 4, cells := 0, slots := 0, locals := 60 } : Room) s m args below meth c Z a0 consts_1 S0 (⟨"com/example/policy_prover/policyprover/model/Text", "requireWellFormed", "(Ljava/lang/String;)V"⟩ : MethodName) prog_3_method_4_code 5 none V h0 0 0 (mkF m 4 #[.val (.ref x), .val (.int k1), .val (.int (Int32.ofNat j)), o3, o4] []) → Fini p e below s Z consts_1 S0 0 0 (fun v h => v = none ∧ h = h0) := by
  have X_x := U.exa
  have e2 : (55296 : Int32).toInt = 55296 := by decide
  have e3 : (57343 : Int32).toInt = 57343 := by decide
  induction f with
  | zero =>
    intro V j k1 o3 o4 ho3 ho4 hj hf hwf w
    replace w := w.iloadN (pc' := 5) d7_4 rfl
    replace w := w.aloadN (pc' := 6) d7_5 rfl
    obtain ⟨v1, V1, h1, hq1, A1, w⟩ := w.virt (y' := (⟨"java/lang/String", "length", "()I"⟩ : MethodName)) (W := 1) (C := "java/lang/String") (b := x) (w.pays 1 (rmLENw l Z a0 hw hEL z0 Sc hz0 x cs hl h0 w.old U) (hw _ (List.mem_of_getElem? (i := 44) rfl)) (hw _ (List.mem_of_getElem? (i := 17) rfl)) all0 nle nle) (hw _ (List.mem_of_getElem? (i := 40) rfl)) (hw _ (List.mem_of_getElem? (i := 41) rfl)) (hw _ (List.mem_of_getElem? (i := 43) rfl)) (hw _ (List.mem_of_getElem? (i := 42) rfl)) (argsL := []) (rest := [(.int (Int32.ofNat j))]) (by decide) X_x pd_18 rfl rfl (Nat.le_of_eq rfl) rfl d7_6 nle nle (pc' := 9)
    obtain ⟨rfl, he1⟩ := hq1
    replace w := w.to (g' := mkF m 9 #[.val (.ref x), .val (.int k1), .val (.int (Int32.ofNat j)), o3, o4] [(.int (Int32.ofNat cs.length)), (.int (Int32.ofNat j))]) rfl
    replace he1 := he1.symm
    subst he1
    replace w := w.icmpYes (pc' := 69) d7_9 ((flt (fun z => absurd ((own_lt32 (by omega) (by omega)).mp z) (by omega))).2.1)
    exact w.ret0 d7_69 ⟨rfl, rfl⟩ nle nle
  | succ f ih =>
    intro V j k1 o3 o4 ho3 ho4 hj hf hwf w
    replace w := w.iloadN (pc' := 5) d7_4 rfl
    replace w := w.aloadN (pc' := 6) d7_5 rfl
    obtain ⟨v1, V1, h1, hq1, A1, w⟩ := w.virt (y' := (⟨"java/lang/String", "length", "()I"⟩ : MethodName)) (W := 1) (C := "java/lang/String") (b := x) (w.pays 1 (rmLENw l Z a0 hw hEL z0 Sc hz0 x cs hl h0 w.old U) (hw _ (List.mem_of_getElem? (i := 44) rfl)) (hw _ (List.mem_of_getElem? (i := 17) rfl)) all0 nle nle) (hw _ (List.mem_of_getElem? (i := 40) rfl)) (hw _ (List.mem_of_getElem? (i := 41) rfl)) (hw _ (List.mem_of_getElem? (i := 43) rfl)) (hw _ (List.mem_of_getElem? (i := 42) rfl)) (argsL := []) (rest := [(.int (Int32.ofNat j))]) (by decide) X_x pd_18 rfl rfl (Nat.le_of_eq rfl) rfl d7_6 nle nle (pc' := 9)
    obtain ⟨rfl, he1⟩ := hq1
    replace w := w.to (g' := mkF m 9 #[.val (.ref x), .val (.int k1), .val (.int (Int32.ofNat j)), o3, o4] [(.int (Int32.ofNat cs.length)), (.int (Int32.ofNat j))]) rfl
    replace he1 := he1.symm
    subst he1
    by_cases q : j < cs.length
    ·
      replace w := w.icmpNo (pc' := 12) d7_9 ((tlt ((own_lt32 (by omega) (by omega)).mpr q)).2.1)
      replace w := w.aloadN (pc' := 13) d7_12 rfl
      replace w := w.iloadN (pc' := 14) d7_13 rfl
      obtain ⟨v2, V2, h2, hq2, A2, w⟩ := w.virt (y' := (⟨"java/lang/String", "codePointAt", "(I)I"⟩ : MethodName)) (W := 0) (C := "java/lang/String") (b := x) (w.pays 0 (rmCPAw l Z a0 hw hEL z0 Sc hz0 SA SH SL fm Sf rfm x cs hl j q hwf h0 w.old U) (hw _ (List.mem_of_getElem? (i := 69) rfl)) (hw _ (List.mem_of_getElem? (i := 17) rfl)) all0 nle nle) (hw _ (List.mem_of_getElem? (i := 65) rfl)) (hw _ (List.mem_of_getElem? (i := 66) rfl)) (hw _ (List.mem_of_getElem? (i := 68) rfl)) (hw _ (List.mem_of_getElem? (i := 67) rfl)) (argsL := [(.int (Int32.ofNat j))]) (rest := []) (by decide) X_x pd_1 rfl rfl (Nat.le_of_eq rfl) rfl d7_14 nle nle (pc' := 17)
      obtain ⟨r, k, rfl, he2, hr⟩ := hq2
      replace w := w.to (g' := mkF m 17 #[.val (.ref x), .val (.int k1), .val (.int (Int32.ofNat j)), o3, o4] [(.int r)]) rfl
      replace he2 := he2.symm
      subst he2
      obtain ⟨r0, r1, r2, r3, r4⟩ := hr
      have hk2 : 1 ≤ k ∧ k ≤ 2 := by omega
      have ej := own_add32 (a := j) (b := k) (by omega)
      replace w := w.istoreN (pc' := 18) (L' := #[.val (.ref x), .val (.int k1), .val (.int (Int32.ofNat j)), .val (.int r), o4]) d7_17 (XS.store1 rfl (ho3) rfl)
      replace w := w.iloadN (pc' := 19) d7_18 rfl
      replace w := w.ldcI (pc' := 21) (x := (55296 : Int32)) (hw _ (List.mem_of_getElem? (i := 83) rfl)) d7_19
      by_cases q1 : r < 55296
      ·
        replace w := w.icmpYes (pc' := 34) d7_21 ((tlt q1).1)
        replace w := w.iconst (pc' := 35) (0 : Int32) d7_34
        replace w := w.istore (pc' := 37) (L' := #[.val (.ref x), .val (.int k1), .val (.int (Int32.ofNat j)), .val (.int r), .val (.int (0 : Int32))]) d7_35 (XS.store1 rfl (ho4) rfl)
        replace w := w.iload (pc' := 39) d7_37 rfl
        replace w := w.ifYes (pc' := 56) d7_39 (by decide)
        replace w := w.iloadN (pc' := 57) d7_56 rfl
        replace w := w.iloadN (pc' := 58) d7_57 rfl
        obtain ⟨v3, V3, h3, hq3, A3, w⟩ := w.static (y' := (⟨"java/lang/Character", "charCount", "(I)I"⟩ : MethodName)) (W := 1) (w.pays 1 (rmCC l Z a0 hw hEL r k r2 h0 w.old) (hw _ (List.mem_of_getElem? (i := 87) rfl)) (hw _ (List.mem_of_getElem? (i := 86) rfl)) all0 nle nle) (hw _ (List.mem_of_getElem? (i := 84) rfl)) (hw _ (List.mem_of_getElem? (i := 85) rfl)) (hw _ (List.mem_of_getElem? (i := 86) rfl)) (hw _ (List.mem_of_getElem? (i := 87) rfl)) (argsL := [(.int r)]) (rest := [(.int (Int32.ofNat j))]) (by decide) pd_1 rfl rfl (Nat.le_of_eq rfl) rfl d7_58 nle nle (pc' := 61)
        obtain ⟨rfl, he3⟩ := hq3
        replace w := w.to (g' := mkF m 61 #[.val (.ref x), .val (.int k1), .val (.int (Int32.ofNat j)), .val (.int r), .val (.int (0 : Int32))] [(.int (Int32.ofNat k)), (.int (Int32.ofNat j))]) rfl
        replace he3 := he3.symm
        subst he3
        replace w := w.iadd (pc' := 62) d7_61
        rw [ej] at w
        replace w := w.istoreN (pc' := 63) (L' := #[.val (.ref x), .val (.int k1), .val (.int (Int32.ofNat (j + k))), .val (.int r), .val (.int (0 : Int32))]) d7_62 rfl
        replace w := w.iinc (pc' := 66) (L' := #[.val (.ref x), .val (.int (k1 + (1 : Int32))), .val (.int (Int32.ofNat (j + k))), .val (.int r), .val (.int (0 : Int32))]) d7_63 rfl rfl
        replace w := w.goto (pc' := 4) d7_66
        exact ih (j + k) _ _ _ (Or.inr ⟨_, rfl, rfl⟩) (Or.inr ⟨_, rfl, rfl⟩) r3 (by omega) r4 w
      have q1' := q1
      rw [Int32.lt_iff_toInt_lt, e2] at q1'
      replace w := w.icmpNo (pc' := 24) d7_21 ((flt q1).1)
      replace w := w.iloadN (pc' := 25) d7_24 rfl
      replace w := w.ldcI (pc' := 27) (x := (57343 : Int32)) (hw _ (List.mem_of_getElem? (i := 137) rfl)) d7_25
      replace w := w.icmpYes (pc' := 34) d7_27 ((tlt (by rw [Int32.lt_iff_toInt_lt, e3]; omega)).2.2.1)
      replace w := w.iconst (pc' := 35) (0 : Int32) d7_34
      replace w := w.istore (pc' := 37) (L' := #[.val (.ref x), .val (.int k1), .val (.int (Int32.ofNat j)), .val (.int r), .val (.int (0 : Int32))]) d7_35 (XS.store1 rfl (ho4) rfl)
      replace w := w.iload (pc' := 39) d7_37 rfl
      replace w := w.ifYes (pc' := 56) d7_39 (by decide)
      replace w := w.iloadN (pc' := 57) d7_56 rfl
      replace w := w.iloadN (pc' := 58) d7_57 rfl
      obtain ⟨v4, V4, h4, hq4, A4, w⟩ := w.static (y' := (⟨"java/lang/Character", "charCount", "(I)I"⟩ : MethodName)) (W := 1) (w.pays 1 (rmCC l Z a0 hw hEL r k r2 h0 w.old) (hw _ (List.mem_of_getElem? (i := 87) rfl)) (hw _ (List.mem_of_getElem? (i := 86) rfl)) all0 nle nle) (hw _ (List.mem_of_getElem? (i := 84) rfl)) (hw _ (List.mem_of_getElem? (i := 85) rfl)) (hw _ (List.mem_of_getElem? (i := 86) rfl)) (hw _ (List.mem_of_getElem? (i := 87) rfl)) (argsL := [(.int r)]) (rest := [(.int (Int32.ofNat j))]) (by decide) pd_1 rfl rfl (Nat.le_of_eq rfl) rfl d7_58 nle nle (pc' := 61)
      obtain ⟨rfl, he4⟩ := hq4
      replace w := w.to (g' := mkF m 61 #[.val (.ref x), .val (.int k1), .val (.int (Int32.ofNat j)), .val (.int r), .val (.int (0 : Int32))] [(.int (Int32.ofNat k)), (.int (Int32.ofNat j))]) rfl
      replace he4 := he4.symm
      subst he4
      replace w := w.iadd (pc' := 62) d7_61
      rw [ej] at w
      replace w := w.istoreN (pc' := 63) (L' := #[.val (.ref x), .val (.int k1), .val (.int (Int32.ofNat (j + k))), .val (.int r), .val (.int (0 : Int32))]) d7_62 rfl
      replace w := w.iinc (pc' := 66) (L' := #[.val (.ref x), .val (.int (k1 + (1 : Int32))), .val (.int (Int32.ofNat (j + k))), .val (.int r), .val (.int (0 : Int32))]) d7_63 rfl rfl
      replace w := w.goto (pc' := 4) d7_66
      exact ih (j + k) _ _ _ (Or.inr ⟨_, rfl, rfl⟩) (Or.inr ⟨_, rfl, rfl⟩) r3 (by omega) r4 w
    replace w := w.icmpYes (pc' := 69) d7_9 ((flt (fun z => q ((own_lt32 (by omega) (by omega)).mp z))).2.1)
    exact w.ret0 d7_69 ⟨rfl, rfl⟩ nle nle
set_option maxRecDepth 65536 in
theorem rmRWFw (l : Launch) (Z : State) (a0 : Array Value) (hw : ∀ d ∈ tables_1, d.before a0 Z = true) (hEL : EW Z a0 consts_1) (z0 : Int32) (Sc : Sta Z Z.heap "java/lang/String" "COMPACT_STRINGS" "Z" (.int z0)) (hz0 : ¬ z0 = 0) (SA : Sta Z Z.heap "java/lang/StringUTF16" "$assertionsDisabled" "Z" (.int 1)) (SH : Sta Z Z.heap "java/lang/StringUTF16" "HI_BYTE_SHIFT" "I" (.int 0)) (SL : Sta Z Z.heap "java/lang/StringUTF16" "LO_BYTE_SHIFT" "I" (.int 8)) (fm : Value) (Sf : Sta Z Z.heap "jdk/internal/util/Preconditions" "SIOOBE_FORMATTER" "Ljava/util/function/BiFunction;" fm) (rfm : fm.isRef = true) (x : Addr) (cs : List Int32) (hl : cs.length ≤ 9) (hwf : own_wf cs) (h0 : Heap) (hx : Ext Z.heap h0) (U : WSt Z h0 x cs) :
    Met l Z consts_1 (⟨"com/example/policy_prover/policyprover/model/Text", "requireWellFormed", "(Ljava/lang/String;)V"⟩ : MethodName) prog_3_method_4_code 5 none [] ({ frames := 4, cells := 0, slots := 0, locals := 60 } : Room) #[.ref x] h0 [] (fun v h => v = none ∧ h = h0) := by
  refine Met.of (a0 := a0) (by decide +kernel) hEL hx ?_
  intro p e s m below meth c S0 V w hs hsf
  replace w := w.to (g' := mkF m 0 #[.val (.ref x), .unset, .unset, .unset, .unset] []) (by first | (simp [entryFrame, mkF, argsToLocals, Value.category]; done) | rfl)
  replace w := w.iconst (pc' := 1) (1 : Int32) d7_0
  replace w := w.istoreN (pc' := 2) (L' := #[.val (.ref x), .val (.int (1 : Int32)), .unset, .unset, .unset]) d7_1 rfl
  replace w := w.iconst (pc' := 3) (0 : Int32) d7_2
  replace w := w.istoreN (pc' := 4) (L' := #[.val (.ref x), .val (.int (1 : Int32)), .val (.int (0 : Int32)), .unset, .unset]) d7_3 rfl
  exact rwfw l Z a0 hw hEL z0 Sc hz0 SA SH SL fm Sf rfm h0 x cs hl U cs.length 0 1 .unset .unset (Or.inl rfl) (Or.inl rfl) (Nat.zero_le _) (by omega) hwf w
theorem rmRWF (l : Launch) (Z : State) (a0 : Array Value) (hw : ∀ d ∈ tables_1, d.before a0 Z = true) (hEL : EW Z a0 consts_1) (z0 : Int32) (Sc : Sta Z Z.heap "java/lang/String" "COMPACT_STRINGS" "Z" (.int z0)) (hz0 : ¬ z0 = 0) (SA : Sta Z Z.heap "java/lang/StringUTF16" "$assertionsDisabled" "Z" (.int 1)) (SH : Sta Z Z.heap "java/lang/StringUTF16" "HI_BYTE_SHIFT" "I" (.int 0)) (SL : Sta Z Z.heap "java/lang/StringUTF16" "LO_BYTE_SHIFT" "I" (.int 8)) (fm : Value) (Sf : Sta Z Z.heap "jdk/internal/util/Preconditions" "SIOOBE_FORMATTER" "Ljava/util/function/BiFunction;" fm) (rfm : fm.isRef = true) (x : Addr) (cs : List Int32) (hl : cs.length ≤ 9) (hwf : own_wf cs) (h0 : Heap) (hx : Ext Z.heap h0) (U : Str Z h0 x cs ∨ WSt Z h0 x cs) :
    Met l Z consts_1 (⟨"com/example/policy_prover/policyprover/model/Text", "requireWellFormed", "(Ljava/lang/String;)V"⟩ : MethodName) prog_3_method_4_code 5 none [] ({ frames := 4, cells := 0, slots := 0, locals := 60 } : Room) #[.ref x] h0 [] (fun v h => v = none ∧ h = h0) := by
  rcases U with U | U
  · exact rmRWFl l Z a0 hw hEL z0 Sc hz0 SA SH SL fm Sf rfm x cs hl hwf h0 hx U
  · exact rmRWFw l Z a0 hw hEL z0 Sc hz0 SA SH SL fm Sf rfm x cs hl hwf h0 hx U
/-! the law -/
theorem own_hs16 {c : Int32} (h : own_hs c) : own_c16 c := ⟨by have := h.1; omega, by have := h.2; omega⟩
theorem own_ls16 {c : Int32} (h : own_ls c) : own_c16 c := ⟨by have := h.1; omega, by have := h.2; omega⟩
theorem own_ns16 {c : Int32} (h : own_ns c) : own_c16 c := ⟨h.1, h.2.1⟩
theorem own_gt255 {c : Int32} : 255 < c ↔ 255 < c.toInt := by rw [Int32.lt_iff_toInt_lt]; exact Iff.rfl
theorem own_2of {a b : Int32} (h1 : own_c16 a) (h2 : own_c16 b) : ∀ z ∈ [a, b], own_c16 z := fun z hz => by
  simp only [List.mem_cons, List.not_mem_nil, or_false] at hz
  rcases hz with rfl | rfl
  · exact h1
  · exact h2
set_option maxRecDepth 65536 in
theorem tl162 (l : Launch) (Z : State) (a0 : Array Value) (hw : ∀ d ∈ tables_1, d.before a0 Z = true) (hEL : EW Z a0 consts_1) (z0 : Int32) (Sc : Sta Z Z.heap "java/lang/String" "COMPACT_STRINGS" "Z" (.int z0)) (hz0 : ¬ z0 = 0) (SA : Sta Z Z.heap "java/lang/StringUTF16" "$assertionsDisabled" "Z" (.int 1)) (SH : Sta Z Z.heap "java/lang/StringUTF16" "HI_BYTE_SHIFT" "I" (.int 0)) (SL : Sta Z Z.heap "java/lang/StringUTF16" "LO_BYTE_SHIFT" "I" (.int 8)) (fm : Value) (Sf : Sta Z Z.heap "jdk/internal/util/Preconditions" "SIOOBE_FORMATTER" "Ljava/util/function/BiFunction;" fm) (rfm : fm.isRef = true) {p : Program} {e : Env} {s : State} {m : MethodId} {args : Array Value} {below : List Frame} {meth : Method} {c : Code} {S0 : State} {V : Vm} (h0 : Heap) (a1 a2 a3 a4 md : Int32) (sa em pr : Addr) (kS : ClassId) (ds : Value) (c0 c1 c2 : Int32) (hc : ∀ c ∈ [c0, c1, c2], own_c16 c) (hwf : own_wf [c0, c1, c2]) (A : Arv Z h0 sa kS .char 3 [.int c0, .int c1, .int c2] ds)
    (w : Wk p l e room_1 s m args below meth c Z a0 consts_1 S0 Jvm.Pilot.@@N@@.x code maxLocals ret V h0 24 200 (mkF m 162 #[.val (.int a1), .val (.int a2), .val (.int a3), .val (.int a4), .val (.ref sa), .val (.int md), .val (.ref em), .val (.ref pr)] [])) :
    Fini p e below s Z consts_1 S0 40 1216 (fun v h => v = some (.int 1)) := by
  have hws := own_words hw
  have BZ := w.old
  have B0 := extR h0
  have C0 := CHr.refl w.ch
  obtain ⟨h1, x, g_x, E1, X_x, D_x, S_x, A1, w⟩ := w.new (hw _ (List.mem_of_getElem? (i := 15) rfl)) (hw _ (List.mem_of_getElem? (i := 16) rfl)) (hw _ (List.mem_of_getElem? (i := 17) rfl)) at_162 nle nle (pc' := 165)
  have lt_x : x < h1.size := X_x.lt
  have ge_x_Z : Z.heap.size ≤ x := Nat.le_trans BZ.1 (Nat.le_of_eq g_x.symm)
  have ge_x_0 : h0.size ≤ x := Nat.le_trans B0.1 (Nat.le_of_eq g_x.symm)
  have F_x_value := D_x (Or.inr (hw _ (List.mem_of_getElem? (i := 30) rfl))) (ty := (.array .byte)) (by decide)
  have F_x_coder := D_x (Or.inr (hw _ (List.mem_of_getElem? (i := 31) rfl))) (ty := .byte) (by decide)
  have BZ := extT BZ E1
  have B0 := extT B0 E1
  have C0 := C0.trans A1
  have A1' := A.ext B0
  replace w := w.dup (pc' := 166) at_165
  replace w := w.aload (pc' := 168) at_166 rfl
  by_cases q : 255 < c0 ∨ 255 < c1 ∨ 255 < c2
  ·
    have hk : ∃ k, 0 ≤ k ∧ k < 3 ∧ 255 < ([c0, c1, c2] : List Int32).getD k 0 := by
      rcases q with q | q | q
      · exact ⟨0, by omega, by omega, q⟩
      · exact ⟨1, by omega, by omega, q⟩
      · exact ⟨2, by omega, by omega, q⟩
    obtain ⟨v2, V2, h2, hq2, A2, w⟩ := w.ctor (y' := (⟨"java/lang/String", "<init>", "([C)V"⟩ : MethodName)) (W := 1) (a := x) (w.pays 1 (rmI1w3 l Z a0 hw hEL z0 Sc hz0 SA SH SL x sa kS ds c0 c1 c2 hc hk h1 w.old A1' X_x F_x_value F_x_coder ge_x_Z) (hw _ (List.mem_of_getElem? (i := 20) rfl)) (hw _ (List.mem_of_getElem? (i := 17) rfl)) (allS S_x all0) nle nle) rfl (hw _ (List.mem_of_getElem? (i := 18) rfl)) (hw _ (List.mem_of_getElem? (i := 19) rfl)) (hw _ (List.mem_of_getElem? (i := 20) rfl)) (argsL := [(.ref sa)]) (rest := [(.ref x)]) (by decide) pd_19 rfl rfl (Nat.le_of_eq rfl) rfl at_168 nle nle (pc' := 171)
    obtain ⟨rfl, K2, T1⟩ := hq2
    replace w := w.to (g' := mkF m 171 #[.val (.int a1), .val (.int a2), .val (.int a3), .val (.int a4), .val (.ref sa), .val (.int md), .val (.ref em), .val (.ref pr)] [(.ref x)]) rfl
    have BZ := extK BZ K2 (allS ge_x_Z all0)
    have B0 := extK B0 K2 (allS ge_x_0 all0)
    have C0 := C0.trans A2
    obtain ⟨v3, V3, h3, hq3, A3, w⟩ := w.static (y' := (⟨"com/example/policy_prover/policyprover/model/Text", "requireWellFormed", "(Ljava/lang/String;)V"⟩ : MethodName)) (W := 0) (w.pays 0 (rmRWF l Z a0 hw hEL z0 Sc hz0 SA SH SL fm Sf rfm x [c0, c1, c2] nle hwf h2 w.old (Or.inr T1)) (hw _ (List.mem_of_getElem? (i := 39) rfl)) (hw _ (List.mem_of_getElem? (i := 38) rfl)) all0 nle nle) (hw _ (List.mem_of_getElem? (i := 36) rfl)) (hw _ (List.mem_of_getElem? (i := 37) rfl)) (hw _ (List.mem_of_getElem? (i := 38) rfl)) (hw _ (List.mem_of_getElem? (i := 39) rfl)) (argsL := [(.ref x)]) (rest := []) (by decide) pd_20 rfl rfl (Nat.le_of_eq rfl) rfl at_171 nle nle (pc' := 174)
    obtain ⟨rfl, he3⟩ := hq3
    replace w := w.to (g' := mkF m 174 #[.val (.int a1), .val (.int a2), .val (.int a3), .val (.int a4), .val (.ref sa), .val (.int md), .val (.ref em), .val (.ref pr)] []) rfl
    replace he3 := he3.symm
    subst he3
    have C0 := C0.trans A3
    replace w := w.iconst (pc' := 175) (1 : Int32) at_174
    exact w.retN at_175 (by simp) rfl nle nle
  have hp : ∀ c ∈ [c0, c1, c2], ¬ c < 0 ∧ ¬ (255 : Int32) < c := fun c hcc => ⟨by
    have := (hc c hcc).1
    have e0 : (0 : Int32).toInt = 0 := by decide
    rw [Int32.lt_iff_toInt_lt]; omega, fun z => q (by
    simp only [List.mem_cons, List.not_mem_nil, or_false] at hcc
    rcases hcc with rfl | rfl | rfl
    · exact Or.inl z
    · exact Or.inr (Or.inl z)
    · exact Or.inr (Or.inr z))⟩
  obtain ⟨v4, V4, h4, hq4, A4, w⟩ := w.ctor (y' := (⟨"java/lang/String", "<init>", "([C)V"⟩ : MethodName)) (W := 1) (a := x) (w.payNew (W := 1) (cs := [c0, c1, c2]) hws (hw _ (List.mem_of_getElem? (i := 16) rfl)) X_x F_x_value F_x_coder A1' Sc hz0 rfl nle nle hp S_x ge_x_Z nle nle) rfl (hw _ (List.mem_of_getElem? (i := 18) rfl)) (hw _ (List.mem_of_getElem? (i := 19) rfl)) (hw _ (List.mem_of_getElem? (i := 20) rfl)) (argsL := [(.ref sa)]) (rest := [(.ref x)]) (by decide) pd_19 rfl rfl (Nat.le_of_eq rfl) rfl at_168 nle nle (pc' := 171)
  obtain ⟨rfl, K4, T1⟩ := hq4
  replace w := w.to (g' := mkF m 171 #[.val (.int a1), .val (.int a2), .val (.int a3), .val (.int a4), .val (.ref sa), .val (.int md), .val (.ref em), .val (.ref pr)] [(.ref x)]) rfl
  have BZ := extK BZ K4 (allS ge_x_Z all0)
  have B0 := extK B0 K4 (allS ge_x_0 all0)
  have C0 := C0.trans A4
  obtain ⟨v5, V5, h5, hq5, A5, w⟩ := w.static (y' := (⟨"com/example/policy_prover/policyprover/model/Text", "requireWellFormed", "(Ljava/lang/String;)V"⟩ : MethodName)) (W := 0) (w.pays 0 (rmRWF l Z a0 hw hEL z0 Sc hz0 SA SH SL fm Sf rfm x [c0, c1, c2] nle hwf h4 w.old (Or.inl T1)) (hw _ (List.mem_of_getElem? (i := 39) rfl)) (hw _ (List.mem_of_getElem? (i := 38) rfl)) all0 nle nle) (hw _ (List.mem_of_getElem? (i := 36) rfl)) (hw _ (List.mem_of_getElem? (i := 37) rfl)) (hw _ (List.mem_of_getElem? (i := 38) rfl)) (hw _ (List.mem_of_getElem? (i := 39) rfl)) (argsL := [(.ref x)]) (rest := []) (by decide) pd_20 rfl rfl (Nat.le_of_eq rfl) rfl at_171 nle nle (pc' := 174)
  obtain ⟨rfl, he5⟩ := hq5
  replace w := w.to (g' := mkF m 174 #[.val (.int a1), .val (.int a2), .val (.int a3), .val (.int a4), .val (.ref sa), .val (.int md), .val (.ref em), .val (.ref pr)] []) rfl
  replace he5 := he5.symm
  subst he5
  have C0 := C0.trans A5
  replace w := w.iconst (pc' := 175) (1 : Int32) at_174
  exact w.retN at_175 (by simp) rfl nle nle
set_option maxRecDepth 65536 in
theorem tl102 (l : Launch) (Z : State) (a0 : Array Value) (hw : ∀ d ∈ tables_1, d.before a0 Z = true) (hEL : EW Z a0 consts_1) (z0 : Int32) (Sc : Sta Z Z.heap "java/lang/String" "COMPACT_STRINGS" "Z" (.int z0)) (hz0 : ¬ z0 = 0) (SA : Sta Z Z.heap "java/lang/StringUTF16" "$assertionsDisabled" "Z" (.int 1)) (SH : Sta Z Z.heap "java/lang/StringUTF16" "HI_BYTE_SHIFT" "I" (.int 0)) (SL : Sta Z Z.heap "java/lang/StringUTF16" "LO_BYTE_SHIFT" "I" (.int 8)) (fm : Value) (Sf : Sta Z Z.heap "jdk/internal/util/Preconditions" "SIOOBE_FORMATTER" "Ljava/util/function/BiFunction;" fm) (rfm : fm.isRef = true) {p : Program} {e : Env} {s : State} {m : MethodId} {args : Array Value} {below : List Frame} {meth : Method} {c : Code} {S0 : State} {V : Vm} (h0 : Heap) (a1 a2 a3 a4 md : Int32) (sa : Addr) (kS : ClassId) (ds : Value) (c0 c1 c2 : Int32) (hc : ∀ c ∈ [c0, c1, c2], own_c16 c) (hwf : own_wf [c0, c1, c2]) (A : Arv Z h0 sa kS .char 3 [.int c0, .int c1, .int c2] ds)
    (w : Wk p l e room_1 s m args below meth c Z a0 consts_1 S0 Jvm.Pilot.@@N@@.x code maxLocals ret V h0 1 3 (mkF m 102 #[.val (.int a1), .val (.int a2), .val (.int a3), .val (.int a4), .val (.ref sa), .val (.int md), .unset, .unset] [])) :
    Fini p e below s Z consts_1 S0 40 1216 (fun v h => v = some (.int 1)) := by
  have BZ := w.old
  have B0 := extR h0
  have C0 := CHr.refl w.ch
  replace w := w.iconst (pc' := 103) (0 : Int32) at_102
  obtain ⟨h1, em, k_em, g_em, E1, V_em, S_em, A1, w⟩ := w.newarr (cap := 0) (hw _ (List.mem_of_getElem? (i := 0) rfl)) at_103 (by decide) (by decide) nle nle (pc' := 105)
  have lt_em : em < h1.size := V_em.lt
  have ge_em_Z : Z.heap.size ≤ em := Nat.le_trans BZ.1 (Nat.le_of_eq g_em.symm)
  have ge_em_0 : h0.size ≤ em := Nat.le_trans B0.1 (Nat.le_of_eq g_em.symm)
  have BZ := extT BZ E1
  have B0 := extT B0 E1
  have C0 := C0.trans A1
  replace V_em := V_em.pad (vs' := []) (pad_rep [] _ 0)
  have B1 := extR h1
  have C1 := CHr.refl w.ch
  replace w := w.astore (pc' := 107) (L' := #[.val (.int a1), .val (.int a2), .val (.int a3), .val (.int a4), .val (.ref sa), .val (.int md), .val (.ref em), .unset]) at_105 rfl
  replace w := w.iconst (pc' := 108) (2 : Int32) at_107
  obtain ⟨h2, pr, k_pr, g_pr, E2, V_pr, S_pr, A2, w⟩ := w.newarr (cap := 2) (hw _ (List.mem_of_getElem? (i := 0) rfl)) at_108 (by decide) (by decide) nle nle (pc' := 110)
  have lt_pr : pr < h2.size := V_pr.lt
  have ge_pr_Z : Z.heap.size ≤ pr := Nat.le_trans BZ.1 (Nat.le_of_eq g_pr.symm)
  have ge_pr_0 : h0.size ≤ pr := Nat.le_trans B0.1 (Nat.le_of_eq g_pr.symm)
  have ge_pr_1 : h1.size ≤ pr := Nat.le_trans B1.1 (Nat.le_of_eq g_pr.symm)
  have BZ := extT BZ E2
  have B0 := extT B0 E2
  have C0 := C0.trans A2
  have B1 := extT B1 E2
  have C1 := C1.trans A2
  replace V_pr := V_pr.pad (vs' := [(.int (0 : Int32)), (.int (0 : Int32))]) (pad_rep [] _ 2)
  replace w := w.astore (pc' := 112) (L' := #[.val (.int a1), .val (.int a2), .val (.int a3), .val (.int a4), .val (.ref sa), .val (.int md), .val (.ref em), .val (.ref pr)]) at_110 rfl
  replace w := w.aload (pc' := 114) at_112 rfl
  replace w := w.iconst (pc' := 115) (0 : Int32) at_114
  replace w := w.iloadN (pc' := 116) at_115 rfl
  obtain ⟨v3, V3, h3, hq3, A3, w⟩ := w.static (y' := (⟨"com/example/policy_prover/policyprover/model/TextRequireWellFormedPinLaw", "hi", "(I)C"⟩ : MethodName)) (W := 2) (w.pays 2 (rmHI l Z a0 hw hEL a3 h2 w.old) (hw _ (List.mem_of_getElem? (i := 5) rfl)) (hw _ (List.mem_of_getElem? (i := 4) rfl)) all0 nle nle) (hw _ (List.mem_of_getElem? (i := 2) rfl)) (hw _ (List.mem_of_getElem? (i := 3) rfl)) (hw _ (List.mem_of_getElem? (i := 4) rfl)) (hw _ (List.mem_of_getElem? (i := 5) rfl)) (argsL := [(.int a3)]) (rest := [(.int (0 : Int32)), (.ref pr)]) (by decide) pd_21 rfl rfl (Nat.le_of_eq rfl) rfl at_116 nle nle (pc' := 119)
  obtain ⟨g0, ⟨rfl, r0⟩, he3⟩ := hq3
  replace w := w.to (g' := mkF m 119 #[.val (.int a1), .val (.int a2), .val (.int a3), .val (.int a4), .val (.ref sa), .val (.int md), .val (.ref em), .val (.ref pr)] [(.int g0), (.int (0 : Int32)), (.ref pr)]) rfl
  replace he3 := he3.symm
  subst he3
  have C0 := C0.trans A3
  have C1 := C1.trans A3
  obtain ⟨h4, K4, V_pr, A4, w⟩ := w.castore (x' := g0) V_pr at_119 ⟨by decide, by decide⟩ (own_nar16 (own_hs16 r0)) 0 rfl nle ge_pr_Z (pc' := 120)
  replace V_pr := V_pr.pad (vs' := [(.int g0), (.int (0 : Int32))]) (fun _ => rfl)
  have BZ := extK BZ K4 (allS ge_pr_Z all0)
  have B0 := extK B0 K4 (allS ge_pr_0 all0)
  have C0 := C0.trans A4
  have B1 := extK B1 K4 (allS ge_pr_1 all0)
  have C1 := C1.trans A4
  replace w := w.aload (pc' := 122) at_120 rfl
  replace w := w.iconst (pc' := 123) (1 : Int32) at_122
  replace w := w.iloadN (pc' := 124) at_123 rfl
  obtain ⟨v5, V5, h5, hq5, A5, w⟩ := w.static (y' := (⟨"com/example/policy_prover/policyprover/model/TextRequireWellFormedPinLaw", "lo", "(I)C"⟩ : MethodName)) (W := 2) (w.pays 2 (rmLO l Z a0 hw hEL a3 h4 w.old) (hw _ (List.mem_of_getElem? (i := 9) rfl)) (hw _ (List.mem_of_getElem? (i := 4) rfl)) all0 nle nle) (hw _ (List.mem_of_getElem? (i := 7) rfl)) (hw _ (List.mem_of_getElem? (i := 8) rfl)) (hw _ (List.mem_of_getElem? (i := 4) rfl)) (hw _ (List.mem_of_getElem? (i := 9) rfl)) (argsL := [(.int a3)]) (rest := [(.int (1 : Int32)), (.ref pr)]) (by decide) pd_21 rfl rfl (Nat.le_of_eq rfl) rfl at_124 nle nle (pc' := 127)
  obtain ⟨g1, ⟨rfl, r1⟩, he5⟩ := hq5
  replace w := w.to (g' := mkF m 127 #[.val (.int a1), .val (.int a2), .val (.int a3), .val (.int a4), .val (.ref sa), .val (.int md), .val (.ref em), .val (.ref pr)] [(.int g1), (.int (1 : Int32)), (.ref pr)]) rfl
  replace he5 := he5.symm
  subst he5
  have C0 := C0.trans A5
  have C1 := C1.trans A5
  obtain ⟨h6, K6, V_pr, A6, w⟩ := w.castore (x' := g1) V_pr at_127 ⟨by decide, by decide⟩ (own_nar16 (own_ls16 r1)) 1 rfl nle ge_pr_Z (pc' := 128)
  replace V_pr := V_pr.pad (vs' := [(.int g0), (.int g1)]) (fun _ => rfl)
  have BZ := extK BZ K6 (allS ge_pr_Z all0)
  have B0 := extK B0 K6 (allS ge_pr_0 all0)
  have C0 := C0.trans A6
  have B1 := extK B1 K6 (allS ge_pr_1 all0)
  have C1 := C1.trans A6
  have Vem := V_em.ext B1
  have B3 := extR h6
  have C3 := CHr.refl w.ch
  obtain ⟨h7, x, g_x, E7, X_x, D_x, S_x, A7, w⟩ := w.new (hw _ (List.mem_of_getElem? (i := 15) rfl)) (hw _ (List.mem_of_getElem? (i := 16) rfl)) (hw _ (List.mem_of_getElem? (i := 17) rfl)) at_128 nle nle (pc' := 131)
  have lt_x : x < h7.size := X_x.lt
  have ge_x_Z : Z.heap.size ≤ x := Nat.le_trans BZ.1 (Nat.le_of_eq g_x.symm)
  have ge_x_0 : h0.size ≤ x := Nat.le_trans B0.1 (Nat.le_of_eq g_x.symm)
  have ge_x_3 : h6.size ≤ x := Nat.le_trans B3.1 (Nat.le_of_eq g_x.symm)
  have F_x_value := D_x (Or.inr (hw _ (List.mem_of_getElem? (i := 30) rfl))) (ty := (.array .byte)) (by decide)
  have F_x_coder := D_x (Or.inr (hw _ (List.mem_of_getElem? (i := 31) rfl))) (ty := .byte) (by decide)
  have BZ := extT BZ E7
  have B0 := extT B0 E7
  have C0 := C0.trans A7
  have B3 := extT B3 E7
  have C3 := C3.trans A7
  replace w := w.dup (pc' := 132) at_131
  replace w := w.aload (pc' := 134) at_132 rfl
  obtain ⟨v8, V8, h8, hq8, A8, w⟩ := w.ctor (y' := (⟨"java/lang/String", "<init>", "([C)V"⟩ : MethodName)) (W := 1) (a := x) (w.pays 1 (rmI1 l Z a0 hw hEL x em k_em _ h7 w.old X_x F_x_value F_x_coder ge_x_Z (Vem.ext B3)) (hw _ (List.mem_of_getElem? (i := 20) rfl)) (hw _ (List.mem_of_getElem? (i := 17) rfl)) (allS S_x all0) nle nle) rfl (hw _ (List.mem_of_getElem? (i := 18) rfl)) (hw _ (List.mem_of_getElem? (i := 19) rfl)) (hw _ (List.mem_of_getElem? (i := 20) rfl)) (argsL := [(.ref em)]) (rest := [(.ref x)]) (by decide) pd_19 rfl rfl (Nat.le_of_eq rfl) rfl at_134 nle nle (pc' := 137)
  obtain ⟨rfl, K8, T1⟩ := hq8
  replace w := w.to (g' := mkF m 137 #[.val (.int a1), .val (.int a2), .val (.int a3), .val (.int a4), .val (.ref sa), .val (.int md), .val (.ref em), .val (.ref pr)] [(.ref x)]) rfl
  have BZ := extK BZ K8 (allS ge_x_Z all0)
  have B0 := extK B0 K8 (allS ge_x_0 all0)
  have C0 := C0.trans A8
  have B3 := extK B3 K8 (allS ge_x_3 all0)
  have C3 := C3.trans A8
  obtain ⟨v9, V9, h9, hq9, A9, w⟩ := w.static (y' := (⟨"com/example/policy_prover/policyprover/model/Text", "requireWellFormed", "(Ljava/lang/String;)V"⟩ : MethodName)) (W := 0) (w.pays 0 (rmRWF l Z a0 hw hEL z0 Sc hz0 SA SH SL fm Sf rfm x [] nle trivial h8 w.old (Or.inl T1)) (hw _ (List.mem_of_getElem? (i := 39) rfl)) (hw _ (List.mem_of_getElem? (i := 38) rfl)) all0 nle nle) (hw _ (List.mem_of_getElem? (i := 36) rfl)) (hw _ (List.mem_of_getElem? (i := 37) rfl)) (hw _ (List.mem_of_getElem? (i := 38) rfl)) (hw _ (List.mem_of_getElem? (i := 39) rfl)) (argsL := [(.ref x)]) (rest := []) (by decide) pd_20 rfl rfl (Nat.le_of_eq rfl) rfl at_137 nle nle (pc' := 140)
  obtain ⟨rfl, he9⟩ := hq9
  replace w := w.to (g' := mkF m 140 #[.val (.int a1), .val (.int a2), .val (.int a3), .val (.int a4), .val (.ref sa), .val (.int md), .val (.ref em), .val (.ref pr)] []) rfl
  replace he9 := he9.symm
  subst he9
  have C0 := C0.trans A9
  have C3 := C3.trans A9
  replace w := w.iloadN (pc' := 141) at_140 rfl
  obtain ⟨v10, V10, h10, hq10, A10, w⟩ := w.static (y' := (⟨"com/example/policy_prover/policyprover/model/TextRequireWellFormedPinLaw", "bmp", "(I)C"⟩ : MethodName)) (W := 0) (w.pays 0 (rmBMP l Z a0 hw hEL a3 h8 w.old) (hw _ (List.mem_of_getElem? (i := 13) rfl)) (hw _ (List.mem_of_getElem? (i := 4) rfl)) all0 nle nle) (hw _ (List.mem_of_getElem? (i := 11) rfl)) (hw _ (List.mem_of_getElem? (i := 12) rfl)) (hw _ (List.mem_of_getElem? (i := 4) rfl)) (hw _ (List.mem_of_getElem? (i := 13) rfl)) (argsL := [(.int a3)]) (rest := []) (by decide) pd_21 rfl rfl (Nat.le_of_eq rfl) rfl at_141 nle nle (pc' := 144)
  obtain ⟨g2, ⟨rfl, r2⟩, he10⟩ := hq10
  replace w := w.to (g' := mkF m 144 #[.val (.int a1), .val (.int a2), .val (.int a3), .val (.int a4), .val (.ref sa), .val (.int md), .val (.ref em), .val (.ref pr)] [(.int g2)]) rfl
  replace he10 := he10.symm
  subst he10
  have C0 := C0.trans A10
  have C3 := C3.trans A10
  obtain ⟨v11, V11, h11, hq11, A11, w⟩ := w.static (y' := (⟨"java/lang/String", "valueOf", "(C)Ljava/lang/String;"⟩ : MethodName)) (W := 0) (w.pays 0 (rmVO l Z a0 hw hEL z0 Sc hz0 SA SH SL g2 (own_ns16 r2) h8 w.old) (hw _ (List.mem_of_getElem? (i := 53) rfl)) (hw _ (List.mem_of_getElem? (i := 17) rfl)) all0 nle nle) (hw _ (List.mem_of_getElem? (i := 51) rfl)) (hw _ (List.mem_of_getElem? (i := 52) rfl)) (hw _ (List.mem_of_getElem? (i := 17) rfl)) (hw _ (List.mem_of_getElem? (i := 53) rfl)) (argsL := [(.int g2)]) (rest := []) (by decide) pd_22 rfl rfl (Nat.le_of_eq rfl) rfl at_144 nle nle (pc' := 147)
  obtain ⟨xv, rfl, E11, T2⟩ := hq11
  replace w := w.to (g' := mkF m 147 #[.val (.int a1), .val (.int a2), .val (.int a3), .val (.int a4), .val (.ref sa), .val (.int md), .val (.ref em), .val (.ref pr)] [(.ref xv)]) rfl
  have BZ := extT BZ E11
  have B0 := extT B0 E11
  have C0 := C0.trans A11
  have B3 := extT B3 E11
  have C3 := C3.trans A11
  obtain ⟨v12, V12, h12, hq12, A12, w⟩ := w.static (y' := (⟨"com/example/policy_prover/policyprover/model/Text", "requireWellFormed", "(Ljava/lang/String;)V"⟩ : MethodName)) (W := 0) (w.pays 0 (rmRWF l Z a0 hw hEL z0 Sc hz0 SA SH SL fm Sf rfm xv [g2] nle r2 h11 w.old T2) (hw _ (List.mem_of_getElem? (i := 39) rfl)) (hw _ (List.mem_of_getElem? (i := 38) rfl)) all0 nle nle) (hw _ (List.mem_of_getElem? (i := 36) rfl)) (hw _ (List.mem_of_getElem? (i := 37) rfl)) (hw _ (List.mem_of_getElem? (i := 38) rfl)) (hw _ (List.mem_of_getElem? (i := 39) rfl)) (argsL := [(.ref xv)]) (rest := []) (by decide) pd_20 rfl rfl (Nat.le_of_eq rfl) rfl at_147 nle nle (pc' := 150)
  obtain ⟨rfl, he12⟩ := hq12
  replace w := w.to (g' := mkF m 150 #[.val (.int a1), .val (.int a2), .val (.int a3), .val (.int a4), .val (.ref sa), .val (.int md), .val (.ref em), .val (.ref pr)] []) rfl
  replace he12 := he12.symm
  subst he12
  have C0 := C0.trans A12
  have C3 := C3.trans A12
  obtain ⟨h13, y, g_y, E13, X_y, D_y, S_y, A13, w⟩ := w.new (hw _ (List.mem_of_getElem? (i := 15) rfl)) (hw _ (List.mem_of_getElem? (i := 16) rfl)) (hw _ (List.mem_of_getElem? (i := 17) rfl)) at_150 nle nle (pc' := 153)
  have lt_y : y < h13.size := X_y.lt
  have ge_y_Z : Z.heap.size ≤ y := Nat.le_trans BZ.1 (Nat.le_of_eq g_y.symm)
  have ge_y_0 : h0.size ≤ y := Nat.le_trans B0.1 (Nat.le_of_eq g_y.symm)
  have ge_y_3 : h6.size ≤ y := Nat.le_trans B3.1 (Nat.le_of_eq g_y.symm)
  have F_y_value := D_y (Or.inr (hw _ (List.mem_of_getElem? (i := 30) rfl))) (ty := (.array .byte)) (by decide)
  have F_y_coder := D_y (Or.inr (hw _ (List.mem_of_getElem? (i := 31) rfl))) (ty := .byte) (by decide)
  have BZ := extT BZ E13
  have B0 := extT B0 E13
  have C0 := C0.trans A13
  have B3 := extT B3 E13
  have C3 := C3.trans A13
  replace w := w.dup (pc' := 154) at_153
  replace w := w.aload (pc' := 156) at_154 rfl
  have Vpr := V_pr.ext B3
  obtain ⟨v14, V14, h14, hq14, A14, w⟩ := w.ctor (y' := (⟨"java/lang/String", "<init>", "([C)V"⟩ : MethodName)) (W := 1) (a := y) (w.pays 1 (rmI1w2 l Z a0 hw hEL z0 Sc hz0 SA SH SL y pr k_pr _ g0 g1 (own_2of (own_hs16 r0) (own_ls16 r1)) ⟨0, by omega, by omega, show (255 : Int32) < g0 from own_gt255.mpr (by have := r0.1; omega)⟩ h13 w.old Vpr X_y F_y_value F_y_coder ge_y_Z) (hw _ (List.mem_of_getElem? (i := 20) rfl)) (hw _ (List.mem_of_getElem? (i := 17) rfl)) (allS S_y all0) nle nle) rfl (hw _ (List.mem_of_getElem? (i := 18) rfl)) (hw _ (List.mem_of_getElem? (i := 19) rfl)) (hw _ (List.mem_of_getElem? (i := 20) rfl)) (argsL := [(.ref pr)]) (rest := [(.ref y)]) (by decide) pd_19 rfl rfl (Nat.le_of_eq rfl) rfl at_156 nle nle (pc' := 159)
  obtain ⟨rfl, K14, T3⟩ := hq14
  replace w := w.to (g' := mkF m 159 #[.val (.int a1), .val (.int a2), .val (.int a3), .val (.int a4), .val (.ref sa), .val (.int md), .val (.ref em), .val (.ref pr)] [(.ref y)]) rfl
  have BZ := extK BZ K14 (allS ge_y_Z all0)
  have B0 := extK B0 K14 (allS ge_y_0 all0)
  have C0 := C0.trans A14
  have B3 := extK B3 K14 (allS ge_y_3 all0)
  have C3 := C3.trans A14
  obtain ⟨v15, V15, h15, hq15, A15, w⟩ := w.static (y' := (⟨"com/example/policy_prover/policyprover/model/Text", "requireWellFormed", "(Ljava/lang/String;)V"⟩ : MethodName)) (W := 0) (w.pays 0 (rmRWF l Z a0 hw hEL z0 Sc hz0 SA SH SL fm Sf rfm y [g0, g1] nle (Or.inr ⟨r0, r1, trivial⟩) h14 w.old (Or.inr T3)) (hw _ (List.mem_of_getElem? (i := 39) rfl)) (hw _ (List.mem_of_getElem? (i := 38) rfl)) all0 nle nle) (hw _ (List.mem_of_getElem? (i := 36) rfl)) (hw _ (List.mem_of_getElem? (i := 37) rfl)) (hw _ (List.mem_of_getElem? (i := 38) rfl)) (hw _ (List.mem_of_getElem? (i := 39) rfl)) (argsL := [(.ref y)]) (rest := []) (by decide) pd_20 rfl rfl (Nat.le_of_eq rfl) rfl at_159 nle nle (pc' := 162)
  obtain ⟨rfl, he15⟩ := hq15
  replace w := w.to (g' := mkF m 162 #[.val (.int a1), .val (.int a2), .val (.int a3), .val (.int a4), .val (.ref sa), .val (.int md), .val (.ref em), .val (.ref pr)] []) rfl
  replace he15 := he15.symm
  subst he15
  have C0 := C0.trans A15
  have C3 := C3.trans A15
  exact tl162 l Z a0 hw hEL z0 Sc hz0 SA SH SL fm Sf rfm _ a1 a2 a3 a4 md sa em pr kS ds c0 c1 c2 hc hwf (A.ext B0) (w.more nle nle)
theorem own_3of {a b c : Int32} (h1 : own_c16 a) (h2 : own_c16 b) (h3 : own_c16 c) : ∀ z ∈ [a, b, c], own_c16 z := fun z hz => by
  simp only [List.mem_cons, List.not_mem_nil, or_false] at hz
  rcases hz with rfl | rfl | rfl
  · exact h1
  · exact h2
  · exact h3
set_option maxRecDepth 65536 in
theorem rm0 (l : Launch) (Z : State) (a0 : Array Value) (hw : ∀ d ∈ tables_1, d.before a0 Z = true) (hEL : EW Z a0 consts_1) (z0 : Int32) (Sc : Sta Z Z.heap "java/lang/String" "COMPACT_STRINGS" "Z" (.int z0)) (hz0 : ¬ z0 = 0) (SA : Sta Z Z.heap "java/lang/StringUTF16" "$assertionsDisabled" "Z" (.int 1)) (SH : Sta Z Z.heap "java/lang/StringUTF16" "HI_BYTE_SHIFT" "I" (.int 0)) (SL : Sta Z Z.heap "java/lang/StringUTF16" "LO_BYTE_SHIFT" "I" (.int 8)) (fm : Value) (Sf : Sta Z Z.heap "jdk/internal/util/Preconditions" "SIOOBE_FORMATTER" "Ljava/util/function/BiFunction;" fm) (rfm : fm.isRef = true) (p0 p1 p2 p3 : Int32) :
    Met l Z consts_1 x code maxLocals ret tables_1 room_1 #[.int p0, .int p1, .int p2, .int p3] Z.heap [] (fun v h => v = some (.int 1)) := by
  refine Met.of (a0 := a0) (by decide +kernel) hEL (extR _) ?_
  intro p e s m below meth c S0 V w hs hsf
  replace w := w.to (g' := mkF m 0 #[.val (.int p0), .val (.int p1), .val (.int p2), .val (.int p3), .unset, .unset, .unset, .unset] []) (by first | (simp [entryFrame, mkF, argsToLocals, Value.category, maxLocals]; done) | rfl)
  have BZ := w.old
  replace w := w.iconst (pc' := 1) (3 : Int32) at_0
  obtain ⟨h1, sa, k_sa, g_sa, E1, V_sa, S_sa, A1, w⟩ := w.newarr (cap := 3) (hw _ (List.mem_of_getElem? (i := 0) rfl)) at_1 (by decide) (by decide) nle nle (pc' := 3)
  have lt_sa : sa < h1.size := V_sa.lt
  have ge_sa_Z : Z.heap.size ≤ sa := Nat.le_trans BZ.1 (Nat.le_of_eq g_sa.symm)
  have BZ := extT BZ E1
  replace V_sa := V_sa.pad (vs' := [(.int (0 : Int32)), (.int (0 : Int32)), (.int (0 : Int32))]) (pad_rep [] _ 3)
  replace w := w.astore (pc' := 5) (L' := #[.val (.int p0), .val (.int p1), .val (.int p2), .val (.int p3), .val (.ref sa), .unset, .unset, .unset]) at_3 rfl
  replace w := w.iloadN (pc' := 6) at_5 rfl
  replace w := w.ldcI (pc' := 8) (x := (2147483647 : Int32)) (hw _ (List.mem_of_getElem? (i := 1) rfl)) at_6
  replace w := w.iand (pc' := 9) at_8
  replace w := w.iconst (pc' := 10) (3 : Int32) at_9
  replace w := w.irem (pc' := 11) at_10 (by decide)
  obtain ⟨md, hmd⟩ : ∃ z, z = ((p3 &&& (2147483647 : Int32)) % (3 : Int32)) := ⟨_, rfl⟩
  rw [← hmd] at w
  replace w := w.istore (pc' := 13) (L' := #[.val (.int p0), .val (.int p1), .val (.int p2), .val (.int p3), .val (.ref sa), .val (.int md), .unset, .unset]) at_11 rfl
  replace w := w.iload (pc' := 15) at_13 rfl
  by_cases q0 : md = 0
  ·
    replace w := w.ifNo (pc' := 18) at_15 ((if0 _ _).trans (teq q0).2)
    replace w := w.aload (pc' := 20) at_18 rfl
    replace w := w.iconst (pc' := 21) (0 : Int32) at_20
    replace w := w.iloadN (pc' := 22) at_21 rfl
    obtain ⟨v2, V2, h2, hq2, A2, w⟩ := w.static (y' := (⟨"com/example/policy_prover/policyprover/model/TextRequireWellFormedPinLaw", "bmp", "(I)C"⟩ : MethodName)) (W := 2) (w.pays 2 (rmBMP l Z a0 hw hEL p0 h1 w.old) (hw _ (List.mem_of_getElem? (i := 13) rfl)) (hw _ (List.mem_of_getElem? (i := 4) rfl)) all0 nle nle) (hw _ (List.mem_of_getElem? (i := 11) rfl)) (hw _ (List.mem_of_getElem? (i := 12) rfl)) (hw _ (List.mem_of_getElem? (i := 4) rfl)) (hw _ (List.mem_of_getElem? (i := 13) rfl)) (argsL := [(.int p0)]) (rest := [(.int (0 : Int32)), (.ref sa)]) (by decide) pd_21 rfl rfl (Nat.le_of_eq rfl) rfl at_22 nle nle (pc' := 25)
    obtain ⟨g0, ⟨rfl, r0⟩, he2⟩ := hq2
    replace w := w.to (g' := mkF m 25 #[.val (.int p0), .val (.int p1), .val (.int p2), .val (.int p3), .val (.ref sa), .val (.int md), .unset, .unset] [(.int g0), (.int (0 : Int32)), (.ref sa)]) rfl
    replace he2 := he2.symm
    subst he2
    obtain ⟨h3, K3, V_sa, A3, w⟩ := w.castore (x' := g0) V_sa at_25 ⟨by decide, by decide⟩ (own_nar16 (own_ns16 r0)) 0 rfl nle ge_sa_Z (pc' := 26)
    replace V_sa := V_sa.pad (vs' := [(.int g0), (.int (0 : Int32)), (.int (0 : Int32))]) (fun _ => rfl)
    have BZ := extK BZ K3 (allS ge_sa_Z all0)
    replace w := w.aload (pc' := 28) at_26 rfl
    replace w := w.iconst (pc' := 29) (1 : Int32) at_28
    replace w := w.iloadN (pc' := 30) at_29 rfl
    obtain ⟨v4, V4, h4, hq4, A4, w⟩ := w.static (y' := (⟨"com/example/policy_prover/policyprover/model/TextRequireWellFormedPinLaw", "bmp", "(I)C"⟩ : MethodName)) (W := 2) (w.pays 2 (rmBMP l Z a0 hw hEL p1 h3 w.old) (hw _ (List.mem_of_getElem? (i := 13) rfl)) (hw _ (List.mem_of_getElem? (i := 4) rfl)) all0 nle nle) (hw _ (List.mem_of_getElem? (i := 11) rfl)) (hw _ (List.mem_of_getElem? (i := 12) rfl)) (hw _ (List.mem_of_getElem? (i := 4) rfl)) (hw _ (List.mem_of_getElem? (i := 13) rfl)) (argsL := [(.int p1)]) (rest := [(.int (1 : Int32)), (.ref sa)]) (by decide) pd_21 rfl rfl (Nat.le_of_eq rfl) rfl at_30 nle nle (pc' := 33)
    obtain ⟨g1, ⟨rfl, r1⟩, he4⟩ := hq4
    replace w := w.to (g' := mkF m 33 #[.val (.int p0), .val (.int p1), .val (.int p2), .val (.int p3), .val (.ref sa), .val (.int md), .unset, .unset] [(.int g1), (.int (1 : Int32)), (.ref sa)]) rfl
    replace he4 := he4.symm
    subst he4
    obtain ⟨h5, K5, V_sa, A5, w⟩ := w.castore (x' := g1) V_sa at_33 ⟨by decide, by decide⟩ (own_nar16 (own_ns16 r1)) 1 rfl nle ge_sa_Z (pc' := 34)
    replace V_sa := V_sa.pad (vs' := [(.int g0), (.int g1), (.int (0 : Int32))]) (fun _ => rfl)
    have BZ := extK BZ K5 (allS ge_sa_Z all0)
    replace w := w.aload (pc' := 36) at_34 rfl
    replace w := w.iconst (pc' := 37) (2 : Int32) at_36
    replace w := w.iloadN (pc' := 38) at_37 rfl
    obtain ⟨v6, V6, h6, hq6, A6, w⟩ := w.static (y' := (⟨"com/example/policy_prover/policyprover/model/TextRequireWellFormedPinLaw", "bmp", "(I)C"⟩ : MethodName)) (W := 2) (w.pays 2 (rmBMP l Z a0 hw hEL p2 h5 w.old) (hw _ (List.mem_of_getElem? (i := 13) rfl)) (hw _ (List.mem_of_getElem? (i := 4) rfl)) all0 nle nle) (hw _ (List.mem_of_getElem? (i := 11) rfl)) (hw _ (List.mem_of_getElem? (i := 12) rfl)) (hw _ (List.mem_of_getElem? (i := 4) rfl)) (hw _ (List.mem_of_getElem? (i := 13) rfl)) (argsL := [(.int p2)]) (rest := [(.int (2 : Int32)), (.ref sa)]) (by decide) pd_21 rfl rfl (Nat.le_of_eq rfl) rfl at_38 nle nle (pc' := 41)
    obtain ⟨g2, ⟨rfl, r2⟩, he6⟩ := hq6
    replace w := w.to (g' := mkF m 41 #[.val (.int p0), .val (.int p1), .val (.int p2), .val (.int p3), .val (.ref sa), .val (.int md), .unset, .unset] [(.int g2), (.int (2 : Int32)), (.ref sa)]) rfl
    replace he6 := he6.symm
    subst he6
    obtain ⟨h7, K7, V_sa, A7, w⟩ := w.castore (x' := g2) V_sa at_41 ⟨by decide, by decide⟩ (own_nar16 (own_ns16 r2)) 2 rfl nle ge_sa_Z (pc' := 42)
    replace V_sa := V_sa.pad (vs' := [(.int g0), (.int g1), (.int g2)]) (fun _ => rfl)
    have BZ := extK BZ K7 (allS ge_sa_Z all0)
    replace w := w.goto (pc' := 102) at_42
    exact tl102 l Z a0 hw hEL z0 Sc hz0 SA SH SL fm Sf rfm _ p0 p1 p2 p3 md sa k_sa _ g0 g1 g2 (own_3of (own_ns16 r0) (own_ns16 r1) (own_ns16 r2)) (Or.inl ⟨r0, Or.inl ⟨r1, r2⟩⟩) V_sa w
  replace w := w.ifYes (pc' := 45) at_15 ((if0 _ _).trans (feq q0).2)
  replace w := w.iload (pc' := 47) at_45 rfl
  replace w := w.iconst (pc' := 48) (1 : Int32) at_47
  by_cases q1 : md = 1
  ·
    replace w := w.icmpNo (pc' := 51) at_48 ((teq q1).2)
    replace w := w.aload (pc' := 53) at_51 rfl
    replace w := w.iconst (pc' := 54) (0 : Int32) at_53
    replace w := w.iloadN (pc' := 55) at_54 rfl
    obtain ⟨v8, V8, h8, hq8, A8, w⟩ := w.static (y' := (⟨"com/example/policy_prover/policyprover/model/TextRequireWellFormedPinLaw", "hi", "(I)C"⟩ : MethodName)) (W := 2) (w.pays 2 (rmHI l Z a0 hw hEL p0 h1 w.old) (hw _ (List.mem_of_getElem? (i := 5) rfl)) (hw _ (List.mem_of_getElem? (i := 4) rfl)) all0 nle nle) (hw _ (List.mem_of_getElem? (i := 2) rfl)) (hw _ (List.mem_of_getElem? (i := 3) rfl)) (hw _ (List.mem_of_getElem? (i := 4) rfl)) (hw _ (List.mem_of_getElem? (i := 5) rfl)) (argsL := [(.int p0)]) (rest := [(.int (0 : Int32)), (.ref sa)]) (by decide) pd_21 rfl rfl (Nat.le_of_eq rfl) rfl at_55 nle nle (pc' := 58)
    obtain ⟨g0, ⟨rfl, r0⟩, he8⟩ := hq8
    replace w := w.to (g' := mkF m 58 #[.val (.int p0), .val (.int p1), .val (.int p2), .val (.int p3), .val (.ref sa), .val (.int md), .unset, .unset] [(.int g0), (.int (0 : Int32)), (.ref sa)]) rfl
    replace he8 := he8.symm
    subst he8
    obtain ⟨h9, K9, V_sa, A9, w⟩ := w.castore (x' := g0) V_sa at_58 ⟨by decide, by decide⟩ (own_nar16 (own_hs16 r0)) 0 rfl nle ge_sa_Z (pc' := 59)
    replace V_sa := V_sa.pad (vs' := [(.int g0), (.int (0 : Int32)), (.int (0 : Int32))]) (fun _ => rfl)
    have BZ := extK BZ K9 (allS ge_sa_Z all0)
    replace w := w.aload (pc' := 61) at_59 rfl
    replace w := w.iconst (pc' := 62) (1 : Int32) at_61
    replace w := w.iloadN (pc' := 63) at_62 rfl
    obtain ⟨v10, V10, h10, hq10, A10, w⟩ := w.static (y' := (⟨"com/example/policy_prover/policyprover/model/TextRequireWellFormedPinLaw", "lo", "(I)C"⟩ : MethodName)) (W := 2) (w.pays 2 (rmLO l Z a0 hw hEL p0 h9 w.old) (hw _ (List.mem_of_getElem? (i := 9) rfl)) (hw _ (List.mem_of_getElem? (i := 4) rfl)) all0 nle nle) (hw _ (List.mem_of_getElem? (i := 7) rfl)) (hw _ (List.mem_of_getElem? (i := 8) rfl)) (hw _ (List.mem_of_getElem? (i := 4) rfl)) (hw _ (List.mem_of_getElem? (i := 9) rfl)) (argsL := [(.int p0)]) (rest := [(.int (1 : Int32)), (.ref sa)]) (by decide) pd_21 rfl rfl (Nat.le_of_eq rfl) rfl at_63 nle nle (pc' := 66)
    obtain ⟨g1, ⟨rfl, r1⟩, he10⟩ := hq10
    replace w := w.to (g' := mkF m 66 #[.val (.int p0), .val (.int p1), .val (.int p2), .val (.int p3), .val (.ref sa), .val (.int md), .unset, .unset] [(.int g1), (.int (1 : Int32)), (.ref sa)]) rfl
    replace he10 := he10.symm
    subst he10
    obtain ⟨h11, K11, V_sa, A11, w⟩ := w.castore (x' := g1) V_sa at_66 ⟨by decide, by decide⟩ (own_nar16 (own_ls16 r1)) 1 rfl nle ge_sa_Z (pc' := 67)
    replace V_sa := V_sa.pad (vs' := [(.int g0), (.int g1), (.int (0 : Int32))]) (fun _ => rfl)
    have BZ := extK BZ K11 (allS ge_sa_Z all0)
    replace w := w.aload (pc' := 69) at_67 rfl
    replace w := w.iconst (pc' := 70) (2 : Int32) at_69
    replace w := w.iloadN (pc' := 71) at_70 rfl
    obtain ⟨v12, V12, h12, hq12, A12, w⟩ := w.static (y' := (⟨"com/example/policy_prover/policyprover/model/TextRequireWellFormedPinLaw", "bmp", "(I)C"⟩ : MethodName)) (W := 2) (w.pays 2 (rmBMP l Z a0 hw hEL p1 h11 w.old) (hw _ (List.mem_of_getElem? (i := 13) rfl)) (hw _ (List.mem_of_getElem? (i := 4) rfl)) all0 nle nle) (hw _ (List.mem_of_getElem? (i := 11) rfl)) (hw _ (List.mem_of_getElem? (i := 12) rfl)) (hw _ (List.mem_of_getElem? (i := 4) rfl)) (hw _ (List.mem_of_getElem? (i := 13) rfl)) (argsL := [(.int p1)]) (rest := [(.int (2 : Int32)), (.ref sa)]) (by decide) pd_21 rfl rfl (Nat.le_of_eq rfl) rfl at_71 nle nle (pc' := 74)
    obtain ⟨g2, ⟨rfl, r2⟩, he12⟩ := hq12
    replace w := w.to (g' := mkF m 74 #[.val (.int p0), .val (.int p1), .val (.int p2), .val (.int p3), .val (.ref sa), .val (.int md), .unset, .unset] [(.int g2), (.int (2 : Int32)), (.ref sa)]) rfl
    replace he12 := he12.symm
    subst he12
    obtain ⟨h13, K13, V_sa, A13, w⟩ := w.castore (x' := g2) V_sa at_74 ⟨by decide, by decide⟩ (own_nar16 (own_ns16 r2)) 2 rfl nle ge_sa_Z (pc' := 75)
    replace V_sa := V_sa.pad (vs' := [(.int g0), (.int g1), (.int g2)]) (fun _ => rfl)
    have BZ := extK BZ K13 (allS ge_sa_Z all0)
    replace w := w.goto (pc' := 102) at_75
    exact tl102 l Z a0 hw hEL z0 Sc hz0 SA SH SL fm Sf rfm _ p0 p1 p2 p3 md sa k_sa _ g0 g1 g2 (own_3of (own_hs16 r0) (own_ls16 r1) (own_ns16 r2)) (Or.inr ⟨r0, r1, r2⟩) V_sa w
  replace w := w.icmpYes (pc' := 78) at_48 ((feq q1).2)
  replace w := w.aload (pc' := 80) at_78 rfl
  replace w := w.iconst (pc' := 81) (0 : Int32) at_80
  replace w := w.iloadN (pc' := 82) at_81 rfl
  obtain ⟨v14, V14, h14, hq14, A14, w⟩ := w.static (y' := (⟨"com/example/policy_prover/policyprover/model/TextRequireWellFormedPinLaw", "bmp", "(I)C"⟩ : MethodName)) (W := 2) (w.pays 2 (rmBMP l Z a0 hw hEL p1 h1 w.old) (hw _ (List.mem_of_getElem? (i := 13) rfl)) (hw _ (List.mem_of_getElem? (i := 4) rfl)) all0 nle nle) (hw _ (List.mem_of_getElem? (i := 11) rfl)) (hw _ (List.mem_of_getElem? (i := 12) rfl)) (hw _ (List.mem_of_getElem? (i := 4) rfl)) (hw _ (List.mem_of_getElem? (i := 13) rfl)) (argsL := [(.int p1)]) (rest := [(.int (0 : Int32)), (.ref sa)]) (by decide) pd_21 rfl rfl (Nat.le_of_eq rfl) rfl at_82 nle nle (pc' := 85)
  obtain ⟨g0, ⟨rfl, r0⟩, he14⟩ := hq14
  replace w := w.to (g' := mkF m 85 #[.val (.int p0), .val (.int p1), .val (.int p2), .val (.int p3), .val (.ref sa), .val (.int md), .unset, .unset] [(.int g0), (.int (0 : Int32)), (.ref sa)]) rfl
  replace he14 := he14.symm
  subst he14
  obtain ⟨h15, K15, V_sa, A15, w⟩ := w.castore (x' := g0) V_sa at_85 ⟨by decide, by decide⟩ (own_nar16 (own_ns16 r0)) 0 rfl nle ge_sa_Z (pc' := 86)
  replace V_sa := V_sa.pad (vs' := [(.int g0), (.int (0 : Int32)), (.int (0 : Int32))]) (fun _ => rfl)
  have BZ := extK BZ K15 (allS ge_sa_Z all0)
  replace w := w.aload (pc' := 88) at_86 rfl
  replace w := w.iconst (pc' := 89) (1 : Int32) at_88
  replace w := w.iloadN (pc' := 90) at_89 rfl
  obtain ⟨v16, V16, h16, hq16, A16, w⟩ := w.static (y' := (⟨"com/example/policy_prover/policyprover/model/TextRequireWellFormedPinLaw", "hi", "(I)C"⟩ : MethodName)) (W := 2) (w.pays 2 (rmHI l Z a0 hw hEL p0 h15 w.old) (hw _ (List.mem_of_getElem? (i := 5) rfl)) (hw _ (List.mem_of_getElem? (i := 4) rfl)) all0 nle nle) (hw _ (List.mem_of_getElem? (i := 2) rfl)) (hw _ (List.mem_of_getElem? (i := 3) rfl)) (hw _ (List.mem_of_getElem? (i := 4) rfl)) (hw _ (List.mem_of_getElem? (i := 5) rfl)) (argsL := [(.int p0)]) (rest := [(.int (1 : Int32)), (.ref sa)]) (by decide) pd_21 rfl rfl (Nat.le_of_eq rfl) rfl at_90 nle nle (pc' := 93)
  obtain ⟨g1, ⟨rfl, r1⟩, he16⟩ := hq16
  replace w := w.to (g' := mkF m 93 #[.val (.int p0), .val (.int p1), .val (.int p2), .val (.int p3), .val (.ref sa), .val (.int md), .unset, .unset] [(.int g1), (.int (1 : Int32)), (.ref sa)]) rfl
  replace he16 := he16.symm
  subst he16
  obtain ⟨h17, K17, V_sa, A17, w⟩ := w.castore (x' := g1) V_sa at_93 ⟨by decide, by decide⟩ (own_nar16 (own_hs16 r1)) 1 rfl nle ge_sa_Z (pc' := 94)
  replace V_sa := V_sa.pad (vs' := [(.int g0), (.int g1), (.int (0 : Int32))]) (fun _ => rfl)
  have BZ := extK BZ K17 (allS ge_sa_Z all0)
  replace w := w.aload (pc' := 96) at_94 rfl
  replace w := w.iconst (pc' := 97) (2 : Int32) at_96
  replace w := w.iloadN (pc' := 98) at_97 rfl
  obtain ⟨v18, V18, h18, hq18, A18, w⟩ := w.static (y' := (⟨"com/example/policy_prover/policyprover/model/TextRequireWellFormedPinLaw", "lo", "(I)C"⟩ : MethodName)) (W := 2) (w.pays 2 (rmLO l Z a0 hw hEL p0 h17 w.old) (hw _ (List.mem_of_getElem? (i := 9) rfl)) (hw _ (List.mem_of_getElem? (i := 4) rfl)) all0 nle nle) (hw _ (List.mem_of_getElem? (i := 7) rfl)) (hw _ (List.mem_of_getElem? (i := 8) rfl)) (hw _ (List.mem_of_getElem? (i := 4) rfl)) (hw _ (List.mem_of_getElem? (i := 9) rfl)) (argsL := [(.int p0)]) (rest := [(.int (2 : Int32)), (.ref sa)]) (by decide) pd_21 rfl rfl (Nat.le_of_eq rfl) rfl at_98 nle nle (pc' := 101)
  obtain ⟨g2, ⟨rfl, r2⟩, he18⟩ := hq18
  replace w := w.to (g' := mkF m 101 #[.val (.int p0), .val (.int p1), .val (.int p2), .val (.int p3), .val (.ref sa), .val (.int md), .unset, .unset] [(.int g2), (.int (2 : Int32)), (.ref sa)]) rfl
  replace he18 := he18.symm
  subst he18
  obtain ⟨h19, K19, V_sa, A19, w⟩ := w.castore (x' := g2) V_sa at_101 ⟨by decide, by decide⟩ (own_nar16 (own_ls16 r2)) 2 rfl nle ge_sa_Z (pc' := 102)
  replace V_sa := V_sa.pad (vs' := [(.int g0), (.int g1), (.int g2)]) (fun _ => rfl)
  have BZ := extK BZ K19 (allS ge_sa_Z all0)
  exact tl102 l Z a0 hw hEL z0 Sc hz0 SA SH SL fm Sf rfm _ p0 p1 p2 p3 md sa k_sa _ g0 g1 g2 (own_3of (own_ns16 r0) (own_hs16 r1) (own_ls16 r2)) (Or.inl ⟨r0, Or.inr ⟨r1, r2, trivial⟩⟩) V_sa w
set_option maxRecDepth 65536 in
set_option maxHeartbeats 40000000 in
theorem comes_1 {Post : Tables → Env → Array Value → State → Outcome → State → Prop} (hpost : ∀ tb e args s v u, (limb_1_1.after args s (.returned v) u = true ∧ limb_1_2.after args s (.returned v) u = true ∧ True) → FramedW s (.returned v) u (Jvm.fieldLocs frame_1_writes args s ++ Jvm.arrayLocs frame_1_arrays args s ++ Jvm.staticLocs frame_1_statics s) 40 1216 → Post tb e args s (.returned v) u) :
    ArmFor flags0 classFile x code maxLocals ret World_1 tables_1 room_1 Calls_1 rest_1 Pre_1 Post := by
  intro l hfl _ _ p e ha hc hk s m args below hf hA hF happ hP
  obtain ⟨hcalls, hrest, hpre⟩ := hP
  obtain ⟨-, -, -, hnamed, -, -, -, hat⟩ := (Spec.applies_iff hf).mp happ
  obtain ⟨hg, hn⟩ := and_e (Cond.before_iff.mp (show (Jvm.Cond.and given_1 narrow_1).before args s = true from hpre))
  obtain ⟨hcount, g0⟩ := and_e hg
  obtain ⟨g0, g1⟩ := and_e g0
  obtain ⟨g1, g2⟩ := and_e g1
  obtain ⟨g2, g3⟩ := and_e g2
  obtain ⟨w0, w1, w2, w3, rfl⟩ : ∃ w0 w1 w2 w3 : Value, args = #[w0, w1, w2, w3] := by
    have hs : args.size = 4 := by simpa [Cond.value, given_1] using hcount
    obtain ⟨L⟩ := args
    match L, hs with
    | [w0, w1, w2, w3], _ => exact ⟨w0, w1, w2, w3, rfl⟩
  have hw := fun d (hd : d ∈ tables_1) => atoms_spec (ws := Jvm.Cond.code x code maxLocals ret :: tables_1) hat d (List.mem_cons_of_mem _ hd)
  obtain ⟨hsets, hown0⟩ := atoms_of _ (rest_1_c_eq ▸ (show rest_1_c.before _ s = true from hrest))
  have hfit : Fit s := fun {y c} hc i hi => by
    obtain ⟨ha, rfl⟩ := Array.getElem?_eq_some_iff.mp hc
    have q := List.all_eq_true.mp ((Array.all_eq_true_iff_forall_mem.mp hF) _ (Array.getElem_mem ha)) i (List.mem_range.mpr hi)
    simpa [Array.getElem?_eq_getElem hi] using q
  have n5 := not_v (Cond.before_iff.mp (hsets _ (List.mem_of_getElem? (i := 2) rfl)))
  obtain ⟨i0, e0⟩ := is_v g0
  obtain rfl : w0 = (.int i0) := Option.some.inj e0
  obtain ⟨i1, e1⟩ := is_v g1
  obtain rfl : w1 = (.int i1) := Option.some.inj e1
  obtain ⟨i2, e2⟩ := is_v g2
  obtain rfl : w2 = (.int i2) := Option.some.inj e2
  obtain ⟨i3, e3⟩ := is_v g3
  obtain rfl : w3 = (.int i3) := Option.some.inj e3
  obtain ⟨z0, ez⟩ := is_v (Cond.before_iff.mp (hsets _ (List.mem_of_getElem? (i := 1) rfl)))
  have Sc : Sta s s.heap "java/lang/String" "COMPACT_STRINGS" "Z" (.int z0) := Sta.start ez (Or.inl (hsets _ (List.mem_of_getElem? (i := 0) rfl)))
  have hz0 : ¬ (z0 = (0 : Int32)) := gotF (Cond.eq_ints ez (Term.int_eval (0))) n5
  obtain ⟨fm, ef, rfm⟩ := isR_v (Cond.before_iff.mp (hsets _ (List.mem_of_getElem? (i := 8) rfl)))
  have Sf : Sta s s.heap "jdk/internal/util/Preconditions" "SIOOBE_FORMATTER" "Ljava/util/function/BiFunction;" fm := Sta.start ef (Or.inl (hsets _ (List.mem_of_getElem? (i := 7) rfl)))
  have hEL : EW s #[.int i0, .int i1, .int i2, .int i3] consts_1 := (EW.cons (hw _ (List.mem_of_getElem? (i := 28) rfl)) (by decide) EW.nil)
  have hCH : CHv s consts_1 s.vm s.heap := CHv.start hEL (fun q hq => hcalls.1 q hq) (hsets _ (List.mem_of_getElem? (i := 2) rfl)) (hw _ (List.mem_of_getElem? (i := 29) rfl)) (hw _ (List.mem_of_getElem? (i := 16) rfl))
  have SA : Sta s s.heap "java/lang/StringUTF16" "$assertionsDisabled" "Z" (.int 1) := Sta.start (eqv_i (Term.int_eval 1) (Cond.before_iff.mp (hsets _ (List.mem_of_getElem? (i := 12) rfl)))) (Or.inl (hsets _ (List.mem_of_getElem? (i := 11) rfl)))
  have SH : Sta s s.heap "java/lang/StringUTF16" "HI_BYTE_SHIFT" "I" (.int 0) := Sta.start (eqv_i (Term.int_eval 0) (Cond.before_iff.mp (hsets _ (List.mem_of_getElem? (i := 15) rfl)))) (Or.inl (hsets _ (List.mem_of_getElem? (i := 14) rfl)))
  have SL : Sta s s.heap "java/lang/StringUTF16" "LO_BYTE_SHIFT" "I" (.int 8) := Sta.start (eqv_i (Term.int_eval 8) (Cond.before_iff.mp (hsets _ (List.mem_of_getElem? (i := 18) rfl)))) (Or.inl (hsets _ (List.mem_of_getElem? (i := 17) rfl)))
  obtain ⟨n, o, h1, h2, h3, v, L, rfl, rfl, -, N, -, hq⟩ := rm0 l s _ hw hEL z0 Sc hz0 SA SH SL fm Sf rfm i0 i1 i2 i3 p e ha hc hk s m _ below hf ((Spec.applies_iff_loose hf).mp happ).1 ⟨rfl, State.Warmed39.refl s, rfl, hCH, all0⟩ trivial
  refine ⟨n, _, h1, h2, h3, hpost _ _ _ _ _ _ ⟨Cond.after_iff.mpr rfl, Cond.after_iff.mpr (eq_i res_at (Term.int_eval (1)) rfl), trivial⟩ ⟨hq.1, hq.2.1, hq.2.2.1, (hq.2.2.2.sift fun y hy => Or.inr (N y hy)).mono (by decide) (by decide)⟩⟩
theorem main_1_1 : Claimed_1_1 := comes_1 fun _ _ _ _ _ _ h hF => ⟨h.1, hF⟩
theorem main_1_2 : Claimed_1_2 := comes_1 fun _ _ _ _ _ _ h hF => ⟨h.2.1, hF⟩
end Jvm.Pilot.@@N@@
namespace Jvm.Pilot.@@N@@
open Jvm Jvm.ClassFile Sem Op Lib Jvm.Free Jvm.Stand Jvm.Pilot.@@N@@.Jvm.D
/-! MADE BY PROGRAM (witnessworld.py) out of the Statement's table words and the real class files: 21 classes; the members and pool entries that the words name. The judged class is class 1, her method 4. -/
namespace start1
open Jvm.ClassFile
def u (s : String) : CpInfo := .utf8 (stringToUtf16 s)
/-- a pool by its gaps: so many unusable entries, then the entry; so many at the end -/
def gap : Nat → List CpInfo → List CpInfo
  | 0, r => r
  | n + 1, r => .unusable :: gap n r
def poolList (es : List (Nat × CpInfo)) (last : Nat) : List CpInfo := es.foldr (fun e r => gap e.1 (e.2 :: r)) (gap last [])
def pool (es : List (Nat × CpInfo)) (last : Nat) : Array CpInfo := ⟨poolList es last⟩
def fileOf (pool : Array CpInfo) (this : Nat) (attrs : Array Attribute := #[]) (ms : Array MethodInfo := #[]) (fl : Nat := 33) (sup : Nat := 0) (ifs : Array Nat := #[]) (fds : Array FieldInfo := #[]) : ClassFile where
  minorVersion := 0
  majorVersion := 65
  constantPool := pool
  accessFlags := fl
  thisClass := this
  superClass := sup
  interfaces := ifs
  fields := fds
  methods := ms
  attributes := attrs
def plain (name : String) (sup : Option ClassId) : Class where
  name := name
  kind := .ordinary
  loader := none
  accessFlags := 33
  super := sup
  interfaces := #[]
  cf := none
  fields := #[]
  methods := #[]
  instanceTypes := #[]
  staticTypes := #[]
  resolved := #[]
  callSites := []
  init := .initialized
  statics := none
  mirror := none

def pool0 : Array CpInfo := pool [(5, u "<init>"), (0, u "()V"), (1, .class_ 10), (1, u "java/lang/Object")] 113

def k0c0 : Code := { maxStack := 0, maxLocals := 1, code := object_method_1_code, exceptionTable := #[], attributes := #[] }
def k0m0 : Method := { name := "<init>", desc := "()V", sig := { parameters := [], returnType := none }, accessFlags := 1, code := some k0c0 }
/-- java/lang/Object -/
def k0 : Class := { plain "java/lang/Object" none with
  accessFlags := 33
  interfaces := #[]
  cf := some (fileOf pool0 8 #[] #[{ accessFlags := 1, nameIndex := 5, descriptorIndex := 6, attributes := #[] }] 33 0 #[] #[])
  fields := #[]
  methods := #[k0m0]
  instanceTypes := #[]
  staticTypes := #[]
  resolved := Array.replicate 124 none
  statics := none }

def pool1 : Array CpInfo := pool [(2, .class_ 4), (1, u "java/lang/Object"), (0, u "<init>"), (0, u "()V"), (0, .integer 65535), (0, .integer 55296), (0, .integer 57343), (0, .integer 32768), (0, .integer 56320), (0, .integer 2147483647), (0, .methodref 14 15), (0, .class_ 16), (0, .nameAndType 17 18), (0, u "com/example/policy_prover/policyprover/model/TextRequireWellFormedPinLaw"), (0, u "bmp"), (0, u "(I)C"), (0, .methodref 14 20), (0, .nameAndType 21 18), (0, u "hi"), (0, .methodref 14 23), (0, .nameAndType 24 18), (0, u "lo"), (0, .class_ 26), (0, u "java/lang/String"), (0, .methodref 25 28), (0, .nameAndType 5 29), (0, u "([C)V"), (0, .methodref 31 32), (0, .class_ 33), (0, .nameAndType 34 35), (0, u "com/example/policy_prover/policyprover/model/Text"), (0, u "requireWellFormed"), (0, u "(Ljava/lang/String;)V"), (0, .methodref 25 37), (0, .nameAndType 38 39), (0, u "valueOf"), (0, u "(C)Ljava/lang/String;"), (3, u "law"), (0, u "(IIII)Z")] 4

def k1m0 : Method := { name := "<init>", desc := "()V", sig := { parameters := [], returnType := none }, accessFlags := 2, code := none }
def k1c1 : Code := { maxStack := 2, maxLocals := 2, code := method_2_code, exceptionTable := #[], attributes := #[] }
def k1m1 : Method := { name := "bmp", desc := "(I)C", sig := { parameters := [.int], returnType := some .char }, accessFlags := 10, code := some k1c1 }
def k1c2 : Code := { maxStack := 3, maxLocals := 1, code := method_3_code, exceptionTable := #[], attributes := #[] }
def k1m2 : Method := { name := "hi", desc := "(I)C", sig := { parameters := [.int], returnType := some .char }, accessFlags := 10, code := some k1c2 }
def k1c3 : Code := { maxStack := 3, maxLocals := 1, code := method_4_code, exceptionTable := #[], attributes := #[] }
def k1m3 : Method := { name := "lo", desc := "(I)C", sig := { parameters := [.int], returnType := some .char }, accessFlags := 10, code := some k1c3 }
def k1c4 : Code := { maxStack := 3, maxLocals := 8, code := code, exceptionTable := #[], attributes := #[] }
def k1m4 : Method := { name := "law", desc := "(IIII)Z", sig := { parameters := [.int, .int, .int, .int], returnType := some .boolean }, accessFlags := 9, code := some k1c4 }
/-- com/example/policy_prover/policyprover/model/TextRequireWellFormedPinLaw -/
def k1 : Class := { plain "com/example/policy_prover/policyprover/model/TextRequireWellFormedPinLaw" (some 0) with
  accessFlags := 49
  interfaces := #[]
  cf := some (fileOf pool1 14 #[] #[{ accessFlags := 2, nameIndex := 5, descriptorIndex := 6, attributes := #[] }, { accessFlags := 10, nameIndex := 17, descriptorIndex := 18, attributes := #[] }, { accessFlags := 10, nameIndex := 21, descriptorIndex := 18, attributes := #[] }, { accessFlags := 10, nameIndex := 24, descriptorIndex := 18, attributes := #[] }, { accessFlags := 9, nameIndex := 43, descriptorIndex := 44, attributes := #[] }] 49 2 #[] #[])
  fields := #[]
  methods := #[k1m0, k1m1, k1m2, k1m3, k1m4]
  instanceTypes := #[]
  staticTypes := #[]
  resolved := Array.replicate 49 none
  statics := none }

def pool2 : Array CpInfo := pool [(1, .class_ 2), (0, u "java/io/Serializable"), (0, .class_ 4), (0, u "java/lang/Object")] 2

/-- java/io/Serializable -/
def k2 : Class := { plain "java/io/Serializable" (some 0) with
  accessFlags := 1537
  interfaces := #[]
  cf := some (fileOf pool2 1 #[] #[] 1537 3 #[] #[])
  fields := #[]
  methods := #[]
  instanceTypes := #[]
  staticTypes := #[]
  resolved := Array.replicate 7 none
  statics := none }

def pool3 : Array CpInfo := pool [(1, .class_ 2), (0, u "java/lang/Comparable"), (0, .class_ 4), (0, u "java/lang/Object")] 7

/-- java/lang/Comparable -/
def k3 : Class := { plain "java/lang/Comparable" (some 0) with
  accessFlags := 1537
  interfaces := #[]
  cf := some (fileOf pool3 1 #[] #[] 1537 3 #[] #[])
  fields := #[]
  methods := #[]
  instanceTypes := #[]
  staticTypes := #[]
  resolved := Array.replicate 12 none
  statics := none }

def pool4 : Array CpInfo := pool [(2, .class_ 4), (1, u "java/lang/CharSequence"), (42, .class_ 48), (0, u "java/lang/CharSequence$1CodePointIterator"), (10, .class_ 60), (0, u "java/lang/CharSequence$1CharIterator"), (5, .class_ 67), (0, u "java/lang/Object")] 63

/-- java/lang/CharSequence -/
def k4 : Class := { plain "java/lang/CharSequence" (some 0) with
  accessFlags := 1537
  interfaces := #[]
  cf := some (fileOf pool4 2 #[.nestMembers #[47, 59]] #[] 1537 66 #[] #[])
  fields := #[]
  methods := #[]
  instanceTypes := #[]
  staticTypes := #[]
  resolved := Array.replicate 131 none
  statics := none }

def pool5 : Array CpInfo := pool [(1, .class_ 2), (0, u "java/lang/constant/Constable"), (0, .class_ 4), (0, u "java/lang/Object")] 6

/-- java/lang/constant/Constable -/
def k5 : Class := { plain "java/lang/constant/Constable" (some 0) with
  accessFlags := 1537
  interfaces := #[]
  cf := some (fileOf pool5 1 #[] #[] 1537 3 #[] #[])
  fields := #[]
  methods := #[]
  instanceTypes := #[]
  staticTypes := #[]
  resolved := Array.replicate 11 none
  statics := none }

def pool6 : Array CpInfo := pool [(1, .class_ 2), (0, u "java/lang/constant/ConstantDesc"), (0, .class_ 4), (0, u "java/lang/Object")] 32

/-- java/lang/constant/ConstantDesc -/
def k6 : Class := { plain "java/lang/constant/ConstantDesc" (some 0) with
  accessFlags := 1537
  interfaces := #[]
  cf := some (fileOf pool6 1 #[] #[] 1537 3 #[] #[])
  fields := #[]
  methods := #[]
  instanceTypes := #[]
  staticTypes := #[]
  resolved := Array.replicate 37 none
  statics := none }

def pool7 : Array CpInfo := pool [(1, .methodref 2 3), (0, .class_ 4), (0, .nameAndType 5 6), (0, u "java/lang/Object"), (0, u "<init>"), (0, u "()V"), (0, .string 8), (0, u ""), (0, .fieldref 10 11), (0, .class_ 12), (0, .nameAndType 13 14), (0, u "java/lang/String"), (0, u "value"), (0, u "[B"), (0, .fieldref 10 16), (0, .nameAndType 17 18), (0, u "coder"), (0, u "B"), (2, u "hash"), (0, u "I"), (2, u "hashIsZero"), (0, u "Z"), (0, .methodref 10 28), (0, .nameAndType 5 29), (0, u "([CIILjava/lang/Void;)V"), (8, .fieldref 10 39), (0, .nameAndType 40 26), (0, u "COMPACT_STRINGS"), (1, .class_ 44), (1, u "java/lang/StringUTF16"), (0, u "compress"), (1, .methodref 42 48), (0, .nameAndType 49 50), (0, u "coderFromArrayLen"), (0, u "([BI)B"), (2, u "toBytes"), (43, u "([BII)I"), (9, .class_ 109), (1, u "java/lang/StringLatin1"), (32, u "()Z"), (34, .methodref 42 178), (0, .nameAndType 45 179), (0, u "([CII)[B"), (29, .methodref 10 210), (0, .nameAndType 5 211), (0, u "([BB)V"), (122, u "()I"), (0, .methodref 10 336), (0, .nameAndType 17 337), (0, u "()B"), (31, u "(C)Z"), (21, u "(II)V"), (100, .methodref 10 493), (0, .nameAndType 494 142), (0, u "isLatin1"), (4, .methodref 10 500), (0, .nameAndType 501 391), (0, u "checkIndex"), (0, .methodref 42 503), (0, .nameAndType 504 97), (0, u "codePointAt"), (2, u "length"), (67, .class_ 576), (0, u "java/lang/CharSequence"), (22, u "CASE_INSENSITIVE_ORDER"), (0, u "Ljava/util/Comparator;"), (164, u "(I)I"), (16, u "valueOf"), (0, u "(C)Ljava/lang/String;"), (226, u "([C)V"), (4, .methodref 107 1016), (0, .nameAndType 1017 369), (0, u "canEncode"), (0, .methodref 107 1019), (0, .nameAndType 53 1020), (0, u "(C)[B"), (0, .methodref 42 1019), (31, .fieldref 1054 1055), (0, .class_ 1056), (0, .nameAndType 1057 1058), (0, u "jdk/internal/util/Preconditions"), (0, u "SIOOBE_FORMATTER"), (0, u "Ljava/util/function/BiFunction;"), (0, .methodref 1054 1060), (0, .nameAndType 501 1061), (0, u "(IILjava/util/function/BiFunction;)I"), (39, u "serialPersistentFields"), (0, u "[Ljava/io/ObjectStreamField;"), (0, .class_ 1104), (0, u "java/lang/String$CaseInsensitiveComparator"), (1, .class_ 1107), (0, u "java/io/Serializable"), (0, .class_ 1109), (0, u "java/lang/Comparable"), (0, .class_ 1111), (0, u "java/lang/constant/Constable"), (0, .class_ 1113), (0, u "java/lang/constant/ConstantDesc"), (2, u "serialVersionUID"), (0, u "J"), (3, u "REPL"), (0, u "C"), (2, u "LATIN1"), (1, u "UTF16")] 323

def k7m0 : Method := { name := "<init>", desc := "()V", sig := { parameters := [], returnType := none }, accessFlags := 1, code := none }
def k7c1 : Code := { maxStack := 5, maxLocals := 2, code := jdk_42_method_3_code, exceptionTable := #[], attributes := #[] }
def k7m1 : Method := { name := "<init>", desc := "([C)V", sig := { parameters := [(.array .char)], returnType := none }, accessFlags := 1, code := some k7c1 }
def k7c2 : Code := { maxStack := 2, maxLocals := 1, code := jdk_42_method_54_code, exceptionTable := #[], attributes := #[] }
def k7m2 : Method := { name := "length", desc := "()I", sig := { parameters := [], returnType := some .int }, accessFlags := 1, code := some k7c2 }
def k7c3 : Code := { maxStack := 3, maxLocals := 3, code := jdk_42_method_57_code, exceptionTable := #[], attributes := #[] }
def k7m3 : Method := { name := "codePointAt", desc := "(I)I", sig := { parameters := [.int], returnType := some .int }, accessFlags := 1, code := some k7c3 }
def k7c4 : Code := { maxStack := 4, maxLocals := 1, code := jdk_42_method_139_code, exceptionTable := #[], attributes := #[] }
def k7m4 : Method := { name := "valueOf", desc := "(C)Ljava/lang/String;", sig := { parameters := [.char], returnType := some (.object "java/lang/String") }, accessFlags := 9, code := some k7c4 }
def k7c5 : Code := { maxStack := 4, maxLocals := 6, code := jdk_42_method_149_code, exceptionTable := #[], attributes := #[] }
def k7m5 : Method := { name := "<init>", desc := "([CIILjava/lang/Void;)V", sig := { parameters := [(.array .char), .int, .int, (.object "java/lang/Void")], returnType := none }, accessFlags := 2, code := some k7c5 }
def k7c6 : Code := { maxStack := 2, maxLocals := 3, code := jdk_42_method_151_code, exceptionTable := #[], attributes := #[] }
def k7m6 : Method := { name := "<init>", desc := "([BB)V", sig := { parameters := [(.array .byte), .byte], returnType := none }, accessFlags := 0, code := some k7c6 }
def k7c7 : Code := { maxStack := 1, maxLocals := 1, code := jdk_42_method_152_code, exceptionTable := #[], attributes := #[] }
def k7m7 : Method := { name := "coder", desc := "()B", sig := { parameters := [], returnType := some .byte }, accessFlags := 0, code := some k7c7 }
def k7c8 : Code := { maxStack := 1, maxLocals := 1, code := jdk_42_method_154_code, exceptionTable := #[], attributes := #[] }
def k7m8 : Method := { name := "isLatin1", desc := "()Z", sig := { parameters := [], returnType := some .boolean }, accessFlags := 0, code := some k7c8 }
def k7c9 : Code := { maxStack := 3, maxLocals := 2, code := jdk_42_method_155_code, exceptionTable := #[], attributes := #[] }
def k7m9 : Method := { name := "checkIndex", desc := "(II)V", sig := { parameters := [.int, .int], returnType := none }, accessFlags := 8, code := some k7c9 }
/-- java/lang/String -/
def k7 : Class := { plain "java/lang/String" (some 0) with
  accessFlags := 49
  interfaces := #[2, 3, 4, 5, 6]
  cf := some (fileOf pool7 10 #[.nestMembers #[1103]] #[{ accessFlags := 1, nameIndex := 5, descriptorIndex := 6, attributes := #[] }, { accessFlags := 1, nameIndex := 5, descriptorIndex := 1010, attributes := #[] }, { accessFlags := 1, nameIndex := 507, descriptorIndex := 334, attributes := #[] }, { accessFlags := 1, nameIndex := 504, descriptorIndex := 765, attributes := #[] }, { accessFlags := 9, nameIndex := 782, descriptorIndex := 783, attributes := #[] }, { accessFlags := 2, nameIndex := 5, descriptorIndex := 29, attributes := #[] }, { accessFlags := 0, nameIndex := 5, descriptorIndex := 211, attributes := #[] }, { accessFlags := 0, nameIndex := 17, descriptorIndex := 337, attributes := #[] }, { accessFlags := 0, nameIndex := 494, descriptorIndex := 142, attributes := #[] }, { accessFlags := 8, nameIndex := 501, descriptorIndex := 391, attributes := #[] }] 49 2 #[1106, 1108, 575, 1110, 1112] #[{ accessFlags := 18, nameIndex := 13, descriptorIndex := 14, attributes := #[] }, { accessFlags := 18, nameIndex := 17, descriptorIndex := 18, attributes := #[] }, { accessFlags := 2, nameIndex := 21, descriptorIndex := 22, attributes := #[] }, { accessFlags := 2, nameIndex := 25, descriptorIndex := 26, attributes := #[] }, { accessFlags := 26, nameIndex := 1116, descriptorIndex := 1117, attributes := #[] }, { accessFlags := 24, nameIndex := 40, descriptorIndex := 26, attributes := #[] }, { accessFlags := 26, nameIndex := 1101, descriptorIndex := 1102, attributes := #[] }, { accessFlags := 26, nameIndex := 1121, descriptorIndex := 1122, attributes := #[] }, { accessFlags := 25, nameIndex := 599, descriptorIndex := 600, attributes := #[] }, { accessFlags := 24, nameIndex := 1125, descriptorIndex := 18, attributes := #[] }, { accessFlags := 24, nameIndex := 1127, descriptorIndex := 18, attributes := #[] }])
  fields := #[{ name := "value", type := (.array .byte), accessFlags := 18, slot := 0, constantValue := 0 }, { name := "coder", type := .byte, accessFlags := 18, slot := 1, constantValue := 0 }, { name := "hash", type := .int, accessFlags := 2, slot := 2, constantValue := 0 }, { name := "hashIsZero", type := .boolean, accessFlags := 2, slot := 3, constantValue := 0 }, { name := "serialVersionUID", type := .long, accessFlags := 26, slot := 0, constantValue := 0 }, { name := "COMPACT_STRINGS", type := .boolean, accessFlags := 24, slot := 1, constantValue := 0 }, { name := "serialPersistentFields", type := (.array (.object "java/io/ObjectStreamField")), accessFlags := 26, slot := 2, constantValue := 0 }, { name := "REPL", type := .char, accessFlags := 26, slot := 3, constantValue := 0 }, { name := "CASE_INSENSITIVE_ORDER", type := (.object "java/util/Comparator"), accessFlags := 25, slot := 4, constantValue := 0 }, { name := "LATIN1", type := .byte, accessFlags := 24, slot := 5, constantValue := 0 }, { name := "UTF16", type := .byte, accessFlags := 24, slot := 6, constantValue := 0 }]
  methods := #[k7m0, k7m1, k7m2, k7m3, k7m4, k7m5, k7m6, k7m7, k7m8, k7m9]
  instanceTypes := #[(.array .byte), .byte, .int, .boolean]
  staticTypes := #[.long, .boolean, (.array (.object "java/io/ObjectStreamField")), .char, (.object "java/util/Comparator"), .byte, .byte]
  resolved := Array.replicate 1451 none
  statics := some 0 }

def pool8 : Array CpInfo := pool [(2, .class_ 4), (1, u "java/lang/Object"), (0, u "<init>"), (0, u "()V"), (2, .methodref 10 11), (0, .class_ 12), (0, .nameAndType 13 14), (0, u "java/lang/String"), (0, u "length"), (0, u "()I"), (12, .class_ 29), (1, u "com/example/policy_prover/policyprover/model/Text"), (22, .class_ 54), (1, u "java/lang/Character"), (9, .methodref 10 65), (0, .nameAndType 66 67), (0, u "codePointAt"), (0, u "(I)I"), (0, .integer 55296), (0, .integer 57343), (8, u "(Ljava/lang/String;)V"), (0, .methodref 52 80), (0, .nameAndType 81 67), (0, u "charCount"), (7, u "requireWellFormed")] 18

def k8m0 : Method := { name := "<init>", desc := "()V", sig := { parameters := [], returnType := none }, accessFlags := 2, code := none }
def k8c1 : Code := { maxStack := 3, maxLocals := 5, code := prog_3_method_4_code, exceptionTable := #[], attributes := #[] }
def k8m1 : Method := { name := "requireWellFormed", desc := "(Ljava/lang/String;)V", sig := { parameters := [(.object "java/lang/String")], returnType := none }, accessFlags := 9, code := some k8c1 }
/-- com/example/policy_prover/policyprover/model/Text -/
def k8 : Class := { plain "com/example/policy_prover/policyprover/model/Text" (some 0) with
  accessFlags := 49
  interfaces := #[]
  cf := some (fileOf pool8 27 #[] #[{ accessFlags := 2, nameIndex := 5, descriptorIndex := 6, attributes := #[] }, { accessFlags := 9, nameIndex := 89, descriptorIndex := 78, attributes := #[] }] 49 2 #[] #[])
  fields := #[]
  methods := #[k8m0, k8m1]
  instanceTypes := #[]
  staticTypes := #[]
  resolved := Array.replicate 108 none
  statics := none }

def pool9 : Array CpInfo := pool [(4, .class_ 6), (1, u "java/lang/Object"), (0, u "<init>"), (0, u "()V"), (5, .class_ 16), (1, u "java/lang/StringLatin1"), (73, u "canEncode"), (14, u "(C)Z"), (15, u "$assertionsDisabled"), (0, u "Z"), (98, .class_ 223), (1, u "java/lang/StringLatin1$LinesSpliterator"), (156, u "toBytes"), (1, u "(C)[B"), (7, .class_ 391), (0, u "java/lang/StringLatin1$CharsSpliterator")] 3

def k9m0 : Method := { name := "<init>", desc := "()V", sig := { parameters := [], returnType := none }, accessFlags := 0, code := none }
def k9c1 : Code := { maxStack := 2, maxLocals := 1, code := jdk_43_method_3_code, exceptionTable := #[], attributes := #[] }
def k9m1 : Method := { name := "canEncode", desc := "(C)Z", sig := { parameters := [.char], returnType := some .boolean }, accessFlags := 9, code := some k9c1 }
def k9c2 : Code := { maxStack := 4, maxLocals := 1, code := jdk_43_method_46_code, exceptionTable := #[], attributes := #[] }
def k9m2 : Method := { name := "toBytes", desc := "(C)[B", sig := { parameters := [.char], returnType := some (.array .byte) }, accessFlags := 9, code := some k9c2 }
/-- java/lang/StringLatin1 -/
def k9 : Class := { plain "java/lang/StringLatin1" (some 0) with
  accessFlags := 48
  interfaces := #[]
  cf := some (fileOf pool9 14 #[.nestMembers #[390, 221]] #[{ accessFlags := 0, nameIndex := 7, descriptorIndex := 8, attributes := #[] }, { accessFlags := 9, nameIndex := 90, descriptorIndex := 105, attributes := #[] }, { accessFlags := 9, nameIndex := 380, descriptorIndex := 382, attributes := #[] }] 48 4 #[] #[{ accessFlags := 4120, nameIndex := 121, descriptorIndex := 122, attributes := #[] }])
  fields := #[{ name := "$assertionsDisabled", type := .boolean, accessFlags := 4120, slot := 0, constantValue := 0 }]
  methods := #[k9m0, k9m1, k9m2]
  instanceTypes := #[]
  staticTypes := #[.boolean]
  resolved := Array.replicate 395 none
  statics := none }

def pool10 : Array CpInfo := pool [(2, .class_ 4), (1, u "java/lang/Object"), (0, u "<init>"), (0, u "()V"), (17, .class_ 26), (1, u "jdk/internal/util/Preconditions"), (6, u "checkIndex"), (21, .class_ 56), (0, u "jdk/internal/util/Preconditions$4"), (57, .class_ 115), (0, u "jdk/internal/util/Preconditions$1"), (7, u "SIOOBE_FORMATTER"), (0, u "Ljava/util/function/BiFunction;"), (0, .class_ 126), (0, u "jdk/internal/util/Preconditions$2"), (3, u "AIOOBE_FORMATTER"), (0, .class_ 132), (0, u "jdk/internal/util/Preconditions$3"), (3, u "IOOBE_FORMATTER"), (41, u "(IILjava/util/function/BiFunction;)I")] 15

def k10m0 : Method := { name := "<init>", desc := "()V", sig := { parameters := [], returnType := none }, accessFlags := 1, code := none }
def k10c1 : Code := { maxStack := 3, maxLocals := 3, code := jdk_41_method_11_code, exceptionTable := #[], attributes := #[] }
def k10m1 : Method := { name := "checkIndex", desc := "(IILjava/util/function/BiFunction;)I", sig := { parameters := [.int, .int, (.object "java/util/function/BiFunction")], returnType := some .int }, accessFlags := 9, code := some k10c1 }
/-- jdk/internal/util/Preconditions -/
def k10 : Class := { plain "jdk/internal/util/Preconditions" (some 0) with
  accessFlags := 33
  interfaces := #[]
  cf := some (fileOf pool10 24 #[.nestMembers #[55, 131, 125, 114]] #[{ accessFlags := 1, nameIndex := 5, descriptorIndex := 6, attributes := #[] }, { accessFlags := 9, nameIndex := 33, descriptorIndex := 178, attributes := #[] }] 33 2 #[] #[{ accessFlags := 25, nameIndex := 123, descriptorIndex := 124, attributes := #[] }, { accessFlags := 25, nameIndex := 130, descriptorIndex := 124, attributes := #[] }, { accessFlags := 25, nameIndex := 136, descriptorIndex := 124, attributes := #[] }])
  fields := #[{ name := "SIOOBE_FORMATTER", type := (.object "java/util/function/BiFunction"), accessFlags := 25, slot := 0, constantValue := 0 }, { name := "AIOOBE_FORMATTER", type := (.object "java/util/function/BiFunction"), accessFlags := 25, slot := 1, constantValue := 0 }, { name := "IOOBE_FORMATTER", type := (.object "java/util/function/BiFunction"), accessFlags := 25, slot := 2, constantValue := 0 }]
  methods := #[k10m0, k10m1]
  instanceTypes := #[]
  staticTypes := #[(.object "java/util/function/BiFunction"), (.object "java/util/function/BiFunction"), (.object "java/util/function/BiFunction")]
  resolved := Array.replicate 194 none
  statics := some 1 }

def pool11 : Array CpInfo := pool [(1, .class_ 2), (0, u "java/lang/Character"), (18, u "value"), (0, u "C"), (19, .class_ 44), (1, u "java/lang/Object"), (3, .class_ 50), (1, u "java/lang/Character$CharacterCache"), (22, .integer 65536), (1, .integer 55296), (0, .integer 56320), (0, .integer 57344), (2, u "isHighSurrogate"), (0, u "(C)Z"), (2, u "isLowSurrogate"), (0, .integer 4238353408), (12, u "toCodePoint"), (0, u "(CC)I"), (74, u "(I)I"), (109, u "$assertionsDisabled"), (0, u "Z"), (21, .class_ 309), (1, u "java/lang/Character$UnicodeBlock"), (73, u "TYPE"), (0, u "Ljava/lang/Class;"), (0, .class_ 386), (0, u "java/io/Serializable"), (0, .class_ 388), (0, u "java/lang/Comparable"), (0, .class_ 390), (0, u "java/lang/constant/Constable"), (0, u "MIN_RADIX"), (0, u "I"), (2, u "MAX_RADIX"), (1, u "MIN_VALUE"), (1, u "MAX_VALUE"), (3, u "UNASSIGNED"), (0, u "B"), (0, u "UPPERCASE_LETTER"), (1, u "LOWERCASE_LETTER"), (0, u "TITLECASE_LETTER"), (1, u "MODIFIER_LETTER"), (1, u "OTHER_LETTER"), (1, u "NON_SPACING_MARK"), (1, u "ENCLOSING_MARK"), (1, u "COMBINING_SPACING_MARK"), (1, u "DECIMAL_DIGIT_NUMBER"), (1, u "LETTER_NUMBER"), (1, u "OTHER_NUMBER"), (1, u "SPACE_SEPARATOR"), (1, u "LINE_SEPARATOR"), (1, u "PARAGRAPH_SEPARATOR"), (1, u "CONTROL"), (1, u "FORMAT"), (1, u "PRIVATE_USE"), (1, u "SURROGATE"), (1, u "DASH_PUNCTUATION"), (1, u "START_PUNCTUATION"), (1, u "END_PUNCTUATION"), (1, u "CONNECTOR_PUNCTUATION"), (1, u "OTHER_PUNCTUATION"), (1, u "MATH_SYMBOL"), (1, u "CURRENCY_SYMBOL"), (1, u "MODIFIER_SYMBOL"), (1, u "OTHER_SYMBOL"), (1, u "INITIAL_QUOTE_PUNCTUATION"), (1, u "FINAL_QUOTE_PUNCTUATION"), (1, u "ERROR"), (1, u "DIRECTIONALITY_UNDEFINED"), (0, u "DIRECTIONALITY_LEFT_TO_RIGHT"), (0, u "DIRECTIONALITY_RIGHT_TO_LEFT"), (0, u "DIRECTIONALITY_RIGHT_TO_LEFT_ARABIC"), (0, u "DIRECTIONALITY_EUROPEAN_NUMBER"), (0, u "DIRECTIONALITY_EUROPEAN_NUMBER_SEPARATOR"), (0, u "DIRECTIONALITY_EUROPEAN_NUMBER_TERMINATOR"), (0, u "DIRECTIONALITY_ARABIC_NUMBER"), (0, u "DIRECTIONALITY_COMMON_NUMBER_SEPARATOR"), (0, u "DIRECTIONALITY_NONSPACING_MARK"), (0, u "DIRECTIONALITY_BOUNDARY_NEUTRAL"), (0, u "DIRECTIONALITY_PARAGRAPH_SEPARATOR"), (0, u "DIRECTIONALITY_SEGMENT_SEPARATOR"), (0, u "DIRECTIONALITY_WHITESPACE"), (0, u "DIRECTIONALITY_OTHER_NEUTRALS"), (0, u "DIRECTIONALITY_LEFT_TO_RIGHT_EMBEDDING"), (0, u "DIRECTIONALITY_LEFT_TO_RIGHT_OVERRIDE"), (0, u "DIRECTIONALITY_RIGHT_TO_LEFT_EMBEDDING"), (0, u "DIRECTIONALITY_RIGHT_TO_LEFT_OVERRIDE"), (1, u "DIRECTIONALITY_POP_DIRECTIONAL_FORMAT"), (0, u "DIRECTIONALITY_LEFT_TO_RIGHT_ISOLATE"), (0, u "DIRECTIONALITY_RIGHT_TO_LEFT_ISOLATE"), (0, u "DIRECTIONALITY_FIRST_STRONG_ISOLATE"), (0, u "DIRECTIONALITY_POP_DIRECTIONAL_ISOLATE"), (0, u "MIN_HIGH_SURROGATE"), (0, u "MAX_HIGH_SURROGATE"), (1, u "MIN_LOW_SURROGATE"), (0, u "MAX_LOW_SURROGATE"), (1, u "MIN_SURROGATE"), (0, u "MAX_SURROGATE"), (0, u "MIN_SUPPLEMENTARY_CODE_POINT"), (0, u "MIN_CODE_POINT"), (0, u "MAX_CODE_POINT"), (1, u "serialVersionUID"), (0, u "J"), (2, u "SIZE"), (0, u "BYTES"), (29, u "charCount"), (58, .class_ 596), (0, u "java/lang/Character$UnicodeScript"), (0, .class_ 598), (0, u "java/lang/Character$Subset")] 5

def k11c0 : Code := { maxStack := 2, maxLocals := 1, code := jdk_89_method_14_code, exceptionTable := #[], attributes := #[] }
def k11m0 : Method := { name := "isHighSurrogate", desc := "(C)Z", sig := { parameters := [.char], returnType := some .boolean }, accessFlags := 9, code := some k11c0 }
def k11c1 : Code := { maxStack := 2, maxLocals := 1, code := jdk_89_method_15_code, exceptionTable := #[], attributes := #[] }
def k11m1 : Method := { name := "isLowSurrogate", desc := "(C)Z", sig := { parameters := [.char], returnType := some .boolean }, accessFlags := 9, code := some k11c1 }
def k11c2 : Code := { maxStack := 2, maxLocals := 1, code := jdk_89_method_18_code, exceptionTable := #[], attributes := #[] }
def k11m2 : Method := { name := "charCount", desc := "(I)I", sig := { parameters := [.int], returnType := some .int }, accessFlags := 9, code := some k11c2 }
def k11c3 : Code := { maxStack := 2, maxLocals := 2, code := jdk_89_method_19_code, exceptionTable := #[], attributes := #[] }
def k11m3 : Method := { name := "toCodePoint", desc := "(CC)I", sig := { parameters := [.char, .char], returnType := some .int }, accessFlags := 9, code := some k11c3 }
/-- java/lang/Character -/
def k11 : Class := { plain "java/lang/Character" (some 0) with
  accessFlags := 49
  interfaces := #[2, 3, 5]
  cf := some (fileOf pool11 1 #[.nestMembers #[48, 595, 307, 597]] #[{ accessFlags := 9, nameIndex := 80, descriptorIndex := 81, attributes := #[] }, { accessFlags := 9, nameIndex := 84, descriptorIndex := 81, attributes := #[] }, { accessFlags := 9, nameIndex := 536, descriptorIndex := 174, attributes := #[] }, { accessFlags := 9, nameIndex := 98, descriptorIndex := 99, attributes := #[] }] 49 42 #[385, 387, 389] #[{ accessFlags := 25, nameIndex := 391, descriptorIndex := 392, attributes := #[] }, { accessFlags := 25, nameIndex := 395, descriptorIndex := 392, attributes := #[] }, { accessFlags := 25, nameIndex := 397, descriptorIndex := 22, attributes := #[] }, { accessFlags := 25, nameIndex := 399, descriptorIndex := 22, attributes := #[] }, { accessFlags := 25, nameIndex := 383, descriptorIndex := 384, attributes := #[] }, { accessFlags := 25, nameIndex := 403, descriptorIndex := 404, attributes := #[] }, { accessFlags := 25, nameIndex := 405, descriptorIndex := 404, attributes := #[] }, { accessFlags := 25, nameIndex := 407, descriptorIndex := 404, attributes := #[] }, { accessFlags := 25, nameIndex := 408, descriptorIndex := 404, attributes := #[] }, { accessFlags := 25, nameIndex := 410, descriptorIndex := 404, attributes := #[] }, { accessFlags := 25, nameIndex := 412, descriptorIndex := 404, attributes := #[] }, { accessFlags := 25, nameIndex := 414, descriptorIndex := 404, attributes := #[] }, { accessFlags := 25, nameIndex := 416, descriptorIndex := 404, attributes := #[] }, { accessFlags := 25, nameIndex := 418, descriptorIndex := 404, attributes := #[] }, { accessFlags := 25, nameIndex := 420, descriptorIndex := 404, attributes := #[] }, { accessFlags := 25, nameIndex := 422, descriptorIndex := 404, attributes := #[] }, { accessFlags := 25, nameIndex := 424, descriptorIndex := 404, attributes := #[] }, { accessFlags := 25, nameIndex := 426, descriptorIndex := 404, attributes := #[] }, { accessFlags := 25, nameIndex := 428, descriptorIndex := 404, attributes := #[] }, { accessFlags := 25, nameIndex := 430, descriptorIndex := 404, attributes := #[] }, { accessFlags := 25, nameIndex := 432, descriptorIndex := 404, attributes := #[] }, { accessFlags := 25, nameIndex := 434, descriptorIndex := 404, attributes := #[] }, { accessFlags := 25, nameIndex := 436, descriptorIndex := 404, attributes := #[] }, { accessFlags := 25, nameIndex := 438, descriptorIndex := 404, attributes := #[] }, { accessFlags := 25, nameIndex := 440, descriptorIndex := 404, attributes := #[] }, { accessFlags := 25, nameIndex := 442, descriptorIndex := 404, attributes := #[] }, { accessFlags := 25, nameIndex := 444, descriptorIndex := 404, attributes := #[] }, { accessFlags := 25, nameIndex := 446, descriptorIndex := 404, attributes := #[] }, { accessFlags := 25, nameIndex := 448, descriptorIndex := 404, attributes := #[] }, { accessFlags := 25, nameIndex := 450, descriptorIndex := 404, attributes := #[] }, { accessFlags := 25, nameIndex := 452, descriptorIndex := 404, attributes := #[] }, { accessFlags := 25, nameIndex := 454, descriptorIndex := 404, attributes := #[] }, { accessFlags := 25, nameIndex := 456, descriptorIndex := 404, attributes := #[] }, { accessFlags := 25, nameIndex := 458, descriptorIndex := 404, attributes := #[] }, { accessFlags := 25, nameIndex := 460, descriptorIndex := 404, attributes := #[] }, { accessFlags := 24, nameIndex := 462, descriptorIndex := 392, attributes := #[] }, { accessFlags := 25, nameIndex := 464, descriptorIndex := 404, attributes := #[] }, { accessFlags := 25, nameIndex := 465, descriptorIndex := 404, attributes := #[] }, { accessFlags := 25, nameIndex := 466, descriptorIndex := 404, attributes := #[] }, { accessFlags := 25, nameIndex := 467, descriptorIndex := 404, attributes := #[] }, { accessFlags := 25, nameIndex := 468, descriptorIndex := 404, attributes := #[] }, { accessFlags := 25, nameIndex := 469, descriptorIndex := 404, attributes := #[] }, { accessFlags := 25, nameIndex := 470, descriptorIndex := 404, attributes := #[] }, { accessFlags := 25, nameIndex := 471, descriptorIndex := 404, attributes := #[] }, { accessFlags := 25, nameIndex := 472, descriptorIndex := 404, attributes := #[] }, { accessFlags := 25, nameIndex := 473, descriptorIndex := 404, attributes := #[] }, { accessFlags := 25, nameIndex := 474, descriptorIndex := 404, attributes := #[] }, { accessFlags := 25, nameIndex := 475, descriptorIndex := 404, attributes := #[] }, { accessFlags := 25, nameIndex := 476, descriptorIndex := 404, attributes := #[] }, { accessFlags := 25, nameIndex := 477, descriptorIndex := 404, attributes := #[] }, { accessFlags := 25, nameIndex := 478, descriptorIndex := 404, attributes := #[] }, { accessFlags := 25, nameIndex := 479, descriptorIndex := 404, attributes := #[] }, { accessFlags := 25, nameIndex := 480, descriptorIndex := 404, attributes := #[] }, { accessFlags := 25, nameIndex := 481, descriptorIndex := 404, attributes := #[] }, { accessFlags := 25, nameIndex := 482, descriptorIndex := 404, attributes := #[] }, { accessFlags := 25, nameIndex := 484, descriptorIndex := 404, attributes := #[] }, { accessFlags := 25, nameIndex := 485, descriptorIndex := 404, attributes := #[] }, { accessFlags := 25, nameIndex := 486, descriptorIndex := 404, attributes := #[] }, { accessFlags := 25, nameIndex := 487, descriptorIndex := 404, attributes := #[] }, { accessFlags := 25, nameIndex := 488, descriptorIndex := 404, attributes := #[] }, { accessFlags := 25, nameIndex := 489, descriptorIndex := 22, attributes := #[] }, { accessFlags := 25, nameIndex := 490, descriptorIndex := 22, attributes := #[] }, { accessFlags := 25, nameIndex := 492, descriptorIndex := 22, attributes := #[] }, { accessFlags := 25, nameIndex := 493, descriptorIndex := 22, attributes := #[] }, { accessFlags := 25, nameIndex := 495, descriptorIndex := 22, attributes := #[] }, { accessFlags := 25, nameIndex := 496, descriptorIndex := 22, attributes := #[] }, { accessFlags := 25, nameIndex := 497, descriptorIndex := 392, attributes := #[] }, { accessFlags := 25, nameIndex := 498, descriptorIndex := 392, attributes := #[] }, { accessFlags := 25, nameIndex := 499, descriptorIndex := 392, attributes := #[] }, { accessFlags := 18, nameIndex := 21, descriptorIndex := 22, attributes := #[] }, { accessFlags := 26, nameIndex := 501, descriptorIndex := 502, attributes := #[] }, { accessFlags := 25, nameIndex := 505, descriptorIndex := 392, attributes := #[] }, { accessFlags := 25, nameIndex := 506, descriptorIndex := 392, attributes := #[] }, { accessFlags := 4120, nameIndex := 284, descriptorIndex := 285, attributes := #[] }])
  fields := #[{ name := "MIN_RADIX", type := .int, accessFlags := 25, slot := 0, constantValue := 0 }, { name := "MAX_RADIX", type := .int, accessFlags := 25, slot := 1, constantValue := 0 }, { name := "MIN_VALUE", type := .char, accessFlags := 25, slot := 2, constantValue := 0 }, { name := "MAX_VALUE", type := .char, accessFlags := 25, slot := 3, constantValue := 0 }, { name := "TYPE", type := (.object "java/lang/Class"), accessFlags := 25, slot := 4, constantValue := 0 }, { name := "UNASSIGNED", type := .byte, accessFlags := 25, slot := 5, constantValue := 0 }, { name := "UPPERCASE_LETTER", type := .byte, accessFlags := 25, slot := 6, constantValue := 0 }, { name := "LOWERCASE_LETTER", type := .byte, accessFlags := 25, slot := 7, constantValue := 0 }, { name := "TITLECASE_LETTER", type := .byte, accessFlags := 25, slot := 8, constantValue := 0 }, { name := "MODIFIER_LETTER", type := .byte, accessFlags := 25, slot := 9, constantValue := 0 }, { name := "OTHER_LETTER", type := .byte, accessFlags := 25, slot := 10, constantValue := 0 }, { name := "NON_SPACING_MARK", type := .byte, accessFlags := 25, slot := 11, constantValue := 0 }, { name := "ENCLOSING_MARK", type := .byte, accessFlags := 25, slot := 12, constantValue := 0 }, { name := "COMBINING_SPACING_MARK", type := .byte, accessFlags := 25, slot := 13, constantValue := 0 }, { name := "DECIMAL_DIGIT_NUMBER", type := .byte, accessFlags := 25, slot := 14, constantValue := 0 }, { name := "LETTER_NUMBER", type := .byte, accessFlags := 25, slot := 15, constantValue := 0 }, { name := "OTHER_NUMBER", type := .byte, accessFlags := 25, slot := 16, constantValue := 0 }, { name := "SPACE_SEPARATOR", type := .byte, accessFlags := 25, slot := 17, constantValue := 0 }, { name := "LINE_SEPARATOR", type := .byte, accessFlags := 25, slot := 18, constantValue := 0 }, { name := "PARAGRAPH_SEPARATOR", type := .byte, accessFlags := 25, slot := 19, constantValue := 0 }, { name := "CONTROL", type := .byte, accessFlags := 25, slot := 20, constantValue := 0 }, { name := "FORMAT", type := .byte, accessFlags := 25, slot := 21, constantValue := 0 }, { name := "PRIVATE_USE", type := .byte, accessFlags := 25, slot := 22, constantValue := 0 }, { name := "SURROGATE", type := .byte, accessFlags := 25, slot := 23, constantValue := 0 }, { name := "DASH_PUNCTUATION", type := .byte, accessFlags := 25, slot := 24, constantValue := 0 }, { name := "START_PUNCTUATION", type := .byte, accessFlags := 25, slot := 25, constantValue := 0 }, { name := "END_PUNCTUATION", type := .byte, accessFlags := 25, slot := 26, constantValue := 0 }, { name := "CONNECTOR_PUNCTUATION", type := .byte, accessFlags := 25, slot := 27, constantValue := 0 }, { name := "OTHER_PUNCTUATION", type := .byte, accessFlags := 25, slot := 28, constantValue := 0 }, { name := "MATH_SYMBOL", type := .byte, accessFlags := 25, slot := 29, constantValue := 0 }, { name := "CURRENCY_SYMBOL", type := .byte, accessFlags := 25, slot := 30, constantValue := 0 }, { name := "MODIFIER_SYMBOL", type := .byte, accessFlags := 25, slot := 31, constantValue := 0 }, { name := "OTHER_SYMBOL", type := .byte, accessFlags := 25, slot := 32, constantValue := 0 }, { name := "INITIAL_QUOTE_PUNCTUATION", type := .byte, accessFlags := 25, slot := 33, constantValue := 0 }, { name := "FINAL_QUOTE_PUNCTUATION", type := .byte, accessFlags := 25, slot := 34, constantValue := 0 }, { name := "ERROR", type := .int, accessFlags := 24, slot := 35, constantValue := 0 }, { name := "DIRECTIONALITY_UNDEFINED", type := .byte, accessFlags := 25, slot := 36, constantValue := 0 }, { name := "DIRECTIONALITY_LEFT_TO_RIGHT", type := .byte, accessFlags := 25, slot := 37, constantValue := 0 }, { name := "DIRECTIONALITY_RIGHT_TO_LEFT", type := .byte, accessFlags := 25, slot := 38, constantValue := 0 }, { name := "DIRECTIONALITY_RIGHT_TO_LEFT_ARABIC", type := .byte, accessFlags := 25, slot := 39, constantValue := 0 }, { name := "DIRECTIONALITY_EUROPEAN_NUMBER", type := .byte, accessFlags := 25, slot := 40, constantValue := 0 }, { name := "DIRECTIONALITY_EUROPEAN_NUMBER_SEPARATOR", type := .byte, accessFlags := 25, slot := 41, constantValue := 0 }, { name := "DIRECTIONALITY_EUROPEAN_NUMBER_TERMINATOR", type := .byte, accessFlags := 25, slot := 42, constantValue := 0 }, { name := "DIRECTIONALITY_ARABIC_NUMBER", type := .byte, accessFlags := 25, slot := 43, constantValue := 0 }, { name := "DIRECTIONALITY_COMMON_NUMBER_SEPARATOR", type := .byte, accessFlags := 25, slot := 44, constantValue := 0 }, { name := "DIRECTIONALITY_NONSPACING_MARK", type := .byte, accessFlags := 25, slot := 45, constantValue := 0 }, { name := "DIRECTIONALITY_BOUNDARY_NEUTRAL", type := .byte, accessFlags := 25, slot := 46, constantValue := 0 }, { name := "DIRECTIONALITY_PARAGRAPH_SEPARATOR", type := .byte, accessFlags := 25, slot := 47, constantValue := 0 }, { name := "DIRECTIONALITY_SEGMENT_SEPARATOR", type := .byte, accessFlags := 25, slot := 48, constantValue := 0 }, { name := "DIRECTIONALITY_WHITESPACE", type := .byte, accessFlags := 25, slot := 49, constantValue := 0 }, { name := "DIRECTIONALITY_OTHER_NEUTRALS", type := .byte, accessFlags := 25, slot := 50, constantValue := 0 }, { name := "DIRECTIONALITY_LEFT_TO_RIGHT_EMBEDDING", type := .byte, accessFlags := 25, slot := 51, constantValue := 0 }, { name := "DIRECTIONALITY_LEFT_TO_RIGHT_OVERRIDE", type := .byte, accessFlags := 25, slot := 52, constantValue := 0 }, { name := "DIRECTIONALITY_RIGHT_TO_LEFT_EMBEDDING", type := .byte, accessFlags := 25, slot := 53, constantValue := 0 }, { name := "DIRECTIONALITY_RIGHT_TO_LEFT_OVERRIDE", type := .byte, accessFlags := 25, slot := 54, constantValue := 0 }, { name := "DIRECTIONALITY_POP_DIRECTIONAL_FORMAT", type := .byte, accessFlags := 25, slot := 55, constantValue := 0 }, { name := "DIRECTIONALITY_LEFT_TO_RIGHT_ISOLATE", type := .byte, accessFlags := 25, slot := 56, constantValue := 0 }, { name := "DIRECTIONALITY_RIGHT_TO_LEFT_ISOLATE", type := .byte, accessFlags := 25, slot := 57, constantValue := 0 }, { name := "DIRECTIONALITY_FIRST_STRONG_ISOLATE", type := .byte, accessFlags := 25, slot := 58, constantValue := 0 }, { name := "DIRECTIONALITY_POP_DIRECTIONAL_ISOLATE", type := .byte, accessFlags := 25, slot := 59, constantValue := 0 }, { name := "MIN_HIGH_SURROGATE", type := .char, accessFlags := 25, slot := 60, constantValue := 0 }, { name := "MAX_HIGH_SURROGATE", type := .char, accessFlags := 25, slot := 61, constantValue := 0 }, { name := "MIN_LOW_SURROGATE", type := .char, accessFlags := 25, slot := 62, constantValue := 0 }, { name := "MAX_LOW_SURROGATE", type := .char, accessFlags := 25, slot := 63, constantValue := 0 }, { name := "MIN_SURROGATE", type := .char, accessFlags := 25, slot := 64, constantValue := 0 }, { name := "MAX_SURROGATE", type := .char, accessFlags := 25, slot := 65, constantValue := 0 }, { name := "MIN_SUPPLEMENTARY_CODE_POINT", type := .int, accessFlags := 25, slot := 66, constantValue := 0 }, { name := "MIN_CODE_POINT", type := .int, accessFlags := 25, slot := 67, constantValue := 0 }, { name := "MAX_CODE_POINT", type := .int, accessFlags := 25, slot := 68, constantValue := 0 }, { name := "value", type := .char, accessFlags := 18, slot := 0, constantValue := 0 }, { name := "serialVersionUID", type := .long, accessFlags := 26, slot := 69, constantValue := 0 }, { name := "SIZE", type := .int, accessFlags := 25, slot := 70, constantValue := 0 }, { name := "BYTES", type := .int, accessFlags := 25, slot := 71, constantValue := 0 }, { name := "$assertionsDisabled", type := .boolean, accessFlags := 4120, slot := 72, constantValue := 0 }]
  methods := #[k11m0, k11m1, k11m2, k11m3]
  instanceTypes := #[.char]
  staticTypes := #[.int, .int, .char, .char, (.object "java/lang/Class"), .byte, .byte, .byte, .byte, .byte, .byte, .byte, .byte, .byte, .byte, .byte, .byte, .byte, .byte, .byte, .byte, .byte, .byte, .byte, .byte, .byte, .byte, .byte, .byte, .byte, .byte, .byte, .byte, .byte, .byte, .int, .byte, .byte, .byte, .byte, .byte, .byte, .byte, .byte, .byte, .byte, .byte, .byte, .byte, .byte, .byte, .byte, .byte, .byte, .byte, .byte, .byte, .byte, .byte, .byte, .char, .char, .char, .char, .char, .char, .int, .int, .int, .long, .int, .int, .boolean]
  resolved := Array.replicate 604 none
  statics := none }

def pool12 : Array CpInfo := pool [(6, .class_ 8), (1, u "java/lang/Object"), (0, u "<init>"), (0, u "()V"), (0, .methodref 12 13), (0, .class_ 14), (0, .nameAndType 15 16), (0, u "java/lang/StringUTF16"), (0, u "newBytesLength"), (0, u "(I)I"), (3, .integer 1073741823), (23, .fieldref 12 45), (0, .nameAndType 46 47), (0, u "$assertionsDisabled"), (0, u "Z"), (11, .fieldref 12 60), (0, .nameAndType 61 62), (0, u "HI_BYTE_SHIFT"), (0, u "I"), (0, .fieldref 12 64), (0, .nameAndType 65 62), (0, u "LO_BYTE_SHIFT"), (5, .methodref 12 72), (0, .nameAndType 73 74), (0, u "getChar"), (0, u "([BI)C"), (0, .methodref 76 77), (0, .class_ 78), (0, .nameAndType 79 80), (0, u "java/lang/Character"), (0, u "isHighSurrogate"), (0, u "(C)Z"), (0, .methodref 76 82), (0, .nameAndType 83 80), (0, u "isLowSurrogate"), (0, .methodref 76 85), (0, .nameAndType 86 87), (0, u "toCodePoint"), (0, u "(CC)I"), (0, .methodref 12 89), (0, .nameAndType 90 91), (0, u "codePointAt"), (0, u "([BIIZ)I"), (15, .methodref 12 108), (0, .nameAndType 109 110), (0, u "newBytesFor"), (0, u "(I)[B"), (0, .methodref 12 112), (0, .nameAndType 113 114), (0, u "putChar"), (0, u "([BII)V"), (0, .methodref 12 116), (0, .nameAndType 117 118), (0, u "compress"), (0, u "([CI[BII)I"), (0, .methodref 12 120), (0, .nameAndType 121 122), (0, u "toBytes"), (0, u "([CII)[B"), (127, u "([BII)I"), (10, u "coderFromArrayLen"), (0, u "([BI)B"), (106, .class_ 371), (1, u "java/lang/StringUTF16$LinesSpliterator"), (58, u "MAX_LENGTH"), (44, u "(C)[B"), (151, .class_ 628), (0, u "java/lang/StringUTF16$CodePointsSpliterator"), (0, .class_ 630), (0, u "java/lang/StringUTF16$CharsSpliterator")] 4

def k12m0 : Method := { name := "<init>", desc := "()V", sig := { parameters := [], returnType := none }, accessFlags := 0, code := none }
def k12c1 : Code := { maxStack := 1, maxLocals := 1, code := jdk_52_method_2_code, exceptionTable := #[], attributes := #[] }
def k12m1 : Method := { name := "newBytesFor", desc := "(I)[B", sig := { parameters := [.int], returnType := some (.array .byte) }, accessFlags := 9, code := some k12c1 }
def k12c2 : Code := { maxStack := 4, maxLocals := 1, code := jdk_52_method_3_code, exceptionTable := #[], attributes := #[] }
def k12m2 : Method := { name := "newBytesLength", desc := "(I)I", sig := { parameters := [.int], returnType := some .int }, accessFlags := 9, code := some k12c2 }
def k12c3 : Code := { maxStack := 4, maxLocals := 3, code := jdk_52_method_4_code, exceptionTable := #[], attributes := #[] }
def k12m3 : Method := { name := "putChar", desc := "([BII)V", sig := { parameters := [(.array .byte), .int, .int], returnType := none }, accessFlags := 8, code := some k12c3 }
def k12c4 : Code := { maxStack := 3, maxLocals := 2, code := jdk_52_method_5_code, exceptionTable := #[], attributes := #[] }
def k12m4 : Method := { name := "getChar", desc := "([BI)C", sig := { parameters := [(.array .byte), .int], returnType := some .char }, accessFlags := 8, code := some k12c4 }
def k12c5 : Code := { maxStack := 2, maxLocals := 6, code := jdk_52_method_7_code, exceptionTable := #[], attributes := #[] }
def k12m5 : Method := { name := "codePointAt", desc := "([BIIZ)I", sig := { parameters := [(.array .byte), .int, .int, .boolean], returnType := some .int }, accessFlags := 10, code := some k12c5 }
def k12c6 : Code := { maxStack := 4, maxLocals := 3, code := jdk_52_method_8_code, exceptionTable := #[], attributes := #[] }
def k12m6 : Method := { name := "codePointAt", desc := "([BII)I", sig := { parameters := [(.array .byte), .int, .int], returnType := some .int }, accessFlags := 9, code := some k12c6 }
def k12c7 : Code := { maxStack := 4, maxLocals := 5, code := jdk_52_method_14_code, exceptionTable := #[], attributes := #[] }
def k12m7 : Method := { name := "toBytes", desc := "([CII)[B", sig := { parameters := [(.array .char), .int, .int], returnType := some (.array .byte) }, accessFlags := 9, code := some k12c7 }
def k12c8 : Code := { maxStack := 2, maxLocals := 2, code := jdk_52_method_15_code, exceptionTable := #[], attributes := #[] }
def k12m8 : Method := { name := "coderFromArrayLen", desc := "([BI)B", sig := { parameters := [(.array .byte), .int], returnType := some .byte }, accessFlags := 8, code := some k12c8 }
def k12c9 : Code := { maxStack := 5, maxLocals := 6, code := jdk_52_method_16_code, exceptionTable := #[], attributes := #[] }
def k12m9 : Method := { name := "compress", desc := "([CII)[B", sig := { parameters := [(.array .char), .int, .int], returnType := some (.array .byte) }, accessFlags := 9, code := some k12c9 }
def k12c10 : Code := { maxStack := 3, maxLocals := 7, code := jdk_52_method_21_code, exceptionTable := #[], attributes := #[] }
def k12m10 : Method := { name := "compress", desc := "([CI[BII)I", sig := { parameters := [(.array .char), .int, (.array .byte), .int, .int], returnType := some .int }, accessFlags := 9, code := some k12c10 }
def k12c11 : Code := { maxStack := 3, maxLocals := 2, code := jdk_52_method_24_code, exceptionTable := #[], attributes := #[] }
def k12m11 : Method := { name := "toBytes", desc := "(C)[B", sig := { parameters := [.char], returnType := some (.array .byte) }, accessFlags := 9, code := some k12c11 }
/-- java/lang/StringUTF16 -/
def k12 : Class := { plain "java/lang/StringUTF16" (some 0) with
  accessFlags := 48
  interfaces := #[]
  cf := some (fileOf pool12 12 #[.nestMembers #[627, 629, 369]] #[{ accessFlags := 0, nameIndex := 9, descriptorIndex := 10, attributes := #[] }, { accessFlags := 9, nameIndex := 109, descriptorIndex := 110, attributes := #[] }, { accessFlags := 9, nameIndex := 15, descriptorIndex := 16, attributes := #[] }, { accessFlags := 8, nameIndex := 113, descriptorIndex := 114, attributes := #[] }, { accessFlags := 8, nameIndex := 73, descriptorIndex := 74, attributes := #[] }, { accessFlags := 10, nameIndex := 90, descriptorIndex := 91, attributes := #[] }, { accessFlags := 9, nameIndex := 90, descriptorIndex := 250, attributes := #[] }, { accessFlags := 9, nameIndex := 121, descriptorIndex := 122, attributes := #[] }, { accessFlags := 8, nameIndex := 261, descriptorIndex := 262, attributes := #[] }, { accessFlags := 9, nameIndex := 117, descriptorIndex := 122, attributes := #[] }, { accessFlags := 9, nameIndex := 117, descriptorIndex := 118, attributes := #[] }, { accessFlags := 9, nameIndex := 121, descriptorIndex := 475, attributes := #[] }] 48 6 #[] #[{ accessFlags := 26, nameIndex := 61, descriptorIndex := 62, attributes := #[] }, { accessFlags := 26, nameIndex := 65, descriptorIndex := 62, attributes := #[] }, { accessFlags := 24, nameIndex := 430, descriptorIndex := 62, attributes := #[] }, { accessFlags := 4120, nameIndex := 46, descriptorIndex := 47, attributes := #[] }])
  fields := #[{ name := "HI_BYTE_SHIFT", type := .int, accessFlags := 26, slot := 0, constantValue := 0 }, { name := "LO_BYTE_SHIFT", type := .int, accessFlags := 26, slot := 1, constantValue := 0 }, { name := "MAX_LENGTH", type := .int, accessFlags := 24, slot := 2, constantValue := 0 }, { name := "$assertionsDisabled", type := .boolean, accessFlags := 4120, slot := 3, constantValue := 0 }]
  methods := #[k12m0, k12m1, k12m2, k12m3, k12m4, k12m5, k12m6, k12m7, k12m8, k12m9, k12m10, k12m11]
  instanceTypes := #[]
  staticTypes := #[.int, .int, .int, .boolean]
  resolved := Array.replicate 635 none
  statics := some 2 }

def pool13 : Array CpInfo := pool [(9, u "<init>"), (6, .class_ 18), (1, u "java/lang/Object"), (0, u "()V"), (1, .class_ 23), (1, u "jdk/internal/util/ArraysSupport"), (0, u "LOG2_ARRAY_LONG_INDEX_SCALE"), (0, u "I"), (2, u "U"), (0, u "Ljdk/internal/misc/Unsafe;"), (8, u "BIG_ENDIAN"), (0, u "Z"), (8, u "LOG2_BYTE_BIT_SIZE"), (4, u "LOG2_ARRAY_INT_INDEX_SCALE"), (54, u "JLA"), (0, u "Ljdk/internal/access/JavaLangAccess;"), (11, u "LOG2_ARRAY_BOOLEAN_INDEX_SCALE"), (9, u "LOG2_ARRAY_BYTE_INDEX_SCALE"), (5, u "LOG2_ARRAY_CHAR_INDEX_SCALE"), (5, u "LOG2_ARRAY_SHORT_INDEX_SCALE"), (18, u "LOG2_ARRAY_FLOAT_INDEX_SCALE"), (24, u "LOG2_ARRAY_DOUBLE_INDEX_SCALE"), (89, u "T_BOOLEAN"), (2, u "T_CHAR"), (1, u "T_FLOAT"), (1, u "T_DOUBLE"), (1, u "T_BYTE"), (1, u "T_SHORT"), (1, u "T_INT"), (1, u "T_LONG"), (1, u "SOFT_MAX_ARRAY_LENGTH")] 83

def k13m0 : Method := { name := "<init>", desc := "()V", sig := { parameters := [], returnType := none }, accessFlags := 2, code := none }
/-- jdk/internal/util/ArraysSupport -/
def k13 : Class := { plain "jdk/internal/util/ArraysSupport" (some 0) with
  accessFlags := 33
  interfaces := #[]
  cf := some (fileOf pool13 21 #[] #[{ accessFlags := 2, nameIndex := 9, descriptorIndex := 19, attributes := #[] }] 33 16 #[] #[{ accessFlags := 24, nameIndex := 28, descriptorIndex := 29, attributes := #[] }, { accessFlags := 26, nameIndex := 38, descriptorIndex := 39, attributes := #[] }, { accessFlags := 25, nameIndex := 121, descriptorIndex := 25, attributes := #[] }, { accessFlags := 25, nameIndex := 131, descriptorIndex := 25, attributes := #[] }, { accessFlags := 25, nameIndex := 137, descriptorIndex := 25, attributes := #[] }, { accessFlags := 25, nameIndex := 143, descriptorIndex := 25, attributes := #[] }, { accessFlags := 25, nameIndex := 53, descriptorIndex := 25, attributes := #[] }, { accessFlags := 25, nameIndex := 24, descriptorIndex := 25, attributes := #[] }, { accessFlags := 25, nameIndex := 162, descriptorIndex := 25, attributes := #[] }, { accessFlags := 25, nameIndex := 187, descriptorIndex := 25, attributes := #[] }, { accessFlags := 26, nameIndex := 48, descriptorIndex := 25, attributes := #[] }, { accessFlags := 25, nameIndex := 277, descriptorIndex := 25, attributes := #[] }, { accessFlags := 25, nameIndex := 280, descriptorIndex := 25, attributes := #[] }, { accessFlags := 25, nameIndex := 282, descriptorIndex := 25, attributes := #[] }, { accessFlags := 25, nameIndex := 284, descriptorIndex := 25, attributes := #[] }, { accessFlags := 25, nameIndex := 286, descriptorIndex := 25, attributes := #[] }, { accessFlags := 25, nameIndex := 288, descriptorIndex := 25, attributes := #[] }, { accessFlags := 25, nameIndex := 290, descriptorIndex := 25, attributes := #[] }, { accessFlags := 25, nameIndex := 292, descriptorIndex := 25, attributes := #[] }, { accessFlags := 26, nameIndex := 108, descriptorIndex := 109, attributes := #[] }, { accessFlags := 25, nameIndex := 294, descriptorIndex := 25, attributes := #[] }])
  fields := #[{ name := "U", type := (.object "jdk/internal/misc/Unsafe"), accessFlags := 24, slot := 0, constantValue := 0 }, { name := "BIG_ENDIAN", type := .boolean, accessFlags := 26, slot := 1, constantValue := 0 }, { name := "LOG2_ARRAY_BOOLEAN_INDEX_SCALE", type := .int, accessFlags := 25, slot := 2, constantValue := 0 }, { name := "LOG2_ARRAY_BYTE_INDEX_SCALE", type := .int, accessFlags := 25, slot := 3, constantValue := 0 }, { name := "LOG2_ARRAY_CHAR_INDEX_SCALE", type := .int, accessFlags := 25, slot := 4, constantValue := 0 }, { name := "LOG2_ARRAY_SHORT_INDEX_SCALE", type := .int, accessFlags := 25, slot := 5, constantValue := 0 }, { name := "LOG2_ARRAY_INT_INDEX_SCALE", type := .int, accessFlags := 25, slot := 6, constantValue := 0 }, { name := "LOG2_ARRAY_LONG_INDEX_SCALE", type := .int, accessFlags := 25, slot := 7, constantValue := 0 }, { name := "LOG2_ARRAY_FLOAT_INDEX_SCALE", type := .int, accessFlags := 25, slot := 8, constantValue := 0 }, { name := "LOG2_ARRAY_DOUBLE_INDEX_SCALE", type := .int, accessFlags := 25, slot := 9, constantValue := 0 }, { name := "LOG2_BYTE_BIT_SIZE", type := .int, accessFlags := 26, slot := 10, constantValue := 0 }, { name := "T_BOOLEAN", type := .int, accessFlags := 25, slot := 11, constantValue := 0 }, { name := "T_CHAR", type := .int, accessFlags := 25, slot := 12, constantValue := 0 }, { name := "T_FLOAT", type := .int, accessFlags := 25, slot := 13, constantValue := 0 }, { name := "T_DOUBLE", type := .int, accessFlags := 25, slot := 14, constantValue := 0 }, { name := "T_BYTE", type := .int, accessFlags := 25, slot := 15, constantValue := 0 }, { name := "T_SHORT", type := .int, accessFlags := 25, slot := 16, constantValue := 0 }, { name := "T_INT", type := .int, accessFlags := 25, slot := 17, constantValue := 0 }, { name := "T_LONG", type := .int, accessFlags := 25, slot := 18, constantValue := 0 }, { name := "JLA", type := (.object "jdk/internal/access/JavaLangAccess"), accessFlags := 26, slot := 19, constantValue := 0 }, { name := "SOFT_MAX_ARRAY_LENGTH", type := .int, accessFlags := 25, slot := 20, constantValue := 0 }]
  methods := #[k13m0]
  instanceTypes := #[]
  staticTypes := #[(.object "jdk/internal/misc/Unsafe"), .boolean, .int, .int, .int, .int, .int, .int, .int, .int, .int, .int, .int, .int, .int, .int, .int, .int, .int, (.object "jdk/internal/access/JavaLangAccess"), .int]
  resolved := Array.replicate 378 none
  statics := none }

def pool14 : Array CpInfo := pool [(1, u "java/lang/Cloneable"), (0, .class_ 1), (0, u "java/lang/Object"), (0, .class_ 3)] 3

/-- java/lang/Cloneable -/
def k14 : Class := { plain "java/lang/Cloneable" (some 0) with
  accessFlags := 1537
  interfaces := #[]
  cf := some (fileOf pool14 2 #[] #[] 1537 4 #[] #[])
  fields := #[]
  methods := #[]
  instanceTypes := #[]
  staticTypes := #[]
  resolved := Array.replicate 8 none
  statics := none }

/-- the primitive byte -/
def k15 : Class := { plain "byte" none with kind := .primitive 'B', accessFlags := 0x411 }
/-- [B -/
def k16 : Class := { plain "[B" (some 0) with kind := .array 15 .byte, interfaces := #[14, 2], accessFlags := 1041 }

/-- the primitive char -/
def k17 : Class := { plain "char" none with kind := .primitive 'C', accessFlags := 0x411 }
/-- [C -/
def k18 : Class := { plain "[C" (some 0) with kind := .array 17 .char, interfaces := #[14, 2], accessFlags := 1041 }

/-- the primitive int -/
def k19 : Class := { plain "int" none with kind := .primitive 'I', accessFlags := 0x411 }
/-- [I -/
def k20 : Class := { plain "[I" (some 0) with kind := .array 19 .int, interfaces := #[14, 2], accessFlags := 1041 }

def heap : Heap := #[{ cls := 7, slots := #[.long 0, .int 1, .null, .int 0, .null, .int 0, .int 0], vm := .statics 7 },
  { cls := 10, slots := #[.null, .null, .null], vm := .statics 10 },
  { cls := 12, slots := #[.int 0, .int 8, .int 0, .int 1], vm := .statics 12 }]
def classes : Array Class := #[k0, k1, k2, k3, k4, k5, k6, k7, k8, k9, k10, k11, k12, k13, k14, k15, k16, k17, k18, k19, k20]
def interned : List (Array UInt16 × Addr) := []
def slotsUsed : Nat := 14
def theMethod : MethodId := ⟨1, 4⟩
def args0 : Array Value := #[.int 1, .int 2, .int 3, .int 0]
def aboutOver (below : List Frame) : State where
  vm := { classes := classes, interned := interned.toArray }
  heap := heap
  slotsUsed := slotsUsed
  threads := #[{ frames := .invoking theMethod args0 :: below }]
def below0 : List Frame := [.native { method := ⟨0, 0⟩, args := #[] }]
def about1 : State := aboutOver below0
def p0 : Program := .bare "" "" ""
def e0 : Env := launch0.env 0 0 0
theorem w_frames : about1.frames = Frame.invoking theMethod args0 :: below0 := rfl
set_option maxRecDepth 65536 in
theorem w_args : argsFit about1.vm theMethod args0 = true := by decide +kernel
set_option maxRecDepth 65536 in
theorem w_heap : heapFits about1 = true := by decide +kernel
set_option maxRecDepth 65536 in
theorem w_runnable : about1.curStatus? = some .runnable := by decide +kernel
set_option maxRecDepth 65536 in
theorem w_alone : about1.alone = true := by decide +kernel
set_option maxRecDepth 65536 in
theorem w_named : about1.methodNamed? x = some theMethod := by decide +kernel
set_option maxRecDepth 65536 in
theorem w_hears : about1.hears theMethod below0 = true := by decide +kernel
set_option maxRecDepth 65536 in
theorem w_ripe : about1.ripe theMethod args0 below0 = true := by decide +kernel
theorem w_running : about1.status = .running := rfl
set_option maxRecDepth 65536 in
theorem w_room : about1.hasRoom e0.platform room_1 = true :=
  launch0.hasRoom_least _ room_1 (by decide +kernel) (by decide +kernel) (by decide +kernel) (by decide +kernel) (by decide +kernel) (by decide +kernel)
theorem allAtoms_all (ts : List Jvm.Cond) (a : Array Jvm.Value) (st : Jvm.State) : (allAtoms ts).before a st = ts.all (fun c => c.before a st) := by
  induction ts with
  | nil => rfl
  | cons c t ih =>
    show (Jvm.Cond.and c (allAtoms t)).before a st = _
    rw [Jvm.Cond.before_and, ih, List.all_cons]
def words1 : List Jvm.Cond := Jvm.Cond.code x code maxLocals ret :: tables_1
/-- a 'code' word, met by the world's own term for the bytes: nothing is compared byte by byte -/
theorem code_word {y : MethodName} {bytes : ByteArray} {mx : Nat} {rt : Option FieldType} {a : Array Value} {s : State} {m : MethodId} {meth : Method} {c : Code} (h1 : s.methodNamed? y = some m) (h2 : s.vm.method? m = some meth) (h3 : meth.code = some c) (h4 : c.code = bytes)
    (h5 : (c.maxLocals == mx && c.exceptionTable.isEmpty && decide (c.maxStack ≤ mostOperands) && decide (meth.sig.returnType = rt) && !meth.locks && decide (parseMethodDescriptor y.desc = some meth.sig)) = true) : (Jvm.Cond.code y bytes mx rt).before a s = true := by
  simp only [Bool.and_eq_true, beq_iff_eq, Bool.not_eq_true', decide_eq_true_eq] at h5
  obtain ⟨⟨⟨⟨⟨g1, g2⟩, g3⟩, g4⟩, g5⟩, g6⟩ := h5
  simp [Cond.before, Cond.holds, Cond.value, h1, h2, h3, h4, g1, g2, g3, g4, g5, g6]
def isCode : Jvm.Cond → Bool
  | .code _ _ _ _ => true
  | _ => false
theorem all_split {L : List Jvm.Cond} {P : Jvm.Cond → Bool} (h1 : L.all (fun c => isCode c || P c) = true) (h2 : ∀ c ∈ L.filter isCode, P c = true) : L.all P = true := by
  refine List.all_eq_true.mpr fun c hc => ?_
  have h := List.all_eq_true.mp h1 c hc
  rcases Bool.eq_false_or_eq_true (isCode c) with hi | hi
  · exact h2 c (List.mem_filter.mpr ⟨hc, hi⟩)
  · simpa [hi] using h
set_option maxRecDepth 65536 in
theorem w_c0 : (Jvm.Cond.code x code maxLocals ret).before args0 about1 = true := code_word (m := ⟨1, 4⟩) (meth := k1m4) (c := k1c4) (by decide +kernel) rfl rfl rfl (by decide +kernel)
set_option maxRecDepth 65536 in
theorem w_c1 : (Jvm.Cond.code ({ cls := "com/example/policy_prover/policyprover/model/TextRequireWellFormedPinLaw", name := "hi", desc := "(I)C" } : Jvm.MethodName) method_3_code (1 : Nat) (Option.some Jvm.ClassFile.FieldType.char)).before args0 about1 = true := code_word (m := ⟨1, 2⟩) (meth := k1m2) (c := k1c2) (by decide +kernel) rfl rfl rfl (by decide +kernel)
set_option maxRecDepth 65536 in
theorem w_c2 : (Jvm.Cond.code ({ cls := "com/example/policy_prover/policyprover/model/TextRequireWellFormedPinLaw", name := "lo", desc := "(I)C" } : Jvm.MethodName) method_4_code (1 : Nat) (Option.some Jvm.ClassFile.FieldType.char)).before args0 about1 = true := code_word (m := ⟨1, 3⟩) (meth := k1m3) (c := k1c3) (by decide +kernel) rfl rfl rfl (by decide +kernel)
set_option maxRecDepth 65536 in
theorem w_c3 : (Jvm.Cond.code ({ cls := "com/example/policy_prover/policyprover/model/TextRequireWellFormedPinLaw", name := "bmp", desc := "(I)C" } : Jvm.MethodName) method_2_code (2 : Nat) (Option.some Jvm.ClassFile.FieldType.char)).before args0 about1 = true := code_word (m := ⟨1, 1⟩) (meth := k1m1) (c := k1c1) (by decide +kernel) rfl rfl rfl (by decide +kernel)
set_option maxRecDepth 65536 in
theorem w_c4 : (Jvm.Cond.code ({ cls := "java/lang/String", name := "<init>", desc := "([C)V" } : Jvm.MethodName) jdk_42_method_3_code (2 : Nat) (Option.none : Option Jvm.ClassFile.FieldType)).before args0 about1 = true := code_word (m := ⟨7, 1⟩) (meth := k7m1) (c := k7c1) (by decide +kernel) rfl rfl rfl (by decide +kernel)
set_option maxRecDepth 65536 in
theorem w_c5 : (Jvm.Cond.code ({ cls := "java/lang/String", name := "<init>", desc := "([CIILjava/lang/Void;)V" } : Jvm.MethodName) jdk_42_method_149_code (6 : Nat) (Option.none : Option Jvm.ClassFile.FieldType)).before args0 about1 = true := code_word (m := ⟨7, 5⟩) (meth := k7m5) (c := k7c5) (by decide +kernel) rfl rfl rfl (by decide +kernel)
set_option maxRecDepth 65536 in
theorem w_c6 : (Jvm.Cond.code ({ cls := "java/lang/Object", name := "<init>", desc := "()V" } : Jvm.MethodName) object_method_1_code (1 : Nat) (Option.none : Option Jvm.ClassFile.FieldType)).before args0 about1 = true := code_word (m := ⟨0, 0⟩) (meth := k0m0) (c := k0c0) (by decide +kernel) rfl rfl rfl (by decide +kernel)
set_option maxRecDepth 65536 in
theorem w_c7 : (Jvm.Cond.code ({ cls := "com/example/policy_prover/policyprover/model/Text", name := "requireWellFormed", desc := "(Ljava/lang/String;)V" } : Jvm.MethodName) prog_3_method_4_code (5 : Nat) (Option.none : Option Jvm.ClassFile.FieldType)).before args0 about1 = true := code_word (m := ⟨8, 1⟩) (meth := k8m1) (c := k8c1) (by decide +kernel) rfl rfl rfl (by decide +kernel)
set_option maxRecDepth 65536 in
theorem w_c8 : (Jvm.Cond.code ({ cls := "java/lang/String", name := "length", desc := "()I" } : Jvm.MethodName) jdk_42_method_54_code (1 : Nat) (Option.some Jvm.ClassFile.FieldType.int)).before args0 about1 = true := code_word (m := ⟨7, 2⟩) (meth := k7m2) (c := k7c2) (by decide +kernel) rfl rfl rfl (by decide +kernel)
set_option maxRecDepth 65536 in
theorem w_c9 : (Jvm.Cond.code ({ cls := "java/lang/String", name := "coder", desc := "()B" } : Jvm.MethodName) jdk_42_method_152_code (1 : Nat) (Option.some Jvm.ClassFile.FieldType.byte)).before args0 about1 = true := code_word (m := ⟨7, 7⟩) (meth := k7m7) (c := k7c7) (by decide +kernel) rfl rfl rfl (by decide +kernel)
set_option maxRecDepth 65536 in
theorem w_c10 : (Jvm.Cond.code ({ cls := "java/lang/String", name := "valueOf", desc := "(C)Ljava/lang/String;" } : Jvm.MethodName) jdk_42_method_139_code (1 : Nat) (Option.some (Jvm.ClassFile.FieldType.object "java/lang/String"))).before args0 about1 = true := code_word (m := ⟨7, 4⟩) (meth := k7m4) (c := k7c4) (by decide +kernel) rfl rfl rfl (by decide +kernel)
set_option maxRecDepth 65536 in
theorem w_c11 : (Jvm.Cond.code ({ cls := "java/lang/StringLatin1", name := "canEncode", desc := "(C)Z" } : Jvm.MethodName) jdk_43_method_3_code (1 : Nat) (Option.some Jvm.ClassFile.FieldType.boolean)).before args0 about1 = true := code_word (m := ⟨9, 1⟩) (meth := k9m1) (c := k9c1) (by decide +kernel) rfl rfl rfl (by decide +kernel)
set_option maxRecDepth 65536 in
theorem w_c12 : (Jvm.Cond.code ({ cls := "java/lang/StringLatin1", name := "toBytes", desc := "(C)[B" } : Jvm.MethodName) jdk_43_method_46_code (1 : Nat) (Option.some (Jvm.ClassFile.FieldType.array Jvm.ClassFile.FieldType.byte))).before args0 about1 = true := code_word (m := ⟨9, 2⟩) (meth := k9m2) (c := k9c2) (by decide +kernel) rfl rfl rfl (by decide +kernel)
set_option maxRecDepth 65536 in
theorem w_c13 : (Jvm.Cond.code ({ cls := "java/lang/String", name := "<init>", desc := "([BB)V" } : Jvm.MethodName) jdk_42_method_151_code (3 : Nat) (Option.none : Option Jvm.ClassFile.FieldType)).before args0 about1 = true := code_word (m := ⟨7, 6⟩) (meth := k7m6) (c := k7c6) (by decide +kernel) rfl rfl rfl (by decide +kernel)
set_option maxRecDepth 65536 in
theorem w_c14 : (Jvm.Cond.code ({ cls := "java/lang/String", name := "codePointAt", desc := "(I)I" } : Jvm.MethodName) jdk_42_method_57_code (3 : Nat) (Option.some Jvm.ClassFile.FieldType.int)).before args0 about1 = true := code_word (m := ⟨7, 3⟩) (meth := k7m3) (c := k7c3) (by decide +kernel) rfl rfl rfl (by decide +kernel)
set_option maxRecDepth 65536 in
theorem w_c15 : (Jvm.Cond.code ({ cls := "java/lang/String", name := "isLatin1", desc := "()Z" } : Jvm.MethodName) jdk_42_method_154_code (1 : Nat) (Option.some Jvm.ClassFile.FieldType.boolean)).before args0 about1 = true := code_word (m := ⟨7, 8⟩) (meth := k7m8) (c := k7c8) (by decide +kernel) rfl rfl rfl (by decide +kernel)
set_option maxRecDepth 65536 in
theorem w_c16 : (Jvm.Cond.code ({ cls := "java/lang/String", name := "checkIndex", desc := "(II)V" } : Jvm.MethodName) jdk_42_method_155_code (2 : Nat) (Option.none : Option Jvm.ClassFile.FieldType)).before args0 about1 = true := code_word (m := ⟨7, 9⟩) (meth := k7m9) (c := k7c9) (by decide +kernel) rfl rfl rfl (by decide +kernel)
set_option maxRecDepth 65536 in
theorem w_c17 : (Jvm.Cond.code ({ cls := "jdk/internal/util/Preconditions", name := "checkIndex", desc := "(IILjava/util/function/BiFunction;)I" } : Jvm.MethodName) jdk_41_method_11_code (3 : Nat) (Option.some Jvm.ClassFile.FieldType.int)).before args0 about1 = true := code_word (m := ⟨10, 1⟩) (meth := k10m1) (c := k10c1) (by decide +kernel) rfl rfl rfl (by decide +kernel)
set_option maxRecDepth 65536 in
theorem w_c18 : (Jvm.Cond.code ({ cls := "java/lang/Character", name := "charCount", desc := "(I)I" } : Jvm.MethodName) jdk_89_method_18_code (1 : Nat) (Option.some Jvm.ClassFile.FieldType.int)).before args0 about1 = true := code_word (m := ⟨11, 2⟩) (meth := k11m2) (c := k11c2) (by decide +kernel) rfl rfl rfl (by decide +kernel)
set_option maxRecDepth 65536 in
theorem w_c19 : (Jvm.Cond.code ({ cls := "java/lang/StringUTF16", name := "compress", desc := "([CII)[B" } : Jvm.MethodName) jdk_52_method_16_code (6 : Nat) (Option.some (Jvm.ClassFile.FieldType.array Jvm.ClassFile.FieldType.byte))).before args0 about1 = true := code_word (m := ⟨12, 9⟩) (meth := k12m9) (c := k12c9) (by decide +kernel) rfl rfl rfl (by decide +kernel)
set_option maxRecDepth 65536 in
theorem w_c20 : (Jvm.Cond.code ({ cls := "java/lang/StringUTF16", name := "compress", desc := "([CI[BII)I" } : Jvm.MethodName) jdk_52_method_21_code (7 : Nat) (Option.some Jvm.ClassFile.FieldType.int)).before args0 about1 = true := code_word (m := ⟨12, 10⟩) (meth := k12m10) (c := k12c10) (by decide +kernel) rfl rfl rfl (by decide +kernel)
set_option maxRecDepth 65536 in
theorem w_c21 : (Jvm.Cond.code ({ cls := "java/lang/StringUTF16", name := "toBytes", desc := "([CII)[B" } : Jvm.MethodName) jdk_52_method_14_code (5 : Nat) (Option.some (Jvm.ClassFile.FieldType.array Jvm.ClassFile.FieldType.byte))).before args0 about1 = true := code_word (m := ⟨12, 7⟩) (meth := k12m7) (c := k12c7) (by decide +kernel) rfl rfl rfl (by decide +kernel)
set_option maxRecDepth 65536 in
theorem w_c22 : (Jvm.Cond.code ({ cls := "java/lang/StringUTF16", name := "newBytesFor", desc := "(I)[B" } : Jvm.MethodName) jdk_52_method_2_code (1 : Nat) (Option.some (Jvm.ClassFile.FieldType.array Jvm.ClassFile.FieldType.byte))).before args0 about1 = true := code_word (m := ⟨12, 1⟩) (meth := k12m1) (c := k12c1) (by decide +kernel) rfl rfl rfl (by decide +kernel)
set_option maxRecDepth 65536 in
theorem w_c23 : (Jvm.Cond.code ({ cls := "java/lang/StringUTF16", name := "newBytesLength", desc := "(I)I" } : Jvm.MethodName) jdk_52_method_3_code (1 : Nat) (Option.some Jvm.ClassFile.FieldType.int)).before args0 about1 = true := code_word (m := ⟨12, 2⟩) (meth := k12m2) (c := k12c2) (by decide +kernel) rfl rfl rfl (by decide +kernel)
set_option maxRecDepth 65536 in
theorem w_c24 : (Jvm.Cond.code ({ cls := "java/lang/StringUTF16", name := "putChar", desc := "([BII)V" } : Jvm.MethodName) jdk_52_method_4_code (3 : Nat) (Option.none : Option Jvm.ClassFile.FieldType)).before args0 about1 = true := code_word (m := ⟨12, 3⟩) (meth := k12m3) (c := k12c3) (by decide +kernel) rfl rfl rfl (by decide +kernel)
set_option maxRecDepth 65536 in
theorem w_c25 : (Jvm.Cond.code ({ cls := "java/lang/StringUTF16", name := "getChar", desc := "([BI)C" } : Jvm.MethodName) jdk_52_method_5_code (2 : Nat) (Option.some Jvm.ClassFile.FieldType.char)).before args0 about1 = true := code_word (m := ⟨12, 4⟩) (meth := k12m4) (c := k12c4) (by decide +kernel) rfl rfl rfl (by decide +kernel)
set_option maxRecDepth 65536 in
theorem w_c26 : (Jvm.Cond.code ({ cls := "java/lang/StringUTF16", name := "coderFromArrayLen", desc := "([BI)B" } : Jvm.MethodName) jdk_52_method_15_code (2 : Nat) (Option.some Jvm.ClassFile.FieldType.byte)).before args0 about1 = true := code_word (m := ⟨12, 8⟩) (meth := k12m8) (c := k12c8) (by decide +kernel) rfl rfl rfl (by decide +kernel)
set_option maxRecDepth 65536 in
theorem w_c27 : (Jvm.Cond.code ({ cls := "java/lang/StringUTF16", name := "codePointAt", desc := "([BII)I" } : Jvm.MethodName) jdk_52_method_8_code (3 : Nat) (Option.some Jvm.ClassFile.FieldType.int)).before args0 about1 = true := code_word (m := ⟨12, 6⟩) (meth := k12m6) (c := k12c6) (by decide +kernel) rfl rfl rfl (by decide +kernel)
set_option maxRecDepth 65536 in
theorem w_c28 : (Jvm.Cond.code ({ cls := "java/lang/StringUTF16", name := "codePointAt", desc := "([BIIZ)I" } : Jvm.MethodName) jdk_52_method_7_code (6 : Nat) (Option.some Jvm.ClassFile.FieldType.int)).before args0 about1 = true := code_word (m := ⟨12, 5⟩) (meth := k12m5) (c := k12c5) (by decide +kernel) rfl rfl rfl (by decide +kernel)
set_option maxRecDepth 65536 in
theorem w_c29 : (Jvm.Cond.code ({ cls := "java/lang/Character", name := "isHighSurrogate", desc := "(C)Z" } : Jvm.MethodName) jdk_89_method_14_code (1 : Nat) (Option.some Jvm.ClassFile.FieldType.boolean)).before args0 about1 = true := code_word (m := ⟨11, 0⟩) (meth := k11m0) (c := k11c0) (by decide +kernel) rfl rfl rfl (by decide +kernel)
set_option maxRecDepth 65536 in
theorem w_c30 : (Jvm.Cond.code ({ cls := "java/lang/Character", name := "isLowSurrogate", desc := "(C)Z" } : Jvm.MethodName) jdk_89_method_15_code (1 : Nat) (Option.some Jvm.ClassFile.FieldType.boolean)).before args0 about1 = true := code_word (m := ⟨11, 1⟩) (meth := k11m1) (c := k11c1) (by decide +kernel) rfl rfl rfl (by decide +kernel)
set_option maxRecDepth 65536 in
theorem w_c31 : (Jvm.Cond.code ({ cls := "java/lang/Character", name := "toCodePoint", desc := "(CC)I" } : Jvm.MethodName) jdk_89_method_19_code (2 : Nat) (Option.some Jvm.ClassFile.FieldType.int)).before args0 about1 = true := code_word (m := ⟨11, 3⟩) (meth := k11m3) (c := k11c3) (by decide +kernel) rfl rfl rfl (by decide +kernel)
set_option maxRecDepth 65536 in
theorem w_c32 : (Jvm.Cond.code ({ cls := "java/lang/StringUTF16", name := "toBytes", desc := "(C)[B" } : Jvm.MethodName) jdk_52_method_24_code (2 : Nat) (Option.some (Jvm.ClassFile.FieldType.array Jvm.ClassFile.FieldType.byte))).before args0 about1 = true := code_word (m := ⟨12, 11⟩) (meth := k12m11) (c := k12c11) (by decide +kernel) rfl rfl rfl (by decide +kernel)
def codes1 : List Jvm.Cond := [Jvm.Cond.code x code maxLocals ret, Jvm.Cond.code ({ cls := "com/example/policy_prover/policyprover/model/TextRequireWellFormedPinLaw", name := "hi", desc := "(I)C" } : Jvm.MethodName) method_3_code (1 : Nat) (Option.some Jvm.ClassFile.FieldType.char), Jvm.Cond.code ({ cls := "com/example/policy_prover/policyprover/model/TextRequireWellFormedPinLaw", name := "lo", desc := "(I)C" } : Jvm.MethodName) method_4_code (1 : Nat) (Option.some Jvm.ClassFile.FieldType.char), Jvm.Cond.code ({ cls := "com/example/policy_prover/policyprover/model/TextRequireWellFormedPinLaw", name := "bmp", desc := "(I)C" } : Jvm.MethodName) method_2_code (2 : Nat) (Option.some Jvm.ClassFile.FieldType.char), Jvm.Cond.code ({ cls := "java/lang/String", name := "<init>", desc := "([C)V" } : Jvm.MethodName) jdk_42_method_3_code (2 : Nat) (Option.none : Option Jvm.ClassFile.FieldType), Jvm.Cond.code ({ cls := "java/lang/String", name := "<init>", desc := "([CIILjava/lang/Void;)V" } : Jvm.MethodName) jdk_42_method_149_code (6 : Nat) (Option.none : Option Jvm.ClassFile.FieldType), Jvm.Cond.code ({ cls := "java/lang/Object", name := "<init>", desc := "()V" } : Jvm.MethodName) object_method_1_code (1 : Nat) (Option.none : Option Jvm.ClassFile.FieldType), Jvm.Cond.code ({ cls := "com/example/policy_prover/policyprover/model/Text", name := "requireWellFormed", desc := "(Ljava/lang/String;)V" } : Jvm.MethodName) prog_3_method_4_code (5 : Nat) (Option.none : Option Jvm.ClassFile.FieldType), Jvm.Cond.code ({ cls := "java/lang/String", name := "length", desc := "()I" } : Jvm.MethodName) jdk_42_method_54_code (1 : Nat) (Option.some Jvm.ClassFile.FieldType.int), Jvm.Cond.code ({ cls := "java/lang/String", name := "coder", desc := "()B" } : Jvm.MethodName) jdk_42_method_152_code (1 : Nat) (Option.some Jvm.ClassFile.FieldType.byte), Jvm.Cond.code ({ cls := "java/lang/String", name := "valueOf", desc := "(C)Ljava/lang/String;" } : Jvm.MethodName) jdk_42_method_139_code (1 : Nat) (Option.some (Jvm.ClassFile.FieldType.object "java/lang/String")), Jvm.Cond.code ({ cls := "java/lang/StringLatin1", name := "canEncode", desc := "(C)Z" } : Jvm.MethodName) jdk_43_method_3_code (1 : Nat) (Option.some Jvm.ClassFile.FieldType.boolean), Jvm.Cond.code ({ cls := "java/lang/StringLatin1", name := "toBytes", desc := "(C)[B" } : Jvm.MethodName) jdk_43_method_46_code (1 : Nat) (Option.some (Jvm.ClassFile.FieldType.array Jvm.ClassFile.FieldType.byte)), Jvm.Cond.code ({ cls := "java/lang/String", name := "<init>", desc := "([BB)V" } : Jvm.MethodName) jdk_42_method_151_code (3 : Nat) (Option.none : Option Jvm.ClassFile.FieldType), Jvm.Cond.code ({ cls := "java/lang/String", name := "codePointAt", desc := "(I)I" } : Jvm.MethodName) jdk_42_method_57_code (3 : Nat) (Option.some Jvm.ClassFile.FieldType.int), Jvm.Cond.code ({ cls := "java/lang/String", name := "isLatin1", desc := "()Z" } : Jvm.MethodName) jdk_42_method_154_code (1 : Nat) (Option.some Jvm.ClassFile.FieldType.boolean), Jvm.Cond.code ({ cls := "java/lang/String", name := "checkIndex", desc := "(II)V" } : Jvm.MethodName) jdk_42_method_155_code (2 : Nat) (Option.none : Option Jvm.ClassFile.FieldType), Jvm.Cond.code ({ cls := "jdk/internal/util/Preconditions", name := "checkIndex", desc := "(IILjava/util/function/BiFunction;)I" } : Jvm.MethodName) jdk_41_method_11_code (3 : Nat) (Option.some Jvm.ClassFile.FieldType.int), Jvm.Cond.code ({ cls := "java/lang/Character", name := "charCount", desc := "(I)I" } : Jvm.MethodName) jdk_89_method_18_code (1 : Nat) (Option.some Jvm.ClassFile.FieldType.int), Jvm.Cond.code ({ cls := "java/lang/StringUTF16", name := "compress", desc := "([CII)[B" } : Jvm.MethodName) jdk_52_method_16_code (6 : Nat) (Option.some (Jvm.ClassFile.FieldType.array Jvm.ClassFile.FieldType.byte)), Jvm.Cond.code ({ cls := "java/lang/StringUTF16", name := "compress", desc := "([CI[BII)I" } : Jvm.MethodName) jdk_52_method_21_code (7 : Nat) (Option.some Jvm.ClassFile.FieldType.int), Jvm.Cond.code ({ cls := "java/lang/StringUTF16", name := "toBytes", desc := "([CII)[B" } : Jvm.MethodName) jdk_52_method_14_code (5 : Nat) (Option.some (Jvm.ClassFile.FieldType.array Jvm.ClassFile.FieldType.byte)), Jvm.Cond.code ({ cls := "java/lang/StringUTF16", name := "newBytesFor", desc := "(I)[B" } : Jvm.MethodName) jdk_52_method_2_code (1 : Nat) (Option.some (Jvm.ClassFile.FieldType.array Jvm.ClassFile.FieldType.byte)), Jvm.Cond.code ({ cls := "java/lang/StringUTF16", name := "newBytesLength", desc := "(I)I" } : Jvm.MethodName) jdk_52_method_3_code (1 : Nat) (Option.some Jvm.ClassFile.FieldType.int), Jvm.Cond.code ({ cls := "java/lang/StringUTF16", name := "putChar", desc := "([BII)V" } : Jvm.MethodName) jdk_52_method_4_code (3 : Nat) (Option.none : Option Jvm.ClassFile.FieldType), Jvm.Cond.code ({ cls := "java/lang/StringUTF16", name := "getChar", desc := "([BI)C" } : Jvm.MethodName) jdk_52_method_5_code (2 : Nat) (Option.some Jvm.ClassFile.FieldType.char), Jvm.Cond.code ({ cls := "java/lang/StringUTF16", name := "coderFromArrayLen", desc := "([BI)B" } : Jvm.MethodName) jdk_52_method_15_code (2 : Nat) (Option.some Jvm.ClassFile.FieldType.byte), Jvm.Cond.code ({ cls := "java/lang/StringUTF16", name := "codePointAt", desc := "([BII)I" } : Jvm.MethodName) jdk_52_method_8_code (3 : Nat) (Option.some Jvm.ClassFile.FieldType.int), Jvm.Cond.code ({ cls := "java/lang/StringUTF16", name := "codePointAt", desc := "([BIIZ)I" } : Jvm.MethodName) jdk_52_method_7_code (6 : Nat) (Option.some Jvm.ClassFile.FieldType.int), Jvm.Cond.code ({ cls := "java/lang/Character", name := "isHighSurrogate", desc := "(C)Z" } : Jvm.MethodName) jdk_89_method_14_code (1 : Nat) (Option.some Jvm.ClassFile.FieldType.boolean), Jvm.Cond.code ({ cls := "java/lang/Character", name := "isLowSurrogate", desc := "(C)Z" } : Jvm.MethodName) jdk_89_method_15_code (1 : Nat) (Option.some Jvm.ClassFile.FieldType.boolean), Jvm.Cond.code ({ cls := "java/lang/Character", name := "toCodePoint", desc := "(CC)I" } : Jvm.MethodName) jdk_89_method_19_code (2 : Nat) (Option.some Jvm.ClassFile.FieldType.int), Jvm.Cond.code ({ cls := "java/lang/StringUTF16", name := "toBytes", desc := "(C)[B" } : Jvm.MethodName) jdk_52_method_24_code (2 : Nat) (Option.some (Jvm.ClassFile.FieldType.array Jvm.ClassFile.FieldType.byte))]
set_option maxRecDepth 65536 in
theorem codes_eq : words1.filter isCode = codes1 := rfl
theorem w_codes : ∀ c ∈ words1.filter isCode, c.before args0 about1 = true := by
  rw [codes_eq]
  intro c hc
  simp only [codes1, List.mem_cons, List.not_mem_nil, or_false] at hc
  rcases hc with rfl | rfl | rfl | rfl | rfl | rfl | rfl | rfl | rfl | rfl | rfl | rfl | rfl | rfl | rfl | rfl | rfl | rfl | rfl | rfl | rfl | rfl | rfl | rfl | rfl | rfl | rfl | rfl | rfl | rfl | rfl | rfl | rfl
  · exact w_c0
  · exact w_c1
  · exact w_c2
  · exact w_c3
  · exact w_c4
  · exact w_c5
  · exact w_c6
  · exact w_c7
  · exact w_c8
  · exact w_c9
  · exact w_c10
  · exact w_c11
  · exact w_c12
  · exact w_c13
  · exact w_c14
  · exact w_c15
  · exact w_c16
  · exact w_c17
  · exact w_c18
  · exact w_c19
  · exact w_c20
  · exact w_c21
  · exact w_c22
  · exact w_c23
  · exact w_c24
  · exact w_c25
  · exact w_c26
  · exact w_c27
  · exact w_c28
  · exact w_c29
  · exact w_c30
  · exact w_c31
  · exact w_c32
set_option maxRecDepth 65536 in
theorem w_t1 : (words1.take 24).all (fun c => isCode c || c.before args0 about1) = true := by decide +kernel
set_option maxRecDepth 65536 in
theorem w_t2 : ((words1.drop 24).take 24).all (fun c => isCode c || c.before args0 about1) = true := by decide +kernel
set_option maxRecDepth 65536 in
theorem w_t3 : (((words1.drop 24).drop 24).take 24).all (fun c => isCode c || c.before args0 about1) = true := by decide +kernel
set_option maxRecDepth 65536 in
theorem w_t4 : ((((words1.drop 24).drop 24).drop 24).take 24).all (fun c => isCode c || c.before args0 about1) = true := by decide +kernel
set_option maxRecDepth 65536 in
theorem w_t5 : (((((words1.drop 24).drop 24).drop 24).drop 24).take 24).all (fun c => isCode c || c.before args0 about1) = true := by decide +kernel
set_option maxRecDepth 65536 in
theorem w_t6 : (((((words1.drop 24).drop 24).drop 24).drop 24).drop 24).all (fun c => isCode c || c.before args0 about1) = true := by decide +kernel
theorem w_tables : (allAtoms (Jvm.Cond.code x code maxLocals ret :: tables_1)).before args0 about1 = true := by
  rw [allAtoms_all]
  show words1.all (fun c => c.before args0 about1) = true
  refine all_split ?_ w_codes
  rw [← List.take_append_drop 24 words1, List.all_append, w_t1, ← List.take_append_drop 24 (words1.drop 24), List.all_append, w_t2, ← List.take_append_drop 24 ((words1.drop 24).drop 24), List.all_append, w_t3, ← List.take_append_drop 24 (((words1.drop 24).drop 24).drop 24), List.all_append, w_t4, ← List.take_append_drop 24 ((((words1.drop 24).drop 24).drop 24).drop 24), List.all_append, w_t5, w_t6]
  rfl
set_option maxRecDepth 65536 in
theorem w_rest : rest_1_c.before args0 about1 = true := by decide +kernel
set_option maxRecDepth 65536 in
theorem w_case : (Jvm.Cond.and given_1 narrow_1).before args0 about1 = true := by decide +kernel
set_option maxRecDepth 65536 in
theorem w_consts : constsHeld consts_1 about1 := Jvm.Lit.constsHeldB_iff.mp (by decide +kernel)
theorem w_applies : (headSpec (Jvm.Cond.code x code maxLocals ret :: tables_1) room_1).applies x e0.platform about1 = true :=
  (Spec.applies_iff w_frames).mpr ⟨w_running, w_runnable, w_alone, w_named, w_hears, w_ripe, w_room, w_tables⟩
theorem atStart : AtStart classFile x code maxLocals ret World_1 tables_1 room_1 Calls_1 rest_1 Pre_1 launch0 p0 e0 about1 theMethod args0 below0 :=
  ⟨lists_1, trivial, launch0.admits_env _ _ _, launch0.least_env, fairChoices_fair.cas, fairChoices_fair.clock, w_frames, w_args, w_heap, w_applies, ⟨w_consts, trivial⟩, w_rest, w_case⟩
end start1
theorem witness_1 : WitnessClaimed_1 := ⟨start1.p0, start1.e0, start1.about1, start1.theMethod, start1.args0, start1.below0, start1.atStart⟩
end Jvm.Pilot.@@N@@
