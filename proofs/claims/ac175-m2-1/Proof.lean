import JvmDerived
import JvmDerived.Pilot.@@N@@Statement
import JvmDerived.Pilot.@@N@@Code
set_option linter.unusedVariables false
set_option linter.unusedSimpArgs false
/- laws to paste: Road.backV, Road.lenW, Road.chN (cut by pick.py; bodies as the Statement names them) -/
namespace Jvm.Pilot.@@N@@
namespace StrChars
open Jvm Sem ClassFile Op Lib Jvm.Stand Jvm.Free.XT Jvm.Free.ALB Jvm.Free.JM Jvm.Free
open Jvm.Lib.Cold (StaticIs)
/-- a char array whose places are chars -/
def Ch (a : Addr) (A : Cell) (U : State) : Prop := Arr .char a A U ∧ Typed .char A
theorem Ch.mv {a : Addr} {A : Cell} {U U' : State} (h : Ch a A U) (hal : U.vm.Alike U'.vm) (hh : U'.heap = U.heap) : Ch a A U' := ⟨h.1.mv hal hh, h.2⟩
theorem Ch.keep {a : Addr} {A : Cell} {U U' : State} (h : Ch a A U) (hal : U.vm.Alike U'.vm) (hk : U'.heap[a]? = some A) : Ch a A U' := ⟨h.1.keep hal hk, h.2⟩
/-- what place i of a char[]'s cell holds -/
def cv (A : Cell) (i : Nat) : Int32 := match A.slots[i]? with | some (.int x) => x | _ => 0
theorem Ch.get {a : Addr} {A : Cell} {U : State} (h : Ch a A U) {i : Nat} (hi : i < A.slots.size) : A.slots[i]? = some (.int (cv A i)) := by
  have e := Array.getElem?_eq_getElem hi
  have f := h.2 i _ e
  unfold cv; rw [e]
  generalize A.slots[i] = v at f
  cases v <;> simp [fits] at f ⊢
/-- the byte that i2b leaves of a char -/
def lo8 (x : Int32) : Int32 := x.toInt8.toInt32
theorem fits_lo8 (y : Int32) : fits .byte (.int (lo8 y)) = true := by
  have h1 := y.toInt8.le_toInt
  have h2 := y.toInt8.toInt_lt
  simp only [lo8, fits, Bool.and_eq_true, decide_eq_true_eq, Int32.le_iff_toInt_le, Int8.toInt_toInt32, show (-128 : Int32).toInt = -128 from by decide, show (127 : Int32).toInt = 127 from by decide]
  omega
/-- A' is A but that each place j of lo .. hi - 1 holds f j -/
def Laid (A A' : Cell) (lo hi : Nat) (f : Nat → Value) : Prop := A'.cls = A.cls ∧ A'.vm = A.vm ∧ A'.slots.size = A.slots.size ∧ ∀ i, A'.slots[i]? = if lo ≤ i ∧ i < hi then some (f i) else A.slots[i]?
theorem Laid.zero (A : Cell) (lo : Nat) (f : Nat → Value) : Laid A A lo (lo + 0) f := ⟨rfl, rfl, rfl, fun i => by rw [if_neg (by omega)]⟩
theorem Laid.step {A Ak : Cell} {lo k : Nat} {f : Nat → Value} {v : Value} (h : Laid A Ak lo k f) (hlo : lo ≤ k) (hk : k < Ak.slots.size) (hv : v = f k) : Laid A (Ak.setSlot k v) lo (k + 1) f := by
  refine ⟨h.1, h.2.1, by simpa [Cell.setSlot] using h.2.2.1, fun i => ?_⟩
  by_cases e : k = i
  · subst e; rw [Cell.slots_setSlot_self v hk, if_pos (by omega), hv]
  · rw [Cell.slots_setSlot_ne v e, h.2.2.2 i]
    by_cases q : lo ≤ i ∧ i < k
    · rw [if_pos q, if_pos (by omega)]
    · rw [if_neg q, if_neg (by omega)]
def U16 : String := "java/lang/StringUTF16"
namespace Cmp5
def yN : MethodName := ⟨"java/lang/StringUTF16", "compress", "([CI[BII)I"⟩
abbrev yB : ByteArray := jdk_52_method_21_code
theorem d0 : decode yB 0 = .ok (.iconst 0, 1) := by decide +kernel
theorem d1 : decode yB 1 = .ok (.istore 5, 2) := by decide +kernel
theorem d3 : decode yB 3 = .ok (.iload 5, 2) := by decide +kernel
theorem d5 : decode yB 5 = .ok (.iload 4, 2) := by decide +kernel
theorem d7 : decode yB 7 = .ok (.if_icmp (.ge) 37, 3) := by decide +kernel
theorem d10 : decode yB 10 = .ok (.aload_n 0, 1) := by decide +kernel
theorem d11 : decode yB 11 = .ok (.iload_n 1, 1) := by decide +kernel
theorem d12 : decode yB 12 = .ok (.caload, 1) := by decide +kernel
theorem d13 : decode yB 13 = .ok (.istore 6, 2) := by decide +kernel
theorem d15 : decode yB 15 = .ok (.iload 6, 2) := by decide +kernel
theorem d17 : decode yB 17 = .ok (.sipush 255, 3) := by decide +kernel
theorem d20 : decode yB 20 = .ok (.if_icmp (.le) 6, 3) := by decide +kernel
theorem d26 : decode yB 26 = .ok (.aload_n 2, 1) := by decide +kernel
theorem d27 : decode yB 27 = .ok (.iload_n 3, 1) := by decide +kernel
theorem d28 : decode yB 28 = .ok (.iload 6, 2) := by decide +kernel
theorem d30 : decode yB 30 = .ok (.i2b, 1) := by decide +kernel
theorem d31 : decode yB 31 = .ok (.bastore, 1) := by decide +kernel
theorem d32 : decode yB 32 = .ok (.iinc 1 1, 3) := by decide +kernel
theorem d35 : decode yB 35 = .ok (.iinc 3 1, 3) := by decide +kernel
theorem d38 : decode yB 38 = .ok (.iinc 5 1, 3) := by decide +kernel
theorem d41 : decode yB 41 = .ok (.goto (-38), 3) := by decide +kernel
theorem d44 : decode yB 44 = .ok (.iload 4, 2) := by decide +kernel
theorem d46 : decode yB 46 = .ok (.ireturn, 1) := by decide +kernel
def site : List Cond := []
def tab : Cond := tabOf yN yB 7 (some .int) site
def P (b : Addr) (A : Cell) (d : Addr) (B : Cell) (o q len : Nat) (args : Array Value) (s : State) : Prop := args = #[.ref b, .int (Int32.ofNat o), .ref d, .int (Int32.ofNat q), .int (Int32.ofNat len)] ∧ Ch b A s ∧ Arr .byte d B s ∧ b ≠ d ∧ o + len ≤ A.slots.size ∧ q + len ≤ B.slots.size ∧ ∀ i, i < len → ¬ 255 < cv A (o + i)
def E (b : Addr) (A : Cell) (d : Addr) (B : Cell) (o q len : Nat) (r : Option Value) (s u : State) : Prop := r = some (.int (Int32.ofNat len)) ∧ ∃ B', Put d B' s u ∧ Laid B B' q (q + len) (fun j => Value.int (lo8 (cv A (o + (j - q)))))
/-- no char of the range above 255: len; the places written hold each char's low byte -/
theorem law (l : Launch) (b : Addr) (A : Cell) (d : Addr) (B : Cell) (o q len : Nat) : Law l yN 5 5 0 0 yB 7 (some .int) site (P b A d B o q len) (E b A d B o q len) (copyLocs d q len) 0 0 := by
  refine Law.of_walk (plainFor_of_name (by decide +kernel)) (by decide +kernel) (by decide +kernel) (by decide) (fun _ _ h => by rw [h.1]; rfl) (fun _ U U' hal hh h => ⟨h.1, h.2.1.mv hal hh, h.2.2.1.mv hal hh, h.2.2.2⟩) (fun r U U' V V' h1 hal h2 h => ⟨h.1, h.2.elim fun B' q => ⟨B', q.1.mv h1 h2, q.2⟩⟩) ?_
  intro p e s m args below meth c s₁ X0 hexec hbytes hml hret hlk hnm hown hh0 W hP
  obtain ⟨rfl, hA, hB, hne, l1, l2, hp⟩ := hP
  have c1 : Steps p.tables e below (s₁.setTop (entryFrame m #[.ref b, .int (Int32.ofNat o), .ref d, .int (Int32.ofNat q), .int (Int32.ofNat len)] 7)) (s₁.setTop (mkF m 0 #[.val (.ref b), .val (.int (Int32.ofNat o)), .val (.ref d), .val (.int (Int32.ofNat q)), .val (.int (Int32.ofNat len)), .unset, .unset] [])) := entry rfl
  have hA0 := hA.1.mv X0.warmed.alike hh0
  have hB0 := hB.mv X0.warmed.alike hh0
  have a31 := hA.1.2.2.2
  have c2 : Steps p.tables e below (s₁.setTop (entryFrame m #[.ref b, .int (Int32.ofNat o), .ref d, .int (Int32.ofNat q), .int (Int32.ofNat len)] 7)) (s₁.setTop (mkF m 3 #[.val (.ref b), .val (.int (Int32.ofNat o)), .val (.ref d), .val (.int (Int32.ofNat q)), .val (.int (Int32.ofNat len)), .val (.int 0), .unset] [])) := c1.trans (by
    refine iconstV X0.here hexec rfl 0 (hb hbytes d0) (by decide) ?_
    refine XS.istore X0.here hexec rfl (hb hbytes d1) rfl rfl ?_
    exact Steps.refl _)
  have loop : ∀ (r i : Nat), i + r = len → ∀ (z : Slot), (z = .unset ∨ ∃ w, z = .val w ∧ w.category = 1) → ∀ (Tl : State) (Bk : Cell), Stand p l e { frames := 0, locals := 0, cells := 0, slots := 0 } s m #[.ref b, .int (Int32.ofNat o), .ref d, .int (Int32.ofNat q), .int (Int32.ofNat len)] below meth c Tl ([] ++ copyLocs d q i) 0 0 → Put d Bk s₁ Tl → Laid B Bk q (q + i) (fun j => Value.int (lo8 (cv A (o + (j - q))))) →
      Steps p.tables e below (s₁.setTop (entryFrame m #[.ref b, .int (Int32.ofNat o), .ref d, .int (Int32.ofNat q), .int (Int32.ofNat len)] 7)) (Tl.setTop (mkF m 3 #[.val (.ref b), .val (.int (Int32.ofNat (o + i))), .val (.ref d), .val (.int (Int32.ofNat (q + i))), .val (.int (Int32.ofNat len)), .val (.int (Int32.ofNat i)), z] [])) → ∃ (T' : State) (B' : Cell) (z' : Slot), Stand p l e { frames := 0, locals := 0, cells := 0, slots := 0 } s m #[.ref b, .int (Int32.ofNat o), .ref d, .int (Int32.ofNat q), .int (Int32.ofNat len)] below meth c T' ([] ++ copyLocs d q len) 0 0 ∧ Put d B' s₁ T' ∧ Laid B B' q (q + len) (fun j => Value.int (lo8 (cv A (o + (j - q))))) ∧
      Steps p.tables e below (s₁.setTop (entryFrame m #[.ref b, .int (Int32.ofNat o), .ref d, .int (Int32.ofNat q), .int (Int32.ofNat len)] 7)) (T'.setTop (mkF m 3 #[.val (.ref b), .val (.int (Int32.ofNat (o + len))), .val (.ref d), .val (.int (Int32.ofNat (q + len))), .val (.int (Int32.ofNat len)), .val (.int (Int32.ofNat len)), z'] [])) := by
    intro r
    induction r with
    | zero =>
      intro i hi z hz Tl Bk Xl pl fl cl
      have hil : i = len := by omega
      rw [hil] at Xl fl cl
      exact ⟨Tl, Bk, z, Xl, pl, fl, cl⟩
    | succ r ih =>
      intro i hi z hz Tl Bk Xl pl fl cl
      have all := X0.warmed.alike.symm.trans Xl.warmed.alike
      have hAl := hA0.keep all (pl.other hne hA0.1)
      have hBk := hB0.like all pl.1 fl.1 fl.2.1 fl.2.2.1
      have hlt : q + i < Bk.slots.size := by rw [fl.2.2.1]; omega
      have c3 : Steps p.tables e below (s₁.setTop (entryFrame m #[.ref b, .int (Int32.ofNat o), .ref d, .int (Int32.ofNat q), .int (Int32.ofNat len)] 7)) (Tl.setTop (mkF m 12 #[.val (.ref b), .val (.int (Int32.ofNat (o + i))), .val (.ref d), .val (.int (Int32.ofNat (q + i))), .val (.int (Int32.ofNat len)), .val (.int (Int32.ofNat i)), z] [.int (Int32.ofNat (o + i)), .ref b])) := cl.trans (by
        refine XS.iload Xl.here hexec rfl (hb hbytes d3) rfl ?_
        refine XS.iload Xl.here hexec rfl (hb hbytes d5) rfl ?_
        refine XS.icmpNo Xl.here hexec rfl (hb hbytes d7) rfl (ii_ge_f (lt32 (by omega) (by omega))) ?_
        refine XS.aloadN Xl.here hexec rfl (hb hbytes d10) rfl rfl ?_
        refine XS.iloadN Xl.here hexec rfl (hb hbytes d11) rfl ?_
        exact Steps.refl _)
      have c4 : Steps p.tables e below (s₁.setTop (entryFrame m #[.ref b, .int (Int32.ofNat o), .ref d, .int (Int32.ofNat q), .int (Int32.ofNat len)] 7)) (Tl.setTop (mkF m 13 #[.val (.ref b), .val (.int (Int32.ofNat (o + i))), .val (.ref d), .val (.int (Int32.ofNat (q + i))), .val (.int (Int32.ofNat len)), .val (.int (Int32.ofNat i)), z] [.int (cv A (o + i))])) := c3.trans (by
        refine Xl.aget hexec hAl rfl (hA.get (i := o + i) (by omega)) rfl rfl (hb hbytes d12) ?_
        exact Steps.refl _)
      have c5 : Steps p.tables e below (s₁.setTop (entryFrame m #[.ref b, .int (Int32.ofNat o), .ref d, .int (Int32.ofNat q), .int (Int32.ofNat len)] 7)) (Tl.setTop (mkF m 15 #[.val (.ref b), .val (.int (Int32.ofNat (o + i))), .val (.ref d), .val (.int (Int32.ofNat (q + i))), .val (.int (Int32.ofNat len)), .val (.int (Int32.ofNat i)), .val (.int (cv A (o + i)))] [])) := c4.trans (by
        refine XS.istoreS Xl.here hexec rfl (hb hbytes d13) rfl rfl hz ?_
        exact Steps.refl _)
      have c6 : Steps p.tables e below (s₁.setTop (entryFrame m #[.ref b, .int (Int32.ofNat o), .ref d, .int (Int32.ofNat q), .int (Int32.ofNat len)] 7)) (Tl.setTop (mkF m 31 #[.val (.ref b), .val (.int (Int32.ofNat (o + i))), .val (.ref d), .val (.int (Int32.ofNat (q + i))), .val (.int (Int32.ofNat len)), .val (.int (Int32.ofNat i)), .val (.int (cv A (o + i)))] [.int (lo8 (cv A (o + i))), .int (Int32.ofNat (q + i)), .ref d])) := c5.trans (by
        refine XS.iload Xl.here hexec rfl (hb hbytes d15) rfl ?_
        refine sipushV Xl.here hexec rfl 255 (hb hbytes d17) (by decide) ?_
        refine XS.icmpYes Xl.here hexec rfl (pc0 := 20) rfl (hb hbytes d20) rfl (ii_le_t (hp i (by omega))) (by decide) rfl ?_
        refine XS.aloadN Xl.here hexec rfl (hb hbytes d26) rfl rfl ?_
        refine XS.iloadN Xl.here hexec rfl (hb hbytes d27) rfl ?_
        refine XS.iload Xl.here hexec rfl (hb hbytes d28) rfl ?_
        refine i2b Xl.here hexec rfl (hb hbytes d30) rfl ?_
        exact Steps.refl _)
      obtain ⟨T7, X7, p7, st7⟩ := Xl.aput hexec hBk rfl hlt rfl (fits_lo8 (cv A (o + i))) (g := (mkF m 31 #[.val (.ref b), .val (.int (Int32.ofNat (o + i))), .val (.ref d), .val (.int (Int32.ofNat (q + i))), .val (.int (Int32.ofNat len)), .val (.int (Int32.ofNat i)), .val (.int (cv A (o + i)))] [.int (lo8 (cv A (o + i))), .int (Int32.ofNat (q + i)), .ref d])) rfl (rest := []) rfl (hb hbytes d31)
      have c8 : Steps p.tables e below (s₁.setTop (entryFrame m #[.ref b, .int (Int32.ofNat o), .ref d, .int (Int32.ofNat q), .int (Int32.ofNat len)] 7)) (T7.setTop (mkF m 32 #[.val (.ref b), .val (.int (Int32.ofNat (o + i))), .val (.ref d), .val (.int (Int32.ofNat (q + i))), .val (.int (Int32.ofNat len)), .val (.int (Int32.ofNat i)), .val (.int (cv A (o + i)))] [])) := c6.trans (st7 _ (Steps.refl _))
      have c9 : Steps p.tables e below (s₁.setTop (entryFrame m #[.ref b, .int (Int32.ofNat o), .ref d, .int (Int32.ofNat q), .int (Int32.ofNat len)] 7)) (T7.setTop (mkF m 3 #[.val (.ref b), .val (.int (Int32.ofNat (o + i) + 1)), .val (.ref d), .val (.int (Int32.ofNat (q + i) + 1)), .val (.int (Int32.ofNat len)), .val (.int (Int32.ofNat i + 1)), .val (.int (cv A (o + i)))] [])) := c8.trans (by
        refine iincV X7.here hexec rfl 1 (hb hbytes d32) (by decide) rfl rfl ?_
        refine iincV X7.here hexec rfl 1 (hb hbytes d35) (by decide) rfl rfl ?_
        refine iincV X7.here hexec rfl 1 (hb hbytes d38) (by decide) rfl rfl ?_
        refine XS.goto X7.here hexec rfl (pc0 := 41) rfl (hb hbytes d41) (by decide) rfl ?_
        exact Steps.refl _)
      have c10 : Steps p.tables e below (s₁.setTop (entryFrame m #[.ref b, .int (Int32.ofNat o), .ref d, .int (Int32.ofNat q), .int (Int32.ofNat len)] 7)) (T7.setTop (mkF m 3 #[.val (.ref b), .val (.int (Int32.ofNat (o + (i + 1)))), .val (.ref d), .val (.int (Int32.ofNat (q + (i + 1)))), .val (.int (Int32.ofNat len)), .val (.int (Int32.ofNat (i + 1))), .val (.int (cv A (o + i)))] [])) := by
        have := c9
        rw [succ32, succ32, succ32] at this
        exact this
      exact ih (i + 1) (by omega) _ (Or.inr ⟨_, rfl, rfl⟩) T7 _ (by rw [copyLocs_step, ← List.append_assoc]; exact X7) (pl.trans p7) (fl.step (by omega) hlt (by simp)) c10
  obtain ⟨T9, B9, z9, X9, p9, f9, g9⟩ := loop len 0 (by omega) .unset (Or.inl rfl) s₁ B (by simpa [copyLocs] using X0) ⟨hB0.1, fun _ _ => rfl, rfl⟩ (Laid.zero _ _ _) c2
  have c11 : Steps p.tables e below (s₁.setTop (entryFrame m #[.ref b, .int (Int32.ofNat o), .ref d, .int (Int32.ofNat q), .int (Int32.ofNat len)] 7)) (T9.setTop (mkF m 46 #[.val (.ref b), .val (.int (Int32.ofNat (o + len))), .val (.ref d), .val (.int (Int32.ofNat (q + len))), .val (.int (Int32.ofNat len)), .val (.int (Int32.ofNat len)), z9] [.int (Int32.ofNat len)])) := g9.trans (by
    refine XS.iload X9.here hexec rfl (hb hbytes d3) rfl ?_
    refine XS.iload X9.here hexec rfl (hb hbytes d5) rfl ?_
    refine XS.icmpYes X9.here hexec rfl (pc0 := 7) rfl (hb hbytes d7) rfl (ii_ge_t (nlt32 (by omega) (Nat.le_refl _))) (by decide) rfl ?_
    refine XS.iload X9.here hexec rfl (hb hbytes d44) rfl ?_
    exact Steps.refl _)
  exact ⟨T9, some (.int (Int32.ofNat len)), _, _, _, X9, by simp, rfl, rfl, (fun h => by cases h), ⟨rfl, B9, p9.from hh0, f9⟩, fun fs hl => c11.trans (X9.ireturnOut hexec hret rfl (Or.inl rfl) (hb hbytes d46) hl)⟩
end Cmp5
namespace Cmp3
def yN : MethodName := ⟨"java/lang/StringUTF16", "compress", "([CII)[B"⟩
abbrev yB : ByteArray := jdk_52_method_16_code
theorem d0 : decode yB 0 = .ok (.iload_n 2, 1) := by decide +kernel
theorem d1 : decode yB 1 = .ok (.newarray .byte, 2) := by decide +kernel
theorem d3 : decode yB 3 = .ok (.astore_n 3, 1) := by decide +kernel
theorem d4 : decode yB 4 = .ok (.aload_n 0, 1) := by decide +kernel
theorem d5 : decode yB 5 = .ok (.iload_n 1, 1) := by decide +kernel
theorem d6 : decode yB 6 = .ok (.aload_n 3, 1) := by decide +kernel
theorem d7 : decode yB 7 = .ok (.iconst 0, 1) := by decide +kernel
theorem d8 : decode yB 8 = .ok (.iload_n 2, 1) := by decide +kernel
theorem d9 : decode yB 9 = .ok (.invokestatic 115, 3) := by decide +kernel
theorem d12 : decode yB 12 = .ok (.istore 4, 2) := by decide +kernel
theorem d14 : decode yB 14 = .ok (.iload 4, 2) := by decide +kernel
theorem d16 : decode yB 16 = .ok (.iload_n 2, 1) := by decide +kernel
theorem d17 : decode yB 17 = .ok (.if_icmp (.eq) 40, 3) := by decide +kernel
theorem d57 : decode yB 57 = .ok (.aload_n 3, 1) := by decide +kernel
theorem d58 : decode yB 58 = .ok (.areturn, 1) := by decide +kernel
def site : List Cond := [.arrayClass .byte, Cmp5.tab] ++ staticW U16 115 Cmp5.yN
def tab : Cond := tabOf yN yB 6 (some (.array .byte)) site
def P (b : Addr) (A : Cell) (o len : Nat) (args : Array Value) (s : State) : Prop := args = #[.ref b, .int (Int32.ofNat o), .int (Int32.ofNat len)] ∧ Ch b A s ∧ o + len ≤ A.slots.size ∧ len ≤ 536870912 ∧ ∀ i, i < len → ¬ 255 < cv A (o + i)
def E (b : Addr) (A : Cell) (o len : Nat) (r : Option Value) (s u : State) : Prop := NewArr .byte "[B" len (fun j => .int (lo8 (cv A (o + j)))) r s u ∧ u.heap.size = s.heap.size + 1
/-- no char of the range above 255: a new byte[] of their low bytes -/
theorem law (l : Launch) (b : Addr) (A : Cell) (o len : Nat) : Law l yN 3 3 1 18 yB 6 (some (.array .byte)) site (P b A o len) (E b A o len) [] 1 len := by
  refine Law.of_walk (plainFor_of_name (by decide +kernel)) (by decide +kernel) (by decide +kernel) (by decide) (fun _ _ h => by rw [h.1]; rfl) (fun _ U U' hal hh h => ⟨h.1, h.2.1.mv hal hh, h.2.2⟩) (fun r U U' V V' h1 hal h2 h => ⟨NewArr.mv r U U' V V' h1 hal h2 h.1, by rw [h1, h2]; exact h.2⟩) ?_
  intro p e s m args below meth c s₁ X0 hexec hbytes hml hret hlk hnm hown hh0 W hP
  obtain ⟨rfl, hA, l1, l2, hp⟩ := hP
  have a31 := hA.1.2.2.2
  have c1 : Steps p.tables e below (s₁.setTop (entryFrame m #[.ref b, .int (Int32.ofNat o), .int (Int32.ofNat len)] 6)) (s₁.setTop (mkF m 0 #[.val (.ref b), .val (.int (Int32.ofNat o)), .val (.int (Int32.ofNat len)), .unset, .unset, .unset] [])) := entry rfl
  have c2 : Steps p.tables e below (s₁.setTop (entryFrame m #[.ref b, .int (Int32.ofNat o), .int (Int32.ofNat len)] 6)) (s₁.setTop (mkF m 1 #[.val (.ref b), .val (.int (Int32.ofNat o)), .val (.int (Int32.ofNat len)), .unset, .unset, .unset] [.int (Int32.ofNat len)])) := c1.trans (by
    refine XS.iloadN X0.here hexec rfl (hb hbytes d0) rfl ?_
    exact Steps.refl _)
  obtain ⟨T3, B3, X3, ba3, bs3, bv3, bh3, bf3, st3⟩ := X0.anew hexec (atype := .byte) (wk W (.arrayClass .byte)) rfl (by show len * 1 ≤ _; omega) (by omega) (g := (mkF m 1 #[.val (.ref b), .val (.int (Int32.ofNat o)), .val (.int (Int32.ofNat len)), .unset, .unset, .unset] [.int (Int32.ofNat len)])) rfl (hb hbytes d1) (rest := []) rfl (Nat.le_refl _) (by show 0 + len ≤ len; omega)
  rw [hh0] at ba3 st3
  have kp3 : XT.Kept s T3 := (XT.Kept.of_eq hh0).push bh3
  have hA3 := hA.keep X3.warmed.alike (kp3 _ _ hA.1.1)
  have hne : b ≠ s.heap.size := hA.1.ne
  have c4 : Steps p.tables e below (s₁.setTop (entryFrame m #[.ref b, .int (Int32.ofNat o), .int (Int32.ofNat len)] 6)) (T3.setTop (mkF m 3 #[.val (.ref b), .val (.int (Int32.ofNat o)), .val (.int (Int32.ofNat len)), .unset, .unset, .unset] [.ref s.heap.size])) := c2.trans (st3 _ (Steps.refl _))
  have c5 : Steps p.tables e below (s₁.setTop (entryFrame m #[.ref b, .int (Int32.ofNat o), .int (Int32.ofNat len)] 6)) (T3.setTop (mkF m 9 #[.val (.ref b), .val (.int (Int32.ofNat o)), .val (.int (Int32.ofNat len)), .val (.ref s.heap.size), .unset, .unset] [.int (Int32.ofNat len), .int 0, .ref s.heap.size, .int (Int32.ofNat o), .ref b])) := c4.trans (by
    refine XS.astoreN X3.here hexec rfl (hb hbytes d3) rfl rfl rfl ?_
    refine XS.aloadN X3.here hexec rfl (hb hbytes d4) rfl rfl ?_
    refine XS.iloadN X3.here hexec rfl (hb hbytes d5) rfl ?_
    refine XS.aloadN X3.here hexec rfl (hb hbytes d6) rfl rfl ?_
    refine iconstV X3.here hexec rfl 0 (hb hbytes d7) (by decide) ?_
    refine XS.iloadN X3.here hexec rfl (hb hbytes d8) rfl ?_
    exact Steps.refl _)
  obtain ⟨v6, T6, X6, E6, g6⟩ := X3.callS hexec (Cmp5.law l b A s.heap.size B3 o 0 len) hown (wks W (staticW U16 115 Cmp5.yN)) (wk W Cmp5.tab) (W := 0) (Nat.le_of_ble_eq_true rfl) (Nat.le_of_ble_eq_true rfl) (Nat.le_refl _) (by show 0 + len + 0 ≤ len; omega) (g := (mkF m 9 #[.val (.ref b), .val (.int (Int32.ofNat o)), .val (.int (Int32.ofNat len)), .val (.ref s.heap.size), .unset, .unset] [.int (Int32.ofNat len), .int (Int32.ofNat 0), .ref s.heap.size, .int (Int32.ofNat o), .ref b])) rfl (by rw [hml]; rfl) c5 (argsL := [.ref b, .int (Int32.ofNat o), .ref s.heap.size, .int (Int32.ofNat 0), .int (Int32.ofNat len)]) (rest := []) rfl rfl (by show 2 * 0 + 0 ≤ _; decide) (hb hbytes d9) (⟨rfl, hA3, ba3, hne, l1, by rw [bs3]; simp, hp⟩)
  obtain ⟨rfl, B6, p6, f6⟩ := E6
  have c7 : Steps p.tables e below (s₁.setTop (entryFrame m #[.ref b, .int (Int32.ofNat o), .int (Int32.ofNat len)] 6)) (T6.setTop (mkF m 12 #[.val (.ref b), .val (.int (Int32.ofNat o)), .val (.int (Int32.ofNat len)), .val (.ref s.heap.size), .unset, .unset] [.int (Int32.ofNat len)])) := g6
  have c8 : Steps p.tables e below (s₁.setTop (entryFrame m #[.ref b, .int (Int32.ofNat o), .int (Int32.ofNat len)] 6)) (T6.setTop (mkF m 58 #[.val (.ref b), .val (.int (Int32.ofNat o)), .val (.int (Int32.ofNat len)), .val (.ref s.heap.size), .val (.int (Int32.ofNat len)), .unset] [.ref s.heap.size])) := c7.trans (by
    refine XS.istore X6.here hexec rfl (hb hbytes d12) rfl rfl ?_
    refine XS.iload X6.here hexec rfl (hb hbytes d14) rfl ?_
    refine XS.iloadN X6.here hexec rfl (hb hbytes d16) rfl ?_
    refine XS.icmpYes X6.here hexec rfl (pc0 := 17) rfl (hb hbytes d17) rfl (ii_eq_t rfl) (by decide) rfl ?_
    refine XS.aloadN X6.here hexec rfl (hb hbytes d57) rfl rfl ?_
    exact Steps.refl _)
  have X8 := X6.wide (L' := []) (cells' := 1) (slots' := len) (fun x hx hlt => by
    simp only [List.nil_append, copyLocs, List.mem_map, List.mem_range] at hx
    obtain ⟨i, -, rfl⟩ := hx
    exact absurd hlt (Nat.lt_irrefl _)) (Nat.le_refl _) (by omega)
  exact ⟨T6, some (.ref s.heap.size), _, _, _, X8, rfl, rfl, rfl, (fun h => by cases h), ⟨⟨rfl, B6, ba3.like (X3.warmed.alike.symm.trans X6.warmed.alike) p6.1 f6.1 f6.2.1 f6.2.2.1, f6.2.1.trans bv3, by rw [X6.warmed.alike.findClass, f6.1]; exact bf3, by rw [f6.2.2.1, bs3]; simp, fun j hj => by rw [f6.2.2.2 j, if_pos (by omega)]; rfl, kp3.put p6 (Nat.le_refl _)⟩, by rw [p6.2.2, bh3, hh0]; simp⟩, fun fs hl => c8.trans (X8.areturnOut hexec rfl hret rfl (hb hbytes d58) hl)⟩
end Cmp3
namespace CodL
def yN : MethodName := ⟨"java/lang/StringUTF16", "coderFromArrayLen", "([BI)B"⟩
abbrev yB : ByteArray := jdk_52_method_15_code
theorem d0 : decode yB 0 = .ok (.iload_n 1, 1) := by decide +kernel
theorem d1 : decode yB 1 = .ok (.aload_n 0, 1) := by decide +kernel
theorem d2 : decode yB 2 = .ok (.arraylength, 1) := by decide +kernel
theorem d3 : decode yB 3 = .ok (.isub, 1) := by decide +kernel
theorem d4 : decode yB 4 = .ok (.bipush 31, 2) := by decide +kernel
theorem d6 : decode yB 6 = .ok (.iushr, 1) := by decide +kernel
theorem d7 : decode yB 7 = .ok (.i2b, 1) := by decide +kernel
theorem d8 : decode yB 8 = .ok (.ireturn, 1) := by decide +kernel
def site : List Cond := []
def tab : Cond := tabOf yN yB 2 (some .byte) site
def P (d : Addr) (B : Cell) (args : Array Value) (s : State) : Prop := args = #[.ref d, .int (Int32.ofNat B.slots.size)] ∧ Arr .byte d B s
def E (r : Option Value) (s u : State) : Prop := XT.PureE (some (.int 0)) r s u
/-- an array as long as the number of chars: LATIN1 -/
theorem law (l : Launch) (d : Addr) (B : Cell) : Law l yN 2 2 0 0 yB 2 (some .byte) site (P d B) E [] 0 0 := by
  refine Law.of_walk (plainFor_of_name (by decide +kernel)) (by decide +kernel) (by decide +kernel) (by decide) (fun _ _ h => by rw [h.1]; rfl) (fun _ U U' hal hh h => ⟨h.1, h.2.mv hal hh⟩) (fun r U U' V V' h1 hal h2 h => XT.PureE.mv r U U' V V' h1 hal h2 h) ?_
  intro p e s m args below meth c s₁ X0 hexec hbytes hml hret hlk hnm hown hh0 W hP
  obtain ⟨rfl, hB⟩ := hP
  have hB0 := hB.mv X0.warmed.alike hh0
  have c1 : Steps p.tables e below (s₁.setTop (entryFrame m #[.ref d, .int (Int32.ofNat B.slots.size)] 2)) (s₁.setTop (mkF m 0 #[.val (.ref d), .val (.int (Int32.ofNat B.slots.size))] [])) := entry rfl
  have c2 : Steps p.tables e below (s₁.setTop (entryFrame m #[.ref d, .int (Int32.ofNat B.slots.size)] 2)) (s₁.setTop (mkF m 2 #[.val (.ref d), .val (.int (Int32.ofNat B.slots.size))] [.ref d, .int (Int32.ofNat B.slots.size)])) := c1.trans (by
    refine XS.iloadN X0.here hexec rfl (hb hbytes d0) rfl ?_
    refine XS.aloadN X0.here hexec rfl (hb hbytes d1) rfl rfl ?_
    exact Steps.refl _)
  have c3 : Steps p.tables e below (s₁.setTop (entryFrame m #[.ref d, .int (Int32.ofNat B.slots.size)] 2)) (s₁.setTop (mkF m 8 #[.val (.ref d), .val (.int (Int32.ofNat B.slots.size))] [.int (lo8 (ushr (Int32.ofNat B.slots.size - Int32.ofNat B.slots.size) 31))])) := c2.trans (by
    refine X0.alen hexec hB0 rfl rfl (hb hbytes d2) ?_
    refine XS.isub X0.here hexec rfl (hb hbytes d3) rfl ?_
    refine bipushV X0.here hexec rfl 31 (hb hbytes d4) (by decide) ?_
    refine iushr X0.here hexec rfl (hb hbytes d6) rfl ?_
    refine i2b X0.here hexec rfl (hb hbytes d7) rfl ?_
    exact Steps.refl _)
  have e0 : lo8 (ushr (Int32.ofNat B.slots.size - Int32.ofNat B.slots.size) 31) = 0 := by rw [Int32.sub_self]; decide
  rw [e0] at c3
  exact ⟨s₁, some (.int 0), _, _, _, X0, rfl, rfl, rfl, (fun h => by cases h), ⟨rfl, hh0⟩, fun fs hl => c3.trans (X0.ireturnOut hexec hret rfl (Or.inr (Or.inr (Or.inl rfl))) (hb hbytes d8) hl)⟩
end CodL
/-- the String at a is Latin-1 over a new byte[] (the heap's one new cell): the low bytes of the len chars of A from o on; every cell but a is kept -/
def Got (a : Addr) (D : Cell) (fV fC : Field) (A : Cell) (o len : Nat) (r : Option Value) (s u : State) : Prop := r = none ∧ ∃ D' V : Cell, Blank "java/lang/String" a D' u ∧ Same D D' [fV.slot, fC.slot] ∧ D'.slots[fV.slot]? = some (.ref s.heap.size) ∧ D'.slots[fC.slot]? = some (.int 0) ∧ Arr .byte s.heap.size V u ∧ V.vm = .none ∧ u.vm.findClass "[B" = some V.cls ∧ V.slots.size = len ∧ (∀ j, j < len → V.slots[j]? = some (.int (lo8 (cv A (o + j))))) ∧ (∀ (y : Addr) (c : Cell), y ≠ a → s.heap[y]? = some c → u.heap[y]? = some c) ∧ u.heap.size = s.heap.size + 1
theorem Got.mv {a : Addr} {D A : Cell} {fV fC : Field} {o len : Nat} : ∀ r (U U' V V' : State), U'.heap = U.heap → V.vm.Alike V'.vm → V'.heap = V.heap → Got a D fV fC A o len r U V → Got a D fV fC A o len r U' V' :=
  fun r U U' V V' h1 hal h2 ⟨e0, D', X, a1, a2, a3, a4, a5, a6, a7, a8, a9, a10, a11⟩ => ⟨e0, D', X, a1.mv hal h2, a2, by rw [h1]; exact a3, a4, by rw [h1]; exact a5.mv hal h2, a6, by rw [hal.findClass]; exact a7, a8, a9, by rw [h1, h2]; exact a10, by rw [h1, h2]; exact a11⟩
namespace New4
def yN : MethodName := ⟨"java/lang/String", "<init>", "([CIILjava/lang/Void;)V"⟩
abbrev yB : ByteArray := jdk_42_method_149_code
theorem d0 : decode yB 0 = .ok (.aload_n 0, 1) := by decide +kernel
theorem d1 : decode yB 1 = .ok (.invokespecial 1, 3) := by decide +kernel
theorem d4 : decode yB 4 = .ok (.iload_n 3, 1) := by decide +kernel
theorem d5 : decode yB 5 = .ok (.ifCond (.ne) 22, 3) := by decide +kernel
theorem d27 : decode yB 27 = .ok (.getstatic 38, 3) := by decide +kernel
theorem d30 : decode yB 30 = .ok (.ifCond (.eq) 28, 3) := by decide +kernel
theorem d33 : decode yB 33 = .ok (.aload_n 1, 1) := by decide +kernel
theorem d34 : decode yB 34 = .ok (.iload_n 2, 1) := by decide +kernel
theorem d35 : decode yB 35 = .ok (.iload_n 3, 1) := by decide +kernel
theorem d36 : decode yB 36 = .ok (.invokestatic 177, 3) := by decide +kernel
theorem d39 : decode yB 39 = .ok (.astore 5, 2) := by decide +kernel
theorem d41 : decode yB 41 = .ok (.aload_n 0, 1) := by decide +kernel
theorem d42 : decode yB 42 = .ok (.aload 5, 2) := by decide +kernel
theorem d44 : decode yB 44 = .ok (.iload_n 3, 1) := by decide +kernel
theorem d45 : decode yB 45 = .ok (.invokestatic 47, 3) := by decide +kernel
theorem d48 : decode yB 48 = .ok (.putfield 15, 3) := by decide +kernel
theorem d51 : decode yB 51 = .ok (.aload_n 0, 1) := by decide +kernel
theorem d52 : decode yB 52 = .ok (.aload 5, 2) := by decide +kernel
theorem d54 : decode yB 54 = .ok (.putfield 9, 3) := by decide +kernel
theorem d57 : decode yB 57 = .ok (.return_, 1) := by decide +kernel
def site : List Cond := [.fieldLink "java/lang/String" 38 "java/lang/String" "COMPACT_STRINGS" "Z", Cmp3.tab, CodL.tab, .laysFinal "java/lang/String" "java/lang/String" "value" "[B", .fieldLink "java/lang/String" 9 "java/lang/String" "value" "[B", .laysFinal "java/lang/String" "java/lang/String" "coder" "B", .fieldLink "java/lang/String" 15 "java/lang/String" "coder" "B"] ++ objW "java/lang/String" 1 ++ staticW "java/lang/String" 177 Cmp3.yN ++ staticW "java/lang/String" 47 CodL.yN
def tab : Cond := tabOf yN yB 6 none site
def P (a : Addr) (D : Cell) (fV fC : Field) (b : Addr) (A : Cell) (z : Int32) (o len : Nat) (args : Array Value) (s : State) : Prop := args = #[.ref a, .ref b, .int (Int32.ofNat o), .int (Int32.ofNat len), .null] ∧ Blank "java/lang/String" a D s ∧ Found "java/lang/String" "value" "[B" fV s ∧ Found "java/lang/String" "coder" "B" fC s ∧ Ch b A s ∧ StaticIs s "java/lang/String" "COMPACT_STRINGS" "Z" (.int z) ∧ ¬ z = 0 ∧ 0 < len ∧ o + len ≤ A.slots.size ∧ len ≤ 536870912 ∧ ∀ i, i < len → ¬ 255 < cv A (o + i)
def E (a : Addr) (D : Cell) (fV fC : Field) (A : Cell) (o len : Nat) (r : Option Value) (s u : State) : Prop := Got a D fV fC A o len r s u
/-- len > 0, no char of the range above 255: a Latin-1 String of their low bytes -/
theorem law (l : Launch) (a : Addr) (D : Cell) (fV fC : Field) (b : Addr) (A : Cell) (z : Int32) (o len : Nat) : Law l yN 5 4 2 35 yB 6 none site (P a D fV fC b A z o len) (E a D fV fC A o len) [⟨a, fC.slot⟩, ⟨a, fV.slot⟩] 1 len := by
  refine Law.of_walk (plainFor_of_name (by decide +kernel)) (by decide +kernel) (by decide +kernel) (by decide) (fun _ _ h => by rw [h.1]; rfl) (fun _ U U' hal hh h => ⟨h.1, h.2.1.mv hal hh, h.2.2.1.al hal, h.2.2.2.1.al hal, h.2.2.2.2.1.mv hal hh, h.2.2.2.2.2.1.there hal hh, h.2.2.2.2.2.2⟩) (fun r U U' V V' h1 hal h2 h => Got.mv r U U' V V' h1 hal h2 h) ?_
  intro p e s m args below meth c s₁ X0 hexec hbytes hml hret hlk hnm hown hh0 W hP
  obtain ⟨rfl, hB, f1, f2, hA, s1, hz, l0, l1, l2, hp⟩ := hP
  have a31 := hA.1.2.2.2
  have c1 : Steps p.tables e below (s₁.setTop (entryFrame m #[.ref a, .ref b, .int (Int32.ofNat o), .int (Int32.ofNat len), .null] 6)) (s₁.setTop (mkF m 0 #[.val (.ref a), .val (.ref b), .val (.int (Int32.ofNat o)), .val (.int (Int32.ofNat len)), .val .null, .unset] [])) := entry rfl
  have c2 : Steps p.tables e below (s₁.setTop (entryFrame m #[.ref a, .ref b, .int (Int32.ofNat o), .int (Int32.ofNat len), .null] 6)) (s₁.setTop (mkF m 1 #[.val (.ref a), .val (.ref b), .val (.int (Int32.ofNat o)), .val (.int (Int32.ofNat len)), .val .null, .unset] [.ref a])) := c1.trans (by
    refine XS.aloadN X0.here hexec rfl (hb hbytes d0) rfl rfl ?_
    exact Steps.refl _)
  obtain ⟨T3, X3, q3, st3⟩ := X0.oinit hexec hown (wks W (objW "java/lang/String" 1)) (g := (mkF m 1 #[.val (.ref a), .val (.ref b), .val (.int (Int32.ofNat o)), .val (.int (Int32.ofNat len)), .val .null, .unset] [.ref a])) rfl (by rw [hml]; rfl) (rest := []) rfl (hb hbytes d1) (W := 0) (by show 2 * 0 + 0 ≤ _; decide) (Nat.le_of_ble_eq_true rfl) (Nat.le_of_ble_eq_true rfl)
  have hh3 := q3.trans hh0
  have c4 : Steps p.tables e below (s₁.setTop (entryFrame m #[.ref a, .ref b, .int (Int32.ofNat o), .int (Int32.ofNat len), .null] 6)) (T3.setTop (mkF m 27 #[.val (.ref a), .val (.ref b), .val (.int (Int32.ofNat o)), .val (.int (Int32.ofNat len)), .val .null, .unset] [])) := (c2.trans (st3 _ (Steps.refl _))).trans (by
    refine XS.iloadN X3.here hexec rfl (hb hbytes d4) rfl ?_
    refine XS.ifYes X3.here hexec rfl (pc0 := 5) rfl (hb hbytes d5) rfl (i0_ne_t (nz32 (by omega) l0)) (by decide) rfl ?_
    exact Steps.refl _)
  obtain ⟨T5, X5, q5, st5⟩ := X3.sget hexec hown (wk W (.fieldLink "java/lang/String" 38 "java/lang/String" "COMPACT_STRINGS" "Z")) s1 (fun _ _ h => by rw [hh3]; exact h) (g := (mkF m 27 #[.val (.ref a), .val (.ref b), .val (.int (Int32.ofNat o)), .val (.int (Int32.ofNat len)), .val .null, .unset] [])) rfl (hb hbytes d27)
  have hh5 := q5.trans hh3
  have c6 : Steps p.tables e below (s₁.setTop (entryFrame m #[.ref a, .ref b, .int (Int32.ofNat o), .int (Int32.ofNat len), .null] 6)) (T5.setTop (mkF m 30 #[.val (.ref a), .val (.ref b), .val (.int (Int32.ofNat o)), .val (.int (Int32.ofNat len)), .val .null, .unset] [.int z])) := c4.trans (st5 _ (Steps.refl _))
  have c7 : Steps p.tables e below (s₁.setTop (entryFrame m #[.ref a, .ref b, .int (Int32.ofNat o), .int (Int32.ofNat len), .null] 6)) (T5.setTop (mkF m 36 #[.val (.ref a), .val (.ref b), .val (.int (Int32.ofNat o)), .val (.int (Int32.ofNat len)), .val .null, .unset] [.int (Int32.ofNat len), .int (Int32.ofNat o), .ref b])) := c6.trans (by
    refine XS.ifNo X5.here hexec rfl (hb hbytes d30) rfl (i0_eq_f hz) ?_
    refine XS.aloadN X5.here hexec rfl (hb hbytes d33) rfl rfl ?_
    refine XS.iloadN X5.here hexec rfl (hb hbytes d34) rfl ?_
    refine XS.iloadN X5.here hexec rfl (hb hbytes d35) rfl ?_
    exact Steps.refl _)
  obtain ⟨v8, T8, X8, E8, g8⟩ := X5.callS hexec (Cmp3.law l b A o len) hown (wks W (staticW "java/lang/String" 177 Cmp3.yN)) (wk W Cmp3.tab) (W := 0) (Nat.le_of_ble_eq_true rfl) (Nat.le_of_ble_eq_true rfl) (Nat.le_refl _) (by show 0 + len ≤ len; omega) (g := (mkF m 36 #[.val (.ref a), .val (.ref b), .val (.int (Int32.ofNat o)), .val (.int (Int32.ofNat len)), .val .null, .unset] [.int (Int32.ofNat len), .int (Int32.ofNat o), .ref b])) rfl (by rw [hml]; rfl) c7 (argsL := [.ref b, .int (Int32.ofNat o), .int (Int32.ofNat len)]) (rest := []) rfl rfl (by show 2 * 0 + 0 ≤ _; decide) (hb hbytes d36) (⟨rfl, hA.mv X5.warmed.alike hh5, l1, l2, hp⟩)
  obtain ⟨e8, z8⟩ := E8
  obtain ⟨rfl, N, n1, n2, n3, n4, n5, n6⟩ := NewArr.mv _ T5 s _ _ hh5.symm (Vm.Alike.refl _) rfl e8
  rw [hh5] at z8
  have hB1 := hB.keep X8.warmed.alike (n6 _ _ hB.1)
  have hne : s.heap.size ≠ a := (Nat.ne_of_lt (Array.getElem?_eq_some_iff.mp hB.1).1).symm
  have c9 : Steps p.tables e below (s₁.setTop (entryFrame m #[.ref a, .ref b, .int (Int32.ofNat o), .int (Int32.ofNat len), .null] 6)) (T8.setTop (mkF m 39 #[.val (.ref a), .val (.ref b), .val (.int (Int32.ofNat o)), .val (.int (Int32.ofNat len)), .val .null, .unset] [.ref s.heap.size])) := g8
  have c10 : Steps p.tables e below (s₁.setTop (entryFrame m #[.ref a, .ref b, .int (Int32.ofNat o), .int (Int32.ofNat len), .null] 6)) (T8.setTop (mkF m 45 #[.val (.ref a), .val (.ref b), .val (.int (Int32.ofNat o)), .val (.int (Int32.ofNat len)), .val .null, .val (.ref s.heap.size)] [.int (Int32.ofNat N.slots.size), .ref s.heap.size, .ref a])) := by
    have hc : Steps p.tables e below (s₁.setTop (entryFrame m #[.ref a, .ref b, .int (Int32.ofNat o), .int (Int32.ofNat len), .null] 6)) (T8.setTop (mkF m 45 #[.val (.ref a), .val (.ref b), .val (.int (Int32.ofNat o)), .val (.int (Int32.ofNat len)), .val .null, .val (.ref s.heap.size)] [.int (Int32.ofNat len), .ref s.heap.size, .ref a])) := c9.trans (by
      refine XS.astore X8.here hexec rfl (hb hbytes d39) rfl rfl rfl ?_
      refine XS.aloadN X8.here hexec rfl (hb hbytes d41) rfl rfl ?_
      refine XS.aload X8.here hexec rfl (hb hbytes d42) rfl rfl ?_
      refine XS.iloadN X8.here hexec rfl (hb hbytes d44) rfl ?_
      exact Steps.refl _)
    rw [n4]; exact hc
  obtain ⟨v11, T11, X11, E11, g11⟩ := X8.callS hexec (CodL.law l s.heap.size N) hown (wks W (staticW "java/lang/String" 47 CodL.yN)) (wk W CodL.tab) (W := 1) (Nat.le_of_ble_eq_true rfl) (Nat.le_of_ble_eq_true rfl) (Nat.le_refl _) (by show 0 + len + 0 ≤ len; omega) (g := (mkF m 45 #[.val (.ref a), .val (.ref b), .val (.int (Int32.ofNat o)), .val (.int (Int32.ofNat len)), .val .null, .val (.ref s.heap.size)] [.int (Int32.ofNat N.slots.size), .ref s.heap.size, .ref a])) rfl (by rw [hml]; rfl) c10 (argsL := [.ref s.heap.size, .int (Int32.ofNat N.slots.size)]) (rest := [.ref a]) rfl rfl (by show 2 * 0 + (1 + 0) ≤ _; decide) (hb hbytes d45) (⟨rfl, n1⟩)
  obtain ⟨rfl, q11⟩ := E11
  have hB11 := hB1.mv (X8.warmed.alike.symm.trans X11.warmed.alike) q11
  have c12 : Steps p.tables e below (s₁.setTop (entryFrame m #[.ref a, .ref b, .int (Int32.ofNat o), .int (Int32.ofNat len), .null] 6)) (T11.setTop (mkF m 48 #[.val (.ref a), .val (.ref b), .val (.int (Int32.ofNat o)), .val (.int (Int32.ofNat len)), .val .null, .val (.ref s.heap.size)] [.int 0, .ref a])) := g11
  obtain ⟨T13, X13, p13, bl13, sl13, st13⟩ := X11.finit hexec hown (wk W (.fieldLink "java/lang/String" 15 "java/lang/String" "coder" "B")) (Or.inr ⟨_, (wk W (.laysFinal "java/lang/String" "java/lang/String" "coder" "B"))⟩) (Or.inl ⟨rfl, hnm⟩) f2 (Or.inl rfl) hB11 (t := .byte) (by decide +kernel) rfl (g := (mkF m 48 #[.val (.ref a), .val (.ref b), .val (.int (Int32.ofNat o)), .val (.int (Int32.ofNat len)), .val .null, .val (.ref s.heap.size)] [.int 0, .ref a])) rfl (rest := []) rfl (hb hbytes d48)
  have c14 : Steps p.tables e below (s₁.setTop (entryFrame m #[.ref a, .ref b, .int (Int32.ofNat o), .int (Int32.ofNat len), .null] 6)) (T13.setTop (mkF m 54 #[.val (.ref a), .val (.ref b), .val (.int (Int32.ofNat o)), .val (.int (Int32.ofNat len)), .val .null, .val (.ref s.heap.size)] [.ref s.heap.size, .ref a])) := (c12.trans (st13 _ (Steps.refl _))).trans (by
    refine XS.aloadN X13.here hexec rfl (hb hbytes d51) rfl rfl ?_
    refine XS.aload X13.here hexec rfl (hb hbytes d52) rfl rfl ?_
    exact Steps.refl _)
  obtain ⟨T15, X15, p15, bl15, sl15, st15⟩ := X13.finit hexec hown (wk W (.fieldLink "java/lang/String" 9 "java/lang/String" "value" "[B")) (Or.inr ⟨_, (wk W (.laysFinal "java/lang/String" "java/lang/String" "value" "[B"))⟩) (Or.inl ⟨rfl, hnm⟩) f1 (Or.inl rfl) bl13 (t := (.array .byte)) (by decide +kernel) rfl (g := (mkF m 54 #[.val (.ref a), .val (.ref b), .val (.int (Int32.ofNat o)), .val (.int (Int32.ofNat len)), .val .null, .val (.ref s.heap.size)] [.ref s.heap.size, .ref a])) rfl (rest := []) rfl (hb hbytes d54)
  have c16 : Steps p.tables e below (s₁.setTop (entryFrame m #[.ref a, .ref b, .int (Int32.ofNat o), .int (Int32.ofNat len), .null] 6)) (T15.setTop (mkF m 57 #[.val (.ref a), .val (.ref b), .val (.int (Int32.ofNat o)), .val (.int (Int32.ofNat len)), .val .null, .val (.ref s.heap.size)] [])) := c14.trans (st15 _ (Steps.refl _))
  have ap := apart (Or.inr ⟨_, (wk W (.laysFinal "java/lang/String" "java/lang/String" "value" "[B"))⟩) (Or.inr ⟨_, (wk W (.laysFinal "java/lang/String" "java/lang/String" "coder" "B"))⟩) f1 f2 (t₁ := .array .byte) (t₂ := .byte) (by decide +kernel) (by decide +kernel) (by decide)
  have al := X8.warmed.alike.symm.trans X15.warmed.alike
  have n7 : T11.heap[s.heap.size]? = some N := by rw [q11]; exact n1.1
  exact ⟨T15, none, _, _, _, X15, by simp, rfl, by omega, (fun _ => rfl), ⟨rfl, _, N, bl15, ((Same.refl D _).set _ (by simp)).set _ (by simp), sl15, (Cell.slots_setSlot_ne _ ap).trans sl13, n1.keep al (p15.other hne (p13.other hne n7)), n2, by rw [al.findClass]; exact n3, n4, n5, fun y c h1 h2 => p15.other h1 (p13.other h1 (by rw [q11]; exact n6 y c h2)), by rw [p15.2.2, p13.2.2, q11]; exact z8⟩, fun fs hl => c16.trans (X15.returnOut hexec hret (hb hbytes d57) hl)⟩
end New4
namespace New1
def yN : MethodName := ⟨"java/lang/String", "<init>", "([C)V"⟩
abbrev yB : ByteArray := jdk_42_method_3_code
theorem d0 : decode yB 0 = .ok (.aload_n 0, 1) := by decide +kernel
theorem d1 : decode yB 1 = .ok (.aload_n 1, 1) := by decide +kernel
theorem d2 : decode yB 2 = .ok (.iconst 0, 1) := by decide +kernel
theorem d3 : decode yB 3 = .ok (.aload_n 1, 1) := by decide +kernel
theorem d4 : decode yB 4 = .ok (.arraylength, 1) := by decide +kernel
theorem d5 : decode yB 5 = .ok (.aconst_null, 1) := by decide +kernel
theorem d6 : decode yB 6 = .ok (.invokespecial 27, 3) := by decide +kernel
theorem d9 : decode yB 9 = .ok (.return_, 1) := by decide +kernel
def site : List Cond := [New4.tab] ++ initW "java/lang/String" 27 New4.yN
def tab : Cond := tabOf yN yB 2 none site
def P (a : Addr) (D : Cell) (fV fC : Field) (b : Addr) (A : Cell) (z : Int32) (args : Array Value) (s : State) : Prop := args = #[.ref a, .ref b] ∧ Blank "java/lang/String" a D s ∧ Found "java/lang/String" "value" "[B" fV s ∧ Found "java/lang/String" "coder" "B" fC s ∧ Ch b A s ∧ StaticIs s "java/lang/String" "COMPACT_STRINGS" "Z" (.int z) ∧ ¬ z = 0 ∧ 0 < A.slots.size ∧ A.slots.size ≤ 536870912 ∧ ∀ i, i < A.slots.size → ¬ 255 < cv A i
def E (a : Addr) (D : Cell) (fV fC : Field) (A : Cell) (r : Option Value) (s u : State) : Prop := Got a D fV fC A 0 A.slots.size r s u
/-- new String(chars), not empty, no char above 255: a Latin-1 String of their low bytes -/
theorem law (l : Launch) (a : Addr) (D : Cell) (fV fC : Field) (b : Addr) (A : Cell) (z : Int32) : Law l yN 2 1 3 52 yB 2 none site (P a D fV fC b A z) (E a D fV fC A) [⟨a, fC.slot⟩, ⟨a, fV.slot⟩] 1 A.slots.size := by
  refine Law.of_walk (plainFor_of_name (by decide +kernel)) (by decide +kernel) (by decide +kernel) (by decide) (fun _ _ h => by rw [h.1]; rfl) (fun _ U U' hal hh h => ⟨h.1, h.2.1.mv hal hh, h.2.2.1.al hal, h.2.2.2.1.al hal, h.2.2.2.2.1.mv hal hh, h.2.2.2.2.2.1.there hal hh, h.2.2.2.2.2.2⟩) (fun r U U' V V' h1 hal h2 h => Got.mv r U U' V V' h1 hal h2 h) ?_
  intro p e s m args below meth c s₁ X0 hexec hbytes hml hret hlk hnm hown hh0 W hP
  obtain ⟨rfl, hB, f1, f2, hA, s1, hz, l0, l2, hp⟩ := hP
  have c1 : Steps p.tables e below (s₁.setTop (entryFrame m #[.ref a, .ref b] 2)) (s₁.setTop (mkF m 0 #[.val (.ref a), .val (.ref b)] [])) := entry rfl
  have c2 : Steps p.tables e below (s₁.setTop (entryFrame m #[.ref a, .ref b] 2)) (s₁.setTop (mkF m 6 #[.val (.ref a), .val (.ref b)] [.null, .int (Int32.ofNat A.slots.size), .int 0, .ref b, .ref a])) := c1.trans (by
    refine XS.aloadN X0.here hexec rfl (hb hbytes d0) rfl rfl ?_
    refine XS.aloadN X0.here hexec rfl (hb hbytes d1) rfl rfl ?_
    refine iconstV X0.here hexec rfl 0 (hb hbytes d2) (by decide) ?_
    refine XS.aloadN X0.here hexec rfl (hb hbytes d3) rfl rfl ?_
    refine X0.alen hexec (hA.1.mv X0.warmed.alike hh0) rfl rfl (hb hbytes d4) ?_
    refine XS.aconstNull X0.here hexec rfl (hb hbytes d5) ?_
    exact Steps.refl _)
  obtain ⟨v3, T3, X3, E3, g3⟩ := X0.callN hexec (New4.law l a D fV fC b A z 0 A.slots.size) rfl hown (wks W (initW "java/lang/String" 27 New4.yN)) (W New4.tab (by simp only [site, List.mem_cons, List.mem_append, true_or, or_true])) (W := 0) (Nat.le_of_ble_eq_true rfl) (Nat.le_of_ble_eq_true rfl) (Nat.le_refl _) (by show 0 + A.slots.size ≤ A.slots.size; omega) (g := (mkF m 6 #[.val (.ref a), .val (.ref b)] [.null, .int (Int32.ofNat A.slots.size), .int (Int32.ofNat 0), .ref b, .ref a])) rfl (by rw [hml]; rfl) c2 (argsL := [.ref b, .int (Int32.ofNat 0), .int (Int32.ofNat A.slots.size), .null]) (rest := []) rfl rfl (by show 2 * 0 + 0 ≤ _; decide) (hb hbytes d6) (⟨rfl, hB.mv X0.warmed.alike hh0, f1.al X0.warmed.alike, f2.al X0.warmed.alike, hA.mv X0.warmed.alike hh0, s1.there X0.warmed.alike hh0, hz, l0, by omega, l2, fun i hi => by rw [Nat.zero_add]; exact hp i hi⟩)
  have e0 := Got.mv _ s₁ s _ _ hh0.symm (Vm.Alike.refl _) rfl E3
  obtain rfl := e0.1
  have c4 : Steps p.tables e below (s₁.setTop (entryFrame m #[.ref a, .ref b] 2)) (T3.setTop (mkF m 9 #[.val (.ref a), .val (.ref b)] [])) := g3
  exact ⟨T3, none, _, _, _, X3, by simp, rfl, by omega, (fun _ => rfl), e0, fun fs hl => c4.trans (X3.returnOut hexec hret (hb hbytes d9) hl)⟩
theorem pays {l : Launch} {R : Room} {p : Program} {e : Env} {below : List Frame} {s : State} {sargs : Array Value} {len W : Nat} (a : Addr) (D : Cell) (fV fC : Field) (b : Addr) (A : Cell) (z : Int32) (htab : tab.before sargs s = true) (hfr : 4 ≤ R.frames) (hlo : W + 65 ≤ R.locals) :
    Back l R p e below s sargs yN len W (fun A₁ a₁ => A₁.cells + 1 ≤ R.cells ∧ A₁.slots + A.slots.size ≤ R.slots ∧ P a D fV fC b A z a₁ A₁.U) (fun A₁ _ v₁ B₁ => E a D fV fC A v₁ A₁.U B₁.U ∧ B₁.locs = A₁.locs ++ [⟨a, fC.slot⟩, ⟨a, fV.slot⟩] ∧ B₁.cells = A₁.cells + 1 ∧ B₁.slots = A₁.slots + A.slots.size) :=
  (law l a D fV fC b A z).pays htab hfr (by omega)
end New1
/-- the byte, read back as charAt reads it, is the char -/
theorem lo8_mask {x : Int32} (h0 : ¬ x < 0) (h1 : ¬ 255 < x) : lo8 x &&& 255 = x := by
  have t : ∀ k : Fin 256, lo8 (Int32.ofNat k.val) &&& 255 = Int32.ofNat k.val := by decide +kernel
  rw [Int32.lt_iff_toInt_lt] at h0 h1
  have e0 : (0 : Int32).toInt = 0 := rfl
  have e1 : (255 : Int32).toInt = 255 := rfl
  obtain ⟨k, hk⟩ : ∃ k : Nat, x.toInt = k := ⟨x.toInt.toNat, by omega⟩
  have hx : x = Int32.ofNat k := Int32.toInt_inj.mp (by rw [hk, Int32.toInt_ofNat_small (by omega)])
  rw [hx]
  exact t ⟨k, by omega⟩
end StrChars
namespace StrChars.Road
open Jvm Sem ClassFile Op Lib Jvm.Stand Jvm.Free Jvm.Free.XT
open Jvm.Lib.Cold (StaticIs)
abbrev ST : String := "java/lang/String"
/-- every table word that New1's law asks, flat -/
abbrev words : List Jvm.Cond := [.code New1.yN New1.yB 2 none, .initialized ST, .methodLink ST 27 New4.yN, .instanceMethod New4.yN,
  .code New4.yN New4.yB 6 none, .fieldLink ST 38 ST "COMPACT_STRINGS" "Z", .laysFinal ST ST "value" "[B", .fieldLink ST 9 ST "value" "[B", .laysFinal ST ST "coder" "B", .fieldLink ST 15 ST "coder" "B",
  .methodLink ST 1 Lib.objectInit, .instanceMethod Lib.objectInit, .code Lib.objectInit ⟨#[0xb1]⟩ 1 none, .methodLink ST 177 Cmp3.yN, .static Cmp3.yN, .methodLink ST 47 CodL.yN, .static CodL.yN,
  .code Cmp3.yN Cmp3.yB 6 (some (.array .byte)), .initialized U16, .arrayClass .byte, .methodLink U16 115 Cmp5.yN, .static Cmp5.yN, .code Cmp5.yN Cmp5.yB 7 (some .int), .code CodL.yN CodL.yB 2 (some .byte)]
theorem tab_of {a : Array Value} {s : State} (h : ∀ w ∈ words, w.before a s = true) : New1.tab.before a s = true := by
  have h5 : Cmp5.tab.before a s = true := unparts (wk h (.code Cmp5.yN Cmp5.yB 7 (some .int))) (wks h (.initialized Cmp5.yN.cls :: Cmp5.site))
  have hc : CodL.tab.before a s = true := unparts (wk h (.code CodL.yN CodL.yB 2 (some .byte))) (wks h (.initialized CodL.yN.cls :: CodL.site))
  have q5 : ∀ w ∈ Cmp5.tab :: words, w.before a s = true := fun w hw => (List.mem_cons.mp hw).elim (fun e => e ▸ h5) (h w)
  have h3 : Cmp3.tab.before a s = true := unparts (wk q5 (.code Cmp3.yN Cmp3.yB 6 (some (.array .byte)))) (wks q5 (.initialized Cmp3.yN.cls :: Cmp3.site))
  have q3 : ∀ w ∈ Cmp3.tab :: CodL.tab :: words, w.before a s = true := fun w hw => (List.mem_cons.mp hw).elim (fun e => e ▸ h3) fun hw => (List.mem_cons.mp hw).elim (fun e => e ▸ hc) (h w)
  have h4 : New4.tab.before a s = true := unparts (wk q3 (.code New4.yN New4.yB 6 none)) (wks q3 (.initialized New4.yN.cls :: New4.site))
  have q4 : ∀ w ∈ New4.tab :: words, w.before a s = true := fun w hw => (List.mem_cons.mp hw).elim (fun e => e ▸ h4) (h w)
  exact unparts (wk q4 (.code New1.yN New1.yB 2 none)) (wks q4 (.initialized New1.yN.cls :: New1.site))
/-- the words ride from the start Z to the walk's own state -/
theorem moved {Z s : State} {a0 args : Array Value} (hZ : Z.Warmed39 s.vm) (hw : ∀ d ∈ words, d.before a0 Z = true) : ∀ d ∈ words, d.before args s = true := fun d hd => by
  have q := hw d hd
  have t : ∀ d ∈ words, d = .arrayClass .byte ∨ (d.onTables && d.keepsFace) = true := by decide +kernel
  rcases t d hd with rfl | t
  · exact RoadKit.mvA hZ q
  · exact RoadKit.mv hZ q t
/-- WHAT COMES BACK, over the tables of the start Z: h the heap at the call, h' behind it -/
def Q (Z : State) (x : Addr) (A : Cell) (h : Heap) (v : Option Value) (h' : Heap) (L : List Loc) : Prop := v = none ∧ (∀ y ∈ L, y.base = x) ∧ RoadKit.Keep h h' [x] ∧ h'.size = h.size + 1 ∧ RoadKit.Exa Z h' x ST ∧ RoadKit.Fld Z h' x ST "value" "[B" (.ref h.size) ∧ RoadKit.Fld Z h' x ST "coder" "B" (.int 0) ∧
  (∃ V : Cell, RoadKit.Arr Z h' h.size V .byte ∧ V.vm = .none ∧ Z.vm.findClass "[B" = some V.cls ∧ V.slots.size = A.slots.size ∧ ∀ j, j < A.slots.size → V.slots[j]? = some (.int (lo8 (cv A j)))) ∧
  ∀ (O n d : String) (w : Value), RoadKit.Fld Z h x O n d w → RoadKit.slotOf Z O n d ≠ RoadKit.slotOf Z ST "value" "[B" → RoadKit.slotOf Z O n d ≠ RoadKit.slotOf Z ST "coder" "B" → RoadKit.Fld Z h' x O n d w
/-- **new String(chars) AT A CALL, IN THE ROAD'S FORM**: for specialBack behind newO: x the fresh String, b the char[] with the cell A -/
theorem back {p : Program} {l : Launch} {e : Env} {R : Room} {s : State} {args : Array Value} {below : List Frame} {len W : Nat} {Z : State} {a0 : Array Value} {h : Heap} (hZ : Z.Warmed39 s.vm) (hw : ∀ d ∈ words, d.before a0 Z = true) {kI : Nat} (wi : (Jvm.Cond.instantiable ST kI).before a0 Z = true)
    {x b : Addr} {A : Cell} {z : Int32} {v0 c0 : Value} (E : RoadKit.Exa Z h x ST) (V : RoadKit.Fld Z h x ST "value" "[B" v0) (C : RoadKit.Fld Z h x ST "coder" "B" c0) (K : RoadKit.Arr Z h b A .char) (hty : Typed .char A) (S : RoadKit.Sta Z h ST "COMPACT_STRINGS" "Z" (.int z)) (hz : ¬ z = 0)
    (l0 : 0 < A.slots.size) (l2 : A.slots.size ≤ 536870912) (hp : ∀ i, i < A.slots.size → ¬ 255 < cv A i) (hfr : 4 ≤ R.frames) (hlo : W + 65 ≤ R.locals) :
    Back l R p e below s args New1.yN len W (fun P a => a = #[.ref x, .ref b] ∧ P.U.heap = h ∧ P.cells + 1 ≤ R.cells ∧ P.slots + A.slots.size ≤ R.slots)
      (fun P _ v B => ∃ L, Q Z x A h v B.U.heap L ∧ B.locs = P.locs ++ L ∧ B.cells = P.cells + 1 ∧ B.slots = P.slots + A.slots.size) := by
  intro m meth c P g ig mk a X hg hsize hdg hW hn hp'
  obtain ⟨rfl, rfl, r1, r2⟩ := hp'
  have al : Z.vm.Alike P.U.vm := hZ.alike.trans X.warmed.alike
  obtain ⟨D, cfV, kV, iV, fV, hD, gV, stV, knV, obV, asV, slV⟩ := id V
  obtain ⟨D', cfC, kC, iC, fC, hD', gC, stC, -, -, asC, slC⟩ := id C
  cases hD.symm.trans hD'
  obtain ⟨D2, kD, e1, e2, e3, e4, e5⟩ := id E
  cases hD.symm.trans e1
  obtain ⟨c2, k2, i1, i2, i3, -⟩ := Cond.instantiable_spec wi
  cases e2.symm.trans i1
  cases e3.symm.trans i2
  obtain ⟨kU, u1, u2⟩ := al.2.2 _ _ e3
  have hB : Blank ST x D P.U := ⟨hD, ⟨knV, fun q hq => by rw [hq] at obV; cases obV⟩, by rw [al.findClass]; exact e2, kU, u1, by rw [u2]; exact i3, by rw [u2]; exact e5 i3⟩
  have F1 : Found ST "value" "[B" fV P.U := ⟨SBG.found_only al ⟨cfV, kV, iV, gV⟩, stV⟩
  have F2 : Found ST "coder" "B" fC P.U := ⟨SBG.found_only al ⟨cfC, kC, iC, gC⟩, stC⟩
  have hA : Ch b A P.U := ⟨⟨K.1, State.isArrayOf_alike al K.2.1, K.2.2, by omega⟩, hty⟩
  have hS : StaticIs P.U ST "COMPACT_STRINGS" "Z" (.int z) := by
    obtain ⟨cfS, iS, kS, fS, st, cS, t1, t2, t3, t4, t5, t6, t7⟩ := S
    exact StaticIs.there (s := { Z with heap := P.U.heap }) ⟨cfS, iS, kS, fS, st, cS, t1, t2, t3, t4, t5, (fun q => by rw [q] at t6; cases t6), t7⟩ al rfl
  obtain ⟨v, B, X', ⟨⟨hv, E', V', q1, q2, q3, q4, q5, q6, q7, q8, q9, q10, q11⟩, hl, hc, hs⟩, st⟩ := New1.pays x D fV fC b A z (tab_of (moved hZ hw)) hfr hlo m meth c P g ig mk _ X hg hsize hdg hW hn ⟨r1, r2, rfl, hB, F1, F2, hA, hS, hz, l0, l2, hp⟩
  have al' : Z.vm.Alike B.U.vm := hZ.alike.trans X'.warmed.alike
  have hsz : E'.slots.size = D.slots.size := by
    obtain ⟨-, -, -, kB, w1, w2, w3⟩ := q1
    obtain ⟨kB', y1, y2⟩ := al'.2.2 _ _ e3
    rw [q2.2.1] at w1
    cases w1.symm.trans y1
    rw [w3, e5 i3, y2]
  refine ⟨v, B, X', ⟨_, ⟨hv, ?_, ⟨by omega, fun y cy hy hn' => q10 y cy (by simpa using hn') hy, fun y cy hy => ?_⟩, q11, ⟨E', _, q1.1, by rw [q2.2.1]; exact e2, by rw [q2.2.1]; exact e3, by rw [q2.1]; exact obV, fun _ => by rw [hsz]; exact e5 i3⟩,
    ⟨E', cfV, kV, iV, fV, q1.1, gV, stV, by rw [q2.1]; exact knV, by rw [q2.1]; exact obV, by rw [q2.2.1]; exact asV, q3⟩, ⟨E', cfC, kC, iC, fC, q1.1, gC, stC, by rw [q2.1]; exact knV, by rw [q2.1]; exact obV, by rw [q2.2.1]; exact asC, q4⟩,
    ⟨V', ⟨q5.1, State.isArrayOf_alike al'.symm q5.2.1, q5.2.2.1⟩, q6, by rw [← al'.findClass]; exact q7, q8, fun j hj => by have := q9 j hj; rwa [Nat.zero_add] at this⟩, fun O n d w F n1 n2 => ?_⟩, hl, hc, hs⟩, st⟩
  · intro y hy
    simp only [List.mem_cons, List.not_mem_nil, or_false] at hy
    rcases hy with rfl | rfl <;> rfl
  · by_cases q : y = x
    · subst q
      cases hD.symm.trans hy
      exact ⟨E', q1.1, q2.2.1, q2.1, hsz⟩
    · exact ⟨cy, q10 y cy q hy, rfl, rfl, rfl⟩
  · obtain ⟨D3, cf, k, i, f, g1, g2, g3, g4, g5, g6, g7⟩ := F
    cases hD.symm.trans g1
    simp only [RoadKit.slotOf, g2, gV, gC, Option.map_some, Option.getD_some] at n1 n2
    exact ⟨E', cf, k, i, f, q1.1, g2, g3, by rw [q2.1]; exact g4, by rw [q2.1]; exact g5, by rw [q2.2.1]; exact g6, by rw [q2.2.2 f.slot (by simp [n1, n2])]; exact g7⟩
end StrChars.Road
namespace StrChars.Road
open Jvm Sem ClassFile Op Lib Jvm.Stand Jvm.Free Jvm.Free.XT
/-- WHAT COMES BACK, the byte[] as a list of values -/
def QA (Z : State) (x : Addr) (zn : Int32) (cs : List Int32) (h : Heap) (v : Option Value) (h' : Heap) (L : List Loc) : Prop := v = none ∧ (∀ y ∈ L, y.base = x) ∧ RoadKit.Keep h h' [x] ∧ h'.size = h.size + 1 ∧ RoadKit.Exa Z h' x ST ∧ RoadKit.Fld Z h' x ST "value" "[B" (.ref h.size) ∧ RoadKit.Fld Z h' x ST "coder" "B" (.int 0) ∧
  (∃ kb, Z.vm.findClass "[B" = some kb ∧ RoadKit.Arv Z h' h.size kb .byte zn (cs.map fun c => .int (lo8 c)) (.int 0)) ∧
  ∀ (O n d : String) (w : Value), RoadKit.Fld Z h x O n d w → RoadKit.slotOf Z O n d ≠ RoadKit.slotOf Z ST "value" "[B" → RoadKit.slotOf Z O n d ≠ RoadKit.slotOf Z ST "coder" "B" → RoadKit.Fld Z h' x O n d w
/-- **new String(chars) AT A CALL, THE ARRAYS AS LISTS**: the char[] at b holds cs, not empty, no char above 255 -/
theorem backArv {p : Program} {l : Launch} {e : Env} {R : Room} {s : State} {args : Array Value} {below : List Frame} {len W : Nat} {Z : State} {a0 : Array Value} {h : Heap} (hZ : Z.Warmed39 s.vm) (hw : ∀ d ∈ words, d.before a0 Z = true) {kI : Nat} (wi : (Jvm.Cond.instantiable ST kI).before a0 Z = true)
    {x b : Addr} {k : ClassId} {zn z : Int32} {cs : List Int32} {dv v0 c0 : Value} (E : RoadKit.Exa Z h x ST) (V : RoadKit.Fld Z h x ST "value" "[B" v0) (C : RoadKit.Fld Z h x ST "coder" "B" c0) (K : RoadKit.Arv Z h b k .char zn (cs.map Value.int) dv) (S : RoadKit.Sta Z h ST "COMPACT_STRINGS" "Z" (.int z)) (hz : ¬ z = 0)
    (hlen : zn.toNatClampNeg = cs.length) (h0 : 0 < cs.length) (hbig : cs.length ≤ 536870912) (hall : ∀ c ∈ cs, ¬ 255 < c) (hfr : 4 ≤ R.frames) (hlo : W + 65 ≤ R.locals) :
    Back l R p e below s args New1.yN len W (fun P a => a = #[.ref x, .ref b] ∧ P.U.heap = h ∧ P.cells + 1 ≤ R.cells ∧ P.slots + cs.length ≤ R.slots)
      (fun P _ v B => ∃ L, QA Z x zn cs h v B.U.heap L ∧ B.locs = P.locs ++ L ∧ B.cells = P.cells + 1 ∧ B.slots = P.slots + cs.length) := by
  obtain ⟨A, K1, K2, K3, K4, K5, K6⟩ := K
  have e : A.slots.size = cs.length := K3.trans hlen
  have hat : ∀ (i : Nat) (hi : i < cs.length), A.slots[i]? = some (.int cs[i]) := fun i hi => by rw [K5 i (by omega)]; simp [List.getD_eq_getElem?_getD, hi]
  have hcv : ∀ (i : Nat) (hi : i < cs.length), cv A i = cs[i] := fun i hi => by unfold cv; rw [hat i hi]
  have hty : Typed .char A := fun i v hv => by
    have hi : i < A.slots.size := (Array.getElem?_eq_some_iff.mp hv).1
    have q := K5 i hi
    rw [hv] at q
    rw [Option.some.inj q]
    exact K6 i hi
  refine Back.mono (back hZ hw wi E V C K1 hty S hz (by omega) (by omega) (fun i hi => by rw [hcv i (by omega)]; exact hall _ (List.getElem_mem _)) hfr hlo) (fun P a hp => ⟨hp.1, hp.2.1, hp.2.2.1, by rw [e]; exact hp.2.2.2⟩) (fun P a v B hp hq => ?_)
  obtain ⟨L, ⟨q1, q2, q3, q4, q5, q6, q7, ⟨V', v1, v2, v3, v4, v5⟩, q9⟩, hl, hc, hs⟩ := hq
  refine ⟨L, ⟨q1, q2, q3, q4, q5, q6, q7, ⟨V'.cls, v3, V', v1, rfl, by rw [v4, e, hlen], K4, fun i hi => ?_, fun i hi => ?_⟩, q9⟩, hl, hc, by rw [hs, e]⟩
  · have hi' : i < cs.length := by omega
    rw [v5 i (by omega), hcv i hi']; simp [List.getD_eq_getElem?_getD, hi']
  · have hi' : i < cs.length := by omega
    simp only [List.getD_eq_getElem?_getD, List.getElem?_map, List.getElem?_eq_getElem hi', Option.map_some, Option.getD_some]
    exact fits_lo8 _
end StrChars.Road
namespace StrChars.Road
open Jvm Sem ClassFile Op Lib Jvm.Stand Jvm.Free Jvm.Free.XT
/-- WHAT COMES BACK, in the writer's own shape -/
def QV (Z : State) (x : Addr) (N : Int32) (bs : List Int32) (h : Heap) (n0 : Nat) (v : Option Value) (h' : Heap) (L : List Loc) : Prop := v = none ∧ RoadKit.Fr n0 L ∧ RoadKit.Keep h h' [x] ∧ RoadKit.Exa Z h' x ST ∧ RoadKit.Fld Z h' x ST "coder" "B" (.int 0) ∧
  ∃ (t : Addr) (kb : ClassId), n0 ≤ t ∧ h.size ≤ t ∧ ¬ t = x ∧ RoadKit.Fld Z h' x ST "value" "[B" (.ref t) ∧ RoadKit.Arv Z h' t kb .byte N (bs.map Value.int) (.int 0)
/-- **new String(chars) AT A CALL, FOR THE WRITER**: a char[] of n known ints, each 0 to 255 -/
theorem backV {p : Program} {l : Launch} {e : Env} {R : Room} {s : State} {args : Array Value} {below : List Frame} {len W : Nat} {Z : State} {a0 : Array Value} {h : Heap} (hZ : Z.Warmed39 s.vm) (hw : ∀ d ∈ words, d.before a0 Z = true) {kI : Nat} (wi : (Jvm.Cond.instantiable ST kI).before a0 Z = true)
    {x b : Addr} {kC : ClassId} {cs bs : List Int32} {d v0 c0 : Value} {z N : Int32} {n n0 : Nat} (hx0 : n0 ≤ x) (hh0 : n0 ≤ h.size) (E : RoadKit.Exa Z h x ST) (V : RoadKit.Fld Z h x ST "value" "[B" v0) (C : RoadKit.Fld Z h x ST "coder" "B" c0) (K : RoadKit.Arv Z h b kC .char N (cs.map Value.int) d) (S : RoadKit.Sta Z h ST "COMPACT_STRINGS" "Z" (.int z)) (hz : ¬ z = 0)
    (hn : cs.length = n) (hN : N = Int32.ofNat n) (l0 : 0 < n) (l2 : n ≤ 4000) (hp : ∀ c ∈ cs, ¬ c < 0 ∧ ¬ (255 : Int32) < c) (hb : bs = cs.map (fun c => c.toInt8.toInt32)) (hfr : 4 ≤ R.frames) (hlo : W + 65 ≤ R.locals) :
    Back l R p e below s args (⟨"java/lang/String", "<init>", "([C)V"⟩ : MethodName) len W (fun P a => a = #[.ref x, .ref b] ∧ P.U.heap = h ∧ P.cells + 1 ≤ R.cells ∧ P.slots + n ≤ R.slots)
      (fun P _ v B => ∃ L, QV Z x N bs h n0 v B.U.heap L ∧ B.locs = P.locs ++ L ∧ B.cells = P.cells + 1 ∧ B.slots = P.slots + n) := by
  subst hn hN hb
  refine Back.mono (backArv hZ hw wi E V C K S hz (n32 (by omega)) l0 (by omega) (fun c hc => (hp c hc).2) hfr hlo) (fun P a hp => hp) (fun P a v B hp hq => ?_)
  obtain ⟨L, ⟨q1, q2, q3, q4, q5, q6, q7, ⟨kb, v1, v2⟩, q9⟩, hl, hc, hs⟩ := hq
  exact ⟨L, ⟨q1, fun y hy => by rw [q2 y hy]; exact hx0, q3, q5, q7, h.size, kb, hh0, Nat.le_refl _, Nat.ne_of_gt E.lt, q6, by rw [List.map_map]; exact v2⟩, hl, hc, hs⟩
end StrChars.Road
namespace StrChars
open Jvm Sem ClassFile Op Lib Jvm.Stand Jvm.Free.XT Jvm.Free.ALB Jvm.Free.JM Jvm.Free
open Jvm.Lib.Cold (StaticIs)
def hi8 (x : Int32) : Int32 := lo8 (x >>> ((8 : Int32) &&& 31))
/-- what StringUTF16.getChar makes of two bytes -/
def pairCh (u v : Int32) : Int32 := (((u &&& 255) <<< ((0 : Int32) &&& 31)) ||| ((v &&& 255) <<< ((8 : Int32) &&& 31))).toUInt32.toUInt16.toUInt32.toInt32
theorem shr0 (c : Int32) : c >>> ((0 : Int32) &&& 31) = c := by
  have e : ((0 : Int32) &&& 31) = 0 := by decide
  rw [e]
  apply Int32.toBitVec_inj.mp
  rw [Int32.toBitVec_shiftRight]
  have e1 : ((0 : Int32).toBitVec.smod 32) = 0#32 := by decide
  rw [e1, BitVec.sshiftRight_eq']
  exact BitVec.sshiftRight_zero
theorem lo8_and (x : Int32) : (lo8 x &&& 255).toBitVec.toNat = x.toBitVec.toNat % 256 := by
  have h : (lo8 x).toBitVec = (x.toBitVec.signExtend 8).signExtend 32 := by rw [lo8, Int8.toBitVec_toInt32, Int32.toBitVec_toInt8]
  rw [Int32.toBitVec_and, BitVec.toNat_and, h]
  have e : ((x.toBitVec.signExtend 8).signExtend 32).toNat % 256 = x.toBitVec.toNat % 256 := by
    rw [BitVec.toNat_signExtend]
    have hlt := x.toBitVec.isLt
    simp only [BitVec.toNat_setWidth, BitVec.toNat_signExtend]
    split <;> split <;> omega
  rw [← e]
  exact Nat.and_two_pow_sub_one_eq_mod _ 8
theorem pair_says {c : Int32} (h0 : ¬ c < 0) (h1 : ¬ 65535 < c) : pairCh (lo8 c) (hi8 c) = c := by
  rw [Int32.lt_iff_toInt_lt] at h0 h1
  have e0 : (0 : Int32).toInt = 0 := rfl
  have e1 : (65535 : Int32).toInt = 65535 := rfl
  have hc : c.toInt = c.toBitVec.toNat := by
    have := c.toBitVec.isLt
    have e : c.toInt = c.toBitVec.toInt := rfl
    rw [e] at h0 h1
    rw [e]
    rw [BitVec.toInt_eq_toNat_cond] at h0 h1 ⊢
    split at h0 <;> split <;> omega
  have hn : c.toBitVec.toNat < 65536 := by omega
  have a1 := lo8_and c
  have a2 : (hi8 c &&& 255).toBitVec.toNat = c.toBitVec.toNat / 256 := by
    rw [hi8, lo8_and]
    have e : ((8 : Int32) &&& 31) = 8 := by decide
    rw [e, Int32.toBitVec_shiftRight]
    have e2 : ((8 : Int32).toBitVec.smod 32) = 8#32 := by decide
    rw [e2, BitVec.sshiftRight_eq', BitVec.toNat_sshiftRight_of_msb_false (by rw [BitVec.msb_eq_false_iff_two_mul_lt]; omega)]
    show c.toBitVec.toNat >>> 8 % 256 = _
    rw [Nat.shiftRight_eq_div_pow]
    omega
  unfold pairCh
  apply Int32.toBitVec_inj.mp
  apply BitVec.eq_of_toNat_eq
  have f0 : ((0 : Int32) &&& 31) = 0 := by decide
  have f8 : ((8 : Int32) &&& 31) = 8 := by decide
  rw [f0, f8]
  have g : (((lo8 c &&& 255) <<< (0 : Int32)) ||| ((hi8 c &&& 255) <<< (8 : Int32))).toBitVec.toNat = c.toBitVec.toNat := by
    rw [Int32.toBitVec_or, Int32.toBitVec_shiftLeft, Int32.toBitVec_shiftLeft]
    have s0 : ((0 : Int32).toBitVec.smod 32) = 0#32 := by decide
    have s8 : ((8 : Int32).toBitVec.smod 32) = 8#32 := by decide
    rw [s0, s8, BitVec.toNat_or]
    simp only [BitVec.shiftLeft_eq', BitVec.toNat_shiftLeft, a1, a2]
    show (c.toBitVec.toNat % 256) <<< 0 % 2 ^ 32 ||| (c.toBitVec.toNat / 256) <<< 8 % 2 ^ 32 = _
    rw [Nat.shiftLeft_zero, Nat.mod_eq_of_lt (show c.toBitVec.toNat % 256 < 2 ^ 32 by omega), Nat.mod_eq_of_lt (show (c.toBitVec.toNat / 256) <<< 8 < 2 ^ 32 by rw [Nat.shiftLeft_eq]; omega), Nat.or_comm, ← Nat.shiftLeft_add_eq_or_of_lt (by omega), Nat.shiftLeft_eq]
    omega
  show BitVec.toNat (((((lo8 c &&& 255) <<< (0 : Int32)) ||| ((hi8 c &&& 255) <<< (8 : Int32))).toBitVec.setWidth 16).setWidth 32) = _
  rw [BitVec.toNat_setWidth, BitVec.toNat_setWidth, g]
  omega
end StrChars
namespace StrChars
open Jvm Sem ClassFile Op Lib Jvm.Stand Jvm.Free.XT Jvm.Free.ALB Jvm.Free.JM Jvm.Free
open Jvm.Lib.Cold (StaticIs)
theorem shr1 {n : Nat} (h : 2 * n < 2 ^ 31) : Int32.ofNat (2 * n) >>> ((1 : Int32) &&& 31) = Int32.ofNat n := by
  have e : ((1 : Int32) &&& 31) = 1 := by decide
  rw [e]
  apply Int32.toBitVec_inj.mp
  rw [Int32.toBitVec_shiftRight]
  have e1 : ((1 : Int32).toBitVec.smod 32) = 1#32 := by decide
  have hm : (BitVec.ofNat 32 (2 * n)).toNat = 2 * n := by rw [BitVec.toNat_ofNat, Nat.mod_eq_of_lt (by omega)]
  rw [e1, BitVec.sshiftRight_eq']
  apply BitVec.eq_of_toNat_eq
  show ((BitVec.ofNat 32 (2 * n)).sshiftRight 1).toNat = (BitVec.ofNat 32 n).toNat
  rw [BitVec.toNat_sshiftRight_of_msb_false (by rw [BitVec.msb_eq_false_iff_two_mul_lt, hm]; omega), hm, BitVec.toNat_ofNat, Nat.shiftRight_eq_div_pow]
  omega
/-- charAt's cast of a byte read back -/
def chr8 (u : Int32) : Int32 := (u &&& 255).toUInt32.toUInt16.toUInt32.toInt32
theorem chr8_lo8 {c : Int32} (h0 : ¬ c < 0) (h1 : ¬ 255 < c) : chr8 (lo8 c) = c := by
  have t : ∀ k : Fin 256, (Int32.ofNat k.val).toUInt32.toUInt16.toUInt32.toInt32 = Int32.ofNat k.val := by decide +kernel
  unfold chr8
  rw [lo8_mask h0 h1]
  rw [Int32.lt_iff_toInt_lt] at h0 h1
  have e0 : (0 : Int32).toInt = 0 := rfl
  have e1 : (255 : Int32).toInt = 255 := rfl
  obtain ⟨k, hk⟩ : ∃ k : Nat, c.toInt = k := ⟨c.toInt.toNat, by omega⟩
  have hx : c = Int32.ofNat k := Int32.toInt_inj.mp (by rw [hk, Int32.toInt_ofNat_small (by omega)])
  rw [hx]
  exact t ⟨k, by omega⟩
theorem narrow_ch {c : Int32} (h0 : ¬ c < 0) (h1 : ¬ 65535 < c) : narrow .char (.int c) = .int c := by
  have q : narrow .char (.int (pairCh (lo8 c) (hi8 c))) = .int (pairCh (lo8 c) (hi8 c)) := narrow_c _
  rwa [pair_says h0 h1] at q
/-- the array's cell V codes the n chars f 0 .. f (n - 1) by the coder cd, as the JDK does: coder 1 just where some char is above 255 -/
def Cod (cd : Int32) (n : Nat) (f : Nat → Int32) (V : Cell) : Prop := (cd = 0 ∧ V.slots.size = n ∧ ∀ j, j < n → V.slots[j]? = some (.int (lo8 (f j))) ∧ ¬ 255 < f j) ∨ (cd = 1 ∧ V.slots.size = 2 * n ∧ (∀ j, j < n → V.slots[2 * j]? = some (.int (lo8 (f j))) ∧ V.slots[2 * j + 1]? = some (.int (hi8 (f j)))) ∧ ∃ j, j < n ∧ 255 < f j)
theorem Cod.cd {cd : Int32} {n : Nat} {f : Nat → Int32} {V : Cell} (h : Cod cd n f V) : cd = 0 ∨ cd = 1 := h.imp (fun q => q.1) fun q => q.1
theorem Cod.len {cd : Int32} {n : Nat} {f : Nat → Int32} {V : Cell} (h : Cod cd n f V) (hs : V.slots.size < 2 ^ 31) : Int32.ofNat V.slots.size >>> (cd &&& 31) = Int32.ofNat n := by
  rcases h with ⟨rfl, h, -⟩ | ⟨rfl, h, -⟩
  · rw [shr0, h]
  · rw [h, shr1 (by omega)]
/-- **x is a String of the n chars f 0 .. f (n - 1)**, Latin-1 or UTF-16; its array at t has the cell V -/
def Txt (x t : Addr) (V : Cell) (cd : Int32) (n : Nat) (f : Nat → Int32) (U : State) : Prop := Exact "java/lang/String" x U ∧ Has x "java/lang/String" "value" "[B" (.ref t) U ∧ Has x "java/lang/String" "coder" "B" (.int cd) U ∧ XT.Arr .byte t V U ∧ Cod cd n f V ∧ ∀ j, j < n → ¬ f j < 0 ∧ ¬ 65535 < f j
theorem Txt.mv {x t : Addr} {V : Cell} {cd : Int32} {n : Nat} {f : Nat → Int32} {U U' : State} (h : Txt x t V cd n f U) (hal : U.vm.Alike U'.vm) (hh : U'.heap = U.heap) : Txt x t V cd n f U' := ⟨h.1.mv hal hh, h.2.1.mv hal hh, h.2.2.1.mv hal hh, h.2.2.2.1.mv hal hh, h.2.2.2.2⟩
namespace Cdr
def yN : MethodName := ⟨"java/lang/String", "coder", "()B"⟩
abbrev yB : ByteArray := jdk_42_method_152_code
theorem d0 : decode yB 0 = .ok (.getstatic 38, 3) := by decide +kernel
theorem d3 : decode yB 3 = .ok (.ifCond (.eq) 10, 3) := by decide +kernel
theorem d6 : decode yB 6 = .ok (.aload_n 0, 1) := by decide +kernel
theorem d7 : decode yB 7 = .ok (.getfield 15, 3) := by decide +kernel
theorem d10 : decode yB 10 = .ok (.goto 4, 3) := by decide +kernel
theorem d14 : decode yB 14 = .ok (.ireturn, 1) := by decide +kernel
def site : List Cond := [.fieldLink "java/lang/String" 38 "java/lang/String" "COMPACT_STRINGS" "Z", .fieldLink "java/lang/String" 15 "java/lang/String" "coder" "B"]
def tab : Cond := tabOf yN yB 1 (some .byte) site
def P (x : Addr) (cd z : Int32) (args : Array Value) (s : State) : Prop := args = #[.ref x] ∧ Has x "java/lang/String" "coder" "B" (.int cd) s ∧ (cd = 0 ∨ cd = 1) ∧ StaticIs s "java/lang/String" "COMPACT_STRINGS" "Z" (.int z) ∧ ¬ z = 0
def E (cd : Int32) (r : Option Value) (s u : State) : Prop := XT.PureE (some (.int cd)) r s u
theorem law (l : Launch) (x : Addr) (cd z : Int32) : Law l yN 1 0 0 0 yB 1 (some .byte) site (P x cd z) (E cd) [] 0 0 := by
  refine Law.of_walk (plainFor_of_name (by decide +kernel)) (by decide +kernel) (by decide +kernel) (by decide) (fun _ _ h => by rw [h.1]; rfl) (fun _ U U' hal hh h => ⟨h.1, h.2.1.mv hal hh, h.2.2.1, h.2.2.2.1.there hal hh, h.2.2.2.2⟩) (fun r U U' V V' h1 hal h2 h => XT.PureE.mv r U U' V V' h1 hal h2 h) ?_
  intro p e s m args below meth c s₁ X0 hexec hbytes hml hret hlk hnm hown hh0 W hP
  obtain ⟨rfl, hx, hc, s1, hz⟩ := hP
  have c1 : Steps p.tables e below (s₁.setTop (entryFrame m #[.ref x] 1)) (s₁.setTop (mkF m 0 #[.val (.ref x)] [])) := entry rfl
  obtain ⟨T2, X2, q2, st2⟩ := X0.sget hexec hown (wk W (.fieldLink "java/lang/String" 38 "java/lang/String" "COMPACT_STRINGS" "Z")) s1 (fun _ _ h => by rw [hh0]; exact h) (g := (mkF m 0 #[.val (.ref x)] [])) rfl (hb hbytes d0)
  have hh2 := q2.trans hh0
  have c3 : Steps p.tables e below (s₁.setTop (entryFrame m #[.ref x] 1)) (T2.setTop (mkF m 7 #[.val (.ref x)] [.ref x])) := (c1.trans (st2 _ (Steps.refl _))).trans (by
    refine XS.ifNo X2.here hexec rfl (hb hbytes d3) rfl (i0_eq_f hz) ?_
    refine XS.aloadN X2.here hexec rfl (hb hbytes d6) rfl rfl ?_
    exact Steps.refl _)
  obtain ⟨T4, X4, q4, st4⟩ := X2.hget hexec hown (wk W (.fieldLink "java/lang/String" 15 "java/lang/String" "coder" "B")) (hx.mv X2.warmed.alike hh2) (g := (mkF m 7 #[.val (.ref x)] [.ref x])) rfl (rest := []) rfl (hb hbytes d7)
  have c5 : Steps p.tables e below (s₁.setTop (entryFrame m #[.ref x] 1)) (T4.setTop (mkF m 14 #[.val (.ref x)] [.int cd])) := (c3.trans (st4 _ (Steps.refl _))).trans (by
    refine XS.goto X4.here hexec rfl (pc0 := 10) rfl (hb hbytes d10) (by decide) rfl ?_
    exact Steps.refl _)
  exact ⟨T4, some (.int cd), _, _, _, X4, rfl, rfl, rfl, (fun h => by cases h), ⟨rfl, q4.trans hh2⟩, fun fs hl => c5.trans (X4.ireturnOut hexec hret (by rcases hc with rfl | rfl <;> rfl) (Or.inr (Or.inr (Or.inl rfl))) (hb hbytes d14) hl)⟩
end Cdr
namespace Len
def yN : MethodName := ⟨"java/lang/String", "length", "()I"⟩
abbrev yB : ByteArray := jdk_42_method_54_code
theorem d0 : decode yB 0 = .ok (.aload_n 0, 1) := by decide +kernel
theorem d1 : decode yB 1 = .ok (.getfield 9, 3) := by decide +kernel
theorem d4 : decode yB 4 = .ok (.arraylength, 1) := by decide +kernel
theorem d5 : decode yB 5 = .ok (.aload_n 0, 1) := by decide +kernel
theorem d6 : decode yB 6 = .ok (.invokevirtual 335, 3) := by decide +kernel
theorem d9 : decode yB 9 = .ok (.ishr, 1) := by decide +kernel
theorem d10 : decode yB 10 = .ok (.ireturn, 1) := by decide +kernel
def site : List Cond := [.fieldLink "java/lang/String" 9 "java/lang/String" "value" "[B", Cdr.tab] ++ virtW "java/lang/String" 335 "java/lang/String" Cdr.yN Cdr.yN
def tab : Cond := tabOf yN yB 1 (some .int) site
def P (x t : Addr) (V : Cell) (cd : Int32) (n : Nat) (f : Nat → Int32) (z : Int32) (args : Array Value) (s : State) : Prop := args = #[.ref x] ∧ Txt x t V cd n f s ∧ StaticIs s "java/lang/String" "COMPACT_STRINGS" "Z" (.int z) ∧ ¬ z = 0
def E (n : Nat) (r : Option Value) (s u : State) : Prop := XT.PureE (some (.int (Int32.ofNat n))) r s u
/-- length() of a String of n chars, in either coding -/
theorem law (l : Launch) (x t : Addr) (V : Cell) (cd : Int32) (n : Nat) (f : Nat → Int32) (z : Int32) : Law l yN 1 0 1 13 yB 1 (some .int) site (P x t V cd n f z) (E n) [] 0 0 := by
  refine Law.of_walk (plainFor_of_name (by decide +kernel)) (by decide +kernel) (by decide +kernel) (by decide) (fun _ _ h => by rw [h.1]; rfl) (fun _ U U' hal hh h => ⟨h.1, h.2.1.mv hal hh, h.2.2.1.there hal hh, h.2.2.2⟩) (fun r U U' V V' h1 hal h2 h => XT.PureE.mv r U U' V V' h1 hal h2 h) ?_
  intro p e s m args below meth c s₁ X0 hexec hbytes hml hret hlk hnm hown hh0 W hP
  obtain ⟨rfl, hx, s1, hz⟩ := hP
  have v31 := hx.2.2.2.1.2.2.2
  have c1 : Steps p.tables e below (s₁.setTop (entryFrame m #[.ref x] 1)) (s₁.setTop (mkF m 1 #[.val (.ref x)] [.ref x])) := Steps.trans (entry rfl) (by
    show Steps p.tables e below (s₁.setTop (mkF m 0 #[.val (.ref x)] [])) _
    refine XS.aloadN X0.here hexec rfl (hb hbytes d0) rfl rfl ?_
    exact Steps.refl _)
  obtain ⟨T2, X2, q2, st2⟩ := X0.hget hexec hown (wk W (.fieldLink "java/lang/String" 9 "java/lang/String" "value" "[B")) (hx.mv X0.warmed.alike hh0).2.1 (g := (mkF m 1 #[.val (.ref x)] [.ref x])) rfl (rest := []) rfl (hb hbytes d1)
  have hh2 := q2.trans hh0
  have hx2 := hx.mv X2.warmed.alike hh2
  have c3 : Steps p.tables e below (s₁.setTop (entryFrame m #[.ref x] 1)) (T2.setTop (mkF m 6 #[.val (.ref x)] [.ref x, .int (Int32.ofNat V.slots.size)])) := (c1.trans (st2 _ (Steps.refl _))).trans (by
    refine X2.alen hexec hx2.2.2.2.1 rfl rfl (hb hbytes d4) ?_
    refine XS.aloadN X2.here hexec rfl (hb hbytes d5) rfl rfl ?_
    exact Steps.refl _)
  obtain ⟨v4, T4, X4, E4, g4⟩ := X2.callV hexec (Cdr.law l x cd z) hown (wks W (virtW "java/lang/String" 335 "java/lang/String" Cdr.yN Cdr.yN)) rfl (by decide) (wk W Cdr.tab) (W := 1) (Nat.le_of_ble_eq_true rfl) (Nat.le_of_ble_eq_true rfl) (Nat.le_refl _) (Nat.le_refl _) (hx2.1.fc X2.warmed.alike) hx2.1.is (g := (mkF m 6 #[.val (.ref x)] [.ref x, .int (Int32.ofNat V.slots.size)])) rfl (by rw [hml]; rfl) c3 (argsL := []) (rest := [.int (Int32.ofNat V.slots.size)]) rfl rfl (by show 2 * 0 + (1 + 0) ≤ _; decide) (hb hbytes d6) (⟨rfl, hx2.2.2.1, hx.2.2.2.2.1.cd, s1.there X2.warmed.alike hh2, hz⟩)
  obtain ⟨rfl, q4⟩ := E4
  have c5 : Steps p.tables e below (s₁.setTop (entryFrame m #[.ref x] 1)) (T4.setTop (mkF m 10 #[.val (.ref x)] [.int (Int32.ofNat V.slots.size >>> (cd &&& 31))])) := Steps.trans g4 (by
    refine ishr X4.here hexec rfl (hb hbytes d9) rfl ?_
    exact Steps.refl _)
  rw [hx.2.2.2.2.1.len v31] at c5
  exact ⟨T4, some (.int (Int32.ofNat n)), _, _, _, X4, rfl, rfl, rfl, (fun h => by cases h), ⟨rfl, q4.trans hh2⟩, fun fs hl => c5.trans (X4.ireturnOut hexec hret rfl (Or.inl rfl) (hb hbytes d10) hl)⟩
theorem pays {l : Launch} {R : Room} {p : Program} {e : Env} {below : List Frame} {s : State} {sargs : Array Value} {len W : Nat} (x t : Addr) (V : Cell) (cd : Int32) (n : Nat) (f : Nat → Int32) (z : Int32) (htab : tab.before sargs s = true) (hfr : 2 ≤ R.frames) (hlo : W + 25 ≤ R.locals) :
    Back l R p e below s sargs yN len W (fun A₁ a₁ => A₁.cells + 0 ≤ R.cells ∧ A₁.slots + 0 ≤ R.slots ∧ P x t V cd n f z a₁ A₁.U) (fun A₁ _ v₁ B₁ => E n v₁ A₁.U B₁.U ∧ B₁.locs = A₁.locs ++ [] ∧ B₁.cells = A₁.cells + 0 ∧ B₁.slots = A₁.slots + 0) :=
  (law l x t V cd n f z).pays htab hfr (by omega)
end Len
namespace IsL
def yN : MethodName := ⟨"java/lang/String", "isLatin1", "()Z"⟩
abbrev yB : ByteArray := jdk_42_method_154_code
theorem d0 : decode yB 0 = .ok (.getstatic 38, 3) := by decide +kernel
theorem d3 : decode yB 3 = .ok (.ifCond (.eq) 14, 3) := by decide +kernel
theorem d6 : decode yB 6 = .ok (.aload_n 0, 1) := by decide +kernel
theorem d7 : decode yB 7 = .ok (.getfield 15, 3) := by decide +kernel
theorem d10 : decode yB 10 = .ok (.ifCond (.ne) 7, 3) := by decide +kernel
theorem d13 : decode yB 13 = .ok (.iconst 1, 1) := by decide +kernel
theorem d14 : decode yB 14 = .ok (.goto 4, 3) := by decide +kernel
theorem d17 : decode yB 17 = .ok (.iconst 0, 1) := by decide +kernel
theorem d18 : decode yB 18 = .ok (.ireturn, 1) := by decide +kernel
def site : List Cond := [.fieldLink "java/lang/String" 38 "java/lang/String" "COMPACT_STRINGS" "Z", .fieldLink "java/lang/String" 15 "java/lang/String" "coder" "B"]
def tab : Cond := tabOf yN yB 1 (some .boolean) site
def P (x : Addr) (cd z : Int32) (args : Array Value) (s : State) : Prop := args = #[.ref x] ∧ Has x "java/lang/String" "coder" "B" (.int cd) s ∧ (cd = 0 ∨ cd = 1) ∧ StaticIs s "java/lang/String" "COMPACT_STRINGS" "Z" (.int z) ∧ ¬ z = 0
def E (cd : Int32) (r : Option Value) (s u : State) : Prop := XT.PureE (some (.int (1 - cd))) r s u
theorem law (l : Launch) (x : Addr) (cd z : Int32) : Law l yN 1 0 0 0 yB 1 (some .boolean) site (P x cd z) (E cd) [] 0 0 := by
  refine Law.of_walk (plainFor_of_name (by decide +kernel)) (by decide +kernel) (by decide +kernel) (by decide) (fun _ _ h => by rw [h.1]; rfl) (fun _ U U' hal hh h => ⟨h.1, h.2.1.mv hal hh, h.2.2.1, h.2.2.2.1.there hal hh, h.2.2.2.2⟩) (fun r U U' V V' h1 hal h2 h => XT.PureE.mv r U U' V V' h1 hal h2 h) ?_
  intro p e s m args below meth c s₁ X0 hexec hbytes hml hret hlk hnm hown hh0 W hP
  obtain ⟨rfl, hx, hc, s1, hz⟩ := hP
  have c1 : Steps p.tables e below (s₁.setTop (entryFrame m #[.ref x] 1)) (s₁.setTop (mkF m 0 #[.val (.ref x)] [])) := entry rfl
  obtain ⟨T2, X2, q2, st2⟩ := X0.sget hexec hown (wk W (.fieldLink "java/lang/String" 38 "java/lang/String" "COMPACT_STRINGS" "Z")) s1 (fun _ _ h => by rw [hh0]; exact h) (g := (mkF m 0 #[.val (.ref x)] [])) rfl (hb hbytes d0)
  have hh2 := q2.trans hh0
  have c3 : Steps p.tables e below (s₁.setTop (entryFrame m #[.ref x] 1)) (T2.setTop (mkF m 7 #[.val (.ref x)] [.ref x])) := (c1.trans (st2 _ (Steps.refl _))).trans (by
    refine XS.ifNo X2.here hexec rfl (hb hbytes d3) rfl (i0_eq_f hz) ?_
    refine XS.aloadN X2.here hexec rfl (hb hbytes d6) rfl rfl ?_
    exact Steps.refl _)
  obtain ⟨T4, X4, q4, st4⟩ := X2.hget hexec hown (wk W (.fieldLink "java/lang/String" 15 "java/lang/String" "coder" "B")) (hx.mv X2.warmed.alike hh2) (g := (mkF m 7 #[.val (.ref x)] [.ref x])) rfl (rest := []) rfl (hb hbytes d7)
  have c5 : Steps p.tables e below (s₁.setTop (entryFrame m #[.ref x] 1)) (T4.setTop (mkF m 10 #[.val (.ref x)] [.int cd])) := c3.trans (st4 _ (Steps.refl _))
  have c6 : Steps p.tables e below (s₁.setTop (entryFrame m #[.ref x] 1)) (T4.setTop (mkF m 18 #[.val (.ref x)] [.int (1 - cd)])) := by
    rcases hc with rfl | rfl
    · exact c5.trans (by
        refine XS.ifNo X4.here hexec rfl (hb hbytes d10) rfl (i0_ne_f rfl) ?_
        refine iconstV X4.here hexec rfl 1 (hb hbytes d13) (by decide) ?_
        refine XS.goto X4.here hexec rfl (pc0 := 14) rfl (hb hbytes d14) (by decide) rfl ?_
        exact Steps.refl _)
    · exact c5.trans (by
        refine XS.ifYes X4.here hexec rfl (pc0 := 10) rfl (hb hbytes d10) rfl (i0_ne_t (by decide)) (by decide) rfl ?_
        refine iconstV X4.here hexec rfl 0 (hb hbytes d17) (by decide) ?_
        exact Steps.refl _)
  exact ⟨T4, some (.int (1 - cd)), _, _, _, X4, rfl, rfl, rfl, (fun h => by cases h), ⟨rfl, q4.trans hh2⟩, fun fs hl => c6.trans (X4.ireturnOut hexec hret (by rcases hc with rfl | rfl <;> rfl) (Or.inr (Or.inl rfl)) (hb hbytes d18) hl)⟩
end IsL
namespace LChA
def yN : MethodName := ⟨"java/lang/StringLatin1", "charAt", "([BI)C"⟩
abbrev yB : ByteArray := jdk_43_method_2_code
theorem d0 : decode yB 0 = .ok (.iload_n 1, 1) := by decide +kernel
theorem d1 : decode yB 1 = .ok (.aload_n 0, 1) := by decide +kernel
theorem d2 : decode yB 2 = .ok (.arraylength, 1) := by decide +kernel
theorem d3 : decode yB 3 = .ok (.invokestatic 9, 3) := by decide +kernel
theorem d6 : decode yB 6 = .ok (.aload_n 0, 1) := by decide +kernel
theorem d7 : decode yB 7 = .ok (.iload_n 1, 1) := by decide +kernel
theorem d8 : decode yB 8 = .ok (.baload, 1) := by decide +kernel
theorem d9 : decode yB 9 = .ok (.sipush 255, 3) := by decide +kernel
theorem d12 : decode yB 12 = .ok (.iand, 1) := by decide +kernel
theorem d13 : decode yB 13 = .ok (.i2c, 1) := by decide +kernel
theorem d14 : decode yB 14 = .ok (.ireturn, 1) := by decide +kernel
def site : List Cond := [JO.Str_checkIndex.tab] ++ staticW "java/lang/StringLatin1" 9 JO.Str_checkIndex.yN
def tab : Cond := tabOf yN yB 2 (some .char) site
def P (t : Addr) (V : Cell) (i : Nat) (u : Int32) (fm : Value) (args : Array Value) (s : State) : Prop := args = #[.ref t, .int (Int32.ofNat i)] ∧ XT.Arr .byte t V s ∧ V.slots[i]? = some (.int u) ∧ (StaticIs s "jdk/internal/util/Preconditions" "SIOOBE_FORMATTER" "Ljava/util/function/BiFunction;" fm ∧ fm.isRef = true)
def E (u : Int32) (r : Option Value) (s w : State) : Prop := XT.PureE (some (.int (chr8 u))) r s w
theorem law (l : Launch) (t : Addr) (V : Cell) (i : Nat) (u : Int32) (fm : Value) : Law l yN 2 2 2 27 yB 2 (some .char) site (P t V i u fm) (E u) [] 0 0 := by
  refine Law.of_walk (plainFor_of_name (by decide +kernel)) (by decide +kernel) (by decide +kernel) (by decide) (fun _ _ h => by rw [h.1]; rfl) (fun _ U U' hal hh h => ⟨h.1, h.2.1.mv hal hh, h.2.2.1, h.2.2.2.1.there hal hh, h.2.2.2.2⟩) (fun r U U' V V' h1 hal h2 h => XT.PureE.mv r U U' V V' h1 hal h2 h) ?_
  intro p e s m args below meth c s₁ X0 hexec hbytes hml hret hlk hnm hown hh0 W hP
  obtain ⟨rfl, hV, hu, s1, rf⟩ := hP
  have v31 := hV.2.2.2
  have hi : i < V.slots.size := (Array.getElem?_eq_some_iff.mp hu).1
  have c1 : Steps p.tables e below (s₁.setTop (entryFrame m #[.ref t, .int (Int32.ofNat i)] 2)) (s₁.setTop (mkF m 0 #[.val (.ref t), .val (.int (Int32.ofNat i))] [])) := entry rfl
  have c2 : Steps p.tables e below (s₁.setTop (entryFrame m #[.ref t, .int (Int32.ofNat i)] 2)) (s₁.setTop (mkF m 3 #[.val (.ref t), .val (.int (Int32.ofNat i))] [.int (Int32.ofNat V.slots.size), .int (Int32.ofNat i)])) := c1.trans (by
    refine XS.iloadN X0.here hexec rfl (hb hbytes d0) rfl ?_
    refine XS.aloadN X0.here hexec rfl (hb hbytes d1) rfl rfl ?_
    refine X0.alen hexec (hV.mv X0.warmed.alike hh0) rfl rfl (hb hbytes d2) ?_
    exact Steps.refl _)
  obtain ⟨v3, T3, X3, E3, g3⟩ := X0.callS hexec (JO.Str_checkIndex.law l (Int32.ofNat i) (Int32.ofNat V.slots.size) fm) hown (wks W (staticW "java/lang/StringLatin1" 9 JO.Str_checkIndex.yN)) (wk W JO.Str_checkIndex.tab) (W := 0) (Nat.le_of_ble_eq_true rfl) (Nat.le_of_ble_eq_true rfl) (Nat.le_refl _) (Nat.le_refl _) (g := (mkF m 3 #[.val (.ref t), .val (.int (Int32.ofNat i))] [.int (Int32.ofNat V.slots.size), .int (Int32.ofNat i)])) rfl (by rw [hml]; rfl) c2 (argsL := [.int (Int32.ofNat i), .int (Int32.ofNat V.slots.size)]) (rest := []) rfl rfl (by show 2 * 0 + 0 ≤ _; decide) (hb hbytes d3) (⟨rfl, rf, s1.there X0.warmed.alike hh0, Int32.ofNat_not_neg (by omega), lt32 v31 hi⟩)
  obtain ⟨rfl, q3⟩ := E3
  have hh3 := q3.trans hh0
  have c4 : Steps p.tables e below (s₁.setTop (entryFrame m #[.ref t, .int (Int32.ofNat i)] 2)) (T3.setTop (mkF m 14 #[.val (.ref t), .val (.int (Int32.ofNat i))] [.int (chr8 u)])) := Steps.trans g3 (by
    refine XS.aloadN X3.here hexec rfl (hb hbytes d6) rfl rfl ?_
    refine XS.iloadN X3.here hexec rfl (hb hbytes d7) rfl ?_
    refine X3.aget hexec (hV.mv X3.warmed.alike hh3) rfl hu rfl rfl (hb hbytes d8) ?_
    refine sipushV X3.here hexec rfl 255 (hb hbytes d9) (by decide) ?_
    refine XS.iand X3.here hexec rfl (hb hbytes d12) rfl ?_
    refine i2c X3.here hexec rfl (hb hbytes d13) rfl ?_
    exact Steps.refl _)
  exact ⟨T3, some (.int (chr8 u)), _, _, _, X3, rfl, rfl, rfl, (fun h => by cases h), ⟨rfl, hh3⟩, fun fs hl => c4.trans (X3.ireturnOut hexec hret (narrow_c _) (Or.inr (Or.inr (Or.inr (Or.inl rfl)))) (hb hbytes d14) hl)⟩
end LChA
end StrChars
namespace StrChars.Road
open Jvm Sem ClassFile Op Lib Jvm.Stand Jvm.Free Jvm.Free.XT
open Jvm.Lib.Cold (StaticIs)
theorem consq {a : Array Value} {s : State} {c : Jvm.Cond} {L : List Jvm.Cond} (h0 : c.before a s = true) (h : ∀ w ∈ L, w.before a s = true) : ∀ w ∈ c :: L, w.before a s = true := fun w hw => (List.mem_cons.mp hw).elim (fun e => e ▸ h0) (h w)
/-- the words of String.length(), either coding -/
abbrev wordsLen : List Jvm.Cond := [.code Len.yN Len.yB 1 (some .int), .initialized ST, .fieldLink ST 9 ST "value" "[B", .fieldLink ST 38 ST "COMPACT_STRINGS" "Z", .fieldLink ST 15 ST "coder" "B", .code Cdr.yN Cdr.yB 1 (some .byte), .methodLink ST 335 Cdr.yN, .declares Cdr.yN, .selects ST Cdr.yN Cdr.yN, .instanceMethod Cdr.yN]
theorem tabLen_of {a : Array Value} {s : State} (h : ∀ w ∈ wordsLen, w.before a s = true) : Len.tab.before a s = true := by
  have hc : Cdr.tab.before a s = true := unparts (wk h (.code Cdr.yN Cdr.yB 1 (some .byte))) (wks h (.initialized Cdr.yN.cls :: Cdr.site))
  have q := consq hc h
  exact unparts (wk q (.code Len.yN Len.yB 1 (some .int))) (wks q (.initialized Len.yN.cls :: Len.site))
theorem movedLen {Z s : State} {a0 args : Array Value} (hZ : Z.Warmed39 s.vm) (hw : ∀ d ∈ wordsLen, d.before a0 Z = true) : ∀ d ∈ wordsLen, d.before args s = true := fun d hd => by
  have q := hw d hd
  have t : ∀ d ∈ wordsLen, d = .arrayClass .byte ∨ (d.onTables && d.keepsFace) = true := by decide +kernel
  rcases t d hd with rfl | t
  · exact RoadKit.mvA hZ q
  · exact RoadKit.mv hZ q t
/-- the bytes of the chars cs, low before high -/
def wideBytes : List Int32 → List Value
  | [] => []
  | c :: cs => .int (lo8 c) :: .int (hi8 c) :: wideBytes cs
theorem wide_lo (d : Value) : ∀ (cs : List Int32) (j : Nat), j < cs.length → (wideBytes cs).getD (2 * j) d = .int (lo8 (cs.getD j 0))
  | [], j, h => absurd h (Nat.not_lt_zero j)
  | c :: cs, 0, _ => rfl
  | c :: cs, j + 1, h => by
    have q := wide_lo d cs j (by simpa using h)
    rw [show 2 * (j + 1) = 2 * j + 1 + 1 from by omega]
    simpa [wideBytes] using q
theorem wide_hi (d : Value) : ∀ (cs : List Int32) (j : Nat), j < cs.length → (wideBytes cs).getD (2 * j + 1) d = .int (hi8 (cs.getD j 0))
  | [], j, h => absurd h (Nat.not_lt_zero j)
  | c :: cs, 0, _ => rfl
  | c :: cs, j + 1, h => by
    have q := wide_hi d cs j (by simpa using h)
    rw [show 2 * (j + 1) + 1 = 2 * j + 1 + 1 + 1 from by omega]
    simpa [wideBytes] using q
theorem low_at (d : Value) (cs : List Int32) (j : Nat) (h : j < cs.length) : (cs.map fun c => Value.int (lo8 c)).getD j d = .int (lo8 (cs.getD j 0)) := by
  simp [List.getD_eq_getElem?_getD, h]
/-- an array of N2 bytes vs codes the chars cs by the coder cd -/
def CodA (cs : List Int32) (cd N2 : Int32) (vs : List Value) : Prop := (cd = 0 ∧ N2 = Int32.ofNat cs.length ∧ vs = (cs.map fun c => Value.int (lo8 c)) ∧ ∀ c ∈ cs, ¬ 255 < c) ∨ (cd = 1 ∧ N2 = Int32.ofNat (2 * cs.length) ∧ vs = wideBytes cs ∧ ∃ c ∈ cs, 255 < c)
theorem CodA.cod {cs : List Int32} {cd N2 : Int32} {vs : List Value} {V : Cell} (h : CodA cs cd N2 vs) (hn : 2 * cs.length < 2 ^ 31) (hs : V.slots.size = N2.toNatClampNeg) (hv : RoadKit.Has V vs (.int 0)) : Cod cd cs.length (fun j => cs.getD j 0) V := by
  rcases h with ⟨rfl, rfl, rfl, h⟩ | ⟨rfl, rfl, rfl, c, hc, hw⟩
  · rw [n32 (by omega)] at hs
    exact Or.inl ⟨rfl, hs, fun j hj => ⟨by rw [hv j (by omega), low_at _ _ _ hj], by
      have e : cs.getD j 0 = cs[j] := by simp [List.getD_eq_getElem?_getD, hj]
      show ¬ 255 < cs.getD j 0
      rw [e]; exact h _ (List.getElem_mem _)⟩⟩
  · rw [n32 (by omega)] at hs
    obtain ⟨j, hj, rfl⟩ := List.getElem_of_mem hc
    exact Or.inr ⟨rfl, hs, fun j hj => ⟨by rw [hv _ (by omega), wide_lo _ _ _ hj], by rw [hv _ (by omega), wide_hi _ _ _ hj]⟩, j, hj, by
      have e : cs.getD j 0 = cs[j] := by simp [List.getD_eq_getElem?_getD, hj]
      show 255 < cs.getD j 0
      rw [e]; exact hw⟩
/-- an object of exactly java/lang/String, its two fields found: as the laws ask it -/
theorem strObj {Z U : State} {a0 : Array Value} {kI : Nat} (wi : (Jvm.Cond.instantiable ST kI).before a0 Z = true) (al : Z.vm.Alike U.vm) {x : Addr} {v0 c0 : Value} (E : RoadKit.Exa Z U.heap x ST) (V : RoadKit.Fld Z U.heap x ST "value" "[B" v0) (C : RoadKit.Fld Z U.heap x ST "coder" "B" c0) :
    ∃ (D : Cell) (fV fC : Field), Blank ST x D U ∧ Found ST "value" "[B" fV U ∧ Found ST "coder" "B" fC U ∧ D.slots[fV.slot]? = some v0 ∧ D.slots[fC.slot]? = some c0 ∧ RoadKit.slotOf Z ST "value" "[B" = fV.slot ∧ RoadKit.slotOf Z ST "coder" "B" = fC.slot := by
  obtain ⟨D, cfV, kV, iV, fV, hD, gV, stV, knV, obV, asV, slV⟩ := V
  obtain ⟨D', cfC, kC, iC, fC, hD', gC, stC, -, -, asC, slC⟩ := C
  cases hD.symm.trans hD'
  obtain ⟨D2, kD, e1, e2, e3, e4, e5⟩ := E
  cases hD.symm.trans e1
  obtain ⟨c2, k2, i1, i2, i3, -⟩ := Cond.instantiable_spec wi
  cases e2.symm.trans i1
  cases e3.symm.trans i2
  obtain ⟨kU, u1, u2⟩ := al.2.2 _ _ e3
  exact ⟨D, fV, fC, ⟨hD, ⟨knV, fun q hq => by rw [hq] at obV; cases obV⟩, by rw [al.findClass]; exact e2, kU, u1, by rw [u2]; exact i3, by rw [u2]; exact e5 i3⟩, ⟨SBG.found_only al ⟨cfV, kV, iV, gV⟩, stV⟩, ⟨SBG.found_only al ⟨cfC, kC, iC, gC⟩, stC⟩, slV, slC, by simp [RoadKit.slotOf, gV], by simp [RoadKit.slotOf, gC]⟩
theorem sta_is {Z U : State} (al : Z.vm.Alike U.vm) {C n d : String} {v : Value} (S : RoadKit.Sta Z U.heap C n d v) : StaticIs U C n d v := by
  obtain ⟨cfS, iS, kS, fS, st, cS, t1, t2, t3, t4, t5, t6, t7⟩ := S
  exact StaticIs.there (s := { Z with heap := U.heap }) ⟨cfS, iS, kS, fS, st, cS, t1, t2, t3, t4, t5, (fun q => by rw [q] at t6; cases t6), t7⟩ al rfl
/-- **length() OF SUCH A STRING** -/
theorem lenW {p : Program} {l : Launch} {e : Env} {R : Room} {s : State} {args : Array Value} {below : List Frame} {len W : Nat} {Z : State} {a0 : Array Value} {h : Heap} (hZ : Z.Warmed39 s.vm) (hw : ∀ d ∈ wordsLen, d.before a0 Z = true) {kI : Nat} (wi : (Jvm.Cond.instantiable ST kI).before a0 Z = true)
    {x t : Addr} {kb : ClassId} {cs : List Int32} {cd N2 z : Int32} {vs : List Value} (E : RoadKit.Exa Z h x ST) (V : RoadKit.Fld Z h x ST "value" "[B" (.ref t)) (C : RoadKit.Fld Z h x ST "coder" "B" (.int cd)) (K : RoadKit.Arv Z h t kb .byte N2 vs (.int 0)) (hc : CodA cs cd N2 vs) (hb : ∀ c ∈ cs, ¬ c < 0 ∧ ¬ (65535 : Int32) < c)
    (S : RoadKit.Sta Z h ST "COMPACT_STRINGS" "Z" (.int z)) (hz : ¬ z = 0) (l2 : cs.length ≤ 4000) (hfr : 2 ≤ R.frames) (hlo : W + 25 ≤ R.locals) :
    Back l R p e below s args (⟨"java/lang/String", "length", "()I"⟩ : MethodName) len W (fun P a => a = #[.ref x] ∧ P.U.heap = h ∧ P.cells + 0 ≤ R.cells ∧ P.slots + 0 ≤ R.slots)
      (fun P _ v B => ∃ L, (v = some (.int (Int32.ofNat cs.length)) ∧ L = [] ∧ B.U.heap = h) ∧ B.locs = P.locs ++ L ∧ B.cells = P.cells + 0 ∧ B.slots = P.slots + 0) := by
  obtain ⟨A, K1, K2, K3, K4, K5, K6⟩ := K
  have hcod := hc.cod (by omega) K3 K5
  intro m meth c P g ig mk a X hg hsize hdg hW hn hp'
  obtain ⟨rfl, rfl, r1, r2⟩ := hp'
  have al : Z.vm.Alike P.U.vm := hZ.alike.trans X.warmed.alike
  obtain ⟨D, fV, fC, hB, F1, F2, g1, g2, -, -⟩ := strObj wi al E V C
  have hx : Txt x t A cd cs.length (fun j => cs.getD j 0) P.U := ⟨⟨_, hB.2.2.1, D, hB.1, rfl, by cases q : D.vm <;> first | rfl | exact absurd q (hB.2.1.2 _)⟩, Has.of hB F1 g1, Has.of hB F2 g2, ⟨K1.1, State.isArrayOf_alike al K1.2.1, K1.2.2, by rcases hcod with ⟨-, q, -⟩ | ⟨-, q, -⟩ <;> omega⟩, hcod, fun j hj => by
    have e : cs.getD j 0 = cs[j] := by simp [List.getD_eq_getElem?_getD, hj]
    show ¬ cs.getD j 0 < 0 ∧ ¬ 65535 < cs.getD j 0
    rw [e]; exact hb _ (List.getElem_mem _)⟩
  obtain ⟨v, B, X', ⟨⟨hv, hh⟩, hl, hk, hs⟩, st⟩ := Len.pays x t A cd cs.length (fun j => cs.getD j 0) z (tabLen_of (movedLen hZ hw)) hfr hlo m meth c P g ig mk _ X hg hsize hdg hW hn ⟨r1, r2, rfl, hx, sta_is al S, hz⟩
  exact ⟨v, B, X', ⟨[], ⟨hv, rfl, hh⟩, hl, hk, hs⟩, st⟩
end StrChars.Road
namespace StrChars.Road
open Jvm Sem ClassFile Op Lib Jvm.Stand Jvm.Free Jvm.Free.XT
open Jvm.Lib.Cold (StaticIs)
/-- the road's facts of a String, as the laws ask it -/
theorem txt_of {Z U : State} {a0 : Array Value} {kI : Nat} (wi : (Jvm.Cond.instantiable ST kI).before a0 Z = true) (al : Z.vm.Alike U.vm) {x t : Addr} {kb : ClassId} {cs : List Int32} {cd N2 : Int32} {vs : List Value} (E : RoadKit.Exa Z U.heap x ST) (V : RoadKit.Fld Z U.heap x ST "value" "[B" (.ref t)) (C : RoadKit.Fld Z U.heap x ST "coder" "B" (.int cd)) (K : RoadKit.Arv Z U.heap t kb .byte N2 vs (.int 0)) (hc : CodA cs cd N2 vs) (hb : ∀ c ∈ cs, ¬ c < 0 ∧ ¬ (65535 : Int32) < c) (l2 : cs.length ≤ 4000) :
    ∃ A, Txt x t A cd cs.length (fun j => cs.getD j 0) U := by
  obtain ⟨A, K1, K2, K3, K4, K5, K6⟩ := K
  have hcod := hc.cod (by omega) K3 K5
  obtain ⟨D, fV, fC, hB, F1, F2, g1, g2, -, -⟩ := strObj wi al E V C
  exact ⟨A, ⟨_, hB.2.2.1, D, hB.1, rfl, by cases q : D.vm <;> first | rfl | exact absurd q (hB.2.1.2 _)⟩, Has.of hB F1 g1, Has.of hB F2 g2, ⟨K1.1, State.isArrayOf_alike al K1.2.1, K1.2.2, by rcases hcod with ⟨-, q, -⟩ | ⟨-, q, -⟩ <;> omega⟩, hcod, fun j hj => by
    have e : cs.getD j 0 = cs[j] := by simp [List.getD_eq_getElem?_getD, hj]
    show ¬ cs.getD j 0 < 0 ∧ ¬ 65535 < cs.getD j 0
    rw [e]; exact hb _ (List.getElem_mem _)⟩
end StrChars.Road
namespace StrChars
open Jvm Sem ClassFile Op Lib Jvm.Stand Jvm.Free.XT Jvm.Free.ALB Jvm.Free.JM Jvm.Free
open Jvm.Lib.Cold (StaticIs)
namespace ChN
def yN : MethodName := ⟨"java/lang/String", "charAt", "(I)C"⟩
abbrev yB : ByteArray := jdk_42_method_56_code
theorem d0 : decode yB 0 = .ok (.aload_n 0, 1) := by decide +kernel
theorem d1 : decode yB 1 = .ok (.invokevirtual 492, 3) := by decide +kernel
theorem d4 : decode yB 4 = .ok (.ifCond (.eq) 12, 3) := by decide +kernel
theorem d7 : decode yB 7 = .ok (.aload_n 0, 1) := by decide +kernel
theorem d8 : decode yB 8 = .ok (.getfield 9, 3) := by decide +kernel
theorem d11 : decode yB 11 = .ok (.iload_n 1, 1) := by decide +kernel
theorem d12 : decode yB 12 = .ok (.invokestatic 495, 3) := by decide +kernel
theorem d15 : decode yB 15 = .ok (.ireturn, 1) := by decide +kernel
def site : List Cond := [.fieldLink "java/lang/String" 9 "java/lang/String" "value" "[B", IsL.tab, LChA.tab] ++ virtW "java/lang/String" 492 "java/lang/String" IsL.yN IsL.yN ++ staticW "java/lang/String" 495 LChA.yN
def tab : Cond := tabOf yN yB 2 (some .char) site
def P (x t : Addr) (V : Cell) (n : Nat) (f : Nat → Int32) (z : Int32) (fm : Value) (i : Nat) (args : Array Value) (s : State) : Prop := args = #[.ref x, .int (Int32.ofNat i)] ∧ Txt x t V 0 n f s ∧ i < n ∧ StaticIs s "java/lang/String" "COMPACT_STRINGS" "Z" (.int z) ∧ ¬ z = 0 ∧ StaticIs s "jdk/internal/util/Preconditions" "SIOOBE_FORMATTER" "Ljava/util/function/BiFunction;" fm ∧ fm.isRef = true
def E (f : Nat → Int32) (i : Nat) (r : Option Value) (s u : State) : Prop := XT.PureE (some (.int (f i))) r s u
/-- charAt(i) of a Latin-1 String of n chars, i < n: f i -/
theorem law (l : Launch) (x t : Addr) (V : Cell) (n : Nat) (f : Nat → Int32) (z : Int32) (fm : Value) (i : Nat) : Law l yN 2 1 3 40 yB 2 (some .char) site (P x t V n f z fm i) (E f i) [] 0 0 := by
  refine Law.of_walk (plainFor_of_name (by decide +kernel)) (by decide +kernel) (by decide +kernel) (by decide) (fun _ _ h => by rw [h.1]; rfl) (fun _ U U' hal hh h => ⟨h.1, h.2.1.mv hal hh, h.2.2.1, h.2.2.2.1.there hal hh, h.2.2.2.2.1, h.2.2.2.2.2.1.there hal hh, h.2.2.2.2.2.2⟩) (fun r U U' V V' h1 hal h2 h => XT.PureE.mv r U U' V V' h1 hal h2 h) ?_
  intro p e s m args below meth c s₁ X0 hexec hbytes hml hret hlk hnm hown hh0 W hP
  obtain ⟨rfl, hx, hi, s1, hz, s3, rf⟩ := hP
  have v31 := hx.2.2.2.1.2.2.2
  have hr := hx.2.2.2.2.2 i hi
  have hx0 := hx.mv X0.warmed.alike hh0
  have c1 : Steps p.tables e below (s₁.setTop (entryFrame m #[.ref x, .int (Int32.ofNat i)] 2)) (s₁.setTop (mkF m 1 #[.val (.ref x), .val (.int (Int32.ofNat i))] [.ref x])) := Steps.trans (entry rfl) (by
    show Steps p.tables e below (s₁.setTop (mkF m 0 #[.val (.ref x), .val (.int (Int32.ofNat i))] [])) _
    refine XS.aloadN X0.here hexec rfl (hb hbytes d0) rfl rfl ?_
    exact Steps.refl _)
  obtain ⟨v2, T2, X2, E2, g2⟩ := X0.callV hexec (IsL.law l x 0 z) hown (wks W (virtW "java/lang/String" 492 "java/lang/String" IsL.yN IsL.yN)) rfl (by decide) (wk W IsL.tab) (W := 0) (Nat.le_of_ble_eq_true rfl) (Nat.le_of_ble_eq_true rfl) (Nat.le_refl _) (Nat.le_refl _) (hx0.1.fc X0.warmed.alike) hx0.1.is (g := (mkF m 1 #[.val (.ref x), .val (.int (Int32.ofNat i))] [.ref x])) rfl (by rw [hml]; rfl) c1 (argsL := []) (rest := []) rfl rfl (by show 2 * 0 + 0 ≤ _; decide) (hb hbytes d1) (⟨rfl, hx0.2.2.1, hx.2.2.2.2.1.cd, s1.there X0.warmed.alike hh0, hz⟩)
  obtain ⟨rfl, q2⟩ := E2
  have hh2 := q2.trans hh0
  have hx2 := hx.mv X2.warmed.alike hh2
  obtain ⟨-, k1, k2⟩ | ⟨k0, -⟩ := hx.2.2.2.2.1
  · have c3 : Steps p.tables e below (s₁.setTop (entryFrame m #[.ref x, .int (Int32.ofNat i)] 2)) (T2.setTop (mkF m 8 #[.val (.ref x), .val (.int (Int32.ofNat i))] [.ref x])) := Steps.trans g2 (by
      refine XS.ifNo X2.here hexec rfl (hb hbytes d4) rfl (i0_eq_f (by decide)) ?_
      refine XS.aloadN X2.here hexec rfl (hb hbytes d7) rfl rfl ?_
      exact Steps.refl _)
    obtain ⟨T4, X4, q4, st4⟩ := X2.hget hexec hown (wk W (.fieldLink "java/lang/String" 9 "java/lang/String" "value" "[B")) hx2.2.1 (g := (mkF m 8 #[.val (.ref x), .val (.int (Int32.ofNat i))] [.ref x])) rfl (rest := []) rfl (hb hbytes d8)
    have hh4 := q4.trans hh2
    have c5 : Steps p.tables e below (s₁.setTop (entryFrame m #[.ref x, .int (Int32.ofNat i)] 2)) (T4.setTop (mkF m 12 #[.val (.ref x), .val (.int (Int32.ofNat i))] [.int (Int32.ofNat i), .ref t])) := (c3.trans (st4 _ (Steps.refl _))).trans (by
      refine XS.iloadN X4.here hexec rfl (hb hbytes d11) rfl ?_
      exact Steps.refl _)
    obtain ⟨v6, T6, X6, E6, g6⟩ := X4.callS hexec (LChA.law l t V i (lo8 (f i)) fm) hown (wks W (staticW "java/lang/String" 495 LChA.yN)) (wk W LChA.tab) (W := 0) (Nat.le_of_ble_eq_true rfl) (Nat.le_of_ble_eq_true rfl) (Nat.le_refl _) (Nat.le_refl _) (g := (mkF m 12 #[.val (.ref x), .val (.int (Int32.ofNat i))] [.int (Int32.ofNat i), .ref t])) rfl (by rw [hml]; rfl) c5 (argsL := [.ref t, .int (Int32.ofNat i)]) (rest := []) rfl rfl (by show 2 * 0 + 0 ≤ _; decide) (hb hbytes d12) (⟨rfl, hx.2.2.2.1.mv X4.warmed.alike hh4, (k2 i hi).1, s3.there X4.warmed.alike hh4, rf⟩)
    obtain ⟨rfl, q6⟩ := E6
    rw [chr8_lo8 hr.1 (k2 i hi).2] at g6
    exact ⟨T6, some (.int (f i)), _, _, _, X6, rfl, rfl, rfl, (fun h => by cases h), ⟨rfl, q6.trans hh4⟩, fun fs hl => Steps.trans g6 (X6.ireturnOut hexec hret (narrow_ch hr.1 hr.2) (Or.inr (Or.inr (Or.inr (Or.inl rfl)))) (hb hbytes d15) hl)⟩
  · exact absurd k0 (by decide)
theorem pays {l : Launch} {R : Room} {p : Program} {e : Env} {below : List Frame} {s : State} {sargs : Array Value} {len W : Nat} (x t : Addr) (V : Cell) (n : Nat) (f : Nat → Int32) (z : Int32) (fm : Value) (i : Nat) (htab : tab.before sargs s = true) (hfr : 4 ≤ R.frames) (hlo : W + 53 ≤ R.locals) :
    Back l R p e below s sargs yN len W (fun A₁ a₁ => A₁.cells + 0 ≤ R.cells ∧ A₁.slots + 0 ≤ R.slots ∧ P x t V n f z fm i a₁ A₁.U) (fun A₁ _ v₁ B₁ => E f i v₁ A₁.U B₁.U ∧ B₁.locs = A₁.locs ++ [] ∧ B₁.cells = A₁.cells + 0 ∧ B₁.slots = A₁.slots + 0) :=
  (law l x t V n f z fm i).pays htab hfr (by omega)
end ChN
end StrChars
namespace StrChars.Road
open Jvm Sem ClassFile Op Lib Jvm.Stand Jvm.Free Jvm.Free.XT
open Jvm.Lib.Cold (StaticIs)
/-- the words of String.charAt(int), the Latin-1 road alone -/
abbrev wordsChN : List Jvm.Cond := [.code ChN.yN ChN.yB 2 (some .char), .initialized ST, .fieldLink ST 9 ST "value" "[B", .fieldLink ST 38 ST "COMPACT_STRINGS" "Z", .fieldLink ST 15 ST "coder" "B", .code IsL.yN IsL.yB 1 (some .boolean), .methodLink ST 492 IsL.yN, .declares IsL.yN, .selects ST IsL.yN IsL.yN, .instanceMethod IsL.yN,
  .methodLink ST 495 LChA.yN, .static LChA.yN, .code LChA.yN LChA.yB 2 (some .char), .initialized "java/lang/StringLatin1", .methodLink "java/lang/StringLatin1" 9 JO.Str_checkIndex.yN, .static JO.Str_checkIndex.yN, .code JO.Str_checkIndex.yN JO.Str_checkIndex.yB 2 none,
  .fieldLink ST 1053 "jdk/internal/util/Preconditions" "SIOOBE_FORMATTER" "Ljava/util/function/BiFunction;", .methodLink ST 1059 JC.PreCheck.yN, .static JC.PreCheck.yN, .code JC.PreCheck.yN JC.PreCheck.yB 3 (some .int), .initialized "jdk/internal/util/Preconditions"]
theorem tabChN_of {a : Array Value} {s : State} (h : ∀ w ∈ wordsChN, w.before a s = true) : ChN.tab.before a s = true := by
  have hp : JC.PreCheck.tab.before a s = true := unparts (wk h (.code JC.PreCheck.yN JC.PreCheck.yB 3 (some .int))) (wks h (.initialized JC.PreCheck.yN.cls :: JC.PreCheck.site))
  have qk := consq hp h
  have hk : JO.Str_checkIndex.tab.before a s = true := unparts (wk qk (.code JO.Str_checkIndex.yN JO.Str_checkIndex.yB 2 none)) (wks qk (.initialized JO.Str_checkIndex.yN.cls :: JO.Str_checkIndex.site))
  have ql := consq hk h
  have hl : LChA.tab.before a s = true := unparts (wk ql (.code LChA.yN LChA.yB 2 (some .char))) (wks ql (.initialized LChA.yN.cls :: LChA.site))
  have hi : IsL.tab.before a s = true := unparts (wk h (.code IsL.yN IsL.yB 1 (some .boolean))) (wks h (.initialized IsL.yN.cls :: IsL.site))
  have q := consq hi (consq hl h)
  exact unparts (wk q (.code ChN.yN ChN.yB 2 (some .char))) (wks q (.initialized ChN.yN.cls :: ChN.site))
theorem movedChN {Z s : State} {a0 args : Array Value} (hZ : Z.Warmed39 s.vm) (hw : ∀ d ∈ wordsChN, d.before a0 Z = true) : ∀ d ∈ wordsChN, d.before args s = true := fun d hd => by
  have t : ∀ d ∈ wordsChN, (d.onTables && d.keepsFace) = true := by decide +kernel
  exact RoadKit.mv hZ (hw d hd) (t d hd)
/-- **charAt(i) OF A LATIN-1 STRING**, i < n: the char -/
theorem chN {p : Program} {l : Launch} {e : Env} {R : Room} {s : State} {args : Array Value} {below : List Frame} {len W : Nat} {Z : State} {a0 : Array Value} {h : Heap} (hZ : Z.Warmed39 s.vm) (hw : ∀ d ∈ wordsChN, d.before a0 Z = true) {kI : Nat} (wi : (Jvm.Cond.instantiable ST kI).before a0 Z = true)
    {x t : Addr} {kb : ClassId} {cs : List Int32} {N2 z : Int32} {vs : List Value} {fm : Value} {i : Nat} {j : Int32} (E : RoadKit.Exa Z h x ST) (V : RoadKit.Fld Z h x ST "value" "[B" (.ref t)) (C : RoadKit.Fld Z h x ST "coder" "B" (.int 0)) (K : RoadKit.Arv Z h t kb .byte N2 vs (.int 0)) (hc : CodA cs 0 N2 vs) (hb : ∀ c ∈ cs, ¬ c < 0 ∧ ¬ (65535 : Int32) < c)
    (S : RoadKit.Sta Z h ST "COMPACT_STRINGS" "Z" (.int z)) (hz : ¬ z = 0) (F : RoadKit.Sta Z h "jdk/internal/util/Preconditions" "SIOOBE_FORMATTER" "Ljava/util/function/BiFunction;" fm) (rf : fm.isRef = true) (l2 : cs.length ≤ 4000) (hi : i < cs.length) (hj : j = Int32.ofNat i) (hfr : 4 ≤ R.frames) (hlo : W + 53 ≤ R.locals) :
    Back l R p e below s args (⟨"java/lang/String", "charAt", "(I)C"⟩ : MethodName) len W (fun P a => a = #[.ref x, .int j] ∧ P.U.heap = h ∧ P.cells + 0 ≤ R.cells ∧ P.slots + 0 ≤ R.slots)
      (fun P _ v B => ∃ L, (v = some (.int (cs.getD i 0)) ∧ L = [] ∧ B.U.heap = h) ∧ B.locs = P.locs ++ L ∧ B.cells = P.cells + 0 ∧ B.slots = P.slots + 0) := by
  subst hj
  intro m meth c P g ig mk a X hg hsize hdg hW hn hp'
  obtain ⟨rfl, rfl, r1, r2⟩ := hp'
  have al : Z.vm.Alike P.U.vm := hZ.alike.trans X.warmed.alike
  obtain ⟨A, hx⟩ := txt_of wi al E V C K hc hb l2
  obtain ⟨v, B, X', ⟨⟨hv, hh⟩, hl, hk, hs⟩, st⟩ := ChN.pays x t A cs.length (fun j => cs.getD j 0) z fm i (tabChN_of (movedChN hZ hw)) hfr hlo m meth c P g ig mk _ X hg hsize hdg hW hn ⟨r1, r2, rfl, hx, hi, sta_is al S, hz, sta_is al F, rf⟩
  exact ⟨v, B, X', ⟨[], ⟨hv, rfl, hh⟩, hl, hk, hs⟩, st⟩
end StrChars.Road
end Jvm.Pilot.@@N@@
namespace Jvm.Pilot.@@N@@
open Jvm Jvm.ClassFile Sem Op Lib Jvm.Free Jvm.Stand Jvm.LawKit Jvm.RoadKit Bundle
/-! THE WALK's OWN LAYER: one predicate (Wk) for 'the walk stands at this frame', one lemma a step. -/
/-- a comparison of closed numbers -/
theorem nle {a b : Nat} (h : Nat.ble a b = true := by rfl) : a ≤ b := Nat.le_of_ble_eq_true h
section OwnWk
/-- the walk of y's body stands at the frame g, its heap h, its tables V; it has come from S0 -/
def Wk (p : Program) (l : Launch) (e : Env) (R : Room) (s : State) (m : MethodId) (args : Array Value) (below : List Frame) (meth : Method) (c : Code) (Z : State) (a0 : Array Value) (EL : List (String × Nat)) (S0 : State) (y : MethodName) (B : ByteArray) (ml : Nat) (ret : Option FieldType) (V : Vm) (h : Heap) (cl sl : Nat) (g : JFrame) : Prop :=
  (p.tables.exec = Jvm.exec ∧ c.code = B ∧ c.maxLocals = ml ∧ meth.sig.returnType = ret ∧ meth.locks = false ∧ Z.vm.findClass y.cls = some m.cls ∧ meth.name = y.name ∧ EW Z a0 EL) ∧
  (Z.Warmed39 V ∧ CHr Z EL s.vm s.heap V h ∧ Ext Z.heap h) ∧
  ∃ (T : State) (locs : List Loc) (k0 : Nat), Stand p l e R (s.setVm V) m args below meth c T locs cl sl ∧ T.heap = h ∧ s.Since V k0 ∧ k0 ≤ h.size ∧ Fr Z.heap.size locs ∧ ∀ t, Steps p.tables e below (T.setTop g) t → Steps p.tables e below S0 t
/-- the walk that began at S0 comes back, with Q of what it returns and leaves; k new cells, n new slots at the most -/
def Fini (p : Program) (e : Env) (below : List Frame) (s : State) (Z : State) (EL : List (String × Nat)) (S0 : State) (k n : Nat) (Q : Option Value → Heap → Prop) : Prop :=
  ∃ (s₂ : State) (o : Outcome), Steps p.tables e below S0 s₂ ∧ s₂.status = .running ∧ Ended s₂ below o ∧ ∃ (v : Option Value) (L : List Loc), o = .returned v ∧ Q v s₂.heap ∧ Ext Z.heap s₂.heap ∧ Fr Z.heap.size L ∧ CHr Z EL s.vm s.heap s₂.vm s₂.heap ∧ ReturnedEndW s o s₂ L k n
/-- a contract of y -/
def Met (l : Launch) (Z : State) (EL : List (String × Nat)) (y : MethodName) (B : ByteArray) (ml : Nat) (ret : Option FieldType) (ws : List Jvm.Cond) (rm : Room) (as' : Array Value) (h : Heap) (sf : List Addr) (Q : Option Value → Heap → Prop) : Prop :=
  MetFree l y (head1 (Jvm.Cond.code y B ml ret :: ws) rm) (fun a U => a = as' ∧ Z.Warmed39 U.vm ∧ U.heap = h ∧ CHv Z EL U.vm h ∧ ∀ x ∈ sf, Safe Z EL U.vm h x) (fun _ _ _ _ _ => True)
    (fun _ U o U' => ∃ (v : Option Value) (L : List Loc), o = .returned v ∧ Q v U'.heap ∧ Ext Z.heap U'.heap ∧ Fr Z.heap.size L ∧ CHr Z EL U.vm U.heap U'.vm U'.heap ∧ ReturnedEndW U o U' L rm.cells rm.slots)
variable {p : Program} {l : Launch} {e : Env} {R : Room} {s : State} {m : MethodId} {args : Array Value} {below : List Frame} {meth : Method} {c : Code} {Z : State} {a0 : Array Value} {EL : List (String × Nat)} {S0 : State} {y : MethodName} {B : ByteArray} {ml : Nat} {ret : Option FieldType} {V : Vm} {h : Heap} {cl sl : Nat}
theorem Met.of {ws : List Jvm.Cond} {rm : Room} {as' : Array Value} {sf : List Addr} {Q : Option Value → Heap → Prop} (hpl : plainFor y = true) (hEL : EW Z a0 EL) (hx : Ext Z.heap h)
    (body : ∀ (p : Program) (e : Env) (s : State) (m : MethodId) (below : List Frame) (meth : Method) (c : Code) (S0 : State) (V : Vm), Wk p l e rm s m as' below meth c Z a0 EL S0 y B ml ret V h 0 0 (entryFrame m as' ml) → s.heap = h → (∀ x ∈ sf, Safe Z EL V h x) → Fini p e below s Z EL S0 rm.cells rm.slots Q) :
    Met l Z EL y B ml ret ws rm as' h sf Q := by
  refine MetFree.of_bodySF hpl hisR ?_
  intro p e s m args below meth c s₁ Bd hml0 hP hK
  obtain ⟨rfl, hZ, hh, hC, hsf⟩ := hP
  have X0 : Stand p l e rm s m args below meth c s₁ [] 0 0 := Stand.of_body Bd
  have e0 : s₁.heap = h := by rw [← hh, Bd.state]; rfl
  have hown : s.vm.findClass y.cls = some m.cls := findClass_of_methodNamed Bd.named
  subst hh
  exact body p e s m below meth c (s₁.setTop (entryFrame m args ml)) s.vm
    ⟨⟨Bd.exec, Bd.bytes, hml0, Bd.returns, Bd.notSynchronized, by rw [← hZ.alike.findClass]; exact hown, (name_of_methodNamed Bd.named Bd.method).1, hEL⟩, ⟨hZ, CHr.refl hC, hx⟩, s₁, [], s.heap.size, X0, e0, (State.WarmedH.refl s).since _, Nat.le_refl _, Fr.nil _, fun t k => k⟩ rfl hsf
theorem Wk.hZ {g : JFrame} (w : Wk p l e R s m args below meth c Z a0 EL S0 y B ml ret V h cl sl g) : Z.Warmed39 V := w.2.1.1
theorem Wk.ch {g : JFrame} (w : Wk p l e R s m args below meth c Z a0 EL S0 y B ml ret V h cl sl g) : CHv Z EL V h := w.2.1.2.1.1
theorem Wk.old {g : JFrame} (w : Wk p l e R s m args below meth c Z a0 EL S0 y B ml ret V h cl sl g) : Ext Z.heap h := w.2.1.2.2
theorem Wk.zsz {g : JFrame} (w : Wk p l e R s m args below meth c Z a0 EL S0 y B ml ret V h cl sl g) : Z.heap.size ≤ h.size := w.2.1.2.2.1
theorem Wk.el {g : JFrame} (w : Wk p l e R s m args below meth c Z a0 EL S0 y B ml ret V h cl sl g) : EW Z a0 EL := w.1.2.2.2.2.2.2.2
/-- one plain step -/
theorem Wk.st {g g' : JFrame} (w : Wk p l e R s m args below meth c Z a0 EL S0 y B ml ret V h cl sl g)
    (k : ∀ (T : State) (t : State), At T m c below → p.tables.exec = Jvm.exec → c.code = B → Steps p.tables e below (T.setTop g') t → Steps p.tables e below (T.setTop g) t) : Wk p l e R s m args below meth c Z a0 EL S0 y B ml ret V h cl sl g' := by
  obtain ⟨hf, hz, T, locs, k0, X, e0, h1, h2, h3, st⟩ := w
  exact ⟨hf, hz, T, locs, k0, X, e0, h1, h2, h3, fun t hr => st t (k T t X.here hf.1 hf.2.1 hr)⟩
/-- a step that asks the Stand, and leaves it -/
theorem Wk.stX {g g' : JFrame} (w : Wk p l e R s m args below meth c Z a0 EL S0 y B ml ret V h cl sl g)
    (k : ∀ (T : State) (locs : List Loc) (t : State), Stand p l e R (s.setVm V) m args below meth c T locs cl sl → T.heap = h → Steps p.tables e below (T.setTop g') t → Steps p.tables e below (T.setTop g) t) : Wk p l e R s m args below meth c Z a0 EL S0 y B ml ret V h cl sl g' := by
  obtain ⟨hf, hz, T, locs, k0, X, e0, h1, h2, h3, st⟩ := w
  exact ⟨hf, hz, T, locs, k0, X, e0, h1, h2, h3, fun t hr => st t (k T locs t X e0 hr)⟩
theorem Wk.to {g g' : JFrame} (w : Wk p l e R s m args below meth c Z a0 EL S0 y B ml ret V h cl sl g) (q : g = g') : Wk p l e R s m args below meth c Z a0 EL S0 y B ml ret V h cl sl g' := q ▸ w
theorem Wk.more {g : JFrame} {cl' sl' : Nat} (w : Wk p l e R s m args below meth c Z a0 EL S0 y B ml ret V h cl sl g) (q1 : cl ≤ cl') (q2 : sl ≤ sl') : Wk p l e R s m args below meth c Z a0 EL S0 y B ml ret V h cl' sl' g := by
  obtain ⟨hf, hz, T, locs, k0, X, r⟩ := w
  exact ⟨hf, hz, T, locs, k0, X.more q1 q2, r⟩

theorem Wk.iloadN {pc pc' : Nat} {L : Array Slot} {st : List Value} {k : Fin 4} {x : Int32} (w : Wk p l e R s m args below meth c Z a0 EL S0 y B ml ret V h cl sl (mkF m pc L st)) (hd : decode B pc = .ok (.iload_n k, 1)) (hl : L[k.val]? = some (.val (.int x))) (hp : pc + 1 = pc' := by rfl) : Wk p l e R s m args below meth c Z a0 EL S0 y B ml ret V h cl sl (mkF m pc' L (.int x :: st)) := by
  subst hp
  exact w.st fun T t X hx hB k => XS.iloadN X hx rfl (hb hB hd) hl k
theorem Wk.iload {pc pc' : Nat} {L : Array Slot} {st : List Value} {k : Nat} {x : Int32} (w : Wk p l e R s m args below meth c Z a0 EL S0 y B ml ret V h cl sl (mkF m pc L st)) (hd : decode B pc = .ok (.iload k, 2)) (hl : L[k]? = some (.val (.int x))) (hp : pc + 2 = pc' := by rfl) : Wk p l e R s m args below meth c Z a0 EL S0 y B ml ret V h cl sl (mkF m pc' L (.int x :: st)) := by
  subst hp
  exact w.st fun T t X hx hB k => XS.iload X hx rfl (hb hB hd) hl k
theorem Wk.aloadN {pc pc' : Nat} {L : Array Slot} {st : List Value} {k : Fin 4} {x : Value} (w : Wk p l e R s m args below meth c Z a0 EL S0 y B ml ret V h cl sl (mkF m pc L st)) (hd : decode B pc = .ok (.aload_n k, 1)) (hl : L[k.val]? = some (.val x)) (hv : x.isRef = true := by rfl) (hp : pc + 1 = pc' := by rfl) : Wk p l e R s m args below meth c Z a0 EL S0 y B ml ret V h cl sl (mkF m pc' L (x :: st)) := by
  subst hp
  exact w.st fun T t X hx hB k => XS.aloadN X hx rfl (hb hB hd) hl hv k
theorem Wk.aload {pc pc' : Nat} {L : Array Slot} {st : List Value} {k : Nat} {x : Value} (w : Wk p l e R s m args below meth c Z a0 EL S0 y B ml ret V h cl sl (mkF m pc L st)) (hd : decode B pc = .ok (.aload k, 2)) (hl : L[k]? = some (.val x)) (hv : x.isRef = true := by rfl) (hp : pc + 2 = pc' := by rfl) : Wk p l e R s m args below meth c Z a0 EL S0 y B ml ret V h cl sl (mkF m pc' L (x :: st)) := by
  subst hp
  exact w.st fun T t X hx hB k => XS.aload X hx rfl (hb hB hd) hl hv k
theorem Wk.istoreN {pc pc' : Nat} {L : Array Slot} {st : List Value} {k : Fin 4} {x : Int32} {L' : Array Slot} (w : Wk p l e R s m args below meth c Z a0 EL S0 y B ml ret V h cl sl (mkF m pc L (.int x :: st))) (hd : decode B pc = .ok (.istore_n k, 1)) (hl : storeLocals L k.val (.int x) = some L') (hp : pc + 1 = pc' := by rfl) : Wk p l e R s m args below meth c Z a0 EL S0 y B ml ret V h cl sl (mkF m pc' L' st) := by
  subst hp
  exact w.st fun T t X hx hB k => XS.istoreN X hx rfl (hb hB hd) rfl hl k
theorem Wk.istore {pc pc' : Nat} {L : Array Slot} {st : List Value} {k : Nat} {x : Int32} {L' : Array Slot} (w : Wk p l e R s m args below meth c Z a0 EL S0 y B ml ret V h cl sl (mkF m pc L (.int x :: st))) (hd : decode B pc = .ok (.istore k, 2)) (hl : storeLocals L k (.int x) = some L') (hp : pc + 2 = pc' := by rfl) : Wk p l e R s m args below meth c Z a0 EL S0 y B ml ret V h cl sl (mkF m pc' L' st) := by
  subst hp
  exact w.st fun T t X hx hB k => XS.istore X hx rfl (hb hB hd) rfl hl k
theorem Wk.astoreN {pc pc' : Nat} {L : Array Slot} {st : List Value} {k : Fin 4} {x : Value} {L' : Array Slot} (w : Wk p l e R s m args below meth c Z a0 EL S0 y B ml ret V h cl sl (mkF m pc L (x :: st))) (hd : decode B pc = .ok (.astore_n k, 1)) (hl : storeLocals L k.val x = some L') (hv : x.isRef = true := by rfl) (hp : pc + 1 = pc' := by rfl) : Wk p l e R s m args below meth c Z a0 EL S0 y B ml ret V h cl sl (mkF m pc' L' st) := by
  subst hp
  exact w.st fun T t X hx hB k => XS.astoreN X hx rfl (hb hB hd) rfl hv hl k
theorem Wk.astore {pc pc' : Nat} {L : Array Slot} {st : List Value} {k : Nat} {x : Value} {L' : Array Slot} (w : Wk p l e R s m args below meth c Z a0 EL S0 y B ml ret V h cl sl (mkF m pc L (x :: st))) (hd : decode B pc = .ok (.astore k, 2)) (hl : storeLocals L k x = some L') (hv : x.isRef = true := by rfl) (hp : pc + 2 = pc' := by rfl) : Wk p l e R s m args below meth c Z a0 EL S0 y B ml ret V h cl sl (mkF m pc' L' st) := by
  subst hp
  exact w.st fun T t X hx hB k => XS.astore X hx rfl (hb hB hd) rfl hv hl k
theorem Wk.iinc {pc pc' : Nat} {L : Array Slot} {st : List Value} {k : Nat} {cst : Int} {x : Int32} {L' : Array Slot} (w : Wk p l e R s m args below meth c Z a0 EL S0 y B ml ret V h cl sl (mkF m pc L st)) (hd : decode B pc = .ok (.iinc k cst, 3)) (hl : L[k]? = some (.val (.int x))) (hl' : storeLocals L k (.int (x + Int32.ofInt cst)) = some L') (hp : pc + 3 = pc' := by rfl) : Wk p l e R s m args below meth c Z a0 EL S0 y B ml ret V h cl sl (mkF m pc' L' st) := by
  subst hp
  exact w.st fun T t X hx hB k => XS.iinc X hx rfl (hb hB hd) hl hl' k
theorem Wk.iconst {pc pc' : Nat} {L : Array Slot} {st : List Value} {i : Int} (x : Int32) (w : Wk p l e R s m args below meth c Z a0 EL S0 y B ml ret V h cl sl (mkF m pc L st)) (hd : decode B pc = .ok (.iconst i, 1)) (hx0 : Int32.ofInt i = x := by rfl) (hp : pc + 1 = pc' := by rfl) : Wk p l e R s m args below meth c Z a0 EL S0 y B ml ret V h cl sl (mkF m pc' L (.int x :: st)) := by
  subst hp hx0
  exact w.st fun T t X hx hB k => XS.iconst X hx rfl (hb hB hd) k
theorem Wk.bipush {pc pc' : Nat} {L : Array Slot} {st : List Value} {i : Int} (x : Int32) (w : Wk p l e R s m args below meth c Z a0 EL S0 y B ml ret V h cl sl (mkF m pc L st)) (hd : decode B pc = .ok (.bipush i, 2)) (hx0 : (Int8.ofInt i).toInt32 = x := by rfl) (hp : pc + 2 = pc' := by rfl) : Wk p l e R s m args below meth c Z a0 EL S0 y B ml ret V h cl sl (mkF m pc' L (.int x :: st)) := by
  subst hp hx0
  exact w.st fun T t X hx hB k => XS.bipush X hx rfl (hb hB hd) k
theorem Wk.sipush {pc pc' : Nat} {L : Array Slot} {st : List Value} {i : Int} (x : Int32) (w : Wk p l e R s m args below meth c Z a0 EL S0 y B ml ret V h cl sl (mkF m pc L st)) (hd : decode B pc = .ok (.sipush i, 3)) (hx0 : (Int16.ofInt i).toInt32 = x := by rfl) (hp : pc + 3 = pc' := by rfl) : Wk p l e R s m args below meth c Z a0 EL S0 y B ml ret V h cl sl (mkF m pc' L (.int x :: st)) := by
  subst hp hx0
  exact w.st fun T t X hx hB k => XS.sipush X hx rfl (hb hB hd) k
theorem Wk.aconstNull {pc pc' : Nat} {L : Array Slot} {st : List Value}  (w : Wk p l e R s m args below meth c Z a0 EL S0 y B ml ret V h cl sl (mkF m pc L st)) (hd : decode B pc = .ok (.aconst_null, 1))  (hp : pc + 1 = pc' := by rfl) : Wk p l e R s m args below meth c Z a0 EL S0 y B ml ret V h cl sl (mkF m pc' L (.null :: st)) := by
  subst hp
  exact w.st fun T t X hx hB k => XS.aconstNull X hx rfl (hb hB hd)  k
theorem Wk.dup {pc pc' : Nat} {L : Array Slot} {st : List Value} {x : Value} (w : Wk p l e R s m args below meth c Z a0 EL S0 y B ml ret V h cl sl (mkF m pc L (x :: st))) (hd : decode B pc = .ok (.dup, 1)) (hc : x.category = 1 := by rfl) (hp : pc + 1 = pc' := by rfl) : Wk p l e R s m args below meth c Z a0 EL S0 y B ml ret V h cl sl (mkF m pc' L (x :: x :: st)) := by
  subst hp
  exact w.st fun T t X hx hB k => XS.dup X hx rfl (hb hB hd) rfl hc k
theorem Wk.pop {pc pc' : Nat} {L : Array Slot} {st : List Value} {x : Value} (w : Wk p l e R s m args below meth c Z a0 EL S0 y B ml ret V h cl sl (mkF m pc L (x :: st))) (hd : decode B pc = .ok (.pop, 1)) (hc : x.category = 1 := by rfl) (hp : pc + 1 = pc' := by rfl) : Wk p l e R s m args below meth c Z a0 EL S0 y B ml ret V h cl sl (mkF m pc' L st) := by
  subst hp
  exact w.st fun T t X hx hB k => XS.pop X hx rfl (hb hB hd) rfl hc k
theorem Wk.iadd {pc pc' : Nat} {L : Array Slot} {st : List Value} {x yy : Int32} (w : Wk p l e R s m args below meth c Z a0 EL S0 y B ml ret V h cl sl (mkF m pc L (.int yy :: .int x :: st))) (hd : decode B pc = .ok (.iadd, 1))  (hp : pc + 1 = pc' := by rfl) : Wk p l e R s m args below meth c Z a0 EL S0 y B ml ret V h cl sl (mkF m pc' L (.int (x + yy) :: st)) := by
  subst hp
  exact w.st fun T t X hx hB k => XS.iadd X hx rfl (hb hB hd) rfl k
theorem Wk.isub {pc pc' : Nat} {L : Array Slot} {st : List Value} {x yy : Int32} (w : Wk p l e R s m args below meth c Z a0 EL S0 y B ml ret V h cl sl (mkF m pc L (.int yy :: .int x :: st))) (hd : decode B pc = .ok (.isub, 1))  (hp : pc + 1 = pc' := by rfl) : Wk p l e R s m args below meth c Z a0 EL S0 y B ml ret V h cl sl (mkF m pc' L (.int (x - yy) :: st)) := by
  subst hp
  exact w.st fun T t X hx hB k => XS.isub X hx rfl (hb hB hd) rfl k
theorem Wk.imul {pc pc' : Nat} {L : Array Slot} {st : List Value} {x yy : Int32} (w : Wk p l e R s m args below meth c Z a0 EL S0 y B ml ret V h cl sl (mkF m pc L (.int yy :: .int x :: st))) (hd : decode B pc = .ok (.imul, 1))  (hp : pc + 1 = pc' := by rfl) : Wk p l e R s m args below meth c Z a0 EL S0 y B ml ret V h cl sl (mkF m pc' L (.int (x * yy) :: st)) := by
  subst hp
  exact w.st fun T t X hx hB k => XS.imul X hx rfl (hb hB hd) rfl k
theorem Wk.iand {pc pc' : Nat} {L : Array Slot} {st : List Value} {x yy : Int32} (w : Wk p l e R s m args below meth c Z a0 EL S0 y B ml ret V h cl sl (mkF m pc L (.int yy :: .int x :: st))) (hd : decode B pc = .ok (.iand, 1))  (hp : pc + 1 = pc' := by rfl) : Wk p l e R s m args below meth c Z a0 EL S0 y B ml ret V h cl sl (mkF m pc' L (.int (x &&& yy) :: st)) := by
  subst hp
  exact w.st fun T t X hx hB k => XS.iand X hx rfl (hb hB hd) rfl k
theorem Wk.ior {pc pc' : Nat} {L : Array Slot} {st : List Value} {x yy : Int32} (w : Wk p l e R s m args below meth c Z a0 EL S0 y B ml ret V h cl sl (mkF m pc L (.int yy :: .int x :: st))) (hd : decode B pc = .ok (.ior, 1))  (hp : pc + 1 = pc' := by rfl) : Wk p l e R s m args below meth c Z a0 EL S0 y B ml ret V h cl sl (mkF m pc' L (.int (x ||| yy) :: st)) := by
  subst hp
  exact w.st fun T t X hx hB k => XS.ior X hx rfl (hb hB hd) rfl k
theorem Wk.ixor {pc pc' : Nat} {L : Array Slot} {st : List Value} {x yy : Int32} (w : Wk p l e R s m args below meth c Z a0 EL S0 y B ml ret V h cl sl (mkF m pc L (.int yy :: .int x :: st))) (hd : decode B pc = .ok (.ixor, 1))  (hp : pc + 1 = pc' := by rfl) : Wk p l e R s m args below meth c Z a0 EL S0 y B ml ret V h cl sl (mkF m pc' L (.int (x ^^^ yy) :: st)) := by
  subst hp
  exact w.st fun T t X hx hB k => XS.ixor X hx rfl (hb hB hd) rfl k
theorem Wk.ishl {pc pc' : Nat} {L : Array Slot} {st : List Value} {x yy : Int32} (w : Wk p l e R s m args below meth c Z a0 EL S0 y B ml ret V h cl sl (mkF m pc L (.int yy :: .int x :: st))) (hd : decode B pc = .ok (.ishl, 1))  (hp : pc + 1 = pc' := by rfl) : Wk p l e R s m args below meth c Z a0 EL S0 y B ml ret V h cl sl (mkF m pc' L (.int (x <<< (yy &&& 31)) :: st)) := by
  subst hp
  exact w.st fun T t X hx hB k => XS.ishl X hx rfl (hb hB hd) rfl k
theorem Wk.ishr {pc pc' : Nat} {L : Array Slot} {st : List Value} {x yy : Int32} (w : Wk p l e R s m args below meth c Z a0 EL S0 y B ml ret V h cl sl (mkF m pc L (.int yy :: .int x :: st))) (hd : decode B pc = .ok (.ishr, 1))  (hp : pc + 1 = pc' := by rfl) : Wk p l e R s m args below meth c Z a0 EL S0 y B ml ret V h cl sl (mkF m pc' L (.int (x >>> (yy &&& 31)) :: st)) := by
  subst hp
  exact w.st fun T t X hx hB k => XS.ishr X hx rfl (hb hB hd) rfl k
theorem Wk.iushr {pc pc' : Nat} {L : Array Slot} {st : List Value} {x yy : Int32} (w : Wk p l e R s m args below meth c Z a0 EL S0 y B ml ret V h cl sl (mkF m pc L (.int yy :: .int x :: st))) (hd : decode B pc = .ok (.iushr, 1))  (hp : pc + 1 = pc' := by rfl) : Wk p l e R s m args below meth c Z a0 EL S0 y B ml ret V h cl sl (mkF m pc' L (.int ((x.toUInt32 >>> (yy &&& 31).toUInt32).toInt32) :: st)) := by
  subst hp
  exact w.st fun T t X hx hB k => XS.iushr X hx rfl (hb hB hd) rfl k
theorem Wk.idiv {pc pc' : Nat} {L : Array Slot} {st : List Value} {x yy : Int32} (w : Wk p l e R s m args below meth c Z a0 EL S0 y B ml ret V h cl sl (mkF m pc L (.int yy :: .int x :: st))) (hd : decode B pc = .ok (.idiv, 1)) (hy : yy ≠ 0) (hp : pc + 1 = pc' := by rfl) : Wk p l e R s m args below meth c Z a0 EL S0 y B ml ret V h cl sl (mkF m pc' L (.int (x / yy) :: st)) := by
  subst hp
  exact w.st fun T t X hx hB k => XS.idiv X hx rfl (hb hB hd) rfl hy k
theorem Wk.irem {pc pc' : Nat} {L : Array Slot} {st : List Value} {x yy : Int32} (w : Wk p l e R s m args below meth c Z a0 EL S0 y B ml ret V h cl sl (mkF m pc L (.int yy :: .int x :: st))) (hd : decode B pc = .ok (.irem, 1)) (hy : yy ≠ 0) (hp : pc + 1 = pc' := by rfl) : Wk p l e R s m args below meth c Z a0 EL S0 y B ml ret V h cl sl (mkF m pc' L (.int (x % yy) :: st)) := by
  subst hp
  exact w.stX fun T locs t X e0 k => iremM X w.1.1 rfl (hb w.1.2.1 hd) rfl hy k
theorem Wk.ineg {pc pc' : Nat} {L : Array Slot} {st : List Value} {x : Int32} (w : Wk p l e R s m args below meth c Z a0 EL S0 y B ml ret V h cl sl (mkF m pc L (.int x :: st))) (hd : decode B pc = .ok (.ineg, 1))  (hp : pc + 1 = pc' := by rfl) : Wk p l e R s m args below meth c Z a0 EL S0 y B ml ret V h cl sl (mkF m pc' L (.int (-x) :: st)) := by
  subst hp
  exact w.st fun T t X hx hB k => XS.ineg X hx rfl (hb hB hd) rfl k
theorem Wk.i2b {pc pc' : Nat} {L : Array Slot} {st : List Value} {x : Int32} (w : Wk p l e R s m args below meth c Z a0 EL S0 y B ml ret V h cl sl (mkF m pc L (.int x :: st))) (hd : decode B pc = .ok (.i2b, 1))  (hp : pc + 1 = pc' := by rfl) : Wk p l e R s m args below meth c Z a0 EL S0 y B ml ret V h cl sl (mkF m pc' L (.int (x.toInt8.toInt32) :: st)) := by
  subst hp
  exact w.st fun T t X hx hB k => XS.i2b X hx rfl (hb hB hd) rfl k
theorem Wk.i2c {pc pc' : Nat} {L : Array Slot} {st : List Value} {x : Int32} (w : Wk p l e R s m args below meth c Z a0 EL S0 y B ml ret V h cl sl (mkF m pc L (.int x :: st))) (hd : decode B pc = .ok (.i2c, 1))  (hp : pc + 1 = pc' := by rfl) : Wk p l e R s m args below meth c Z a0 EL S0 y B ml ret V h cl sl (mkF m pc' L (.int (x.toUInt32.toUInt16.toUInt32.toInt32) :: st)) := by
  subst hp
  exact w.st fun T t X hx hB k => XS.i2c X hx rfl (hb hB hd) rfl k
theorem Wk.i2s {pc pc' : Nat} {L : Array Slot} {st : List Value} {x : Int32} (w : Wk p l e R s m args below meth c Z a0 EL S0 y B ml ret V h cl sl (mkF m pc L (.int x :: st))) (hd : decode B pc = .ok (.i2s, 1))  (hp : pc + 1 = pc' := by rfl) : Wk p l e R s m args below meth c Z a0 EL S0 y B ml ret V h cl sl (mkF m pc' L (.int (x.toInt16.toInt32) :: st)) := by
  subst hp
  exact w.st fun T t X hx hB k => XS.i2s X hx rfl (hb hB hd) rfl k
theorem Wk.goto {pc pc' : Nat} {L : Array Slot} {st : List Value} {o : Int} (w : Wk p l e R s m args below meth c Z a0 EL S0 y B ml ret V h cl sl (mkF m pc L st)) (hd : decode B pc = .ok (.goto o, 3)) (ho : 0 ≤ (pc : Int) + o := by decide) (hp : ((pc : Int) + o).toNat = pc' := by decide) : Wk p l e R s m args below meth c Z a0 EL S0 y B ml ret V h cl sl (mkF m pc' L st) := by
  subst hp
  exact w.st fun T t X hx hB k => XS.goto X hx rfl rfl (hb hB hd) ho rfl k
theorem Wk.ifYes {pc pc' : Nat} {L : Array Slot} {st : List Value} {cd : ClassFile.Cond} {o : Int} {x : Int32} (w : Wk p l e R s m args below meth c Z a0 EL S0 y B ml ret V h cl sl (mkF m pc L (.int x :: st))) (hd : decode B pc = .ok (.ifCond cd o, 3)) (hc : ifCond.holds cd x = true) (ho : 0 ≤ (pc : Int) + o := by decide) (hp : ((pc : Int) + o).toNat = pc' := by decide) : Wk p l e R s m args below meth c Z a0 EL S0 y B ml ret V h cl sl (mkF m pc' L st) := by
  subst hp
  exact w.st fun T t X hx hB k => XS.ifYes X hx rfl rfl (hb hB hd) rfl hc ho rfl k
theorem Wk.icmpYes {pc pc' : Nat} {L : Array Slot} {st : List Value} {cd : ClassFile.Cond} {o : Int} {x yy : Int32} (w : Wk p l e R s m args below meth c Z a0 EL S0 y B ml ret V h cl sl (mkF m pc L (.int yy :: .int x :: st))) (hd : decode B pc = .ok (.if_icmp cd o, 3)) (hc : if_icmp.holds cd x yy = true) (ho : 0 ≤ (pc : Int) + o := by decide) (hp : ((pc : Int) + o).toNat = pc' := by decide) : Wk p l e R s m args below meth c Z a0 EL S0 y B ml ret V h cl sl (mkF m pc' L st) := by
  subst hp
  exact w.st fun T t X hx hB k => XS.icmpYes X hx rfl rfl (hb hB hd) rfl hc ho rfl k
theorem Wk.ifnullYes {pc pc' : Nat} {L : Array Slot} {st : List Value} {o : Int} (w : Wk p l e R s m args below meth c Z a0 EL S0 y B ml ret V h cl sl (mkF m pc L (.null :: st))) (hd : decode B pc = .ok (.ifnull o, 3))  (ho : 0 ≤ (pc : Int) + o := by decide) (hp : ((pc : Int) + o).toNat = pc' := by decide) : Wk p l e R s m args below meth c Z a0 EL S0 y B ml ret V h cl sl (mkF m pc' L st) := by
  subst hp
  exact w.st fun T t X hx hB k => XS.ifnullYes X hx rfl rfl (hb hB hd) rfl ho rfl k
theorem Wk.ifnonnullYes {pc pc' : Nat} {L : Array Slot} {st : List Value} {o : Int} {b : Addr} (w : Wk p l e R s m args below meth c Z a0 EL S0 y B ml ret V h cl sl (mkF m pc L (.ref b :: st))) (hd : decode B pc = .ok (.ifnonnull o, 3))  (ho : 0 ≤ (pc : Int) + o := by decide) (hp : ((pc : Int) + o).toNat = pc' := by decide) : Wk p l e R s m args below meth c Z a0 EL S0 y B ml ret V h cl sl (mkF m pc' L st) := by
  subst hp
  exact w.st fun T t X hx hB k => XS.ifnonnullYes X hx rfl rfl (hb hB hd) rfl ho rfl k
theorem Wk.ifNo {pc pc' : Nat} {L : Array Slot} {st : List Value} {cd : ClassFile.Cond} {o : Int} {x : Int32} (w : Wk p l e R s m args below meth c Z a0 EL S0 y B ml ret V h cl sl (mkF m pc L (.int x :: st))) (hd : decode B pc = .ok (.ifCond cd o, 3)) (hc : ifCond.holds cd x = false) (hp : pc + 3 = pc' := by rfl) : Wk p l e R s m args below meth c Z a0 EL S0 y B ml ret V h cl sl (mkF m pc' L st) := by
  subst hp
  exact w.st fun T t X hx hB k => XS.ifNo X hx rfl (hb hB hd) rfl hc k
theorem Wk.icmpNo {pc pc' : Nat} {L : Array Slot} {st : List Value} {cd : ClassFile.Cond} {o : Int} {x yy : Int32} (w : Wk p l e R s m args below meth c Z a0 EL S0 y B ml ret V h cl sl (mkF m pc L (.int yy :: .int x :: st))) (hd : decode B pc = .ok (.if_icmp cd o, 3)) (hc : if_icmp.holds cd x yy = false) (hp : pc + 3 = pc' := by rfl) : Wk p l e R s m args below meth c Z a0 EL S0 y B ml ret V h cl sl (mkF m pc' L st) := by
  subst hp
  exact w.st fun T t X hx hB k => XS.icmpNo X hx rfl (hb hB hd) rfl hc k
theorem Wk.ifnullNo {pc pc' : Nat} {L : Array Slot} {st : List Value} {o : Int} {b : Addr} (w : Wk p l e R s m args below meth c Z a0 EL S0 y B ml ret V h cl sl (mkF m pc L (.ref b :: st))) (hd : decode B pc = .ok (.ifnull o, 3))  (hp : pc + 3 = pc' := by rfl) : Wk p l e R s m args below meth c Z a0 EL S0 y B ml ret V h cl sl (mkF m pc' L st) := by
  subst hp
  exact w.st fun T t X hx hB k => XS.ifnullNo X hx rfl (hb hB hd) rfl k
theorem Wk.ifnonnullNo {pc pc' : Nat} {L : Array Slot} {st : List Value} {o : Int} (w : Wk p l e R s m args below meth c Z a0 EL S0 y B ml ret V h cl sl (mkF m pc L (.null :: st))) (hd : decode B pc = .ok (.ifnonnull o, 3))  (hp : pc + 3 = pc' := by rfl) : Wk p l e R s m args below meth c Z a0 EL S0 y B ml ret V h cl sl (mkF m pc' L st) := by
  subst hp
  exact w.st fun T t X hx hB k => XS.ifnonnullNo X hx rfl (hb hB hd) rfl k

theorem Wk.acmp {pc pc' : Nat} {L : Array Slot} {st : List Value} {cd : ACond} {o : Int} {x yy : Value} (same : Bool) (w : Wk p l e R s m args below meth c Z a0 EL S0 y B ml ret V h cl sl (mkF m pc L (yy :: x :: st))) (hd : decode B pc = .ok (.if_acmp cd o, 3)) (hq : decide (x = yy) = same) (h1 : x.isRef = true := by rfl) (h2 : yy.isRef = true := by rfl) (ho : 0 ≤ (pc : Int) + o := by decide) (hp : pc' = if acV cd same = true then ((pc : Int) + o).toNat else pc + 3 := by rfl) :
    Wk p l e R s m args below meth c Z a0 EL S0 y B ml ret V h cl sl (mkF m pc' L st) :=
  w.stX fun T locs t X e0 k => RoadKit.acmp X w.1.1 rfl h1 h2 rfl (hb w.1.2.1 hd) rfl hq ho hp k
theorem Wk.ldcI {pc pc' : Nat} {L : Array Slot} {st : List Value} {index : Nat} {x : Int32} (w : Wk p l e R s m args below meth c Z a0 EL S0 y B ml ret V h cl sl (mkF m pc L st)) (wc : (Jvm.Cond.constant y.cls index x).before a0 Z = true) (hd : decode B pc = .ok (.ldc index, 2)) (hp : pc + 2 = pc' := by rfl) :
    Wk p l e R s m args below meth c Z a0 EL S0 y B ml ret V h cl sl (mkF m pc' L (.int x :: st)) := by
  subst hp
  exact w.stX fun T locs t X e0 k => X.ldcInt w.1.1 (by rw [show (s.setVm V).vm = V from rfl, w.hZ.alike.findClass]; exact w.1.2.2.2.2.2.1) (mv (s := s.setVm V) w.hZ wc) (g := mkF m pc L st) rfl (hb w.1.2.1 hd) t k
theorem Wk.own {g : JFrame} (w : Wk p l e R s m args below meth c Z a0 EL S0 y B ml ret V h cl sl g) : V.findClass y.cls = some m.cls := by rw [w.hZ.alike.findClass]; exact w.1.2.2.2.2.2.1
/-- the heap has changed: the walk goes on over h' -/
theorem Wk.heap {g g' : JFrame} {h' : Heap} {cl' sl' : Nat} (w : Wk p l e R s m args below meth c Z a0 EL S0 y B ml ret V h cl sl g) (A : CHr Z EL V h V h') (O : Ext Z.heap h')
    (k : ∀ (T : State) (locs : List Loc), Stand p l e R (s.setVm V) m args below meth c T locs cl sl → T.heap = h → Fr Z.heap.size locs → ∃ (T' : State) (locs' : List Loc), Stand p l e R (s.setVm V) m args below meth c T' locs' cl' sl' ∧ T'.heap = h' ∧ Fr Z.heap.size locs' ∧ ∀ t, Steps p.tables e below (T'.setTop g') t → Steps p.tables e below (T.setTop g) t) :
    Wk p l e R s m args below meth c Z a0 EL S0 y B ml ret V h' cl' sl' g' := by
  obtain ⟨hf, ⟨hz, hC, hO⟩, T, locs, k0, X, e0, h1, h2, h3, st⟩ := w
  obtain ⟨T', locs', X', e', f', st'⟩ := k T locs X e0 h3
  exact ⟨hf, ⟨hz, hC.trans A, O⟩, T', locs', k0, X', e', h1, Nat.le_trans h2 A.2.1, f', fun t q => st t (st' t q)⟩
theorem extT {h0 h1 h2 : Heap} (A : Ext h0 h1) (B : Ext h1 h2) : Ext h0 h2 := ⟨Nat.le_trans A.1 B.1, fun a c q => B.2 a c (A.2 a c q)⟩
theorem extR (h0 : Heap) : Ext h0 h0 := ⟨Nat.le_refl _, fun _ _ q => q⟩
theorem extW {h0 h1 h2 : Heap} {a : Addr} {n : Nat} {v : Value} (A : Ext h0 h1) (W : Wr h1 h2 a n v) (q : h0.size ≤ a) : Ext h0 h2 := by
  obtain ⟨cell, h1', h2', h3', rfl⟩ := W
  refine ⟨by simpa using A.1, fun b cb hb => ?_⟩
  have : a ≠ b := fun z => by subst z; exact absurd (Array.getElem?_eq_some_iff.mp hb).1 (Nat.not_lt.mpr q)
  rw [Array.getElem?_setIfInBounds_ne this]; exact A.2 b cb hb
theorem extK {h0 h1 h2 : Heap} {ws : List Addr} (A : Ext h0 h1) (K : Keep h1 h2 ws) (q : ∀ x ∈ ws, h0.size ≤ x) : Ext h0 h2 :=
  ⟨Nat.le_trans A.1 K.1, fun b cb hb => K.2.1 b cb (A.2 b cb hb) fun z => absurd (Array.getElem?_eq_some_iff.mp hb).1 (Nat.not_lt.mpr (q b z))⟩
theorem keepE {h0 h1 : Heap} (A : Ext h0 h1) (ws : List Addr) : Keep h0 h1 ws := (Keep.refl h0 ws).ext A
/-- new C -/
theorem Wk.new {pc pc' : Nat} {L : Array Slot} {st : List Value} {C : String} {index n : Nat} (w : Wk p l e R s m args below meth c Z a0 EL S0 y B ml ret V h cl sl (mkF m pc L st)) (wl : (Jvm.Cond.classLink y.cls index C).before a0 Z = true) (wi : (Jvm.Cond.instantiable C n).before a0 Z = true) (wz : (Jvm.Cond.initialized C).before a0 Z = true)
    (hd : decode B pc = .ok (.new index, 3)) (hc : cl + 1 ≤ R.cells) (hl : sl + n ≤ R.slots) (hp : pc + 3 = pc' := by rfl) :
    ∃ (h' : Heap) (a : Addr), a = h.size ∧ Ext h h' ∧ Exa Z h' a C ∧ (∀ {O nm d : String} {ty : FieldType}, Laid Z a0 C O nm d → parseFieldDescriptor d = some ty → Fld Z h' a O nm d (defaultValue ty)) ∧ Safe Z EL V h' a ∧ CHr Z EL V h V h' ∧
      Wk p l e R s m args below meth c Z a0 EL S0 y B ml ret V h' (cl + 1) (sl + n) (mkF m pc' L (.ref a :: st)) := by
  subst hp
  obtain ⟨hf, ⟨hz, hC, hO⟩, T, locs, k0, X, e0, h1, h2, h3, st0⟩ := id w
  obtain ⟨T', h', X', e', E, A, D, -, st'⟩ := newO X hf.1 hz w.own wl wi wz e0 (g := mkF m pc L st) rfl (hb hf.2.1 hd) hc hl
  have Q : CHr Z EL V h V h' := CHr.ext E w.ch
  exact ⟨h', h.size, rfl, E, A, D, Safe.ext E w.ch (Safe.new (Nat.le_refl _)), Q, hf, ⟨hz, hC.trans Q, extT hO E⟩, T', locs, k0, X', e', h1, Nat.le_trans h2 E.1, h3, fun t q => st0 t (st' t q)⟩
/-- newarray -/
theorem Wk.newarr {pc pc' : Nat} {L : Array Slot} {st : List Value} {aty : ArrayType} {n : Int32} {cap : Nat} (w : Wk p l e R s m args below meth c Z a0 EL S0 y B ml ret V h cl sl (mkF m pc L (.int n :: st))) (wa : (Jvm.Cond.arrayClass (newarray.typeOf aty)).before a0 Z = true)
    (hd : decode B pc = .ok (.newarray aty, 2)) (hn : ¬ n < 0) (hcap : n.toNatClampNeg ≤ cap) (hc : cl + 1 ≤ R.cells) (hl : sl + cap ≤ R.slots) (hb8 : cap * 8 ≤ 536870912 := by decide) (hp : pc + 2 = pc' := by rfl) :
    ∃ (h' : Heap) (a : Addr) (k : ClassId), a = h.size ∧ Ext h h' ∧ Arv Z h' a k (newarray.typeOf aty) n [] (defaultValue (newarray.typeOf aty)) ∧ Safe Z EL V h' a ∧ CHr Z EL V h V h' ∧
      Wk p l e R s m args below meth c Z a0 EL S0 y B ml ret V h' (cl + 1) (sl + cap) (mkF m pc' L (.ref a :: st)) := by
  subst hp
  obtain ⟨hf, ⟨hz, hC, hO⟩, T, locs, k0, X, e0, h1, h2, h3, st0⟩ := id w
  obtain ⟨T', h', k, X', e', E, A, st'⟩ := newP X hf.1 hz wa e0 (g := mkF m pc L (.int n :: st)) rfl (hb hf.2.1 hd) rfl hn hcap hb8 hc hl
  have Q : CHr Z EL V h V h' := CHr.ext E w.ch
  exact ⟨h', h.size, k, rfl, E, Arv.new A hn, Safe.ext E w.ch (Safe.new (Nat.le_refl _)), Q, hf, ⟨hz, hC.trans Q, extT hO E⟩, T', locs, k0, X', e', h1, Nat.le_trans h2 E.1, h3, fun t q => st0 t (st' t q)⟩
/-- castore into an array of the walk's own -/
theorem Wk.castore {pc pc' : Nat} {L : Array Slot} {st : List Value} {a : Addr} {k : ClassId} {z j x x' : Int32} {vs : List Value} {dv : Value} (w : Wk p l e R s m args below meth c Z a0 EL S0 y B ml ret V h cl sl (mkF m pc L (.int x :: .int j :: .ref a :: st))) (A : Arv Z h a k .char z vs dv)
    (hd : decode B pc = .ok (.castore, 1)) (hj : ¬ j < 0 ∧ j < z) (hx' : nar .char x = x') (i : Nat) (hi : j.toNatClampNeg = i) (hlen : i < vs.length) (ha : Z.heap.size ≤ a) (hp : pc + 1 = pc' := by rfl) :
    ∃ h' : Heap, Keep h h' [a] ∧ Arv Z h' a k .char z (vs.set i (.int x')) dv ∧ CHr Z EL V h V h' ∧ Wk p l e R s m args below meth c Z a0 EL S0 y B ml ret V h' cl sl (mkF m pc' L st) := by
  subst hp hx'
  obtain ⟨hf, ⟨hz, hC, hO⟩, T, locs, k0, X, e0, h1, h2, h3, st0⟩ := id w
  obtain ⟨cA, A1, A2, A3, A4, A5, A6⟩ := id A
  obtain ⟨T', h', X', e', W, st'⟩ := stC X hf.1 hz e0 A1 (j := j) (inb_of A3 hj) (g := mkF m pc L (.int x :: .int j :: .ref a :: st)) rfl rfl (hb hf.2.1 hd)
  have Q : CHr Z EL V h V h' := CHr.wr W (Safe.arr hz.alike A1 (by decide)) w.ch
  exact ⟨h', Keep.of_wr W, Arv.set A1 A2 A3 A4 A5 A6 (fits_nar_char x) W i hi hlen, Q, hf, ⟨hz, hC.trans Q, extW hO W ha⟩, T', _, k0, X', e', h1, Nat.le_trans h2 Q.2.1, Fr.snoc X' h3 ha, fun t q => st0 t (st' t q)⟩
theorem Wk.bastore {pc pc' : Nat} {L : Array Slot} {st : List Value} {a : Addr} {k : ClassId} {z j x x' : Int32} {vs : List Value} {dv : Value} (w : Wk p l e R s m args below meth c Z a0 EL S0 y B ml ret V h cl sl (mkF m pc L (.int x :: .int j :: .ref a :: st))) (A : Arv Z h a k .byte z vs dv)
    (hd : decode B pc = .ok (.bastore, 1)) (hj : ¬ j < 0 ∧ j < z) (hx' : x.toInt8.toInt32 = x') (i : Nat) (hi : j.toNatClampNeg = i) (hlen : i < vs.length) (ha : Z.heap.size ≤ a) (S : Safe Z EL V h a) (hp : pc + 1 = pc' := by rfl) :
    ∃ h' : Heap, Keep h h' [a] ∧ Arv Z h' a k .byte z (vs.set i (.int x')) dv ∧ CHr Z EL V h V h' ∧ Wk p l e R s m args below meth c Z a0 EL S0 y B ml ret V h' cl sl (mkF m pc' L st) := by
  subst hp hx'
  obtain ⟨hf, ⟨hz, hC, hO⟩, T, locs, k0, X, e0, h1, h2, h3, st0⟩ := id w
  obtain ⟨cA, A1, A2, A3, A4, A5, A6⟩ := id A
  obtain ⟨T', h', X', e', W, st'⟩ := stB X hf.1 hz e0 A1 (j := j) (inb_of A3 hj) (g := mkF m pc L (.int x :: .int j :: .ref a :: st)) rfl rfl (hb hf.2.1 hd)
  have Q : CHr Z EL V h V h' := CHr.wr W S w.ch
  exact ⟨h', Keep.of_wr W, Arv.set A1 A2 A3 A4 A5 A6 (fits_nar_byte x) W i hi hlen, Q, hf, ⟨hz, hC.trans Q, extW hO W ha⟩, T', _, k0, X', e', h1, Nat.le_trans h2 Q.2.1, Fr.snoc X' h3 ha, fun t q => st0 t (st' t q)⟩
theorem Wk.arrlen {pc pc' : Nat} {L : Array Slot} {st : List Value} {a : Addr} {k : ClassId} {ty : FieldType} {z : Int32} {vs : List Value} {dv : Value} (w : Wk p l e R s m args below meth c Z a0 EL S0 y B ml ret V h cl sl (mkF m pc L (.ref a :: st))) (A : Arv Z h a k ty z vs dv) (hd : decode B pc = .ok (.arraylength, 1)) (hp : pc + 1 = pc' := by rfl) :
    Wk p l e R s m args below meth c Z a0 EL S0 y B ml ret V h cl sl (mkF m pc' L (.int z :: st)) := by
  subst hp
  obtain ⟨cA, A1, A2, A3, A4, A5, A6⟩ := A
  have e1 := len_of A3 A4
  exact w.stX fun T locs t X e0 q => X.arraylength w.1.1 (by rw [e0]; exact A1.1) (State.isArrayOf_alike w.hZ.alike A1.2.1) (g := mkF m pc L (.ref a :: st)) rfl rfl (hb w.1.2.1 hd) t (by rw [e1]; exact q)
theorem Wk.caload {pc pc' : Nat} {L : Array Slot} {st : List Value} {a : Addr} {k : ClassId} {z j : Int32} {vs : List Value} {dv v : Value} (w : Wk p l e R s m args below meth c Z a0 EL S0 y B ml ret V h cl sl (mkF m pc L (.int j :: .ref a :: st))) (A : Arv Z h a k .char z vs dv) (hd : decode B pc = .ok (.caload, 1)) (hj : ¬ j < 0 ∧ j < z) (hv : vs.getD j.toNatClampNeg dv = v) (hp : pc + 1 = pc' := by rfl) :
    Wk p l e R s m args below meth c Z a0 EL S0 y B ml ret V h cl sl (mkF m pc' L (v :: st)) := by
  subst hp
  obtain ⟨cA, A1, A2, A3, A4, A5, A6⟩ := A
  have hin := inb_of A3 hj
  exact w.stX fun T locs t X e0 q => X.caload w.1.1 (by rw [e0]; exact A1.1) (State.isArrayOf_alike w.hZ.alike A1.2.1) A1.2.2 hin (A5.at hin hv) (g := mkF m pc L (.int j :: .ref a :: st)) rfl rfl (hb w.1.2.1 hd) t q
theorem Wk.baload {pc pc' : Nat} {L : Array Slot} {st : List Value} {a : Addr} {k : ClassId} {z j : Int32} {vs : List Value} {dv v : Value} (w : Wk p l e R s m args below meth c Z a0 EL S0 y B ml ret V h cl sl (mkF m pc L (.int j :: .ref a :: st))) (A : Arv Z h a k .byte z vs dv) (hd : decode B pc = .ok (.baload, 1)) (hj : ¬ j < 0 ∧ j < z) (hv : vs.getD j.toNatClampNeg dv = v) (hp : pc + 1 = pc' := by rfl) :
    Wk p l e R s m args below meth c Z a0 EL S0 y B ml ret V h cl sl (mkF m pc' L (v :: st)) := by
  subst hp
  obtain ⟨cA, A1, A2, A3, A4, A5, A6⟩ := A
  have hin := inb_of A3 hj
  exact w.stX fun T locs t X e0 q => X.baloadBytes w.1.1 (by rw [e0]; exact A1.1) (State.isArrayOf_alike w.hZ.alike A1.2.1) A1.2.2 hin (A5.at hin hv) (g := mkF m pc L (.int j :: .ref a :: st)) rfl rfl (hb w.1.2.1 hd) t q
theorem Wk.iaload {pc pc' : Nat} {L : Array Slot} {st : List Value} {a : Addr} {k : ClassId} {z j : Int32} {vs : List Value} {dv v : Value} (w : Wk p l e R s m args below meth c Z a0 EL S0 y B ml ret V h cl sl (mkF m pc L (.int j :: .ref a :: st))) (A : Arv Z h a k .int z vs dv) (hd : decode B pc = .ok (.iaload, 1)) (hj : ¬ j < 0 ∧ j < z) (hv : vs.getD j.toNatClampNeg dv = v) (hp : pc + 1 = pc' := by rfl) :
    Wk p l e R s m args below meth c Z a0 EL S0 y B ml ret V h cl sl (mkF m pc' L (v :: st)) := by
  subst hp
  obtain ⟨cA, A1, A2, A3, A4, A5, A6⟩ := A
  have hin := inb_of A3 hj
  exact w.stX fun T locs t X e0 q => X.iaload w.1.1 (by rw [e0]; exact A1.1) (State.isArrayOf_alike w.hZ.alike A1.2.1) A1.2.2 hin (A5.at hin hv) (g := mkF m pc L (.int j :: .ref a :: st)) rfl rfl (hb w.1.2.1 hd) t q
theorem Wk.aaload {pc pc' : Nat} {L : Array Slot} {st : List Value} {a : Addr} {k : ClassId} {z j : Int32} {ty : FieldType} {vs : List Value} {dv v : Value} (w : Wk p l e R s m args below meth c Z a0 EL S0 y B ml ret V h cl sl (mkF m pc L (.int j :: .ref a :: st))) (A : Arv Z h a k ty z vs dv) (hd : decode B pc = .ok (.aaload, 1)) (hj : ¬ j < 0 ∧ j < z) (hv : vs.getD j.toNatClampNeg dv = v) (hty : ty.isReference = true := by rfl) (hp : pc + 1 = pc' := by rfl) :
    Wk p l e R s m args below meth c Z a0 EL S0 y B ml ret V h cl sl (mkF m pc' L (v :: st)) := by
  subst hp
  obtain ⟨cA, A1, A2, A3, A4, A5, A6⟩ := A
  have hin := inb_of A3 hj
  exact w.stX fun T locs t X e0 q => X.aaload w.1.1 (by rw [e0]; exact A1.1) (State.isArrayOf_alike w.hZ.alike A1.2.1) hty A1.2.2 hin (A5.at hin hv) (g := mkF m pc L (.int j :: .ref a :: st)) rfl rfl (hb w.1.2.1 hd) t q

theorem Wk.getF {pc pc' : Nat} {L : Array Slot} {st : List Value} {index : Nat} {O n d : String} {a : Addr} {v : Value} (w : Wk p l e R s m args below meth c Z a0 EL S0 y B ml ret V h cl sl (mkF m pc L (.ref a :: st))) (wl : (Jvm.Cond.fieldLink y.cls index O n d).before a0 Z = true) (F : Fld Z h a O n d v) (hd : decode B pc = .ok (.getfield index, 3)) (hp : pc + 3 = pc' := by rfl) :
    Wk p l e R s m args below meth c Z a0 EL S0 y B ml ret V h cl sl (mkF m pc' L (v :: st)) := by
  subst hp
  refine w.heap (CHr.refl w.ch) w.old fun T locs X e0 f => ?_
  obtain ⟨T', X', e', st'⟩ := RoadKit.getF X w.1.1 w.hZ w.own (host := "") (Or.inl wl) Via.refl e0 F (g := mkF m pc L (.ref a :: st)) rfl rfl (hb w.1.2.1 hd)
  exact ⟨T', locs, X', e', f, st'⟩
theorem Wk.getS {pc pc' : Nat} {L : Array Slot} {st : List Value} {index : Nat} {O n d : String} {v : Value} (w : Wk p l e R s m args below meth c Z a0 EL S0 y B ml ret V h cl sl (mkF m pc L st)) (wl : (Jvm.Cond.fieldLink y.cls index O n d).before a0 Z = true) (F : Sta Z Z.heap O n d v) (hd : decode B pc = .ok (.getstatic index, 3)) (hp : pc + 3 = pc' := by rfl) :
    Wk p l e R s m args below meth c Z a0 EL S0 y B ml ret V h cl sl (mkF m pc' L (v :: st)) := by
  subst hp
  refine w.heap (CHr.refl w.ch) w.old fun T locs X e0 f => ?_
  obtain ⟨T', X', e', st'⟩ := RoadKit.getS X w.1.1 w.hZ (host := "") w.own wl Via.refl e0 (F.ext w.old) (g := mkF m pc L st) rfl (hb w.1.2.1 hd)
  exact ⟨T', locs, X', e', f, st'⟩
theorem Wk.putF {pc pc' : Nat} {L : Array Slot} {st : List Value} {index kk : Nat} {O n d C : String} {ty : FieldType} {a : Addr} {v old : Value} (w : Wk p l e R s m args below meth c Z a0 EL S0 y B ml ret V h cl sl (mkF m pc L (v :: .ref a :: st))) (wl : (Jvm.Cond.fieldLink y.cls index O n d).before a0 Z = true) (F : Fld Z h a O n d old) (E : Exa Z h a C)
    (La : (Jvm.Cond.lays C O n d).before a0 Z = true ∨ ((Jvm.Cond.laysFinal C O n d).before a0 Z = true ∧ y.cls = O ∧ y.name = "<init>")) (wi : (Jvm.Cond.instantiable C kk).before a0 Z = true) (hty : parseFieldDescriptor d = some ty) (hn : narrow ty v = v) (hf0 : fits ty v = true) (S : Safe Z EL V h a) (ha : Z.heap.size ≤ a) (hd : decode B pc = .ok (.putfield index, 3)) (hp : pc + 3 = pc' := by rfl) :
    ∃ h' : Heap, Wr h h' a (RoadKit.slotOf Z O n d) v ∧ Keep h h' [a] ∧ Fld Z h' a O n d v ∧ CHr Z EL V h V h' ∧ Wk p l e R s m args below meth c Z a0 EL S0 y B ml ret V h' cl sl (mkF m pc' L st) := by
  subst hp
  obtain ⟨hf, ⟨hz, hC, hO⟩, T, locs, k0, X, e0, h1, h2, h3, st0⟩ := id w
  obtain ⟨T', h', X', e', W, st'⟩ := RoadKit.putF X hf.1 hz w.own (host := "") (Or.inl wl) Via.refl e0 F E (La.imp id fun q => ⟨q.1, q.2.1, hf.2.2.2.2.2.2.1.trans q.2.2⟩) wi hty hn hf0 (g := mkF m pc L (v :: .ref a :: st)) rfl rfl (hb hf.2.1 hd)
  have Q : CHr Z EL V h V h' := CHr.wr W S w.ch
  exact ⟨h', W, Keep.of_wr W, F.same W, Q, hf, ⟨hz, hC.trans Q, extW hO W ha⟩, T', _, k0, X', e', h1, Nat.le_trans h2 Q.2.1, Fr.snoc X' h3 ha, fun t q => st0 t (st' t q)⟩
theorem Wk.putFN {pc pc' : Nat} {L : Array Slot} {st : List Value} {index kk : Nat} {O n d C : String} {ty : FieldType} {a : Addr} {v v' old : Value} (w : Wk p l e R s m args below meth c Z a0 EL S0 y B ml ret V h cl sl (mkF m pc L (v :: .ref a :: st))) (wl : (Jvm.Cond.fieldLink y.cls index O n d).before a0 Z = true) (F : Fld Z h a O n d old) (E : Exa Z h a C)
    (La : (Jvm.Cond.lays C O n d).before a0 Z = true ∨ ((Jvm.Cond.laysFinal C O n d).before a0 Z = true ∧ y.cls = O ∧ y.name = "<init>")) (wi : (Jvm.Cond.instantiable C kk).before a0 Z = true) (hty : parseFieldDescriptor d = some ty) (hn : narrow ty v = v') (hf0 : fits ty v' = true) (S : Safe Z EL V h a) (ha : Z.heap.size ≤ a) (hd : decode B pc = .ok (.putfield index, 3)) (hp : pc + 3 = pc' := by rfl) :
    ∃ h' : Heap, Wr h h' a (RoadKit.slotOf Z O n d) v' ∧ Keep h h' [a] ∧ Fld Z h' a O n d v' ∧ CHr Z EL V h V h' ∧ Wk p l e R s m args below meth c Z a0 EL S0 y B ml ret V h' cl sl (mkF m pc' L st) := by
  subst hp
  obtain ⟨hf, ⟨hz, hC, hO⟩, T, locs, k0, X, e0, h1, h2, h3, st0⟩ := id w
  obtain ⟨T', h', X', e', W, st'⟩ := RoadKit.putFN X hf.1 hz w.own wl Via.refl e0 F E (La.imp id fun q => ⟨q.1, q.2.1, hf.2.2.2.2.2.2.1.trans q.2.2⟩) wi hty hn hf0 (g := mkF m pc L (v :: .ref a :: st)) rfl rfl (hb hf.2.1 hd)
  have Q : CHr Z EL V h V h' := CHr.wr W S w.ch
  exact ⟨h', W, Keep.of_wr W, F.same W, Q, hf, ⟨hz, hC.trans Q, extW hO W ha⟩, T', _, k0, X', e', h1, Nat.le_trans h2 Q.2.1, Fr.snoc X' h3 ha, fun t q => st0 t (st' t q)⟩
theorem Wk.cast {pc pc' : Nat} {L : Array Slot} {st : List Value} {index : Nat} {K : String} {a : Addr} (w : Wk p l e R s m args below meth c Z a0 EL S0 y B ml ret V h cl sl (mkF m pc L (.ref a :: st))) (wl : (Jvm.Cond.classLink y.cls index K).before a0 Z = true) (F : Ins Z h a K true) (hd : decode B pc = .ok (.checkcast index, 3)) (hp : pc + 3 = pc' := by rfl) :
    Wk p l e R s m args below meth c Z a0 EL S0 y B ml ret V h cl sl (mkF m pc' L (.ref a :: st)) := by
  subst hp
  refine w.heap (CHr.refl w.ch) w.old fun T locs X e0 f => ?_
  obtain ⟨T', X', e', st'⟩ := castY X w.1.1 w.hZ w.own wl e0 F (g := mkF m pc L (.ref a :: st)) rfl rfl (hb w.1.2.1 hd)
  exact ⟨T', locs, X', e', f, st'⟩
theorem Wk.inst {pc pc' : Nat} {L : Array Slot} {st : List Value} {index : Nat} {K : String} {a : Addr} (w : Wk p l e R s m args below meth c Z a0 EL S0 y B ml ret V h cl sl (mkF m pc L (.ref a :: st))) (wl : (Jvm.Cond.classLink y.cls index K).before a0 Z = true) (F : Ins Z h a K true) (hd : decode B pc = .ok (.instanceof index, 3)) (hp : pc + 3 = pc' := by rfl) :
    Wk p l e R s m args below meth c Z a0 EL S0 y B ml ret V h cl sl (mkF m pc' L (.int 1 :: st)) := by
  subst hp
  refine w.heap (CHr.refl w.ch) w.old fun T locs X e0 f => ?_
  obtain ⟨T', X', e', st'⟩ := instY X w.1.1 w.hZ w.own wl e0 F (g := mkF m pc L (.ref a :: st)) rfl rfl (hb w.1.2.1 hd)
  exact ⟨T', locs, X', e', f, st'⟩
theorem Wk.instNull {pc pc' : Nat} {L : Array Slot} {st : List Value} {index : Nat} (w : Wk p l e R s m args below meth c Z a0 EL S0 y B ml ret V h cl sl (mkF m pc L (.null :: st))) (hd : decode B pc = .ok (.instanceof index, 3)) (hp : pc + 3 = pc' := by rfl) :
    Wk p l e R s m args below meth c Z a0 EL S0 y B ml ret V h cl sl (mkF m pc' L (.int 0 :: st)) := by
  subst hp
  exact w.stX fun T locs t X e0 k => X.instanceofNull w.1.1 (g := mkF m pc L (.null :: st)) rfl rfl (hb w.1.2.1 hd) t k
/-- Object.<init> -/
theorem Wk.initO {pc pc' : Nat} {L : Array Slot} {st : List Value} {idx : Nat} {a : Addr} (W : Nat) (w : Wk p l e R s m args below meth c Z a0 EL S0 y B ml ret V h cl sl (mkF m pc L (.ref a :: st))) (w1 : (Jvm.Cond.methodLink y.cls idx Lib.objectInit).before a0 Z = true) (w2 : (Jvm.Cond.instanceMethod Lib.objectInit).before a0 Z = true)
    (w3 : (Jvm.Cond.code Lib.objectInit ⟨#[0xb1]⟩ 1 none).before a0 Z = true) (hL : L.size = ml) (hd : decode B pc = .ok (.invokespecial idx, 3)) (hfr : 1 ≤ R.frames) (hW : (st.map fun v => v.category).sum ≤ W) (hlo : W + 12 ≤ R.locals) (hp : pc + 3 = pc' := by rfl) :
    Wk p l e R s m args below meth c Z a0 EL S0 y B ml ret V h cl sl (mkF m pc' L st) := by
  subst hp
  refine w.heap (CHr.refl w.ch) w.old fun T locs X e0 f => ?_
  obtain ⟨T', X', e', st'⟩ := RoadKit.initO X w.1.1 w.hZ w.own w1 w2 w3 e0 (g := mkF m pc L (.ref a :: st)) rfl (hL.trans w.1.2.2.1.symm) rfl (hb w.1.2.1 hd) hfr (W := W) (by show 2 * 0 + _ ≤ _; omega) hlo
  exact ⟨T', locs, X', e', f, st'⟩
/-- ldc of a String constant of EL, its text below 256 -/
theorem Wk.ldcS {pc pc' : Nat} {L : Array Slot} {st : List Value} {index : Nat} {text : String} {vs : List Value} {z : Int32} (n : Nat) (w : Wk p l e R s m args below meth c Z a0 EL S0 y B ml ret V h cl sl (mkF m pc L st)) (wl : (Jvm.Cond.stringLink y.cls index text).before a0 Z = true) (wS : ∀ a ∈ Bundle.stringAtoms, a.before a0 Z = true) (hm : (y.cls, index) ∈ EL)
    (ht : (∀ c ∈ text.toList, c.toNat < 256) ∧ text.toList.map (fun c => Value.int (Jvm.Lit.byteI c.toNat.toUInt16)) = vs) (hz : ¬ z < 0) (hl : z.toNatClampNeg = vs.length) (hd : decode B pc = .ok (.ldc index, 2)) (hn : 4 * text.toList.length ≤ n) (hbig : n ≤ 536870912) (hc : cl + 2 ≤ R.cells) (hl' : sl + (n + 4) ≤ R.slots) (hp : pc + 2 = pc' := by rfl) :
    ∃ (a : Addr) (V' : Vm) (h' : Heap) (b : Addr) (k : ClassId), Ext h h' ∧ Exa Z h' a "java/lang/String" ∧ Fld Z h' a "java/lang/String" "coder" "B" (.int 0) ∧ Fld Z h' a "java/lang/String" "value" "[B" (.ref b) ∧ Arv Z h' b k .byte z vs (.int 0) ∧ (∀ x, Safe Z EL V' h' x → x ≠ a ∧ x ≠ b) ∧ CHr Z EL V h V' h' ∧
      Wk p l e R s m args below meth c Z a0 EL S0 y B ml ret V' h' (cl + 2) (sl + (n + 4)) (mkF m pc' L (.ref a :: st)) := by
  subst hp
  obtain ⟨hf, ⟨hz0, hC, hO⟩, T, locs, k0, X, e0, h1, h2, h3, st0⟩ := id w
  obtain ⟨a, T', h', k1, b, k, X', e', E, hS, hk, hW, hown', q1, q2, q3, q4, -, -, Q, -, hne, st'⟩ := ldcCH X hf.1 hz0 w.own wl wS e0 h1 h2 hf.2.2.2.2.2.2.2 hm w.ch ht hz hl (g := mkF m pc L st) rfl (hb hf.2.1 hd) hn hbig hc hl'
  exact ⟨a, T'.vm, h', b, k, E, q1, q2, q3, q4, hne, Q, hf, ⟨hW, hC.trans Q, extT hO E⟩, T', locs, k1, X', e', hS, hk, h3, fun t q => st0 t (st' t q)⟩
/-! calls -/
/-- who pays a call of y': the shape of every payer here -/
def Pays (p : Program) (l : Launch) (e : Env) (R : Room) (s : State) (args : Array Value) (below : List Frame) (Z : State) (EL : List (String × Nat)) (V : Vm) (h : Heap) (y' : MethodName) (len W kc ks : Nat) (as' : Array Value) (Q : Option Value → Heap → Prop) : Prop :=
  BackS l R p e below (s.setVm V) args y' len W (fun A a => a = as' ∧ A.U.heap = h ∧ A.cells + kc ≤ R.cells ∧ A.slots + ks ≤ R.slots)
    (fun A _ v B => ∃ L : List Loc, Q v B.U.heap ∧ Ext Z.heap B.U.heap ∧ Fr Z.heap.size L ∧ CHr Z EL V h B.U.vm B.U.heap ∧ B.locs = A.locs ++ L ∧ B.cells = A.cells + kc ∧ B.slots = A.slots + ks)
theorem Wk.pays {g : JFrame} {y' : MethodName} {B' : ByteArray} {ml' : Nat} {ret' : Option FieldType} {rm : Room} {as' : Array Value} {sf : List Addr} {Q : Option Value → Heap → Prop} {len : Nat} (W : Nat) (w : Wk p l e R s m args below meth c Z a0 EL S0 y B ml ret V h cl sl g) (M : Met l Z EL y' B' ml' ret' [] rm as' h sf Q)
    (wc : (Jvm.Cond.code y' B' ml' ret').before a0 Z = true) (wz : (Jvm.Cond.initialized y'.cls).before a0 Z = true) (hsf : ∀ x ∈ sf, Safe Z EL V h x) (hf : rm.frames + 1 ≤ R.frames) (hl : W + (ml' + 11) + rm.locals ≤ R.locals) :
    Pays p l e R s args below Z EL V h y' len W rm.cells rm.slots as' Q :=
  BackS.of_freeW (bytes := B') (maxL := ml') (ret := ret') (E := fun _ first o t L k n => k = rm.cells ∧ n = rm.slots ∧ (∃ v, o = .returned v ∧ Q v t.heap) ∧ Ext Z.heap t.heap ∧ Fr Z.heap.size L ∧ CHr Z EL first.vm first.heap t.vm t.heap) M hf hl
    (fun m meth c A a Y hp => have hU : Z.Warmed39 A.U.vm := wtrans (s := s.setVm V) w.hZ Y.warmed
      ⟨by show (Jvm.Cond.and _ .tt).before a A.U = true; rw [Cond.before_and, mv hU wc]; rfl, mv hU wc, mv hU wz, hp.2.2.1, hp.2.2.2⟩)
    (fun m meth c A a g mk Y hp => ⟨hp.1, wtrans (s := s.setVm V) w.hZ Y.warmed, hp.2.1, (CHv.at Y w.hZ w.el w.ch).1, fun x hx => (CHv.at Y w.hZ w.el w.ch).2.2 x |> fun q B => (q B).elim (hsf x hx) (fun r => hsf x hx |> fun _ => by
      obtain ⟨cell, q0⟩ := B.there
      exact absurd (Array.getElem?_eq_some_iff.mp q0).1 (Nat.not_lt.mpr r))⟩) (fun _ _ _ _ _ _ _ _ _ => trivial)
    (fun _ _ _ _ ⟨v, L, h1, h2, h3, h4, h5, h6⟩ => ⟨L, _, _, h6, rfl, rfl, ⟨v, h1, h2⟩, h3, h4, h5⟩)
    (fun m meth c A a g mk v t L k n Y hp _ _ ⟨e1, e2, ⟨v', e3, e4⟩, e5, e6, e7⟩ => by
      cases e3; subst e1 e2
      refine ⟨L, e4, e5, e6, (CHv.at Y w.hZ w.el w.ch).trans ?_, rfl, rfl, rfl⟩
      rw [← hp.2.1]; exact e7)
/-- a payer of the library's (Back): what it writes lies in ws -/
theorem Wk.paysB {g : JFrame} {y' : MethodName} {as' : Array Value} {Qb : Option Value → Heap → List Loc → Prop} {len W kc ks : Nat} (w : Wk p l e R s m args below meth c Z a0 EL S0 y B ml ret V h cl sl g) (ws : List Addr)
    (K : Back l R p e below (s.setVm V) args y' len W (fun A a => a = as' ∧ A.U.heap = h ∧ A.cells + kc ≤ R.cells ∧ A.slots + ks ≤ R.slots) (fun A _ v B => ∃ L, Qb v B.U.heap L ∧ B.locs = A.locs ++ L ∧ B.cells = A.cells + kc ∧ B.slots = A.slots + ks))
    (hQ : ∀ v h' L, Qb v h' L → Keep h h' ws ∧ Fr Z.heap.size L) (hs : ∀ x ∈ ws, Safe Z EL V h x ∧ Z.heap.size ≤ x) :
    Pays p l e R s args below Z EL V h y' len W kc ks as' (fun v h' => ∃ L, Qb v h' L) := by
  intro m meth c A g ig mk a X hg hsize hdg hW hn hp
  obtain ⟨v, D, X', ⟨L, q1, q2, q3, q4⟩, st⟩ := K m meth c A g ig mk a X hg hsize hdg hW hn hp
  obtain ⟨K1, K2⟩ := hQ _ _ _ q1
  have A1 : CHr Z EL V h V D.U.heap := CHr.keep K1 (fun x hx => (hs x hx).1) w.ch
  refine ⟨v, D, X'.retabled X'.warmed.wide, X'.warmed.since _, by rw [hp.2.1]; exact K1.1, ⟨L, ⟨L, q1⟩, extK w.old K1 (fun x hx => (hs x hx).2), K2, A1.trans (CHv.at X' w.hZ w.el A1.1), q2, q3, q4⟩, st⟩
theorem Wk.back {g g' : JFrame} {y' : MethodName} {kc ks : Nat} {Q : Option Value → Heap → Prop} {v : Option Value} {T0 : State} {locs0 : List Loc} {D : Pt} {vm₁ : Vm} (w : Wk p l e R s m args below meth c Z a0 EL S0 y B ml ret V h cl sl g) {k0 : Nat} (h1 : s.Since V k0) (h2 : k0 ≤ h.size) (h3 : Fr Z.heap.size locs0) (e0 : T0.heap = h)
    (X' : Stand p l e R ((s.setVm V).setVm D.U.vm) m args below meth c D.U D.locs D.cells D.slots) (hS : (s.setVm V).Since D.U.vm D.U.heap.size) (hgr : T0.heap.size ≤ D.U.heap.size)
    (hpost : ∃ L : List Loc, Q v D.U.heap ∧ Ext Z.heap D.U.heap ∧ Fr Z.heap.size L ∧ CHr Z EL V h D.U.vm D.U.heap ∧ D.locs = Pt.locs (T0.setVm vm₁, locs0, cl, sl) ++ L ∧ D.cells = Pt.cells (T0.setVm vm₁, locs0, cl, sl) + kc ∧ D.slots = Pt.slots (T0.setVm vm₁, locs0, cl, sl) + ks)
    (st : ∀ t, Steps p.tables e below (D.U.setTop g') t → Steps p.tables e below S0 t) :
    ∃ (V' : Vm) (h' : Heap), Q v h' ∧ CHr Z EL V h V' h' ∧ Wk p l e R s m args below meth c Z a0 EL S0 y B ml ret V' h' (cl + kc) (sl + ks) g' := by
  obtain ⟨L, q1, q2, q3, q4, q5, q6, q7⟩ := hpost
  obtain ⟨U, locsD, cD, sD⟩ := D
  dsimp only [Pt.U, Pt.locs, Pt.cells, Pt.slots] at *
  subst q5 q6 q7
  exact ⟨U.vm, U.heap, q1, q4, w.1, ⟨State.Warmed39.trans (t := s.setVm V) w.hZ hS.1, w.2.1.2.1.trans q4, q2⟩, U, _, _, X', rfl, foldS (T := T0) h1 (by rw [e0]; exact h2) hS hgr, Nat.le_refl _, Fr.app h3 q3, st⟩
/-- invokestatic -/
theorem Wk.static {pc pc' : Nat} {L : Array Slot} {st rest argsL : List Value} {index W kc ks : Nat} {y' : MethodName} {B' : ByteArray} {ml' : Nat} {ret' : Option FieldType} {Q : Option Value → Heap → Prop} {ps : List FieldType} {r : Option FieldType} (w : Wk p l e R s m args below meth c Z a0 EL S0 y B ml ret V h cl sl (mkF m pc L st))
    (K : Pays p l e R s args below Z EL V h y' 3 W kc ks argsL.toArray Q) (wl : (Jvm.Cond.methodLink y.cls index y').before a0 Z = true) (wst : (Jvm.Cond.static y').before a0 Z = true) (wz : (Jvm.Cond.initialized y'.cls).before a0 Z = true) (wc : (Jvm.Cond.code y' B' ml' ret').before a0 Z = true)
    (hy : y'.cls ≠ "java/lang/invoke/MethodHandle" ∧ y'.cls ≠ "java/lang/invoke/VarHandle") (hpd : parseMethodDescriptor y'.desc = some ⟨ps, r⟩) (hlen : argsL.length = ps.length) (hst : st = argsL.reverse ++ rest) (hW : (rest.map fun v => v.category).sum ≤ W) (hL : L.size = ml) (hd : decode B pc = .ok (.invokestatic index, 3)) (hc : cl + kc ≤ R.cells) (hs : sl + ks ≤ R.slots) (hp : pc + 3 = pc' := by rfl) :
    ∃ (v : Option Value) (V' : Vm) (h' : Heap), Q v h' ∧ CHr Z EL V h V' h' ∧ Wk p l e R s m args below meth c Z a0 EL S0 y B ml ret V' h' (cl + kc) (sl + ks) (mkF m pc' L (v.toList ++ rest)) := by
  subst hp
  obtain ⟨hf, ⟨hz, hC, hO⟩, T, locs, k0, X, e0, h1, h2, h3, st0⟩ := id w
  obtain ⟨v, vm₁, D, -, X', hS, hgr, hpost, st'⟩ := callSS X hf.1 w.own (mv (s := s.setVm V) hz wl) (mv (s := s.setVm V) hz wst) (mv (s := s.setVm V) hz wz) (mv (s := s.setVm V) hz wc) hy K (g := mkF m pc L st) rfl (hL.trans hf.2.2.1.symm) (argsL := argsL) (rest := rest) (lenOf hpd hlen) hst (by show 2 * 0 + _ ≤ _; omega) (hb hf.2.1 hd) (fun _ _ => ⟨rfl, e0, hc, hs⟩)
  obtain ⟨V', h', a1, a2, a3⟩ := w.back (g' := mkF m (pc + 3) L (v.toList ++ rest)) (y' := y') h1 h2 h3 e0 X' hS hgr hpost (fun t q => st0 t (st'.trans q))
  exact ⟨v, V', h', a1, a2, a3⟩
/-- invokevirtual: the receiver is exactly a C, for which the call goes to z -/
theorem Wk.virtual {pc pc' : Nat} {L : Array Slot} {st rest argsL : List Value} {index W kc ks : Nat} {y' z : MethodName} {C : String} {b : Addr} {Q : Option Value → Heap → Prop} {ps : List FieldType} {r : Option FieldType} (w : Wk p l e R s m args below meth c Z a0 EL S0 y B ml ret V h cl sl (mkF m pc L st))
    (K : Pays p l e R s args below Z EL V h z 3 W kc ks (.ref b :: argsL).toArray Q) (wl : (Jvm.Cond.methodLink y.cls index y').before a0 Z = true) (wd : (Jvm.Cond.declares y').before a0 Z = true) (hnf : NotFace (s.setVm V) y') (ws : (Jvm.Cond.selects C y' z).before a0 Z = true) (wi : (Jvm.Cond.instanceMethod z).before a0 Z = true)
    (hy : y'.cls ≠ "java/lang/invoke/MethodHandle" ∧ y'.cls ≠ "java/lang/invoke/VarHandle") (E : Exa Z h b C) (hpd : parseMethodDescriptor y'.desc = some ⟨ps, r⟩) (hlen : argsL.length = ps.length) (hst : st = argsL.reverse ++ .ref b :: rest) (hW : (rest.map fun v => v.category).sum ≤ W) (hL : L.size = ml) (hd : decode B pc = .ok (.invokevirtual index, 3)) (hc : cl + kc ≤ R.cells) (hs : sl + ks ≤ R.slots) (hp : pc + 3 = pc' := by rfl) :
    ∃ (v : Option Value) (V' : Vm) (h' : Heap), Q v h' ∧ CHr Z EL V h V' h' ∧ Wk p l e R s m args below meth c Z a0 EL S0 y B ml ret V' h' (cl + kc) (sl + ks) (mkF m pc' L (v.toList ++ rest)) := by
  subst hp
  obtain ⟨hf, ⟨hz, hC, hO⟩, T, locs, k0, X, e0, h1, h2, h3, st0⟩ := id w
  obtain ⟨cB, kB, b1, b2, b3⟩ := isOf (s := s.setVm V) hz e0 E
  obtain ⟨v, vm₁, D, -, X', hS, hgr, hpost, st'⟩ := X.virtualBackS hf.1 w.own (mv (s := s.setVm V) hz wl) (mv (s := s.setVm V) hz wd) hnf (mv (s := s.setVm V) hz ws) (mv (s := s.setVm V) hz wi) hy K b1 b3 (g := mkF m pc L st) rfl (hL.trans hf.2.2.1.symm) (Steps.refl _) (argsL := argsL) (rest := rest) (lenOf hpd hlen) hst (by show 2 * 0 + _ ≤ _; omega) (hb hf.2.1 hd) (fun _ _ => ⟨rfl, e0, hc, hs⟩)
  obtain ⟨V', h', a1, a2, a3⟩ := w.back (g' := mkF m (pc + 3) L (v.toList ++ rest)) (y' := z) h1 h2 h3 e0 X' hS hgr hpost (fun t q => st0 t (st'.trans q))
  exact ⟨v, V', h', a1, a2, a3⟩
/-- .. where the entry's own class declares what is selected -/
theorem Wk.virt {pc pc' : Nat} {L : Array Slot} {st rest argsL : List Value} {index W kc ks : Nat} {y' : MethodName} {C : String} {b : Addr} {Q : Option Value → Heap → Prop} {ps : List FieldType} {r : Option FieldType} (w : Wk p l e R s m args below meth c Z a0 EL S0 y B ml ret V h cl sl (mkF m pc L st))
    (K : Pays p l e R s args below Z EL V h y' 3 W kc ks (.ref b :: argsL).toArray Q) (wl : (Jvm.Cond.methodLink y.cls index y').before a0 Z = true) (wd : (Jvm.Cond.declares y').before a0 Z = true) (ws : (Jvm.Cond.selects C y' y').before a0 Z = true) (wi : (Jvm.Cond.instanceMethod y').before a0 Z = true)
    (hy : y'.cls ≠ "java/lang/invoke/MethodHandle" ∧ y'.cls ≠ "java/lang/invoke/VarHandle") (E : Exa Z h b C) (hpd : parseMethodDescriptor y'.desc = some ⟨ps, r⟩) (hlen : argsL.length = ps.length) (hst : st = argsL.reverse ++ .ref b :: rest) (hW : (rest.map fun v => v.category).sum ≤ W) (hL : L.size = ml) (hd : decode B pc = .ok (.invokevirtual index, 3)) (hc : cl + kc ≤ R.cells) (hs : sl + ks ≤ R.slots) (hp : pc + 3 = pc' := by rfl) :
    ∃ (v : Option Value) (V' : Vm) (h' : Heap), Q v h' ∧ CHr Z EL V h V' h' ∧ Wk p l e R s m args below meth c Z a0 EL S0 y B ml ret V' h' (cl + kc) (sl + ks) (mkF m pc' L (v.toList ++ rest)) :=
  w.virtual K wl wd (notFace_of_selects (args := #[]) (mv (s := s.setVm V) w.hZ ws)) ws wi hy E hpd hlen hst hW hL hd hc hs hp
/-- invokespecial of a constructor -/
theorem Wk.ctor {pc pc' : Nat} {L : Array Slot} {st rest argsL : List Value} {index W kc ks : Nat} {y' : MethodName} {B' : ByteArray} {ml' : Nat} {a : Addr} {Q : Option Value → Heap → Prop} {ps : List FieldType} {r : Option FieldType} (w : Wk p l e R s m args below meth c Z a0 EL S0 y B ml ret V h cl sl (mkF m pc L st))
    (K : Pays p l e R s args below Z EL V h y' 3 W kc ks (.ref a :: argsL).toArray Q) (hy1 : y'.name = "<init>") (wl : (Jvm.Cond.methodLink y.cls index y').before a0 Z = true) (wi : (Jvm.Cond.instanceMethod y').before a0 Z = true) (wc : (Jvm.Cond.code y' B' ml' none).before a0 Z = true)
    (hy : y'.cls ≠ "java/lang/invoke/MethodHandle" ∧ y'.cls ≠ "java/lang/invoke/VarHandle") (hpd : parseMethodDescriptor y'.desc = some ⟨ps, r⟩) (hlen : argsL.length = ps.length) (hst : st = argsL.reverse ++ .ref a :: rest) (hW : (rest.map fun v => v.category).sum ≤ W) (hL : L.size = ml) (hd : decode B pc = .ok (.invokespecial index, 3)) (hc : cl + kc ≤ R.cells) (hs : sl + ks ≤ R.slots) (hp : pc + 3 = pc' := by rfl) :
    ∃ (v : Option Value) (V' : Vm) (h' : Heap), Q v h' ∧ CHr Z EL V h V' h' ∧ Wk p l e R s m args below meth c Z a0 EL S0 y B ml ret V' h' (cl + kc) (sl + ks) (mkF m pc' L (v.toList ++ rest)) := by
  subst hp
  obtain ⟨hf, ⟨hz, hC, hO⟩, T, locs, k0, X, e0, h1, h2, h3, st0⟩ := id w
  obtain ⟨v, vm₁, D, -, X', hS, hgr, hpost, st'⟩ := X.specialBackS hf.1 hy1 w.own (mv (s := s.setVm V) hz wl) (mv (s := s.setVm V) hz wi) (mv (s := s.setVm V) hz wc) hy K (g := mkF m pc L st) rfl (hL.trans hf.2.2.1.symm) (Steps.refl _) (a := a) (argsL := argsL) (rest := rest) (lenOf hpd hlen) hst (by show 2 * 0 + _ ≤ _; omega) (hb hf.2.1 hd) (fun _ _ => ⟨rfl, e0, hc, hs⟩)
  obtain ⟨V', h', a1, a2, a3⟩ := w.back (g' := mkF m (pc + 3) L (v.toList ++ rest)) (y' := y') h1 h2 h3 e0 X' hS hgr hpost (fun t q => st0 t (st'.trans q))
  exact ⟨v, V', h', a1, a2, a3⟩
/-- a private method by invokevirtual -/
theorem Wk.priv {pc pc' : Nat} {L : Array Slot} {st rest argsL : List Value} {index W kc ks : Nat} {y' : MethodName} {B' : ByteArray} {ml' : Nat} {ret' : Option FieldType} {C : String} {b : Addr} {Q : Option Value → Heap → Prop} {ps : List FieldType} {r : Option FieldType} (w : Wk p l e R s m args below meth c Z a0 EL S0 y B ml ret V h cl sl (mkF m pc L st))
    (K : Pays p l e R s args below Z EL V h y' 3 W kc ks (.ref b :: argsL).toArray Q) (wl : (Jvm.Cond.methodLink y.cls index y').before a0 Z = true) (wi : (Jvm.Cond.instanceMethod y').before a0 Z = true) (wp : (Jvm.Cond.privateMethod y').before a0 Z = true) (ws : (Jvm.Cond.selects C y' y').before a0 Z = true) (wc : (Jvm.Cond.code y' B' ml' ret').before a0 Z = true)
    (hy : y'.cls ≠ "java/lang/invoke/MethodHandle" ∧ y'.cls ≠ "java/lang/invoke/VarHandle") (E : Exa Z h b C) (hpd : parseMethodDescriptor y'.desc = some ⟨ps, r⟩) (hlen : argsL.length = ps.length) (hst : st = argsL.reverse ++ .ref b :: rest) (hW : (rest.map fun v => v.category).sum ≤ W) (hL : L.size = ml) (hd : decode B pc = .ok (.invokevirtual index, 3)) (hc : cl + kc ≤ R.cells) (hs : sl + ks ≤ R.slots) (hp : pc + 3 = pc' := by rfl) :
    ∃ (v : Option Value) (V' : Vm) (h' : Heap), Q v h' ∧ CHr Z EL V h V' h' ∧ Wk p l e R s m args below meth c Z a0 EL S0 y B ml ret V' h' (cl + kc) (sl + ks) (mkF m pc' L (v.toList ++ rest)) := by
  subst hp
  obtain ⟨hf, ⟨hz, hC, hO⟩, T, locs, k0, X, e0, h1, h2, h3, st0⟩ := id w
  obtain ⟨cell, q1, q2⟩ := E.cell
  obtain ⟨mk, methM, hnamed, hmethM, hstM, habM⟩ := Cond.instanceMethod_spec (mv (s := s.setVm V) (args := args) hz wi)
  obtain ⟨methM', cM, hmethM', -, -, -, -, -, -, hsigM⟩ := Cond.code_spec hnamed (mv (s := s.setVm V) (args := args) hz wc)
  cases hmethM.symm.trans hmethM'
  obtain ⟨c2, r2, m2, -, -, q3, -, kP, hkP, hkPi⟩ := Cond.selects_spec (mv (s := s.setVm V) (args := args) hz ws)
  cases hnamed.symm.trans q3
  have hselP : selectMethod e.platform (s.setVm V).vm cell.cls mk = .method mk := selectMethod_private hmethM (Cond.privateMethod_at (mvP (s := s.setVm V) hz wp (args := #[])) mk methM hnamed hmethM)
  obtain ⟨vm₁, X₁, hstep₁⟩ := X.invokevirtual hf.1 w.own (mv (s := s.setVm V) hz wl) hnamed hmethM hstM hkP hkPi hy (a := b) (cell := cell) (by rw [e0]; exact q1) q2 hselP hmethM habM hkP hkPi (g := mkF m pc L st) rfl (argsL := argsL) (rest := rest) (lenOf hpd hlen _ hsigM) hst (hb hf.2.1 hd)
  obtain ⟨v, D, X', hS, hgr, hpost, hsteps⟩ := K m meth c ⟨T.setVm vm₁, locs, cl, sl⟩ { (mkF m pc L st) with stack := rest } (.invokevirtual index) mk (.ref b :: argsL).toArray X₁ rfl (hL.trans hf.2.2.1.symm) (hb hf.2.1 hd) (by show 2 * 0 + (rest.map fun v => v.category).sum ≤ W; omega) (X₁.named hnamed) ⟨rfl, e0, hc, hs⟩
  obtain ⟨V', h', a1, a2, a3⟩ := w.back (g' := mkF m (pc + 3) L (v.toList ++ rest)) (y' := y') h1 h2 h3 e0 X' hS hgr hpost (fun t q => st0 t ((hstep₁ _ fun acts => by rw [doInvoke_state]; exact Steps.refl _).trans (hsteps.trans q)))
  exact ⟨v, V', h', a1, a2, a3⟩
theorem own_same {s0 : State} {as0 : Array Value} {y1 y2 : MethodName} {C : String} (w1 : (Jvm.Cond.instanceMethod y1).before as0 s0 = true) (w2 : (Jvm.Cond.instanceMethod y2).before as0 s0 = true) (ws : (Jvm.Cond.selects C y2 y2).before as0 s0 = true) (hc : y2.cls = y1.cls) (hy : y1.cls ≠ "java/lang/invoke/MethodHandle" ∧ y1.cls ≠ "java/lang/invoke/VarHandle") : (Jvm.Cond.sameMethod y1.cls y1.cls y1.name y1.desc).before as0 s0 = true := by
  obtain ⟨r0, m0, n1, -⟩ := Cond.instanceMethod_spec w1
  obtain ⟨r1, m1, n2, -⟩ := Cond.instanceMethod_spec w2
  obtain ⟨kr, hkr, hni⟩ := notFace_of_selects (args := as0) ws r1 n2
  have c1 := findClass_of_methodNamed n1
  have c2 := findClass_of_methodNamed n2
  rw [hc] at c2
  have f1 := State.methodFound?_of_named n1 hy
  have e1 : s0.methodNamed? ⟨y1.cls, y1.name, y1.desc⟩ = some r0 := n1
  have hk' : s0.vm.classes[r0.cls]? = some kr := by rw [Option.some.inj (c1.symm.trans c2)]; exact hkr
  simp [Cond.before, Cond.holds, Cond.value, c1, f1, e1, hk', hni]
theorem own_nf {s : State} {y1 y2 : MethodName} {C : String} (hZ : Z.Warmed39 s.vm) (w2 : (Jvm.Cond.instanceMethod y2).before a0 Z = true) (ws : (Jvm.Cond.selects C y2 y2).before a0 Z = true) (hc : y2.cls = y1.cls) : NotFace s y1 := fun r0 n1 => by
  obtain ⟨r1, m1, n2, -⟩ := Cond.instanceMethod_spec (mv (s := s) (args := #[]) hZ w2)
  obtain ⟨kr, hkr, hni⟩ := notFace_of_selects (args := #[]) (mv (s := s) hZ ws) r1 n2
  have c1 := findClass_of_methodNamed n1
  have c2 := findClass_of_methodNamed n2
  rw [hc] at c2
  exact ⟨kr, by rw [Option.some.inj (c1.symm.trans c2)]; exact hkr, hni⟩
/-- super.m(..) -/
theorem Wk.super {pc pc' : Nat} {L : Array Slot} {st rest argsL : List Value} {index W kc ks : Nat} {y' : MethodName} {B' : ByteArray} {ml' : Nat} {ret' : Option FieldType} {C : String} {b : Addr} {Q : Option Value → Heap → Prop} {ps : List FieldType} {r : Option FieldType} (w : Wk p l e R s m args below meth c Z a0 EL S0 y B ml ret V h cl sl (mkF m pc L st))
    (K : Pays p l e R s args below Z EL V h y' 3 W kc ks (.ref b :: argsL).toArray Q) (wl : (Jvm.Cond.methodLink y.cls index y').before a0 Z = true) (wsm : (Jvm.Cond.sameMethod y'.cls y'.cls y'.name y'.desc).before a0 Z = true) (wi : (Jvm.Cond.instanceMethod y').before a0 Z = true) (wsu : (Jvm.Cond.superclass y.cls y'.cls).before a0 Z = true) (wc : (Jvm.Cond.code y' B' ml' ret').before a0 Z = true)
    (hn : y'.name ≠ "<init>") (E : Exa Z h b C) (hpd : parseMethodDescriptor y'.desc = some ⟨ps, r⟩) (hlen : argsL.length = ps.length) (hst : st = argsL.reverse ++ .ref b :: rest) (hW : (rest.map fun v => v.category).sum ≤ W) (hL : L.size = ml) (hd : decode B pc = .ok (.invokespecial index, 3)) (hc : cl + kc ≤ R.cells) (hs : sl + ks ≤ R.slots) (hp : pc + 3 = pc' := by rfl) :
    ∃ (v : Option Value) (V' : Vm) (h' : Heap), Q v h' ∧ CHr Z EL V h V' h' ∧ Wk p l e R s m args below meth c Z a0 EL S0 y B ml ret V' h' (cl + kc) (sl + ks) (mkF m pc' L (v.toList ++ rest)) := by
  subst hp
  obtain ⟨hf, ⟨hz, hC, hO⟩, T, locs, k0, X, e0, h1, h2, h3, st0⟩ := id w
  obtain ⟨v, vm₁, D, -, X', hS, hgr, hpost, st'⟩ := superBackS X hf.1 hz w.own wl wsm wi wsu hn K e0 (Ins.self E) (g := mkF m pc L st) rfl (hL.trans hf.2.2.1.symm) wc (argsL := argsL) (rest := rest) (lenOf hpd hlen) hst (by show 2 * 0 + _ ≤ _; omega) (hb hf.2.1 hd) (fun _ _ => ⟨rfl, e0, hc, hs⟩)
  obtain ⟨V', h', a1, a2, a3⟩ := w.back (g' := mkF m (pc + 3) L (v.toList ++ rest)) (y' := y') h1 h2 h3 e0 X' hS hgr hpost (fun t q => st0 t (st'.trans q))
  exact ⟨v, V', h', a1, a2, a3⟩
/-- System.arraycopy of bytes into an array of the walk's own -/
theorem Wk.arrcopy {pc pc' : Nat} {L : Array Slot} {st : List Value} {index W : Nat} {a b : Addr} {k k' : ClassId} {z z' sp dp nn : Int32} {vs vd us : List Value} {dv dd : Value} (w : Wk p l e R s m args below meth c Z a0 EL S0 y B ml ret V h cl sl (mkF m pc L (.int nn :: .int dp :: .ref b :: .int sp :: .ref a :: st)))
    (w1 : (Jvm.Cond.methodLink y.cls index Jvm.Stand.acN).before a0 Z = true) (w2 : (Jvm.Cond.native Jvm.Stand.acN).before a0 Z = true) (w3 : (Jvm.Cond.static Jvm.Stand.acN).before a0 Z = true) (w4 : (Jvm.Cond.initialized "java/lang/System").before a0 Z = true) (A : Arv Z h a k .byte z vs dv) (D : Arv Z h b k' .byte z' vd dd)
    (h1 : ¬ sp < 0) (h2 : ¬ dp < 0) (h3 : ¬ nn < 0) (h4 : sp.toNatClampNeg + nn.toNatClampNeg ≤ z.toNatClampNeg) (h5 : dp.toNatClampNeg + nn.toNatClampNeg ≤ z'.toNatClampNeg) (hus : us = (List.range nn.toNatClampNeg).map fun i => vs.getD (sp.toNatClampNeg + i) dv) (hl : dp.toNatClampNeg + nn.toNatClampNeg ≤ vd.length) (ge : Z.heap.size ≤ b) (Sb : Safe Z EL V h b)
    (hL : L.size = ml) (hd : decode B pc = .ok (.invokestatic index, 3)) (hf : 1 ≤ R.frames) (hW : (st.map fun v => v.category).sum ≤ W) (hlo : W + (nativeFrameWords "java/lang/System" "arraycopy" 5 + 11) ≤ R.locals) (hp : pc + 3 = pc' := by rfl) :
    ∃ h' : Heap, Keep h h' [b] ∧ Arv Z h' b k' .byte z' (vd.take dp.toNatClampNeg ++ us ++ vd.drop (dp.toNatClampNeg + nn.toNatClampNeg)) dd ∧ CHr Z EL V h V h' ∧ Wk p l e R s m args below meth c Z a0 EL S0 y B ml ret V h' cl sl (mkF m pc' L st) := by
  subst hp
  obtain ⟨hf0, ⟨hz, hC, hO⟩, T, locs, k0, X, e0, g1, g2, g3, st0⟩ := id w
  obtain ⟨T', h', L', X', e', f', K, D', st'⟩ := cpA X hf0.1 hz w.own w1 w2 w3 w4 e0 A D (Or.inl ⟨rfl, rfl⟩) h1 h2 h3 h4 h5 hus hl g3 ge (g := mkF m pc L (.int nn :: .int dp :: .ref b :: .int sp :: .ref a :: st)) rfl (hL.trans hf0.2.2.1.symm) rfl (hb hf0.2.1 hd) hf (W := W) (by show 2 * 0 + _ ≤ _; omega) hlo
  have Q : CHr Z EL V h V h' := CHr.keep K (allS Sb all0) w.ch
  exact ⟨h', K, D', Q, hf0, ⟨hz, hC.trans Q, extK hO K (allS ge all0)⟩, T', L', k0, X', e', g1, Nat.le_trans g2 Q.2.1, f', fun t q => st0 t (st' t q)⟩
/-! the end -/
theorem Wk.fin {g : JFrame} {v : Option Value} {k n : Nat} {Q : Option Value → Heap → Prop} (w : Wk p l e R s m args below meth c Z a0 EL S0 y B ml ret V h cl sl g) (hv : ret = none → v = none)
    (step : ∀ (T : State) (locs : List Loc) (fs : List Frame), Stand p l e R (s.setVm V) m args below meth c T locs cl sl → (∀ (f : JFrame) (acts : List Action), f.method = m → f.locked = none → f.entered = [] → (doReturn e (T.setTop f) acts v).1 = T.setFrames fs) → Steps p.tables e below (T.setTop g) (T.setFrames fs))
    (hQ : Q v h) (hk : cl ≤ k) (hn : sl ≤ n) : Fini p e below s Z EL S0 k n Q := by
  obtain ⟨hf, ⟨hz, hC, hO⟩, T, locs, k0, X, e0, h1, h2, h3, st0⟩ := id w
  obtain ⟨fs, hr, hrun, hend, hR⟩ := (X.more hk hn).leaveW h1 (by rw [e0]; exact h2) (v := v) (fun q => hv (hf.2.2.2.1.symm.trans q)) hf.2.2.2.2.1
  have e1 : (T.setFrames fs).heap = h := e0
  refine ⟨T.setFrames fs, .returned v, st0 _ (step T locs fs X hr), hrun, hend, v, locs, rfl, by rw [e1]; exact hQ, by rw [e1]; exact hO, h3, ?_, hR⟩
  rw [e1]
  show CHr Z EL s.vm s.heap T.vm h
  exact hC.trans (CHv.at X hz w.el w.ch)
theorem Wk.ret0 {pc : Nat} {L : Array Slot} {k n : Nat} {Q : Option Value → Heap → Prop} (w : Wk p l e R s m args below meth c Z a0 EL S0 y B ml none V h cl sl (mkF m pc L [])) (hd : decode B pc = .ok (.return_, 1)) (hQ : Q none h) (hk : cl ≤ k) (hn : sl ≤ n) : Fini p e below s Z EL S0 k n Q :=
  w.fin (fun _ => rfl) (fun T locs fs X hr => X.returnOut w.1.1 w.1.2.2.2.1 (hb w.1.2.1 hd) hr) hQ hk hn
theorem Wk.retA {pc : Nat} {L : Array Slot} {st : List Value} {x : Value} {t : FieldType} {k n : Nat} {Q : Option Value → Heap → Prop} (w : Wk p l e R s m args below meth c Z a0 EL S0 y B ml (some t) V h cl sl (mkF m pc L (x :: st))) (hd : decode B pc = .ok (.areturn, 1)) (hQ : Q (some x) h) (hk : cl ≤ k) (hn : sl ≤ n) (ht : t.isReference = true := by rfl) (hx : x.isRef = true := by rfl) : Fini p e below s Z EL S0 k n Q :=
  w.fin (fun q => nomatch q) (fun T locs fs X hr => retOut X w.1.1 w.1.2.2.2.1 (by cases t <;> first | (cases ht; done) | (rcases ref_cases hx with rfl | ⟨z, rfl⟩ <;> rfl)) (Or.inr (Or.inr (Or.inr (Or.inr ⟨rfl, ht, hx⟩)))) (hb w.1.2.1 hd) hr) hQ hk hn
theorem Wk.retI {pc : Nat} {L : Array Slot} {st : List Value} {x : Int32} {k n : Nat} {Q : Option Value → Heap → Prop} (w : Wk p l e R s m args below meth c Z a0 EL S0 y B ml (some .int) V h cl sl (mkF m pc L (.int x :: st))) (hd : decode B pc = .ok (.ireturn, 1)) (hQ : Q (some (.int x)) h) (hk : cl ≤ k) (hn : sl ≤ n) : Fini p e below s Z EL S0 k n Q :=
  w.fin (fun q => nomatch q) (fun T locs fs X hr => retOut X w.1.1 w.1.2.2.2.1 rfl (Or.inl ⟨rfl, Or.inl rfl, _, rfl⟩) (hb w.1.2.1 hd) hr) hQ hk hn
theorem Wk.retN {pc : Nat} {L : Array Slot} {st : List Value} {x : Int32} {t : FieldType} {k n : Nat} {Q : Option Value → Heap → Prop} (w : Wk p l e R s m args below meth c Z a0 EL S0 y B ml (some t) V h cl sl (mkF m pc L (.int x :: st))) (hd : decode B pc = .ok (.ireturn, 1)) (ht : t = .boolean ∨ t = .byte ∨ t = .char ∨ t = .short) (hQ : Q (some (.int (nar t x))) h) (hk : cl ≤ k) (hn : sl ≤ n) : Fini p e below s Z EL S0 k n Q :=
  w.fin (fun q => nomatch q) (fun T locs fs X hr => RoadKit.retN X w.1.1 w.1.2.2.2.1 ht (hb w.1.2.1 hd) hr) hQ hk hn
theorem Fini.mono {k n : Nat} {Q Q' : Option Value → Heap → Prop} (F : Fini p e below s Z EL S0 k n Q) (hq : ∀ v h, Q v h → Q' v h) : Fini p e below s Z EL S0 k n Q' := by
  obtain ⟨s₂, o, h1, h2, h3, v, L, h4, h5, r⟩ := F
  exact ⟨s₂, o, h1, h2, h3, v, L, h4, hq _ _ h5, r⟩
end OwnWk
end Jvm.Pilot.@@N@@
namespace Jvm.Pilot.@@N@@
open Jvm Jvm.ClassFile Sem Op Lib Jvm.Free Jvm.Stand Jvm.LawKit Jvm.RoadKit Bundle
section OwnStr
variable {p : Program} {l : Launch} {e : Env} {R : Room} {s : State} {m : MethodId} {args : Array Value} {below : List Frame} {meth : Method} {c : Code} {Z : State} {a0 : Array Value} {EL : List (String × Nat)} {S0 : State} {y : MethodName} {B : ByteArray} {ml : Nat} {ret : Option FieldType} {V : Vm} {h h' : Heap} {cl sl : Nat} {g : JFrame}
theorem Pays.mono {y' : MethodName} {len W kc ks : Nat} {as' : Array Value} {Q Q' : Option Value → Heap → Prop} (K : Pays p l e R s args below Z EL V h y' len W kc ks as' Q) (hq : ∀ v h, Q v h → Q' v h) : Pays p l e R s args below Z EL V h y' len W kc ks as' Q' := by
  intro m meth c A g ig mk a X hg hsize hdg hW hn hp
  obtain ⟨v, D, X', h1, h2, ⟨L, q1, q2⟩, st⟩ := K m meth c A g ig mk a X hg hsize hdg hW hn hp
  exact ⟨v, D, X', h1, h2, ⟨L, hq _ _ q1, q2⟩, st⟩
/-- x is a String that spells cs, each sign 0 to 255 -/
def Str (Z : State) (h : Heap) (x : Addr) (cs : List Int32) : Prop :=
  (∀ c ∈ cs, ¬ c < 0 ∧ ¬ (255 : Int32) < c) ∧ ∃ (t : Addr) (kb : ClassId), Exa Z h x "java/lang/String" ∧ Fld Z h x "java/lang/String" "value" "[B" (.ref t) ∧ Fld Z h x "java/lang/String" "coder" "B" (.int 0) ∧ Arv Z h t kb .byte (Int32.ofNat cs.length) (cs.map fun c => Value.int c.toInt8.toInt32) (.int 0)
theorem Str.ext {x : Addr} {cs : List Int32} (E : Ext h h') (S : Str Z h x cs) : Str Z h' x cs := by
  obtain ⟨h1, t, kb, h2, h3, h4, h5⟩ := S; exact ⟨h1, t, kb, h2.ext E, h3.ext E, h4.ext E, h5.ext E⟩
theorem Str.exa {x : Addr} {cs : List Int32} (S : Str Z h x cs) : Exa Z h x "java/lang/String" := by obtain ⟨h1, t, kb, h2, h3, h4, h5⟩ := S; exact h2
theorem Str.lt {x : Addr} {cs : List Int32} (S : Str Z h x cs) : x < h.size := S.exa.lt
theorem up8 {cs : List Int32} (hp : ∀ c ∈ cs, ¬ c < 0 ∧ ¬ (255 : Int32) < c) : ∀ c ∈ cs, ¬ c < 0 ∧ ¬ (65535 : Int32) < c := fun c hc => ⟨(hp c hc).1, fun q => (hp c hc).2 (Int32.lt_trans (by decide) q)⟩
theorem and255 (x : Int32) : ¬ (x &&& 255) < 0 ∧ ¬ (255 : Int32) < (x &&& 255) := by
  have h := c_and x 255 (by decide)
  have e1 : (255 : Int32).toInt = 255 := by decide
  have e0 : (0 : Int32).toInt = 0 := by decide
  rw [Int32.lt_iff_toInt_lt, Int32.lt_iff_toInt_lt]; omega
theorem nar255 (x : Int32) : nar .char (x &&& 255) = x &&& 255 := i2c_mask x
theorem chars1 {a : Int32} (h : ¬ a < 0 ∧ ¬ (255 : Int32) < a) {cs : List Int32} (r : ∀ c ∈ cs, ¬ c < 0 ∧ ¬ (255 : Int32) < c) : ∀ c ∈ a :: cs, ¬ c < 0 ∧ ¬ (255 : Int32) < c := fun c hc => by
  rcases List.mem_cons.mp hc with rfl | hc
  · exact h
  · exact r c hc
theorem chars0 : ∀ c ∈ ([] : List Int32), ¬ c < 0 ∧ ¬ (255 : Int32) < c := fun _ q => nomatch q
/-- ldc of a String constant of EL: it spells cs -/
theorem Wk.ldcT {pc pc' : Nat} {L : Array Slot} {st : List Value} {index : Nat} {text : String} (cs : List Int32) (n : Nat) (w : Wk p l e R s m args below meth c Z a0 EL S0 y B ml ret V h cl sl (mkF m pc L st)) (wl : (Jvm.Cond.stringLink y.cls index text).before a0 Z = true) (wS : ∀ a ∈ Bundle.stringAtoms, a.before a0 Z = true) (hm : (y.cls, index) ∈ EL)
    (ht1 : ∀ c ∈ text.toList, c.toNat < 256) (ht2 : (text.toList.map fun c => Jvm.Lit.byteI c.toNat.toUInt16) = cs.map fun c => c.toInt8.toInt32) (hcs : ∀ c ∈ cs, ¬ c < 0 ∧ ¬ (255 : Int32) < c) (hz : ¬ Int32.ofNat cs.length < 0) (hl : (Int32.ofNat cs.length).toNatClampNeg = cs.length) (hd : decode B pc = .ok (.ldc index, 2)) (hn : 4 * text.toList.length ≤ n) (hbig : n ≤ 536870912) (hc : cl + 2 ≤ R.cells) (hl' : sl + (n + 4) ≤ R.slots) (hp : pc + 2 = pc' := by rfl) :
    ∃ (a : Addr) (V' : Vm) (h' : Heap), Ext h h' ∧ Str Z h' a cs ∧ (∀ x, Safe Z EL V' h' x → x ≠ a) ∧ CHr Z EL V h V' h' ∧
      Wk p l e R s m args below meth c Z a0 EL S0 y B ml ret V' h' (cl + 2) (sl + (n + 4)) (mkF m pc' L (.ref a :: st)) := by
  obtain ⟨a, V', h', b, k, E, q1, q2, q3, q4, q5, Q, w'⟩ := w.ldcS (vs := cs.map fun c => Value.int c.toInt8.toInt32) (z := Int32.ofNat cs.length) n wl wS hm ⟨ht1, by
    have := congrArg (List.map Value.int) ht2
    simpa [List.map_map, Function.comp_def] using this⟩ hz (by rw [hl]; simp) hd hn hbig hc hl' hp
  exact ⟨a, V', h', E, ⟨hcs, b, k, q1, q3, q2, q4⟩, fun x S => (q5 x S).1, Q, w'⟩
/-- clone() of an array -/
theorem Wk.clone {pc pc' : Nat} {L : Array Slot} {st : List Value} {index W cap : Nat} {ad : String} {a : Addr} {k : ClassId} {ty : FieldType} {z : Int32} {vs : List Value} {dv : Value} (w : Wk p l e R s m args below meth c Z a0 EL S0 y B ml ret V h cl sl (mkF m pc L (.ref a :: st)))
    (w1 : (Jvm.Cond.methodLink y.cls index ⟨ad, "clone", "()Ljava/lang/Object;"⟩).before a0 Z = true) (w2 : (Jvm.Cond.sameMethod ad "java/lang/Object" "clone" "()Ljava/lang/Object;").before a0 Z = true) (w3 : (Jvm.Cond.native ⟨"java/lang/Object", "clone", "()Ljava/lang/Object;"⟩).before a0 Z = true)
    (w4 : (Jvm.Cond.instanceMethod ⟨"java/lang/Object", "clone", "()Ljava/lang/Object;"⟩).before a0 Z = true) (w5 : (Jvm.Cond.selects ad ⟨ad, "clone", "()Ljava/lang/Object;"⟩ ⟨"java/lang/Object", "clone", "()Ljava/lang/Object;"⟩).before a0 Z = true) (w6 : (Jvm.Cond.castable ad "java/lang/Cloneable").before a0 Z = true)
    (F : Arv Z h a k ty z vs dv) (E : Exa Z h a ad) (hL : L.size = ml) (hd : decode B pc = .ok (.invokevirtual index, 3)) (hf : 1 ≤ R.frames) (hW : (st.map fun v => v.category).sum ≤ W) (hlo : W + 14 ≤ R.locals) (hcap : z.toNatClampNeg ≤ cap) (hc : cl + 1 ≤ R.cells) (hs : sl + cap ≤ R.slots) (hp : pc + 3 = pc' := by rfl) :
    ∃ (h' : Heap) (b : Addr), b = h.size ∧ Ext h h' ∧ Arv Z h' b k ty z vs dv ∧ Exa Z h' b ad ∧ CHr Z EL V h V h' ∧ Wk p l e R s m args below meth c Z a0 EL S0 y B ml ret V h' (cl + 1) (sl + cap) (mkF m pc' L (.ref b :: st)) := by
  subst hp
  obtain ⟨hf0, ⟨hz, hC, hO⟩, T, locs, k0, X, e0, h1, h2, h3, st0⟩ := id w
  obtain ⟨T', h', X', e', E', F', X2, st'⟩ := cloneH X hf0.1 hz w.own w1 w2 w3 w4 w5 w6 e0 (hs := []) F E (g := mkF m pc L (.ref a :: st)) rfl (hL.trans hf0.2.2.1.symm) rfl (hb hf0.2.1 hd) hf (W := W) (by show 2 * 0 + _ ≤ _; omega) hlo hcap hc hs
  have Q : CHr Z EL V h V h' := CHr.ext E' w.ch
  exact ⟨h', h.size, rfl, E', F', X2, Q, hf0, ⟨hz, hC.trans Q, extT hO E'⟩, T', locs, k0, X', e', h1, Nat.le_trans h2 E'.1, h3, fun t q => st0 t (st' t q)⟩
theorem eqv_r {Z : State} {args : Array Value} {X F : Term} {a : Addr} (hF : F.eval args Z none [] Z = some (.ref a)) (h : (Jvm.Cond.eq X F).value args Z none Z [] = some true) : X.eval args Z none [] Z = some (.ref a) := by
  obtain ⟨x, y, ex, ey, k1, k2⟩ := cmp_v (Or.inl h)
  cases hF.symm.trans ey
  have hx : x.isRef = true := k2.2
  have q := gotT (eq_R ex ey hx rfl) h
  rw [ex, q]
/-- an array of the start, by the words of the case -/
theorem own_arr0 {s : State} {args : Array Value} (hfit : Fit s) {t : Term} {b : Addr} {ty : FieldType} {n : Int32} (vs : List Value) (dv : Value) (ev : t.eval args s none [] s = some (.ref b)) (ha : (Jvm.Cond.arrayOf t ty).value args s none s [] = some true) (hl : (Jvm.Cond.eq (.length t) (.int n)).value args s none s [] = some true) (hn : ¬ n < 0) (hlen : n.toNatClampNeg = vs.length)
    (H : ∀ i v, vs[i]? = some v → (Term.elem t (.int (Int32.ofNat i))).eval args s none [] s = some v) : ∃ k, Arv s s.heap b k ty n vs dv := by
  obtain ⟨cl, A⟩ := Arr.start ev ha
  have e1 := eqv_i (Term.int_eval n) hl
  obtain ⟨b', cl', f1, f2, f3⟩ := Term.length_spec e1
  cases ev.symm.trans f1
  have f4 := (State.arrayAt?_spec f2).1
  cases A.1.symm.trans f4
  have q : cl.slots.size < 2 ^ 31 := SBG.length_lt ev f2 e1
  have hz : cl.slots.size.toInt32 = n := (Value.int.inj f3).symm
  refine ⟨cl.cls, Arv.start hfit A q hz hn hlen ?_⟩
  have key : ∀ (us : List Value) (i : Nat), (∀ j v, us[j]? = some v → vs[i + j]? = some v) → i + us.length ≤ vs.length → HasL cl i us := by
    intro us
    induction us with
    | nil => intro i _ _; trivial
    | cons u us ih =>
      intro i hi hle
      have hle' : i + (us.length + 1) ≤ vs.length := hle
      refine ⟨?_, ih (i + 1) (fun j v hv => by have := hi (j + 1) v (by simpa using hv); rwa [show i + (j + 1) = i + 1 + j by omega] at this) (by omega)⟩
      have hu := hi 0 u rfl
      have hE := H i u (by simpa using hu)
      have hi31 : i < 2 ^ 31 := by have := back32 hn; omega
      obtain ⟨-, g2⟩ := elem_in hE ev (Term.int_eval _) A.1
      have e3 : (Int32.ofNat i).toNatClampNeg = i := by
        have h0 : ¬ Int32.ofNat i < 0 := Int32.ofNat_not_neg hi31
        have h1 := nat_of h0
        have h2 : (Int32.ofNat i).toInt = i := Int32.toInt_ofNat_small hi31
        omega
      rw [e3] at g2; exact g2
  exact key vs 0 (fun j v hv => by simpa using hv) (by simp)
/-- a String of the start, by the words of the case -/
theorem own_str0 {s : State} {args : Array Value} (hfit : Fit s) {t : Term} {a : Addr} {n : Int32} (cs : List Int32) (ev : t.eval args s none [] s = some (.ref a)) (hx : (Jvm.Cond.exactly t "java/lang/String").value args s none s [] = some true) (hc : (Jvm.Cond.eq (.field t "java/lang/String" "coder" "B") (.int 0)).value args s none s [] = some true)
    (ha : (Jvm.Cond.arrayOf (.field t "java/lang/String" "value" "[B") .byte).value args s none s [] = some true) (hl : (Jvm.Cond.eq (.length (.field t "java/lang/String" "value" "[B")) (.int n)).value args s none s [] = some true) (hn : n = Int32.ofNat cs.length) (h0 : ¬ Int32.ofNat cs.length < 0) (h1 : (Int32.ofNat cs.length).toNatClampNeg = cs.length) (hcs : ∀ c ∈ cs, ¬ c < 0 ∧ ¬ (255 : Int32) < c)
    (H : ∀ i c, cs[i]? = some c → (Jvm.Cond.eq (.elem (.field t "java/lang/String" "value" "[B") (.int (Int32.ofNat i))) (.int c.toInt8.toInt32)).value args s none s [] = some true) : Str s s.heap a cs := by
  subst hn
  obtain ⟨b, eb⟩ := arr_v ha
  obtain ⟨k, A⟩ := own_arr0 hfit (cs.map fun c => Value.int c.toInt8.toInt32) (.int 0) eb ha hl h0 (by rw [h1]; simp) (fun i v hv => by
    rw [List.getElem?_map] at hv
    cases hq : cs[i]? with
    | none => rw [hq] at hv; cases hv
    | some c => rw [hq] at hv; cases hv; exact eqv_i (Term.int_eval _) (H i c hq))
  have ec := eqv_i (Term.int_eval 0) hc
  exact ⟨hcs, b, k, Exa.start ev hx, Fld.start (by rw [fld_at ev] at eb; exact eb), Fld.start (by rw [fld_at ev] at ec; exact ec), A⟩
/-- new String(char[]) of one to 4,000 signs -/
theorem Wk.payNew {len W kI : Nat} {x b : Addr} {kC : ClassId} {cs : List Int32} {N z : Int32} {dv v0 c0 : Value} (w : Wk p l e R s m args below meth c Z a0 EL S0 y B ml ret V h cl sl g) (hw : ∀ d ∈ StrChars.Road.words, d.before a0 Z = true) (wi : (Jvm.Cond.instantiable "java/lang/String" kI).before a0 Z = true)
    (E : Exa Z h x "java/lang/String") (Fv : Fld Z h x "java/lang/String" "value" "[B" v0) (Fc : Fld Z h x "java/lang/String" "coder" "B" c0) (K : Arv Z h b kC .char N (cs.map Value.int) dv) (S : Sta Z Z.heap "java/lang/String" "COMPACT_STRINGS" "Z" (.int z)) (hz : ¬ z = 0)
    (hN : N = Int32.ofNat cs.length) (l0 : 0 < cs.length) (l2 : cs.length ≤ 4000) (hp : ∀ c ∈ cs, ¬ c < 0 ∧ ¬ (255 : Int32) < c) (Sf : Safe Z EL V h x) (ge : Z.heap.size ≤ x) (hfr : 4 ≤ R.frames) (hlo : W + 65 ≤ R.locals) :
    Pays p l e R s args below Z EL V h (⟨"java/lang/String", "<init>", "([C)V"⟩ : MethodName) len W 1 cs.length #[.ref x, .ref b] (fun v h' => v = none ∧ Keep h h' [x] ∧ Str Z h' x cs) := by
  have K0 := StrChars.Road.backV (R := R) (p := p) (l := l) (e := e) (below := below) (args := args) (len := len) (W := W) (s := s.setVm V) w.hZ hw wi (n0 := Z.heap.size) ge w.zsz E Fv Fc K (S.ext w.old) hz rfl hN l0 l2 hp rfl hfr hlo
  refine Pays.mono (w.paysB [x] K0 (fun v h' L q => ⟨q.2.2.1, q.2.1⟩) (allS ⟨Sf, ge⟩ all0)) ?_
  rintro v h' ⟨L, q1, q2, q3, q4, q5, t, kb, q6, q7, q8, q9, q10⟩
  refine ⟨q1, q3, hp, t, kb, q4, q9, q5, ?_⟩
  rw [List.map_map] at q10
  rw [← hN]; exact q10
theorem Wk.payLen {len W kI : Nat} {x : Addr} {cs : List Int32} {z : Int32} (w : Wk p l e R s m args below meth c Z a0 EL S0 y B ml ret V h cl sl g) (hw : ∀ d ∈ StrChars.Road.wordsLen, d.before a0 Z = true) (wi : (Jvm.Cond.instantiable "java/lang/String" kI).before a0 Z = true)
    (X : Str Z h x cs) (S : Sta Z Z.heap "java/lang/String" "COMPACT_STRINGS" "Z" (.int z)) (hz : ¬ z = 0) (l2 : cs.length ≤ 4000) (hfr : 2 ≤ R.frames) (hlo : W + 25 ≤ R.locals) :
    Pays p l e R s args below Z EL V h (⟨"java/lang/String", "length", "()I"⟩ : MethodName) len W 0 0 #[.ref x] (fun v h' => v = some (.int (Int32.ofNat cs.length)) ∧ h' = h) := by
  obtain ⟨hp, t, kb, E, Fv, Fc, K⟩ := X
  have hc : StrChars.Road.CodA cs 0 (Int32.ofNat cs.length) (cs.map fun c => Value.int c.toInt8.toInt32) := Or.inl ⟨rfl, rfl, rfl, fun c hc => (hp c hc).2⟩
  have K0 := StrChars.Road.lenW (R := R) (p := p) (l := l) (e := e) (below := below) (args := args) (len := len) (W := W) (s := s.setVm V) w.hZ hw wi E Fv Fc K hc (up8 hp) (S.ext w.old) hz l2 hfr hlo
  refine Pays.mono (w.paysB (Qb := fun v h' L => v = some (.int (Int32.ofNat cs.length)) ∧ L = [] ∧ h' = h) [] K0 (fun v h' L q => ⟨q.2.2 ▸ Keep.refl _ _, q.2.1 ▸ Fr.nil _⟩) all0) ?_
  rintro v h' ⟨L, q1, q2, q3⟩
  exact ⟨q1, q3⟩
theorem Wk.payCh {len W kI : Nat} {x : Addr} {cs : List Int32} {z j : Int32} {fm : Value} {i : Nat} (w : Wk p l e R s m args below meth c Z a0 EL S0 y B ml ret V h cl sl g) (hw : ∀ d ∈ StrChars.Road.wordsChN, d.before a0 Z = true) (wi : (Jvm.Cond.instantiable "java/lang/String" kI).before a0 Z = true)
    (X : Str Z h x cs) (S : Sta Z Z.heap "java/lang/String" "COMPACT_STRINGS" "Z" (.int z)) (hz : ¬ z = 0) (F : Sta Z Z.heap "jdk/internal/util/Preconditions" "SIOOBE_FORMATTER" "Ljava/util/function/BiFunction;" fm) (rf : fm.isRef = true) (l2 : cs.length ≤ 4000) (hi : i < cs.length) (hj : j = Int32.ofNat i) (hfr : 4 ≤ R.frames) (hlo : W + 53 ≤ R.locals) :
    Pays p l e R s args below Z EL V h (⟨"java/lang/String", "charAt", "(I)C"⟩ : MethodName) len W 0 0 #[.ref x, .int j] (fun v h' => v = some (.int (cs.getD i 0)) ∧ h' = h) := by
  obtain ⟨hp, t, kb, E, Fv, Fc, K⟩ := X
  have hc : StrChars.Road.CodA cs 0 (Int32.ofNat cs.length) (cs.map fun c => Value.int c.toInt8.toInt32) := Or.inl ⟨rfl, rfl, rfl, fun c hc => (hp c hc).2⟩
  have K0 := StrChars.Road.chN (R := R) (p := p) (l := l) (e := e) (below := below) (args := args) (len := len) (W := W) (s := s.setVm V) w.hZ hw wi E Fv Fc K hc (up8 hp) (S.ext w.old) hz (F.ext w.old) rf l2 hi hj hfr hlo
  refine Pays.mono (w.paysB (Qb := fun v h' L => v = some (.int (cs.getD i 0)) ∧ L = [] ∧ h' = h) [] K0 (fun v h' L q => ⟨q.2.2 ▸ Keep.refl _ _, q.2.1 ▸ Fr.nil _⟩) all0) ?_
  rintro v h' ⟨L, q1, q2, q3⟩
  exact ⟨q1, q3⟩
end OwnStr
end Jvm.Pilot.@@N@@
namespace Jvm.Pilot.@@N@@
open Jvm Jvm.ClassFile Sem Op Lib Jvm.Free Jvm.Stand Jvm.LawKit Jvm.RoadKit Bundle Jvm.Pilot.@@N@@.Jvm.D
theorem pd_0 : parseMethodDescriptor "([CIILjava/lang/Void;)V" = some ⟨[(.array .char), .int, .int, (.object "java/lang/Void")], none⟩ := by decide +kernel
theorem pd_1 : parseMethodDescriptor "(I)Z" = some ⟨[.int], some .boolean⟩ := by decide +kernel
theorem pd_2 : parseMethodDescriptor "(II)I" = some ⟨[.int, .int], some .int⟩ := by decide +kernel
theorem pd_3 : parseMethodDescriptor "([BIII)I" = some ⟨[(.array .byte), .int, .int, .int], some .int⟩ := by decide +kernel
theorem pd_4 : parseMethodDescriptor "()Z" = some ⟨[], some .boolean⟩ := by decide +kernel
theorem pd_5 : parseMethodDescriptor "()I" = some ⟨[], some .int⟩ := by decide +kernel
theorem pd_6 : parseMethodDescriptor "(I)C" = some ⟨[.int], some .char⟩ := by decide +kernel
theorem pd_7 : parseMethodDescriptor "(I)I" = some ⟨[.int], some .int⟩ := by decide +kernel
theorem pd_8 : parseMethodDescriptor "(Ljava/lang/String;II)Z" = some ⟨[(.object "java/lang/String"), .int, .int], some .boolean⟩ := by decide +kernel
theorem pd_9 : parseMethodDescriptor "(Ljava/lang/String;)I" = some ⟨[(.object "java/lang/String")], some .int⟩ := by decide +kernel
theorem pd_10 : parseMethodDescriptor "(CII)I" = some ⟨[.char, .int, .int], some .int⟩ := by decide +kernel
theorem pd_11 : parseMethodDescriptor "(ICCCCC)[C" = some ⟨[.int, .char, .char, .char, .char, .char], some (.array .char)⟩ := by decide +kernel
theorem pd_12 : parseMethodDescriptor "([C)V" = some ⟨[(.array .char)], none⟩ := by decide +kernel
theorem own_hstr {Z : State} {a0 : Array Value} (hw : ∀ d ∈ tables_1, d.before a0 Z = true) : ∀ a ∈ Bundle.stringAtoms, a.before a0 Z = true := fun d hd => hw d ((by decide +kernel : ∀ d ∈ Bundle.stringAtoms, d ∈ tables_1) d hd)
theorem own_words {Z : State} {a0 : Array Value} (hw : ∀ d ∈ tables_1, d.before a0 Z = true) : ∀ d ∈ StrChars.Road.words, d.before a0 Z = true := fun d hd => hw d ((by decide +kernel : ∀ d ∈ StrChars.Road.words, d ∈ tables_1) d hd)
theorem own_n32 {n : Nat} (h : n ≤ 5000) : ¬ Int32.ofNat n < 0 ∧ (Int32.ofNat n).toNatClampNeg = n ∧ (Int32.ofNat n).toInt = n := by
  have h31 : n < 2 ^ 31 := by omega
  have h0 : ¬ Int32.ofNat n < 0 := Int32.ofNat_not_neg h31
  have h2 : (Int32.ofNat n).toInt = n := Int32.toInt_ofNat_small h31
  have h1 := nat_of h0
  exact ⟨h0, by omega, h2⟩
theorem own_add32 {a b : Nat} (h : a + b ≤ 5000) : Int32.ofNat a + Int32.ofNat b = Int32.ofNat (a + b) := by
  have e1 := (own_n32 (n := a) (by omega)).2.2
  have e2 := (own_n32 (n := b) (by omega)).2.2
  have e3 := (own_n32 h).2.2
  refine Int32.toInt_inj.mp ?_
  have := c_iadd (Int32.ofNat a) (Int32.ofNat b)
  have := rng32 (Int32.ofNat a + Int32.ofNat b)
  omega
theorem own_sub32 {a b : Nat} (h : a ≤ 5000) (hb : b ≤ a) : Int32.ofNat a - Int32.ofNat b = Int32.ofNat (a - b) := by
  have e1 := (own_n32 (n := a) (by omega)).2.2
  have e2 := (own_n32 (n := b) (by omega)).2.2
  have e3 := (own_n32 (n := a - b) (by omega)).2.2
  refine Int32.toInt_inj.mp ?_
  have := c_isub (Int32.ofNat a) (Int32.ofNat b)
  have := rng32 (Int32.ofNat a - Int32.ofNat b)
  omega
theorem own_lt32 {a b : Nat} (ha : a ≤ 5000) (hb : b ≤ 5000) : Int32.ofNat a < Int32.ofNat b ↔ a < b := by
  have e1 := (own_n32 (n := a) ha).2.2
  have e2 := (own_n32 (n := b) hb).2.2
  rw [Int32.lt_iff_toInt_lt]; omega
theorem own_eq32 {a b : Nat} (ha : a ≤ 5000) (hb : b ≤ 5000) : Int32.ofNat a = Int32.ofNat b ↔ a = b := by
  have e1 := (own_n32 (n := a) ha).2.2
  have e2 := (own_n32 (n := b) hb).2.2
  rw [← Int32.toInt_inj]; omega
/-- an array of bytes whose length no booked constant has may be written -/
theorem own_safe {Z : State} {a0 : Array Value} {EL : List (String × Nat)} {V : Vm} {h : Heap} {t : Addr} {kb : ClassId} {n : Int32} {vs : List Value} {dv : Value} (hZ : Z.Warmed39 V) (F : Arv Z h t kb .byte n vs dv)
    (hw : ∀ p ∈ EL, ∃ text : String, (Jvm.Cond.stringLink p.1 p.2 text).before a0 Z = true ∧ (∀ c ∈ text.toList, c.toNat < 256) ∧ text.toList.length ≠ n.toNatClampNeg) : Safe Z EL V h t := fun B => by
  obtain ⟨cA, ⟨A1, ⟨-, kA, hkA, compA, hkindA⟩, -⟩, -, A3, -⟩ := F
  obtain ⟨p, hp, u, a, hb, q, hq, Fq, hy⟩ := B
  obtain ⟨kA', hkA', ekA⟩ := hZ.alike.2.2 _ _ hkA
  rcases hy with rfl | rfl
  · cases (show h[q.sa]? = some q.sC from Fq.ha).symm.trans A1
    obtain ⟨cS, ⟨-, -, e⟩, ⟨kS, g1, g2, -⟩, -⟩ := Fq
    subst e
    cases (show V.classes[q.sC.cls]? = some kS from g1).symm.trans hkA'
    rw [ekA] at g2
    exact nomatch hkindA.symm.trans g2
  · cases (show h[q.sd]? = some q.SA from Fq.hd).symm.trans A1
    obtain ⟨text, wl, ht, hne⟩ := hw p hp
    obtain ⟨c, k, cf, i, hc, hk, hcf, hpool, hu, -⟩ := hb
    have wl' : (Jvm.Cond.stringLink p.1 p.2 text).before a0 (Wst Z V h) = true := mvS (s := { Z with heap := h }) hZ wl
    obtain ⟨k0, cf0, i0, u0, hk0, hcf0, hp0, hu0, -, htext, -⟩ := Cond.stringLink_spec (s := Wst Z V h) hc wl'
    cases (show V.classes[c]? = some k from hk).symm.trans hk0
    cases hcf.symm.trans hcf0
    cases hpool.symm.trans hp0
    cases hu.symm.trans hu0
    have hlat := Jvm.ClassFile.lat_of_text htext ht
    obtain ⟨-, -, -, -, hbyt⟩ := Fq
    have e1 : q.SA.slots.size = u.size := by rw [hbyt, SBG.stringBytes_lat hlat, Array.size_map]
    have e2 := congrArg List.length (Jvm.ClassFile.units_of_text htext ht)
    simp at e2
    exact hne (by rw [← A3, e1, e2])
theorem own_shl0 (x : Int32) : x <<< ((0 : Int32) &&& 31) = x := by
  rw [show ((0 : Int32) &&& 31) = 0 from by decide]
  exact Int32.shiftLeft_zero
theorem own_shr0 (x : Int32) : x >>> ((0 : Int32) &&& 31) = x := by
  rw [show ((0 : Int32) &&& 31) = 0 from by decide]
  exact Int32.shiftRight_zero
theorem own_sub0 (x : Int32) : x - 0 = x := Int32.sub_zero x
theorem own_min16 {n : Nat} (h : n ≤ 16) : ¬ (16 : Int32) < Int32.ofNat n := fun q => by
  have := (own_lt32 (a := 16) (b := n) (by omega) (by omega)).mp q
  omega
theorem d3_0 : decode jdk_42_method_3_code 0 = .ok (.aload_n 0, 1) := by decide +kernel
theorem d3_1 : decode jdk_42_method_3_code 1 = .ok (.aload_n 1, 1) := by decide +kernel
theorem d3_2 : decode jdk_42_method_3_code 2 = .ok (.iconst 0, 1) := by decide +kernel
theorem d3_3 : decode jdk_42_method_3_code 3 = .ok (.aload_n 1, 1) := by decide +kernel
theorem d3_4 : decode jdk_42_method_3_code 4 = .ok (.arraylength, 1) := by decide +kernel
theorem d3_5 : decode jdk_42_method_3_code 5 = .ok (.aconst_null, 1) := by decide +kernel
theorem d3_6 : decode jdk_42_method_3_code 6 = .ok (.invokespecial 27, 3) := by decide +kernel
theorem d3_9 : decode jdk_42_method_3_code 9 = .ok (.return_, 1) := by decide +kernel
theorem d4_0 : decode jdk_42_method_149_code 0 = .ok (.aload_n 0, 1) := by decide +kernel
theorem d4_1 : decode jdk_42_method_149_code 1 = .ok (.invokespecial 1, 3) := by decide +kernel
theorem d4_4 : decode jdk_42_method_149_code 4 = .ok (.iload_n 3, 1) := by decide +kernel
theorem d4_5 : decode jdk_42_method_149_code 5 = .ok (.ifCond .ne 22, 3) := by decide +kernel
theorem d4_8 : decode jdk_42_method_149_code 8 = .ok (.aload_n 0, 1) := by decide +kernel
theorem d4_9 : decode jdk_42_method_149_code 9 = .ok (.ldc 7, 2) := by decide +kernel
theorem d4_11 : decode jdk_42_method_149_code 11 = .ok (.getfield 9, 3) := by decide +kernel
theorem d4_14 : decode jdk_42_method_149_code 14 = .ok (.putfield 9, 3) := by decide +kernel
theorem d4_17 : decode jdk_42_method_149_code 17 = .ok (.aload_n 0, 1) := by decide +kernel
theorem d4_18 : decode jdk_42_method_149_code 18 = .ok (.ldc 7, 2) := by decide +kernel
theorem d4_20 : decode jdk_42_method_149_code 20 = .ok (.getfield 15, 3) := by decide +kernel
theorem d4_23 : decode jdk_42_method_149_code 23 = .ok (.putfield 15, 3) := by decide +kernel
theorem d4_26 : decode jdk_42_method_149_code 26 = .ok (.return_, 1) := by decide +kernel
theorem d4_27 : decode jdk_42_method_149_code 27 = .ok (.getstatic 38, 3) := by decide +kernel
theorem d4_30 : decode jdk_42_method_149_code 30 = .ok (.ifCond .eq 28, 3) := by decide +kernel
theorem d4_33 : decode jdk_42_method_149_code 33 = .ok (.aload_n 1, 1) := by decide +kernel
theorem d4_34 : decode jdk_42_method_149_code 34 = .ok (.iload_n 2, 1) := by decide +kernel
theorem d4_35 : decode jdk_42_method_149_code 35 = .ok (.iload_n 3, 1) := by decide +kernel
theorem d4_36 : decode jdk_42_method_149_code 36 = .ok (.invokestatic 177, 3) := by decide +kernel
theorem d4_39 : decode jdk_42_method_149_code 39 = .ok (.astore 5, 2) := by decide +kernel
theorem d4_41 : decode jdk_42_method_149_code 41 = .ok (.aload_n 0, 1) := by decide +kernel
theorem d4_42 : decode jdk_42_method_149_code 42 = .ok (.aload 5, 2) := by decide +kernel
theorem d4_44 : decode jdk_42_method_149_code 44 = .ok (.iload_n 3, 1) := by decide +kernel
theorem d4_45 : decode jdk_42_method_149_code 45 = .ok (.invokestatic 47, 3) := by decide +kernel
theorem d4_48 : decode jdk_42_method_149_code 48 = .ok (.putfield 15, 3) := by decide +kernel
theorem d4_51 : decode jdk_42_method_149_code 51 = .ok (.aload_n 0, 1) := by decide +kernel
theorem d4_52 : decode jdk_42_method_149_code 52 = .ok (.aload 5, 2) := by decide +kernel
theorem d4_54 : decode jdk_42_method_149_code 54 = .ok (.putfield 9, 3) := by decide +kernel
theorem d4_57 : decode jdk_42_method_149_code 57 = .ok (.return_, 1) := by decide +kernel
theorem d4_58 : decode jdk_42_method_149_code 58 = .ok (.aload_n 0, 1) := by decide +kernel
theorem d4_59 : decode jdk_42_method_149_code 59 = .ok (.iconst 1, 1) := by decide +kernel
theorem d4_60 : decode jdk_42_method_149_code 60 = .ok (.putfield 15, 3) := by decide +kernel
theorem d4_63 : decode jdk_42_method_149_code 63 = .ok (.aload_n 0, 1) := by decide +kernel
theorem d4_64 : decode jdk_42_method_149_code 64 = .ok (.aload_n 1, 1) := by decide +kernel
theorem d4_65 : decode jdk_42_method_149_code 65 = .ok (.iload_n 2, 1) := by decide +kernel
theorem d4_66 : decode jdk_42_method_149_code 66 = .ok (.iload_n 3, 1) := by decide +kernel
theorem d4_67 : decode jdk_42_method_149_code 67 = .ok (.invokestatic 180, 3) := by decide +kernel
theorem d4_70 : decode jdk_42_method_149_code 70 = .ok (.putfield 9, 3) := by decide +kernel
theorem d4_73 : decode jdk_42_method_149_code 73 = .ok (.return_, 1) := by decide +kernel
/-! new String of no signs: the two constructors, and the constant "" -/
set_option maxRecDepth 65536 in
theorem rmI4 (l : Launch) (Z : State) (a0 : Array Value) (hw : ∀ d ∈ tables_1, d.before a0 Z = true) (hEL : EW Z a0 consts_1) (x b : Addr) (h0 : Heap) (hx : Ext Z.heap h0) (X : Exa Z h0 x "java/lang/String") (Fv : Fld Z h0 x "java/lang/String" "value" "[B" .null) (Fc : Fld Z h0 x "java/lang/String" "coder" "B" (.int 0)) (ge_x_Z : Z.heap.size ≤ x) :
    Met l Z consts_1 (⟨"java/lang/String", "<init>", "([CIILjava/lang/Void;)V"⟩ : MethodName) jdk_42_method_149_code 6 none [] ({ frames := 1, cells := 4, slots := 8, locals := 12 } : Room) #[.ref x, .ref b, .int 0, .int 0, .null] h0 [x] (fun v h => v = none ∧ Keep h0 h [x] ∧ Str Z h x []) := by
  refine Met.of (a0 := a0) (by decide +kernel) hEL hx ?_
  intro p e s m below meth c S0 V w hs hsf
  have hstr := own_hstr hw
  have Sx := hsf x (List.mem_cons_self ..)
  replace w := w.to (g' := mkF m 0 #[.val (.ref x), .val (.ref b), .val (.int (0 : Int32)), .val (.int (0 : Int32)), .val .null, .unset] []) (by first | (simp [entryFrame, mkF, argsToLocals, Value.category]; done) | rfl)
  have B0 := extR h0
  have C0 := CHr.refl w.ch
  replace w := w.aloadN (pc' := 1) d4_0 rfl
  replace w := w.initO 0 (hw _ (List.mem_of_getElem? (i := 18) rfl)) (hw _ (List.mem_of_getElem? (i := 19) rfl)) (hw _ (List.mem_of_getElem? (i := 20) rfl)) rfl d4_1 (by decide) (Nat.le_of_eq rfl) (by decide) (pc' := 4)
  replace w := w.iloadN (pc' := 5) d4_4 rfl
  replace w := w.ifNo (pc' := 8) d4_5 (by decide)
  replace w := w.aloadN (pc' := 9) d4_8 rfl
  obtain ⟨q, V1, h1, b_q, k_q, E1, X_q, Fc_q, Fv_q, V_q, N_q, A1, w⟩ := w.ldcS (vs := []) (z := 0) 0 (text := "") (hw _ (List.mem_of_getElem? (i := 21) rfl)) hstr (by decide) ⟨by decide, by decide⟩ (by decide) (by decide) d4_9 (by decide) (by decide) (by decide) (by decide) (pc' := 11)
  have B0 := extT B0 E1
  have C0 := C0.trans A1
  replace w := w.getF (hw _ (List.mem_of_getElem? (i := 27) rfl)) Fv_q d4_11 (pc' := 14)
  have Sx1 := A1.safe X.lt Sx
  obtain ⟨h2, W2, K2, Fw2, A2, w⟩ := w.putF (ty := (.array .byte)) (hw _ (List.mem_of_getElem? (i := 27) rfl)) (Fv.ext E1) (X.ext E1) (Or.inr ⟨(hw _ (List.mem_of_getElem? (i := 23) rfl)), rfl, rfl⟩) (hw _ (List.mem_of_getElem? (i := 5) rfl)) (by decide) rfl rfl (Sx1) (ge_x_Z) d4_14 (pc' := 17)
  have K01 : Keep h0 h2 [x] := (keepE E1 [x]).trans K2 (allS (Or.inl (List.mem_cons_self ..)) all0)
  have X2 := X.keep K01
  have Sx2 := A2.safe (X.ext E1).lt Sx1
  have Fc2 := (Fc.ext E1).other W2 (Or.inr (slot_ne (C := "java/lang/String") (Or.inr (hw _ (List.mem_of_getElem? (i := 24) rfl))) (Or.inr (hw _ (List.mem_of_getElem? (i := 23) rfl))) (by decide) (t := .byte) (t' := .array .byte) (by decide) (by decide)))
  have nb := (N_q x Sx1).2
  have Vb2 := V_q.other W2 (fun z => nb z.symm)
  replace w := w.aloadN (pc' := 18) d4_17 rfl
  obtain ⟨r, V3, h3, b_r, k_r, E3, X_r, Fc_r, Fv_r, V_r, N_r, A3, w⟩ := w.ldcS (vs := []) (z := 0) 0 (text := "") (hw _ (List.mem_of_getElem? (i := 21) rfl)) hstr (by decide) ⟨by decide, by decide⟩ (by decide) (by decide) d4_18 (by decide) (by decide) (by decide) (by decide) (pc' := 20)
  replace w := w.getF (hw _ (List.mem_of_getElem? (i := 28) rfl)) Fc_r d4_20 (pc' := 23)
  have Sx3 := A3.safe X2.lt Sx2
  obtain ⟨h4, W4, K4, Fw4, A4, w⟩ := w.putFN (v' := (.int (0 : Int32))) (ty := .byte) (hw _ (List.mem_of_getElem? (i := 28) rfl)) (Fc2.ext E3) (X2.ext E3) (Or.inr ⟨(hw _ (List.mem_of_getElem? (i := 24) rfl)), rfl, rfl⟩) (hw _ (List.mem_of_getElem? (i := 5) rfl)) (by decide) (rfl) (by decide) (Sx3) (ge_x_Z) d4_23 (pc' := 26)
  have K03 : Keep h0 h4 [x] := (K01.ext E3).trans K4 (allS (Or.inl (List.mem_cons_self ..)) all0)
  exact w.ret0 d4_26 ⟨rfl, K03, chars0, b_q, k_q, X.keep K03, (Fw2.ext E3).other W4 (Or.inr (slot_ne (C := "java/lang/String") (Or.inr (hw _ (List.mem_of_getElem? (i := 23) rfl))) (Or.inr (hw _ (List.mem_of_getElem? (i := 24) rfl))) (by decide) (t := .array .byte) (t' := .byte) (by decide) (by decide))), Fw4, (Vb2.ext E3).other W4 (fun z => nb z.symm)⟩ nle nle
set_option maxRecDepth 65536 in
theorem rmI1 (l : Launch) (Z : State) (a0 : Array Value) (hw : ∀ d ∈ tables_1, d.before a0 Z = true) (hEL : EW Z a0 consts_1) (x b : Addr) (kC : ClassId) (dv : Value) (h0 : Heap) (hx : Ext Z.heap h0) (X : Exa Z h0 x "java/lang/String") (Fv : Fld Z h0 x "java/lang/String" "value" "[B" .null) (Fc : Fld Z h0 x "java/lang/String" "coder" "B" (.int 0)) (ge_x_Z : Z.heap.size ≤ x) (A : Arv Z h0 b kC .char 0 [] dv) :
    Met l Z consts_1 (⟨"java/lang/String", "<init>", "([C)V"⟩ : MethodName) jdk_42_method_3_code 2 none [] ({ frames := 2, cells := 4, slots := 8, locals := 29 } : Room) #[.ref x, .ref b] h0 [x] (fun v h => v = none ∧ Keep h0 h [x] ∧ Str Z h x []) := by
  refine Met.of (a0 := a0) (by decide +kernel) hEL hx ?_
  intro p e s m below meth c S0 V w hs hsf
  have Sx := hsf x (List.mem_cons_self ..)
  replace w := w.to (g' := mkF m 0 #[.val (.ref x), .val (.ref b)] []) (by first | (simp [entryFrame, mkF, argsToLocals, Value.category]; done) | rfl)
  replace w := w.aloadN (pc' := 1) d3_0 rfl
  replace w := w.aloadN (pc' := 2) d3_1 rfl
  replace w := w.iconst (pc' := 3) (0 : Int32) d3_2
  replace w := w.aloadN (pc' := 4) d3_3 rfl
  replace w := w.arrlen A d3_4 (pc' := 5)
  replace w := w.aconstNull (pc' := 6) d3_5
  obtain ⟨v1, V1, h1, hq1, A1, w⟩ := w.ctor (y' := (⟨"java/lang/String", "<init>", "([CIILjava/lang/Void;)V"⟩ : MethodName)) (W := 0) (a := x) (w.pays 0 (rmI4 l Z a0 hw hEL x b h0 w.old X Fv Fc ge_x_Z) (hw _ (List.mem_of_getElem? (i := 17) rfl)) (hw _ (List.mem_of_getElem? (i := 6) rfl)) (allS Sx all0) nle nle) rfl (hw _ (List.mem_of_getElem? (i := 14) rfl)) (hw _ (List.mem_of_getElem? (i := 15) rfl)) (hw _ (List.mem_of_getElem? (i := 17) rfl)) (argsL := [(.ref b), (.int (0 : Int32)), (.int (0 : Int32)), .null]) (rest := []) (by decide) pd_0 rfl rfl (Nat.le_of_eq rfl) rfl d3_6 nle nle (pc' := 9)
  obtain ⟨rfl, K1, T1⟩ := hq1
  replace w := w.to (g' := mkF m 9 #[.val (.ref x), .val (.ref b)] []) rfl
  exact w.ret0 d3_9 ⟨rfl, K1, T1⟩ nle nle
theorem d1_0 : decode method_2_code 0 = .ok (.iload_n 0, 1) := by decide +kernel
theorem d1_1 : decode method_2_code 1 = .ok (.iconst 3, 1) := by decide +kernel
theorem d1_2 : decode method_2_code 2 = .ok (.iand, 1) := by decide +kernel
theorem d1_3 : decode method_2_code 3 = .ok (.istore_n 1, 1) := by decide +kernel
theorem d1_4 : decode method_2_code 4 = .ok (.iload_n 0, 1) := by decide +kernel
theorem d1_5 : decode method_2_code 5 = .ok (.iconst 2, 1) := by decide +kernel
theorem d1_6 : decode method_2_code 6 = .ok (.iushr, 1) := by decide +kernel
theorem d1_7 : decode method_2_code 7 = .ok (.istore_n 2, 1) := by decide +kernel
theorem d1_8 : decode method_2_code 8 = .ok (.iload_n 1, 1) := by decide +kernel
theorem d1_9 : decode method_2_code 9 = .ok (.iconst 1, 1) := by decide +kernel
theorem d1_10 : decode method_2_code 10 = .ok (.if_icmp .ne 6, 3) := by decide +kernel
theorem d1_13 : decode method_2_code 13 = .ok (.bipush 46, 2) := by decide +kernel
theorem d1_15 : decode method_2_code 15 = .ok (.ireturn, 1) := by decide +kernel
theorem d1_16 : decode method_2_code 16 = .ok (.iload_n 1, 1) := by decide +kernel
theorem d1_17 : decode method_2_code 17 = .ok (.iconst 3, 1) := by decide +kernel
theorem d1_18 : decode method_2_code 18 = .ok (.if_icmp .ne 10, 3) := by decide +kernel
theorem d1_21 : decode method_2_code 21 = .ok (.iload_n 2, 1) := by decide +kernel
theorem d1_22 : decode method_2_code 22 = .ok (.sipush 255, 3) := by decide +kernel
theorem d1_25 : decode method_2_code 25 = .ok (.iand, 1) := by decide +kernel
theorem d1_26 : decode method_2_code 26 = .ok (.i2c, 1) := by decide +kernel
theorem d1_27 : decode method_2_code 27 = .ok (.ireturn, 1) := by decide +kernel
theorem d1_28 : decode method_2_code 28 = .ok (.bipush 48, 2) := by decide +kernel
theorem d1_30 : decode method_2_code 30 = .ok (.iload_n 2, 1) := by decide +kernel
theorem d1_31 : decode method_2_code 31 = .ok (.bipush 10, 2) := by decide +kernel
theorem d1_33 : decode method_2_code 33 = .ok (.irem, 1) := by decide +kernel
theorem d1_34 : decode method_2_code 34 = .ok (.iadd, 1) := by decide +kernel
theorem d1_35 : decode method_2_code 35 = .ok (.i2c, 1) := by decide +kernel
theorem d1_36 : decode method_2_code 36 = .ok (.ireturn, 1) := by decide +kernel
theorem d2_0 : decode method_3_code 0 = .ok (.iload_n 0, 1) := by decide +kernel
theorem d2_1 : decode method_3_code 1 = .ok (.ifCond .ne 7, 3) := by decide +kernel
theorem d2_4 : decode method_3_code 4 = .ok (.iconst 0, 1) := by decide +kernel
theorem d2_5 : decode method_3_code 5 = .ok (.newarray .char, 2) := by decide +kernel
theorem d2_7 : decode method_3_code 7 = .ok (.areturn, 1) := by decide +kernel
theorem d2_8 : decode method_3_code 8 = .ok (.iload_n 0, 1) := by decide +kernel
theorem d2_9 : decode method_3_code 9 = .ok (.iconst 1, 1) := by decide +kernel
theorem d2_10 : decode method_3_code 10 = .ok (.if_icmp .ne 11, 3) := by decide +kernel
theorem d2_13 : decode method_3_code 13 = .ok (.iconst 1, 1) := by decide +kernel
theorem d2_14 : decode method_3_code 14 = .ok (.newarray .char, 2) := by decide +kernel
theorem d2_16 : decode method_3_code 16 = .ok (.dup, 1) := by decide +kernel
theorem d2_17 : decode method_3_code 17 = .ok (.iconst 0, 1) := by decide +kernel
theorem d2_18 : decode method_3_code 18 = .ok (.iload_n 1, 1) := by decide +kernel
theorem d2_19 : decode method_3_code 19 = .ok (.castore, 1) := by decide +kernel
theorem d2_20 : decode method_3_code 20 = .ok (.areturn, 1) := by decide +kernel
theorem d2_21 : decode method_3_code 21 = .ok (.iload_n 0, 1) := by decide +kernel
theorem d2_22 : decode method_3_code 22 = .ok (.iconst 2, 1) := by decide +kernel
theorem d2_23 : decode method_3_code 23 = .ok (.if_icmp .ne 15, 3) := by decide +kernel
theorem d2_26 : decode method_3_code 26 = .ok (.iconst 2, 1) := by decide +kernel
theorem d2_27 : decode method_3_code 27 = .ok (.newarray .char, 2) := by decide +kernel
theorem d2_29 : decode method_3_code 29 = .ok (.dup, 1) := by decide +kernel
theorem d2_30 : decode method_3_code 30 = .ok (.iconst 0, 1) := by decide +kernel
theorem d2_31 : decode method_3_code 31 = .ok (.iload_n 1, 1) := by decide +kernel
theorem d2_32 : decode method_3_code 32 = .ok (.castore, 1) := by decide +kernel
theorem d2_33 : decode method_3_code 33 = .ok (.dup, 1) := by decide +kernel
theorem d2_34 : decode method_3_code 34 = .ok (.iconst 1, 1) := by decide +kernel
theorem d2_35 : decode method_3_code 35 = .ok (.iload_n 2, 1) := by decide +kernel
theorem d2_36 : decode method_3_code 36 = .ok (.castore, 1) := by decide +kernel
theorem d2_37 : decode method_3_code 37 = .ok (.areturn, 1) := by decide +kernel
theorem d2_38 : decode method_3_code 38 = .ok (.iload_n 0, 1) := by decide +kernel
theorem d2_39 : decode method_3_code 39 = .ok (.iconst 3, 1) := by decide +kernel
theorem d2_40 : decode method_3_code 40 = .ok (.if_icmp .ne 19, 3) := by decide +kernel
theorem d2_43 : decode method_3_code 43 = .ok (.iconst 3, 1) := by decide +kernel
theorem d2_44 : decode method_3_code 44 = .ok (.newarray .char, 2) := by decide +kernel
theorem d2_46 : decode method_3_code 46 = .ok (.dup, 1) := by decide +kernel
theorem d2_47 : decode method_3_code 47 = .ok (.iconst 0, 1) := by decide +kernel
theorem d2_48 : decode method_3_code 48 = .ok (.iload_n 1, 1) := by decide +kernel
theorem d2_49 : decode method_3_code 49 = .ok (.castore, 1) := by decide +kernel
theorem d2_50 : decode method_3_code 50 = .ok (.dup, 1) := by decide +kernel
theorem d2_51 : decode method_3_code 51 = .ok (.iconst 1, 1) := by decide +kernel
theorem d2_52 : decode method_3_code 52 = .ok (.iload_n 2, 1) := by decide +kernel
theorem d2_53 : decode method_3_code 53 = .ok (.castore, 1) := by decide +kernel
theorem d2_54 : decode method_3_code 54 = .ok (.dup, 1) := by decide +kernel
theorem d2_55 : decode method_3_code 55 = .ok (.iconst 2, 1) := by decide +kernel
theorem d2_56 : decode method_3_code 56 = .ok (.iload_n 3, 1) := by decide +kernel
theorem d2_57 : decode method_3_code 57 = .ok (.castore, 1) := by decide +kernel
theorem d2_58 : decode method_3_code 58 = .ok (.areturn, 1) := by decide +kernel
theorem d2_59 : decode method_3_code 59 = .ok (.iload_n 0, 1) := by decide +kernel
theorem d2_60 : decode method_3_code 60 = .ok (.iconst 4, 1) := by decide +kernel
theorem d2_61 : decode method_3_code 61 = .ok (.if_icmp .ne 24, 3) := by decide +kernel
theorem d2_64 : decode method_3_code 64 = .ok (.iconst 4, 1) := by decide +kernel
theorem d2_65 : decode method_3_code 65 = .ok (.newarray .char, 2) := by decide +kernel
theorem d2_67 : decode method_3_code 67 = .ok (.dup, 1) := by decide +kernel
theorem d2_68 : decode method_3_code 68 = .ok (.iconst 0, 1) := by decide +kernel
theorem d2_69 : decode method_3_code 69 = .ok (.iload_n 1, 1) := by decide +kernel
theorem d2_70 : decode method_3_code 70 = .ok (.castore, 1) := by decide +kernel
theorem d2_71 : decode method_3_code 71 = .ok (.dup, 1) := by decide +kernel
theorem d2_72 : decode method_3_code 72 = .ok (.iconst 1, 1) := by decide +kernel
theorem d2_73 : decode method_3_code 73 = .ok (.iload_n 2, 1) := by decide +kernel
theorem d2_74 : decode method_3_code 74 = .ok (.castore, 1) := by decide +kernel
theorem d2_75 : decode method_3_code 75 = .ok (.dup, 1) := by decide +kernel
theorem d2_76 : decode method_3_code 76 = .ok (.iconst 2, 1) := by decide +kernel
theorem d2_77 : decode method_3_code 77 = .ok (.iload_n 3, 1) := by decide +kernel
theorem d2_78 : decode method_3_code 78 = .ok (.castore, 1) := by decide +kernel
theorem d2_79 : decode method_3_code 79 = .ok (.dup, 1) := by decide +kernel
theorem d2_80 : decode method_3_code 80 = .ok (.iconst 3, 1) := by decide +kernel
theorem d2_81 : decode method_3_code 81 = .ok (.iload 4, 2) := by decide +kernel
theorem d2_83 : decode method_3_code 83 = .ok (.castore, 1) := by decide +kernel
theorem d2_84 : decode method_3_code 84 = .ok (.areturn, 1) := by decide +kernel
theorem d2_85 : decode method_3_code 85 = .ok (.iconst 5, 1) := by decide +kernel
theorem d2_86 : decode method_3_code 86 = .ok (.newarray .char, 2) := by decide +kernel
theorem d2_88 : decode method_3_code 88 = .ok (.dup, 1) := by decide +kernel
theorem d2_89 : decode method_3_code 89 = .ok (.iconst 0, 1) := by decide +kernel
theorem d2_90 : decode method_3_code 90 = .ok (.iload_n 1, 1) := by decide +kernel
theorem d2_91 : decode method_3_code 91 = .ok (.castore, 1) := by decide +kernel
theorem d2_92 : decode method_3_code 92 = .ok (.dup, 1) := by decide +kernel
theorem d2_93 : decode method_3_code 93 = .ok (.iconst 1, 1) := by decide +kernel
theorem d2_94 : decode method_3_code 94 = .ok (.iload_n 2, 1) := by decide +kernel
theorem d2_95 : decode method_3_code 95 = .ok (.castore, 1) := by decide +kernel
theorem d2_96 : decode method_3_code 96 = .ok (.dup, 1) := by decide +kernel
theorem d2_97 : decode method_3_code 97 = .ok (.iconst 2, 1) := by decide +kernel
theorem d2_98 : decode method_3_code 98 = .ok (.iload_n 3, 1) := by decide +kernel
theorem d2_99 : decode method_3_code 99 = .ok (.castore, 1) := by decide +kernel
theorem d2_100 : decode method_3_code 100 = .ok (.dup, 1) := by decide +kernel
theorem d2_101 : decode method_3_code 101 = .ok (.iconst 3, 1) := by decide +kernel
theorem d2_102 : decode method_3_code 102 = .ok (.iload 4, 2) := by decide +kernel
theorem d2_104 : decode method_3_code 104 = .ok (.castore, 1) := by decide +kernel
theorem d2_105 : decode method_3_code 105 = .ok (.dup, 1) := by decide +kernel
theorem d2_106 : decode method_3_code 106 = .ok (.iconst 4, 1) := by decide +kernel
theorem d2_107 : decode method_3_code 107 = .ok (.iload 5, 2) := by decide +kernel
theorem d2_109 : decode method_3_code 109 = .ok (.castore, 1) := by decide +kernel
theorem d2_110 : decode method_3_code 110 = .ok (.areturn, 1) := by decide +kernel
theorem d6_0 : decode method_5_code 0 = .ok (.iload_n 1, 1) := by decide +kernel
theorem d6_1 : decode method_5_code 1 = .ok (.iload_n 2, 1) := by decide +kernel
theorem d6_2 : decode method_5_code 2 = .ok (.if_icmp .ge 25, 3) := by decide +kernel
theorem d6_5 : decode method_5_code 5 = .ok (.iload_n 0, 1) := by decide +kernel
theorem d6_6 : decode method_5_code 6 = .ok (.bipush 46, 2) := by decide +kernel
theorem d6_8 : decode method_5_code 8 = .ok (.if_icmp .eq 19, 3) := by decide +kernel
theorem d6_11 : decode method_5_code 11 = .ok (.iload_n 0, 1) := by decide +kernel
theorem d6_12 : decode method_5_code 12 = .ok (.bipush 48, 2) := by decide +kernel
theorem d6_14 : decode method_5_code 14 = .ok (.if_icmp .lt 9, 3) := by decide +kernel
theorem d6_17 : decode method_5_code 17 = .ok (.iload_n 0, 1) := by decide +kernel
theorem d6_18 : decode method_5_code 18 = .ok (.bipush 57, 2) := by decide +kernel
theorem d6_20 : decode method_5_code 20 = .ok (.if_icmp .le 7, 3) := by decide +kernel
theorem d6_23 : decode method_5_code 23 = .ok (.iconst 1, 1) := by decide +kernel
theorem d6_24 : decode method_5_code 24 = .ok (.goto 4, 3) := by decide +kernel
theorem d6_27 : decode method_5_code 27 = .ok (.iconst 0, 1) := by decide +kernel
theorem d6_28 : decode method_5_code 28 = .ok (.ireturn, 1) := by decide +kernel
theorem d7_0 : decode method_4_code 0 = .ok (.iload_n 1, 1) := by decide +kernel
theorem d7_1 : decode method_4_code 1 = .ok (.iload_n 2, 1) := by decide +kernel
theorem d7_2 : decode method_4_code 2 = .ok (.if_icmp .ge 13, 3) := by decide +kernel
theorem d7_5 : decode method_4_code 5 = .ok (.iload_n 0, 1) := by decide +kernel
theorem d7_6 : decode method_4_code 6 = .ok (.bipush 46, 2) := by decide +kernel
theorem d7_8 : decode method_4_code 8 = .ok (.if_icmp .ne 7, 3) := by decide +kernel
theorem d7_11 : decode method_4_code 11 = .ok (.iconst 1, 1) := by decide +kernel
theorem d7_12 : decode method_4_code 12 = .ok (.goto 4, 3) := by decide +kernel
theorem d7_15 : decode method_4_code 15 = .ok (.iconst 0, 1) := by decide +kernel
theorem d7_16 : decode method_4_code 16 = .ok (.ireturn, 1) := by decide +kernel
theorem d8_0 : decode prog_26_method_4_code 0 = .ok (.aload_n 0, 1) := by decide +kernel
theorem d8_1 : decode prog_26_method_4_code 1 = .ok (.bipush 46, 2) := by decide +kernel
theorem d8_3 : decode prog_26_method_4_code 3 = .ok (.invokevirtual 40, 3) := by decide +kernel
theorem d8_6 : decode prog_26_method_4_code 6 = .ok (.istore_n 1, 1) := by decide +kernel
theorem d8_7 : decode prog_26_method_4_code 7 = .ok (.iconst (-1), 1) := by decide +kernel
theorem d8_8 : decode prog_26_method_4_code 8 = .ok (.istore_n 2, 1) := by decide +kernel
theorem d8_9 : decode prog_26_method_4_code 9 = .ok (.iload_n 1, 1) := by decide +kernel
theorem d8_10 : decode prog_26_method_4_code 10 = .ok (.ifCond .ge 20, 3) := by decide +kernel
theorem d8_13 : decode prog_26_method_4_code 13 = .ok (.aload_n 0, 1) := by decide +kernel
theorem d8_14 : decode prog_26_method_4_code 14 = .ok (.iconst 0, 1) := by decide +kernel
theorem d8_15 : decode prog_26_method_4_code 15 = .ok (.aload_n 0, 1) := by decide +kernel
theorem d8_16 : decode prog_26_method_4_code 16 = .ok (.invokevirtual 46, 3) := by decide +kernel
theorem d8_19 : decode prog_26_method_4_code 19 = .ok (.invokestatic 50, 3) := by decide +kernel
theorem d8_22 : decode prog_26_method_4_code 22 = .ok (.ifCond .eq 8, 3) := by decide +kernel
theorem d8_25 : decode prog_26_method_4_code 25 = .ok (.iconst 0, 1) := by decide +kernel
theorem d8_26 : decode prog_26_method_4_code 26 = .ok (.istore_n 2, 1) := by decide +kernel
theorem d8_27 : decode prog_26_method_4_code 27 = .ok (.goto 39, 3) := by decide +kernel
theorem d8_30 : decode prog_26_method_4_code 30 = .ok (.iload_n 1, 1) := by decide +kernel
theorem d8_31 : decode prog_26_method_4_code 31 = .ok (.ifCond .lt 35, 3) := by decide +kernel
theorem d8_34 : decode prog_26_method_4_code 34 = .ok (.aload_n 0, 1) := by decide +kernel
theorem d8_35 : decode prog_26_method_4_code 35 = .ok (.iconst 0, 1) := by decide +kernel
theorem d8_36 : decode prog_26_method_4_code 36 = .ok (.iload_n 1, 1) := by decide +kernel
theorem d8_37 : decode prog_26_method_4_code 37 = .ok (.invokestatic 50, 3) := by decide +kernel
theorem d8_40 : decode prog_26_method_4_code 40 = .ok (.ifCond .eq 26, 3) := by decide +kernel
theorem d8_43 : decode prog_26_method_4_code 43 = .ok (.aload_n 0, 1) := by decide +kernel
theorem d8_44 : decode prog_26_method_4_code 44 = .ok (.iload_n 1, 1) := by decide +kernel
theorem d8_45 : decode prog_26_method_4_code 45 = .ok (.iconst 1, 1) := by decide +kernel
theorem d8_46 : decode prog_26_method_4_code 46 = .ok (.iadd, 1) := by decide +kernel
theorem d8_47 : decode prog_26_method_4_code 47 = .ok (.aload_n 0, 1) := by decide +kernel
theorem d8_48 : decode prog_26_method_4_code 48 = .ok (.invokevirtual 46, 3) := by decide +kernel
theorem d8_51 : decode prog_26_method_4_code 51 = .ok (.invokestatic 50, 3) := by decide +kernel
theorem d8_54 : decode prog_26_method_4_code 54 = .ok (.ifCond .eq 12, 3) := by decide +kernel
theorem d8_57 : decode prog_26_method_4_code 57 = .ok (.aload_n 0, 1) := by decide +kernel
theorem d8_58 : decode prog_26_method_4_code 58 = .ok (.invokevirtual 46, 3) := by decide +kernel
theorem d8_61 : decode prog_26_method_4_code 61 = .ok (.iload_n 1, 1) := by decide +kernel
theorem d8_62 : decode prog_26_method_4_code 62 = .ok (.isub, 1) := by decide +kernel
theorem d8_63 : decode prog_26_method_4_code 63 = .ok (.iconst 1, 1) := by decide +kernel
theorem d8_64 : decode prog_26_method_4_code 64 = .ok (.isub, 1) := by decide +kernel
theorem d8_65 : decode prog_26_method_4_code 65 = .ok (.istore_n 2, 1) := by decide +kernel
theorem d8_66 : decode prog_26_method_4_code 66 = .ok (.iload_n 2, 1) := by decide +kernel
theorem d8_67 : decode prog_26_method_4_code 67 = .ok (.ireturn, 1) := by decide +kernel
theorem d9_0 : decode jdk_42_method_79_code 0 = .ok (.aload_n 0, 1) := by decide +kernel
theorem d9_1 : decode jdk_42_method_79_code 1 = .ok (.iload_n 1, 1) := by decide +kernel
theorem d9_2 : decode jdk_42_method_79_code 2 = .ok (.iconst 0, 1) := by decide +kernel
theorem d9_3 : decode jdk_42_method_79_code 3 = .ok (.invokevirtual 633, 3) := by decide +kernel
theorem d9_6 : decode jdk_42_method_79_code 6 = .ok (.ireturn, 1) := by decide +kernel
theorem d10_0 : decode jdk_42_method_80_code 0 = .ok (.aload_n 0, 1) := by decide +kernel
theorem d10_1 : decode jdk_42_method_80_code 1 = .ok (.invokevirtual 492, 3) := by decide +kernel
theorem d10_4 : decode jdk_42_method_80_code 4 = .ok (.ifCond .eq 19, 3) := by decide +kernel
theorem d10_7 : decode jdk_42_method_80_code 7 = .ok (.aload_n 0, 1) := by decide +kernel
theorem d10_8 : decode jdk_42_method_80_code 8 = .ok (.getfield 9, 3) := by decide +kernel
theorem d10_11 : decode jdk_42_method_80_code 11 = .ok (.iload_n 1, 1) := by decide +kernel
theorem d10_12 : decode jdk_42_method_80_code 12 = .ok (.iload_n 2, 1) := by decide +kernel
theorem d10_13 : decode jdk_42_method_80_code 13 = .ok (.aload_n 0, 1) := by decide +kernel
theorem d10_14 : decode jdk_42_method_80_code 14 = .ok (.invokevirtual 505, 3) := by decide +kernel
theorem d10_17 : decode jdk_42_method_80_code 17 = .ok (.invokestatic 637, 3) := by decide +kernel
theorem d10_20 : decode jdk_42_method_80_code 20 = .ok (.goto 16, 3) := by decide +kernel
theorem d10_23 : decode jdk_42_method_80_code 23 = .ok (.aload_n 0, 1) := by decide +kernel
theorem d10_24 : decode jdk_42_method_80_code 24 = .ok (.getfield 9, 3) := by decide +kernel
theorem d10_27 : decode jdk_42_method_80_code 27 = .ok (.iload_n 1, 1) := by decide +kernel
theorem d10_28 : decode jdk_42_method_80_code 28 = .ok (.iload_n 2, 1) := by decide +kernel
theorem d10_29 : decode jdk_42_method_80_code 29 = .ok (.aload_n 0, 1) := by decide +kernel
theorem d10_30 : decode jdk_42_method_80_code 30 = .ok (.invokevirtual 505, 3) := by decide +kernel
theorem d10_33 : decode jdk_42_method_80_code 33 = .ok (.invokestatic 640, 3) := by decide +kernel
theorem d10_36 : decode jdk_42_method_80_code 36 = .ok (.ireturn, 1) := by decide +kernel
theorem d11_0 : decode jdk_42_method_154_code 0 = .ok (.getstatic 38, 3) := by decide +kernel
theorem d11_3 : decode jdk_42_method_154_code 3 = .ok (.ifCond .eq 14, 3) := by decide +kernel
theorem d11_6 : decode jdk_42_method_154_code 6 = .ok (.aload_n 0, 1) := by decide +kernel
theorem d11_7 : decode jdk_42_method_154_code 7 = .ok (.getfield 15, 3) := by decide +kernel
theorem d11_10 : decode jdk_42_method_154_code 10 = .ok (.ifCond .ne 7, 3) := by decide +kernel
theorem d11_13 : decode jdk_42_method_154_code 13 = .ok (.iconst 1, 1) := by decide +kernel
theorem d11_14 : decode jdk_42_method_154_code 14 = .ok (.goto 4, 3) := by decide +kernel
theorem d11_17 : decode jdk_42_method_154_code 17 = .ok (.iconst 0, 1) := by decide +kernel
theorem d11_18 : decode jdk_42_method_154_code 18 = .ok (.ireturn, 1) := by decide +kernel
theorem d14_0 : decode jdk_43_method_22_code 0 = .ok (.iload_n 1, 1) := by decide +kernel
theorem d14_1 : decode jdk_43_method_22_code 1 = .ok (.invokestatic 88, 3) := by decide +kernel
theorem d14_4 : decode jdk_43_method_22_code 4 = .ok (.ifCond .ne 5, 3) := by decide +kernel
theorem d14_7 : decode jdk_43_method_22_code 7 = .ok (.iconst (-1), 1) := by decide +kernel
theorem d14_8 : decode jdk_43_method_22_code 8 = .ok (.ireturn, 1) := by decide +kernel
theorem d14_9 : decode jdk_43_method_22_code 9 = .ok (.iload_n 2, 1) := by decide +kernel
theorem d14_10 : decode jdk_43_method_22_code 10 = .ok (.iconst 0, 1) := by decide +kernel
theorem d14_11 : decode jdk_43_method_22_code 11 = .ok (.invokestatic 92, 3) := by decide +kernel
theorem d14_14 : decode jdk_43_method_22_code 14 = .ok (.istore_n 2, 1) := by decide +kernel
theorem d14_15 : decode jdk_43_method_22_code 15 = .ok (.iload_n 3, 1) := by decide +kernel
theorem d14_16 : decode jdk_43_method_22_code 16 = .ok (.aload_n 0, 1) := by decide +kernel
theorem d14_17 : decode jdk_43_method_22_code 17 = .ok (.arraylength, 1) := by decide +kernel
theorem d14_18 : decode jdk_43_method_22_code 18 = .ok (.invokestatic 38, 3) := by decide +kernel
theorem d14_21 : decode jdk_43_method_22_code 21 = .ok (.istore_n 3, 1) := by decide +kernel
theorem d14_22 : decode jdk_43_method_22_code 22 = .ok (.iload_n 2, 1) := by decide +kernel
theorem d14_23 : decode jdk_43_method_22_code 23 = .ok (.iload_n 3, 1) := by decide +kernel
theorem d14_24 : decode jdk_43_method_22_code 24 = .ok (.if_icmp .lt 5, 3) := by decide +kernel
theorem d14_27 : decode jdk_43_method_22_code 27 = .ok (.iconst (-1), 1) := by decide +kernel
theorem d14_28 : decode jdk_43_method_22_code 28 = .ok (.ireturn, 1) := by decide +kernel
theorem d14_29 : decode jdk_43_method_22_code 29 = .ok (.aload_n 0, 1) := by decide +kernel
theorem d14_30 : decode jdk_43_method_22_code 30 = .ok (.iload_n 1, 1) := by decide +kernel
theorem d14_31 : decode jdk_43_method_22_code 31 = .ok (.iload_n 2, 1) := by decide +kernel
theorem d14_32 : decode jdk_43_method_22_code 32 = .ok (.iload_n 3, 1) := by decide +kernel
theorem d14_33 : decode jdk_43_method_22_code 33 = .ok (.invokestatic 95, 3) := by decide +kernel
theorem d14_36 : decode jdk_43_method_22_code 36 = .ok (.ireturn, 1) := by decide +kernel
theorem d15_0 : decode jdk_43_method_4_code 0 = .ok (.iload_n 0, 1) := by decide +kernel
theorem d15_1 : decode jdk_43_method_4_code 1 = .ok (.ifCond .lt 14, 3) := by decide +kernel
theorem d15_4 : decode jdk_43_method_4_code 4 = .ok (.iload_n 0, 1) := by decide +kernel
theorem d15_5 : decode jdk_43_method_4_code 5 = .ok (.sipush 255, 3) := by decide +kernel
theorem d15_8 : decode jdk_43_method_4_code 8 = .ok (.if_icmp .gt 7, 3) := by decide +kernel
theorem d15_11 : decode jdk_43_method_4_code 11 = .ok (.iconst 1, 1) := by decide +kernel
theorem d15_12 : decode jdk_43_method_4_code 12 = .ok (.goto 4, 3) := by decide +kernel
theorem d15_15 : decode jdk_43_method_4_code 15 = .ok (.iconst 0, 1) := by decide +kernel
theorem d15_16 : decode jdk_43_method_4_code 16 = .ok (.ireturn, 1) := by decide +kernel
theorem d16_0 : decode jdk_29_method_65_code 0 = .ok (.iload_n 0, 1) := by decide +kernel
theorem d16_1 : decode jdk_29_method_65_code 1 = .ok (.iload_n 1, 1) := by decide +kernel
theorem d16_2 : decode jdk_29_method_65_code 2 = .ok (.if_icmp .lt 7, 3) := by decide +kernel
theorem d16_5 : decode jdk_29_method_65_code 5 = .ok (.iload_n 0, 1) := by decide +kernel
theorem d16_6 : decode jdk_29_method_65_code 6 = .ok (.goto 4, 3) := by decide +kernel
theorem d16_9 : decode jdk_29_method_65_code 9 = .ok (.iload_n 1, 1) := by decide +kernel
theorem d16_10 : decode jdk_29_method_65_code 10 = .ok (.ireturn, 1) := by decide +kernel
theorem d17_0 : decode jdk_29_method_69_code 0 = .ok (.iload_n 0, 1) := by decide +kernel
theorem d17_1 : decode jdk_29_method_69_code 1 = .ok (.iload_n 1, 1) := by decide +kernel
theorem d17_2 : decode jdk_29_method_69_code 2 = .ok (.if_icmp .gt 7, 3) := by decide +kernel
theorem d17_5 : decode jdk_29_method_69_code 5 = .ok (.iload_n 0, 1) := by decide +kernel
theorem d17_6 : decode jdk_29_method_69_code 6 = .ok (.goto 4, 3) := by decide +kernel
theorem d17_9 : decode jdk_29_method_69_code 9 = .ok (.iload_n 1, 1) := by decide +kernel
theorem d17_10 : decode jdk_29_method_69_code 10 = .ok (.ireturn, 1) := by decide +kernel
theorem d18_0 : decode prog_26_method_5_code 0 = .ok (.iload_n 1, 1) := by decide +kernel
theorem d18_1 : decode prog_26_method_5_code 1 = .ok (.iload_n 2, 1) := by decide +kernel
theorem d18_2 : decode prog_26_method_5_code 2 = .ok (.if_icmp .ge 7, 3) := by decide +kernel
theorem d18_5 : decode prog_26_method_5_code 5 = .ok (.iconst 1, 1) := by decide +kernel
theorem d18_6 : decode prog_26_method_5_code 6 = .ok (.goto 4, 3) := by decide +kernel
theorem d18_9 : decode prog_26_method_5_code 9 = .ok (.iconst 0, 1) := by decide +kernel
theorem d18_10 : decode prog_26_method_5_code 10 = .ok (.istore_n 3, 1) := by decide +kernel
theorem d18_11 : decode prog_26_method_5_code 11 = .ok (.iload_n 1, 1) := by decide +kernel
theorem d18_12 : decode prog_26_method_5_code 12 = .ok (.istore 4, 2) := by decide +kernel
theorem d18_14 : decode prog_26_method_5_code 14 = .ok (.iload 4, 2) := by decide +kernel
theorem d18_16 : decode prog_26_method_5_code 16 = .ok (.iload_n 2, 1) := by decide +kernel
theorem d18_17 : decode prog_26_method_5_code 17 = .ok (.if_icmp .ge 41, 3) := by decide +kernel
theorem d18_20 : decode prog_26_method_5_code 20 = .ok (.iload_n 3, 1) := by decide +kernel
theorem d18_21 : decode prog_26_method_5_code 21 = .ok (.ifCond .eq 37, 3) := by decide +kernel
theorem d18_24 : decode prog_26_method_5_code 24 = .ok (.aload_n 0, 1) := by decide +kernel
theorem d18_25 : decode prog_26_method_5_code 25 = .ok (.iload 4, 2) := by decide +kernel
theorem d18_27 : decode prog_26_method_5_code 27 = .ok (.invokevirtual 54, 3) := by decide +kernel
theorem d18_30 : decode prog_26_method_5_code 30 = .ok (.bipush 48, 2) := by decide +kernel
theorem d18_32 : decode prog_26_method_5_code 32 = .ok (.if_icmp .lt 18, 3) := by decide +kernel
theorem d18_35 : decode prog_26_method_5_code 35 = .ok (.aload_n 0, 1) := by decide +kernel
theorem d18_36 : decode prog_26_method_5_code 36 = .ok (.iload 4, 2) := by decide +kernel
theorem d18_38 : decode prog_26_method_5_code 38 = .ok (.invokevirtual 54, 3) := by decide +kernel
theorem d18_41 : decode prog_26_method_5_code 41 = .ok (.bipush 57, 2) := by decide +kernel
theorem d18_43 : decode prog_26_method_5_code 43 = .ok (.if_icmp .gt 7, 3) := by decide +kernel
theorem d18_46 : decode prog_26_method_5_code 46 = .ok (.iconst 1, 1) := by decide +kernel
theorem d18_47 : decode prog_26_method_5_code 47 = .ok (.goto 4, 3) := by decide +kernel
theorem d18_50 : decode prog_26_method_5_code 50 = .ok (.iconst 0, 1) := by decide +kernel
theorem d18_51 : decode prog_26_method_5_code 51 = .ok (.istore_n 3, 1) := by decide +kernel
theorem d18_52 : decode prog_26_method_5_code 52 = .ok (.iinc 4 1, 3) := by decide +kernel
theorem d18_55 : decode prog_26_method_5_code 55 = .ok (.goto (-41), 3) := by decide +kernel
theorem d18_58 : decode prog_26_method_5_code 58 = .ok (.iload_n 3, 1) := by decide +kernel
theorem d18_59 : decode prog_26_method_5_code 59 = .ok (.ireturn, 1) := by decide +kernel
theorem d22_0 : decode jdk_43_method_23_code 0 = .ok (.iload_n 1, 1) := by decide +kernel
theorem d22_1 : decode jdk_43_method_23_code 1 = .ok (.i2b, 1) := by decide +kernel
theorem d22_2 : decode jdk_43_method_23_code 2 = .ok (.istore 4, 2) := by decide +kernel
theorem d22_4 : decode jdk_43_method_23_code 4 = .ok (.iload_n 2, 1) := by decide +kernel
theorem d22_5 : decode jdk_43_method_23_code 5 = .ok (.istore 5, 2) := by decide +kernel
theorem d22_7 : decode jdk_43_method_23_code 7 = .ok (.iload 5, 2) := by decide +kernel
theorem d22_9 : decode jdk_43_method_23_code 9 = .ok (.iload_n 3, 1) := by decide +kernel
theorem d22_10 : decode jdk_43_method_23_code 10 = .ok (.if_icmp .ge 21, 3) := by decide +kernel
theorem d22_13 : decode jdk_43_method_23_code 13 = .ok (.aload_n 0, 1) := by decide +kernel
theorem d22_14 : decode jdk_43_method_23_code 14 = .ok (.iload 5, 2) := by decide +kernel
theorem d22_16 : decode jdk_43_method_23_code 16 = .ok (.baload, 1) := by decide +kernel
theorem d22_17 : decode jdk_43_method_23_code 17 = .ok (.iload 4, 2) := by decide +kernel
theorem d22_19 : decode jdk_43_method_23_code 19 = .ok (.if_icmp .ne 6, 3) := by decide +kernel
theorem d22_22 : decode jdk_43_method_23_code 22 = .ok (.iload 5, 2) := by decide +kernel
theorem d22_24 : decode jdk_43_method_23_code 24 = .ok (.ireturn, 1) := by decide +kernel
theorem d22_25 : decode jdk_43_method_23_code 25 = .ok (.iinc 5 1, 3) := by decide +kernel
theorem d22_28 : decode jdk_43_method_23_code 28 = .ok (.goto (-21), 3) := by decide +kernel
theorem d22_31 : decode jdk_43_method_23_code 31 = .ok (.iconst (-1), 1) := by decide +kernel
theorem d22_32 : decode jdk_43_method_23_code 32 = .ok (.ireturn, 1) := by decide +kernel
theorem own_wordsLen {Z : State} {a0 : Array Value} (hw : ∀ d ∈ tables_1, d.before a0 Z = true) : ∀ d ∈ StrChars.Road.wordsLen, d.before a0 Z = true := fun d hd => hw d ((by decide +kernel : ∀ d ∈ StrChars.Road.wordsLen, d ∈ tables_1) d hd)
theorem own_wordsCh {Z : State} {a0 : Array Value} (hw : ∀ d ∈ tables_1, d.before a0 Z = true) : ∀ d ∈ StrChars.Road.wordsChN, d.before a0 Z = true := fun d hd => hw d ((by decide +kernel : ∀ d ∈ StrChars.Road.wordsChN, d ∈ tables_1) d hd)
/-! the plain law: 0 a digit, 1 a dot, 2 another sign -/
def own_k (c : Int32) : Nat := if c = 46 then 1 else if c < 48 ∨ 57 < c then 2 else 0
theorem own_k_lt (c : Int32) : own_k c < 3 := by
  rw [own_k]; repeat' split
  all_goals omega
theorem own_k46 (c : Int32) : own_k c = 1 ↔ c = 46 := by
  rw [own_k]; constructor
  · intro h
    by_cases q : c = 46
    · exact q
    · rw [if_neg q] at h
      split at h <;> omega
  · intro q; rw [if_pos q]
def own_ix : Nat → List Nat → Nat → Int32
  | 0, _, _ => -1
  | f + 1, ks, j => if ks.getD j 0 = 1 then Int32.ofNat j else own_ix f ks (j + 1)
def own_dgl : Nat → List Nat → Nat → Int32 → Int32
  | 0, _, _, ok => ok
  | f + 1, ks, j, ok => if ok = 0 then ok else own_dgl f ks (j + 1) (if ks.getD j 0 = 0 then 1 else 0)
def own_D (ks : List Nat) : Int32 :=
  if own_ix ks.length ks 0 < 0 then (if own_dgl ks.length ks 0 (if 0 < ks.length then 1 else 0) = 0 then -1 else 0)
  else if own_dgl (own_ix ks.length ks 0).toNatClampNeg ks 0 (if 0 < (own_ix ks.length ks 0).toNatClampNeg then 1 else 0) = 0 then -1
  else if own_dgl (ks.length - ((own_ix ks.length ks 0).toNatClampNeg + 1)) ks ((own_ix ks.length ks 0).toNatClampNeg + 1) (if (own_ix ks.length ks 0).toNatClampNeg + 1 < ks.length then 1 else 0) = 0 then -1
  else Int32.ofNat ks.length - own_ix ks.length ks 0 - 1
def own_exp (n o d q : Int32) : Int32 := if n = 0 then -1 else if 0 < o then -1 else if 1 < d then -1 else if d = 0 then 0 else if q < 1 then -1 else if n - 2 < q then -1 else n - q - 1
def own_oth (n i k : Nat) : Int32 := if i < n then (if k = 2 then 1 else 0) else 0
def own_dot (n i k : Nat) : Int32 := if i < n then (if k = 1 then 1 else 0) else 0
set_option maxRecDepth 65536 in
theorem own_law : ∀ n, n < 6 → ∀ k0, k0 < 3 → ∀ k1, k1 < 3 → ∀ k2, k2 < 3 → ∀ k3, k3 < 3 → ∀ k4, k4 < 3 →
    own_exp (Int32.ofNat n) (own_oth n 0 k0 + own_oth n 1 k1 + own_oth n 2 k2 + own_oth n 3 k3 + own_oth n 4 k4) (own_dot n 0 k0 + own_dot n 1 k1 + own_dot n 2 k2 + own_dot n 3 k3 + own_dot n 4 k4) (0 * own_dot n 0 k0 + 1 * own_dot n 1 k1 + 2 * own_dot n 2 k2 + 3 * own_dot n 3 k3 + 4 * own_dot n 4 k4) = own_D ([k0, k1, k2, k3, k4].take n) := by decide +kernel
theorem own_dgl01 : ∀ (f : Nat) (ks : List Nat) (j : Nat) (ok : Int32), ok = 0 ∨ ok = 1 → own_dgl f ks j ok = 0 ∨ own_dgl f ks j ok = 1
  | 0, _, _, _, h => h
  | f + 1, ks, j, ok, h => by
    rw [own_dgl]
    split
    · exact h
    · exact own_dgl01 f ks (j + 1) _ (by split <;> simp)
theorem own_ix_is : ∀ (f : Nat) (ks : List Nat) (j : Nat), own_ix f ks j = -1 ∨ ∃ i, own_ix f ks j = Int32.ofNat i ∧ i < j + f
  | 0, _, _ => Or.inl rfl
  | f + 1, ks, j => by
    rw [own_ix]
    split
    · exact Or.inr ⟨j, rfl, by omega⟩
    · rcases own_ix_is f ks (j + 1) with h | ⟨i, h, q⟩
      · exact Or.inl h
      · exact Or.inr ⟨i, h, by omega⟩
theorem own_kget {cs : List Int32} {j : Nat} (h : j < cs.length) : (cs.map own_k).getD j 0 = own_k (cs.getD j 0) := by
  rw [List.getD_eq_getElem?_getD, List.getD_eq_getElem?_getD, List.getElem?_map, List.getElem?_eq_getElem h]; rfl
theorem own_bget {cs : List Int32} {j : Nat} (h : j < cs.length) (dv : Value) : (cs.map fun c => Value.int c.toInt8.toInt32).getD j dv = .int (cs.getD j 0).toInt8.toInt32 := by
  rw [List.getD_eq_getElem?_getD, List.getD_eq_getElem?_getD, List.getElem?_map, List.getElem?_eq_getElem h]; rfl
theorem own_gmem {cs : List Int32} {j : Nat} (h : j < cs.length) : cs.getD j 0 ∈ cs := by
  rw [List.getD_eq_getElem?_getD, List.getElem?_eq_getElem h]; exact List.getElem_mem h
theorem own_byte46 {c : Int32} (h : ¬ c < 0 ∧ ¬ (255 : Int32) < c) : c.toInt8.toInt32 = 46 ↔ c = 46 := by
  have e0 : (0 : Int32).toInt = 0 := by decide
  have e1 : (255 : Int32).toInt = 255 := by decide
  have e2 : (46 : Int32).toInt = 46 := by decide
  have h1 := h.1; have h2 := h.2
  rw [Int32.lt_iff_toInt_lt] at h1 h2
  have h3 := c_i2b c
  constructor
  · intro q
    have := congrArg Int32.toInt q
    exact Int32.toInt_inj.mp (by omega)
  · intro q; subst q; decide
/-! ch -/
set_option maxRecDepth 65536 in
theorem rmCH (l : Launch) (Z : State) (a0 : Array Value) (hw : ∀ d ∈ tables_1, d.before a0 Z = true) (hEL : EW Z a0 consts_1) (p0 : Int32) (h0 : Heap) (hx : Ext Z.heap h0) :
    Met l Z consts_1 (⟨"com/example/fair_heat/fairheat/QuantitiesDecimalsPinLaw", "ch", "(I)C"⟩ : MethodName) method_2_code 3 (some .char) [] ({ frames := 0, cells := 0, slots := 0, locals := 0 } : Room) #[.int p0] h0 [] (fun v h => ∃ c, (v = some (.int c) ∧ (¬ c < 0 ∧ ¬ (255 : Int32) < c) ∧ nar .char c = c) ∧ h = h0) := by
  refine Met.of (a0 := a0) (by decide +kernel) hEL hx ?_
  intro p e s m below meth c S0 V w hs hsf
  replace w := w.to (g' := mkF m 0 #[.val (.int p0), .unset, .unset] []) (by first | (simp [entryFrame, mkF, argsToLocals, Value.category]; done) | rfl)
  replace w := w.iloadN (pc' := 1) d1_0 rfl
  replace w := w.iconst (pc' := 2) (3 : Int32) d1_1
  replace w := w.iand (pc' := 3) d1_2
  replace w := w.istoreN (pc' := 4) (L' := #[.val (.int p0), .val (.int (p0 &&& (3 : Int32))), .unset]) d1_3 rfl
  replace w := w.iloadN (pc' := 5) d1_4 rfl
  replace w := w.iconst (pc' := 6) (2 : Int32) d1_5
  replace w := w.iushr (pc' := 7) d1_6
  obtain ⟨y, hy⟩ : ∃ z, z = ((p0.toUInt32 >>> ((2 : Int32) &&& 31).toUInt32).toInt32) := ⟨_, rfl⟩
  rw [← hy] at w
  have hy0 : 0 ≤ y.toInt := by
    rw [hy]
    have := c_iushr p0 2 2 (by decide) (by decide)
    have h1 : (2 ^ 2 : Nat) = 4 := rfl
    rw [h1] at this
    omega
  replace w := w.istoreN (pc' := 8) (L' := #[.val (.int p0), .val (.int (p0 &&& (3 : Int32))), .val (.int y)]) d1_7 rfl
  replace w := w.iloadN (pc' := 9) d1_8 rfl
  replace w := w.iconst (pc' := 10) (1 : Int32) d1_9
  by_cases q1 : p0 &&& (3 : Int32) = 1
  ·
    replace w := w.icmpNo (pc' := 13) d1_10 ((teq q1).2)
    replace w := w.bipush (pc' := 15) (46 : Int32) d1_13
    exact w.retN d1_15 (by simp) ⟨46, ⟨rfl, by decide, by decide⟩, rfl⟩ nle nle
  replace w := w.icmpYes (pc' := 16) d1_10 ((feq q1).2)
  replace w := w.iloadN (pc' := 17) d1_16 rfl
  replace w := w.iconst (pc' := 18) (3 : Int32) d1_17
  by_cases q3 : p0 &&& (3 : Int32) = 3
  ·
    replace w := w.icmpNo (pc' := 21) d1_18 ((teq q3).2)
    replace w := w.iloadN (pc' := 22) d1_21 rfl
    replace w := w.sipush (pc' := 25) (255 : Int32) d1_22
    replace w := w.iand (pc' := 26) d1_25
    replace w := w.i2c (pc' := 27) d1_26
    rw [i2c_mask] at w
    exact w.retN d1_27 (by simp) ⟨y &&& 255, ⟨congrArg (fun z => some (Value.int z)) (nar255 y), and255 y, nar255 y⟩, rfl⟩ nle nle
  replace w := w.icmpYes (pc' := 28) d1_18 ((feq q3).2)
  replace w := w.bipush (pc' := 30) (48 : Int32) d1_28
  replace w := w.iloadN (pc' := 31) d1_30 rfl
  replace w := w.bipush (pc' := 33) (10 : Int32) d1_31
  replace w := w.irem (pc' := 34) d1_33 (by decide)
  replace w := w.iadd (pc' := 35) d1_34
  obtain ⟨z, hz⟩ : ∃ z, z = ((48 : Int32) + (y % (10 : Int32))) := ⟨_, rfl⟩
  rw [← hz] at w
  have e10 : (10 : Int32).toInt = 10 := by decide
  have e48 : (48 : Int32).toInt = 48 := by decide
  have hr := (c_irem y 10 10 e10).1 hy0
  have ha := c_iadd 48 (y % 10)
  have hb := rng32 (48 + y % 10)
  rw [← hz] at ha hb
  have hzr : ¬ z < 0 ∧ ¬ (255 : Int32) < z := by
    have e0 : (0 : Int32).toInt = 0 := by decide
    have e1 : (255 : Int32).toInt = 255 := by decide
    rw [Int32.lt_iff_toInt_lt, Int32.lt_iff_toInt_lt]; omega
  have hzn : nar .char z = z := by
    have h3 := c_i2c z
    have e0 : (0 : Int32).toInt = 0 := by decide
    have e1 : (255 : Int32).toInt = 255 := by decide
    have g1 := hzr.1; have g2 := hzr.2
    rw [Int32.lt_iff_toInt_lt] at g1 g2
    exact Int32.toInt_inj.mp (show z.toUInt32.toUInt16.toUInt32.toInt32.toInt = z.toInt by omega)
  replace w := w.i2c (pc' := 36) d1_35
  have hzn' : z.toUInt32.toUInt16.toUInt32.toInt32 = z := hzn
  rw [hzn'] at w
  exact w.retN d1_36 (by simp) ⟨z, ⟨congrArg (fun z => some (Value.int z)) hzn, hzr, hzn⟩, rfl⟩ nle nle
/-! make -/
set_option maxRecDepth 65536 in
theorem rmMK (l : Launch) (Z : State) (a0 : Array Value) (hw : ∀ d ∈ tables_1, d.before a0 Z = true) (hEL : EW Z a0 consts_1) (n : Nat) (hn : n < 6) (c0 c1 c2 c3 c4 : Int32) (n0 : nar .char c0 = c0) (n1 : nar .char c1 = c1) (n2 : nar .char c2 = c2) (n3 : nar .char c3 = c3) (n4 : nar .char c4 = c4) (h0 : Heap) (hx : Ext Z.heap h0) :
    Met l Z consts_1 (⟨"com/example/fair_heat/fairheat/QuantitiesDecimalsPinLaw", "make", "(ICCCCC)[C"⟩ : MethodName) method_3_code 6 (some (.array .char)) [] ({ frames := 0, cells := 1, slots := 5, locals := 0 } : Room) #[.int (Int32.ofNat n), .int c0, .int c1, .int c2, .int c3, .int c4] h0 [] (fun v h => ∃ b kb, v = some (.ref b) ∧ Ext h0 h ∧ Arv Z h b kb .char (Int32.ofNat n) (([c0, c1, c2, c3, c4].take n).map Value.int) (.int 0)) := by
  refine Met.of (a0 := a0) (by decide +kernel) hEL hx ?_
  intro p e s m below meth c S0 V w hs hsf
  replace w := w.to (g' := mkF m 0 #[.val (.int (Int32.ofNat n)), .val (.int c0), .val (.int c1), .val (.int c2), .val (.int c3), .val (.int c4)] []) (by first | (simp [entryFrame, mkF, argsToLocals, Value.category]; done) | rfl)
  have BZ := w.old
  have B0 := extR h0
  have C0 := CHr.refl w.ch
  replace w := w.iloadN (pc' := 1) d2_0 rfl
  rcases (by omega : n = 0 ∨ n = 1 ∨ n = 2 ∨ n = 3 ∨ n = 4 ∨ n = 5) with rfl | rfl | rfl | rfl | rfl | rfl
  ·
    replace w := w.ifNo (pc' := 4) d2_1 (by decide)
    replace w := w.iconst (pc' := 5) (0 : Int32) d2_4
    obtain ⟨h1, b, k_b, g_b, E1, V_b, S_b, A1, w⟩ := w.newarr (cap := 0) (hw _ (List.mem_of_getElem? (i := 10) rfl)) d2_5 (by decide) (by decide) nle nle (pc' := 7)
    have lt_b : b < h1.size := V_b.lt
    have ge_b_Z : Z.heap.size ≤ b := Nat.le_trans BZ.1 (Nat.le_of_eq g_b.symm)
    have ge_b_0 : h0.size ≤ b := Nat.le_trans B0.1 (Nat.le_of_eq g_b.symm)
    have BZ := extT BZ E1
    have B0 := extT B0 E1
    have C0 := C0.trans A1
    replace V_b := V_b.pad (vs' := []) (pad_rep [] _ 0)
    exact w.retA d2_7 ⟨b, k_b, rfl, B0, V_b⟩ nle nle
  ·
    replace w := w.ifYes (pc' := 8) d2_1 (by decide)
    replace w := w.iloadN (pc' := 9) d2_8 rfl
    replace w := w.iconst (pc' := 10) (1 : Int32) d2_9
    replace w := w.icmpNo (pc' := 13) d2_10 (by decide)
    replace w := w.iconst (pc' := 14) (1 : Int32) d2_13
    obtain ⟨h2, b, k_b, g_b, E2, V_b, S_b, A2, w⟩ := w.newarr (cap := 1) (hw _ (List.mem_of_getElem? (i := 10) rfl)) d2_14 (by decide) (by decide) nle nle (pc' := 16)
    have lt_b : b < h2.size := V_b.lt
    have ge_b_Z : Z.heap.size ≤ b := Nat.le_trans BZ.1 (Nat.le_of_eq g_b.symm)
    have ge_b_0 : h0.size ≤ b := Nat.le_trans B0.1 (Nat.le_of_eq g_b.symm)
    have BZ := extT BZ E2
    have B0 := extT B0 E2
    have C0 := C0.trans A2
    replace V_b := V_b.pad (vs' := [(.int (0 : Int32))]) (pad_rep [] _ 1)
    replace w := w.dup (pc' := 17) d2_16
    replace w := w.iconst (pc' := 18) (0 : Int32) d2_17
    replace w := w.iloadN (pc' := 19) d2_18 rfl
    obtain ⟨h3, K3, V_b, A3, w⟩ := w.castore (x' := c0) V_b d2_19 ⟨by decide, by decide⟩ n0 0 rfl nle ge_b_Z (pc' := 20)
    replace V_b := V_b.pad (vs' := [(.int c0)]) (fun _ => rfl)
    have BZ := extK BZ K3 (allS ge_b_Z all0)
    have B0 := extK B0 K3 (allS ge_b_0 all0)
    have C0 := C0.trans A3
    exact w.retA d2_20 ⟨b, k_b, rfl, B0, V_b⟩ nle nle
  ·
    replace w := w.ifYes (pc' := 8) d2_1 (by decide)
    replace w := w.iloadN (pc' := 9) d2_8 rfl
    replace w := w.iconst (pc' := 10) (1 : Int32) d2_9
    replace w := w.icmpYes (pc' := 21) d2_10 (by decide)
    replace w := w.iloadN (pc' := 22) d2_21 rfl
    replace w := w.iconst (pc' := 23) (2 : Int32) d2_22
    replace w := w.icmpNo (pc' := 26) d2_23 (by decide)
    replace w := w.iconst (pc' := 27) (2 : Int32) d2_26
    obtain ⟨h4, b, k_b, g_b, E4, V_b, S_b, A4, w⟩ := w.newarr (cap := 2) (hw _ (List.mem_of_getElem? (i := 10) rfl)) d2_27 (by decide) (by decide) nle nle (pc' := 29)
    have lt_b : b < h4.size := V_b.lt
    have ge_b_Z : Z.heap.size ≤ b := Nat.le_trans BZ.1 (Nat.le_of_eq g_b.symm)
    have ge_b_0 : h0.size ≤ b := Nat.le_trans B0.1 (Nat.le_of_eq g_b.symm)
    have BZ := extT BZ E4
    have B0 := extT B0 E4
    have C0 := C0.trans A4
    replace V_b := V_b.pad (vs' := [(.int (0 : Int32)), (.int (0 : Int32))]) (pad_rep [] _ 2)
    replace w := w.dup (pc' := 30) d2_29
    replace w := w.iconst (pc' := 31) (0 : Int32) d2_30
    replace w := w.iloadN (pc' := 32) d2_31 rfl
    obtain ⟨h5, K5, V_b, A5, w⟩ := w.castore (x' := c0) V_b d2_32 ⟨by decide, by decide⟩ n0 0 rfl nle ge_b_Z (pc' := 33)
    replace V_b := V_b.pad (vs' := [(.int c0), (.int (0 : Int32))]) (fun _ => rfl)
    have BZ := extK BZ K5 (allS ge_b_Z all0)
    have B0 := extK B0 K5 (allS ge_b_0 all0)
    have C0 := C0.trans A5
    replace w := w.dup (pc' := 34) d2_33
    replace w := w.iconst (pc' := 35) (1 : Int32) d2_34
    replace w := w.iloadN (pc' := 36) d2_35 rfl
    obtain ⟨h6, K6, V_b, A6, w⟩ := w.castore (x' := c1) V_b d2_36 ⟨by decide, by decide⟩ n1 1 rfl nle ge_b_Z (pc' := 37)
    replace V_b := V_b.pad (vs' := [(.int c0), (.int c1)]) (fun _ => rfl)
    have BZ := extK BZ K6 (allS ge_b_Z all0)
    have B0 := extK B0 K6 (allS ge_b_0 all0)
    have C0 := C0.trans A6
    exact w.retA d2_37 ⟨b, k_b, rfl, B0, V_b⟩ nle nle
  ·
    replace w := w.ifYes (pc' := 8) d2_1 (by decide)
    replace w := w.iloadN (pc' := 9) d2_8 rfl
    replace w := w.iconst (pc' := 10) (1 : Int32) d2_9
    replace w := w.icmpYes (pc' := 21) d2_10 (by decide)
    replace w := w.iloadN (pc' := 22) d2_21 rfl
    replace w := w.iconst (pc' := 23) (2 : Int32) d2_22
    replace w := w.icmpYes (pc' := 38) d2_23 (by decide)
    replace w := w.iloadN (pc' := 39) d2_38 rfl
    replace w := w.iconst (pc' := 40) (3 : Int32) d2_39
    replace w := w.icmpNo (pc' := 43) d2_40 (by decide)
    replace w := w.iconst (pc' := 44) (3 : Int32) d2_43
    obtain ⟨h7, b, k_b, g_b, E7, V_b, S_b, A7, w⟩ := w.newarr (cap := 3) (hw _ (List.mem_of_getElem? (i := 10) rfl)) d2_44 (by decide) (by decide) nle nle (pc' := 46)
    have lt_b : b < h7.size := V_b.lt
    have ge_b_Z : Z.heap.size ≤ b := Nat.le_trans BZ.1 (Nat.le_of_eq g_b.symm)
    have ge_b_0 : h0.size ≤ b := Nat.le_trans B0.1 (Nat.le_of_eq g_b.symm)
    have BZ := extT BZ E7
    have B0 := extT B0 E7
    have C0 := C0.trans A7
    replace V_b := V_b.pad (vs' := [(.int (0 : Int32)), (.int (0 : Int32)), (.int (0 : Int32))]) (pad_rep [] _ 3)
    replace w := w.dup (pc' := 47) d2_46
    replace w := w.iconst (pc' := 48) (0 : Int32) d2_47
    replace w := w.iloadN (pc' := 49) d2_48 rfl
    obtain ⟨h8, K8, V_b, A8, w⟩ := w.castore (x' := c0) V_b d2_49 ⟨by decide, by decide⟩ n0 0 rfl nle ge_b_Z (pc' := 50)
    replace V_b := V_b.pad (vs' := [(.int c0), (.int (0 : Int32)), (.int (0 : Int32))]) (fun _ => rfl)
    have BZ := extK BZ K8 (allS ge_b_Z all0)
    have B0 := extK B0 K8 (allS ge_b_0 all0)
    have C0 := C0.trans A8
    replace w := w.dup (pc' := 51) d2_50
    replace w := w.iconst (pc' := 52) (1 : Int32) d2_51
    replace w := w.iloadN (pc' := 53) d2_52 rfl
    obtain ⟨h9, K9, V_b, A9, w⟩ := w.castore (x' := c1) V_b d2_53 ⟨by decide, by decide⟩ n1 1 rfl nle ge_b_Z (pc' := 54)
    replace V_b := V_b.pad (vs' := [(.int c0), (.int c1), (.int (0 : Int32))]) (fun _ => rfl)
    have BZ := extK BZ K9 (allS ge_b_Z all0)
    have B0 := extK B0 K9 (allS ge_b_0 all0)
    have C0 := C0.trans A9
    replace w := w.dup (pc' := 55) d2_54
    replace w := w.iconst (pc' := 56) (2 : Int32) d2_55
    replace w := w.iloadN (pc' := 57) d2_56 rfl
    obtain ⟨h10, K10, V_b, A10, w⟩ := w.castore (x' := c2) V_b d2_57 ⟨by decide, by decide⟩ n2 2 rfl nle ge_b_Z (pc' := 58)
    replace V_b := V_b.pad (vs' := [(.int c0), (.int c1), (.int c2)]) (fun _ => rfl)
    have BZ := extK BZ K10 (allS ge_b_Z all0)
    have B0 := extK B0 K10 (allS ge_b_0 all0)
    have C0 := C0.trans A10
    exact w.retA d2_58 ⟨b, k_b, rfl, B0, V_b⟩ nle nle
  ·
    replace w := w.ifYes (pc' := 8) d2_1 (by decide)
    replace w := w.iloadN (pc' := 9) d2_8 rfl
    replace w := w.iconst (pc' := 10) (1 : Int32) d2_9
    replace w := w.icmpYes (pc' := 21) d2_10 (by decide)
    replace w := w.iloadN (pc' := 22) d2_21 rfl
    replace w := w.iconst (pc' := 23) (2 : Int32) d2_22
    replace w := w.icmpYes (pc' := 38) d2_23 (by decide)
    replace w := w.iloadN (pc' := 39) d2_38 rfl
    replace w := w.iconst (pc' := 40) (3 : Int32) d2_39
    replace w := w.icmpYes (pc' := 59) d2_40 (by decide)
    replace w := w.iloadN (pc' := 60) d2_59 rfl
    replace w := w.iconst (pc' := 61) (4 : Int32) d2_60
    replace w := w.icmpNo (pc' := 64) d2_61 (by decide)
    replace w := w.iconst (pc' := 65) (4 : Int32) d2_64
    obtain ⟨h11, b, k_b, g_b, E11, V_b, S_b, A11, w⟩ := w.newarr (cap := 4) (hw _ (List.mem_of_getElem? (i := 10) rfl)) d2_65 (by decide) (by decide) nle nle (pc' := 67)
    have lt_b : b < h11.size := V_b.lt
    have ge_b_Z : Z.heap.size ≤ b := Nat.le_trans BZ.1 (Nat.le_of_eq g_b.symm)
    have ge_b_0 : h0.size ≤ b := Nat.le_trans B0.1 (Nat.le_of_eq g_b.symm)
    have BZ := extT BZ E11
    have B0 := extT B0 E11
    have C0 := C0.trans A11
    replace V_b := V_b.pad (vs' := [(.int (0 : Int32)), (.int (0 : Int32)), (.int (0 : Int32)), (.int (0 : Int32))]) (pad_rep [] _ 4)
    replace w := w.dup (pc' := 68) d2_67
    replace w := w.iconst (pc' := 69) (0 : Int32) d2_68
    replace w := w.iloadN (pc' := 70) d2_69 rfl
    obtain ⟨h12, K12, V_b, A12, w⟩ := w.castore (x' := c0) V_b d2_70 ⟨by decide, by decide⟩ n0 0 rfl nle ge_b_Z (pc' := 71)
    replace V_b := V_b.pad (vs' := [(.int c0), (.int (0 : Int32)), (.int (0 : Int32)), (.int (0 : Int32))]) (fun _ => rfl)
    have BZ := extK BZ K12 (allS ge_b_Z all0)
    have B0 := extK B0 K12 (allS ge_b_0 all0)
    have C0 := C0.trans A12
    replace w := w.dup (pc' := 72) d2_71
    replace w := w.iconst (pc' := 73) (1 : Int32) d2_72
    replace w := w.iloadN (pc' := 74) d2_73 rfl
    obtain ⟨h13, K13, V_b, A13, w⟩ := w.castore (x' := c1) V_b d2_74 ⟨by decide, by decide⟩ n1 1 rfl nle ge_b_Z (pc' := 75)
    replace V_b := V_b.pad (vs' := [(.int c0), (.int c1), (.int (0 : Int32)), (.int (0 : Int32))]) (fun _ => rfl)
    have BZ := extK BZ K13 (allS ge_b_Z all0)
    have B0 := extK B0 K13 (allS ge_b_0 all0)
    have C0 := C0.trans A13
    replace w := w.dup (pc' := 76) d2_75
    replace w := w.iconst (pc' := 77) (2 : Int32) d2_76
    replace w := w.iloadN (pc' := 78) d2_77 rfl
    obtain ⟨h14, K14, V_b, A14, w⟩ := w.castore (x' := c2) V_b d2_78 ⟨by decide, by decide⟩ n2 2 rfl nle ge_b_Z (pc' := 79)
    replace V_b := V_b.pad (vs' := [(.int c0), (.int c1), (.int c2), (.int (0 : Int32))]) (fun _ => rfl)
    have BZ := extK BZ K14 (allS ge_b_Z all0)
    have B0 := extK B0 K14 (allS ge_b_0 all0)
    have C0 := C0.trans A14
    replace w := w.dup (pc' := 80) d2_79
    replace w := w.iconst (pc' := 81) (3 : Int32) d2_80
    replace w := w.iload (pc' := 83) d2_81 rfl
    obtain ⟨h15, K15, V_b, A15, w⟩ := w.castore (x' := c3) V_b d2_83 ⟨by decide, by decide⟩ n3 3 rfl nle ge_b_Z (pc' := 84)
    replace V_b := V_b.pad (vs' := [(.int c0), (.int c1), (.int c2), (.int c3)]) (fun _ => rfl)
    have BZ := extK BZ K15 (allS ge_b_Z all0)
    have B0 := extK B0 K15 (allS ge_b_0 all0)
    have C0 := C0.trans A15
    exact w.retA d2_84 ⟨b, k_b, rfl, B0, V_b⟩ nle nle
  ·
    replace w := w.ifYes (pc' := 8) d2_1 (by decide)
    replace w := w.iloadN (pc' := 9) d2_8 rfl
    replace w := w.iconst (pc' := 10) (1 : Int32) d2_9
    replace w := w.icmpYes (pc' := 21) d2_10 (by decide)
    replace w := w.iloadN (pc' := 22) d2_21 rfl
    replace w := w.iconst (pc' := 23) (2 : Int32) d2_22
    replace w := w.icmpYes (pc' := 38) d2_23 (by decide)
    replace w := w.iloadN (pc' := 39) d2_38 rfl
    replace w := w.iconst (pc' := 40) (3 : Int32) d2_39
    replace w := w.icmpYes (pc' := 59) d2_40 (by decide)
    replace w := w.iloadN (pc' := 60) d2_59 rfl
    replace w := w.iconst (pc' := 61) (4 : Int32) d2_60
    replace w := w.icmpYes (pc' := 85) d2_61 (by decide)
    replace w := w.iconst (pc' := 86) (5 : Int32) d2_85
    obtain ⟨h16, b, k_b, g_b, E16, V_b, S_b, A16, w⟩ := w.newarr (cap := 5) (hw _ (List.mem_of_getElem? (i := 10) rfl)) d2_86 (by decide) (by decide) nle nle (pc' := 88)
    have lt_b : b < h16.size := V_b.lt
    have ge_b_Z : Z.heap.size ≤ b := Nat.le_trans BZ.1 (Nat.le_of_eq g_b.symm)
    have ge_b_0 : h0.size ≤ b := Nat.le_trans B0.1 (Nat.le_of_eq g_b.symm)
    have BZ := extT BZ E16
    have B0 := extT B0 E16
    have C0 := C0.trans A16
    replace V_b := V_b.pad (vs' := [(.int (0 : Int32)), (.int (0 : Int32)), (.int (0 : Int32)), (.int (0 : Int32)), (.int (0 : Int32))]) (pad_rep [] _ 5)
    replace w := w.dup (pc' := 89) d2_88
    replace w := w.iconst (pc' := 90) (0 : Int32) d2_89
    replace w := w.iloadN (pc' := 91) d2_90 rfl
    obtain ⟨h17, K17, V_b, A17, w⟩ := w.castore (x' := c0) V_b d2_91 ⟨by decide, by decide⟩ n0 0 rfl nle ge_b_Z (pc' := 92)
    replace V_b := V_b.pad (vs' := [(.int c0), (.int (0 : Int32)), (.int (0 : Int32)), (.int (0 : Int32)), (.int (0 : Int32))]) (fun _ => rfl)
    have BZ := extK BZ K17 (allS ge_b_Z all0)
    have B0 := extK B0 K17 (allS ge_b_0 all0)
    have C0 := C0.trans A17
    replace w := w.dup (pc' := 93) d2_92
    replace w := w.iconst (pc' := 94) (1 : Int32) d2_93
    replace w := w.iloadN (pc' := 95) d2_94 rfl
    obtain ⟨h18, K18, V_b, A18, w⟩ := w.castore (x' := c1) V_b d2_95 ⟨by decide, by decide⟩ n1 1 rfl nle ge_b_Z (pc' := 96)
    replace V_b := V_b.pad (vs' := [(.int c0), (.int c1), (.int (0 : Int32)), (.int (0 : Int32)), (.int (0 : Int32))]) (fun _ => rfl)
    have BZ := extK BZ K18 (allS ge_b_Z all0)
    have B0 := extK B0 K18 (allS ge_b_0 all0)
    have C0 := C0.trans A18
    replace w := w.dup (pc' := 97) d2_96
    replace w := w.iconst (pc' := 98) (2 : Int32) d2_97
    replace w := w.iloadN (pc' := 99) d2_98 rfl
    obtain ⟨h19, K19, V_b, A19, w⟩ := w.castore (x' := c2) V_b d2_99 ⟨by decide, by decide⟩ n2 2 rfl nle ge_b_Z (pc' := 100)
    replace V_b := V_b.pad (vs' := [(.int c0), (.int c1), (.int c2), (.int (0 : Int32)), (.int (0 : Int32))]) (fun _ => rfl)
    have BZ := extK BZ K19 (allS ge_b_Z all0)
    have B0 := extK B0 K19 (allS ge_b_0 all0)
    have C0 := C0.trans A19
    replace w := w.dup (pc' := 101) d2_100
    replace w := w.iconst (pc' := 102) (3 : Int32) d2_101
    replace w := w.iload (pc' := 104) d2_102 rfl
    obtain ⟨h20, K20, V_b, A20, w⟩ := w.castore (x' := c3) V_b d2_104 ⟨by decide, by decide⟩ n3 3 rfl nle ge_b_Z (pc' := 105)
    replace V_b := V_b.pad (vs' := [(.int c0), (.int c1), (.int c2), (.int c3), (.int (0 : Int32))]) (fun _ => rfl)
    have BZ := extK BZ K20 (allS ge_b_Z all0)
    have B0 := extK B0 K20 (allS ge_b_0 all0)
    have C0 := C0.trans A20
    replace w := w.dup (pc' := 106) d2_105
    replace w := w.iconst (pc' := 107) (4 : Int32) d2_106
    replace w := w.iload (pc' := 109) d2_107 rfl
    obtain ⟨h21, K21, V_b, A21, w⟩ := w.castore (x' := c4) V_b d2_109 ⟨by decide, by decide⟩ n4 4 rfl nle ge_b_Z (pc' := 110)
    replace V_b := V_b.pad (vs' := [(.int c0), (.int c1), (.int c2), (.int c3), (.int c4)]) (fun _ => rfl)
    have BZ := extK BZ K21 (allS ge_b_Z all0)
    have B0 := extK B0 K21 (allS ge_b_0 all0)
    have C0 := C0.trans A21
    exact w.retA d2_110 ⟨b, k_b, rfl, B0, V_b⟩ nle nle
/-! other, dot -/
set_option maxRecDepth 65536 in
theorem rmDOT (l : Launch) (Z : State) (a0 : Array Value) (hw : ∀ d ∈ tables_1, d.before a0 Z = true) (hEL : EW Z a0 consts_1) (c7 : Int32) (i n : Nat) (hi : i < 10) (hn : n < 10) (h0 : Heap) (hx : Ext Z.heap h0) :
    Met l Z consts_1 (⟨"com/example/fair_heat/fairheat/QuantitiesDecimalsPinLaw", "dot", "(CII)I"⟩ : MethodName) method_4_code 3 (some .int) [] ({ frames := 0, cells := 0, slots := 0, locals := 0 } : Room) #[.int c7, .int (Int32.ofNat i), .int (Int32.ofNat n)] h0 [] (fun v h => v = some (.int (own_dot n i (own_k c7))) ∧ h = h0) := by
  refine Met.of (a0 := a0) (by decide +kernel) hEL hx ?_
  intro p e s m below meth c S0 V w hs hsf
  replace w := w.to (g' := mkF m 0 #[.val (.int c7), .val (.int (Int32.ofNat i)), .val (.int (Int32.ofNat n))] []) (by first | (simp [entryFrame, mkF, argsToLocals, Value.category]; done) | rfl)
  replace w := w.iloadN (pc' := 1) d7_0 rfl
  replace w := w.iloadN (pc' := 2) d7_1 rfl
  by_cases q : i < n
  ·
    replace w := w.icmpNo (pc' := 5) d7_2 ((tlt ((own_lt32 (by omega) (by omega)).mpr q)).2.1)
    replace w := w.iloadN (pc' := 6) d7_5 rfl
    replace w := w.bipush (pc' := 8) (46 : Int32) d7_6
    by_cases q1 : c7 = 46
    ·
      replace w := w.icmpNo (pc' := 11) d7_8 ((teq q1).2)
      replace w := w.iconst (pc' := 12) (1 : Int32) d7_11
      replace w := w.goto (pc' := 16) d7_12
      exact w.retI d7_16 ⟨by rw [own_dot, if_pos q, if_pos ((own_k46 c7).mpr q1)], rfl⟩ nle nle
    replace w := w.icmpYes (pc' := 15) d7_8 ((feq q1).2)
    replace w := w.iconst (pc' := 16) (0 : Int32) d7_15
    exact w.retI d7_16 ⟨by rw [own_dot, if_pos q, if_neg (fun z => q1 ((own_k46 c7).mp z))], rfl⟩ nle nle
  replace w := w.icmpYes (pc' := 15) d7_2 ((flt (fun z => q ((own_lt32 (by omega) (by omega)).mp z))).2.1)
  replace w := w.iconst (pc' := 16) (0 : Int32) d7_15
  exact w.retI d7_16 ⟨by rw [own_dot, if_neg q], rfl⟩ nle nle
set_option maxRecDepth 65536 in
theorem rmOTH (l : Launch) (Z : State) (a0 : Array Value) (hw : ∀ d ∈ tables_1, d.before a0 Z = true) (hEL : EW Z a0 consts_1) (c7 : Int32) (i n : Nat) (hi : i < 10) (hn : n < 10) (h0 : Heap) (hx : Ext Z.heap h0) :
    Met l Z consts_1 (⟨"com/example/fair_heat/fairheat/QuantitiesDecimalsPinLaw", "other", "(CII)I"⟩ : MethodName) method_5_code 3 (some .int) [] ({ frames := 0, cells := 0, slots := 0, locals := 0 } : Room) #[.int c7, .int (Int32.ofNat i), .int (Int32.ofNat n)] h0 [] (fun v h => v = some (.int (own_oth n i (own_k c7))) ∧ h = h0) := by
  refine Met.of (a0 := a0) (by decide +kernel) hEL hx ?_
  intro p e s m below meth c S0 V w hs hsf
  replace w := w.to (g' := mkF m 0 #[.val (.int c7), .val (.int (Int32.ofNat i)), .val (.int (Int32.ofNat n))] []) (by first | (simp [entryFrame, mkF, argsToLocals, Value.category]; done) | rfl)
  replace w := w.iloadN (pc' := 1) d6_0 rfl
  replace w := w.iloadN (pc' := 2) d6_1 rfl
  by_cases q : i < n
  ·
    replace w := w.icmpNo (pc' := 5) d6_2 ((tlt ((own_lt32 (by omega) (by omega)).mpr q)).2.1)
    replace w := w.iloadN (pc' := 6) d6_5 rfl
    replace w := w.bipush (pc' := 8) (46 : Int32) d6_6
    by_cases q1 : c7 = 46
    ·
      replace w := w.icmpYes (pc' := 27) d6_8 ((teq q1).1)
      replace w := w.iconst (pc' := 28) (0 : Int32) d6_27
      exact w.retI d6_28 ⟨by rw [own_oth, if_pos q, if_neg (by rw [(own_k46 c7).mpr q1]; omega)], rfl⟩ nle nle
    replace w := w.icmpNo (pc' := 11) d6_8 ((feq q1).1)
    replace w := w.iloadN (pc' := 12) d6_11 rfl
    replace w := w.bipush (pc' := 14) (48 : Int32) d6_12
    by_cases q2 : c7 < 48
    ·
      replace w := w.icmpYes (pc' := 23) d6_14 ((tlt q2).1)
      replace w := w.iconst (pc' := 24) (1 : Int32) d6_23
      replace w := w.goto (pc' := 28) d6_24
      exact w.retI d6_28 ⟨by rw [own_oth, if_pos q, if_pos (by rw [own_k, if_neg q1, if_pos (Or.inl q2)])], rfl⟩ nle nle
    replace w := w.icmpNo (pc' := 17) d6_14 ((flt q2).1)
    replace w := w.iloadN (pc' := 18) d6_17 rfl
    replace w := w.bipush (pc' := 20) (57 : Int32) d6_18
    by_cases q3 : 57 < c7
    ·
      replace w := w.icmpNo (pc' := 23) d6_20 ((tlt q3).2.2.2)
      replace w := w.iconst (pc' := 24) (1 : Int32) d6_23
      replace w := w.goto (pc' := 28) d6_24
      exact w.retI d6_28 ⟨by rw [own_oth, if_pos q, if_pos (by rw [own_k, if_neg q1, if_pos (Or.inr q3)])], rfl⟩ nle nle
    replace w := w.icmpYes (pc' := 27) d6_20 ((flt q3).2.2.2)
    replace w := w.iconst (pc' := 28) (0 : Int32) d6_27
    exact w.retI d6_28 ⟨by rw [own_oth, if_pos q, if_neg (by rw [own_k, if_neg q1, if_neg (fun z => z.elim q2 q3)]; omega)], rfl⟩ nle nle
  replace w := w.icmpYes (pc' := 27) d6_2 ((flt (fun z => q ((own_lt32 (by omega) (by omega)).mp z))).2.1)
  replace w := w.iconst (pc' := 28) (0 : Int32) d6_27
  exact w.retI d6_28 ⟨by rw [own_oth, if_neg q], rfl⟩ nle nle
/-! indexOf -/
set_option maxRecDepth 65536 in
theorem rmCE (l : Launch) (Z : State) (a0 : Array Value) (hw : ∀ d ∈ tables_1, d.before a0 Z = true) (hEL : EW Z a0 consts_1) (h0 : Heap) (hx : Ext Z.heap h0) :
    Met l Z consts_1 (⟨"java/lang/StringLatin1", "canEncode", "(I)Z"⟩ : MethodName) jdk_43_method_4_code 1 (some .boolean) [] ({ frames := 0, cells := 0, slots := 0, locals := 0 } : Room) #[.int 46] h0 [] (fun v h => v = some (.int 1) ∧ h = h0) := by
  refine Met.of (a0 := a0) (by decide +kernel) hEL hx ?_
  intro p e s m below meth c S0 V w hs hsf
  replace w := w.to (g' := mkF m 0 #[.val (.int (46 : Int32))] []) (by first | (simp [entryFrame, mkF, argsToLocals, Value.category]; done) | rfl)
  replace w := w.iloadN (pc' := 1) d15_0 rfl
  replace w := w.ifNo (pc' := 4) d15_1 (by decide)
  replace w := w.iloadN (pc' := 5) d15_4 rfl
  replace w := w.sipush (pc' := 8) (255 : Int32) d15_5
  replace w := w.icmpNo (pc' := 11) d15_8 (by decide)
  replace w := w.iconst (pc' := 12) (1 : Int32) d15_11
  replace w := w.goto (pc' := 16) d15_12
  exact w.retN d15_16 (by simp) ⟨rfl, rfl⟩ nle nle
set_option maxRecDepth 65536 in
theorem rmMAX (l : Launch) (Z : State) (a0 : Array Value) (hw : ∀ d ∈ tables_1, d.before a0 Z = true) (hEL : EW Z a0 consts_1) (a : Int32) (h0 : Heap) (hx : Ext Z.heap h0) :
    Met l Z consts_1 (⟨"java/lang/Math", "max", "(II)I"⟩ : MethodName) jdk_29_method_65_code 2 (some .int) [] ({ frames := 0, cells := 0, slots := 0, locals := 0 } : Room) #[.int a, .int a] h0 [] (fun v h => v = some (.int a) ∧ h = h0) := by
  refine Met.of (a0 := a0) (by decide +kernel) hEL hx ?_
  intro p e s m below meth c S0 V w hs hsf
  replace w := w.to (g' := mkF m 0 #[.val (.int a), .val (.int a)] []) (by first | (simp [entryFrame, mkF, argsToLocals, Value.category]; done) | rfl)
  replace w := w.iloadN (pc' := 1) d16_0 rfl
  replace w := w.iloadN (pc' := 2) d16_1 rfl
  replace w := w.icmpNo (pc' := 5) d16_2 ((flt Int32.lt_irrefl).1)
  replace w := w.iloadN (pc' := 6) d16_5 rfl
  replace w := w.goto (pc' := 10) d16_6
  exact w.retI d16_10 ⟨rfl, rfl⟩ nle nle
set_option maxRecDepth 65536 in
theorem rmMIN (l : Launch) (Z : State) (a0 : Array Value) (hw : ∀ d ∈ tables_1, d.before a0 Z = true) (hEL : EW Z a0 consts_1) (a : Int32) (h0 : Heap) (hx : Ext Z.heap h0) :
    Met l Z consts_1 (⟨"java/lang/Math", "min", "(II)I"⟩ : MethodName) jdk_29_method_69_code 2 (some .int) [] ({ frames := 0, cells := 0, slots := 0, locals := 0 } : Room) #[.int a, .int a] h0 [] (fun v h => v = some (.int a) ∧ h = h0) := by
  refine Met.of (a0 := a0) (by decide +kernel) hEL hx ?_
  intro p e s m below meth c S0 V w hs hsf
  replace w := w.to (g' := mkF m 0 #[.val (.int a), .val (.int a)] []) (by first | (simp [entryFrame, mkF, argsToLocals, Value.category]; done) | rfl)
  replace w := w.iloadN (pc' := 1) d17_0 rfl
  replace w := w.iloadN (pc' := 2) d17_1 rfl
  replace w := w.icmpNo (pc' := 5) d17_2 ((flt Int32.lt_irrefl).2.2.1)
  replace w := w.iloadN (pc' := 6) d17_5 rfl
  replace w := w.goto (pc' := 10) d17_6
  exact w.retI d17_10 ⟨rfl, rfl⟩ nle nle
set_option maxRecDepth 65536 in
theorem rmLAT (l : Launch) (Z : State) (a0 : Array Value) (hw : ∀ d ∈ tables_1, d.before a0 Z = true) (hEL : EW Z a0 consts_1) (z0 : Int32) (Sc : Sta Z Z.heap "java/lang/String" "COMPACT_STRINGS" "Z" (.int z0)) (hz0 : ¬ z0 = 0) (x : Addr) (h0 : Heap) (hx : Ext Z.heap h0) (Fc : Fld Z h0 x "java/lang/String" "coder" "B" (.int 0)) :
    Met l Z consts_1 (⟨"java/lang/String", "isLatin1", "()Z"⟩ : MethodName) jdk_42_method_154_code 1 (some .boolean) [] ({ frames := 0, cells := 0, slots := 0, locals := 0 } : Room) #[.ref x] h0 [] (fun v h => v = some (.int 1) ∧ h = h0) := by
  refine Met.of (a0 := a0) (by decide +kernel) hEL hx ?_
  intro p e s m below meth c S0 V w hs hsf
  replace w := w.to (g' := mkF m 0 #[.val (.ref x)] []) (by first | (simp [entryFrame, mkF, argsToLocals, Value.category]; done) | rfl)
  replace w := w.getS (hw _ (List.mem_of_getElem? (i := 54) rfl)) Sc d11_0 (pc' := 3)
  replace w := w.ifNo (pc' := 6) d11_3 ((if0 _ _).trans (feq hz0).1)
  replace w := w.aloadN (pc' := 7) d11_6 rfl
  replace w := w.getF (hw _ (List.mem_of_getElem? (i := 28) rfl)) Fc d11_7 (pc' := 10)
  replace w := w.ifNo (pc' := 13) d11_10 (by decide)
  replace w := w.iconst (pc' := 14) (1 : Int32) d11_13
  replace w := w.goto (pc' := 18) d11_14
  exact w.retN d11_18 (by simp) ⟨rfl, rfl⟩ nle nle
set_option maxRecDepth 65536 in
theorem ixc7 (l : Launch) (Z : State) (a0 : Array Value) (hw : ∀ d ∈ tables_1, d.before a0 Z = true) (hEL : EW Z a0 consts_1) {p : Program} {e : Env} {s : State} {m : MethodId} {args : Array Value} {below : List Frame} {meth : Method} {c : Code} {S0 : State} {V : Vm} (h0 : Heap) (t : Addr) (kt : ClassId) (cs : List Int32) (hl : cs.length ≤ 9) (hp : ∀ c ∈ cs, ¬ c < 0 ∧ ¬ (255 : Int32) < c) (A : Arv Z h0 t kt .byte (Int32.ofNat cs.length) (cs.map fun c => Value.int c.toInt8.toInt32) (.int 0)) (f : Nat) :
    ∀ j, j + f = cs.length → Wk p l e ({ frames := 0, cells := 0, slots := 0, locals := 0 } : Room) s m args below meth c Z a0 consts_1 S0 (⟨"java/lang/StringLatin1", "indexOfChar", "([BIII)I"⟩ : MethodName) jdk_43_method_23_code 6 (some .int) V h0 0 0 (mkF m 7 #[.val (.ref t), .val (.int 46), .val (.int 0), .val (.int (Int32.ofNat cs.length)), .val (.int 46), .val (.int (Int32.ofNat j))] []) → Fini p e below s Z consts_1 S0 0 0 (fun v h => v = some (.int (own_ix f (cs.map own_k) j)) ∧ h = h0) := by
  induction f with
  | zero =>
    intro j hj w
    replace w := w.iload (pc' := 9) d22_7 rfl
    replace w := w.iloadN (pc' := 10) d22_9 rfl
    replace w := w.icmpYes (pc' := 31) d22_10 ((flt (fun z => absurd ((own_lt32 (by omega) (by omega)).mp z) (by omega))).2.1)
    replace w := w.iconst (pc' := 32) (-1 : Int32) d22_31
    exact w.retI d22_32 ⟨rfl, rfl⟩ nle nle
  | succ f ih =>
    intro j hj w
    have hjl : j < cs.length := by omega
    have hc := hp _ (own_gmem hjl)
    replace w := w.iload (pc' := 9) d22_7 rfl
    replace w := w.iloadN (pc' := 10) d22_9 rfl
    replace w := w.icmpNo (pc' := 13) d22_10 ((tlt ((own_lt32 (by omega) (by omega)).mpr hjl)).2.1)
    replace w := w.aloadN (pc' := 14) d22_13 rfl
    replace w := w.iload (pc' := 16) d22_14 rfl
    replace w := w.baload (v := (.int ((cs.getD j 0).toInt8.toInt32))) A d22_16 ⟨(own_n32 (by omega)).1, (own_lt32 (by omega) (by omega)).mpr hjl⟩ (by rw [(own_n32 (n := j) (by omega)).2.1]; exact own_bget hjl _) (pc' := 17)
    replace w := w.iload (pc' := 19) d22_17 rfl
    by_cases q : cs.getD j 0 = 46
    ·
      replace w := w.icmpNo (pc' := 22) d22_19 ((teq ((own_byte46 hc).mpr q)).2)
      replace w := w.iload (pc' := 24) d22_22 rfl
      exact w.retI d22_24 ⟨by rw [own_ix, if_pos (by rw [own_kget hjl]; exact (own_k46 _).mpr q)], rfl⟩ nle nle
    replace w := w.icmpYes (pc' := 25) d22_19 ((feq (fun z => q ((own_byte46 hc).mp z))).2)
    have ej : Int32.ofNat j + (1 : Int32) = Int32.ofNat (j + 1) := own_add32 (a := j) (b := 1) (by omega)
    replace w := w.iinc (pc' := 28) (L' := #[.val (.ref t), .val (.int (46 : Int32)), .val (.int (0 : Int32)), .val (.int (Int32.ofNat cs.length)), .val (.int (46 : Int32)), .val (.int ((Int32.ofNat j) + (1 : Int32)))]) d22_25 rfl rfl
    replace w := w.goto (pc' := 7) d22_28
    rw [ej] at w
    rw [own_ix, if_neg (by rw [own_kget hjl]; exact fun z => q ((own_k46 _).mp z))]
    exact ih (j + 1) (by omega) w
set_option maxRecDepth 65536 in
theorem rmIXC (l : Launch) (Z : State) (a0 : Array Value) (hw : ∀ d ∈ tables_1, d.before a0 Z = true) (hEL : EW Z a0 consts_1) (t : Addr) (kt : ClassId) (cs : List Int32) (hl : cs.length ≤ 9) (hp : ∀ c ∈ cs, ¬ c < 0 ∧ ¬ (255 : Int32) < c) (h0 : Heap) (hx : Ext Z.heap h0) (A : Arv Z h0 t kt .byte (Int32.ofNat cs.length) (cs.map fun c => Value.int c.toInt8.toInt32) (.int 0)) :
    Met l Z consts_1 (⟨"java/lang/StringLatin1", "indexOfChar", "([BIII)I"⟩ : MethodName) jdk_43_method_23_code 6 (some .int) [] ({ frames := 0, cells := 0, slots := 0, locals := 0 } : Room) #[.ref t, .int 46, .int 0, .int (Int32.ofNat cs.length)] h0 [] (fun v h => v = some (.int (own_ix cs.length (cs.map own_k) 0)) ∧ h = h0) := by
  refine Met.of (a0 := a0) (by decide +kernel) hEL hx ?_
  intro p e s m below meth c S0 V w hs hsf
  replace w := w.to (g' := mkF m 0 #[.val (.ref t), .val (.int (46 : Int32)), .val (.int (0 : Int32)), .val (.int (Int32.ofNat cs.length)), .unset, .unset] []) (by first | (simp [entryFrame, mkF, argsToLocals, Value.category]; done) | rfl)
  replace w := w.iloadN (pc' := 1) d22_0 rfl
  replace w := w.i2b (pc' := 2) d22_1
  rw [show (46 : Int32).toInt8.toInt32 = 46 from by decide] at w
  replace w := w.istore (pc' := 4) (L' := #[.val (.ref t), .val (.int (46 : Int32)), .val (.int (0 : Int32)), .val (.int (Int32.ofNat cs.length)), .val (.int (46 : Int32)), .unset]) d22_2 rfl
  replace w := w.iloadN (pc' := 5) d22_4 rfl
  replace w := w.istore (pc' := 7) (L' := #[.val (.ref t), .val (.int (46 : Int32)), .val (.int (0 : Int32)), .val (.int (Int32.ofNat cs.length)), .val (.int (46 : Int32)), .val (.int (0 : Int32))]) d22_5 rfl
  exact ixc7 l Z a0 hw hEL h0 t kt cs hl hp A cs.length 0 (Nat.zero_add _) w
set_option maxRecDepth 65536 in
theorem rmIX3 (l : Launch) (Z : State) (a0 : Array Value) (hw : ∀ d ∈ tables_1, d.before a0 Z = true) (hEL : EW Z a0 consts_1) (t : Addr) (kt : ClassId) (cs : List Int32) (hl : cs.length ≤ 9) (hp : ∀ c ∈ cs, ¬ c < 0 ∧ ¬ (255 : Int32) < c) (h0 : Heap) (hx : Ext Z.heap h0) (A : Arv Z h0 t kt .byte (Int32.ofNat cs.length) (cs.map fun c => Value.int c.toInt8.toInt32) (.int 0)) :
    Met l Z consts_1 (⟨"java/lang/StringLatin1", "indexOf", "([BIII)I"⟩ : MethodName) jdk_43_method_22_code 4 (some .int) [] ({ frames := 1, cells := 0, slots := 0, locals := 20 } : Room) #[.ref t, .int 46, .int 0, .int (Int32.ofNat cs.length)] h0 [] (fun v h => v = some (.int (own_ix cs.length (cs.map own_k) 0)) ∧ h = h0) := by
  refine Met.of (a0 := a0) (by decide +kernel) hEL hx ?_
  intro p e s m below meth c S0 V w hs hsf
  replace w := w.to (g' := mkF m 0 #[.val (.ref t), .val (.int (46 : Int32)), .val (.int (0 : Int32)), .val (.int (Int32.ofNat cs.length))] []) (by first | (simp [entryFrame, mkF, argsToLocals, Value.category]; done) | rfl)
  replace w := w.iloadN (pc' := 1) d14_0 rfl
  obtain ⟨v1, V1, h1, hq1, A1, w⟩ := w.static (y' := (⟨"java/lang/StringLatin1", "canEncode", "(I)Z"⟩ : MethodName)) (W := 0) (w.pays 0 (rmCE l Z a0 hw hEL h0 w.old) (hw _ (List.mem_of_getElem? (i := 71) rfl)) (hw _ (List.mem_of_getElem? (i := 67) rfl)) all0 nle nle) (hw _ (List.mem_of_getElem? (i := 69) rfl)) (hw _ (List.mem_of_getElem? (i := 70) rfl)) (hw _ (List.mem_of_getElem? (i := 67) rfl)) (hw _ (List.mem_of_getElem? (i := 71) rfl)) (argsL := [(.int (46 : Int32))]) (rest := []) (by decide) pd_1 rfl rfl (Nat.le_of_eq rfl) rfl d14_1 nle nle (pc' := 4)
  obtain ⟨rfl, he1⟩ := hq1
  replace w := w.to (g' := mkF m 4 #[.val (.ref t), .val (.int (46 : Int32)), .val (.int (0 : Int32)), .val (.int (Int32.ofNat cs.length))] [(.int (1 : Int32))]) rfl
  replace he1 := he1.symm
  subst he1
  replace w := w.ifYes (pc' := 9) d14_4 (by decide)
  replace w := w.iloadN (pc' := 10) d14_9 rfl
  replace w := w.iconst (pc' := 11) (0 : Int32) d14_10
  obtain ⟨v2, V2, h2, hq2, A2, w⟩ := w.static (y' := (⟨"java/lang/Math", "max", "(II)I"⟩ : MethodName)) (W := 0) (w.pays 0 (rmMAX l Z a0 hw hEL 0 h0 w.old) (hw _ (List.mem_of_getElem? (i := 75) rfl)) (hw _ (List.mem_of_getElem? (i := 74) rfl)) all0 nle nle) (hw _ (List.mem_of_getElem? (i := 72) rfl)) (hw _ (List.mem_of_getElem? (i := 73) rfl)) (hw _ (List.mem_of_getElem? (i := 74) rfl)) (hw _ (List.mem_of_getElem? (i := 75) rfl)) (argsL := [(.int (0 : Int32)), (.int (0 : Int32))]) (rest := []) (by decide) pd_2 rfl rfl (Nat.le_of_eq rfl) rfl d14_11 nle nle (pc' := 14)
  obtain ⟨rfl, he2⟩ := hq2
  replace w := w.to (g' := mkF m 14 #[.val (.ref t), .val (.int (46 : Int32)), .val (.int (0 : Int32)), .val (.int (Int32.ofNat cs.length))] [(.int (0 : Int32))]) rfl
  replace he2 := he2.symm
  subst he2
  replace w := w.istoreN (pc' := 15) (L' := #[.val (.ref t), .val (.int (46 : Int32)), .val (.int (0 : Int32)), .val (.int (Int32.ofNat cs.length))]) d14_14 rfl
  replace w := w.iloadN (pc' := 16) d14_15 rfl
  replace w := w.aloadN (pc' := 17) d14_16 rfl
  replace w := w.arrlen A d14_17 (pc' := 18)
  obtain ⟨v3, V3, h3, hq3, A3, w⟩ := w.static (y' := (⟨"java/lang/Math", "min", "(II)I"⟩ : MethodName)) (W := 0) (w.pays 0 (rmMIN l Z a0 hw hEL (Int32.ofNat cs.length) h0 w.old) (hw _ (List.mem_of_getElem? (i := 78) rfl)) (hw _ (List.mem_of_getElem? (i := 74) rfl)) all0 nle nle) (hw _ (List.mem_of_getElem? (i := 76) rfl)) (hw _ (List.mem_of_getElem? (i := 77) rfl)) (hw _ (List.mem_of_getElem? (i := 74) rfl)) (hw _ (List.mem_of_getElem? (i := 78) rfl)) (argsL := [(.int (Int32.ofNat cs.length)), (.int (Int32.ofNat cs.length))]) (rest := []) (by decide) pd_2 rfl rfl (Nat.le_of_eq rfl) rfl d14_18 nle nle (pc' := 21)
  obtain ⟨rfl, he3⟩ := hq3
  replace w := w.to (g' := mkF m 21 #[.val (.ref t), .val (.int (46 : Int32)), .val (.int (0 : Int32)), .val (.int (Int32.ofNat cs.length))] [(.int (Int32.ofNat cs.length))]) rfl
  replace he3 := he3.symm
  subst he3
  replace w := w.istoreN (pc' := 22) (L' := #[.val (.ref t), .val (.int (46 : Int32)), .val (.int (0 : Int32)), .val (.int (Int32.ofNat cs.length))]) d14_21 rfl
  replace w := w.iloadN (pc' := 23) d14_22 rfl
  replace w := w.iloadN (pc' := 24) d14_23 rfl
  by_cases q : 0 < cs.length
  ·
    replace w := w.icmpYes (pc' := 29) d14_24 ((tlt ((own_lt32 (a := 0) (b := cs.length) (by omega) (by omega)).mpr q)).1)
    replace w := w.aloadN (pc' := 30) d14_29 rfl
    replace w := w.iloadN (pc' := 31) d14_30 rfl
    replace w := w.iloadN (pc' := 32) d14_31 rfl
    replace w := w.iloadN (pc' := 33) d14_32 rfl
    obtain ⟨v4, V4, h4, hq4, A4, w⟩ := w.static (y' := (⟨"java/lang/StringLatin1", "indexOfChar", "([BIII)I"⟩ : MethodName)) (W := 0) (w.pays 0 (rmIXC l Z a0 hw hEL t kt cs hl hp h0 w.old A) (hw _ (List.mem_of_getElem? (i := 95) rfl)) (hw _ (List.mem_of_getElem? (i := 67) rfl)) all0 nle nle) (hw _ (List.mem_of_getElem? (i := 93) rfl)) (hw _ (List.mem_of_getElem? (i := 94) rfl)) (hw _ (List.mem_of_getElem? (i := 67) rfl)) (hw _ (List.mem_of_getElem? (i := 95) rfl)) (argsL := [(.ref t), (.int (46 : Int32)), (.int (0 : Int32)), (.int (Int32.ofNat cs.length))]) (rest := []) (by decide) pd_3 rfl rfl (Nat.le_of_eq rfl) rfl d14_33 nle nle (pc' := 36)
    obtain ⟨rfl, he4⟩ := hq4
    replace w := w.to (g' := mkF m 36 #[.val (.ref t), .val (.int (46 : Int32)), .val (.int (0 : Int32)), .val (.int (Int32.ofNat cs.length))] [(.int (own_ix cs.length (cs.map own_k) 0))]) rfl
    replace he4 := he4.symm
    subst he4
    exact w.retI d14_36 ⟨rfl, rfl⟩ nle nle
  replace w := w.icmpNo (pc' := 27) d14_24 ((flt (fun z => q ((own_lt32 (a := 0) (b := cs.length) (by omega) (by omega)).mp z))).1)
  replace w := w.iconst (pc' := 28) (-1 : Int32) d14_27
  have e0 : cs.length = 0 := by omega
  exact w.retI d14_28 ⟨by rw [e0]; rfl, rfl⟩ nle nle
set_option maxRecDepth 65536 in
theorem rmIX2 (l : Launch) (Z : State) (a0 : Array Value) (hw : ∀ d ∈ tables_1, d.before a0 Z = true) (hEL : EW Z a0 consts_1) (z0 : Int32) (Sc : Sta Z Z.heap "java/lang/String" "COMPACT_STRINGS" "Z" (.int z0)) (hz0 : ¬ z0 = 0) (x : Addr) (cs : List Int32) (hl : cs.length ≤ 9) (h0 : Heap) (hx : Ext Z.heap h0) (U : Str Z h0 x cs) :
    Met l Z consts_1 (⟨"java/lang/String", "indexOf", "(II)I"⟩ : MethodName) jdk_42_method_80_code 3 (some .int) [] ({ frames := 2, cells := 0, slots := 0, locals := 36 } : Room) #[.ref x, .int 46, .int 0] h0 [] (fun v h => v = some (.int (own_ix cs.length (cs.map own_k) 0)) ∧ h = h0) := by
  have X_x := U.exa
  have U' := U
  obtain ⟨hp, tx, kx, -, Gv, Gc, Ax⟩ := U
  have hwl := own_wordsLen hw
  refine Met.of (a0 := a0) (by decide +kernel) hEL hx ?_
  intro p e s m below meth c S0 V w hs hsf
  replace w := w.to (g' := mkF m 0 #[.val (.ref x), .val (.int (46 : Int32)), .val (.int (0 : Int32))] []) (by first | (simp [entryFrame, mkF, argsToLocals, Value.category]; done) | rfl)
  replace w := w.aloadN (pc' := 1) d10_0 rfl
  obtain ⟨v1, V1, h1, hq1, A1, w⟩ := w.virt (y' := (⟨"java/lang/String", "isLatin1", "()Z"⟩ : MethodName)) (W := 0) (C := "java/lang/String") (b := x) (w.pays 0 (rmLAT l Z a0 hw hEL z0 Sc hz0 x h0 w.old Gc) (hw _ (List.mem_of_getElem? (i := 53) rfl)) (hw _ (List.mem_of_getElem? (i := 6) rfl)) all0 nle nle) (hw _ (List.mem_of_getElem? (i := 49) rfl)) (hw _ (List.mem_of_getElem? (i := 50) rfl)) (hw _ (List.mem_of_getElem? (i := 52) rfl)) (hw _ (List.mem_of_getElem? (i := 51) rfl)) (argsL := []) (rest := []) (by decide) X_x pd_4 rfl rfl (Nat.le_of_eq rfl) rfl d10_1 nle nle (pc' := 4)
  obtain ⟨rfl, he1⟩ := hq1
  replace w := w.to (g' := mkF m 4 #[.val (.ref x), .val (.int (46 : Int32)), .val (.int (0 : Int32))] [(.int (1 : Int32))]) rfl
  replace he1 := he1.symm
  subst he1
  replace w := w.ifNo (pc' := 7) d10_4 (by decide)
  replace w := w.aloadN (pc' := 8) d10_7 rfl
  replace w := w.getF (hw _ (List.mem_of_getElem? (i := 27) rfl)) Gv d10_8 (pc' := 11)
  replace w := w.iloadN (pc' := 12) d10_11 rfl
  replace w := w.iloadN (pc' := 13) d10_12 rfl
  replace w := w.aloadN (pc' := 14) d10_13 rfl
  obtain ⟨v2, V2, h2, hq2, A2, w⟩ := w.virt (y' := (⟨"java/lang/String", "length", "()I"⟩ : MethodName)) (W := 3) (C := "java/lang/String") (b := x) (w.payLen (W := 3) hwl (hw _ (List.mem_of_getElem? (i := 5) rfl)) U' Sc hz0 (by omega) nle nle) (hw _ (List.mem_of_getElem? (i := 55) rfl)) (hw _ (List.mem_of_getElem? (i := 56) rfl)) (hw _ (List.mem_of_getElem? (i := 58) rfl)) (hw _ (List.mem_of_getElem? (i := 57) rfl)) (argsL := []) (rest := [(.int (0 : Int32)), (.int (46 : Int32)), (.ref tx)]) (by decide) X_x pd_5 rfl rfl (Nat.le_of_eq rfl) rfl d10_14 nle nle (pc' := 17)
  obtain ⟨rfl, he2⟩ := hq2
  replace w := w.to (g' := mkF m 17 #[.val (.ref x), .val (.int (46 : Int32)), .val (.int (0 : Int32))] [(.int (Int32.ofNat cs.length)), (.int (0 : Int32)), (.int (46 : Int32)), (.ref tx)]) rfl
  replace he2 := he2.symm
  subst he2
  obtain ⟨v3, V3, h3, hq3, A3, w⟩ := w.static (y' := (⟨"java/lang/StringLatin1", "indexOf", "([BIII)I"⟩ : MethodName)) (W := 0) (w.pays 0 (rmIX3 l Z a0 hw hEL tx kx cs hl hp h0 w.old Ax) (hw _ (List.mem_of_getElem? (i := 68) rfl)) (hw _ (List.mem_of_getElem? (i := 67) rfl)) all0 nle nle) (hw _ (List.mem_of_getElem? (i := 65) rfl)) (hw _ (List.mem_of_getElem? (i := 66) rfl)) (hw _ (List.mem_of_getElem? (i := 67) rfl)) (hw _ (List.mem_of_getElem? (i := 68) rfl)) (argsL := [(.ref tx), (.int (46 : Int32)), (.int (0 : Int32)), (.int (Int32.ofNat cs.length))]) (rest := []) (by decide) pd_3 rfl rfl (Nat.le_of_eq rfl) rfl d10_17 nle nle (pc' := 20)
  obtain ⟨rfl, he3⟩ := hq3
  replace w := w.to (g' := mkF m 20 #[.val (.ref x), .val (.int (46 : Int32)), .val (.int (0 : Int32))] [(.int (own_ix cs.length (cs.map own_k) 0))]) rfl
  replace he3 := he3.symm
  subst he3
  replace w := w.goto (pc' := 36) d10_20
  exact w.retI d10_36 ⟨rfl, rfl⟩ nle nle
set_option maxRecDepth 65536 in
theorem rmIX1 (l : Launch) (Z : State) (a0 : Array Value) (hw : ∀ d ∈ tables_1, d.before a0 Z = true) (hEL : EW Z a0 consts_1) (z0 : Int32) (Sc : Sta Z Z.heap "java/lang/String" "COMPACT_STRINGS" "Z" (.int z0)) (hz0 : ¬ z0 = 0) (x : Addr) (cs : List Int32) (hl : cs.length ≤ 9) (h0 : Heap) (hx : Ext Z.heap h0) (U : Str Z h0 x cs) :
    Met l Z consts_1 (⟨"java/lang/String", "indexOf", "(I)I"⟩ : MethodName) jdk_42_method_79_code 2 (some .int) [] ({ frames := 3, cells := 0, slots := 0, locals := 50 } : Room) #[.ref x, .int 46] h0 [] (fun v h => v = some (.int (own_ix cs.length (cs.map own_k) 0)) ∧ h = h0) := by
  have X_x := U.exa
  refine Met.of (a0 := a0) (by decide +kernel) hEL hx ?_
  intro p e s m below meth c S0 V w hs hsf
  replace w := w.to (g' := mkF m 0 #[.val (.ref x), .val (.int (46 : Int32))] []) (by first | (simp [entryFrame, mkF, argsToLocals, Value.category]; done) | rfl)
  replace w := w.aloadN (pc' := 1) d9_0 rfl
  replace w := w.iloadN (pc' := 2) d9_1 rfl
  replace w := w.iconst (pc' := 3) (0 : Int32) d9_2
  obtain ⟨v1, V1, h1, hq1, A1, w⟩ := w.virt (y' := (⟨"java/lang/String", "indexOf", "(II)I"⟩ : MethodName)) (W := 0) (C := "java/lang/String") (b := x) (w.pays 0 (rmIX2 l Z a0 hw hEL z0 Sc hz0 x cs hl h0 w.old U) (hw _ (List.mem_of_getElem? (i := 48) rfl)) (hw _ (List.mem_of_getElem? (i := 6) rfl)) all0 nle nle) (hw _ (List.mem_of_getElem? (i := 44) rfl)) (hw _ (List.mem_of_getElem? (i := 45) rfl)) (hw _ (List.mem_of_getElem? (i := 47) rfl)) (hw _ (List.mem_of_getElem? (i := 46) rfl)) (argsL := [(.int (46 : Int32)), (.int (0 : Int32))]) (rest := []) (by decide) X_x pd_2 rfl rfl (Nat.le_of_eq rfl) rfl d9_3 nle nle (pc' := 6)
  obtain ⟨rfl, he1⟩ := hq1
  replace w := w.to (g' := mkF m 6 #[.val (.ref x), .val (.int (46 : Int32))] [(.int (own_ix cs.length (cs.map own_k) 0))]) rfl
  replace he1 := he1.symm
  subst he1
  exact w.retI d9_6 ⟨rfl, rfl⟩ nle nle
/-! digits -/
theorem own_nz {ok : Int32} (h : ok = 0 ∨ ok = 1) : nar .boolean ok = ok := by rcases h with rfl | rfl <;> decide
set_option maxRecDepth 65536 in
theorem dg14 (l : Launch) (Z : State) (a0 : Array Value) (hw : ∀ d ∈ tables_1, d.before a0 Z = true) (hEL : EW Z a0 consts_1) (z0 : Int32) (Sc : Sta Z Z.heap "java/lang/String" "COMPACT_STRINGS" "Z" (.int z0)) (hz0 : ¬ z0 = 0) (fm : Value) (Sf : Sta Z Z.heap "jdk/internal/util/Preconditions" "SIOOBE_FORMATTER" "Ljava/util/function/BiFunction;" fm) (rfm : fm.isRef = true) {p : Program} {e : Env} {s : State} {m : MethodId} {args : Array Value} {below : List Frame} {meth : Method} {c : Code} {S0 : State} (h0 : Heap) (x : Addr) (cs : List Int32) (hl : cs.length ≤ 9) (U : Str Z h0 x cs) (a b : Nat) (hb : b ≤ cs.length) (f : Nat) :
    ∀ {V : Vm} (j : Nat) (ok : Int32), j + f = b → ok = 0 ∨ ok = 1 → Wk p l e ({ frames := 4, cells := 0, slots := 0, locals := 54 } : Room) s m args below meth c Z a0 consts_1 S0 (⟨"com/example/fair_heat/fairheat/Quantities", "digits", "(Ljava/lang/String;II)Z"⟩ : MethodName) prog_26_method_5_code 5 (some .boolean) V h0 0 0 (mkF m 14 #[.val (.ref x), .val (.int (Int32.ofNat a)), .val (.int (Int32.ofNat b)), .val (.int ok), .val (.int (Int32.ofNat j))] []) → Fini p e below s Z consts_1 S0 0 0 (fun v h => v = some (.int (own_dgl f (cs.map own_k) j ok)) ∧ h = h0) := by
  have X_x := U.exa
  have hwc := own_wordsCh hw
  induction f with
  | zero =>
    intro V j ok hj hok w
    replace w := w.iload (pc' := 16) d18_14 rfl
    replace w := w.iloadN (pc' := 17) d18_16 rfl
    replace w := w.icmpYes (pc' := 58) d18_17 ((flt (fun z => absurd ((own_lt32 (by omega) (by omega)).mp z) (by omega))).2.1)
    replace w := w.iloadN (pc' := 59) d18_58 rfl
    exact w.retN d18_59 (by simp) ⟨congrArg (fun z => some (Value.int z)) (own_nz hok), rfl⟩ nle nle
  | succ f ih =>
    intro V j ok hj hok w
    have hjl : j < cs.length := by omega
    replace w := w.iload (pc' := 16) d18_14 rfl
    replace w := w.iloadN (pc' := 17) d18_16 rfl
    replace w := w.icmpNo (pc' := 20) d18_17 ((tlt ((own_lt32 (by omega) (by omega)).mpr (by omega))).2.1)
    replace w := w.iloadN (pc' := 21) d18_20 rfl
    by_cases q0 : ok = 0
    ·
      replace w := w.ifYes (pc' := 58) d18_21 ((if0 _ _).trans (teq q0).1)
      replace w := w.iloadN (pc' := 59) d18_58 rfl
      exact w.retN d18_59 (by simp) ⟨by rw [own_dgl, if_pos q0]; exact congrArg (fun z => some (Value.int z)) (own_nz hok), rfl⟩ nle nle
    rw [own_dgl, if_neg q0, own_kget hjl]
    have ej : Int32.ofNat j + (1 : Int32) = Int32.ofNat (j + 1) := own_add32 (a := j) (b := 1) (by omega)
    replace w := w.ifNo (pc' := 24) d18_21 ((if0 _ _).trans (feq q0).1)
    replace w := w.aloadN (pc' := 25) d18_24 rfl
    replace w := w.iload (pc' := 27) d18_25 rfl
    obtain ⟨v1, V1, h1, hq1, A1, w⟩ := w.virt (y' := (⟨"java/lang/String", "charAt", "(I)C"⟩ : MethodName)) (W := 0) (C := "java/lang/String") (b := x) (w.payCh (W := 0) hwc (hw _ (List.mem_of_getElem? (i := 5) rfl)) U Sc hz0 Sf rfm (by omega) hjl rfl nle nle) (hw _ (List.mem_of_getElem? (i := 96) rfl)) (hw _ (List.mem_of_getElem? (i := 97) rfl)) (hw _ (List.mem_of_getElem? (i := 99) rfl)) (hw _ (List.mem_of_getElem? (i := 98) rfl)) (argsL := [(.int (Int32.ofNat j))]) (rest := []) (by decide) X_x pd_6 rfl rfl (Nat.le_of_eq rfl) rfl d18_27 nle nle (pc' := 30)
    obtain ⟨rfl, he1⟩ := hq1
    replace w := w.to (g' := mkF m 30 #[.val (.ref x), .val (.int (Int32.ofNat a)), .val (.int (Int32.ofNat b)), .val (.int ok), .val (.int (Int32.ofNat j))] [(.int (cs.getD j 0))]) rfl
    replace he1 := he1.symm
    subst he1
    replace w := w.bipush (pc' := 32) (48 : Int32) d18_30
    by_cases q1 : cs.getD j 0 < 48
    ·
      replace w := w.icmpYes (pc' := 50) d18_32 ((tlt q1).1)
      replace w := w.iconst (pc' := 51) (0 : Int32) d18_50
      replace w := w.istoreN (pc' := 52) (L' := #[.val (.ref x), .val (.int (Int32.ofNat a)), .val (.int (Int32.ofNat b)), .val (.int (0 : Int32)), .val (.int (Int32.ofNat j))]) d18_51 rfl
      replace w := w.iinc (pc' := 55) (L' := #[.val (.ref x), .val (.int (Int32.ofNat a)), .val (.int (Int32.ofNat b)), .val (.int (0 : Int32)), .val (.int ((Int32.ofNat j) + (1 : Int32)))]) d18_52 rfl rfl
      replace w := w.goto (pc' := 14) d18_55
      rw [ej] at w
      rw [if_neg (by rw [own_k]; split; · omega
                     · rw [if_pos (Or.inl q1)]; omega)]
      exact ih (j + 1) 0 (by omega) (Or.inl rfl) w
    replace w := w.icmpNo (pc' := 35) d18_32 ((flt q1).1)
    replace w := w.aloadN (pc' := 36) d18_35 rfl
    replace w := w.iload (pc' := 38) d18_36 rfl
    obtain ⟨v2, V2, h2, hq2, A2, w⟩ := w.virt (y' := (⟨"java/lang/String", "charAt", "(I)C"⟩ : MethodName)) (W := 0) (C := "java/lang/String") (b := x) (w.payCh (W := 0) hwc (hw _ (List.mem_of_getElem? (i := 5) rfl)) U Sc hz0 Sf rfm (by omega) hjl rfl nle nle) (hw _ (List.mem_of_getElem? (i := 96) rfl)) (hw _ (List.mem_of_getElem? (i := 97) rfl)) (hw _ (List.mem_of_getElem? (i := 99) rfl)) (hw _ (List.mem_of_getElem? (i := 98) rfl)) (argsL := [(.int (Int32.ofNat j))]) (rest := []) (by decide) X_x pd_6 rfl rfl (Nat.le_of_eq rfl) rfl d18_38 nle nle (pc' := 41)
    obtain ⟨rfl, he2⟩ := hq2
    replace w := w.to (g' := mkF m 41 #[.val (.ref x), .val (.int (Int32.ofNat a)), .val (.int (Int32.ofNat b)), .val (.int ok), .val (.int (Int32.ofNat j))] [(.int (cs.getD j 0))]) rfl
    replace he2 := he2.symm
    subst he2
    replace w := w.bipush (pc' := 43) (57 : Int32) d18_41
    by_cases q2 : 57 < cs.getD j 0
    ·
      replace w := w.icmpYes (pc' := 50) d18_43 ((tlt q2).2.2.1)
      replace w := w.iconst (pc' := 51) (0 : Int32) d18_50
      replace w := w.istoreN (pc' := 52) (L' := #[.val (.ref x), .val (.int (Int32.ofNat a)), .val (.int (Int32.ofNat b)), .val (.int (0 : Int32)), .val (.int (Int32.ofNat j))]) d18_51 rfl
      replace w := w.iinc (pc' := 55) (L' := #[.val (.ref x), .val (.int (Int32.ofNat a)), .val (.int (Int32.ofNat b)), .val (.int (0 : Int32)), .val (.int ((Int32.ofNat j) + (1 : Int32)))]) d18_52 rfl rfl
      replace w := w.goto (pc' := 14) d18_55
      rw [ej] at w
      rw [if_neg (by rw [own_k]; split; · omega
                     · rw [if_pos (Or.inr q2)]; omega)]
      exact ih (j + 1) 0 (by omega) (Or.inl rfl) w
    replace w := w.icmpNo (pc' := 46) d18_43 ((flt q2).2.2.1)
    replace w := w.iconst (pc' := 47) (1 : Int32) d18_46
    replace w := w.goto (pc' := 51) d18_47
    replace w := w.istoreN (pc' := 52) (L' := #[.val (.ref x), .val (.int (Int32.ofNat a)), .val (.int (Int32.ofNat b)), .val (.int (1 : Int32)), .val (.int (Int32.ofNat j))]) d18_51 rfl
    replace w := w.iinc (pc' := 55) (L' := #[.val (.ref x), .val (.int (Int32.ofNat a)), .val (.int (Int32.ofNat b)), .val (.int (1 : Int32)), .val (.int ((Int32.ofNat j) + (1 : Int32)))]) d18_52 rfl rfl
    replace w := w.goto (pc' := 14) d18_55
    rw [ej] at w
    rw [if_pos (by rw [own_k, if_neg (fun z => q1 (by rw [z]; decide)), if_neg (fun z => z.elim q1 q2)])]
    exact ih (j + 1) 1 (by omega) (Or.inr rfl) w
set_option maxRecDepth 65536 in
theorem rmDGS (l : Launch) (Z : State) (a0 : Array Value) (hw : ∀ d ∈ tables_1, d.before a0 Z = true) (hEL : EW Z a0 consts_1) (z0 : Int32) (Sc : Sta Z Z.heap "java/lang/String" "COMPACT_STRINGS" "Z" (.int z0)) (hz0 : ¬ z0 = 0) (fm : Value) (Sf : Sta Z Z.heap "jdk/internal/util/Preconditions" "SIOOBE_FORMATTER" "Ljava/util/function/BiFunction;" fm) (rfm : fm.isRef = true) (x : Addr) (cs : List Int32) (hl : cs.length ≤ 9) (a b : Nat) (hab : a ≤ b) (hb : b ≤ cs.length) (h0 : Heap) (hx : Ext Z.heap h0) (U : Str Z h0 x cs) :
    Met l Z consts_1 (⟨"com/example/fair_heat/fairheat/Quantities", "digits", "(Ljava/lang/String;II)Z"⟩ : MethodName) prog_26_method_5_code 5 (some .boolean) [] ({ frames := 4, cells := 0, slots := 0, locals := 54 } : Room) #[.ref x, .int (Int32.ofNat a), .int (Int32.ofNat b)] h0 [] (fun v h => v = some (.int (own_dgl (b - a) (cs.map own_k) a (if a < b then 1 else 0))) ∧ h = h0) := by
  refine Met.of (a0 := a0) (by decide +kernel) hEL hx ?_
  intro p e s m below meth c S0 V w hs hsf
  replace w := w.to (g' := mkF m 0 #[.val (.ref x), .val (.int (Int32.ofNat a)), .val (.int (Int32.ofNat b)), .unset, .unset] []) (by first | (simp [entryFrame, mkF, argsToLocals, Value.category]; done) | rfl)
  replace w := w.iloadN (pc' := 1) d18_0 rfl
  replace w := w.iloadN (pc' := 2) d18_1 rfl
  by_cases q : a < b
  ·
    replace w := w.icmpNo (pc' := 5) d18_2 ((tlt ((own_lt32 (by omega) (by omega)).mpr q)).2.1)
    replace w := w.iconst (pc' := 6) (1 : Int32) d18_5
    replace w := w.goto (pc' := 10) d18_6
    replace w := w.istoreN (pc' := 11) (L' := #[.val (.ref x), .val (.int (Int32.ofNat a)), .val (.int (Int32.ofNat b)), .val (.int (1 : Int32)), .unset]) d18_10 rfl
    replace w := w.iloadN (pc' := 12) d18_11 rfl
    replace w := w.istore (pc' := 14) (L' := #[.val (.ref x), .val (.int (Int32.ofNat a)), .val (.int (Int32.ofNat b)), .val (.int (1 : Int32)), .val (.int (Int32.ofNat a))]) d18_12 rfl
    rw [if_pos q]
    exact dg14 l Z a0 hw hEL z0 Sc hz0 fm Sf rfm h0 x cs hl U a b hb (b - a) a 1 (by omega) (Or.inr rfl) w
  replace w := w.icmpYes (pc' := 9) d18_2 ((flt (fun z => q ((own_lt32 (by omega) (by omega)).mp z))).2.1)
  replace w := w.iconst (pc' := 10) (0 : Int32) d18_9
  replace w := w.istoreN (pc' := 11) (L' := #[.val (.ref x), .val (.int (Int32.ofNat a)), .val (.int (Int32.ofNat b)), .val (.int (0 : Int32)), .unset]) d18_10 rfl
  replace w := w.iloadN (pc' := 12) d18_11 rfl
  replace w := w.istore (pc' := 14) (L' := #[.val (.ref x), .val (.int (Int32.ofNat a)), .val (.int (Int32.ofNat b)), .val (.int (0 : Int32)), .val (.int (Int32.ofNat a))]) d18_12 rfl
  rw [if_neg q]
  exact dg14 l Z a0 hw hEL z0 Sc hz0 fm Sf rfm h0 x cs hl U a b hb (b - a) a 0 (by omega) (Or.inl rfl) w
/-! Quantities.decimals -/
set_option maxRecDepth 65536 in
theorem rmDEC (l : Launch) (Z : State) (a0 : Array Value) (hw : ∀ d ∈ tables_1, d.before a0 Z = true) (hEL : EW Z a0 consts_1) (z0 : Int32) (Sc : Sta Z Z.heap "java/lang/String" "COMPACT_STRINGS" "Z" (.int z0)) (hz0 : ¬ z0 = 0) (fm : Value) (Sf : Sta Z Z.heap "jdk/internal/util/Preconditions" "SIOOBE_FORMATTER" "Ljava/util/function/BiFunction;" fm) (rfm : fm.isRef = true) (x : Addr) (cs : List Int32) (hl : cs.length ≤ 9) (h0 : Heap) (hx : Ext Z.heap h0) (U : Str Z h0 x cs) :
    Met l Z consts_1 (⟨"com/example/fair_heat/fairheat/Quantities", "decimals", "(Ljava/lang/String;)I"⟩ : MethodName) prog_26_method_4_code 3 (some .int) [] ({ frames := 5, cells := 0, slots := 0, locals := 72 } : Room) #[.ref x] h0 [] (fun v h => v = some (.int (own_D (cs.map own_k))) ∧ h = h0) := by
  have X_x := U.exa
  have hwl := own_wordsLen hw
  have hkl : (cs.map own_k).length = cs.length := List.length_map ..
  refine Met.of (a0 := a0) (by decide +kernel) hEL hx ?_
  intro p e s m below meth c S0 V w hs hsf
  replace w := w.to (g' := mkF m 0 #[.val (.ref x), .unset, .unset] []) (by first | (simp [entryFrame, mkF, argsToLocals, Value.category]; done) | rfl)
  replace w := w.aloadN (pc' := 1) d8_0 rfl
  replace w := w.bipush (pc' := 3) (46 : Int32) d8_1
  obtain ⟨v1, V1, h1, hq1, A1, w⟩ := w.virt (y' := (⟨"java/lang/String", "indexOf", "(I)I"⟩ : MethodName)) (W := 0) (C := "java/lang/String") (b := x) (w.pays 0 (rmIX1 l Z a0 hw hEL z0 Sc hz0 x cs hl h0 w.old U) (hw _ (List.mem_of_getElem? (i := 43) rfl)) (hw _ (List.mem_of_getElem? (i := 6) rfl)) all0 nle nle) (hw _ (List.mem_of_getElem? (i := 39) rfl)) (hw _ (List.mem_of_getElem? (i := 40) rfl)) (hw _ (List.mem_of_getElem? (i := 42) rfl)) (hw _ (List.mem_of_getElem? (i := 41) rfl)) (argsL := [(.int (46 : Int32))]) (rest := []) (by decide) X_x pd_7 rfl rfl (Nat.le_of_eq rfl) rfl d8_3 nle nle (pc' := 6)
  obtain ⟨rfl, he1⟩ := hq1
  replace w := w.to (g' := mkF m 6 #[.val (.ref x), .unset, .unset] [(.int (own_ix cs.length (cs.map own_k) 0))]) rfl
  replace he1 := he1.symm
  subst he1
  obtain ⟨ix, hix⟩ : ∃ z, z = own_ix cs.length (cs.map own_k) 0 := ⟨_, rfl⟩
  rw [← hix] at w
  have hD : own_D (cs.map own_k) = if ix < 0 then (if own_dgl cs.length (cs.map own_k) 0 (if 0 < cs.length then 1 else 0) = 0 then -1 else 0) else if own_dgl ix.toNatClampNeg (cs.map own_k) 0 (if 0 < ix.toNatClampNeg then 1 else 0) = 0 then -1 else if own_dgl (cs.length - (ix.toNatClampNeg + 1)) (cs.map own_k) (ix.toNatClampNeg + 1) (if ix.toNatClampNeg + 1 < cs.length then 1 else 0) = 0 then -1 else Int32.ofNat cs.length - ix - 1 := by
    rw [own_D, hkl, ← hix]
  replace w := w.istoreN (pc' := 7) (L' := #[.val (.ref x), .val (.int ix), .unset]) d8_6 rfl
  replace w := w.iconst (pc' := 8) (-1 : Int32) d8_7
  replace w := w.istoreN (pc' := 9) (L' := #[.val (.ref x), .val (.int ix), .val (.int (-1 : Int32))]) d8_8 rfl
  replace w := w.iloadN (pc' := 10) d8_9 rfl
  rcases own_ix_is cs.length (cs.map own_k) 0 with hq | ⟨i, hq, hi⟩
  ·
    have e1 : ix = -1 := hix.trans hq
    subst e1
    rw [if_pos (by decide)] at hD
    replace w := w.ifNo (pc' := 13) d8_10 (by decide)
    replace w := w.aloadN (pc' := 14) d8_13 rfl
    replace w := w.iconst (pc' := 15) (0 : Int32) d8_14
    replace w := w.aloadN (pc' := 16) d8_15 rfl
    obtain ⟨v2, V2, h2, hq2, A2, w⟩ := w.virt (y' := (⟨"java/lang/String", "length", "()I"⟩ : MethodName)) (W := 2) (C := "java/lang/String") (b := x) (w.payLen (W := 2) hwl (hw _ (List.mem_of_getElem? (i := 5) rfl)) U Sc hz0 (by omega) nle nle) (hw _ (List.mem_of_getElem? (i := 79) rfl)) (hw _ (List.mem_of_getElem? (i := 56) rfl)) (hw _ (List.mem_of_getElem? (i := 58) rfl)) (hw _ (List.mem_of_getElem? (i := 57) rfl)) (argsL := []) (rest := [(.int (0 : Int32)), (.ref x)]) (by decide) X_x pd_5 rfl rfl (Nat.le_of_eq rfl) rfl d8_16 nle nle (pc' := 19)
    obtain ⟨rfl, he2⟩ := hq2
    replace w := w.to (g' := mkF m 19 #[.val (.ref x), .val (.int (-1 : Int32)), .val (.int (-1 : Int32))] [(.int (Int32.ofNat cs.length)), (.int (0 : Int32)), (.ref x)]) rfl
    replace he2 := he2.symm
    subst he2
    obtain ⟨v3, V3, h3, hq3, A3, w⟩ := w.static (y' := (⟨"com/example/fair_heat/fairheat/Quantities", "digits", "(Ljava/lang/String;II)Z"⟩ : MethodName)) (W := 0) (w.pays 0 (rmDGS l Z a0 hw hEL z0 Sc hz0 fm Sf rfm x cs hl 0 cs.length (Nat.zero_le _) (Nat.le_refl _) h0 w.old U) (hw _ (List.mem_of_getElem? (i := 82) rfl)) (hw _ (List.mem_of_getElem? (i := 37) rfl)) all0 nle nle) (hw _ (List.mem_of_getElem? (i := 80) rfl)) (hw _ (List.mem_of_getElem? (i := 81) rfl)) (hw _ (List.mem_of_getElem? (i := 37) rfl)) (hw _ (List.mem_of_getElem? (i := 82) rfl)) (argsL := [(.ref x), (.int (0 : Int32)), (.int (Int32.ofNat cs.length))]) (rest := []) (by decide) pd_8 rfl rfl (Nat.le_of_eq rfl) rfl d8_19 nle nle (pc' := 22)
    obtain ⟨rfl, he3⟩ := hq3
    replace w := w.to (g' := mkF m 22 #[.val (.ref x), .val (.int (-1 : Int32)), .val (.int (-1 : Int32))] [(.int (own_dgl (cs.length - 0) (cs.map own_k) 0 (if 0 < cs.length then 1 else 0)))]) rfl
    replace he3 := he3.symm
    subst he3
    by_cases q : own_dgl (cs.length - 0) (cs.map own_k) 0 (if 0 < cs.length then 1 else 0) = 0
    ·
      replace w := w.ifYes (pc' := 30) d8_22 ((if0 _ _).trans (teq q).1)
      replace w := w.iloadN (pc' := 31) d8_30 rfl
      replace w := w.ifYes (pc' := 66) d8_31 (by decide)
      replace w := w.iloadN (pc' := 67) d8_66 rfl
      exact w.retI d8_67 ⟨by rw [hD, if_pos (by simpa using q)], rfl⟩ nle nle
    replace w := w.ifNo (pc' := 25) d8_22 ((if0 _ _).trans (feq q).1)
    replace w := w.iconst (pc' := 26) (0 : Int32) d8_25
    replace w := w.istoreN (pc' := 27) (L' := #[.val (.ref x), .val (.int (-1 : Int32)), .val (.int (0 : Int32))]) d8_26 rfl
    replace w := w.goto (pc' := 66) d8_27
    replace w := w.iloadN (pc' := 67) d8_66 rfl
    exact w.retI d8_67 ⟨by rw [hD, if_neg (by simpa using q)], rfl⟩ nle nle
  have hi' : i < cs.length := by omega
  have n1 := own_n32 (n := i) (by omega)
  have e1 : ix = Int32.ofNat i := hix.trans hq
  subst e1
  rw [if_neg n1.1, n1.2.1] at hD
  replace w := w.ifYes (pc' := 30) d8_10 ((if0 _ _).trans (flt n1.1).2.1)
  replace w := w.iloadN (pc' := 31) d8_30 rfl
  replace w := w.ifNo (pc' := 34) d8_31 ((if0 _ _).trans (flt n1.1).1)
  replace w := w.aloadN (pc' := 35) d8_34 rfl
  replace w := w.iconst (pc' := 36) (0 : Int32) d8_35
  replace w := w.iloadN (pc' := 37) d8_36 rfl
  obtain ⟨v4, V4, h4, hq4, A4, w⟩ := w.static (y' := (⟨"com/example/fair_heat/fairheat/Quantities", "digits", "(Ljava/lang/String;II)Z"⟩ : MethodName)) (W := 0) (w.pays 0 (rmDGS l Z a0 hw hEL z0 Sc hz0 fm Sf rfm x cs hl 0 i (Nat.zero_le _) (by omega) h0 w.old U) (hw _ (List.mem_of_getElem? (i := 82) rfl)) (hw _ (List.mem_of_getElem? (i := 37) rfl)) all0 nle nle) (hw _ (List.mem_of_getElem? (i := 80) rfl)) (hw _ (List.mem_of_getElem? (i := 81) rfl)) (hw _ (List.mem_of_getElem? (i := 37) rfl)) (hw _ (List.mem_of_getElem? (i := 82) rfl)) (argsL := [(.ref x), (.int (0 : Int32)), (.int (Int32.ofNat i))]) (rest := []) (by decide) pd_8 rfl rfl (Nat.le_of_eq rfl) rfl d8_37 nle nle (pc' := 40)
  obtain ⟨rfl, he4⟩ := hq4
  replace w := w.to (g' := mkF m 40 #[.val (.ref x), .val (.int (Int32.ofNat i)), .val (.int (-1 : Int32))] [(.int (own_dgl (i - 0) (cs.map own_k) 0 (if 0 < i then 1 else 0)))]) rfl
  replace he4 := he4.symm
  subst he4
  by_cases q : own_dgl (i - 0) (cs.map own_k) 0 (if 0 < i then 1 else 0) = 0
  ·
    replace w := w.ifYes (pc' := 66) d8_40 ((if0 _ _).trans (teq q).1)
    replace w := w.iloadN (pc' := 67) d8_66 rfl
    exact w.retI d8_67 ⟨by rw [hD, if_pos (by simpa using q)], rfl⟩ nle nle
  rw [if_neg (by simpa using q)] at hD
  replace w := w.ifNo (pc' := 43) d8_40 ((if0 _ _).trans (feq q).1)
  have ea : Int32.ofNat i + (1 : Int32) = Int32.ofNat (i + 1) := own_add32 (a := i) (b := 1) (by omega)
  replace w := w.aloadN (pc' := 44) d8_43 rfl
  replace w := w.iloadN (pc' := 45) d8_44 rfl
  replace w := w.iconst (pc' := 46) (1 : Int32) d8_45
  replace w := w.iadd (pc' := 47) d8_46
  rw [ea] at w
  replace w := w.aloadN (pc' := 48) d8_47 rfl
  obtain ⟨v5, V5, h5, hq5, A5, w⟩ := w.virt (y' := (⟨"java/lang/String", "length", "()I"⟩ : MethodName)) (W := 2) (C := "java/lang/String") (b := x) (w.payLen (W := 2) hwl (hw _ (List.mem_of_getElem? (i := 5) rfl)) U Sc hz0 (by omega) nle nle) (hw _ (List.mem_of_getElem? (i := 79) rfl)) (hw _ (List.mem_of_getElem? (i := 56) rfl)) (hw _ (List.mem_of_getElem? (i := 58) rfl)) (hw _ (List.mem_of_getElem? (i := 57) rfl)) (argsL := []) (rest := [(.int (Int32.ofNat (i + 1))), (.ref x)]) (by decide) X_x pd_5 rfl rfl (Nat.le_of_eq rfl) rfl d8_48 nle nle (pc' := 51)
  obtain ⟨rfl, he5⟩ := hq5
  replace w := w.to (g' := mkF m 51 #[.val (.ref x), .val (.int (Int32.ofNat i)), .val (.int (-1 : Int32))] [(.int (Int32.ofNat cs.length)), (.int (Int32.ofNat (i + 1))), (.ref x)]) rfl
  replace he5 := he5.symm
  subst he5
  obtain ⟨v6, V6, h6, hq6, A6, w⟩ := w.static (y' := (⟨"com/example/fair_heat/fairheat/Quantities", "digits", "(Ljava/lang/String;II)Z"⟩ : MethodName)) (W := 0) (w.pays 0 (rmDGS l Z a0 hw hEL z0 Sc hz0 fm Sf rfm x cs hl (i + 1) cs.length (by omega) (Nat.le_refl _) h0 w.old U) (hw _ (List.mem_of_getElem? (i := 82) rfl)) (hw _ (List.mem_of_getElem? (i := 37) rfl)) all0 nle nle) (hw _ (List.mem_of_getElem? (i := 80) rfl)) (hw _ (List.mem_of_getElem? (i := 81) rfl)) (hw _ (List.mem_of_getElem? (i := 37) rfl)) (hw _ (List.mem_of_getElem? (i := 82) rfl)) (argsL := [(.ref x), (.int (Int32.ofNat (i + 1))), (.int (Int32.ofNat cs.length))]) (rest := []) (by decide) pd_8 rfl rfl (Nat.le_of_eq rfl) rfl d8_51 nle nle (pc' := 54)
  obtain ⟨rfl, he6⟩ := hq6
  replace w := w.to (g' := mkF m 54 #[.val (.ref x), .val (.int (Int32.ofNat i)), .val (.int (-1 : Int32))] [(.int (own_dgl (cs.length - (i + 1)) (cs.map own_k) (i + 1) (if i + 1 < cs.length then 1 else 0)))]) rfl
  replace he6 := he6.symm
  subst he6
  by_cases q2 : own_dgl (cs.length - (i + 1)) (cs.map own_k) (i + 1) (if i + 1 < cs.length then 1 else 0) = 0
  ·
    replace w := w.ifYes (pc' := 66) d8_54 ((if0 _ _).trans (teq q2).1)
    replace w := w.iloadN (pc' := 67) d8_66 rfl
    exact w.retI d8_67 ⟨by rw [hD, if_pos q2], rfl⟩ nle nle
  rw [if_neg q2] at hD
  replace w := w.ifNo (pc' := 57) d8_54 ((if0 _ _).trans (feq q2).1)
  replace w := w.aloadN (pc' := 58) d8_57 rfl
  obtain ⟨v7, V7, h7, hq7, A7, w⟩ := w.virt (y' := (⟨"java/lang/String", "length", "()I"⟩ : MethodName)) (W := 0) (C := "java/lang/String") (b := x) (w.payLen (W := 0) hwl (hw _ (List.mem_of_getElem? (i := 5) rfl)) U Sc hz0 (by omega) nle nle) (hw _ (List.mem_of_getElem? (i := 79) rfl)) (hw _ (List.mem_of_getElem? (i := 56) rfl)) (hw _ (List.mem_of_getElem? (i := 58) rfl)) (hw _ (List.mem_of_getElem? (i := 57) rfl)) (argsL := []) (rest := []) (by decide) X_x pd_5 rfl rfl (Nat.le_of_eq rfl) rfl d8_58 nle nle (pc' := 61)
  obtain ⟨rfl, he7⟩ := hq7
  replace w := w.to (g' := mkF m 61 #[.val (.ref x), .val (.int (Int32.ofNat i)), .val (.int (-1 : Int32))] [(.int (Int32.ofNat cs.length))]) rfl
  replace he7 := he7.symm
  subst he7
  replace w := w.iloadN (pc' := 62) d8_61 rfl
  replace w := w.isub (pc' := 63) d8_62
  replace w := w.iconst (pc' := 64) (1 : Int32) d8_63
  replace w := w.isub (pc' := 65) d8_64
  replace w := w.istoreN (pc' := 66) (L' := #[.val (.ref x), .val (.int (Int32.ofNat i)), .val (.int (((Int32.ofNat cs.length) - (Int32.ofNat i)) - (1 : Int32)))]) d8_65 rfl
  replace w := w.iloadN (pc' := 67) d8_66 rfl
  exact w.retI d8_67 ⟨by rw [hD], rfl⟩ nle nle
/-! the law -/
set_option maxRecDepth 65536 in
theorem tl276 (l : Launch) (Z : State) (a0 : Array Value) (hw : ∀ d ∈ tables_1, d.before a0 Z = true) (hEL : EW Z a0 consts_1) (z0 : Int32) (Sc : Sta Z Z.heap "java/lang/String" "COMPACT_STRINGS" "Z" (.int z0)) (hz0 : ¬ z0 = 0) (fm : Value) (Sf : Sta Z Z.heap "jdk/internal/util/Preconditions" "SIOOBE_FORMATTER" "Ljava/util/function/BiFunction;" fm) (rfm : fm.isRef = true) {p : Program} {e : Env} {s : State} {m : MethodId} {args : Array Value} {below : List Frame} {meth : Method} {c : Code} {S0 : State} {V : Vm} (h0 : Heap) (a1 a2 a3 a4 a5 a6 c0 c1 c2 c3 c4 v13 v14 v15 ex : Int32) (n : Nat) (x : Addr) (cs : List Int32) (hl : cs.length ≤ 9) (U : Str Z h0 x cs) (he : own_D (cs.map own_k) = ex)
    (w : Wk p l e room_1 s m args below meth c Z a0 consts_1 S0 Jvm.Pilot.@@N@@.x code maxLocals ret V h0 6 32 (mkF m 276 #[.val (.int a1), .val (.int a2), .val (.int a3), .val (.int a4), .val (.int a5), .val (.int a6), .val (.int (Int32.ofNat n)), .val (.int c0), .val (.int c1), .val (.int c2), .val (.int c3), .val (.int c4), .val (.ref x), .val (.int v13), .val (.int v14), .val (.int v15), .val (.int ex)] [])) :
    Fini p e below s Z consts_1 S0 16 1152 (fun v h => v = some (.int 1)) := by
  replace w := w.aload (pc' := 278) at_276 rfl
  obtain ⟨v1, V1, h1, hq1, A1, w⟩ := w.static (y' := (⟨"com/example/fair_heat/fairheat/Quantities", "decimals", "(Ljava/lang/String;)I"⟩ : MethodName)) (W := 0) (w.pays 0 (rmDEC l Z a0 hw hEL z0 Sc hz0 fm Sf rfm x cs hl h0 w.old U) (hw _ (List.mem_of_getElem? (i := 38) rfl)) (hw _ (List.mem_of_getElem? (i := 37) rfl)) all0 nle nle) (hw _ (List.mem_of_getElem? (i := 35) rfl)) (hw _ (List.mem_of_getElem? (i := 36) rfl)) (hw _ (List.mem_of_getElem? (i := 37) rfl)) (hw _ (List.mem_of_getElem? (i := 38) rfl)) (argsL := [(.ref x)]) (rest := []) (by decide) pd_9 rfl rfl (Nat.le_of_eq rfl) rfl at_278 nle nle (pc' := 281)
  obtain ⟨rfl, he1⟩ := hq1
  replace w := w.to (g' := mkF m 281 #[.val (.int a1), .val (.int a2), .val (.int a3), .val (.int a4), .val (.int a5), .val (.int a6), .val (.int (Int32.ofNat n)), .val (.int c0), .val (.int c1), .val (.int c2), .val (.int c3), .val (.int c4), .val (.ref x), .val (.int v13), .val (.int v14), .val (.int v15), .val (.int ex)] [(.int (own_D (cs.map own_k)))]) rfl
  replace he1 := he1.symm
  subst he1
  replace w := w.iload (pc' := 283) at_281 rfl
  replace w := w.icmpNo (pc' := 286) at_283 ((teq he).2)
  replace w := w.iconst (pc' := 287) (1 : Int32) at_286
  replace w := w.goto (pc' := 291) at_287
  exact w.retN at_291 (by simp) rfl nle nle
set_option maxRecDepth 65536 in
theorem tl213 (l : Launch) (Z : State) (a0 : Array Value) (hw : ∀ d ∈ tables_1, d.before a0 Z = true) (hEL : EW Z a0 consts_1) (z0 : Int32) (Sc : Sta Z Z.heap "java/lang/String" "COMPACT_STRINGS" "Z" (.int z0)) (hz0 : ¬ z0 = 0) (fm : Value) (Sf : Sta Z Z.heap "jdk/internal/util/Preconditions" "SIOOBE_FORMATTER" "Ljava/util/function/BiFunction;" fm) (rfm : fm.isRef = true) {p : Program} {e : Env} {s : State} {m : MethodId} {args : Array Value} {below : List Frame} {meth : Method} {c : Code} {S0 : State} {V : Vm} (h0 : Heap) (a1 a2 a3 a4 a5 a6 c0 c1 c2 c3 c4 v13 v14 v15 : Int32) (n : Nat) (x : Addr) (cs : List Int32) (hl : cs.length ≤ 9) (U : Str Z h0 x cs) (he : own_exp (Int32.ofNat n) v13 v14 v15 = own_D (cs.map own_k))
    (w : Wk p l e room_1 s m args below meth c Z a0 consts_1 S0 Jvm.Pilot.@@N@@.x code maxLocals ret V h0 6 32 (mkF m 213 #[.val (.int a1), .val (.int a2), .val (.int a3), .val (.int a4), .val (.int a5), .val (.int a6), .val (.int (Int32.ofNat n)), .val (.int c0), .val (.int c1), .val (.int c2), .val (.int c3), .val (.int c4), .val (.ref x), .val (.int v13), .val (.int v14), .val (.int v15), .unset] [])) :
    Fini p e below s Z consts_1 S0 16 1152 (fun v h => v = some (.int 1)) := by
  rw [own_exp] at he
  replace w := w.iload (pc' := 215) at_213 rfl
  by_cases q0 : Int32.ofNat n = 0
  ·
    rw [if_pos q0] at he
    replace w := w.ifYes (pc' := 229) at_215 ((if0 _ _).trans (teq q0).1)
    replace w := w.iconst (pc' := 230) (-1 : Int32) at_229
    replace w := w.istore (pc' := 232) (L' := #[.val (.int a1), .val (.int a2), .val (.int a3), .val (.int a4), .val (.int a5), .val (.int a6), .val (.int (Int32.ofNat n)), .val (.int c0), .val (.int c1), .val (.int c2), .val (.int c3), .val (.int c4), .val (.ref x), .val (.int v13), .val (.int v14), .val (.int v15), .val (.int (-1 : Int32))]) at_230 rfl
    replace w := w.goto (pc' := 276) at_232
    exact tl276 l Z a0 hw hEL z0 Sc hz0 fm Sf rfm h0 a1 a2 a3 a4 a5 a6 c0 c1 c2 c3 c4 v13 v14 v15 _ n x cs hl U he.symm w
  rw [if_neg q0] at he
  replace w := w.ifNo (pc' := 218) at_215 ((if0 _ _).trans (feq q0).1)
  replace w := w.iload (pc' := 220) at_218 rfl
  by_cases q1 : 0 < v13
  ·
    rw [if_pos q1] at he
    replace w := w.ifYes (pc' := 229) at_220 ((if0 _ _).trans (tlt q1).2.2.1)
    replace w := w.iconst (pc' := 230) (-1 : Int32) at_229
    replace w := w.istore (pc' := 232) (L' := #[.val (.int a1), .val (.int a2), .val (.int a3), .val (.int a4), .val (.int a5), .val (.int a6), .val (.int (Int32.ofNat n)), .val (.int c0), .val (.int c1), .val (.int c2), .val (.int c3), .val (.int c4), .val (.ref x), .val (.int v13), .val (.int v14), .val (.int v15), .val (.int (-1 : Int32))]) at_230 rfl
    replace w := w.goto (pc' := 276) at_232
    exact tl276 l Z a0 hw hEL z0 Sc hz0 fm Sf rfm h0 a1 a2 a3 a4 a5 a6 c0 c1 c2 c3 c4 v13 v14 v15 _ n x cs hl U he.symm w
  rw [if_neg q1] at he
  replace w := w.ifNo (pc' := 223) at_220 ((if0 _ _).trans (flt q1).2.2.1)
  replace w := w.iload (pc' := 225) at_223 rfl
  replace w := w.iconst (pc' := 226) (1 : Int32) at_225
  by_cases q2 : 1 < v14
  ·
    rw [if_pos q2] at he
    replace w := w.icmpNo (pc' := 229) at_226 ((tlt q2).2.2.2)
    replace w := w.iconst (pc' := 230) (-1 : Int32) at_229
    replace w := w.istore (pc' := 232) (L' := #[.val (.int a1), .val (.int a2), .val (.int a3), .val (.int a4), .val (.int a5), .val (.int a6), .val (.int (Int32.ofNat n)), .val (.int c0), .val (.int c1), .val (.int c2), .val (.int c3), .val (.int c4), .val (.ref x), .val (.int v13), .val (.int v14), .val (.int v15), .val (.int (-1 : Int32))]) at_230 rfl
    replace w := w.goto (pc' := 276) at_232
    exact tl276 l Z a0 hw hEL z0 Sc hz0 fm Sf rfm h0 a1 a2 a3 a4 a5 a6 c0 c1 c2 c3 c4 v13 v14 v15 _ n x cs hl U he.symm w
  rw [if_neg q2] at he
  replace w := w.icmpYes (pc' := 235) at_226 ((flt q2).2.2.2)
  replace w := w.iload (pc' := 237) at_235 rfl
  by_cases q3 : v14 = 0
  ·
    rw [if_pos q3] at he
    replace w := w.ifNo (pc' := 240) at_237 ((if0 _ _).trans (teq q3).2)
    replace w := w.iconst (pc' := 241) (0 : Int32) at_240
    replace w := w.istore (pc' := 243) (L' := #[.val (.int a1), .val (.int a2), .val (.int a3), .val (.int a4), .val (.int a5), .val (.int a6), .val (.int (Int32.ofNat n)), .val (.int c0), .val (.int c1), .val (.int c2), .val (.int c3), .val (.int c4), .val (.ref x), .val (.int v13), .val (.int v14), .val (.int v15), .val (.int (0 : Int32))]) at_241 rfl
    replace w := w.goto (pc' := 276) at_243
    exact tl276 l Z a0 hw hEL z0 Sc hz0 fm Sf rfm h0 a1 a2 a3 a4 a5 a6 c0 c1 c2 c3 c4 v13 v14 v15 _ n x cs hl U he.symm w
  rw [if_neg q3] at he
  replace w := w.ifYes (pc' := 246) at_237 ((if0 _ _).trans (feq q3).2)
  replace w := w.iload (pc' := 248) at_246 rfl
  replace w := w.iconst (pc' := 249) (1 : Int32) at_248
  by_cases q4 : v15 < 1
  ·
    rw [if_pos q4] at he
    replace w := w.icmpYes (pc' := 273) at_249 ((tlt q4).1)
    replace w := w.iconst (pc' := 274) (-1 : Int32) at_273
    replace w := w.istore (pc' := 276) (L' := #[.val (.int a1), .val (.int a2), .val (.int a3), .val (.int a4), .val (.int a5), .val (.int a6), .val (.int (Int32.ofNat n)), .val (.int c0), .val (.int c1), .val (.int c2), .val (.int c3), .val (.int c4), .val (.ref x), .val (.int v13), .val (.int v14), .val (.int v15), .val (.int (-1 : Int32))]) at_274 rfl
    exact tl276 l Z a0 hw hEL z0 Sc hz0 fm Sf rfm h0 a1 a2 a3 a4 a5 a6 c0 c1 c2 c3 c4 v13 v14 v15 _ n x cs hl U he.symm w
  rw [if_neg q4] at he
  replace w := w.icmpNo (pc' := 252) at_249 ((flt q4).1)
  replace w := w.iload (pc' := 254) at_252 rfl
  replace w := w.iload (pc' := 256) at_254 rfl
  replace w := w.iconst (pc' := 257) (2 : Int32) at_256
  replace w := w.isub (pc' := 258) at_257
  by_cases q5 : Int32.ofNat n - 2 < v15
  ·
    rw [if_pos q5] at he
    replace w := w.icmpYes (pc' := 273) at_258 ((tlt q5).2.2.1)
    replace w := w.iconst (pc' := 274) (-1 : Int32) at_273
    replace w := w.istore (pc' := 276) (L' := #[.val (.int a1), .val (.int a2), .val (.int a3), .val (.int a4), .val (.int a5), .val (.int a6), .val (.int (Int32.ofNat n)), .val (.int c0), .val (.int c1), .val (.int c2), .val (.int c3), .val (.int c4), .val (.ref x), .val (.int v13), .val (.int v14), .val (.int v15), .val (.int (-1 : Int32))]) at_274 rfl
    exact tl276 l Z a0 hw hEL z0 Sc hz0 fm Sf rfm h0 a1 a2 a3 a4 a5 a6 c0 c1 c2 c3 c4 v13 v14 v15 _ n x cs hl U he.symm w
  rw [if_neg q5] at he
  replace w := w.icmpNo (pc' := 261) at_258 ((flt q5).2.2.1)
  replace w := w.iload (pc' := 263) at_261 rfl
  replace w := w.iload (pc' := 265) at_263 rfl
  replace w := w.isub (pc' := 266) at_265
  replace w := w.iconst (pc' := 267) (1 : Int32) at_266
  replace w := w.isub (pc' := 268) at_267
  replace w := w.istore (pc' := 270) (L' := #[.val (.int a1), .val (.int a2), .val (.int a3), .val (.int a4), .val (.int a5), .val (.int a6), .val (.int (Int32.ofNat n)), .val (.int c0), .val (.int c1), .val (.int c2), .val (.int c3), .val (.int c4), .val (.ref x), .val (.int v13), .val (.int v14), .val (.int v15), .val (.int (((Int32.ofNat n) - v15) - (1 : Int32)))]) at_268 rfl
  replace w := w.goto (pc' := 276) at_270
  exact tl276 l Z a0 hw hEL z0 Sc hz0 fm Sf rfm h0 a1 a2 a3 a4 a5 a6 c0 c1 c2 c3 c4 v13 v14 v15 _ n x cs hl U he.symm w
set_option maxRecDepth 65536 in
theorem tl63 (l : Launch) (Z : State) (a0 : Array Value) (hw : ∀ d ∈ tables_1, d.before a0 Z = true) (hEL : EW Z a0 consts_1) (z0 : Int32) (Sc : Sta Z Z.heap "java/lang/String" "COMPACT_STRINGS" "Z" (.int z0)) (hz0 : ¬ z0 = 0) (fm : Value) (Sf : Sta Z Z.heap "jdk/internal/util/Preconditions" "SIOOBE_FORMATTER" "Ljava/util/function/BiFunction;" fm) (rfm : fm.isRef = true) {p : Program} {e : Env} {s : State} {m : MethodId} {args : Array Value} {below : List Frame} {meth : Method} {c : Code} {S0 : State} {V : Vm} (h0 : Heap) (a1 a2 a3 a4 a5 a6 c0 c1 c2 c3 c4 : Int32) (n : Nat) (hn : n < 6) (x : Addr) (U : Str Z h0 x ([c0, c1, c2, c3, c4].take n))
    (w : Wk p l e room_1 s m args below meth c Z a0 consts_1 S0 Jvm.Pilot.@@N@@.x code maxLocals ret V h0 6 32 (mkF m 63 #[.val (.int a1), .val (.int a2), .val (.int a3), .val (.int a4), .val (.int a5), .val (.int a6), .val (.int (Int32.ofNat n)), .val (.int c0), .val (.int c1), .val (.int c2), .val (.int c3), .val (.int c4), .unset, .unset, .unset, .unset, .unset] [.ref x])) :
    Fini p e below s Z consts_1 S0 16 1152 (fun v h => v = some (.int 1)) := by
  have hlaw := own_law n hn (own_k c0) (own_k_lt _) (own_k c1) (own_k_lt _) (own_k c2) (own_k_lt _) (own_k c3) (own_k_lt _) (own_k c4) (own_k_lt _)
  have hks : ([c0, c1, c2, c3, c4].take n).map own_k = [own_k c0, own_k c1, own_k c2, own_k c3, own_k c4].take n := by rw [List.map_take]; rfl
  rw [← hks] at hlaw
  have hlen : ([c0, c1, c2, c3, c4].take n).length ≤ 9 := by rw [List.length_take]; omega
  replace w := w.astore (pc' := 65) (L' := #[.val (.int a1), .val (.int a2), .val (.int a3), .val (.int a4), .val (.int a5), .val (.int a6), .val (.int (Int32.ofNat n)), .val (.int c0), .val (.int c1), .val (.int c2), .val (.int c3), .val (.int c4), .val (.ref x), .unset, .unset, .unset, .unset]) at_63 rfl
  replace w := w.iload (pc' := 67) at_65 rfl
  replace w := w.iconst (pc' := 68) (0 : Int32) at_67
  replace w := w.iload (pc' := 70) at_68 rfl
  obtain ⟨v1, V1, h1, hq1, A1, w⟩ := w.static (y' := (⟨"com/example/fair_heat/fairheat/QuantitiesDecimalsPinLaw", "other", "(CII)I"⟩ : MethodName)) (W := 0) (w.pays 0 (rmOTH l Z a0 hw hEL c0 0 n (by omega) (by omega) h0 w.old) (hw _ (List.mem_of_getElem? (i := 31) rfl)) (hw _ (List.mem_of_getElem? (i := 2) rfl)) all0 nle nle) (hw _ (List.mem_of_getElem? (i := 29) rfl)) (hw _ (List.mem_of_getElem? (i := 30) rfl)) (hw _ (List.mem_of_getElem? (i := 2) rfl)) (hw _ (List.mem_of_getElem? (i := 31) rfl)) (argsL := [(.int c0), (.int (0 : Int32)), (.int (Int32.ofNat n))]) (rest := []) (by decide) pd_10 rfl rfl (Nat.le_of_eq rfl) rfl at_70 nle nle (pc' := 73)
  obtain ⟨rfl, he1⟩ := hq1
  replace w := w.to (g' := mkF m 73 #[.val (.int a1), .val (.int a2), .val (.int a3), .val (.int a4), .val (.int a5), .val (.int a6), .val (.int (Int32.ofNat n)), .val (.int c0), .val (.int c1), .val (.int c2), .val (.int c3), .val (.int c4), .val (.ref x), .unset, .unset, .unset, .unset] [(.int (own_oth n 0 (own_k c0)))]) rfl
  replace he1 := he1.symm
  subst he1
  replace w := w.iload (pc' := 75) at_73 rfl
  replace w := w.iconst (pc' := 76) (1 : Int32) at_75
  replace w := w.iload (pc' := 78) at_76 rfl
  obtain ⟨v2, V2, h2, hq2, A2, w⟩ := w.static (y' := (⟨"com/example/fair_heat/fairheat/QuantitiesDecimalsPinLaw", "other", "(CII)I"⟩ : MethodName)) (W := 1) (w.pays 1 (rmOTH l Z a0 hw hEL c1 1 n (by omega) (by omega) h0 w.old) (hw _ (List.mem_of_getElem? (i := 31) rfl)) (hw _ (List.mem_of_getElem? (i := 2) rfl)) all0 nle nle) (hw _ (List.mem_of_getElem? (i := 29) rfl)) (hw _ (List.mem_of_getElem? (i := 30) rfl)) (hw _ (List.mem_of_getElem? (i := 2) rfl)) (hw _ (List.mem_of_getElem? (i := 31) rfl)) (argsL := [(.int c1), (.int (1 : Int32)), (.int (Int32.ofNat n))]) (rest := [(.int (own_oth n 0 (own_k c0)))]) (by decide) pd_10 rfl rfl (Nat.le_of_eq rfl) rfl at_78 nle nle (pc' := 81)
  obtain ⟨rfl, he2⟩ := hq2
  replace w := w.to (g' := mkF m 81 #[.val (.int a1), .val (.int a2), .val (.int a3), .val (.int a4), .val (.int a5), .val (.int a6), .val (.int (Int32.ofNat n)), .val (.int c0), .val (.int c1), .val (.int c2), .val (.int c3), .val (.int c4), .val (.ref x), .unset, .unset, .unset, .unset] [(.int (own_oth n 1 (own_k c1))), (.int (own_oth n 0 (own_k c0)))]) rfl
  replace he2 := he2.symm
  subst he2
  replace w := w.iadd (pc' := 82) at_81
  replace w := w.iload (pc' := 84) at_82 rfl
  replace w := w.iconst (pc' := 85) (2 : Int32) at_84
  replace w := w.iload (pc' := 87) at_85 rfl
  obtain ⟨v3, V3, h3, hq3, A3, w⟩ := w.static (y' := (⟨"com/example/fair_heat/fairheat/QuantitiesDecimalsPinLaw", "other", "(CII)I"⟩ : MethodName)) (W := 1) (w.pays 1 (rmOTH l Z a0 hw hEL c2 2 n (by omega) (by omega) h0 w.old) (hw _ (List.mem_of_getElem? (i := 31) rfl)) (hw _ (List.mem_of_getElem? (i := 2) rfl)) all0 nle nle) (hw _ (List.mem_of_getElem? (i := 29) rfl)) (hw _ (List.mem_of_getElem? (i := 30) rfl)) (hw _ (List.mem_of_getElem? (i := 2) rfl)) (hw _ (List.mem_of_getElem? (i := 31) rfl)) (argsL := [(.int c2), (.int (2 : Int32)), (.int (Int32.ofNat n))]) (rest := [(.int ((own_oth n 0 (own_k c0)) + (own_oth n 1 (own_k c1))))]) (by decide) pd_10 rfl rfl (Nat.le_of_eq rfl) rfl at_87 nle nle (pc' := 90)
  obtain ⟨rfl, he3⟩ := hq3
  replace w := w.to (g' := mkF m 90 #[.val (.int a1), .val (.int a2), .val (.int a3), .val (.int a4), .val (.int a5), .val (.int a6), .val (.int (Int32.ofNat n)), .val (.int c0), .val (.int c1), .val (.int c2), .val (.int c3), .val (.int c4), .val (.ref x), .unset, .unset, .unset, .unset] [(.int (own_oth n 2 (own_k c2))), (.int ((own_oth n 0 (own_k c0)) + (own_oth n 1 (own_k c1))))]) rfl
  replace he3 := he3.symm
  subst he3
  replace w := w.iadd (pc' := 91) at_90
  replace w := w.iload (pc' := 93) at_91 rfl
  replace w := w.iconst (pc' := 94) (3 : Int32) at_93
  replace w := w.iload (pc' := 96) at_94 rfl
  obtain ⟨v4, V4, h4, hq4, A4, w⟩ := w.static (y' := (⟨"com/example/fair_heat/fairheat/QuantitiesDecimalsPinLaw", "other", "(CII)I"⟩ : MethodName)) (W := 1) (w.pays 1 (rmOTH l Z a0 hw hEL c3 3 n (by omega) (by omega) h0 w.old) (hw _ (List.mem_of_getElem? (i := 31) rfl)) (hw _ (List.mem_of_getElem? (i := 2) rfl)) all0 nle nle) (hw _ (List.mem_of_getElem? (i := 29) rfl)) (hw _ (List.mem_of_getElem? (i := 30) rfl)) (hw _ (List.mem_of_getElem? (i := 2) rfl)) (hw _ (List.mem_of_getElem? (i := 31) rfl)) (argsL := [(.int c3), (.int (3 : Int32)), (.int (Int32.ofNat n))]) (rest := [(.int (((own_oth n 0 (own_k c0)) + (own_oth n 1 (own_k c1))) + (own_oth n 2 (own_k c2))))]) (by decide) pd_10 rfl rfl (Nat.le_of_eq rfl) rfl at_96 nle nle (pc' := 99)
  obtain ⟨rfl, he4⟩ := hq4
  replace w := w.to (g' := mkF m 99 #[.val (.int a1), .val (.int a2), .val (.int a3), .val (.int a4), .val (.int a5), .val (.int a6), .val (.int (Int32.ofNat n)), .val (.int c0), .val (.int c1), .val (.int c2), .val (.int c3), .val (.int c4), .val (.ref x), .unset, .unset, .unset, .unset] [(.int (own_oth n 3 (own_k c3))), (.int (((own_oth n 0 (own_k c0)) + (own_oth n 1 (own_k c1))) + (own_oth n 2 (own_k c2))))]) rfl
  replace he4 := he4.symm
  subst he4
  replace w := w.iadd (pc' := 100) at_99
  replace w := w.iload (pc' := 102) at_100 rfl
  replace w := w.iconst (pc' := 103) (4 : Int32) at_102
  replace w := w.iload (pc' := 105) at_103 rfl
  obtain ⟨v5, V5, h5, hq5, A5, w⟩ := w.static (y' := (⟨"com/example/fair_heat/fairheat/QuantitiesDecimalsPinLaw", "other", "(CII)I"⟩ : MethodName)) (W := 1) (w.pays 1 (rmOTH l Z a0 hw hEL c4 4 n (by omega) (by omega) h0 w.old) (hw _ (List.mem_of_getElem? (i := 31) rfl)) (hw _ (List.mem_of_getElem? (i := 2) rfl)) all0 nle nle) (hw _ (List.mem_of_getElem? (i := 29) rfl)) (hw _ (List.mem_of_getElem? (i := 30) rfl)) (hw _ (List.mem_of_getElem? (i := 2) rfl)) (hw _ (List.mem_of_getElem? (i := 31) rfl)) (argsL := [(.int c4), (.int (4 : Int32)), (.int (Int32.ofNat n))]) (rest := [(.int ((((own_oth n 0 (own_k c0)) + (own_oth n 1 (own_k c1))) + (own_oth n 2 (own_k c2))) + (own_oth n 3 (own_k c3))))]) (by decide) pd_10 rfl rfl (Nat.le_of_eq rfl) rfl at_105 nle nle (pc' := 108)
  obtain ⟨rfl, he5⟩ := hq5
  replace w := w.to (g' := mkF m 108 #[.val (.int a1), .val (.int a2), .val (.int a3), .val (.int a4), .val (.int a5), .val (.int a6), .val (.int (Int32.ofNat n)), .val (.int c0), .val (.int c1), .val (.int c2), .val (.int c3), .val (.int c4), .val (.ref x), .unset, .unset, .unset, .unset] [(.int (own_oth n 4 (own_k c4))), (.int ((((own_oth n 0 (own_k c0)) + (own_oth n 1 (own_k c1))) + (own_oth n 2 (own_k c2))) + (own_oth n 3 (own_k c3))))]) rfl
  replace he5 := he5.symm
  subst he5
  replace w := w.iadd (pc' := 109) at_108
  replace w := w.istore (pc' := 111) (L' := #[.val (.int a1), .val (.int a2), .val (.int a3), .val (.int a4), .val (.int a5), .val (.int a6), .val (.int (Int32.ofNat n)), .val (.int c0), .val (.int c1), .val (.int c2), .val (.int c3), .val (.int c4), .val (.ref x), .val (.int (((((own_oth n 0 (own_k c0)) + (own_oth n 1 (own_k c1))) + (own_oth n 2 (own_k c2))) + (own_oth n 3 (own_k c3))) + (own_oth n 4 (own_k c4)))), .unset, .unset, .unset]) at_109 rfl
  replace w := w.iload (pc' := 113) at_111 rfl
  replace w := w.iconst (pc' := 114) (0 : Int32) at_113
  replace w := w.iload (pc' := 116) at_114 rfl
  obtain ⟨v6, V6, h6, hq6, A6, w⟩ := w.static (y' := (⟨"com/example/fair_heat/fairheat/QuantitiesDecimalsPinLaw", "dot", "(CII)I"⟩ : MethodName)) (W := 0) (w.pays 0 (rmDOT l Z a0 hw hEL c0 0 n (by omega) (by omega) h0 w.old) (hw _ (List.mem_of_getElem? (i := 34) rfl)) (hw _ (List.mem_of_getElem? (i := 2) rfl)) all0 nle nle) (hw _ (List.mem_of_getElem? (i := 32) rfl)) (hw _ (List.mem_of_getElem? (i := 33) rfl)) (hw _ (List.mem_of_getElem? (i := 2) rfl)) (hw _ (List.mem_of_getElem? (i := 34) rfl)) (argsL := [(.int c0), (.int (0 : Int32)), (.int (Int32.ofNat n))]) (rest := []) (by decide) pd_10 rfl rfl (Nat.le_of_eq rfl) rfl at_116 nle nle (pc' := 119)
  obtain ⟨rfl, he6⟩ := hq6
  replace w := w.to (g' := mkF m 119 #[.val (.int a1), .val (.int a2), .val (.int a3), .val (.int a4), .val (.int a5), .val (.int a6), .val (.int (Int32.ofNat n)), .val (.int c0), .val (.int c1), .val (.int c2), .val (.int c3), .val (.int c4), .val (.ref x), .val (.int (((((own_oth n 0 (own_k c0)) + (own_oth n 1 (own_k c1))) + (own_oth n 2 (own_k c2))) + (own_oth n 3 (own_k c3))) + (own_oth n 4 (own_k c4)))), .unset, .unset, .unset] [(.int (own_dot n 0 (own_k c0)))]) rfl
  replace he6 := he6.symm
  subst he6
  replace w := w.iload (pc' := 121) at_119 rfl
  replace w := w.iconst (pc' := 122) (1 : Int32) at_121
  replace w := w.iload (pc' := 124) at_122 rfl
  obtain ⟨v7, V7, h7, hq7, A7, w⟩ := w.static (y' := (⟨"com/example/fair_heat/fairheat/QuantitiesDecimalsPinLaw", "dot", "(CII)I"⟩ : MethodName)) (W := 1) (w.pays 1 (rmDOT l Z a0 hw hEL c1 1 n (by omega) (by omega) h0 w.old) (hw _ (List.mem_of_getElem? (i := 34) rfl)) (hw _ (List.mem_of_getElem? (i := 2) rfl)) all0 nle nle) (hw _ (List.mem_of_getElem? (i := 32) rfl)) (hw _ (List.mem_of_getElem? (i := 33) rfl)) (hw _ (List.mem_of_getElem? (i := 2) rfl)) (hw _ (List.mem_of_getElem? (i := 34) rfl)) (argsL := [(.int c1), (.int (1 : Int32)), (.int (Int32.ofNat n))]) (rest := [(.int (own_dot n 0 (own_k c0)))]) (by decide) pd_10 rfl rfl (Nat.le_of_eq rfl) rfl at_124 nle nle (pc' := 127)
  obtain ⟨rfl, he7⟩ := hq7
  replace w := w.to (g' := mkF m 127 #[.val (.int a1), .val (.int a2), .val (.int a3), .val (.int a4), .val (.int a5), .val (.int a6), .val (.int (Int32.ofNat n)), .val (.int c0), .val (.int c1), .val (.int c2), .val (.int c3), .val (.int c4), .val (.ref x), .val (.int (((((own_oth n 0 (own_k c0)) + (own_oth n 1 (own_k c1))) + (own_oth n 2 (own_k c2))) + (own_oth n 3 (own_k c3))) + (own_oth n 4 (own_k c4)))), .unset, .unset, .unset] [(.int (own_dot n 1 (own_k c1))), (.int (own_dot n 0 (own_k c0)))]) rfl
  replace he7 := he7.symm
  subst he7
  replace w := w.iadd (pc' := 128) at_127
  replace w := w.iload (pc' := 130) at_128 rfl
  replace w := w.iconst (pc' := 131) (2 : Int32) at_130
  replace w := w.iload (pc' := 133) at_131 rfl
  obtain ⟨v8, V8, h8, hq8, A8, w⟩ := w.static (y' := (⟨"com/example/fair_heat/fairheat/QuantitiesDecimalsPinLaw", "dot", "(CII)I"⟩ : MethodName)) (W := 1) (w.pays 1 (rmDOT l Z a0 hw hEL c2 2 n (by omega) (by omega) h0 w.old) (hw _ (List.mem_of_getElem? (i := 34) rfl)) (hw _ (List.mem_of_getElem? (i := 2) rfl)) all0 nle nle) (hw _ (List.mem_of_getElem? (i := 32) rfl)) (hw _ (List.mem_of_getElem? (i := 33) rfl)) (hw _ (List.mem_of_getElem? (i := 2) rfl)) (hw _ (List.mem_of_getElem? (i := 34) rfl)) (argsL := [(.int c2), (.int (2 : Int32)), (.int (Int32.ofNat n))]) (rest := [(.int ((own_dot n 0 (own_k c0)) + (own_dot n 1 (own_k c1))))]) (by decide) pd_10 rfl rfl (Nat.le_of_eq rfl) rfl at_133 nle nle (pc' := 136)
  obtain ⟨rfl, he8⟩ := hq8
  replace w := w.to (g' := mkF m 136 #[.val (.int a1), .val (.int a2), .val (.int a3), .val (.int a4), .val (.int a5), .val (.int a6), .val (.int (Int32.ofNat n)), .val (.int c0), .val (.int c1), .val (.int c2), .val (.int c3), .val (.int c4), .val (.ref x), .val (.int (((((own_oth n 0 (own_k c0)) + (own_oth n 1 (own_k c1))) + (own_oth n 2 (own_k c2))) + (own_oth n 3 (own_k c3))) + (own_oth n 4 (own_k c4)))), .unset, .unset, .unset] [(.int (own_dot n 2 (own_k c2))), (.int ((own_dot n 0 (own_k c0)) + (own_dot n 1 (own_k c1))))]) rfl
  replace he8 := he8.symm
  subst he8
  replace w := w.iadd (pc' := 137) at_136
  replace w := w.iload (pc' := 139) at_137 rfl
  replace w := w.iconst (pc' := 140) (3 : Int32) at_139
  replace w := w.iload (pc' := 142) at_140 rfl
  obtain ⟨v9, V9, h9, hq9, A9, w⟩ := w.static (y' := (⟨"com/example/fair_heat/fairheat/QuantitiesDecimalsPinLaw", "dot", "(CII)I"⟩ : MethodName)) (W := 1) (w.pays 1 (rmDOT l Z a0 hw hEL c3 3 n (by omega) (by omega) h0 w.old) (hw _ (List.mem_of_getElem? (i := 34) rfl)) (hw _ (List.mem_of_getElem? (i := 2) rfl)) all0 nle nle) (hw _ (List.mem_of_getElem? (i := 32) rfl)) (hw _ (List.mem_of_getElem? (i := 33) rfl)) (hw _ (List.mem_of_getElem? (i := 2) rfl)) (hw _ (List.mem_of_getElem? (i := 34) rfl)) (argsL := [(.int c3), (.int (3 : Int32)), (.int (Int32.ofNat n))]) (rest := [(.int (((own_dot n 0 (own_k c0)) + (own_dot n 1 (own_k c1))) + (own_dot n 2 (own_k c2))))]) (by decide) pd_10 rfl rfl (Nat.le_of_eq rfl) rfl at_142 nle nle (pc' := 145)
  obtain ⟨rfl, he9⟩ := hq9
  replace w := w.to (g' := mkF m 145 #[.val (.int a1), .val (.int a2), .val (.int a3), .val (.int a4), .val (.int a5), .val (.int a6), .val (.int (Int32.ofNat n)), .val (.int c0), .val (.int c1), .val (.int c2), .val (.int c3), .val (.int c4), .val (.ref x), .val (.int (((((own_oth n 0 (own_k c0)) + (own_oth n 1 (own_k c1))) + (own_oth n 2 (own_k c2))) + (own_oth n 3 (own_k c3))) + (own_oth n 4 (own_k c4)))), .unset, .unset, .unset] [(.int (own_dot n 3 (own_k c3))), (.int (((own_dot n 0 (own_k c0)) + (own_dot n 1 (own_k c1))) + (own_dot n 2 (own_k c2))))]) rfl
  replace he9 := he9.symm
  subst he9
  replace w := w.iadd (pc' := 146) at_145
  replace w := w.iload (pc' := 148) at_146 rfl
  replace w := w.iconst (pc' := 149) (4 : Int32) at_148
  replace w := w.iload (pc' := 151) at_149 rfl
  obtain ⟨v10, V10, h10, hq10, A10, w⟩ := w.static (y' := (⟨"com/example/fair_heat/fairheat/QuantitiesDecimalsPinLaw", "dot", "(CII)I"⟩ : MethodName)) (W := 1) (w.pays 1 (rmDOT l Z a0 hw hEL c4 4 n (by omega) (by omega) h0 w.old) (hw _ (List.mem_of_getElem? (i := 34) rfl)) (hw _ (List.mem_of_getElem? (i := 2) rfl)) all0 nle nle) (hw _ (List.mem_of_getElem? (i := 32) rfl)) (hw _ (List.mem_of_getElem? (i := 33) rfl)) (hw _ (List.mem_of_getElem? (i := 2) rfl)) (hw _ (List.mem_of_getElem? (i := 34) rfl)) (argsL := [(.int c4), (.int (4 : Int32)), (.int (Int32.ofNat n))]) (rest := [(.int ((((own_dot n 0 (own_k c0)) + (own_dot n 1 (own_k c1))) + (own_dot n 2 (own_k c2))) + (own_dot n 3 (own_k c3))))]) (by decide) pd_10 rfl rfl (Nat.le_of_eq rfl) rfl at_151 nle nle (pc' := 154)
  obtain ⟨rfl, he10⟩ := hq10
  replace w := w.to (g' := mkF m 154 #[.val (.int a1), .val (.int a2), .val (.int a3), .val (.int a4), .val (.int a5), .val (.int a6), .val (.int (Int32.ofNat n)), .val (.int c0), .val (.int c1), .val (.int c2), .val (.int c3), .val (.int c4), .val (.ref x), .val (.int (((((own_oth n 0 (own_k c0)) + (own_oth n 1 (own_k c1))) + (own_oth n 2 (own_k c2))) + (own_oth n 3 (own_k c3))) + (own_oth n 4 (own_k c4)))), .unset, .unset, .unset] [(.int (own_dot n 4 (own_k c4))), (.int ((((own_dot n 0 (own_k c0)) + (own_dot n 1 (own_k c1))) + (own_dot n 2 (own_k c2))) + (own_dot n 3 (own_k c3))))]) rfl
  replace he10 := he10.symm
  subst he10
  replace w := w.iadd (pc' := 155) at_154
  replace w := w.istore (pc' := 157) (L' := #[.val (.int a1), .val (.int a2), .val (.int a3), .val (.int a4), .val (.int a5), .val (.int a6), .val (.int (Int32.ofNat n)), .val (.int c0), .val (.int c1), .val (.int c2), .val (.int c3), .val (.int c4), .val (.ref x), .val (.int (((((own_oth n 0 (own_k c0)) + (own_oth n 1 (own_k c1))) + (own_oth n 2 (own_k c2))) + (own_oth n 3 (own_k c3))) + (own_oth n 4 (own_k c4)))), .val (.int (((((own_dot n 0 (own_k c0)) + (own_dot n 1 (own_k c1))) + (own_dot n 2 (own_k c2))) + (own_dot n 3 (own_k c3))) + (own_dot n 4 (own_k c4)))), .unset, .unset]) at_155 rfl
  replace w := w.iconst (pc' := 158) (0 : Int32) at_157
  replace w := w.iload (pc' := 160) at_158 rfl
  replace w := w.iconst (pc' := 161) (0 : Int32) at_160
  replace w := w.iload (pc' := 163) at_161 rfl
  obtain ⟨v11, V11, h11, hq11, A11, w⟩ := w.static (y' := (⟨"com/example/fair_heat/fairheat/QuantitiesDecimalsPinLaw", "dot", "(CII)I"⟩ : MethodName)) (W := 1) (w.pays 1 (rmDOT l Z a0 hw hEL c0 0 n (by omega) (by omega) h0 w.old) (hw _ (List.mem_of_getElem? (i := 34) rfl)) (hw _ (List.mem_of_getElem? (i := 2) rfl)) all0 nle nle) (hw _ (List.mem_of_getElem? (i := 32) rfl)) (hw _ (List.mem_of_getElem? (i := 33) rfl)) (hw _ (List.mem_of_getElem? (i := 2) rfl)) (hw _ (List.mem_of_getElem? (i := 34) rfl)) (argsL := [(.int c0), (.int (0 : Int32)), (.int (Int32.ofNat n))]) (rest := [(.int (0 : Int32))]) (by decide) pd_10 rfl rfl (Nat.le_of_eq rfl) rfl at_163 nle nle (pc' := 166)
  obtain ⟨rfl, he11⟩ := hq11
  replace w := w.to (g' := mkF m 166 #[.val (.int a1), .val (.int a2), .val (.int a3), .val (.int a4), .val (.int a5), .val (.int a6), .val (.int (Int32.ofNat n)), .val (.int c0), .val (.int c1), .val (.int c2), .val (.int c3), .val (.int c4), .val (.ref x), .val (.int (((((own_oth n 0 (own_k c0)) + (own_oth n 1 (own_k c1))) + (own_oth n 2 (own_k c2))) + (own_oth n 3 (own_k c3))) + (own_oth n 4 (own_k c4)))), .val (.int (((((own_dot n 0 (own_k c0)) + (own_dot n 1 (own_k c1))) + (own_dot n 2 (own_k c2))) + (own_dot n 3 (own_k c3))) + (own_dot n 4 (own_k c4)))), .unset, .unset] [(.int (own_dot n 0 (own_k c0))), (.int (0 : Int32))]) rfl
  replace he11 := he11.symm
  subst he11
  replace w := w.imul (pc' := 167) at_166
  replace w := w.iconst (pc' := 168) (1 : Int32) at_167
  replace w := w.iload (pc' := 170) at_168 rfl
  replace w := w.iconst (pc' := 171) (1 : Int32) at_170
  replace w := w.iload (pc' := 173) at_171 rfl
  obtain ⟨v12, V12, h12, hq12, A12, w⟩ := w.static (y' := (⟨"com/example/fair_heat/fairheat/QuantitiesDecimalsPinLaw", "dot", "(CII)I"⟩ : MethodName)) (W := 2) (w.pays 2 (rmDOT l Z a0 hw hEL c1 1 n (by omega) (by omega) h0 w.old) (hw _ (List.mem_of_getElem? (i := 34) rfl)) (hw _ (List.mem_of_getElem? (i := 2) rfl)) all0 nle nle) (hw _ (List.mem_of_getElem? (i := 32) rfl)) (hw _ (List.mem_of_getElem? (i := 33) rfl)) (hw _ (List.mem_of_getElem? (i := 2) rfl)) (hw _ (List.mem_of_getElem? (i := 34) rfl)) (argsL := [(.int c1), (.int (1 : Int32)), (.int (Int32.ofNat n))]) (rest := [(.int (1 : Int32)), (.int ((0 : Int32) * (own_dot n 0 (own_k c0))))]) (by decide) pd_10 rfl rfl (Nat.le_of_eq rfl) rfl at_173 nle nle (pc' := 176)
  obtain ⟨rfl, he12⟩ := hq12
  replace w := w.to (g' := mkF m 176 #[.val (.int a1), .val (.int a2), .val (.int a3), .val (.int a4), .val (.int a5), .val (.int a6), .val (.int (Int32.ofNat n)), .val (.int c0), .val (.int c1), .val (.int c2), .val (.int c3), .val (.int c4), .val (.ref x), .val (.int (((((own_oth n 0 (own_k c0)) + (own_oth n 1 (own_k c1))) + (own_oth n 2 (own_k c2))) + (own_oth n 3 (own_k c3))) + (own_oth n 4 (own_k c4)))), .val (.int (((((own_dot n 0 (own_k c0)) + (own_dot n 1 (own_k c1))) + (own_dot n 2 (own_k c2))) + (own_dot n 3 (own_k c3))) + (own_dot n 4 (own_k c4)))), .unset, .unset] [(.int (own_dot n 1 (own_k c1))), (.int (1 : Int32)), (.int ((0 : Int32) * (own_dot n 0 (own_k c0))))]) rfl
  replace he12 := he12.symm
  subst he12
  replace w := w.imul (pc' := 177) at_176
  replace w := w.iadd (pc' := 178) at_177
  replace w := w.iconst (pc' := 179) (2 : Int32) at_178
  replace w := w.iload (pc' := 181) at_179 rfl
  replace w := w.iconst (pc' := 182) (2 : Int32) at_181
  replace w := w.iload (pc' := 184) at_182 rfl
  obtain ⟨v13, V13, h13, hq13, A13, w⟩ := w.static (y' := (⟨"com/example/fair_heat/fairheat/QuantitiesDecimalsPinLaw", "dot", "(CII)I"⟩ : MethodName)) (W := 2) (w.pays 2 (rmDOT l Z a0 hw hEL c2 2 n (by omega) (by omega) h0 w.old) (hw _ (List.mem_of_getElem? (i := 34) rfl)) (hw _ (List.mem_of_getElem? (i := 2) rfl)) all0 nle nle) (hw _ (List.mem_of_getElem? (i := 32) rfl)) (hw _ (List.mem_of_getElem? (i := 33) rfl)) (hw _ (List.mem_of_getElem? (i := 2) rfl)) (hw _ (List.mem_of_getElem? (i := 34) rfl)) (argsL := [(.int c2), (.int (2 : Int32)), (.int (Int32.ofNat n))]) (rest := [(.int (2 : Int32)), (.int (((0 : Int32) * (own_dot n 0 (own_k c0))) + ((1 : Int32) * (own_dot n 1 (own_k c1)))))]) (by decide) pd_10 rfl rfl (Nat.le_of_eq rfl) rfl at_184 nle nle (pc' := 187)
  obtain ⟨rfl, he13⟩ := hq13
  replace w := w.to (g' := mkF m 187 #[.val (.int a1), .val (.int a2), .val (.int a3), .val (.int a4), .val (.int a5), .val (.int a6), .val (.int (Int32.ofNat n)), .val (.int c0), .val (.int c1), .val (.int c2), .val (.int c3), .val (.int c4), .val (.ref x), .val (.int (((((own_oth n 0 (own_k c0)) + (own_oth n 1 (own_k c1))) + (own_oth n 2 (own_k c2))) + (own_oth n 3 (own_k c3))) + (own_oth n 4 (own_k c4)))), .val (.int (((((own_dot n 0 (own_k c0)) + (own_dot n 1 (own_k c1))) + (own_dot n 2 (own_k c2))) + (own_dot n 3 (own_k c3))) + (own_dot n 4 (own_k c4)))), .unset, .unset] [(.int (own_dot n 2 (own_k c2))), (.int (2 : Int32)), (.int (((0 : Int32) * (own_dot n 0 (own_k c0))) + ((1 : Int32) * (own_dot n 1 (own_k c1)))))]) rfl
  replace he13 := he13.symm
  subst he13
  replace w := w.imul (pc' := 188) at_187
  replace w := w.iadd (pc' := 189) at_188
  replace w := w.iconst (pc' := 190) (3 : Int32) at_189
  replace w := w.iload (pc' := 192) at_190 rfl
  replace w := w.iconst (pc' := 193) (3 : Int32) at_192
  replace w := w.iload (pc' := 195) at_193 rfl
  obtain ⟨v14, V14, h14, hq14, A14, w⟩ := w.static (y' := (⟨"com/example/fair_heat/fairheat/QuantitiesDecimalsPinLaw", "dot", "(CII)I"⟩ : MethodName)) (W := 2) (w.pays 2 (rmDOT l Z a0 hw hEL c3 3 n (by omega) (by omega) h0 w.old) (hw _ (List.mem_of_getElem? (i := 34) rfl)) (hw _ (List.mem_of_getElem? (i := 2) rfl)) all0 nle nle) (hw _ (List.mem_of_getElem? (i := 32) rfl)) (hw _ (List.mem_of_getElem? (i := 33) rfl)) (hw _ (List.mem_of_getElem? (i := 2) rfl)) (hw _ (List.mem_of_getElem? (i := 34) rfl)) (argsL := [(.int c3), (.int (3 : Int32)), (.int (Int32.ofNat n))]) (rest := [(.int (3 : Int32)), (.int ((((0 : Int32) * (own_dot n 0 (own_k c0))) + ((1 : Int32) * (own_dot n 1 (own_k c1)))) + ((2 : Int32) * (own_dot n 2 (own_k c2)))))]) (by decide) pd_10 rfl rfl (Nat.le_of_eq rfl) rfl at_195 nle nle (pc' := 198)
  obtain ⟨rfl, he14⟩ := hq14
  replace w := w.to (g' := mkF m 198 #[.val (.int a1), .val (.int a2), .val (.int a3), .val (.int a4), .val (.int a5), .val (.int a6), .val (.int (Int32.ofNat n)), .val (.int c0), .val (.int c1), .val (.int c2), .val (.int c3), .val (.int c4), .val (.ref x), .val (.int (((((own_oth n 0 (own_k c0)) + (own_oth n 1 (own_k c1))) + (own_oth n 2 (own_k c2))) + (own_oth n 3 (own_k c3))) + (own_oth n 4 (own_k c4)))), .val (.int (((((own_dot n 0 (own_k c0)) + (own_dot n 1 (own_k c1))) + (own_dot n 2 (own_k c2))) + (own_dot n 3 (own_k c3))) + (own_dot n 4 (own_k c4)))), .unset, .unset] [(.int (own_dot n 3 (own_k c3))), (.int (3 : Int32)), (.int ((((0 : Int32) * (own_dot n 0 (own_k c0))) + ((1 : Int32) * (own_dot n 1 (own_k c1)))) + ((2 : Int32) * (own_dot n 2 (own_k c2)))))]) rfl
  replace he14 := he14.symm
  subst he14
  replace w := w.imul (pc' := 199) at_198
  replace w := w.iadd (pc' := 200) at_199
  replace w := w.iconst (pc' := 201) (4 : Int32) at_200
  replace w := w.iload (pc' := 203) at_201 rfl
  replace w := w.iconst (pc' := 204) (4 : Int32) at_203
  replace w := w.iload (pc' := 206) at_204 rfl
  obtain ⟨v15, V15, h15, hq15, A15, w⟩ := w.static (y' := (⟨"com/example/fair_heat/fairheat/QuantitiesDecimalsPinLaw", "dot", "(CII)I"⟩ : MethodName)) (W := 2) (w.pays 2 (rmDOT l Z a0 hw hEL c4 4 n (by omega) (by omega) h0 w.old) (hw _ (List.mem_of_getElem? (i := 34) rfl)) (hw _ (List.mem_of_getElem? (i := 2) rfl)) all0 nle nle) (hw _ (List.mem_of_getElem? (i := 32) rfl)) (hw _ (List.mem_of_getElem? (i := 33) rfl)) (hw _ (List.mem_of_getElem? (i := 2) rfl)) (hw _ (List.mem_of_getElem? (i := 34) rfl)) (argsL := [(.int c4), (.int (4 : Int32)), (.int (Int32.ofNat n))]) (rest := [(.int (4 : Int32)), (.int (((((0 : Int32) * (own_dot n 0 (own_k c0))) + ((1 : Int32) * (own_dot n 1 (own_k c1)))) + ((2 : Int32) * (own_dot n 2 (own_k c2)))) + ((3 : Int32) * (own_dot n 3 (own_k c3)))))]) (by decide) pd_10 rfl rfl (Nat.le_of_eq rfl) rfl at_206 nle nle (pc' := 209)
  obtain ⟨rfl, he15⟩ := hq15
  replace w := w.to (g' := mkF m 209 #[.val (.int a1), .val (.int a2), .val (.int a3), .val (.int a4), .val (.int a5), .val (.int a6), .val (.int (Int32.ofNat n)), .val (.int c0), .val (.int c1), .val (.int c2), .val (.int c3), .val (.int c4), .val (.ref x), .val (.int (((((own_oth n 0 (own_k c0)) + (own_oth n 1 (own_k c1))) + (own_oth n 2 (own_k c2))) + (own_oth n 3 (own_k c3))) + (own_oth n 4 (own_k c4)))), .val (.int (((((own_dot n 0 (own_k c0)) + (own_dot n 1 (own_k c1))) + (own_dot n 2 (own_k c2))) + (own_dot n 3 (own_k c3))) + (own_dot n 4 (own_k c4)))), .unset, .unset] [(.int (own_dot n 4 (own_k c4))), (.int (4 : Int32)), (.int (((((0 : Int32) * (own_dot n 0 (own_k c0))) + ((1 : Int32) * (own_dot n 1 (own_k c1)))) + ((2 : Int32) * (own_dot n 2 (own_k c2)))) + ((3 : Int32) * (own_dot n 3 (own_k c3)))))]) rfl
  replace he15 := he15.symm
  subst he15
  replace w := w.imul (pc' := 210) at_209
  replace w := w.iadd (pc' := 211) at_210
  replace w := w.istore (pc' := 213) (L' := #[.val (.int a1), .val (.int a2), .val (.int a3), .val (.int a4), .val (.int a5), .val (.int a6), .val (.int (Int32.ofNat n)), .val (.int c0), .val (.int c1), .val (.int c2), .val (.int c3), .val (.int c4), .val (.ref x), .val (.int (((((own_oth n 0 (own_k c0)) + (own_oth n 1 (own_k c1))) + (own_oth n 2 (own_k c2))) + (own_oth n 3 (own_k c3))) + (own_oth n 4 (own_k c4)))), .val (.int (((((own_dot n 0 (own_k c0)) + (own_dot n 1 (own_k c1))) + (own_dot n 2 (own_k c2))) + (own_dot n 3 (own_k c3))) + (own_dot n 4 (own_k c4)))), .val (.int ((((((0 : Int32) * (own_dot n 0 (own_k c0))) + ((1 : Int32) * (own_dot n 1 (own_k c1)))) + ((2 : Int32) * (own_dot n 2 (own_k c2)))) + ((3 : Int32) * (own_dot n 3 (own_k c3)))) + ((4 : Int32) * (own_dot n 4 (own_k c4))))), .unset]) at_211 rfl
  exact tl213 l Z a0 hw hEL z0 Sc hz0 fm Sf rfm h0 a1 a2 a3 a4 a5 a6 c0 c1 c2 c3 c4 _ _ _ n x _ hlen U hlaw w
set_option maxRecDepth 65536 in
theorem rm0 (l : Launch) (Z : State) (a0 : Array Value) (hw : ∀ d ∈ tables_1, d.before a0 Z = true) (hEL : EW Z a0 consts_1) (z0 : Int32) (Sc : Sta Z Z.heap "java/lang/String" "COMPACT_STRINGS" "Z" (.int z0)) (hz0 : ¬ z0 = 0) (fm : Value) (Sf : Sta Z Z.heap "jdk/internal/util/Preconditions" "SIOOBE_FORMATTER" "Ljava/util/function/BiFunction;" fm) (rfm : fm.isRef = true) (p0 p1 p2 p3 p4 p5 : Int32) :
    Met l Z consts_1 x code maxLocals ret tables_1 room_1 #[.int p0, .int p1, .int p2, .int p3, .int p4, .int p5] Z.heap [] (fun v h => v = some (.int 1)) := by
  refine Met.of (a0 := a0) (by decide +kernel) hEL (extR _) ?_
  intro p e s m below meth c S0 V w hs hsf
  have hws := own_words hw
  obtain ⟨n, hn, eN⟩ : ∃ n : Nat, n < 6 ∧ (p0 &&& (7 : Int32)) % (6 : Int32) = Int32.ofNat n := by
    have h := c_and p0 7 (by decide)
    have e7 : (7 : Int32).toInt = 7 := by decide
    have e6 : (6 : Int32).toInt = 6 := by decide
    have h2 := (c_irem (p0 &&& 7) 6 6 e6).1 (by omega)
    refine ⟨((p0 &&& (7 : Int32)) % (6 : Int32)).toInt.toNat, by omega, Int32.toInt_inj.mp ?_⟩
    have e1 := (own_n32 (n := ((p0 &&& (7 : Int32)) % (6 : Int32)).toInt.toNat) (by omega)).2.2
    omega
  replace w := w.to (g' := mkF m 0 #[.val (.int p0), .val (.int p1), .val (.int p2), .val (.int p3), .val (.int p4), .val (.int p5), .unset, .unset, .unset, .unset, .unset, .unset, .unset, .unset, .unset, .unset, .unset] []) (by first | (simp [entryFrame, mkF, argsToLocals, Value.category, maxLocals]; done) | rfl)
  have BZ := w.old
  have B0 := extR Z.heap
  have C0 := CHr.refl w.ch
  replace w := w.iloadN (pc' := 1) at_0 rfl
  replace w := w.bipush (pc' := 3) (7 : Int32) at_1
  replace w := w.iand (pc' := 4) at_3
  replace w := w.bipush (pc' := 6) (6 : Int32) at_4
  replace w := w.irem (pc' := 7) at_6 (by decide)
  rw [eN] at w
  replace w := w.istore (pc' := 9) (L' := #[.val (.int p0), .val (.int p1), .val (.int p2), .val (.int p3), .val (.int p4), .val (.int p5), .val (.int (Int32.ofNat n)), .unset, .unset, .unset, .unset, .unset, .unset, .unset, .unset, .unset, .unset]) at_7 rfl
  replace w := w.iloadN (pc' := 10) at_9 rfl
  obtain ⟨v1, V1, h1, hq1, A1, w⟩ := w.static (y' := (⟨"com/example/fair_heat/fairheat/QuantitiesDecimalsPinLaw", "ch", "(I)C"⟩ : MethodName)) (W := 0) (w.pays 0 (rmCH l Z a0 hw hEL p1 Z.heap w.old) (hw _ (List.mem_of_getElem? (i := 3) rfl)) (hw _ (List.mem_of_getElem? (i := 2) rfl)) all0 nle nle) (hw _ (List.mem_of_getElem? (i := 0) rfl)) (hw _ (List.mem_of_getElem? (i := 1) rfl)) (hw _ (List.mem_of_getElem? (i := 2) rfl)) (hw _ (List.mem_of_getElem? (i := 3) rfl)) (argsL := [(.int p1)]) (rest := []) (by decide) pd_6 rfl rfl (Nat.le_of_eq rfl) rfl at_10 nle nle (pc' := 13)
  obtain ⟨c0, ⟨rfl, r0, n0⟩, he1⟩ := hq1
  replace w := w.to (g' := mkF m 13 #[.val (.int p0), .val (.int p1), .val (.int p2), .val (.int p3), .val (.int p4), .val (.int p5), .val (.int (Int32.ofNat n)), .unset, .unset, .unset, .unset, .unset, .unset, .unset, .unset, .unset, .unset] [(.int c0)]) rfl
  replace he1 := he1.symm
  subst he1
  have C0 := C0.trans A1
  replace w := w.istore (pc' := 15) (L' := #[.val (.int p0), .val (.int p1), .val (.int p2), .val (.int p3), .val (.int p4), .val (.int p5), .val (.int (Int32.ofNat n)), .val (.int c0), .unset, .unset, .unset, .unset, .unset, .unset, .unset, .unset, .unset]) at_13 rfl
  replace w := w.iloadN (pc' := 16) at_15 rfl
  obtain ⟨v2, V2, h2, hq2, A2, w⟩ := w.static (y' := (⟨"com/example/fair_heat/fairheat/QuantitiesDecimalsPinLaw", "ch", "(I)C"⟩ : MethodName)) (W := 0) (w.pays 0 (rmCH l Z a0 hw hEL p2 Z.heap w.old) (hw _ (List.mem_of_getElem? (i := 3) rfl)) (hw _ (List.mem_of_getElem? (i := 2) rfl)) all0 nle nle) (hw _ (List.mem_of_getElem? (i := 0) rfl)) (hw _ (List.mem_of_getElem? (i := 1) rfl)) (hw _ (List.mem_of_getElem? (i := 2) rfl)) (hw _ (List.mem_of_getElem? (i := 3) rfl)) (argsL := [(.int p2)]) (rest := []) (by decide) pd_6 rfl rfl (Nat.le_of_eq rfl) rfl at_16 nle nle (pc' := 19)
  obtain ⟨c1, ⟨rfl, r1, n1⟩, he2⟩ := hq2
  replace w := w.to (g' := mkF m 19 #[.val (.int p0), .val (.int p1), .val (.int p2), .val (.int p3), .val (.int p4), .val (.int p5), .val (.int (Int32.ofNat n)), .val (.int c0), .unset, .unset, .unset, .unset, .unset, .unset, .unset, .unset, .unset] [(.int c1)]) rfl
  replace he2 := he2.symm
  subst he2
  have C0 := C0.trans A2
  replace w := w.istore (pc' := 21) (L' := #[.val (.int p0), .val (.int p1), .val (.int p2), .val (.int p3), .val (.int p4), .val (.int p5), .val (.int (Int32.ofNat n)), .val (.int c0), .val (.int c1), .unset, .unset, .unset, .unset, .unset, .unset, .unset, .unset]) at_19 rfl
  replace w := w.iloadN (pc' := 22) at_21 rfl
  obtain ⟨v3, V3, h3, hq3, A3, w⟩ := w.static (y' := (⟨"com/example/fair_heat/fairheat/QuantitiesDecimalsPinLaw", "ch", "(I)C"⟩ : MethodName)) (W := 0) (w.pays 0 (rmCH l Z a0 hw hEL p3 Z.heap w.old) (hw _ (List.mem_of_getElem? (i := 3) rfl)) (hw _ (List.mem_of_getElem? (i := 2) rfl)) all0 nle nle) (hw _ (List.mem_of_getElem? (i := 0) rfl)) (hw _ (List.mem_of_getElem? (i := 1) rfl)) (hw _ (List.mem_of_getElem? (i := 2) rfl)) (hw _ (List.mem_of_getElem? (i := 3) rfl)) (argsL := [(.int p3)]) (rest := []) (by decide) pd_6 rfl rfl (Nat.le_of_eq rfl) rfl at_22 nle nle (pc' := 25)
  obtain ⟨c2, ⟨rfl, r2, n2⟩, he3⟩ := hq3
  replace w := w.to (g' := mkF m 25 #[.val (.int p0), .val (.int p1), .val (.int p2), .val (.int p3), .val (.int p4), .val (.int p5), .val (.int (Int32.ofNat n)), .val (.int c0), .val (.int c1), .unset, .unset, .unset, .unset, .unset, .unset, .unset, .unset] [(.int c2)]) rfl
  replace he3 := he3.symm
  subst he3
  have C0 := C0.trans A3
  replace w := w.istore (pc' := 27) (L' := #[.val (.int p0), .val (.int p1), .val (.int p2), .val (.int p3), .val (.int p4), .val (.int p5), .val (.int (Int32.ofNat n)), .val (.int c0), .val (.int c1), .val (.int c2), .unset, .unset, .unset, .unset, .unset, .unset, .unset]) at_25 rfl
  replace w := w.iload (pc' := 29) at_27 rfl
  obtain ⟨v4, V4, h4, hq4, A4, w⟩ := w.static (y' := (⟨"com/example/fair_heat/fairheat/QuantitiesDecimalsPinLaw", "ch", "(I)C"⟩ : MethodName)) (W := 0) (w.pays 0 (rmCH l Z a0 hw hEL p4 Z.heap w.old) (hw _ (List.mem_of_getElem? (i := 3) rfl)) (hw _ (List.mem_of_getElem? (i := 2) rfl)) all0 nle nle) (hw _ (List.mem_of_getElem? (i := 0) rfl)) (hw _ (List.mem_of_getElem? (i := 1) rfl)) (hw _ (List.mem_of_getElem? (i := 2) rfl)) (hw _ (List.mem_of_getElem? (i := 3) rfl)) (argsL := [(.int p4)]) (rest := []) (by decide) pd_6 rfl rfl (Nat.le_of_eq rfl) rfl at_29 nle nle (pc' := 32)
  obtain ⟨c3, ⟨rfl, r3, n3⟩, he4⟩ := hq4
  replace w := w.to (g' := mkF m 32 #[.val (.int p0), .val (.int p1), .val (.int p2), .val (.int p3), .val (.int p4), .val (.int p5), .val (.int (Int32.ofNat n)), .val (.int c0), .val (.int c1), .val (.int c2), .unset, .unset, .unset, .unset, .unset, .unset, .unset] [(.int c3)]) rfl
  replace he4 := he4.symm
  subst he4
  have C0 := C0.trans A4
  replace w := w.istore (pc' := 34) (L' := #[.val (.int p0), .val (.int p1), .val (.int p2), .val (.int p3), .val (.int p4), .val (.int p5), .val (.int (Int32.ofNat n)), .val (.int c0), .val (.int c1), .val (.int c2), .val (.int c3), .unset, .unset, .unset, .unset, .unset, .unset]) at_32 rfl
  replace w := w.iload (pc' := 36) at_34 rfl
  obtain ⟨v5, V5, h5, hq5, A5, w⟩ := w.static (y' := (⟨"com/example/fair_heat/fairheat/QuantitiesDecimalsPinLaw", "ch", "(I)C"⟩ : MethodName)) (W := 0) (w.pays 0 (rmCH l Z a0 hw hEL p5 Z.heap w.old) (hw _ (List.mem_of_getElem? (i := 3) rfl)) (hw _ (List.mem_of_getElem? (i := 2) rfl)) all0 nle nle) (hw _ (List.mem_of_getElem? (i := 0) rfl)) (hw _ (List.mem_of_getElem? (i := 1) rfl)) (hw _ (List.mem_of_getElem? (i := 2) rfl)) (hw _ (List.mem_of_getElem? (i := 3) rfl)) (argsL := [(.int p5)]) (rest := []) (by decide) pd_6 rfl rfl (Nat.le_of_eq rfl) rfl at_36 nle nle (pc' := 39)
  obtain ⟨c4, ⟨rfl, r4, n4⟩, he5⟩ := hq5
  replace w := w.to (g' := mkF m 39 #[.val (.int p0), .val (.int p1), .val (.int p2), .val (.int p3), .val (.int p4), .val (.int p5), .val (.int (Int32.ofNat n)), .val (.int c0), .val (.int c1), .val (.int c2), .val (.int c3), .unset, .unset, .unset, .unset, .unset, .unset] [(.int c4)]) rfl
  replace he5 := he5.symm
  subst he5
  have C0 := C0.trans A5
  replace w := w.istore (pc' := 41) (L' := #[.val (.int p0), .val (.int p1), .val (.int p2), .val (.int p3), .val (.int p4), .val (.int p5), .val (.int (Int32.ofNat n)), .val (.int c0), .val (.int c1), .val (.int c2), .val (.int c3), .val (.int c4), .unset, .unset, .unset, .unset, .unset]) at_39 rfl
  obtain ⟨h6, x, g_x, E6, X_x, D_x, S_x, A6, w⟩ := w.new (hw _ (List.mem_of_getElem? (i := 4) rfl)) (hw _ (List.mem_of_getElem? (i := 5) rfl)) (hw _ (List.mem_of_getElem? (i := 6) rfl)) at_41 nle nle (pc' := 44)
  have lt_x : x < h6.size := X_x.lt
  have ge_x_Z : Z.heap.size ≤ x := Nat.le_trans BZ.1 (Nat.le_of_eq g_x.symm)
  have ge_x_0 : Z.heap.size ≤ x := Nat.le_trans B0.1 (Nat.le_of_eq g_x.symm)
  have F_x_value := D_x (Or.inr (hw _ (List.mem_of_getElem? (i := 23) rfl))) (ty := (.array .byte)) (by decide)
  have F_x_coder := D_x (Or.inr (hw _ (List.mem_of_getElem? (i := 24) rfl))) (ty := .byte) (by decide)
  have BZ := extT BZ E6
  have B0 := extT B0 E6
  have C0 := C0.trans A6
  have B1 := extR h6
  have C1 := CHr.refl w.ch
  replace w := w.dup (pc' := 45) at_44
  replace w := w.iload (pc' := 47) at_45 rfl
  replace w := w.iload (pc' := 49) at_47 rfl
  replace w := w.iload (pc' := 51) at_49 rfl
  replace w := w.iload (pc' := 53) at_51 rfl
  replace w := w.iload (pc' := 55) at_53 rfl
  replace w := w.iload (pc' := 57) at_55 rfl
  obtain ⟨v7, V7, h7, hq7, A7, w⟩ := w.static (y' := (⟨"com/example/fair_heat/fairheat/QuantitiesDecimalsPinLaw", "make", "(ICCCCC)[C"⟩ : MethodName)) (W := 2) (w.pays 2 (rmMK l Z a0 hw hEL n hn c0 c1 c2 c3 c4 n0 n1 n2 n3 n4 h6 w.old) (hw _ (List.mem_of_getElem? (i := 9) rfl)) (hw _ (List.mem_of_getElem? (i := 2) rfl)) all0 nle nle) (hw _ (List.mem_of_getElem? (i := 7) rfl)) (hw _ (List.mem_of_getElem? (i := 8) rfl)) (hw _ (List.mem_of_getElem? (i := 2) rfl)) (hw _ (List.mem_of_getElem? (i := 9) rfl)) (argsL := [(.int (Int32.ofNat n)), (.int c0), (.int c1), (.int c2), (.int c3), (.int c4)]) (rest := [(.ref x), (.ref x)]) (by decide) pd_11 rfl rfl (Nat.le_of_eq rfl) rfl at_57 nle nle (pc' := 60)
  obtain ⟨b, kb, rfl, E7, Vb⟩ := hq7
  replace w := w.to (g' := mkF m 60 #[.val (.int p0), .val (.int p1), .val (.int p2), .val (.int p3), .val (.int p4), .val (.int p5), .val (.int (Int32.ofNat n)), .val (.int c0), .val (.int c1), .val (.int c2), .val (.int c3), .val (.int c4), .unset, .unset, .unset, .unset, .unset] [(.ref b), (.ref x), (.ref x)]) rfl
  have BZ := extT BZ E7
  have B0 := extT B0 E7
  have C0 := C0.trans A7
  have B1 := extT B1 E7
  have C1 := C1.trans A7
  have Sx := C1.safe lt_x S_x
  have hlt : ([c0, c1, c2, c3, c4].take n).length = n := by rw [List.length_take]; show min n 5 = n; omega
  by_cases q0 : n = 0
  ·
    subst q0
    obtain ⟨v8, V8, h8, hq8, A8, w⟩ := w.ctor (y' := (⟨"java/lang/String", "<init>", "([C)V"⟩ : MethodName)) (W := 1) (a := x) (w.pays 1 (rmI1 l Z a0 hw hEL x b kb _ h7 w.old (X_x.ext B1) (F_x_value.ext B1) (F_x_coder.ext B1) ge_x_Z Vb) (hw _ (List.mem_of_getElem? (i := 13) rfl)) (hw _ (List.mem_of_getElem? (i := 6) rfl)) (allS Sx all0) nle nle) rfl (hw _ (List.mem_of_getElem? (i := 11) rfl)) (hw _ (List.mem_of_getElem? (i := 12) rfl)) (hw _ (List.mem_of_getElem? (i := 13) rfl)) (argsL := [(.ref b)]) (rest := [(.ref x)]) (by decide) pd_12 rfl rfl (Nat.le_of_eq rfl) rfl at_60 nle nle (pc' := 63)
    obtain ⟨rfl, K8, T1⟩ := hq8
    replace w := w.to (g' := mkF m 63 #[.val (.int p0), .val (.int p1), .val (.int p2), .val (.int p3), .val (.int p4), .val (.int p5), .val (.int (Int32.ofNat 0)), .val (.int c0), .val (.int c1), .val (.int c2), .val (.int c3), .val (.int c4), .unset, .unset, .unset, .unset, .unset] [(.ref x)]) rfl
    have BZ := extK BZ K8 (allS ge_x_Z all0)
    have B0 := extK B0 K8 (allS ge_x_0 all0)
    have C0 := C0.trans A8
    exact tl63 l Z a0 hw hEL z0 Sc hz0 fm Sf rfm _ p0 p1 p2 p3 p4 p5 c0 c1 c2 c3 c4 0 (by omega) x T1 (w.more nle nle)
  have hcm : ∀ c ∈ [c0, c1, c2, c3, c4].take n, ¬ c < 0 ∧ ¬ (255 : Int32) < c := fun c hc => chars1 r0 (chars1 r1 (chars1 r2 (chars1 r3 (chars1 r4 chars0)))) c (List.mem_of_mem_take hc)
  replace w := w.more (cl' := 2) (sl' := 20) nle nle
  have hW := w.payNew (len := 3) (W := 1) (cs := [c0, c1, c2, c3, c4].take n) hws (hw _ (List.mem_of_getElem? (i := 5) rfl)) (X_x.ext B1) (F_x_value.ext B1) (F_x_coder.ext B1) Vb Sc hz0 (congrArg Int32.ofNat hlt.symm) (by omega) (by omega) hcm Sx ge_x_Z nle nle
  rw [hlt] at hW
  obtain ⟨v9, V9, h9, hq9, A9, w⟩ := w.ctor (y' := (⟨"java/lang/String", "<init>", "([C)V"⟩ : MethodName)) (W := 1) (a := x) (hW) rfl (hw _ (List.mem_of_getElem? (i := 11) rfl)) (hw _ (List.mem_of_getElem? (i := 12) rfl)) (hw _ (List.mem_of_getElem? (i := 13) rfl)) (argsL := [(.ref b)]) (rest := [(.ref x)]) (by decide) pd_12 rfl rfl (Nat.le_of_eq rfl) rfl at_60 nle (by show 20 + n ≤ 1152; omega) (pc' := 63)
  obtain ⟨rfl, K9, T1⟩ := hq9
  replace w := w.to (g' := mkF m 63 #[.val (.int p0), .val (.int p1), .val (.int p2), .val (.int p3), .val (.int p4), .val (.int p5), .val (.int (Int32.ofNat n)), .val (.int c0), .val (.int c1), .val (.int c2), .val (.int c3), .val (.int c4), .unset, .unset, .unset, .unset, .unset] [(.ref x)]) rfl
  have BZ := extK BZ K9 (allS ge_x_Z all0)
  have B0 := extK B0 K9 (allS ge_x_0 all0)
  have C0 := C0.trans A9
  exact tl63 l Z a0 hw hEL z0 Sc hz0 fm Sf rfm _ p0 p1 p2 p3 p4 p5 c0 c1 c2 c3 c4 n hn x T1 (w.more nle (by show 20 + n ≤ 32; omega))
set_option maxRecDepth 65536 in
set_option maxHeartbeats 40000000 in
theorem comes_1 {Post : Tables → Env → Array Value → State → Outcome → State → Prop} (hpost : ∀ tb e args s v u, (limb_1_1.after args s (.returned v) u = true ∧ limb_1_2.after args s (.returned v) u = true ∧ True) → FramedW s (.returned v) u (Jvm.fieldLocs frame_1_writes args s ++ Jvm.arrayLocs frame_1_arrays args s ++ Jvm.staticLocs frame_1_statics s) 16 1152 → Post tb e args s (.returned v) u) :
    ArmFor flags0 classFile x code maxLocals ret World_1 tables_1 room_1 Calls_1 rest_1 Pre_1 Post := by
  intro l hfl _ _ p e ha hc hk s m args below hf hA hF happ hP
  obtain ⟨hcalls, hrest, hpre⟩ := hP
  obtain ⟨-, -, -, hnamed, -, -, -, hat⟩ := (Spec.applies_iff hf).mp happ
  obtain ⟨hg, hn⟩ := and_e (Cond.before_iff.mp (show (Jvm.Cond.and given_1 narrow_1).before args s = true from hpre))
  obtain ⟨hcount, g0⟩ := and_e hg
  obtain ⟨g0, g1⟩ := and_e g0
  obtain ⟨g1, g2⟩ := and_e g1
  obtain ⟨g2, g3⟩ := and_e g2
  obtain ⟨g3, g4⟩ := and_e g3
  obtain ⟨g4, g5⟩ := and_e g4
  obtain ⟨w0, w1, w2, w3, w4, w5, rfl⟩ : ∃ w0 w1 w2 w3 w4 w5 : Value, args = #[w0, w1, w2, w3, w4, w5] := by
    have hs : args.size = 6 := by simpa [Cond.value, given_1] using hcount
    obtain ⟨L⟩ := args
    match L, hs with
    | [w0, w1, w2, w3, w4, w5], _ => exact ⟨w0, w1, w2, w3, w4, w5, rfl⟩
  have hw := fun d (hd : d ∈ tables_1) => atoms_spec (ws := Jvm.Cond.code x code maxLocals ret :: tables_1) hat d (List.mem_cons_of_mem _ hd)
  obtain ⟨hsets, hown0⟩ := atoms_of _ (rest_1_c_eq ▸ (show rest_1_c.before _ s = true from hrest))
  have hfit : Fit s := fun {y c} hc i hi => by
    obtain ⟨ha, rfl⟩ := Array.getElem?_eq_some_iff.mp hc
    have q := List.all_eq_true.mp ((Array.all_eq_true_iff_forall_mem.mp hF) _ (Array.getElem_mem ha)) i (List.mem_range.mpr hi)
    simpa [Array.getElem?_eq_getElem hi] using q
  have n5 := not_v (Cond.before_iff.mp (hsets _ (List.mem_of_getElem? (i := 2) rfl)))
  obtain ⟨i0, e0⟩ := is_v g0
  obtain rfl : w0 = (.int i0) := Option.some.inj e0
  obtain ⟨i1, e1⟩ := is_v g1
  obtain rfl : w1 = (.int i1) := Option.some.inj e1
  obtain ⟨i2, e2⟩ := is_v g2
  obtain rfl : w2 = (.int i2) := Option.some.inj e2
  obtain ⟨i3, e3⟩ := is_v g3
  obtain rfl : w3 = (.int i3) := Option.some.inj e3
  obtain ⟨i4, e4⟩ := is_v g4
  obtain rfl : w4 = (.int i4) := Option.some.inj e4
  obtain ⟨i5, e5⟩ := is_v g5
  obtain rfl : w5 = (.int i5) := Option.some.inj e5
  obtain ⟨z0, ez⟩ := is_v (Cond.before_iff.mp (hsets _ (List.mem_of_getElem? (i := 1) rfl)))
  have Sc : Sta s s.heap "java/lang/String" "COMPACT_STRINGS" "Z" (.int z0) := Sta.start ez (Or.inl (hsets _ (List.mem_of_getElem? (i := 0) rfl)))
  have hz0 : ¬ (z0 = (0 : Int32)) := gotF (Cond.eq_ints ez (Term.int_eval (0))) n5
  obtain ⟨fm, ef, rfm⟩ := isR_v (Cond.before_iff.mp (hsets _ (List.mem_of_getElem? (i := 8) rfl)))
  have Sf : Sta s s.heap "jdk/internal/util/Preconditions" "SIOOBE_FORMATTER" "Ljava/util/function/BiFunction;" fm := Sta.start ef (Or.inl (hsets _ (List.mem_of_getElem? (i := 7) rfl)))
  have hEL : EW s #[.int i0, .int i1, .int i2, .int i3, .int i4, .int i5] consts_1 := (EW.cons (hw _ (List.mem_of_getElem? (i := 21) rfl)) (by decide) EW.nil)
  have hCH : CHv s consts_1 s.vm s.heap := CHv.start hEL (fun q hq => hcalls.1 q hq) (hsets _ (List.mem_of_getElem? (i := 2) rfl)) (hw _ (List.mem_of_getElem? (i := 22) rfl)) (hw _ (List.mem_of_getElem? (i := 5) rfl))
  obtain ⟨n, o, h1, h2, h3, v, L, rfl, rfl, -, N, -, hq⟩ := rm0 l s _ hw hEL z0 Sc hz0 fm Sf rfm i0 i1 i2 i3 i4 i5 p e ha hc hk s m _ below hf ((Spec.applies_iff_loose hf).mp happ).1 ⟨rfl, State.Warmed39.refl s, rfl, hCH, all0⟩ trivial
  refine ⟨n, _, h1, h2, h3, hpost _ _ _ _ _ _ ⟨Cond.after_iff.mpr rfl, Cond.after_iff.mpr (eq_i res_at (Term.int_eval (1)) rfl), trivial⟩ ⟨hq.1, hq.2.1, hq.2.2.1, (hq.2.2.2.sift fun y hy => Or.inr (N y hy)).mono (by decide) (by decide)⟩⟩
theorem main_1_1 : Claimed_1_1 := comes_1 fun _ _ _ _ _ _ h hF => ⟨h.1, hF⟩
theorem main_1_2 : Claimed_1_2 := comes_1 fun _ _ _ _ _ _ h hF => ⟨h.2.1, hF⟩
end Jvm.Pilot.@@N@@
namespace Jvm.Pilot.@@N@@
open Jvm Jvm.ClassFile Sem Op Lib Jvm.Free Jvm.Stand Jvm.Pilot.@@N@@.Jvm.D
/-! MADE BY PROGRAM (witnessworld.py) out of the Statement's table words and the real class files: 21 classes; the members and pool entries that the words name. The judged class is class 1, her method 5. -/
namespace start1
open Jvm.ClassFile
def u (s : String) : CpInfo := .utf8 (stringToUtf16 s)
/-- a pool by its gaps: so many unusable entries, then the entry; so many at the end -/
def gap : Nat → List CpInfo → List CpInfo
  | 0, r => r
  | n + 1, r => .unusable :: gap n r
def poolList (es : List (Nat × CpInfo)) (last : Nat) : List CpInfo := es.foldr (fun e r => gap e.1 (e.2 :: r)) (gap last [])
def pool (es : List (Nat × CpInfo)) (last : Nat) : Array CpInfo := ⟨poolList es last⟩
def fileOf (pool : Array CpInfo) (this : Nat) (attrs : Array Attribute := #[]) (ms : Array MethodInfo := #[]) (fl : Nat := 33) (sup : Nat := 0) (ifs : Array Nat := #[]) (fds : Array FieldInfo := #[]) : ClassFile where
  minorVersion := 0
  majorVersion := 65
  constantPool := pool
  accessFlags := fl
  thisClass := this
  superClass := sup
  interfaces := ifs
  fields := fds
  methods := ms
  attributes := attrs
def plain (name : String) (sup : Option ClassId) : Class where
  name := name
  kind := .ordinary
  loader := none
  accessFlags := 33
  super := sup
  interfaces := #[]
  cf := none
  fields := #[]
  methods := #[]
  instanceTypes := #[]
  staticTypes := #[]
  resolved := #[]
  callSites := []
  init := .initialized
  statics := none
  mirror := none

def pool0 : Array CpInfo := pool [(5, u "<init>"), (0, u "()V"), (1, .class_ 10), (1, u "java/lang/Object")] 113

def k0c0 : Code := { maxStack := 0, maxLocals := 1, code := object_method_1_code, exceptionTable := #[], attributes := #[] }
def k0m0 : Method := { name := "<init>", desc := "()V", sig := { parameters := [], returnType := none }, accessFlags := 1, code := some k0c0 }
/-- java/lang/Object -/
def k0 : Class := { plain "java/lang/Object" none with
  accessFlags := 33
  interfaces := #[]
  cf := some (fileOf pool0 8 #[] #[{ accessFlags := 1, nameIndex := 5, descriptorIndex := 6, attributes := #[] }] 33 0 #[] #[])
  fields := #[]
  methods := #[k0m0]
  instanceTypes := #[]
  staticTypes := #[]
  resolved := Array.replicate 124 none
  statics := none }

def pool1 : Array CpInfo := pool [(2, .class_ 4), (1, u "java/lang/Object"), (0, u "<init>"), (0, u "()V"), (0, .methodref 8 9), (0, .class_ 10), (0, .nameAndType 11 12), (0, u "com/example/fair_heat/fairheat/QuantitiesDecimalsPinLaw"), (0, u "ch"), (0, u "(I)C"), (0, .class_ 14), (0, u "java/lang/String"), (0, .methodref 8 16), (0, .nameAndType 17 18), (0, u "make"), (0, u "(ICCCCC)[C"), (0, .methodref 13 20), (0, .nameAndType 5 21), (0, u "([C)V"), (0, .methodref 8 23), (0, .nameAndType 24 25), (0, u "other"), (0, u "(CII)I"), (0, .methodref 8 27), (0, .nameAndType 28 25), (0, u "dot"), (0, .methodref 30 31), (0, .class_ 32), (0, .nameAndType 33 34), (0, u "com/example/fair_heat/fairheat/Quantities"), (0, u "decimals"), (0, u "(Ljava/lang/String;)I"), (3, u "law"), (0, u "(IIIIII)Z")] 2

def k1m0 : Method := { name := "<init>", desc := "()V", sig := { parameters := [], returnType := none }, accessFlags := 2, code := none }
def k1c1 : Code := { maxStack := 3, maxLocals := 3, code := method_2_code, exceptionTable := #[], attributes := #[] }
def k1m1 : Method := { name := "ch", desc := "(I)C", sig := { parameters := [.int], returnType := some .char }, accessFlags := 10, code := some k1c1 }
def k1c2 : Code := { maxStack := 4, maxLocals := 6, code := method_3_code, exceptionTable := #[], attributes := #[] }
def k1m2 : Method := { name := "make", desc := "(ICCCCC)[C", sig := { parameters := [.int, .char, .char, .char, .char, .char], returnType := some (.array .char) }, accessFlags := 10, code := some k1c2 }
def k1c3 : Code := { maxStack := 2, maxLocals := 3, code := method_4_code, exceptionTable := #[], attributes := #[] }
def k1m3 : Method := { name := "dot", desc := "(CII)I", sig := { parameters := [.char, .int, .int], returnType := some .int }, accessFlags := 10, code := some k1c3 }
def k1c4 : Code := { maxStack := 2, maxLocals := 3, code := method_5_code, exceptionTable := #[], attributes := #[] }
def k1m4 : Method := { name := "other", desc := "(CII)I", sig := { parameters := [.char, .int, .int], returnType := some .int }, accessFlags := 10, code := some k1c4 }
def k1c5 : Code := { maxStack := 8, maxLocals := 17, code := code, exceptionTable := #[], attributes := #[] }
def k1m5 : Method := { name := "law", desc := "(IIIIII)Z", sig := { parameters := [.int, .int, .int, .int, .int, .int], returnType := some .boolean }, accessFlags := 9, code := some k1c5 }
/-- com/example/fair_heat/fairheat/QuantitiesDecimalsPinLaw -/
def k1 : Class := { plain "com/example/fair_heat/fairheat/QuantitiesDecimalsPinLaw" (some 0) with
  accessFlags := 49
  interfaces := #[]
  cf := some (fileOf pool1 8 #[] #[{ accessFlags := 2, nameIndex := 5, descriptorIndex := 6, attributes := #[] }, { accessFlags := 10, nameIndex := 11, descriptorIndex := 12, attributes := #[] }, { accessFlags := 10, nameIndex := 17, descriptorIndex := 18, attributes := #[] }, { accessFlags := 10, nameIndex := 28, descriptorIndex := 25, attributes := #[] }, { accessFlags := 10, nameIndex := 24, descriptorIndex := 25, attributes := #[] }, { accessFlags := 9, nameIndex := 38, descriptorIndex := 39, attributes := #[] }] 49 2 #[] #[])
  fields := #[]
  methods := #[k1m0, k1m1, k1m2, k1m3, k1m4, k1m5]
  instanceTypes := #[]
  staticTypes := #[]
  resolved := Array.replicate 42 none
  statics := none }

def pool2 : Array CpInfo := pool [(1, .class_ 2), (0, u "java/io/Serializable"), (0, .class_ 4), (0, u "java/lang/Object")] 2

/-- java/io/Serializable -/
def k2 : Class := { plain "java/io/Serializable" (some 0) with
  accessFlags := 1537
  interfaces := #[]
  cf := some (fileOf pool2 1 #[] #[] 1537 3 #[] #[])
  fields := #[]
  methods := #[]
  instanceTypes := #[]
  staticTypes := #[]
  resolved := Array.replicate 7 none
  statics := none }

def pool3 : Array CpInfo := pool [(1, .class_ 2), (0, u "java/lang/Comparable"), (0, .class_ 4), (0, u "java/lang/Object")] 7

/-- java/lang/Comparable -/
def k3 : Class := { plain "java/lang/Comparable" (some 0) with
  accessFlags := 1537
  interfaces := #[]
  cf := some (fileOf pool3 1 #[] #[] 1537 3 #[] #[])
  fields := #[]
  methods := #[]
  instanceTypes := #[]
  staticTypes := #[]
  resolved := Array.replicate 12 none
  statics := none }

def pool4 : Array CpInfo := pool [(2, .class_ 4), (1, u "java/lang/CharSequence"), (42, .class_ 48), (0, u "java/lang/CharSequence$1CodePointIterator"), (10, .class_ 60), (0, u "java/lang/CharSequence$1CharIterator"), (5, .class_ 67), (0, u "java/lang/Object")] 63

/-- java/lang/CharSequence -/
def k4 : Class := { plain "java/lang/CharSequence" (some 0) with
  accessFlags := 1537
  interfaces := #[]
  cf := some (fileOf pool4 2 #[.nestMembers #[47, 59]] #[] 1537 66 #[] #[])
  fields := #[]
  methods := #[]
  instanceTypes := #[]
  staticTypes := #[]
  resolved := Array.replicate 131 none
  statics := none }

def pool5 : Array CpInfo := pool [(1, .class_ 2), (0, u "java/lang/constant/Constable"), (0, .class_ 4), (0, u "java/lang/Object")] 6

/-- java/lang/constant/Constable -/
def k5 : Class := { plain "java/lang/constant/Constable" (some 0) with
  accessFlags := 1537
  interfaces := #[]
  cf := some (fileOf pool5 1 #[] #[] 1537 3 #[] #[])
  fields := #[]
  methods := #[]
  instanceTypes := #[]
  staticTypes := #[]
  resolved := Array.replicate 11 none
  statics := none }

def pool6 : Array CpInfo := pool [(1, .class_ 2), (0, u "java/lang/constant/ConstantDesc"), (0, .class_ 4), (0, u "java/lang/Object")] 32

/-- java/lang/constant/ConstantDesc -/
def k6 : Class := { plain "java/lang/constant/ConstantDesc" (some 0) with
  accessFlags := 1537
  interfaces := #[]
  cf := some (fileOf pool6 1 #[] #[] 1537 3 #[] #[])
  fields := #[]
  methods := #[]
  instanceTypes := #[]
  staticTypes := #[]
  resolved := Array.replicate 37 none
  statics := none }

def pool7 : Array CpInfo := pool [(1, .methodref 2 3), (0, .class_ 4), (0, .nameAndType 5 6), (0, u "java/lang/Object"), (0, u "<init>"), (0, u "()V"), (0, .string 8), (0, u ""), (0, .fieldref 10 11), (0, .class_ 12), (0, .nameAndType 13 14), (0, u "java/lang/String"), (0, u "value"), (0, u "[B"), (0, .fieldref 10 16), (0, .nameAndType 17 18), (0, u "coder"), (0, u "B"), (2, u "hash"), (0, u "I"), (2, u "hashIsZero"), (0, u "Z"), (0, .methodref 10 28), (0, .nameAndType 5 29), (0, u "([CIILjava/lang/Void;)V"), (8, .fieldref 10 39), (0, .nameAndType 40 26), (0, u "COMPACT_STRINGS"), (1, .class_ 44), (1, u "java/lang/StringUTF16"), (0, u "compress"), (1, .methodref 42 48), (0, .nameAndType 49 50), (0, u "coderFromArrayLen"), (0, u "([BI)B"), (56, .class_ 109), (1, u "java/lang/StringLatin1"), (32, u "()Z"), (34, .methodref 42 178), (0, .nameAndType 45 179), (0, u "([CII)[B"), (154, u "()I"), (0, .methodref 10 336), (0, .nameAndType 17 337), (0, u "()B"), (25, u "([BI)C"), (27, u "(II)V"), (35, u "(I)C"), (64, .methodref 10 493), (0, .nameAndType 494 142), (0, u "isLatin1"), (0, .methodref 107 496), (0, .nameAndType 497 363), (0, u "charAt"), (3, u "checkIndex"), (3, .methodref 10 506), (0, .nameAndType 507 334), (0, u "length"), (67, .class_ 576), (0, u "java/lang/CharSequence"), (22, u "CASE_INSENSITIVE_ORDER"), (0, u "Ljava/util/Comparator;"), (32, .methodref 10 634), (0, .nameAndType 635 636), (0, u "indexOf"), (0, u "(II)I"), (0, .methodref 107 638), (0, .nameAndType 635 639), (0, u "([BIII)I"), (125, u "(I)I"), (244, u "([C)V"), (42, .fieldref 1054 1055), (0, .class_ 1056), (0, .nameAndType 1057 1058), (0, u "jdk/internal/util/Preconditions"), (0, u "SIOOBE_FORMATTER"), (0, u "Ljava/util/function/BiFunction;"), (0, .methodref 1054 1060), (0, .nameAndType 501 1061), (0, u "(IILjava/util/function/BiFunction;)I"), (39, u "serialPersistentFields"), (0, u "[Ljava/io/ObjectStreamField;"), (0, .class_ 1104), (0, u "java/lang/String$CaseInsensitiveComparator"), (1, .class_ 1107), (0, u "java/io/Serializable"), (0, .class_ 1109), (0, u "java/lang/Comparable"), (0, .class_ 1111), (0, u "java/lang/constant/Constable"), (0, .class_ 1113), (0, u "java/lang/constant/ConstantDesc"), (2, u "serialVersionUID"), (0, u "J"), (3, u "REPL"), (0, u "C"), (2, u "LATIN1"), (1, u "UTF16")] 323

def k7m0 : Method := { name := "<init>", desc := "()V", sig := { parameters := [], returnType := none }, accessFlags := 1, code := none }
def k7c1 : Code := { maxStack := 5, maxLocals := 2, code := jdk_42_method_3_code, exceptionTable := #[], attributes := #[] }
def k7m1 : Method := { name := "<init>", desc := "([C)V", sig := { parameters := [(.array .char)], returnType := none }, accessFlags := 1, code := some k7c1 }
def k7c2 : Code := { maxStack := 2, maxLocals := 1, code := jdk_42_method_54_code, exceptionTable := #[], attributes := #[] }
def k7m2 : Method := { name := "length", desc := "()I", sig := { parameters := [], returnType := some .int }, accessFlags := 1, code := some k7c2 }
def k7c3 : Code := { maxStack := 2, maxLocals := 2, code := jdk_42_method_56_code, exceptionTable := #[], attributes := #[] }
def k7m3 : Method := { name := "charAt", desc := "(I)C", sig := { parameters := [.int], returnType := some .char }, accessFlags := 1, code := some k7c3 }
def k7c4 : Code := { maxStack := 3, maxLocals := 2, code := jdk_42_method_79_code, exceptionTable := #[], attributes := #[] }
def k7m4 : Method := { name := "indexOf", desc := "(I)I", sig := { parameters := [.int], returnType := some .int }, accessFlags := 1, code := some k7c4 }
def k7c5 : Code := { maxStack := 4, maxLocals := 3, code := jdk_42_method_80_code, exceptionTable := #[], attributes := #[] }
def k7m5 : Method := { name := "indexOf", desc := "(II)I", sig := { parameters := [.int, .int], returnType := some .int }, accessFlags := 1, code := some k7c5 }
def k7c6 : Code := { maxStack := 4, maxLocals := 6, code := jdk_42_method_149_code, exceptionTable := #[], attributes := #[] }
def k7m6 : Method := { name := "<init>", desc := "([CIILjava/lang/Void;)V", sig := { parameters := [(.array .char), .int, .int, (.object "java/lang/Void")], returnType := none }, accessFlags := 2, code := some k7c6 }
def k7c7 : Code := { maxStack := 1, maxLocals := 1, code := jdk_42_method_152_code, exceptionTable := #[], attributes := #[] }
def k7m7 : Method := { name := "coder", desc := "()B", sig := { parameters := [], returnType := some .byte }, accessFlags := 0, code := some k7c7 }
def k7c8 : Code := { maxStack := 1, maxLocals := 1, code := jdk_42_method_154_code, exceptionTable := #[], attributes := #[] }
def k7m8 : Method := { name := "isLatin1", desc := "()Z", sig := { parameters := [], returnType := some .boolean }, accessFlags := 0, code := some k7c8 }
def k7c9 : Code := { maxStack := 3, maxLocals := 2, code := jdk_42_method_155_code, exceptionTable := #[], attributes := #[] }
def k7m9 : Method := { name := "checkIndex", desc := "(II)V", sig := { parameters := [.int, .int], returnType := none }, accessFlags := 8, code := some k7c9 }
/-- java/lang/String -/
def k7 : Class := { plain "java/lang/String" (some 0) with
  accessFlags := 49
  interfaces := #[2, 3, 4, 5, 6]
  cf := some (fileOf pool7 10 #[.nestMembers #[1103]] #[{ accessFlags := 1, nameIndex := 5, descriptorIndex := 6, attributes := #[] }, { accessFlags := 1, nameIndex := 5, descriptorIndex := 1010, attributes := #[] }, { accessFlags := 1, nameIndex := 507, descriptorIndex := 334, attributes := #[] }, { accessFlags := 1, nameIndex := 497, descriptorIndex := 427, attributes := #[] }, { accessFlags := 1, nameIndex := 635, descriptorIndex := 765, attributes := #[] }, { accessFlags := 1, nameIndex := 635, descriptorIndex := 636, attributes := #[] }, { accessFlags := 2, nameIndex := 5, descriptorIndex := 29, attributes := #[] }, { accessFlags := 0, nameIndex := 17, descriptorIndex := 337, attributes := #[] }, { accessFlags := 0, nameIndex := 494, descriptorIndex := 142, attributes := #[] }, { accessFlags := 8, nameIndex := 501, descriptorIndex := 391, attributes := #[] }] 49 2 #[1106, 1108, 575, 1110, 1112] #[{ accessFlags := 18, nameIndex := 13, descriptorIndex := 14, attributes := #[] }, { accessFlags := 18, nameIndex := 17, descriptorIndex := 18, attributes := #[] }, { accessFlags := 2, nameIndex := 21, descriptorIndex := 22, attributes := #[] }, { accessFlags := 2, nameIndex := 25, descriptorIndex := 26, attributes := #[] }, { accessFlags := 26, nameIndex := 1116, descriptorIndex := 1117, attributes := #[] }, { accessFlags := 24, nameIndex := 40, descriptorIndex := 26, attributes := #[] }, { accessFlags := 26, nameIndex := 1101, descriptorIndex := 1102, attributes := #[] }, { accessFlags := 26, nameIndex := 1121, descriptorIndex := 1122, attributes := #[] }, { accessFlags := 25, nameIndex := 599, descriptorIndex := 600, attributes := #[] }, { accessFlags := 24, nameIndex := 1125, descriptorIndex := 18, attributes := #[] }, { accessFlags := 24, nameIndex := 1127, descriptorIndex := 18, attributes := #[] }])
  fields := #[{ name := "value", type := (.array .byte), accessFlags := 18, slot := 0, constantValue := 0 }, { name := "coder", type := .byte, accessFlags := 18, slot := 1, constantValue := 0 }, { name := "hash", type := .int, accessFlags := 2, slot := 2, constantValue := 0 }, { name := "hashIsZero", type := .boolean, accessFlags := 2, slot := 3, constantValue := 0 }, { name := "serialVersionUID", type := .long, accessFlags := 26, slot := 0, constantValue := 0 }, { name := "COMPACT_STRINGS", type := .boolean, accessFlags := 24, slot := 1, constantValue := 0 }, { name := "serialPersistentFields", type := (.array (.object "java/io/ObjectStreamField")), accessFlags := 26, slot := 2, constantValue := 0 }, { name := "REPL", type := .char, accessFlags := 26, slot := 3, constantValue := 0 }, { name := "CASE_INSENSITIVE_ORDER", type := (.object "java/util/Comparator"), accessFlags := 25, slot := 4, constantValue := 0 }, { name := "LATIN1", type := .byte, accessFlags := 24, slot := 5, constantValue := 0 }, { name := "UTF16", type := .byte, accessFlags := 24, slot := 6, constantValue := 0 }]
  methods := #[k7m0, k7m1, k7m2, k7m3, k7m4, k7m5, k7m6, k7m7, k7m8, k7m9]
  instanceTypes := #[(.array .byte), .byte, .int, .boolean]
  staticTypes := #[.long, .boolean, (.array (.object "java/io/ObjectStreamField")), .char, (.object "java/util/Comparator"), .byte, .byte]
  resolved := Array.replicate 1451 none
  statics := some 0 }

def pool8 : Array CpInfo := pool [(2, .class_ 4), (1, u "java/lang/Object"), (0, u "<init>"), (0, u "()V"), (1, .class_ 10), (1, u "com/example/fair_heat/fairheat/Quantities"), (16, u "decimals"), (0, u "(Ljava/lang/String;)I"), (11, .methodref 41 42), (0, .class_ 43), (0, .nameAndType 44 45), (0, u "java/lang/String"), (0, u "indexOf"), (0, u "(I)I"), (0, .methodref 41 47), (0, .nameAndType 48 49), (0, u "length"), (0, u "()I"), (0, .methodref 8 51), (0, .nameAndType 52 53), (0, u "digits"), (0, u "(Ljava/lang/String;II)Z"), (0, .methodref 41 55), (0, .nameAndType 56 57), (0, u "charAt"), (0, u "(I)C")] 53

def k8m0 : Method := { name := "<init>", desc := "()V", sig := { parameters := [], returnType := none }, accessFlags := 2, code := none }
def k8c1 : Code := { maxStack := 3, maxLocals := 3, code := prog_26_method_4_code, exceptionTable := #[], attributes := #[] }
def k8m1 : Method := { name := "decimals", desc := "(Ljava/lang/String;)I", sig := { parameters := [(.object "java/lang/String")], returnType := some .int }, accessFlags := 8, code := some k8c1 }
def k8c2 : Code := { maxStack := 2, maxLocals := 5, code := prog_26_method_5_code, exceptionTable := #[], attributes := #[] }
def k8m2 : Method := { name := "digits", desc := "(Ljava/lang/String;II)Z", sig := { parameters := [(.object "java/lang/String"), .int, .int], returnType := some .boolean }, accessFlags := 10, code := some k8c2 }
/-- com/example/fair_heat/fairheat/Quantities -/
def k8 : Class := { plain "com/example/fair_heat/fairheat/Quantities" (some 0) with
  accessFlags := 48
  interfaces := #[]
  cf := some (fileOf pool8 8 #[] #[{ accessFlags := 2, nameIndex := 5, descriptorIndex := 6, attributes := #[] }, { accessFlags := 8, nameIndex := 27, descriptorIndex := 28, attributes := #[] }, { accessFlags := 10, nameIndex := 52, descriptorIndex := 53, attributes := #[] }] 48 2 #[] #[])
  fields := #[]
  methods := #[k8m0, k8m1, k8m2]
  instanceTypes := #[]
  staticTypes := #[]
  resolved := Array.replicate 111 none
  statics := none }

def pool9 : Array CpInfo := pool [(1, .class_ 2), (0, u "java/lang/String"), (1, .class_ 6), (1, u "java/lang/Object"), (0, u "<init>"), (0, u "()V"), (0, .methodref 1 10), (0, .nameAndType 11 12), (0, u "checkIndex"), (0, u "(II)V"), (1, .class_ 16), (1, u "java/lang/StringLatin1"), (21, .methodref 39 40), (0, .class_ 41), (0, .nameAndType 42 43), (0, u "java/lang/Math"), (0, u "min"), (0, u "(II)I"), (9, u "([BI)C"), (34, .methodref 14 89), (0, .nameAndType 90 91), (0, u "canEncode"), (0, u "(I)Z"), (0, .methodref 39 93), (0, .nameAndType 94 43), (0, u "max"), (0, .methodref 14 96), (0, .nameAndType 97 98), (0, u "indexOfChar"), (0, u "([BIII)I"), (2, u "indexOf"), (19, u "$assertionsDisabled"), (0, u "Z"), (98, .class_ 223), (1, u "java/lang/StringLatin1$LinesSpliterator"), (28, u "charAt"), (137, .class_ 391), (0, u "java/lang/StringLatin1$CharsSpliterator")] 3

def k9m0 : Method := { name := "<init>", desc := "()V", sig := { parameters := [], returnType := none }, accessFlags := 0, code := none }
def k9c1 : Code := { maxStack := 2, maxLocals := 2, code := jdk_43_method_2_code, exceptionTable := #[], attributes := #[] }
def k9m1 : Method := { name := "charAt", desc := "([BI)C", sig := { parameters := [(.array .byte), .int], returnType := some .char }, accessFlags := 9, code := some k9c1 }
def k9c2 : Code := { maxStack := 2, maxLocals := 1, code := jdk_43_method_4_code, exceptionTable := #[], attributes := #[] }
def k9m2 : Method := { name := "canEncode", desc := "(I)Z", sig := { parameters := [.int], returnType := some .boolean }, accessFlags := 9, code := some k9c2 }
def k9c3 : Code := { maxStack := 4, maxLocals := 4, code := jdk_43_method_22_code, exceptionTable := #[], attributes := #[] }
def k9m3 : Method := { name := "indexOf", desc := "([BIII)I", sig := { parameters := [(.array .byte), .int, .int, .int], returnType := some .int }, accessFlags := 9, code := some k9c3 }
def k9c4 : Code := { maxStack := 2, maxLocals := 6, code := jdk_43_method_23_code, exceptionTable := #[], attributes := #[] }
def k9m4 : Method := { name := "indexOfChar", desc := "([BIII)I", sig := { parameters := [(.array .byte), .int, .int, .int], returnType := some .int }, accessFlags := 10, code := some k9c4 }
/-- java/lang/StringLatin1 -/
def k9 : Class := { plain "java/lang/StringLatin1" (some 0) with
  accessFlags := 48
  interfaces := #[]
  cf := some (fileOf pool9 14 #[.nestMembers #[390, 221]] #[{ accessFlags := 0, nameIndex := 7, descriptorIndex := 8, attributes := #[] }, { accessFlags := 9, nameIndex := 252, descriptorIndex := 53, attributes := #[] }, { accessFlags := 9, nameIndex := 90, descriptorIndex := 91, attributes := #[] }, { accessFlags := 9, nameIndex := 101, descriptorIndex := 98, attributes := #[] }, { accessFlags := 10, nameIndex := 97, descriptorIndex := 98, attributes := #[] }] 48 4 #[] #[{ accessFlags := 4120, nameIndex := 121, descriptorIndex := 122, attributes := #[] }])
  fields := #[{ name := "$assertionsDisabled", type := .boolean, accessFlags := 4120, slot := 0, constantValue := 0 }]
  methods := #[k9m0, k9m1, k9m2, k9m3, k9m4]
  instanceTypes := #[]
  staticTypes := #[.boolean]
  resolved := Array.replicate 395 none
  statics := none }

def pool10 : Array CpInfo := pool [(1, .class_ 2), (0, u "java/lang/Math"), (1, .class_ 6), (1, u "java/lang/Object"), (0, u "<init>"), (0, u "()V"), (89, .class_ 100), (1, u "java/lang/Math$RandomNumberGeneratorHolder"), (71, u "negativeZeroFloatBits"), (0, u "J"), (2, u "negativeZeroDoubleBits"), (21, u "max"), (2, u "min"), (43, u "$assertionsDisabled"), (0, u "Z"), (88, u "(II)I"), (2, u "twoToTheDoubleScaleDown"), (0, u "D"), (4, u "twoToTheDoubleScaleUp"), (9, u "E"), (3, u "PI"), (2, u "TAU"), (2, u "DEGREES_TO_RADIANS"), (0, u "RADIANS_TO_DEGREES")] 94

def k10m0 : Method := { name := "<init>", desc := "()V", sig := { parameters := [], returnType := none }, accessFlags := 2, code := none }
def k10c1 : Code := { maxStack := 2, maxLocals := 2, code := jdk_29_method_65_code, exceptionTable := #[], attributes := #[] }
def k10m1 : Method := { name := "max", desc := "(II)I", sig := { parameters := [.int, .int], returnType := some .int }, accessFlags := 9, code := some k10c1 }
def k10c2 : Code := { maxStack := 2, maxLocals := 2, code := jdk_29_method_69_code, exceptionTable := #[], attributes := #[] }
def k10m2 : Method := { name := "min", desc := "(II)I", sig := { parameters := [.int, .int], returnType := some .int }, accessFlags := 9, code := some k10c2 }
/-- java/lang/Math -/
def k10 : Class := { plain "java/lang/Math" (some 0) with
  accessFlags := 49
  interfaces := #[]
  cf := some (fileOf pool10 1 #[.nestMembers #[98]] #[{ accessFlags := 2, nameIndex := 7, descriptorIndex := 8, attributes := #[] }, { accessFlags := 9, nameIndex := 198, descriptorIndex := 335, attributes := #[] }, { accessFlags := 9, nameIndex := 201, descriptorIndex := 335, attributes := #[] }] 49 4 #[] #[{ accessFlags := 25, nameIndex := 354, descriptorIndex := 339, attributes := #[] }, { accessFlags := 25, nameIndex := 358, descriptorIndex := 339, attributes := #[] }, { accessFlags := 25, nameIndex := 361, descriptorIndex := 339, attributes := #[] }, { accessFlags := 26, nameIndex := 364, descriptorIndex := 339, attributes := #[] }, { accessFlags := 26, nameIndex := 365, descriptorIndex := 339, attributes := #[] }, { accessFlags := 26, nameIndex := 172, descriptorIndex := 173, attributes := #[] }, { accessFlags := 26, nameIndex := 176, descriptorIndex := 173, attributes := #[] }, { accessFlags := 8, nameIndex := 344, descriptorIndex := 339, attributes := #[] }, { accessFlags := 8, nameIndex := 338, descriptorIndex := 339, attributes := #[] }, { accessFlags := 4120, nameIndex := 245, descriptorIndex := 246, attributes := #[] }])
  fields := #[{ name := "E", type := .double, accessFlags := 25, slot := 0, constantValue := 0 }, { name := "PI", type := .double, accessFlags := 25, slot := 1, constantValue := 0 }, { name := "TAU", type := .double, accessFlags := 25, slot := 2, constantValue := 0 }, { name := "DEGREES_TO_RADIANS", type := .double, accessFlags := 26, slot := 3, constantValue := 0 }, { name := "RADIANS_TO_DEGREES", type := .double, accessFlags := 26, slot := 4, constantValue := 0 }, { name := "negativeZeroFloatBits", type := .long, accessFlags := 26, slot := 5, constantValue := 0 }, { name := "negativeZeroDoubleBits", type := .long, accessFlags := 26, slot := 6, constantValue := 0 }, { name := "twoToTheDoubleScaleUp", type := .double, accessFlags := 8, slot := 7, constantValue := 0 }, { name := "twoToTheDoubleScaleDown", type := .double, accessFlags := 8, slot := 8, constantValue := 0 }, { name := "$assertionsDisabled", type := .boolean, accessFlags := 4120, slot := 9, constantValue := 0 }]
  methods := #[k10m0, k10m1, k10m2]
  instanceTypes := #[]
  staticTypes := #[.double, .double, .double, .double, .double, .long, .long, .double, .double, .boolean]
  resolved := Array.replicate 460 none
  statics := none }

def pool11 : Array CpInfo := pool [(6, .class_ 8), (1, u "java/lang/Object"), (0, u "<init>"), (0, u "()V"), (1, .class_ 14), (1, u "java/lang/StringUTF16"), (31, u "$assertionsDisabled"), (0, u "Z"), (13, u "HI_BYTE_SHIFT"), (0, u "I"), (2, u "LO_BYTE_SHIFT"), (49, .methodref 12 116), (0, .nameAndType 117 118), (0, u "compress"), (0, u "([CI[BII)I"), (3, u "([CII)[B"), (138, u "coderFromArrayLen"), (0, u "([BI)B"), (106, .class_ 371), (1, u "java/lang/StringUTF16$LinesSpliterator"), (58, u "MAX_LENGTH"), (196, .class_ 628), (0, u "java/lang/StringUTF16$CodePointsSpliterator"), (0, .class_ 630), (0, u "java/lang/StringUTF16$CharsSpliterator")] 4

def k11m0 : Method := { name := "<init>", desc := "()V", sig := { parameters := [], returnType := none }, accessFlags := 0, code := none }
def k11c1 : Code := { maxStack := 2, maxLocals := 2, code := jdk_52_method_15_code, exceptionTable := #[], attributes := #[] }
def k11m1 : Method := { name := "coderFromArrayLen", desc := "([BI)B", sig := { parameters := [(.array .byte), .int], returnType := some .byte }, accessFlags := 8, code := some k11c1 }
def k11c2 : Code := { maxStack := 5, maxLocals := 6, code := jdk_52_method_16_code, exceptionTable := #[], attributes := #[] }
def k11m2 : Method := { name := "compress", desc := "([CII)[B", sig := { parameters := [(.array .char), .int, .int], returnType := some (.array .byte) }, accessFlags := 9, code := some k11c2 }
def k11c3 : Code := { maxStack := 3, maxLocals := 7, code := jdk_52_method_21_code, exceptionTable := #[], attributes := #[] }
def k11m3 : Method := { name := "compress", desc := "([CI[BII)I", sig := { parameters := [(.array .char), .int, (.array .byte), .int, .int], returnType := some .int }, accessFlags := 9, code := some k11c3 }
/-- java/lang/StringUTF16 -/
def k11 : Class := { plain "java/lang/StringUTF16" (some 0) with
  accessFlags := 48
  interfaces := #[]
  cf := some (fileOf pool11 12 #[.nestMembers #[627, 629, 369]] #[{ accessFlags := 0, nameIndex := 9, descriptorIndex := 10, attributes := #[] }, { accessFlags := 8, nameIndex := 261, descriptorIndex := 262, attributes := #[] }, { accessFlags := 9, nameIndex := 117, descriptorIndex := 122, attributes := #[] }, { accessFlags := 9, nameIndex := 117, descriptorIndex := 118, attributes := #[] }] 48 6 #[] #[{ accessFlags := 26, nameIndex := 61, descriptorIndex := 62, attributes := #[] }, { accessFlags := 26, nameIndex := 65, descriptorIndex := 62, attributes := #[] }, { accessFlags := 24, nameIndex := 430, descriptorIndex := 62, attributes := #[] }, { accessFlags := 4120, nameIndex := 46, descriptorIndex := 47, attributes := #[] }])
  fields := #[{ name := "HI_BYTE_SHIFT", type := .int, accessFlags := 26, slot := 0, constantValue := 0 }, { name := "LO_BYTE_SHIFT", type := .int, accessFlags := 26, slot := 1, constantValue := 0 }, { name := "MAX_LENGTH", type := .int, accessFlags := 24, slot := 2, constantValue := 0 }, { name := "$assertionsDisabled", type := .boolean, accessFlags := 4120, slot := 3, constantValue := 0 }]
  methods := #[k11m0, k11m1, k11m2, k11m3]
  instanceTypes := #[]
  staticTypes := #[.int, .int, .int, .boolean]
  resolved := Array.replicate 635 none
  statics := none }

def pool12 : Array CpInfo := pool [(2, .class_ 4), (1, u "java/lang/Object"), (0, u "<init>"), (0, u "()V"), (17, .class_ 26), (1, u "jdk/internal/util/Preconditions"), (6, u "checkIndex"), (21, .class_ 56), (0, u "jdk/internal/util/Preconditions$4"), (57, .class_ 115), (0, u "jdk/internal/util/Preconditions$1"), (7, u "SIOOBE_FORMATTER"), (0, u "Ljava/util/function/BiFunction;"), (0, .class_ 126), (0, u "jdk/internal/util/Preconditions$2"), (3, u "AIOOBE_FORMATTER"), (0, .class_ 132), (0, u "jdk/internal/util/Preconditions$3"), (3, u "IOOBE_FORMATTER"), (41, u "(IILjava/util/function/BiFunction;)I")] 15

def k12m0 : Method := { name := "<init>", desc := "()V", sig := { parameters := [], returnType := none }, accessFlags := 1, code := none }
def k12c1 : Code := { maxStack := 3, maxLocals := 3, code := jdk_41_method_11_code, exceptionTable := #[], attributes := #[] }
def k12m1 : Method := { name := "checkIndex", desc := "(IILjava/util/function/BiFunction;)I", sig := { parameters := [.int, .int, (.object "java/util/function/BiFunction")], returnType := some .int }, accessFlags := 9, code := some k12c1 }
/-- jdk/internal/util/Preconditions -/
def k12 : Class := { plain "jdk/internal/util/Preconditions" (some 0) with
  accessFlags := 33
  interfaces := #[]
  cf := some (fileOf pool12 24 #[.nestMembers #[55, 131, 125, 114]] #[{ accessFlags := 1, nameIndex := 5, descriptorIndex := 6, attributes := #[] }, { accessFlags := 9, nameIndex := 33, descriptorIndex := 178, attributes := #[] }] 33 2 #[] #[{ accessFlags := 25, nameIndex := 123, descriptorIndex := 124, attributes := #[] }, { accessFlags := 25, nameIndex := 130, descriptorIndex := 124, attributes := #[] }, { accessFlags := 25, nameIndex := 136, descriptorIndex := 124, attributes := #[] }])
  fields := #[{ name := "SIOOBE_FORMATTER", type := (.object "java/util/function/BiFunction"), accessFlags := 25, slot := 0, constantValue := 0 }, { name := "AIOOBE_FORMATTER", type := (.object "java/util/function/BiFunction"), accessFlags := 25, slot := 1, constantValue := 0 }, { name := "IOOBE_FORMATTER", type := (.object "java/util/function/BiFunction"), accessFlags := 25, slot := 2, constantValue := 0 }]
  methods := #[k12m0, k12m1]
  instanceTypes := #[]
  staticTypes := #[(.object "java/util/function/BiFunction"), (.object "java/util/function/BiFunction"), (.object "java/util/function/BiFunction")]
  resolved := Array.replicate 194 none
  statics := some 1 }

def pool13 : Array CpInfo := pool [(9, u "<init>"), (6, .class_ 18), (1, u "java/lang/Object"), (0, u "()V"), (1, .class_ 23), (1, u "jdk/internal/util/ArraysSupport"), (0, u "LOG2_ARRAY_LONG_INDEX_SCALE"), (0, u "I"), (2, u "U"), (0, u "Ljdk/internal/misc/Unsafe;"), (8, u "BIG_ENDIAN"), (0, u "Z"), (8, u "LOG2_BYTE_BIT_SIZE"), (4, u "LOG2_ARRAY_INT_INDEX_SCALE"), (54, u "JLA"), (0, u "Ljdk/internal/access/JavaLangAccess;"), (11, u "LOG2_ARRAY_BOOLEAN_INDEX_SCALE"), (9, u "LOG2_ARRAY_BYTE_INDEX_SCALE"), (5, u "LOG2_ARRAY_CHAR_INDEX_SCALE"), (5, u "LOG2_ARRAY_SHORT_INDEX_SCALE"), (18, u "LOG2_ARRAY_FLOAT_INDEX_SCALE"), (24, u "LOG2_ARRAY_DOUBLE_INDEX_SCALE"), (89, u "T_BOOLEAN"), (2, u "T_CHAR"), (1, u "T_FLOAT"), (1, u "T_DOUBLE"), (1, u "T_BYTE"), (1, u "T_SHORT"), (1, u "T_INT"), (1, u "T_LONG"), (1, u "SOFT_MAX_ARRAY_LENGTH")] 83

def k13m0 : Method := { name := "<init>", desc := "()V", sig := { parameters := [], returnType := none }, accessFlags := 2, code := none }
/-- jdk/internal/util/ArraysSupport -/
def k13 : Class := { plain "jdk/internal/util/ArraysSupport" (some 0) with
  accessFlags := 33
  interfaces := #[]
  cf := some (fileOf pool13 21 #[] #[{ accessFlags := 2, nameIndex := 9, descriptorIndex := 19, attributes := #[] }] 33 16 #[] #[{ accessFlags := 24, nameIndex := 28, descriptorIndex := 29, attributes := #[] }, { accessFlags := 26, nameIndex := 38, descriptorIndex := 39, attributes := #[] }, { accessFlags := 25, nameIndex := 121, descriptorIndex := 25, attributes := #[] }, { accessFlags := 25, nameIndex := 131, descriptorIndex := 25, attributes := #[] }, { accessFlags := 25, nameIndex := 137, descriptorIndex := 25, attributes := #[] }, { accessFlags := 25, nameIndex := 143, descriptorIndex := 25, attributes := #[] }, { accessFlags := 25, nameIndex := 53, descriptorIndex := 25, attributes := #[] }, { accessFlags := 25, nameIndex := 24, descriptorIndex := 25, attributes := #[] }, { accessFlags := 25, nameIndex := 162, descriptorIndex := 25, attributes := #[] }, { accessFlags := 25, nameIndex := 187, descriptorIndex := 25, attributes := #[] }, { accessFlags := 26, nameIndex := 48, descriptorIndex := 25, attributes := #[] }, { accessFlags := 25, nameIndex := 277, descriptorIndex := 25, attributes := #[] }, { accessFlags := 25, nameIndex := 280, descriptorIndex := 25, attributes := #[] }, { accessFlags := 25, nameIndex := 282, descriptorIndex := 25, attributes := #[] }, { accessFlags := 25, nameIndex := 284, descriptorIndex := 25, attributes := #[] }, { accessFlags := 25, nameIndex := 286, descriptorIndex := 25, attributes := #[] }, { accessFlags := 25, nameIndex := 288, descriptorIndex := 25, attributes := #[] }, { accessFlags := 25, nameIndex := 290, descriptorIndex := 25, attributes := #[] }, { accessFlags := 25, nameIndex := 292, descriptorIndex := 25, attributes := #[] }, { accessFlags := 26, nameIndex := 108, descriptorIndex := 109, attributes := #[] }, { accessFlags := 25, nameIndex := 294, descriptorIndex := 25, attributes := #[] }])
  fields := #[{ name := "U", type := (.object "jdk/internal/misc/Unsafe"), accessFlags := 24, slot := 0, constantValue := 0 }, { name := "BIG_ENDIAN", type := .boolean, accessFlags := 26, slot := 1, constantValue := 0 }, { name := "LOG2_ARRAY_BOOLEAN_INDEX_SCALE", type := .int, accessFlags := 25, slot := 2, constantValue := 0 }, { name := "LOG2_ARRAY_BYTE_INDEX_SCALE", type := .int, accessFlags := 25, slot := 3, constantValue := 0 }, { name := "LOG2_ARRAY_CHAR_INDEX_SCALE", type := .int, accessFlags := 25, slot := 4, constantValue := 0 }, { name := "LOG2_ARRAY_SHORT_INDEX_SCALE", type := .int, accessFlags := 25, slot := 5, constantValue := 0 }, { name := "LOG2_ARRAY_INT_INDEX_SCALE", type := .int, accessFlags := 25, slot := 6, constantValue := 0 }, { name := "LOG2_ARRAY_LONG_INDEX_SCALE", type := .int, accessFlags := 25, slot := 7, constantValue := 0 }, { name := "LOG2_ARRAY_FLOAT_INDEX_SCALE", type := .int, accessFlags := 25, slot := 8, constantValue := 0 }, { name := "LOG2_ARRAY_DOUBLE_INDEX_SCALE", type := .int, accessFlags := 25, slot := 9, constantValue := 0 }, { name := "LOG2_BYTE_BIT_SIZE", type := .int, accessFlags := 26, slot := 10, constantValue := 0 }, { name := "T_BOOLEAN", type := .int, accessFlags := 25, slot := 11, constantValue := 0 }, { name := "T_CHAR", type := .int, accessFlags := 25, slot := 12, constantValue := 0 }, { name := "T_FLOAT", type := .int, accessFlags := 25, slot := 13, constantValue := 0 }, { name := "T_DOUBLE", type := .int, accessFlags := 25, slot := 14, constantValue := 0 }, { name := "T_BYTE", type := .int, accessFlags := 25, slot := 15, constantValue := 0 }, { name := "T_SHORT", type := .int, accessFlags := 25, slot := 16, constantValue := 0 }, { name := "T_INT", type := .int, accessFlags := 25, slot := 17, constantValue := 0 }, { name := "T_LONG", type := .int, accessFlags := 25, slot := 18, constantValue := 0 }, { name := "JLA", type := (.object "jdk/internal/access/JavaLangAccess"), accessFlags := 26, slot := 19, constantValue := 0 }, { name := "SOFT_MAX_ARRAY_LENGTH", type := .int, accessFlags := 25, slot := 20, constantValue := 0 }]
  methods := #[k13m0]
  instanceTypes := #[]
  staticTypes := #[(.object "jdk/internal/misc/Unsafe"), .boolean, .int, .int, .int, .int, .int, .int, .int, .int, .int, .int, .int, .int, .int, .int, .int, .int, .int, (.object "jdk/internal/access/JavaLangAccess"), .int]
  resolved := Array.replicate 378 none
  statics := none }

def pool14 : Array CpInfo := pool [(1, u "java/lang/Cloneable"), (0, .class_ 1), (0, u "java/lang/Object"), (0, .class_ 3)] 3

/-- java/lang/Cloneable -/
def k14 : Class := { plain "java/lang/Cloneable" (some 0) with
  accessFlags := 1537
  interfaces := #[]
  cf := some (fileOf pool14 2 #[] #[] 1537 4 #[] #[])
  fields := #[]
  methods := #[]
  instanceTypes := #[]
  staticTypes := #[]
  resolved := Array.replicate 8 none
  statics := none }

/-- the primitive byte -/
def k15 : Class := { plain "byte" none with kind := .primitive 'B', accessFlags := 0x411 }
/-- [B -/
def k16 : Class := { plain "[B" (some 0) with kind := .array 15 .byte, interfaces := #[14, 2], accessFlags := 1041 }

/-- the primitive char -/
def k17 : Class := { plain "char" none with kind := .primitive 'C', accessFlags := 0x411 }
/-- [C -/
def k18 : Class := { plain "[C" (some 0) with kind := .array 17 .char, interfaces := #[14, 2], accessFlags := 1041 }

/-- the primitive int -/
def k19 : Class := { plain "int" none with kind := .primitive 'I', accessFlags := 0x411 }
/-- [I -/
def k20 : Class := { plain "[I" (some 0) with kind := .array 19 .int, interfaces := #[14, 2], accessFlags := 1041 }

def heap : Heap := #[{ cls := 7, slots := #[.long 0, .int 1, .null, .int 0, .null, .int 0, .int 0], vm := .statics 7 },
  { cls := 12, slots := #[.null, .null, .null], vm := .statics 12 }]
def classes : Array Class := #[k0, k1, k2, k3, k4, k5, k6, k7, k8, k9, k10, k11, k12, k13, k14, k15, k16, k17, k18, k19, k20]
def interned : List (Array UInt16 × Addr) := []
def slotsUsed : Nat := 10
def theMethod : MethodId := ⟨1, 5⟩
def args0 : Array Value := #[.int 2, .int 0, .int 1, .int 2, .int 3, .int 4]
def aboutOver (below : List Frame) : State where
  vm := { classes := classes, interned := interned.toArray }
  heap := heap
  slotsUsed := slotsUsed
  threads := #[{ frames := .invoking theMethod args0 :: below }]
def below0 : List Frame := [.native { method := ⟨0, 0⟩, args := #[] }]
def about1 : State := aboutOver below0
def p0 : Program := .bare "" "" ""
def e0 : Env := launch0.env 0 0 0
theorem w_frames : about1.frames = Frame.invoking theMethod args0 :: below0 := rfl
set_option maxRecDepth 65536 in
theorem w_args : argsFit about1.vm theMethod args0 = true := by decide +kernel
set_option maxRecDepth 65536 in
theorem w_heap : heapFits about1 = true := by decide +kernel
set_option maxRecDepth 65536 in
theorem w_runnable : about1.curStatus? = some .runnable := by decide +kernel
set_option maxRecDepth 65536 in
theorem w_alone : about1.alone = true := by decide +kernel
set_option maxRecDepth 65536 in
theorem w_named : about1.methodNamed? x = some theMethod := by decide +kernel
set_option maxRecDepth 65536 in
theorem w_hears : about1.hears theMethod below0 = true := by decide +kernel
set_option maxRecDepth 65536 in
theorem w_ripe : about1.ripe theMethod args0 below0 = true := by decide +kernel
theorem w_running : about1.status = .running := rfl
set_option maxRecDepth 65536 in
theorem w_room : about1.hasRoom e0.platform room_1 = true :=
  launch0.hasRoom_least _ room_1 (by decide +kernel) (by decide +kernel) (by decide +kernel) (by decide +kernel) (by decide +kernel) (by decide +kernel)
theorem allAtoms_all (ts : List Jvm.Cond) (a : Array Jvm.Value) (st : Jvm.State) : (allAtoms ts).before a st = ts.all (fun c => c.before a st) := by
  induction ts with
  | nil => rfl
  | cons c t ih =>
    show (Jvm.Cond.and c (allAtoms t)).before a st = _
    rw [Jvm.Cond.before_and, ih, List.all_cons]
def words1 : List Jvm.Cond := Jvm.Cond.code x code maxLocals ret :: tables_1
/-- a 'code' word, met by the world's own term for the bytes: nothing is compared byte by byte -/
theorem code_word {y : MethodName} {bytes : ByteArray} {mx : Nat} {rt : Option FieldType} {a : Array Value} {s : State} {m : MethodId} {meth : Method} {c : Code} (h1 : s.methodNamed? y = some m) (h2 : s.vm.method? m = some meth) (h3 : meth.code = some c) (h4 : c.code = bytes)
    (h5 : (c.maxLocals == mx && c.exceptionTable.isEmpty && decide (c.maxStack ≤ mostOperands) && decide (meth.sig.returnType = rt) && !meth.locks && decide (parseMethodDescriptor y.desc = some meth.sig)) = true) : (Jvm.Cond.code y bytes mx rt).before a s = true := by
  simp only [Bool.and_eq_true, beq_iff_eq, Bool.not_eq_true', decide_eq_true_eq] at h5
  obtain ⟨⟨⟨⟨⟨g1, g2⟩, g3⟩, g4⟩, g5⟩, g6⟩ := h5
  simp [Cond.before, Cond.holds, Cond.value, h1, h2, h3, h4, g1, g2, g3, g4, g5, g6]
def isCode : Jvm.Cond → Bool
  | .code _ _ _ _ => true
  | _ => false
theorem all_split {L : List Jvm.Cond} {P : Jvm.Cond → Bool} (h1 : L.all (fun c => isCode c || P c) = true) (h2 : ∀ c ∈ L.filter isCode, P c = true) : L.all P = true := by
  refine List.all_eq_true.mpr fun c hc => ?_
  have h := List.all_eq_true.mp h1 c hc
  rcases Bool.eq_false_or_eq_true (isCode c) with hi | hi
  · exact h2 c (List.mem_filter.mpr ⟨hc, hi⟩)
  · simpa [hi] using h
set_option maxRecDepth 65536 in
theorem w_c0 : (Jvm.Cond.code x code maxLocals ret).before args0 about1 = true := code_word (m := ⟨1, 5⟩) (meth := k1m5) (c := k1c5) (by decide +kernel) rfl rfl rfl (by decide +kernel)
set_option maxRecDepth 65536 in
theorem w_c1 : (Jvm.Cond.code ({ cls := "com/example/fair_heat/fairheat/QuantitiesDecimalsPinLaw", name := "ch", desc := "(I)C" } : Jvm.MethodName) method_2_code (3 : Nat) (Option.some Jvm.ClassFile.FieldType.char)).before args0 about1 = true := code_word (m := ⟨1, 1⟩) (meth := k1m1) (c := k1c1) (by decide +kernel) rfl rfl rfl (by decide +kernel)
set_option maxRecDepth 65536 in
theorem w_c2 : (Jvm.Cond.code ({ cls := "com/example/fair_heat/fairheat/QuantitiesDecimalsPinLaw", name := "make", desc := "(ICCCCC)[C" } : Jvm.MethodName) method_3_code (6 : Nat) (Option.some (Jvm.ClassFile.FieldType.array Jvm.ClassFile.FieldType.char))).before args0 about1 = true := code_word (m := ⟨1, 2⟩) (meth := k1m2) (c := k1c2) (by decide +kernel) rfl rfl rfl (by decide +kernel)
set_option maxRecDepth 65536 in
theorem w_c3 : (Jvm.Cond.code ({ cls := "java/lang/String", name := "<init>", desc := "([C)V" } : Jvm.MethodName) jdk_42_method_3_code (2 : Nat) (Option.none : Option Jvm.ClassFile.FieldType)).before args0 about1 = true := code_word (m := ⟨7, 1⟩) (meth := k7m1) (c := k7c1) (by decide +kernel) rfl rfl rfl (by decide +kernel)
set_option maxRecDepth 65536 in
theorem w_c4 : (Jvm.Cond.code ({ cls := "java/lang/String", name := "<init>", desc := "([CIILjava/lang/Void;)V" } : Jvm.MethodName) jdk_42_method_149_code (6 : Nat) (Option.none : Option Jvm.ClassFile.FieldType)).before args0 about1 = true := code_word (m := ⟨7, 6⟩) (meth := k7m6) (c := k7c6) (by decide +kernel) rfl rfl rfl (by decide +kernel)
set_option maxRecDepth 65536 in
theorem w_c5 : (Jvm.Cond.code ({ cls := "java/lang/Object", name := "<init>", desc := "()V" } : Jvm.MethodName) object_method_1_code (1 : Nat) (Option.none : Option Jvm.ClassFile.FieldType)).before args0 about1 = true := code_word (m := ⟨0, 0⟩) (meth := k0m0) (c := k0c0) (by decide +kernel) rfl rfl rfl (by decide +kernel)
set_option maxRecDepth 65536 in
theorem w_c6 : (Jvm.Cond.code ({ cls := "com/example/fair_heat/fairheat/QuantitiesDecimalsPinLaw", name := "other", desc := "(CII)I" } : Jvm.MethodName) method_5_code (3 : Nat) (Option.some Jvm.ClassFile.FieldType.int)).before args0 about1 = true := code_word (m := ⟨1, 4⟩) (meth := k1m4) (c := k1c4) (by decide +kernel) rfl rfl rfl (by decide +kernel)
set_option maxRecDepth 65536 in
theorem w_c7 : (Jvm.Cond.code ({ cls := "com/example/fair_heat/fairheat/QuantitiesDecimalsPinLaw", name := "dot", desc := "(CII)I" } : Jvm.MethodName) method_4_code (3 : Nat) (Option.some Jvm.ClassFile.FieldType.int)).before args0 about1 = true := code_word (m := ⟨1, 3⟩) (meth := k1m3) (c := k1c3) (by decide +kernel) rfl rfl rfl (by decide +kernel)
set_option maxRecDepth 65536 in
theorem w_c8 : (Jvm.Cond.code ({ cls := "com/example/fair_heat/fairheat/Quantities", name := "decimals", desc := "(Ljava/lang/String;)I" } : Jvm.MethodName) prog_26_method_4_code (3 : Nat) (Option.some Jvm.ClassFile.FieldType.int)).before args0 about1 = true := code_word (m := ⟨8, 1⟩) (meth := k8m1) (c := k8c1) (by decide +kernel) rfl rfl rfl (by decide +kernel)
set_option maxRecDepth 65536 in
theorem w_c9 : (Jvm.Cond.code ({ cls := "java/lang/String", name := "indexOf", desc := "(I)I" } : Jvm.MethodName) jdk_42_method_79_code (2 : Nat) (Option.some Jvm.ClassFile.FieldType.int)).before args0 about1 = true := code_word (m := ⟨7, 4⟩) (meth := k7m4) (c := k7c4) (by decide +kernel) rfl rfl rfl (by decide +kernel)
set_option maxRecDepth 65536 in
theorem w_c10 : (Jvm.Cond.code ({ cls := "java/lang/String", name := "indexOf", desc := "(II)I" } : Jvm.MethodName) jdk_42_method_80_code (3 : Nat) (Option.some Jvm.ClassFile.FieldType.int)).before args0 about1 = true := code_word (m := ⟨7, 5⟩) (meth := k7m5) (c := k7c5) (by decide +kernel) rfl rfl rfl (by decide +kernel)
set_option maxRecDepth 65536 in
theorem w_c11 : (Jvm.Cond.code ({ cls := "java/lang/String", name := "isLatin1", desc := "()Z" } : Jvm.MethodName) jdk_42_method_154_code (1 : Nat) (Option.some Jvm.ClassFile.FieldType.boolean)).before args0 about1 = true := code_word (m := ⟨7, 8⟩) (meth := k7m8) (c := k7c8) (by decide +kernel) rfl rfl rfl (by decide +kernel)
set_option maxRecDepth 65536 in
theorem w_c12 : (Jvm.Cond.code ({ cls := "java/lang/String", name := "length", desc := "()I" } : Jvm.MethodName) jdk_42_method_54_code (1 : Nat) (Option.some Jvm.ClassFile.FieldType.int)).before args0 about1 = true := code_word (m := ⟨7, 2⟩) (meth := k7m2) (c := k7c2) (by decide +kernel) rfl rfl rfl (by decide +kernel)
set_option maxRecDepth 65536 in
theorem w_c13 : (Jvm.Cond.code ({ cls := "java/lang/String", name := "coder", desc := "()B" } : Jvm.MethodName) jdk_42_method_152_code (1 : Nat) (Option.some Jvm.ClassFile.FieldType.byte)).before args0 about1 = true := code_word (m := ⟨7, 7⟩) (meth := k7m7) (c := k7c7) (by decide +kernel) rfl rfl rfl (by decide +kernel)
set_option maxRecDepth 65536 in
theorem w_c14 : (Jvm.Cond.code ({ cls := "java/lang/StringLatin1", name := "indexOf", desc := "([BIII)I" } : Jvm.MethodName) jdk_43_method_22_code (4 : Nat) (Option.some Jvm.ClassFile.FieldType.int)).before args0 about1 = true := code_word (m := ⟨9, 3⟩) (meth := k9m3) (c := k9c3) (by decide +kernel) rfl rfl rfl (by decide +kernel)
set_option maxRecDepth 65536 in
theorem w_c15 : (Jvm.Cond.code ({ cls := "java/lang/StringLatin1", name := "canEncode", desc := "(I)Z" } : Jvm.MethodName) jdk_43_method_4_code (1 : Nat) (Option.some Jvm.ClassFile.FieldType.boolean)).before args0 about1 = true := code_word (m := ⟨9, 2⟩) (meth := k9m2) (c := k9c2) (by decide +kernel) rfl rfl rfl (by decide +kernel)
set_option maxRecDepth 65536 in
theorem w_c16 : (Jvm.Cond.code ({ cls := "java/lang/Math", name := "max", desc := "(II)I" } : Jvm.MethodName) jdk_29_method_65_code (2 : Nat) (Option.some Jvm.ClassFile.FieldType.int)).before args0 about1 = true := code_word (m := ⟨10, 1⟩) (meth := k10m1) (c := k10c1) (by decide +kernel) rfl rfl rfl (by decide +kernel)
set_option maxRecDepth 65536 in
theorem w_c17 : (Jvm.Cond.code ({ cls := "java/lang/Math", name := "min", desc := "(II)I" } : Jvm.MethodName) jdk_29_method_69_code (2 : Nat) (Option.some Jvm.ClassFile.FieldType.int)).before args0 about1 = true := code_word (m := ⟨10, 2⟩) (meth := k10m2) (c := k10c2) (by decide +kernel) rfl rfl rfl (by decide +kernel)
set_option maxRecDepth 65536 in
theorem w_c18 : (Jvm.Cond.code ({ cls := "com/example/fair_heat/fairheat/Quantities", name := "digits", desc := "(Ljava/lang/String;II)Z" } : Jvm.MethodName) prog_26_method_5_code (5 : Nat) (Option.some Jvm.ClassFile.FieldType.boolean)).before args0 about1 = true := code_word (m := ⟨8, 2⟩) (meth := k8m2) (c := k8c2) (by decide +kernel) rfl rfl rfl (by decide +kernel)
set_option maxRecDepth 65536 in
theorem w_c19 : (Jvm.Cond.code ({ cls := "java/lang/StringUTF16", name := "compress", desc := "([CII)[B" } : Jvm.MethodName) jdk_52_method_16_code (6 : Nat) (Option.some (Jvm.ClassFile.FieldType.array Jvm.ClassFile.FieldType.byte))).before args0 about1 = true := code_word (m := ⟨11, 2⟩) (meth := k11m2) (c := k11c2) (by decide +kernel) rfl rfl rfl (by decide +kernel)
set_option maxRecDepth 65536 in
theorem w_c20 : (Jvm.Cond.code ({ cls := "java/lang/StringUTF16", name := "compress", desc := "([CI[BII)I" } : Jvm.MethodName) jdk_52_method_21_code (7 : Nat) (Option.some Jvm.ClassFile.FieldType.int)).before args0 about1 = true := code_word (m := ⟨11, 3⟩) (meth := k11m3) (c := k11c3) (by decide +kernel) rfl rfl rfl (by decide +kernel)
set_option maxRecDepth 65536 in
theorem w_c21 : (Jvm.Cond.code ({ cls := "java/lang/StringUTF16", name := "coderFromArrayLen", desc := "([BI)B" } : Jvm.MethodName) jdk_52_method_15_code (2 : Nat) (Option.some Jvm.ClassFile.FieldType.byte)).before args0 about1 = true := code_word (m := ⟨11, 1⟩) (meth := k11m1) (c := k11c1) (by decide +kernel) rfl rfl rfl (by decide +kernel)
set_option maxRecDepth 65536 in
theorem w_c22 : (Jvm.Cond.code ({ cls := "java/lang/StringLatin1", name := "indexOfChar", desc := "([BIII)I" } : Jvm.MethodName) jdk_43_method_23_code (6 : Nat) (Option.some Jvm.ClassFile.FieldType.int)).before args0 about1 = true := code_word (m := ⟨9, 4⟩) (meth := k9m4) (c := k9c4) (by decide +kernel) rfl rfl rfl (by decide +kernel)
set_option maxRecDepth 65536 in
theorem w_c23 : (Jvm.Cond.code ({ cls := "java/lang/String", name := "charAt", desc := "(I)C" } : Jvm.MethodName) jdk_42_method_56_code (2 : Nat) (Option.some Jvm.ClassFile.FieldType.char)).before args0 about1 = true := code_word (m := ⟨7, 3⟩) (meth := k7m3) (c := k7c3) (by decide +kernel) rfl rfl rfl (by decide +kernel)
set_option maxRecDepth 65536 in
theorem w_c24 : (Jvm.Cond.code ({ cls := "java/lang/StringLatin1", name := "charAt", desc := "([BI)C" } : Jvm.MethodName) jdk_43_method_2_code (2 : Nat) (Option.some Jvm.ClassFile.FieldType.char)).before args0 about1 = true := code_word (m := ⟨9, 1⟩) (meth := k9m1) (c := k9c1) (by decide +kernel) rfl rfl rfl (by decide +kernel)
set_option maxRecDepth 65536 in
theorem w_c25 : (Jvm.Cond.code ({ cls := "java/lang/String", name := "checkIndex", desc := "(II)V" } : Jvm.MethodName) jdk_42_method_155_code (2 : Nat) (Option.none : Option Jvm.ClassFile.FieldType)).before args0 about1 = true := code_word (m := ⟨7, 9⟩) (meth := k7m9) (c := k7c9) (by decide +kernel) rfl rfl rfl (by decide +kernel)
set_option maxRecDepth 65536 in
theorem w_c26 : (Jvm.Cond.code ({ cls := "jdk/internal/util/Preconditions", name := "checkIndex", desc := "(IILjava/util/function/BiFunction;)I" } : Jvm.MethodName) jdk_41_method_11_code (3 : Nat) (Option.some Jvm.ClassFile.FieldType.int)).before args0 about1 = true := code_word (m := ⟨12, 1⟩) (meth := k12m1) (c := k12c1) (by decide +kernel) rfl rfl rfl (by decide +kernel)
def codes1 : List Jvm.Cond := [Jvm.Cond.code x code maxLocals ret, Jvm.Cond.code ({ cls := "com/example/fair_heat/fairheat/QuantitiesDecimalsPinLaw", name := "ch", desc := "(I)C" } : Jvm.MethodName) method_2_code (3 : Nat) (Option.some Jvm.ClassFile.FieldType.char), Jvm.Cond.code ({ cls := "com/example/fair_heat/fairheat/QuantitiesDecimalsPinLaw", name := "make", desc := "(ICCCCC)[C" } : Jvm.MethodName) method_3_code (6 : Nat) (Option.some (Jvm.ClassFile.FieldType.array Jvm.ClassFile.FieldType.char)), Jvm.Cond.code ({ cls := "java/lang/String", name := "<init>", desc := "([C)V" } : Jvm.MethodName) jdk_42_method_3_code (2 : Nat) (Option.none : Option Jvm.ClassFile.FieldType), Jvm.Cond.code ({ cls := "java/lang/String", name := "<init>", desc := "([CIILjava/lang/Void;)V" } : Jvm.MethodName) jdk_42_method_149_code (6 : Nat) (Option.none : Option Jvm.ClassFile.FieldType), Jvm.Cond.code ({ cls := "java/lang/Object", name := "<init>", desc := "()V" } : Jvm.MethodName) object_method_1_code (1 : Nat) (Option.none : Option Jvm.ClassFile.FieldType), Jvm.Cond.code ({ cls := "com/example/fair_heat/fairheat/QuantitiesDecimalsPinLaw", name := "other", desc := "(CII)I" } : Jvm.MethodName) method_5_code (3 : Nat) (Option.some Jvm.ClassFile.FieldType.int), Jvm.Cond.code ({ cls := "com/example/fair_heat/fairheat/QuantitiesDecimalsPinLaw", name := "dot", desc := "(CII)I" } : Jvm.MethodName) method_4_code (3 : Nat) (Option.some Jvm.ClassFile.FieldType.int), Jvm.Cond.code ({ cls := "com/example/fair_heat/fairheat/Quantities", name := "decimals", desc := "(Ljava/lang/String;)I" } : Jvm.MethodName) prog_26_method_4_code (3 : Nat) (Option.some Jvm.ClassFile.FieldType.int), Jvm.Cond.code ({ cls := "java/lang/String", name := "indexOf", desc := "(I)I" } : Jvm.MethodName) jdk_42_method_79_code (2 : Nat) (Option.some Jvm.ClassFile.FieldType.int), Jvm.Cond.code ({ cls := "java/lang/String", name := "indexOf", desc := "(II)I" } : Jvm.MethodName) jdk_42_method_80_code (3 : Nat) (Option.some Jvm.ClassFile.FieldType.int), Jvm.Cond.code ({ cls := "java/lang/String", name := "isLatin1", desc := "()Z" } : Jvm.MethodName) jdk_42_method_154_code (1 : Nat) (Option.some Jvm.ClassFile.FieldType.boolean), Jvm.Cond.code ({ cls := "java/lang/String", name := "length", desc := "()I" } : Jvm.MethodName) jdk_42_method_54_code (1 : Nat) (Option.some Jvm.ClassFile.FieldType.int), Jvm.Cond.code ({ cls := "java/lang/String", name := "coder", desc := "()B" } : Jvm.MethodName) jdk_42_method_152_code (1 : Nat) (Option.some Jvm.ClassFile.FieldType.byte), Jvm.Cond.code ({ cls := "java/lang/StringLatin1", name := "indexOf", desc := "([BIII)I" } : Jvm.MethodName) jdk_43_method_22_code (4 : Nat) (Option.some Jvm.ClassFile.FieldType.int), Jvm.Cond.code ({ cls := "java/lang/StringLatin1", name := "canEncode", desc := "(I)Z" } : Jvm.MethodName) jdk_43_method_4_code (1 : Nat) (Option.some Jvm.ClassFile.FieldType.boolean), Jvm.Cond.code ({ cls := "java/lang/Math", name := "max", desc := "(II)I" } : Jvm.MethodName) jdk_29_method_65_code (2 : Nat) (Option.some Jvm.ClassFile.FieldType.int), Jvm.Cond.code ({ cls := "java/lang/Math", name := "min", desc := "(II)I" } : Jvm.MethodName) jdk_29_method_69_code (2 : Nat) (Option.some Jvm.ClassFile.FieldType.int), Jvm.Cond.code ({ cls := "com/example/fair_heat/fairheat/Quantities", name := "digits", desc := "(Ljava/lang/String;II)Z" } : Jvm.MethodName) prog_26_method_5_code (5 : Nat) (Option.some Jvm.ClassFile.FieldType.boolean), Jvm.Cond.code ({ cls := "java/lang/StringUTF16", name := "compress", desc := "([CII)[B" } : Jvm.MethodName) jdk_52_method_16_code (6 : Nat) (Option.some (Jvm.ClassFile.FieldType.array Jvm.ClassFile.FieldType.byte)), Jvm.Cond.code ({ cls := "java/lang/StringUTF16", name := "compress", desc := "([CI[BII)I" } : Jvm.MethodName) jdk_52_method_21_code (7 : Nat) (Option.some Jvm.ClassFile.FieldType.int), Jvm.Cond.code ({ cls := "java/lang/StringUTF16", name := "coderFromArrayLen", desc := "([BI)B" } : Jvm.MethodName) jdk_52_method_15_code (2 : Nat) (Option.some Jvm.ClassFile.FieldType.byte), Jvm.Cond.code ({ cls := "java/lang/StringLatin1", name := "indexOfChar", desc := "([BIII)I" } : Jvm.MethodName) jdk_43_method_23_code (6 : Nat) (Option.some Jvm.ClassFile.FieldType.int), Jvm.Cond.code ({ cls := "java/lang/String", name := "charAt", desc := "(I)C" } : Jvm.MethodName) jdk_42_method_56_code (2 : Nat) (Option.some Jvm.ClassFile.FieldType.char), Jvm.Cond.code ({ cls := "java/lang/StringLatin1", name := "charAt", desc := "([BI)C" } : Jvm.MethodName) jdk_43_method_2_code (2 : Nat) (Option.some Jvm.ClassFile.FieldType.char), Jvm.Cond.code ({ cls := "java/lang/String", name := "checkIndex", desc := "(II)V" } : Jvm.MethodName) jdk_42_method_155_code (2 : Nat) (Option.none : Option Jvm.ClassFile.FieldType), Jvm.Cond.code ({ cls := "jdk/internal/util/Preconditions", name := "checkIndex", desc := "(IILjava/util/function/BiFunction;)I" } : Jvm.MethodName) jdk_41_method_11_code (3 : Nat) (Option.some Jvm.ClassFile.FieldType.int)]
set_option maxRecDepth 65536 in
theorem codes_eq : words1.filter isCode = codes1 := rfl
theorem w_codes : ∀ c ∈ words1.filter isCode, c.before args0 about1 = true := by
  rw [codes_eq]
  intro c hc
  simp only [codes1, List.mem_cons, List.not_mem_nil, or_false] at hc
  rcases hc with rfl | rfl | rfl | rfl | rfl | rfl | rfl | rfl | rfl | rfl | rfl | rfl | rfl | rfl | rfl | rfl | rfl | rfl | rfl | rfl | rfl | rfl | rfl | rfl | rfl | rfl | rfl
  · exact w_c0
  · exact w_c1
  · exact w_c2
  · exact w_c3
  · exact w_c4
  · exact w_c5
  · exact w_c6
  · exact w_c7
  · exact w_c8
  · exact w_c9
  · exact w_c10
  · exact w_c11
  · exact w_c12
  · exact w_c13
  · exact w_c14
  · exact w_c15
  · exact w_c16
  · exact w_c17
  · exact w_c18
  · exact w_c19
  · exact w_c20
  · exact w_c21
  · exact w_c22
  · exact w_c23
  · exact w_c24
  · exact w_c25
  · exact w_c26
set_option maxRecDepth 65536 in
theorem w_t1 : (words1.take 24).all (fun c => isCode c || c.before args0 about1) = true := by decide +kernel
set_option maxRecDepth 65536 in
theorem w_t2 : ((words1.drop 24).take 24).all (fun c => isCode c || c.before args0 about1) = true := by decide +kernel
set_option maxRecDepth 65536 in
theorem w_t3 : (((words1.drop 24).drop 24).take 24).all (fun c => isCode c || c.before args0 about1) = true := by decide +kernel
set_option maxRecDepth 65536 in
theorem w_t4 : ((((words1.drop 24).drop 24).drop 24).take 24).all (fun c => isCode c || c.before args0 about1) = true := by decide +kernel
set_option maxRecDepth 65536 in
theorem w_t5 : ((((words1.drop 24).drop 24).drop 24).drop 24).all (fun c => isCode c || c.before args0 about1) = true := by decide +kernel
theorem w_tables : (allAtoms (Jvm.Cond.code x code maxLocals ret :: tables_1)).before args0 about1 = true := by
  rw [allAtoms_all]
  show words1.all (fun c => c.before args0 about1) = true
  refine all_split ?_ w_codes
  rw [← List.take_append_drop 24 words1, List.all_append, w_t1, ← List.take_append_drop 24 (words1.drop 24), List.all_append, w_t2, ← List.take_append_drop 24 ((words1.drop 24).drop 24), List.all_append, w_t3, ← List.take_append_drop 24 (((words1.drop 24).drop 24).drop 24), List.all_append, w_t4, w_t5]
  rfl
set_option maxRecDepth 65536 in
theorem w_rest : rest_1_c.before args0 about1 = true := by decide +kernel
set_option maxRecDepth 65536 in
theorem w_case : (Jvm.Cond.and given_1 narrow_1).before args0 about1 = true := by decide +kernel
set_option maxRecDepth 65536 in
theorem w_consts : constsHeld consts_1 about1 := Jvm.Lit.constsHeldB_iff.mp (by decide +kernel)
theorem w_applies : (headSpec (Jvm.Cond.code x code maxLocals ret :: tables_1) room_1).applies x e0.platform about1 = true :=
  (Spec.applies_iff w_frames).mpr ⟨w_running, w_runnable, w_alone, w_named, w_hears, w_ripe, w_room, w_tables⟩
theorem atStart : AtStart classFile x code maxLocals ret World_1 tables_1 room_1 Calls_1 rest_1 Pre_1 launch0 p0 e0 about1 theMethod args0 below0 :=
  ⟨lists_1, trivial, launch0.admits_env _ _ _, launch0.least_env, fairChoices_fair.cas, fairChoices_fair.clock, w_frames, w_args, w_heap, w_applies, ⟨w_consts, trivial⟩, w_rest, w_case⟩
end start1
theorem witness_1 : WitnessClaimed_1 := ⟨start1.p0, start1.e0, start1.about1, start1.theMethod, start1.args0, start1.below0, start1.atStart⟩
end Jvm.Pilot.@@N@@
