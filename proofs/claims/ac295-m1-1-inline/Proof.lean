import JvmDerived
import JvmDerived.Pilot.@@N@@Statement
import JvmDerived.Pilot.@@N@@Code
set_option linter.unusedVariables false
set_option linter.unusedSimpArgs false
/- laws to paste: Road.backV, Road.lenW, Road.chN (cut by pick.py; bodies as the Statement names them) -/
namespace Jvm.Pilot.@@N@@
namespace StrChars
open Jvm Sem ClassFile Op Lib Jvm.Stand Jvm.Free.XT Jvm.Free.ALB Jvm.Free.JM Jvm.Free
open Jvm.Lib.Cold (StaticIs)
/-- a char array whose places are chars -/
def Ch (a : Addr) (A : Cell) (U : State) : Prop := Arr .char a A U ∧ Typed .char A
theorem Ch.mv {a : Addr} {A : Cell} {U U' : State} (h : Ch a A U) (hal : U.vm.Alike U'.vm) (hh : U'.heap = U.heap) : Ch a A U' := ⟨h.1.mv hal hh, h.2⟩
theorem Ch.keep {a : Addr} {A : Cell} {U U' : State} (h : Ch a A U) (hal : U.vm.Alike U'.vm) (hk : U'.heap[a]? = some A) : Ch a A U' := ⟨h.1.keep hal hk, h.2⟩
/-- what place i of a char[]'s cell holds -/
def cv (A : Cell) (i : Nat) : Int32 := match A.slots[i]? with | some (.int x) => x | _ => 0
theorem Ch.get {a : Addr} {A : Cell} {U : State} (h : Ch a A U) {i : Nat} (hi : i < A.slots.size) : A.slots[i]? = some (.int (cv A i)) := by
  have e := Array.getElem?_eq_getElem hi
  have f := h.2 i _ e
  unfold cv; rw [e]
  generalize A.slots[i] = v at f
  cases v <;> simp [fits] at f ⊢
/-- the byte that i2b leaves of a char -/
def lo8 (x : Int32) : Int32 := x.toInt8.toInt32
theorem fits_lo8 (y : Int32) : fits .byte (.int (lo8 y)) = true := by
  have h1 := y.toInt8.le_toInt
  have h2 := y.toInt8.toInt_lt
  simp only [lo8, fits, Bool.and_eq_true, decide_eq_true_eq, Int32.le_iff_toInt_le, Int8.toInt_toInt32, show (-128 : Int32).toInt = -128 from by decide, show (127 : Int32).toInt = 127 from by decide]
  omega
/-- A' is A but that each place j of lo .. hi - 1 holds f j -/
def Laid (A A' : Cell) (lo hi : Nat) (f : Nat → Value) : Prop := A'.cls = A.cls ∧ A'.vm = A.vm ∧ A'.slots.size = A.slots.size ∧ ∀ i, A'.slots[i]? = if lo ≤ i ∧ i < hi then some (f i) else A.slots[i]?
theorem Laid.zero (A : Cell) (lo : Nat) (f : Nat → Value) : Laid A A lo (lo + 0) f := ⟨rfl, rfl, rfl, fun i => by rw [if_neg (by omega)]⟩
theorem Laid.step {A Ak : Cell} {lo k : Nat} {f : Nat → Value} {v : Value} (h : Laid A Ak lo k f) (hlo : lo ≤ k) (hk : k < Ak.slots.size) (hv : v = f k) : Laid A (Ak.setSlot k v) lo (k + 1) f := by
  refine ⟨h.1, h.2.1, by simpa [Cell.setSlot] using h.2.2.1, fun i => ?_⟩
  by_cases e : k = i
  · subst e; rw [Cell.slots_setSlot_self v hk, if_pos (by omega), hv]
  · rw [Cell.slots_setSlot_ne v e, h.2.2.2 i]
    by_cases q : lo ≤ i ∧ i < k
    · rw [if_pos q, if_pos (by omega)]
    · rw [if_neg q, if_neg (by omega)]
def U16 : String := "java/lang/StringUTF16"
namespace Cmp5
def yN : MethodName := ⟨"java/lang/StringUTF16", "compress", "([CI[BII)I"⟩
abbrev yB : ByteArray := jdk_52_method_21_code
theorem d0 : decode yB 0 = .ok (.iconst 0, 1) := by decide +kernel
theorem d1 : decode yB 1 = .ok (.istore 5, 2) := by decide +kernel
theorem d3 : decode yB 3 = .ok (.iload 5, 2) := by decide +kernel
theorem d5 : decode yB 5 = .ok (.iload 4, 2) := by decide +kernel
theorem d7 : decode yB 7 = .ok (.if_icmp (.ge) 37, 3) := by decide +kernel
theorem d10 : decode yB 10 = .ok (.aload_n 0, 1) := by decide +kernel
theorem d11 : decode yB 11 = .ok (.iload_n 1, 1) := by decide +kernel
theorem d12 : decode yB 12 = .ok (.caload, 1) := by decide +kernel
theorem d13 : decode yB 13 = .ok (.istore 6, 2) := by decide +kernel
theorem d15 : decode yB 15 = .ok (.iload 6, 2) := by decide +kernel
theorem d17 : decode yB 17 = .ok (.sipush 255, 3) := by decide +kernel
theorem d20 : decode yB 20 = .ok (.if_icmp (.le) 6, 3) := by decide +kernel
theorem d26 : decode yB 26 = .ok (.aload_n 2, 1) := by decide +kernel
theorem d27 : decode yB 27 = .ok (.iload_n 3, 1) := by decide +kernel
theorem d28 : decode yB 28 = .ok (.iload 6, 2) := by decide +kernel
theorem d30 : decode yB 30 = .ok (.i2b, 1) := by decide +kernel
theorem d31 : decode yB 31 = .ok (.bastore, 1) := by decide +kernel
theorem d32 : decode yB 32 = .ok (.iinc 1 1, 3) := by decide +kernel
theorem d35 : decode yB 35 = .ok (.iinc 3 1, 3) := by decide +kernel
theorem d38 : decode yB 38 = .ok (.iinc 5 1, 3) := by decide +kernel
theorem d41 : decode yB 41 = .ok (.goto (-38), 3) := by decide +kernel
theorem d44 : decode yB 44 = .ok (.iload 4, 2) := by decide +kernel
theorem d46 : decode yB 46 = .ok (.ireturn, 1) := by decide +kernel
def site : List Cond := []
def tab : Cond := tabOf yN yB 7 (some .int) site
def P (b : Addr) (A : Cell) (d : Addr) (B : Cell) (o q len : Nat) (args : Array Value) (s : State) : Prop := args = #[.ref b, .int (Int32.ofNat o), .ref d, .int (Int32.ofNat q), .int (Int32.ofNat len)] ∧ Ch b A s ∧ Arr .byte d B s ∧ b ≠ d ∧ o + len ≤ A.slots.size ∧ q + len ≤ B.slots.size ∧ ∀ i, i < len → ¬ 255 < cv A (o + i)
def E (b : Addr) (A : Cell) (d : Addr) (B : Cell) (o q len : Nat) (r : Option Value) (s u : State) : Prop := r = some (.int (Int32.ofNat len)) ∧ ∃ B', Put d B' s u ∧ Laid B B' q (q + len) (fun j => Value.int (lo8 (cv A (o + (j - q)))))
/-- no char of the range above 255: len; the places written hold each char's low byte -/
theorem law (l : Launch) (b : Addr) (A : Cell) (d : Addr) (B : Cell) (o q len : Nat) : Law l yN 5 5 0 0 yB 7 (some .int) site (P b A d B o q len) (E b A d B o q len) (copyLocs d q len) 0 0 := by
  refine Law.of_walk (plainFor_of_name (by decide +kernel)) (by decide +kernel) (by decide +kernel) (by decide) (fun _ _ h => by rw [h.1]; rfl) (fun _ U U' hal hh h => ⟨h.1, h.2.1.mv hal hh, h.2.2.1.mv hal hh, h.2.2.2⟩) (fun r U U' V V' h1 hal h2 h => ⟨h.1, h.2.elim fun B' q => ⟨B', q.1.mv h1 h2, q.2⟩⟩) ?_
  intro p e s m args below meth c s₁ X0 hexec hbytes hml hret hlk hnm hown hh0 W hP
  obtain ⟨rfl, hA, hB, hne, l1, l2, hp⟩ := hP
  have c1 : Steps p.tables e below (s₁.setTop (entryFrame m #[.ref b, .int (Int32.ofNat o), .ref d, .int (Int32.ofNat q), .int (Int32.ofNat len)] 7)) (s₁.setTop (mkF m 0 #[.val (.ref b), .val (.int (Int32.ofNat o)), .val (.ref d), .val (.int (Int32.ofNat q)), .val (.int (Int32.ofNat len)), .unset, .unset] [])) := entry rfl
  have hA0 := hA.1.mv X0.warmed.alike hh0
  have hB0 := hB.mv X0.warmed.alike hh0
  have a31 := hA.1.2.2.2
  have c2 : Steps p.tables e below (s₁.setTop (entryFrame m #[.ref b, .int (Int32.ofNat o), .ref d, .int (Int32.ofNat q), .int (Int32.ofNat len)] 7)) (s₁.setTop (mkF m 3 #[.val (.ref b), .val (.int (Int32.ofNat o)), .val (.ref d), .val (.int (Int32.ofNat q)), .val (.int (Int32.ofNat len)), .val (.int 0), .unset] [])) := c1.trans (by
    refine iconstV X0.here hexec rfl 0 (hb hbytes d0) (by decide) ?_
    refine XS.istore X0.here hexec rfl (hb hbytes d1) rfl rfl ?_
    exact Steps.refl _)
  have loop : ∀ (r i : Nat), i + r = len → ∀ (z : Slot), (z = .unset ∨ ∃ w, z = .val w ∧ w.category = 1) → ∀ (Tl : State) (Bk : Cell), Stand p l e { frames := 0, locals := 0, cells := 0, slots := 0 } s m #[.ref b, .int (Int32.ofNat o), .ref d, .int (Int32.ofNat q), .int (Int32.ofNat len)] below meth c Tl ([] ++ copyLocs d q i) 0 0 → Put d Bk s₁ Tl → Laid B Bk q (q + i) (fun j => Value.int (lo8 (cv A (o + (j - q))))) →
      Steps p.tables e below (s₁.setTop (entryFrame m #[.ref b, .int (Int32.ofNat o), .ref d, .int (Int32.ofNat q), .int (Int32.ofNat len)] 7)) (Tl.setTop (mkF m 3 #[.val (.ref b), .val (.int (Int32.ofNat (o + i))), .val (.ref d), .val (.int (Int32.ofNat (q + i))), .val (.int (Int32.ofNat len)), .val (.int (Int32.ofNat i)), z] [])) → ∃ (T' : State) (B' : Cell) (z' : Slot), Stand p l e { frames := 0, locals := 0, cells := 0, slots := 0 } s m #[.ref b, .int (Int32.ofNat o), .ref d, .int (Int32.ofNat q), .int (Int32.ofNat len)] below meth c T' ([] ++ copyLocs d q len) 0 0 ∧ Put d B' s₁ T' ∧ Laid B B' q (q + len) (fun j => Value.int (lo8 (cv A (o + (j - q))))) ∧
      Steps p.tables e below (s₁.setTop (entryFrame m #[.ref b, .int (Int32.ofNat o), .ref d, .int (Int32.ofNat q), .int (Int32.ofNat len)] 7)) (T'.setTop (mkF m 3 #[.val (.ref b), .val (.int (Int32.ofNat (o + len))), .val (.ref d), .val (.int (Int32.ofNat (q + len))), .val (.int (Int32.ofNat len)), .val (.int (Int32.ofNat len)), z'] [])) := by
    intro r
    induction r with
    | zero =>
      intro i hi z hz Tl Bk Xl pl fl cl
      have hil : i = len := by omega
      rw [hil] at Xl fl cl
      exact ⟨Tl, Bk, z, Xl, pl, fl, cl⟩
    | succ r ih =>
      intro i hi z hz Tl Bk Xl pl fl cl
      have all := X0.warmed.alike.symm.trans Xl.warmed.alike
      have hAl := hA0.keep all (pl.other hne hA0.1)
      have hBk := hB0.like all pl.1 fl.1 fl.2.1 fl.2.2.1
      have hlt : q + i < Bk.slots.size := by rw [fl.2.2.1]; omega
      have c3 : Steps p.tables e below (s₁.setTop (entryFrame m #[.ref b, .int (Int32.ofNat o), .ref d, .int (Int32.ofNat q), .int (Int32.ofNat len)] 7)) (Tl.setTop (mkF m 12 #[.val (.ref b), .val (.int (Int32.ofNat (o + i))), .val (.ref d), .val (.int (Int32.ofNat (q + i))), .val (.int (Int32.ofNat len)), .val (.int (Int32.ofNat i)), z] [.int (Int32.ofNat (o + i)), .ref b])) := cl.trans (by
        refine XS.iload Xl.here hexec rfl (hb hbytes d3) rfl ?_
        refine XS.iload Xl.here hexec rfl (hb hbytes d5) rfl ?_
        refine XS.icmpNo Xl.here hexec rfl (hb hbytes d7) rfl (ii_ge_f (lt32 (by omega) (by omega))) ?_
        refine XS.aloadN Xl.here hexec rfl (hb hbytes d10) rfl rfl ?_
        refine XS.iloadN Xl.here hexec rfl (hb hbytes d11) rfl ?_
        exact Steps.refl _)
      have c4 : Steps p.tables e below (s₁.setTop (entryFrame m #[.ref b, .int (Int32.ofNat o), .ref d, .int (Int32.ofNat q), .int (Int32.ofNat len)] 7)) (Tl.setTop (mkF m 13 #[.val (.ref b), .val (.int (Int32.ofNat (o + i))), .val (.ref d), .val (.int (Int32.ofNat (q + i))), .val (.int (Int32.ofNat len)), .val (.int (Int32.ofNat i)), z] [.int (cv A (o + i))])) := c3.trans (by
        refine Xl.aget hexec hAl rfl (hA.get (i := o + i) (by omega)) rfl rfl (hb hbytes d12) ?_
        exact Steps.refl _)
      have c5 : Steps p.tables e below (s₁.setTop (entryFrame m #[.ref b, .int (Int32.ofNat o), .ref d, .int (Int32.ofNat q), .int (Int32.ofNat len)] 7)) (Tl.setTop (mkF m 15 #[.val (.ref b), .val (.int (Int32.ofNat (o + i))), .val (.ref d), .val (.int (Int32.ofNat (q + i))), .val (.int (Int32.ofNat len)), .val (.int (Int32.ofNat i)), .val (.int (cv A (o + i)))] [])) := c4.trans (by
        refine XS.istoreS Xl.here hexec rfl (hb hbytes d13) rfl rfl hz ?_
        exact Steps.refl _)
      have c6 : Steps p.tables e below (s₁.setTop (entryFrame m #[.ref b, .int (Int32.ofNat o), .ref d, .int (Int32.ofNat q), .int (Int32.ofNat len)] 7)) (Tl.setTop (mkF m 31 #[.val (.ref b), .val (.int (Int32.ofNat (o + i))), .val (.ref d), .val (.int (Int32.ofNat (q + i))), .val (.int (Int32.ofNat len)), .val (.int (Int32.ofNat i)), .val (.int (cv A (o + i)))] [.int (lo8 (cv A (o + i))), .int (Int32.ofNat (q + i)), .ref d])) := c5.trans (by
        refine XS.iload Xl.here hexec rfl (hb hbytes d15) rfl ?_
        refine sipushV Xl.here hexec rfl 255 (hb hbytes d17) (by decide) ?_
        refine XS.icmpYes Xl.here hexec rfl (pc0 := 20) rfl (hb hbytes d20) rfl (ii_le_t (hp i (by omega))) (by decide) rfl ?_
        refine XS.aloadN Xl.here hexec rfl (hb hbytes d26) rfl rfl ?_
        refine XS.iloadN Xl.here hexec rfl (hb hbytes d27) rfl ?_
        refine XS.iload Xl.here hexec rfl (hb hbytes d28) rfl ?_
        refine i2b Xl.here hexec rfl (hb hbytes d30) rfl ?_
        exact Steps.refl _)
      obtain ⟨T7, X7, p7, st7⟩ := Xl.aput hexec hBk rfl hlt rfl (fits_lo8 (cv A (o + i))) (g := (mkF m 31 #[.val (.ref b), .val (.int (Int32.ofNat (o + i))), .val (.ref d), .val (.int (Int32.ofNat (q + i))), .val (.int (Int32.ofNat len)), .val (.int (Int32.ofNat i)), .val (.int (cv A (o + i)))] [.int (lo8 (cv A (o + i))), .int (Int32.ofNat (q + i)), .ref d])) rfl (rest := []) rfl (hb hbytes d31)
      have c8 : Steps p.tables e below (s₁.setTop (entryFrame m #[.ref b, .int (Int32.ofNat o), .ref d, .int (Int32.ofNat q), .int (Int32.ofNat len)] 7)) (T7.setTop (mkF m 32 #[.val (.ref b), .val (.int (Int32.ofNat (o + i))), .val (.ref d), .val (.int (Int32.ofNat (q + i))), .val (.int (Int32.ofNat len)), .val (.int (Int32.ofNat i)), .val (.int (cv A (o + i)))] [])) := c6.trans (st7 _ (Steps.refl _))
      have c9 : Steps p.tables e below (s₁.setTop (entryFrame m #[.ref b, .int (Int32.ofNat o), .ref d, .int (Int32.ofNat q), .int (Int32.ofNat len)] 7)) (T7.setTop (mkF m 3 #[.val (.ref b), .val (.int (Int32.ofNat (o + i) + 1)), .val (.ref d), .val (.int (Int32.ofNat (q + i) + 1)), .val (.int (Int32.ofNat len)), .val (.int (Int32.ofNat i + 1)), .val (.int (cv A (o + i)))] [])) := c8.trans (by
        refine iincV X7.here hexec rfl 1 (hb hbytes d32) (by decide) rfl rfl ?_
        refine iincV X7.here hexec rfl 1 (hb hbytes d35) (by decide) rfl rfl ?_
        refine iincV X7.here hexec rfl 1 (hb hbytes d38) (by decide) rfl rfl ?_
        refine XS.goto X7.here hexec rfl (pc0 := 41) rfl (hb hbytes d41) (by decide) rfl ?_
        exact Steps.refl _)
      have c10 : Steps p.tables e below (s₁.setTop (entryFrame m #[.ref b, .int (Int32.ofNat o), .ref d, .int (Int32.ofNat q), .int (Int32.ofNat len)] 7)) (T7.setTop (mkF m 3 #[.val (.ref b), .val (.int (Int32.ofNat (o + (i + 1)))), .val (.ref d), .val (.int (Int32.ofNat (q + (i + 1)))), .val (.int (Int32.ofNat len)), .val (.int (Int32.ofNat (i + 1))), .val (.int (cv A (o + i)))] [])) := by
        have := c9
        rw [succ32, succ32, succ32] at this
        exact this
      exact ih (i + 1) (by omega) _ (Or.inr ⟨_, rfl, rfl⟩) T7 _ (by rw [copyLocs_step, ← List.append_assoc]; exact X7) (pl.trans p7) (fl.step (by omega) hlt (by simp)) c10
  obtain ⟨T9, B9, z9, X9, p9, f9, g9⟩ := loop len 0 (by omega) .unset (Or.inl rfl) s₁ B (by simpa [copyLocs] using X0) ⟨hB0.1, fun _ _ => rfl, rfl⟩ (Laid.zero _ _ _) c2
  have c11 : Steps p.tables e below (s₁.setTop (entryFrame m #[.ref b, .int (Int32.ofNat o), .ref d, .int (Int32.ofNat q), .int (Int32.ofNat len)] 7)) (T9.setTop (mkF m 46 #[.val (.ref b), .val (.int (Int32.ofNat (o + len))), .val (.ref d), .val (.int (Int32.ofNat (q + len))), .val (.int (Int32.ofNat len)), .val (.int (Int32.ofNat len)), z9] [.int (Int32.ofNat len)])) := g9.trans (by
    refine XS.iload X9.here hexec rfl (hb hbytes d3) rfl ?_
    refine XS.iload X9.here hexec rfl (hb hbytes d5) rfl ?_
    refine XS.icmpYes X9.here hexec rfl (pc0 := 7) rfl (hb hbytes d7) rfl (ii_ge_t (nlt32 (by omega) (Nat.le_refl _))) (by decide) rfl ?_
    refine XS.iload X9.here hexec rfl (hb hbytes d44) rfl ?_
    exact Steps.refl _)
  exact ⟨T9, some (.int (Int32.ofNat len)), _, _, _, X9, by simp, rfl, rfl, (fun h => by cases h), ⟨rfl, B9, p9.from hh0, f9⟩, fun fs hl => c11.trans (X9.ireturnOut hexec hret rfl (Or.inl rfl) (hb hbytes d46) hl)⟩
end Cmp5
namespace Cmp3
def yN : MethodName := ⟨"java/lang/StringUTF16", "compress", "([CII)[B"⟩
abbrev yB : ByteArray := jdk_52_method_16_code
theorem d0 : decode yB 0 = .ok (.iload_n 2, 1) := by decide +kernel
theorem d1 : decode yB 1 = .ok (.newarray .byte, 2) := by decide +kernel
theorem d3 : decode yB 3 = .ok (.astore_n 3, 1) := by decide +kernel
theorem d4 : decode yB 4 = .ok (.aload_n 0, 1) := by decide +kernel
theorem d5 : decode yB 5 = .ok (.iload_n 1, 1) := by decide +kernel
theorem d6 : decode yB 6 = .ok (.aload_n 3, 1) := by decide +kernel
theorem d7 : decode yB 7 = .ok (.iconst 0, 1) := by decide +kernel
theorem d8 : decode yB 8 = .ok (.iload_n 2, 1) := by decide +kernel
theorem d9 : decode yB 9 = .ok (.invokestatic 115, 3) := by decide +kernel
theorem d12 : decode yB 12 = .ok (.istore 4, 2) := by decide +kernel
theorem d14 : decode yB 14 = .ok (.iload 4, 2) := by decide +kernel
theorem d16 : decode yB 16 = .ok (.iload_n 2, 1) := by decide +kernel
theorem d17 : decode yB 17 = .ok (.if_icmp (.eq) 40, 3) := by decide +kernel
theorem d57 : decode yB 57 = .ok (.aload_n 3, 1) := by decide +kernel
theorem d58 : decode yB 58 = .ok (.areturn, 1) := by decide +kernel
def site : List Cond := [.arrayClass .byte, Cmp5.tab] ++ staticW U16 115 Cmp5.yN
def tab : Cond := tabOf yN yB 6 (some (.array .byte)) site
def P (b : Addr) (A : Cell) (o len : Nat) (args : Array Value) (s : State) : Prop := args = #[.ref b, .int (Int32.ofNat o), .int (Int32.ofNat len)] ∧ Ch b A s ∧ o + len ≤ A.slots.size ∧ len ≤ 536870912 ∧ ∀ i, i < len → ¬ 255 < cv A (o + i)
def E (b : Addr) (A : Cell) (o len : Nat) (r : Option Value) (s u : State) : Prop := NewArr .byte "[B" len (fun j => .int (lo8 (cv A (o + j)))) r s u ∧ u.heap.size = s.heap.size + 1
/-- no char of the range above 255: a new byte[] of their low bytes -/
theorem law (l : Launch) (b : Addr) (A : Cell) (o len : Nat) : Law l yN 3 3 1 18 yB 6 (some (.array .byte)) site (P b A o len) (E b A o len) [] 1 len := by
  refine Law.of_walk (plainFor_of_name (by decide +kernel)) (by decide +kernel) (by decide +kernel) (by decide) (fun _ _ h => by rw [h.1]; rfl) (fun _ U U' hal hh h => ⟨h.1, h.2.1.mv hal hh, h.2.2⟩) (fun r U U' V V' h1 hal h2 h => ⟨NewArr.mv r U U' V V' h1 hal h2 h.1, by rw [h1, h2]; exact h.2⟩) ?_
  intro p e s m args below meth c s₁ X0 hexec hbytes hml hret hlk hnm hown hh0 W hP
  obtain ⟨rfl, hA, l1, l2, hp⟩ := hP
  have a31 := hA.1.2.2.2
  have c1 : Steps p.tables e below (s₁.setTop (entryFrame m #[.ref b, .int (Int32.ofNat o), .int (Int32.ofNat len)] 6)) (s₁.setTop (mkF m 0 #[.val (.ref b), .val (.int (Int32.ofNat o)), .val (.int (Int32.ofNat len)), .unset, .unset, .unset] [])) := entry rfl
  have c2 : Steps p.tables e below (s₁.setTop (entryFrame m #[.ref b, .int (Int32.ofNat o), .int (Int32.ofNat len)] 6)) (s₁.setTop (mkF m 1 #[.val (.ref b), .val (.int (Int32.ofNat o)), .val (.int (Int32.ofNat len)), .unset, .unset, .unset] [.int (Int32.ofNat len)])) := c1.trans (by
    refine XS.iloadN X0.here hexec rfl (hb hbytes d0) rfl ?_
    exact Steps.refl _)
  obtain ⟨T3, B3, X3, ba3, bs3, bv3, bh3, bf3, st3⟩ := X0.anew hexec (atype := .byte) (wk W (.arrayClass .byte)) rfl (by show len * 1 ≤ _; omega) (by omega) (g := (mkF m 1 #[.val (.ref b), .val (.int (Int32.ofNat o)), .val (.int (Int32.ofNat len)), .unset, .unset, .unset] [.int (Int32.ofNat len)])) rfl (hb hbytes d1) (rest := []) rfl (Nat.le_refl _) (by show 0 + len ≤ len; omega)
  rw [hh0] at ba3 st3
  have kp3 : XT.Kept s T3 := (XT.Kept.of_eq hh0).push bh3
  have hA3 := hA.keep X3.warmed.alike (kp3 _ _ hA.1.1)
  have hne : b ≠ s.heap.size := hA.1.ne
  have c4 : Steps p.tables e below (s₁.setTop (entryFrame m #[.ref b, .int (Int32.ofNat o), .int (Int32.ofNat len)] 6)) (T3.setTop (mkF m 3 #[.val (.ref b), .val (.int (Int32.ofNat o)), .val (.int (Int32.ofNat len)), .unset, .unset, .unset] [.ref s.heap.size])) := c2.trans (st3 _ (Steps.refl _))
  have c5 : Steps p.tables e below (s₁.setTop (entryFrame m #[.ref b, .int (Int32.ofNat o), .int (Int32.ofNat len)] 6)) (T3.setTop (mkF m 9 #[.val (.ref b), .val (.int (Int32.ofNat o)), .val (.int (Int32.ofNat len)), .val (.ref s.heap.size), .unset, .unset] [.int (Int32.ofNat len), .int 0, .ref s.heap.size, .int (Int32.ofNat o), .ref b])) := c4.trans (by
    refine XS.astoreN X3.here hexec rfl (hb hbytes d3) rfl rfl rfl ?_
    refine XS.aloadN X3.here hexec rfl (hb hbytes d4) rfl rfl ?_
    refine XS.iloadN X3.here hexec rfl (hb hbytes d5) rfl ?_
    refine XS.aloadN X3.here hexec rfl (hb hbytes d6) rfl rfl ?_
    refine iconstV X3.here hexec rfl 0 (hb hbytes d7) (by decide) ?_
    refine XS.iloadN X3.here hexec rfl (hb hbytes d8) rfl ?_
    exact Steps.refl _)
  obtain ⟨v6, T6, X6, E6, g6⟩ := X3.callS hexec (Cmp5.law l b A s.heap.size B3 o 0 len) hown (wks W (staticW U16 115 Cmp5.yN)) (wk W Cmp5.tab) (W := 0) (Nat.le_of_ble_eq_true rfl) (Nat.le_of_ble_eq_true rfl) (Nat.le_refl _) (by show 0 + len + 0 ≤ len; omega) (g := (mkF m 9 #[.val (.ref b), .val (.int (Int32.ofNat o)), .val (.int (Int32.ofNat len)), .val (.ref s.heap.size), .unset, .unset] [.int (Int32.ofNat len), .int (Int32.ofNat 0), .ref s.heap.size, .int (Int32.ofNat o), .ref b])) rfl (by rw [hml]; rfl) c5 (argsL := [.ref b, .int (Int32.ofNat o), .ref s.heap.size, .int (Int32.ofNat 0), .int (Int32.ofNat len)]) (rest := []) rfl rfl (by show 2 * 0 + 0 ≤ _; decide) (hb hbytes d9) (⟨rfl, hA3, ba3, hne, l1, by rw [bs3]; simp, hp⟩)
  obtain ⟨rfl, B6, p6, f6⟩ := E6
  have c7 : Steps p.tables e below (s₁.setTop (entryFrame m #[.ref b, .int (Int32.ofNat o), .int (Int32.ofNat len)] 6)) (T6.setTop (mkF m 12 #[.val (.ref b), .val (.int (Int32.ofNat o)), .val (.int (Int32.ofNat len)), .val (.ref s.heap.size), .unset, .unset] [.int (Int32.ofNat len)])) := g6
  have c8 : Steps p.tables e below (s₁.setTop (entryFrame m #[.ref b, .int (Int32.ofNat o), .int (Int32.ofNat len)] 6)) (T6.setTop (mkF m 58 #[.val (.ref b), .val (.int (Int32.ofNat o)), .val (.int (Int32.ofNat len)), .val (.ref s.heap.size), .val (.int (Int32.ofNat len)), .unset] [.ref s.heap.size])) := c7.trans (by
    refine XS.istore X6.here hexec rfl (hb hbytes d12) rfl rfl ?_
    refine XS.iload X6.here hexec rfl (hb hbytes d14) rfl ?_
    refine XS.iloadN X6.here hexec rfl (hb hbytes d16) rfl ?_
    refine XS.icmpYes X6.here hexec rfl (pc0 := 17) rfl (hb hbytes d17) rfl (ii_eq_t rfl) (by decide) rfl ?_
    refine XS.aloadN X6.here hexec rfl (hb hbytes d57) rfl rfl ?_
    exact Steps.refl _)
  have X8 := X6.wide (L' := []) (cells' := 1) (slots' := len) (fun x hx hlt => by
    simp only [List.nil_append, copyLocs, List.mem_map, List.mem_range] at hx
    obtain ⟨i, -, rfl⟩ := hx
    exact absurd hlt (Nat.lt_irrefl _)) (Nat.le_refl _) (by omega)
  exact ⟨T6, some (.ref s.heap.size), _, _, _, X8, rfl, rfl, rfl, (fun h => by cases h), ⟨⟨rfl, B6, ba3.like (X3.warmed.alike.symm.trans X6.warmed.alike) p6.1 f6.1 f6.2.1 f6.2.2.1, f6.2.1.trans bv3, by rw [X6.warmed.alike.findClass, f6.1]; exact bf3, by rw [f6.2.2.1, bs3]; simp, fun j hj => by rw [f6.2.2.2 j, if_pos (by omega)]; rfl, kp3.put p6 (Nat.le_refl _)⟩, by rw [p6.2.2, bh3, hh0]; simp⟩, fun fs hl => c8.trans (X8.areturnOut hexec rfl hret rfl (hb hbytes d58) hl)⟩
end Cmp3
namespace CodL
def yN : MethodName := ⟨"java/lang/StringUTF16", "coderFromArrayLen", "([BI)B"⟩
abbrev yB : ByteArray := jdk_52_method_15_code
theorem d0 : decode yB 0 = .ok (.iload_n 1, 1) := by decide +kernel
theorem d1 : decode yB 1 = .ok (.aload_n 0, 1) := by decide +kernel
theorem d2 : decode yB 2 = .ok (.arraylength, 1) := by decide +kernel
theorem d3 : decode yB 3 = .ok (.isub, 1) := by decide +kernel
theorem d4 : decode yB 4 = .ok (.bipush 31, 2) := by decide +kernel
theorem d6 : decode yB 6 = .ok (.iushr, 1) := by decide +kernel
theorem d7 : decode yB 7 = .ok (.i2b, 1) := by decide +kernel
theorem d8 : decode yB 8 = .ok (.ireturn, 1) := by decide +kernel
def site : List Cond := []
def tab : Cond := tabOf yN yB 2 (some .byte) site
def P (d : Addr) (B : Cell) (args : Array Value) (s : State) : Prop := args = #[.ref d, .int (Int32.ofNat B.slots.size)] ∧ Arr .byte d B s
def E (r : Option Value) (s u : State) : Prop := XT.PureE (some (.int 0)) r s u
/-- an array as long as the number of chars: LATIN1 -/
theorem law (l : Launch) (d : Addr) (B : Cell) : Law l yN 2 2 0 0 yB 2 (some .byte) site (P d B) E [] 0 0 := by
  refine Law.of_walk (plainFor_of_name (by decide +kernel)) (by decide +kernel) (by decide +kernel) (by decide) (fun _ _ h => by rw [h.1]; rfl) (fun _ U U' hal hh h => ⟨h.1, h.2.mv hal hh⟩) (fun r U U' V V' h1 hal h2 h => XT.PureE.mv r U U' V V' h1 hal h2 h) ?_
  intro p e s m args below meth c s₁ X0 hexec hbytes hml hret hlk hnm hown hh0 W hP
  obtain ⟨rfl, hB⟩ := hP
  have hB0 := hB.mv X0.warmed.alike hh0
  have c1 : Steps p.tables e below (s₁.setTop (entryFrame m #[.ref d, .int (Int32.ofNat B.slots.size)] 2)) (s₁.setTop (mkF m 0 #[.val (.ref d), .val (.int (Int32.ofNat B.slots.size))] [])) := entry rfl
  have c2 : Steps p.tables e below (s₁.setTop (entryFrame m #[.ref d, .int (Int32.ofNat B.slots.size)] 2)) (s₁.setTop (mkF m 2 #[.val (.ref d), .val (.int (Int32.ofNat B.slots.size))] [.ref d, .int (Int32.ofNat B.slots.size)])) := c1.trans (by
    refine XS.iloadN X0.here hexec rfl (hb hbytes d0) rfl ?_
    refine XS.aloadN X0.here hexec rfl (hb hbytes d1) rfl rfl ?_
    exact Steps.refl _)
  have c3 : Steps p.tables e below (s₁.setTop (entryFrame m #[.ref d, .int (Int32.ofNat B.slots.size)] 2)) (s₁.setTop (mkF m 8 #[.val (.ref d), .val (.int (Int32.ofNat B.slots.size))] [.int (lo8 (ushr (Int32.ofNat B.slots.size - Int32.ofNat B.slots.size) 31))])) := c2.trans (by
    refine X0.alen hexec hB0 rfl rfl (hb hbytes d2) ?_
    refine XS.isub X0.here hexec rfl (hb hbytes d3) rfl ?_
    refine bipushV X0.here hexec rfl 31 (hb hbytes d4) (by decide) ?_
    refine iushr X0.here hexec rfl (hb hbytes d6) rfl ?_
    refine i2b X0.here hexec rfl (hb hbytes d7) rfl ?_
    exact Steps.refl _)
  have e0 : lo8 (ushr (Int32.ofNat B.slots.size - Int32.ofNat B.slots.size) 31) = 0 := by rw [Int32.sub_self]; decide
  rw [e0] at c3
  exact ⟨s₁, some (.int 0), _, _, _, X0, rfl, rfl, rfl, (fun h => by cases h), ⟨rfl, hh0⟩, fun fs hl => c3.trans (X0.ireturnOut hexec hret rfl (Or.inr (Or.inr (Or.inl rfl))) (hb hbytes d8) hl)⟩
end CodL
/-- the String at a is Latin-1 over a new byte[] (the heap's one new cell): the low bytes of the len chars of A from o on; every cell but a is kept -/
def Got (a : Addr) (D : Cell) (fV fC : Field) (A : Cell) (o len : Nat) (r : Option Value) (s u : State) : Prop := r = none ∧ ∃ D' V : Cell, Blank "java/lang/String" a D' u ∧ Same D D' [fV.slot, fC.slot] ∧ D'.slots[fV.slot]? = some (.ref s.heap.size) ∧ D'.slots[fC.slot]? = some (.int 0) ∧ Arr .byte s.heap.size V u ∧ V.vm = .none ∧ u.vm.findClass "[B" = some V.cls ∧ V.slots.size = len ∧ (∀ j, j < len → V.slots[j]? = some (.int (lo8 (cv A (o + j))))) ∧ (∀ (y : Addr) (c : Cell), y ≠ a → s.heap[y]? = some c → u.heap[y]? = some c) ∧ u.heap.size = s.heap.size + 1
theorem Got.mv {a : Addr} {D A : Cell} {fV fC : Field} {o len : Nat} : ∀ r (U U' V V' : State), U'.heap = U.heap → V.vm.Alike V'.vm → V'.heap = V.heap → Got a D fV fC A o len r U V → Got a D fV fC A o len r U' V' :=
  fun r U U' V V' h1 hal h2 ⟨e0, D', X, a1, a2, a3, a4, a5, a6, a7, a8, a9, a10, a11⟩ => ⟨e0, D', X, a1.mv hal h2, a2, by rw [h1]; exact a3, a4, by rw [h1]; exact a5.mv hal h2, a6, by rw [hal.findClass]; exact a7, a8, a9, by rw [h1, h2]; exact a10, by rw [h1, h2]; exact a11⟩
namespace New4
def yN : MethodName := ⟨"java/lang/String", "<init>", "([CIILjava/lang/Void;)V"⟩
abbrev yB : ByteArray := jdk_42_method_149_code
theorem d0 : decode yB 0 = .ok (.aload_n 0, 1) := by decide +kernel
theorem d1 : decode yB 1 = .ok (.invokespecial 1, 3) := by decide +kernel
theorem d4 : decode yB 4 = .ok (.iload_n 3, 1) := by decide +kernel
theorem d5 : decode yB 5 = .ok (.ifCond (.ne) 22, 3) := by decide +kernel
theorem d27 : decode yB 27 = .ok (.getstatic 38, 3) := by decide +kernel
theorem d30 : decode yB 30 = .ok (.ifCond (.eq) 28, 3) := by decide +kernel
theorem d33 : decode yB 33 = .ok (.aload_n 1, 1) := by decide +kernel
theorem d34 : decode yB 34 = .ok (.iload_n 2, 1) := by decide +kernel
theorem d35 : decode yB 35 = .ok (.iload_n 3, 1) := by decide +kernel
theorem d36 : decode yB 36 = .ok (.invokestatic 177, 3) := by decide +kernel
theorem d39 : decode yB 39 = .ok (.astore 5, 2) := by decide +kernel
theorem d41 : decode yB 41 = .ok (.aload_n 0, 1) := by decide +kernel
theorem d42 : decode yB 42 = .ok (.aload 5, 2) := by decide +kernel
theorem d44 : decode yB 44 = .ok (.iload_n 3, 1) := by decide +kernel
theorem d45 : decode yB 45 = .ok (.invokestatic 47, 3) := by decide +kernel
theorem d48 : decode yB 48 = .ok (.putfield 15, 3) := by decide +kernel
theorem d51 : decode yB 51 = .ok (.aload_n 0, 1) := by decide +kernel
theorem d52 : decode yB 52 = .ok (.aload 5, 2) := by decide +kernel
theorem d54 : decode yB 54 = .ok (.putfield 9, 3) := by decide +kernel
theorem d57 : decode yB 57 = .ok (.return_, 1) := by decide +kernel
def site : List Cond := [.fieldLink "java/lang/String" 38 "java/lang/String" "COMPACT_STRINGS" "Z", Cmp3.tab, CodL.tab, .laysFinal "java/lang/String" "java/lang/String" "value" "[B", .fieldLink "java/lang/String" 9 "java/lang/String" "value" "[B", .laysFinal "java/lang/String" "java/lang/String" "coder" "B", .fieldLink "java/lang/String" 15 "java/lang/String" "coder" "B"] ++ objW "java/lang/String" 1 ++ staticW "java/lang/String" 177 Cmp3.yN ++ staticW "java/lang/String" 47 CodL.yN
def tab : Cond := tabOf yN yB 6 none site
def P (a : Addr) (D : Cell) (fV fC : Field) (b : Addr) (A : Cell) (z : Int32) (o len : Nat) (args : Array Value) (s : State) : Prop := args = #[.ref a, .ref b, .int (Int32.ofNat o), .int (Int32.ofNat len), .null] ∧ Blank "java/lang/String" a D s ∧ Found "java/lang/String" "value" "[B" fV s ∧ Found "java/lang/String" "coder" "B" fC s ∧ Ch b A s ∧ StaticIs s "java/lang/String" "COMPACT_STRINGS" "Z" (.int z) ∧ ¬ z = 0 ∧ 0 < len ∧ o + len ≤ A.slots.size ∧ len ≤ 536870912 ∧ ∀ i, i < len → ¬ 255 < cv A (o + i)
def E (a : Addr) (D : Cell) (fV fC : Field) (A : Cell) (o len : Nat) (r : Option Value) (s u : State) : Prop := Got a D fV fC A o len r s u
/-- len > 0, no char of the range above 255: a Latin-1 String of their low bytes -/
theorem law (l : Launch) (a : Addr) (D : Cell) (fV fC : Field) (b : Addr) (A : Cell) (z : Int32) (o len : Nat) : Law l yN 5 4 2 35 yB 6 none site (P a D fV fC b A z o len) (E a D fV fC A o len) [⟨a, fC.slot⟩, ⟨a, fV.slot⟩] 1 len := by
  refine Law.of_walk (plainFor_of_name (by decide +kernel)) (by decide +kernel) (by decide +kernel) (by decide) (fun _ _ h => by rw [h.1]; rfl) (fun _ U U' hal hh h => ⟨h.1, h.2.1.mv hal hh, h.2.2.1.al hal, h.2.2.2.1.al hal, h.2.2.2.2.1.mv hal hh, h.2.2.2.2.2.1.there hal hh, h.2.2.2.2.2.2⟩) (fun r U U' V V' h1 hal h2 h => Got.mv r U U' V V' h1 hal h2 h) ?_
  intro p e s m args below meth c s₁ X0 hexec hbytes hml hret hlk hnm hown hh0 W hP
  obtain ⟨rfl, hB, f1, f2, hA, s1, hz, l0, l1, l2, hp⟩ := hP
  have a31 := hA.1.2.2.2
  have c1 : Steps p.tables e below (s₁.setTop (entryFrame m #[.ref a, .ref b, .int (Int32.ofNat o), .int (Int32.ofNat len), .null] 6)) (s₁.setTop (mkF m 0 #[.val (.ref a), .val (.ref b), .val (.int (Int32.ofNat o)), .val (.int (Int32.ofNat len)), .val .null, .unset] [])) := entry rfl
  have c2 : Steps p.tables e below (s₁.setTop (entryFrame m #[.ref a, .ref b, .int (Int32.ofNat o), .int (Int32.ofNat len), .null] 6)) (s₁.setTop (mkF m 1 #[.val (.ref a), .val (.ref b), .val (.int (Int32.ofNat o)), .val (.int (Int32.ofNat len)), .val .null, .unset] [.ref a])) := c1.trans (by
    refine XS.aloadN X0.here hexec rfl (hb hbytes d0) rfl rfl ?_
    exact Steps.refl _)
  obtain ⟨T3, X3, q3, st3⟩ := X0.oinit hexec hown (wks W (objW "java/lang/String" 1)) (g := (mkF m 1 #[.val (.ref a), .val (.ref b), .val (.int (Int32.ofNat o)), .val (.int (Int32.ofNat len)), .val .null, .unset] [.ref a])) rfl (by rw [hml]; rfl) (rest := []) rfl (hb hbytes d1) (W := 0) (by show 2 * 0 + 0 ≤ _; decide) (Nat.le_of_ble_eq_true rfl) (Nat.le_of_ble_eq_true rfl)
  have hh3 := q3.trans hh0
  have c4 : Steps p.tables e below (s₁.setTop (entryFrame m #[.ref a, .ref b, .int (Int32.ofNat o), .int (Int32.ofNat len), .null] 6)) (T3.setTop (mkF m 27 #[.val (.ref a), .val (.ref b), .val (.int (Int32.ofNat o)), .val (.int (Int32.ofNat len)), .val .null, .unset] [])) := (c2.trans (st3 _ (Steps.refl _))).trans (by
    refine XS.iloadN X3.here hexec rfl (hb hbytes d4) rfl ?_
    refine XS.ifYes X3.here hexec rfl (pc0 := 5) rfl (hb hbytes d5) rfl (i0_ne_t (nz32 (by omega) l0)) (by decide) rfl ?_
    exact Steps.refl _)
  obtain ⟨T5, X5, q5, st5⟩ := X3.sget hexec hown (wk W (.fieldLink "java/lang/String" 38 "java/lang/String" "COMPACT_STRINGS" "Z")) s1 (fun _ _ h => by rw [hh3]; exact h) (g := (mkF m 27 #[.val (.ref a), .val (.ref b), .val (.int (Int32.ofNat o)), .val (.int (Int32.ofNat len)), .val .null, .unset] [])) rfl (hb hbytes d27)
  have hh5 := q5.trans hh3
  have c6 : Steps p.tables e below (s₁.setTop (entryFrame m #[.ref a, .ref b, .int (Int32.ofNat o), .int (Int32.ofNat len), .null] 6)) (T5.setTop (mkF m 30 #[.val (.ref a), .val (.ref b), .val (.int (Int32.ofNat o)), .val (.int (Int32.ofNat len)), .val .null, .unset] [.int z])) := c4.trans (st5 _ (Steps.refl _))
  have c7 : Steps p.tables e below (s₁.setTop (entryFrame m #[.ref a, .ref b, .int (Int32.ofNat o), .int (Int32.ofNat len), .null] 6)) (T5.setTop (mkF m 36 #[.val (.ref a), .val (.ref b), .val (.int (Int32.ofNat o)), .val (.int (Int32.ofNat len)), .val .null, .unset] [.int (Int32.ofNat len), .int (Int32.ofNat o), .ref b])) := c6.trans (by
    refine XS.ifNo X5.here hexec rfl (hb hbytes d30) rfl (i0_eq_f hz) ?_
    refine XS.aloadN X5.here hexec rfl (hb hbytes d33) rfl rfl ?_
    refine XS.iloadN X5.here hexec rfl (hb hbytes d34) rfl ?_
    refine XS.iloadN X5.here hexec rfl (hb hbytes d35) rfl ?_
    exact Steps.refl _)
  obtain ⟨v8, T8, X8, E8, g8⟩ := X5.callS hexec (Cmp3.law l b A o len) hown (wks W (staticW "java/lang/String" 177 Cmp3.yN)) (wk W Cmp3.tab) (W := 0) (Nat.le_of_ble_eq_true rfl) (Nat.le_of_ble_eq_true rfl) (Nat.le_refl _) (by show 0 + len ≤ len; omega) (g := (mkF m 36 #[.val (.ref a), .val (.ref b), .val (.int (Int32.ofNat o)), .val (.int (Int32.ofNat len)), .val .null, .unset] [.int (Int32.ofNat len), .int (Int32.ofNat o), .ref b])) rfl (by rw [hml]; rfl) c7 (argsL := [.ref b, .int (Int32.ofNat o), .int (Int32.ofNat len)]) (rest := []) rfl rfl (by show 2 * 0 + 0 ≤ _; decide) (hb hbytes d36) (⟨rfl, hA.mv X5.warmed.alike hh5, l1, l2, hp⟩)
  obtain ⟨e8, z8⟩ := E8
  obtain ⟨rfl, N, n1, n2, n3, n4, n5, n6⟩ := NewArr.mv _ T5 s _ _ hh5.symm (Vm.Alike.refl _) rfl e8
  rw [hh5] at z8
  have hB1 := hB.keep X8.warmed.alike (n6 _ _ hB.1)
  have hne : s.heap.size ≠ a := (Nat.ne_of_lt (Array.getElem?_eq_some_iff.mp hB.1).1).symm
  have c9 : Steps p.tables e below (s₁.setTop (entryFrame m #[.ref a, .ref b, .int (Int32.ofNat o), .int (Int32.ofNat len), .null] 6)) (T8.setTop (mkF m 39 #[.val (.ref a), .val (.ref b), .val (.int (Int32.ofNat o)), .val (.int (Int32.ofNat len)), .val .null, .unset] [.ref s.heap.size])) := g8
  have c10 : Steps p.tables e below (s₁.setTop (entryFrame m #[.ref a, .ref b, .int (Int32.ofNat o), .int (Int32.ofNat len), .null] 6)) (T8.setTop (mkF m 45 #[.val (.ref a), .val (.ref b), .val (.int (Int32.ofNat o)), .val (.int (Int32.ofNat len)), .val .null, .val (.ref s.heap.size)] [.int (Int32.ofNat N.slots.size), .ref s.heap.size, .ref a])) := by
    have hc : Steps p.tables e below (s₁.setTop (entryFrame m #[.ref a, .ref b, .int (Int32.ofNat o), .int (Int32.ofNat len), .null] 6)) (T8.setTop (mkF m 45 #[.val (.ref a), .val (.ref b), .val (.int (Int32.ofNat o)), .val (.int (Int32.ofNat len)), .val .null, .val (.ref s.heap.size)] [.int (Int32.ofNat len), .ref s.heap.size, .ref a])) := c9.trans (by
      refine XS.astore X8.here hexec rfl (hb hbytes d39) rfl rfl rfl ?_
      refine XS.aloadN X8.here hexec rfl (hb hbytes d41) rfl rfl ?_
      refine XS.aload X8.here hexec rfl (hb hbytes d42) rfl rfl ?_
      refine XS.iloadN X8.here hexec rfl (hb hbytes d44) rfl ?_
      exact Steps.refl _)
    rw [n4]; exact hc
  obtain ⟨v11, T11, X11, E11, g11⟩ := X8.callS hexec (CodL.law l s.heap.size N) hown (wks W (staticW "java/lang/String" 47 CodL.yN)) (wk W CodL.tab) (W := 1) (Nat.le_of_ble_eq_true rfl) (Nat.le_of_ble_eq_true rfl) (Nat.le_refl _) (by show 0 + len + 0 ≤ len; omega) (g := (mkF m 45 #[.val (.ref a), .val (.ref b), .val (.int (Int32.ofNat o)), .val (.int (Int32.ofNat len)), .val .null, .val (.ref s.heap.size)] [.int (Int32.ofNat N.slots.size), .ref s.heap.size, .ref a])) rfl (by rw [hml]; rfl) c10 (argsL := [.ref s.heap.size, .int (Int32.ofNat N.slots.size)]) (rest := [.ref a]) rfl rfl (by show 2 * 0 + (1 + 0) ≤ _; decide) (hb hbytes d45) (⟨rfl, n1⟩)
  obtain ⟨rfl, q11⟩ := E11
  have hB11 := hB1.mv (X8.warmed.alike.symm.trans X11.warmed.alike) q11
  have c12 : Steps p.tables e below (s₁.setTop (entryFrame m #[.ref a, .ref b, .int (Int32.ofNat o), .int (Int32.ofNat len), .null] 6)) (T11.setTop (mkF m 48 #[.val (.ref a), .val (.ref b), .val (.int (Int32.ofNat o)), .val (.int (Int32.ofNat len)), .val .null, .val (.ref s.heap.size)] [.int 0, .ref a])) := g11
  obtain ⟨T13, X13, p13, bl13, sl13, st13⟩ := X11.finit hexec hown (wk W (.fieldLink "java/lang/String" 15 "java/lang/String" "coder" "B")) (Or.inr ⟨_, (wk W (.laysFinal "java/lang/String" "java/lang/String" "coder" "B"))⟩) (Or.inl ⟨rfl, hnm⟩) f2 (Or.inl rfl) hB11 (t := .byte) (by decide +kernel) rfl (g := (mkF m 48 #[.val (.ref a), .val (.ref b), .val (.int (Int32.ofNat o)), .val (.int (Int32.ofNat len)), .val .null, .val (.ref s.heap.size)] [.int 0, .ref a])) rfl (rest := []) rfl (hb hbytes d48)
  have c14 : Steps p.tables e below (s₁.setTop (entryFrame m #[.ref a, .ref b, .int (Int32.ofNat o), .int (Int32.ofNat len), .null] 6)) (T13.setTop (mkF m 54 #[.val (.ref a), .val (.ref b), .val (.int (Int32.ofNat o)), .val (.int (Int32.ofNat len)), .val .null, .val (.ref s.heap.size)] [.ref s.heap.size, .ref a])) := (c12.trans (st13 _ (Steps.refl _))).trans (by
    refine XS.aloadN X13.here hexec rfl (hb hbytes d51) rfl rfl ?_
    refine XS.aload X13.here hexec rfl (hb hbytes d52) rfl rfl ?_
    exact Steps.refl _)
  obtain ⟨T15, X15, p15, bl15, sl15, st15⟩ := X13.finit hexec hown (wk W (.fieldLink "java/lang/String" 9 "java/lang/String" "value" "[B")) (Or.inr ⟨_, (wk W (.laysFinal "java/lang/String" "java/lang/String" "value" "[B"))⟩) (Or.inl ⟨rfl, hnm⟩) f1 (Or.inl rfl) bl13 (t := (.array .byte)) (by decide +kernel) rfl (g := (mkF m 54 #[.val (.ref a), .val (.ref b), .val (.int (Int32.ofNat o)), .val (.int (Int32.ofNat len)), .val .null, .val (.ref s.heap.size)] [.ref s.heap.size, .ref a])) rfl (rest := []) rfl (hb hbytes d54)
  have c16 : Steps p.tables e below (s₁.setTop (entryFrame m #[.ref a, .ref b, .int (Int32.ofNat o), .int (Int32.ofNat len), .null] 6)) (T15.setTop (mkF m 57 #[.val (.ref a), .val (.ref b), .val (.int (Int32.ofNat o)), .val (.int (Int32.ofNat len)), .val .null, .val (.ref s.heap.size)] [])) := c14.trans (st15 _ (Steps.refl _))
  have ap := apart (Or.inr ⟨_, (wk W (.laysFinal "java/lang/String" "java/lang/String" "value" "[B"))⟩) (Or.inr ⟨_, (wk W (.laysFinal "java/lang/String" "java/lang/String" "coder" "B"))⟩) f1 f2 (t₁ := .array .byte) (t₂ := .byte) (by decide +kernel) (by decide +kernel) (by decide)
  have al := X8.warmed.alike.symm.trans X15.warmed.alike
  have n7 : T11.heap[s.heap.size]? = some N := by rw [q11]; exact n1.1
  exact ⟨T15, none, _, _, _, X15, by simp, rfl, by omega, (fun _ => rfl), ⟨rfl, _, N, bl15, ((Same.refl D _).set _ (by simp)).set _ (by simp), sl15, (Cell.slots_setSlot_ne _ ap).trans sl13, n1.keep al (p15.other hne (p13.other hne n7)), n2, by rw [al.findClass]; exact n3, n4, n5, fun y c h1 h2 => p15.other h1 (p13.other h1 (by rw [q11]; exact n6 y c h2)), by rw [p15.2.2, p13.2.2, q11]; exact z8⟩, fun fs hl => c16.trans (X15.returnOut hexec hret (hb hbytes d57) hl)⟩
end New4
namespace New1
def yN : MethodName := ⟨"java/lang/String", "<init>", "([C)V"⟩
abbrev yB : ByteArray := jdk_42_method_3_code
theorem d0 : decode yB 0 = .ok (.aload_n 0, 1) := by decide +kernel
theorem d1 : decode yB 1 = .ok (.aload_n 1, 1) := by decide +kernel
theorem d2 : decode yB 2 = .ok (.iconst 0, 1) := by decide +kernel
theorem d3 : decode yB 3 = .ok (.aload_n 1, 1) := by decide +kernel
theorem d4 : decode yB 4 = .ok (.arraylength, 1) := by decide +kernel
theorem d5 : decode yB 5 = .ok (.aconst_null, 1) := by decide +kernel
theorem d6 : decode yB 6 = .ok (.invokespecial 27, 3) := by decide +kernel
theorem d9 : decode yB 9 = .ok (.return_, 1) := by decide +kernel
def site : List Cond := [New4.tab] ++ initW "java/lang/String" 27 New4.yN
def tab : Cond := tabOf yN yB 2 none site
def P (a : Addr) (D : Cell) (fV fC : Field) (b : Addr) (A : Cell) (z : Int32) (args : Array Value) (s : State) : Prop := args = #[.ref a, .ref b] ∧ Blank "java/lang/String" a D s ∧ Found "java/lang/String" "value" "[B" fV s ∧ Found "java/lang/String" "coder" "B" fC s ∧ Ch b A s ∧ StaticIs s "java/lang/String" "COMPACT_STRINGS" "Z" (.int z) ∧ ¬ z = 0 ∧ 0 < A.slots.size ∧ A.slots.size ≤ 536870912 ∧ ∀ i, i < A.slots.size → ¬ 255 < cv A i
def E (a : Addr) (D : Cell) (fV fC : Field) (A : Cell) (r : Option Value) (s u : State) : Prop := Got a D fV fC A 0 A.slots.size r s u
/-- new String(chars), not empty, no char above 255: a Latin-1 String of their low bytes -/
theorem law (l : Launch) (a : Addr) (D : Cell) (fV fC : Field) (b : Addr) (A : Cell) (z : Int32) : Law l yN 2 1 3 52 yB 2 none site (P a D fV fC b A z) (E a D fV fC A) [⟨a, fC.slot⟩, ⟨a, fV.slot⟩] 1 A.slots.size := by
  refine Law.of_walk (plainFor_of_name (by decide +kernel)) (by decide +kernel) (by decide +kernel) (by decide) (fun _ _ h => by rw [h.1]; rfl) (fun _ U U' hal hh h => ⟨h.1, h.2.1.mv hal hh, h.2.2.1.al hal, h.2.2.2.1.al hal, h.2.2.2.2.1.mv hal hh, h.2.2.2.2.2.1.there hal hh, h.2.2.2.2.2.2⟩) (fun r U U' V V' h1 hal h2 h => Got.mv r U U' V V' h1 hal h2 h) ?_
  intro p e s m args below meth c s₁ X0 hexec hbytes hml hret hlk hnm hown hh0 W hP
  obtain ⟨rfl, hB, f1, f2, hA, s1, hz, l0, l2, hp⟩ := hP
  have c1 : Steps p.tables e below (s₁.setTop (entryFrame m #[.ref a, .ref b] 2)) (s₁.setTop (mkF m 0 #[.val (.ref a), .val (.ref b)] [])) := entry rfl
  have c2 : Steps p.tables e below (s₁.setTop (entryFrame m #[.ref a, .ref b] 2)) (s₁.setTop (mkF m 6 #[.val (.ref a), .val (.ref b)] [.null, .int (Int32.ofNat A.slots.size), .int 0, .ref b, .ref a])) := c1.trans (by
    refine XS.aloadN X0.here hexec rfl (hb hbytes d0) rfl rfl ?_
    refine XS.aloadN X0.here hexec rfl (hb hbytes d1) rfl rfl ?_
    refine iconstV X0.here hexec rfl 0 (hb hbytes d2) (by decide) ?_
    refine XS.aloadN X0.here hexec rfl (hb hbytes d3) rfl rfl ?_
    refine X0.alen hexec (hA.1.mv X0.warmed.alike hh0) rfl rfl (hb hbytes d4) ?_
    refine XS.aconstNull X0.here hexec rfl (hb hbytes d5) ?_
    exact Steps.refl _)
  obtain ⟨v3, T3, X3, E3, g3⟩ := X0.callN hexec (New4.law l a D fV fC b A z 0 A.slots.size) rfl hown (wks W (initW "java/lang/String" 27 New4.yN)) (W New4.tab (by simp only [site, List.mem_cons, List.mem_append, true_or, or_true])) (W := 0) (Nat.le_of_ble_eq_true rfl) (Nat.le_of_ble_eq_true rfl) (Nat.le_refl _) (by show 0 + A.slots.size ≤ A.slots.size; omega) (g := (mkF m 6 #[.val (.ref a), .val (.ref b)] [.null, .int (Int32.ofNat A.slots.size), .int (Int32.ofNat 0), .ref b, .ref a])) rfl (by rw [hml]; rfl) c2 (argsL := [.ref b, .int (Int32.ofNat 0), .int (Int32.ofNat A.slots.size), .null]) (rest := []) rfl rfl (by show 2 * 0 + 0 ≤ _; decide) (hb hbytes d6) (⟨rfl, hB.mv X0.warmed.alike hh0, f1.al X0.warmed.alike, f2.al X0.warmed.alike, hA.mv X0.warmed.alike hh0, s1.there X0.warmed.alike hh0, hz, l0, by omega, l2, fun i hi => by rw [Nat.zero_add]; exact hp i hi⟩)
  have e0 := Got.mv _ s₁ s _ _ hh0.symm (Vm.Alike.refl _) rfl E3
  obtain rfl := e0.1
  have c4 : Steps p.tables e below (s₁.setTop (entryFrame m #[.ref a, .ref b] 2)) (T3.setTop (mkF m 9 #[.val (.ref a), .val (.ref b)] [])) := g3
  exact ⟨T3, none, _, _, _, X3, by simp, rfl, by omega, (fun _ => rfl), e0, fun fs hl => c4.trans (X3.returnOut hexec hret (hb hbytes d9) hl)⟩
theorem pays {l : Launch} {R : Room} {p : Program} {e : Env} {below : List Frame} {s : State} {sargs : Array Value} {len W : Nat} (a : Addr) (D : Cell) (fV fC : Field) (b : Addr) (A : Cell) (z : Int32) (htab : tab.before sargs s = true) (hfr : 4 ≤ R.frames) (hlo : W + 65 ≤ R.locals) :
    Back l R p e below s sargs yN len W (fun A₁ a₁ => A₁.cells + 1 ≤ R.cells ∧ A₁.slots + A.slots.size ≤ R.slots ∧ P a D fV fC b A z a₁ A₁.U) (fun A₁ _ v₁ B₁ => E a D fV fC A v₁ A₁.U B₁.U ∧ B₁.locs = A₁.locs ++ [⟨a, fC.slot⟩, ⟨a, fV.slot⟩] ∧ B₁.cells = A₁.cells + 1 ∧ B₁.slots = A₁.slots + A.slots.size) :=
  (law l a D fV fC b A z).pays htab hfr (by omega)
end New1
/-- the byte, read back as charAt reads it, is the char -/
theorem lo8_mask {x : Int32} (h0 : ¬ x < 0) (h1 : ¬ 255 < x) : lo8 x &&& 255 = x := by
  have t : ∀ k : Fin 256, lo8 (Int32.ofNat k.val) &&& 255 = Int32.ofNat k.val := by decide +kernel
  rw [Int32.lt_iff_toInt_lt] at h0 h1
  have e0 : (0 : Int32).toInt = 0 := rfl
  have e1 : (255 : Int32).toInt = 255 := rfl
  obtain ⟨k, hk⟩ : ∃ k : Nat, x.toInt = k := ⟨x.toInt.toNat, by omega⟩
  have hx : x = Int32.ofNat k := Int32.toInt_inj.mp (by rw [hk, Int32.toInt_ofNat_small (by omega)])
  rw [hx]
  exact t ⟨k, by omega⟩
end StrChars
namespace StrChars.Road
open Jvm Sem ClassFile Op Lib Jvm.Stand Jvm.Free Jvm.Free.XT
open Jvm.Lib.Cold (StaticIs)
abbrev ST : String := "java/lang/String"
/-- every table word that New1's law asks, flat -/
abbrev words : List Jvm.Cond := [.code New1.yN New1.yB 2 none, .initialized ST, .methodLink ST 27 New4.yN, .instanceMethod New4.yN,
  .code New4.yN New4.yB 6 none, .fieldLink ST 38 ST "COMPACT_STRINGS" "Z", .laysFinal ST ST "value" "[B", .fieldLink ST 9 ST "value" "[B", .laysFinal ST ST "coder" "B", .fieldLink ST 15 ST "coder" "B",
  .methodLink ST 1 Lib.objectInit, .instanceMethod Lib.objectInit, .code Lib.objectInit ⟨#[0xb1]⟩ 1 none, .methodLink ST 177 Cmp3.yN, .static Cmp3.yN, .methodLink ST 47 CodL.yN, .static CodL.yN,
  .code Cmp3.yN Cmp3.yB 6 (some (.array .byte)), .initialized U16, .arrayClass .byte, .methodLink U16 115 Cmp5.yN, .static Cmp5.yN, .code Cmp5.yN Cmp5.yB 7 (some .int), .code CodL.yN CodL.yB 2 (some .byte)]
theorem tab_of {a : Array Value} {s : State} (h : ∀ w ∈ words, w.before a s = true) : New1.tab.before a s = true := by
  have h5 : Cmp5.tab.before a s = true := unparts (wk h (.code Cmp5.yN Cmp5.yB 7 (some .int))) (wks h (.initialized Cmp5.yN.cls :: Cmp5.site))
  have hc : CodL.tab.before a s = true := unparts (wk h (.code CodL.yN CodL.yB 2 (some .byte))) (wks h (.initialized CodL.yN.cls :: CodL.site))
  have q5 : ∀ w ∈ Cmp5.tab :: words, w.before a s = true := fun w hw => (List.mem_cons.mp hw).elim (fun e => e ▸ h5) (h w)
  have h3 : Cmp3.tab.before a s = true := unparts (wk q5 (.code Cmp3.yN Cmp3.yB 6 (some (.array .byte)))) (wks q5 (.initialized Cmp3.yN.cls :: Cmp3.site))
  have q3 : ∀ w ∈ Cmp3.tab :: CodL.tab :: words, w.before a s = true := fun w hw => (List.mem_cons.mp hw).elim (fun e => e ▸ h3) fun hw => (List.mem_cons.mp hw).elim (fun e => e ▸ hc) (h w)
  have h4 : New4.tab.before a s = true := unparts (wk q3 (.code New4.yN New4.yB 6 none)) (wks q3 (.initialized New4.yN.cls :: New4.site))
  have q4 : ∀ w ∈ New4.tab :: words, w.before a s = true := fun w hw => (List.mem_cons.mp hw).elim (fun e => e ▸ h4) (h w)
  exact unparts (wk q4 (.code New1.yN New1.yB 2 none)) (wks q4 (.initialized New1.yN.cls :: New1.site))
/-- the words ride from the start Z to the walk's own state -/
theorem moved {Z s : State} {a0 args : Array Value} (hZ : Z.Warmed39 s.vm) (hw : ∀ d ∈ words, d.before a0 Z = true) : ∀ d ∈ words, d.before args s = true := fun d hd => by
  have q := hw d hd
  have t : ∀ d ∈ words, d = .arrayClass .byte ∨ (d.onTables && d.keepsFace) = true := by decide +kernel
  rcases t d hd with rfl | t
  · exact RoadKit.mvA hZ q
  · exact RoadKit.mv hZ q t
/-- WHAT COMES BACK, over the tables of the start Z: h the heap at the call, h' behind it -/
def Q (Z : State) (x : Addr) (A : Cell) (h : Heap) (v : Option Value) (h' : Heap) (L : List Loc) : Prop := v = none ∧ (∀ y ∈ L, y.base = x) ∧ RoadKit.Keep h h' [x] ∧ h'.size = h.size + 1 ∧ RoadKit.Exa Z h' x ST ∧ RoadKit.Fld Z h' x ST "value" "[B" (.ref h.size) ∧ RoadKit.Fld Z h' x ST "coder" "B" (.int 0) ∧
  (∃ V : Cell, RoadKit.Arr Z h' h.size V .byte ∧ V.vm = .none ∧ Z.vm.findClass "[B" = some V.cls ∧ V.slots.size = A.slots.size ∧ ∀ j, j < A.slots.size → V.slots[j]? = some (.int (lo8 (cv A j)))) ∧
  ∀ (O n d : String) (w : Value), RoadKit.Fld Z h x O n d w → RoadKit.slotOf Z O n d ≠ RoadKit.slotOf Z ST "value" "[B" → RoadKit.slotOf Z O n d ≠ RoadKit.slotOf Z ST "coder" "B" → RoadKit.Fld Z h' x O n d w
/-- **new String(chars) AT A CALL, IN THE ROAD'S FORM**: for specialBack behind newO: x the fresh String, b the char[] with the cell A -/
theorem back {p : Program} {l : Launch} {e : Env} {R : Room} {s : State} {args : Array Value} {below : List Frame} {len W : Nat} {Z : State} {a0 : Array Value} {h : Heap} (hZ : Z.Warmed39 s.vm) (hw : ∀ d ∈ words, d.before a0 Z = true) {kI : Nat} (wi : (Jvm.Cond.instantiable ST kI).before a0 Z = true)
    {x b : Addr} {A : Cell} {z : Int32} {v0 c0 : Value} (E : RoadKit.Exa Z h x ST) (V : RoadKit.Fld Z h x ST "value" "[B" v0) (C : RoadKit.Fld Z h x ST "coder" "B" c0) (K : RoadKit.Arr Z h b A .char) (hty : Typed .char A) (S : RoadKit.Sta Z h ST "COMPACT_STRINGS" "Z" (.int z)) (hz : ¬ z = 0)
    (l0 : 0 < A.slots.size) (l2 : A.slots.size ≤ 536870912) (hp : ∀ i, i < A.slots.size → ¬ 255 < cv A i) (hfr : 4 ≤ R.frames) (hlo : W + 65 ≤ R.locals) :
    Back l R p e below s args New1.yN len W (fun P a => a = #[.ref x, .ref b] ∧ P.U.heap = h ∧ P.cells + 1 ≤ R.cells ∧ P.slots + A.slots.size ≤ R.slots)
      (fun P _ v B => ∃ L, Q Z x A h v B.U.heap L ∧ B.locs = P.locs ++ L ∧ B.cells = P.cells + 1 ∧ B.slots = P.slots + A.slots.size) := by
  intro m meth c P g ig mk a X hg hsize hdg hW hn hp'
  obtain ⟨rfl, rfl, r1, r2⟩ := hp'
  have al : Z.vm.Alike P.U.vm := hZ.alike.trans X.warmed.alike
  obtain ⟨D, cfV, kV, iV, fV, hD, gV, stV, knV, obV, asV, slV⟩ := id V
  obtain ⟨D', cfC, kC, iC, fC, hD', gC, stC, -, -, asC, slC⟩ := id C
  cases hD.symm.trans hD'
  obtain ⟨D2, kD, e1, e2, e3, e4, e5⟩ := id E
  cases hD.symm.trans e1
  obtain ⟨c2, k2, i1, i2, i3, -⟩ := Cond.instantiable_spec wi
  cases e2.symm.trans i1
  cases e3.symm.trans i2
  obtain ⟨kU, u1, u2⟩ := al.2.2 _ _ e3
  have hB : Blank ST x D P.U := ⟨hD, ⟨knV, fun q hq => by rw [hq] at obV; cases obV⟩, by rw [al.findClass]; exact e2, kU, u1, by rw [u2]; exact i3, by rw [u2]; exact e5 i3⟩
  have F1 : Found ST "value" "[B" fV P.U := ⟨SBG.found_only al ⟨cfV, kV, iV, gV⟩, stV⟩
  have F2 : Found ST "coder" "B" fC P.U := ⟨SBG.found_only al ⟨cfC, kC, iC, gC⟩, stC⟩
  have hA : Ch b A P.U := ⟨⟨K.1, State.isArrayOf_alike al K.2.1, K.2.2, by omega⟩, hty⟩
  have hS : StaticIs P.U ST "COMPACT_STRINGS" "Z" (.int z) := by
    obtain ⟨cfS, iS, kS, fS, st, cS, t1, t2, t3, t4, t5, t6, t7⟩ := S
    exact StaticIs.there (s := { Z with heap := P.U.heap }) ⟨cfS, iS, kS, fS, st, cS, t1, t2, t3, t4, t5, (fun q => by rw [q] at t6; cases t6), t7⟩ al rfl
  obtain ⟨v, B, X', ⟨⟨hv, E', V', q1, q2, q3, q4, q5, q6, q7, q8, q9, q10, q11⟩, hl, hc, hs⟩, st⟩ := New1.pays x D fV fC b A z (tab_of (moved hZ hw)) hfr hlo m meth c P g ig mk _ X hg hsize hdg hW hn ⟨r1, r2, rfl, hB, F1, F2, hA, hS, hz, l0, l2, hp⟩
  have al' : Z.vm.Alike B.U.vm := hZ.alike.trans X'.warmed.alike
  have hsz : E'.slots.size = D.slots.size := by
    obtain ⟨-, -, -, kB, w1, w2, w3⟩ := q1
    obtain ⟨kB', y1, y2⟩ := al'.2.2 _ _ e3
    rw [q2.2.1] at w1
    cases w1.symm.trans y1
    rw [w3, e5 i3, y2]
  refine ⟨v, B, X', ⟨_, ⟨hv, ?_, ⟨by omega, fun y cy hy hn' => q10 y cy (by simpa using hn') hy, fun y cy hy => ?_⟩, q11, ⟨E', _, q1.1, by rw [q2.2.1]; exact e2, by rw [q2.2.1]; exact e3, by rw [q2.1]; exact obV, fun _ => by rw [hsz]; exact e5 i3⟩,
    ⟨E', cfV, kV, iV, fV, q1.1, gV, stV, by rw [q2.1]; exact knV, by rw [q2.1]; exact obV, by rw [q2.2.1]; exact asV, q3⟩, ⟨E', cfC, kC, iC, fC, q1.1, gC, stC, by rw [q2.1]; exact knV, by rw [q2.1]; exact obV, by rw [q2.2.1]; exact asC, q4⟩,
    ⟨V', ⟨q5.1, State.isArrayOf_alike al'.symm q5.2.1, q5.2.2.1⟩, q6, by rw [← al'.findClass]; exact q7, q8, fun j hj => by have := q9 j hj; rwa [Nat.zero_add] at this⟩, fun O n d w F n1 n2 => ?_⟩, hl, hc, hs⟩, st⟩
  · intro y hy
    simp only [List.mem_cons, List.not_mem_nil, or_false] at hy
    rcases hy with rfl | rfl <;> rfl
  · by_cases q : y = x
    · subst q
      cases hD.symm.trans hy
      exact ⟨E', q1.1, q2.2.1, q2.1, hsz⟩
    · exact ⟨cy, q10 y cy q hy, rfl, rfl, rfl⟩
  · obtain ⟨D3, cf, k, i, f, g1, g2, g3, g4, g5, g6, g7⟩ := F
    cases hD.symm.trans g1
    simp only [RoadKit.slotOf, g2, gV, gC, Option.map_some, Option.getD_some] at n1 n2
    exact ⟨E', cf, k, i, f, q1.1, g2, g3, by rw [q2.1]; exact g4, by rw [q2.1]; exact g5, by rw [q2.2.1]; exact g6, by rw [q2.2.2 f.slot (by simp [n1, n2])]; exact g7⟩
end StrChars.Road
namespace StrChars.Road
open Jvm Sem ClassFile Op Lib Jvm.Stand Jvm.Free Jvm.Free.XT
/-- WHAT COMES BACK, the byte[] as a list of values -/
def QA (Z : State) (x : Addr) (zn : Int32) (cs : List Int32) (h : Heap) (v : Option Value) (h' : Heap) (L : List Loc) : Prop := v = none ∧ (∀ y ∈ L, y.base = x) ∧ RoadKit.Keep h h' [x] ∧ h'.size = h.size + 1 ∧ RoadKit.Exa Z h' x ST ∧ RoadKit.Fld Z h' x ST "value" "[B" (.ref h.size) ∧ RoadKit.Fld Z h' x ST "coder" "B" (.int 0) ∧
  (∃ kb, Z.vm.findClass "[B" = some kb ∧ RoadKit.Arv Z h' h.size kb .byte zn (cs.map fun c => .int (lo8 c)) (.int 0)) ∧
  ∀ (O n d : String) (w : Value), RoadKit.Fld Z h x O n d w → RoadKit.slotOf Z O n d ≠ RoadKit.slotOf Z ST "value" "[B" → RoadKit.slotOf Z O n d ≠ RoadKit.slotOf Z ST "coder" "B" → RoadKit.Fld Z h' x O n d w
/-- **new String(chars) AT A CALL, THE ARRAYS AS LISTS**: the char[] at b holds cs, not empty, no char above 255 -/
theorem backArv {p : Program} {l : Launch} {e : Env} {R : Room} {s : State} {args : Array Value} {below : List Frame} {len W : Nat} {Z : State} {a0 : Array Value} {h : Heap} (hZ : Z.Warmed39 s.vm) (hw : ∀ d ∈ words, d.before a0 Z = true) {kI : Nat} (wi : (Jvm.Cond.instantiable ST kI).before a0 Z = true)
    {x b : Addr} {k : ClassId} {zn z : Int32} {cs : List Int32} {dv v0 c0 : Value} (E : RoadKit.Exa Z h x ST) (V : RoadKit.Fld Z h x ST "value" "[B" v0) (C : RoadKit.Fld Z h x ST "coder" "B" c0) (K : RoadKit.Arv Z h b k .char zn (cs.map Value.int) dv) (S : RoadKit.Sta Z h ST "COMPACT_STRINGS" "Z" (.int z)) (hz : ¬ z = 0)
    (hlen : zn.toNatClampNeg = cs.length) (h0 : 0 < cs.length) (hbig : cs.length ≤ 536870912) (hall : ∀ c ∈ cs, ¬ 255 < c) (hfr : 4 ≤ R.frames) (hlo : W + 65 ≤ R.locals) :
    Back l R p e below s args New1.yN len W (fun P a => a = #[.ref x, .ref b] ∧ P.U.heap = h ∧ P.cells + 1 ≤ R.cells ∧ P.slots + cs.length ≤ R.slots)
      (fun P _ v B => ∃ L, QA Z x zn cs h v B.U.heap L ∧ B.locs = P.locs ++ L ∧ B.cells = P.cells + 1 ∧ B.slots = P.slots + cs.length) := by
  obtain ⟨A, K1, K2, K3, K4, K5, K6⟩ := K
  have e : A.slots.size = cs.length := K3.trans hlen
  have hat : ∀ (i : Nat) (hi : i < cs.length), A.slots[i]? = some (.int cs[i]) := fun i hi => by rw [K5 i (by omega)]; simp [List.getD_eq_getElem?_getD, hi]
  have hcv : ∀ (i : Nat) (hi : i < cs.length), cv A i = cs[i] := fun i hi => by unfold cv; rw [hat i hi]
  have hty : Typed .char A := fun i v hv => by
    have hi : i < A.slots.size := (Array.getElem?_eq_some_iff.mp hv).1
    have q := K5 i hi
    rw [hv] at q
    rw [Option.some.inj q]
    exact K6 i hi
  refine Back.mono (back hZ hw wi E V C K1 hty S hz (by omega) (by omega) (fun i hi => by rw [hcv i (by omega)]; exact hall _ (List.getElem_mem _)) hfr hlo) (fun P a hp => ⟨hp.1, hp.2.1, hp.2.2.1, by rw [e]; exact hp.2.2.2⟩) (fun P a v B hp hq => ?_)
  obtain ⟨L, ⟨q1, q2, q3, q4, q5, q6, q7, ⟨V', v1, v2, v3, v4, v5⟩, q9⟩, hl, hc, hs⟩ := hq
  refine ⟨L, ⟨q1, q2, q3, q4, q5, q6, q7, ⟨V'.cls, v3, V', v1, rfl, by rw [v4, e, hlen], K4, fun i hi => ?_, fun i hi => ?_⟩, q9⟩, hl, hc, by rw [hs, e]⟩
  · have hi' : i < cs.length := by omega
    rw [v5 i (by omega), hcv i hi']; simp [List.getD_eq_getElem?_getD, hi']
  · have hi' : i < cs.length := by omega
    simp only [List.getD_eq_getElem?_getD, List.getElem?_map, List.getElem?_eq_getElem hi', Option.map_some, Option.getD_some]
    exact fits_lo8 _
end StrChars.Road
namespace StrChars.Road
open Jvm Sem ClassFile Op Lib Jvm.Stand Jvm.Free Jvm.Free.XT
/-- WHAT COMES BACK, in the writer's own shape -/
def QV (Z : State) (x : Addr) (N : Int32) (bs : List Int32) (h : Heap) (n0 : Nat) (v : Option Value) (h' : Heap) (L : List Loc) : Prop := v = none ∧ RoadKit.Fr n0 L ∧ RoadKit.Keep h h' [x] ∧ RoadKit.Exa Z h' x ST ∧ RoadKit.Fld Z h' x ST "coder" "B" (.int 0) ∧
  ∃ (t : Addr) (kb : ClassId), n0 ≤ t ∧ h.size ≤ t ∧ ¬ t = x ∧ RoadKit.Fld Z h' x ST "value" "[B" (.ref t) ∧ RoadKit.Arv Z h' t kb .byte N (bs.map Value.int) (.int 0)
/-- **new String(chars) AT A CALL, FOR THE WRITER**: a char[] of n known ints, each 0 to 255 -/
theorem backV {p : Program} {l : Launch} {e : Env} {R : Room} {s : State} {args : Array Value} {below : List Frame} {len W : Nat} {Z : State} {a0 : Array Value} {h : Heap} (hZ : Z.Warmed39 s.vm) (hw : ∀ d ∈ words, d.before a0 Z = true) {kI : Nat} (wi : (Jvm.Cond.instantiable ST kI).before a0 Z = true)
    {x b : Addr} {kC : ClassId} {cs bs : List Int32} {d v0 c0 : Value} {z N : Int32} {n n0 : Nat} (hx0 : n0 ≤ x) (hh0 : n0 ≤ h.size) (E : RoadKit.Exa Z h x ST) (V : RoadKit.Fld Z h x ST "value" "[B" v0) (C : RoadKit.Fld Z h x ST "coder" "B" c0) (K : RoadKit.Arv Z h b kC .char N (cs.map Value.int) d) (S : RoadKit.Sta Z h ST "COMPACT_STRINGS" "Z" (.int z)) (hz : ¬ z = 0)
    (hn : cs.length = n) (hN : N = Int32.ofNat n) (l0 : 0 < n) (l2 : n ≤ 4000) (hp : ∀ c ∈ cs, ¬ c < 0 ∧ ¬ (255 : Int32) < c) (hb : bs = cs.map (fun c => c.toInt8.toInt32)) (hfr : 4 ≤ R.frames) (hlo : W + 65 ≤ R.locals) :
    Back l R p e below s args (⟨"java/lang/String", "<init>", "([C)V"⟩ : MethodName) len W (fun P a => a = #[.ref x, .ref b] ∧ P.U.heap = h ∧ P.cells + 1 ≤ R.cells ∧ P.slots + n ≤ R.slots)
      (fun P _ v B => ∃ L, QV Z x N bs h n0 v B.U.heap L ∧ B.locs = P.locs ++ L ∧ B.cells = P.cells + 1 ∧ B.slots = P.slots + n) := by
  subst hn hN hb
  refine Back.mono (backArv hZ hw wi E V C K S hz (n32 (by omega)) l0 (by omega) (fun c hc => (hp c hc).2) hfr hlo) (fun P a hp => hp) (fun P a v B hp hq => ?_)
  obtain ⟨L, ⟨q1, q2, q3, q4, q5, q6, q7, ⟨kb, v1, v2⟩, q9⟩, hl, hc, hs⟩ := hq
  exact ⟨L, ⟨q1, fun y hy => by rw [q2 y hy]; exact hx0, q3, q5, q7, h.size, kb, hh0, Nat.le_refl _, Nat.ne_of_gt E.lt, q6, by rw [List.map_map]; exact v2⟩, hl, hc, hs⟩
end StrChars.Road
namespace StrChars
open Jvm Sem ClassFile Op Lib Jvm.Stand Jvm.Free.XT Jvm.Free.ALB Jvm.Free.JM Jvm.Free
open Jvm.Lib.Cold (StaticIs)
def hi8 (x : Int32) : Int32 := lo8 (x >>> ((8 : Int32) &&& 31))
/-- what StringUTF16.getChar makes of two bytes -/
def pairCh (u v : Int32) : Int32 := (((u &&& 255) <<< ((0 : Int32) &&& 31)) ||| ((v &&& 255) <<< ((8 : Int32) &&& 31))).toUInt32.toUInt16.toUInt32.toInt32
theorem shr0 (c : Int32) : c >>> ((0 : Int32) &&& 31) = c := by
  have e : ((0 : Int32) &&& 31) = 0 := by decide
  rw [e]
  apply Int32.toBitVec_inj.mp
  rw [Int32.toBitVec_shiftRight]
  have e1 : ((0 : Int32).toBitVec.smod 32) = 0#32 := by decide
  rw [e1, BitVec.sshiftRight_eq']
  exact BitVec.sshiftRight_zero
theorem lo8_and (x : Int32) : (lo8 x &&& 255).toBitVec.toNat = x.toBitVec.toNat % 256 := by
  have h : (lo8 x).toBitVec = (x.toBitVec.signExtend 8).signExtend 32 := by rw [lo8, Int8.toBitVec_toInt32, Int32.toBitVec_toInt8]
  rw [Int32.toBitVec_and, BitVec.toNat_and, h]
  have e : ((x.toBitVec.signExtend 8).signExtend 32).toNat % 256 = x.toBitVec.toNat % 256 := by
    rw [BitVec.toNat_signExtend]
    have hlt := x.toBitVec.isLt
    simp only [BitVec.toNat_setWidth, BitVec.toNat_signExtend]
    split <;> split <;> omega
  rw [← e]
  exact Nat.and_two_pow_sub_one_eq_mod _ 8
theorem pair_says {c : Int32} (h0 : ¬ c < 0) (h1 : ¬ 65535 < c) : pairCh (lo8 c) (hi8 c) = c := by
  rw [Int32.lt_iff_toInt_lt] at h0 h1
  have e0 : (0 : Int32).toInt = 0 := rfl
  have e1 : (65535 : Int32).toInt = 65535 := rfl
  have hc : c.toInt = c.toBitVec.toNat := by
    have := c.toBitVec.isLt
    have e : c.toInt = c.toBitVec.toInt := rfl
    rw [e] at h0 h1
    rw [e]
    rw [BitVec.toInt_eq_toNat_cond] at h0 h1 ⊢
    split at h0 <;> split <;> omega
  have hn : c.toBitVec.toNat < 65536 := by omega
  have a1 := lo8_and c
  have a2 : (hi8 c &&& 255).toBitVec.toNat = c.toBitVec.toNat / 256 := by
    rw [hi8, lo8_and]
    have e : ((8 : Int32) &&& 31) = 8 := by decide
    rw [e, Int32.toBitVec_shiftRight]
    have e2 : ((8 : Int32).toBitVec.smod 32) = 8#32 := by decide
    rw [e2, BitVec.sshiftRight_eq', BitVec.toNat_sshiftRight_of_msb_false (by rw [BitVec.msb_eq_false_iff_two_mul_lt]; omega)]
    show c.toBitVec.toNat >>> 8 % 256 = _
    rw [Nat.shiftRight_eq_div_pow]
    omega
  unfold pairCh
  apply Int32.toBitVec_inj.mp
  apply BitVec.eq_of_toNat_eq
  have f0 : ((0 : Int32) &&& 31) = 0 := by decide
  have f8 : ((8 : Int32) &&& 31) = 8 := by decide
  rw [f0, f8]
  have g : (((lo8 c &&& 255) <<< (0 : Int32)) ||| ((hi8 c &&& 255) <<< (8 : Int32))).toBitVec.toNat = c.toBitVec.toNat := by
    rw [Int32.toBitVec_or, Int32.toBitVec_shiftLeft, Int32.toBitVec_shiftLeft]
    have s0 : ((0 : Int32).toBitVec.smod 32) = 0#32 := by decide
    have s8 : ((8 : Int32).toBitVec.smod 32) = 8#32 := by decide
    rw [s0, s8, BitVec.toNat_or]
    simp only [BitVec.shiftLeft_eq', BitVec.toNat_shiftLeft, a1, a2]
    show (c.toBitVec.toNat % 256) <<< 0 % 2 ^ 32 ||| (c.toBitVec.toNat / 256) <<< 8 % 2 ^ 32 = _
    rw [Nat.shiftLeft_zero, Nat.mod_eq_of_lt (show c.toBitVec.toNat % 256 < 2 ^ 32 by omega), Nat.mod_eq_of_lt (show (c.toBitVec.toNat / 256) <<< 8 < 2 ^ 32 by rw [Nat.shiftLeft_eq]; omega), Nat.or_comm, ← Nat.shiftLeft_add_eq_or_of_lt (by omega), Nat.shiftLeft_eq]
    omega
  show BitVec.toNat (((((lo8 c &&& 255) <<< (0 : Int32)) ||| ((hi8 c &&& 255) <<< (8 : Int32))).toBitVec.setWidth 16).setWidth 32) = _
  rw [BitVec.toNat_setWidth, BitVec.toNat_setWidth, g]
  omega
end StrChars
namespace StrChars
open Jvm Sem ClassFile Op Lib Jvm.Stand Jvm.Free.XT Jvm.Free.ALB Jvm.Free.JM Jvm.Free
open Jvm.Lib.Cold (StaticIs)
theorem shr1 {n : Nat} (h : 2 * n < 2 ^ 31) : Int32.ofNat (2 * n) >>> ((1 : Int32) &&& 31) = Int32.ofNat n := by
  have e : ((1 : Int32) &&& 31) = 1 := by decide
  rw [e]
  apply Int32.toBitVec_inj.mp
  rw [Int32.toBitVec_shiftRight]
  have e1 : ((1 : Int32).toBitVec.smod 32) = 1#32 := by decide
  have hm : (BitVec.ofNat 32 (2 * n)).toNat = 2 * n := by rw [BitVec.toNat_ofNat, Nat.mod_eq_of_lt (by omega)]
  rw [e1, BitVec.sshiftRight_eq']
  apply BitVec.eq_of_toNat_eq
  show ((BitVec.ofNat 32 (2 * n)).sshiftRight 1).toNat = (BitVec.ofNat 32 n).toNat
  rw [BitVec.toNat_sshiftRight_of_msb_false (by rw [BitVec.msb_eq_false_iff_two_mul_lt, hm]; omega), hm, BitVec.toNat_ofNat, Nat.shiftRight_eq_div_pow]
  omega
/-- charAt's cast of a byte read back -/
def chr8 (u : Int32) : Int32 := (u &&& 255).toUInt32.toUInt16.toUInt32.toInt32
theorem chr8_lo8 {c : Int32} (h0 : ¬ c < 0) (h1 : ¬ 255 < c) : chr8 (lo8 c) = c := by
  have t : ∀ k : Fin 256, (Int32.ofNat k.val).toUInt32.toUInt16.toUInt32.toInt32 = Int32.ofNat k.val := by decide +kernel
  unfold chr8
  rw [lo8_mask h0 h1]
  rw [Int32.lt_iff_toInt_lt] at h0 h1
  have e0 : (0 : Int32).toInt = 0 := rfl
  have e1 : (255 : Int32).toInt = 255 := rfl
  obtain ⟨k, hk⟩ : ∃ k : Nat, c.toInt = k := ⟨c.toInt.toNat, by omega⟩
  have hx : c = Int32.ofNat k := Int32.toInt_inj.mp (by rw [hk, Int32.toInt_ofNat_small (by omega)])
  rw [hx]
  exact t ⟨k, by omega⟩
theorem narrow_ch {c : Int32} (h0 : ¬ c < 0) (h1 : ¬ 65535 < c) : narrow .char (.int c) = .int c := by
  have q : narrow .char (.int (pairCh (lo8 c) (hi8 c))) = .int (pairCh (lo8 c) (hi8 c)) := narrow_c _
  rwa [pair_says h0 h1] at q
/-- the array's cell V codes the n chars f 0 .. f (n - 1) by the coder cd, as the JDK does: coder 1 just where some char is above 255 -/
def Cod (cd : Int32) (n : Nat) (f : Nat → Int32) (V : Cell) : Prop := (cd = 0 ∧ V.slots.size = n ∧ ∀ j, j < n → V.slots[j]? = some (.int (lo8 (f j))) ∧ ¬ 255 < f j) ∨ (cd = 1 ∧ V.slots.size = 2 * n ∧ (∀ j, j < n → V.slots[2 * j]? = some (.int (lo8 (f j))) ∧ V.slots[2 * j + 1]? = some (.int (hi8 (f j)))) ∧ ∃ j, j < n ∧ 255 < f j)
theorem Cod.cd {cd : Int32} {n : Nat} {f : Nat → Int32} {V : Cell} (h : Cod cd n f V) : cd = 0 ∨ cd = 1 := h.imp (fun q => q.1) fun q => q.1
theorem Cod.len {cd : Int32} {n : Nat} {f : Nat → Int32} {V : Cell} (h : Cod cd n f V) (hs : V.slots.size < 2 ^ 31) : Int32.ofNat V.slots.size >>> (cd &&& 31) = Int32.ofNat n := by
  rcases h with ⟨rfl, h, -⟩ | ⟨rfl, h, -⟩
  · rw [shr0, h]
  · rw [h, shr1 (by omega)]
/-- **x is a String of the n chars f 0 .. f (n - 1)**, Latin-1 or UTF-16; its array at t has the cell V -/
def Txt (x t : Addr) (V : Cell) (cd : Int32) (n : Nat) (f : Nat → Int32) (U : State) : Prop := Exact "java/lang/String" x U ∧ Has x "java/lang/String" "value" "[B" (.ref t) U ∧ Has x "java/lang/String" "coder" "B" (.int cd) U ∧ XT.Arr .byte t V U ∧ Cod cd n f V ∧ ∀ j, j < n → ¬ f j < 0 ∧ ¬ 65535 < f j
theorem Txt.mv {x t : Addr} {V : Cell} {cd : Int32} {n : Nat} {f : Nat → Int32} {U U' : State} (h : Txt x t V cd n f U) (hal : U.vm.Alike U'.vm) (hh : U'.heap = U.heap) : Txt x t V cd n f U' := ⟨h.1.mv hal hh, h.2.1.mv hal hh, h.2.2.1.mv hal hh, h.2.2.2.1.mv hal hh, h.2.2.2.2⟩
namespace Cdr
def yN : MethodName := ⟨"java/lang/String", "coder", "()B"⟩
abbrev yB : ByteArray := jdk_42_method_152_code
theorem d0 : decode yB 0 = .ok (.getstatic 38, 3) := by decide +kernel
theorem d3 : decode yB 3 = .ok (.ifCond (.eq) 10, 3) := by decide +kernel
theorem d6 : decode yB 6 = .ok (.aload_n 0, 1) := by decide +kernel
theorem d7 : decode yB 7 = .ok (.getfield 15, 3) := by decide +kernel
theorem d10 : decode yB 10 = .ok (.goto 4, 3) := by decide +kernel
theorem d14 : decode yB 14 = .ok (.ireturn, 1) := by decide +kernel
def site : List Cond := [.fieldLink "java/lang/String" 38 "java/lang/String" "COMPACT_STRINGS" "Z", .fieldLink "java/lang/String" 15 "java/lang/String" "coder" "B"]
def tab : Cond := tabOf yN yB 1 (some .byte) site
def P (x : Addr) (cd z : Int32) (args : Array Value) (s : State) : Prop := args = #[.ref x] ∧ Has x "java/lang/String" "coder" "B" (.int cd) s ∧ (cd = 0 ∨ cd = 1) ∧ StaticIs s "java/lang/String" "COMPACT_STRINGS" "Z" (.int z) ∧ ¬ z = 0
def E (cd : Int32) (r : Option Value) (s u : State) : Prop := XT.PureE (some (.int cd)) r s u
theorem law (l : Launch) (x : Addr) (cd z : Int32) : Law l yN 1 0 0 0 yB 1 (some .byte) site (P x cd z) (E cd) [] 0 0 := by
  refine Law.of_walk (plainFor_of_name (by decide +kernel)) (by decide +kernel) (by decide +kernel) (by decide) (fun _ _ h => by rw [h.1]; rfl) (fun _ U U' hal hh h => ⟨h.1, h.2.1.mv hal hh, h.2.2.1, h.2.2.2.1.there hal hh, h.2.2.2.2⟩) (fun r U U' V V' h1 hal h2 h => XT.PureE.mv r U U' V V' h1 hal h2 h) ?_
  intro p e s m args below meth c s₁ X0 hexec hbytes hml hret hlk hnm hown hh0 W hP
  obtain ⟨rfl, hx, hc, s1, hz⟩ := hP
  have c1 : Steps p.tables e below (s₁.setTop (entryFrame m #[.ref x] 1)) (s₁.setTop (mkF m 0 #[.val (.ref x)] [])) := entry rfl
  obtain ⟨T2, X2, q2, st2⟩ := X0.sget hexec hown (wk W (.fieldLink "java/lang/String" 38 "java/lang/String" "COMPACT_STRINGS" "Z")) s1 (fun _ _ h => by rw [hh0]; exact h) (g := (mkF m 0 #[.val (.ref x)] [])) rfl (hb hbytes d0)
  have hh2 := q2.trans hh0
  have c3 : Steps p.tables e below (s₁.setTop (entryFrame m #[.ref x] 1)) (T2.setTop (mkF m 7 #[.val (.ref x)] [.ref x])) := (c1.trans (st2 _ (Steps.refl _))).trans (by
    refine XS.ifNo X2.here hexec rfl (hb hbytes d3) rfl (i0_eq_f hz) ?_
    refine XS.aloadN X2.here hexec rfl (hb hbytes d6) rfl rfl ?_
    exact Steps.refl _)
  obtain ⟨T4, X4, q4, st4⟩ := X2.hget hexec hown (wk W (.fieldLink "java/lang/String" 15 "java/lang/String" "coder" "B")) (hx.mv X2.warmed.alike hh2) (g := (mkF m 7 #[.val (.ref x)] [.ref x])) rfl (rest := []) rfl (hb hbytes d7)
  have c5 : Steps p.tables e below (s₁.setTop (entryFrame m #[.ref x] 1)) (T4.setTop (mkF m 14 #[.val (.ref x)] [.int cd])) := (c3.trans (st4 _ (Steps.refl _))).trans (by
    refine XS.goto X4.here hexec rfl (pc0 := 10) rfl (hb hbytes d10) (by decide) rfl ?_
    exact Steps.refl _)
  exact ⟨T4, some (.int cd), _, _, _, X4, rfl, rfl, rfl, (fun h => by cases h), ⟨rfl, q4.trans hh2⟩, fun fs hl => c5.trans (X4.ireturnOut hexec hret (by rcases hc with rfl | rfl <;> rfl) (Or.inr (Or.inr (Or.inl rfl))) (hb hbytes d14) hl)⟩
end Cdr
namespace Len
def yN : MethodName := ⟨"java/lang/String", "length", "()I"⟩
abbrev yB : ByteArray := jdk_42_method_54_code
theorem d0 : decode yB 0 = .ok (.aload_n 0, 1) := by decide +kernel
theorem d1 : decode yB 1 = .ok (.getfield 9, 3) := by decide +kernel
theorem d4 : decode yB 4 = .ok (.arraylength, 1) := by decide +kernel
theorem d5 : decode yB 5 = .ok (.aload_n 0, 1) := by decide +kernel
theorem d6 : decode yB 6 = .ok (.invokevirtual 335, 3) := by decide +kernel
theorem d9 : decode yB 9 = .ok (.ishr, 1) := by decide +kernel
theorem d10 : decode yB 10 = .ok (.ireturn, 1) := by decide +kernel
def site : List Cond := [.fieldLink "java/lang/String" 9 "java/lang/String" "value" "[B", Cdr.tab] ++ virtW "java/lang/String" 335 "java/lang/String" Cdr.yN Cdr.yN
def tab : Cond := tabOf yN yB 1 (some .int) site
def P (x t : Addr) (V : Cell) (cd : Int32) (n : Nat) (f : Nat → Int32) (z : Int32) (args : Array Value) (s : State) : Prop := args = #[.ref x] ∧ Txt x t V cd n f s ∧ StaticIs s "java/lang/String" "COMPACT_STRINGS" "Z" (.int z) ∧ ¬ z = 0
def E (n : Nat) (r : Option Value) (s u : State) : Prop := XT.PureE (some (.int (Int32.ofNat n))) r s u
/-- length() of a String of n chars, in either coding -/
theorem law (l : Launch) (x t : Addr) (V : Cell) (cd : Int32) (n : Nat) (f : Nat → Int32) (z : Int32) : Law l yN 1 0 1 13 yB 1 (some .int) site (P x t V cd n f z) (E n) [] 0 0 := by
  refine Law.of_walk (plainFor_of_name (by decide +kernel)) (by decide +kernel) (by decide +kernel) (by decide) (fun _ _ h => by rw [h.1]; rfl) (fun _ U U' hal hh h => ⟨h.1, h.2.1.mv hal hh, h.2.2.1.there hal hh, h.2.2.2⟩) (fun r U U' V V' h1 hal h2 h => XT.PureE.mv r U U' V V' h1 hal h2 h) ?_
  intro p e s m args below meth c s₁ X0 hexec hbytes hml hret hlk hnm hown hh0 W hP
  obtain ⟨rfl, hx, s1, hz⟩ := hP
  have v31 := hx.2.2.2.1.2.2.2
  have c1 : Steps p.tables e below (s₁.setTop (entryFrame m #[.ref x] 1)) (s₁.setTop (mkF m 1 #[.val (.ref x)] [.ref x])) := Steps.trans (entry rfl) (by
    show Steps p.tables e below (s₁.setTop (mkF m 0 #[.val (.ref x)] [])) _
    refine XS.aloadN X0.here hexec rfl (hb hbytes d0) rfl rfl ?_
    exact Steps.refl _)
  obtain ⟨T2, X2, q2, st2⟩ := X0.hget hexec hown (wk W (.fieldLink "java/lang/String" 9 "java/lang/String" "value" "[B")) (hx.mv X0.warmed.alike hh0).2.1 (g := (mkF m 1 #[.val (.ref x)] [.ref x])) rfl (rest := []) rfl (hb hbytes d1)
  have hh2 := q2.trans hh0
  have hx2 := hx.mv X2.warmed.alike hh2
  have c3 : Steps p.tables e below (s₁.setTop (entryFrame m #[.ref x] 1)) (T2.setTop (mkF m 6 #[.val (.ref x)] [.ref x, .int (Int32.ofNat V.slots.size)])) := (c1.trans (st2 _ (Steps.refl _))).trans (by
    refine X2.alen hexec hx2.2.2.2.1 rfl rfl (hb hbytes d4) ?_
    refine XS.aloadN X2.here hexec rfl (hb hbytes d5) rfl rfl ?_
    exact Steps.refl _)
  obtain ⟨v4, T4, X4, E4, g4⟩ := X2.callV hexec (Cdr.law l x cd z) hown (wks W (virtW "java/lang/String" 335 "java/lang/String" Cdr.yN Cdr.yN)) rfl (by decide) (wk W Cdr.tab) (W := 1) (Nat.le_of_ble_eq_true rfl) (Nat.le_of_ble_eq_true rfl) (Nat.le_refl _) (Nat.le_refl _) (hx2.1.fc X2.warmed.alike) hx2.1.is (g := (mkF m 6 #[.val (.ref x)] [.ref x, .int (Int32.ofNat V.slots.size)])) rfl (by rw [hml]; rfl) c3 (argsL := []) (rest := [.int (Int32.ofNat V.slots.size)]) rfl rfl (by show 2 * 0 + (1 + 0) ≤ _; decide) (hb hbytes d6) (⟨rfl, hx2.2.2.1, hx.2.2.2.2.1.cd, s1.there X2.warmed.alike hh2, hz⟩)
  obtain ⟨rfl, q4⟩ := E4
  have c5 : Steps p.tables e below (s₁.setTop (entryFrame m #[.ref x] 1)) (T4.setTop (mkF m 10 #[.val (.ref x)] [.int (Int32.ofNat V.slots.size >>> (cd &&& 31))])) := Steps.trans g4 (by
    refine ishr X4.here hexec rfl (hb hbytes d9) rfl ?_
    exact Steps.refl _)
  rw [hx.2.2.2.2.1.len v31] at c5
  exact ⟨T4, some (.int (Int32.ofNat n)), _, _, _, X4, rfl, rfl, rfl, (fun h => by cases h), ⟨rfl, q4.trans hh2⟩, fun fs hl => c5.trans (X4.ireturnOut hexec hret rfl (Or.inl rfl) (hb hbytes d10) hl)⟩
theorem pays {l : Launch} {R : Room} {p : Program} {e : Env} {below : List Frame} {s : State} {sargs : Array Value} {len W : Nat} (x t : Addr) (V : Cell) (cd : Int32) (n : Nat) (f : Nat → Int32) (z : Int32) (htab : tab.before sargs s = true) (hfr : 2 ≤ R.frames) (hlo : W + 25 ≤ R.locals) :
    Back l R p e below s sargs yN len W (fun A₁ a₁ => A₁.cells + 0 ≤ R.cells ∧ A₁.slots + 0 ≤ R.slots ∧ P x t V cd n f z a₁ A₁.U) (fun A₁ _ v₁ B₁ => E n v₁ A₁.U B₁.U ∧ B₁.locs = A₁.locs ++ [] ∧ B₁.cells = A₁.cells + 0 ∧ B₁.slots = A₁.slots + 0) :=
  (law l x t V cd n f z).pays htab hfr (by omega)
end Len
namespace IsL
def yN : MethodName := ⟨"java/lang/String", "isLatin1", "()Z"⟩
abbrev yB : ByteArray := jdk_42_method_154_code
theorem d0 : decode yB 0 = .ok (.getstatic 38, 3) := by decide +kernel
theorem d3 : decode yB 3 = .ok (.ifCond (.eq) 14, 3) := by decide +kernel
theorem d6 : decode yB 6 = .ok (.aload_n 0, 1) := by decide +kernel
theorem d7 : decode yB 7 = .ok (.getfield 15, 3) := by decide +kernel
theorem d10 : decode yB 10 = .ok (.ifCond (.ne) 7, 3) := by decide +kernel
theorem d13 : decode yB 13 = .ok (.iconst 1, 1) := by decide +kernel
theorem d14 : decode yB 14 = .ok (.goto 4, 3) := by decide +kernel
theorem d17 : decode yB 17 = .ok (.iconst 0, 1) := by decide +kernel
theorem d18 : decode yB 18 = .ok (.ireturn, 1) := by decide +kernel
def site : List Cond := [.fieldLink "java/lang/String" 38 "java/lang/String" "COMPACT_STRINGS" "Z", .fieldLink "java/lang/String" 15 "java/lang/String" "coder" "B"]
def tab : Cond := tabOf yN yB 1 (some .boolean) site
def P (x : Addr) (cd z : Int32) (args : Array Value) (s : State) : Prop := args = #[.ref x] ∧ Has x "java/lang/String" "coder" "B" (.int cd) s ∧ (cd = 0 ∨ cd = 1) ∧ StaticIs s "java/lang/String" "COMPACT_STRINGS" "Z" (.int z) ∧ ¬ z = 0
def E (cd : Int32) (r : Option Value) (s u : State) : Prop := XT.PureE (some (.int (1 - cd))) r s u
theorem law (l : Launch) (x : Addr) (cd z : Int32) : Law l yN 1 0 0 0 yB 1 (some .boolean) site (P x cd z) (E cd) [] 0 0 := by
  refine Law.of_walk (plainFor_of_name (by decide +kernel)) (by decide +kernel) (by decide +kernel) (by decide) (fun _ _ h => by rw [h.1]; rfl) (fun _ U U' hal hh h => ⟨h.1, h.2.1.mv hal hh, h.2.2.1, h.2.2.2.1.there hal hh, h.2.2.2.2⟩) (fun r U U' V V' h1 hal h2 h => XT.PureE.mv r U U' V V' h1 hal h2 h) ?_
  intro p e s m args below meth c s₁ X0 hexec hbytes hml hret hlk hnm hown hh0 W hP
  obtain ⟨rfl, hx, hc, s1, hz⟩ := hP
  have c1 : Steps p.tables e below (s₁.setTop (entryFrame m #[.ref x] 1)) (s₁.setTop (mkF m 0 #[.val (.ref x)] [])) := entry rfl
  obtain ⟨T2, X2, q2, st2⟩ := X0.sget hexec hown (wk W (.fieldLink "java/lang/String" 38 "java/lang/String" "COMPACT_STRINGS" "Z")) s1 (fun _ _ h => by rw [hh0]; exact h) (g := (mkF m 0 #[.val (.ref x)] [])) rfl (hb hbytes d0)
  have hh2 := q2.trans hh0
  have c3 : Steps p.tables e below (s₁.setTop (entryFrame m #[.ref x] 1)) (T2.setTop (mkF m 7 #[.val (.ref x)] [.ref x])) := (c1.trans (st2 _ (Steps.refl _))).trans (by
    refine XS.ifNo X2.here hexec rfl (hb hbytes d3) rfl (i0_eq_f hz) ?_
    refine XS.aloadN X2.here hexec rfl (hb hbytes d6) rfl rfl ?_
    exact Steps.refl _)
  obtain ⟨T4, X4, q4, st4⟩ := X2.hget hexec hown (wk W (.fieldLink "java/lang/String" 15 "java/lang/String" "coder" "B")) (hx.mv X2.warmed.alike hh2) (g := (mkF m 7 #[.val (.ref x)] [.ref x])) rfl (rest := []) rfl (hb hbytes d7)
  have c5 : Steps p.tables e below (s₁.setTop (entryFrame m #[.ref x] 1)) (T4.setTop (mkF m 10 #[.val (.ref x)] [.int cd])) := c3.trans (st4 _ (Steps.refl _))
  have c6 : Steps p.tables e below (s₁.setTop (entryFrame m #[.ref x] 1)) (T4.setTop (mkF m 18 #[.val (.ref x)] [.int (1 - cd)])) := by
    rcases hc with rfl | rfl
    · exact c5.trans (by
        refine XS.ifNo X4.here hexec rfl (hb hbytes d10) rfl (i0_ne_f rfl) ?_
        refine iconstV X4.here hexec rfl 1 (hb hbytes d13) (by decide) ?_
        refine XS.goto X4.here hexec rfl (pc0 := 14) rfl (hb hbytes d14) (by decide) rfl ?_
        exact Steps.refl _)
    · exact c5.trans (by
        refine XS.ifYes X4.here hexec rfl (pc0 := 10) rfl (hb hbytes d10) rfl (i0_ne_t (by decide)) (by decide) rfl ?_
        refine iconstV X4.here hexec rfl 0 (hb hbytes d17) (by decide) ?_
        exact Steps.refl _)
  exact ⟨T4, some (.int (1 - cd)), _, _, _, X4, rfl, rfl, rfl, (fun h => by cases h), ⟨rfl, q4.trans hh2⟩, fun fs hl => c6.trans (X4.ireturnOut hexec hret (by rcases hc with rfl | rfl <;> rfl) (Or.inr (Or.inl rfl)) (hb hbytes d18) hl)⟩
end IsL
namespace LChA
def yN : MethodName := ⟨"java/lang/StringLatin1", "charAt", "([BI)C"⟩
abbrev yB : ByteArray := jdk_43_method_2_code
theorem d0 : decode yB 0 = .ok (.iload_n 1, 1) := by decide +kernel
theorem d1 : decode yB 1 = .ok (.aload_n 0, 1) := by decide +kernel
theorem d2 : decode yB 2 = .ok (.arraylength, 1) := by decide +kernel
theorem d3 : decode yB 3 = .ok (.invokestatic 9, 3) := by decide +kernel
theorem d6 : decode yB 6 = .ok (.aload_n 0, 1) := by decide +kernel
theorem d7 : decode yB 7 = .ok (.iload_n 1, 1) := by decide +kernel
theorem d8 : decode yB 8 = .ok (.baload, 1) := by decide +kernel
theorem d9 : decode yB 9 = .ok (.sipush 255, 3) := by decide +kernel
theorem d12 : decode yB 12 = .ok (.iand, 1) := by decide +kernel
theorem d13 : decode yB 13 = .ok (.i2c, 1) := by decide +kernel
theorem d14 : decode yB 14 = .ok (.ireturn, 1) := by decide +kernel
def site : List Cond := [JO.Str_checkIndex.tab] ++ staticW "java/lang/StringLatin1" 9 JO.Str_checkIndex.yN
def tab : Cond := tabOf yN yB 2 (some .char) site
def P (t : Addr) (V : Cell) (i : Nat) (u : Int32) (fm : Value) (args : Array Value) (s : State) : Prop := args = #[.ref t, .int (Int32.ofNat i)] ∧ XT.Arr .byte t V s ∧ V.slots[i]? = some (.int u) ∧ (StaticIs s "jdk/internal/util/Preconditions" "SIOOBE_FORMATTER" "Ljava/util/function/BiFunction;" fm ∧ fm.isRef = true)
def E (u : Int32) (r : Option Value) (s w : State) : Prop := XT.PureE (some (.int (chr8 u))) r s w
theorem law (l : Launch) (t : Addr) (V : Cell) (i : Nat) (u : Int32) (fm : Value) : Law l yN 2 2 2 27 yB 2 (some .char) site (P t V i u fm) (E u) [] 0 0 := by
  refine Law.of_walk (plainFor_of_name (by decide +kernel)) (by decide +kernel) (by decide +kernel) (by decide) (fun _ _ h => by rw [h.1]; rfl) (fun _ U U' hal hh h => ⟨h.1, h.2.1.mv hal hh, h.2.2.1, h.2.2.2.1.there hal hh, h.2.2.2.2⟩) (fun r U U' V V' h1 hal h2 h => XT.PureE.mv r U U' V V' h1 hal h2 h) ?_
  intro p e s m args below meth c s₁ X0 hexec hbytes hml hret hlk hnm hown hh0 W hP
  obtain ⟨rfl, hV, hu, s1, rf⟩ := hP
  have v31 := hV.2.2.2
  have hi : i < V.slots.size := (Array.getElem?_eq_some_iff.mp hu).1
  have c1 : Steps p.tables e below (s₁.setTop (entryFrame m #[.ref t, .int (Int32.ofNat i)] 2)) (s₁.setTop (mkF m 0 #[.val (.ref t), .val (.int (Int32.ofNat i))] [])) := entry rfl
  have c2 : Steps p.tables e below (s₁.setTop (entryFrame m #[.ref t, .int (Int32.ofNat i)] 2)) (s₁.setTop (mkF m 3 #[.val (.ref t), .val (.int (Int32.ofNat i))] [.int (Int32.ofNat V.slots.size), .int (Int32.ofNat i)])) := c1.trans (by
    refine XS.iloadN X0.here hexec rfl (hb hbytes d0) rfl ?_
    refine XS.aloadN X0.here hexec rfl (hb hbytes d1) rfl rfl ?_
    refine X0.alen hexec (hV.mv X0.warmed.alike hh0) rfl rfl (hb hbytes d2) ?_
    exact Steps.refl _)
  obtain ⟨v3, T3, X3, E3, g3⟩ := X0.callS hexec (JO.Str_checkIndex.law l (Int32.ofNat i) (Int32.ofNat V.slots.size) fm) hown (wks W (staticW "java/lang/StringLatin1" 9 JO.Str_checkIndex.yN)) (wk W JO.Str_checkIndex.tab) (W := 0) (Nat.le_of_ble_eq_true rfl) (Nat.le_of_ble_eq_true rfl) (Nat.le_refl _) (Nat.le_refl _) (g := (mkF m 3 #[.val (.ref t), .val (.int (Int32.ofNat i))] [.int (Int32.ofNat V.slots.size), .int (Int32.ofNat i)])) rfl (by rw [hml]; rfl) c2 (argsL := [.int (Int32.ofNat i), .int (Int32.ofNat V.slots.size)]) (rest := []) rfl rfl (by show 2 * 0 + 0 ≤ _; decide) (hb hbytes d3) (⟨rfl, rf, s1.there X0.warmed.alike hh0, Int32.ofNat_not_neg (by omega), lt32 v31 hi⟩)
  obtain ⟨rfl, q3⟩ := E3
  have hh3 := q3.trans hh0
  have c4 : Steps p.tables e below (s₁.setTop (entryFrame m #[.ref t, .int (Int32.ofNat i)] 2)) (T3.setTop (mkF m 14 #[.val (.ref t), .val (.int (Int32.ofNat i))] [.int (chr8 u)])) := Steps.trans g3 (by
    refine XS.aloadN X3.here hexec rfl (hb hbytes d6) rfl rfl ?_
    refine XS.iloadN X3.here hexec rfl (hb hbytes d7) rfl ?_
    refine X3.aget hexec (hV.mv X3.warmed.alike hh3) rfl hu rfl rfl (hb hbytes d8) ?_
    refine sipushV X3.here hexec rfl 255 (hb hbytes d9) (by decide) ?_
    refine XS.iand X3.here hexec rfl (hb hbytes d12) rfl ?_
    refine i2c X3.here hexec rfl (hb hbytes d13) rfl ?_
    exact Steps.refl _)
  exact ⟨T3, some (.int (chr8 u)), _, _, _, X3, rfl, rfl, rfl, (fun h => by cases h), ⟨rfl, hh3⟩, fun fs hl => c4.trans (X3.ireturnOut hexec hret (narrow_c _) (Or.inr (Or.inr (Or.inr (Or.inl rfl)))) (hb hbytes d14) hl)⟩
end LChA
end StrChars
namespace StrChars.Road
open Jvm Sem ClassFile Op Lib Jvm.Stand Jvm.Free Jvm.Free.XT
open Jvm.Lib.Cold (StaticIs)
theorem consq {a : Array Value} {s : State} {c : Jvm.Cond} {L : List Jvm.Cond} (h0 : c.before a s = true) (h : ∀ w ∈ L, w.before a s = true) : ∀ w ∈ c :: L, w.before a s = true := fun w hw => (List.mem_cons.mp hw).elim (fun e => e ▸ h0) (h w)
/-- the words of String.length(), either coding -/
abbrev wordsLen : List Jvm.Cond := [.code Len.yN Len.yB 1 (some .int), .initialized ST, .fieldLink ST 9 ST "value" "[B", .fieldLink ST 38 ST "COMPACT_STRINGS" "Z", .fieldLink ST 15 ST "coder" "B", .code Cdr.yN Cdr.yB 1 (some .byte), .methodLink ST 335 Cdr.yN, .declares Cdr.yN, .selects ST Cdr.yN Cdr.yN, .instanceMethod Cdr.yN]
theorem tabLen_of {a : Array Value} {s : State} (h : ∀ w ∈ wordsLen, w.before a s = true) : Len.tab.before a s = true := by
  have hc : Cdr.tab.before a s = true := unparts (wk h (.code Cdr.yN Cdr.yB 1 (some .byte))) (wks h (.initialized Cdr.yN.cls :: Cdr.site))
  have q := consq hc h
  exact unparts (wk q (.code Len.yN Len.yB 1 (some .int))) (wks q (.initialized Len.yN.cls :: Len.site))
theorem movedLen {Z s : State} {a0 args : Array Value} (hZ : Z.Warmed39 s.vm) (hw : ∀ d ∈ wordsLen, d.before a0 Z = true) : ∀ d ∈ wordsLen, d.before args s = true := fun d hd => by
  have q := hw d hd
  have t : ∀ d ∈ wordsLen, d = .arrayClass .byte ∨ (d.onTables && d.keepsFace) = true := by decide +kernel
  rcases t d hd with rfl | t
  · exact RoadKit.mvA hZ q
  · exact RoadKit.mv hZ q t
/-- the bytes of the chars cs, low before high -/
def wideBytes : List Int32 → List Value
  | [] => []
  | c :: cs => .int (lo8 c) :: .int (hi8 c) :: wideBytes cs
theorem wide_lo (d : Value) : ∀ (cs : List Int32) (j : Nat), j < cs.length → (wideBytes cs).getD (2 * j) d = .int (lo8 (cs.getD j 0))
  | [], j, h => absurd h (Nat.not_lt_zero j)
  | c :: cs, 0, _ => rfl
  | c :: cs, j + 1, h => by
    have q := wide_lo d cs j (by simpa using h)
    rw [show 2 * (j + 1) = 2 * j + 1 + 1 from by omega]
    simpa [wideBytes] using q
theorem wide_hi (d : Value) : ∀ (cs : List Int32) (j : Nat), j < cs.length → (wideBytes cs).getD (2 * j + 1) d = .int (hi8 (cs.getD j 0))
  | [], j, h => absurd h (Nat.not_lt_zero j)
  | c :: cs, 0, _ => rfl
  | c :: cs, j + 1, h => by
    have q := wide_hi d cs j (by simpa using h)
    rw [show 2 * (j + 1) + 1 = 2 * j + 1 + 1 + 1 from by omega]
    simpa [wideBytes] using q
theorem low_at (d : Value) (cs : List Int32) (j : Nat) (h : j < cs.length) : (cs.map fun c => Value.int (lo8 c)).getD j d = .int (lo8 (cs.getD j 0)) := by
  simp [List.getD_eq_getElem?_getD, h]
/-- an array of N2 bytes vs codes the chars cs by the coder cd -/
def CodA (cs : List Int32) (cd N2 : Int32) (vs : List Value) : Prop := (cd = 0 ∧ N2 = Int32.ofNat cs.length ∧ vs = (cs.map fun c => Value.int (lo8 c)) ∧ ∀ c ∈ cs, ¬ 255 < c) ∨ (cd = 1 ∧ N2 = Int32.ofNat (2 * cs.length) ∧ vs = wideBytes cs ∧ ∃ c ∈ cs, 255 < c)
theorem CodA.cod {cs : List Int32} {cd N2 : Int32} {vs : List Value} {V : Cell} (h : CodA cs cd N2 vs) (hn : 2 * cs.length < 2 ^ 31) (hs : V.slots.size = N2.toNatClampNeg) (hv : RoadKit.Has V vs (.int 0)) : Cod cd cs.length (fun j => cs.getD j 0) V := by
  rcases h with ⟨rfl, rfl, rfl, h⟩ | ⟨rfl, rfl, rfl, c, hc, hw⟩
  · rw [n32 (by omega)] at hs
    exact Or.inl ⟨rfl, hs, fun j hj => ⟨by rw [hv j (by omega), low_at _ _ _ hj], by
      have e : cs.getD j 0 = cs[j] := by simp [List.getD_eq_getElem?_getD, hj]
      show ¬ 255 < cs.getD j 0
      rw [e]; exact h _ (List.getElem_mem _)⟩⟩
  · rw [n32 (by omega)] at hs
    obtain ⟨j, hj, rfl⟩ := List.getElem_of_mem hc
    exact Or.inr ⟨rfl, hs, fun j hj => ⟨by rw [hv _ (by omega), wide_lo _ _ _ hj], by rw [hv _ (by omega), wide_hi _ _ _ hj]⟩, j, hj, by
      have e : cs.getD j 0 = cs[j] := by simp [List.getD_eq_getElem?_getD, hj]
      show 255 < cs.getD j 0
      rw [e]; exact hw⟩
/-- an object of exactly java/lang/String, its two fields found: as the laws ask it -/
theorem strObj {Z U : State} {a0 : Array Value} {kI : Nat} (wi : (Jvm.Cond.instantiable ST kI).before a0 Z = true) (al : Z.vm.Alike U.vm) {x : Addr} {v0 c0 : Value} (E : RoadKit.Exa Z U.heap x ST) (V : RoadKit.Fld Z U.heap x ST "value" "[B" v0) (C : RoadKit.Fld Z U.heap x ST "coder" "B" c0) :
    ∃ (D : Cell) (fV fC : Field), Blank ST x D U ∧ Found ST "value" "[B" fV U ∧ Found ST "coder" "B" fC U ∧ D.slots[fV.slot]? = some v0 ∧ D.slots[fC.slot]? = some c0 ∧ RoadKit.slotOf Z ST "value" "[B" = fV.slot ∧ RoadKit.slotOf Z ST "coder" "B" = fC.slot := by
  obtain ⟨D, cfV, kV, iV, fV, hD, gV, stV, knV, obV, asV, slV⟩ := V
  obtain ⟨D', cfC, kC, iC, fC, hD', gC, stC, -, -, asC, slC⟩ := C
  cases hD.symm.trans hD'
  obtain ⟨D2, kD, e1, e2, e3, e4, e5⟩ := E
  cases hD.symm.trans e1
  obtain ⟨c2, k2, i1, i2, i3, -⟩ := Cond.instantiable_spec wi
  cases e2.symm.trans i1
  cases e3.symm.trans i2
  obtain ⟨kU, u1, u2⟩ := al.2.2 _ _ e3
  exact ⟨D, fV, fC, ⟨hD, ⟨knV, fun q hq => by rw [hq] at obV; cases obV⟩, by rw [al.findClass]; exact e2, kU, u1, by rw [u2]; exact i3, by rw [u2]; exact e5 i3⟩, ⟨SBG.found_only al ⟨cfV, kV, iV, gV⟩, stV⟩, ⟨SBG.found_only al ⟨cfC, kC, iC, gC⟩, stC⟩, slV, slC, by simp [RoadKit.slotOf, gV], by simp [RoadKit.slotOf, gC]⟩
theorem sta_is {Z U : State} (al : Z.vm.Alike U.vm) {C n d : String} {v : Value} (S : RoadKit.Sta Z U.heap C n d v) : StaticIs U C n d v := by
  obtain ⟨cfS, iS, kS, fS, st, cS, t1, t2, t3, t4, t5, t6, t7⟩ := S
  exact StaticIs.there (s := { Z with heap := U.heap }) ⟨cfS, iS, kS, fS, st, cS, t1, t2, t3, t4, t5, (fun q => by rw [q] at t6; cases t6), t7⟩ al rfl
/-- **length() OF SUCH A STRING** -/
theorem lenW {p : Program} {l : Launch} {e : Env} {R : Room} {s : State} {args : Array Value} {below : List Frame} {len W : Nat} {Z : State} {a0 : Array Value} {h : Heap} (hZ : Z.Warmed39 s.vm) (hw : ∀ d ∈ wordsLen, d.before a0 Z = true) {kI : Nat} (wi : (Jvm.Cond.instantiable ST kI).before a0 Z = true)
    {x t : Addr} {kb : ClassId} {cs : List Int32} {cd N2 z : Int32} {vs : List Value} (E : RoadKit.Exa Z h x ST) (V : RoadKit.Fld Z h x ST "value" "[B" (.ref t)) (C : RoadKit.Fld Z h x ST "coder" "B" (.int cd)) (K : RoadKit.Arv Z h t kb .byte N2 vs (.int 0)) (hc : CodA cs cd N2 vs) (hb : ∀ c ∈ cs, ¬ c < 0 ∧ ¬ (65535 : Int32) < c)
    (S : RoadKit.Sta Z h ST "COMPACT_STRINGS" "Z" (.int z)) (hz : ¬ z = 0) (l2 : cs.length ≤ 4000) (hfr : 2 ≤ R.frames) (hlo : W + 25 ≤ R.locals) :
    Back l R p e below s args (⟨"java/lang/String", "length", "()I"⟩ : MethodName) len W (fun P a => a = #[.ref x] ∧ P.U.heap = h ∧ P.cells + 0 ≤ R.cells ∧ P.slots + 0 ≤ R.slots)
      (fun P _ v B => ∃ L, (v = some (.int (Int32.ofNat cs.length)) ∧ L = [] ∧ B.U.heap = h) ∧ B.locs = P.locs ++ L ∧ B.cells = P.cells + 0 ∧ B.slots = P.slots + 0) := by
  obtain ⟨A, K1, K2, K3, K4, K5, K6⟩ := K
  have hcod := hc.cod (by omega) K3 K5
  intro m meth c P g ig mk a X hg hsize hdg hW hn hp'
  obtain ⟨rfl, rfl, r1, r2⟩ := hp'
  have al : Z.vm.Alike P.U.vm := hZ.alike.trans X.warmed.alike
  obtain ⟨D, fV, fC, hB, F1, F2, g1, g2, -, -⟩ := strObj wi al E V C
  have hx : Txt x t A cd cs.length (fun j => cs.getD j 0) P.U := ⟨⟨_, hB.2.2.1, D, hB.1, rfl, by cases q : D.vm <;> first | rfl | exact absurd q (hB.2.1.2 _)⟩, Has.of hB F1 g1, Has.of hB F2 g2, ⟨K1.1, State.isArrayOf_alike al K1.2.1, K1.2.2, by rcases hcod with ⟨-, q, -⟩ | ⟨-, q, -⟩ <;> omega⟩, hcod, fun j hj => by
    have e : cs.getD j 0 = cs[j] := by simp [List.getD_eq_getElem?_getD, hj]
    show ¬ cs.getD j 0 < 0 ∧ ¬ 65535 < cs.getD j 0
    rw [e]; exact hb _ (List.getElem_mem _)⟩
  obtain ⟨v, B, X', ⟨⟨hv, hh⟩, hl, hk, hs⟩, st⟩ := Len.pays x t A cd cs.length (fun j => cs.getD j 0) z (tabLen_of (movedLen hZ hw)) hfr hlo m meth c P g ig mk _ X hg hsize hdg hW hn ⟨r1, r2, rfl, hx, sta_is al S, hz⟩
  exact ⟨v, B, X', ⟨[], ⟨hv, rfl, hh⟩, hl, hk, hs⟩, st⟩
end StrChars.Road
namespace StrChars.Road
open Jvm Sem ClassFile Op Lib Jvm.Stand Jvm.Free Jvm.Free.XT
open Jvm.Lib.Cold (StaticIs)
/-- the road's facts of a String, as the laws ask it -/
theorem txt_of {Z U : State} {a0 : Array Value} {kI : Nat} (wi : (Jvm.Cond.instantiable ST kI).before a0 Z = true) (al : Z.vm.Alike U.vm) {x t : Addr} {kb : ClassId} {cs : List Int32} {cd N2 : Int32} {vs : List Value} (E : RoadKit.Exa Z U.heap x ST) (V : RoadKit.Fld Z U.heap x ST "value" "[B" (.ref t)) (C : RoadKit.Fld Z U.heap x ST "coder" "B" (.int cd)) (K : RoadKit.Arv Z U.heap t kb .byte N2 vs (.int 0)) (hc : CodA cs cd N2 vs) (hb : ∀ c ∈ cs, ¬ c < 0 ∧ ¬ (65535 : Int32) < c) (l2 : cs.length ≤ 4000) :
    ∃ A, Txt x t A cd cs.length (fun j => cs.getD j 0) U := by
  obtain ⟨A, K1, K2, K3, K4, K5, K6⟩ := K
  have hcod := hc.cod (by omega) K3 K5
  obtain ⟨D, fV, fC, hB, F1, F2, g1, g2, -, -⟩ := strObj wi al E V C
  exact ⟨A, ⟨_, hB.2.2.1, D, hB.1, rfl, by cases q : D.vm <;> first | rfl | exact absurd q (hB.2.1.2 _)⟩, Has.of hB F1 g1, Has.of hB F2 g2, ⟨K1.1, State.isArrayOf_alike al K1.2.1, K1.2.2, by rcases hcod with ⟨-, q, -⟩ | ⟨-, q, -⟩ <;> omega⟩, hcod, fun j hj => by
    have e : cs.getD j 0 = cs[j] := by simp [List.getD_eq_getElem?_getD, hj]
    show ¬ cs.getD j 0 < 0 ∧ ¬ 65535 < cs.getD j 0
    rw [e]; exact hb _ (List.getElem_mem _)⟩
end StrChars.Road
namespace StrChars
open Jvm Sem ClassFile Op Lib Jvm.Stand Jvm.Free.XT Jvm.Free.ALB Jvm.Free.JM Jvm.Free
open Jvm.Lib.Cold (StaticIs)
namespace ChN
def yN : MethodName := ⟨"java/lang/String", "charAt", "(I)C"⟩
abbrev yB : ByteArray := jdk_42_method_56_code
theorem d0 : decode yB 0 = .ok (.aload_n 0, 1) := by decide +kernel
theorem d1 : decode yB 1 = .ok (.invokevirtual 492, 3) := by decide +kernel
theorem d4 : decode yB 4 = .ok (.ifCond (.eq) 12, 3) := by decide +kernel
theorem d7 : decode yB 7 = .ok (.aload_n 0, 1) := by decide +kernel
theorem d8 : decode yB 8 = .ok (.getfield 9, 3) := by decide +kernel
theorem d11 : decode yB 11 = .ok (.iload_n 1, 1) := by decide +kernel
theorem d12 : decode yB 12 = .ok (.invokestatic 495, 3) := by decide +kernel
theorem d15 : decode yB 15 = .ok (.ireturn, 1) := by decide +kernel
def site : List Cond := [.fieldLink "java/lang/String" 9 "java/lang/String" "value" "[B", IsL.tab, LChA.tab] ++ virtW "java/lang/String" 492 "java/lang/String" IsL.yN IsL.yN ++ staticW "java/lang/String" 495 LChA.yN
def tab : Cond := tabOf yN yB 2 (some .char) site
def P (x t : Addr) (V : Cell) (n : Nat) (f : Nat → Int32) (z : Int32) (fm : Value) (i : Nat) (args : Array Value) (s : State) : Prop := args = #[.ref x, .int (Int32.ofNat i)] ∧ Txt x t V 0 n f s ∧ i < n ∧ StaticIs s "java/lang/String" "COMPACT_STRINGS" "Z" (.int z) ∧ ¬ z = 0 ∧ StaticIs s "jdk/internal/util/Preconditions" "SIOOBE_FORMATTER" "Ljava/util/function/BiFunction;" fm ∧ fm.isRef = true
def E (f : Nat → Int32) (i : Nat) (r : Option Value) (s u : State) : Prop := XT.PureE (some (.int (f i))) r s u
/-- charAt(i) of a Latin-1 String of n chars, i < n: f i -/
theorem law (l : Launch) (x t : Addr) (V : Cell) (n : Nat) (f : Nat → Int32) (z : Int32) (fm : Value) (i : Nat) : Law l yN 2 1 3 40 yB 2 (some .char) site (P x t V n f z fm i) (E f i) [] 0 0 := by
  refine Law.of_walk (plainFor_of_name (by decide +kernel)) (by decide +kernel) (by decide +kernel) (by decide) (fun _ _ h => by rw [h.1]; rfl) (fun _ U U' hal hh h => ⟨h.1, h.2.1.mv hal hh, h.2.2.1, h.2.2.2.1.there hal hh, h.2.2.2.2.1, h.2.2.2.2.2.1.there hal hh, h.2.2.2.2.2.2⟩) (fun r U U' V V' h1 hal h2 h => XT.PureE.mv r U U' V V' h1 hal h2 h) ?_
  intro p e s m args below meth c s₁ X0 hexec hbytes hml hret hlk hnm hown hh0 W hP
  obtain ⟨rfl, hx, hi, s1, hz, s3, rf⟩ := hP
  have v31 := hx.2.2.2.1.2.2.2
  have hr := hx.2.2.2.2.2 i hi
  have hx0 := hx.mv X0.warmed.alike hh0
  have c1 : Steps p.tables e below (s₁.setTop (entryFrame m #[.ref x, .int (Int32.ofNat i)] 2)) (s₁.setTop (mkF m 1 #[.val (.ref x), .val (.int (Int32.ofNat i))] [.ref x])) := Steps.trans (entry rfl) (by
    show Steps p.tables e below (s₁.setTop (mkF m 0 #[.val (.ref x), .val (.int (Int32.ofNat i))] [])) _
    refine XS.aloadN X0.here hexec rfl (hb hbytes d0) rfl rfl ?_
    exact Steps.refl _)
  obtain ⟨v2, T2, X2, E2, g2⟩ := X0.callV hexec (IsL.law l x 0 z) hown (wks W (virtW "java/lang/String" 492 "java/lang/String" IsL.yN IsL.yN)) rfl (by decide) (wk W IsL.tab) (W := 0) (Nat.le_of_ble_eq_true rfl) (Nat.le_of_ble_eq_true rfl) (Nat.le_refl _) (Nat.le_refl _) (hx0.1.fc X0.warmed.alike) hx0.1.is (g := (mkF m 1 #[.val (.ref x), .val (.int (Int32.ofNat i))] [.ref x])) rfl (by rw [hml]; rfl) c1 (argsL := []) (rest := []) rfl rfl (by show 2 * 0 + 0 ≤ _; decide) (hb hbytes d1) (⟨rfl, hx0.2.2.1, hx.2.2.2.2.1.cd, s1.there X0.warmed.alike hh0, hz⟩)
  obtain ⟨rfl, q2⟩ := E2
  have hh2 := q2.trans hh0
  have hx2 := hx.mv X2.warmed.alike hh2
  obtain ⟨-, k1, k2⟩ | ⟨k0, -⟩ := hx.2.2.2.2.1
  · have c3 : Steps p.tables e below (s₁.setTop (entryFrame m #[.ref x, .int (Int32.ofNat i)] 2)) (T2.setTop (mkF m 8 #[.val (.ref x), .val (.int (Int32.ofNat i))] [.ref x])) := Steps.trans g2 (by
      refine XS.ifNo X2.here hexec rfl (hb hbytes d4) rfl (i0_eq_f (by decide)) ?_
      refine XS.aloadN X2.here hexec rfl (hb hbytes d7) rfl rfl ?_
      exact Steps.refl _)
    obtain ⟨T4, X4, q4, st4⟩ := X2.hget hexec hown (wk W (.fieldLink "java/lang/String" 9 "java/lang/String" "value" "[B")) hx2.2.1 (g := (mkF m 8 #[.val (.ref x), .val (.int (Int32.ofNat i))] [.ref x])) rfl (rest := []) rfl (hb hbytes d8)
    have hh4 := q4.trans hh2
    have c5 : Steps p.tables e below (s₁.setTop (entryFrame m #[.ref x, .int (Int32.ofNat i)] 2)) (T4.setTop (mkF m 12 #[.val (.ref x), .val (.int (Int32.ofNat i))] [.int (Int32.ofNat i), .ref t])) := (c3.trans (st4 _ (Steps.refl _))).trans (by
      refine XS.iloadN X4.here hexec rfl (hb hbytes d11) rfl ?_
      exact Steps.refl _)
    obtain ⟨v6, T6, X6, E6, g6⟩ := X4.callS hexec (LChA.law l t V i (lo8 (f i)) fm) hown (wks W (staticW "java/lang/String" 495 LChA.yN)) (wk W LChA.tab) (W := 0) (Nat.le_of_ble_eq_true rfl) (Nat.le_of_ble_eq_true rfl) (Nat.le_refl _) (Nat.le_refl _) (g := (mkF m 12 #[.val (.ref x), .val (.int (Int32.ofNat i))] [.int (Int32.ofNat i), .ref t])) rfl (by rw [hml]; rfl) c5 (argsL := [.ref t, .int (Int32.ofNat i)]) (rest := []) rfl rfl (by show 2 * 0 + 0 ≤ _; decide) (hb hbytes d12) (⟨rfl, hx.2.2.2.1.mv X4.warmed.alike hh4, (k2 i hi).1, s3.there X4.warmed.alike hh4, rf⟩)
    obtain ⟨rfl, q6⟩ := E6
    rw [chr8_lo8 hr.1 (k2 i hi).2] at g6
    exact ⟨T6, some (.int (f i)), _, _, _, X6, rfl, rfl, rfl, (fun h => by cases h), ⟨rfl, q6.trans hh4⟩, fun fs hl => Steps.trans g6 (X6.ireturnOut hexec hret (narrow_ch hr.1 hr.2) (Or.inr (Or.inr (Or.inr (Or.inl rfl)))) (hb hbytes d15) hl)⟩
  · exact absurd k0 (by decide)
theorem pays {l : Launch} {R : Room} {p : Program} {e : Env} {below : List Frame} {s : State} {sargs : Array Value} {len W : Nat} (x t : Addr) (V : Cell) (n : Nat) (f : Nat → Int32) (z : Int32) (fm : Value) (i : Nat) (htab : tab.before sargs s = true) (hfr : 4 ≤ R.frames) (hlo : W + 53 ≤ R.locals) :
    Back l R p e below s sargs yN len W (fun A₁ a₁ => A₁.cells + 0 ≤ R.cells ∧ A₁.slots + 0 ≤ R.slots ∧ P x t V n f z fm i a₁ A₁.U) (fun A₁ _ v₁ B₁ => E f i v₁ A₁.U B₁.U ∧ B₁.locs = A₁.locs ++ [] ∧ B₁.cells = A₁.cells + 0 ∧ B₁.slots = A₁.slots + 0) :=
  (law l x t V n f z fm i).pays htab hfr (by omega)
end ChN
end StrChars
namespace StrChars.Road
open Jvm Sem ClassFile Op Lib Jvm.Stand Jvm.Free Jvm.Free.XT
open Jvm.Lib.Cold (StaticIs)
/-- the words of String.charAt(int), the Latin-1 road alone -/
abbrev wordsChN : List Jvm.Cond := [.code ChN.yN ChN.yB 2 (some .char), .initialized ST, .fieldLink ST 9 ST "value" "[B", .fieldLink ST 38 ST "COMPACT_STRINGS" "Z", .fieldLink ST 15 ST "coder" "B", .code IsL.yN IsL.yB 1 (some .boolean), .methodLink ST 492 IsL.yN, .declares IsL.yN, .selects ST IsL.yN IsL.yN, .instanceMethod IsL.yN,
  .methodLink ST 495 LChA.yN, .static LChA.yN, .code LChA.yN LChA.yB 2 (some .char), .initialized "java/lang/StringLatin1", .methodLink "java/lang/StringLatin1" 9 JO.Str_checkIndex.yN, .static JO.Str_checkIndex.yN, .code JO.Str_checkIndex.yN JO.Str_checkIndex.yB 2 none,
  .fieldLink ST 1053 "jdk/internal/util/Preconditions" "SIOOBE_FORMATTER" "Ljava/util/function/BiFunction;", .methodLink ST 1059 JC.PreCheck.yN, .static JC.PreCheck.yN, .code JC.PreCheck.yN JC.PreCheck.yB 3 (some .int), .initialized "jdk/internal/util/Preconditions"]
theorem tabChN_of {a : Array Value} {s : State} (h : ∀ w ∈ wordsChN, w.before a s = true) : ChN.tab.before a s = true := by
  have hp : JC.PreCheck.tab.before a s = true := unparts (wk h (.code JC.PreCheck.yN JC.PreCheck.yB 3 (some .int))) (wks h (.initialized JC.PreCheck.yN.cls :: JC.PreCheck.site))
  have qk := consq hp h
  have hk : JO.Str_checkIndex.tab.before a s = true := unparts (wk qk (.code JO.Str_checkIndex.yN JO.Str_checkIndex.yB 2 none)) (wks qk (.initialized JO.Str_checkIndex.yN.cls :: JO.Str_checkIndex.site))
  have ql := consq hk h
  have hl : LChA.tab.before a s = true := unparts (wk ql (.code LChA.yN LChA.yB 2 (some .char))) (wks ql (.initialized LChA.yN.cls :: LChA.site))
  have hi : IsL.tab.before a s = true := unparts (wk h (.code IsL.yN IsL.yB 1 (some .boolean))) (wks h (.initialized IsL.yN.cls :: IsL.site))
  have q := consq hi (consq hl h)
  exact unparts (wk q (.code ChN.yN ChN.yB 2 (some .char))) (wks q (.initialized ChN.yN.cls :: ChN.site))
theorem movedChN {Z s : State} {a0 args : Array Value} (hZ : Z.Warmed39 s.vm) (hw : ∀ d ∈ wordsChN, d.before a0 Z = true) : ∀ d ∈ wordsChN, d.before args s = true := fun d hd => by
  have t : ∀ d ∈ wordsChN, (d.onTables && d.keepsFace) = true := by decide +kernel
  exact RoadKit.mv hZ (hw d hd) (t d hd)
/-- **charAt(i) OF A LATIN-1 STRING**, i < n: the char -/
theorem chN {p : Program} {l : Launch} {e : Env} {R : Room} {s : State} {args : Array Value} {below : List Frame} {len W : Nat} {Z : State} {a0 : Array Value} {h : Heap} (hZ : Z.Warmed39 s.vm) (hw : ∀ d ∈ wordsChN, d.before a0 Z = true) {kI : Nat} (wi : (Jvm.Cond.instantiable ST kI).before a0 Z = true)
    {x t : Addr} {kb : ClassId} {cs : List Int32} {N2 z : Int32} {vs : List Value} {fm : Value} {i : Nat} {j : Int32} (E : RoadKit.Exa Z h x ST) (V : RoadKit.Fld Z h x ST "value" "[B" (.ref t)) (C : RoadKit.Fld Z h x ST "coder" "B" (.int 0)) (K : RoadKit.Arv Z h t kb .byte N2 vs (.int 0)) (hc : CodA cs 0 N2 vs) (hb : ∀ c ∈ cs, ¬ c < 0 ∧ ¬ (65535 : Int32) < c)
    (S : RoadKit.Sta Z h ST "COMPACT_STRINGS" "Z" (.int z)) (hz : ¬ z = 0) (F : RoadKit.Sta Z h "jdk/internal/util/Preconditions" "SIOOBE_FORMATTER" "Ljava/util/function/BiFunction;" fm) (rf : fm.isRef = true) (l2 : cs.length ≤ 4000) (hi : i < cs.length) (hj : j = Int32.ofNat i) (hfr : 4 ≤ R.frames) (hlo : W + 53 ≤ R.locals) :
    Back l R p e below s args (⟨"java/lang/String", "charAt", "(I)C"⟩ : MethodName) len W (fun P a => a = #[.ref x, .int j] ∧ P.U.heap = h ∧ P.cells + 0 ≤ R.cells ∧ P.slots + 0 ≤ R.slots)
      (fun P _ v B => ∃ L, (v = some (.int (cs.getD i 0)) ∧ L = [] ∧ B.U.heap = h) ∧ B.locs = P.locs ++ L ∧ B.cells = P.cells + 0 ∧ B.slots = P.slots + 0) := by
  subst hj
  intro m meth c P g ig mk a X hg hsize hdg hW hn hp'
  obtain ⟨rfl, rfl, r1, r2⟩ := hp'
  have al : Z.vm.Alike P.U.vm := hZ.alike.trans X.warmed.alike
  obtain ⟨A, hx⟩ := txt_of wi al E V C K hc hb l2
  obtain ⟨v, B, X', ⟨⟨hv, hh⟩, hl, hk, hs⟩, st⟩ := ChN.pays x t A cs.length (fun j => cs.getD j 0) z fm i (tabChN_of (movedChN hZ hw)) hfr hlo m meth c P g ig mk _ X hg hsize hdg hW hn ⟨r1, r2, rfl, hx, hi, sta_is al S, hz, sta_is al F, rf⟩
  exact ⟨v, B, X', ⟨[], ⟨hv, rfl, hh⟩, hl, hk, hs⟩, st⟩
end StrChars.Road
end Jvm.Pilot.@@N@@
namespace Jvm.Pilot.@@N@@
open Jvm Jvm.ClassFile Sem Op Lib Jvm.Free Jvm.Stand Jvm.LawKit Jvm.RoadKit Bundle
/-! THE WALK's OWN LAYER: one predicate (Wk) for 'the walk stands at this frame', one lemma a step. -/
/-- a comparison of closed numbers -/
theorem nle {a b : Nat} (h : Nat.ble a b = true := by rfl) : a ≤ b := Nat.le_of_ble_eq_true h
section OwnWk
/-- the walk of y's body stands at the frame g, its heap h, its tables V; it has come from S0 -/
def Wk (p : Program) (l : Launch) (e : Env) (R : Room) (s : State) (m : MethodId) (args : Array Value) (below : List Frame) (meth : Method) (c : Code) (Z : State) (a0 : Array Value) (EL : List (String × Nat)) (S0 : State) (y : MethodName) (B : ByteArray) (ml : Nat) (ret : Option FieldType) (V : Vm) (h : Heap) (cl sl : Nat) (g : JFrame) : Prop :=
  (p.tables.exec = Jvm.exec ∧ c.code = B ∧ c.maxLocals = ml ∧ meth.sig.returnType = ret ∧ meth.locks = false ∧ Z.vm.findClass y.cls = some m.cls ∧ meth.name = y.name ∧ EW Z a0 EL) ∧
  (Z.Warmed39 V ∧ CHr Z EL s.vm s.heap V h ∧ Ext Z.heap h) ∧
  ∃ (T : State) (locs : List Loc) (k0 : Nat), Stand p l e R (s.setVm V) m args below meth c T locs cl sl ∧ T.heap = h ∧ s.Since V k0 ∧ k0 ≤ h.size ∧ Fr Z.heap.size locs ∧ ∀ t, Steps p.tables e below (T.setTop g) t → Steps p.tables e below S0 t
/-- the walk that began at S0 comes back, with Q of what it returns and leaves; k new cells, n new slots at the most -/
def Fini (p : Program) (e : Env) (below : List Frame) (s : State) (Z : State) (EL : List (String × Nat)) (S0 : State) (k n : Nat) (Q : Option Value → Heap → Prop) : Prop :=
  ∃ (s₂ : State) (o : Outcome), Steps p.tables e below S0 s₂ ∧ s₂.status = .running ∧ Ended s₂ below o ∧ ∃ (v : Option Value) (L : List Loc), o = .returned v ∧ Q v s₂.heap ∧ Ext Z.heap s₂.heap ∧ Fr Z.heap.size L ∧ CHr Z EL s.vm s.heap s₂.vm s₂.heap ∧ ReturnedEndW s o s₂ L k n
/-- a contract of y -/
def Met (l : Launch) (Z : State) (EL : List (String × Nat)) (y : MethodName) (B : ByteArray) (ml : Nat) (ret : Option FieldType) (ws : List Jvm.Cond) (rm : Room) (as' : Array Value) (h : Heap) (sf : List Addr) (Q : Option Value → Heap → Prop) : Prop :=
  MetFree l y (head1 (Jvm.Cond.code y B ml ret :: ws) rm) (fun a U => a = as' ∧ Z.Warmed39 U.vm ∧ U.heap = h ∧ CHv Z EL U.vm h ∧ ∀ x ∈ sf, Safe Z EL U.vm h x) (fun _ _ _ _ _ => True)
    (fun _ U o U' => ∃ (v : Option Value) (L : List Loc), o = .returned v ∧ Q v U'.heap ∧ Ext Z.heap U'.heap ∧ Fr Z.heap.size L ∧ CHr Z EL U.vm U.heap U'.vm U'.heap ∧ ReturnedEndW U o U' L rm.cells rm.slots)
variable {p : Program} {l : Launch} {e : Env} {R : Room} {s : State} {m : MethodId} {args : Array Value} {below : List Frame} {meth : Method} {c : Code} {Z : State} {a0 : Array Value} {EL : List (String × Nat)} {S0 : State} {y : MethodName} {B : ByteArray} {ml : Nat} {ret : Option FieldType} {V : Vm} {h : Heap} {cl sl : Nat}
theorem Met.of {ws : List Jvm.Cond} {rm : Room} {as' : Array Value} {sf : List Addr} {Q : Option Value → Heap → Prop} (hpl : plainFor y = true) (hEL : EW Z a0 EL) (hx : Ext Z.heap h)
    (body : ∀ (p : Program) (e : Env) (s : State) (m : MethodId) (below : List Frame) (meth : Method) (c : Code) (S0 : State) (V : Vm), Wk p l e rm s m as' below meth c Z a0 EL S0 y B ml ret V h 0 0 (entryFrame m as' ml) → s.heap = h → (∀ x ∈ sf, Safe Z EL V h x) → Fini p e below s Z EL S0 rm.cells rm.slots Q) :
    Met l Z EL y B ml ret ws rm as' h sf Q := by
  refine MetFree.of_bodySF hpl hisR ?_
  intro p e s m args below meth c s₁ Bd hml0 hP hK
  obtain ⟨rfl, hZ, hh, hC, hsf⟩ := hP
  have X0 : Stand p l e rm s m args below meth c s₁ [] 0 0 := Stand.of_body Bd
  have e0 : s₁.heap = h := by rw [← hh, Bd.state]; rfl
  have hown : s.vm.findClass y.cls = some m.cls := findClass_of_methodNamed Bd.named
  subst hh
  exact body p e s m below meth c (s₁.setTop (entryFrame m args ml)) s.vm
    ⟨⟨Bd.exec, Bd.bytes, hml0, Bd.returns, Bd.notSynchronized, by rw [← hZ.alike.findClass]; exact hown, (name_of_methodNamed Bd.named Bd.method).1, hEL⟩, ⟨hZ, CHr.refl hC, hx⟩, s₁, [], s.heap.size, X0, e0, (State.WarmedH.refl s).since _, Nat.le_refl _, Fr.nil _, fun t k => k⟩ rfl hsf
theorem Wk.hZ {g : JFrame} (w : Wk p l e R s m args below meth c Z a0 EL S0 y B ml ret V h cl sl g) : Z.Warmed39 V := w.2.1.1
theorem Wk.ch {g : JFrame} (w : Wk p l e R s m args below meth c Z a0 EL S0 y B ml ret V h cl sl g) : CHv Z EL V h := w.2.1.2.1.1
theorem Wk.old {g : JFrame} (w : Wk p l e R s m args below meth c Z a0 EL S0 y B ml ret V h cl sl g) : Ext Z.heap h := w.2.1.2.2
theorem Wk.zsz {g : JFrame} (w : Wk p l e R s m args below meth c Z a0 EL S0 y B ml ret V h cl sl g) : Z.heap.size ≤ h.size := w.2.1.2.2.1
theorem Wk.el {g : JFrame} (w : Wk p l e R s m args below meth c Z a0 EL S0 y B ml ret V h cl sl g) : EW Z a0 EL := w.1.2.2.2.2.2.2.2
/-- one plain step -/
theorem Wk.st {g g' : JFrame} (w : Wk p l e R s m args below meth c Z a0 EL S0 y B ml ret V h cl sl g)
    (k : ∀ (T : State) (t : State), At T m c below → p.tables.exec = Jvm.exec → c.code = B → Steps p.tables e below (T.setTop g') t → Steps p.tables e below (T.setTop g) t) : Wk p l e R s m args below meth c Z a0 EL S0 y B ml ret V h cl sl g' := by
  obtain ⟨hf, hz, T, locs, k0, X, e0, h1, h2, h3, st⟩ := w
  exact ⟨hf, hz, T, locs, k0, X, e0, h1, h2, h3, fun t hr => st t (k T t X.here hf.1 hf.2.1 hr)⟩
/-- a step that asks the Stand, and leaves it -/
theorem Wk.stX {g g' : JFrame} (w : Wk p l e R s m args below meth c Z a0 EL S0 y B ml ret V h cl sl g)
    (k : ∀ (T : State) (locs : List Loc) (t : State), Stand p l e R (s.setVm V) m args below meth c T locs cl sl → T.heap = h → Steps p.tables e below (T.setTop g') t → Steps p.tables e below (T.setTop g) t) : Wk p l e R s m args below meth c Z a0 EL S0 y B ml ret V h cl sl g' := by
  obtain ⟨hf, hz, T, locs, k0, X, e0, h1, h2, h3, st⟩ := w
  exact ⟨hf, hz, T, locs, k0, X, e0, h1, h2, h3, fun t hr => st t (k T locs t X e0 hr)⟩
theorem Wk.to {g g' : JFrame} (w : Wk p l e R s m args below meth c Z a0 EL S0 y B ml ret V h cl sl g) (q : g = g') : Wk p l e R s m args below meth c Z a0 EL S0 y B ml ret V h cl sl g' := q ▸ w
theorem Wk.more {g : JFrame} {cl' sl' : Nat} (w : Wk p l e R s m args below meth c Z a0 EL S0 y B ml ret V h cl sl g) (q1 : cl ≤ cl') (q2 : sl ≤ sl') : Wk p l e R s m args below meth c Z a0 EL S0 y B ml ret V h cl' sl' g := by
  obtain ⟨hf, hz, T, locs, k0, X, r⟩ := w
  exact ⟨hf, hz, T, locs, k0, X.more q1 q2, r⟩

theorem Wk.iloadN {pc pc' : Nat} {L : Array Slot} {st : List Value} {k : Fin 4} {x : Int32} (w : Wk p l e R s m args below meth c Z a0 EL S0 y B ml ret V h cl sl (mkF m pc L st)) (hd : decode B pc = .ok (.iload_n k, 1)) (hl : L[k.val]? = some (.val (.int x))) (hp : pc + 1 = pc' := by rfl) : Wk p l e R s m args below meth c Z a0 EL S0 y B ml ret V h cl sl (mkF m pc' L (.int x :: st)) := by
  subst hp
  exact w.st fun T t X hx hB k => XS.iloadN X hx rfl (hb hB hd) hl k
theorem Wk.iload {pc pc' : Nat} {L : Array Slot} {st : List Value} {k : Nat} {x : Int32} (w : Wk p l e R s m args below meth c Z a0 EL S0 y B ml ret V h cl sl (mkF m pc L st)) (hd : decode B pc = .ok (.iload k, 2)) (hl : L[k]? = some (.val (.int x))) (hp : pc + 2 = pc' := by rfl) : Wk p l e R s m args below meth c Z a0 EL S0 y B ml ret V h cl sl (mkF m pc' L (.int x :: st)) := by
  subst hp
  exact w.st fun T t X hx hB k => XS.iload X hx rfl (hb hB hd) hl k
theorem Wk.aloadN {pc pc' : Nat} {L : Array Slot} {st : List Value} {k : Fin 4} {x : Value} (w : Wk p l e R s m args below meth c Z a0 EL S0 y B ml ret V h cl sl (mkF m pc L st)) (hd : decode B pc = .ok (.aload_n k, 1)) (hl : L[k.val]? = some (.val x)) (hv : x.isRef = true := by rfl) (hp : pc + 1 = pc' := by rfl) : Wk p l e R s m args below meth c Z a0 EL S0 y B ml ret V h cl sl (mkF m pc' L (x :: st)) := by
  subst hp
  exact w.st fun T t X hx hB k => XS.aloadN X hx rfl (hb hB hd) hl hv k
theorem Wk.aload {pc pc' : Nat} {L : Array Slot} {st : List Value} {k : Nat} {x : Value} (w : Wk p l e R s m args below meth c Z a0 EL S0 y B ml ret V h cl sl (mkF m pc L st)) (hd : decode B pc = .ok (.aload k, 2)) (hl : L[k]? = some (.val x)) (hv : x.isRef = true := by rfl) (hp : pc + 2 = pc' := by rfl) : Wk p l e R s m args below meth c Z a0 EL S0 y B ml ret V h cl sl (mkF m pc' L (x :: st)) := by
  subst hp
  exact w.st fun T t X hx hB k => XS.aload X hx rfl (hb hB hd) hl hv k
theorem Wk.istoreN {pc pc' : Nat} {L : Array Slot} {st : List Value} {k : Fin 4} {x : Int32} {L' : Array Slot} (w : Wk p l e R s m args below meth c Z a0 EL S0 y B ml ret V h cl sl (mkF m pc L (.int x :: st))) (hd : decode B pc = .ok (.istore_n k, 1)) (hl : storeLocals L k.val (.int x) = some L') (hp : pc + 1 = pc' := by rfl) : Wk p l e R s m args below meth c Z a0 EL S0 y B ml ret V h cl sl (mkF m pc' L' st) := by
  subst hp
  exact w.st fun T t X hx hB k => XS.istoreN X hx rfl (hb hB hd) rfl hl k
theorem Wk.istore {pc pc' : Nat} {L : Array Slot} {st : List Value} {k : Nat} {x : Int32} {L' : Array Slot} (w : Wk p l e R s m args below meth c Z a0 EL S0 y B ml ret V h cl sl (mkF m pc L (.int x :: st))) (hd : decode B pc = .ok (.istore k, 2)) (hl : storeLocals L k (.int x) = some L') (hp : pc + 2 = pc' := by rfl) : Wk p l e R s m args below meth c Z a0 EL S0 y B ml ret V h cl sl (mkF m pc' L' st) := by
  subst hp
  exact w.st fun T t X hx hB k => XS.istore X hx rfl (hb hB hd) rfl hl k
theorem Wk.astoreN {pc pc' : Nat} {L : Array Slot} {st : List Value} {k : Fin 4} {x : Value} {L' : Array Slot} (w : Wk p l e R s m args below meth c Z a0 EL S0 y B ml ret V h cl sl (mkF m pc L (x :: st))) (hd : decode B pc = .ok (.astore_n k, 1)) (hl : storeLocals L k.val x = some L') (hv : x.isRef = true := by rfl) (hp : pc + 1 = pc' := by rfl) : Wk p l e R s m args below meth c Z a0 EL S0 y B ml ret V h cl sl (mkF m pc' L' st) := by
  subst hp
  exact w.st fun T t X hx hB k => XS.astoreN X hx rfl (hb hB hd) rfl hv hl k
theorem Wk.astore {pc pc' : Nat} {L : Array Slot} {st : List Value} {k : Nat} {x : Value} {L' : Array Slot} (w : Wk p l e R s m args below meth c Z a0 EL S0 y B ml ret V h cl sl (mkF m pc L (x :: st))) (hd : decode B pc = .ok (.astore k, 2)) (hl : storeLocals L k x = some L') (hv : x.isRef = true := by rfl) (hp : pc + 2 = pc' := by rfl) : Wk p l e R s m args below meth c Z a0 EL S0 y B ml ret V h cl sl (mkF m pc' L' st) := by
  subst hp
  exact w.st fun T t X hx hB k => XS.astore X hx rfl (hb hB hd) rfl hv hl k
theorem Wk.iinc {pc pc' : Nat} {L : Array Slot} {st : List Value} {k : Nat} {cst : Int} {x : Int32} {L' : Array Slot} (w : Wk p l e R s m args below meth c Z a0 EL S0 y B ml ret V h cl sl (mkF m pc L st)) (hd : decode B pc = .ok (.iinc k cst, 3)) (hl : L[k]? = some (.val (.int x))) (hl' : storeLocals L k (.int (x + Int32.ofInt cst)) = some L') (hp : pc + 3 = pc' := by rfl) : Wk p l e R s m args below meth c Z a0 EL S0 y B ml ret V h cl sl (mkF m pc' L' st) := by
  subst hp
  exact w.st fun T t X hx hB k => XS.iinc X hx rfl (hb hB hd) hl hl' k
theorem Wk.iconst {pc pc' : Nat} {L : Array Slot} {st : List Value} {i : Int} (x : Int32) (w : Wk p l e R s m args below meth c Z a0 EL S0 y B ml ret V h cl sl (mkF m pc L st)) (hd : decode B pc = .ok (.iconst i, 1)) (hx0 : Int32.ofInt i = x := by rfl) (hp : pc + 1 = pc' := by rfl) : Wk p l e R s m args below meth c Z a0 EL S0 y B ml ret V h cl sl (mkF m pc' L (.int x :: st)) := by
  subst hp hx0
  exact w.st fun T t X hx hB k => XS.iconst X hx rfl (hb hB hd) k
theorem Wk.bipush {pc pc' : Nat} {L : Array Slot} {st : List Value} {i : Int} (x : Int32) (w : Wk p l e R s m args below meth c Z a0 EL S0 y B ml ret V h cl sl (mkF m pc L st)) (hd : decode B pc = .ok (.bipush i, 2)) (hx0 : (Int8.ofInt i).toInt32 = x := by rfl) (hp : pc + 2 = pc' := by rfl) : Wk p l e R s m args below meth c Z a0 EL S0 y B ml ret V h cl sl (mkF m pc' L (.int x :: st)) := by
  subst hp hx0
  exact w.st fun T t X hx hB k => XS.bipush X hx rfl (hb hB hd) k
theorem Wk.sipush {pc pc' : Nat} {L : Array Slot} {st : List Value} {i : Int} (x : Int32) (w : Wk p l e R s m args below meth c Z a0 EL S0 y B ml ret V h cl sl (mkF m pc L st)) (hd : decode B pc = .ok (.sipush i, 3)) (hx0 : (Int16.ofInt i).toInt32 = x := by rfl) (hp : pc + 3 = pc' := by rfl) : Wk p l e R s m args below meth c Z a0 EL S0 y B ml ret V h cl sl (mkF m pc' L (.int x :: st)) := by
  subst hp hx0
  exact w.st fun T t X hx hB k => XS.sipush X hx rfl (hb hB hd) k
theorem Wk.aconstNull {pc pc' : Nat} {L : Array Slot} {st : List Value}  (w : Wk p l e R s m args below meth c Z a0 EL S0 y B ml ret V h cl sl (mkF m pc L st)) (hd : decode B pc = .ok (.aconst_null, 1))  (hp : pc + 1 = pc' := by rfl) : Wk p l e R s m args below meth c Z a0 EL S0 y B ml ret V h cl sl (mkF m pc' L (.null :: st)) := by
  subst hp
  exact w.st fun T t X hx hB k => XS.aconstNull X hx rfl (hb hB hd)  k
theorem Wk.dup {pc pc' : Nat} {L : Array Slot} {st : List Value} {x : Value} (w : Wk p l e R s m args below meth c Z a0 EL S0 y B ml ret V h cl sl (mkF m pc L (x :: st))) (hd : decode B pc = .ok (.dup, 1)) (hc : x.category = 1 := by rfl) (hp : pc + 1 = pc' := by rfl) : Wk p l e R s m args below meth c Z a0 EL S0 y B ml ret V h cl sl (mkF m pc' L (x :: x :: st)) := by
  subst hp
  exact w.st fun T t X hx hB k => XS.dup X hx rfl (hb hB hd) rfl hc k
theorem Wk.pop {pc pc' : Nat} {L : Array Slot} {st : List Value} {x : Value} (w : Wk p l e R s m args below meth c Z a0 EL S0 y B ml ret V h cl sl (mkF m pc L (x :: st))) (hd : decode B pc = .ok (.pop, 1)) (hc : x.category = 1 := by rfl) (hp : pc + 1 = pc' := by rfl) : Wk p l e R s m args below meth c Z a0 EL S0 y B ml ret V h cl sl (mkF m pc' L st) := by
  subst hp
  exact w.st fun T t X hx hB k => XS.pop X hx rfl (hb hB hd) rfl hc k
theorem Wk.iadd {pc pc' : Nat} {L : Array Slot} {st : List Value} {x yy : Int32} (w : Wk p l e R s m args below meth c Z a0 EL S0 y B ml ret V h cl sl (mkF m pc L (.int yy :: .int x :: st))) (hd : decode B pc = .ok (.iadd, 1))  (hp : pc + 1 = pc' := by rfl) : Wk p l e R s m args below meth c Z a0 EL S0 y B ml ret V h cl sl (mkF m pc' L (.int (x + yy) :: st)) := by
  subst hp
  exact w.st fun T t X hx hB k => XS.iadd X hx rfl (hb hB hd) rfl k
theorem Wk.isub {pc pc' : Nat} {L : Array Slot} {st : List Value} {x yy : Int32} (w : Wk p l e R s m args below meth c Z a0 EL S0 y B ml ret V h cl sl (mkF m pc L (.int yy :: .int x :: st))) (hd : decode B pc = .ok (.isub, 1))  (hp : pc + 1 = pc' := by rfl) : Wk p l e R s m args below meth c Z a0 EL S0 y B ml ret V h cl sl (mkF m pc' L (.int (x - yy) :: st)) := by
  subst hp
  exact w.st fun T t X hx hB k => XS.isub X hx rfl (hb hB hd) rfl k
theorem Wk.imul {pc pc' : Nat} {L : Array Slot} {st : List Value} {x yy : Int32} (w : Wk p l e R s m args below meth c Z a0 EL S0 y B ml ret V h cl sl (mkF m pc L (.int yy :: .int x :: st))) (hd : decode B pc = .ok (.imul, 1))  (hp : pc + 1 = pc' := by rfl) : Wk p l e R s m args below meth c Z a0 EL S0 y B ml ret V h cl sl (mkF m pc' L (.int (x * yy) :: st)) := by
  subst hp
  exact w.st fun T t X hx hB k => XS.imul X hx rfl (hb hB hd) rfl k
theorem Wk.iand {pc pc' : Nat} {L : Array Slot} {st : List Value} {x yy : Int32} (w : Wk p l e R s m args below meth c Z a0 EL S0 y B ml ret V h cl sl (mkF m pc L (.int yy :: .int x :: st))) (hd : decode B pc = .ok (.iand, 1))  (hp : pc + 1 = pc' := by rfl) : Wk p l e R s m args below meth c Z a0 EL S0 y B ml ret V h cl sl (mkF m pc' L (.int (x &&& yy) :: st)) := by
  subst hp
  exact w.st fun T t X hx hB k => XS.iand X hx rfl (hb hB hd) rfl k
theorem Wk.ior {pc pc' : Nat} {L : Array Slot} {st : List Value} {x yy : Int32} (w : Wk p l e R s m args below meth c Z a0 EL S0 y B ml ret V h cl sl (mkF m pc L (.int yy :: .int x :: st))) (hd : decode B pc = .ok (.ior, 1))  (hp : pc + 1 = pc' := by rfl) : Wk p l e R s m args below meth c Z a0 EL S0 y B ml ret V h cl sl (mkF m pc' L (.int (x ||| yy) :: st)) := by
  subst hp
  exact w.st fun T t X hx hB k => XS.ior X hx rfl (hb hB hd) rfl k
theorem Wk.ixor {pc pc' : Nat} {L : Array Slot} {st : List Value} {x yy : Int32} (w : Wk p l e R s m args below meth c Z a0 EL S0 y B ml ret V h cl sl (mkF m pc L (.int yy :: .int x :: st))) (hd : decode B pc = .ok (.ixor, 1))  (hp : pc + 1 = pc' := by rfl) : Wk p l e R s m args below meth c Z a0 EL S0 y B ml ret V h cl sl (mkF m pc' L (.int (x ^^^ yy) :: st)) := by
  subst hp
  exact w.st fun T t X hx hB k => XS.ixor X hx rfl (hb hB hd) rfl k
theorem Wk.ishl {pc pc' : Nat} {L : Array Slot} {st : List Value} {x yy : Int32} (w : Wk p l e R s m args below meth c Z a0 EL S0 y B ml ret V h cl sl (mkF m pc L (.int yy :: .int x :: st))) (hd : decode B pc = .ok (.ishl, 1))  (hp : pc + 1 = pc' := by rfl) : Wk p l e R s m args below meth c Z a0 EL S0 y B ml ret V h cl sl (mkF m pc' L (.int (x <<< (yy &&& 31)) :: st)) := by
  subst hp
  exact w.st fun T t X hx hB k => XS.ishl X hx rfl (hb hB hd) rfl k
theorem Wk.ishr {pc pc' : Nat} {L : Array Slot} {st : List Value} {x yy : Int32} (w : Wk p l e R s m args below meth c Z a0 EL S0 y B ml ret V h cl sl (mkF m pc L (.int yy :: .int x :: st))) (hd : decode B pc = .ok (.ishr, 1))  (hp : pc + 1 = pc' := by rfl) : Wk p l e R s m args below meth c Z a0 EL S0 y B ml ret V h cl sl (mkF m pc' L (.int (x >>> (yy &&& 31)) :: st)) := by
  subst hp
  exact w.st fun T t X hx hB k => XS.ishr X hx rfl (hb hB hd) rfl k
theorem Wk.iushr {pc pc' : Nat} {L : Array Slot} {st : List Value} {x yy : Int32} (w : Wk p l e R s m args below meth c Z a0 EL S0 y B ml ret V h cl sl (mkF m pc L (.int yy :: .int x :: st))) (hd : decode B pc = .ok (.iushr, 1))  (hp : pc + 1 = pc' := by rfl) : Wk p l e R s m args below meth c Z a0 EL S0 y B ml ret V h cl sl (mkF m pc' L (.int ((x.toUInt32 >>> (yy &&& 31).toUInt32).toInt32) :: st)) := by
  subst hp
  exact w.st fun T t X hx hB k => XS.iushr X hx rfl (hb hB hd) rfl k
theorem Wk.idiv {pc pc' : Nat} {L : Array Slot} {st : List Value} {x yy : Int32} (w : Wk p l e R s m args below meth c Z a0 EL S0 y B ml ret V h cl sl (mkF m pc L (.int yy :: .int x :: st))) (hd : decode B pc = .ok (.idiv, 1)) (hy : yy ≠ 0) (hp : pc + 1 = pc' := by rfl) : Wk p l e R s m args below meth c Z a0 EL S0 y B ml ret V h cl sl (mkF m pc' L (.int (x / yy) :: st)) := by
  subst hp
  exact w.st fun T t X hx hB k => XS.idiv X hx rfl (hb hB hd) rfl hy k
theorem Wk.irem {pc pc' : Nat} {L : Array Slot} {st : List Value} {x yy : Int32} (w : Wk p l e R s m args below meth c Z a0 EL S0 y B ml ret V h cl sl (mkF m pc L (.int yy :: .int x :: st))) (hd : decode B pc = .ok (.irem, 1)) (hy : yy ≠ 0) (hp : pc + 1 = pc' := by rfl) : Wk p l e R s m args below meth c Z a0 EL S0 y B ml ret V h cl sl (mkF m pc' L (.int (x % yy) :: st)) := by
  subst hp
  exact w.stX fun T locs t X e0 k => iremM X w.1.1 rfl (hb w.1.2.1 hd) rfl hy k
theorem Wk.ineg {pc pc' : Nat} {L : Array Slot} {st : List Value} {x : Int32} (w : Wk p l e R s m args below meth c Z a0 EL S0 y B ml ret V h cl sl (mkF m pc L (.int x :: st))) (hd : decode B pc = .ok (.ineg, 1))  (hp : pc + 1 = pc' := by rfl) : Wk p l e R s m args below meth c Z a0 EL S0 y B ml ret V h cl sl (mkF m pc' L (.int (-x) :: st)) := by
  subst hp
  exact w.st fun T t X hx hB k => XS.ineg X hx rfl (hb hB hd) rfl k
theorem Wk.i2b {pc pc' : Nat} {L : Array Slot} {st : List Value} {x : Int32} (w : Wk p l e R s m args below meth c Z a0 EL S0 y B ml ret V h cl sl (mkF m pc L (.int x :: st))) (hd : decode B pc = .ok (.i2b, 1))  (hp : pc + 1 = pc' := by rfl) : Wk p l e R s m args below meth c Z a0 EL S0 y B ml ret V h cl sl (mkF m pc' L (.int (x.toInt8.toInt32) :: st)) := by
  subst hp
  exact w.st fun T t X hx hB k => XS.i2b X hx rfl (hb hB hd) rfl k
theorem Wk.i2c {pc pc' : Nat} {L : Array Slot} {st : List Value} {x : Int32} (w : Wk p l e R s m args below meth c Z a0 EL S0 y B ml ret V h cl sl (mkF m pc L (.int x :: st))) (hd : decode B pc = .ok (.i2c, 1))  (hp : pc + 1 = pc' := by rfl) : Wk p l e R s m args below meth c Z a0 EL S0 y B ml ret V h cl sl (mkF m pc' L (.int (x.toUInt32.toUInt16.toUInt32.toInt32) :: st)) := by
  subst hp
  exact w.st fun T t X hx hB k => XS.i2c X hx rfl (hb hB hd) rfl k
theorem Wk.i2s {pc pc' : Nat} {L : Array Slot} {st : List Value} {x : Int32} (w : Wk p l e R s m args below meth c Z a0 EL S0 y B ml ret V h cl sl (mkF m pc L (.int x :: st))) (hd : decode B pc = .ok (.i2s, 1))  (hp : pc + 1 = pc' := by rfl) : Wk p l e R s m args below meth c Z a0 EL S0 y B ml ret V h cl sl (mkF m pc' L (.int (x.toInt16.toInt32) :: st)) := by
  subst hp
  exact w.st fun T t X hx hB k => XS.i2s X hx rfl (hb hB hd) rfl k
theorem Wk.goto {pc pc' : Nat} {L : Array Slot} {st : List Value} {o : Int} (w : Wk p l e R s m args below meth c Z a0 EL S0 y B ml ret V h cl sl (mkF m pc L st)) (hd : decode B pc = .ok (.goto o, 3)) (ho : 0 ≤ (pc : Int) + o := by decide) (hp : ((pc : Int) + o).toNat = pc' := by decide) : Wk p l e R s m args below meth c Z a0 EL S0 y B ml ret V h cl sl (mkF m pc' L st) := by
  subst hp
  exact w.st fun T t X hx hB k => XS.goto X hx rfl rfl (hb hB hd) ho rfl k
theorem Wk.ifYes {pc pc' : Nat} {L : Array Slot} {st : List Value} {cd : ClassFile.Cond} {o : Int} {x : Int32} (w : Wk p l e R s m args below meth c Z a0 EL S0 y B ml ret V h cl sl (mkF m pc L (.int x :: st))) (hd : decode B pc = .ok (.ifCond cd o, 3)) (hc : ifCond.holds cd x = true) (ho : 0 ≤ (pc : Int) + o := by decide) (hp : ((pc : Int) + o).toNat = pc' := by decide) : Wk p l e R s m args below meth c Z a0 EL S0 y B ml ret V h cl sl (mkF m pc' L st) := by
  subst hp
  exact w.st fun T t X hx hB k => XS.ifYes X hx rfl rfl (hb hB hd) rfl hc ho rfl k
theorem Wk.icmpYes {pc pc' : Nat} {L : Array Slot} {st : List Value} {cd : ClassFile.Cond} {o : Int} {x yy : Int32} (w : Wk p l e R s m args below meth c Z a0 EL S0 y B ml ret V h cl sl (mkF m pc L (.int yy :: .int x :: st))) (hd : decode B pc = .ok (.if_icmp cd o, 3)) (hc : if_icmp.holds cd x yy = true) (ho : 0 ≤ (pc : Int) + o := by decide) (hp : ((pc : Int) + o).toNat = pc' := by decide) : Wk p l e R s m args below meth c Z a0 EL S0 y B ml ret V h cl sl (mkF m pc' L st) := by
  subst hp
  exact w.st fun T t X hx hB k => XS.icmpYes X hx rfl rfl (hb hB hd) rfl hc ho rfl k
theorem Wk.ifnullYes {pc pc' : Nat} {L : Array Slot} {st : List Value} {o : Int} (w : Wk p l e R s m args below meth c Z a0 EL S0 y B ml ret V h cl sl (mkF m pc L (.null :: st))) (hd : decode B pc = .ok (.ifnull o, 3))  (ho : 0 ≤ (pc : Int) + o := by decide) (hp : ((pc : Int) + o).toNat = pc' := by decide) : Wk p l e R s m args below meth c Z a0 EL S0 y B ml ret V h cl sl (mkF m pc' L st) := by
  subst hp
  exact w.st fun T t X hx hB k => XS.ifnullYes X hx rfl rfl (hb hB hd) rfl ho rfl k
theorem Wk.ifnonnullYes {pc pc' : Nat} {L : Array Slot} {st : List Value} {o : Int} {b : Addr} (w : Wk p l e R s m args below meth c Z a0 EL S0 y B ml ret V h cl sl (mkF m pc L (.ref b :: st))) (hd : decode B pc = .ok (.ifnonnull o, 3))  (ho : 0 ≤ (pc : Int) + o := by decide) (hp : ((pc : Int) + o).toNat = pc' := by decide) : Wk p l e R s m args below meth c Z a0 EL S0 y B ml ret V h cl sl (mkF m pc' L st) := by
  subst hp
  exact w.st fun T t X hx hB k => XS.ifnonnullYes X hx rfl rfl (hb hB hd) rfl ho rfl k
theorem Wk.ifNo {pc pc' : Nat} {L : Array Slot} {st : List Value} {cd : ClassFile.Cond} {o : Int} {x : Int32} (w : Wk p l e R s m args below meth c Z a0 EL S0 y B ml ret V h cl sl (mkF m pc L (.int x :: st))) (hd : decode B pc = .ok (.ifCond cd o, 3)) (hc : ifCond.holds cd x = false) (hp : pc + 3 = pc' := by rfl) : Wk p l e R s m args below meth c Z a0 EL S0 y B ml ret V h cl sl (mkF m pc' L st) := by
  subst hp
  exact w.st fun T t X hx hB k => XS.ifNo X hx rfl (hb hB hd) rfl hc k
theorem Wk.icmpNo {pc pc' : Nat} {L : Array Slot} {st : List Value} {cd : ClassFile.Cond} {o : Int} {x yy : Int32} (w : Wk p l e R s m args below meth c Z a0 EL S0 y B ml ret V h cl sl (mkF m pc L (.int yy :: .int x :: st))) (hd : decode B pc = .ok (.if_icmp cd o, 3)) (hc : if_icmp.holds cd x yy = false) (hp : pc + 3 = pc' := by rfl) : Wk p l e R s m args below meth c Z a0 EL S0 y B ml ret V h cl sl (mkF m pc' L st) := by
  subst hp
  exact w.st fun T t X hx hB k => XS.icmpNo X hx rfl (hb hB hd) rfl hc k
theorem Wk.ifnullNo {pc pc' : Nat} {L : Array Slot} {st : List Value} {o : Int} {b : Addr} (w : Wk p l e R s m args below meth c Z a0 EL S0 y B ml ret V h cl sl (mkF m pc L (.ref b :: st))) (hd : decode B pc = .ok (.ifnull o, 3))  (hp : pc + 3 = pc' := by rfl) : Wk p l e R s m args below meth c Z a0 EL S0 y B ml ret V h cl sl (mkF m pc' L st) := by
  subst hp
  exact w.st fun T t X hx hB k => XS.ifnullNo X hx rfl (hb hB hd) rfl k
theorem Wk.ifnonnullNo {pc pc' : Nat} {L : Array Slot} {st : List Value} {o : Int} (w : Wk p l e R s m args below meth c Z a0 EL S0 y B ml ret V h cl sl (mkF m pc L (.null :: st))) (hd : decode B pc = .ok (.ifnonnull o, 3))  (hp : pc + 3 = pc' := by rfl) : Wk p l e R s m args below meth c Z a0 EL S0 y B ml ret V h cl sl (mkF m pc' L st) := by
  subst hp
  exact w.st fun T t X hx hB k => XS.ifnonnullNo X hx rfl (hb hB hd) rfl k

theorem Wk.acmp {pc pc' : Nat} {L : Array Slot} {st : List Value} {cd : ACond} {o : Int} {x yy : Value} (same : Bool) (w : Wk p l e R s m args below meth c Z a0 EL S0 y B ml ret V h cl sl (mkF m pc L (yy :: x :: st))) (hd : decode B pc = .ok (.if_acmp cd o, 3)) (hq : decide (x = yy) = same) (h1 : x.isRef = true := by rfl) (h2 : yy.isRef = true := by rfl) (ho : 0 ≤ (pc : Int) + o := by decide) (hp : pc' = if acV cd same = true then ((pc : Int) + o).toNat else pc + 3 := by rfl) :
    Wk p l e R s m args below meth c Z a0 EL S0 y B ml ret V h cl sl (mkF m pc' L st) :=
  w.stX fun T locs t X e0 k => RoadKit.acmp X w.1.1 rfl h1 h2 rfl (hb w.1.2.1 hd) rfl hq ho hp k
theorem Wk.ldcI {pc pc' : Nat} {L : Array Slot} {st : List Value} {index : Nat} {x : Int32} (w : Wk p l e R s m args below meth c Z a0 EL S0 y B ml ret V h cl sl (mkF m pc L st)) (wc : (Jvm.Cond.constant y.cls index x).before a0 Z = true) (hd : decode B pc = .ok (.ldc index, 2)) (hp : pc + 2 = pc' := by rfl) :
    Wk p l e R s m args below meth c Z a0 EL S0 y B ml ret V h cl sl (mkF m pc' L (.int x :: st)) := by
  subst hp
  exact w.stX fun T locs t X e0 k => X.ldcInt w.1.1 (by rw [show (s.setVm V).vm = V from rfl, w.hZ.alike.findClass]; exact w.1.2.2.2.2.2.1) (mv (s := s.setVm V) w.hZ wc) (g := mkF m pc L st) rfl (hb w.1.2.1 hd) t k
theorem Wk.own {g : JFrame} (w : Wk p l e R s m args below meth c Z a0 EL S0 y B ml ret V h cl sl g) : V.findClass y.cls = some m.cls := by rw [w.hZ.alike.findClass]; exact w.1.2.2.2.2.2.1
/-- the heap has changed: the walk goes on over h' -/
theorem Wk.heap {g g' : JFrame} {h' : Heap} {cl' sl' : Nat} (w : Wk p l e R s m args below meth c Z a0 EL S0 y B ml ret V h cl sl g) (A : CHr Z EL V h V h') (O : Ext Z.heap h')
    (k : ∀ (T : State) (locs : List Loc), Stand p l e R (s.setVm V) m args below meth c T locs cl sl → T.heap = h → Fr Z.heap.size locs → ∃ (T' : State) (locs' : List Loc), Stand p l e R (s.setVm V) m args below meth c T' locs' cl' sl' ∧ T'.heap = h' ∧ Fr Z.heap.size locs' ∧ ∀ t, Steps p.tables e below (T'.setTop g') t → Steps p.tables e below (T.setTop g) t) :
    Wk p l e R s m args below meth c Z a0 EL S0 y B ml ret V h' cl' sl' g' := by
  obtain ⟨hf, ⟨hz, hC, hO⟩, T, locs, k0, X, e0, h1, h2, h3, st⟩ := w
  obtain ⟨T', locs', X', e', f', st'⟩ := k T locs X e0 h3
  exact ⟨hf, ⟨hz, hC.trans A, O⟩, T', locs', k0, X', e', h1, Nat.le_trans h2 A.2.1, f', fun t q => st t (st' t q)⟩
theorem extT {h0 h1 h2 : Heap} (A : Ext h0 h1) (B : Ext h1 h2) : Ext h0 h2 := ⟨Nat.le_trans A.1 B.1, fun a c q => B.2 a c (A.2 a c q)⟩
theorem extR (h0 : Heap) : Ext h0 h0 := ⟨Nat.le_refl _, fun _ _ q => q⟩
theorem extW {h0 h1 h2 : Heap} {a : Addr} {n : Nat} {v : Value} (A : Ext h0 h1) (W : Wr h1 h2 a n v) (q : h0.size ≤ a) : Ext h0 h2 := by
  obtain ⟨cell, h1', h2', h3', rfl⟩ := W
  refine ⟨by simpa using A.1, fun b cb hb => ?_⟩
  have : a ≠ b := fun z => by subst z; exact absurd (Array.getElem?_eq_some_iff.mp hb).1 (Nat.not_lt.mpr q)
  rw [Array.getElem?_setIfInBounds_ne this]; exact A.2 b cb hb
theorem extK {h0 h1 h2 : Heap} {ws : List Addr} (A : Ext h0 h1) (K : Keep h1 h2 ws) (q : ∀ x ∈ ws, h0.size ≤ x) : Ext h0 h2 :=
  ⟨Nat.le_trans A.1 K.1, fun b cb hb => K.2.1 b cb (A.2 b cb hb) fun z => absurd (Array.getElem?_eq_some_iff.mp hb).1 (Nat.not_lt.mpr (q b z))⟩
theorem keepE {h0 h1 : Heap} (A : Ext h0 h1) (ws : List Addr) : Keep h0 h1 ws := (Keep.refl h0 ws).ext A
/-- new C -/
theorem Wk.new {pc pc' : Nat} {L : Array Slot} {st : List Value} {C : String} {index n : Nat} (w : Wk p l e R s m args below meth c Z a0 EL S0 y B ml ret V h cl sl (mkF m pc L st)) (wl : (Jvm.Cond.classLink y.cls index C).before a0 Z = true) (wi : (Jvm.Cond.instantiable C n).before a0 Z = true) (wz : (Jvm.Cond.initialized C).before a0 Z = true)
    (hd : decode B pc = .ok (.new index, 3)) (hc : cl + 1 ≤ R.cells) (hl : sl + n ≤ R.slots) (hp : pc + 3 = pc' := by rfl) :
    ∃ (h' : Heap) (a : Addr), a = h.size ∧ Ext h h' ∧ Exa Z h' a C ∧ (∀ {O nm d : String} {ty : FieldType}, Laid Z a0 C O nm d → parseFieldDescriptor d = some ty → Fld Z h' a O nm d (defaultValue ty)) ∧ Safe Z EL V h' a ∧ CHr Z EL V h V h' ∧
      Wk p l e R s m args below meth c Z a0 EL S0 y B ml ret V h' (cl + 1) (sl + n) (mkF m pc' L (.ref a :: st)) := by
  subst hp
  obtain ⟨hf, ⟨hz, hC, hO⟩, T, locs, k0, X, e0, h1, h2, h3, st0⟩ := id w
  obtain ⟨T', h', X', e', E, A, D, -, st'⟩ := newO X hf.1 hz w.own wl wi wz e0 (g := mkF m pc L st) rfl (hb hf.2.1 hd) hc hl
  have Q : CHr Z EL V h V h' := CHr.ext E w.ch
  exact ⟨h', h.size, rfl, E, A, D, Safe.ext E w.ch (Safe.new (Nat.le_refl _)), Q, hf, ⟨hz, hC.trans Q, extT hO E⟩, T', locs, k0, X', e', h1, Nat.le_trans h2 E.1, h3, fun t q => st0 t (st' t q)⟩
/-- newarray -/
theorem Wk.newarr {pc pc' : Nat} {L : Array Slot} {st : List Value} {aty : ArrayType} {n : Int32} {cap : Nat} (w : Wk p l e R s m args below meth c Z a0 EL S0 y B ml ret V h cl sl (mkF m pc L (.int n :: st))) (wa : (Jvm.Cond.arrayClass (newarray.typeOf aty)).before a0 Z = true)
    (hd : decode B pc = .ok (.newarray aty, 2)) (hn : ¬ n < 0) (hcap : n.toNatClampNeg ≤ cap) (hc : cl + 1 ≤ R.cells) (hl : sl + cap ≤ R.slots) (hb8 : cap * 8 ≤ 536870912 := by decide) (hp : pc + 2 = pc' := by rfl) :
    ∃ (h' : Heap) (a : Addr) (k : ClassId), a = h.size ∧ Ext h h' ∧ Arv Z h' a k (newarray.typeOf aty) n [] (defaultValue (newarray.typeOf aty)) ∧ Safe Z EL V h' a ∧ CHr Z EL V h V h' ∧
      Wk p l e R s m args below meth c Z a0 EL S0 y B ml ret V h' (cl + 1) (sl + cap) (mkF m pc' L (.ref a :: st)) := by
  subst hp
  obtain ⟨hf, ⟨hz, hC, hO⟩, T, locs, k0, X, e0, h1, h2, h3, st0⟩ := id w
  obtain ⟨T', h', k, X', e', E, A, st'⟩ := newP X hf.1 hz wa e0 (g := mkF m pc L (.int n :: st)) rfl (hb hf.2.1 hd) rfl hn hcap hb8 hc hl
  have Q : CHr Z EL V h V h' := CHr.ext E w.ch
  exact ⟨h', h.size, k, rfl, E, Arv.new A hn, Safe.ext E w.ch (Safe.new (Nat.le_refl _)), Q, hf, ⟨hz, hC.trans Q, extT hO E⟩, T', locs, k0, X', e', h1, Nat.le_trans h2 E.1, h3, fun t q => st0 t (st' t q)⟩
/-- castore into an array of the walk's own -/
theorem Wk.castore {pc pc' : Nat} {L : Array Slot} {st : List Value} {a : Addr} {k : ClassId} {z j x x' : Int32} {vs : List Value} {dv : Value} (w : Wk p l e R s m args below meth c Z a0 EL S0 y B ml ret V h cl sl (mkF m pc L (.int x :: .int j :: .ref a :: st))) (A : Arv Z h a k .char z vs dv)
    (hd : decode B pc = .ok (.castore, 1)) (hj : ¬ j < 0 ∧ j < z) (hx' : nar .char x = x') (i : Nat) (hi : j.toNatClampNeg = i) (hlen : i < vs.length) (ha : Z.heap.size ≤ a) (hp : pc + 1 = pc' := by rfl) :
    ∃ h' : Heap, Keep h h' [a] ∧ Arv Z h' a k .char z (vs.set i (.int x')) dv ∧ CHr Z EL V h V h' ∧ Wk p l e R s m args below meth c Z a0 EL S0 y B ml ret V h' cl sl (mkF m pc' L st) := by
  subst hp hx'
  obtain ⟨hf, ⟨hz, hC, hO⟩, T, locs, k0, X, e0, h1, h2, h3, st0⟩ := id w
  obtain ⟨cA, A1, A2, A3, A4, A5, A6⟩ := id A
  obtain ⟨T', h', X', e', W, st'⟩ := stC X hf.1 hz e0 A1 (j := j) (inb_of A3 hj) (g := mkF m pc L (.int x :: .int j :: .ref a :: st)) rfl rfl (hb hf.2.1 hd)
  have Q : CHr Z EL V h V h' := CHr.wr W (Safe.arr hz.alike A1 (by decide)) w.ch
  exact ⟨h', Keep.of_wr W, Arv.set A1 A2 A3 A4 A5 A6 (fits_nar_char x) W i hi hlen, Q, hf, ⟨hz, hC.trans Q, extW hO W ha⟩, T', _, k0, X', e', h1, Nat.le_trans h2 Q.2.1, Fr.snoc X' h3 ha, fun t q => st0 t (st' t q)⟩
theorem Wk.bastore {pc pc' : Nat} {L : Array Slot} {st : List Value} {a : Addr} {k : ClassId} {z j x x' : Int32} {vs : List Value} {dv : Value} (w : Wk p l e R s m args below meth c Z a0 EL S0 y B ml ret V h cl sl (mkF m pc L (.int x :: .int j :: .ref a :: st))) (A : Arv Z h a k .byte z vs dv)
    (hd : decode B pc = .ok (.bastore, 1)) (hj : ¬ j < 0 ∧ j < z) (hx' : x.toInt8.toInt32 = x') (i : Nat) (hi : j.toNatClampNeg = i) (hlen : i < vs.length) (ha : Z.heap.size ≤ a) (S : Safe Z EL V h a) (hp : pc + 1 = pc' := by rfl) :
    ∃ h' : Heap, Keep h h' [a] ∧ Arv Z h' a k .byte z (vs.set i (.int x')) dv ∧ CHr Z EL V h V h' ∧ Wk p l e R s m args below meth c Z a0 EL S0 y B ml ret V h' cl sl (mkF m pc' L st) := by
  subst hp hx'
  obtain ⟨hf, ⟨hz, hC, hO⟩, T, locs, k0, X, e0, h1, h2, h3, st0⟩ := id w
  obtain ⟨cA, A1, A2, A3, A4, A5, A6⟩ := id A
  obtain ⟨T', h', X', e', W, st'⟩ := stB X hf.1 hz e0 A1 (j := j) (inb_of A3 hj) (g := mkF m pc L (.int x :: .int j :: .ref a :: st)) rfl rfl (hb hf.2.1 hd)
  have Q : CHr Z EL V h V h' := CHr.wr W S w.ch
  exact ⟨h', Keep.of_wr W, Arv.set A1 A2 A3 A4 A5 A6 (fits_nar_byte x) W i hi hlen, Q, hf, ⟨hz, hC.trans Q, extW hO W ha⟩, T', _, k0, X', e', h1, Nat.le_trans h2 Q.2.1, Fr.snoc X' h3 ha, fun t q => st0 t (st' t q)⟩
theorem Wk.arrlen {pc pc' : Nat} {L : Array Slot} {st : List Value} {a : Addr} {k : ClassId} {ty : FieldType} {z : Int32} {vs : List Value} {dv : Value} (w : Wk p l e R s m args below meth c Z a0 EL S0 y B ml ret V h cl sl (mkF m pc L (.ref a :: st))) (A : Arv Z h a k ty z vs dv) (hd : decode B pc = .ok (.arraylength, 1)) (hp : pc + 1 = pc' := by rfl) :
    Wk p l e R s m args below meth c Z a0 EL S0 y B ml ret V h cl sl (mkF m pc' L (.int z :: st)) := by
  subst hp
  obtain ⟨cA, A1, A2, A3, A4, A5, A6⟩ := A
  have e1 := len_of A3 A4
  exact w.stX fun T locs t X e0 q => X.arraylength w.1.1 (by rw [e0]; exact A1.1) (State.isArrayOf_alike w.hZ.alike A1.2.1) (g := mkF m pc L (.ref a :: st)) rfl rfl (hb w.1.2.1 hd) t (by rw [e1]; exact q)
theorem Wk.caload {pc pc' : Nat} {L : Array Slot} {st : List Value} {a : Addr} {k : ClassId} {z j : Int32} {vs : List Value} {dv v : Value} (w : Wk p l e R s m args below meth c Z a0 EL S0 y B ml ret V h cl sl (mkF m pc L (.int j :: .ref a :: st))) (A : Arv Z h a k .char z vs dv) (hd : decode B pc = .ok (.caload, 1)) (hj : ¬ j < 0 ∧ j < z) (hv : vs.getD j.toNatClampNeg dv = v) (hp : pc + 1 = pc' := by rfl) :
    Wk p l e R s m args below meth c Z a0 EL S0 y B ml ret V h cl sl (mkF m pc' L (v :: st)) := by
  subst hp
  obtain ⟨cA, A1, A2, A3, A4, A5, A6⟩ := A
  have hin := inb_of A3 hj
  exact w.stX fun T locs t X e0 q => X.caload w.1.1 (by rw [e0]; exact A1.1) (State.isArrayOf_alike w.hZ.alike A1.2.1) A1.2.2 hin (A5.at hin hv) (g := mkF m pc L (.int j :: .ref a :: st)) rfl rfl (hb w.1.2.1 hd) t q
theorem Wk.baload {pc pc' : Nat} {L : Array Slot} {st : List Value} {a : Addr} {k : ClassId} {z j : Int32} {vs : List Value} {dv v : Value} (w : Wk p l e R s m args below meth c Z a0 EL S0 y B ml ret V h cl sl (mkF m pc L (.int j :: .ref a :: st))) (A : Arv Z h a k .byte z vs dv) (hd : decode B pc = .ok (.baload, 1)) (hj : ¬ j < 0 ∧ j < z) (hv : vs.getD j.toNatClampNeg dv = v) (hp : pc + 1 = pc' := by rfl) :
    Wk p l e R s m args below meth c Z a0 EL S0 y B ml ret V h cl sl (mkF m pc' L (v :: st)) := by
  subst hp
  obtain ⟨cA, A1, A2, A3, A4, A5, A6⟩ := A
  have hin := inb_of A3 hj
  exact w.stX fun T locs t X e0 q => X.baloadBytes w.1.1 (by rw [e0]; exact A1.1) (State.isArrayOf_alike w.hZ.alike A1.2.1) A1.2.2 hin (A5.at hin hv) (g := mkF m pc L (.int j :: .ref a :: st)) rfl rfl (hb w.1.2.1 hd) t q
theorem Wk.iaload {pc pc' : Nat} {L : Array Slot} {st : List Value} {a : Addr} {k : ClassId} {z j : Int32} {vs : List Value} {dv v : Value} (w : Wk p l e R s m args below meth c Z a0 EL S0 y B ml ret V h cl sl (mkF m pc L (.int j :: .ref a :: st))) (A : Arv Z h a k .int z vs dv) (hd : decode B pc = .ok (.iaload, 1)) (hj : ¬ j < 0 ∧ j < z) (hv : vs.getD j.toNatClampNeg dv = v) (hp : pc + 1 = pc' := by rfl) :
    Wk p l e R s m args below meth c Z a0 EL S0 y B ml ret V h cl sl (mkF m pc' L (v :: st)) := by
  subst hp
  obtain ⟨cA, A1, A2, A3, A4, A5, A6⟩ := A
  have hin := inb_of A3 hj
  exact w.stX fun T locs t X e0 q => X.iaload w.1.1 (by rw [e0]; exact A1.1) (State.isArrayOf_alike w.hZ.alike A1.2.1) A1.2.2 hin (A5.at hin hv) (g := mkF m pc L (.int j :: .ref a :: st)) rfl rfl (hb w.1.2.1 hd) t q
theorem Wk.aaload {pc pc' : Nat} {L : Array Slot} {st : List Value} {a : Addr} {k : ClassId} {z j : Int32} {ty : FieldType} {vs : List Value} {dv v : Value} (w : Wk p l e R s m args below meth c Z a0 EL S0 y B ml ret V h cl sl (mkF m pc L (.int j :: .ref a :: st))) (A : Arv Z h a k ty z vs dv) (hd : decode B pc = .ok (.aaload, 1)) (hj : ¬ j < 0 ∧ j < z) (hv : vs.getD j.toNatClampNeg dv = v) (hty : ty.isReference = true := by rfl) (hp : pc + 1 = pc' := by rfl) :
    Wk p l e R s m args below meth c Z a0 EL S0 y B ml ret V h cl sl (mkF m pc' L (v :: st)) := by
  subst hp
  obtain ⟨cA, A1, A2, A3, A4, A5, A6⟩ := A
  have hin := inb_of A3 hj
  exact w.stX fun T locs t X e0 q => X.aaload w.1.1 (by rw [e0]; exact A1.1) (State.isArrayOf_alike w.hZ.alike A1.2.1) hty A1.2.2 hin (A5.at hin hv) (g := mkF m pc L (.int j :: .ref a :: st)) rfl rfl (hb w.1.2.1 hd) t q

theorem Wk.getF {pc pc' : Nat} {L : Array Slot} {st : List Value} {index : Nat} {O n d : String} {a : Addr} {v : Value} (w : Wk p l e R s m args below meth c Z a0 EL S0 y B ml ret V h cl sl (mkF m pc L (.ref a :: st))) (wl : (Jvm.Cond.fieldLink y.cls index O n d).before a0 Z = true) (F : Fld Z h a O n d v) (hd : decode B pc = .ok (.getfield index, 3)) (hp : pc + 3 = pc' := by rfl) :
    Wk p l e R s m args below meth c Z a0 EL S0 y B ml ret V h cl sl (mkF m pc' L (v :: st)) := by
  subst hp
  refine w.heap (CHr.refl w.ch) w.old fun T locs X e0 f => ?_
  obtain ⟨T', X', e', st'⟩ := RoadKit.getF X w.1.1 w.hZ w.own (host := "") (Or.inl wl) Via.refl e0 F (g := mkF m pc L (.ref a :: st)) rfl rfl (hb w.1.2.1 hd)
  exact ⟨T', locs, X', e', f, st'⟩
theorem Wk.getS {pc pc' : Nat} {L : Array Slot} {st : List Value} {index : Nat} {O n d : String} {v : Value} (w : Wk p l e R s m args below meth c Z a0 EL S0 y B ml ret V h cl sl (mkF m pc L st)) (wl : (Jvm.Cond.fieldLink y.cls index O n d).before a0 Z = true) (F : Sta Z Z.heap O n d v) (hd : decode B pc = .ok (.getstatic index, 3)) (hp : pc + 3 = pc' := by rfl) :
    Wk p l e R s m args below meth c Z a0 EL S0 y B ml ret V h cl sl (mkF m pc' L (v :: st)) := by
  subst hp
  refine w.heap (CHr.refl w.ch) w.old fun T locs X e0 f => ?_
  obtain ⟨T', X', e', st'⟩ := RoadKit.getS X w.1.1 w.hZ (host := "") w.own wl Via.refl e0 (F.ext w.old) (g := mkF m pc L st) rfl (hb w.1.2.1 hd)
  exact ⟨T', locs, X', e', f, st'⟩
theorem Wk.putF {pc pc' : Nat} {L : Array Slot} {st : List Value} {index kk : Nat} {O n d C : String} {ty : FieldType} {a : Addr} {v old : Value} (w : Wk p l e R s m args below meth c Z a0 EL S0 y B ml ret V h cl sl (mkF m pc L (v :: .ref a :: st))) (wl : (Jvm.Cond.fieldLink y.cls index O n d).before a0 Z = true) (F : Fld Z h a O n d old) (E : Exa Z h a C)
    (La : (Jvm.Cond.lays C O n d).before a0 Z = true ∨ ((Jvm.Cond.laysFinal C O n d).before a0 Z = true ∧ y.cls = O ∧ y.name = "<init>")) (wi : (Jvm.Cond.instantiable C kk).before a0 Z = true) (hty : parseFieldDescriptor d = some ty) (hn : narrow ty v = v) (hf0 : fits ty v = true) (S : Safe Z EL V h a) (ha : Z.heap.size ≤ a) (hd : decode B pc = .ok (.putfield index, 3)) (hp : pc + 3 = pc' := by rfl) :
    ∃ h' : Heap, Wr h h' a (RoadKit.slotOf Z O n d) v ∧ Keep h h' [a] ∧ Fld Z h' a O n d v ∧ CHr Z EL V h V h' ∧ Wk p l e R s m args below meth c Z a0 EL S0 y B ml ret V h' cl sl (mkF m pc' L st) := by
  subst hp
  obtain ⟨hf, ⟨hz, hC, hO⟩, T, locs, k0, X, e0, h1, h2, h3, st0⟩ := id w
  obtain ⟨T', h', X', e', W, st'⟩ := RoadKit.putF X hf.1 hz w.own (host := "") (Or.inl wl) Via.refl e0 F E (La.imp id fun q => ⟨q.1, q.2.1, hf.2.2.2.2.2.2.1.trans q.2.2⟩) wi hty hn hf0 (g := mkF m pc L (v :: .ref a :: st)) rfl rfl (hb hf.2.1 hd)
  have Q : CHr Z EL V h V h' := CHr.wr W S w.ch
  exact ⟨h', W, Keep.of_wr W, F.same W, Q, hf, ⟨hz, hC.trans Q, extW hO W ha⟩, T', _, k0, X', e', h1, Nat.le_trans h2 Q.2.1, Fr.snoc X' h3 ha, fun t q => st0 t (st' t q)⟩
theorem Wk.putFN {pc pc' : Nat} {L : Array Slot} {st : List Value} {index kk : Nat} {O n d C : String} {ty : FieldType} {a : Addr} {v v' old : Value} (w : Wk p l e R s m args below meth c Z a0 EL S0 y B ml ret V h cl sl (mkF m pc L (v :: .ref a :: st))) (wl : (Jvm.Cond.fieldLink y.cls index O n d).before a0 Z = true) (F : Fld Z h a O n d old) (E : Exa Z h a C)
    (La : (Jvm.Cond.lays C O n d).before a0 Z = true ∨ ((Jvm.Cond.laysFinal C O n d).before a0 Z = true ∧ y.cls = O ∧ y.name = "<init>")) (wi : (Jvm.Cond.instantiable C kk).before a0 Z = true) (hty : parseFieldDescriptor d = some ty) (hn : narrow ty v = v') (hf0 : fits ty v' = true) (S : Safe Z EL V h a) (ha : Z.heap.size ≤ a) (hd : decode B pc = .ok (.putfield index, 3)) (hp : pc + 3 = pc' := by rfl) :
    ∃ h' : Heap, Wr h h' a (RoadKit.slotOf Z O n d) v' ∧ Keep h h' [a] ∧ Fld Z h' a O n d v' ∧ CHr Z EL V h V h' ∧ Wk p l e R s m args below meth c Z a0 EL S0 y B ml ret V h' cl sl (mkF m pc' L st) := by
  subst hp
  obtain ⟨hf, ⟨hz, hC, hO⟩, T, locs, k0, X, e0, h1, h2, h3, st0⟩ := id w
  obtain ⟨T', h', X', e', W, st'⟩ := RoadKit.putFN X hf.1 hz w.own wl Via.refl e0 F E (La.imp id fun q => ⟨q.1, q.2.1, hf.2.2.2.2.2.2.1.trans q.2.2⟩) wi hty hn hf0 (g := mkF m pc L (v :: .ref a :: st)) rfl rfl (hb hf.2.1 hd)
  have Q : CHr Z EL V h V h' := CHr.wr W S w.ch
  exact ⟨h', W, Keep.of_wr W, F.same W, Q, hf, ⟨hz, hC.trans Q, extW hO W ha⟩, T', _, k0, X', e', h1, Nat.le_trans h2 Q.2.1, Fr.snoc X' h3 ha, fun t q => st0 t (st' t q)⟩
theorem Wk.cast {pc pc' : Nat} {L : Array Slot} {st : List Value} {index : Nat} {K : String} {a : Addr} (w : Wk p l e R s m args below meth c Z a0 EL S0 y B ml ret V h cl sl (mkF m pc L (.ref a :: st))) (wl : (Jvm.Cond.classLink y.cls index K).before a0 Z = true) (F : Ins Z h a K true) (hd : decode B pc = .ok (.checkcast index, 3)) (hp : pc + 3 = pc' := by rfl) :
    Wk p l e R s m args below meth c Z a0 EL S0 y B ml ret V h cl sl (mkF m pc' L (.ref a :: st)) := by
  subst hp
  refine w.heap (CHr.refl w.ch) w.old fun T locs X e0 f => ?_
  obtain ⟨T', X', e', st'⟩ := castY X w.1.1 w.hZ w.own wl e0 F (g := mkF m pc L (.ref a :: st)) rfl rfl (hb w.1.2.1 hd)
  exact ⟨T', locs, X', e', f, st'⟩
theorem Wk.inst {pc pc' : Nat} {L : Array Slot} {st : List Value} {index : Nat} {K : String} {a : Addr} (w : Wk p l e R s m args below meth c Z a0 EL S0 y B ml ret V h cl sl (mkF m pc L (.ref a :: st))) (wl : (Jvm.Cond.classLink y.cls index K).before a0 Z = true) (F : Ins Z h a K true) (hd : decode B pc = .ok (.instanceof index, 3)) (hp : pc + 3 = pc' := by rfl) :
    Wk p l e R s m args below meth c Z a0 EL S0 y B ml ret V h cl sl (mkF m pc' L (.int 1 :: st)) := by
  subst hp
  refine w.heap (CHr.refl w.ch) w.old fun T locs X e0 f => ?_
  obtain ⟨T', X', e', st'⟩ := instY X w.1.1 w.hZ w.own wl e0 F (g := mkF m pc L (.ref a :: st)) rfl rfl (hb w.1.2.1 hd)
  exact ⟨T', locs, X', e', f, st'⟩
theorem Wk.instNull {pc pc' : Nat} {L : Array Slot} {st : List Value} {index : Nat} (w : Wk p l e R s m args below meth c Z a0 EL S0 y B ml ret V h cl sl (mkF m pc L (.null :: st))) (hd : decode B pc = .ok (.instanceof index, 3)) (hp : pc + 3 = pc' := by rfl) :
    Wk p l e R s m args below meth c Z a0 EL S0 y B ml ret V h cl sl (mkF m pc' L (.int 0 :: st)) := by
  subst hp
  exact w.stX fun T locs t X e0 k => X.instanceofNull w.1.1 (g := mkF m pc L (.null :: st)) rfl rfl (hb w.1.2.1 hd) t k
/-- Object.<init> -/
theorem Wk.initO {pc pc' : Nat} {L : Array Slot} {st : List Value} {idx : Nat} {a : Addr} (W : Nat) (w : Wk p l e R s m args below meth c Z a0 EL S0 y B ml ret V h cl sl (mkF m pc L (.ref a :: st))) (w1 : (Jvm.Cond.methodLink y.cls idx Lib.objectInit).before a0 Z = true) (w2 : (Jvm.Cond.instanceMethod Lib.objectInit).before a0 Z = true)
    (w3 : (Jvm.Cond.code Lib.objectInit ⟨#[0xb1]⟩ 1 none).before a0 Z = true) (hL : L.size = ml) (hd : decode B pc = .ok (.invokespecial idx, 3)) (hfr : 1 ≤ R.frames) (hW : (st.map fun v => v.category).sum ≤ W) (hlo : W + 12 ≤ R.locals) (hp : pc + 3 = pc' := by rfl) :
    Wk p l e R s m args below meth c Z a0 EL S0 y B ml ret V h cl sl (mkF m pc' L st) := by
  subst hp
  refine w.heap (CHr.refl w.ch) w.old fun T locs X e0 f => ?_
  obtain ⟨T', X', e', st'⟩ := RoadKit.initO X w.1.1 w.hZ w.own w1 w2 w3 e0 (g := mkF m pc L (.ref a :: st)) rfl (hL.trans w.1.2.2.1.symm) rfl (hb w.1.2.1 hd) hfr (W := W) (by show 2 * 0 + _ ≤ _; omega) hlo
  exact ⟨T', locs, X', e', f, st'⟩
/-- ldc of a String constant of EL, its text below 256 -/
theorem Wk.ldcS {pc pc' : Nat} {L : Array Slot} {st : List Value} {index : Nat} {text : String} {vs : List Value} {z : Int32} (n : Nat) (w : Wk p l e R s m args below meth c Z a0 EL S0 y B ml ret V h cl sl (mkF m pc L st)) (wl : (Jvm.Cond.stringLink y.cls index text).before a0 Z = true) (wS : ∀ a ∈ Bundle.stringAtoms, a.before a0 Z = true) (hm : (y.cls, index) ∈ EL)
    (ht : (∀ c ∈ text.toList, c.toNat < 256) ∧ text.toList.map (fun c => Value.int (Jvm.Lit.byteI c.toNat.toUInt16)) = vs) (hz : ¬ z < 0) (hl : z.toNatClampNeg = vs.length) (hd : decode B pc = .ok (.ldc index, 2)) (hn : 4 * text.toList.length ≤ n) (hbig : n ≤ 536870912) (hc : cl + 2 ≤ R.cells) (hl' : sl + (n + 4) ≤ R.slots) (hp : pc + 2 = pc' := by rfl) :
    ∃ (a : Addr) (V' : Vm) (h' : Heap) (b : Addr) (k : ClassId), Ext h h' ∧ Exa Z h' a "java/lang/String" ∧ Fld Z h' a "java/lang/String" "coder" "B" (.int 0) ∧ Fld Z h' a "java/lang/String" "value" "[B" (.ref b) ∧ Arv Z h' b k .byte z vs (.int 0) ∧ (∀ x, Safe Z EL V' h' x → x ≠ a ∧ x ≠ b) ∧ CHr Z EL V h V' h' ∧
      Wk p l e R s m args below meth c Z a0 EL S0 y B ml ret V' h' (cl + 2) (sl + (n + 4)) (mkF m pc' L (.ref a :: st)) := by
  subst hp
  obtain ⟨hf, ⟨hz0, hC, hO⟩, T, locs, k0, X, e0, h1, h2, h3, st0⟩ := id w
  obtain ⟨a, T', h', k1, b, k, X', e', E, hS, hk, hW, hown', q1, q2, q3, q4, -, -, Q, -, hne, st'⟩ := ldcCH X hf.1 hz0 w.own wl wS e0 h1 h2 hf.2.2.2.2.2.2.2 hm w.ch ht hz hl (g := mkF m pc L st) rfl (hb hf.2.1 hd) hn hbig hc hl'
  exact ⟨a, T'.vm, h', b, k, E, q1, q2, q3, q4, hne, Q, hf, ⟨hW, hC.trans Q, extT hO E⟩, T', locs, k1, X', e', hS, hk, h3, fun t q => st0 t (st' t q)⟩
/-! calls -/
/-- who pays a call of y': the shape of every payer here -/
def Pays (p : Program) (l : Launch) (e : Env) (R : Room) (s : State) (args : Array Value) (below : List Frame) (Z : State) (EL : List (String × Nat)) (V : Vm) (h : Heap) (y' : MethodName) (len W kc ks : Nat) (as' : Array Value) (Q : Option Value → Heap → Prop) : Prop :=
  BackS l R p e below (s.setVm V) args y' len W (fun A a => a = as' ∧ A.U.heap = h ∧ A.cells + kc ≤ R.cells ∧ A.slots + ks ≤ R.slots)
    (fun A _ v B => ∃ L : List Loc, Q v B.U.heap ∧ Ext Z.heap B.U.heap ∧ Fr Z.heap.size L ∧ CHr Z EL V h B.U.vm B.U.heap ∧ B.locs = A.locs ++ L ∧ B.cells = A.cells + kc ∧ B.slots = A.slots + ks)
theorem Wk.pays {g : JFrame} {y' : MethodName} {B' : ByteArray} {ml' : Nat} {ret' : Option FieldType} {rm : Room} {as' : Array Value} {sf : List Addr} {Q : Option Value → Heap → Prop} {len : Nat} (W : Nat) (w : Wk p l e R s m args below meth c Z a0 EL S0 y B ml ret V h cl sl g) (M : Met l Z EL y' B' ml' ret' [] rm as' h sf Q)
    (wc : (Jvm.Cond.code y' B' ml' ret').before a0 Z = true) (wz : (Jvm.Cond.initialized y'.cls).before a0 Z = true) (hsf : ∀ x ∈ sf, Safe Z EL V h x) (hf : rm.frames + 1 ≤ R.frames) (hl : W + (ml' + 11) + rm.locals ≤ R.locals) :
    Pays p l e R s args below Z EL V h y' len W rm.cells rm.slots as' Q :=
  BackS.of_freeW (bytes := B') (maxL := ml') (ret := ret') (E := fun _ first o t L k n => k = rm.cells ∧ n = rm.slots ∧ (∃ v, o = .returned v ∧ Q v t.heap) ∧ Ext Z.heap t.heap ∧ Fr Z.heap.size L ∧ CHr Z EL first.vm first.heap t.vm t.heap) M hf hl
    (fun m meth c A a Y hp => have hU : Z.Warmed39 A.U.vm := wtrans (s := s.setVm V) w.hZ Y.warmed
      ⟨by show (Jvm.Cond.and _ .tt).before a A.U = true; rw [Cond.before_and, mv hU wc]; rfl, mv hU wc, mv hU wz, hp.2.2.1, hp.2.2.2⟩)
    (fun m meth c A a g mk Y hp => ⟨hp.1, wtrans (s := s.setVm V) w.hZ Y.warmed, hp.2.1, (CHv.at Y w.hZ w.el w.ch).1, fun x hx => (CHv.at Y w.hZ w.el w.ch).2.2 x |> fun q B => (q B).elim (hsf x hx) (fun r => hsf x hx |> fun _ => by
      obtain ⟨cell, q0⟩ := B.there
      exact absurd (Array.getElem?_eq_some_iff.mp q0).1 (Nat.not_lt.mpr r))⟩) (fun _ _ _ _ _ _ _ _ _ => trivial)
    (fun _ _ _ _ ⟨v, L, h1, h2, h3, h4, h5, h6⟩ => ⟨L, _, _, h6, rfl, rfl, ⟨v, h1, h2⟩, h3, h4, h5⟩)
    (fun m meth c A a g mk v t L k n Y hp _ _ ⟨e1, e2, ⟨v', e3, e4⟩, e5, e6, e7⟩ => by
      cases e3; subst e1 e2
      refine ⟨L, e4, e5, e6, (CHv.at Y w.hZ w.el w.ch).trans ?_, rfl, rfl, rfl⟩
      rw [← hp.2.1]; exact e7)
/-- a payer of the library's (Back): what it writes lies in ws -/
theorem Wk.paysB {g : JFrame} {y' : MethodName} {as' : Array Value} {Qb : Option Value → Heap → List Loc → Prop} {len W kc ks : Nat} (w : Wk p l e R s m args below meth c Z a0 EL S0 y B ml ret V h cl sl g) (ws : List Addr)
    (K : Back l R p e below (s.setVm V) args y' len W (fun A a => a = as' ∧ A.U.heap = h ∧ A.cells + kc ≤ R.cells ∧ A.slots + ks ≤ R.slots) (fun A _ v B => ∃ L, Qb v B.U.heap L ∧ B.locs = A.locs ++ L ∧ B.cells = A.cells + kc ∧ B.slots = A.slots + ks))
    (hQ : ∀ v h' L, Qb v h' L → Keep h h' ws ∧ Fr Z.heap.size L) (hs : ∀ x ∈ ws, Safe Z EL V h x ∧ Z.heap.size ≤ x) :
    Pays p l e R s args below Z EL V h y' len W kc ks as' (fun v h' => ∃ L, Qb v h' L) := by
  intro m meth c A g ig mk a X hg hsize hdg hW hn hp
  obtain ⟨v, D, X', ⟨L, q1, q2, q3, q4⟩, st⟩ := K m meth c A g ig mk a X hg hsize hdg hW hn hp
  obtain ⟨K1, K2⟩ := hQ _ _ _ q1
  have A1 : CHr Z EL V h V D.U.heap := CHr.keep K1 (fun x hx => (hs x hx).1) w.ch
  refine ⟨v, D, X'.retabled X'.warmed.wide, X'.warmed.since _, by rw [hp.2.1]; exact K1.1, ⟨L, ⟨L, q1⟩, extK w.old K1 (fun x hx => (hs x hx).2), K2, A1.trans (CHv.at X' w.hZ w.el A1.1), q2, q3, q4⟩, st⟩
theorem Wk.back {g g' : JFrame} {y' : MethodName} {kc ks : Nat} {Q : Option Value → Heap → Prop} {v : Option Value} {T0 : State} {locs0 : List Loc} {D : Pt} {vm₁ : Vm} (w : Wk p l e R s m args below meth c Z a0 EL S0 y B ml ret V h cl sl g) {k0 : Nat} (h1 : s.Since V k0) (h2 : k0 ≤ h.size) (h3 : Fr Z.heap.size locs0) (e0 : T0.heap = h)
    (X' : Stand p l e R ((s.setVm V).setVm D.U.vm) m args below meth c D.U D.locs D.cells D.slots) (hS : (s.setVm V).Since D.U.vm D.U.heap.size) (hgr : T0.heap.size ≤ D.U.heap.size)
    (hpost : ∃ L : List Loc, Q v D.U.heap ∧ Ext Z.heap D.U.heap ∧ Fr Z.heap.size L ∧ CHr Z EL V h D.U.vm D.U.heap ∧ D.locs = Pt.locs (T0.setVm vm₁, locs0, cl, sl) ++ L ∧ D.cells = Pt.cells (T0.setVm vm₁, locs0, cl, sl) + kc ∧ D.slots = Pt.slots (T0.setVm vm₁, locs0, cl, sl) + ks)
    (st : ∀ t, Steps p.tables e below (D.U.setTop g') t → Steps p.tables e below S0 t) :
    ∃ (V' : Vm) (h' : Heap), Q v h' ∧ CHr Z EL V h V' h' ∧ Wk p l e R s m args below meth c Z a0 EL S0 y B ml ret V' h' (cl + kc) (sl + ks) g' := by
  obtain ⟨L, q1, q2, q3, q4, q5, q6, q7⟩ := hpost
  obtain ⟨U, locsD, cD, sD⟩ := D
  dsimp only [Pt.U, Pt.locs, Pt.cells, Pt.slots] at *
  subst q5 q6 q7
  exact ⟨U.vm, U.heap, q1, q4, w.1, ⟨State.Warmed39.trans (t := s.setVm V) w.hZ hS.1, w.2.1.2.1.trans q4, q2⟩, U, _, _, X', rfl, foldS (T := T0) h1 (by rw [e0]; exact h2) hS hgr, Nat.le_refl _, Fr.app h3 q3, st⟩
/-- invokestatic -/
theorem Wk.static {pc pc' : Nat} {L : Array Slot} {st rest argsL : List Value} {index W kc ks : Nat} {y' : MethodName} {B' : ByteArray} {ml' : Nat} {ret' : Option FieldType} {Q : Option Value → Heap → Prop} {ps : List FieldType} {r : Option FieldType} (w : Wk p l e R s m args below meth c Z a0 EL S0 y B ml ret V h cl sl (mkF m pc L st))
    (K : Pays p l e R s args below Z EL V h y' 3 W kc ks argsL.toArray Q) (wl : (Jvm.Cond.methodLink y.cls index y').before a0 Z = true) (wst : (Jvm.Cond.static y').before a0 Z = true) (wz : (Jvm.Cond.initialized y'.cls).before a0 Z = true) (wc : (Jvm.Cond.code y' B' ml' ret').before a0 Z = true)
    (hy : y'.cls ≠ "java/lang/invoke/MethodHandle" ∧ y'.cls ≠ "java/lang/invoke/VarHandle") (hpd : parseMethodDescriptor y'.desc = some ⟨ps, r⟩) (hlen : argsL.length = ps.length) (hst : st = argsL.reverse ++ rest) (hW : (rest.map fun v => v.category).sum ≤ W) (hL : L.size = ml) (hd : decode B pc = .ok (.invokestatic index, 3)) (hc : cl + kc ≤ R.cells) (hs : sl + ks ≤ R.slots) (hp : pc + 3 = pc' := by rfl) :
    ∃ (v : Option Value) (V' : Vm) (h' : Heap), Q v h' ∧ CHr Z EL V h V' h' ∧ Wk p l e R s m args below meth c Z a0 EL S0 y B ml ret V' h' (cl + kc) (sl + ks) (mkF m pc' L (v.toList ++ rest)) := by
  subst hp
  obtain ⟨hf, ⟨hz, hC, hO⟩, T, locs, k0, X, e0, h1, h2, h3, st0⟩ := id w
  obtain ⟨v, vm₁, D, -, X', hS, hgr, hpost, st'⟩ := callSS X hf.1 w.own (mv (s := s.setVm V) hz wl) (mv (s := s.setVm V) hz wst) (mv (s := s.setVm V) hz wz) (mv (s := s.setVm V) hz wc) hy K (g := mkF m pc L st) rfl (hL.trans hf.2.2.1.symm) (argsL := argsL) (rest := rest) (lenOf hpd hlen) hst (by show 2 * 0 + _ ≤ _; omega) (hb hf.2.1 hd) (fun _ _ => ⟨rfl, e0, hc, hs⟩)
  obtain ⟨V', h', a1, a2, a3⟩ := w.back (g' := mkF m (pc + 3) L (v.toList ++ rest)) (y' := y') h1 h2 h3 e0 X' hS hgr hpost (fun t q => st0 t (st'.trans q))
  exact ⟨v, V', h', a1, a2, a3⟩
/-- invokevirtual: the receiver is exactly a C, for which the call goes to z -/
theorem Wk.virtual {pc pc' : Nat} {L : Array Slot} {st rest argsL : List Value} {index W kc ks : Nat} {y' z : MethodName} {C : String} {b : Addr} {Q : Option Value → Heap → Prop} {ps : List FieldType} {r : Option FieldType} (w : Wk p l e R s m args below meth c Z a0 EL S0 y B ml ret V h cl sl (mkF m pc L st))
    (K : Pays p l e R s args below Z EL V h z 3 W kc ks (.ref b :: argsL).toArray Q) (wl : (Jvm.Cond.methodLink y.cls index y').before a0 Z = true) (wd : (Jvm.Cond.declares y').before a0 Z = true) (hnf : NotFace (s.setVm V) y') (ws : (Jvm.Cond.selects C y' z).before a0 Z = true) (wi : (Jvm.Cond.instanceMethod z).before a0 Z = true)
    (hy : y'.cls ≠ "java/lang/invoke/MethodHandle" ∧ y'.cls ≠ "java/lang/invoke/VarHandle") (E : Exa Z h b C) (hpd : parseMethodDescriptor y'.desc = some ⟨ps, r⟩) (hlen : argsL.length = ps.length) (hst : st = argsL.reverse ++ .ref b :: rest) (hW : (rest.map fun v => v.category).sum ≤ W) (hL : L.size = ml) (hd : decode B pc = .ok (.invokevirtual index, 3)) (hc : cl + kc ≤ R.cells) (hs : sl + ks ≤ R.slots) (hp : pc + 3 = pc' := by rfl) :
    ∃ (v : Option Value) (V' : Vm) (h' : Heap), Q v h' ∧ CHr Z EL V h V' h' ∧ Wk p l e R s m args below meth c Z a0 EL S0 y B ml ret V' h' (cl + kc) (sl + ks) (mkF m pc' L (v.toList ++ rest)) := by
  subst hp
  obtain ⟨hf, ⟨hz, hC, hO⟩, T, locs, k0, X, e0, h1, h2, h3, st0⟩ := id w
  obtain ⟨cB, kB, b1, b2, b3⟩ := isOf (s := s.setVm V) hz e0 E
  obtain ⟨v, vm₁, D, -, X', hS, hgr, hpost, st'⟩ := X.virtualBackS hf.1 w.own (mv (s := s.setVm V) hz wl) (mv (s := s.setVm V) hz wd) hnf (mv (s := s.setVm V) hz ws) (mv (s := s.setVm V) hz wi) hy K b1 b3 (g := mkF m pc L st) rfl (hL.trans hf.2.2.1.symm) (Steps.refl _) (argsL := argsL) (rest := rest) (lenOf hpd hlen) hst (by show 2 * 0 + _ ≤ _; omega) (hb hf.2.1 hd) (fun _ _ => ⟨rfl, e0, hc, hs⟩)
  obtain ⟨V', h', a1, a2, a3⟩ := w.back (g' := mkF m (pc + 3) L (v.toList ++ rest)) (y' := z) h1 h2 h3 e0 X' hS hgr hpost (fun t q => st0 t (st'.trans q))
  exact ⟨v, V', h', a1, a2, a3⟩
/-- .. where the entry's own class declares what is selected -/
theorem Wk.virt {pc pc' : Nat} {L : Array Slot} {st rest argsL : List Value} {index W kc ks : Nat} {y' : MethodName} {C : String} {b : Addr} {Q : Option Value → Heap → Prop} {ps : List FieldType} {r : Option FieldType} (w : Wk p l e R s m args below meth c Z a0 EL S0 y B ml ret V h cl sl (mkF m pc L st))
    (K : Pays p l e R s args below Z EL V h y' 3 W kc ks (.ref b :: argsL).toArray Q) (wl : (Jvm.Cond.methodLink y.cls index y').before a0 Z = true) (wd : (Jvm.Cond.declares y').before a0 Z = true) (ws : (Jvm.Cond.selects C y' y').before a0 Z = true) (wi : (Jvm.Cond.instanceMethod y').before a0 Z = true)
    (hy : y'.cls ≠ "java/lang/invoke/MethodHandle" ∧ y'.cls ≠ "java/lang/invoke/VarHandle") (E : Exa Z h b C) (hpd : parseMethodDescriptor y'.desc = some ⟨ps, r⟩) (hlen : argsL.length = ps.length) (hst : st = argsL.reverse ++ .ref b :: rest) (hW : (rest.map fun v => v.category).sum ≤ W) (hL : L.size = ml) (hd : decode B pc = .ok (.invokevirtual index, 3)) (hc : cl + kc ≤ R.cells) (hs : sl + ks ≤ R.slots) (hp : pc + 3 = pc' := by rfl) :
    ∃ (v : Option Value) (V' : Vm) (h' : Heap), Q v h' ∧ CHr Z EL V h V' h' ∧ Wk p l e R s m args below meth c Z a0 EL S0 y B ml ret V' h' (cl + kc) (sl + ks) (mkF m pc' L (v.toList ++ rest)) :=
  w.virtual K wl wd (notFace_of_selects (args := #[]) (mv (s := s.setVm V) w.hZ ws)) ws wi hy E hpd hlen hst hW hL hd hc hs hp
/-- invokespecial of a constructor -/
theorem Wk.ctor {pc pc' : Nat} {L : Array Slot} {st rest argsL : List Value} {index W kc ks : Nat} {y' : MethodName} {B' : ByteArray} {ml' : Nat} {a : Addr} {Q : Option Value → Heap → Prop} {ps : List FieldType} {r : Option FieldType} (w : Wk p l e R s m args below meth c Z a0 EL S0 y B ml ret V h cl sl (mkF m pc L st))
    (K : Pays p l e R s args below Z EL V h y' 3 W kc ks (.ref a :: argsL).toArray Q) (hy1 : y'.name = "<init>") (wl : (Jvm.Cond.methodLink y.cls index y').before a0 Z = true) (wi : (Jvm.Cond.instanceMethod y').before a0 Z = true) (wc : (Jvm.Cond.code y' B' ml' none).before a0 Z = true)
    (hy : y'.cls ≠ "java/lang/invoke/MethodHandle" ∧ y'.cls ≠ "java/lang/invoke/VarHandle") (hpd : parseMethodDescriptor y'.desc = some ⟨ps, r⟩) (hlen : argsL.length = ps.length) (hst : st = argsL.reverse ++ .ref a :: rest) (hW : (rest.map fun v => v.category).sum ≤ W) (hL : L.size = ml) (hd : decode B pc = .ok (.invokespecial index, 3)) (hc : cl + kc ≤ R.cells) (hs : sl + ks ≤ R.slots) (hp : pc + 3 = pc' := by rfl) :
    ∃ (v : Option Value) (V' : Vm) (h' : Heap), Q v h' ∧ CHr Z EL V h V' h' ∧ Wk p l e R s m args below meth c Z a0 EL S0 y B ml ret V' h' (cl + kc) (sl + ks) (mkF m pc' L (v.toList ++ rest)) := by
  subst hp
  obtain ⟨hf, ⟨hz, hC, hO⟩, T, locs, k0, X, e0, h1, h2, h3, st0⟩ := id w
  obtain ⟨v, vm₁, D, -, X', hS, hgr, hpost, st'⟩ := X.specialBackS hf.1 hy1 w.own (mv (s := s.setVm V) hz wl) (mv (s := s.setVm V) hz wi) (mv (s := s.setVm V) hz wc) hy K (g := mkF m pc L st) rfl (hL.trans hf.2.2.1.symm) (Steps.refl _) (a := a) (argsL := argsL) (rest := rest) (lenOf hpd hlen) hst (by show 2 * 0 + _ ≤ _; omega) (hb hf.2.1 hd) (fun _ _ => ⟨rfl, e0, hc, hs⟩)
  obtain ⟨V', h', a1, a2, a3⟩ := w.back (g' := mkF m (pc + 3) L (v.toList ++ rest)) (y' := y') h1 h2 h3 e0 X' hS hgr hpost (fun t q => st0 t (st'.trans q))
  exact ⟨v, V', h', a1, a2, a3⟩
/-- a private method by invokevirtual -/
theorem Wk.priv {pc pc' : Nat} {L : Array Slot} {st rest argsL : List Value} {index W kc ks : Nat} {y' : MethodName} {B' : ByteArray} {ml' : Nat} {ret' : Option FieldType} {C : String} {b : Addr} {Q : Option Value → Heap → Prop} {ps : List FieldType} {r : Option FieldType} (w : Wk p l e R s m args below meth c Z a0 EL S0 y B ml ret V h cl sl (mkF m pc L st))
    (K : Pays p l e R s args below Z EL V h y' 3 W kc ks (.ref b :: argsL).toArray Q) (wl : (Jvm.Cond.methodLink y.cls index y').before a0 Z = true) (wi : (Jvm.Cond.instanceMethod y').before a0 Z = true) (wp : (Jvm.Cond.privateMethod y').before a0 Z = true) (ws : (Jvm.Cond.selects C y' y').before a0 Z = true) (wc : (Jvm.Cond.code y' B' ml' ret').before a0 Z = true)
    (hy : y'.cls ≠ "java/lang/invoke/MethodHandle" ∧ y'.cls ≠ "java/lang/invoke/VarHandle") (E : Exa Z h b C) (hpd : parseMethodDescriptor y'.desc = some ⟨ps, r⟩) (hlen : argsL.length = ps.length) (hst : st = argsL.reverse ++ .ref b :: rest) (hW : (rest.map fun v => v.category).sum ≤ W) (hL : L.size = ml) (hd : decode B pc = .ok (.invokevirtual index, 3)) (hc : cl + kc ≤ R.cells) (hs : sl + ks ≤ R.slots) (hp : pc + 3 = pc' := by rfl) :
    ∃ (v : Option Value) (V' : Vm) (h' : Heap), Q v h' ∧ CHr Z EL V h V' h' ∧ Wk p l e R s m args below meth c Z a0 EL S0 y B ml ret V' h' (cl + kc) (sl + ks) (mkF m pc' L (v.toList ++ rest)) := by
  subst hp
  obtain ⟨hf, ⟨hz, hC, hO⟩, T, locs, k0, X, e0, h1, h2, h3, st0⟩ := id w
  obtain ⟨cell, q1, q2⟩ := E.cell
  obtain ⟨mk, methM, hnamed, hmethM, hstM, habM⟩ := Cond.instanceMethod_spec (mv (s := s.setVm V) (args := args) hz wi)
  obtain ⟨methM', cM, hmethM', -, -, -, -, -, -, hsigM⟩ := Cond.code_spec hnamed (mv (s := s.setVm V) (args := args) hz wc)
  cases hmethM.symm.trans hmethM'
  obtain ⟨c2, r2, m2, -, -, q3, -, kP, hkP, hkPi⟩ := Cond.selects_spec (mv (s := s.setVm V) (args := args) hz ws)
  cases hnamed.symm.trans q3
  have hselP : selectMethod e.platform (s.setVm V).vm cell.cls mk = .method mk := selectMethod_private hmethM (Cond.privateMethod_at (mvP (s := s.setVm V) hz wp (args := #[])) mk methM hnamed hmethM)
  obtain ⟨vm₁, X₁, hstep₁⟩ := X.invokevirtual hf.1 w.own (mv (s := s.setVm V) hz wl) hnamed hmethM hstM hkP hkPi hy (a := b) (cell := cell) (by rw [e0]; exact q1) q2 hselP hmethM habM hkP hkPi (g := mkF m pc L st) rfl (argsL := argsL) (rest := rest) (lenOf hpd hlen _ hsigM) hst (hb hf.2.1 hd)
  obtain ⟨v, D, X', hS, hgr, hpost, hsteps⟩ := K m meth c ⟨T.setVm vm₁, locs, cl, sl⟩ { (mkF m pc L st) with stack := rest } (.invokevirtual index) mk (.ref b :: argsL).toArray X₁ rfl (hL.trans hf.2.2.1.symm) (hb hf.2.1 hd) (by show 2 * 0 + (rest.map fun v => v.category).sum ≤ W; omega) (X₁.named hnamed) ⟨rfl, e0, hc, hs⟩
  obtain ⟨V', h', a1, a2, a3⟩ := w.back (g' := mkF m (pc + 3) L (v.toList ++ rest)) (y' := y') h1 h2 h3 e0 X' hS hgr hpost (fun t q => st0 t ((hstep₁ _ fun acts => by rw [doInvoke_state]; exact Steps.refl _).trans (hsteps.trans q)))
  exact ⟨v, V', h', a1, a2, a3⟩
theorem own_same {s0 : State} {as0 : Array Value} {y1 y2 : MethodName} {C : String} (w1 : (Jvm.Cond.instanceMethod y1).before as0 s0 = true) (w2 : (Jvm.Cond.instanceMethod y2).before as0 s0 = true) (ws : (Jvm.Cond.selects C y2 y2).before as0 s0 = true) (hc : y2.cls = y1.cls) (hy : y1.cls ≠ "java/lang/invoke/MethodHandle" ∧ y1.cls ≠ "java/lang/invoke/VarHandle") : (Jvm.Cond.sameMethod y1.cls y1.cls y1.name y1.desc).before as0 s0 = true := by
  obtain ⟨r0, m0, n1, -⟩ := Cond.instanceMethod_spec w1
  obtain ⟨r1, m1, n2, -⟩ := Cond.instanceMethod_spec w2
  obtain ⟨kr, hkr, hni⟩ := notFace_of_selects (args := as0) ws r1 n2
  have c1 := findClass_of_methodNamed n1
  have c2 := findClass_of_methodNamed n2
  rw [hc] at c2
  have f1 := State.methodFound?_of_named n1 hy
  have e1 : s0.methodNamed? ⟨y1.cls, y1.name, y1.desc⟩ = some r0 := n1
  have hk' : s0.vm.classes[r0.cls]? = some kr := by rw [Option.some.inj (c1.symm.trans c2)]; exact hkr
  simp [Cond.before, Cond.holds, Cond.value, c1, f1, e1, hk', hni]
theorem own_nf {s : State} {y1 y2 : MethodName} {C : String} (hZ : Z.Warmed39 s.vm) (w2 : (Jvm.Cond.instanceMethod y2).before a0 Z = true) (ws : (Jvm.Cond.selects C y2 y2).before a0 Z = true) (hc : y2.cls = y1.cls) : NotFace s y1 := fun r0 n1 => by
  obtain ⟨r1, m1, n2, -⟩ := Cond.instanceMethod_spec (mv (s := s) (args := #[]) hZ w2)
  obtain ⟨kr, hkr, hni⟩ := notFace_of_selects (args := #[]) (mv (s := s) hZ ws) r1 n2
  have c1 := findClass_of_methodNamed n1
  have c2 := findClass_of_methodNamed n2
  rw [hc] at c2
  exact ⟨kr, by rw [Option.some.inj (c1.symm.trans c2)]; exact hkr, hni⟩
/-- super.m(..) -/
theorem Wk.super {pc pc' : Nat} {L : Array Slot} {st rest argsL : List Value} {index W kc ks : Nat} {y' : MethodName} {B' : ByteArray} {ml' : Nat} {ret' : Option FieldType} {C : String} {b : Addr} {Q : Option Value → Heap → Prop} {ps : List FieldType} {r : Option FieldType} (w : Wk p l e R s m args below meth c Z a0 EL S0 y B ml ret V h cl sl (mkF m pc L st))
    (K : Pays p l e R s args below Z EL V h y' 3 W kc ks (.ref b :: argsL).toArray Q) (wl : (Jvm.Cond.methodLink y.cls index y').before a0 Z = true) (wsm : (Jvm.Cond.sameMethod y'.cls y'.cls y'.name y'.desc).before a0 Z = true) (wi : (Jvm.Cond.instanceMethod y').before a0 Z = true) (wsu : (Jvm.Cond.superclass y.cls y'.cls).before a0 Z = true) (wc : (Jvm.Cond.code y' B' ml' ret').before a0 Z = true)
    (hn : y'.name ≠ "<init>") (E : Exa Z h b C) (hpd : parseMethodDescriptor y'.desc = some ⟨ps, r⟩) (hlen : argsL.length = ps.length) (hst : st = argsL.reverse ++ .ref b :: rest) (hW : (rest.map fun v => v.category).sum ≤ W) (hL : L.size = ml) (hd : decode B pc = .ok (.invokespecial index, 3)) (hc : cl + kc ≤ R.cells) (hs : sl + ks ≤ R.slots) (hp : pc + 3 = pc' := by rfl) :
    ∃ (v : Option Value) (V' : Vm) (h' : Heap), Q v h' ∧ CHr Z EL V h V' h' ∧ Wk p l e R s m args below meth c Z a0 EL S0 y B ml ret V' h' (cl + kc) (sl + ks) (mkF m pc' L (v.toList ++ rest)) := by
  subst hp
  obtain ⟨hf, ⟨hz, hC, hO⟩, T, locs, k0, X, e0, h1, h2, h3, st0⟩ := id w
  obtain ⟨v, vm₁, D, -, X', hS, hgr, hpost, st'⟩ := superBackS X hf.1 hz w.own wl wsm wi wsu hn K e0 (Ins.self E) (g := mkF m pc L st) rfl (hL.trans hf.2.2.1.symm) wc (argsL := argsL) (rest := rest) (lenOf hpd hlen) hst (by show 2 * 0 + _ ≤ _; omega) (hb hf.2.1 hd) (fun _ _ => ⟨rfl, e0, hc, hs⟩)
  obtain ⟨V', h', a1, a2, a3⟩ := w.back (g' := mkF m (pc + 3) L (v.toList ++ rest)) (y' := y') h1 h2 h3 e0 X' hS hgr hpost (fun t q => st0 t (st'.trans q))
  exact ⟨v, V', h', a1, a2, a3⟩
/-- System.arraycopy of bytes into an array of the walk's own -/
theorem Wk.arrcopy {pc pc' : Nat} {L : Array Slot} {st : List Value} {index W : Nat} {a b : Addr} {k k' : ClassId} {z z' sp dp nn : Int32} {vs vd us : List Value} {dv dd : Value} (w : Wk p l e R s m args below meth c Z a0 EL S0 y B ml ret V h cl sl (mkF m pc L (.int nn :: .int dp :: .ref b :: .int sp :: .ref a :: st)))
    (w1 : (Jvm.Cond.methodLink y.cls index Jvm.Stand.acN).before a0 Z = true) (w2 : (Jvm.Cond.native Jvm.Stand.acN).before a0 Z = true) (w3 : (Jvm.Cond.static Jvm.Stand.acN).before a0 Z = true) (w4 : (Jvm.Cond.initialized "java/lang/System").before a0 Z = true) (A : Arv Z h a k .byte z vs dv) (D : Arv Z h b k' .byte z' vd dd)
    (h1 : ¬ sp < 0) (h2 : ¬ dp < 0) (h3 : ¬ nn < 0) (h4 : sp.toNatClampNeg + nn.toNatClampNeg ≤ z.toNatClampNeg) (h5 : dp.toNatClampNeg + nn.toNatClampNeg ≤ z'.toNatClampNeg) (hus : us = (List.range nn.toNatClampNeg).map fun i => vs.getD (sp.toNatClampNeg + i) dv) (hl : dp.toNatClampNeg + nn.toNatClampNeg ≤ vd.length) (ge : Z.heap.size ≤ b) (Sb : Safe Z EL V h b)
    (hL : L.size = ml) (hd : decode B pc = .ok (.invokestatic index, 3)) (hf : 1 ≤ R.frames) (hW : (st.map fun v => v.category).sum ≤ W) (hlo : W + (nativeFrameWords "java/lang/System" "arraycopy" 5 + 11) ≤ R.locals) (hp : pc + 3 = pc' := by rfl) :
    ∃ h' : Heap, Keep h h' [b] ∧ Arv Z h' b k' .byte z' (vd.take dp.toNatClampNeg ++ us ++ vd.drop (dp.toNatClampNeg + nn.toNatClampNeg)) dd ∧ CHr Z EL V h V h' ∧ Wk p l e R s m args below meth c Z a0 EL S0 y B ml ret V h' cl sl (mkF m pc' L st) := by
  subst hp
  obtain ⟨hf0, ⟨hz, hC, hO⟩, T, locs, k0, X, e0, g1, g2, g3, st0⟩ := id w
  obtain ⟨T', h', L', X', e', f', K, D', st'⟩ := cpA X hf0.1 hz w.own w1 w2 w3 w4 e0 A D (Or.inl ⟨rfl, rfl⟩) h1 h2 h3 h4 h5 hus hl g3 ge (g := mkF m pc L (.int nn :: .int dp :: .ref b :: .int sp :: .ref a :: st)) rfl (hL.trans hf0.2.2.1.symm) rfl (hb hf0.2.1 hd) hf (W := W) (by show 2 * 0 + _ ≤ _; omega) hlo
  have Q : CHr Z EL V h V h' := CHr.keep K (allS Sb all0) w.ch
  exact ⟨h', K, D', Q, hf0, ⟨hz, hC.trans Q, extK hO K (allS ge all0)⟩, T', L', k0, X', e', g1, Nat.le_trans g2 Q.2.1, f', fun t q => st0 t (st' t q)⟩
/-! the end -/
theorem Wk.fin {g : JFrame} {v : Option Value} {k n : Nat} {Q : Option Value → Heap → Prop} (w : Wk p l e R s m args below meth c Z a0 EL S0 y B ml ret V h cl sl g) (hv : ret = none → v = none)
    (step : ∀ (T : State) (locs : List Loc) (fs : List Frame), Stand p l e R (s.setVm V) m args below meth c T locs cl sl → (∀ (f : JFrame) (acts : List Action), f.method = m → f.locked = none → f.entered = [] → (doReturn e (T.setTop f) acts v).1 = T.setFrames fs) → Steps p.tables e below (T.setTop g) (T.setFrames fs))
    (hQ : Q v h) (hk : cl ≤ k) (hn : sl ≤ n) : Fini p e below s Z EL S0 k n Q := by
  obtain ⟨hf, ⟨hz, hC, hO⟩, T, locs, k0, X, e0, h1, h2, h3, st0⟩ := id w
  obtain ⟨fs, hr, hrun, hend, hR⟩ := (X.more hk hn).leaveW h1 (by rw [e0]; exact h2) (v := v) (fun q => hv (hf.2.2.2.1.symm.trans q)) hf.2.2.2.2.1
  have e1 : (T.setFrames fs).heap = h := e0
  refine ⟨T.setFrames fs, .returned v, st0 _ (step T locs fs X hr), hrun, hend, v, locs, rfl, by rw [e1]; exact hQ, by rw [e1]; exact hO, h3, ?_, hR⟩
  rw [e1]
  show CHr Z EL s.vm s.heap T.vm h
  exact hC.trans (CHv.at X hz w.el w.ch)
theorem Wk.ret0 {pc : Nat} {L : Array Slot} {k n : Nat} {Q : Option Value → Heap → Prop} (w : Wk p l e R s m args below meth c Z a0 EL S0 y B ml none V h cl sl (mkF m pc L [])) (hd : decode B pc = .ok (.return_, 1)) (hQ : Q none h) (hk : cl ≤ k) (hn : sl ≤ n) : Fini p e below s Z EL S0 k n Q :=
  w.fin (fun _ => rfl) (fun T locs fs X hr => X.returnOut w.1.1 w.1.2.2.2.1 (hb w.1.2.1 hd) hr) hQ hk hn
theorem Wk.retA {pc : Nat} {L : Array Slot} {st : List Value} {x : Value} {t : FieldType} {k n : Nat} {Q : Option Value → Heap → Prop} (w : Wk p l e R s m args below meth c Z a0 EL S0 y B ml (some t) V h cl sl (mkF m pc L (x :: st))) (hd : decode B pc = .ok (.areturn, 1)) (hQ : Q (some x) h) (hk : cl ≤ k) (hn : sl ≤ n) (ht : t.isReference = true := by rfl) (hx : x.isRef = true := by rfl) : Fini p e below s Z EL S0 k n Q :=
  w.fin (fun q => nomatch q) (fun T locs fs X hr => retOut X w.1.1 w.1.2.2.2.1 (by cases t <;> first | (cases ht; done) | (rcases ref_cases hx with rfl | ⟨z, rfl⟩ <;> rfl)) (Or.inr (Or.inr (Or.inr (Or.inr ⟨rfl, ht, hx⟩)))) (hb w.1.2.1 hd) hr) hQ hk hn
theorem Wk.retI {pc : Nat} {L : Array Slot} {st : List Value} {x : Int32} {k n : Nat} {Q : Option Value → Heap → Prop} (w : Wk p l e R s m args below meth c Z a0 EL S0 y B ml (some .int) V h cl sl (mkF m pc L (.int x :: st))) (hd : decode B pc = .ok (.ireturn, 1)) (hQ : Q (some (.int x)) h) (hk : cl ≤ k) (hn : sl ≤ n) : Fini p e below s Z EL S0 k n Q :=
  w.fin (fun q => nomatch q) (fun T locs fs X hr => retOut X w.1.1 w.1.2.2.2.1 rfl (Or.inl ⟨rfl, Or.inl rfl, _, rfl⟩) (hb w.1.2.1 hd) hr) hQ hk hn
theorem Wk.retN {pc : Nat} {L : Array Slot} {st : List Value} {x : Int32} {t : FieldType} {k n : Nat} {Q : Option Value → Heap → Prop} (w : Wk p l e R s m args below meth c Z a0 EL S0 y B ml (some t) V h cl sl (mkF m pc L (.int x :: st))) (hd : decode B pc = .ok (.ireturn, 1)) (ht : t = .boolean ∨ t = .byte ∨ t = .char ∨ t = .short) (hQ : Q (some (.int (nar t x))) h) (hk : cl ≤ k) (hn : sl ≤ n) : Fini p e below s Z EL S0 k n Q :=
  w.fin (fun q => nomatch q) (fun T locs fs X hr => RoadKit.retN X w.1.1 w.1.2.2.2.1 ht (hb w.1.2.1 hd) hr) hQ hk hn
theorem Fini.mono {k n : Nat} {Q Q' : Option Value → Heap → Prop} (F : Fini p e below s Z EL S0 k n Q) (hq : ∀ v h, Q v h → Q' v h) : Fini p e below s Z EL S0 k n Q' := by
  obtain ⟨s₂, o, h1, h2, h3, v, L, h4, h5, r⟩ := F
  exact ⟨s₂, o, h1, h2, h3, v, L, h4, hq _ _ h5, r⟩
end OwnWk
end Jvm.Pilot.@@N@@
namespace Jvm.Pilot.@@N@@
open Jvm Jvm.ClassFile Sem Op Lib Jvm.Free Jvm.Stand Jvm.LawKit Jvm.RoadKit Bundle
section OwnStr
variable {p : Program} {l : Launch} {e : Env} {R : Room} {s : State} {m : MethodId} {args : Array Value} {below : List Frame} {meth : Method} {c : Code} {Z : State} {a0 : Array Value} {EL : List (String × Nat)} {S0 : State} {y : MethodName} {B : ByteArray} {ml : Nat} {ret : Option FieldType} {V : Vm} {h h' : Heap} {cl sl : Nat} {g : JFrame}
theorem Pays.mono {y' : MethodName} {len W kc ks : Nat} {as' : Array Value} {Q Q' : Option Value → Heap → Prop} (K : Pays p l e R s args below Z EL V h y' len W kc ks as' Q) (hq : ∀ v h, Q v h → Q' v h) : Pays p l e R s args below Z EL V h y' len W kc ks as' Q' := by
  intro m meth c A g ig mk a X hg hsize hdg hW hn hp
  obtain ⟨v, D, X', h1, h2, ⟨L, q1, q2⟩, st⟩ := K m meth c A g ig mk a X hg hsize hdg hW hn hp
  exact ⟨v, D, X', h1, h2, ⟨L, hq _ _ q1, q2⟩, st⟩
/-- x is a String that spells cs, each sign 0 to 255 -/
def Str (Z : State) (h : Heap) (x : Addr) (cs : List Int32) : Prop :=
  (∀ c ∈ cs, ¬ c < 0 ∧ ¬ (255 : Int32) < c) ∧ ∃ (t : Addr) (kb : ClassId), Exa Z h x "java/lang/String" ∧ Fld Z h x "java/lang/String" "value" "[B" (.ref t) ∧ Fld Z h x "java/lang/String" "coder" "B" (.int 0) ∧ Arv Z h t kb .byte (Int32.ofNat cs.length) (cs.map fun c => Value.int c.toInt8.toInt32) (.int 0)
theorem Str.ext {x : Addr} {cs : List Int32} (E : Ext h h') (S : Str Z h x cs) : Str Z h' x cs := by
  obtain ⟨h1, t, kb, h2, h3, h4, h5⟩ := S; exact ⟨h1, t, kb, h2.ext E, h3.ext E, h4.ext E, h5.ext E⟩
theorem Str.exa {x : Addr} {cs : List Int32} (S : Str Z h x cs) : Exa Z h x "java/lang/String" := by obtain ⟨h1, t, kb, h2, h3, h4, h5⟩ := S; exact h2
theorem Str.lt {x : Addr} {cs : List Int32} (S : Str Z h x cs) : x < h.size := S.exa.lt
theorem up8 {cs : List Int32} (hp : ∀ c ∈ cs, ¬ c < 0 ∧ ¬ (255 : Int32) < c) : ∀ c ∈ cs, ¬ c < 0 ∧ ¬ (65535 : Int32) < c := fun c hc => ⟨(hp c hc).1, fun q => (hp c hc).2 (Int32.lt_trans (by decide) q)⟩
theorem and255 (x : Int32) : ¬ (x &&& 255) < 0 ∧ ¬ (255 : Int32) < (x &&& 255) := by
  have h := c_and x 255 (by decide)
  have e1 : (255 : Int32).toInt = 255 := by decide
  have e0 : (0 : Int32).toInt = 0 := by decide
  rw [Int32.lt_iff_toInt_lt, Int32.lt_iff_toInt_lt]; omega
theorem nar255 (x : Int32) : nar .char (x &&& 255) = x &&& 255 := i2c_mask x
theorem chars1 {a : Int32} (h : ¬ a < 0 ∧ ¬ (255 : Int32) < a) {cs : List Int32} (r : ∀ c ∈ cs, ¬ c < 0 ∧ ¬ (255 : Int32) < c) : ∀ c ∈ a :: cs, ¬ c < 0 ∧ ¬ (255 : Int32) < c := fun c hc => by
  rcases List.mem_cons.mp hc with rfl | hc
  · exact h
  · exact r c hc
theorem chars0 : ∀ c ∈ ([] : List Int32), ¬ c < 0 ∧ ¬ (255 : Int32) < c := fun _ q => nomatch q
/-- ldc of a String constant of EL: it spells cs -/
theorem Wk.ldcT {pc pc' : Nat} {L : Array Slot} {st : List Value} {index : Nat} {text : String} (cs : List Int32) (n : Nat) (w : Wk p l e R s m args below meth c Z a0 EL S0 y B ml ret V h cl sl (mkF m pc L st)) (wl : (Jvm.Cond.stringLink y.cls index text).before a0 Z = true) (wS : ∀ a ∈ Bundle.stringAtoms, a.before a0 Z = true) (hm : (y.cls, index) ∈ EL)
    (ht1 : ∀ c ∈ text.toList, c.toNat < 256) (ht2 : (text.toList.map fun c => Jvm.Lit.byteI c.toNat.toUInt16) = cs.map fun c => c.toInt8.toInt32) (hcs : ∀ c ∈ cs, ¬ c < 0 ∧ ¬ (255 : Int32) < c) (hz : ¬ Int32.ofNat cs.length < 0) (hl : (Int32.ofNat cs.length).toNatClampNeg = cs.length) (hd : decode B pc = .ok (.ldc index, 2)) (hn : 4 * text.toList.length ≤ n) (hbig : n ≤ 536870912) (hc : cl + 2 ≤ R.cells) (hl' : sl + (n + 4) ≤ R.slots) (hp : pc + 2 = pc' := by rfl) :
    ∃ (a : Addr) (V' : Vm) (h' : Heap), Ext h h' ∧ Str Z h' a cs ∧ (∀ x, Safe Z EL V' h' x → x ≠ a) ∧ CHr Z EL V h V' h' ∧
      Wk p l e R s m args below meth c Z a0 EL S0 y B ml ret V' h' (cl + 2) (sl + (n + 4)) (mkF m pc' L (.ref a :: st)) := by
  obtain ⟨a, V', h', b, k, E, q1, q2, q3, q4, q5, Q, w'⟩ := w.ldcS (vs := cs.map fun c => Value.int c.toInt8.toInt32) (z := Int32.ofNat cs.length) n wl wS hm ⟨ht1, by
    have := congrArg (List.map Value.int) ht2
    simpa [List.map_map, Function.comp_def] using this⟩ hz (by rw [hl]; simp) hd hn hbig hc hl' hp
  exact ⟨a, V', h', E, ⟨hcs, b, k, q1, q3, q2, q4⟩, fun x S => (q5 x S).1, Q, w'⟩
/-- clone() of an array -/
theorem Wk.clone {pc pc' : Nat} {L : Array Slot} {st : List Value} {index W cap : Nat} {ad : String} {a : Addr} {k : ClassId} {ty : FieldType} {z : Int32} {vs : List Value} {dv : Value} (w : Wk p l e R s m args below meth c Z a0 EL S0 y B ml ret V h cl sl (mkF m pc L (.ref a :: st)))
    (w1 : (Jvm.Cond.methodLink y.cls index ⟨ad, "clone", "()Ljava/lang/Object;"⟩).before a0 Z = true) (w2 : (Jvm.Cond.sameMethod ad "java/lang/Object" "clone" "()Ljava/lang/Object;").before a0 Z = true) (w3 : (Jvm.Cond.native ⟨"java/lang/Object", "clone", "()Ljava/lang/Object;"⟩).before a0 Z = true)
    (w4 : (Jvm.Cond.instanceMethod ⟨"java/lang/Object", "clone", "()Ljava/lang/Object;"⟩).before a0 Z = true) (w5 : (Jvm.Cond.selects ad ⟨ad, "clone", "()Ljava/lang/Object;"⟩ ⟨"java/lang/Object", "clone", "()Ljava/lang/Object;"⟩).before a0 Z = true) (w6 : (Jvm.Cond.castable ad "java/lang/Cloneable").before a0 Z = true)
    (F : Arv Z h a k ty z vs dv) (E : Exa Z h a ad) (hL : L.size = ml) (hd : decode B pc = .ok (.invokevirtual index, 3)) (hf : 1 ≤ R.frames) (hW : (st.map fun v => v.category).sum ≤ W) (hlo : W + 14 ≤ R.locals) (hcap : z.toNatClampNeg ≤ cap) (hc : cl + 1 ≤ R.cells) (hs : sl + cap ≤ R.slots) (hp : pc + 3 = pc' := by rfl) :
    ∃ (h' : Heap) (b : Addr), b = h.size ∧ Ext h h' ∧ Arv Z h' b k ty z vs dv ∧ Exa Z h' b ad ∧ CHr Z EL V h V h' ∧ Wk p l e R s m args below meth c Z a0 EL S0 y B ml ret V h' (cl + 1) (sl + cap) (mkF m pc' L (.ref b :: st)) := by
  subst hp
  obtain ⟨hf0, ⟨hz, hC, hO⟩, T, locs, k0, X, e0, h1, h2, h3, st0⟩ := id w
  obtain ⟨T', h', X', e', E', F', X2, st'⟩ := cloneH X hf0.1 hz w.own w1 w2 w3 w4 w5 w6 e0 (hs := []) F E (g := mkF m pc L (.ref a :: st)) rfl (hL.trans hf0.2.2.1.symm) rfl (hb hf0.2.1 hd) hf (W := W) (by show 2 * 0 + _ ≤ _; omega) hlo hcap hc hs
  have Q : CHr Z EL V h V h' := CHr.ext E' w.ch
  exact ⟨h', h.size, rfl, E', F', X2, Q, hf0, ⟨hz, hC.trans Q, extT hO E'⟩, T', locs, k0, X', e', h1, Nat.le_trans h2 E'.1, h3, fun t q => st0 t (st' t q)⟩
theorem eqv_r {Z : State} {args : Array Value} {X F : Term} {a : Addr} (hF : F.eval args Z none [] Z = some (.ref a)) (h : (Jvm.Cond.eq X F).value args Z none Z [] = some true) : X.eval args Z none [] Z = some (.ref a) := by
  obtain ⟨x, y, ex, ey, k1, k2⟩ := cmp_v (Or.inl h)
  cases hF.symm.trans ey
  have hx : x.isRef = true := k2.2
  have q := gotT (eq_R ex ey hx rfl) h
  rw [ex, q]
/-- an array of the start, by the words of the case -/
theorem own_arr0 {s : State} {args : Array Value} (hfit : Fit s) {t : Term} {b : Addr} {ty : FieldType} {n : Int32} (vs : List Value) (dv : Value) (ev : t.eval args s none [] s = some (.ref b)) (ha : (Jvm.Cond.arrayOf t ty).value args s none s [] = some true) (hl : (Jvm.Cond.eq (.length t) (.int n)).value args s none s [] = some true) (hn : ¬ n < 0) (hlen : n.toNatClampNeg = vs.length)
    (H : ∀ i v, vs[i]? = some v → (Term.elem t (.int (Int32.ofNat i))).eval args s none [] s = some v) : ∃ k, Arv s s.heap b k ty n vs dv := by
  obtain ⟨cl, A⟩ := Arr.start ev ha
  have e1 := eqv_i (Term.int_eval n) hl
  obtain ⟨b', cl', f1, f2, f3⟩ := Term.length_spec e1
  cases ev.symm.trans f1
  have f4 := (State.arrayAt?_spec f2).1
  cases A.1.symm.trans f4
  have q : cl.slots.size < 2 ^ 31 := SBG.length_lt ev f2 e1
  have hz : cl.slots.size.toInt32 = n := (Value.int.inj f3).symm
  refine ⟨cl.cls, Arv.start hfit A q hz hn hlen ?_⟩
  have key : ∀ (us : List Value) (i : Nat), (∀ j v, us[j]? = some v → vs[i + j]? = some v) → i + us.length ≤ vs.length → HasL cl i us := by
    intro us
    induction us with
    | nil => intro i _ _; trivial
    | cons u us ih =>
      intro i hi hle
      have hle' : i + (us.length + 1) ≤ vs.length := hle
      refine ⟨?_, ih (i + 1) (fun j v hv => by have := hi (j + 1) v (by simpa using hv); rwa [show i + (j + 1) = i + 1 + j by omega] at this) (by omega)⟩
      have hu := hi 0 u rfl
      have hE := H i u (by simpa using hu)
      have hi31 : i < 2 ^ 31 := by have := back32 hn; omega
      obtain ⟨-, g2⟩ := elem_in hE ev (Term.int_eval _) A.1
      have e3 : (Int32.ofNat i).toNatClampNeg = i := by
        have h0 : ¬ Int32.ofNat i < 0 := Int32.ofNat_not_neg hi31
        have h1 := nat_of h0
        have h2 : (Int32.ofNat i).toInt = i := Int32.toInt_ofNat_small hi31
        omega
      rw [e3] at g2; exact g2
  exact key vs 0 (fun j v hv => by simpa using hv) (by simp)
/-- a String of the start, by the words of the case -/
theorem own_str0 {s : State} {args : Array Value} (hfit : Fit s) {t : Term} {a : Addr} {n : Int32} (cs : List Int32) (ev : t.eval args s none [] s = some (.ref a)) (hx : (Jvm.Cond.exactly t "java/lang/String").value args s none s [] = some true) (hc : (Jvm.Cond.eq (.field t "java/lang/String" "coder" "B") (.int 0)).value args s none s [] = some true)
    (ha : (Jvm.Cond.arrayOf (.field t "java/lang/String" "value" "[B") .byte).value args s none s [] = some true) (hl : (Jvm.Cond.eq (.length (.field t "java/lang/String" "value" "[B")) (.int n)).value args s none s [] = some true) (hn : n = Int32.ofNat cs.length) (h0 : ¬ Int32.ofNat cs.length < 0) (h1 : (Int32.ofNat cs.length).toNatClampNeg = cs.length) (hcs : ∀ c ∈ cs, ¬ c < 0 ∧ ¬ (255 : Int32) < c)
    (H : ∀ i c, cs[i]? = some c → (Jvm.Cond.eq (.elem (.field t "java/lang/String" "value" "[B") (.int (Int32.ofNat i))) (.int c.toInt8.toInt32)).value args s none s [] = some true) : Str s s.heap a cs := by
  subst hn
  obtain ⟨b, eb⟩ := arr_v ha
  obtain ⟨k, A⟩ := own_arr0 hfit (cs.map fun c => Value.int c.toInt8.toInt32) (.int 0) eb ha hl h0 (by rw [h1]; simp) (fun i v hv => by
    rw [List.getElem?_map] at hv
    cases hq : cs[i]? with
    | none => rw [hq] at hv; cases hv
    | some c => rw [hq] at hv; cases hv; exact eqv_i (Term.int_eval _) (H i c hq))
  have ec := eqv_i (Term.int_eval 0) hc
  exact ⟨hcs, b, k, Exa.start ev hx, Fld.start (by rw [fld_at ev] at eb; exact eb), Fld.start (by rw [fld_at ev] at ec; exact ec), A⟩
/-- new String(char[]) of one to 4,000 signs -/
theorem Wk.payNew {len W kI : Nat} {x b : Addr} {kC : ClassId} {cs : List Int32} {N z : Int32} {dv v0 c0 : Value} (w : Wk p l e R s m args below meth c Z a0 EL S0 y B ml ret V h cl sl g) (hw : ∀ d ∈ StrChars.Road.words, d.before a0 Z = true) (wi : (Jvm.Cond.instantiable "java/lang/String" kI).before a0 Z = true)
    (E : Exa Z h x "java/lang/String") (Fv : Fld Z h x "java/lang/String" "value" "[B" v0) (Fc : Fld Z h x "java/lang/String" "coder" "B" c0) (K : Arv Z h b kC .char N (cs.map Value.int) dv) (S : Sta Z Z.heap "java/lang/String" "COMPACT_STRINGS" "Z" (.int z)) (hz : ¬ z = 0)
    (hN : N = Int32.ofNat cs.length) (l0 : 0 < cs.length) (l2 : cs.length ≤ 4000) (hp : ∀ c ∈ cs, ¬ c < 0 ∧ ¬ (255 : Int32) < c) (Sf : Safe Z EL V h x) (ge : Z.heap.size ≤ x) (hfr : 4 ≤ R.frames) (hlo : W + 65 ≤ R.locals) :
    Pays p l e R s args below Z EL V h (⟨"java/lang/String", "<init>", "([C)V"⟩ : MethodName) len W 1 cs.length #[.ref x, .ref b] (fun v h' => v = none ∧ Keep h h' [x] ∧ Str Z h' x cs) := by
  have K0 := StrChars.Road.backV (R := R) (p := p) (l := l) (e := e) (below := below) (args := args) (len := len) (W := W) (s := s.setVm V) w.hZ hw wi (n0 := Z.heap.size) ge w.zsz E Fv Fc K (S.ext w.old) hz rfl hN l0 l2 hp rfl hfr hlo
  refine Pays.mono (w.paysB [x] K0 (fun v h' L q => ⟨q.2.2.1, q.2.1⟩) (allS ⟨Sf, ge⟩ all0)) ?_
  rintro v h' ⟨L, q1, q2, q3, q4, q5, t, kb, q6, q7, q8, q9, q10⟩
  refine ⟨q1, q3, hp, t, kb, q4, q9, q5, ?_⟩
  rw [List.map_map] at q10
  rw [← hN]; exact q10
theorem Wk.payLen {len W kI : Nat} {x : Addr} {cs : List Int32} {z : Int32} (w : Wk p l e R s m args below meth c Z a0 EL S0 y B ml ret V h cl sl g) (hw : ∀ d ∈ StrChars.Road.wordsLen, d.before a0 Z = true) (wi : (Jvm.Cond.instantiable "java/lang/String" kI).before a0 Z = true)
    (X : Str Z h x cs) (S : Sta Z Z.heap "java/lang/String" "COMPACT_STRINGS" "Z" (.int z)) (hz : ¬ z = 0) (l2 : cs.length ≤ 4000) (hfr : 2 ≤ R.frames) (hlo : W + 25 ≤ R.locals) :
    Pays p l e R s args below Z EL V h (⟨"java/lang/String", "length", "()I"⟩ : MethodName) len W 0 0 #[.ref x] (fun v h' => v = some (.int (Int32.ofNat cs.length)) ∧ h' = h) := by
  obtain ⟨hp, t, kb, E, Fv, Fc, K⟩ := X
  have hc : StrChars.Road.CodA cs 0 (Int32.ofNat cs.length) (cs.map fun c => Value.int c.toInt8.toInt32) := Or.inl ⟨rfl, rfl, rfl, fun c hc => (hp c hc).2⟩
  have K0 := StrChars.Road.lenW (R := R) (p := p) (l := l) (e := e) (below := below) (args := args) (len := len) (W := W) (s := s.setVm V) w.hZ hw wi E Fv Fc K hc (up8 hp) (S.ext w.old) hz l2 hfr hlo
  refine Pays.mono (w.paysB (Qb := fun v h' L => v = some (.int (Int32.ofNat cs.length)) ∧ L = [] ∧ h' = h) [] K0 (fun v h' L q => ⟨q.2.2 ▸ Keep.refl _ _, q.2.1 ▸ Fr.nil _⟩) all0) ?_
  rintro v h' ⟨L, q1, q2, q3⟩
  exact ⟨q1, q3⟩
theorem Wk.payCh {len W kI : Nat} {x : Addr} {cs : List Int32} {z j : Int32} {fm : Value} {i : Nat} (w : Wk p l e R s m args below meth c Z a0 EL S0 y B ml ret V h cl sl g) (hw : ∀ d ∈ StrChars.Road.wordsChN, d.before a0 Z = true) (wi : (Jvm.Cond.instantiable "java/lang/String" kI).before a0 Z = true)
    (X : Str Z h x cs) (S : Sta Z Z.heap "java/lang/String" "COMPACT_STRINGS" "Z" (.int z)) (hz : ¬ z = 0) (F : Sta Z Z.heap "jdk/internal/util/Preconditions" "SIOOBE_FORMATTER" "Ljava/util/function/BiFunction;" fm) (rf : fm.isRef = true) (l2 : cs.length ≤ 4000) (hi : i < cs.length) (hj : j = Int32.ofNat i) (hfr : 4 ≤ R.frames) (hlo : W + 53 ≤ R.locals) :
    Pays p l e R s args below Z EL V h (⟨"java/lang/String", "charAt", "(I)C"⟩ : MethodName) len W 0 0 #[.ref x, .int j] (fun v h' => v = some (.int (cs.getD i 0)) ∧ h' = h) := by
  obtain ⟨hp, t, kb, E, Fv, Fc, K⟩ := X
  have hc : StrChars.Road.CodA cs 0 (Int32.ofNat cs.length) (cs.map fun c => Value.int c.toInt8.toInt32) := Or.inl ⟨rfl, rfl, rfl, fun c hc => (hp c hc).2⟩
  have K0 := StrChars.Road.chN (R := R) (p := p) (l := l) (e := e) (below := below) (args := args) (len := len) (W := W) (s := s.setVm V) w.hZ hw wi E Fv Fc K hc (up8 hp) (S.ext w.old) hz (F.ext w.old) rf l2 hi hj hfr hlo
  refine Pays.mono (w.paysB (Qb := fun v h' L => v = some (.int (cs.getD i 0)) ∧ L = [] ∧ h' = h) [] K0 (fun v h' L q => ⟨q.2.2 ▸ Keep.refl _ _, q.2.1 ▸ Fr.nil _⟩) all0) ?_
  rintro v h' ⟨L, q1, q2, q3⟩
  exact ⟨q1, q3⟩
end OwnStr
end Jvm.Pilot.@@N@@
namespace Jvm.Pilot.@@N@@
open Jvm Jvm.ClassFile Sem Op Lib Jvm.Free Jvm.Stand Jvm.LawKit Jvm.RoadKit Bundle Jvm.Pilot.@@N@@.Jvm.D
theorem pd_0 : parseMethodDescriptor "(I)V" = some ⟨[.int], none⟩ := by decide +kernel
theorem pd_1 : parseMethodDescriptor "()B" = some ⟨[], some .byte⟩ := by decide +kernel
theorem pd_2 : parseMethodDescriptor "(Ljava/lang/String;)V" = some ⟨[(.object "java/lang/String")], none⟩ := by decide +kernel
theorem pd_3 : parseMethodDescriptor "([BIB)V" = some ⟨[(.array .byte), .int, .byte], none⟩ := by decide +kernel
theorem pd_4 : parseMethodDescriptor "()I" = some ⟨[], some .int⟩ := by decide +kernel
theorem pd_5 : parseMethodDescriptor "(ILjava/lang/String;)V" = some ⟨[.int, (.object "java/lang/String")], none⟩ := by decide +kernel
theorem pd_6 : parseMethodDescriptor "(Ljava/lang/String;)Ljava/lang/AbstractStringBuilder;" = some ⟨[(.object "java/lang/String")], some (.object "java/lang/AbstractStringBuilder")⟩ := by decide +kernel
theorem pd_7 : parseMethodDescriptor "(II)V" = some ⟨[.int, .int], none⟩ := by decide +kernel
theorem pd_8 : parseMethodDescriptor "(II)I" = some ⟨[.int, .int], some .int⟩ := by decide +kernel
theorem pd_9 : parseMethodDescriptor "([BII)[B" = some ⟨[(.array .byte), .int, .int], some (.array .byte)⟩ := by decide +kernel
theorem pd_10 : parseMethodDescriptor "()[B" = some ⟨[], some (.array .byte)⟩ := by decide +kernel
theorem pd_11 : parseMethodDescriptor "()Z" = some ⟨[], some .boolean⟩ := by decide +kernel
theorem pd_12 : parseMethodDescriptor "(Ljava/lang/AbstractStringBuilder;Ljava/lang/Void;)V" = some ⟨[(.object "java/lang/AbstractStringBuilder"), (.object "java/lang/Void")], none⟩ := by decide +kernel
theorem pd_13 : parseMethodDescriptor "(Ljava/lang/StringBuilder;)V" = some ⟨[(.object "java/lang/StringBuilder")], none⟩ := by decide +kernel
theorem pd_14 : parseMethodDescriptor "(I)I" = some ⟨[.int], some .int⟩ := by decide +kernel
theorem pd_15 : parseMethodDescriptor "(II[B)I" = some ⟨[.int, .int, (.array .byte)], some .int⟩ := by decide +kernel
theorem pd_16 : parseMethodDescriptor "(I)Ljava/lang/AbstractStringBuilder;" = some ⟨[.int], some (.object "java/lang/AbstractStringBuilder")⟩ := by decide +kernel
theorem pd_17 : parseMethodDescriptor "()V" = some ⟨[], none⟩ := by decide +kernel
theorem pd_18 : parseMethodDescriptor "(Ljava/lang/String;)Ljava/lang/StringBuilder;" = some ⟨[(.object "java/lang/String")], some (.object "java/lang/StringBuilder")⟩ := by decide +kernel
theorem pd_19 : parseMethodDescriptor "(I)Ljava/lang/StringBuilder;" = some ⟨[.int], some (.object "java/lang/StringBuilder")⟩ := by decide +kernel
theorem pd_20 : parseMethodDescriptor "()Ljava/lang/String;" = some ⟨[], some (.object "java/lang/String")⟩ := by decide +kernel
theorem pd_21 : parseMethodDescriptor "(C)Z" = some ⟨[.char], some .boolean⟩ := by decide +kernel
theorem pd_22 : parseMethodDescriptor "(C)[B" = some ⟨[.char], some (.array .byte)⟩ := by decide +kernel
theorem pd_23 : parseMethodDescriptor "([BB)V" = some ⟨[(.array .byte), .byte], none⟩ := by decide +kernel
theorem pd_24 : parseMethodDescriptor "(I)C" = some ⟨[.int], some .char⟩ := by decide +kernel
theorem pd_25 : parseMethodDescriptor "([CIIII)V" = some ⟨[(.array .char), .int, .int, .int, .int], none⟩ := by decide +kernel
theorem pd_26 : parseMethodDescriptor "(Ljava/lang/String;I)V" = some ⟨[(.object "java/lang/String"), .int], none⟩ := by decide +kernel
theorem pd_27 : parseMethodDescriptor "(Ljava/lang/String;[CI)Z" = some ⟨[(.object "java/lang/String"), (.array .char), .int], some .boolean⟩ := by decide +kernel
theorem pd_28 : parseMethodDescriptor "(C)Ljava/lang/String;" = some ⟨[.char], some (.object "java/lang/String")⟩ := by decide +kernel
theorem pd_29 : parseMethodDescriptor "([C)V" = some ⟨[(.array .char)], none⟩ := by decide +kernel
theorem own_hstr {Z : State} {a0 : Array Value} (hw : ∀ d ∈ tables_1, d.before a0 Z = true) : ∀ a ∈ Bundle.stringAtoms, a.before a0 Z = true := fun d hd => hw d ((by decide +kernel : ∀ d ∈ Bundle.stringAtoms, d ∈ tables_1) d hd)
theorem own_words {Z : State} {a0 : Array Value} (hw : ∀ d ∈ tables_1, d.before a0 Z = true) : ∀ d ∈ StrChars.Road.words, d.before a0 Z = true := fun d hd => hw d ((by decide +kernel : ∀ d ∈ StrChars.Road.words, d ∈ tables_1) d hd)
theorem own_n32 {n : Nat} (h : n ≤ 5000) : ¬ Int32.ofNat n < 0 ∧ (Int32.ofNat n).toNatClampNeg = n ∧ (Int32.ofNat n).toInt = n := by
  have h31 : n < 2 ^ 31 := by omega
  have h0 : ¬ Int32.ofNat n < 0 := Int32.ofNat_not_neg h31
  have h2 : (Int32.ofNat n).toInt = n := Int32.toInt_ofNat_small h31
  have h1 := nat_of h0
  exact ⟨h0, by omega, h2⟩
theorem own_add32 {a b : Nat} (h : a + b ≤ 5000) : Int32.ofNat a + Int32.ofNat b = Int32.ofNat (a + b) := by
  have e1 := (own_n32 (n := a) (by omega)).2.2
  have e2 := (own_n32 (n := b) (by omega)).2.2
  have e3 := (own_n32 h).2.2
  refine Int32.toInt_inj.mp ?_
  have := c_iadd (Int32.ofNat a) (Int32.ofNat b)
  have := rng32 (Int32.ofNat a + Int32.ofNat b)
  omega
theorem own_sub32 {a b : Nat} (h : a ≤ 5000) (hb : b ≤ a) : Int32.ofNat a - Int32.ofNat b = Int32.ofNat (a - b) := by
  have e1 := (own_n32 (n := a) (by omega)).2.2
  have e2 := (own_n32 (n := b) (by omega)).2.2
  have e3 := (own_n32 (n := a - b) (by omega)).2.2
  refine Int32.toInt_inj.mp ?_
  have := c_isub (Int32.ofNat a) (Int32.ofNat b)
  have := rng32 (Int32.ofNat a - Int32.ofNat b)
  omega
theorem own_lt32 {a b : Nat} (ha : a ≤ 5000) (hb : b ≤ 5000) : Int32.ofNat a < Int32.ofNat b ↔ a < b := by
  have e1 := (own_n32 (n := a) ha).2.2
  have e2 := (own_n32 (n := b) hb).2.2
  rw [Int32.lt_iff_toInt_lt]; omega
theorem own_eq32 {a b : Nat} (ha : a ≤ 5000) (hb : b ≤ 5000) : Int32.ofNat a = Int32.ofNat b ↔ a = b := by
  have e1 := (own_n32 (n := a) ha).2.2
  have e2 := (own_n32 (n := b) hb).2.2
  rw [← Int32.toInt_inj]; omega
/-- an array of bytes whose length no booked constant has may be written -/
theorem own_safe {Z : State} {a0 : Array Value} {EL : List (String × Nat)} {V : Vm} {h : Heap} {t : Addr} {kb : ClassId} {n : Int32} {vs : List Value} {dv : Value} (hZ : Z.Warmed39 V) (F : Arv Z h t kb .byte n vs dv)
    (hw : ∀ p ∈ EL, ∃ text : String, (Jvm.Cond.stringLink p.1 p.2 text).before a0 Z = true ∧ (∀ c ∈ text.toList, c.toNat < 256) ∧ text.toList.length ≠ n.toNatClampNeg) : Safe Z EL V h t := fun B => by
  obtain ⟨cA, ⟨A1, ⟨-, kA, hkA, compA, hkindA⟩, -⟩, -, A3, -⟩ := F
  obtain ⟨p, hp, u, a, hb, q, hq, Fq, hy⟩ := B
  obtain ⟨kA', hkA', ekA⟩ := hZ.alike.2.2 _ _ hkA
  rcases hy with rfl | rfl
  · cases (show h[q.sa]? = some q.sC from Fq.ha).symm.trans A1
    obtain ⟨cS, ⟨-, -, e⟩, ⟨kS, g1, g2, -⟩, -⟩ := Fq
    subst e
    cases (show V.classes[q.sC.cls]? = some kS from g1).symm.trans hkA'
    rw [ekA] at g2
    exact nomatch hkindA.symm.trans g2
  · cases (show h[q.sd]? = some q.SA from Fq.hd).symm.trans A1
    obtain ⟨text, wl, ht, hne⟩ := hw p hp
    obtain ⟨c, k, cf, i, hc, hk, hcf, hpool, hu, -⟩ := hb
    have wl' : (Jvm.Cond.stringLink p.1 p.2 text).before a0 (Wst Z V h) = true := mvS (s := { Z with heap := h }) hZ wl
    obtain ⟨k0, cf0, i0, u0, hk0, hcf0, hp0, hu0, -, htext, -⟩ := Cond.stringLink_spec (s := Wst Z V h) hc wl'
    cases (show V.classes[c]? = some k from hk).symm.trans hk0
    cases hcf.symm.trans hcf0
    cases hpool.symm.trans hp0
    cases hu.symm.trans hu0
    have hlat := Jvm.ClassFile.lat_of_text htext ht
    obtain ⟨-, -, -, -, hbyt⟩ := Fq
    have e1 : q.SA.slots.size = u.size := by rw [hbyt, SBG.stringBytes_lat hlat, Array.size_map]
    have e2 := congrArg List.length (Jvm.ClassFile.units_of_text htext ht)
    simp at e2
    exact hne (by rw [← A3, e1, e2])
theorem own_shl0 (x : Int32) : x <<< ((0 : Int32) &&& 31) = x := by
  rw [show ((0 : Int32) &&& 31) = 0 from by decide]
  exact Int32.shiftLeft_zero
theorem own_shr0 (x : Int32) : x >>> ((0 : Int32) &&& 31) = x := by
  rw [show ((0 : Int32) &&& 31) = 0 from by decide]
  exact Int32.shiftRight_zero
theorem own_sub0 (x : Int32) : x - 0 = x := Int32.sub_zero x
theorem own_min16 {n : Nat} (h : n ≤ 16) : ¬ (16 : Int32) < Int32.ofNat n := fun q => by
  have := (own_lt32 (a := 16) (b := n) (by omega) (by omega)).mp q
  omega
theorem own_texts {Z : State} {a0 : Array Value} (hw : ∀ d ∈ tables_1, d.before a0 Z = true) : ∀ p ∈ consts_1, ∃ text : String, (Jvm.Cond.stringLink p.1 p.2 text).before a0 Z = true ∧ (∀ c ∈ text.toList, c.toNat < 256) ∧ text.toList.length ≠ (16 : Int32).toNatClampNeg := fun p hp => by
  simp only [consts_1, List.mem_cons, List.not_mem_nil, or_false] at hp
  rcases hp with rfl | rfl
  · exact ⟨":", (hw _ (List.mem_of_getElem? (i := 108) rfl)), by decide, by decide⟩
  · exact ⟨"", (hw _ (List.mem_of_getElem? (i := 0) rfl)), by decide, by decide⟩
theorem d8_0 : decode jdk_68_method_2_code 0 = .ok (.aload_n 0, 1) := by decide +kernel
theorem d8_1 : decode jdk_68_method_2_code 1 = .ok (.invokespecial 3, 3) := by decide +kernel
theorem d8_4 : decode jdk_68_method_2_code 4 = .ok (.getstatic 18, 3) := by decide +kernel
theorem d8_7 : decode jdk_68_method_2_code 7 = .ok (.ifCond .eq 18, 3) := by decide +kernel
theorem d8_10 : decode jdk_68_method_2_code 10 = .ok (.aload_n 0, 1) := by decide +kernel
theorem d8_11 : decode jdk_68_method_2_code 11 = .ok (.iload_n 1, 1) := by decide +kernel
theorem d8_12 : decode jdk_68_method_2_code 12 = .ok (.newarray .byte, 2) := by decide +kernel
theorem d8_14 : decode jdk_68_method_2_code 14 = .ok (.putfield 15, 3) := by decide +kernel
theorem d8_17 : decode jdk_68_method_2_code 17 = .ok (.aload_n 0, 1) := by decide +kernel
theorem d8_18 : decode jdk_68_method_2_code 18 = .ok (.iconst 0, 1) := by decide +kernel
theorem d8_19 : decode jdk_68_method_2_code 19 = .ok (.putfield 22, 3) := by decide +kernel
theorem d8_22 : decode jdk_68_method_2_code 22 = .ok (.goto 16, 3) := by decide +kernel
theorem d8_25 : decode jdk_68_method_2_code 25 = .ok (.aload_n 0, 1) := by decide +kernel
theorem d8_26 : decode jdk_68_method_2_code 26 = .ok (.iload_n 1, 1) := by decide +kernel
theorem d8_27 : decode jdk_68_method_2_code 27 = .ok (.invokestatic 26, 3) := by decide +kernel
theorem d8_30 : decode jdk_68_method_2_code 30 = .ok (.putfield 15, 3) := by decide +kernel
theorem d8_33 : decode jdk_68_method_2_code 33 = .ok (.aload_n 0, 1) := by decide +kernel
theorem d8_34 : decode jdk_68_method_2_code 34 = .ok (.iconst 1, 1) := by decide +kernel
theorem d8_35 : decode jdk_68_method_2_code 35 = .ok (.putfield 22, 3) := by decide +kernel
theorem d8_38 : decode jdk_68_method_2_code 38 = .ok (.return_, 1) := by decide +kernel
theorem d7_0 : decode jdk_67_method_1_code 0 = .ok (.aload_n 0, 1) := by decide +kernel
theorem d7_1 : decode jdk_67_method_1_code 1 = .ok (.bipush 16, 2) := by decide +kernel
theorem d7_3 : decode jdk_67_method_1_code 3 = .ok (.invokespecial 1, 3) := by decide +kernel
theorem d7_6 : decode jdk_67_method_1_code 6 = .ok (.return_, 1) := by decide +kernel
theorem d9_0 : decode jdk_67_method_7_code 0 = .ok (.aload_n 0, 1) := by decide +kernel
theorem d9_1 : decode jdk_67_method_7_code 1 = .ok (.aload_n 1, 1) := by decide +kernel
theorem d9_2 : decode jdk_67_method_7_code 2 = .ok (.invokespecial 29, 3) := by decide +kernel
theorem d9_5 : decode jdk_67_method_7_code 5 = .ok (.pop, 1) := by decide +kernel
theorem d9_6 : decode jdk_67_method_7_code 6 = .ok (.aload_n 0, 1) := by decide +kernel
theorem d9_7 : decode jdk_67_method_7_code 7 = .ok (.areturn, 1) := by decide +kernel
theorem d10_0 : decode jdk_68_method_22_code 0 = .ok (.aload_n 1, 1) := by decide +kernel
theorem d10_1 : decode jdk_68_method_22_code 1 = .ok (.ifnonnull 8, 3) := by decide +kernel
theorem d10_4 : decode jdk_68_method_22_code 4 = .ok (.aload_n 0, 1) := by decide +kernel
theorem d10_5 : decode jdk_68_method_22_code 5 = .ok (.invokevirtual 204, 3) := by decide +kernel
theorem d10_8 : decode jdk_68_method_22_code 8 = .ok (.areturn, 1) := by decide +kernel
theorem d10_9 : decode jdk_68_method_22_code 9 = .ok (.aload_n 1, 1) := by decide +kernel
theorem d10_10 : decode jdk_68_method_22_code 10 = .ok (.invokevirtual 32, 3) := by decide +kernel
theorem d10_13 : decode jdk_68_method_22_code 13 = .ok (.istore_n 2, 1) := by decide +kernel
theorem d10_14 : decode jdk_68_method_22_code 14 = .ok (.aload_n 0, 1) := by decide +kernel
theorem d10_15 : decode jdk_68_method_22_code 15 = .ok (.aload_n 0, 1) := by decide +kernel
theorem d10_16 : decode jdk_68_method_22_code 16 = .ok (.getfield 79, 3) := by decide +kernel
theorem d10_19 : decode jdk_68_method_22_code 19 = .ok (.iload_n 2, 1) := by decide +kernel
theorem d10_20 : decode jdk_68_method_22_code 20 = .ok (.iadd, 1) := by decide +kernel
theorem d10_21 : decode jdk_68_method_22_code 21 = .ok (.invokevirtual 100, 3) := by decide +kernel
theorem d10_24 : decode jdk_68_method_22_code 24 = .ok (.aload_n 0, 1) := by decide +kernel
theorem d10_25 : decode jdk_68_method_22_code 25 = .ok (.aload_n 0, 1) := by decide +kernel
theorem d10_26 : decode jdk_68_method_22_code 26 = .ok (.getfield 79, 3) := by decide +kernel
theorem d10_29 : decode jdk_68_method_22_code 29 = .ok (.aload_n 1, 1) := by decide +kernel
theorem d10_30 : decode jdk_68_method_22_code 30 = .ok (.invokevirtual 208, 3) := by decide +kernel
theorem d10_33 : decode jdk_68_method_22_code 33 = .ok (.aload_n 0, 1) := by decide +kernel
theorem d10_34 : decode jdk_68_method_22_code 34 = .ok (.dup, 1) := by decide +kernel
theorem d10_35 : decode jdk_68_method_22_code 35 = .ok (.getfield 79, 3) := by decide +kernel
theorem d10_38 : decode jdk_68_method_22_code 38 = .ok (.iload_n 2, 1) := by decide +kernel
theorem d10_39 : decode jdk_68_method_22_code 39 = .ok (.iadd, 1) := by decide +kernel
theorem d10_40 : decode jdk_68_method_22_code 40 = .ok (.putfield 79, 3) := by decide +kernel
theorem d10_43 : decode jdk_68_method_22_code 43 = .ok (.aload_n 0, 1) := by decide +kernel
theorem d10_44 : decode jdk_68_method_22_code 44 = .ok (.areturn, 1) := by decide +kernel
theorem d12_0 : decode jdk_42_method_152_code 0 = .ok (.getstatic 38, 3) := by decide +kernel
theorem d12_3 : decode jdk_42_method_152_code 3 = .ok (.ifCond .eq 10, 3) := by decide +kernel
theorem d12_6 : decode jdk_42_method_152_code 6 = .ok (.aload_n 0, 1) := by decide +kernel
theorem d12_7 : decode jdk_42_method_152_code 7 = .ok (.getfield 15, 3) := by decide +kernel
theorem d12_10 : decode jdk_42_method_152_code 10 = .ok (.goto 4, 3) := by decide +kernel
theorem d12_13 : decode jdk_42_method_152_code 13 = .ok (.iconst 1, 1) := by decide +kernel
theorem d12_14 : decode jdk_42_method_152_code 14 = .ok (.ireturn, 1) := by decide +kernel
theorem d13_0 : decode jdk_68_method_9_code 0 = .ok (.aload_n 0, 1) := by decide +kernel
theorem d13_1 : decode jdk_68_method_9_code 1 = .ok (.getfield 15, 3) := by decide +kernel
theorem d13_4 : decode jdk_68_method_9_code 4 = .ok (.arraylength, 1) := by decide +kernel
theorem d13_5 : decode jdk_68_method_9_code 5 = .ok (.aload_n 0, 1) := by decide +kernel
theorem d13_6 : decode jdk_68_method_9_code 6 = .ok (.getfield 22, 3) := by decide +kernel
theorem d13_9 : decode jdk_68_method_9_code 9 = .ok (.ishr, 1) := by decide +kernel
theorem d13_10 : decode jdk_68_method_9_code 10 = .ok (.istore_n 2, 1) := by decide +kernel
theorem d13_11 : decode jdk_68_method_9_code 11 = .ok (.iload_n 1, 1) := by decide +kernel
theorem d13_12 : decode jdk_68_method_9_code 12 = .ok (.iload_n 2, 1) := by decide +kernel
theorem d13_13 : decode jdk_68_method_9_code 13 = .ok (.isub, 1) := by decide +kernel
theorem d13_14 : decode jdk_68_method_9_code 14 = .ok (.ifCond .le 24, 3) := by decide +kernel
theorem d13_17 : decode jdk_68_method_9_code 17 = .ok (.aload_n 0, 1) := by decide +kernel
theorem d13_18 : decode jdk_68_method_9_code 18 = .ok (.aload_n 0, 1) := by decide +kernel
theorem d13_19 : decode jdk_68_method_9_code 19 = .ok (.getfield 15, 3) := by decide +kernel
theorem d13_22 : decode jdk_68_method_9_code 22 = .ok (.aload_n 0, 1) := by decide +kernel
theorem d13_23 : decode jdk_68_method_9_code 23 = .ok (.iload_n 1, 1) := by decide +kernel
theorem d13_24 : decode jdk_68_method_9_code 24 = .ok (.invokevirtual 104, 3) := by decide +kernel
theorem d13_27 : decode jdk_68_method_9_code 27 = .ok (.aload_n 0, 1) := by decide +kernel
theorem d13_28 : decode jdk_68_method_9_code 28 = .ok (.getfield 22, 3) := by decide +kernel
theorem d13_31 : decode jdk_68_method_9_code 31 = .ok (.ishl, 1) := by decide +kernel
theorem d13_32 : decode jdk_68_method_9_code 32 = .ok (.invokestatic 108, 3) := by decide +kernel
theorem d13_35 : decode jdk_68_method_9_code 35 = .ok (.putfield 15, 3) := by decide +kernel
theorem d13_38 : decode jdk_68_method_9_code 38 = .ok (.return_, 1) := by decide +kernel
theorem d14_0 : decode jdk_68_method_73_code 0 = .ok (.aload_n 0, 1) := by decide +kernel
theorem d14_1 : decode jdk_68_method_73_code 1 = .ok (.aload_n 2, 1) := by decide +kernel
theorem d14_2 : decode jdk_68_method_73_code 2 = .ok (.invokevirtual 397, 3) := by decide +kernel
theorem d14_5 : decode jdk_68_method_73_code 5 = .ok (.aload_n 2, 1) := by decide +kernel
theorem d14_6 : decode jdk_68_method_73_code 6 = .ok (.aload_n 0, 1) := by decide +kernel
theorem d14_7 : decode jdk_68_method_73_code 7 = .ok (.getfield 15, 3) := by decide +kernel
theorem d14_10 : decode jdk_68_method_73_code 10 = .ok (.iload_n 1, 1) := by decide +kernel
theorem d14_11 : decode jdk_68_method_73_code 11 = .ok (.aload_n 0, 1) := by decide +kernel
theorem d14_12 : decode jdk_68_method_73_code 12 = .ok (.getfield 22, 3) := by decide +kernel
theorem d14_15 : decode jdk_68_method_73_code 15 = .ok (.invokevirtual 399, 3) := by decide +kernel
theorem d14_18 : decode jdk_68_method_73_code 18 = .ok (.return_, 1) := by decide +kernel
theorem d15_0 : decode jdk_68_method_71_code 0 = .ok (.getstatic 18, 3) := by decide +kernel
theorem d15_3 : decode jdk_68_method_71_code 3 = .ok (.ifCond .eq 18, 3) := by decide +kernel
theorem d15_6 : decode jdk_68_method_71_code 6 = .ok (.aload_n 0, 1) := by decide +kernel
theorem d15_7 : decode jdk_68_method_71_code 7 = .ok (.getfield 22, 3) := by decide +kernel
theorem d15_10 : decode jdk_68_method_71_code 10 = .ok (.aload_n 1, 1) := by decide +kernel
theorem d15_11 : decode jdk_68_method_71_code 11 = .ok (.invokevirtual 40, 3) := by decide +kernel
theorem d15_14 : decode jdk_68_method_71_code 14 = .ok (.if_icmp .eq 7, 3) := by decide +kernel
theorem d15_17 : decode jdk_68_method_71_code 17 = .ok (.aload_n 0, 1) := by decide +kernel
theorem d15_18 : decode jdk_68_method_71_code 18 = .ok (.invokevirtual 195, 3) := by decide +kernel
theorem d15_21 : decode jdk_68_method_71_code 21 = .ok (.return_, 1) := by decide +kernel
theorem d16_0 : decode jdk_42_method_147_code 0 = .ok (.aload_n 0, 1) := by decide +kernel
theorem d16_1 : decode jdk_42_method_147_code 1 = .ok (.invokevirtual 335, 3) := by decide +kernel
theorem d16_4 : decode jdk_42_method_147_code 4 = .ok (.iload_n 3, 1) := by decide +kernel
theorem d16_5 : decode jdk_42_method_147_code 5 = .ok (.if_icmp .ne 23, 3) := by decide +kernel
theorem d16_8 : decode jdk_42_method_147_code 8 = .ok (.aload_n 0, 1) := by decide +kernel
theorem d16_9 : decode jdk_42_method_147_code 9 = .ok (.getfield 9, 3) := by decide +kernel
theorem d16_12 : decode jdk_42_method_147_code 12 = .ok (.iconst 0, 1) := by decide +kernel
theorem d16_13 : decode jdk_42_method_147_code 13 = .ok (.aload_n 1, 1) := by decide +kernel
theorem d16_14 : decode jdk_42_method_147_code 14 = .ok (.iload_n 2, 1) := by decide +kernel
theorem d16_15 : decode jdk_42_method_147_code 15 = .ok (.iload_n 3, 1) := by decide +kernel
theorem d16_16 : decode jdk_42_method_147_code 16 = .ok (.ishl, 1) := by decide +kernel
theorem d16_17 : decode jdk_42_method_147_code 17 = .ok (.aload_n 0, 1) := by decide +kernel
theorem d16_18 : decode jdk_42_method_147_code 18 = .ok (.getfield 9, 3) := by decide +kernel
theorem d16_21 : decode jdk_42_method_147_code 21 = .ok (.arraylength, 1) := by decide +kernel
theorem d16_22 : decode jdk_42_method_147_code 22 = .ok (.invokestatic 212, 3) := by decide +kernel
theorem d16_25 : decode jdk_42_method_147_code 25 = .ok (.goto 18, 3) := by decide +kernel
theorem d16_28 : decode jdk_42_method_147_code 28 = .ok (.aload_n 0, 1) := by decide +kernel
theorem d16_29 : decode jdk_42_method_147_code 29 = .ok (.getfield 9, 3) := by decide +kernel
theorem d16_32 : decode jdk_42_method_147_code 32 = .ok (.iconst 0, 1) := by decide +kernel
theorem d16_33 : decode jdk_42_method_147_code 33 = .ok (.aload_n 1, 1) := by decide +kernel
theorem d16_34 : decode jdk_42_method_147_code 34 = .ok (.iload_n 2, 1) := by decide +kernel
theorem d16_35 : decode jdk_42_method_147_code 35 = .ok (.aload_n 0, 1) := by decide +kernel
theorem d16_36 : decode jdk_42_method_147_code 36 = .ok (.getfield 9, 3) := by decide +kernel
theorem d16_39 : decode jdk_42_method_147_code 39 = .ok (.arraylength, 1) := by decide +kernel
theorem d16_40 : decode jdk_42_method_147_code 40 = .ok (.invokestatic 106, 3) := by decide +kernel
theorem d16_43 : decode jdk_42_method_147_code 43 = .ok (.return_, 1) := by decide +kernel
theorem d22_0 : decode jdk_67_method_42_code 0 = .ok (.new 18, 3) := by decide +kernel
theorem d22_3 : decode jdk_67_method_42_code 3 = .ok (.dup, 1) := by decide +kernel
theorem d22_4 : decode jdk_67_method_42_code 4 = .ok (.aload_n 0, 1) := by decide +kernel
theorem d22_5 : decode jdk_67_method_42_code 5 = .ok (.invokespecial 137, 3) := by decide +kernel
theorem d22_8 : decode jdk_67_method_42_code 8 = .ok (.areturn, 1) := by decide +kernel
theorem d23_0 : decode jdk_42_method_53_code 0 = .ok (.aload_n 0, 1) := by decide +kernel
theorem d23_1 : decode jdk_42_method_53_code 1 = .ok (.aload_n 1, 1) := by decide +kernel
theorem d23_2 : decode jdk_42_method_53_code 2 = .ok (.aconst_null, 1) := by decide +kernel
theorem d23_3 : decode jdk_42_method_53_code 3 = .ok (.invokespecial 489, 3) := by decide +kernel
theorem d23_6 : decode jdk_42_method_53_code 6 = .ok (.return_, 1) := by decide +kernel
theorem d24_0 : decode jdk_42_method_150_code 0 = .ok (.aload_n 0, 1) := by decide +kernel
theorem d24_1 : decode jdk_42_method_150_code 1 = .ok (.invokespecial 1, 3) := by decide +kernel
theorem d24_4 : decode jdk_42_method_150_code 4 = .ok (.aload_n 1, 1) := by decide +kernel
theorem d24_5 : decode jdk_42_method_150_code 5 = .ok (.invokevirtual 552, 3) := by decide +kernel
theorem d24_8 : decode jdk_42_method_150_code 8 = .ok (.astore_n 3, 1) := by decide +kernel
theorem d24_9 : decode jdk_42_method_150_code 9 = .ok (.aload_n 1, 1) := by decide +kernel
theorem d24_10 : decode jdk_42_method_150_code 10 = .ok (.invokevirtual 549, 3) := by decide +kernel
theorem d24_13 : decode jdk_42_method_150_code 13 = .ok (.istore 4, 2) := by decide +kernel
theorem d24_15 : decode jdk_42_method_150_code 15 = .ok (.aload_n 1, 1) := by decide +kernel
theorem d24_16 : decode jdk_42_method_150_code 16 = .ok (.invokevirtual 1047, 3) := by decide +kernel
theorem d24_19 : decode jdk_42_method_150_code 19 = .ok (.ifCond .eq 22, 3) := by decide +kernel
theorem d24_22 : decode jdk_42_method_150_code 22 = .ok (.aload_n 0, 1) := by decide +kernel
theorem d24_23 : decode jdk_42_method_150_code 23 = .ok (.iconst 0, 1) := by decide +kernel
theorem d24_24 : decode jdk_42_method_150_code 24 = .ok (.putfield 15, 3) := by decide +kernel
theorem d24_27 : decode jdk_42_method_150_code 27 = .ok (.aload_n 0, 1) := by decide +kernel
theorem d24_28 : decode jdk_42_method_150_code 28 = .ok (.aload_n 3, 1) := by decide +kernel
theorem d24_29 : decode jdk_42_method_150_code 29 = .ok (.iconst 0, 1) := by decide +kernel
theorem d24_30 : decode jdk_42_method_150_code 30 = .ok (.iload 4, 2) := by decide +kernel
theorem d24_32 : decode jdk_42_method_150_code 32 = .ok (.invokestatic 54, 3) := by decide +kernel
theorem d24_35 : decode jdk_42_method_150_code 35 = .ok (.putfield 9, 3) := by decide +kernel
theorem d24_38 : decode jdk_42_method_150_code 38 = .ok (.goto 59, 3) := by decide +kernel
theorem d24_41 : decode jdk_42_method_150_code 41 = .ok (.getstatic 38, 3) := by decide +kernel
theorem d24_44 : decode jdk_42_method_150_code 44 = .ok (.ifCond .eq 35, 3) := by decide +kernel
theorem d24_47 : decode jdk_42_method_150_code 47 = .ok (.aload_n 1, 1) := by decide +kernel
theorem d24_48 : decode jdk_42_method_150_code 48 = .ok (.getfield 1048, 3) := by decide +kernel
theorem d24_51 : decode jdk_42_method_150_code 51 = .ok (.ifCond .eq 28, 3) := by decide +kernel
theorem d24_54 : decode jdk_42_method_150_code 54 = .ok (.aload_n 0, 1) := by decide +kernel
theorem d24_55 : decode jdk_42_method_150_code 55 = .ok (.aload_n 3, 1) := by decide +kernel
theorem d24_56 : decode jdk_42_method_150_code 56 = .ok (.iconst 0, 1) := by decide +kernel
theorem d24_57 : decode jdk_42_method_150_code 57 = .ok (.iload 4, 2) := by decide +kernel
theorem d24_59 : decode jdk_42_method_150_code 59 = .ok (.invokestatic 1051, 3) := by decide +kernel
theorem d24_62 : decode jdk_42_method_150_code 62 = .ok (.putfield 9, 3) := by decide +kernel
theorem d24_65 : decode jdk_42_method_150_code 65 = .ok (.aload_n 0, 1) := by decide +kernel
theorem d24_66 : decode jdk_42_method_150_code 66 = .ok (.aload_n 0, 1) := by decide +kernel
theorem d24_67 : decode jdk_42_method_150_code 67 = .ok (.getfield 9, 3) := by decide +kernel
theorem d24_70 : decode jdk_42_method_150_code 70 = .ok (.iload 4, 2) := by decide +kernel
theorem d24_72 : decode jdk_42_method_150_code 72 = .ok (.invokestatic 47, 3) := by decide +kernel
theorem d24_75 : decode jdk_42_method_150_code 75 = .ok (.putfield 15, 3) := by decide +kernel
theorem d24_78 : decode jdk_42_method_150_code 78 = .ok (.return_, 1) := by decide +kernel
theorem d24_79 : decode jdk_42_method_150_code 79 = .ok (.aload_n 0, 1) := by decide +kernel
theorem d24_80 : decode jdk_42_method_150_code 80 = .ok (.iconst 1, 1) := by decide +kernel
theorem d24_81 : decode jdk_42_method_150_code 81 = .ok (.putfield 15, 3) := by decide +kernel
theorem d24_84 : decode jdk_42_method_150_code 84 = .ok (.aload_n 0, 1) := by decide +kernel
theorem d24_85 : decode jdk_42_method_150_code 85 = .ok (.aload_n 3, 1) := by decide +kernel
theorem d24_86 : decode jdk_42_method_150_code 86 = .ok (.iconst 0, 1) := by decide +kernel
theorem d24_87 : decode jdk_42_method_150_code 87 = .ok (.iload 4, 2) := by decide +kernel
theorem d24_89 : decode jdk_42_method_150_code 89 = .ok (.iconst 1, 1) := by decide +kernel
theorem d24_90 : decode jdk_42_method_150_code 90 = .ok (.ishl, 1) := by decide +kernel
theorem d24_91 : decode jdk_42_method_150_code 91 = .ok (.invokestatic 54, 3) := by decide +kernel
theorem d24_94 : decode jdk_42_method_150_code 94 = .ok (.putfield 9, 3) := by decide +kernel
theorem d24_97 : decode jdk_42_method_150_code 97 = .ok (.return_, 1) := by decide +kernel
theorem d25_0 : decode jdk_68_method_64_code 0 = .ok (.aload_n 0, 1) := by decide +kernel
theorem d25_1 : decode jdk_68_method_64_code 1 = .ok (.getfield 15, 3) := by decide +kernel
theorem d25_4 : decode jdk_68_method_64_code 4 = .ok (.areturn, 1) := by decide +kernel
theorem d26_0 : decode jdk_67_method_93_code 0 = .ok (.aload_n 0, 1) := by decide +kernel
theorem d26_1 : decode jdk_67_method_93_code 1 = .ok (.invokespecial 343, 3) := by decide +kernel
theorem d26_4 : decode jdk_67_method_93_code 4 = .ok (.ireturn, 1) := by decide +kernel
theorem d27_0 : decode jdk_68_method_6_code 0 = .ok (.aload_n 0, 1) := by decide +kernel
theorem d27_1 : decode jdk_68_method_6_code 1 = .ok (.getfield 79, 3) := by decide +kernel
theorem d27_4 : decode jdk_68_method_6_code 4 = .ok (.ireturn, 1) := by decide +kernel
theorem d20_0 : decode jdk_68_method_68_code 0 = .ok (.getstatic 18, 3) := by decide +kernel
theorem d20_3 : decode jdk_68_method_68_code 3 = .ok (.ifCond .eq 14, 3) := by decide +kernel
theorem d20_6 : decode jdk_68_method_68_code 6 = .ok (.aload_n 0, 1) := by decide +kernel
theorem d20_7 : decode jdk_68_method_68_code 7 = .ok (.getfield 22, 3) := by decide +kernel
theorem d20_10 : decode jdk_68_method_68_code 10 = .ok (.ifCond .ne 7, 3) := by decide +kernel
theorem d20_13 : decode jdk_68_method_68_code 13 = .ok (.iconst 1, 1) := by decide +kernel
theorem d20_14 : decode jdk_68_method_68_code 14 = .ok (.goto 4, 3) := by decide +kernel
theorem d20_17 : decode jdk_68_method_68_code 17 = .ok (.iconst 0, 1) := by decide +kernel
theorem d20_18 : decode jdk_68_method_68_code 18 = .ok (.ireturn, 1) := by decide +kernel
theorem d28_0 : decode jdk_65_method_132_code 0 = .ok (.iload_n 1, 1) := by decide +kernel
theorem d28_1 : decode jdk_65_method_132_code 1 = .ok (.ifCond .ne 9, 3) := by decide +kernel
theorem d28_4 : decode jdk_65_method_132_code 4 = .ok (.iload_n 2, 1) := by decide +kernel
theorem d28_5 : decode jdk_65_method_132_code 5 = .ok (.aload_n 0, 1) := by decide +kernel
theorem d28_6 : decode jdk_65_method_132_code 6 = .ok (.arraylength, 1) := by decide +kernel
theorem d28_7 : decode jdk_65_method_132_code 7 = .ok (.if_icmp .eq 10, 3) := by decide +kernel
theorem d28_10 : decode jdk_65_method_132_code 10 = .ok (.aload_n 0, 1) := by decide +kernel
theorem d28_11 : decode jdk_65_method_132_code 11 = .ok (.iload_n 1, 1) := by decide +kernel
theorem d28_12 : decode jdk_65_method_132_code 12 = .ok (.iload_n 2, 1) := by decide +kernel
theorem d28_13 : decode jdk_65_method_132_code 13 = .ok (.invokestatic 339, 3) := by decide +kernel
theorem d28_16 : decode jdk_65_method_132_code 16 = .ok (.areturn, 1) := by decide +kernel
theorem d28_17 : decode jdk_65_method_132_code 17 = .ok (.aload_n 0, 1) := by decide +kernel
theorem d28_18 : decode jdk_65_method_132_code 18 = .ok (.invokevirtual 310, 3) := by decide +kernel
theorem d28_21 : decode jdk_65_method_132_code 21 = .ok (.checkcast 311, 3) := by decide +kernel
theorem d28_24 : decode jdk_65_method_132_code 24 = .ok (.areturn, 1) := by decide +kernel
theorem d29_0 : decode jdk_65_method_133_code 0 = .ok (.iload_n 1, 1) := by decide +kernel
theorem d29_1 : decode jdk_65_method_133_code 1 = .ok (.iload_n 2, 1) := by decide +kernel
theorem d29_2 : decode jdk_65_method_133_code 2 = .ok (.invokestatic 343, 3) := by decide +kernel
theorem d29_5 : decode jdk_65_method_133_code 5 = .ok (.iload_n 2, 1) := by decide +kernel
theorem d29_6 : decode jdk_65_method_133_code 6 = .ok (.iload_n 1, 1) := by decide +kernel
theorem d29_7 : decode jdk_65_method_133_code 7 = .ok (.isub, 1) := by decide +kernel
theorem d29_8 : decode jdk_65_method_133_code 8 = .ok (.istore_n 3, 1) := by decide +kernel
theorem d29_9 : decode jdk_65_method_133_code 9 = .ok (.iload_n 3, 1) := by decide +kernel
theorem d29_10 : decode jdk_65_method_133_code 10 = .ok (.newarray .byte, 2) := by decide +kernel
theorem d29_12 : decode jdk_65_method_133_code 12 = .ok (.astore 4, 2) := by decide +kernel
theorem d29_14 : decode jdk_65_method_133_code 14 = .ok (.aload_n 0, 1) := by decide +kernel
theorem d29_15 : decode jdk_65_method_133_code 15 = .ok (.iload_n 1, 1) := by decide +kernel
theorem d29_16 : decode jdk_65_method_133_code 16 = .ok (.aload 4, 2) := by decide +kernel
theorem d29_18 : decode jdk_65_method_133_code 18 = .ok (.iconst 0, 1) := by decide +kernel
theorem d29_19 : decode jdk_65_method_133_code 19 = .ok (.aload_n 0, 1) := by decide +kernel
theorem d29_20 : decode jdk_65_method_133_code 20 = .ok (.arraylength, 1) := by decide +kernel
theorem d29_21 : decode jdk_65_method_133_code 21 = .ok (.iload_n 1, 1) := by decide +kernel
theorem d29_22 : decode jdk_65_method_133_code 22 = .ok (.isub, 1) := by decide +kernel
theorem d29_23 : decode jdk_65_method_133_code 23 = .ok (.iload_n 3, 1) := by decide +kernel
theorem d29_24 : decode jdk_65_method_133_code 24 = .ok (.invokestatic 304, 3) := by decide +kernel
theorem d29_27 : decode jdk_65_method_133_code 27 = .ok (.invokestatic 150, 3) := by decide +kernel
theorem d29_30 : decode jdk_65_method_133_code 30 = .ok (.aload 4, 2) := by decide +kernel
theorem d29_32 : decode jdk_65_method_133_code 32 = .ok (.areturn, 1) := by decide +kernel
theorem d30_0 : decode jdk_65_method_131_code 0 = .ok (.iload_n 1, 1) := by decide +kernel
theorem d30_1 : decode jdk_65_method_131_code 1 = .ok (.iload_n 0, 1) := by decide +kernel
theorem d30_2 : decode jdk_65_method_131_code 2 = .ok (.if_icmp .ge 35, 3) := by decide +kernel
theorem d30_5 : decode jdk_65_method_131_code 5 = .ok (.new 43, 3) := by decide +kernel
theorem d30_8 : decode jdk_65_method_131_code 8 = .ok (.dup, 1) := by decide +kernel
theorem d30_9 : decode jdk_65_method_131_code 9 = .ok (.new 45, 3) := by decide +kernel
theorem d30_12 : decode jdk_65_method_131_code 12 = .ok (.dup, 1) := by decide +kernel
theorem d30_13 : decode jdk_65_method_131_code 13 = .ok (.invokespecial 47, 3) := by decide +kernel
theorem d30_16 : decode jdk_65_method_131_code 16 = .ok (.iload_n 0, 1) := by decide +kernel
theorem d30_17 : decode jdk_65_method_131_code 17 = .ok (.invokevirtual 54, 3) := by decide +kernel
theorem d30_20 : decode jdk_65_method_131_code 20 = .ok (.ldc_w 337, 3) := by decide +kernel
theorem d30_23 : decode jdk_65_method_131_code 23 = .ok (.invokevirtual 50, 3) := by decide +kernel
theorem d30_26 : decode jdk_65_method_131_code 26 = .ok (.iload_n 1, 1) := by decide +kernel
theorem d30_27 : decode jdk_65_method_131_code 27 = .ok (.invokevirtual 54, 3) := by decide +kernel
theorem d30_30 : decode jdk_65_method_131_code 30 = .ok (.invokevirtual 61, 3) := by decide +kernel
theorem d30_33 : decode jdk_65_method_131_code 33 = .ok (.invokespecial 65, 3) := by decide +kernel
theorem d30_36 : decode jdk_65_method_131_code 36 = .ok (.athrow, 1) := by decide +kernel
theorem d30_37 : decode jdk_65_method_131_code 37 = .ok (.return_, 1) := by decide +kernel
theorem d31_0 : decode jdk_29_method_69_code 0 = .ok (.iload_n 0, 1) := by decide +kernel
theorem d31_1 : decode jdk_29_method_69_code 1 = .ok (.iload_n 1, 1) := by decide +kernel
theorem d31_2 : decode jdk_29_method_69_code 2 = .ok (.if_icmp .gt 7, 3) := by decide +kernel
theorem d31_5 : decode jdk_29_method_69_code 5 = .ok (.iload_n 0, 1) := by decide +kernel
theorem d31_6 : decode jdk_29_method_69_code 6 = .ok (.goto 4, 3) := by decide +kernel
theorem d31_9 : decode jdk_29_method_69_code 9 = .ok (.iload_n 1, 1) := by decide +kernel
theorem d31_10 : decode jdk_29_method_69_code 10 = .ok (.ireturn, 1) := by decide +kernel
theorem own_wordsLen {Z : State} {a0 : Array Value} (hw : ∀ d ∈ tables_1, d.before a0 Z = true) : ∀ d ∈ StrChars.Road.wordsLen, d.before a0 Z = true := fun d hd => hw d ((by decide +kernel : ∀ d ∈ StrChars.Road.wordsLen, d ∈ tables_1) d hd)
/-! lists of bytes -/
def own_b (cs : List Int32) : List Value := cs.map fun c => Value.int c.toInt8.toInt32
theorem own_b_len (cs : List Int32) : (own_b cs).length = cs.length := List.length_map ..
theorem own_b_app (cs ds : List Int32) : own_b (cs ++ ds) = own_b cs ++ own_b ds := List.map_append
def own_16 (vs : List Value) : List Value := vs ++ List.replicate (16 - vs.length) (.int 0)
theorem own_16_len {vs : List Value} (h : vs.length ≤ 16) : (own_16 vs).length = 16 := by
  rw [own_16, List.length_append, List.length_replicate]; omega
theorem own_16_take (vs : List Value) : (own_16 vs).take vs.length = vs := by rw [own_16, List.take_left]
theorem own_16_put {vs us : List Value} (h : vs.length + us.length ≤ 16) : (own_16 vs).take vs.length ++ us ++ (own_16 vs).drop (vs.length + us.length) = own_16 (vs ++ us) := by
  rw [own_16_take]
  have : (own_16 vs).drop (vs.length + us.length) = List.replicate (16 - (vs ++ us).length) (.int 0) := by
    rw [own_16, List.drop_append, List.drop_eq_nil_of_le (by omega), List.drop_replicate, List.length_append]
    simp only [List.nil_append]; congr 1; omega
  rw [this, own_16]
theorem own_range (vs : List Value) (dv : Value) (n : Nat) (h : n ≤ vs.length) : (List.range n).map (fun i => vs.getD (0 + i) dv) = vs.take n := by
  apply List.ext_getElem
  · simp; omega
  · intro i h1 h2
    simp at h1 h2
    rw [List.getElem_map, List.getElem_range, List.getElem_take, Nat.zero_add]
    simp [List.getD_eq_getElem?_getD, show i < vs.length by omega]
/-- b is a StringBuilder that holds cs, in the byte[16] at t -/
def SBd (Z : State) (h : Heap) (b t : Addr) (kb : ClassId) (cs : List Int32) : Prop :=
  Exa Z h b "java/lang/StringBuilder" ∧ Fld Z h b "java/lang/AbstractStringBuilder" "value" "[B" (.ref t) ∧ Fld Z h b "java/lang/AbstractStringBuilder" "coder" "B" (.int 0) ∧ Fld Z h b "java/lang/AbstractStringBuilder" "count" "I" (.int (Int32.ofNat cs.length)) ∧ Arv Z h t kb .byte 16 (own_16 (own_b cs)) (.int 0)
theorem SBd.ext {Z : State} {h h' : Heap} {b t : Addr} {kb : ClassId} {cs : List Int32} (E : Ext h h') (S : SBd Z h b t kb cs) : SBd Z h' b t kb cs := by
  obtain ⟨h1, h2, h3, h4, h5⟩ := S; exact ⟨h1.ext E, h2.ext E, h3.ext E, h4.ext E, h5.ext E⟩
theorem own_safe16 {Z : State} {a0 : Array Value} {V : Vm} {h : Heap} {t : Addr} {kb : ClassId} {vs : List Value} {dv : Value} (hw : ∀ d ∈ tables_1, d.before a0 Z = true) (hZ : Z.Warmed39 V) (F : Arv Z h t kb .byte 16 vs dv) : Safe Z consts_1 V h t := own_safe (a0 := a0) hZ F (own_texts hw)
theorem own_vc {Z : State} {a0 : Array Value} (hw : ∀ d ∈ tables_1, d.before a0 Z = true) : RoadKit.slotOf Z "java/lang/AbstractStringBuilder" "value" "[B" ≠ RoadKit.slotOf Z "java/lang/AbstractStringBuilder" "coder" "B" := slot_ne (C := "java/lang/StringBuilder") (Or.inl (hw _ (List.mem_of_getElem? (i := 55) rfl))) (Or.inl (hw _ (List.mem_of_getElem? (i := 57) rfl))) (by decide) (t := .array .byte) (t' := .byte) (by decide) (by decide)
theorem own_nc {Z : State} {a0 : Array Value} (hw : ∀ d ∈ tables_1, d.before a0 Z = true) : RoadKit.slotOf Z "java/lang/AbstractStringBuilder" "count" "I" ≠ RoadKit.slotOf Z "java/lang/AbstractStringBuilder" "coder" "B" := slot_ne (C := "java/lang/StringBuilder") (Or.inl (hw _ (List.mem_of_getElem? (i := 82) rfl))) (Or.inl (hw _ (List.mem_of_getElem? (i := 57) rfl))) (by decide) (t := .int) (t' := .byte) (by decide) (by decide)
theorem own_nv {Z : State} {a0 : Array Value} (hw : ∀ d ∈ tables_1, d.before a0 Z = true) : RoadKit.slotOf Z "java/lang/AbstractStringBuilder" "count" "I" ≠ RoadKit.slotOf Z "java/lang/AbstractStringBuilder" "value" "[B" := slot_ne (C := "java/lang/StringBuilder") (Or.inl (hw _ (List.mem_of_getElem? (i := 82) rfl))) (Or.inl (hw _ (List.mem_of_getElem? (i := 55) rfl))) (by decide) (t := .int) (t' := .array .byte) (by decide) (by decide)
theorem own_svc {Z : State} {a0 : Array Value} (hw : ∀ d ∈ tables_1, d.before a0 Z = true) : RoadKit.slotOf Z "java/lang/String" "value" "[B" ≠ RoadKit.slotOf Z "java/lang/String" "coder" "B" := slot_ne (C := "java/lang/String") (Or.inr (hw _ (List.mem_of_getElem? (i := 4) rfl))) (Or.inr (hw _ (List.mem_of_getElem? (i := 5) rfl))) (by decide) (t := .array .byte) (t' := .byte) (by decide) (by decide)
/-! new StringBuilder() -/
set_option maxRecDepth 65536 in
theorem rmABSi (l : Launch) (Z : State) (a0 : Array Value) (hw : ∀ d ∈ tables_1, d.before a0 Z = true) (hEL : EW Z a0 consts_1) (z0 : Int32) (Sc : Sta Z Z.heap "java/lang/String" "COMPACT_STRINGS" "Z" (.int z0)) (hz0 : ¬ z0 = 0) (b : Addr) (h0 : Heap) (hx : Ext Z.heap h0) (X : Exa Z h0 b "java/lang/StringBuilder") (Fv : Fld Z h0 b "java/lang/AbstractStringBuilder" "value" "[B" .null) (Fc : Fld Z h0 b "java/lang/AbstractStringBuilder" "coder" "B" (.int 0)) (Fn : Fld Z h0 b "java/lang/AbstractStringBuilder" "count" "I" (.int 0)) (ge_b_Z : Z.heap.size ≤ b) :
    Met l Z consts_1 (⟨"java/lang/AbstractStringBuilder", "<init>", "(I)V"⟩ : MethodName) jdk_68_method_2_code 2 none [] ({ frames := 1, cells := 1, slots := 16, locals := 12 } : Room) #[.ref b, .int 16] h0 [] (fun v h => ∃ t kb, v = none ∧ Keep h0 h [b] ∧ SBd Z h b t kb [] ∧ h0.size ≤ t) := by
  refine Met.of (a0 := a0) (by decide +kernel) hEL hx ?_
  intro p e s m below meth c S0 V w hs hsf
  replace w := w.to (g' := mkF m 0 #[.val (.ref b), .val (.int (16 : Int32))] []) (by first | (simp [entryFrame, mkF, argsToLocals, Value.category]; done) | rfl)
  have B0 := extR h0
  have C0 := CHr.refl w.ch
  replace w := w.aloadN (pc' := 1) d8_0 rfl
  replace w := w.initO 0 (hw _ (List.mem_of_getElem? (i := 52) rfl)) (hw _ (List.mem_of_getElem? (i := 29) rfl)) (hw _ (List.mem_of_getElem? (i := 30) rfl)) rfl d8_1 (by decide) (Nat.le_of_eq rfl) (by decide) (pc' := 4)
  replace w := w.getS (hw _ (List.mem_of_getElem? (i := 53) rfl)) Sc d8_4 (pc' := 7)
  replace w := w.ifNo (pc' := 10) d8_7 ((if0 _ _).trans (feq hz0).1)
  replace w := w.aloadN (pc' := 11) d8_10 rfl
  replace w := w.iloadN (pc' := 12) d8_11 rfl
  obtain ⟨h1, t, k_t, g_t, E1, V_t, S_t, A1, w⟩ := w.newarr (cap := 16) (hw _ (List.mem_of_getElem? (i := 3) rfl)) d8_12 (by decide) (by decide) nle nle (pc' := 14)
  have lt_t : t < h1.size := V_t.lt
  have ge_t_0 : h0.size ≤ t := Nat.le_trans B0.1 (Nat.le_of_eq g_t.symm)
  have B0 := extT B0 E1
  have C0 := C0.trans A1
  replace V_t := V_t.pad (vs' := [(.int (0 : Int32)), (.int (0 : Int32)), (.int (0 : Int32)), (.int (0 : Int32)), (.int (0 : Int32)), (.int (0 : Int32)), (.int (0 : Int32)), (.int (0 : Int32)), (.int (0 : Int32)), (.int (0 : Int32)), (.int (0 : Int32)), (.int (0 : Int32)), (.int (0 : Int32)), (.int (0 : Int32)), (.int (0 : Int32)), (.int (0 : Int32))]) (pad_rep [] _ 16)
  have X1 := X.ext E1
  have ne : t ≠ b := Nat.ne_of_gt (Nat.lt_of_lt_of_le X.lt ge_t_0)
  obtain ⟨h2, W2, K2, Fw2, A2, w⟩ := w.putF (ty := (.array .byte)) (hw _ (List.mem_of_getElem? (i := 54) rfl)) (Fv.ext E1) (X1) (Or.inl (hw _ (List.mem_of_getElem? (i := 55) rfl))) (hw _ (List.mem_of_getElem? (i := 41) rfl)) (by decide) rfl rfl (Safe.exa w.hZ.alike X1 (by decide) (by decide)) (ge_b_Z) d8_14 (pc' := 17)
  have X2 := X1.wr W2
  have V2 := V_t.other W2 ne
  have Fc2 := (Fc.ext E1).other W2 (Or.inr (own_vc hw).symm)
  have Fn2 := (Fn.ext E1).other W2 (Or.inr (own_nv hw))
  replace w := w.aloadN (pc' := 18) d8_17 rfl
  replace w := w.iconst (pc' := 19) (0 : Int32) d8_18
  obtain ⟨h3, W3, K3, Fw3, A3, w⟩ := w.putFN (v' := (.int (0 : Int32))) (ty := .byte) (hw _ (List.mem_of_getElem? (i := 56) rfl)) (Fc2) (X2) (Or.inl (hw _ (List.mem_of_getElem? (i := 57) rfl))) (hw _ (List.mem_of_getElem? (i := 41) rfl)) (by decide) (rfl) (by decide) (Safe.exa w.hZ.alike X2 (by decide) (by decide)) (ge_b_Z) d8_19 (pc' := 22)
  have K03 : Keep h0 h3 [b] := ((keepE E1 [b]).trans K2 (allS (Or.inl (List.mem_cons_self ..)) all0)).trans K3 (allS (Or.inl (List.mem_cons_self ..)) all0)
  replace w := w.goto (pc' := 38) d8_22
  exact w.ret0 d8_38 ⟨t, k_t, rfl, K03, ⟨X2.wr W3, Fw2.other W3 (Or.inr (own_vc hw)), Fw3, Fn2.other W3 (Or.inr (own_nc hw)), V2.other W3 ne⟩, ge_t_0⟩ nle nle
set_option maxRecDepth 65536 in
theorem rmSBi (l : Launch) (Z : State) (a0 : Array Value) (hw : ∀ d ∈ tables_1, d.before a0 Z = true) (hEL : EW Z a0 consts_1) (z0 : Int32) (Sc : Sta Z Z.heap "java/lang/String" "COMPACT_STRINGS" "Z" (.int z0)) (hz0 : ¬ z0 = 0) (b : Addr) (h0 : Heap) (hx : Ext Z.heap h0) (X : Exa Z h0 b "java/lang/StringBuilder") (Fv : Fld Z h0 b "java/lang/AbstractStringBuilder" "value" "[B" .null) (Fc : Fld Z h0 b "java/lang/AbstractStringBuilder" "coder" "B" (.int 0)) (Fn : Fld Z h0 b "java/lang/AbstractStringBuilder" "count" "I" (.int 0)) (ge_b_Z : Z.heap.size ≤ b) :
    Met l Z consts_1 (⟨"java/lang/StringBuilder", "<init>", "()V"⟩ : MethodName) jdk_67_method_1_code 1 none [] ({ frames := 2, cells := 1, slots := 16, locals := 25 } : Room) #[.ref b] h0 [] (fun v h => ∃ t kb, v = none ∧ Keep h0 h [b] ∧ SBd Z h b t kb [] ∧ h0.size ≤ t) := by
  refine Met.of (a0 := a0) (by decide +kernel) hEL hx ?_
  intro p e s m below meth c S0 V w hs hsf
  replace w := w.to (g' := mkF m 0 #[.val (.ref b)] []) (by first | (simp [entryFrame, mkF, argsToLocals, Value.category]; done) | rfl)
  replace w := w.aloadN (pc' := 1) d7_0 rfl
  replace w := w.bipush (pc' := 3) (16 : Int32) d7_1
  obtain ⟨v1, V1, h1, hq1, A1, w⟩ := w.ctor (y' := (⟨"java/lang/AbstractStringBuilder", "<init>", "(I)V"⟩ : MethodName)) (W := 0) (a := b) (w.pays 0 (rmABSi l Z a0 hw hEL z0 Sc hz0 b h0 w.old X Fv Fc Fn ge_b_Z) (hw _ (List.mem_of_getElem? (i := 51) rfl)) (hw _ (List.mem_of_getElem? (i := 50) rfl)) all0 nle nle) rfl (hw _ (List.mem_of_getElem? (i := 46) rfl)) (hw _ (List.mem_of_getElem? (i := 47) rfl)) (hw _ (List.mem_of_getElem? (i := 51) rfl)) (argsL := [(.int (16 : Int32))]) (rest := []) (by decide) pd_0 rfl rfl (Nat.le_of_eq rfl) rfl d7_3 nle nle (pc' := 6)
  obtain ⟨t, kb, rfl, K1, T1, g1⟩ := hq1
  replace w := w.to (g' := mkF m 6 #[.val (.ref b)] []) rfl
  exact w.ret0 d7_6 ⟨t, kb, rfl, K1, T1, g1⟩ nle nle
/-! String.coder() -/
set_option maxRecDepth 65536 in
theorem rmCOD (l : Launch) (Z : State) (a0 : Array Value) (hw : ∀ d ∈ tables_1, d.before a0 Z = true) (hEL : EW Z a0 consts_1) (z0 : Int32) (Sc : Sta Z Z.heap "java/lang/String" "COMPACT_STRINGS" "Z" (.int z0)) (hz0 : ¬ z0 = 0) (x : Addr) (h0 : Heap) (hx : Ext Z.heap h0) (Fc : Fld Z h0 x "java/lang/String" "coder" "B" (.int 0)) :
    Met l Z consts_1 (⟨"java/lang/String", "coder", "()B"⟩ : MethodName) jdk_42_method_152_code 1 (some .byte) [] ({ frames := 0, cells := 0, slots := 0, locals := 0 } : Room) #[.ref x] h0 [] (fun v h => v = some (.int 0) ∧ h = h0) := by
  refine Met.of (a0 := a0) (by decide +kernel) hEL hx ?_
  intro p e s m below meth c S0 V w hs hsf
  replace w := w.to (g' := mkF m 0 #[.val (.ref x)] []) (by first | (simp [entryFrame, mkF, argsToLocals, Value.category]; done) | rfl)
  replace w := w.getS (hw _ (List.mem_of_getElem? (i := 79) rfl)) Sc d12_0 (pc' := 3)
  replace w := w.ifNo (pc' := 6) d12_3 ((if0 _ _).trans (feq hz0).1)
  replace w := w.aloadN (pc' := 7) d12_6 rfl
  replace w := w.getF (hw _ (List.mem_of_getElem? (i := 80) rfl)) Fc d12_7 (pc' := 10)
  replace w := w.goto (pc' := 14) d12_10
  exact w.retN d12_14 (by simp) ⟨rfl, rfl⟩ nle nle
/-! ensureCapacityInternal of no more than 16 -/
theorem own_le16 {k : Nat} (h : k ≤ 16) : ¬ 0 < Int32.ofNat k - 16 := by
  have e1 := (own_n32 (n := k) (by omega)).2.2
  have e2 : (16 : Int32).toInt = 16 := by decide
  have e0 : (0 : Int32).toInt = 0 := by decide
  have := c_isub (Int32.ofNat k) 16
  have := rng32 (Int32.ofNat k - 16)
  rw [Int32.lt_iff_toInt_lt]; omega
set_option maxRecDepth 65536 in
theorem rmENS (l : Launch) (Z : State) (a0 : Array Value) (hw : ∀ d ∈ tables_1, d.before a0 Z = true) (hEL : EW Z a0 consts_1) (b t : Addr) (kb : ClassId) (cs : List Int32) (k : Nat) (hk : k ≤ 16) (h0 : Heap) (hx : Ext Z.heap h0) (T : SBd Z h0 b t kb cs) :
    Met l Z consts_1 (⟨"java/lang/AbstractStringBuilder", "ensureCapacityInternal", "(I)V"⟩ : MethodName) jdk_68_method_9_code 3 none [] ({ frames := 0, cells := 0, slots := 0, locals := 0 } : Room) #[.ref b, .int (Int32.ofNat k)] h0 [] (fun v h => v = none ∧ h = h0) := by
  obtain ⟨X, Fv, Fc, Fn, A⟩ := T
  refine Met.of (a0 := a0) (by decide +kernel) hEL hx ?_
  intro p e s m below meth c S0 V w hs hsf
  replace w := w.to (g' := mkF m 0 #[.val (.ref b), .val (.int (Int32.ofNat k)), .unset] []) (by first | (simp [entryFrame, mkF, argsToLocals, Value.category]; done) | rfl)
  replace w := w.aloadN (pc' := 1) d13_0 rfl
  replace w := w.getF (hw _ (List.mem_of_getElem? (i := 54) rfl)) Fv d13_1 (pc' := 4)
  replace w := w.arrlen A d13_4 (pc' := 5)
  replace w := w.aloadN (pc' := 6) d13_5 rfl
  replace w := w.getF (hw _ (List.mem_of_getElem? (i := 56) rfl)) Fc d13_6 (pc' := 9)
  replace w := w.ishr (pc' := 10) d13_9
  rw [show (16 : Int32) >>> ((0 : Int32) &&& 31) = 16 from by decide] at w
  replace w := w.istoreN (pc' := 11) (L' := #[.val (.ref b), .val (.int (Int32.ofNat k)), .val (.int (16 : Int32))]) d13_10 rfl
  replace w := w.iloadN (pc' := 12) d13_11 rfl
  replace w := w.iloadN (pc' := 13) d13_12 rfl
  replace w := w.isub (pc' := 14) d13_13
  replace w := w.ifYes (pc' := 38) d13_14 ((if0 _ _).trans (flt (own_le16 hk)).2.2.2)
  exact w.ret0 d13_38 ⟨rfl, rfl⟩ nle nle
/-! inflateIfNeededFor of a Latin-1 String -/
set_option maxRecDepth 65536 in
theorem rmINF (l : Launch) (Z : State) (a0 : Array Value) (hw : ∀ d ∈ tables_1, d.before a0 Z = true) (hEL : EW Z a0 consts_1) (z0 : Int32) (Sc : Sta Z Z.heap "java/lang/String" "COMPACT_STRINGS" "Z" (.int z0)) (hz0 : ¬ z0 = 0) (b t : Addr) (kb : ClassId) (cs : List Int32) (x : Addr) (ds : List Int32) (h0 : Heap) (hx : Ext Z.heap h0) (T : SBd Z h0 b t kb cs) (U : Str Z h0 x ds) :
    Met l Z consts_1 (⟨"java/lang/AbstractStringBuilder", "inflateIfNeededFor", "(Ljava/lang/String;)V"⟩ : MethodName) jdk_68_method_71_code 2 none [] ({ frames := 1, cells := 0, slots := 0, locals := 13 } : Room) #[.ref b, .ref x] h0 [] (fun v h => v = none ∧ h = h0) := by
  obtain ⟨X, Fv, Fc, Fn, A⟩ := T
  have X_x := U.exa
  obtain ⟨hp, tx, kx, -, Gv, Gc, Ax⟩ := U
  refine Met.of (a0 := a0) (by decide +kernel) hEL hx ?_
  intro p e s m below meth c S0 V w hs hsf
  replace w := w.to (g' := mkF m 0 #[.val (.ref b), .val (.ref x)] []) (by first | (simp [entryFrame, mkF, argsToLocals, Value.category]; done) | rfl)
  replace w := w.getS (hw _ (List.mem_of_getElem? (i := 53) rfl)) Sc d15_0 (pc' := 3)
  replace w := w.ifNo (pc' := 6) d15_3 ((if0 _ _).trans (feq hz0).1)
  replace w := w.aloadN (pc' := 7) d15_6 rfl
  replace w := w.getF (hw _ (List.mem_of_getElem? (i := 56) rfl)) Fc d15_7 (pc' := 10)
  replace w := w.aloadN (pc' := 11) d15_10 rfl
  obtain ⟨v1, V1, h1, hq1, A1, w⟩ := w.virt (y' := (⟨"java/lang/String", "coder", "()B"⟩ : MethodName)) (W := 1) (C := "java/lang/String") (b := x) (w.pays 1 (rmCOD l Z a0 hw hEL z0 Sc hz0 x h0 w.old Gc) (hw _ (List.mem_of_getElem? (i := 78) rfl)) (hw _ (List.mem_of_getElem? (i := 1) rfl)) all0 nle nle) (hw _ (List.mem_of_getElem? (i := 98) rfl)) (hw _ (List.mem_of_getElem? (i := 75) rfl)) (hw _ (List.mem_of_getElem? (i := 77) rfl)) (hw _ (List.mem_of_getElem? (i := 76) rfl)) (argsL := []) (rest := [(.int (0 : Int32))]) (by decide) X_x pd_1 rfl rfl (Nat.le_of_eq rfl) rfl d15_11 nle nle (pc' := 14)
  obtain ⟨rfl, he1⟩ := hq1
  replace w := w.to (g' := mkF m 14 #[.val (.ref b), .val (.ref x)] [(.int (0 : Int32)), (.int (0 : Int32))]) rfl
  replace he1 := he1.symm
  subst he1
  replace w := w.icmpYes (pc' := 21) d15_14 ((teq rfl).1)
  exact w.ret0 d15_21 ⟨rfl, rfl⟩ nle nle
/-! String.getBytes(byte[], int, byte): into the byte[16] -/
set_option maxRecDepth 65536 in
theorem rmGB (l : Launch) (Z : State) (a0 : Array Value) (hw : ∀ d ∈ tables_1, d.before a0 Z = true) (hEL : EW Z a0 consts_1) (z0 : Int32) (Sc : Sta Z Z.heap "java/lang/String" "COMPACT_STRINGS" "Z" (.int z0)) (hz0 : ¬ z0 = 0) (t : Addr) (kb : ClassId) (cs : List Int32) (x : Addr) (ds : List Int32) (hl : cs.length + ds.length ≤ 16) (h0 : Heap) (hx : Ext Z.heap h0) (A : Arv Z h0 t kb .byte 16 (own_16 (own_b cs)) (.int 0)) (U : Str Z h0 x ds) (ge_t_Z : Z.heap.size ≤ t) :
    Met l Z consts_1 (⟨"java/lang/String", "getBytes", "([BIB)V"⟩ : MethodName) jdk_42_method_147_code 4 none [] ({ frames := 1, cells := 0, slots := 0, locals := 60 } : Room) #[.ref x, .ref t, .int (Int32.ofNat cs.length), .int 0] h0 [] (fun v h => v = none ∧ Keep h0 h [t] ∧ Arv Z h t kb .byte 16 (own_16 (own_b (cs ++ ds))) (.int 0)) := by
  have X_x := U.exa
  obtain ⟨hp, tx, kx, -, Gv, Gc, Ax⟩ := U
  have n1 := own_n32 (n := cs.length) (by omega)
  have n2 := own_n32 (n := ds.length) (by omega)
  refine Met.of (a0 := a0) (by decide +kernel) hEL hx ?_
  intro p e s m below meth c S0 V w hs hsf
  replace w := w.to (g' := mkF m 0 #[.val (.ref x), .val (.ref t), .val (.int (Int32.ofNat cs.length)), .val (.int (0 : Int32))] []) (by first | (simp [entryFrame, mkF, argsToLocals, Value.category]; done) | rfl)
  replace w := w.aloadN (pc' := 1) d16_0 rfl
  obtain ⟨v1, V1, h1, hq1, A1, w⟩ := w.virt (y' := (⟨"java/lang/String", "coder", "()B"⟩ : MethodName)) (W := 0) (C := "java/lang/String") (b := x) (w.pays 0 (rmCOD l Z a0 hw hEL z0 Sc hz0 x h0 w.old Gc) (hw _ (List.mem_of_getElem? (i := 78) rfl)) (hw _ (List.mem_of_getElem? (i := 1) rfl)) all0 nle nle) (hw _ (List.mem_of_getElem? (i := 74) rfl)) (hw _ (List.mem_of_getElem? (i := 75) rfl)) (hw _ (List.mem_of_getElem? (i := 77) rfl)) (hw _ (List.mem_of_getElem? (i := 76) rfl)) (argsL := []) (rest := []) (by decide) X_x pd_1 rfl rfl (Nat.le_of_eq rfl) rfl d16_1 nle nle (pc' := 4)
  obtain ⟨rfl, he1⟩ := hq1
  replace w := w.to (g' := mkF m 4 #[.val (.ref x), .val (.ref t), .val (.int (Int32.ofNat cs.length)), .val (.int (0 : Int32))] [(.int (0 : Int32))]) rfl
  replace he1 := he1.symm
  subst he1
  replace w := w.iloadN (pc' := 5) d16_4 rfl
  replace w := w.icmpNo (pc' := 8) d16_5 ((teq rfl).2)
  replace w := w.aloadN (pc' := 9) d16_8 rfl
  replace w := w.getF (hw _ (List.mem_of_getElem? (i := 73) rfl)) Gv d16_9 (pc' := 12)
  replace w := w.iconst (pc' := 13) (0 : Int32) d16_12
  replace w := w.aloadN (pc' := 14) d16_13 rfl
  replace w := w.iloadN (pc' := 15) d16_14 rfl
  replace w := w.iloadN (pc' := 16) d16_15 rfl
  replace w := w.ishl (pc' := 17) d16_16
  rw [show Int32.ofNat cs.length <<< ((0 : Int32) &&& 31) = Int32.ofNat cs.length from own_shl0 _] at w
  replace w := w.aloadN (pc' := 18) d16_17 rfl
  replace w := w.getF (hw _ (List.mem_of_getElem? (i := 73) rfl)) Gv d16_18 (pc' := 21)
  replace w := w.arrlen Ax d16_21 (pc' := 22)
  obtain ⟨h2, K2, A2, C2, w⟩ := w.arrcopy (W := 0) (us := own_b ds) (hw _ (List.mem_of_getElem? (i := 104) rfl)) (hw _ (List.mem_of_getElem? (i := 107) rfl)) (hw _ (List.mem_of_getElem? (i := 105) rfl)) (hw _ (List.mem_of_getElem? (i := 106) rfl)) Ax A (by decide) n1.1 n2.1 (by rw [n2.2.1]; exact Nat.le_of_eq (Nat.zero_add _)) (by rw [n1.2.1, n2.2.1]; exact hl) (by rw [n2.2.1]; refine Eq.trans ?_ (own_range (own_b ds) (.int 0) ds.length (by rw [own_b_len]; exact Nat.le_refl _)).symm; rw [← own_b_len ds, List.take_length]) (by rw [n1.2.1, n2.2.1, own_16_len (by rw [own_b_len]; omega)]; exact hl) ge_t_Z (own_safe16 hw w.hZ A) rfl d16_22 nle (Nat.le_of_eq rfl) nle (pc' := 25)
  replace w := w.goto (pc' := 43) d16_25
  rw [n1.2.1, n2.2.1] at A2
  have e16 := own_16_put (vs := own_b cs) (us := own_b ds) (by rw [own_b_len, own_b_len]; exact hl)
  rw [own_b_len, own_b_len] at e16
  rw [e16, ← own_b_app] at A2
  exact w.ret0 d16_43 ⟨rfl, K2, A2⟩ nle nle
/-! putStringAt -/
set_option maxRecDepth 65536 in
theorem rmPUT (l : Launch) (Z : State) (a0 : Array Value) (hw : ∀ d ∈ tables_1, d.before a0 Z = true) (hEL : EW Z a0 consts_1) (z0 : Int32) (Sc : Sta Z Z.heap "java/lang/String" "COMPACT_STRINGS" "Z" (.int z0)) (hz0 : ¬ z0 = 0) (b t : Addr) (kb : ClassId) (cs : List Int32) (x : Addr) (ds : List Int32) (hl : cs.length + ds.length ≤ 16) (h0 : Heap) (hx : Ext Z.heap h0) (T : SBd Z h0 b t kb cs) (U : Str Z h0 x ds) (ge_t_Z : Z.heap.size ≤ t) :
    Met l Z consts_1 (⟨"java/lang/AbstractStringBuilder", "putStringAt", "(ILjava/lang/String;)V"⟩ : MethodName) jdk_68_method_73_code 3 none [] ({ frames := 2, cells := 0, slots := 0, locals := 75 } : Room) #[.ref b, .int (Int32.ofNat cs.length), .ref x] h0 [] (fun v h => v = none ∧ Keep h0 h [t] ∧ Arv Z h t kb .byte 16 (own_16 (own_b (cs ++ ds))) (.int 0)) := by
  have T' := T
  obtain ⟨X_b, Fv, Fc, Fn, A⟩ := T
  have X_x := U.exa
  refine Met.of (a0 := a0) (by decide +kernel) hEL hx ?_
  intro p e s m below meth c S0 V w hs hsf
  replace w := w.to (g' := mkF m 0 #[.val (.ref b), .val (.int (Int32.ofNat cs.length)), .val (.ref x)] []) (by first | (simp [entryFrame, mkF, argsToLocals, Value.category]; done) | rfl)
  replace w := w.aloadN (pc' := 1) d14_0 rfl
  replace w := w.aloadN (pc' := 2) d14_1 rfl
  obtain ⟨v1, V1, h1, hq1, A1, w⟩ := w.priv (y' := (⟨"java/lang/AbstractStringBuilder", "inflateIfNeededFor", "(Ljava/lang/String;)V"⟩ : MethodName)) (W := 0) (C := "java/lang/StringBuilder") (b := b) (w.pays 0 (rmINF l Z a0 hw hEL z0 Sc hz0 b t kb cs x ds h0 w.old T' U) (hw _ (List.mem_of_getElem? (i := 97) rfl)) (hw _ (List.mem_of_getElem? (i := 50) rfl)) all0 nle nle) (hw _ (List.mem_of_getElem? (i := 93) rfl)) (hw _ (List.mem_of_getElem? (i := 94) rfl)) (hw _ (List.mem_of_getElem? (i := 95) rfl)) (hw _ (List.mem_of_getElem? (i := 96) rfl)) (hw _ (List.mem_of_getElem? (i := 97) rfl)) (argsL := [(.ref x)]) (rest := []) (by decide) (X_b) pd_2 rfl rfl (Nat.le_of_eq rfl) rfl d14_2 nle nle (pc' := 5)
  obtain ⟨rfl, he1⟩ := hq1
  replace w := w.to (g' := mkF m 5 #[.val (.ref b), .val (.int (Int32.ofNat cs.length)), .val (.ref x)] []) rfl
  replace he1 := he1.symm
  subst he1
  replace w := w.aloadN (pc' := 6) d14_5 rfl
  replace w := w.aloadN (pc' := 7) d14_6 rfl
  replace w := w.getF (hw _ (List.mem_of_getElem? (i := 54) rfl)) Fv d14_7 (pc' := 10)
  replace w := w.iloadN (pc' := 11) d14_10 rfl
  replace w := w.aloadN (pc' := 12) d14_11 rfl
  replace w := w.getF (hw _ (List.mem_of_getElem? (i := 56) rfl)) Fc d14_12 (pc' := 15)
  obtain ⟨v2, V2, h2, hq2, A2, w⟩ := w.virt (y' := (⟨"java/lang/String", "getBytes", "([BIB)V"⟩ : MethodName)) (W := 0) (C := "java/lang/String") (b := x) (w.pays 0 (rmGB l Z a0 hw hEL z0 Sc hz0 t kb cs x ds hl h0 w.old A U ge_t_Z) (hw _ (List.mem_of_getElem? (i := 103) rfl)) (hw _ (List.mem_of_getElem? (i := 1) rfl)) all0 nle nle) (hw _ (List.mem_of_getElem? (i := 99) rfl)) (hw _ (List.mem_of_getElem? (i := 100) rfl)) (hw _ (List.mem_of_getElem? (i := 102) rfl)) (hw _ (List.mem_of_getElem? (i := 101) rfl)) (argsL := [(.ref t), (.int (Int32.ofNat cs.length)), (.int (0 : Int32))]) (rest := []) (by decide) X_x pd_3 rfl rfl (Nat.le_of_eq rfl) rfl d14_15 nle nle (pc' := 18)
  obtain ⟨rfl, K2, A'⟩ := hq2
  replace w := w.to (g' := mkF m 18 #[.val (.ref b), .val (.int (Int32.ofNat cs.length)), .val (.ref x)] []) rfl
  exact w.ret0 d14_18 ⟨rfl, K2, A'⟩ nle nle
/-! append(String) -/
set_option maxRecDepth 65536 in
theorem rmABaS (l : Launch) (Z : State) (a0 : Array Value) (hw : ∀ d ∈ tables_1, d.before a0 Z = true) (hEL : EW Z a0 consts_1) (z0 : Int32) (Sc : Sta Z Z.heap "java/lang/String" "COMPACT_STRINGS" "Z" (.int z0)) (hz0 : ¬ z0 = 0) (b t : Addr) (kb : ClassId) (cs : List Int32) (x : Addr) (ds : List Int32) (hl : cs.length + ds.length ≤ 16) (h0 : Heap) (hx : Ext Z.heap h0) (T : SBd Z h0 b t kb cs) (U : Str Z h0 x ds) (ge_b_Z : Z.heap.size ≤ b) (ge_t_Z : Z.heap.size ≤ t) :
    Met l Z consts_1 (⟨"java/lang/AbstractStringBuilder", "append", "(Ljava/lang/String;)Ljava/lang/AbstractStringBuilder;"⟩ : MethodName) jdk_68_method_22_code 3 (some (.object "java/lang/AbstractStringBuilder")) [] ({ frames := 3, cells := 0, slots := 0, locals := 89 } : Room) #[.ref b, .ref x] h0 [] (fun v h => v = some (.ref b) ∧ Keep h0 h [b, t] ∧ SBd Z h b t kb (cs ++ ds)) := by
  have T' := T
  obtain ⟨X_b, Fv, Fc, Fn, A⟩ := T
  have X_x := U.exa
  have hwl := own_wordsLen hw
  have ne : b ≠ t := Exa.neArv X_b A (hw _ (List.mem_of_getElem? (i := 41) rfl))
  have ea := own_add32 (a := cs.length) (b := ds.length) (by omega)
  refine Met.of (a0 := a0) (by decide +kernel) hEL hx ?_
  intro p e s m below meth c S0 V w hs hsf
  replace w := w.to (g' := mkF m 0 #[.val (.ref b), .val (.ref x), .unset] []) (by first | (simp [entryFrame, mkF, argsToLocals, Value.category]; done) | rfl)
  replace w := w.aloadN (pc' := 1) d10_0 rfl
  replace w := w.ifnonnullYes (pc' := 9) d10_1 
  replace w := w.aloadN (pc' := 10) d10_9 rfl
  obtain ⟨v1, V1, h1, hq1, A1, w⟩ := w.virt (y' := (⟨"java/lang/String", "length", "()I"⟩ : MethodName)) (W := 0) (C := "java/lang/String") (b := x) (w.payLen (W := 0) hwl (hw _ (List.mem_of_getElem? (i := 2) rfl)) U Sc hz0 (by omega) nle nle) (hw _ (List.mem_of_getElem? (i := 68) rfl)) (hw _ (List.mem_of_getElem? (i := 69) rfl)) (hw _ (List.mem_of_getElem? (i := 71) rfl)) (hw _ (List.mem_of_getElem? (i := 70) rfl)) (argsL := []) (rest := []) (by decide) X_x pd_4 rfl rfl (Nat.le_of_eq rfl) rfl d10_10 nle nle (pc' := 13)
  obtain ⟨rfl, he1⟩ := hq1
  replace w := w.to (g' := mkF m 13 #[.val (.ref b), .val (.ref x), .unset] [(.int (Int32.ofNat ds.length))]) rfl
  replace he1 := he1.symm
  subst he1
  replace w := w.istoreN (pc' := 14) (L' := #[.val (.ref b), .val (.ref x), .val (.int (Int32.ofNat ds.length))]) d10_13 rfl
  replace w := w.aloadN (pc' := 15) d10_14 rfl
  replace w := w.aloadN (pc' := 16) d10_15 rfl
  replace w := w.getF (hw _ (List.mem_of_getElem? (i := 81) rfl)) Fn d10_16 (pc' := 19)
  replace w := w.iloadN (pc' := 20) d10_19 rfl
  replace w := w.iadd (pc' := 21) d10_20
  rw [ea] at w
  obtain ⟨v2, V2, h2, hq2, A2, w⟩ := w.priv (y' := (⟨"java/lang/AbstractStringBuilder", "ensureCapacityInternal", "(I)V"⟩ : MethodName)) (W := 0) (C := "java/lang/StringBuilder") (b := b) (w.pays 0 (rmENS l Z a0 hw hEL b t kb cs (cs.length + ds.length) hl h0 w.old T') (hw _ (List.mem_of_getElem? (i := 87) rfl)) (hw _ (List.mem_of_getElem? (i := 50) rfl)) all0 nle nle) (hw _ (List.mem_of_getElem? (i := 83) rfl)) (hw _ (List.mem_of_getElem? (i := 84) rfl)) (hw _ (List.mem_of_getElem? (i := 85) rfl)) (hw _ (List.mem_of_getElem? (i := 86) rfl)) (hw _ (List.mem_of_getElem? (i := 87) rfl)) (argsL := [(.int (Int32.ofNat (cs.length + ds.length)))]) (rest := []) (by decide) (X_b) pd_0 rfl rfl (Nat.le_of_eq rfl) rfl d10_21 nle nle (pc' := 24)
  obtain ⟨rfl, he2⟩ := hq2
  replace w := w.to (g' := mkF m 24 #[.val (.ref b), .val (.ref x), .val (.int (Int32.ofNat ds.length))] []) rfl
  replace he2 := he2.symm
  subst he2
  replace w := w.aloadN (pc' := 25) d10_24 rfl
  replace w := w.aloadN (pc' := 26) d10_25 rfl
  replace w := w.getF (hw _ (List.mem_of_getElem? (i := 81) rfl)) Fn d10_26 (pc' := 29)
  replace w := w.aloadN (pc' := 30) d10_29 rfl
  obtain ⟨v3, V3, h3, hq3, A3, w⟩ := w.priv (y' := (⟨"java/lang/AbstractStringBuilder", "putStringAt", "(ILjava/lang/String;)V"⟩ : MethodName)) (W := 0) (C := "java/lang/StringBuilder") (b := b) (w.pays 0 (rmPUT l Z a0 hw hEL z0 Sc hz0 b t kb cs x ds hl h0 w.old T' U ge_t_Z) (hw _ (List.mem_of_getElem? (i := 92) rfl)) (hw _ (List.mem_of_getElem? (i := 50) rfl)) all0 nle nle) (hw _ (List.mem_of_getElem? (i := 88) rfl)) (hw _ (List.mem_of_getElem? (i := 89) rfl)) (hw _ (List.mem_of_getElem? (i := 90) rfl)) (hw _ (List.mem_of_getElem? (i := 91) rfl)) (hw _ (List.mem_of_getElem? (i := 92) rfl)) (argsL := [(.int (Int32.ofNat cs.length)), (.ref x)]) (rest := []) (by decide) (X_b) pd_5 rfl rfl (Nat.le_of_eq rfl) rfl d10_30 nle nle (pc' := 33)
  obtain ⟨rfl, K3, A'⟩ := hq3
  replace w := w.to (g' := mkF m 33 #[.val (.ref b), .val (.ref x), .val (.int (Int32.ofNat ds.length))] []) rfl
  have X3 := X_b.keep K3
  have nb : b ∉ [t] := ninS ne nin0
  have Fn3 := Fn.keep K3 nb
  replace w := w.aloadN (pc' := 34) d10_33 rfl
  replace w := w.dup (pc' := 35) d10_34
  replace w := w.getF (hw _ (List.mem_of_getElem? (i := 81) rfl)) Fn3 d10_35 (pc' := 38)
  replace w := w.iloadN (pc' := 39) d10_38 rfl
  replace w := w.iadd (pc' := 40) d10_39
  rw [ea] at w
  obtain ⟨h4, W4, K4, Fw4, A4, w⟩ := w.putF (ty := .int) (hw _ (List.mem_of_getElem? (i := 81) rfl)) (Fn3) (X3) (Or.inl (hw _ (List.mem_of_getElem? (i := 82) rfl))) (hw _ (List.mem_of_getElem? (i := 41) rfl)) (by decide) rfl rfl (Safe.exa w.hZ.alike X3 (by decide) (by decide)) (ge_b_Z) d10_40 (pc' := 43)
  replace w := w.aloadN (pc' := 44) d10_43 rfl
  have K04 : Keep h0 h4 [b, t] := (((Keep.refl h0 [b, t])).trans K3 (allS (Or.inl (by simp)) all0)).trans K4 (allS (Or.inl (by simp)) all0)
  have ee : (cs ++ ds).length = cs.length + ds.length := List.length_append
  exact w.retA d10_44 ⟨rfl, K04, X3.wr W4, (Fv.keep K3 nb).other W4 (Or.inr (own_nv hw).symm), (Fc.keep K3 nb).other W4 (Or.inr (own_nc hw).symm), by rw [ee]; exact Fw4, A'.other W4 ne.symm⟩ nle nle
set_option maxRecDepth 65536 in
theorem rmSBaS (l : Launch) (Z : State) (a0 : Array Value) (hw : ∀ d ∈ tables_1, d.before a0 Z = true) (hEL : EW Z a0 consts_1) (z0 : Int32) (Sc : Sta Z Z.heap "java/lang/String" "COMPACT_STRINGS" "Z" (.int z0)) (hz0 : ¬ z0 = 0) (b t : Addr) (kb : ClassId) (cs : List Int32) (x : Addr) (ds : List Int32) (hl : cs.length + ds.length ≤ 16) (h0 : Heap) (hx : Ext Z.heap h0) (T : SBd Z h0 b t kb cs) (U : Str Z h0 x ds) (ge_b_Z : Z.heap.size ≤ b) (ge_t_Z : Z.heap.size ≤ t) :
    Met l Z consts_1 (⟨"java/lang/StringBuilder", "append", "(Ljava/lang/String;)Ljava/lang/StringBuilder;"⟩ : MethodName) jdk_67_method_7_code 2 (some (.object "java/lang/StringBuilder")) [] ({ frames := 4, cells := 0, slots := 0, locals := 103 } : Room) #[.ref b, .ref x] h0 [] (fun v h => v = some (.ref b) ∧ Keep h0 h [b, t] ∧ SBd Z h b t kb (cs ++ ds)) := by
  have X_b := T.1
  refine Met.of (a0 := a0) (by decide +kernel) hEL hx ?_
  intro p e s m below meth c S0 V w hs hsf
  replace w := w.to (g' := mkF m 0 #[.val (.ref b), .val (.ref x)] []) (by first | (simp [entryFrame, mkF, argsToLocals, Value.category]; done) | rfl)
  replace w := w.aloadN (pc' := 1) d9_0 rfl
  replace w := w.aloadN (pc' := 2) d9_1 rfl
  obtain ⟨v1, V1, h1, hq1, A1, w⟩ := w.super (y' := (⟨"java/lang/AbstractStringBuilder", "append", "(Ljava/lang/String;)Ljava/lang/AbstractStringBuilder;"⟩ : MethodName)) (W := 0) (b := b) (w.pays 0 (rmABaS l Z a0 hw hEL z0 Sc hz0 b t kb cs x ds hl h0 w.old T U ge_b_Z ge_t_Z) (hw _ (List.mem_of_getElem? (i := 67) rfl)) (hw _ (List.mem_of_getElem? (i := 50) rfl)) all0 nle nle) (hw _ (List.mem_of_getElem? (i := 63) rfl)) (own_same (y1 := (⟨"java/lang/AbstractStringBuilder", "append", "(Ljava/lang/String;)Ljava/lang/AbstractStringBuilder;"⟩ : MethodName)) (y2 := (⟨"java/lang/AbstractStringBuilder", "ensureCapacityInternal", "(I)V"⟩ : MethodName)) (hw _ (List.mem_of_getElem? (i := 64) rfl)) (hw _ (List.mem_of_getElem? (i := 84) rfl)) (hw _ (List.mem_of_getElem? (i := 86) rfl)) rfl (by decide)) (hw _ (List.mem_of_getElem? (i := 64) rfl)) (hw _ (List.mem_of_getElem? (i := 65) rfl)) (hw _ (List.mem_of_getElem? (i := 67) rfl)) (argsL := [(.ref x)]) (rest := []) (by decide) (X_b) pd_6 rfl rfl (Nat.le_of_eq rfl) rfl d9_2 nle nle (pc' := 5)
  obtain ⟨rfl, K1, T'⟩ := hq1
  replace w := w.to (g' := mkF m 5 #[.val (.ref b), .val (.ref x)] [(.ref b)]) rfl
  replace w := w.pop (pc' := 6) d9_5
  replace w := w.aloadN (pc' := 7) d9_6 rfl
  exact w.retA d9_7 ⟨rfl, K1, T'⟩ nle nle
/-! toString -/
set_option maxRecDepth 65536 in
theorem rmMIN (l : Launch) (Z : State) (a0 : Array Value) (hw : ∀ d ∈ tables_1, d.before a0 Z = true) (hEL : EW Z a0 consts_1) (a b : Int32) (hab : ¬ a < b) (h0 : Heap) (hx : Ext Z.heap h0) :
    Met l Z consts_1 (⟨"java/lang/Math", "min", "(II)I"⟩ : MethodName) jdk_29_method_69_code 2 (some .int) [] ({ frames := 0, cells := 0, slots := 0, locals := 0 } : Room) #[.int a, .int b] h0 [] (fun v h => v = some (.int b) ∧ h = h0) := by
  refine Met.of (a0 := a0) (by decide +kernel) hEL hx ?_
  intro p e s m below meth c S0 V w hs hsf
  replace w := w.to (g' := mkF m 0 #[.val (.int a), .val (.int b)] []) (by first | (simp [entryFrame, mkF, argsToLocals, Value.category]; done) | rfl)
  replace w := w.iloadN (pc' := 1) d31_0 rfl
  replace w := w.iloadN (pc' := 2) d31_1 rfl
  by_cases q : b < a
  ·
    replace w := w.icmpYes (pc' := 9) d31_2 ((tlt q).2.2.1)
    replace w := w.iloadN (pc' := 10) d31_9 rfl
    exact w.retI d31_10 ⟨rfl, rfl⟩ nle nle
  replace w := w.icmpNo (pc' := 5) d31_2 ((flt q).2.2.1)
  replace w := w.iloadN (pc' := 6) d31_5 rfl
  replace w := w.goto (pc' := 10) d31_6
  have e : a = b := Int32.le_antisymm (Int32.not_lt.mp q) (Int32.not_lt.mp hab)
  exact w.retI d31_10 ⟨by rw [e], rfl⟩ nle nle
set_option maxRecDepth 65536 in
theorem rmCHK (l : Launch) (Z : State) (a0 : Array Value) (hw : ∀ d ∈ tables_1, d.before a0 Z = true) (hEL : EW Z a0 consts_1) (a b : Int32) (hab : ¬ b < a) (h0 : Heap) (hx : Ext Z.heap h0) :
    Met l Z consts_1 (⟨"java/util/Arrays", "checkLength", "(II)V"⟩ : MethodName) jdk_65_method_131_code 2 none [] ({ frames := 0, cells := 0, slots := 0, locals := 0 } : Room) #[.int a, .int b] h0 [] (fun v h => v = none ∧ h = h0) := by
  refine Met.of (a0 := a0) (by decide +kernel) hEL hx ?_
  intro p e s m below meth c S0 V w hs hsf
  replace w := w.to (g' := mkF m 0 #[.val (.int a), .val (.int b)] []) (by first | (simp [entryFrame, mkF, argsToLocals, Value.category]; done) | rfl)
  replace w := w.iloadN (pc' := 1) d30_0 rfl
  replace w := w.iloadN (pc' := 2) d30_1 rfl
  replace w := w.icmpYes (pc' := 37) d30_2 ((flt hab).2.1)
  exact w.ret0 d30_37 ⟨rfl, rfl⟩ nle nle
set_option maxRecDepth 65536 in
theorem rmCORB (l : Launch) (Z : State) (a0 : Array Value) (hw : ∀ d ∈ tables_1, d.before a0 Z = true) (hEL : EW Z a0 consts_1) (t : Addr) (kb : ClassId) (vs : List Value) (n : Nat) (hn : n ≤ 16) (hvs : vs.length = 16) (h0 : Heap) (hx : Ext Z.heap h0) (A : Arv Z h0 t kb .byte 16 vs (.int 0)) :
    Met l Z consts_1 (⟨"java/util/Arrays", "copyOfRangeByte", "([BII)[B"⟩ : MethodName) jdk_65_method_133_code 5 (some (.array .byte)) [] ({ frames := 1, cells := 1, slots := 16, locals := 60 } : Room) #[.ref t, .int 0, .int (Int32.ofNat n)] h0 [] (fun v h => ∃ d kd, v = some (.ref d) ∧ Ext h0 h ∧ Arv Z h d kd .byte (Int32.ofNat n) (vs.take n) (.int 0)) := by
  have n1 := own_n32 (n := n) (by omega)
  refine Met.of (a0 := a0) (by decide +kernel) hEL hx ?_
  intro p e s m below meth c S0 V w hs hsf
  replace w := w.to (g' := mkF m 0 #[.val (.ref t), .val (.int (0 : Int32)), .val (.int (Int32.ofNat n)), .unset, .unset] []) (by first | (simp [entryFrame, mkF, argsToLocals, Value.category]; done) | rfl)
  have BZ := w.old
  have B0 := extR h0
  have C0 := CHr.refl w.ch
  replace w := w.iloadN (pc' := 1) d29_0 rfl
  replace w := w.iloadN (pc' := 2) d29_1 rfl
  obtain ⟨v1, V1, h1, hq1, A1, w⟩ := w.static (y' := (⟨"java/util/Arrays", "checkLength", "(II)V"⟩ : MethodName)) (W := 0) (w.pays 0 (rmCHK l Z a0 hw hEL 0 (Int32.ofNat n) n1.1 h0 w.old) (hw _ (List.mem_of_getElem? (i := 168) rfl)) (hw _ (List.mem_of_getElem? (i := 161) rfl)) all0 nle nle) (hw _ (List.mem_of_getElem? (i := 166) rfl)) (hw _ (List.mem_of_getElem? (i := 167) rfl)) (hw _ (List.mem_of_getElem? (i := 161) rfl)) (hw _ (List.mem_of_getElem? (i := 168) rfl)) (argsL := [(.int (0 : Int32)), (.int (Int32.ofNat n))]) (rest := []) (by decide) pd_7 rfl rfl (Nat.le_of_eq rfl) rfl d29_2 nle nle (pc' := 5)
  obtain ⟨rfl, he1⟩ := hq1
  replace w := w.to (g' := mkF m 5 #[.val (.ref t), .val (.int (0 : Int32)), .val (.int (Int32.ofNat n)), .unset, .unset] []) rfl
  replace he1 := he1.symm
  subst he1
  have C0 := C0.trans A1
  replace w := w.iloadN (pc' := 6) d29_5 rfl
  replace w := w.iloadN (pc' := 7) d29_6 rfl
  replace w := w.isub (pc' := 8) d29_7
  rw [show Int32.ofNat n - 0 = Int32.ofNat n from own_sub0 _] at w
  replace w := w.istoreN (pc' := 9) (L' := #[.val (.ref t), .val (.int (0 : Int32)), .val (.int (Int32.ofNat n)), .val (.int (Int32.ofNat n)), .unset]) d29_8 rfl
  replace w := w.iloadN (pc' := 10) d29_9 rfl
  obtain ⟨h2, d, k_d, g_d, E2, V_d, S_d, A2, w⟩ := w.newarr (cap := 16) (hw _ (List.mem_of_getElem? (i := 3) rfl)) d29_10 n1.1 (by rw [n1.2.1]; exact hn) nle nle (pc' := 12)
  have lt_d : d < h2.size := V_d.lt
  have ge_d_Z : Z.heap.size ≤ d := Nat.le_trans BZ.1 (Nat.le_of_eq g_d.symm)
  have ge_d_0 : h0.size ≤ d := Nat.le_trans B0.1 (Nat.le_of_eq g_d.symm)
  have BZ := extT BZ E2
  have B0 := extT B0 E2
  have C0 := C0.trans A2
  have B2 := extR h2
  have C2 := CHr.refl w.ch
  have V_d' := V_d.pad (vs' := List.replicate n (.int 0)) (pad_rep [] _ n)
  replace w := w.astore (pc' := 14) (L' := #[.val (.ref t), .val (.int (0 : Int32)), .val (.int (Int32.ofNat n)), .val (.int (Int32.ofNat n)), .val (.ref d)]) d29_12 rfl
  replace w := w.aloadN (pc' := 15) d29_14 rfl
  replace w := w.iloadN (pc' := 16) d29_15 rfl
  replace w := w.aload (pc' := 18) d29_16 rfl
  replace w := w.iconst (pc' := 19) (0 : Int32) d29_18
  replace w := w.aloadN (pc' := 20) d29_19 rfl
  have At := A.ext E2
  replace w := w.arrlen At d29_20 (pc' := 21)
  replace w := w.iloadN (pc' := 22) d29_21 rfl
  replace w := w.isub (pc' := 23) d29_22
  rw [show (16 : Int32) - 0 = 16 from by decide] at w
  replace w := w.iloadN (pc' := 24) d29_23 rfl
  obtain ⟨v3, V3, h3, hq3, A3, w⟩ := w.static (y' := (⟨"java/lang/Math", "min", "(II)I"⟩ : MethodName)) (W := 4) (w.pays 4 (rmMIN l Z a0 hw hEL 16 (Int32.ofNat n) (own_min16 hn) h2 w.old) (hw _ (List.mem_of_getElem? (i := 172) rfl)) (hw _ (List.mem_of_getElem? (i := 171) rfl)) all0 nle nle) (hw _ (List.mem_of_getElem? (i := 169) rfl)) (hw _ (List.mem_of_getElem? (i := 170) rfl)) (hw _ (List.mem_of_getElem? (i := 171) rfl)) (hw _ (List.mem_of_getElem? (i := 172) rfl)) (argsL := [(.int (16 : Int32)), (.int (Int32.ofNat n))]) (rest := [(.int (0 : Int32)), (.ref d), (.int (0 : Int32)), (.ref t)]) (by decide) pd_8 rfl rfl (Nat.le_of_eq rfl) rfl d29_24 nle nle (pc' := 27)
  obtain ⟨rfl, he3⟩ := hq3
  replace w := w.to (g' := mkF m 27 #[.val (.ref t), .val (.int (0 : Int32)), .val (.int (Int32.ofNat n)), .val (.int (Int32.ofNat n)), .val (.ref d)] [(.int (Int32.ofNat n)), (.int (0 : Int32)), (.ref d), (.int (0 : Int32)), (.ref t)]) rfl
  replace he3 := he3.symm
  subst he3
  have C0 := C0.trans A3
  have C2 := C2.trans A3
  have Sd := C2.safe lt_d S_d
  obtain ⟨h4, K4, A4, C4, w⟩ := w.arrcopy (W := 0) (us := vs.take n) (hw _ (List.mem_of_getElem? (i := 173) rfl)) (hw _ (List.mem_of_getElem? (i := 107) rfl)) (hw _ (List.mem_of_getElem? (i := 105) rfl)) (hw _ (List.mem_of_getElem? (i := 106) rfl)) (A.ext E2) V_d' (by decide) (by decide) n1.1 (by rw [n1.2.1]; show 0 + n ≤ 16; omega) (by rw [n1.2.1]; exact Nat.le_of_eq (Nat.zero_add _)) (by rw [n1.2.1]; exact (own_range vs (.int 0) n (by omega)).symm) (by rw [n1.2.1, List.length_replicate]; exact Nat.le_of_eq (Nat.zero_add _)) ge_d_Z Sd rfl d29_27 nle (Nat.le_of_eq rfl) nle (pc' := 30)
  replace w := w.aload (pc' := 32) d29_30 rfl
  have A4' : Arv Z h4 d k_d .byte (Int32.ofNat n) (vs.take n) (.int 0) := by
    have e : (List.replicate n (Value.int 0)).take (0 : Int32).toNatClampNeg ++ vs.take n ++ (List.replicate n (Value.int 0)).drop ((0 : Int32).toNatClampNeg + (Int32.ofNat n).toNatClampNeg) = vs.take n := by
      rw [n1.2.1]
      show [] ++ vs.take n ++ (List.replicate n (Value.int 0)).drop (0 + n) = _
      rw [Nat.zero_add, List.drop_eq_nil_of_le (by rw [List.length_replicate]; exact Nat.le_refl _)]; simp
    rw [e] at A4; exact A4
  exact w.retA d29_32 ⟨d, k_d, rfl, extK B0 K4 (allS ge_d_0 all0), A4'⟩ nle nle
set_option maxRecDepth 65536 in
theorem rmCOR (l : Launch) (Z : State) (a0 : Array Value) (hw : ∀ d ∈ tables_1, d.before a0 Z = true) (hEL : EW Z a0 consts_1) (t : Addr) (kb : ClassId) (vs : List Value) (n : Nat) (hn : n < 16) (hvs : vs.length = 16) (h0 : Heap) (hx : Ext Z.heap h0) (A : Arv Z h0 t kb .byte 16 vs (.int 0)) :
    Met l Z consts_1 (⟨"java/util/Arrays", "copyOfRange", "([BII)[B"⟩ : MethodName) jdk_65_method_132_code 3 (some (.array .byte)) [] ({ frames := 2, cells := 1, slots := 16, locals := 76 } : Room) #[.ref t, .int 0, .int (Int32.ofNat n)] h0 [] (fun v h => ∃ d kd, v = some (.ref d) ∧ Ext h0 h ∧ Arv Z h d kd .byte (Int32.ofNat n) (vs.take n) (.int 0)) := by
  refine Met.of (a0 := a0) (by decide +kernel) hEL hx ?_
  intro p e s m below meth c S0 V w hs hsf
  replace w := w.to (g' := mkF m 0 #[.val (.ref t), .val (.int (0 : Int32)), .val (.int (Int32.ofNat n))] []) (by first | (simp [entryFrame, mkF, argsToLocals, Value.category]; done) | rfl)
  replace w := w.iloadN (pc' := 1) d28_0 rfl
  replace w := w.ifNo (pc' := 4) d28_1 (by decide)
  replace w := w.iloadN (pc' := 5) d28_4 rfl
  replace w := w.aloadN (pc' := 6) d28_5 rfl
  replace w := w.arrlen A d28_6 (pc' := 7)
  replace w := w.icmpNo (pc' := 10) d28_7 ((feq (fun q => Nat.ne_of_lt hn ((own_eq32 (b := 16) (by omega) (by omega)).mp q))).1)
  replace w := w.aloadN (pc' := 11) d28_10 rfl
  replace w := w.iloadN (pc' := 12) d28_11 rfl
  replace w := w.iloadN (pc' := 13) d28_12 rfl
  obtain ⟨v1, V1, h1, hq1, A1, w⟩ := w.static (y' := (⟨"java/util/Arrays", "copyOfRangeByte", "([BII)[B"⟩ : MethodName)) (W := 0) (w.pays 0 (rmCORB l Z a0 hw hEL t kb vs n (Nat.le_of_lt hn) hvs h0 w.old A) (hw _ (List.mem_of_getElem? (i := 165) rfl)) (hw _ (List.mem_of_getElem? (i := 161) rfl)) all0 nle nle) (hw _ (List.mem_of_getElem? (i := 163) rfl)) (hw _ (List.mem_of_getElem? (i := 164) rfl)) (hw _ (List.mem_of_getElem? (i := 161) rfl)) (hw _ (List.mem_of_getElem? (i := 165) rfl)) (argsL := [(.ref t), (.int (0 : Int32)), (.int (Int32.ofNat n))]) (rest := []) (by decide) pd_9 rfl rfl (Nat.le_of_eq rfl) rfl d28_13 nle nle (pc' := 16)
  obtain ⟨d, kd, rfl, E1, D⟩ := hq1
  replace w := w.to (g' := mkF m 16 #[.val (.ref t), .val (.int (0 : Int32)), .val (.int (Int32.ofNat n))] [(.ref d)]) rfl
  exact w.retA d28_16 ⟨d, kd, rfl, E1, D⟩ nle nle
set_option maxRecDepth 65536 in
theorem rmISL (l : Launch) (Z : State) (a0 : Array Value) (hw : ∀ d ∈ tables_1, d.before a0 Z = true) (hEL : EW Z a0 consts_1) (z0 : Int32) (Sc : Sta Z Z.heap "java/lang/String" "COMPACT_STRINGS" "Z" (.int z0)) (hz0 : ¬ z0 = 0) (b t : Addr) (kb : ClassId) (cs : List Int32) (h0 : Heap) (hx : Ext Z.heap h0) (T : SBd Z h0 b t kb cs) :
    Met l Z consts_1 (⟨"java/lang/AbstractStringBuilder", "isLatin1", "()Z"⟩ : MethodName) jdk_68_method_68_code 1 (some .boolean) [] ({ frames := 0, cells := 0, slots := 0, locals := 0 } : Room) #[.ref b] h0 [] (fun v h => v = some (.int 1) ∧ h = h0) := by
  obtain ⟨X, Fv, Fc, Fn, A⟩ := T
  refine Met.of (a0 := a0) (by decide +kernel) hEL hx ?_
  intro p e s m below meth c S0 V w hs hsf
  replace w := w.to (g' := mkF m 0 #[.val (.ref b)] []) (by first | (simp [entryFrame, mkF, argsToLocals, Value.category]; done) | rfl)
  replace w := w.getS (hw _ (List.mem_of_getElem? (i := 53) rfl)) Sc d20_0 (pc' := 3)
  replace w := w.ifNo (pc' := 6) d20_3 ((if0 _ _).trans (feq hz0).1)
  replace w := w.aloadN (pc' := 7) d20_6 rfl
  replace w := w.getF (hw _ (List.mem_of_getElem? (i := 56) rfl)) Fc d20_7 (pc' := 10)
  replace w := w.ifNo (pc' := 13) d20_10 (by decide)
  replace w := w.iconst (pc' := 14) (1 : Int32) d20_13
  replace w := w.goto (pc' := 18) d20_14
  exact w.retN d20_18 (by simp) ⟨rfl, rfl⟩ nle nle
set_option maxRecDepth 65536 in
theorem rmABL (l : Launch) (Z : State) (a0 : Array Value) (hw : ∀ d ∈ tables_1, d.before a0 Z = true) (hEL : EW Z a0 consts_1) (b t : Addr) (kb : ClassId) (cs : List Int32) (h0 : Heap) (hx : Ext Z.heap h0) (T : SBd Z h0 b t kb cs) :
    Met l Z consts_1 (⟨"java/lang/AbstractStringBuilder", "length", "()I"⟩ : MethodName) jdk_68_method_6_code 1 (some .int) [] ({ frames := 0, cells := 0, slots := 0, locals := 0 } : Room) #[.ref b] h0 [] (fun v h => v = some (.int (Int32.ofNat cs.length)) ∧ h = h0) := by
  obtain ⟨X, Fv, Fc, Fn, A⟩ := T
  refine Met.of (a0 := a0) (by decide +kernel) hEL hx ?_
  intro p e s m below meth c S0 V w hs hsf
  replace w := w.to (g' := mkF m 0 #[.val (.ref b)] []) (by first | (simp [entryFrame, mkF, argsToLocals, Value.category]; done) | rfl)
  replace w := w.aloadN (pc' := 1) d27_0 rfl
  replace w := w.getF (hw _ (List.mem_of_getElem? (i := 81) rfl)) Fn d27_1 (pc' := 4)
  exact w.retI d27_4 ⟨rfl, rfl⟩ nle nle
set_option maxRecDepth 65536 in
theorem rmSBL (l : Launch) (Z : State) (a0 : Array Value) (hw : ∀ d ∈ tables_1, d.before a0 Z = true) (hEL : EW Z a0 consts_1) (b t : Addr) (kb : ClassId) (cs : List Int32) (h0 : Heap) (hx : Ext Z.heap h0) (T : SBd Z h0 b t kb cs) :
    Met l Z consts_1 (⟨"java/lang/StringBuilder", "length", "()I"⟩ : MethodName) jdk_67_method_93_code 1 (some .int) [] ({ frames := 1, cells := 0, slots := 0, locals := 12 } : Room) #[.ref b] h0 [] (fun v h => v = some (.int (Int32.ofNat cs.length)) ∧ h = h0) := by
  have X_b := T.1
  refine Met.of (a0 := a0) (by decide +kernel) hEL hx ?_
  intro p e s m below meth c S0 V w hs hsf
  replace w := w.to (g' := mkF m 0 #[.val (.ref b)] []) (by first | (simp [entryFrame, mkF, argsToLocals, Value.category]; done) | rfl)
  replace w := w.aloadN (pc' := 1) d26_0 rfl
  obtain ⟨v1, V1, h1, hq1, A1, w⟩ := w.super (y' := (⟨"java/lang/AbstractStringBuilder", "length", "()I"⟩ : MethodName)) (W := 0) (b := b) (w.pays 0 (rmABL l Z a0 hw hEL b t kb cs h0 w.old T) (hw _ (List.mem_of_getElem? (i := 157) rfl)) (hw _ (List.mem_of_getElem? (i := 50) rfl)) all0 nle nle) (hw _ (List.mem_of_getElem? (i := 156) rfl)) (own_same (y1 := (⟨"java/lang/AbstractStringBuilder", "length", "()I"⟩ : MethodName)) (y2 := (⟨"java/lang/AbstractStringBuilder", "ensureCapacityInternal", "(I)V"⟩ : MethodName)) (hw _ (List.mem_of_getElem? (i := 152) rfl)) (hw _ (List.mem_of_getElem? (i := 84) rfl)) (hw _ (List.mem_of_getElem? (i := 86) rfl)) rfl (by decide)) (hw _ (List.mem_of_getElem? (i := 152) rfl)) (hw _ (List.mem_of_getElem? (i := 65) rfl)) (hw _ (List.mem_of_getElem? (i := 157) rfl)) (argsL := []) (rest := []) (by decide) (X_b) pd_4 rfl rfl (Nat.le_of_eq rfl) rfl d26_1 nle nle (pc' := 4)
  obtain ⟨rfl, he1⟩ := hq1
  replace w := w.to (g' := mkF m 4 #[.val (.ref b)] [(.int (Int32.ofNat cs.length))]) rfl
  replace he1 := he1.symm
  subst he1
  exact w.retI d26_4 ⟨rfl, rfl⟩ nle nle
set_option maxRecDepth 65536 in
theorem rmGV (l : Launch) (Z : State) (a0 : Array Value) (hw : ∀ d ∈ tables_1, d.before a0 Z = true) (hEL : EW Z a0 consts_1) (b t : Addr) (kb : ClassId) (cs : List Int32) (h0 : Heap) (hx : Ext Z.heap h0) (T : SBd Z h0 b t kb cs) :
    Met l Z consts_1 (⟨"java/lang/AbstractStringBuilder", "getValue", "()[B"⟩ : MethodName) jdk_68_method_64_code 1 (some (.array .byte)) [] ({ frames := 0, cells := 0, slots := 0, locals := 0 } : Room) #[.ref b] h0 [] (fun v h => v = some (.ref t) ∧ h = h0) := by
  obtain ⟨X, Fv, Fc, Fn, A⟩ := T
  refine Met.of (a0 := a0) (by decide +kernel) hEL hx ?_
  intro p e s m below meth c S0 V w hs hsf
  replace w := w.to (g' := mkF m 0 #[.val (.ref b)] []) (by first | (simp [entryFrame, mkF, argsToLocals, Value.category]; done) | rfl)
  replace w := w.aloadN (pc' := 1) d25_0 rfl
  replace w := w.getF (hw _ (List.mem_of_getElem? (i := 54) rfl)) Fv d25_1 (pc' := 4)
  exact w.retA d25_4 ⟨rfl, rfl⟩ nle nle
set_option maxRecDepth 65536 in
theorem rmSIV (l : Launch) (Z : State) (a0 : Array Value) (hw : ∀ d ∈ tables_1, d.before a0 Z = true) (hEL : EW Z a0 consts_1) (z0 : Int32) (Sc : Sta Z Z.heap "java/lang/String" "COMPACT_STRINGS" "Z" (.int z0)) (hz0 : ¬ z0 = 0) (x b t : Addr) (kb : ClassId) (cs : List Int32) (hp : ∀ c ∈ cs, ¬ c < 0 ∧ ¬ (255 : Int32) < c) (hl : cs.length < 16) (h0 : Heap) (hx : Ext Z.heap h0) (T : SBd Z h0 b t kb cs) (X_x : Exa Z h0 x "java/lang/String") (Gv : Fld Z h0 x "java/lang/String" "value" "[B" .null) (Gc : Fld Z h0 x "java/lang/String" "coder" "B" (.int 0)) (ge_x_Z : Z.heap.size ≤ x) :
    Met l Z consts_1 (⟨"java/lang/String", "<init>", "(Ljava/lang/AbstractStringBuilder;Ljava/lang/Void;)V"⟩ : MethodName) jdk_42_method_150_code 5 none [] ({ frames := 3, cells := 1, slots := 16, locals := 91 } : Room) #[.ref x, .ref b, .null] h0 [x] (fun v h => v = none ∧ Keep h0 h [x] ∧ Str Z h x cs) := by
  have T' := T
  obtain ⟨X_b, Fv, Fc, Fn, A⟩ := T
  have ne : x ≠ t := Exa.neArv X_x A (hw _ (List.mem_of_getElem? (i := 2) rfl))
  refine Met.of (a0 := a0) (by decide +kernel) hEL hx ?_
  intro p e s m below meth c S0 V w hs hsf
  have Sx := hsf x (List.mem_cons_self ..)
  replace w := w.to (g' := mkF m 0 #[.val (.ref x), .val (.ref b), .val .null, .unset, .unset] []) (by first | (simp [entryFrame, mkF, argsToLocals, Value.category]; done) | rfl)
  have B0 := extR h0
  have C0 := CHr.refl w.ch
  replace w := w.aloadN (pc' := 1) d24_0 rfl
  replace w := w.initO 0 (hw _ (List.mem_of_getElem? (i := 144) rfl)) (hw _ (List.mem_of_getElem? (i := 29) rfl)) (hw _ (List.mem_of_getElem? (i := 30) rfl)) rfl d24_1 (by decide) (Nat.le_of_eq rfl) (by decide) (pc' := 4)
  replace w := w.aloadN (pc' := 5) d24_4 rfl
  obtain ⟨v1, V1, h1, hq1, A1, w⟩ := w.virt (y' := (⟨"java/lang/AbstractStringBuilder", "getValue", "()[B"⟩ : MethodName)) (W := 0) (C := "java/lang/StringBuilder") (b := b) (w.pays 0 (rmGV l Z a0 hw hEL b t kb cs h0 w.old T') (hw _ (List.mem_of_getElem? (i := 149) rfl)) (hw _ (List.mem_of_getElem? (i := 50) rfl)) all0 nle nle) (hw _ (List.mem_of_getElem? (i := 145) rfl)) (hw _ (List.mem_of_getElem? (i := 146) rfl)) (hw _ (List.mem_of_getElem? (i := 148) rfl)) (hw _ (List.mem_of_getElem? (i := 147) rfl)) (argsL := []) (rest := []) (by decide) X_b pd_10 rfl rfl (Nat.le_of_eq rfl) rfl d24_5 nle nle (pc' := 8)
  obtain ⟨rfl, he1⟩ := hq1
  replace w := w.to (g' := mkF m 8 #[.val (.ref x), .val (.ref b), .val .null, .unset, .unset] [(.ref t)]) rfl
  replace he1 := he1.symm
  subst he1
  have C0 := C0.trans A1
  replace w := w.astoreN (pc' := 9) (L' := #[.val (.ref x), .val (.ref b), .val .null, .val (.ref t), .unset]) d24_8 rfl
  replace w := w.aloadN (pc' := 10) d24_9 rfl
  obtain ⟨v2, V2, h2, hq2, A2, w⟩ := w.virtual (y' := (⟨"java/lang/AbstractStringBuilder", "length", "()I"⟩ : MethodName)) (z := (⟨"java/lang/StringBuilder", "length", "()I"⟩ : MethodName)) (W := 0) (C := "java/lang/StringBuilder") (b := b) (w.pays 0 (rmSBL l Z a0 hw hEL b t kb cs h0 w.old T') (hw _ (List.mem_of_getElem? (i := 155) rfl)) (hw _ (List.mem_of_getElem? (i := 42) rfl)) all0 nle nle) (hw _ (List.mem_of_getElem? (i := 150) rfl)) (hw _ (List.mem_of_getElem? (i := 151) rfl)) (own_nf (s := s.setVm V1) (y1 := (⟨"java/lang/AbstractStringBuilder", "length", "()I"⟩ : MethodName)) (y2 := (⟨"java/lang/AbstractStringBuilder", "ensureCapacityInternal", "(I)V"⟩ : MethodName)) w.hZ (hw _ (List.mem_of_getElem? (i := 84) rfl)) (hw _ (List.mem_of_getElem? (i := 86) rfl)) rfl) (hw _ (List.mem_of_getElem? (i := 153) rfl)) (hw _ (List.mem_of_getElem? (i := 154) rfl)) (argsL := []) (rest := []) (by decide) X_b pd_4 rfl rfl (Nat.le_of_eq rfl) rfl d24_10 nle nle (pc' := 13)
  obtain ⟨rfl, he2⟩ := hq2
  replace w := w.to (g' := mkF m 13 #[.val (.ref x), .val (.ref b), .val .null, .val (.ref t), .unset] [(.int (Int32.ofNat cs.length))]) rfl
  replace he2 := he2.symm
  subst he2
  have C0 := C0.trans A2
  replace w := w.istore (pc' := 15) (L' := #[.val (.ref x), .val (.ref b), .val .null, .val (.ref t), .val (.int (Int32.ofNat cs.length))]) d24_13 rfl
  replace w := w.aloadN (pc' := 16) d24_15 rfl
  obtain ⟨v3, V3, h3, hq3, A3, w⟩ := w.virt (y' := (⟨"java/lang/AbstractStringBuilder", "isLatin1", "()Z"⟩ : MethodName)) (W := 0) (C := "java/lang/StringBuilder") (b := b) (w.pays 0 (rmISL l Z a0 hw hEL z0 Sc hz0 b t kb cs h0 w.old T') (hw _ (List.mem_of_getElem? (i := 126) rfl)) (hw _ (List.mem_of_getElem? (i := 50) rfl)) all0 nle nle) (hw _ (List.mem_of_getElem? (i := 158) rfl)) (hw _ (List.mem_of_getElem? (i := 123) rfl)) (hw _ (List.mem_of_getElem? (i := 125) rfl)) (hw _ (List.mem_of_getElem? (i := 124) rfl)) (argsL := []) (rest := []) (by decide) X_b pd_11 rfl rfl (Nat.le_of_eq rfl) rfl d24_16 nle nle (pc' := 19)
  obtain ⟨rfl, he3⟩ := hq3
  replace w := w.to (g' := mkF m 19 #[.val (.ref x), .val (.ref b), .val .null, .val (.ref t), .val (.int (Int32.ofNat cs.length))] [(.int (1 : Int32))]) rfl
  replace he3 := he3.symm
  subst he3
  have C0 := C0.trans A3
  replace w := w.ifNo (pc' := 22) d24_19 (by decide)
  replace w := w.aloadN (pc' := 23) d24_22 rfl
  replace w := w.iconst (pc' := 24) (0 : Int32) d24_23
  have Sx3 := C0.safe X_x.lt Sx
  obtain ⟨h4, W4, K4, Fw4, A4, w⟩ := w.putFN (v' := (.int (0 : Int32))) (ty := .byte) (hw _ (List.mem_of_getElem? (i := 80) rfl)) (Gc) (X_x) (Or.inr ⟨(hw _ (List.mem_of_getElem? (i := 5) rfl)), rfl, rfl⟩) (hw _ (List.mem_of_getElem? (i := 2) rfl)) (by decide) (rfl) (by decide) (Sx3) (ge_x_Z) d24_24 (pc' := 27)
  have X4 := X_x.wr W4
  have A4' := A.other W4 ne.symm
  have Gv4 := Gv.other W4 (Or.inr (own_svc hw))
  have Sx4 := A4.safe X_x.lt Sx3
  replace w := w.aloadN (pc' := 28) d24_27 rfl
  replace w := w.aloadN (pc' := 29) d24_28 rfl
  replace w := w.iconst (pc' := 30) (0 : Int32) d24_29
  replace w := w.iload (pc' := 32) d24_30 rfl
  obtain ⟨v5, V5, h5, hq5, A5, w⟩ := w.static (y' := (⟨"java/util/Arrays", "copyOfRange", "([BII)[B"⟩ : MethodName)) (W := 1) (w.pays 1 (rmCOR l Z a0 hw hEL t kb _ cs.length hl (own_16_len (by rw [own_b_len]; omega)) h4 w.old A4') (hw _ (List.mem_of_getElem? (i := 162) rfl)) (hw _ (List.mem_of_getElem? (i := 161) rfl)) all0 nle nle) (hw _ (List.mem_of_getElem? (i := 159) rfl)) (hw _ (List.mem_of_getElem? (i := 160) rfl)) (hw _ (List.mem_of_getElem? (i := 161) rfl)) (hw _ (List.mem_of_getElem? (i := 162) rfl)) (argsL := [(.ref t), (.int (0 : Int32)), (.int (Int32.ofNat cs.length))]) (rest := [(.ref x)]) (by decide) pd_9 rfl rfl (Nat.le_of_eq rfl) rfl d24_32 nle nle (pc' := 35)
  obtain ⟨d, kd, rfl, E5, D⟩ := hq5
  replace w := w.to (g' := mkF m 35 #[.val (.ref x), .val (.ref b), .val .null, .val (.ref t), .val (.int (Int32.ofNat cs.length))] [(.ref d), (.ref x)]) rfl
  have X5 := X4.ext E5
  have ne2 : x ≠ d := Exa.neArv X5 D (hw _ (List.mem_of_getElem? (i := 2) rfl))
  have Sx5 := A5.safe X4.lt Sx4
  obtain ⟨h6, W6, K6, Fw6, A6, w⟩ := w.putF (ty := (.array .byte)) (hw _ (List.mem_of_getElem? (i := 73) rfl)) (Gv4.ext E5) (X5) (Or.inr ⟨(hw _ (List.mem_of_getElem? (i := 4) rfl)), rfl, rfl⟩) (hw _ (List.mem_of_getElem? (i := 2) rfl)) (by decide) rfl rfl (Sx5) (ge_x_Z) d24_35 (pc' := 38)
  have K06 : Keep h0 h6 [x] := ((((Keep.refl h0 [x])).trans K4 (allS (Or.inl (List.mem_cons_self ..)) all0)).ext E5).trans K6 (allS (Or.inl (List.mem_cons_self ..)) all0)
  replace w := w.goto (pc' := 97) d24_38
  have eb : (own_16 (own_b cs)).take cs.length = own_b cs := by
    have := own_16_take (own_b cs)
    rw [own_b_len] at this; exact this
  rw [eb] at D
  exact w.ret0 d24_97 ⟨rfl, K06, hp, d, kd, X5.wr W6, Fw6, (Fw4.ext E5).other W6 (Or.inr (own_svc hw).symm), D.other W6 ne2.symm⟩ nle nle
set_option maxRecDepth 65536 in
theorem rmSI (l : Launch) (Z : State) (a0 : Array Value) (hw : ∀ d ∈ tables_1, d.before a0 Z = true) (hEL : EW Z a0 consts_1) (z0 : Int32) (Sc : Sta Z Z.heap "java/lang/String" "COMPACT_STRINGS" "Z" (.int z0)) (hz0 : ¬ z0 = 0) (x b t : Addr) (kb : ClassId) (cs : List Int32) (hp : ∀ c ∈ cs, ¬ c < 0 ∧ ¬ (255 : Int32) < c) (hl : cs.length < 16) (h0 : Heap) (hx : Ext Z.heap h0) (T : SBd Z h0 b t kb cs) (X_x : Exa Z h0 x "java/lang/String") (Gv : Fld Z h0 x "java/lang/String" "value" "[B" .null) (Gc : Fld Z h0 x "java/lang/String" "coder" "B" (.int 0)) (ge_x_Z : Z.heap.size ≤ x) :
    Met l Z consts_1 (⟨"java/lang/String", "<init>", "(Ljava/lang/StringBuilder;)V"⟩ : MethodName) jdk_42_method_53_code 2 none [] ({ frames := 4, cells := 1, slots := 16, locals := 107 } : Room) #[.ref x, .ref b] h0 [x] (fun v h => v = none ∧ Keep h0 h [x] ∧ Str Z h x cs) := by
  refine Met.of (a0 := a0) (by decide +kernel) hEL hx ?_
  intro p e s m below meth c S0 V w hs hsf
  have Sx := hsf x (List.mem_cons_self ..)
  replace w := w.to (g' := mkF m 0 #[.val (.ref x), .val (.ref b)] []) (by first | (simp [entryFrame, mkF, argsToLocals, Value.category]; done) | rfl)
  replace w := w.aloadN (pc' := 1) d23_0 rfl
  replace w := w.aloadN (pc' := 2) d23_1 rfl
  replace w := w.aconstNull (pc' := 3) d23_2
  obtain ⟨v1, V1, h1, hq1, A1, w⟩ := w.ctor (y' := (⟨"java/lang/String", "<init>", "(Ljava/lang/AbstractStringBuilder;Ljava/lang/Void;)V"⟩ : MethodName)) (W := 0) (a := x) (w.pays 0 (rmSIV l Z a0 hw hEL z0 Sc hz0 x b t kb cs hp hl h0 w.old T X_x Gv Gc ge_x_Z) (hw _ (List.mem_of_getElem? (i := 143) rfl)) (hw _ (List.mem_of_getElem? (i := 1) rfl)) (allS Sx all0) nle nle) rfl (hw _ (List.mem_of_getElem? (i := 141) rfl)) (hw _ (List.mem_of_getElem? (i := 142) rfl)) (hw _ (List.mem_of_getElem? (i := 143) rfl)) (argsL := [(.ref b), .null]) (rest := []) (by decide) pd_12 rfl rfl (Nat.le_of_eq rfl) rfl d23_3 nle nle (pc' := 6)
  obtain ⟨rfl, K1, U⟩ := hq1
  replace w := w.to (g' := mkF m 6 #[.val (.ref x), .val (.ref b)] []) rfl
  exact w.ret0 d23_6 ⟨rfl, K1, U⟩ nle nle
set_option maxRecDepth 65536 in
theorem rmTS (l : Launch) (Z : State) (a0 : Array Value) (hw : ∀ d ∈ tables_1, d.before a0 Z = true) (hEL : EW Z a0 consts_1) (z0 : Int32) (Sc : Sta Z Z.heap "java/lang/String" "COMPACT_STRINGS" "Z" (.int z0)) (hz0 : ¬ z0 = 0) (b t : Addr) (kb : ClassId) (cs : List Int32) (hp : ∀ c ∈ cs, ¬ c < 0 ∧ ¬ (255 : Int32) < c) (hl : cs.length < 16) (h0 : Heap) (hx : Ext Z.heap h0) (T : SBd Z h0 b t kb cs) :
    Met l Z consts_1 (⟨"java/lang/StringBuilder", "toString", "()Ljava/lang/String;"⟩ : MethodName) jdk_67_method_42_code 1 (some (.object "java/lang/String")) [] ({ frames := 5, cells := 2, slots := 20, locals := 121 } : Room) #[.ref b] h0 [] (fun v h => ∃ x, v = some (.ref x) ∧ Ext h0 h ∧ Str Z h x cs) := by
  refine Met.of (a0 := a0) (by decide +kernel) hEL hx ?_
  intro p e s m below meth c S0 V w hs hsf
  replace w := w.to (g' := mkF m 0 #[.val (.ref b)] []) (by first | (simp [entryFrame, mkF, argsToLocals, Value.category]; done) | rfl)
  have BZ := w.old
  have B0 := extR h0
  have C0 := CHr.refl w.ch
  obtain ⟨h1, x, g_x, E1, X_x, D_x, S_x, A1, w⟩ := w.new (hw _ (List.mem_of_getElem? (i := 136) rfl)) (hw _ (List.mem_of_getElem? (i := 2) rfl)) (hw _ (List.mem_of_getElem? (i := 1) rfl)) d22_0 nle nle (pc' := 3)
  have lt_x : x < h1.size := X_x.lt
  have ge_x_Z : Z.heap.size ≤ x := Nat.le_trans BZ.1 (Nat.le_of_eq g_x.symm)
  have ge_x_0 : h0.size ≤ x := Nat.le_trans B0.1 (Nat.le_of_eq g_x.symm)
  have F_x_value := D_x (Or.inr (hw _ (List.mem_of_getElem? (i := 4) rfl))) (ty := (.array .byte)) (by decide)
  have F_x_coder := D_x (Or.inr (hw _ (List.mem_of_getElem? (i := 5) rfl))) (ty := .byte) (by decide)
  have BZ := extT BZ E1
  have B0 := extT B0 E1
  have C0 := C0.trans A1
  replace w := w.dup (pc' := 4) d22_3
  replace w := w.aloadN (pc' := 5) d22_4 rfl
  obtain ⟨v2, V2, h2, hq2, A2, w⟩ := w.ctor (y' := (⟨"java/lang/String", "<init>", "(Ljava/lang/StringBuilder;)V"⟩ : MethodName)) (W := 1) (a := x) (w.pays 1 (rmSI l Z a0 hw hEL z0 Sc hz0 x b t kb cs hp hl h1 w.old (T.ext B0) X_x F_x_value F_x_coder ge_x_Z) (hw _ (List.mem_of_getElem? (i := 140) rfl)) (hw _ (List.mem_of_getElem? (i := 1) rfl)) (allS S_x all0) nle nle) rfl (hw _ (List.mem_of_getElem? (i := 137) rfl)) (hw _ (List.mem_of_getElem? (i := 138) rfl)) (hw _ (List.mem_of_getElem? (i := 140) rfl)) (argsL := [(.ref b)]) (rest := [(.ref x)]) (by decide) pd_13 rfl rfl (Nat.le_of_eq rfl) rfl d22_5 nle nle (pc' := 8)
  obtain ⟨rfl, K2, U⟩ := hq2
  replace w := w.to (g' := mkF m 8 #[.val (.ref b)] [(.ref x)]) rfl
  have BZ := extK BZ K2 (allS ge_x_Z all0)
  have B0 := extK B0 K2 (allS ge_x_0 all0)
  have C0 := C0.trans A2
  exact w.retA d22_8 ⟨x, rfl, B0, U⟩ nle nle
theorem d1_0 : decode method_5_code 0 = .ok (.iload 4, 2) := by decide +kernel
theorem d1_2 : decode method_5_code 2 = .ok (.iload_n 2, 1) := by decide +kernel
theorem d1_3 : decode method_5_code 3 = .ok (.if_icmp .ge 29, 3) := by decide +kernel
theorem d1_6 : decode method_5_code 6 = .ok (.aload_n 0, 1) := by decide +kernel
theorem d1_7 : decode method_5_code 7 = .ok (.iload_n 1, 1) := by decide +kernel
theorem d1_8 : decode method_5_code 8 = .ok (.iconst 1, 1) := by decide +kernel
theorem d1_9 : decode method_5_code 9 = .ok (.iadd, 1) := by decide +kernel
theorem d1_10 : decode method_5_code 10 = .ok (.iload 4, 2) := by decide +kernel
theorem d1_12 : decode method_5_code 12 = .ok (.iadd, 1) := by decide +kernel
theorem d1_13 : decode method_5_code 13 = .ok (.bipush 48, 2) := by decide +kernel
theorem d1_15 : decode method_5_code 15 = .ok (.iload_n 3, 1) := by decide +kernel
theorem d1_16 : decode method_5_code 16 = .ok (.iload_n 2, 1) := by decide +kernel
theorem d1_17 : decode method_5_code 17 = .ok (.iconst 1, 1) := by decide +kernel
theorem d1_18 : decode method_5_code 18 = .ok (.isub, 1) := by decide +kernel
theorem d1_19 : decode method_5_code 19 = .ok (.iload 4, 2) := by decide +kernel
theorem d1_21 : decode method_5_code 21 = .ok (.isub, 1) := by decide +kernel
theorem d1_22 : decode method_5_code 22 = .ok (.invokestatic 46, 3) := by decide +kernel
theorem d1_25 : decode method_5_code 25 = .ok (.idiv, 1) := by decide +kernel
theorem d1_26 : decode method_5_code 26 = .ok (.bipush 10, 2) := by decide +kernel
theorem d1_28 : decode method_5_code 28 = .ok (.irem, 1) := by decide +kernel
theorem d1_29 : decode method_5_code 29 = .ok (.iadd, 1) := by decide +kernel
theorem d1_30 : decode method_5_code 30 = .ok (.i2c, 1) := by decide +kernel
theorem d1_31 : decode method_5_code 31 = .ok (.castore, 1) := by decide +kernel
theorem d1_32 : decode method_5_code 32 = .ok (.return_, 1) := by decide +kernel
theorem d2_0 : decode method_4_code 0 = .ok (.iload_n 0, 1) := by decide +kernel
theorem d2_1 : decode method_4_code 1 = .ok (.ifCond .ne 5, 3) := by decide +kernel
theorem d2_4 : decode method_4_code 4 = .ok (.iconst 1, 1) := by decide +kernel
theorem d2_5 : decode method_4_code 5 = .ok (.ireturn, 1) := by decide +kernel
theorem d2_6 : decode method_4_code 6 = .ok (.iload_n 0, 1) := by decide +kernel
theorem d2_7 : decode method_4_code 7 = .ok (.iconst 1, 1) := by decide +kernel
theorem d2_8 : decode method_4_code 8 = .ok (.if_icmp .ne 6, 3) := by decide +kernel
theorem d2_11 : decode method_4_code 11 = .ok (.bipush 10, 2) := by decide +kernel
theorem d2_13 : decode method_4_code 13 = .ok (.ireturn, 1) := by decide +kernel
theorem d2_14 : decode method_4_code 14 = .ok (.iload_n 0, 1) := by decide +kernel
theorem d2_15 : decode method_4_code 15 = .ok (.iconst 2, 1) := by decide +kernel
theorem d2_16 : decode method_4_code 16 = .ok (.if_icmp .ne 6, 3) := by decide +kernel
theorem d2_19 : decode method_4_code 19 = .ok (.bipush 100, 2) := by decide +kernel
theorem d2_21 : decode method_4_code 21 = .ok (.ireturn, 1) := by decide +kernel
theorem d2_22 : decode method_4_code 22 = .ok (.iload_n 0, 1) := by decide +kernel
theorem d2_23 : decode method_4_code 23 = .ok (.iconst 3, 1) := by decide +kernel
theorem d2_24 : decode method_4_code 24 = .ok (.if_icmp .ne 7, 3) := by decide +kernel
theorem d2_27 : decode method_4_code 27 = .ok (.sipush 1000, 3) := by decide +kernel
theorem d2_30 : decode method_4_code 30 = .ok (.ireturn, 1) := by decide +kernel
theorem d2_31 : decode method_4_code 31 = .ok (.sipush 10000, 3) := by decide +kernel
theorem d2_34 : decode method_4_code 34 = .ok (.ireturn, 1) := by decide +kernel
theorem d3_0 : decode prog_3_method_1_code 0 = .ok (.aload_n 0, 1) := by decide +kernel
theorem d3_1 : decode prog_3_method_1_code 1 = .ok (.invokespecial 1, 3) := by decide +kernel
theorem d3_4 : decode prog_3_method_1_code 4 = .ok (.aload_n 0, 1) := by decide +kernel
theorem d3_5 : decode prog_3_method_1_code 5 = .ok (.aload_n 1, 1) := by decide +kernel
theorem d3_6 : decode prog_3_method_1_code 6 = .ok (.putfield 7, 3) := by decide +kernel
theorem d3_9 : decode prog_3_method_1_code 9 = .ok (.aload_n 0, 1) := by decide +kernel
theorem d3_10 : decode prog_3_method_1_code 10 = .ok (.iload_n 2, 1) := by decide +kernel
theorem d3_11 : decode prog_3_method_1_code 11 = .ok (.putfield 13, 3) := by decide +kernel
theorem d3_14 : decode prog_3_method_1_code 14 = .ok (.return_, 1) := by decide +kernel
theorem d4_0 : decode jdk_30_method_1_code 0 = .ok (.aload_n 0, 1) := by decide +kernel
theorem d4_1 : decode jdk_30_method_1_code 1 = .ok (.invokespecial 1, 3) := by decide +kernel
theorem d4_4 : decode jdk_30_method_1_code 4 = .ok (.return_, 1) := by decide +kernel
theorem d6_0 : decode prog_3_method_6_code 0 = .ok (.new 17, 3) := by decide +kernel
theorem d6_3 : decode prog_3_method_6_code 3 = .ok (.dup, 1) := by decide +kernel
theorem d6_4 : decode prog_3_method_6_code 4 = .ok (.invokespecial 19, 3) := by decide +kernel
theorem d6_7 : decode prog_3_method_6_code 7 = .ok (.aload_n 0, 1) := by decide +kernel
theorem d6_8 : decode prog_3_method_6_code 8 = .ok (.getfield 7, 3) := by decide +kernel
theorem d6_11 : decode prog_3_method_6_code 11 = .ok (.invokevirtual 22, 3) := by decide +kernel
theorem d6_14 : decode prog_3_method_6_code 14 = .ok (.ldc 107, 2) := by decide +kernel
theorem d6_16 : decode prog_3_method_6_code 16 = .ok (.invokevirtual 22, 3) := by decide +kernel
theorem d6_19 : decode prog_3_method_6_code 19 = .ok (.aload_n 0, 1) := by decide +kernel
theorem d6_20 : decode prog_3_method_6_code 20 = .ok (.getfield 13, 3) := by decide +kernel
theorem d6_23 : decode prog_3_method_6_code 23 = .ok (.invokevirtual 109, 3) := by decide +kernel
theorem d6_26 : decode prog_3_method_6_code 26 = .ok (.invokevirtual 26, 3) := by decide +kernel
theorem d6_29 : decode prog_3_method_6_code 29 = .ok (.areturn, 1) := by decide +kernel
theorem d17_0 : decode jdk_67_method_15_code 0 = .ok (.aload_n 0, 1) := by decide +kernel
theorem d17_1 : decode jdk_67_method_15_code 1 = .ok (.iload_n 1, 1) := by decide +kernel
theorem d17_2 : decode jdk_67_method_15_code 2 = .ok (.invokespecial 53, 3) := by decide +kernel
theorem d17_5 : decode jdk_67_method_15_code 5 = .ok (.pop, 1) := by decide +kernel
theorem d17_6 : decode jdk_67_method_15_code 6 = .ok (.aload_n 0, 1) := by decide +kernel
theorem d17_7 : decode jdk_67_method_15_code 7 = .ok (.areturn, 1) := by decide +kernel
theorem d18_0 : decode jdk_68_method_32_code 0 = .ok (.aload_n 0, 1) := by decide +kernel
theorem d18_1 : decode jdk_68_method_32_code 1 = .ok (.getfield 79, 3) := by decide +kernel
theorem d18_4 : decode jdk_68_method_32_code 4 = .ok (.istore_n 2, 1) := by decide +kernel
theorem d18_5 : decode jdk_68_method_32_code 5 = .ok (.iload_n 2, 1) := by decide +kernel
theorem d18_6 : decode jdk_68_method_32_code 6 = .ok (.iload_n 1, 1) := by decide +kernel
theorem d18_7 : decode jdk_68_method_32_code 7 = .ok (.invokestatic 245, 3) := by decide +kernel
theorem d18_10 : decode jdk_68_method_32_code 10 = .ok (.iadd, 1) := by decide +kernel
theorem d18_11 : decode jdk_68_method_32_code 11 = .ok (.istore_n 3, 1) := by decide +kernel
theorem d18_12 : decode jdk_68_method_32_code 12 = .ok (.aload_n 0, 1) := by decide +kernel
theorem d18_13 : decode jdk_68_method_32_code 13 = .ok (.iload_n 3, 1) := by decide +kernel
theorem d18_14 : decode jdk_68_method_32_code 14 = .ok (.invokevirtual 100, 3) := by decide +kernel
theorem d18_17 : decode jdk_68_method_32_code 17 = .ok (.aload_n 0, 1) := by decide +kernel
theorem d18_18 : decode jdk_68_method_32_code 18 = .ok (.invokevirtual 83, 3) := by decide +kernel
theorem d18_21 : decode jdk_68_method_32_code 21 = .ok (.ifCond .eq 16, 3) := by decide +kernel
theorem d18_24 : decode jdk_68_method_32_code 24 = .ok (.iload_n 1, 1) := by decide +kernel
theorem d18_25 : decode jdk_68_method_32_code 25 = .ok (.iload_n 3, 1) := by decide +kernel
theorem d18_26 : decode jdk_68_method_32_code 26 = .ok (.aload_n 0, 1) := by decide +kernel
theorem d18_27 : decode jdk_68_method_32_code 27 = .ok (.getfield 15, 3) := by decide +kernel
theorem d18_30 : decode jdk_68_method_32_code 30 = .ok (.invokestatic 248, 3) := by decide +kernel
theorem d18_33 : decode jdk_68_method_32_code 33 = .ok (.pop, 1) := by decide +kernel
theorem d18_34 : decode jdk_68_method_32_code 34 = .ok (.goto 14, 3) := by decide +kernel
theorem d18_37 : decode jdk_68_method_32_code 37 = .ok (.iload_n 1, 1) := by decide +kernel
theorem d18_38 : decode jdk_68_method_32_code 38 = .ok (.iload_n 2, 1) := by decide +kernel
theorem d18_39 : decode jdk_68_method_32_code 39 = .ok (.iload_n 3, 1) := by decide +kernel
theorem d18_40 : decode jdk_68_method_32_code 40 = .ok (.aload_n 0, 1) := by decide +kernel
theorem d18_41 : decode jdk_68_method_32_code 41 = .ok (.getfield 15, 3) := by decide +kernel
theorem d18_44 : decode jdk_68_method_32_code 44 = .ok (.invokestatic 251, 3) := by decide +kernel
theorem d18_47 : decode jdk_68_method_32_code 47 = .ok (.pop, 1) := by decide +kernel
theorem d18_48 : decode jdk_68_method_32_code 48 = .ok (.aload_n 0, 1) := by decide +kernel
theorem d18_49 : decode jdk_68_method_32_code 49 = .ok (.iload_n 3, 1) := by decide +kernel
theorem d18_50 : decode jdk_68_method_32_code 50 = .ok (.putfield 79, 3) := by decide +kernel
theorem d18_53 : decode jdk_68_method_32_code 53 = .ok (.aload_n 0, 1) := by decide +kernel
theorem d18_54 : decode jdk_68_method_32_code 54 = .ok (.areturn, 1) := by decide +kernel
theorem d19_0 : decode jdk_33_method_13_code 0 = .ok (.iconst 1, 1) := by decide +kernel
theorem d19_1 : decode jdk_33_method_13_code 1 = .ok (.istore_n 1, 1) := by decide +kernel
theorem d19_2 : decode jdk_33_method_13_code 2 = .ok (.iload_n 0, 1) := by decide +kernel
theorem d19_3 : decode jdk_33_method_13_code 3 = .ok (.ifCond .lt 8, 3) := by decide +kernel
theorem d19_6 : decode jdk_33_method_13_code 6 = .ok (.iconst 0, 1) := by decide +kernel
theorem d19_7 : decode jdk_33_method_13_code 7 = .ok (.istore_n 1, 1) := by decide +kernel
theorem d19_8 : decode jdk_33_method_13_code 8 = .ok (.iload_n 0, 1) := by decide +kernel
theorem d19_9 : decode jdk_33_method_13_code 9 = .ok (.ineg, 1) := by decide +kernel
theorem d19_10 : decode jdk_33_method_13_code 10 = .ok (.istore_n 0, 1) := by decide +kernel
theorem d19_11 : decode jdk_33_method_13_code 11 = .ok (.bipush (-10), 2) := by decide +kernel
theorem d19_13 : decode jdk_33_method_13_code 13 = .ok (.istore_n 2, 1) := by decide +kernel
theorem d19_14 : decode jdk_33_method_13_code 14 = .ok (.iconst 1, 1) := by decide +kernel
theorem d19_15 : decode jdk_33_method_13_code 15 = .ok (.istore_n 3, 1) := by decide +kernel
theorem d19_16 : decode jdk_33_method_13_code 16 = .ok (.iload_n 3, 1) := by decide +kernel
theorem d19_17 : decode jdk_33_method_13_code 17 = .ok (.bipush 10, 2) := by decide +kernel
theorem d19_19 : decode jdk_33_method_13_code 19 = .ok (.if_icmp .ge 23, 3) := by decide +kernel
theorem d19_22 : decode jdk_33_method_13_code 22 = .ok (.iload_n 0, 1) := by decide +kernel
theorem d19_23 : decode jdk_33_method_13_code 23 = .ok (.iload_n 2, 1) := by decide +kernel
theorem d19_24 : decode jdk_33_method_13_code 24 = .ok (.if_icmp .le 7, 3) := by decide +kernel
theorem d19_27 : decode jdk_33_method_13_code 27 = .ok (.iload_n 3, 1) := by decide +kernel
theorem d19_28 : decode jdk_33_method_13_code 28 = .ok (.iload_n 1, 1) := by decide +kernel
theorem d19_29 : decode jdk_33_method_13_code 29 = .ok (.iadd, 1) := by decide +kernel
theorem d19_30 : decode jdk_33_method_13_code 30 = .ok (.ireturn, 1) := by decide +kernel
theorem d19_31 : decode jdk_33_method_13_code 31 = .ok (.bipush 10, 2) := by decide +kernel
theorem d19_33 : decode jdk_33_method_13_code 33 = .ok (.iload_n 2, 1) := by decide +kernel
theorem d19_34 : decode jdk_33_method_13_code 34 = .ok (.imul, 1) := by decide +kernel
theorem d19_35 : decode jdk_33_method_13_code 35 = .ok (.istore_n 2, 1) := by decide +kernel
theorem d19_36 : decode jdk_33_method_13_code 36 = .ok (.iinc 3 1, 3) := by decide +kernel
theorem d19_39 : decode jdk_33_method_13_code 39 = .ok (.goto (-23), 3) := by decide +kernel
theorem d19_42 : decode jdk_33_method_13_code 42 = .ok (.bipush 10, 2) := by decide +kernel
theorem d19_44 : decode jdk_33_method_13_code 44 = .ok (.iload_n 1, 1) := by decide +kernel
theorem d19_45 : decode jdk_33_method_13_code 45 = .ok (.iadd, 1) := by decide +kernel
theorem d19_46 : decode jdk_33_method_13_code 46 = .ok (.ireturn, 1) := by decide +kernel
theorem d21_0 : decode jdk_33_method_12_code 0 = .ok (.iload_n 1, 1) := by decide +kernel
theorem d21_1 : decode jdk_33_method_12_code 1 = .ok (.istore 5, 2) := by decide +kernel
theorem d21_3 : decode jdk_33_method_12_code 3 = .ok (.iload_n 0, 1) := by decide +kernel
theorem d21_4 : decode jdk_33_method_12_code 4 = .ok (.ifCond .ge 7, 3) := by decide +kernel
theorem d21_7 : decode jdk_33_method_12_code 7 = .ok (.iconst 1, 1) := by decide +kernel
theorem d21_8 : decode jdk_33_method_12_code 8 = .ok (.goto 4, 3) := by decide +kernel
theorem d21_11 : decode jdk_33_method_12_code 11 = .ok (.iconst 0, 1) := by decide +kernel
theorem d21_12 : decode jdk_33_method_12_code 12 = .ok (.istore 6, 2) := by decide +kernel
theorem d21_14 : decode jdk_33_method_12_code 14 = .ok (.iload 6, 2) := by decide +kernel
theorem d21_16 : decode jdk_33_method_12_code 16 = .ok (.ifCond .ne 6, 3) := by decide +kernel
theorem d21_19 : decode jdk_33_method_12_code 19 = .ok (.iload_n 0, 1) := by decide +kernel
theorem d21_20 : decode jdk_33_method_12_code 20 = .ok (.ineg, 1) := by decide +kernel
theorem d21_21 : decode jdk_33_method_12_code 21 = .ok (.istore_n 0, 1) := by decide +kernel
theorem d21_22 : decode jdk_33_method_12_code 22 = .ok (.iload_n 0, 1) := by decide +kernel
theorem d21_23 : decode jdk_33_method_12_code 23 = .ok (.bipush (-100), 2) := by decide +kernel
theorem d21_25 : decode jdk_33_method_12_code 25 = .ok (.if_icmp .gt 47, 3) := by decide +kernel
theorem d21_28 : decode jdk_33_method_12_code 28 = .ok (.iload_n 0, 1) := by decide +kernel
theorem d21_29 : decode jdk_33_method_12_code 29 = .ok (.bipush 100, 2) := by decide +kernel
theorem d21_31 : decode jdk_33_method_12_code 31 = .ok (.idiv, 1) := by decide +kernel
theorem d21_32 : decode jdk_33_method_12_code 32 = .ok (.istore_n 3, 1) := by decide +kernel
theorem d21_33 : decode jdk_33_method_12_code 33 = .ok (.iload_n 3, 1) := by decide +kernel
theorem d21_34 : decode jdk_33_method_12_code 34 = .ok (.bipush 100, 2) := by decide +kernel
theorem d21_36 : decode jdk_33_method_12_code 36 = .ok (.imul, 1) := by decide +kernel
theorem d21_37 : decode jdk_33_method_12_code 37 = .ok (.iload_n 0, 1) := by decide +kernel
theorem d21_38 : decode jdk_33_method_12_code 38 = .ok (.isub, 1) := by decide +kernel
theorem d21_39 : decode jdk_33_method_12_code 39 = .ok (.istore 4, 2) := by decide +kernel
theorem d21_41 : decode jdk_33_method_12_code 41 = .ok (.iload_n 3, 1) := by decide +kernel
theorem d21_42 : decode jdk_33_method_12_code 42 = .ok (.istore_n 0, 1) := by decide +kernel
theorem d21_43 : decode jdk_33_method_12_code 43 = .ok (.aload_n 2, 1) := by decide +kernel
theorem d21_44 : decode jdk_33_method_12_code 44 = .ok (.iinc 5 (-1), 3) := by decide +kernel
theorem d21_47 : decode jdk_33_method_12_code 47 = .ok (.iload 5, 2) := by decide +kernel
theorem d21_49 : decode jdk_33_method_12_code 49 = .ok (.getstatic 83, 3) := by decide +kernel
theorem d21_52 : decode jdk_33_method_12_code 52 = .ok (.iload 4, 2) := by decide +kernel
theorem d21_54 : decode jdk_33_method_12_code 54 = .ok (.baload, 1) := by decide +kernel
theorem d21_55 : decode jdk_33_method_12_code 55 = .ok (.bastore, 1) := by decide +kernel
theorem d21_56 : decode jdk_33_method_12_code 56 = .ok (.aload_n 2, 1) := by decide +kernel
theorem d21_57 : decode jdk_33_method_12_code 57 = .ok (.iinc 5 (-1), 3) := by decide +kernel
theorem d21_60 : decode jdk_33_method_12_code 60 = .ok (.iload 5, 2) := by decide +kernel
theorem d21_62 : decode jdk_33_method_12_code 62 = .ok (.getstatic 87, 3) := by decide +kernel
theorem d21_65 : decode jdk_33_method_12_code 65 = .ok (.iload 4, 2) := by decide +kernel
theorem d21_67 : decode jdk_33_method_12_code 67 = .ok (.baload, 1) := by decide +kernel
theorem d21_68 : decode jdk_33_method_12_code 68 = .ok (.bastore, 1) := by decide +kernel
theorem d21_69 : decode jdk_33_method_12_code 69 = .ok (.goto (-47), 3) := by decide +kernel
theorem d21_72 : decode jdk_33_method_12_code 72 = .ok (.aload_n 2, 1) := by decide +kernel
theorem d21_73 : decode jdk_33_method_12_code 73 = .ok (.iinc 5 (-1), 3) := by decide +kernel
theorem d21_76 : decode jdk_33_method_12_code 76 = .ok (.iload 5, 2) := by decide +kernel
theorem d21_78 : decode jdk_33_method_12_code 78 = .ok (.getstatic 83, 3) := by decide +kernel
theorem d21_81 : decode jdk_33_method_12_code 81 = .ok (.iload_n 0, 1) := by decide +kernel
theorem d21_82 : decode jdk_33_method_12_code 82 = .ok (.ineg, 1) := by decide +kernel
theorem d21_83 : decode jdk_33_method_12_code 83 = .ok (.baload, 1) := by decide +kernel
theorem d21_84 : decode jdk_33_method_12_code 84 = .ok (.bastore, 1) := by decide +kernel
theorem d21_85 : decode jdk_33_method_12_code 85 = .ok (.iload_n 0, 1) := by decide +kernel
theorem d21_86 : decode jdk_33_method_12_code 86 = .ok (.bipush (-9), 2) := by decide +kernel
theorem d21_88 : decode jdk_33_method_12_code 88 = .ok (.if_icmp .ge 16, 3) := by decide +kernel
theorem d21_91 : decode jdk_33_method_12_code 91 = .ok (.aload_n 2, 1) := by decide +kernel
theorem d21_92 : decode jdk_33_method_12_code 92 = .ok (.iinc 5 (-1), 3) := by decide +kernel
theorem d21_95 : decode jdk_33_method_12_code 95 = .ok (.iload 5, 2) := by decide +kernel
theorem d21_97 : decode jdk_33_method_12_code 97 = .ok (.getstatic 87, 3) := by decide +kernel
theorem d21_100 : decode jdk_33_method_12_code 100 = .ok (.iload_n 0, 1) := by decide +kernel
theorem d21_101 : decode jdk_33_method_12_code 101 = .ok (.ineg, 1) := by decide +kernel
theorem d21_102 : decode jdk_33_method_12_code 102 = .ok (.baload, 1) := by decide +kernel
theorem d21_103 : decode jdk_33_method_12_code 103 = .ok (.bastore, 1) := by decide +kernel
theorem d21_104 : decode jdk_33_method_12_code 104 = .ok (.iload 6, 2) := by decide +kernel
theorem d21_106 : decode jdk_33_method_12_code 106 = .ok (.ifCond .eq 12, 3) := by decide +kernel
theorem d21_109 : decode jdk_33_method_12_code 109 = .ok (.aload_n 2, 1) := by decide +kernel
theorem d21_110 : decode jdk_33_method_12_code 110 = .ok (.iinc 5 (-1), 3) := by decide +kernel
theorem d21_113 : decode jdk_33_method_12_code 113 = .ok (.iload 5, 2) := by decide +kernel
theorem d21_115 : decode jdk_33_method_12_code 115 = .ok (.bipush 45, 2) := by decide +kernel
theorem d21_117 : decode jdk_33_method_12_code 117 = .ok (.bastore, 1) := by decide +kernel
theorem d21_118 : decode jdk_33_method_12_code 118 = .ok (.iload 5, 2) := by decide +kernel
theorem d21_120 : decode jdk_33_method_12_code 120 = .ok (.ireturn, 1) := by decide +kernel
theorem d32_0 : decode method_3_code 0 = .ok (.iload_n 2, 1) := by decide +kernel
theorem d32_1 : decode method_3_code 1 = .ok (.aload_n 0, 1) := by decide +kernel
theorem d32_2 : decode method_3_code 2 = .ok (.invokevirtual 34, 3) := by decide +kernel
theorem d32_5 : decode method_3_code 5 = .ok (.if_icmp .ge 14, 3) := by decide +kernel
theorem d32_8 : decode method_3_code 8 = .ok (.aload_n 0, 1) := by decide +kernel
theorem d32_9 : decode method_3_code 9 = .ok (.iload_n 2, 1) := by decide +kernel
theorem d32_10 : decode method_3_code 10 = .ok (.invokevirtual 42, 3) := by decide +kernel
theorem d32_13 : decode method_3_code 13 = .ok (.aload_n 1, 1) := by decide +kernel
theorem d32_14 : decode method_3_code 14 = .ok (.iload_n 2, 1) := by decide +kernel
theorem d32_15 : decode method_3_code 15 = .ok (.caload, 1) := by decide +kernel
theorem d32_16 : decode method_3_code 16 = .ok (.if_icmp .ne 7, 3) := by decide +kernel
theorem d32_19 : decode method_3_code 19 = .ok (.iconst 1, 1) := by decide +kernel
theorem d32_20 : decode method_3_code 20 = .ok (.goto 4, 3) := by decide +kernel
theorem d32_23 : decode method_3_code 23 = .ok (.iconst 0, 1) := by decide +kernel
theorem d32_24 : decode method_3_code 24 = .ok (.ireturn, 1) := by decide +kernel
theorem d43_0 : decode jdk_42_method_139_code 0 = .ok (.getstatic 38, 3) := by decide +kernel
theorem d43_3 : decode jdk_42_method_139_code 3 = .ok (.ifCond .eq 23, 3) := by decide +kernel
theorem d43_6 : decode jdk_42_method_139_code 6 = .ok (.iload_n 0, 1) := by decide +kernel
theorem d43_7 : decode jdk_42_method_139_code 7 = .ok (.invokestatic 1015, 3) := by decide +kernel
theorem d43_10 : decode jdk_42_method_139_code 10 = .ok (.ifCond .eq 16, 3) := by decide +kernel
theorem d43_13 : decode jdk_42_method_139_code 13 = .ok (.new 10, 3) := by decide +kernel
theorem d43_16 : decode jdk_42_method_139_code 16 = .ok (.dup, 1) := by decide +kernel
theorem d43_17 : decode jdk_42_method_139_code 17 = .ok (.iload_n 0, 1) := by decide +kernel
theorem d43_18 : decode jdk_42_method_139_code 18 = .ok (.invokestatic 1018, 3) := by decide +kernel
theorem d43_21 : decode jdk_42_method_139_code 21 = .ok (.iconst 0, 1) := by decide +kernel
theorem d43_22 : decode jdk_42_method_139_code 22 = .ok (.invokespecial 209, 3) := by decide +kernel
theorem d43_25 : decode jdk_42_method_139_code 25 = .ok (.areturn, 1) := by decide +kernel
theorem d43_26 : decode jdk_42_method_139_code 26 = .ok (.new 10, 3) := by decide +kernel
theorem d43_29 : decode jdk_42_method_139_code 29 = .ok (.dup, 1) := by decide +kernel
theorem d43_30 : decode jdk_42_method_139_code 30 = .ok (.iload_n 0, 1) := by decide +kernel
theorem d43_31 : decode jdk_42_method_139_code 31 = .ok (.invokestatic 1021, 3) := by decide +kernel
theorem d43_34 : decode jdk_42_method_139_code 34 = .ok (.iconst 1, 1) := by decide +kernel
theorem d43_35 : decode jdk_42_method_139_code 35 = .ok (.invokespecial 209, 3) := by decide +kernel
theorem d43_38 : decode jdk_42_method_139_code 38 = .ok (.areturn, 1) := by decide +kernel
theorem d44_0 : decode jdk_43_method_3_code 0 = .ok (.iload_n 0, 1) := by decide +kernel
theorem d44_1 : decode jdk_43_method_3_code 1 = .ok (.sipush 255, 3) := by decide +kernel
theorem d44_4 : decode jdk_43_method_3_code 4 = .ok (.if_icmp .gt 7, 3) := by decide +kernel
theorem d44_7 : decode jdk_43_method_3_code 7 = .ok (.iconst 1, 1) := by decide +kernel
theorem d44_8 : decode jdk_43_method_3_code 8 = .ok (.goto 4, 3) := by decide +kernel
theorem d44_11 : decode jdk_43_method_3_code 11 = .ok (.iconst 0, 1) := by decide +kernel
theorem d44_12 : decode jdk_43_method_3_code 12 = .ok (.ireturn, 1) := by decide +kernel
theorem d45_0 : decode jdk_43_method_46_code 0 = .ok (.iconst 1, 1) := by decide +kernel
theorem d45_1 : decode jdk_43_method_46_code 1 = .ok (.newarray .byte, 2) := by decide +kernel
theorem d45_3 : decode jdk_43_method_46_code 3 = .ok (.dup, 1) := by decide +kernel
theorem d45_4 : decode jdk_43_method_46_code 4 = .ok (.iconst 0, 1) := by decide +kernel
theorem d45_5 : decode jdk_43_method_46_code 5 = .ok (.iload_n 0, 1) := by decide +kernel
theorem d45_6 : decode jdk_43_method_46_code 6 = .ok (.i2b, 1) := by decide +kernel
theorem d45_7 : decode jdk_43_method_46_code 7 = .ok (.bastore, 1) := by decide +kernel
theorem d45_8 : decode jdk_43_method_46_code 8 = .ok (.areturn, 1) := by decide +kernel
theorem d46_0 : decode jdk_42_method_151_code 0 = .ok (.aload_n 0, 1) := by decide +kernel
theorem d46_1 : decode jdk_42_method_151_code 1 = .ok (.invokespecial 1, 3) := by decide +kernel
theorem d46_4 : decode jdk_42_method_151_code 4 = .ok (.aload_n 0, 1) := by decide +kernel
theorem d46_5 : decode jdk_42_method_151_code 5 = .ok (.aload_n 1, 1) := by decide +kernel
theorem d46_6 : decode jdk_42_method_151_code 6 = .ok (.putfield 9, 3) := by decide +kernel
theorem d46_9 : decode jdk_42_method_151_code 9 = .ok (.aload_n 0, 1) := by decide +kernel
theorem d46_10 : decode jdk_42_method_151_code 10 = .ok (.iload_n 2, 1) := by decide +kernel
theorem d46_11 : decode jdk_42_method_151_code 11 = .ok (.putfield 15, 3) := by decide +kernel
theorem d46_14 : decode jdk_42_method_151_code 14 = .ok (.return_, 1) := by decide +kernel
theorem own_wordsCh {Z : State} {a0 : Array Value} (hw : ∀ d ∈ tables_1, d.before a0 Z = true) : ∀ d ∈ StrChars.Road.wordsChN, d.before a0 Z = true := fun d hd => hw d ((by decide +kernel : ∀ d ∈ StrChars.Road.wordsChN, d ∈ tables_1) d hd)
/-! numbers -/
theorem own_m32 {n : Nat} (h : n < 2147483648) : ¬ Int32.ofNat n < 0 ∧ (Int32.ofNat n).toNatClampNeg = n ∧ (Int32.ofNat n).toInt = n := by
  have h31 : n < 2 ^ 31 := by omega
  have h0 : ¬ Int32.ofNat n < 0 := Int32.ofNat_not_neg h31
  have h2 : (Int32.ofNat n).toInt = n := Int32.toInt_ofNat_small h31
  have h1 := nat_of h0
  exact ⟨h0, by omega, h2⟩
theorem own_neg {N : Nat} (h : N < 100000) : (-(Int32.ofNat N)).toInt = -(N : Int) := by
  have e1 := (own_m32 (n := N) (by omega)).2.2
  have := c_ineg (Int32.ofNat N)
  have := rng32 (-(Int32.ofNat N))
  omega
theorem own_negy {y : Int32} {I : Nat} (hI : I < 100000) (h : y.toInt = -(I : Int)) : -y = Int32.ofNat I := by
  have e1 := (own_m32 (n := I) (by omega)).2.2
  have := c_ineg y
  have := rng32 (-y)
  exact Int32.toInt_inj.mp (by omega)
theorem own_dec {k : Nat} (h0 : 0 < k) (h : k ≤ 5000) : Int32.ofNat k + (-1 : Int32) = Int32.ofNat (k - 1) := by
  have e1 := (own_m32 (n := k) (by omega)).2.2
  have e2 := (own_m32 (n := k - 1) (by omega)).2.2
  have e3 : (-1 : Int32).toInt = -1 := by decide
  have := c_iadd (Int32.ofNat k) (-1)
  have := rng32 (Int32.ofNat k + (-1))
  exact Int32.toInt_inj.mp (by omega)
def own_nd (N : Nat) : Nat := if N < 10 then 1 else if N < 100 then 2 else if N < 1000 then 3 else if N < 10000 then 4 else 5
def own_dd (d N j : Nat) : Int32 := Int32.ofNat (48 + N / 10 ^ (d - 1 - j) % 10)
def own_dgs (N : Nat) : List Int32 := (List.range (own_nd N)).map (own_dd (own_nd N) N)
theorem own_dgs_len (N : Nat) : (own_dgs N).length = own_nd N := by rw [own_dgs, List.length_map, List.length_range]
theorem own_nd1 {N : Nat} (h : N < 10) : own_nd N = 1 := by rw [own_nd, if_pos h]
theorem own_nd2 {N : Nat} (h1 : ¬ N < 10) (h : N < 100) : own_nd N = 2 := by rw [own_nd, if_neg h1, if_pos h]
theorem own_nd3 {N : Nat} (h1 : ¬ N < 100) (h : N < 1000) : own_nd N = 3 := by rw [own_nd, if_neg (by omega), if_neg h1, if_pos h]
theorem own_nd4 {N : Nat} (h1 : ¬ N < 1000) (h : N < 10000) : own_nd N = 4 := by rw [own_nd, if_neg (by omega), if_neg (by omega), if_neg h1, if_pos h]
theorem own_nd5 {N : Nat} (h1 : ¬ N < 10000) : own_nd N = 5 := by rw [own_nd, if_neg (by omega), if_neg (by omega), if_neg (by omega), if_neg h1]
theorem own_nd_le (N : Nat) : 1 ≤ own_nd N ∧ own_nd N ≤ 5 := by
  rw [own_nd]
  repeat' split
  all_goals omega
theorem own_dd_eq {d N j d' N' j' : Nat} (h : N / 10 ^ (d - 1 - j) % 10 = N' / 10 ^ (d' - 1 - j') % 10) : own_dd d N j = own_dd d' N' j' := by rw [own_dd, own_dd, h]
theorem own_dd_to {d N j k : Nat} (h : N / 10 ^ (d - 1 - j) % 10 = k) : own_dd d N j = Int32.ofNat (48 + k) := by rw [own_dd, h]
theorem own_dgs1 {N : Nat} (h : N < 10) : own_dgs N = [Int32.ofNat (48 + N % 10)] := by
  rw [own_dgs, own_nd1 h]
  show [own_dd 1 N 0] = _
  rw [own_dd_to (k := N % 10) (by show N / 1 % 10 = _; omega)]
theorem own_dgs2 {N : Nat} (h1 : ¬ N < 10) (h : N < 100) : own_dgs N = [Int32.ofNat (48 + N / 10), Int32.ofNat (48 + N % 10)] := by
  rw [own_dgs, own_nd2 h1 h]
  show [own_dd 2 N 0, own_dd 2 N 1] = _
  rw [own_dd_to (k := N / 10) (by show N / 10 % 10 = _; omega), own_dd_to (j := 1) (k := N % 10) (by show N / 1 % 10 = _; omega)]
theorem own_nd100 {N : Nat} (h1 : ¬ N < 100) (h : N < 100000) : own_nd N = own_nd (N / 100) + 2 := by
  by_cases q3 : N < 1000
  · rw [own_nd3 h1 q3, own_nd1 (by omega)]
  by_cases q4 : N < 10000
  · rw [own_nd4 q3 q4, own_nd2 (by omega) (by omega)]
  rw [own_nd5 q4, own_nd3 (by omega) (by omega)]
theorem own_dgs100 {N : Nat} (h1 : ¬ N < 100) (h : N < 100000) : own_dgs N = own_dgs (N / 100) ++ [Int32.ofNat (48 + N % 100 / 10), Int32.ofNat (48 + N % 100 % 10)] := by
  by_cases q3 : N < 1000
  · rw [own_dgs, own_dgs, own_nd3 h1 q3, own_nd1 (by omega)]
    show [own_dd 3 N 0, own_dd 3 N 1, own_dd 3 N 2] = [own_dd 1 (N / 100) 0, _, _]
    rw [own_dd_eq (d := 3) (j := 0) (d' := 1) (N' := N / 100) (j' := 0) (by show N / 100 % 10 = N / 100 / 1 % 10; omega), own_dd_to (j := 1) (k := N % 100 / 10) (by show N / 10 % 10 = _; omega), own_dd_to (j := 2) (k := N % 100 % 10) (by show N / 1 % 10 = _; omega)]
  by_cases q4 : N < 10000
  · rw [own_dgs, own_dgs, own_nd4 q3 q4, own_nd2 (by omega) (by omega)]
    show [own_dd 4 N 0, own_dd 4 N 1, own_dd 4 N 2, own_dd 4 N 3] = [own_dd 2 (N / 100) 0, own_dd 2 (N / 100) 1, _, _]
    rw [own_dd_eq (d := 4) (j := 0) (d' := 2) (N' := N / 100) (j' := 0) (by show N / 1000 % 10 = N / 100 / 10 % 10; omega), own_dd_eq (d := 4) (j := 1) (d' := 2) (N' := N / 100) (j' := 1) (by show N / 100 % 10 = N / 100 / 1 % 10; omega), own_dd_to (j := 2) (k := N % 100 / 10) (by show N / 10 % 10 = _; omega), own_dd_to (j := 3) (k := N % 100 % 10) (by show N / 1 % 10 = _; omega)]
  rw [own_dgs, own_dgs, own_nd5 q4, own_nd3 (by omega) (by omega)]
  show [own_dd 5 N 0, own_dd 5 N 1, own_dd 5 N 2, own_dd 5 N 3, own_dd 5 N 4] = [own_dd 3 (N / 100) 0, own_dd 3 (N / 100) 1, own_dd 3 (N / 100) 2, _, _]
  rw [own_dd_eq (d := 5) (j := 0) (d' := 3) (N' := N / 100) (j' := 0) (by show N / 10000 % 10 = N / 100 / 100 % 10; omega), own_dd_eq (d := 5) (j := 1) (d' := 3) (N' := N / 100) (j' := 1) (by show N / 1000 % 10 = N / 100 / 10 % 10; omega), own_dd_eq (d := 5) (j := 2) (d' := 3) (N' := N / 100) (j' := 2) (by show N / 100 % 10 = N / 100 / 1 % 10; omega), own_dd_to (j := 3) (k := N % 100 / 10) (by show N / 10 % 10 = _; omega), own_dd_to (j := 4) (k := N % 100 % 10) (by show N / 1 % 10 = _; omega)]
theorem own_dd_rng (d N j : Nat) : ¬ own_dd d N j < 0 ∧ ¬ (255 : Int32) < own_dd d N j := by
  have e1 := (own_m32 (n := 48 + N / 10 ^ (d - 1 - j) % 10) (by omega)).2.2
  have e0 : (0 : Int32).toInt = 0 := by decide
  have e2 : (255 : Int32).toInt = 255 := by decide
  rw [own_dd, Int32.lt_iff_toInt_lt, Int32.lt_iff_toInt_lt, e1, e0, e2]
  omega
theorem own_dgs_rng (N : Nat) : ∀ c ∈ own_dgs N, ¬ c < 0 ∧ ¬ (255 : Int32) < c := fun c hc => by
  rw [own_dgs, List.mem_map] at hc
  obtain ⟨j, -, rfl⟩ := hc
  exact own_dd_rng _ _ _
/-! the two tables of digits -/
def own_ones : List Value := (List.range 100).map fun i => Value.int (48 + Nat.toInt32 i % 10)
def own_tens : List Value := (List.range 100).map fun i => Value.int (48 + Nat.toInt32 i / 10)
theorem own_ones_at {r : Nat} (h : r < 100) : own_ones.getD r (.int 0) = .int (Int32.ofNat (48 + r % 10)) := by
  have e := (by decide +kernel : ∀ r, r < 100 → 48 + Nat.toInt32 r % 10 = Int32.ofNat (48 + r % 10)) r h
  rw [own_ones, List.getD_eq_getElem?_getD, List.getElem?_map, List.getElem?_range h]
  exact congrArg Value.int e
theorem own_tens_at {r : Nat} (h : r < 100) : own_tens.getD r (.int 0) = .int (Int32.ofNat (48 + r / 10)) := by
  have e := (by decide +kernel : ∀ r, r < 100 → 48 + Nat.toInt32 r / 10 = Int32.ofNat (48 + r / 10)) r h
  rw [own_tens, List.getD_eq_getElem?_getD, List.getElem?_map, List.getElem?_range h]
  exact congrArg Value.int e
theorem own_hasL {cl : Cell} : ∀ (us : List Value) (i : Nat), (∀ j v, us[j]? = some v → cl.slots[i + j]? = some v) → HasL cl i us
  | [], _, _ => trivial
  | u :: us, i, h => ⟨h 0 u rfl, own_hasL us (i + 1) fun j v hv => by have := h (j + 1) v hv; rwa [show i + (j + 1) = i + 1 + j by omega] at this⟩
theorem own_tab {s : State} {args : Array Value} (hfit : Fit s) {t F : Term} (f : Nat → Int32) (ht : ∀ a, t.eval args s none [] s = some (.ref a) → ∀ i : Nat, t.eval args s none [i] s = some (.ref a)) (he : (Jvm.Cond.exactly t "[B").value args s none s [] = some true) (hl : (Jvm.Cond.eq (.length t) (.int 100)).value args s none s [] = some true)
    (ha : (Jvm.Cond.all t (.eq (.elem t (.index 0)) F)).value args s none s [] = some true) {a0 : Array Value} (wa : (Jvm.Cond.arrayClass .byte).before a0 s = true) (hF : ∀ i : Nat, F.eval args s none [i] s = some (.int (f i))) : ∃ a k, t.eval args s none [] s = some (.ref a) ∧ Arv s s.heap a k .byte 100 ((List.range 100).map fun i => Value.int (f i)) (.int 0) := by
  obtain ⟨a, ea⟩ := exa_v he
  obtain ⟨cell, k, x1, x2, x3, x4, -⟩ := Exa.start ea he
  have e1 := eqv_i (Term.int_eval 100) hl
  obtain ⟨b, cl, f1, f2, f3⟩ := Term.length_spec e1
  cases ea.symm.trans f1
  obtain ⟨g1, g2, g3, -⟩ := State.arrayAt?_spec f2
  cases x1.symm.trans g1
  obtain ⟨cA, kA, comp, hfind, hkA, hkind⟩ := Cond.arrayClass_spec wa
  have hfind' : s.vm.findClass "[B" = some cA := hfind
  cases x2.symm.trans hfind'
  have A : Arr s s.heap a cell .byte := ⟨x1, ⟨fun q hq => (by rw [hq] at x4; exact nomatch x4), kA, hkA, comp, hkind⟩, g2⟩
  have q : cell.slots.size < 2 ^ 31 := SBG.length_lt ea f2 e1
  have hz : cell.slots.size.toInt32 = 100 := (Value.int.inj f3).symm
  have hsz : cell.slots.size = 100 := by
    have h1 := len_toInt q
    rw [hz] at h1
    have h2 : (100 : Int32).toInt = 100 := by decide
    rw [h2] at h1
    have : ((cell.slots.size : Nat) : Int) = 100 := by simpa using h1.symm
    omega
  refine ⟨a, cell.cls, ea, Arv.start hfit A q hz (by decide) (by rw [List.length_map, List.length_range]; decide) (own_hasL _ 0 fun j v hv => ?_)⟩
  rw [Nat.zero_add]
  have hj : j < 100 := by
    have := (List.getElem?_eq_some_iff.mp hv).1
    rwa [List.length_map, List.length_range] at this
  rw [List.getElem?_map, List.getElem?_range hj] at hv
  cases hv
  have u := Cond.all_elim ea f2 ha j (by omega)
  have u2 := eqv_i (hF j) u
  obtain ⟨-, u3⟩ := elem_in u2 (ht a ea j) (Term.index_eval j) x1
  have e3 : (Nat.toInt32 j).toNatClampNeg = j := (own_m32 (n := j) (by omega)).2.1
  rw [e3] at u3; exact u3
/-! Integer.stringSize -/
set_option maxRecDepth 65536 in
theorem rmSS (l : Launch) (Z : State) (a0 : Array Value) (hw : ∀ d ∈ tables_1, d.before a0 Z = true) (hEL : EW Z a0 consts_1) (N : Nat) (hN : N < 100000) (h0 : Heap) (hx : Ext Z.heap h0) :
    Met l Z consts_1 (⟨"java/lang/Integer", "stringSize", "(I)I"⟩ : MethodName) jdk_33_method_13_code 4 (some .int) [] ({ frames := 0, cells := 0, slots := 0, locals := 0 } : Room) #[.int (Int32.ofNat N)] h0 [] (fun v h => v = some (.int (Int32.ofNat (own_nd N))) ∧ h = h0) := by
  have n1 := own_m32 (n := N) (by omega)
  refine Met.of (a0 := a0) (by decide +kernel) hEL hx ?_
  intro p e s m below meth c S0 V w hs hsf
  replace w := w.to (g' := mkF m 0 #[.val (.int (Int32.ofNat N)), .unset, .unset, .unset] []) (by first | (simp [entryFrame, mkF, argsToLocals, Value.category]; done) | rfl)
  replace w := w.iconst (pc' := 1) (1 : Int32) d19_0
  replace w := w.istoreN (pc' := 2) (L' := #[.val (.int (Int32.ofNat N)), .val (.int (1 : Int32)), .unset, .unset]) d19_1 rfl
  replace w := w.iloadN (pc' := 3) d19_2 rfl
  replace w := w.ifNo (pc' := 6) d19_3 ((if0 _ _).trans (flt n1.1).1)
  replace w := w.iconst (pc' := 7) (0 : Int32) d19_6
  replace w := w.istoreN (pc' := 8) (L' := #[.val (.int (Int32.ofNat N)), .val (.int (0 : Int32)), .unset, .unset]) d19_7 rfl
  replace w := w.iloadN (pc' := 9) d19_8 rfl
  replace w := w.ineg (pc' := 10) d19_9
  obtain ⟨y, hy⟩ : ∃ z, z = (-(Int32.ofNat N)) := ⟨_, rfl⟩
  rw [← hy] at w
  have hyI : y.toInt = -(N : Int) := by rw [hy]; exact own_neg hN
  replace w := w.istoreN (pc' := 11) (L' := #[.val (.int y), .val (.int (0 : Int32)), .unset, .unset]) d19_10 rfl
  replace w := w.bipush (pc' := 13) (-10 : Int32) d19_11
  replace w := w.istoreN (pc' := 14) (L' := #[.val (.int y), .val (.int (0 : Int32)), .val (.int (-10 : Int32)), .unset]) d19_13 rfl
  replace w := w.iconst (pc' := 15) (1 : Int32) d19_14
  replace w := w.istoreN (pc' := 16) (L' := #[.val (.int y), .val (.int (0 : Int32)), .val (.int (-10 : Int32)), .val (.int (1 : Int32))]) d19_15 rfl
  replace w := w.iloadN (pc' := 17) d19_16 rfl
  replace w := w.bipush (pc' := 19) (10 : Int32) d19_17
  replace w := w.icmpNo (pc' := 22) d19_19 (by decide)
  replace w := w.iloadN (pc' := 23) d19_22 rfl
  replace w := w.iloadN (pc' := 24) d19_23 rfl
  have e1 : (-10 : Int32).toInt = -10 := by decide
  by_cases q1 : N < 10
  ·
    replace w := w.icmpNo (pc' := 27) d19_24 ((tlt (by rw [Int32.lt_iff_toInt_lt, hyI, e1]; omega)).2.2.2)
    replace w := w.iloadN (pc' := 28) d19_27 rfl
    replace w := w.iloadN (pc' := 29) d19_28 rfl
    replace w := w.iadd (pc' := 30) d19_29
    exact w.retI d19_30 ⟨by rw [own_nd1 q1]; rfl, rfl⟩ nle nle
  replace w := w.icmpYes (pc' := 31) d19_24 ((flt (by rw [Int32.lt_iff_toInt_lt, hyI, e1]; omega)).2.2.2)
  replace w := w.bipush (pc' := 33) (10 : Int32) d19_31
  replace w := w.iloadN (pc' := 34) d19_33 rfl
  replace w := w.imul (pc' := 35) d19_34
  rw [show (10 : Int32) * (-10 : Int32) = -100 from by decide] at w
  replace w := w.istoreN (pc' := 36) (L' := #[.val (.int y), .val (.int (0 : Int32)), .val (.int (-100 : Int32)), .val (.int (1 : Int32))]) d19_35 rfl
  replace w := w.iinc (pc' := 39) (L' := #[.val (.int y), .val (.int (0 : Int32)), .val (.int (-100 : Int32)), .val (.int ((1 : Int32) + (1 : Int32)))]) d19_36 rfl rfl
  replace w := w.to (g' := mkF m 39 #[.val (.int y), .val (.int (0 : Int32)), .val (.int (-100 : Int32)), .val (.int (2 : Int32))] []) rfl
  replace w := w.goto (pc' := 16) d19_39
  replace w := w.iloadN (pc' := 17) d19_16 rfl
  replace w := w.bipush (pc' := 19) (10 : Int32) d19_17
  replace w := w.icmpNo (pc' := 22) d19_19 (by decide)
  replace w := w.iloadN (pc' := 23) d19_22 rfl
  replace w := w.iloadN (pc' := 24) d19_23 rfl
  have e2 : (-100 : Int32).toInt = -100 := by decide
  by_cases q2 : N < 100
  ·
    replace w := w.icmpNo (pc' := 27) d19_24 ((tlt (by rw [Int32.lt_iff_toInt_lt, hyI, e2]; omega)).2.2.2)
    replace w := w.iloadN (pc' := 28) d19_27 rfl
    replace w := w.iloadN (pc' := 29) d19_28 rfl
    replace w := w.iadd (pc' := 30) d19_29
    exact w.retI d19_30 ⟨by rw [own_nd2 q1 q2]; rfl, rfl⟩ nle nle
  replace w := w.icmpYes (pc' := 31) d19_24 ((flt (by rw [Int32.lt_iff_toInt_lt, hyI, e2]; omega)).2.2.2)
  replace w := w.bipush (pc' := 33) (10 : Int32) d19_31
  replace w := w.iloadN (pc' := 34) d19_33 rfl
  replace w := w.imul (pc' := 35) d19_34
  rw [show (10 : Int32) * (-100 : Int32) = -1000 from by decide] at w
  replace w := w.istoreN (pc' := 36) (L' := #[.val (.int y), .val (.int (0 : Int32)), .val (.int (-1000 : Int32)), .val (.int (2 : Int32))]) d19_35 rfl
  replace w := w.iinc (pc' := 39) (L' := #[.val (.int y), .val (.int (0 : Int32)), .val (.int (-1000 : Int32)), .val (.int ((2 : Int32) + (1 : Int32)))]) d19_36 rfl rfl
  replace w := w.to (g' := mkF m 39 #[.val (.int y), .val (.int (0 : Int32)), .val (.int (-1000 : Int32)), .val (.int (3 : Int32))] []) rfl
  replace w := w.goto (pc' := 16) d19_39
  replace w := w.iloadN (pc' := 17) d19_16 rfl
  replace w := w.bipush (pc' := 19) (10 : Int32) d19_17
  replace w := w.icmpNo (pc' := 22) d19_19 (by decide)
  replace w := w.iloadN (pc' := 23) d19_22 rfl
  replace w := w.iloadN (pc' := 24) d19_23 rfl
  have e3 : (-1000 : Int32).toInt = -1000 := by decide
  by_cases q3 : N < 1000
  ·
    replace w := w.icmpNo (pc' := 27) d19_24 ((tlt (by rw [Int32.lt_iff_toInt_lt, hyI, e3]; omega)).2.2.2)
    replace w := w.iloadN (pc' := 28) d19_27 rfl
    replace w := w.iloadN (pc' := 29) d19_28 rfl
    replace w := w.iadd (pc' := 30) d19_29
    exact w.retI d19_30 ⟨by rw [own_nd3 q2 q3]; rfl, rfl⟩ nle nle
  replace w := w.icmpYes (pc' := 31) d19_24 ((flt (by rw [Int32.lt_iff_toInt_lt, hyI, e3]; omega)).2.2.2)
  replace w := w.bipush (pc' := 33) (10 : Int32) d19_31
  replace w := w.iloadN (pc' := 34) d19_33 rfl
  replace w := w.imul (pc' := 35) d19_34
  rw [show (10 : Int32) * (-1000 : Int32) = -10000 from by decide] at w
  replace w := w.istoreN (pc' := 36) (L' := #[.val (.int y), .val (.int (0 : Int32)), .val (.int (-10000 : Int32)), .val (.int (3 : Int32))]) d19_35 rfl
  replace w := w.iinc (pc' := 39) (L' := #[.val (.int y), .val (.int (0 : Int32)), .val (.int (-10000 : Int32)), .val (.int ((3 : Int32) + (1 : Int32)))]) d19_36 rfl rfl
  replace w := w.to (g' := mkF m 39 #[.val (.int y), .val (.int (0 : Int32)), .val (.int (-10000 : Int32)), .val (.int (4 : Int32))] []) rfl
  replace w := w.goto (pc' := 16) d19_39
  replace w := w.iloadN (pc' := 17) d19_16 rfl
  replace w := w.bipush (pc' := 19) (10 : Int32) d19_17
  replace w := w.icmpNo (pc' := 22) d19_19 (by decide)
  replace w := w.iloadN (pc' := 23) d19_22 rfl
  replace w := w.iloadN (pc' := 24) d19_23 rfl
  have e4 : (-10000 : Int32).toInt = -10000 := by decide
  by_cases q4 : N < 10000
  ·
    replace w := w.icmpNo (pc' := 27) d19_24 ((tlt (by rw [Int32.lt_iff_toInt_lt, hyI, e4]; omega)).2.2.2)
    replace w := w.iloadN (pc' := 28) d19_27 rfl
    replace w := w.iloadN (pc' := 29) d19_28 rfl
    replace w := w.iadd (pc' := 30) d19_29
    exact w.retI d19_30 ⟨by rw [own_nd4 q3 q4]; rfl, rfl⟩ nle nle
  replace w := w.icmpYes (pc' := 31) d19_24 ((flt (by rw [Int32.lt_iff_toInt_lt, hyI, e4]; omega)).2.2.2)
  replace w := w.bipush (pc' := 33) (10 : Int32) d19_31
  replace w := w.iloadN (pc' := 34) d19_33 rfl
  replace w := w.imul (pc' := 35) d19_34
  rw [show (10 : Int32) * (-10000 : Int32) = -100000 from by decide] at w
  replace w := w.istoreN (pc' := 36) (L' := #[.val (.int y), .val (.int (0 : Int32)), .val (.int (-100000 : Int32)), .val (.int (4 : Int32))]) d19_35 rfl
  replace w := w.iinc (pc' := 39) (L' := #[.val (.int y), .val (.int (0 : Int32)), .val (.int (-100000 : Int32)), .val (.int ((4 : Int32) + (1 : Int32)))]) d19_36 rfl rfl
  replace w := w.to (g' := mkF m 39 #[.val (.int y), .val (.int (0 : Int32)), .val (.int (-100000 : Int32)), .val (.int (5 : Int32))] []) rfl
  replace w := w.goto (pc' := 16) d19_39
  replace w := w.iloadN (pc' := 17) d19_16 rfl
  replace w := w.bipush (pc' := 19) (10 : Int32) d19_17
  replace w := w.icmpNo (pc' := 22) d19_19 (by decide)
  replace w := w.iloadN (pc' := 23) d19_22 rfl
  replace w := w.iloadN (pc' := 24) d19_23 rfl
  have e5 : (-100000 : Int32).toInt = -100000 := by decide
  replace w := w.icmpNo (pc' := 27) d19_24 ((tlt (by rw [Int32.lt_iff_toInt_lt, hyI, e5]; omega)).2.2.2)
  replace w := w.iloadN (pc' := 28) d19_27 rfl
  replace w := w.iloadN (pc' := 29) d19_28 rfl
  replace w := w.iadd (pc' := 30) d19_29
  exact w.retI d19_30 ⟨by rw [own_nd5 q4]; rfl, rfl⟩ nle nle
/-! Integer.getChars -/
theorem own_set1 (A : List Value) (x v : Value) (R : List Value) (n : Nat) (hn : n = A.length) : (A ++ x :: R).set n v = A ++ v :: R := by subst hn; simp
theorem own_set2 (A : List Value) (x y v : Value) (R : List Value) (n : Nat) (hn : n = A.length + 1) : (A ++ x :: y :: R).set n v = A ++ x :: v :: R := by subst hn; simp
theorem own_len1 {X : List Value} (h : X.length = 1) : ∃ x, X = [x] := by
  match X, h with
  | [x], _ => exact ⟨x, rfl⟩
theorem own_len2 {X : List Value} (h : X.length = 2) : ∃ x y, X = [x, y] := by
  match X, h with
  | [x, y], _ => exact ⟨x, y, rfl⟩
theorem own_last2 {X : List Value} {k : Nat} (h : X.length = k + 2) : ∃ X' x y, X = X' ++ [x, y] ∧ X'.length = k := by
  obtain ⟨x, y, e⟩ := own_len2 (X := X.drop k) (by rw [List.length_drop]; omega)
  exact ⟨X.take k, x, y, by rw [← e, List.take_append_drop], by rw [List.length_take]; omega⟩
theorem own_bnd {k : Nat} (h : k < 16) : ¬ Int32.ofNat k < 0 ∧ Int32.ofNat k < 16 := ⟨(own_m32 (by omega)).1, (own_lt32 (a := k) (b := 16) (by omega) (by omega)).mpr h⟩
theorem own_bnd100 {k : Nat} (h : k < 100) : ¬ Int32.ofNat k < 0 ∧ Int32.ofNat k < 100 := ⟨(own_m32 (by omega)).1, (own_lt32 (a := k) (b := 100) (by omega) (by omega)).mpr h⟩
set_option maxRecDepth 65536 in
theorem gc72 (l : Launch) (Z : State) (a0 : Array Value) (hw : ∀ d ∈ tables_1, d.before a0 Z = true) (hEL : EW Z a0 consts_1) (d1 d2 : Addr) (k1 k2 : ClassId) (S1 : Sta Z Z.heap "java/lang/Integer" "DigitOnes" "[B" (.ref d1)) (S2 : Sta Z Z.heap "java/lang/Integer" "DigitTens" "[B" (.ref d2)) (D1 : Arv Z Z.heap d1 k1 .byte 100 own_ones (.int 0)) (D2 : Arv Z Z.heap d2 k2 .byte 100 own_tens (.int 0)) {p : Program} {e : Env} {s : State} {m : MethodId} {args : Array Value} {below : List Frame} {meth : Method} {c : Code} {S0 : State} {V : Vm} (hb h0 : Heap) (t : Addr) (kb : ClassId) (A X R : List Value) (I : Nat) (y idx : Int32) (k : Nat) (hy : y.toInt = -(I : Int)) (o3 o4 : Slot) (ho3 : o3 = .unset ∨ ∃ w, o3 = .val w ∧ w.category = 1) (ho4 : o4 = .unset ∨ ∃ w, o4 = .val w ∧ w.category = 1) (hX : X.length = own_nd I) (hl : A.length + X.length + R.length = 16) (hk : k = A.length + X.length) (Kb : Keep hb h0 [t]) (F : Arv Z h0 t kb .byte 16 (A ++ (X ++ R)) (.int 0)) (ge_t_Z : Z.heap.size ≤ t) (hI : I < 100) (w : Wk p l e ({ frames := 0, cells := 0, slots := 0, locals := 0 } : Room) s m args below meth c Z a0 consts_1 S0 (⟨"java/lang/Integer", "getChars", "(II[B)I"⟩ : MethodName) jdk_33_method_12_code 7 (some .int) V h0 0 0 (mkF m 72 #[.val (.int y), .val (.int idx), .val (.ref t), o3, o4, .val (.int (Int32.ofNat k)), .val (.int 0)] [])) : Fini p e below s Z consts_1 S0 0 0 (fun v h => ∃ r, v = some (.int r) ∧ Keep hb h [t] ∧ Arv Z h t kb .byte 16 (A ++ (own_b (own_dgs I) ++ R)) (.int 0)) := by
  have e1 := own_negy (by omega) hy
  have e9 : (-9 : Int32).toInt = -9 := by decide
  have hnd := own_nd_le I
  have E1 := D1.ext w.old
  have E2 := D2.ext w.old
  have ed := own_dec (k := k) (by omega) (by omega)
  replace w := w.aloadN (pc' := 73) d21_72 rfl
  replace w := w.iinc (pc' := 76) (L' := #[.val (.int y), .val (.int idx), .val (.ref t), o3, o4, .val (.int ((Int32.ofNat k) + (-1 : Int32))), .val (.int (0 : Int32))]) d21_73 rfl rfl
  rw [ed] at w
  replace w := w.iload (pc' := 78) d21_76 rfl
  replace w := w.getS (hw _ (List.mem_of_getElem? (i := 130) rfl)) S1 d21_78 (pc' := 81)
  replace w := w.iloadN (pc' := 82) d21_81 rfl
  replace w := w.ineg (pc' := 83) d21_82
  rw [e1] at w
  have Q1 := D1.ext w.old
  replace w := w.baload (v := (.int (Int32.ofNat (48 + I % 10)))) Q1 d21_83 ⟨(own_bnd100 hI).1, (own_bnd100 hI).2⟩ (by rw [(own_m32 (n := I) (by omega)).2.1]; exact own_ones_at hI) (pc' := 84)
  have b1 := own_bnd (k := k - 1) (by omega)
  obtain ⟨h1, K1, F1, A1, w⟩ := w.bastore (x' := (Int32.ofNat (48 + I % 10)).toInt8.toInt32) F d21_84 ⟨b1.1, b1.2⟩ (rfl) (k - 1) ((own_m32 (by omega)).2.1) (by rw [List.length_append, List.length_append]; omega) (ge_t_Z) (own_safe16 hw w.hZ F) (pc' := 85)
  replace w := w.iloadN (pc' := 86) d21_85 rfl
  replace w := w.bipush (pc' := 88) (-9 : Int32) d21_86
  by_cases q : I < 10
  ·
    have hn1 := own_nd1 q
    replace w := w.icmpYes (pc' := 104) d21_88 ((flt (by rw [Int32.lt_iff_toInt_lt, hy, e9]; omega)).2.1)
    replace w := w.iload (pc' := 106) d21_104 rfl
    replace w := w.ifYes (pc' := 118) d21_106 (by decide)
    replace w := w.iload (pc' := 120) d21_118 rfl
    obtain ⟨x0, rfl⟩ := own_len1 (hX.trans hn1)
    replace F1 : Arv Z h1 t kb .byte 16 ((A ++ x0 :: R).set (k - 1) (.int (Int32.ofNat (48 + I % 10)).toInt8.toInt32)) (.int 0) := F1
    rw [own_set1 A x0 _ R (k - 1) (by rw [hk]; simp)] at F1
    exact w.retI d21_120 ⟨_, rfl, Kb.trans K1 (allS (Or.inl (List.mem_cons_self ..)) all0), by rw [own_dgs1 q]; exact F1⟩ nle nle
  have hn2 := own_nd2 q hI
  obtain ⟨x0, x1, rfl⟩ := own_len2 (hX.trans hn2)
  have hk2 : k = A.length + 2 := hk
  replace F1 : Arv Z h1 t kb .byte 16 ((A ++ x0 :: x1 :: R).set (k - 1) (.int (Int32.ofNat (48 + I % 10)).toInt8.toInt32)) (.int 0) := F1
  rw [own_set2 A x0 x1 _ R (k - 1) (by omega)] at F1
  replace w := w.icmpNo (pc' := 91) d21_88 ((tlt (by rw [Int32.lt_iff_toInt_lt, hy, e9]; omega)).2.1)
  have ed2 := own_dec (k := k - 1) (by omega) (by omega)
  replace w := w.aloadN (pc' := 92) d21_91 rfl
  replace w := w.iinc (pc' := 95) (L' := #[.val (.int y), .val (.int idx), .val (.ref t), o3, o4, .val (.int ((Int32.ofNat (k - 1)) + (-1 : Int32))), .val (.int (0 : Int32))]) d21_92 rfl rfl
  rw [ed2] at w
  replace w := w.iload (pc' := 97) d21_95 rfl
  replace w := w.getS (hw _ (List.mem_of_getElem? (i := 217) rfl)) S2 d21_97 (pc' := 100)
  replace w := w.iloadN (pc' := 101) d21_100 rfl
  replace w := w.ineg (pc' := 102) d21_101
  rw [e1] at w
  have Q2 := D2.ext w.old
  replace w := w.baload (v := (.int (Int32.ofNat (48 + I / 10)))) Q2 d21_102 ⟨(own_bnd100 hI).1, (own_bnd100 hI).2⟩ (by rw [(own_m32 (n := I) (by omega)).2.1]; exact own_tens_at hI) (pc' := 103)
  have b2 := own_bnd (k := k - 1 - 1) (by omega)
  have hl' : A.length + 2 + R.length = 16 := hl
  obtain ⟨h2, K2, F2, A2, w⟩ := w.bastore (x' := (Int32.ofNat (48 + I / 10)).toInt8.toInt32) F1 d21_103 ⟨b2.1, b2.2⟩ (rfl) (k - 1 - 1) ((own_m32 (by omega)).2.1) (by rw [List.length_append]; simp only [List.length_cons]; omega) (ge_t_Z) (own_safe16 hw w.hZ F1) (pc' := 104)
  rw [own_set1 A x0 _ _ (k - 1 - 1) (by omega)] at F2
  replace w := w.iload (pc' := 106) d21_104 rfl
  replace w := w.ifYes (pc' := 118) d21_106 (by decide)
  replace w := w.iload (pc' := 120) d21_118 rfl
  exact w.retI d21_120 ⟨_, rfl, (Kb.trans K1 (allS (Or.inl (List.mem_cons_self ..)) all0)).trans K2 (allS (Or.inl (List.mem_cons_self ..)) all0), by rw [own_dgs2 q hI]; exact F2⟩ nle nle
set_option maxRecDepth 65536 in
theorem gc22a (l : Launch) (Z : State) (a0 : Array Value) (hw : ∀ d ∈ tables_1, d.before a0 Z = true) (hEL : EW Z a0 consts_1) (d1 d2 : Addr) (k1 k2 : ClassId) (S1 : Sta Z Z.heap "java/lang/Integer" "DigitOnes" "[B" (.ref d1)) (S2 : Sta Z Z.heap "java/lang/Integer" "DigitTens" "[B" (.ref d2)) (D1 : Arv Z Z.heap d1 k1 .byte 100 own_ones (.int 0)) (D2 : Arv Z Z.heap d2 k2 .byte 100 own_tens (.int 0)) {p : Program} {e : Env} {s : State} {m : MethodId} {args : Array Value} {below : List Frame} {meth : Method} {c : Code} {S0 : State} {V : Vm} (hb h0 : Heap) (t : Addr) (kb : ClassId) (A X R : List Value) (I : Nat) (y idx : Int32) (k : Nat) (hy : y.toInt = -(I : Int)) (o3 o4 : Slot) (ho3 : o3 = .unset ∨ ∃ w, o3 = .val w ∧ w.category = 1) (ho4 : o4 = .unset ∨ ∃ w, o4 = .val w ∧ w.category = 1) (hX : X.length = own_nd I) (hl : A.length + X.length + R.length = 16) (hk : k = A.length + X.length) (Kb : Keep hb h0 [t]) (F : Arv Z h0 t kb .byte 16 (A ++ (X ++ R)) (.int 0)) (ge_t_Z : Z.heap.size ≤ t) (hI : I < 100) (w : Wk p l e ({ frames := 0, cells := 0, slots := 0, locals := 0 } : Room) s m args below meth c Z a0 consts_1 S0 (⟨"java/lang/Integer", "getChars", "(II[B)I"⟩ : MethodName) jdk_33_method_12_code 7 (some .int) V h0 0 0 (mkF m 22 #[.val (.int y), .val (.int idx), .val (.ref t), o3, o4, .val (.int (Int32.ofNat k)), .val (.int 0)] [])) : Fini p e below s Z consts_1 S0 0 0 (fun v h => ∃ r, v = some (.int r) ∧ Keep hb h [t] ∧ Arv Z h t kb .byte 16 (A ++ (own_b (own_dgs I) ++ R)) (.int 0)) := by
  have e100 : (-100 : Int32).toInt = -100 := by decide
  replace w := w.iloadN (pc' := 23) d21_22 rfl
  replace w := w.bipush (pc' := 25) (-100 : Int32) d21_23
  replace w := w.icmpYes (pc' := 72) d21_25 ((tlt (by rw [Int32.lt_iff_toInt_lt, hy, e100]; omega)).2.2.1)
  exact gc72 l Z a0 hw hEL d1 d2 k1 k2 S1 S2 D1 D2 hb h0 t kb A X R I y idx k hy o3 o4 ho3 ho4 hX hl hk Kb F ge_t_Z hI w
set_option maxRecDepth 65536 in
theorem gc22b (l : Launch) (Z : State) (a0 : Array Value) (hw : ∀ d ∈ tables_1, d.before a0 Z = true) (hEL : EW Z a0 consts_1) (d1 d2 : Addr) (k1 k2 : ClassId) (S1 : Sta Z Z.heap "java/lang/Integer" "DigitOnes" "[B" (.ref d1)) (S2 : Sta Z Z.heap "java/lang/Integer" "DigitTens" "[B" (.ref d2)) (D1 : Arv Z Z.heap d1 k1 .byte 100 own_ones (.int 0)) (D2 : Arv Z Z.heap d2 k2 .byte 100 own_tens (.int 0)) {p : Program} {e : Env} {s : State} {m : MethodId} {args : Array Value} {below : List Frame} {meth : Method} {c : Code} {S0 : State} {V : Vm} (hb h0 : Heap) (t : Addr) (kb : ClassId) (A X R : List Value) (I : Nat) (y idx : Int32) (k : Nat) (hy : y.toInt = -(I : Int)) (o3 o4 : Slot) (ho3 : o3 = .unset ∨ ∃ w, o3 = .val w ∧ w.category = 1) (ho4 : o4 = .unset ∨ ∃ w, o4 = .val w ∧ w.category = 1) (hX : X.length = own_nd I) (hl : A.length + X.length + R.length = 16) (hk : k = A.length + X.length) (Kb : Keep hb h0 [t]) (F : Arv Z h0 t kb .byte 16 (A ++ (X ++ R)) (.int 0)) (ge_t_Z : Z.heap.size ≤ t) (hI : I < 10000) (w : Wk p l e ({ frames := 0, cells := 0, slots := 0, locals := 0 } : Room) s m args below meth c Z a0 consts_1 S0 (⟨"java/lang/Integer", "getChars", "(II[B)I"⟩ : MethodName) jdk_33_method_12_code 7 (some .int) V h0 0 0 (mkF m 22 #[.val (.int y), .val (.int idx), .val (.ref t), o3, o4, .val (.int (Int32.ofNat k)), .val (.int 0)] [])) : Fini p e below s Z consts_1 S0 0 0 (fun v h => ∃ r, v = some (.int r) ∧ Keep hb h [t] ∧ Arv Z h t kb .byte 16 (A ++ (own_b (own_dgs I) ++ R)) (.int 0)) := by
  by_cases q : I < 100
  · exact gc22a l Z a0 hw hEL d1 d2 k1 k2 S1 S2 D1 D2 hb h0 t kb A X R I y idx k hy o3 o4 ho3 ho4 hX hl hk Kb F ge_t_Z q w
  have e100 : (-100 : Int32).toInt = -100 := by decide
  have e100' : (100 : Int32).toInt = 100 := by decide
  have q100 : ¬ I < 100 := by omega
  have hI5 : I < 100000 := by omega
  have hn := own_nd100 q100 hI5
  have hnl := own_nd_le I
  have hnl' := own_nd_le (I / 100)
  replace w := w.iloadN (pc' := 23) d21_22 rfl
  replace w := w.bipush (pc' := 25) (-100 : Int32) d21_23
  replace w := w.icmpNo (pc' := 28) d21_25 ((flt (by rw [Int32.lt_iff_toInt_lt, hy, e100]; omega)).2.2.1)
  replace w := w.iloadN (pc' := 29) d21_28 rfl
  replace w := w.bipush (pc' := 31) (100 : Int32) d21_29
  replace w := w.idiv (pc' := 32) d21_31 (by decide)
  obtain ⟨yq, hyq⟩ : ∃ z, z = (y / (100 : Int32)) := ⟨_, rfl⟩
  rw [← hyq] at w
  have hyq' : yq.toInt = -((I / 100 : Nat) : Int) := by
    rw [hyq]
    have h2 := (c_idiv y 100 100 e100' (by decide)).2 (by omega)
    rw [h2, hy]; omega
  replace w := w.istoreN (pc' := 33) (L' := #[.val (.int y), .val (.int idx), .val (.ref t), .val (.int yq), o4, .val (.int (Int32.ofNat k)), .val (.int (0 : Int32))]) d21_32 (XS.store1 rfl (ho3) rfl)
  replace w := w.iloadN (pc' := 34) d21_33 rfl
  replace w := w.bipush (pc' := 36) (100 : Int32) d21_34
  replace w := w.imul (pc' := 37) d21_36
  replace w := w.iloadN (pc' := 38) d21_37 rfl
  replace w := w.isub (pc' := 39) d21_38
  have er : yq * (100 : Int32) - y = Int32.ofNat (I % 100) := by
    have h1 := c_imul yq 100
    have h2 := rng32 (yq * 100)
    have h3 := c_isub (yq * 100) y
    have h4 := rng32 (yq * 100 - y)
    have h5 := (own_m32 (n := I % 100) (by omega)).2.2
    rw [e100'] at h1
    exact Int32.toInt_inj.mp (by omega)
  rw [er] at w
  have hr : I % 100 < 100 := by omega
  have ed := own_dec (k := k) (by omega) (by omega)
  have ed2 := own_dec (k := k - 1) (by omega) (by omega)
  replace w := w.istore (pc' := 41) (L' := #[.val (.int y), .val (.int idx), .val (.ref t), .val (.int yq), .val (.int (Int32.ofNat (I % 100))), .val (.int (Int32.ofNat k)), .val (.int (0 : Int32))]) d21_39 (XS.store1 rfl (ho4) rfl)
  replace w := w.iloadN (pc' := 42) d21_41 rfl
  replace w := w.istoreN (pc' := 43) (L' := #[.val (.int yq), .val (.int idx), .val (.ref t), .val (.int yq), .val (.int (Int32.ofNat (I % 100))), .val (.int (Int32.ofNat k)), .val (.int (0 : Int32))]) d21_42 rfl
  replace w := w.aloadN (pc' := 44) d21_43 rfl
  replace w := w.iinc (pc' := 47) (L' := #[.val (.int yq), .val (.int idx), .val (.ref t), .val (.int yq), .val (.int (Int32.ofNat (I % 100))), .val (.int ((Int32.ofNat k) + (-1 : Int32))), .val (.int (0 : Int32))]) d21_44 rfl rfl
  rw [ed] at w
  replace w := w.iload (pc' := 49) d21_47 rfl
  replace w := w.getS (hw _ (List.mem_of_getElem? (i := 130) rfl)) S1 d21_49 (pc' := 52)
  replace w := w.iload (pc' := 54) d21_52 rfl
  have Q1 := D1.ext w.old
  replace w := w.baload (v := (.int (Int32.ofNat (48 + I % 100 % 10)))) Q1 d21_54 ⟨(own_bnd100 hr).1, (own_bnd100 hr).2⟩ (by rw [(own_m32 (n := I % 100) (by omega)).2.1]; exact own_ones_at hr) (pc' := 55)
  have b1 := own_bnd (k := k - 1) (by omega)
  obtain ⟨X', x1, x2, rfl, hX'⟩ := own_last2 (hX.trans hn)
  have hlx : (X' ++ [x1, x2]).length = X'.length + 2 := by simp
  have eAX : A ++ (X' ++ [x1, x2] ++ R) = (A ++ X') ++ x1 :: x2 :: R := by simp
  rw [eAX] at F
  have hAX : (A ++ X').length = A.length + X'.length := List.length_append
  obtain ⟨h1, K1, F1, A1, w⟩ := w.bastore (x' := (Int32.ofNat (48 + I % 100 % 10)).toInt8.toInt32) F d21_55 ⟨b1.1, b1.2⟩ (rfl) (k - 1) ((own_m32 (by omega)).2.1) (by rw [List.length_append, hAX]; simp only [List.length_cons]; omega) (ge_t_Z) (own_safe16 hw w.hZ F) (pc' := 56)
  rw [own_set2 (A ++ X') x1 x2 _ R (k - 1) (by omega)] at F1
  replace w := w.aloadN (pc' := 57) d21_56 rfl
  replace w := w.iinc (pc' := 60) (L' := #[.val (.int yq), .val (.int idx), .val (.ref t), .val (.int yq), .val (.int (Int32.ofNat (I % 100))), .val (.int ((Int32.ofNat (k - 1)) + (-1 : Int32))), .val (.int (0 : Int32))]) d21_57 rfl rfl
  rw [ed2] at w
  replace w := w.iload (pc' := 62) d21_60 rfl
  replace w := w.getS (hw _ (List.mem_of_getElem? (i := 217) rfl)) S2 d21_62 (pc' := 65)
  replace w := w.iload (pc' := 67) d21_65 rfl
  have Q2 := D2.ext w.old
  replace w := w.baload (v := (.int (Int32.ofNat (48 + I % 100 / 10)))) Q2 d21_67 ⟨(own_bnd100 hr).1, (own_bnd100 hr).2⟩ (by rw [(own_m32 (n := I % 100) (by omega)).2.1]; exact own_tens_at hr) (pc' := 68)
  have b2 := own_bnd (k := k - 1 - 1) (by omega)
  obtain ⟨h2, K2, F2, A2, w⟩ := w.bastore (x' := (Int32.ofNat (48 + I % 100 / 10)).toInt8.toInt32) F1 d21_68 ⟨b2.1, b2.2⟩ (rfl) (k - 1 - 1) ((own_m32 (by omega)).2.1) (by rw [List.length_append, hAX]; simp only [List.length_cons]; omega) (ge_t_Z) (own_safe16 hw w.hZ F1) (pc' := 69)
  rw [own_set1 (A ++ X') x1 _ _ (k - 1 - 1) (by omega), List.append_assoc] at F2
  replace w := w.goto (pc' := 22) d21_69
  have K02 := (Kb.trans K1 (allS (Or.inl (List.mem_cons_self ..)) all0)).trans K2 (allS (Or.inl (List.mem_cons_self ..)) all0)
  have eD : own_b (own_dgs I) ++ R = own_b (own_dgs (I / 100)) ++ ([.int (Int32.ofNat (48 + I % 100 / 10)).toInt8.toInt32, .int (Int32.ofNat (48 + I % 100 % 10)).toInt8.toInt32] ++ R) := by
    rw [own_dgs100 q100 hI5, own_b_app, List.append_assoc]; rfl
  rw [eD]
  exact gc22a l Z a0 hw hEL d1 d2 k1 k2 S1 S2 D1 D2 hb _ t kb A X' ([.int (Int32.ofNat (48 + I % 100 / 10)).toInt8.toInt32, .int (Int32.ofNat (48 + I % 100 % 10)).toInt8.toInt32] ++ R) (I / 100) yq idx (k - 1 - 1) hyq' _ _ (Or.inr ⟨_, rfl, rfl⟩) (Or.inr ⟨_, rfl, rfl⟩) hX' (by rw [List.length_append]; simp only [List.length_cons, List.length_nil]; omega) (by omega) K02 F2 ge_t_Z (by omega) w
set_option maxRecDepth 65536 in
theorem gc22c (l : Launch) (Z : State) (a0 : Array Value) (hw : ∀ d ∈ tables_1, d.before a0 Z = true) (hEL : EW Z a0 consts_1) (d1 d2 : Addr) (k1 k2 : ClassId) (S1 : Sta Z Z.heap "java/lang/Integer" "DigitOnes" "[B" (.ref d1)) (S2 : Sta Z Z.heap "java/lang/Integer" "DigitTens" "[B" (.ref d2)) (D1 : Arv Z Z.heap d1 k1 .byte 100 own_ones (.int 0)) (D2 : Arv Z Z.heap d2 k2 .byte 100 own_tens (.int 0)) {p : Program} {e : Env} {s : State} {m : MethodId} {args : Array Value} {below : List Frame} {meth : Method} {c : Code} {S0 : State} {V : Vm} (hb h0 : Heap) (t : Addr) (kb : ClassId) (A X R : List Value) (I : Nat) (y idx : Int32) (k : Nat) (hy : y.toInt = -(I : Int)) (o3 o4 : Slot) (ho3 : o3 = .unset ∨ ∃ w, o3 = .val w ∧ w.category = 1) (ho4 : o4 = .unset ∨ ∃ w, o4 = .val w ∧ w.category = 1) (hX : X.length = own_nd I) (hl : A.length + X.length + R.length = 16) (hk : k = A.length + X.length) (Kb : Keep hb h0 [t]) (F : Arv Z h0 t kb .byte 16 (A ++ (X ++ R)) (.int 0)) (ge_t_Z : Z.heap.size ≤ t) (hI : I < 100000) (w : Wk p l e ({ frames := 0, cells := 0, slots := 0, locals := 0 } : Room) s m args below meth c Z a0 consts_1 S0 (⟨"java/lang/Integer", "getChars", "(II[B)I"⟩ : MethodName) jdk_33_method_12_code 7 (some .int) V h0 0 0 (mkF m 22 #[.val (.int y), .val (.int idx), .val (.ref t), o3, o4, .val (.int (Int32.ofNat k)), .val (.int 0)] [])) : Fini p e below s Z consts_1 S0 0 0 (fun v h => ∃ r, v = some (.int r) ∧ Keep hb h [t] ∧ Arv Z h t kb .byte 16 (A ++ (own_b (own_dgs I) ++ R)) (.int 0)) := by
  by_cases q : I < 10000
  · exact gc22b l Z a0 hw hEL d1 d2 k1 k2 S1 S2 D1 D2 hb h0 t kb A X R I y idx k hy o3 o4 ho3 ho4 hX hl hk Kb F ge_t_Z q w
  have e100 : (-100 : Int32).toInt = -100 := by decide
  have e100' : (100 : Int32).toInt = 100 := by decide
  have q100 : ¬ I < 100 := by omega
  have hI5 : I < 100000 := by omega
  have hn := own_nd100 q100 hI5
  have hnl := own_nd_le I
  have hnl' := own_nd_le (I / 100)
  replace w := w.iloadN (pc' := 23) d21_22 rfl
  replace w := w.bipush (pc' := 25) (-100 : Int32) d21_23
  replace w := w.icmpNo (pc' := 28) d21_25 ((flt (by rw [Int32.lt_iff_toInt_lt, hy, e100]; omega)).2.2.1)
  replace w := w.iloadN (pc' := 29) d21_28 rfl
  replace w := w.bipush (pc' := 31) (100 : Int32) d21_29
  replace w := w.idiv (pc' := 32) d21_31 (by decide)
  obtain ⟨yq, hyq⟩ : ∃ z, z = (y / (100 : Int32)) := ⟨_, rfl⟩
  rw [← hyq] at w
  have hyq' : yq.toInt = -((I / 100 : Nat) : Int) := by
    rw [hyq]
    have h2 := (c_idiv y 100 100 e100' (by decide)).2 (by omega)
    rw [h2, hy]; omega
  replace w := w.istoreN (pc' := 33) (L' := #[.val (.int y), .val (.int idx), .val (.ref t), .val (.int yq), o4, .val (.int (Int32.ofNat k)), .val (.int (0 : Int32))]) d21_32 (XS.store1 rfl (ho3) rfl)
  replace w := w.iloadN (pc' := 34) d21_33 rfl
  replace w := w.bipush (pc' := 36) (100 : Int32) d21_34
  replace w := w.imul (pc' := 37) d21_36
  replace w := w.iloadN (pc' := 38) d21_37 rfl
  replace w := w.isub (pc' := 39) d21_38
  have er : yq * (100 : Int32) - y = Int32.ofNat (I % 100) := by
    have h1 := c_imul yq 100
    have h2 := rng32 (yq * 100)
    have h3 := c_isub (yq * 100) y
    have h4 := rng32 (yq * 100 - y)
    have h5 := (own_m32 (n := I % 100) (by omega)).2.2
    rw [e100'] at h1
    exact Int32.toInt_inj.mp (by omega)
  rw [er] at w
  have hr : I % 100 < 100 := by omega
  have ed := own_dec (k := k) (by omega) (by omega)
  have ed2 := own_dec (k := k - 1) (by omega) (by omega)
  replace w := w.istore (pc' := 41) (L' := #[.val (.int y), .val (.int idx), .val (.ref t), .val (.int yq), .val (.int (Int32.ofNat (I % 100))), .val (.int (Int32.ofNat k)), .val (.int (0 : Int32))]) d21_39 (XS.store1 rfl (ho4) rfl)
  replace w := w.iloadN (pc' := 42) d21_41 rfl
  replace w := w.istoreN (pc' := 43) (L' := #[.val (.int yq), .val (.int idx), .val (.ref t), .val (.int yq), .val (.int (Int32.ofNat (I % 100))), .val (.int (Int32.ofNat k)), .val (.int (0 : Int32))]) d21_42 rfl
  replace w := w.aloadN (pc' := 44) d21_43 rfl
  replace w := w.iinc (pc' := 47) (L' := #[.val (.int yq), .val (.int idx), .val (.ref t), .val (.int yq), .val (.int (Int32.ofNat (I % 100))), .val (.int ((Int32.ofNat k) + (-1 : Int32))), .val (.int (0 : Int32))]) d21_44 rfl rfl
  rw [ed] at w
  replace w := w.iload (pc' := 49) d21_47 rfl
  replace w := w.getS (hw _ (List.mem_of_getElem? (i := 130) rfl)) S1 d21_49 (pc' := 52)
  replace w := w.iload (pc' := 54) d21_52 rfl
  have Q1 := D1.ext w.old
  replace w := w.baload (v := (.int (Int32.ofNat (48 + I % 100 % 10)))) Q1 d21_54 ⟨(own_bnd100 hr).1, (own_bnd100 hr).2⟩ (by rw [(own_m32 (n := I % 100) (by omega)).2.1]; exact own_ones_at hr) (pc' := 55)
  have b1 := own_bnd (k := k - 1) (by omega)
  obtain ⟨X', x1, x2, rfl, hX'⟩ := own_last2 (hX.trans hn)
  have hlx : (X' ++ [x1, x2]).length = X'.length + 2 := by simp
  have eAX : A ++ (X' ++ [x1, x2] ++ R) = (A ++ X') ++ x1 :: x2 :: R := by simp
  rw [eAX] at F
  have hAX : (A ++ X').length = A.length + X'.length := List.length_append
  obtain ⟨h1, K1, F1, A1, w⟩ := w.bastore (x' := (Int32.ofNat (48 + I % 100 % 10)).toInt8.toInt32) F d21_55 ⟨b1.1, b1.2⟩ (rfl) (k - 1) ((own_m32 (by omega)).2.1) (by rw [List.length_append, hAX]; simp only [List.length_cons]; omega) (ge_t_Z) (own_safe16 hw w.hZ F) (pc' := 56)
  rw [own_set2 (A ++ X') x1 x2 _ R (k - 1) (by omega)] at F1
  replace w := w.aloadN (pc' := 57) d21_56 rfl
  replace w := w.iinc (pc' := 60) (L' := #[.val (.int yq), .val (.int idx), .val (.ref t), .val (.int yq), .val (.int (Int32.ofNat (I % 100))), .val (.int ((Int32.ofNat (k - 1)) + (-1 : Int32))), .val (.int (0 : Int32))]) d21_57 rfl rfl
  rw [ed2] at w
  replace w := w.iload (pc' := 62) d21_60 rfl
  replace w := w.getS (hw _ (List.mem_of_getElem? (i := 217) rfl)) S2 d21_62 (pc' := 65)
  replace w := w.iload (pc' := 67) d21_65 rfl
  have Q2 := D2.ext w.old
  replace w := w.baload (v := (.int (Int32.ofNat (48 + I % 100 / 10)))) Q2 d21_67 ⟨(own_bnd100 hr).1, (own_bnd100 hr).2⟩ (by rw [(own_m32 (n := I % 100) (by omega)).2.1]; exact own_tens_at hr) (pc' := 68)
  have b2 := own_bnd (k := k - 1 - 1) (by omega)
  obtain ⟨h2, K2, F2, A2, w⟩ := w.bastore (x' := (Int32.ofNat (48 + I % 100 / 10)).toInt8.toInt32) F1 d21_68 ⟨b2.1, b2.2⟩ (rfl) (k - 1 - 1) ((own_m32 (by omega)).2.1) (by rw [List.length_append, hAX]; simp only [List.length_cons]; omega) (ge_t_Z) (own_safe16 hw w.hZ F1) (pc' := 69)
  rw [own_set1 (A ++ X') x1 _ _ (k - 1 - 1) (by omega), List.append_assoc] at F2
  replace w := w.goto (pc' := 22) d21_69
  have K02 := (Kb.trans K1 (allS (Or.inl (List.mem_cons_self ..)) all0)).trans K2 (allS (Or.inl (List.mem_cons_self ..)) all0)
  have eD : own_b (own_dgs I) ++ R = own_b (own_dgs (I / 100)) ++ ([.int (Int32.ofNat (48 + I % 100 / 10)).toInt8.toInt32, .int (Int32.ofNat (48 + I % 100 % 10)).toInt8.toInt32] ++ R) := by
    rw [own_dgs100 q100 hI5, own_b_app, List.append_assoc]; rfl
  rw [eD]
  exact gc22b l Z a0 hw hEL d1 d2 k1 k2 S1 S2 D1 D2 hb _ t kb A X' ([.int (Int32.ofNat (48 + I % 100 / 10)).toInt8.toInt32, .int (Int32.ofNat (48 + I % 100 % 10)).toInt8.toInt32] ++ R) (I / 100) yq idx (k - 1 - 1) hyq' _ _ (Or.inr ⟨_, rfl, rfl⟩) (Or.inr ⟨_, rfl, rfl⟩) hX' (by rw [List.length_append]; simp only [List.length_cons, List.length_nil]; omega) (by omega) K02 F2 ge_t_Z (by omega) w
set_option maxRecDepth 65536 in
theorem rmGC (l : Launch) (Z : State) (a0 : Array Value) (hw : ∀ d ∈ tables_1, d.before a0 Z = true) (hEL : EW Z a0 consts_1) (d1 d2 : Addr) (k1 k2 : ClassId) (S1 : Sta Z Z.heap "java/lang/Integer" "DigitOnes" "[B" (.ref d1)) (S2 : Sta Z Z.heap "java/lang/Integer" "DigitTens" "[B" (.ref d2)) (D1 : Arv Z Z.heap d1 k1 .byte 100 own_ones (.int 0)) (D2 : Arv Z Z.heap d2 k2 .byte 100 own_tens (.int 0)) (N : Nat) (hN : N < 100000) (t : Addr) (kb : ClassId) (A X R : List Value) (k : Nat) (hX : X.length = own_nd N) (hl : A.length + X.length + R.length = 16) (hk : k = A.length + X.length) (h0 : Heap) (hx : Ext Z.heap h0) (F : Arv Z h0 t kb .byte 16 (A ++ (X ++ R)) (.int 0)) (ge_t_Z : Z.heap.size ≤ t) :
    Met l Z consts_1 (⟨"java/lang/Integer", "getChars", "(II[B)I"⟩ : MethodName) jdk_33_method_12_code 7 (some .int) [] ({ frames := 0, cells := 0, slots := 0, locals := 0 } : Room) #[.int (Int32.ofNat N), .int (Int32.ofNat k), .ref t] h0 [] (fun v h => ∃ r, v = some (.int r) ∧ Keep h0 h [t] ∧ Arv Z h t kb .byte 16 (A ++ (own_b (own_dgs N) ++ R)) (.int 0)) := by
  have n1 := own_m32 (n := N) (by omega)
  refine Met.of (a0 := a0) (by decide +kernel) hEL hx ?_
  intro p e s m below meth c S0 V w hs hsf
  replace w := w.to (g' := mkF m 0 #[.val (.int (Int32.ofNat N)), .val (.int (Int32.ofNat k)), .val (.ref t), .unset, .unset, .unset, .unset] []) (by first | (simp [entryFrame, mkF, argsToLocals, Value.category]; done) | rfl)
  replace w := w.iloadN (pc' := 1) d21_0 rfl
  replace w := w.istore (pc' := 3) (L' := #[.val (.int (Int32.ofNat N)), .val (.int (Int32.ofNat k)), .val (.ref t), .unset, .unset, .val (.int (Int32.ofNat k)), .unset]) d21_1 rfl
  replace w := w.iloadN (pc' := 4) d21_3 rfl
  replace w := w.ifYes (pc' := 11) d21_4 ((if0 _ _).trans (flt n1.1).2.1)
  replace w := w.iconst (pc' := 12) (0 : Int32) d21_11
  replace w := w.istore (pc' := 14) (L' := #[.val (.int (Int32.ofNat N)), .val (.int (Int32.ofNat k)), .val (.ref t), .unset, .unset, .val (.int (Int32.ofNat k)), .val (.int (0 : Int32))]) d21_12 rfl
  replace w := w.iload (pc' := 16) d21_14 rfl
  replace w := w.ifNo (pc' := 19) d21_16 (by decide)
  replace w := w.iloadN (pc' := 20) d21_19 rfl
  replace w := w.ineg (pc' := 21) d21_20
  replace w := w.istoreN (pc' := 22) (L' := #[.val (.int (-(Int32.ofNat N))), .val (.int (Int32.ofNat k)), .val (.ref t), .unset, .unset, .val (.int (Int32.ofNat k)), .val (.int (0 : Int32))]) d21_21 rfl
  exact gc22c l Z a0 hw hEL d1 d2 k1 k2 S1 S2 D1 D2 h0 h0 t kb A X R N (-(Int32.ofNat N)) (Int32.ofNat k) k (own_neg hN) .unset .unset (Or.inl rfl) (Or.inl rfl) hX hl hk (Keep.refl h0 [t]) F ge_t_Z hN w
/-! append(int) -/
set_option maxRecDepth 65536 in
theorem rmABaI (l : Launch) (Z : State) (a0 : Array Value) (hw : ∀ d ∈ tables_1, d.before a0 Z = true) (hEL : EW Z a0 consts_1) (z0 : Int32) (Sc : Sta Z Z.heap "java/lang/String" "COMPACT_STRINGS" "Z" (.int z0)) (hz0 : ¬ z0 = 0) (d1 d2 : Addr) (k1 k2 : ClassId) (S1 : Sta Z Z.heap "java/lang/Integer" "DigitOnes" "[B" (.ref d1)) (S2 : Sta Z Z.heap "java/lang/Integer" "DigitTens" "[B" (.ref d2)) (D1 : Arv Z Z.heap d1 k1 .byte 100 own_ones (.int 0)) (D2 : Arv Z Z.heap d2 k2 .byte 100 own_tens (.int 0)) (b t : Addr) (kb : ClassId) (cs : List Int32) (N : Nat) (hN : N < 100000) (hcs : cs.length ≤ 10) (h0 : Heap) (hx : Ext Z.heap h0) (T : SBd Z h0 b t kb cs) (ge_b_Z : Z.heap.size ≤ b) (ge_t_Z : Z.heap.size ≤ t) :
    Met l Z consts_1 (⟨"java/lang/AbstractStringBuilder", "append", "(I)Ljava/lang/AbstractStringBuilder;"⟩ : MethodName) jdk_68_method_32_code 4 (some (.object "java/lang/AbstractStringBuilder")) [] ({ frames := 1, cells := 0, slots := 0, locals := 30 } : Room) #[.ref b, .int (Int32.ofNat N)] h0 [] (fun v h => v = some (.ref b) ∧ Keep h0 h [b, t] ∧ SBd Z h b t kb (cs ++ own_dgs N)) := by
  have T' := T
  obtain ⟨X_b, Fv, Fc, Fn, A⟩ := T
  have ne : b ≠ t := Exa.neArv X_b A (hw _ (List.mem_of_getElem? (i := 41) rfl))
  have hnd := own_nd_le N
  have ea := own_add32 (a := cs.length) (b := own_nd N) (by omega)
  have e16 : own_16 (own_b cs) = own_b cs ++ (List.replicate (own_nd N) (.int 0) ++ List.replicate (16 - cs.length - own_nd N) (.int 0)) := by
    rw [own_16, own_b_len, List.replicate_append_replicate]
    congr 2; omega
  refine Met.of (a0 := a0) (by decide +kernel) hEL hx ?_
  intro p e s m below meth c S0 V w hs hsf
  replace w := w.to (g' := mkF m 0 #[.val (.ref b), .val (.int (Int32.ofNat N)), .unset, .unset] []) (by first | (simp [entryFrame, mkF, argsToLocals, Value.category]; done) | rfl)
  replace w := w.aloadN (pc' := 1) d18_0 rfl
  replace w := w.getF (hw _ (List.mem_of_getElem? (i := 81) rfl)) Fn d18_1 (pc' := 4)
  replace w := w.istoreN (pc' := 5) (L' := #[.val (.ref b), .val (.int (Int32.ofNat N)), .val (.int (Int32.ofNat cs.length)), .unset]) d18_4 rfl
  replace w := w.iloadN (pc' := 6) d18_5 rfl
  replace w := w.iloadN (pc' := 7) d18_6 rfl
  obtain ⟨v1, V1, h1, hq1, A1, w⟩ := w.static (y' := (⟨"java/lang/Integer", "stringSize", "(I)I"⟩ : MethodName)) (W := 1) (w.pays 1 (rmSS l Z a0 hw hEL N hN h0 w.old) (hw _ (List.mem_of_getElem? (i := 121) rfl)) (hw _ (List.mem_of_getElem? (i := 120) rfl)) all0 nle nle) (hw _ (List.mem_of_getElem? (i := 118) rfl)) (hw _ (List.mem_of_getElem? (i := 119) rfl)) (hw _ (List.mem_of_getElem? (i := 120) rfl)) (hw _ (List.mem_of_getElem? (i := 121) rfl)) (argsL := [(.int (Int32.ofNat N))]) (rest := [(.int (Int32.ofNat cs.length))]) (by decide) pd_14 rfl rfl (Nat.le_of_eq rfl) rfl d18_7 nle nle (pc' := 10)
  obtain ⟨rfl, he1⟩ := hq1
  replace w := w.to (g' := mkF m 10 #[.val (.ref b), .val (.int (Int32.ofNat N)), .val (.int (Int32.ofNat cs.length)), .unset] [(.int (Int32.ofNat (own_nd N))), (.int (Int32.ofNat cs.length))]) rfl
  replace he1 := he1.symm
  subst he1
  replace w := w.iadd (pc' := 11) d18_10
  rw [ea] at w
  replace w := w.istoreN (pc' := 12) (L' := #[.val (.ref b), .val (.int (Int32.ofNat N)), .val (.int (Int32.ofNat cs.length)), .val (.int (Int32.ofNat (cs.length + own_nd N)))]) d18_11 rfl
  replace w := w.aloadN (pc' := 13) d18_12 rfl
  replace w := w.iloadN (pc' := 14) d18_13 rfl
  obtain ⟨v2, V2, h2, hq2, A2, w⟩ := w.priv (y' := (⟨"java/lang/AbstractStringBuilder", "ensureCapacityInternal", "(I)V"⟩ : MethodName)) (W := 0) (C := "java/lang/StringBuilder") (b := b) (w.pays 0 (rmENS l Z a0 hw hEL b t kb cs (cs.length + own_nd N) (by omega) h0 w.old T') (hw _ (List.mem_of_getElem? (i := 87) rfl)) (hw _ (List.mem_of_getElem? (i := 50) rfl)) all0 nle nle) (hw _ (List.mem_of_getElem? (i := 83) rfl)) (hw _ (List.mem_of_getElem? (i := 84) rfl)) (hw _ (List.mem_of_getElem? (i := 85) rfl)) (hw _ (List.mem_of_getElem? (i := 86) rfl)) (hw _ (List.mem_of_getElem? (i := 87) rfl)) (argsL := [(.int (Int32.ofNat (cs.length + own_nd N)))]) (rest := []) (by decide) (X_b) pd_0 rfl rfl (Nat.le_of_eq rfl) rfl d18_14 nle nle (pc' := 17)
  obtain ⟨rfl, he2⟩ := hq2
  replace w := w.to (g' := mkF m 17 #[.val (.ref b), .val (.int (Int32.ofNat N)), .val (.int (Int32.ofNat cs.length)), .val (.int (Int32.ofNat (cs.length + own_nd N)))] []) rfl
  replace he2 := he2.symm
  subst he2
  replace w := w.aloadN (pc' := 18) d18_17 rfl
  obtain ⟨v3, V3, h3, hq3, A3, w⟩ := w.virt (y' := (⟨"java/lang/AbstractStringBuilder", "isLatin1", "()Z"⟩ : MethodName)) (W := 0) (C := "java/lang/StringBuilder") (b := b) (w.pays 0 (rmISL l Z a0 hw hEL z0 Sc hz0 b t kb cs h0 w.old T') (hw _ (List.mem_of_getElem? (i := 126) rfl)) (hw _ (List.mem_of_getElem? (i := 50) rfl)) all0 nle nle) (hw _ (List.mem_of_getElem? (i := 122) rfl)) (hw _ (List.mem_of_getElem? (i := 123) rfl)) (hw _ (List.mem_of_getElem? (i := 125) rfl)) (hw _ (List.mem_of_getElem? (i := 124) rfl)) (argsL := []) (rest := []) (by decide) X_b pd_11 rfl rfl (Nat.le_of_eq rfl) rfl d18_18 nle nle (pc' := 21)
  obtain ⟨rfl, he3⟩ := hq3
  replace w := w.to (g' := mkF m 21 #[.val (.ref b), .val (.int (Int32.ofNat N)), .val (.int (Int32.ofNat cs.length)), .val (.int (Int32.ofNat (cs.length + own_nd N)))] [(.int (1 : Int32))]) rfl
  replace he3 := he3.symm
  subst he3
  replace w := w.ifNo (pc' := 24) d18_21 (by decide)
  replace w := w.iloadN (pc' := 25) d18_24 rfl
  replace w := w.iloadN (pc' := 26) d18_25 rfl
  replace w := w.aloadN (pc' := 27) d18_26 rfl
  replace w := w.getF (hw _ (List.mem_of_getElem? (i := 54) rfl)) Fv d18_27 (pc' := 30)
  rw [e16] at A
  obtain ⟨v4, V4, h4, hq4, A4, w⟩ := w.static (y' := (⟨"java/lang/Integer", "getChars", "(II[B)I"⟩ : MethodName)) (W := 0) (w.pays 0 (rmGC l Z a0 hw hEL d1 d2 k1 k2 S1 S2 D1 D2 N hN t kb (own_b cs) (List.replicate (own_nd N) (.int 0)) (List.replicate (16 - cs.length - own_nd N) (.int 0)) (cs.length + own_nd N) List.length_replicate (by rw [own_b_len, List.length_replicate, List.length_replicate]; omega) (by rw [own_b_len, List.length_replicate]) h0 w.old A ge_t_Z) (hw _ (List.mem_of_getElem? (i := 129) rfl)) (hw _ (List.mem_of_getElem? (i := 120) rfl)) all0 nle nle) (hw _ (List.mem_of_getElem? (i := 127) rfl)) (hw _ (List.mem_of_getElem? (i := 128) rfl)) (hw _ (List.mem_of_getElem? (i := 120) rfl)) (hw _ (List.mem_of_getElem? (i := 129) rfl)) (argsL := [(.int (Int32.ofNat N)), (.int (Int32.ofNat (cs.length + own_nd N))), (.ref t)]) (rest := []) (by decide) pd_15 rfl rfl (Nat.le_of_eq rfl) rfl d18_30 nle nle (pc' := 33)
  obtain ⟨rr, rfl, K4, A'⟩ := hq4
  replace w := w.to (g' := mkF m 33 #[.val (.ref b), .val (.int (Int32.ofNat N)), .val (.int (Int32.ofNat cs.length)), .val (.int (Int32.ofNat (cs.length + own_nd N)))] [(.int rr)]) rfl
  have X4 := X_b.keep K4
  have nb : b ∉ [t] := ninS ne nin0
  have Fn4 := Fn.keep K4 nb
  replace w := w.pop (pc' := 34) d18_33
  replace w := w.goto (pc' := 48) d18_34
  replace w := w.aloadN (pc' := 49) d18_48 rfl
  replace w := w.iloadN (pc' := 50) d18_49 rfl
  obtain ⟨h5, W5, K5, Fw5, A5, w⟩ := w.putF (ty := .int) (hw _ (List.mem_of_getElem? (i := 81) rfl)) (Fn4) (X4) (Or.inl (hw _ (List.mem_of_getElem? (i := 82) rfl))) (hw _ (List.mem_of_getElem? (i := 41) rfl)) (by decide) rfl rfl (Safe.exa w.hZ.alike X4 (by decide) (by decide)) (ge_b_Z) d18_50 (pc' := 53)
  replace w := w.aloadN (pc' := 54) d18_53 rfl
  have K05 : Keep h0 h5 [b, t] := (((Keep.refl h0 [b, t])).trans K4 (allS (Or.inl (by simp)) all0)).trans K5 (allS (Or.inl (by simp)) all0)
  have ee : (cs ++ own_dgs N).length = cs.length + own_nd N := by rw [List.length_append, own_dgs_len]
  have eA : own_16 (own_b (cs ++ own_dgs N)) = own_b cs ++ (own_b (own_dgs N) ++ List.replicate (16 - cs.length - own_nd N) (.int 0)) := by
    rw [own_16, own_b_len, own_b_app, List.append_assoc, ee]
    congr 3; omega
  exact w.retA d18_54 ⟨rfl, K05, X4.wr W5, (Fv.keep K4 nb).other W5 (Or.inr (own_nv hw).symm), (Fc.keep K4 nb).other W5 (Or.inr (own_nc hw).symm), by rw [ee]; exact Fw5, by rw [eA]; exact A'.other W5 ne.symm⟩ nle nle
set_option maxRecDepth 65536 in
theorem rmSBaI (l : Launch) (Z : State) (a0 : Array Value) (hw : ∀ d ∈ tables_1, d.before a0 Z = true) (hEL : EW Z a0 consts_1) (z0 : Int32) (Sc : Sta Z Z.heap "java/lang/String" "COMPACT_STRINGS" "Z" (.int z0)) (hz0 : ¬ z0 = 0) (d1 d2 : Addr) (k1 k2 : ClassId) (S1 : Sta Z Z.heap "java/lang/Integer" "DigitOnes" "[B" (.ref d1)) (S2 : Sta Z Z.heap "java/lang/Integer" "DigitTens" "[B" (.ref d2)) (D1 : Arv Z Z.heap d1 k1 .byte 100 own_ones (.int 0)) (D2 : Arv Z Z.heap d2 k2 .byte 100 own_tens (.int 0)) (b t : Addr) (kb : ClassId) (cs : List Int32) (N : Nat) (hN : N < 100000) (hcs : cs.length ≤ 10) (h0 : Heap) (hx : Ext Z.heap h0) (T : SBd Z h0 b t kb cs) (ge_b_Z : Z.heap.size ≤ b) (ge_t_Z : Z.heap.size ≤ t) :
    Met l Z consts_1 (⟨"java/lang/StringBuilder", "append", "(I)Ljava/lang/StringBuilder;"⟩ : MethodName) jdk_67_method_15_code 2 (some (.object "java/lang/StringBuilder")) [] ({ frames := 2, cells := 0, slots := 0, locals := 46 } : Room) #[.ref b, .int (Int32.ofNat N)] h0 [] (fun v h => v = some (.ref b) ∧ Keep h0 h [b, t] ∧ SBd Z h b t kb (cs ++ own_dgs N)) := by
  have X_b := T.1
  refine Met.of (a0 := a0) (by decide +kernel) hEL hx ?_
  intro p e s m below meth c S0 V w hs hsf
  replace w := w.to (g' := mkF m 0 #[.val (.ref b), .val (.int (Int32.ofNat N))] []) (by first | (simp [entryFrame, mkF, argsToLocals, Value.category]; done) | rfl)
  replace w := w.aloadN (pc' := 1) d17_0 rfl
  replace w := w.iloadN (pc' := 2) d17_1 rfl
  obtain ⟨v1, V1, h1, hq1, A1, w⟩ := w.super (y' := (⟨"java/lang/AbstractStringBuilder", "append", "(I)Ljava/lang/AbstractStringBuilder;"⟩ : MethodName)) (W := 0) (b := b) (w.pays 0 (rmABaI l Z a0 hw hEL z0 Sc hz0 d1 d2 k1 k2 S1 S2 D1 D2 b t kb cs N hN hcs h0 w.old T ge_b_Z ge_t_Z) (hw _ (List.mem_of_getElem? (i := 117) rfl)) (hw _ (List.mem_of_getElem? (i := 50) rfl)) all0 nle nle) (hw _ (List.mem_of_getElem? (i := 114) rfl)) (own_same (y1 := (⟨"java/lang/AbstractStringBuilder", "append", "(I)Ljava/lang/AbstractStringBuilder;"⟩ : MethodName)) (y2 := (⟨"java/lang/AbstractStringBuilder", "ensureCapacityInternal", "(I)V"⟩ : MethodName)) (hw _ (List.mem_of_getElem? (i := 115) rfl)) (hw _ (List.mem_of_getElem? (i := 84) rfl)) (hw _ (List.mem_of_getElem? (i := 86) rfl)) rfl (by decide)) (hw _ (List.mem_of_getElem? (i := 115) rfl)) (hw _ (List.mem_of_getElem? (i := 65) rfl)) (hw _ (List.mem_of_getElem? (i := 117) rfl)) (argsL := [(.int (Int32.ofNat N))]) (rest := []) (by decide) (X_b) pd_16 rfl rfl (Nat.le_of_eq rfl) rfl d17_2 nle nle (pc' := 5)
  obtain ⟨rfl, K1, T'⟩ := hq1
  replace w := w.to (g' := mkF m 5 #[.val (.ref b), .val (.int (Int32.ofNat N))] [(.ref b)]) rfl
  replace w := w.pop (pc' := 6) d17_5
  replace w := w.aloadN (pc' := 7) d17_6 rfl
  exact w.retA d17_7 ⟨rfl, K1, T'⟩ nle nle
/-! HostPort -/
set_option maxRecDepth 65536 in
theorem rmREC (l : Launch) (Z : State) (a0 : Array Value) (hw : ∀ d ∈ tables_1, d.before a0 Z = true) (hEL : EW Z a0 consts_1) (b : Addr) (h0 : Heap) (hx : Ext Z.heap h0) :
    Met l Z consts_1 (⟨"java/lang/Record", "<init>", "()V"⟩ : MethodName) jdk_30_method_1_code 1 none [] ({ frames := 1, cells := 0, slots := 0, locals := 12 } : Room) #[.ref b] h0 [] (fun v h => v = none ∧ h = h0) := by
  refine Met.of (a0 := a0) (by decide +kernel) hEL hx ?_
  intro p e s m below meth c S0 V w hs hsf
  replace w := w.to (g' := mkF m 0 #[.val (.ref b)] []) (by first | (simp [entryFrame, mkF, argsToLocals, Value.category]; done) | rfl)
  replace w := w.aloadN (pc' := 1) d4_0 rfl
  replace w := w.initO 0 (hw _ (List.mem_of_getElem? (i := 28) rfl)) (hw _ (List.mem_of_getElem? (i := 29) rfl)) (hw _ (List.mem_of_getElem? (i := 30) rfl)) rfl d4_1 (by decide) (Nat.le_of_eq rfl) (by decide) (pc' := 4)
  exact w.ret0 d4_4 ⟨rfl, rfl⟩ nle nle
set_option maxRecDepth 65536 in
theorem rmHPi (l : Launch) (Z : State) (a0 : Array Value) (hw : ∀ d ∈ tables_1, d.before a0 Z = true) (hEL : EW Z a0 consts_1) (b x : Addr) (pp : Int32) (h0 : Heap) (hx : Ext Z.heap h0) (X_b : Exa Z h0 b "com/example/twinshore/twinshore/HostPort") (Fh : Fld Z h0 b "com/example/twinshore/twinshore/HostPort" "host" "Ljava/lang/String;" .null) (Fp : Fld Z h0 b "com/example/twinshore/twinshore/HostPort" "port" "I" (.int 0)) (ge_b_Z : Z.heap.size ≤ b) :
    Met l Z consts_1 (⟨"com/example/twinshore/twinshore/HostPort", "<init>", "(Ljava/lang/String;I)V"⟩ : MethodName) prog_3_method_1_code 3 none [] ({ frames := 2, cells := 0, slots := 0, locals := 26 } : Room) #[.ref b, .ref x, .int pp] h0 [] (fun v h => v = none ∧ Keep h0 h [b] ∧ Exa Z h b "com/example/twinshore/twinshore/HostPort" ∧ Fld Z h b "com/example/twinshore/twinshore/HostPort" "host" "Ljava/lang/String;" (.ref x) ∧ Fld Z h b "com/example/twinshore/twinshore/HostPort" "port" "I" (.int pp)) := by
  have nhp : RoadKit.slotOf Z "com/example/twinshore/twinshore/HostPort" "host" "Ljava/lang/String;" ≠ RoadKit.slotOf Z "com/example/twinshore/twinshore/HostPort" "port" "I" := slot_ne (C := "com/example/twinshore/twinshore/HostPort") (Or.inr (hw _ (List.mem_of_getElem? (i := 32) rfl))) (Or.inr (hw _ (List.mem_of_getElem? (i := 34) rfl))) (by decide) (t := .object "java/lang/String") (t' := .int) (by decide) (by decide)
  refine Met.of (a0 := a0) (by decide +kernel) hEL hx ?_
  intro p e s m below meth c S0 V w hs hsf
  replace w := w.to (g' := mkF m 0 #[.val (.ref b), .val (.ref x), .val (.int pp)] []) (by first | (simp [entryFrame, mkF, argsToLocals, Value.category]; done) | rfl)
  replace w := w.aloadN (pc' := 1) d3_0 rfl
  obtain ⟨v1, V1, h1, hq1, A1, w⟩ := w.ctor (y' := (⟨"java/lang/Record", "<init>", "()V"⟩ : MethodName)) (W := 0) (a := b) (w.pays 0 (rmREC l Z a0 hw hEL b h0 w.old) (hw _ (List.mem_of_getElem? (i := 27) rfl)) (hw _ (List.mem_of_getElem? (i := 26) rfl)) all0 nle nle) rfl (hw _ (List.mem_of_getElem? (i := 23) rfl)) (hw _ (List.mem_of_getElem? (i := 24) rfl)) (hw _ (List.mem_of_getElem? (i := 27) rfl)) (argsL := []) (rest := []) (by decide) pd_17 rfl rfl (Nat.le_of_eq rfl) rfl d3_1 nle nle (pc' := 4)
  obtain ⟨rfl, he1⟩ := hq1
  replace w := w.to (g' := mkF m 4 #[.val (.ref b), .val (.ref x), .val (.int pp)] []) rfl
  replace he1 := he1.symm
  subst he1
  replace w := w.aloadN (pc' := 5) d3_4 rfl
  replace w := w.aloadN (pc' := 6) d3_5 rfl
  obtain ⟨h2, W2, K2, Fw2, A2, w⟩ := w.putF (ty := (.object "java/lang/String")) (hw _ (List.mem_of_getElem? (i := 31) rfl)) (Fh) (X_b) (Or.inr ⟨(hw _ (List.mem_of_getElem? (i := 32) rfl)), rfl, rfl⟩) (hw _ (List.mem_of_getElem? (i := 18) rfl)) (by decide) rfl rfl (Safe.exa w.hZ.alike X_b (by decide) (by decide)) (ge_b_Z) d3_6 (pc' := 9)
  have X2 := X_b.wr W2
  have Fp2 := Fp.other W2 (Or.inr nhp.symm)
  replace w := w.aloadN (pc' := 10) d3_9 rfl
  replace w := w.iloadN (pc' := 11) d3_10 rfl
  obtain ⟨h3, W3, K3, Fw3, A3, w⟩ := w.putF (ty := .int) (hw _ (List.mem_of_getElem? (i := 33) rfl)) (Fp2) (X2) (Or.inr ⟨(hw _ (List.mem_of_getElem? (i := 34) rfl)), rfl, rfl⟩) (hw _ (List.mem_of_getElem? (i := 18) rfl)) (by decide) rfl rfl (Safe.exa w.hZ.alike X2 (by decide) (by decide)) (ge_b_Z) d3_11 (pc' := 14)
  exact w.ret0 d3_14 ⟨rfl, ((Keep.refl h0 [b]).trans K2 (allS (Or.inl (List.mem_cons_self ..)) all0)).trans K3 (allS (Or.inl (List.mem_cons_self ..)) all0), X2.wr W3, Fw2.other W3 (Or.inr nhp), Fw3⟩ nle nle
set_option maxRecDepth 65536 in
theorem rmHPs (l : Launch) (Z : State) (a0 : Array Value) (hw : ∀ d ∈ tables_1, d.before a0 Z = true) (hEL : EW Z a0 consts_1) (z0 : Int32) (Sc : Sta Z Z.heap "java/lang/String" "COMPACT_STRINGS" "Z" (.int z0)) (hz0 : ¬ z0 = 0) (d1 d2 : Addr) (k1 k2 : ClassId) (S1 : Sta Z Z.heap "java/lang/Integer" "DigitOnes" "[B" (.ref d1)) (S2 : Sta Z Z.heap "java/lang/Integer" "DigitTens" "[B" (.ref d2)) (D1 : Arv Z Z.heap d1 k1 .byte 100 own_ones (.int 0)) (D2 : Arv Z Z.heap d2 k2 .byte 100 own_tens (.int 0)) (hp x : Addr) (cs : List Int32) (hcs : cs.length ≤ 3) (N : Nat) (hN : N < 100000) (h0 : Heap) (hx : Ext Z.heap h0) (U : Str Z h0 x cs) (Fh : Fld Z h0 hp "com/example/twinshore/twinshore/HostPort" "host" "Ljava/lang/String;" (.ref x)) (Fp : Fld Z h0 hp "com/example/twinshore/twinshore/HostPort" "port" "I" (.int (Int32.ofNat N))) :
    Met l Z consts_1 (⟨"com/example/twinshore/twinshore/HostPort", "toString", "()Ljava/lang/String;"⟩ : MethodName) prog_3_method_6_code 1 (some (.object "java/lang/String")) [] ({ frames := 6, cells := 6, slots := 48, locals := 133 } : Room) #[.ref hp] h0 [] (fun v h => ∃ r, v = some (.ref r) ∧ Ext h0 h ∧ Str Z h r (cs ++ [58] ++ own_dgs N)) := by
  have hnd := own_nd_le N
  have hpc : ∀ c ∈ cs ++ [58] ++ own_dgs N, ¬ c < 0 ∧ ¬ (255 : Int32) < c := fun c hc => by
    rcases List.mem_append.mp hc with hc | hc
    · rcases List.mem_append.mp hc with hc | hc
      · exact U.1 c hc
      · rw [List.mem_singleton.mp hc]; decide
    · exact own_dgs_rng N c hc
  have hlen : (cs ++ [58] ++ own_dgs N).length = cs.length + 1 + own_nd N := by rw [List.length_append, List.length_append, own_dgs_len]; rfl
  have hstr := own_hstr hw
  have hx0 := hx
  refine Met.of (a0 := a0) (by decide +kernel) hEL hx ?_
  intro p e s m below meth c S0 V w hs hsf
  have hbz : Z.heap.size ≤ h0.size := w.zsz
  replace w := w.to (g' := mkF m 0 #[.val (.ref hp)] []) (by first | (simp [entryFrame, mkF, argsToLocals, Value.category]; done) | rfl)
  have BZ := w.old
  have B0 := extR h0
  have C0 := CHr.refl w.ch
  obtain ⟨h1, b, g_b, E1, X_b, D_b, S_b, A1, w⟩ := w.new (hw _ (List.mem_of_getElem? (i := 40) rfl)) (hw _ (List.mem_of_getElem? (i := 41) rfl)) (hw _ (List.mem_of_getElem? (i := 42) rfl)) d6_0 nle nle (pc' := 3)
  have lt_b : b < h1.size := X_b.lt
  have ge_b_Z : Z.heap.size ≤ b := Nat.le_trans BZ.1 (Nat.le_of_eq g_b.symm)
  have ge_b_0 : h0.size ≤ b := Nat.le_trans B0.1 (Nat.le_of_eq g_b.symm)
  have F_b_value := D_b (Or.inl (hw _ (List.mem_of_getElem? (i := 55) rfl))) (ty := (.array .byte)) (by decide)
  have F_b_coder := D_b (Or.inl (hw _ (List.mem_of_getElem? (i := 57) rfl))) (ty := .byte) (by decide)
  have F_b_count := D_b (Or.inl (hw _ (List.mem_of_getElem? (i := 82) rfl))) (ty := .int) (by decide)
  have BZ := extT BZ E1
  have B0 := extT B0 E1
  have C0 := C0.trans A1
  have B1 := B0
  replace w := w.dup (pc' := 4) d6_3
  obtain ⟨v2, V2, h2, hq2, A2, w⟩ := w.ctor (y' := (⟨"java/lang/StringBuilder", "<init>", "()V"⟩ : MethodName)) (W := 1) (a := b) (w.pays 1 (rmSBi l Z a0 hw hEL z0 Sc hz0 b h1 w.old X_b F_b_value F_b_coder F_b_count ge_b_Z) (hw _ (List.mem_of_getElem? (i := 45) rfl)) (hw _ (List.mem_of_getElem? (i := 42) rfl)) all0 nle nle) rfl (hw _ (List.mem_of_getElem? (i := 43) rfl)) (hw _ (List.mem_of_getElem? (i := 44) rfl)) (hw _ (List.mem_of_getElem? (i := 45) rfl)) (argsL := []) (rest := [(.ref b)]) (by decide) pd_17 rfl rfl (Nat.le_of_eq rfl) rfl d6_4 nle nle (pc' := 7)
  obtain ⟨t, kb, rfl, K2, Tb, gt⟩ := hq2
  replace w := w.to (g' := mkF m 7 #[.val (.ref hp)] [(.ref b)]) rfl
  have BZ := extK BZ K2 (allS ge_b_Z all0)
  have B0 := extK B0 K2 (allS ge_b_0 all0)
  have C0 := C0.trans A2
  have ge_t_0 : h0.size ≤ t := Nat.le_trans B1.1 gt
  have ge_t_Z : Z.heap.size ≤ t := Nat.le_trans hbz ge_t_0
  have X_b := Tb.1
  replace w := w.aloadN (pc' := 8) d6_7 rfl
  have Fh1 := Fh.ext B0
  replace w := w.getF (hw _ (List.mem_of_getElem? (i := 31) rfl)) Fh1 d6_8 (pc' := 11)
  obtain ⟨v3, V3, h3, hq3, A3, w⟩ := w.virt (y' := (⟨"java/lang/StringBuilder", "append", "(Ljava/lang/String;)Ljava/lang/StringBuilder;"⟩ : MethodName)) (W := 0) (C := "java/lang/StringBuilder") (b := b) (w.pays 0 (rmSBaS l Z a0 hw hEL z0 Sc hz0 b t kb [] x cs (by simp; omega) h2 w.old Tb (U.ext B0) ge_b_Z ge_t_Z) (hw _ (List.mem_of_getElem? (i := 62) rfl)) (hw _ (List.mem_of_getElem? (i := 42) rfl)) all0 nle nle) (hw _ (List.mem_of_getElem? (i := 58) rfl)) (hw _ (List.mem_of_getElem? (i := 59) rfl)) (hw _ (List.mem_of_getElem? (i := 61) rfl)) (hw _ (List.mem_of_getElem? (i := 60) rfl)) (argsL := [(.ref x)]) (rest := []) (by decide) X_b pd_18 rfl rfl (Nat.le_of_eq rfl) rfl d6_11 nle nle (pc' := 14)
  obtain ⟨rfl, K3, Tc⟩ := hq3
  replace w := w.to (g' := mkF m 14 #[.val (.ref hp)] [(.ref b)]) rfl
  have BZ := extK BZ K3 (allS ge_b_Z (allS ge_t_Z all0))
  have B0 := extK B0 K3 (allS ge_b_0 (allS ge_t_0 all0))
  have C0 := C0.trans A3
  have Tc : SBd Z h3 b t kb cs := Tc
  obtain ⟨q, V4, h4, E4, T_q, N_q, A4, w⟩ := w.ldcT [(58 : Int32)] 4 (text := ":") (hw _ (List.mem_of_getElem? (i := 108) rfl)) hstr (by decide) (by decide) (by decide) (by decide) (by decide) (by decide) d6_14 (by decide) (by decide) (by decide) (by decide) (pc' := 16)
  have BZ := extT BZ E4
  have B0 := extT B0 E4
  have C0 := C0.trans A4
  have Td := Tc.ext E4
  have X_b := Td.1
  obtain ⟨v5, V5, h5, hq5, A5, w⟩ := w.virt (y' := (⟨"java/lang/StringBuilder", "append", "(Ljava/lang/String;)Ljava/lang/StringBuilder;"⟩ : MethodName)) (W := 0) (C := "java/lang/StringBuilder") (b := b) (w.pays 0 (rmSBaS l Z a0 hw hEL z0 Sc hz0 b t kb cs q [58] (by simp; omega) h4 w.old Td T_q ge_b_Z ge_t_Z) (hw _ (List.mem_of_getElem? (i := 62) rfl)) (hw _ (List.mem_of_getElem? (i := 42) rfl)) all0 nle nle) (hw _ (List.mem_of_getElem? (i := 58) rfl)) (hw _ (List.mem_of_getElem? (i := 59) rfl)) (hw _ (List.mem_of_getElem? (i := 61) rfl)) (hw _ (List.mem_of_getElem? (i := 60) rfl)) (argsL := [(.ref q)]) (rest := []) (by decide) X_b pd_18 rfl rfl (Nat.le_of_eq rfl) rfl d6_16 nle nle (pc' := 19)
  obtain ⟨rfl, K5, Te⟩ := hq5
  replace w := w.to (g' := mkF m 19 #[.val (.ref hp)] [(.ref b)]) rfl
  have BZ := extK BZ K5 (allS ge_b_Z (allS ge_t_Z all0))
  have B0 := extK B0 K5 (allS ge_b_0 (allS ge_t_0 all0))
  have C0 := C0.trans A5
  have X_b := Te.1
  replace w := w.aloadN (pc' := 20) d6_19 rfl
  have Fp1 := Fp.ext B0
  replace w := w.getF (hw _ (List.mem_of_getElem? (i := 33) rfl)) Fp1 d6_20 (pc' := 23)
  obtain ⟨v6, V6, h6, hq6, A6, w⟩ := w.virt (y' := (⟨"java/lang/StringBuilder", "append", "(I)Ljava/lang/StringBuilder;"⟩ : MethodName)) (W := 0) (C := "java/lang/StringBuilder") (b := b) (w.pays 0 (rmSBaI l Z a0 hw hEL z0 Sc hz0 d1 d2 k1 k2 S1 S2 D1 D2 b t kb (cs ++ [58]) N hN (by rw [List.length_append]; simp; omega) h5 w.old Te ge_b_Z ge_t_Z) (hw _ (List.mem_of_getElem? (i := 113) rfl)) (hw _ (List.mem_of_getElem? (i := 42) rfl)) all0 nle nle) (hw _ (List.mem_of_getElem? (i := 109) rfl)) (hw _ (List.mem_of_getElem? (i := 110) rfl)) (hw _ (List.mem_of_getElem? (i := 112) rfl)) (hw _ (List.mem_of_getElem? (i := 111) rfl)) (argsL := [(.int (Int32.ofNat N))]) (rest := []) (by decide) X_b pd_19 rfl rfl (Nat.le_of_eq rfl) rfl d6_23 nle nle (pc' := 26)
  obtain ⟨rfl, K6, Tf⟩ := hq6
  replace w := w.to (g' := mkF m 26 #[.val (.ref hp)] [(.ref b)]) rfl
  have BZ := extK BZ K6 (allS ge_b_Z (allS ge_t_Z all0))
  have B0 := extK B0 K6 (allS ge_b_0 (allS ge_t_0 all0))
  have C0 := C0.trans A6
  have X_b := Tf.1
  obtain ⟨v7, V7, h7, hq7, A7, w⟩ := w.virt (y' := (⟨"java/lang/StringBuilder", "toString", "()Ljava/lang/String;"⟩ : MethodName)) (W := 0) (C := "java/lang/StringBuilder") (b := b) (w.pays 0 (rmTS l Z a0 hw hEL z0 Sc hz0 b t kb _ hpc (by rw [hlen]; omega) h6 w.old Tf) (hw _ (List.mem_of_getElem? (i := 135) rfl)) (hw _ (List.mem_of_getElem? (i := 42) rfl)) all0 nle nle) (hw _ (List.mem_of_getElem? (i := 131) rfl)) (hw _ (List.mem_of_getElem? (i := 132) rfl)) (hw _ (List.mem_of_getElem? (i := 134) rfl)) (hw _ (List.mem_of_getElem? (i := 133) rfl)) (argsL := []) (rest := []) (by decide) X_b pd_20 rfl rfl (Nat.le_of_eq rfl) rfl d6_26 nle nle (pc' := 29)
  obtain ⟨r, rfl, E7, Tr⟩ := hq7
  replace w := w.to (g' := mkF m 29 #[.val (.ref hp)] [(.ref r)]) rfl
  have BZ := extT BZ E7
  have B0 := extT B0 E7
  have C0 := C0.trans A7
  exact w.retA d6_29 ⟨r, rfl, B0, Tr⟩ nle nle
/-! String.valueOf(char) -/
set_option maxRecDepth 65536 in
theorem rmCE (l : Launch) (Z : State) (a0 : Array Value) (hw : ∀ d ∈ tables_1, d.before a0 Z = true) (hEL : EW Z a0 consts_1) (c0 : Int32) (r0 : ¬ c0 < 0 ∧ ¬ (255 : Int32) < c0) (h0 : Heap) (hx : Ext Z.heap h0) :
    Met l Z consts_1 (⟨"java/lang/StringLatin1", "canEncode", "(C)Z"⟩ : MethodName) jdk_43_method_3_code 1 (some .boolean) [] ({ frames := 0, cells := 0, slots := 0, locals := 0 } : Room) #[.int c0] h0 [] (fun v h => v = some (.int 1) ∧ h = h0) := by
  refine Met.of (a0 := a0) (by decide +kernel) hEL hx ?_
  intro p e s m below meth c S0 V w hs hsf
  replace w := w.to (g' := mkF m 0 #[.val (.int c0)] []) (by first | (simp [entryFrame, mkF, argsToLocals, Value.category]; done) | rfl)
  replace w := w.iloadN (pc' := 1) d44_0 rfl
  replace w := w.sipush (pc' := 4) (255 : Int32) d44_1
  replace w := w.icmpNo (pc' := 7) d44_4 ((flt r0.2).2.2.1)
  replace w := w.iconst (pc' := 8) (1 : Int32) d44_7
  replace w := w.goto (pc' := 12) d44_8
  exact w.retN d44_12 (by simp) ⟨rfl, rfl⟩ nle nle
set_option maxRecDepth 65536 in
theorem rmTB (l : Launch) (Z : State) (a0 : Array Value) (hw : ∀ d ∈ tables_1, d.before a0 Z = true) (hEL : EW Z a0 consts_1) (c0 : Int32) (h0 : Heap) (hx : Ext Z.heap h0) :
    Met l Z consts_1 (⟨"java/lang/StringLatin1", "toBytes", "(C)[B"⟩ : MethodName) jdk_43_method_46_code 1 (some (.array .byte)) [] ({ frames := 0, cells := 1, slots := 1, locals := 0 } : Room) #[.int c0] h0 [] (fun v h => ∃ t kb, v = some (.ref t) ∧ Ext h0 h ∧ Arv Z h t kb .byte 1 [.int c0.toInt8.toInt32] (.int 0)) := by
  refine Met.of (a0 := a0) (by decide +kernel) hEL hx ?_
  intro p e s m below meth c S0 V w hs hsf
  replace w := w.to (g' := mkF m 0 #[.val (.int c0)] []) (by first | (simp [entryFrame, mkF, argsToLocals, Value.category]; done) | rfl)
  have BZ := w.old
  have B0 := extR h0
  have C0 := CHr.refl w.ch
  replace w := w.iconst (pc' := 1) (1 : Int32) d45_0
  obtain ⟨h1, t, k_t, g_t, E1, V_t, S_t, A1, w⟩ := w.newarr (cap := 1) (hw _ (List.mem_of_getElem? (i := 3) rfl)) d45_1 (by decide) (by decide) nle nle (pc' := 3)
  have lt_t : t < h1.size := V_t.lt
  have ge_t_Z : Z.heap.size ≤ t := Nat.le_trans BZ.1 (Nat.le_of_eq g_t.symm)
  have ge_t_0 : h0.size ≤ t := Nat.le_trans B0.1 (Nat.le_of_eq g_t.symm)
  have BZ := extT BZ E1
  have B0 := extT B0 E1
  have C0 := C0.trans A1
  replace V_t := V_t.pad (vs' := [(.int (0 : Int32))]) (pad_rep [] _ 1)
  replace w := w.dup (pc' := 4) d45_3
  replace w := w.iconst (pc' := 5) (0 : Int32) d45_4
  replace w := w.iloadN (pc' := 6) d45_5 rfl
  replace w := w.i2b (pc' := 7) d45_6
  obtain ⟨h2, K2, V1, A2, w⟩ := w.bastore (x' := c0.toInt8.toInt32.toInt8.toInt32) V_t d45_7 ⟨by decide, by decide⟩ (rfl) (0) (rfl) (nle) (ge_t_Z) (S_t) (pc' := 8)
  have BZ := extK BZ K2 (allS ge_t_Z all0)
  have B0 := extK B0 K2 (allS ge_t_0 all0)
  have C0 := C0.trans A2
  have e8 : c0.toInt8.toInt32.toInt8.toInt32 = c0.toInt8.toInt32 := by
    have h1 := c_i2b c0
    have h2 := c_i2b c0.toInt8.toInt32
    exact Int32.toInt_inj.mp (by omega)
  rw [e8] at V1
  exact w.retA d45_8 ⟨t, k_t, rfl, B0, V1⟩ nle nle
set_option maxRecDepth 65536 in
theorem rmSBB (l : Launch) (Z : State) (a0 : Array Value) (hw : ∀ d ∈ tables_1, d.before a0 Z = true) (hEL : EW Z a0 consts_1) (x t : Addr) (kb : ClassId) (c0 : Int32) (r0 : ¬ c0 < 0 ∧ ¬ (255 : Int32) < c0) (h0 : Heap) (hx : Ext Z.heap h0) (X_x : Exa Z h0 x "java/lang/String") (Gv : Fld Z h0 x "java/lang/String" "value" "[B" .null) (Gc : Fld Z h0 x "java/lang/String" "coder" "B" (.int 0)) (ge_x_Z : Z.heap.size ≤ x) (A : Arv Z h0 t kb .byte 1 [.int c0.toInt8.toInt32] (.int 0)) :
    Met l Z consts_1 (⟨"java/lang/String", "<init>", "([BB)V"⟩ : MethodName) jdk_42_method_151_code 3 none [] ({ frames := 1, cells := 0, slots := 0, locals := 12 } : Room) #[.ref x, .ref t, .int 0] h0 [x] (fun v h => v = none ∧ Keep h0 h [x] ∧ Str Z h x [c0]) := by
  have ne : x ≠ t := Exa.neArv X_x A (hw _ (List.mem_of_getElem? (i := 2) rfl))
  refine Met.of (a0 := a0) (by decide +kernel) hEL hx ?_
  intro p e s m below meth c S0 V w hs hsf
  have Sx := hsf x (List.mem_cons_self ..)
  replace w := w.to (g' := mkF m 0 #[.val (.ref x), .val (.ref t), .val (.int (0 : Int32))] []) (by first | (simp [entryFrame, mkF, argsToLocals, Value.category]; done) | rfl)
  replace w := w.aloadN (pc' := 1) d46_0 rfl
  replace w := w.initO 0 (hw _ (List.mem_of_getElem? (i := 144) rfl)) (hw _ (List.mem_of_getElem? (i := 29) rfl)) (hw _ (List.mem_of_getElem? (i := 30) rfl)) rfl d46_1 (by decide) (Nat.le_of_eq rfl) (by decide) (pc' := 4)
  replace w := w.aloadN (pc' := 5) d46_4 rfl
  replace w := w.aloadN (pc' := 6) d46_5 rfl
  obtain ⟨h1, W1, K1, Fw1, A1, w⟩ := w.putF (ty := (.array .byte)) (hw _ (List.mem_of_getElem? (i := 73) rfl)) (Gv) (X_x) (Or.inr ⟨(hw _ (List.mem_of_getElem? (i := 4) rfl)), rfl, rfl⟩) (hw _ (List.mem_of_getElem? (i := 2) rfl)) (by decide) rfl rfl (Sx) (ge_x_Z) d46_6 (pc' := 9)
  have X1 := X_x.wr W1
  have Gc1 := Gc.other W1 (Or.inr (own_svc hw).symm)
  have Sx1 := A1.safe X_x.lt Sx
  replace w := w.aloadN (pc' := 10) d46_9 rfl
  replace w := w.iloadN (pc' := 11) d46_10 rfl
  obtain ⟨h2, W2, K2, Fw2, A2, w⟩ := w.putFN (v' := (.int (0 : Int32))) (ty := .byte) (hw _ (List.mem_of_getElem? (i := 80) rfl)) (Gc1) (X1) (Or.inr ⟨(hw _ (List.mem_of_getElem? (i := 5) rfl)), rfl, rfl⟩) (hw _ (List.mem_of_getElem? (i := 2) rfl)) (by decide) (rfl) (by decide) (Sx1) (ge_x_Z) d46_11 (pc' := 14)
  have K02 : Keep h0 h2 [x] := ((Keep.refl h0 [x]).trans K1 (allS (Or.inl (List.mem_cons_self ..)) all0)).trans K2 (allS (Or.inl (List.mem_cons_self ..)) all0)
  exact w.ret0 d46_14 ⟨rfl, K02, chars1 r0 chars0, t, kb, X1.wr W2, Fw1.other W2 (Or.inr (own_svc hw)), Fw2, (A.other W1 ne.symm).other W2 ne.symm⟩ nle nle
set_option maxRecDepth 65536 in
theorem rmVO (l : Launch) (Z : State) (a0 : Array Value) (hw : ∀ d ∈ tables_1, d.before a0 Z = true) (hEL : EW Z a0 consts_1) (z0 : Int32) (Sc : Sta Z Z.heap "java/lang/String" "COMPACT_STRINGS" "Z" (.int z0)) (hz0 : ¬ z0 = 0) (c0 : Int32) (r0 : ¬ c0 < 0 ∧ ¬ (255 : Int32) < c0) (h0 : Heap) (hx : Ext Z.heap h0) :
    Met l Z consts_1 (⟨"java/lang/String", "valueOf", "(C)Ljava/lang/String;"⟩ : MethodName) jdk_42_method_139_code 1 (some (.object "java/lang/String")) [] ({ frames := 2, cells := 2, slots := 5, locals := 30 } : Room) #[.int c0] h0 [] (fun v h => ∃ x, v = some (.ref x) ∧ Ext h0 h ∧ Str Z h x [c0]) := by
  refine Met.of (a0 := a0) (by decide +kernel) hEL hx ?_
  intro p e s m below meth c S0 V w hs hsf
  replace w := w.to (g' := mkF m 0 #[.val (.int c0)] []) (by first | (simp [entryFrame, mkF, argsToLocals, Value.category]; done) | rfl)
  have BZ := w.old
  have B0 := extR h0
  have C0 := CHr.refl w.ch
  replace w := w.getS (hw _ (List.mem_of_getElem? (i := 79) rfl)) Sc d43_0 (pc' := 3)
  replace w := w.ifNo (pc' := 6) d43_3 ((if0 _ _).trans (feq hz0).1)
  replace w := w.iloadN (pc' := 7) d43_6 rfl
  obtain ⟨v1, V1, h1, hq1, A1, w⟩ := w.static (y' := (⟨"java/lang/StringLatin1", "canEncode", "(C)Z"⟩ : MethodName)) (W := 0) (w.pays 0 (rmCE l Z a0 hw hEL c0 r0 h0 w.old) (hw _ (List.mem_of_getElem? (i := 223) rfl)) (hw _ (List.mem_of_getElem? (i := 190) rfl)) all0 nle nle) (hw _ (List.mem_of_getElem? (i := 221) rfl)) (hw _ (List.mem_of_getElem? (i := 222) rfl)) (hw _ (List.mem_of_getElem? (i := 190) rfl)) (hw _ (List.mem_of_getElem? (i := 223) rfl)) (argsL := [(.int c0)]) (rest := []) (by decide) pd_21 rfl rfl (Nat.le_of_eq rfl) rfl d43_7 nle nle (pc' := 10)
  obtain ⟨rfl, he1⟩ := hq1
  replace w := w.to (g' := mkF m 10 #[.val (.int c0)] [(.int (1 : Int32))]) rfl
  replace he1 := he1.symm
  subst he1
  have C0 := C0.trans A1
  replace w := w.ifNo (pc' := 13) d43_10 (by decide)
  obtain ⟨h2, x, g_x, E2, X_x, D_x, S_x, A2, w⟩ := w.new (hw _ (List.mem_of_getElem? (i := 224) rfl)) (hw _ (List.mem_of_getElem? (i := 2) rfl)) (hw _ (List.mem_of_getElem? (i := 1) rfl)) d43_13 nle nle (pc' := 16)
  have lt_x : x < h2.size := X_x.lt
  have ge_x_Z : Z.heap.size ≤ x := Nat.le_trans BZ.1 (Nat.le_of_eq g_x.symm)
  have ge_x_0 : h0.size ≤ x := Nat.le_trans B0.1 (Nat.le_of_eq g_x.symm)
  have F_x_value := D_x (Or.inr (hw _ (List.mem_of_getElem? (i := 4) rfl))) (ty := (.array .byte)) (by decide)
  have F_x_coder := D_x (Or.inr (hw _ (List.mem_of_getElem? (i := 5) rfl))) (ty := .byte) (by decide)
  have BZ := extT BZ E2
  have B0 := extT B0 E2
  have C0 := C0.trans A2
  have B1 := extR h2
  have C1 := CHr.refl w.ch
  replace w := w.dup (pc' := 17) d43_16
  replace w := w.iloadN (pc' := 18) d43_17 rfl
  obtain ⟨v3, V3, h3, hq3, A3, w⟩ := w.static (y' := (⟨"java/lang/StringLatin1", "toBytes", "(C)[B"⟩ : MethodName)) (W := 2) (w.pays 2 (rmTB l Z a0 hw hEL c0 h2 w.old) (hw _ (List.mem_of_getElem? (i := 227) rfl)) (hw _ (List.mem_of_getElem? (i := 190) rfl)) all0 nle nle) (hw _ (List.mem_of_getElem? (i := 225) rfl)) (hw _ (List.mem_of_getElem? (i := 226) rfl)) (hw _ (List.mem_of_getElem? (i := 190) rfl)) (hw _ (List.mem_of_getElem? (i := 227) rfl)) (argsL := [(.int c0)]) (rest := [(.ref x), (.ref x)]) (by decide) pd_22 rfl rfl (Nat.le_of_eq rfl) rfl d43_18 nle nle (pc' := 21)
  obtain ⟨t, kb, rfl, E3, Vt⟩ := hq3
  replace w := w.to (g' := mkF m 21 #[.val (.int c0)] [(.ref t), (.ref x), (.ref x)]) rfl
  have BZ := extT BZ E3
  have B0 := extT B0 E3
  have C0 := C0.trans A3
  have B1 := extT B1 E3
  have C1 := C1.trans A3
  have Sx := C1.safe lt_x S_x
  replace w := w.iconst (pc' := 22) (0 : Int32) d43_21
  obtain ⟨v4, V4, h4, hq4, A4, w⟩ := w.ctor (y' := (⟨"java/lang/String", "<init>", "([BB)V"⟩ : MethodName)) (W := 1) (a := x) (w.pays 1 (rmSBB l Z a0 hw hEL x t kb c0 r0 h3 w.old (X_x.ext B1) (F_x_value.ext B1) (F_x_coder.ext B1) ge_x_Z Vt) (hw _ (List.mem_of_getElem? (i := 230) rfl)) (hw _ (List.mem_of_getElem? (i := 1) rfl)) (allS Sx all0) nle nle) rfl (hw _ (List.mem_of_getElem? (i := 228) rfl)) (hw _ (List.mem_of_getElem? (i := 229) rfl)) (hw _ (List.mem_of_getElem? (i := 230) rfl)) (argsL := [(.ref t), (.int (0 : Int32))]) (rest := [(.ref x)]) (by decide) pd_23 rfl rfl (Nat.le_of_eq rfl) rfl d43_22 nle nle (pc' := 25)
  obtain ⟨rfl, K4, T1⟩ := hq4
  replace w := w.to (g' := mkF m 25 #[.val (.int c0)] [(.ref x)]) rfl
  have BZ := extK BZ K4 (allS ge_x_Z all0)
  have B0 := extK B0 K4 (allS ge_x_0 all0)
  have C0 := C0.trans A4
  exact w.retA d43_25 ⟨x, rfl, B0, T1⟩ nle nle
/-! the law's own helpers -/
set_option maxRecDepth 65536 in
theorem rmPW (l : Launch) (Z : State) (a0 : Array Value) (hw : ∀ d ∈ tables_1, d.before a0 Z = true) (hEL : EW Z a0 consts_1) (k : Nat) (hk : k ≤ 4) (h0 : Heap) (hx : Ext Z.heap h0) :
    Met l Z consts_1 (⟨"com/example/twinshore/twinshore/HostPortToStringPinLaw", "pow10", "(I)I"⟩ : MethodName) method_4_code 1 (some .int) [] ({ frames := 0, cells := 0, slots := 0, locals := 0 } : Room) #[.int (Int32.ofNat k)] h0 [] (fun v h => v = some (.int (Int32.ofNat (10 ^ k))) ∧ h = h0) := by
  refine Met.of (a0 := a0) (by decide +kernel) hEL hx ?_
  intro p e s m below meth c S0 V w hs hsf
  replace w := w.to (g' := mkF m 0 #[.val (.int (Int32.ofNat k))] []) (by first | (simp [entryFrame, mkF, argsToLocals, Value.category]; done) | rfl)
  replace w := w.iloadN (pc' := 1) d2_0 rfl
  rcases (by omega : k = 0 ∨ k = 1 ∨ k = 2 ∨ k = 3 ∨ k = 4) with rfl | rfl | rfl | rfl | rfl
  ·
    replace w := w.ifNo (pc' := 4) d2_1 (by decide)
    replace w := w.iconst (pc' := 5) (1 : Int32) d2_4
    exact w.retI d2_5 ⟨rfl, rfl⟩ nle nle
  ·
    replace w := w.ifYes (pc' := 6) d2_1 (by decide)
    replace w := w.iloadN (pc' := 7) d2_6 rfl
    replace w := w.iconst (pc' := 8) (1 : Int32) d2_7
    replace w := w.icmpNo (pc' := 11) d2_8 (by decide)
    replace w := w.bipush (pc' := 13) (10 : Int32) d2_11
    exact w.retI d2_13 ⟨rfl, rfl⟩ nle nle
  ·
    replace w := w.ifYes (pc' := 6) d2_1 (by decide)
    replace w := w.iloadN (pc' := 7) d2_6 rfl
    replace w := w.iconst (pc' := 8) (1 : Int32) d2_7
    replace w := w.icmpYes (pc' := 14) d2_8 (by decide)
    replace w := w.iloadN (pc' := 15) d2_14 rfl
    replace w := w.iconst (pc' := 16) (2 : Int32) d2_15
    replace w := w.icmpNo (pc' := 19) d2_16 (by decide)
    replace w := w.bipush (pc' := 21) (100 : Int32) d2_19
    exact w.retI d2_21 ⟨rfl, rfl⟩ nle nle
  ·
    replace w := w.ifYes (pc' := 6) d2_1 (by decide)
    replace w := w.iloadN (pc' := 7) d2_6 rfl
    replace w := w.iconst (pc' := 8) (1 : Int32) d2_7
    replace w := w.icmpYes (pc' := 14) d2_8 (by decide)
    replace w := w.iloadN (pc' := 15) d2_14 rfl
    replace w := w.iconst (pc' := 16) (2 : Int32) d2_15
    replace w := w.icmpYes (pc' := 22) d2_16 (by decide)
    replace w := w.iloadN (pc' := 23) d2_22 rfl
    replace w := w.iconst (pc' := 24) (3 : Int32) d2_23
    replace w := w.icmpNo (pc' := 27) d2_24 (by decide)
    replace w := w.sipush (pc' := 30) (1000 : Int32) d2_27
    exact w.retI d2_30 ⟨rfl, rfl⟩ nle nle
  ·
    replace w := w.ifYes (pc' := 6) d2_1 (by decide)
    replace w := w.iloadN (pc' := 7) d2_6 rfl
    replace w := w.iconst (pc' := 8) (1 : Int32) d2_7
    replace w := w.icmpYes (pc' := 14) d2_8 (by decide)
    replace w := w.iloadN (pc' := 15) d2_14 rfl
    replace w := w.iconst (pc' := 16) (2 : Int32) d2_15
    replace w := w.icmpYes (pc' := 22) d2_16 (by decide)
    replace w := w.iloadN (pc' := 23) d2_22 rfl
    replace w := w.iconst (pc' := 24) (3 : Int32) d2_23
    replace w := w.icmpYes (pc' := 31) d2_24 (by decide)
    replace w := w.sipush (pc' := 34) (10000 : Int32) d2_31
    exact w.retI d2_34 ⟨rfl, rfl⟩ nle nle
def own_dig (vs : List Value) (n d N j : Nat) : List Value := if j < d then vs.set (n + 1 + j) (.int (own_dd d N j)) else vs
theorem own_dig_len {vs : List Value} {n d N j : Nat} (h : vs.length = 9) : (own_dig vs n d N j).length = 9 := by
  rw [own_dig]; split
  · rw [List.length_set]; exact h
  · exact h
theorem own_dd32 {d N j : Nat} (hN : N < 100000) (hd : d - 1 - j ≤ 4) : (48 : Int32) + Int32.ofNat N / Int32.ofNat (10 ^ (d - 1 - j)) % 10 = own_dd d N j := by
  have e1 := (own_m32 (n := N) (by omega)).2.2
  have h10 : (10 : Nat) ^ (d - 1 - j) ≤ 10 ^ 4 := Nat.pow_le_pow_right (by omega) hd
  have hp : 0 < (10 : Nat) ^ (d - 1 - j) := Nat.pow_pos (by omega)
  have e2 := (own_m32 (n := 10 ^ (d - 1 - j)) (by omega)).2.2
  have hm1 : Int32.ofNat (10 ^ (d - 1 - j)) ≠ -1 := fun q => by
    have := congrArg Int32.toInt q
    rw [e2] at this
    have h3 : (-1 : Int32).toInt = -1 := by decide
    omega
  have e3 := (c_idiv (Int32.ofNat N) (Int32.ofNat (10 ^ (d - 1 - j))) _ e2 hm1).1 (by omega)
  rw [e1] at e3
  have e3' : (Int32.ofNat N / Int32.ofNat (10 ^ (d - 1 - j))).toInt = ((N / 10 ^ (d - 1 - j) : Nat) : Int) := by rw [e3]; simp
  have e10 : (10 : Int32).toInt = 10 := by decide
  obtain ⟨Q, hQ⟩ : ∃ Q : Nat, Q = N / 10 ^ (d - 1 - j) := ⟨_, rfl⟩
  rw [← hQ] at e3'
  have e4 := (c_irem (Int32.ofNat N / Int32.ofNat (10 ^ (d - 1 - j))) 10 10 e10).1 (by omega)
  rw [e3'] at e4
  clear e3 hm1 hp h10 e2 e1
  have e5 := c_iadd 48 (Int32.ofNat N / Int32.ofNat (10 ^ (d - 1 - j)) % 10)
  have e6 := rng32 (48 + Int32.ofNat N / Int32.ofNat (10 ^ (d - 1 - j)) % 10)
  have e48 : (48 : Int32).toInt = 48 := by decide
  have e7 := (own_m32 (n := 48 + Q % 10) (by omega)).2.2
  rw [own_dd, ← hQ]
  exact Int32.toInt_inj.mp (by omega)
theorem own_nar {c : Int32} (h : ¬ c < 0 ∧ ¬ (255 : Int32) < c) : nar .char c = c := by
  have h1 := h.1; have h2 := h.2
  have e0 : (0 : Int32).toInt = 0 := by decide
  have e1 : (255 : Int32).toInt = 255 := by decide
  rw [Int32.lt_iff_toInt_lt] at h1 h2
  have h3 := c_i2c c
  exact Int32.toInt_inj.mp (show c.toUInt32.toUInt16.toUInt32.toInt32.toInt = c.toInt by omega)
set_option maxRecDepth 65536 in
theorem rmDG (l : Launch) (Z : State) (a0 : Array Value) (hw : ∀ d ∈ tables_1, d.before a0 Z = true) (hEL : EW Z a0 consts_1) (ea : Addr) (ka : ClassId) (vs : List Value) (dv : Value) (n d N j : Nat) (hv : vs.length = 9) (hn : n ≤ 3) (hd : 1 ≤ d ∧ d ≤ 5) (hj : j ≤ 4) (hN : N < 100000) (h0 : Heap) (hx : Ext Z.heap h0) (F : Arv Z h0 ea ka .char 9 vs dv) (ge_ea_Z : Z.heap.size ≤ ea) :
    Met l Z consts_1 (⟨"com/example/twinshore/twinshore/HostPortToStringPinLaw", "digit", "([CIIII)V"⟩ : MethodName) method_5_code 5 none [] ({ frames := 1, cells := 0, slots := 0, locals := 16 } : Room) #[.ref ea, .int (Int32.ofNat n), .int (Int32.ofNat d), .int (Int32.ofNat N), .int (Int32.ofNat j)] h0 [] (fun v h => v = none ∧ Keep h0 h [ea] ∧ Arv Z h ea ka .char 9 (own_dig vs n d N j) dv) := by
  refine Met.of (a0 := a0) (by decide +kernel) hEL hx ?_
  intro p e s m below meth c S0 V w hs hsf
  replace w := w.to (g' := mkF m 0 #[.val (.ref ea), .val (.int (Int32.ofNat n)), .val (.int (Int32.ofNat d)), .val (.int (Int32.ofNat N)), .val (.int (Int32.ofNat j))] []) (by first | (simp [entryFrame, mkF, argsToLocals, Value.category]; done) | rfl)
  replace w := w.iload (pc' := 2) d1_0 rfl
  replace w := w.iloadN (pc' := 3) d1_2 rfl
  by_cases q : j < d
  ·
    replace w := w.icmpNo (pc' := 6) d1_3 ((tlt ((own_lt32 (by omega) (by omega)).mpr q)).2.1)
    have a1 : Int32.ofNat n + (1 : Int32) = Int32.ofNat (n + 1) := own_add32 (a := n) (b := 1) (by omega)
    have a2 := own_add32 (a := n + 1) (b := j) (by omega)
    have a3 : Int32.ofNat d - (1 : Int32) = Int32.ofNat (d - 1) := own_sub32 (a := d) (b := 1) (by omega) (by omega)
    have a4 := own_sub32 (a := d - 1) (b := j) (by omega) (by omega)
    replace w := w.aloadN (pc' := 7) d1_6 rfl
    replace w := w.iloadN (pc' := 8) d1_7 rfl
    replace w := w.iconst (pc' := 9) (1 : Int32) d1_8
    replace w := w.iadd (pc' := 10) d1_9
    replace w := w.iload (pc' := 12) d1_10 rfl
    replace w := w.iadd (pc' := 13) d1_12
    rw [a1, a2] at w
    replace w := w.bipush (pc' := 15) (48 : Int32) d1_13
    replace w := w.iloadN (pc' := 16) d1_15 rfl
    replace w := w.iloadN (pc' := 17) d1_16 rfl
    replace w := w.iconst (pc' := 18) (1 : Int32) d1_17
    replace w := w.isub (pc' := 19) d1_18
    replace w := w.iload (pc' := 21) d1_19 rfl
    replace w := w.isub (pc' := 22) d1_21
    rw [a3, a4] at w
    obtain ⟨v1, V1, h1, hq1, A1, w⟩ := w.static (y' := (⟨"com/example/twinshore/twinshore/HostPortToStringPinLaw", "pow10", "(I)I"⟩ : MethodName)) (W := 4) (w.pays 4 (rmPW l Z a0 hw hEL (d - 1 - j) (by omega) h0 w.old) (hw _ (List.mem_of_getElem? (i := 16) rfl)) (hw _ (List.mem_of_getElem? (i := 12) rfl)) all0 nle nle) (hw _ (List.mem_of_getElem? (i := 14) rfl)) (hw _ (List.mem_of_getElem? (i := 15) rfl)) (hw _ (List.mem_of_getElem? (i := 12) rfl)) (hw _ (List.mem_of_getElem? (i := 16) rfl)) (argsL := [(.int (Int32.ofNat (d - 1 - j)))]) (rest := [(.int (Int32.ofNat N)), (.int (48 : Int32)), (.int (Int32.ofNat (n + 1 + j))), (.ref ea)]) (by decide) pd_14 rfl rfl (Nat.le_of_eq rfl) rfl d1_22 nle nle (pc' := 25)
    obtain ⟨rfl, he1⟩ := hq1
    replace w := w.to (g' := mkF m 25 #[.val (.ref ea), .val (.int (Int32.ofNat n)), .val (.int (Int32.ofNat d)), .val (.int (Int32.ofNat N)), .val (.int (Int32.ofNat j))] [(.int (Int32.ofNat (10 ^ (d - 1 - j)))), (.int (Int32.ofNat N)), (.int (48 : Int32)), (.int (Int32.ofNat (n + 1 + j))), (.ref ea)]) rfl
    replace he1 := he1.symm
    subst he1
    have h10 : (10 : Nat) ^ (d - 1 - j) ≤ 10 ^ 4 := Nat.pow_le_pow_right (by omega) (by omega)
    have hp : 0 < (10 : Nat) ^ (d - 1 - j) := Nat.pow_pos (by omega)
    have hdiv : Int32.ofNat (10 ^ (d - 1 - j)) ≠ 0 := fun z => by
      have h2 := congrArg Int32.toInt z
      rw [(own_m32 (n := 10 ^ (d - 1 - j)) (by omega)).2.2] at h2
      have h3 : (0 : Int32).toInt = 0 := by decide
      omega
    replace w := w.idiv (pc' := 26) d1_25 (hdiv)
    replace w := w.bipush (pc' := 28) (10 : Int32) d1_26
    replace w := w.irem (pc' := 29) d1_28 (by decide)
    replace w := w.iadd (pc' := 30) d1_29
    rw [own_dd32 hN (by omega)] at w
    replace w := w.i2c (pc' := 31) d1_30
    have eN : (own_dd d N j).toUInt32.toUInt16.toUInt32.toInt32 = own_dd d N j := own_nar (own_dd_rng d N j)
    rw [eN] at w
    obtain ⟨h2, K2, F1, A2, w⟩ := w.castore (x' := (own_dd d N j)) F d1_31 ⟨(own_m32 (by omega)).1, (own_lt32 (a := n + 1 + j) (b := 9) (by omega) (by omega)).mpr (by omega)⟩ (own_nar (own_dd_rng d N j)) (n + 1 + j) ((own_m32 (by omega)).2.1) (by omega) (ge_ea_Z) (pc' := 32)
    exact w.ret0 d1_32 ⟨rfl, K2, by rw [own_dig, if_pos q]; exact F1⟩ nle nle
  replace w := w.icmpYes (pc' := 32) d1_3 ((flt (fun z => q ((own_lt32 (by omega) (by omega)).mp z))).2.1)
  exact w.ret0 d1_32 ⟨rfl, Keep.refl _ _, by rw [own_dig, if_neg q]; exact F⟩ nle nle
set_option maxRecDepth 65536 in
theorem rmAT (l : Launch) (Z : State) (a0 : Array Value) (hw : ∀ d ∈ tables_1, d.before a0 Z = true) (hEL : EW Z a0 consts_1) (z0 : Int32) (Sc : Sta Z Z.heap "java/lang/String" "COMPACT_STRINGS" "Z" (.int z0)) (hz0 : ¬ z0 = 0) (fm : Value) (Sf : Sta Z Z.heap "jdk/internal/util/Preconditions" "SIOOBE_FORMATTER" "Ljava/util/function/BiFunction;" fm) (rfm : fm.isRef = true) (x ea : Addr) (ka : ClassId) (cs : List Int32) (vs : List Value) (dv : Value) (i : Nat) (hl : cs.length ≤ 9) (hi : i ≤ 8) (hvs : ∀ i, i < cs.length → vs.getD i dv = .int (cs.getD i 0)) (h0 : Heap) (hx : Ext Z.heap h0) (U : Str Z h0 x cs) (F : Arv Z h0 ea ka .char 9 vs dv) :
    Met l Z consts_1 (⟨"com/example/twinshore/twinshore/HostPortToStringPinLaw", "at", "(Ljava/lang/String;[CI)Z"⟩ : MethodName) method_3_code 3 (some .boolean) [] ({ frames := 4, cells := 0, slots := 0, locals := 54 } : Room) #[.ref x, .ref ea, .int (Int32.ofNat i)] h0 [] (fun v h => v = some (.int 1) ∧ h = h0) := by
  have X_x := U.exa
  have hwl := own_wordsLen hw
  have hwc := own_wordsCh hw
  refine Met.of (a0 := a0) (by decide +kernel) hEL hx ?_
  intro p e s m below meth c S0 V w hs hsf
  replace w := w.to (g' := mkF m 0 #[.val (.ref x), .val (.ref ea), .val (.int (Int32.ofNat i))] []) (by first | (simp [entryFrame, mkF, argsToLocals, Value.category]; done) | rfl)
  replace w := w.iloadN (pc' := 1) d32_0 rfl
  replace w := w.aloadN (pc' := 2) d32_1 rfl
  obtain ⟨v1, V1, h1, hq1, A1, w⟩ := w.virt (y' := (⟨"java/lang/String", "length", "()I"⟩ : MethodName)) (W := 1) (C := "java/lang/String") (b := x) (w.payLen (W := 1) hwl (hw _ (List.mem_of_getElem? (i := 2) rfl)) U Sc hz0 (by omega) nle nle) (hw _ (List.mem_of_getElem? (i := 174) rfl)) (hw _ (List.mem_of_getElem? (i := 69) rfl)) (hw _ (List.mem_of_getElem? (i := 71) rfl)) (hw _ (List.mem_of_getElem? (i := 70) rfl)) (argsL := []) (rest := [(.int (Int32.ofNat i))]) (by decide) X_x pd_4 rfl rfl (Nat.le_of_eq rfl) rfl d32_2 nle nle (pc' := 5)
  obtain ⟨rfl, he1⟩ := hq1
  replace w := w.to (g' := mkF m 5 #[.val (.ref x), .val (.ref ea), .val (.int (Int32.ofNat i))] [(.int (Int32.ofNat cs.length)), (.int (Int32.ofNat i))]) rfl
  replace he1 := he1.symm
  subst he1
  by_cases q : i < cs.length
  ·
    replace w := w.icmpNo (pc' := 8) d32_5 ((tlt ((own_lt32 (by omega) (by omega)).mpr q)).2.1)
    replace w := w.aloadN (pc' := 9) d32_8 rfl
    replace w := w.iloadN (pc' := 10) d32_9 rfl
    obtain ⟨v2, V2, h2, hq2, A2, w⟩ := w.virt (y' := (⟨"java/lang/String", "charAt", "(I)C"⟩ : MethodName)) (W := 0) (C := "java/lang/String") (b := x) (w.payCh (W := 0) hwc (hw _ (List.mem_of_getElem? (i := 2) rfl)) U Sc hz0 Sf rfm (by omega) q rfl nle nle) (hw _ (List.mem_of_getElem? (i := 178) rfl)) (hw _ (List.mem_of_getElem? (i := 179) rfl)) (hw _ (List.mem_of_getElem? (i := 181) rfl)) (hw _ (List.mem_of_getElem? (i := 180) rfl)) (argsL := [(.int (Int32.ofNat i))]) (rest := []) (by decide) X_x pd_24 rfl rfl (Nat.le_of_eq rfl) rfl d32_10 nle nle (pc' := 13)
    obtain ⟨rfl, he2⟩ := hq2
    replace w := w.to (g' := mkF m 13 #[.val (.ref x), .val (.ref ea), .val (.int (Int32.ofNat i))] [(.int (cs.getD i 0))]) rfl
    replace he2 := he2.symm
    subst he2
    replace w := w.aloadN (pc' := 14) d32_13 rfl
    replace w := w.iloadN (pc' := 15) d32_14 rfl
    replace w := w.caload (v := (.int (cs.getD i 0))) F d32_15 ⟨(own_m32 (by omega)).1, (own_lt32 (a := i) (b := 9) (by omega) (by omega)).mpr (by omega)⟩ (by rw [(own_m32 (n := i) (by omega)).2.1]; exact hvs i q) (pc' := 16)
    replace w := w.icmpNo (pc' := 19) d32_16 ((teq rfl).2)
    replace w := w.iconst (pc' := 20) (1 : Int32) d32_19
    replace w := w.goto (pc' := 24) d32_20
    exact w.retN d32_24 (by simp) ⟨rfl, rfl⟩ nle nle
  replace w := w.icmpYes (pc' := 19) d32_5 ((flt (fun z => q ((own_lt32 (by omega) (by omega)).mp z))).2.1)
  replace w := w.iconst (pc' := 20) (1 : Int32) d32_19
  replace w := w.goto (pc' := 24) d32_20
  exact w.retN d32_24 (by simp) ⟨rfl, rfl⟩ nle nle
/-! the law -/
def own_fin (c0 c1 c2 : Int32) (n d N : Nat) : List Value := own_dig (own_dig (own_dig (own_dig (own_dig (([.int c0, .int c1, .int c2, .int 0, .int 0, .int 0, .int 0, .int 0, .int 0] : List Value).set n (.int 58)) n d N 0) n d N 1) n d N 2) n d N 3) n d N 4
theorem own_fin_eq (c0 c1 c2 : Int32) (n d N : Nat) (hn : n ≤ 3) (hd : 1 ≤ d ∧ d ≤ 5) : (own_fin c0 c1 c2 n d N).take (n + 1 + d) = ([c0, c1, c2].take n ++ [58] ++ (List.range d).map (own_dd d N)).map Value.int := by
  rcases (by omega : n = 0 ∨ n = 1 ∨ n = 2 ∨ n = 3) with rfl | rfl | rfl | rfl <;> rcases (by omega : d = 1 ∨ d = 2 ∨ d = 3 ∨ d = 4 ∨ d = 5) with rfl | rfl | rfl | rfl | rfl <;> rfl
theorem own_fin_at {c0 c1 c2 : Int32} {n d N : Nat} {cs : List Int32} {dv : Value} (hn : n ≤ 3) (hd : 1 ≤ d ∧ d ≤ 5) (hcs : cs = [c0, c1, c2].take n) (hdn : own_nd N = d) : ∀ i, i < (cs ++ [58] ++ own_dgs N).length → (own_fin c0 c1 c2 n d N).getD i dv = .int ((cs ++ [58] ++ own_dgs N).getD i 0) := fun i hi => by
  have e := own_fin_eq c0 c1 c2 n d N hn hd
  rw [← hcs] at e
  have e2 : own_dgs N = (List.range d).map (own_dd d N) := by rw [own_dgs, hdn]
  rw [← e2] at e
  have hl : (cs ++ [58] ++ own_dgs N).length = n + 1 + d := by
    rw [List.length_append, List.length_append, own_dgs_len, hdn, hcs, List.length_take]
    show min n 3 + 1 + d = _
    omega
  have h1 : ((own_fin c0 c1 c2 n d N).take (n + 1 + d))[i]? = (own_fin c0 c1 c2 n d N)[i]? := List.getElem?_take_of_lt (by omega)
  rw [List.getD_eq_getElem?_getD, ← h1, e, List.getElem?_map, List.getElem?_eq_getElem hi, List.getD_eq_getElem?_getD, List.getElem?_eq_getElem hi]
  rfl
set_option maxRecDepth 65536 in
theorem tl169 (l : Launch) (Z : State) (a0 : Array Value) (hw : ∀ d ∈ tables_1, d.before a0 Z = true) (hEL : EW Z a0 consts_1) (z0 : Int32) (Sc : Sta Z Z.heap "java/lang/String" "COMPACT_STRINGS" "Z" (.int z0)) (hz0 : ¬ z0 = 0) (d1 d2 : Addr) (k1 k2 : ClassId) (S1 : Sta Z Z.heap "java/lang/Integer" "DigitOnes" "[B" (.ref d1)) (S2 : Sta Z Z.heap "java/lang/Integer" "DigitTens" "[B" (.ref d2)) (D1 : Arv Z Z.heap d1 k1 .byte 100 own_ones (.int 0)) (D2 : Arv Z Z.heap d2 k2 .byte 100 own_tens (.int 0)) (fm : Value) (Sf : Sta Z Z.heap "jdk/internal/util/Preconditions" "SIOOBE_FORMATTER" "Ljava/util/function/BiFunction;" fm) (rfm : fm.isRef = true) {p : Program} {e : Env} {s : State} {m : MethodId} {args : Array Value} {below : List Frame} {meth : Method} {c : Code} {S0 : State} {V : Vm} (h0 : Heap) (a1 a2 a3 a4 a5 c0 c1 c2 : Int32) (n d N : Nat) (x : Addr) (cs : List Int32) (hn : n ≤ 3) (hN : N < 100000) (hdn : own_nd N = d) (hcs : cs = [c0, c1, c2].take n) (n0 : nar .char c0 = c0) (n1 : nar .char c1 = c1) (n2 : nar .char c2 = c2) (U : Str Z h0 x cs)
    (w : Wk p l e room_1 s m args below meth c Z a0 consts_1 S0 Jvm.Pilot.@@N@@.x code maxLocals ret V h0 4 32 (mkF m 169 #[.val (.int a1), .val (.int a2), .val (.int a3), .val (.int a4), .val (.int a5), .val (.int (Int32.ofNat n)), .val (.int c0), .val (.int c1), .val (.int c2), .val (.ref x), .val (.int (Int32.ofNat N)), .unset, .unset, .unset] [.int (Int32.ofNat d)])) :
    Fini p e below s Z consts_1 S0 32 2240 (fun v h => v = some (.int 1)) := by
  have hd : 1 ≤ d ∧ d ≤ 5 := hdn ▸ own_nd_le N
  have hwl := own_wordsLen hw
  have hcl : cs.length = n := by rw [hcs, List.length_take]; show min n 3 = n; omega
  have hlen : (cs ++ [58] ++ own_dgs N).length = n + 1 + d := by rw [List.length_append, List.length_append, own_dgs_len, hdn, hcl]; rfl
  have BZ := w.old
  have B0 := extR h0
  have C0 := CHr.refl w.ch
  replace w := w.istore (pc' := 171) (L' := #[.val (.int a1), .val (.int a2), .val (.int a3), .val (.int a4), .val (.int a5), .val (.int (Int32.ofNat n)), .val (.int c0), .val (.int c1), .val (.int c2), .val (.ref x), .val (.int (Int32.ofNat N)), .val (.int (Int32.ofNat d)), .unset, .unset]) at_169 rfl
  replace w := w.bipush (pc' := 173) (9 : Int32) at_171
  obtain ⟨h1, ea, k_ea, g_ea, E1, V_ea, S_ea, A1, w⟩ := w.newarr (cap := 9) (hw _ (List.mem_of_getElem? (i := 9) rfl)) at_173 (by decide) (by decide) nle nle (pc' := 175)
  have lt_ea : ea < h1.size := V_ea.lt
  have ge_ea_Z : Z.heap.size ≤ ea := Nat.le_trans BZ.1 (Nat.le_of_eq g_ea.symm)
  have ge_ea_0 : h0.size ≤ ea := Nat.le_trans B0.1 (Nat.le_of_eq g_ea.symm)
  have BZ := extT BZ E1
  have B0 := extT B0 E1
  have C0 := C0.trans A1
  replace V_ea := V_ea.pad (vs' := [(.int (0 : Int32)), (.int (0 : Int32)), (.int (0 : Int32)), (.int (0 : Int32)), (.int (0 : Int32)), (.int (0 : Int32)), (.int (0 : Int32)), (.int (0 : Int32)), (.int (0 : Int32))]) (pad_rep [] _ 9)
  replace w := w.astore (pc' := 177) (L' := #[.val (.int a1), .val (.int a2), .val (.int a3), .val (.int a4), .val (.int a5), .val (.int (Int32.ofNat n)), .val (.int c0), .val (.int c1), .val (.int c2), .val (.ref x), .val (.int (Int32.ofNat N)), .val (.int (Int32.ofNat d)), .val (.ref ea), .unset]) at_175 rfl
  replace w := w.aload (pc' := 179) at_177 rfl
  replace w := w.iconst (pc' := 180) (0 : Int32) at_179
  replace w := w.iload (pc' := 182) at_180 rfl
  obtain ⟨h2, K2, V_ea, A2, w⟩ := w.castore (x' := c0) V_ea at_182 ⟨by decide, by decide⟩ n0 0 rfl nle ge_ea_Z (pc' := 183)
  replace V_ea := V_ea.pad (vs' := [(.int c0), (.int (0 : Int32)), (.int (0 : Int32)), (.int (0 : Int32)), (.int (0 : Int32)), (.int (0 : Int32)), (.int (0 : Int32)), (.int (0 : Int32)), (.int (0 : Int32))]) (fun _ => rfl)
  have BZ := extK BZ K2 (allS ge_ea_Z all0)
  have B0 := extK B0 K2 (allS ge_ea_0 all0)
  have C0 := C0.trans A2
  replace w := w.aload (pc' := 185) at_183 rfl
  replace w := w.iconst (pc' := 186) (1 : Int32) at_185
  replace w := w.iload (pc' := 188) at_186 rfl
  obtain ⟨h3, K3, V_ea, A3, w⟩ := w.castore (x' := c1) V_ea at_188 ⟨by decide, by decide⟩ n1 1 rfl nle ge_ea_Z (pc' := 189)
  replace V_ea := V_ea.pad (vs' := [(.int c0), (.int c1), (.int (0 : Int32)), (.int (0 : Int32)), (.int (0 : Int32)), (.int (0 : Int32)), (.int (0 : Int32)), (.int (0 : Int32)), (.int (0 : Int32))]) (fun _ => rfl)
  have BZ := extK BZ K3 (allS ge_ea_Z all0)
  have B0 := extK B0 K3 (allS ge_ea_0 all0)
  have C0 := C0.trans A3
  replace w := w.aload (pc' := 191) at_189 rfl
  replace w := w.iconst (pc' := 192) (2 : Int32) at_191
  replace w := w.iload (pc' := 194) at_192 rfl
  obtain ⟨h4, K4, V_ea, A4, w⟩ := w.castore (x' := c2) V_ea at_194 ⟨by decide, by decide⟩ n2 2 rfl nle ge_ea_Z (pc' := 195)
  replace V_ea := V_ea.pad (vs' := [(.int c0), (.int c1), (.int c2), (.int (0 : Int32)), (.int (0 : Int32)), (.int (0 : Int32)), (.int (0 : Int32)), (.int (0 : Int32)), (.int (0 : Int32))]) (fun _ => rfl)
  have BZ := extK BZ K4 (allS ge_ea_Z all0)
  have B0 := extK B0 K4 (allS ge_ea_0 all0)
  have C0 := C0.trans A4
  replace w := w.aload (pc' := 197) at_195 rfl
  replace w := w.iload (pc' := 199) at_197 rfl
  replace w := w.bipush (pc' := 201) (58 : Int32) at_199
  obtain ⟨h5, K5, V_ea, A5, w⟩ := w.castore (x' := 58) V_ea at_201 ⟨(own_m32 (by omega)).1, (own_lt32 (a := n) (b := 9) (by omega) (by omega)).mpr (by omega)⟩ (by decide) (n) ((own_m32 (by omega)).2.1) (by show n < 9; omega) (ge_ea_Z) (pc' := 202)
  have BZ := extK BZ K5 (allS ge_ea_Z all0)
  have B0 := extK B0 K5 (allS ge_ea_0 all0)
  have C0 := C0.trans A5
  have g0 : (([.int c0, .int c1, .int c2, .int 0, .int 0, .int 0, .int 0, .int 0, .int 0] : List Value).set n (.int 58)).length = 9 := by rw [List.length_set]; rfl
  replace w := w.aload (pc' := 204) at_202 rfl
  replace w := w.iload (pc' := 206) at_204 rfl
  replace w := w.iload (pc' := 208) at_206 rfl
  replace w := w.iload (pc' := 210) at_208 rfl
  replace w := w.iconst (pc' := 211) (0 : Int32) at_210
  obtain ⟨v6, V6, h6, hq6, A6, w⟩ := w.static (y' := (⟨"com/example/twinshore/twinshore/HostPortToStringPinLaw", "digit", "([CIIII)V"⟩ : MethodName)) (W := 0) (w.pays 0 (rmDG l Z a0 hw hEL ea k_ea _ _ n d N 0 g0 hn hd nle hN h5 w.old V_ea ge_ea_Z) (hw _ (List.mem_of_getElem? (i := 13) rfl)) (hw _ (List.mem_of_getElem? (i := 12) rfl)) all0 nle nle) (hw _ (List.mem_of_getElem? (i := 10) rfl)) (hw _ (List.mem_of_getElem? (i := 11) rfl)) (hw _ (List.mem_of_getElem? (i := 12) rfl)) (hw _ (List.mem_of_getElem? (i := 13) rfl)) (argsL := [(.ref ea), (.int (Int32.ofNat n)), (.int (Int32.ofNat d)), (.int (Int32.ofNat N)), (.int (0 : Int32))]) (rest := []) (by decide) pd_25 rfl rfl (Nat.le_of_eq rfl) rfl at_211 nle nle (pc' := 214)
  obtain ⟨rfl, K6, V_ea⟩ := hq6
  replace w := w.to (g' := mkF m 214 #[.val (.int a1), .val (.int a2), .val (.int a3), .val (.int a4), .val (.int a5), .val (.int (Int32.ofNat n)), .val (.int c0), .val (.int c1), .val (.int c2), .val (.ref x), .val (.int (Int32.ofNat N)), .val (.int (Int32.ofNat d)), .val (.ref ea), .unset] []) rfl
  have BZ := extK BZ K6 (allS ge_ea_Z all0)
  have B0 := extK B0 K6 (allS ge_ea_0 all0)
  have C0 := C0.trans A6
  have g1 := own_dig_len (n := n) (d := d) (N := N) (j := 0) g0
  replace w := w.aload (pc' := 216) at_214 rfl
  replace w := w.iload (pc' := 218) at_216 rfl
  replace w := w.iload (pc' := 220) at_218 rfl
  replace w := w.iload (pc' := 222) at_220 rfl
  replace w := w.iconst (pc' := 223) (1 : Int32) at_222
  obtain ⟨v7, V7, h7, hq7, A7, w⟩ := w.static (y' := (⟨"com/example/twinshore/twinshore/HostPortToStringPinLaw", "digit", "([CIIII)V"⟩ : MethodName)) (W := 0) (w.pays 0 (rmDG l Z a0 hw hEL ea k_ea _ _ n d N 1 g1 hn hd nle hN h6 w.old V_ea ge_ea_Z) (hw _ (List.mem_of_getElem? (i := 13) rfl)) (hw _ (List.mem_of_getElem? (i := 12) rfl)) all0 nle nle) (hw _ (List.mem_of_getElem? (i := 10) rfl)) (hw _ (List.mem_of_getElem? (i := 11) rfl)) (hw _ (List.mem_of_getElem? (i := 12) rfl)) (hw _ (List.mem_of_getElem? (i := 13) rfl)) (argsL := [(.ref ea), (.int (Int32.ofNat n)), (.int (Int32.ofNat d)), (.int (Int32.ofNat N)), (.int (1 : Int32))]) (rest := []) (by decide) pd_25 rfl rfl (Nat.le_of_eq rfl) rfl at_223 nle nle (pc' := 226)
  obtain ⟨rfl, K7, V_ea⟩ := hq7
  replace w := w.to (g' := mkF m 226 #[.val (.int a1), .val (.int a2), .val (.int a3), .val (.int a4), .val (.int a5), .val (.int (Int32.ofNat n)), .val (.int c0), .val (.int c1), .val (.int c2), .val (.ref x), .val (.int (Int32.ofNat N)), .val (.int (Int32.ofNat d)), .val (.ref ea), .unset] []) rfl
  have BZ := extK BZ K7 (allS ge_ea_Z all0)
  have B0 := extK B0 K7 (allS ge_ea_0 all0)
  have C0 := C0.trans A7
  have g2 := own_dig_len (n := n) (d := d) (N := N) (j := 1) g1
  replace w := w.aload (pc' := 228) at_226 rfl
  replace w := w.iload (pc' := 230) at_228 rfl
  replace w := w.iload (pc' := 232) at_230 rfl
  replace w := w.iload (pc' := 234) at_232 rfl
  replace w := w.iconst (pc' := 235) (2 : Int32) at_234
  obtain ⟨v8, V8, h8, hq8, A8, w⟩ := w.static (y' := (⟨"com/example/twinshore/twinshore/HostPortToStringPinLaw", "digit", "([CIIII)V"⟩ : MethodName)) (W := 0) (w.pays 0 (rmDG l Z a0 hw hEL ea k_ea _ _ n d N 2 g2 hn hd nle hN h7 w.old V_ea ge_ea_Z) (hw _ (List.mem_of_getElem? (i := 13) rfl)) (hw _ (List.mem_of_getElem? (i := 12) rfl)) all0 nle nle) (hw _ (List.mem_of_getElem? (i := 10) rfl)) (hw _ (List.mem_of_getElem? (i := 11) rfl)) (hw _ (List.mem_of_getElem? (i := 12) rfl)) (hw _ (List.mem_of_getElem? (i := 13) rfl)) (argsL := [(.ref ea), (.int (Int32.ofNat n)), (.int (Int32.ofNat d)), (.int (Int32.ofNat N)), (.int (2 : Int32))]) (rest := []) (by decide) pd_25 rfl rfl (Nat.le_of_eq rfl) rfl at_235 nle nle (pc' := 238)
  obtain ⟨rfl, K8, V_ea⟩ := hq8
  replace w := w.to (g' := mkF m 238 #[.val (.int a1), .val (.int a2), .val (.int a3), .val (.int a4), .val (.int a5), .val (.int (Int32.ofNat n)), .val (.int c0), .val (.int c1), .val (.int c2), .val (.ref x), .val (.int (Int32.ofNat N)), .val (.int (Int32.ofNat d)), .val (.ref ea), .unset] []) rfl
  have BZ := extK BZ K8 (allS ge_ea_Z all0)
  have B0 := extK B0 K8 (allS ge_ea_0 all0)
  have C0 := C0.trans A8
  have g3 := own_dig_len (n := n) (d := d) (N := N) (j := 2) g2
  replace w := w.aload (pc' := 240) at_238 rfl
  replace w := w.iload (pc' := 242) at_240 rfl
  replace w := w.iload (pc' := 244) at_242 rfl
  replace w := w.iload (pc' := 246) at_244 rfl
  replace w := w.iconst (pc' := 247) (3 : Int32) at_246
  obtain ⟨v9, V9, h9, hq9, A9, w⟩ := w.static (y' := (⟨"com/example/twinshore/twinshore/HostPortToStringPinLaw", "digit", "([CIIII)V"⟩ : MethodName)) (W := 0) (w.pays 0 (rmDG l Z a0 hw hEL ea k_ea _ _ n d N 3 g3 hn hd nle hN h8 w.old V_ea ge_ea_Z) (hw _ (List.mem_of_getElem? (i := 13) rfl)) (hw _ (List.mem_of_getElem? (i := 12) rfl)) all0 nle nle) (hw _ (List.mem_of_getElem? (i := 10) rfl)) (hw _ (List.mem_of_getElem? (i := 11) rfl)) (hw _ (List.mem_of_getElem? (i := 12) rfl)) (hw _ (List.mem_of_getElem? (i := 13) rfl)) (argsL := [(.ref ea), (.int (Int32.ofNat n)), (.int (Int32.ofNat d)), (.int (Int32.ofNat N)), (.int (3 : Int32))]) (rest := []) (by decide) pd_25 rfl rfl (Nat.le_of_eq rfl) rfl at_247 nle nle (pc' := 250)
  obtain ⟨rfl, K9, V_ea⟩ := hq9
  replace w := w.to (g' := mkF m 250 #[.val (.int a1), .val (.int a2), .val (.int a3), .val (.int a4), .val (.int a5), .val (.int (Int32.ofNat n)), .val (.int c0), .val (.int c1), .val (.int c2), .val (.ref x), .val (.int (Int32.ofNat N)), .val (.int (Int32.ofNat d)), .val (.ref ea), .unset] []) rfl
  have BZ := extK BZ K9 (allS ge_ea_Z all0)
  have B0 := extK B0 K9 (allS ge_ea_0 all0)
  have C0 := C0.trans A9
  have g4 := own_dig_len (n := n) (d := d) (N := N) (j := 3) g3
  replace w := w.aload (pc' := 252) at_250 rfl
  replace w := w.iload (pc' := 254) at_252 rfl
  replace w := w.iload (pc' := 256) at_254 rfl
  replace w := w.iload (pc' := 258) at_256 rfl
  replace w := w.iconst (pc' := 259) (4 : Int32) at_258
  obtain ⟨v10, V10, h10, hq10, A10, w⟩ := w.static (y' := (⟨"com/example/twinshore/twinshore/HostPortToStringPinLaw", "digit", "([CIIII)V"⟩ : MethodName)) (W := 0) (w.pays 0 (rmDG l Z a0 hw hEL ea k_ea _ _ n d N 4 g4 hn hd nle hN h9 w.old V_ea ge_ea_Z) (hw _ (List.mem_of_getElem? (i := 13) rfl)) (hw _ (List.mem_of_getElem? (i := 12) rfl)) all0 nle nle) (hw _ (List.mem_of_getElem? (i := 10) rfl)) (hw _ (List.mem_of_getElem? (i := 11) rfl)) (hw _ (List.mem_of_getElem? (i := 12) rfl)) (hw _ (List.mem_of_getElem? (i := 13) rfl)) (argsL := [(.ref ea), (.int (Int32.ofNat n)), (.int (Int32.ofNat d)), (.int (Int32.ofNat N)), (.int (4 : Int32))]) (rest := []) (by decide) pd_25 rfl rfl (Nat.le_of_eq rfl) rfl at_259 nle nle (pc' := 262)
  obtain ⟨rfl, K10, V_ea⟩ := hq10
  replace w := w.to (g' := mkF m 262 #[.val (.int a1), .val (.int a2), .val (.int a3), .val (.int a4), .val (.int a5), .val (.int (Int32.ofNat n)), .val (.int c0), .val (.int c1), .val (.int c2), .val (.ref x), .val (.int (Int32.ofNat N)), .val (.int (Int32.ofNat d)), .val (.ref ea), .unset] []) rfl
  have BZ := extK BZ K10 (allS ge_ea_Z all0)
  have B0 := extK B0 K10 (allS ge_ea_0 all0)
  have C0 := C0.trans A10
  have g5 := own_dig_len (n := n) (d := d) (N := N) (j := 4) g4
  have B1 := extR h10
  have C1 := CHr.refl w.ch
  have V_ea' : Arv Z h10 ea k_ea .char 9 (own_fin c0 c1 c2 n d N) _ := V_ea
  obtain ⟨h11, hp, g_hp, E11, X_hp, D_hp, S_hp, A11, w⟩ := w.new (hw _ (List.mem_of_getElem? (i := 17) rfl)) (hw _ (List.mem_of_getElem? (i := 18) rfl)) (hw _ (List.mem_of_getElem? (i := 19) rfl)) at_262 nle nle (pc' := 265)
  have lt_hp : hp < h11.size := X_hp.lt
  have ge_hp_Z : Z.heap.size ≤ hp := Nat.le_trans BZ.1 (Nat.le_of_eq g_hp.symm)
  have ge_hp_0 : h0.size ≤ hp := Nat.le_trans B0.1 (Nat.le_of_eq g_hp.symm)
  have ge_hp_1 : h10.size ≤ hp := Nat.le_trans B1.1 (Nat.le_of_eq g_hp.symm)
  have F_hp_host := D_hp (Or.inr (hw _ (List.mem_of_getElem? (i := 32) rfl))) (ty := (.object "java/lang/String")) (by decide)
  have F_hp_port := D_hp (Or.inr (hw _ (List.mem_of_getElem? (i := 34) rfl))) (ty := .int) (by decide)
  have BZ := extT BZ E11
  have B0 := extT B0 E11
  have C0 := C0.trans A11
  have B1 := extT B1 E11
  have C1 := C1.trans A11
  replace w := w.dup (pc' := 266) at_265
  replace w := w.aload (pc' := 268) at_266 rfl
  replace w := w.iload (pc' := 270) at_268 rfl
  obtain ⟨v12, V12, h12, hq12, A12, w⟩ := w.ctor (y' := (⟨"com/example/twinshore/twinshore/HostPort", "<init>", "(Ljava/lang/String;I)V"⟩ : MethodName)) (W := 1) (a := hp) (w.pays 1 (rmHPi l Z a0 hw hEL hp x (Int32.ofNat N) h11 w.old X_hp F_hp_host F_hp_port ge_hp_Z) (hw _ (List.mem_of_getElem? (i := 22) rfl)) (hw _ (List.mem_of_getElem? (i := 19) rfl)) all0 nle nle) rfl (hw _ (List.mem_of_getElem? (i := 20) rfl)) (hw _ (List.mem_of_getElem? (i := 21) rfl)) (hw _ (List.mem_of_getElem? (i := 22) rfl)) (argsL := [(.ref x), (.int (Int32.ofNat N))]) (rest := [(.ref hp)]) (by decide) pd_26 rfl rfl (Nat.le_of_eq rfl) rfl at_270 nle nle (pc' := 273)
  obtain ⟨rfl, K12, X_hp, Fh, Fp⟩ := hq12
  replace w := w.to (g' := mkF m 273 #[.val (.int a1), .val (.int a2), .val (.int a3), .val (.int a4), .val (.int a5), .val (.int (Int32.ofNat n)), .val (.int c0), .val (.int c1), .val (.int c2), .val (.ref x), .val (.int (Int32.ofNat N)), .val (.int (Int32.ofNat d)), .val (.ref ea), .unset] [(.ref hp)]) rfl
  have BZ := extK BZ K12 (allS ge_hp_Z all0)
  have B0 := extK B0 K12 (allS ge_hp_0 all0)
  have C0 := C0.trans A12
  have B1 := extK B1 K12 (allS ge_hp_1 all0)
  have C1 := C1.trans A12
  obtain ⟨v13, V13, h13, hq13, A13, w⟩ := w.virt (y' := (⟨"com/example/twinshore/twinshore/HostPort", "toString", "()Ljava/lang/String;"⟩ : MethodName)) (W := 0) (C := "com/example/twinshore/twinshore/HostPort") (b := hp) (w.pays 0 (rmHPs l Z a0 hw hEL z0 Sc hz0 d1 d2 k1 k2 S1 S2 D1 D2 hp x cs (by omega) N hN h12 w.old (U.ext B0) Fh Fp) (hw _ (List.mem_of_getElem? (i := 39) rfl)) (hw _ (List.mem_of_getElem? (i := 19) rfl)) all0 nle nle) (hw _ (List.mem_of_getElem? (i := 35) rfl)) (hw _ (List.mem_of_getElem? (i := 36) rfl)) (hw _ (List.mem_of_getElem? (i := 38) rfl)) (hw _ (List.mem_of_getElem? (i := 37) rfl)) (argsL := []) (rest := []) (by decide) X_hp pd_20 rfl rfl (Nat.le_of_eq rfl) rfl at_273 nle nle (pc' := 276)
  obtain ⟨r, rfl, E13, R⟩ := hq13
  replace w := w.to (g' := mkF m 276 #[.val (.int a1), .val (.int a2), .val (.int a3), .val (.int a4), .val (.int a5), .val (.int (Int32.ofNat n)), .val (.int c0), .val (.int c1), .val (.int c2), .val (.ref x), .val (.int (Int32.ofNat N)), .val (.int (Int32.ofNat d)), .val (.ref ea), .unset] [(.ref r)]) rfl
  have BZ := extT BZ E13
  have B0 := extT B0 E13
  have C0 := C0.trans A13
  have B1 := extT B1 E13
  have C1 := C1.trans A13
  have X_r := R.exa
  replace w := w.astore (pc' := 278) (L' := #[.val (.int a1), .val (.int a2), .val (.int a3), .val (.int a4), .val (.int a5), .val (.int (Int32.ofNat n)), .val (.int c0), .val (.int c1), .val (.int c2), .val (.ref x), .val (.int (Int32.ofNat N)), .val (.int (Int32.ofNat d)), .val (.ref ea), .val (.ref r)]) at_276 rfl
  replace w := w.aload (pc' := 280) at_278 rfl
  replace w := w.ifnullNo (pc' := 283) at_280 
  replace w := w.aload (pc' := 285) at_283 rfl
  obtain ⟨v14, V14, h14, hq14, A14, w⟩ := w.virt (y' := (⟨"java/lang/String", "length", "()I"⟩ : MethodName)) (W := 0) (C := "java/lang/String") (b := r) (w.payLen (W := 0) hwl (hw _ (List.mem_of_getElem? (i := 2) rfl)) R Sc hz0 (by omega) nle nle) (hw _ (List.mem_of_getElem? (i := 174) rfl)) (hw _ (List.mem_of_getElem? (i := 69) rfl)) (hw _ (List.mem_of_getElem? (i := 71) rfl)) (hw _ (List.mem_of_getElem? (i := 70) rfl)) (argsL := []) (rest := []) (by decide) X_r pd_4 rfl rfl (Nat.le_of_eq rfl) rfl at_285 nle nle (pc' := 288)
  obtain ⟨rfl, he14⟩ := hq14
  replace w := w.to (g' := mkF m 288 #[.val (.int a1), .val (.int a2), .val (.int a3), .val (.int a4), .val (.int a5), .val (.int (Int32.ofNat n)), .val (.int c0), .val (.int c1), .val (.int c2), .val (.ref x), .val (.int (Int32.ofNat N)), .val (.int (Int32.ofNat d)), .val (.ref ea), .val (.ref r)] [(.int (Int32.ofNat (cs ++ [58] ++ own_dgs N).length))]) rfl
  replace he14 := he14.symm
  subst he14
  have C0 := C0.trans A14
  have C1 := C1.trans A14
  have s1 : Int32.ofNat n + (1 : Int32) = Int32.ofNat (n + 1) := own_add32 (a := n) (b := 1) (by omega)
  have s2 := own_add32 (a := n + 1) (b := d) (by omega)
  replace w := w.iload (pc' := 290) at_288 rfl
  replace w := w.iconst (pc' := 291) (1 : Int32) at_290
  replace w := w.iadd (pc' := 292) at_291
  replace w := w.iload (pc' := 294) at_292 rfl
  replace w := w.iadd (pc' := 295) at_294
  rw [s1, s2] at w
  replace w := w.icmpYes (pc' := 300) at_295 ((teq (congrArg Int32.ofNat hlen)).1)
  have V9 := V_ea'.ext B1
  replace w := w.aload (pc' := 302) at_300 rfl
  replace w := w.aload (pc' := 304) at_302 rfl
  replace w := w.iconst (pc' := 305) (0 : Int32) at_304
  obtain ⟨v15, V15, h15, hq15, A15, w⟩ := w.static (y' := (⟨"com/example/twinshore/twinshore/HostPortToStringPinLaw", "at", "(Ljava/lang/String;[CI)Z"⟩ : MethodName)) (W := 0) (w.pays 0 (rmAT l Z a0 hw hEL z0 Sc hz0 fm Sf rfm r ea k_ea _ _ _ 0 (by omega) nle (own_fin_at hn hd hcs hdn) h13 w.old R V9) (hw _ (List.mem_of_getElem? (i := 177) rfl)) (hw _ (List.mem_of_getElem? (i := 12) rfl)) all0 nle nle) (hw _ (List.mem_of_getElem? (i := 175) rfl)) (hw _ (List.mem_of_getElem? (i := 176) rfl)) (hw _ (List.mem_of_getElem? (i := 12) rfl)) (hw _ (List.mem_of_getElem? (i := 177) rfl)) (argsL := [(.ref r), (.ref ea), (.int (0 : Int32))]) (rest := []) (by decide) pd_27 rfl rfl (Nat.le_of_eq rfl) rfl at_305 nle nle (pc' := 308)
  obtain ⟨rfl, he15⟩ := hq15
  replace w := w.to (g' := mkF m 308 #[.val (.int a1), .val (.int a2), .val (.int a3), .val (.int a4), .val (.int a5), .val (.int (Int32.ofNat n)), .val (.int c0), .val (.int c1), .val (.int c2), .val (.ref x), .val (.int (Int32.ofNat N)), .val (.int (Int32.ofNat d)), .val (.ref ea), .val (.ref r)] [(.int (1 : Int32))]) rfl
  replace he15 := he15.symm
  subst he15
  have C0 := C0.trans A15
  have C1 := C1.trans A15
  replace w := w.ifNo (pc' := 311) at_308 (by decide)
  replace w := w.aload (pc' := 313) at_311 rfl
  replace w := w.aload (pc' := 315) at_313 rfl
  replace w := w.iconst (pc' := 316) (1 : Int32) at_315
  obtain ⟨v16, V16, h16, hq16, A16, w⟩ := w.static (y' := (⟨"com/example/twinshore/twinshore/HostPortToStringPinLaw", "at", "(Ljava/lang/String;[CI)Z"⟩ : MethodName)) (W := 0) (w.pays 0 (rmAT l Z a0 hw hEL z0 Sc hz0 fm Sf rfm r ea k_ea _ _ _ 1 (by omega) nle (own_fin_at hn hd hcs hdn) h13 w.old R V9) (hw _ (List.mem_of_getElem? (i := 177) rfl)) (hw _ (List.mem_of_getElem? (i := 12) rfl)) all0 nle nle) (hw _ (List.mem_of_getElem? (i := 175) rfl)) (hw _ (List.mem_of_getElem? (i := 176) rfl)) (hw _ (List.mem_of_getElem? (i := 12) rfl)) (hw _ (List.mem_of_getElem? (i := 177) rfl)) (argsL := [(.ref r), (.ref ea), (.int (1 : Int32))]) (rest := []) (by decide) pd_27 rfl rfl (Nat.le_of_eq rfl) rfl at_316 nle nle (pc' := 319)
  obtain ⟨rfl, he16⟩ := hq16
  replace w := w.to (g' := mkF m 319 #[.val (.int a1), .val (.int a2), .val (.int a3), .val (.int a4), .val (.int a5), .val (.int (Int32.ofNat n)), .val (.int c0), .val (.int c1), .val (.int c2), .val (.ref x), .val (.int (Int32.ofNat N)), .val (.int (Int32.ofNat d)), .val (.ref ea), .val (.ref r)] [(.int (1 : Int32))]) rfl
  replace he16 := he16.symm
  subst he16
  have C0 := C0.trans A16
  have C1 := C1.trans A16
  replace w := w.ifNo (pc' := 322) at_319 (by decide)
  replace w := w.aload (pc' := 324) at_322 rfl
  replace w := w.aload (pc' := 326) at_324 rfl
  replace w := w.iconst (pc' := 327) (2 : Int32) at_326
  obtain ⟨v17, V17, h17, hq17, A17, w⟩ := w.static (y' := (⟨"com/example/twinshore/twinshore/HostPortToStringPinLaw", "at", "(Ljava/lang/String;[CI)Z"⟩ : MethodName)) (W := 0) (w.pays 0 (rmAT l Z a0 hw hEL z0 Sc hz0 fm Sf rfm r ea k_ea _ _ _ 2 (by omega) nle (own_fin_at hn hd hcs hdn) h13 w.old R V9) (hw _ (List.mem_of_getElem? (i := 177) rfl)) (hw _ (List.mem_of_getElem? (i := 12) rfl)) all0 nle nle) (hw _ (List.mem_of_getElem? (i := 175) rfl)) (hw _ (List.mem_of_getElem? (i := 176) rfl)) (hw _ (List.mem_of_getElem? (i := 12) rfl)) (hw _ (List.mem_of_getElem? (i := 177) rfl)) (argsL := [(.ref r), (.ref ea), (.int (2 : Int32))]) (rest := []) (by decide) pd_27 rfl rfl (Nat.le_of_eq rfl) rfl at_327 nle nle (pc' := 330)
  obtain ⟨rfl, he17⟩ := hq17
  replace w := w.to (g' := mkF m 330 #[.val (.int a1), .val (.int a2), .val (.int a3), .val (.int a4), .val (.int a5), .val (.int (Int32.ofNat n)), .val (.int c0), .val (.int c1), .val (.int c2), .val (.ref x), .val (.int (Int32.ofNat N)), .val (.int (Int32.ofNat d)), .val (.ref ea), .val (.ref r)] [(.int (1 : Int32))]) rfl
  replace he17 := he17.symm
  subst he17
  have C0 := C0.trans A17
  have C1 := C1.trans A17
  replace w := w.ifNo (pc' := 333) at_330 (by decide)
  replace w := w.aload (pc' := 335) at_333 rfl
  replace w := w.aload (pc' := 337) at_335 rfl
  replace w := w.iconst (pc' := 338) (3 : Int32) at_337
  obtain ⟨v18, V18, h18, hq18, A18, w⟩ := w.static (y' := (⟨"com/example/twinshore/twinshore/HostPortToStringPinLaw", "at", "(Ljava/lang/String;[CI)Z"⟩ : MethodName)) (W := 0) (w.pays 0 (rmAT l Z a0 hw hEL z0 Sc hz0 fm Sf rfm r ea k_ea _ _ _ 3 (by omega) nle (own_fin_at hn hd hcs hdn) h13 w.old R V9) (hw _ (List.mem_of_getElem? (i := 177) rfl)) (hw _ (List.mem_of_getElem? (i := 12) rfl)) all0 nle nle) (hw _ (List.mem_of_getElem? (i := 175) rfl)) (hw _ (List.mem_of_getElem? (i := 176) rfl)) (hw _ (List.mem_of_getElem? (i := 12) rfl)) (hw _ (List.mem_of_getElem? (i := 177) rfl)) (argsL := [(.ref r), (.ref ea), (.int (3 : Int32))]) (rest := []) (by decide) pd_27 rfl rfl (Nat.le_of_eq rfl) rfl at_338 nle nle (pc' := 341)
  obtain ⟨rfl, he18⟩ := hq18
  replace w := w.to (g' := mkF m 341 #[.val (.int a1), .val (.int a2), .val (.int a3), .val (.int a4), .val (.int a5), .val (.int (Int32.ofNat n)), .val (.int c0), .val (.int c1), .val (.int c2), .val (.ref x), .val (.int (Int32.ofNat N)), .val (.int (Int32.ofNat d)), .val (.ref ea), .val (.ref r)] [(.int (1 : Int32))]) rfl
  replace he18 := he18.symm
  subst he18
  have C0 := C0.trans A18
  have C1 := C1.trans A18
  replace w := w.ifNo (pc' := 344) at_341 (by decide)
  replace w := w.aload (pc' := 346) at_344 rfl
  replace w := w.aload (pc' := 348) at_346 rfl
  replace w := w.iconst (pc' := 349) (4 : Int32) at_348
  obtain ⟨v19, V19, h19, hq19, A19, w⟩ := w.static (y' := (⟨"com/example/twinshore/twinshore/HostPortToStringPinLaw", "at", "(Ljava/lang/String;[CI)Z"⟩ : MethodName)) (W := 0) (w.pays 0 (rmAT l Z a0 hw hEL z0 Sc hz0 fm Sf rfm r ea k_ea _ _ _ 4 (by omega) nle (own_fin_at hn hd hcs hdn) h13 w.old R V9) (hw _ (List.mem_of_getElem? (i := 177) rfl)) (hw _ (List.mem_of_getElem? (i := 12) rfl)) all0 nle nle) (hw _ (List.mem_of_getElem? (i := 175) rfl)) (hw _ (List.mem_of_getElem? (i := 176) rfl)) (hw _ (List.mem_of_getElem? (i := 12) rfl)) (hw _ (List.mem_of_getElem? (i := 177) rfl)) (argsL := [(.ref r), (.ref ea), (.int (4 : Int32))]) (rest := []) (by decide) pd_27 rfl rfl (Nat.le_of_eq rfl) rfl at_349 nle nle (pc' := 352)
  obtain ⟨rfl, he19⟩ := hq19
  replace w := w.to (g' := mkF m 352 #[.val (.int a1), .val (.int a2), .val (.int a3), .val (.int a4), .val (.int a5), .val (.int (Int32.ofNat n)), .val (.int c0), .val (.int c1), .val (.int c2), .val (.ref x), .val (.int (Int32.ofNat N)), .val (.int (Int32.ofNat d)), .val (.ref ea), .val (.ref r)] [(.int (1 : Int32))]) rfl
  replace he19 := he19.symm
  subst he19
  have C0 := C0.trans A19
  have C1 := C1.trans A19
  replace w := w.ifNo (pc' := 355) at_352 (by decide)
  replace w := w.aload (pc' := 357) at_355 rfl
  replace w := w.aload (pc' := 359) at_357 rfl
  replace w := w.iconst (pc' := 360) (5 : Int32) at_359
  obtain ⟨v20, V20, h20, hq20, A20, w⟩ := w.static (y' := (⟨"com/example/twinshore/twinshore/HostPortToStringPinLaw", "at", "(Ljava/lang/String;[CI)Z"⟩ : MethodName)) (W := 0) (w.pays 0 (rmAT l Z a0 hw hEL z0 Sc hz0 fm Sf rfm r ea k_ea _ _ _ 5 (by omega) nle (own_fin_at hn hd hcs hdn) h13 w.old R V9) (hw _ (List.mem_of_getElem? (i := 177) rfl)) (hw _ (List.mem_of_getElem? (i := 12) rfl)) all0 nle nle) (hw _ (List.mem_of_getElem? (i := 175) rfl)) (hw _ (List.mem_of_getElem? (i := 176) rfl)) (hw _ (List.mem_of_getElem? (i := 12) rfl)) (hw _ (List.mem_of_getElem? (i := 177) rfl)) (argsL := [(.ref r), (.ref ea), (.int (5 : Int32))]) (rest := []) (by decide) pd_27 rfl rfl (Nat.le_of_eq rfl) rfl at_360 nle nle (pc' := 363)
  obtain ⟨rfl, he20⟩ := hq20
  replace w := w.to (g' := mkF m 363 #[.val (.int a1), .val (.int a2), .val (.int a3), .val (.int a4), .val (.int a5), .val (.int (Int32.ofNat n)), .val (.int c0), .val (.int c1), .val (.int c2), .val (.ref x), .val (.int (Int32.ofNat N)), .val (.int (Int32.ofNat d)), .val (.ref ea), .val (.ref r)] [(.int (1 : Int32))]) rfl
  replace he20 := he20.symm
  subst he20
  have C0 := C0.trans A20
  have C1 := C1.trans A20
  replace w := w.ifNo (pc' := 366) at_363 (by decide)
  replace w := w.aload (pc' := 368) at_366 rfl
  replace w := w.aload (pc' := 370) at_368 rfl
  replace w := w.bipush (pc' := 372) (6 : Int32) at_370
  obtain ⟨v21, V21, h21, hq21, A21, w⟩ := w.static (y' := (⟨"com/example/twinshore/twinshore/HostPortToStringPinLaw", "at", "(Ljava/lang/String;[CI)Z"⟩ : MethodName)) (W := 0) (w.pays 0 (rmAT l Z a0 hw hEL z0 Sc hz0 fm Sf rfm r ea k_ea _ _ _ 6 (by omega) nle (own_fin_at hn hd hcs hdn) h13 w.old R V9) (hw _ (List.mem_of_getElem? (i := 177) rfl)) (hw _ (List.mem_of_getElem? (i := 12) rfl)) all0 nle nle) (hw _ (List.mem_of_getElem? (i := 175) rfl)) (hw _ (List.mem_of_getElem? (i := 176) rfl)) (hw _ (List.mem_of_getElem? (i := 12) rfl)) (hw _ (List.mem_of_getElem? (i := 177) rfl)) (argsL := [(.ref r), (.ref ea), (.int (6 : Int32))]) (rest := []) (by decide) pd_27 rfl rfl (Nat.le_of_eq rfl) rfl at_372 nle nle (pc' := 375)
  obtain ⟨rfl, he21⟩ := hq21
  replace w := w.to (g' := mkF m 375 #[.val (.int a1), .val (.int a2), .val (.int a3), .val (.int a4), .val (.int a5), .val (.int (Int32.ofNat n)), .val (.int c0), .val (.int c1), .val (.int c2), .val (.ref x), .val (.int (Int32.ofNat N)), .val (.int (Int32.ofNat d)), .val (.ref ea), .val (.ref r)] [(.int (1 : Int32))]) rfl
  replace he21 := he21.symm
  subst he21
  have C0 := C0.trans A21
  have C1 := C1.trans A21
  replace w := w.ifNo (pc' := 378) at_375 (by decide)
  replace w := w.aload (pc' := 380) at_378 rfl
  replace w := w.aload (pc' := 382) at_380 rfl
  replace w := w.bipush (pc' := 384) (7 : Int32) at_382
  obtain ⟨v22, V22, h22, hq22, A22, w⟩ := w.static (y' := (⟨"com/example/twinshore/twinshore/HostPortToStringPinLaw", "at", "(Ljava/lang/String;[CI)Z"⟩ : MethodName)) (W := 0) (w.pays 0 (rmAT l Z a0 hw hEL z0 Sc hz0 fm Sf rfm r ea k_ea _ _ _ 7 (by omega) nle (own_fin_at hn hd hcs hdn) h13 w.old R V9) (hw _ (List.mem_of_getElem? (i := 177) rfl)) (hw _ (List.mem_of_getElem? (i := 12) rfl)) all0 nle nle) (hw _ (List.mem_of_getElem? (i := 175) rfl)) (hw _ (List.mem_of_getElem? (i := 176) rfl)) (hw _ (List.mem_of_getElem? (i := 12) rfl)) (hw _ (List.mem_of_getElem? (i := 177) rfl)) (argsL := [(.ref r), (.ref ea), (.int (7 : Int32))]) (rest := []) (by decide) pd_27 rfl rfl (Nat.le_of_eq rfl) rfl at_384 nle nle (pc' := 387)
  obtain ⟨rfl, he22⟩ := hq22
  replace w := w.to (g' := mkF m 387 #[.val (.int a1), .val (.int a2), .val (.int a3), .val (.int a4), .val (.int a5), .val (.int (Int32.ofNat n)), .val (.int c0), .val (.int c1), .val (.int c2), .val (.ref x), .val (.int (Int32.ofNat N)), .val (.int (Int32.ofNat d)), .val (.ref ea), .val (.ref r)] [(.int (1 : Int32))]) rfl
  replace he22 := he22.symm
  subst he22
  have C0 := C0.trans A22
  have C1 := C1.trans A22
  replace w := w.ifNo (pc' := 390) at_387 (by decide)
  replace w := w.aload (pc' := 392) at_390 rfl
  replace w := w.aload (pc' := 394) at_392 rfl
  replace w := w.bipush (pc' := 396) (8 : Int32) at_394
  obtain ⟨v23, V23, h23, hq23, A23, w⟩ := w.static (y' := (⟨"com/example/twinshore/twinshore/HostPortToStringPinLaw", "at", "(Ljava/lang/String;[CI)Z"⟩ : MethodName)) (W := 0) (w.pays 0 (rmAT l Z a0 hw hEL z0 Sc hz0 fm Sf rfm r ea k_ea _ _ _ 8 (by omega) nle (own_fin_at hn hd hcs hdn) h13 w.old R V9) (hw _ (List.mem_of_getElem? (i := 177) rfl)) (hw _ (List.mem_of_getElem? (i := 12) rfl)) all0 nle nle) (hw _ (List.mem_of_getElem? (i := 175) rfl)) (hw _ (List.mem_of_getElem? (i := 176) rfl)) (hw _ (List.mem_of_getElem? (i := 12) rfl)) (hw _ (List.mem_of_getElem? (i := 177) rfl)) (argsL := [(.ref r), (.ref ea), (.int (8 : Int32))]) (rest := []) (by decide) pd_27 rfl rfl (Nat.le_of_eq rfl) rfl at_396 nle nle (pc' := 399)
  obtain ⟨rfl, he23⟩ := hq23
  replace w := w.to (g' := mkF m 399 #[.val (.int a1), .val (.int a2), .val (.int a3), .val (.int a4), .val (.int a5), .val (.int (Int32.ofNat n)), .val (.int c0), .val (.int c1), .val (.int c2), .val (.ref x), .val (.int (Int32.ofNat N)), .val (.int (Int32.ofNat d)), .val (.ref ea), .val (.ref r)] [(.int (1 : Int32))]) rfl
  replace he23 := he23.symm
  subst he23
  have C0 := C0.trans A23
  have C1 := C1.trans A23
  replace w := w.ifNo (pc' := 402) at_399 (by decide)
  replace w := w.iconst (pc' := 403) (1 : Int32) at_402
  replace w := w.goto (pc' := 407) at_403
  exact w.retN at_407 (by simp) rfl nle nle
set_option maxRecDepth 65536 in
theorem tl115 (l : Launch) (Z : State) (a0 : Array Value) (hw : ∀ d ∈ tables_1, d.before a0 Z = true) (hEL : EW Z a0 consts_1) (z0 : Int32) (Sc : Sta Z Z.heap "java/lang/String" "COMPACT_STRINGS" "Z" (.int z0)) (hz0 : ¬ z0 = 0) (d1 d2 : Addr) (k1 k2 : ClassId) (S1 : Sta Z Z.heap "java/lang/Integer" "DigitOnes" "[B" (.ref d1)) (S2 : Sta Z Z.heap "java/lang/Integer" "DigitTens" "[B" (.ref d2)) (D1 : Arv Z Z.heap d1 k1 .byte 100 own_ones (.int 0)) (D2 : Arv Z Z.heap d2 k2 .byte 100 own_tens (.int 0)) (fm : Value) (Sf : Sta Z Z.heap "jdk/internal/util/Preconditions" "SIOOBE_FORMATTER" "Ljava/util/function/BiFunction;" fm) (rfm : fm.isRef = true) {p : Program} {e : Env} {s : State} {m : MethodId} {args : Array Value} {below : List Frame} {meth : Method} {c : Code} {S0 : State} {V : Vm} (h0 : Heap) (a1 a2 a3 a4 a5 c0 c1 c2 : Int32) (n : Nat) (x : Addr) (cs : List Int32) (hn : n ≤ 3) (hcs : cs = [c0, c1, c2].take n) (n0 : nar .char c0 = c0) (n1 : nar .char c1 = c1) (n2 : nar .char c2 = c2) (U : Str Z h0 x cs)
    (w : Wk p l e room_1 s m args below meth c Z a0 consts_1 S0 Jvm.Pilot.@@N@@.x code maxLocals ret V h0 4 32 (mkF m 115 #[.val (.int a1), .val (.int a2), .val (.int a3), .val (.int a4), .val (.int a5), .val (.int (Int32.ofNat n)), .val (.int c0), .val (.int c1), .val (.int c2), .val (.ref x), .unset, .unset, .unset, .unset] [])) :
    Fini p e below s Z consts_1 S0 32 2240 (fun v h => v = some (.int 1)) := by
  obtain ⟨N, hN, eN⟩ : ∃ N : Nat, N ≤ 65535 ∧ a5 &&& (65535 : Int32) = Int32.ofNat N := by
    have h := c_and a5 65535 (by decide)
    have e3 : (65535 : Int32).toInt = 65535 := by decide
    refine ⟨(a5 &&& (65535 : Int32)).toInt.toNat, by omega, Int32.toInt_inj.mp ?_⟩
    have e1 := (own_m32 (n := (a5 &&& (65535 : Int32)).toInt.toNat) (by omega)).2.2
    omega
  have e1 := (own_m32 (n := N) (by omega)).2.2
  have hN5 : N < 100000 := by omega
  replace w := w.iload (pc' := 117) at_115 rfl
  replace w := w.ldcI (pc' := 119) (x := (65535 : Int32)) (hw _ (List.mem_of_getElem? (i := 8) rfl)) at_117
  replace w := w.iand (pc' := 120) at_119
  rw [eN] at w
  replace w := w.istore (pc' := 122) (L' := #[.val (.int a1), .val (.int a2), .val (.int a3), .val (.int a4), .val (.int a5), .val (.int (Int32.ofNat n)), .val (.int c0), .val (.int c1), .val (.int c2), .val (.ref x), .val (.int (Int32.ofNat N)), .unset, .unset, .unset]) at_120 rfl
  replace w := w.iload (pc' := 124) at_122 rfl
  replace w := w.bipush (pc' := 126) (10 : Int32) at_124
  have e1' : (10 : Int32).toInt = 10 := by decide
  by_cases q1 : N < 10
  ·
    replace w := w.icmpNo (pc' := 129) at_126 ((tlt (by rw [Int32.lt_iff_toInt_lt, e1, e1']; omega)).2.1)
    replace w := w.iconst (pc' := 130) (1 : Int32) at_129
    replace w := w.goto (pc' := 169) at_130
    exact tl169 l Z a0 hw hEL z0 Sc hz0 d1 d2 k1 k2 S1 S2 D1 D2 fm Sf rfm h0 a1 a2 a3 a4 a5 c0 c1 c2 n 1 N x cs hn hN5 (own_nd1 q1) hcs n0 n1 n2 U w
  replace w := w.icmpYes (pc' := 133) at_126 ((flt (by rw [Int32.lt_iff_toInt_lt, e1, e1']; omega)).2.1)
  replace w := w.iload (pc' := 135) at_133 rfl
  replace w := w.bipush (pc' := 137) (100 : Int32) at_135
  have e2' : (100 : Int32).toInt = 100 := by decide
  by_cases q2 : N < 100
  ·
    replace w := w.icmpNo (pc' := 140) at_137 ((tlt (by rw [Int32.lt_iff_toInt_lt, e1, e2']; omega)).2.1)
    replace w := w.iconst (pc' := 141) (2 : Int32) at_140
    replace w := w.goto (pc' := 169) at_141
    exact tl169 l Z a0 hw hEL z0 Sc hz0 d1 d2 k1 k2 S1 S2 D1 D2 fm Sf rfm h0 a1 a2 a3 a4 a5 c0 c1 c2 n 2 N x cs hn hN5 (own_nd2 q1 q2) hcs n0 n1 n2 U w
  replace w := w.icmpYes (pc' := 144) at_137 ((flt (by rw [Int32.lt_iff_toInt_lt, e1, e2']; omega)).2.1)
  replace w := w.iload (pc' := 146) at_144 rfl
  replace w := w.sipush (pc' := 149) (1000 : Int32) at_146
  have e3' : (1000 : Int32).toInt = 1000 := by decide
  by_cases q3 : N < 1000
  ·
    replace w := w.icmpNo (pc' := 152) at_149 ((tlt (by rw [Int32.lt_iff_toInt_lt, e1, e3']; omega)).2.1)
    replace w := w.iconst (pc' := 153) (3 : Int32) at_152
    replace w := w.goto (pc' := 169) at_153
    exact tl169 l Z a0 hw hEL z0 Sc hz0 d1 d2 k1 k2 S1 S2 D1 D2 fm Sf rfm h0 a1 a2 a3 a4 a5 c0 c1 c2 n 3 N x cs hn hN5 (own_nd3 q2 q3) hcs n0 n1 n2 U w
  replace w := w.icmpYes (pc' := 156) at_149 ((flt (by rw [Int32.lt_iff_toInt_lt, e1, e3']; omega)).2.1)
  replace w := w.iload (pc' := 158) at_156 rfl
  replace w := w.sipush (pc' := 161) (10000 : Int32) at_158
  have e4' : (10000 : Int32).toInt = 10000 := by decide
  by_cases q4 : N < 10000
  ·
    replace w := w.icmpNo (pc' := 164) at_161 ((tlt (by rw [Int32.lt_iff_toInt_lt, e1, e4']; omega)).2.1)
    replace w := w.iconst (pc' := 165) (4 : Int32) at_164
    replace w := w.goto (pc' := 169) at_165
    exact tl169 l Z a0 hw hEL z0 Sc hz0 d1 d2 k1 k2 S1 S2 D1 D2 fm Sf rfm h0 a1 a2 a3 a4 a5 c0 c1 c2 n 4 N x cs hn hN5 (own_nd4 q3 q4) hcs n0 n1 n2 U w
  replace w := w.icmpYes (pc' := 168) at_161 ((flt (by rw [Int32.lt_iff_toInt_lt, e1, e4']; omega)).2.1)
  replace w := w.iconst (pc' := 169) (5 : Int32) at_168
  exact tl169 l Z a0 hw hEL z0 Sc hz0 d1 d2 k1 k2 S1 S2 D1 D2 fm Sf rfm h0 a1 a2 a3 a4 a5 c0 c1 c2 n 5 N x cs hn hN5 (own_nd5 q4) hcs n0 n1 n2 U w
theorem own_and3 (x : Int32) : x &&& 3 = 0 ∨ x &&& 3 = 1 ∨ x &&& 3 = 2 ∨ x &&& 3 = 3 := by
  have h := c_and x 3 (by decide)
  have e3 : (3 : Int32).toInt = 3 := by decide
  have e0 : (0 : Int32).toInt = 0 := by decide
  have e1 : (1 : Int32).toInt = 1 := by decide
  have e2 : (2 : Int32).toInt = 2 := by decide
  simp only [← Int32.toInt_inj]
  omega
set_option maxRecDepth 65536 in
theorem rm0 (l : Launch) (Z : State) (a0 : Array Value) (hw : ∀ d ∈ tables_1, d.before a0 Z = true) (hEL : EW Z a0 consts_1) (z0 : Int32) (Sc : Sta Z Z.heap "java/lang/String" "COMPACT_STRINGS" "Z" (.int z0)) (hz0 : ¬ z0 = 0) (d1 d2 : Addr) (k1 k2 : ClassId) (S1 : Sta Z Z.heap "java/lang/Integer" "DigitOnes" "[B" (.ref d1)) (S2 : Sta Z Z.heap "java/lang/Integer" "DigitTens" "[B" (.ref d2)) (D1 : Arv Z Z.heap d1 k1 .byte 100 own_ones (.int 0)) (D2 : Arv Z Z.heap d2 k2 .byte 100 own_tens (.int 0)) (fm : Value) (Sf : Sta Z Z.heap "jdk/internal/util/Preconditions" "SIOOBE_FORMATTER" "Ljava/util/function/BiFunction;" fm) (rfm : fm.isRef = true) (p0 p1 p2 p3 p4 : Int32) :
    Met l Z consts_1 x code maxLocals ret tables_1 room_1 #[.int p0, .int p1, .int p2, .int p3, .int p4] Z.heap [] (fun v h => v = some (.int 1)) := by
  refine Met.of (a0 := a0) (by decide +kernel) hEL (extR _) ?_
  intro p e s m below meth c S0 V w hs hsf
  have hws := own_words hw
  have hstr := own_hstr hw
  replace w := w.to (g' := mkF m 0 #[.val (.int p0), .val (.int p1), .val (.int p2), .val (.int p3), .val (.int p4), .unset, .unset, .unset, .unset, .unset, .unset, .unset, .unset, .unset] []) (by first | (simp [entryFrame, mkF, argsToLocals, Value.category, maxLocals]; done) | rfl)
  have BZ := w.old
  have B0 := extR Z.heap
  have C0 := CHr.refl w.ch
  replace w := w.iloadN (pc' := 1) at_0 rfl
  replace w := w.iconst (pc' := 2) (3 : Int32) at_1
  replace w := w.iand (pc' := 3) at_2
  obtain ⟨n, hn⟩ : ∃ z, z = (p0 &&& (3 : Int32)) := ⟨_, rfl⟩
  rw [← hn] at w
  replace w := w.istore (pc' := 5) (L' := #[.val (.int p0), .val (.int p1), .val (.int p2), .val (.int p3), .val (.int p4), .val (.int n), .unset, .unset, .unset, .unset, .unset, .unset, .unset, .unset]) at_3 rfl
  replace w := w.iloadN (pc' := 6) at_5 rfl
  replace w := w.sipush (pc' := 9) (255 : Int32) at_6
  replace w := w.iand (pc' := 10) at_9
  replace w := w.i2c (pc' := 11) at_10
  rw [i2c_mask] at w
  obtain ⟨c0, hc0⟩ : ∃ z, z = (p1 &&& (255 : Int32)) := ⟨_, rfl⟩
  rw [← hc0] at w
  have r0 : ¬ c0 < 0 ∧ ¬ (255 : Int32) < c0 := by rw [hc0]; exact and255 _
  have n0 : nar .char c0 = c0 := by rw [hc0]; exact nar255 _
  replace w := w.istore (pc' := 13) (L' := #[.val (.int p0), .val (.int p1), .val (.int p2), .val (.int p3), .val (.int p4), .val (.int n), .val (.int c0), .unset, .unset, .unset, .unset, .unset, .unset, .unset]) at_11 rfl
  replace w := w.iloadN (pc' := 14) at_13 rfl
  replace w := w.sipush (pc' := 17) (255 : Int32) at_14
  replace w := w.iand (pc' := 18) at_17
  replace w := w.i2c (pc' := 19) at_18
  rw [i2c_mask] at w
  obtain ⟨c1, hc1⟩ : ∃ z, z = (p2 &&& (255 : Int32)) := ⟨_, rfl⟩
  rw [← hc1] at w
  have r1 : ¬ c1 < 0 ∧ ¬ (255 : Int32) < c1 := by rw [hc1]; exact and255 _
  have n1 : nar .char c1 = c1 := by rw [hc1]; exact nar255 _
  replace w := w.istore (pc' := 21) (L' := #[.val (.int p0), .val (.int p1), .val (.int p2), .val (.int p3), .val (.int p4), .val (.int n), .val (.int c0), .val (.int c1), .unset, .unset, .unset, .unset, .unset, .unset]) at_19 rfl
  replace w := w.iloadN (pc' := 22) at_21 rfl
  replace w := w.sipush (pc' := 25) (255 : Int32) at_22
  replace w := w.iand (pc' := 26) at_25
  replace w := w.i2c (pc' := 27) at_26
  rw [i2c_mask] at w
  obtain ⟨c2, hc2⟩ : ∃ z, z = (p3 &&& (255 : Int32)) := ⟨_, rfl⟩
  rw [← hc2] at w
  have r2 : ¬ c2 < 0 ∧ ¬ (255 : Int32) < c2 := by rw [hc2]; exact and255 _
  have n2 : nar .char c2 = c2 := by rw [hc2]; exact nar255 _
  replace w := w.istore (pc' := 29) (L' := #[.val (.int p0), .val (.int p1), .val (.int p2), .val (.int p3), .val (.int p4), .val (.int n), .val (.int c0), .val (.int c1), .val (.int c2), .unset, .unset, .unset, .unset, .unset]) at_27 rfl
  replace w := w.iload (pc' := 31) at_29 rfl
  have hn4 := own_and3 p0
  rw [← hn] at hn4
  rcases hn4 with q | q | q | q
  · subst q
    replace w := w.ifNo (pc' := 34) at_31 (by decide)
    obtain ⟨x, V1, h1, E1, T_x, N_x, A1, w⟩ := w.ldcT [] 0 (text := "") (hw _ (List.mem_of_getElem? (i := 0) rfl)) hstr (by decide) (by decide) (by decide) (by decide) (by decide) (by decide) at_34 (by decide) (by decide) (by decide) (by decide) (pc' := 36)
    have BZ := extT BZ E1
    have B0 := extT B0 E1
    have C0 := C0.trans A1
    replace w := w.astore (pc' := 38) (L' := #[.val (.int p0), .val (.int p1), .val (.int p2), .val (.int p3), .val (.int p4), .val (.int (0 : Int32)), .val (.int c0), .val (.int c1), .val (.int c2), .val (.ref x), .unset, .unset, .unset, .unset]) at_36 rfl
    replace w := w.goto (pc' := 115) at_38
    exact tl115 l Z a0 hw hEL z0 Sc hz0 d1 d2 k1 k2 S1 S2 D1 D2 fm Sf rfm _ p0 p1 p2 p3 p4 c0 c1 c2 0 x [] nle rfl n0 n1 n2 T_x (w.more nle nle)
  · subst q
    replace w := w.ifYes (pc' := 41) at_31 (by decide)
    replace w := w.iload (pc' := 43) at_41 rfl
    replace w := w.iconst (pc' := 44) (1 : Int32) at_43
    replace w := w.icmpNo (pc' := 47) at_44 (by decide)
    replace w := w.iload (pc' := 49) at_47 rfl
    obtain ⟨v2, V2, h2, hq2, A2, w⟩ := w.static (y' := (⟨"java/lang/String", "valueOf", "(C)Ljava/lang/String;"⟩ : MethodName)) (W := 0) (w.pays 0 (rmVO l Z a0 hw hEL z0 Sc hz0 c0 r0 Z.heap w.old) (hw _ (List.mem_of_getElem? (i := 220) rfl)) (hw _ (List.mem_of_getElem? (i := 1) rfl)) all0 nle nle) (hw _ (List.mem_of_getElem? (i := 218) rfl)) (hw _ (List.mem_of_getElem? (i := 219) rfl)) (hw _ (List.mem_of_getElem? (i := 1) rfl)) (hw _ (List.mem_of_getElem? (i := 220) rfl)) (argsL := [(.int c0)]) (rest := []) (by decide) pd_28 rfl rfl (Nat.le_of_eq rfl) rfl at_49 nle nle (pc' := 52)
    obtain ⟨x, rfl, E2, T1⟩ := hq2
    replace w := w.to (g' := mkF m 52 #[.val (.int p0), .val (.int p1), .val (.int p2), .val (.int p3), .val (.int p4), .val (.int (1 : Int32)), .val (.int c0), .val (.int c1), .val (.int c2), .unset, .unset, .unset, .unset, .unset] [(.ref x)]) rfl
    have BZ := extT BZ E2
    have B0 := extT B0 E2
    have C0 := C0.trans A2
    replace w := w.astore (pc' := 54) (L' := #[.val (.int p0), .val (.int p1), .val (.int p2), .val (.int p3), .val (.int p4), .val (.int (1 : Int32)), .val (.int c0), .val (.int c1), .val (.int c2), .val (.ref x), .unset, .unset, .unset, .unset]) at_52 rfl
    replace w := w.goto (pc' := 115) at_54
    exact tl115 l Z a0 hw hEL z0 Sc hz0 d1 d2 k1 k2 S1 S2 D1 D2 fm Sf rfm _ p0 p1 p2 p3 p4 c0 c1 c2 1 x [c0] nle rfl n0 n1 n2 T1 (w.more nle nle)
  · subst q
    replace w := w.ifYes (pc' := 41) at_31 (by decide)
    replace w := w.iload (pc' := 43) at_41 rfl
    replace w := w.iconst (pc' := 44) (1 : Int32) at_43
    replace w := w.icmpYes (pc' := 57) at_44 (by decide)
    replace w := w.iload (pc' := 59) at_57 rfl
    replace w := w.iconst (pc' := 60) (2 : Int32) at_59
    replace w := w.icmpNo (pc' := 63) at_60 (by decide)
    obtain ⟨h3, x, g_x, E3, X_x, D_x, S_x, A3, w⟩ := w.new (hw _ (List.mem_of_getElem? (i := 200) rfl)) (hw _ (List.mem_of_getElem? (i := 2) rfl)) (hw _ (List.mem_of_getElem? (i := 1) rfl)) at_63 nle nle (pc' := 66)
    have lt_x : x < h3.size := X_x.lt
    have ge_x_Z : Z.heap.size ≤ x := Nat.le_trans BZ.1 (Nat.le_of_eq g_x.symm)
    have ge_x_0 : Z.heap.size ≤ x := Nat.le_trans B0.1 (Nat.le_of_eq g_x.symm)
    have F_x_value := D_x (Or.inr (hw _ (List.mem_of_getElem? (i := 4) rfl))) (ty := (.array .byte)) (by decide)
    have F_x_coder := D_x (Or.inr (hw _ (List.mem_of_getElem? (i := 5) rfl))) (ty := .byte) (by decide)
    have BZ := extT BZ E3
    have B0 := extT B0 E3
    have C0 := C0.trans A3
    have B1 := extR h3
    have C1 := CHr.refl w.ch
    replace w := w.dup (pc' := 67) at_66
    replace w := w.iconst (pc' := 68) (2 : Int32) at_67
    obtain ⟨h4, b, k_b, g_b, E4, V_b, S_b, A4, w⟩ := w.newarr (cap := 2) (hw _ (List.mem_of_getElem? (i := 9) rfl)) at_68 (by decide) (by decide) nle nle (pc' := 70)
    have lt_b : b < h4.size := V_b.lt
    have ge_b_Z : Z.heap.size ≤ b := Nat.le_trans BZ.1 (Nat.le_of_eq g_b.symm)
    have ge_b_0 : Z.heap.size ≤ b := Nat.le_trans B0.1 (Nat.le_of_eq g_b.symm)
    have ge_b_1 : h3.size ≤ b := Nat.le_trans B1.1 (Nat.le_of_eq g_b.symm)
    have BZ := extT BZ E4
    have B0 := extT B0 E4
    have C0 := C0.trans A4
    have B1 := extT B1 E4
    have C1 := C1.trans A4
    replace V_b := V_b.pad (vs' := [(.int (0 : Int32)), (.int (0 : Int32))]) (pad_rep [] _ 2)
    replace w := w.dup (pc' := 71) at_70
    replace w := w.iconst (pc' := 72) (0 : Int32) at_71
    replace w := w.iload (pc' := 74) at_72 rfl
    obtain ⟨h5, K5, V_b, A5, w⟩ := w.castore (x' := c0) V_b at_74 ⟨by decide, by decide⟩ n0 0 rfl nle ge_b_Z (pc' := 75)
    replace V_b := V_b.pad (vs' := [(.int c0), (.int (0 : Int32))]) (fun _ => rfl)
    have BZ := extK BZ K5 (allS ge_b_Z all0)
    have B0 := extK B0 K5 (allS ge_b_0 all0)
    have C0 := C0.trans A5
    have B1 := extK B1 K5 (allS ge_b_1 all0)
    have C1 := C1.trans A5
    replace w := w.dup (pc' := 76) at_75
    replace w := w.iconst (pc' := 77) (1 : Int32) at_76
    replace w := w.iload (pc' := 79) at_77 rfl
    obtain ⟨h6, K6, V_b, A6, w⟩ := w.castore (x' := c1) V_b at_79 ⟨by decide, by decide⟩ n1 1 rfl nle ge_b_Z (pc' := 80)
    replace V_b := V_b.pad (vs' := [(.int c0), (.int c1)]) (fun _ => rfl)
    have BZ := extK BZ K6 (allS ge_b_Z all0)
    have B0 := extK B0 K6 (allS ge_b_0 all0)
    have C0 := C0.trans A6
    have B1 := extK B1 K6 (allS ge_b_1 all0)
    have C1 := C1.trans A6
    have Sx := C1.safe lt_x S_x
    obtain ⟨v7, V7, h7, hq7, A7, w⟩ := w.ctor (y' := (⟨"java/lang/String", "<init>", "([C)V"⟩ : MethodName)) (W := 1) (a := x) (w.payNew (W := 1) (cs := [c0, c1]) hws (hw _ (List.mem_of_getElem? (i := 2) rfl)) (X_x.ext B1) (F_x_value.ext B1) (F_x_coder.ext B1) V_b Sc hz0 rfl nle nle (chars1 r0 (chars1 r1 chars0)) Sx ge_x_Z nle nle) rfl (hw _ (List.mem_of_getElem? (i := 201) rfl)) (hw _ (List.mem_of_getElem? (i := 202) rfl)) (hw _ (List.mem_of_getElem? (i := 203) rfl)) (argsL := [(.ref b)]) (rest := [(.ref x)]) (by decide) pd_29 rfl rfl (Nat.le_of_eq rfl) rfl at_80 nle nle (pc' := 83)
    obtain ⟨rfl, K7, T1⟩ := hq7
    replace w := w.to (g' := mkF m 83 #[.val (.int p0), .val (.int p1), .val (.int p2), .val (.int p3), .val (.int p4), .val (.int (2 : Int32)), .val (.int c0), .val (.int c1), .val (.int c2), .unset, .unset, .unset, .unset, .unset] [(.ref x)]) rfl
    have BZ := extK BZ K7 (allS ge_x_Z all0)
    have B0 := extK B0 K7 (allS ge_x_0 all0)
    have C0 := C0.trans A7
    replace w := w.astore (pc' := 85) (L' := #[.val (.int p0), .val (.int p1), .val (.int p2), .val (.int p3), .val (.int p4), .val (.int (2 : Int32)), .val (.int c0), .val (.int c1), .val (.int c2), .val (.ref x), .unset, .unset, .unset, .unset]) at_83 rfl
    replace w := w.goto (pc' := 115) at_85
    exact tl115 l Z a0 hw hEL z0 Sc hz0 d1 d2 k1 k2 S1 S2 D1 D2 fm Sf rfm _ p0 p1 p2 p3 p4 c0 c1 c2 2 x [c0, c1] nle rfl n0 n1 n2 T1 (w.more nle nle)
  · subst q
    replace w := w.ifYes (pc' := 41) at_31 (by decide)
    replace w := w.iload (pc' := 43) at_41 rfl
    replace w := w.iconst (pc' := 44) (1 : Int32) at_43
    replace w := w.icmpYes (pc' := 57) at_44 (by decide)
    replace w := w.iload (pc' := 59) at_57 rfl
    replace w := w.iconst (pc' := 60) (2 : Int32) at_59
    replace w := w.icmpYes (pc' := 88) at_60 (by decide)
    obtain ⟨h8, x, g_x, E8, X_x, D_x, S_x, A8, w⟩ := w.new (hw _ (List.mem_of_getElem? (i := 200) rfl)) (hw _ (List.mem_of_getElem? (i := 2) rfl)) (hw _ (List.mem_of_getElem? (i := 1) rfl)) at_88 nle nle (pc' := 91)
    have lt_x : x < h8.size := X_x.lt
    have ge_x_Z : Z.heap.size ≤ x := Nat.le_trans BZ.1 (Nat.le_of_eq g_x.symm)
    have ge_x_0 : Z.heap.size ≤ x := Nat.le_trans B0.1 (Nat.le_of_eq g_x.symm)
    have F_x_value := D_x (Or.inr (hw _ (List.mem_of_getElem? (i := 4) rfl))) (ty := (.array .byte)) (by decide)
    have F_x_coder := D_x (Or.inr (hw _ (List.mem_of_getElem? (i := 5) rfl))) (ty := .byte) (by decide)
    have BZ := extT BZ E8
    have B0 := extT B0 E8
    have C0 := C0.trans A8
    have B1 := extR h8
    have C1 := CHr.refl w.ch
    replace w := w.dup (pc' := 92) at_91
    replace w := w.iconst (pc' := 93) (3 : Int32) at_92
    obtain ⟨h9, b, k_b, g_b, E9, V_b, S_b, A9, w⟩ := w.newarr (cap := 3) (hw _ (List.mem_of_getElem? (i := 9) rfl)) at_93 (by decide) (by decide) nle nle (pc' := 95)
    have lt_b : b < h9.size := V_b.lt
    have ge_b_Z : Z.heap.size ≤ b := Nat.le_trans BZ.1 (Nat.le_of_eq g_b.symm)
    have ge_b_0 : Z.heap.size ≤ b := Nat.le_trans B0.1 (Nat.le_of_eq g_b.symm)
    have ge_b_1 : h8.size ≤ b := Nat.le_trans B1.1 (Nat.le_of_eq g_b.symm)
    have BZ := extT BZ E9
    have B0 := extT B0 E9
    have C0 := C0.trans A9
    have B1 := extT B1 E9
    have C1 := C1.trans A9
    replace V_b := V_b.pad (vs' := [(.int (0 : Int32)), (.int (0 : Int32)), (.int (0 : Int32))]) (pad_rep [] _ 3)
    replace w := w.dup (pc' := 96) at_95
    replace w := w.iconst (pc' := 97) (0 : Int32) at_96
    replace w := w.iload (pc' := 99) at_97 rfl
    obtain ⟨h10, K10, V_b, A10, w⟩ := w.castore (x' := c0) V_b at_99 ⟨by decide, by decide⟩ n0 0 rfl nle ge_b_Z (pc' := 100)
    replace V_b := V_b.pad (vs' := [(.int c0), (.int (0 : Int32)), (.int (0 : Int32))]) (fun _ => rfl)
    have BZ := extK BZ K10 (allS ge_b_Z all0)
    have B0 := extK B0 K10 (allS ge_b_0 all0)
    have C0 := C0.trans A10
    have B1 := extK B1 K10 (allS ge_b_1 all0)
    have C1 := C1.trans A10
    replace w := w.dup (pc' := 101) at_100
    replace w := w.iconst (pc' := 102) (1 : Int32) at_101
    replace w := w.iload (pc' := 104) at_102 rfl
    obtain ⟨h11, K11, V_b, A11, w⟩ := w.castore (x' := c1) V_b at_104 ⟨by decide, by decide⟩ n1 1 rfl nle ge_b_Z (pc' := 105)
    replace V_b := V_b.pad (vs' := [(.int c0), (.int c1), (.int (0 : Int32))]) (fun _ => rfl)
    have BZ := extK BZ K11 (allS ge_b_Z all0)
    have B0 := extK B0 K11 (allS ge_b_0 all0)
    have C0 := C0.trans A11
    have B1 := extK B1 K11 (allS ge_b_1 all0)
    have C1 := C1.trans A11
    replace w := w.dup (pc' := 106) at_105
    replace w := w.iconst (pc' := 107) (2 : Int32) at_106
    replace w := w.iload (pc' := 109) at_107 rfl
    obtain ⟨h12, K12, V_b, A12, w⟩ := w.castore (x' := c2) V_b at_109 ⟨by decide, by decide⟩ n2 2 rfl nle ge_b_Z (pc' := 110)
    replace V_b := V_b.pad (vs' := [(.int c0), (.int c1), (.int c2)]) (fun _ => rfl)
    have BZ := extK BZ K12 (allS ge_b_Z all0)
    have B0 := extK B0 K12 (allS ge_b_0 all0)
    have C0 := C0.trans A12
    have B1 := extK B1 K12 (allS ge_b_1 all0)
    have C1 := C1.trans A12
    have Sx := C1.safe lt_x S_x
    obtain ⟨v13, V13, h13, hq13, A13, w⟩ := w.ctor (y' := (⟨"java/lang/String", "<init>", "([C)V"⟩ : MethodName)) (W := 1) (a := x) (w.payNew (W := 1) (cs := [c0, c1, c2]) hws (hw _ (List.mem_of_getElem? (i := 2) rfl)) (X_x.ext B1) (F_x_value.ext B1) (F_x_coder.ext B1) V_b Sc hz0 rfl nle nle (chars1 r0 (chars1 r1 (chars1 r2 chars0))) Sx ge_x_Z nle nle) rfl (hw _ (List.mem_of_getElem? (i := 201) rfl)) (hw _ (List.mem_of_getElem? (i := 202) rfl)) (hw _ (List.mem_of_getElem? (i := 203) rfl)) (argsL := [(.ref b)]) (rest := [(.ref x)]) (by decide) pd_29 rfl rfl (Nat.le_of_eq rfl) rfl at_110 nle nle (pc' := 113)
    obtain ⟨rfl, K13, T1⟩ := hq13
    replace w := w.to (g' := mkF m 113 #[.val (.int p0), .val (.int p1), .val (.int p2), .val (.int p3), .val (.int p4), .val (.int (3 : Int32)), .val (.int c0), .val (.int c1), .val (.int c2), .unset, .unset, .unset, .unset, .unset] [(.ref x)]) rfl
    have BZ := extK BZ K13 (allS ge_x_Z all0)
    have B0 := extK B0 K13 (allS ge_x_0 all0)
    have C0 := C0.trans A13
    replace w := w.astore (pc' := 115) (L' := #[.val (.int p0), .val (.int p1), .val (.int p2), .val (.int p3), .val (.int p4), .val (.int (3 : Int32)), .val (.int c0), .val (.int c1), .val (.int c2), .val (.ref x), .unset, .unset, .unset, .unset]) at_113 rfl
    exact tl115 l Z a0 hw hEL z0 Sc hz0 d1 d2 k1 k2 S1 S2 D1 D2 fm Sf rfm _ p0 p1 p2 p3 p4 c0 c1 c2 3 x [c0, c1, c2] nle rfl n0 n1 n2 T1 (w.more nle nle)
set_option maxRecDepth 65536 in
set_option maxHeartbeats 40000000 in
theorem comes_1 {Post : Tables → Env → Array Value → State → Outcome → State → Prop} (hpost : ∀ tb e args s v u, (limb_1_1.after args s (.returned v) u = true ∧ limb_1_2.after args s (.returned v) u = true ∧ True) → FramedW s (.returned v) u (Jvm.fieldLocs frame_1_writes args s ++ Jvm.arrayLocs frame_1_arrays args s ++ Jvm.staticLocs frame_1_statics s) 32 2240 → Post tb e args s (.returned v) u) :
    ArmFor flags0 classFile x code maxLocals ret World_1 tables_1 room_1 Calls_1 rest_1 Pre_1 Post := by
  intro l hfl _ _ p e ha hc hk s m args below hf hA hF happ hP
  obtain ⟨hcalls, hrest, hpre⟩ := hP
  obtain ⟨-, -, -, hnamed, -, -, -, hat⟩ := (Spec.applies_iff hf).mp happ
  obtain ⟨hg, hn⟩ := and_e (Cond.before_iff.mp (show (Jvm.Cond.and given_1 narrow_1).before args s = true from hpre))
  obtain ⟨hcount, g0⟩ := and_e hg
  obtain ⟨g0, g1⟩ := and_e g0
  obtain ⟨g1, g2⟩ := and_e g1
  obtain ⟨g2, g3⟩ := and_e g2
  obtain ⟨g3, g4⟩ := and_e g3
  obtain ⟨w0, w1, w2, w3, w4, rfl⟩ : ∃ w0 w1 w2 w3 w4 : Value, args = #[w0, w1, w2, w3, w4] := by
    have hs : args.size = 5 := by simpa [Cond.value, given_1] using hcount
    obtain ⟨L⟩ := args
    match L, hs with
    | [w0, w1, w2, w3, w4], _ => exact ⟨w0, w1, w2, w3, w4, rfl⟩
  have hw := fun d (hd : d ∈ tables_1) => atoms_spec (ws := Jvm.Cond.code x code maxLocals ret :: tables_1) hat d (List.mem_cons_of_mem _ hd)
  obtain ⟨hsets, hown0⟩ := atoms_of _ (rest_1_c_eq ▸ (show rest_1_c.before _ s = true from hrest))
  have hfit : Fit s := fun {y c} hc i hi => by
    obtain ⟨ha, rfl⟩ := Array.getElem?_eq_some_iff.mp hc
    have q := List.all_eq_true.mp ((Array.all_eq_true_iff_forall_mem.mp hF) _ (Array.getElem_mem ha)) i (List.mem_range.mpr hi)
    simpa [Array.getElem?_eq_getElem hi] using q
  have n5 := not_v (Cond.before_iff.mp (hsets _ (List.mem_of_getElem? (i := 2) rfl)))
  obtain ⟨i0, e0⟩ := is_v g0
  obtain rfl : w0 = (.int i0) := Option.some.inj e0
  obtain ⟨i1, e1⟩ := is_v g1
  obtain rfl : w1 = (.int i1) := Option.some.inj e1
  obtain ⟨i2, e2⟩ := is_v g2
  obtain rfl : w2 = (.int i2) := Option.some.inj e2
  obtain ⟨i3, e3⟩ := is_v g3
  obtain rfl : w3 = (.int i3) := Option.some.inj e3
  obtain ⟨i4, e4⟩ := is_v g4
  obtain rfl : w4 = (.int i4) := Option.some.inj e4
  obtain ⟨z0, ez⟩ := is_v (Cond.before_iff.mp (hsets _ (List.mem_of_getElem? (i := 1) rfl)))
  have Sc : Sta s s.heap "java/lang/String" "COMPACT_STRINGS" "Z" (.int z0) := Sta.start ez (Or.inl (hsets _ (List.mem_of_getElem? (i := 0) rfl)))
  have hz0 : ¬ (z0 = (0 : Int32)) := gotF (Cond.eq_ints ez (Term.int_eval (0))) n5
  obtain ⟨fm, ef, rfm⟩ := isR_v (Cond.before_iff.mp (hsets _ (List.mem_of_getElem? (i := 8) rfl)))
  have Sf : Sta s s.heap "jdk/internal/util/Preconditions" "SIOOBE_FORMATTER" "Ljava/util/function/BiFunction;" fm := Sta.start ef (Or.inl (hsets _ (List.mem_of_getElem? (i := 7) rfl)))
  have hEL : EW s #[.int i0, .int i1, .int i2, .int i3, .int i4] consts_1 := (EW.cons (hw _ (List.mem_of_getElem? (i := 108) rfl)) (by decide) (EW.cons (hw _ (List.mem_of_getElem? (i := 0) rfl)) (by decide) EW.nil))
  have hCH : CHv s consts_1 s.vm s.heap := CHv.start hEL (fun q hq => hcalls.1 q hq) (hsets _ (List.mem_of_getElem? (i := 2) rfl)) (hw _ (List.mem_of_getElem? (i := 3) rfl)) (hw _ (List.mem_of_getElem? (i := 2) rfl))
  obtain ⟨d1, k1, ed1, D1⟩ := own_tab hfit (t := .static "java/lang/Integer" "DigitOnes" "[B") (fun i => 48 + Nat.toInt32 i % 10) (fun _ h _ => h) (Cond.before_iff.mp (hsets _ (List.mem_of_getElem? (i := 12) rfl))) (Cond.before_iff.mp (hsets _ (List.mem_of_getElem? (i := 13) rfl))) (Cond.before_iff.mp (hsets _ (List.mem_of_getElem? (i := 14) rfl))) (hw _ (List.mem_of_getElem? (i := 3) rfl)) (fun _ => rfl)
  have S1 : Sta s s.heap "java/lang/Integer" "DigitOnes" "[B" (.ref d1) := Sta.start ed1 (Or.inl (hsets _ (List.mem_of_getElem? (i := 11) rfl)))
  obtain ⟨d2, k2, ed2, D2⟩ := own_tab hfit (t := .static "java/lang/Integer" "DigitTens" "[B") (fun i => 48 + Nat.toInt32 i / 10) (fun _ h _ => h) (Cond.before_iff.mp (hsets _ (List.mem_of_getElem? (i := 17) rfl))) (Cond.before_iff.mp (hsets _ (List.mem_of_getElem? (i := 18) rfl))) (Cond.before_iff.mp (hsets _ (List.mem_of_getElem? (i := 19) rfl))) (hw _ (List.mem_of_getElem? (i := 3) rfl)) (fun _ => rfl)
  have S2 : Sta s s.heap "java/lang/Integer" "DigitTens" "[B" (.ref d2) := Sta.start ed2 (Or.inl (hsets _ (List.mem_of_getElem? (i := 16) rfl)))
  obtain ⟨n, o, h1, h2, h3, v, L, rfl, rfl, -, N, -, hq⟩ := rm0 l s _ hw hEL z0 Sc hz0 d1 d2 k1 k2 S1 S2 D1 D2 fm Sf rfm i0 i1 i2 i3 i4 p e ha hc hk s m _ below hf ((Spec.applies_iff_loose hf).mp happ).1 ⟨rfl, State.Warmed39.refl s, rfl, hCH, all0⟩ trivial
  refine ⟨n, _, h1, h2, h3, hpost _ _ _ _ _ _ ⟨Cond.after_iff.mpr rfl, Cond.after_iff.mpr (eq_i res_at (Term.int_eval (1)) rfl), trivial⟩ ⟨hq.1, hq.2.1, hq.2.2.1, (hq.2.2.2.sift fun y hy => Or.inr (N y hy)).mono (by decide) (by decide)⟩⟩
theorem main_1_1 : Claimed_1_1 := comes_1 fun _ _ _ _ _ _ h hF => ⟨h.1, hF⟩
theorem main_1_2 : Claimed_1_2 := comes_1 fun _ _ _ _ _ _ h hF => ⟨h.2.1, hF⟩
end Jvm.Pilot.@@N@@
namespace Jvm.Pilot.@@N@@
open Jvm Jvm.ClassFile Sem Op Lib Jvm.Free Jvm.Stand Jvm.Pilot.@@N@@.Jvm.D
/-! MADE BY PROGRAM (witnessworld.py) out of the Statement's table words and the real class files: 29 classes; the members and pool entries that the words name. The judged class is class 1, her method 1. -/
namespace start1
open Jvm.ClassFile
def u (s : String) : CpInfo := .utf8 (stringToUtf16 s)
/-- a pool by its gaps: so many unusable entries, then the entry; so many at the end -/
def gap : Nat → List CpInfo → List CpInfo
  | 0, r => r
  | n + 1, r => .unusable :: gap n r
def poolList (es : List (Nat × CpInfo)) (last : Nat) : List CpInfo := es.foldr (fun e r => gap e.1 (e.2 :: r)) (gap last [])
def pool (es : List (Nat × CpInfo)) (last : Nat) : Array CpInfo := ⟨poolList es last⟩
def fileOf (pool : Array CpInfo) (this : Nat) (attrs : Array Attribute := #[]) (ms : Array MethodInfo := #[]) (fl : Nat := 33) (sup : Nat := 0) (ifs : Array Nat := #[]) (fds : Array FieldInfo := #[]) : ClassFile where
  minorVersion := 0
  majorVersion := 65
  constantPool := pool
  accessFlags := fl
  thisClass := this
  superClass := sup
  interfaces := ifs
  fields := fds
  methods := ms
  attributes := attrs
def plain (name : String) (sup : Option ClassId) : Class where
  name := name
  kind := .ordinary
  loader := none
  accessFlags := 33
  super := sup
  interfaces := #[]
  cf := none
  fields := #[]
  methods := #[]
  instanceTypes := #[]
  staticTypes := #[]
  resolved := #[]
  callSites := []
  init := .initialized
  statics := none
  mirror := none

def pool0 : Array CpInfo := pool [(5, u "<init>"), (0, u "()V"), (1, .class_ 10), (1, u "java/lang/Object")] 113

def k0c0 : Code := { maxStack := 0, maxLocals := 1, code := object_method_1_code, exceptionTable := #[], attributes := #[] }
def k0m0 : Method := { name := "<init>", desc := "()V", sig := { parameters := [], returnType := none }, accessFlags := 1, code := some k0c0 }
/-- java/lang/Object -/
def k0 : Class := { plain "java/lang/Object" none with
  accessFlags := 33
  interfaces := #[]
  cf := some (fileOf pool0 8 #[] #[{ accessFlags := 1, nameIndex := 5, descriptorIndex := 6, attributes := #[] }] 33 0 #[] #[])
  fields := #[]
  methods := #[k0m0]
  instanceTypes := #[]
  staticTypes := #[]
  resolved := Array.replicate 124 none
  statics := none }

def pool1 : Array CpInfo := pool [(2, .class_ 4), (1, u "java/lang/Object"), (0, u "<init>"), (0, u "()V"), (0, .string 8), (0, u ""), (0, .methodref 10 11), (0, .class_ 12), (0, .nameAndType 13 14), (0, u "java/lang/String"), (0, u "valueOf"), (0, u "(C)Ljava/lang/String;"), (0, .methodref 10 16), (0, .nameAndType 5 17), (0, u "([C)V"), (0, .integer 65535), (0, .methodref 20 21), (0, .class_ 22), (0, .nameAndType 23 24), (0, u "com/example/twinshore/twinshore/HostPortToStringPinLaw"), (0, u "digit"), (0, u "([CIIII)V"), (0, .class_ 26), (0, u "com/example/twinshore/twinshore/HostPort"), (0, .methodref 25 28), (0, .nameAndType 5 29), (0, u "(Ljava/lang/String;I)V"), (0, .methodref 25 31), (0, .nameAndType 32 33), (0, u "toString"), (0, u "()Ljava/lang/String;"), (0, .methodref 10 35), (0, .nameAndType 36 37), (0, u "length"), (0, u "()I"), (0, .methodref 20 39), (0, .nameAndType 40 41), (0, u "at"), (0, u "(Ljava/lang/String;[CI)Z"), (0, .methodref 10 43), (0, .nameAndType 44 45), (0, u "charAt"), (0, u "(I)C"), (0, .methodref 20 47), (0, .nameAndType 48 49), (0, u "pow10"), (0, u "(I)I"), (2, u "law"), (0, u "(IIIII)Z")] 5

def k1m0 : Method := { name := "<init>", desc := "()V", sig := { parameters := [], returnType := none }, accessFlags := 2, code := none }
def k1c1 : Code := { maxStack := 6, maxLocals := 14, code := code, exceptionTable := #[], attributes := #[] }
def k1m1 : Method := { name := "law", desc := "(IIIII)Z", sig := { parameters := [.int, .int, .int, .int, .int], returnType := some .boolean }, accessFlags := 9, code := some k1c1 }
def k1c2 : Code := { maxStack := 3, maxLocals := 3, code := method_3_code, exceptionTable := #[], attributes := #[] }
def k1m2 : Method := { name := "at", desc := "(Ljava/lang/String;[CI)Z", sig := { parameters := [(.object "java/lang/String"), (.array .char), .int], returnType := some .boolean }, accessFlags := 10, code := some k1c2 }
def k1c3 : Code := { maxStack := 2, maxLocals := 1, code := method_4_code, exceptionTable := #[], attributes := #[] }
def k1m3 : Method := { name := "pow10", desc := "(I)I", sig := { parameters := [.int], returnType := some .int }, accessFlags := 10, code := some k1c3 }
def k1c4 : Code := { maxStack := 6, maxLocals := 5, code := method_5_code, exceptionTable := #[], attributes := #[] }
def k1m4 : Method := { name := "digit", desc := "([CIIII)V", sig := { parameters := [(.array .char), .int, .int, .int, .int], returnType := none }, accessFlags := 10, code := some k1c4 }
/-- com/example/twinshore/twinshore/HostPortToStringPinLaw -/
def k1 : Class := { plain "com/example/twinshore/twinshore/HostPortToStringPinLaw" (some 0) with
  accessFlags := 49
  interfaces := #[]
  cf := some (fileOf pool1 20 #[] #[{ accessFlags := 2, nameIndex := 5, descriptorIndex := 6, attributes := #[] }, { accessFlags := 9, nameIndex := 52, descriptorIndex := 53, attributes := #[] }, { accessFlags := 10, nameIndex := 40, descriptorIndex := 41, attributes := #[] }, { accessFlags := 10, nameIndex := 48, descriptorIndex := 49, attributes := #[] }, { accessFlags := 10, nameIndex := 23, descriptorIndex := 24, attributes := #[] }] 49 2 #[] #[])
  fields := #[]
  methods := #[k1m0, k1m1, k1m2, k1m3, k1m4]
  instanceTypes := #[]
  staticTypes := #[]
  resolved := Array.replicate 59 none
  statics := none }

def pool2 : Array CpInfo := pool [(1, .class_ 2), (0, u "java/io/Serializable"), (0, .class_ 4), (0, u "java/lang/Object")] 2

/-- java/io/Serializable -/
def k2 : Class := { plain "java/io/Serializable" (some 0) with
  accessFlags := 1537
  interfaces := #[]
  cf := some (fileOf pool2 1 #[] #[] 1537 3 #[] #[])
  fields := #[]
  methods := #[]
  instanceTypes := #[]
  staticTypes := #[]
  resolved := Array.replicate 7 none
  statics := none }

def pool3 : Array CpInfo := pool [(1, .class_ 2), (0, u "java/lang/Comparable"), (0, .class_ 4), (0, u "java/lang/Object")] 7

/-- java/lang/Comparable -/
def k3 : Class := { plain "java/lang/Comparable" (some 0) with
  accessFlags := 1537
  interfaces := #[]
  cf := some (fileOf pool3 1 #[] #[] 1537 3 #[] #[])
  fields := #[]
  methods := #[]
  instanceTypes := #[]
  staticTypes := #[]
  resolved := Array.replicate 12 none
  statics := none }

def pool4 : Array CpInfo := pool [(2, .class_ 4), (1, u "java/lang/CharSequence"), (42, .class_ 48), (0, u "java/lang/CharSequence$1CodePointIterator"), (10, .class_ 60), (0, u "java/lang/CharSequence$1CharIterator"), (5, .class_ 67), (0, u "java/lang/Object")] 63

/-- java/lang/CharSequence -/
def k4 : Class := { plain "java/lang/CharSequence" (some 0) with
  accessFlags := 1537
  interfaces := #[]
  cf := some (fileOf pool4 2 #[.nestMembers #[47, 59]] #[] 1537 66 #[] #[])
  fields := #[]
  methods := #[]
  instanceTypes := #[]
  staticTypes := #[]
  resolved := Array.replicate 131 none
  statics := none }

def pool5 : Array CpInfo := pool [(1, .class_ 2), (0, u "java/lang/constant/Constable"), (0, .class_ 4), (0, u "java/lang/Object")] 6

/-- java/lang/constant/Constable -/
def k5 : Class := { plain "java/lang/constant/Constable" (some 0) with
  accessFlags := 1537
  interfaces := #[]
  cf := some (fileOf pool5 1 #[] #[] 1537 3 #[] #[])
  fields := #[]
  methods := #[]
  instanceTypes := #[]
  staticTypes := #[]
  resolved := Array.replicate 11 none
  statics := none }

def pool6 : Array CpInfo := pool [(1, .class_ 2), (0, u "java/lang/constant/ConstantDesc"), (0, .class_ 4), (0, u "java/lang/Object")] 32

/-- java/lang/constant/ConstantDesc -/
def k6 : Class := { plain "java/lang/constant/ConstantDesc" (some 0) with
  accessFlags := 1537
  interfaces := #[]
  cf := some (fileOf pool6 1 #[] #[] 1537 3 #[] #[])
  fields := #[]
  methods := #[]
  instanceTypes := #[]
  staticTypes := #[]
  resolved := Array.replicate 37 none
  statics := none }

def pool7 : Array CpInfo := pool [(1, .methodref 2 3), (0, .class_ 4), (0, .nameAndType 5 6), (0, u "java/lang/Object"), (0, u "<init>"), (0, u "()V"), (2, .fieldref 10 11), (0, .class_ 12), (0, .nameAndType 13 14), (0, u "java/lang/String"), (0, u "value"), (0, u "[B"), (0, .fieldref 10 16), (0, .nameAndType 17 18), (0, u "coder"), (0, u "B"), (2, u "hash"), (0, u "I"), (2, u "hashIsZero"), (0, u "Z"), (0, .methodref 10 28), (0, .nameAndType 5 29), (0, u "([CIILjava/lang/Void;)V"), (8, .fieldref 10 39), (0, .nameAndType 40 26), (0, u "COMPACT_STRINGS"), (1, .class_ 44), (1, u "java/lang/StringUTF16"), (0, u "compress"), (1, .methodref 42 48), (0, .nameAndType 49 50), (0, u "coderFromArrayLen"), (0, u "([BI)B"), (2, u "toBytes"), (0, .methodref 55 56), (0, .class_ 57), (0, .nameAndType 58 59), (0, u "java/util/Arrays"), (0, u "copyOfRange"), (0, u "([BII)[B"), (47, .class_ 109), (1, u "java/lang/StringLatin1"), (32, u "()Z"), (34, .methodref 42 178), (0, .nameAndType 45 179), (0, u "([CII)[B"), (13, .class_ 195), (1, u "java/lang/System"), (13, .methodref 10 210), (0, .nameAndType 5 211), (0, u "([BB)V"), (0, .methodref 193 213), (0, .nameAndType 214 215), (0, u "arraycopy"), (0, u "(Ljava/lang/Object;ILjava/lang/Object;II)V"), (118, u "()I"), (0, .methodref 10 336), (0, .nameAndType 17 337), (0, u "()B"), (2, u "()[B"), (22, u "([BI)C"), (5, u "(C)Z"), (21, u "(II)V"), (35, u "(I)C"), (61, .methodref 10 490), (0, .nameAndType 5 491), (0, u "(Ljava/lang/AbstractStringBuilder;Ljava/lang/Void;)V"), (0, .methodref 10 493), (0, .nameAndType 494 142), (0, u "isLatin1"), (0, .methodref 107 496), (0, .nameAndType 497 363), (0, u "charAt"), (3, u "checkIndex"), (4, .nameAndType 507 334), (0, u "length"), (24, u "getBytes"), (16, .methodref 550 506), (0, .class_ 551), (0, u "java/lang/AbstractStringBuilder"), (0, .methodref 550 553), (0, .nameAndType 554 340), (0, u "getValue"), (20, .class_ 576), (0, u "java/lang/CharSequence"), (22, u "CASE_INSENSITIVE_ORDER"), (0, u "Ljava/util/Comparator;"), (181, u "valueOf"), (0, u "(C)Ljava/lang/String;"), (37, u "([BIB)V"), (188, u "([C)V"), (4, .methodref 107 1016), (0, .nameAndType 1017 369), (0, u "canEncode"), (0, .methodref 107 1019), (0, .nameAndType 53 1020), (0, u "(C)[B"), (26, .methodref 550 493), (5, .fieldref 1054 1055), (0, .class_ 1056), (0, .nameAndType 1057 1058), (0, u "jdk/internal/util/Preconditions"), (0, u "SIOOBE_FORMATTER"), (0, u "Ljava/util/function/BiFunction;"), (0, .methodref 1054 1060), (0, .nameAndType 501 1061), (0, u "(IILjava/util/function/BiFunction;)I"), (39, u "serialPersistentFields"), (0, u "[Ljava/io/ObjectStreamField;"), (0, .class_ 1104), (0, u "java/lang/String$CaseInsensitiveComparator"), (1, .class_ 1107), (0, u "java/io/Serializable"), (0, .class_ 1109), (0, u "java/lang/Comparable"), (0, .class_ 1111), (0, u "java/lang/constant/Constable"), (0, .class_ 1113), (0, u "java/lang/constant/ConstantDesc"), (2, u "serialVersionUID"), (0, u "J"), (3, u "REPL"), (0, u "C"), (2, u "LATIN1"), (1, u "UTF16"), (105, u "(Ljava/lang/StringBuilder;)V")] 217

def k7m0 : Method := { name := "<init>", desc := "()V", sig := { parameters := [], returnType := none }, accessFlags := 1, code := none }
def k7c1 : Code := { maxStack := 5, maxLocals := 2, code := jdk_42_method_3_code, exceptionTable := #[], attributes := #[] }
def k7m1 : Method := { name := "<init>", desc := "([C)V", sig := { parameters := [(.array .char)], returnType := none }, accessFlags := 1, code := some k7c1 }
def k7c2 : Code := { maxStack := 3, maxLocals := 2, code := jdk_42_method_53_code, exceptionTable := #[], attributes := #[] }
def k7m2 : Method := { name := "<init>", desc := "(Ljava/lang/StringBuilder;)V", sig := { parameters := [(.object "java/lang/StringBuilder")], returnType := none }, accessFlags := 1, code := some k7c2 }
def k7c3 : Code := { maxStack := 2, maxLocals := 1, code := jdk_42_method_54_code, exceptionTable := #[], attributes := #[] }
def k7m3 : Method := { name := "length", desc := "()I", sig := { parameters := [], returnType := some .int }, accessFlags := 1, code := some k7c3 }
def k7c4 : Code := { maxStack := 2, maxLocals := 2, code := jdk_42_method_56_code, exceptionTable := #[], attributes := #[] }
def k7m4 : Method := { name := "charAt", desc := "(I)C", sig := { parameters := [.int], returnType := some .char }, accessFlags := 1, code := some k7c4 }
def k7c5 : Code := { maxStack := 4, maxLocals := 1, code := jdk_42_method_139_code, exceptionTable := #[], attributes := #[] }
def k7m5 : Method := { name := "valueOf", desc := "(C)Ljava/lang/String;", sig := { parameters := [.char], returnType := some (.object "java/lang/String") }, accessFlags := 9, code := some k7c5 }
def k7c6 : Code := { maxStack := 5, maxLocals := 4, code := jdk_42_method_147_code, exceptionTable := #[], attributes := #[] }
def k7m6 : Method := { name := "getBytes", desc := "([BIB)V", sig := { parameters := [(.array .byte), .int, .byte], returnType := none }, accessFlags := 0, code := some k7c6 }
def k7c7 : Code := { maxStack := 4, maxLocals := 6, code := jdk_42_method_149_code, exceptionTable := #[], attributes := #[] }
def k7m7 : Method := { name := "<init>", desc := "([CIILjava/lang/Void;)V", sig := { parameters := [(.array .char), .int, .int, (.object "java/lang/Void")], returnType := none }, accessFlags := 2, code := some k7c7 }
def k7c8 : Code := { maxStack := 5, maxLocals := 5, code := jdk_42_method_150_code, exceptionTable := #[], attributes := #[] }
def k7m8 : Method := { name := "<init>", desc := "(Ljava/lang/AbstractStringBuilder;Ljava/lang/Void;)V", sig := { parameters := [(.object "java/lang/AbstractStringBuilder"), (.object "java/lang/Void")], returnType := none }, accessFlags := 0, code := some k7c8 }
def k7c9 : Code := { maxStack := 2, maxLocals := 3, code := jdk_42_method_151_code, exceptionTable := #[], attributes := #[] }
def k7m9 : Method := { name := "<init>", desc := "([BB)V", sig := { parameters := [(.array .byte), .byte], returnType := none }, accessFlags := 0, code := some k7c9 }
def k7c10 : Code := { maxStack := 1, maxLocals := 1, code := jdk_42_method_152_code, exceptionTable := #[], attributes := #[] }
def k7m10 : Method := { name := "coder", desc := "()B", sig := { parameters := [], returnType := some .byte }, accessFlags := 0, code := some k7c10 }
def k7c11 : Code := { maxStack := 1, maxLocals := 1, code := jdk_42_method_154_code, exceptionTable := #[], attributes := #[] }
def k7m11 : Method := { name := "isLatin1", desc := "()Z", sig := { parameters := [], returnType := some .boolean }, accessFlags := 0, code := some k7c11 }
def k7c12 : Code := { maxStack := 3, maxLocals := 2, code := jdk_42_method_155_code, exceptionTable := #[], attributes := #[] }
def k7m12 : Method := { name := "checkIndex", desc := "(II)V", sig := { parameters := [.int, .int], returnType := none }, accessFlags := 8, code := some k7c12 }
/-- java/lang/String -/
def k7 : Class := { plain "java/lang/String" (some 0) with
  accessFlags := 49
  interfaces := #[2, 3, 4, 5, 6]
  cf := some (fileOf pool7 10 #[.nestMembers #[1103]] #[{ accessFlags := 1, nameIndex := 5, descriptorIndex := 6, attributes := #[] }, { accessFlags := 1, nameIndex := 5, descriptorIndex := 1010, attributes := #[] }, { accessFlags := 1, nameIndex := 5, descriptorIndex := 1233, attributes := #[] }, { accessFlags := 1, nameIndex := 507, descriptorIndex := 334, attributes := #[] }, { accessFlags := 1, nameIndex := 497, descriptorIndex := 427, attributes := #[] }, { accessFlags := 9, nameIndex := 782, descriptorIndex := 783, attributes := #[] }, { accessFlags := 0, nameIndex := 532, descriptorIndex := 821, attributes := #[] }, { accessFlags := 2, nameIndex := 5, descriptorIndex := 29, attributes := #[] }, { accessFlags := 0, nameIndex := 5, descriptorIndex := 491, attributes := #[] }, { accessFlags := 0, nameIndex := 5, descriptorIndex := 211, attributes := #[] }, { accessFlags := 0, nameIndex := 17, descriptorIndex := 337, attributes := #[] }, { accessFlags := 0, nameIndex := 494, descriptorIndex := 142, attributes := #[] }, { accessFlags := 8, nameIndex := 501, descriptorIndex := 391, attributes := #[] }] 49 2 #[1106, 1108, 575, 1110, 1112] #[{ accessFlags := 18, nameIndex := 13, descriptorIndex := 14, attributes := #[] }, { accessFlags := 18, nameIndex := 17, descriptorIndex := 18, attributes := #[] }, { accessFlags := 2, nameIndex := 21, descriptorIndex := 22, attributes := #[] }, { accessFlags := 2, nameIndex := 25, descriptorIndex := 26, attributes := #[] }, { accessFlags := 26, nameIndex := 1116, descriptorIndex := 1117, attributes := #[] }, { accessFlags := 24, nameIndex := 40, descriptorIndex := 26, attributes := #[] }, { accessFlags := 26, nameIndex := 1101, descriptorIndex := 1102, attributes := #[] }, { accessFlags := 26, nameIndex := 1121, descriptorIndex := 1122, attributes := #[] }, { accessFlags := 25, nameIndex := 599, descriptorIndex := 600, attributes := #[] }, { accessFlags := 24, nameIndex := 1125, descriptorIndex := 18, attributes := #[] }, { accessFlags := 24, nameIndex := 1127, descriptorIndex := 18, attributes := #[] }])
  fields := #[{ name := "value", type := (.array .byte), accessFlags := 18, slot := 0, constantValue := 0 }, { name := "coder", type := .byte, accessFlags := 18, slot := 1, constantValue := 0 }, { name := "hash", type := .int, accessFlags := 2, slot := 2, constantValue := 0 }, { name := "hashIsZero", type := .boolean, accessFlags := 2, slot := 3, constantValue := 0 }, { name := "serialVersionUID", type := .long, accessFlags := 26, slot := 0, constantValue := 0 }, { name := "COMPACT_STRINGS", type := .boolean, accessFlags := 24, slot := 1, constantValue := 0 }, { name := "serialPersistentFields", type := (.array (.object "java/io/ObjectStreamField")), accessFlags := 26, slot := 2, constantValue := 0 }, { name := "REPL", type := .char, accessFlags := 26, slot := 3, constantValue := 0 }, { name := "CASE_INSENSITIVE_ORDER", type := (.object "java/util/Comparator"), accessFlags := 25, slot := 4, constantValue := 0 }, { name := "LATIN1", type := .byte, accessFlags := 24, slot := 5, constantValue := 0 }, { name := "UTF16", type := .byte, accessFlags := 24, slot := 6, constantValue := 0 }]
  methods := #[k7m0, k7m1, k7m2, k7m3, k7m4, k7m5, k7m6, k7m7, k7m8, k7m9, k7m10, k7m11, k7m12]
  instanceTypes := #[(.array .byte), .byte, .int, .boolean]
  staticTypes := #[.long, .boolean, (.array (.object "java/io/ObjectStreamField")), .char, (.object "java/util/Comparator"), .byte, .byte]
  resolved := Array.replicate 1451 none
  statics := some 0 }

def pool8 : Array CpInfo := pool [(1, .methodref 2 3), (0, .class_ 4), (0, .nameAndType 5 6), (0, u "java/lang/Object"), (0, u "<init>"), (0, u "()V"), (0, .class_ 8), (0, u "java/lang/Record")] 13

def k8c0 : Code := { maxStack := 1, maxLocals := 1, code := jdk_30_method_1_code, exceptionTable := #[], attributes := #[] }
def k8m0 : Method := { name := "<init>", desc := "()V", sig := { parameters := [], returnType := none }, accessFlags := 4, code := some k8c0 }
/-- java/lang/Record -/
def k8 : Class := { plain "java/lang/Record" (some 0) with
  accessFlags := 1057
  interfaces := #[]
  cf := some (fileOf pool8 7 #[] #[{ accessFlags := 4, nameIndex := 5, descriptorIndex := 6, attributes := #[] }] 1057 2 #[] #[])
  fields := #[]
  methods := #[k8m0]
  instanceTypes := #[]
  staticTypes := #[]
  resolved := Array.replicate 22 none
  statics := none }

def pool9 : Array CpInfo := pool [(1, .methodref 2 3), (0, .class_ 4), (0, .nameAndType 5 6), (0, u "java/lang/Record"), (0, u "<init>"), (0, u "()V"), (0, .fieldref 8 9), (0, .class_ 10), (0, .nameAndType 11 12), (0, u "com/example/twinshore/twinshore/HostPort"), (0, u "host"), (0, u "Ljava/lang/String;"), (0, .fieldref 8 14), (0, .nameAndType 15 16), (0, u "port"), (0, u "I"), (0, .class_ 18), (0, u "java/lang/StringBuilder"), (0, .methodref 17 3), (2, .methodref 17 23), (0, .nameAndType 24 25), (0, u "append"), (0, u "(Ljava/lang/String;)Ljava/lang/StringBuilder;"), (0, .methodref 17 27), (0, .nameAndType 28 29), (0, u "toString"), (0, u "()Ljava/lang/String;"), (43, u "(Ljava/lang/String;I)V"), (33, .string 108), (0, u ":"), (0, .methodref 17 110), (0, .nameAndType 24 111), (0, u "(I)Ljava/lang/StringBuilder;"), (10, u "HTTP_PORT"), (2, u "MAX_PORT")] 31

def k9c0 : Code := { maxStack := 2, maxLocals := 3, code := prog_3_method_1_code, exceptionTable := #[], attributes := #[] }
def k9m0 : Method := { name := "<init>", desc := "(Ljava/lang/String;I)V", sig := { parameters := [(.object "java/lang/String"), .int], returnType := none }, accessFlags := 0, code := some k9c0 }
def k9c1 : Code := { maxStack := 2, maxLocals := 1, code := prog_3_method_6_code, exceptionTable := #[], attributes := #[] }
def k9m1 : Method := { name := "toString", desc := "()Ljava/lang/String;", sig := { parameters := [], returnType := some (.object "java/lang/String") }, accessFlags := 1, code := some k9c1 }
/-- com/example/twinshore/twinshore/HostPort -/
def k9 : Class := { plain "com/example/twinshore/twinshore/HostPort" (some 8) with
  accessFlags := 48
  interfaces := #[]
  cf := some (fileOf pool9 8 #[] #[{ accessFlags := 0, nameIndex := 5, descriptorIndex := 73, attributes := #[] }, { accessFlags := 1, nameIndex := 28, descriptorIndex := 29, attributes := #[] }] 48 2 #[] #[{ accessFlags := 18, nameIndex := 11, descriptorIndex := 12, attributes := #[] }, { accessFlags := 18, nameIndex := 15, descriptorIndex := 16, attributes := #[] }, { accessFlags := 26, nameIndex := 122, descriptorIndex := 16, attributes := #[] }, { accessFlags := 26, nameIndex := 125, descriptorIndex := 16, attributes := #[] }])
  fields := #[{ name := "host", type := (.object "java/lang/String"), accessFlags := 18, slot := 0, constantValue := 0 }, { name := "port", type := .int, accessFlags := 18, slot := 1, constantValue := 0 }, { name := "HTTP_PORT", type := .int, accessFlags := 26, slot := 0, constantValue := 0 }, { name := "MAX_PORT", type := .int, accessFlags := 26, slot := 1, constantValue := 0 }]
  methods := #[k9m0, k9m1]
  instanceTypes := #[(.object "java/lang/String"), .int]
  staticTypes := #[.int, .int]
  resolved := Array.replicate 157 none
  statics := none }

def pool10 : Array CpInfo := pool [(1, .class_ 2), (0, u "java/lang/Appendable"), (0, .class_ 4), (0, u "java/lang/Object")] 9

/-- java/lang/Appendable -/
def k10 : Class := { plain "java/lang/Appendable" (some 0) with
  accessFlags := 1537
  interfaces := #[]
  cf := some (fileOf pool10 1 #[] #[] 1537 3 #[] #[])
  fields := #[]
  methods := #[]
  instanceTypes := #[]
  staticTypes := #[]
  resolved := Array.replicate 14 none
  statics := none }

def pool11 : Array CpInfo := pool [(1, .class_ 2), (0, u "java/lang/String"), (0, .methodref 4 5), (0, .class_ 6), (0, .nameAndType 7 8), (0, u "java/lang/Object"), (0, u "<init>"), (0, u "()V"), (1, .class_ 12), (1, u "java/lang/AbstractStringBuilder"), (0, u "EMPTYVALUE"), (0, u "[B"), (0, .fieldref 10 16), (0, .nameAndType 17 14), (0, u "value"), (0, .fieldref 1 19), (0, .nameAndType 20 21), (0, u "COMPACT_STRINGS"), (0, u "Z"), (0, .fieldref 10 23), (0, .nameAndType 24 25), (0, u "coder"), (0, u "B"), (6, .methodref 1 33), (0, .nameAndType 34 35), (0, u "length"), (0, u "()I"), (0, .class_ 37), (0, u "java/lang/Integer"), (2, .methodref 1 41), (0, .nameAndType 24 42), (0, u "()B"), (2, u "append"), (0, u "(Ljava/lang/String;)Ljava/lang/AbstractStringBuilder;"), (1, .class_ 49), (0, u "java/lang/CharSequence"), (19, u "(Ljava/lang/String;)V"), (5, u "maybeLatin1"), (3, .fieldref 10 80), (0, .nameAndType 81 82), (0, u "count"), (0, u "I"), (0, .methodref 10 84), (0, .nameAndType 85 86), (0, u "isLatin1"), (0, u "()Z"), (13, .methodref 10 101), (0, .nameAndType 102 103), (0, u "ensureCapacityInternal"), (0, u "(I)V"), (3, u "(I)I"), (80, u "getChars"), (19, .methodref 10 209), (0, .nameAndType 210 211), (0, u "putStringAt"), (0, u "(ILjava/lang/String;)V"), (5, u "inflateIfNeededFor"), (2, .nameAndType 221 222), (0, u "getBytes"), (0, u "([BIB)V"), (22, .methodref 36 246), (0, .nameAndType 247 107), (0, u "stringSize"), (0, .methodref 36 249), (0, .nameAndType 188 250), (0, u "(II[B)I"), (146, .methodref 10 398), (0, .nameAndType 217 69), (0, .methodref 1 220), (3, u "()[B"), (40, .class_ 445), (0, u "java/lang/Appendable"), (65, u "(I)Ljava/lang/AbstractStringBuilder;"), (40, u "getValue")] 56

def k11m0 : Method := { name := "<init>", desc := "()V", sig := { parameters := [], returnType := none }, accessFlags := 0, code := none }
def k11c1 : Code := { maxStack := 2, maxLocals := 2, code := jdk_68_method_2_code, exceptionTable := #[], attributes := #[] }
def k11m1 : Method := { name := "<init>", desc := "(I)V", sig := { parameters := [.int], returnType := none }, accessFlags := 0, code := some k11c1 }
def k11c2 : Code := { maxStack := 1, maxLocals := 1, code := jdk_68_method_6_code, exceptionTable := #[], attributes := #[] }
def k11m2 : Method := { name := "length", desc := "()I", sig := { parameters := [], returnType := some .int }, accessFlags := 1, code := some k11c2 }
def k11c3 : Code := { maxStack := 4, maxLocals := 3, code := jdk_68_method_9_code, exceptionTable := #[], attributes := #[] }
def k11m3 : Method := { name := "ensureCapacityInternal", desc := "(I)V", sig := { parameters := [.int], returnType := none }, accessFlags := 2, code := some k11c3 }
def k11c4 : Code := { maxStack := 3, maxLocals := 3, code := jdk_68_method_22_code, exceptionTable := #[], attributes := #[] }
def k11m4 : Method := { name := "append", desc := "(Ljava/lang/String;)Ljava/lang/AbstractStringBuilder;", sig := { parameters := [(.object "java/lang/String")], returnType := some (.object "java/lang/AbstractStringBuilder") }, accessFlags := 1, code := some k11c4 }
def k11c5 : Code := { maxStack := 4, maxLocals := 4, code := jdk_68_method_32_code, exceptionTable := #[], attributes := #[] }
def k11m5 : Method := { name := "append", desc := "(I)Ljava/lang/AbstractStringBuilder;", sig := { parameters := [.int], returnType := some (.object "java/lang/AbstractStringBuilder") }, accessFlags := 1, code := some k11c5 }
def k11c6 : Code := { maxStack := 1, maxLocals := 1, code := jdk_68_method_64_code, exceptionTable := #[], attributes := #[] }
def k11m6 : Method := { name := "getValue", desc := "()[B", sig := { parameters := [], returnType := some (.array .byte) }, accessFlags := 16, code := some k11c6 }
def k11c7 : Code := { maxStack := 1, maxLocals := 1, code := jdk_68_method_68_code, exceptionTable := #[], attributes := #[] }
def k11m7 : Method := { name := "isLatin1", desc := "()Z", sig := { parameters := [], returnType := some .boolean }, accessFlags := 16, code := some k11c7 }
def k11c8 : Code := { maxStack := 2, maxLocals := 2, code := jdk_68_method_71_code, exceptionTable := #[], attributes := #[] }
def k11m8 : Method := { name := "inflateIfNeededFor", desc := "(Ljava/lang/String;)V", sig := { parameters := [(.object "java/lang/String")], returnType := none }, accessFlags := 2, code := some k11c8 }
def k11c9 : Code := { maxStack := 4, maxLocals := 3, code := jdk_68_method_73_code, exceptionTable := #[], attributes := #[] }
def k11m9 : Method := { name := "putStringAt", desc := "(ILjava/lang/String;)V", sig := { parameters := [.int, (.object "java/lang/String")], returnType := none }, accessFlags := 2, code := some k11c9 }
/-- java/lang/AbstractStringBuilder -/
def k11 : Class := { plain "java/lang/AbstractStringBuilder" (some 0) with
  accessFlags := 1056
  interfaces := #[10, 4]
  cf := some (fileOf pool11 10 #[] #[{ accessFlags := 0, nameIndex := 7, descriptorIndex := 8, attributes := #[] }, { accessFlags := 0, nameIndex := 7, descriptorIndex := 103, attributes := #[] }, { accessFlags := 1, nameIndex := 34, descriptorIndex := 35, attributes := #[] }, { accessFlags := 2, nameIndex := 102, descriptorIndex := 103, attributes := #[] }, { accessFlags := 1, nameIndex := 45, descriptorIndex := 46, attributes := #[] }, { accessFlags := 1, nameIndex := 45, descriptorIndex := 511, attributes := #[] }, { accessFlags := 16, nameIndex := 552, descriptorIndex := 403, attributes := #[] }, { accessFlags := 16, nameIndex := 85, descriptorIndex := 86, attributes := #[] }, { accessFlags := 2, nameIndex := 217, descriptorIndex := 69, attributes := #[] }, { accessFlags := 2, nameIndex := 210, descriptorIndex := 211, attributes := #[] }] 1056 4 #[444, 48] #[{ accessFlags := 0, nameIndex := 17, descriptorIndex := 14, attributes := #[] }, { accessFlags := 0, nameIndex := 24, descriptorIndex := 25, attributes := #[] }, { accessFlags := 0, nameIndex := 75, descriptorIndex := 21, attributes := #[] }, { accessFlags := 0, nameIndex := 81, descriptorIndex := 82, attributes := #[] }, { accessFlags := 26, nameIndex := 13, descriptorIndex := 14, attributes := #[] }])
  fields := #[{ name := "value", type := (.array .byte), accessFlags := 0, slot := 0, constantValue := 0 }, { name := "coder", type := .byte, accessFlags := 0, slot := 1, constantValue := 0 }, { name := "maybeLatin1", type := .boolean, accessFlags := 0, slot := 2, constantValue := 0 }, { name := "count", type := .int, accessFlags := 0, slot := 3, constantValue := 0 }, { name := "EMPTYVALUE", type := (.array .byte), accessFlags := 26, slot := 0, constantValue := 0 }]
  methods := #[k11m0, k11m1, k11m2, k11m3, k11m4, k11m5, k11m6, k11m7, k11m8, k11m9]
  instanceTypes := #[(.array .byte), .byte, .boolean, .int]
  staticTypes := #[(.array .byte)]
  resolved := Array.replicate 609 none
  statics := none }

def pool12 : Array CpInfo := pool [(1, .methodref 2 3), (0, .class_ 4), (0, .nameAndType 5 6), (0, u "java/lang/AbstractStringBuilder"), (0, u "<init>"), (0, u "(I)V"), (11, .class_ 20), (1, u "java/lang/String"), (3, .class_ 26), (1, u "java/lang/StringBuilder"), (0, u "append"), (0, u "(Ljava/lang/String;)Ljava/lang/StringBuilder;"), (0, .methodref 2 30), (0, .nameAndType 27 31), (0, u "(Ljava/lang/String;)Ljava/lang/AbstractStringBuilder;"), (21, .methodref 2 54), (0, .nameAndType 27 55), (0, u "(I)Ljava/lang/AbstractStringBuilder;"), (81, .methodref 18 138), (0, .nameAndType 5 139), (0, u "(Ljava/lang/StringBuilder;)V"), (5, u "()V"), (10, u "()I"), (111, u "(I)Ljava/lang/StringBuilder;"), (74, .methodref 2 344), (0, .nameAndType 345 156), (0, u "length"), (3, .class_ 350), (0, u "java/lang/Appendable"), (0, .class_ 352), (0, u "java/io/Serializable"), (0, .class_ 354), (0, u "java/lang/Comparable"), (0, .class_ 356), (0, u "java/lang/CharSequence"), (0, u "serialVersionUID"), (0, u "J"), (40, u "toString"), (0, u "()Ljava/lang/String;")] 21

def k12c0 : Code := { maxStack := 2, maxLocals := 1, code := jdk_67_method_1_code, exceptionTable := #[], attributes := #[] }
def k12m0 : Method := { name := "<init>", desc := "()V", sig := { parameters := [], returnType := none }, accessFlags := 1, code := some k12c0 }
def k12c1 : Code := { maxStack := 2, maxLocals := 2, code := jdk_67_method_7_code, exceptionTable := #[], attributes := #[] }
def k12m1 : Method := { name := "append", desc := "(Ljava/lang/String;)Ljava/lang/StringBuilder;", sig := { parameters := [(.object "java/lang/String")], returnType := some (.object "java/lang/StringBuilder") }, accessFlags := 1, code := some k12c1 }
def k12c2 : Code := { maxStack := 2, maxLocals := 2, code := jdk_67_method_15_code, exceptionTable := #[], attributes := #[] }
def k12m2 : Method := { name := "append", desc := "(I)Ljava/lang/StringBuilder;", sig := { parameters := [.int], returnType := some (.object "java/lang/StringBuilder") }, accessFlags := 1, code := some k12c2 }
def k12c3 : Code := { maxStack := 3, maxLocals := 1, code := jdk_67_method_42_code, exceptionTable := #[], attributes := #[] }
def k12m3 : Method := { name := "toString", desc := "()Ljava/lang/String;", sig := { parameters := [], returnType := some (.object "java/lang/String") }, accessFlags := 1, code := some k12c3 }
def k12c4 : Code := { maxStack := 1, maxLocals := 1, code := jdk_67_method_93_code, exceptionTable := #[], attributes := #[] }
def k12m4 : Method := { name := "length", desc := "()I", sig := { parameters := [], returnType := some .int }, accessFlags := 4161, code := some k12c4 }
/-- java/lang/StringBuilder -/
def k12 : Class := { plain "java/lang/StringBuilder" (some 11) with
  accessFlags := 49
  interfaces := #[10, 2, 3, 4]
  cf := some (fileOf pool12 24 #[] #[{ accessFlags := 1, nameIndex := 5, descriptorIndex := 145, attributes := #[] }, { accessFlags := 1, nameIndex := 27, descriptorIndex := 28, attributes := #[] }, { accessFlags := 1, nameIndex := 27, descriptorIndex := 268, attributes := #[] }, { accessFlags := 1, nameIndex := 399, descriptorIndex := 400, attributes := #[] }, { accessFlags := 4161, nameIndex := 345, descriptorIndex := 156, attributes := #[] }] 49 2 #[349, 351, 353, 355] #[{ accessFlags := 24, nameIndex := 357, descriptorIndex := 358, attributes := #[] }])
  fields := #[{ name := "serialVersionUID", type := .long, accessFlags := 24, slot := 0, constantValue := 0 }]
  methods := #[k12m0, k12m1, k12m2, k12m3, k12m4]
  instanceTypes := #[(.array .byte), .byte, .boolean, .int]
  staticTypes := #[.long]
  resolved := Array.replicate 422 none
  statics := none }

def pool13 : Array CpInfo := pool [(2, .class_ 4), (1, u "java/lang/Object"), (0, u "<init>"), (0, u "()V"), (1, .class_ 10), (1, u "java/lang/System"), (0, u "allowSecurityManager"), (0, u "I"), (16, u "cons"), (0, u "Ljava/io/Console;"), (77, .class_ 110), (1, u "java/lang/System$CallersHolder"), (43, u "initialErrStream"), (0, u "Ljava/io/PrintStream;"), (19, u "security"), (0, u "Ljava/lang/SecurityManager;"), (31, .class_ 209), (0, u "java/lang/System$1"), (7, u "props"), (0, u "Ljava/util/Properties;"), (2, u "lineSeparator"), (0, u "Ljava/lang/String;"), (96, .class_ 321), (1, u "java/lang/System$LoggerFinder"), (5, .class_ 328), (0, u "java/lang/System$Logger"), (67, u "err"), (2, u "out"), (91, u "notSupportedJnuEncoding"), (15, u "in"), (17, u "initialIn"), (0, u "Ljava/io/InputStream;"), (35, u "bootLayer"), (0, u "Ljava/lang/ModuleLayer;"), (99, .class_ 664), (0, u "java/lang/System$2"), (9, u "NEVER"), (2, u "MAYBE"), (49, u "arraycopy"), (0, u "(Ljava/lang/Object;ILjava/lang/Object;II)V"), (72, .class_ 802), (0, u "java/lang/System$Logger$Level")] 31

def k13m0 : Method := { name := "<init>", desc := "()V", sig := { parameters := [], returnType := none }, accessFlags := 2, code := none }
def k13m1 : Method := { name := "arraycopy", desc := "(Ljava/lang/Object;ILjava/lang/Object;II)V", sig := { parameters := [(.object "java/lang/Object"), .int, (.object "java/lang/Object"), .int, .int], returnType := none }, accessFlags := 265, code := none }
/-- java/lang/System -/
def k13 : Class := { plain "java/lang/System" (some 0) with
  accessFlags := 49
  interfaces := #[]
  cf := some (fileOf pool13 8 #[.nestMembers #[319, 327, 801, 108, 663, 208]] #[{ accessFlags := 2, nameIndex := 5, descriptorIndex := 6, attributes := #[] }, { accessFlags := 265, nameIndex := 727, descriptorIndex := 728, attributes := #[] }] 49 2 #[] #[{ accessFlags := 25, nameIndex := 507, descriptorIndex := 526, attributes := #[] }, { accessFlags := 25, nameIndex := 399, descriptorIndex := 155, attributes := #[] }, { accessFlags := 25, nameIndex := 396, descriptorIndex := 155, attributes := #[] }, { accessFlags := 10, nameIndex := 525, descriptorIndex := 526, attributes := #[] }, { accessFlags := 26, nameIndex := 674, descriptorIndex := 12, attributes := #[] }, { accessFlags := 26, nameIndex := 677, descriptorIndex := 12, attributes := #[] }, { accessFlags := 10, nameIndex := 11, descriptorIndex := 12, attributes := #[] }, { accessFlags := 74, nameIndex := 175, descriptorIndex := 176, attributes := #[] }, { accessFlags := 10, nameIndex := 491, descriptorIndex := 222, attributes := #[] }, { accessFlags := 74, nameIndex := 29, descriptorIndex := 30, attributes := #[] }, { accessFlags := 74, nameIndex := 154, descriptorIndex := 155, attributes := #[] }, { accessFlags := 10, nameIndex := 217, descriptorIndex := 218, attributes := #[] }, { accessFlags := 10, nameIndex := 221, descriptorIndex := 222, attributes := #[] }, { accessFlags := 8, nameIndex := 562, descriptorIndex := 563, attributes := #[] }])
  fields := #[{ name := "in", type := (.object "java/io/InputStream"), accessFlags := 25, slot := 0, constantValue := 0 }, { name := "out", type := (.object "java/io/PrintStream"), accessFlags := 25, slot := 1, constantValue := 0 }, { name := "err", type := (.object "java/io/PrintStream"), accessFlags := 25, slot := 2, constantValue := 0 }, { name := "initialIn", type := (.object "java/io/InputStream"), accessFlags := 10, slot := 3, constantValue := 0 }, { name := "NEVER", type := .int, accessFlags := 26, slot := 4, constantValue := 0 }, { name := "MAYBE", type := .int, accessFlags := 26, slot := 5, constantValue := 0 }, { name := "allowSecurityManager", type := .int, accessFlags := 10, slot := 6, constantValue := 0 }, { name := "security", type := (.object "java/lang/SecurityManager"), accessFlags := 74, slot := 7, constantValue := 0 }, { name := "notSupportedJnuEncoding", type := (.object "java/lang/String"), accessFlags := 10, slot := 8, constantValue := 0 }, { name := "cons", type := (.object "java/io/Console"), accessFlags := 74, slot := 9, constantValue := 0 }, { name := "initialErrStream", type := (.object "java/io/PrintStream"), accessFlags := 74, slot := 10, constantValue := 0 }, { name := "props", type := (.object "java/util/Properties"), accessFlags := 10, slot := 11, constantValue := 0 }, { name := "lineSeparator", type := (.object "java/lang/String"), accessFlags := 10, slot := 12, constantValue := 0 }, { name := "bootLayer", type := (.object "java/lang/ModuleLayer"), accessFlags := 8, slot := 13, constantValue := 0 }]
  methods := #[k13m0, k13m1]
  instanceTypes := #[]
  staticTypes := #[(.object "java/io/InputStream"), (.object "java/io/PrintStream"), (.object "java/io/PrintStream"), (.object "java/io/InputStream"), .int, .int, .int, (.object "java/lang/SecurityManager"), (.object "java/lang/String"), (.object "java/io/Console"), (.object "java/io/PrintStream"), (.object "java/util/Properties"), (.object "java/lang/String"), (.object "java/lang/ModuleLayer")]
  resolved := Array.replicate 834 none
  statics := none }

def pool14 : Array CpInfo := pool [(2, .class_ 4), (1, u "java/lang/Object"), (0, u "<init>"), (0, u "()V"), (1, .class_ 10), (1, u "java/lang/Number"), (2, .class_ 14), (0, u "java/io/Serializable"), (0, u "serialVersionUID"), (0, u "J")] 20

def k14m0 : Method := { name := "<init>", desc := "()V", sig := { parameters := [], returnType := none }, accessFlags := 1, code := none }
/-- java/lang/Number -/
def k14 : Class := { plain "java/lang/Number" (some 0) with
  accessFlags := 1057
  interfaces := #[2]
  cf := some (fileOf pool14 8 #[] #[{ accessFlags := 1, nameIndex := 5, descriptorIndex := 6, attributes := #[] }] 1057 2 #[13] #[{ accessFlags := 26, nameIndex := 15, descriptorIndex := 16, attributes := #[] }])
  fields := #[{ name := "serialVersionUID", type := .long, accessFlags := 26, slot := 0, constantValue := 0 }]
  methods := #[k14m0]
  instanceTypes := #[]
  staticTypes := #[.long]
  resolved := Array.replicate 37 none
  statics := none }

def pool15 : Array CpInfo := pool [(1, .class_ 2), (0, u "java/lang/Integer"), (16, u "digits"), (0, u "[C"), (33, u "(I)I"), (19, u "stringSize"), (2, u "getChars"), (0, u "(II[B)I"), (4, .fieldref 1 84), (0, .nameAndType 85 86), (0, u "DigitOnes"), (0, u "[B"), (0, .fieldref 1 88), (0, .nameAndType 89 86), (0, u "DigitTens"), (99, .class_ 190), (0, u "java/lang/Integer$IntegerCache"), (3, u "I"), (8, .class_ 204), (0, u "java/lang/Number"), (2, u "value"), (94, u "TYPE"), (0, u "Ljava/lang/Class;"), (0, .class_ 305), (0, u "java/lang/Comparable"), (0, .class_ 307), (0, u "java/lang/constant/Constable"), (0, .class_ 309), (0, u "java/lang/constant/ConstantDesc"), (0, u "MIN_VALUE"), (1, u "MAX_VALUE"), (3, u "SIZE"), (1, u "BYTES"), (1, u "serialVersionUID"), (0, u "J")] 131

def k15c0 : Code := { maxStack := 4, maxLocals := 7, code := jdk_33_method_12_code, exceptionTable := #[], attributes := #[] }
def k15m0 : Method := { name := "getChars", desc := "(II[B)I", sig := { parameters := [.int, .int, (.array .byte)], returnType := some .int }, accessFlags := 8, code := some k15c0 }
def k15c1 : Code := { maxStack := 2, maxLocals := 4, code := jdk_33_method_13_code, exceptionTable := #[], attributes := #[] }
def k15m1 : Method := { name := "stringSize", desc := "(I)I", sig := { parameters := [.int], returnType := some .int }, accessFlags := 8, code := some k15c1 }
/-- java/lang/Integer -/
def k15 : Class := { plain "java/lang/Integer" (some 14) with
  accessFlags := 49
  interfaces := #[3, 5, 6]
  cf := some (fileOf pool15 1 #[.nestMembers #[189]] #[{ accessFlags := 8, nameIndex := 77, descriptorIndex := 78, attributes := #[] }, { accessFlags := 8, nameIndex := 74, descriptorIndex := 54, attributes := #[] }] 49 203 #[304, 306, 308] #[{ accessFlags := 25, nameIndex := 310, descriptorIndex := 194, attributes := #[] }, { accessFlags := 25, nameIndex := 312, descriptorIndex := 194, attributes := #[] }, { accessFlags := 25, nameIndex := 302, descriptorIndex := 303, attributes := #[] }, { accessFlags := 24, nameIndex := 19, descriptorIndex := 20, attributes := #[] }, { accessFlags := 24, nameIndex := 89, descriptorIndex := 86, attributes := #[] }, { accessFlags := 24, nameIndex := 85, descriptorIndex := 86, attributes := #[] }, { accessFlags := 18, nameIndex := 207, descriptorIndex := 194, attributes := #[] }, { accessFlags := 25, nameIndex := 316, descriptorIndex := 194, attributes := #[] }, { accessFlags := 25, nameIndex := 318, descriptorIndex := 194, attributes := #[] }, { accessFlags := 26, nameIndex := 320, descriptorIndex := 321, attributes := #[] }])
  fields := #[{ name := "MIN_VALUE", type := .int, accessFlags := 25, slot := 0, constantValue := 0 }, { name := "MAX_VALUE", type := .int, accessFlags := 25, slot := 1, constantValue := 0 }, { name := "TYPE", type := (.object "java/lang/Class"), accessFlags := 25, slot := 2, constantValue := 0 }, { name := "digits", type := (.array .char), accessFlags := 24, slot := 3, constantValue := 0 }, { name := "DigitTens", type := (.array .byte), accessFlags := 24, slot := 4, constantValue := 0 }, { name := "DigitOnes", type := (.array .byte), accessFlags := 24, slot := 5, constantValue := 0 }, { name := "value", type := .int, accessFlags := 18, slot := 0, constantValue := 0 }, { name := "SIZE", type := .int, accessFlags := 25, slot := 6, constantValue := 0 }, { name := "BYTES", type := .int, accessFlags := 25, slot := 7, constantValue := 0 }, { name := "serialVersionUID", type := .long, accessFlags := 26, slot := 8, constantValue := 0 }]
  methods := #[k15m0, k15m1]
  instanceTypes := #[.int]
  staticTypes := #[.int, .int, (.object "java/lang/Class"), (.array .char), (.array .byte), (.array .byte), .int, .int, .long]
  resolved := Array.replicate 453 none
  statics := some 1 }

def pool16 : Array CpInfo := pool [(2, .class_ 4), (1, u "java/lang/Object"), (0, u "<init>"), (0, u "()V"), (7, .class_ 16), (1, u "java/util/Arrays"), (57, .class_ 76), (1, u "java/util/Arrays$NaturalOrder"), (36, .class_ 115), (1, u "java/util/Arrays$LegacyMergeSort"), (1, u "Z"), (21, u "copyOfRange"), (10, .methodref 151 152), (0, .class_ 153), (0, .nameAndType 154 155), (0, u "java/lang/System"), (0, u "arraycopy"), (0, u "(Ljava/lang/Object;ILjava/lang/Object;II)V"), (148, .methodref 305 306), (0, .class_ 307), (0, .nameAndType 308 309), (0, u "java/lang/Math"), (0, u "min"), (0, u "(II)I"), (29, .methodref 14 340), (0, .nameAndType 341 342), (0, u "copyOfRangeByte"), (0, u "([BII)[B"), (0, .methodref 14 344), (0, .nameAndType 345 346), (0, u "checkLength"), (0, u "(II)V"), (28, .class_ 376), (0, u "java/util/Arrays$ArrayList"), (68, u "$assertionsDisabled"), (269, u "MIN_ARRAY_SORT_GRAN"), (0, u "I"), (2, u "INSERTIONSORT_THRESHOLD"), (255, .class_ 976), (0, u "java/util/Arrays$ArrayItr")] 52

def k16m0 : Method := { name := "<init>", desc := "()V", sig := { parameters := [], returnType := none }, accessFlags := 2, code := none }
def k16c1 : Code := { maxStack := 4, maxLocals := 2, code := jdk_65_method_131_code, exceptionTable := #[], attributes := #[] }
def k16m1 : Method := { name := "checkLength", desc := "(II)V", sig := { parameters := [.int, .int], returnType := none }, accessFlags := 10, code := some k16c1 }
def k16c2 : Code := { maxStack := 3, maxLocals := 3, code := jdk_65_method_132_code, exceptionTable := #[], attributes := #[] }
def k16m2 : Method := { name := "copyOfRange", desc := "([BII)[B", sig := { parameters := [(.array .byte), .int, .int], returnType := some (.array .byte) }, accessFlags := 9, code := some k16c2 }
def k16c3 : Code := { maxStack := 6, maxLocals := 5, code := jdk_65_method_133_code, exceptionTable := #[], attributes := #[] }
def k16m3 : Method := { name := "copyOfRangeByte", desc := "([BII)[B", sig := { parameters := [(.array .byte), .int, .int], returnType := some (.array .byte) }, accessFlags := 10, code := some k16c3 }
/-- java/util/Arrays -/
def k16 : Class := { plain "java/util/Arrays" (some 0) with
  accessFlags := 49
  interfaces := #[]
  cf := some (fileOf pool16 14 #[.nestMembers #[975, 375, 113, 74]] #[{ accessFlags := 2, nameIndex := 5, descriptorIndex := 6, attributes := #[] }, { accessFlags := 10, nameIndex := 345, descriptorIndex := 346, attributes := #[] }, { accessFlags := 9, nameIndex := 139, descriptorIndex := 342, attributes := #[] }, { accessFlags := 10, nameIndex := 341, descriptorIndex := 342, attributes := #[] }] 49 2 #[] #[{ accessFlags := 26, nameIndex := 715, descriptorIndex := 716, attributes := #[] }, { accessFlags := 26, nameIndex := 719, descriptorIndex := 716, attributes := #[] }, { accessFlags := 4120, nameIndex := 445, descriptorIndex := 117, attributes := #[] }])
  fields := #[{ name := "MIN_ARRAY_SORT_GRAN", type := .int, accessFlags := 26, slot := 0, constantValue := 0 }, { name := "INSERTIONSORT_THRESHOLD", type := .int, accessFlags := 26, slot := 1, constantValue := 0 }, { name := "$assertionsDisabled", type := .boolean, accessFlags := 4120, slot := 2, constantValue := 0 }]
  methods := #[k16m0, k16m1, k16m2, k16m3]
  instanceTypes := #[]
  staticTypes := #[.int, .int, .boolean]
  resolved := Array.replicate 1029 none
  statics := none }

def pool17 : Array CpInfo := pool [(1, .class_ 2), (0, u "java/lang/Math"), (1, .class_ 6), (1, u "java/lang/Object"), (0, u "<init>"), (0, u "()V"), (89, .class_ 100), (1, u "java/lang/Math$RandomNumberGeneratorHolder"), (71, u "negativeZeroFloatBits"), (0, u "J"), (2, u "negativeZeroDoubleBits"), (24, u "min"), (43, u "$assertionsDisabled"), (0, u "Z"), (88, u "(II)I"), (2, u "twoToTheDoubleScaleDown"), (0, u "D"), (4, u "twoToTheDoubleScaleUp"), (9, u "E"), (3, u "PI"), (2, u "TAU"), (2, u "DEGREES_TO_RADIANS"), (0, u "RADIANS_TO_DEGREES")] 94

def k17m0 : Method := { name := "<init>", desc := "()V", sig := { parameters := [], returnType := none }, accessFlags := 2, code := none }
def k17c1 : Code := { maxStack := 2, maxLocals := 2, code := jdk_29_method_69_code, exceptionTable := #[], attributes := #[] }
def k17m1 : Method := { name := "min", desc := "(II)I", sig := { parameters := [.int, .int], returnType := some .int }, accessFlags := 9, code := some k17c1 }
/-- java/lang/Math -/
def k17 : Class := { plain "java/lang/Math" (some 0) with
  accessFlags := 49
  interfaces := #[]
  cf := some (fileOf pool17 1 #[.nestMembers #[98]] #[{ accessFlags := 2, nameIndex := 7, descriptorIndex := 8, attributes := #[] }, { accessFlags := 9, nameIndex := 201, descriptorIndex := 335, attributes := #[] }] 49 4 #[] #[{ accessFlags := 25, nameIndex := 354, descriptorIndex := 339, attributes := #[] }, { accessFlags := 25, nameIndex := 358, descriptorIndex := 339, attributes := #[] }, { accessFlags := 25, nameIndex := 361, descriptorIndex := 339, attributes := #[] }, { accessFlags := 26, nameIndex := 364, descriptorIndex := 339, attributes := #[] }, { accessFlags := 26, nameIndex := 365, descriptorIndex := 339, attributes := #[] }, { accessFlags := 26, nameIndex := 172, descriptorIndex := 173, attributes := #[] }, { accessFlags := 26, nameIndex := 176, descriptorIndex := 173, attributes := #[] }, { accessFlags := 8, nameIndex := 344, descriptorIndex := 339, attributes := #[] }, { accessFlags := 8, nameIndex := 338, descriptorIndex := 339, attributes := #[] }, { accessFlags := 4120, nameIndex := 245, descriptorIndex := 246, attributes := #[] }])
  fields := #[{ name := "E", type := .double, accessFlags := 25, slot := 0, constantValue := 0 }, { name := "PI", type := .double, accessFlags := 25, slot := 1, constantValue := 0 }, { name := "TAU", type := .double, accessFlags := 25, slot := 2, constantValue := 0 }, { name := "DEGREES_TO_RADIANS", type := .double, accessFlags := 26, slot := 3, constantValue := 0 }, { name := "RADIANS_TO_DEGREES", type := .double, accessFlags := 26, slot := 4, constantValue := 0 }, { name := "negativeZeroFloatBits", type := .long, accessFlags := 26, slot := 5, constantValue := 0 }, { name := "negativeZeroDoubleBits", type := .long, accessFlags := 26, slot := 6, constantValue := 0 }, { name := "twoToTheDoubleScaleUp", type := .double, accessFlags := 8, slot := 7, constantValue := 0 }, { name := "twoToTheDoubleScaleDown", type := .double, accessFlags := 8, slot := 8, constantValue := 0 }, { name := "$assertionsDisabled", type := .boolean, accessFlags := 4120, slot := 9, constantValue := 0 }]
  methods := #[k17m0, k17m1]
  instanceTypes := #[]
  staticTypes := #[.double, .double, .double, .double, .double, .long, .long, .double, .double, .boolean]
  resolved := Array.replicate 460 none
  statics := none }

def pool18 : Array CpInfo := pool [(1, .class_ 2), (0, u "java/lang/String"), (1, .class_ 6), (1, u "java/lang/Object"), (0, u "<init>"), (0, u "()V"), (0, .methodref 1 10), (0, .nameAndType 11 12), (0, u "checkIndex"), (0, u "(II)V"), (1, .class_ 16), (1, u "java/lang/StringLatin1"), (36, u "([BI)C"), (36, u "canEncode"), (14, u "(C)Z"), (15, u "$assertionsDisabled"), (0, u "Z"), (98, .class_ 223), (1, u "java/lang/StringLatin1$LinesSpliterator"), (28, u "charAt"), (127, u "toBytes"), (1, u "(C)[B"), (7, .class_ 391), (0, u "java/lang/StringLatin1$CharsSpliterator")] 3

def k18m0 : Method := { name := "<init>", desc := "()V", sig := { parameters := [], returnType := none }, accessFlags := 0, code := none }
def k18c1 : Code := { maxStack := 2, maxLocals := 2, code := jdk_43_method_2_code, exceptionTable := #[], attributes := #[] }
def k18m1 : Method := { name := "charAt", desc := "([BI)C", sig := { parameters := [(.array .byte), .int], returnType := some .char }, accessFlags := 9, code := some k18c1 }
def k18c2 : Code := { maxStack := 2, maxLocals := 1, code := jdk_43_method_3_code, exceptionTable := #[], attributes := #[] }
def k18m2 : Method := { name := "canEncode", desc := "(C)Z", sig := { parameters := [.char], returnType := some .boolean }, accessFlags := 9, code := some k18c2 }
def k18c3 : Code := { maxStack := 4, maxLocals := 1, code := jdk_43_method_46_code, exceptionTable := #[], attributes := #[] }
def k18m3 : Method := { name := "toBytes", desc := "(C)[B", sig := { parameters := [.char], returnType := some (.array .byte) }, accessFlags := 9, code := some k18c3 }
/-- java/lang/StringLatin1 -/
def k18 : Class := { plain "java/lang/StringLatin1" (some 0) with
  accessFlags := 48
  interfaces := #[]
  cf := some (fileOf pool18 14 #[.nestMembers #[390, 221]] #[{ accessFlags := 0, nameIndex := 7, descriptorIndex := 8, attributes := #[] }, { accessFlags := 9, nameIndex := 252, descriptorIndex := 53, attributes := #[] }, { accessFlags := 9, nameIndex := 90, descriptorIndex := 105, attributes := #[] }, { accessFlags := 9, nameIndex := 380, descriptorIndex := 382, attributes := #[] }] 48 4 #[] #[{ accessFlags := 4120, nameIndex := 121, descriptorIndex := 122, attributes := #[] }])
  fields := #[{ name := "$assertionsDisabled", type := .boolean, accessFlags := 4120, slot := 0, constantValue := 0 }]
  methods := #[k18m0, k18m1, k18m2, k18m3]
  instanceTypes := #[]
  staticTypes := #[.boolean]
  resolved := Array.replicate 395 none
  statics := none }

def pool19 : Array CpInfo := pool [(2, .class_ 4), (1, u "java/lang/Object"), (0, u "<init>"), (0, u "()V"), (17, .class_ 26), (1, u "jdk/internal/util/Preconditions"), (6, u "checkIndex"), (21, .class_ 56), (0, u "jdk/internal/util/Preconditions$4"), (57, .class_ 115), (0, u "jdk/internal/util/Preconditions$1"), (7, u "SIOOBE_FORMATTER"), (0, u "Ljava/util/function/BiFunction;"), (0, .class_ 126), (0, u "jdk/internal/util/Preconditions$2"), (3, u "AIOOBE_FORMATTER"), (0, .class_ 132), (0, u "jdk/internal/util/Preconditions$3"), (3, u "IOOBE_FORMATTER"), (41, u "(IILjava/util/function/BiFunction;)I")] 15

def k19m0 : Method := { name := "<init>", desc := "()V", sig := { parameters := [], returnType := none }, accessFlags := 1, code := none }
def k19c1 : Code := { maxStack := 3, maxLocals := 3, code := jdk_41_method_11_code, exceptionTable := #[], attributes := #[] }
def k19m1 : Method := { name := "checkIndex", desc := "(IILjava/util/function/BiFunction;)I", sig := { parameters := [.int, .int, (.object "java/util/function/BiFunction")], returnType := some .int }, accessFlags := 9, code := some k19c1 }
/-- jdk/internal/util/Preconditions -/
def k19 : Class := { plain "jdk/internal/util/Preconditions" (some 0) with
  accessFlags := 33
  interfaces := #[]
  cf := some (fileOf pool19 24 #[.nestMembers #[55, 131, 125, 114]] #[{ accessFlags := 1, nameIndex := 5, descriptorIndex := 6, attributes := #[] }, { accessFlags := 9, nameIndex := 33, descriptorIndex := 178, attributes := #[] }] 33 2 #[] #[{ accessFlags := 25, nameIndex := 123, descriptorIndex := 124, attributes := #[] }, { accessFlags := 25, nameIndex := 130, descriptorIndex := 124, attributes := #[] }, { accessFlags := 25, nameIndex := 136, descriptorIndex := 124, attributes := #[] }])
  fields := #[{ name := "SIOOBE_FORMATTER", type := (.object "java/util/function/BiFunction"), accessFlags := 25, slot := 0, constantValue := 0 }, { name := "AIOOBE_FORMATTER", type := (.object "java/util/function/BiFunction"), accessFlags := 25, slot := 1, constantValue := 0 }, { name := "IOOBE_FORMATTER", type := (.object "java/util/function/BiFunction"), accessFlags := 25, slot := 2, constantValue := 0 }]
  methods := #[k19m0, k19m1]
  instanceTypes := #[]
  staticTypes := #[(.object "java/util/function/BiFunction"), (.object "java/util/function/BiFunction"), (.object "java/util/function/BiFunction")]
  resolved := Array.replicate 194 none
  statics := some 2 }

def pool20 : Array CpInfo := pool [(6, .class_ 8), (1, u "java/lang/Object"), (0, u "<init>"), (0, u "()V"), (1, .class_ 14), (1, u "java/lang/StringUTF16"), (31, u "$assertionsDisabled"), (0, u "Z"), (13, u "HI_BYTE_SHIFT"), (0, u "I"), (2, u "LO_BYTE_SHIFT"), (49, .methodref 12 116), (0, .nameAndType 117 118), (0, u "compress"), (0, u "([CI[BII)I"), (3, u "([CII)[B"), (138, u "coderFromArrayLen"), (0, u "([BI)B"), (106, .class_ 371), (1, u "java/lang/StringUTF16$LinesSpliterator"), (58, u "MAX_LENGTH"), (196, .class_ 628), (0, u "java/lang/StringUTF16$CodePointsSpliterator"), (0, .class_ 630), (0, u "java/lang/StringUTF16$CharsSpliterator")] 4

def k20m0 : Method := { name := "<init>", desc := "()V", sig := { parameters := [], returnType := none }, accessFlags := 0, code := none }
def k20c1 : Code := { maxStack := 2, maxLocals := 2, code := jdk_52_method_15_code, exceptionTable := #[], attributes := #[] }
def k20m1 : Method := { name := "coderFromArrayLen", desc := "([BI)B", sig := { parameters := [(.array .byte), .int], returnType := some .byte }, accessFlags := 8, code := some k20c1 }
def k20c2 : Code := { maxStack := 5, maxLocals := 6, code := jdk_52_method_16_code, exceptionTable := #[], attributes := #[] }
def k20m2 : Method := { name := "compress", desc := "([CII)[B", sig := { parameters := [(.array .char), .int, .int], returnType := some (.array .byte) }, accessFlags := 9, code := some k20c2 }
def k20c3 : Code := { maxStack := 3, maxLocals := 7, code := jdk_52_method_21_code, exceptionTable := #[], attributes := #[] }
def k20m3 : Method := { name := "compress", desc := "([CI[BII)I", sig := { parameters := [(.array .char), .int, (.array .byte), .int, .int], returnType := some .int }, accessFlags := 9, code := some k20c3 }
/-- java/lang/StringUTF16 -/
def k20 : Class := { plain "java/lang/StringUTF16" (some 0) with
  accessFlags := 48
  interfaces := #[]
  cf := some (fileOf pool20 12 #[.nestMembers #[627, 629, 369]] #[{ accessFlags := 0, nameIndex := 9, descriptorIndex := 10, attributes := #[] }, { accessFlags := 8, nameIndex := 261, descriptorIndex := 262, attributes := #[] }, { accessFlags := 9, nameIndex := 117, descriptorIndex := 122, attributes := #[] }, { accessFlags := 9, nameIndex := 117, descriptorIndex := 118, attributes := #[] }] 48 6 #[] #[{ accessFlags := 26, nameIndex := 61, descriptorIndex := 62, attributes := #[] }, { accessFlags := 26, nameIndex := 65, descriptorIndex := 62, attributes := #[] }, { accessFlags := 24, nameIndex := 430, descriptorIndex := 62, attributes := #[] }, { accessFlags := 4120, nameIndex := 46, descriptorIndex := 47, attributes := #[] }])
  fields := #[{ name := "HI_BYTE_SHIFT", type := .int, accessFlags := 26, slot := 0, constantValue := 0 }, { name := "LO_BYTE_SHIFT", type := .int, accessFlags := 26, slot := 1, constantValue := 0 }, { name := "MAX_LENGTH", type := .int, accessFlags := 24, slot := 2, constantValue := 0 }, { name := "$assertionsDisabled", type := .boolean, accessFlags := 4120, slot := 3, constantValue := 0 }]
  methods := #[k20m0, k20m1, k20m2, k20m3]
  instanceTypes := #[]
  staticTypes := #[.int, .int, .int, .boolean]
  resolved := Array.replicate 635 none
  statics := none }

def pool21 : Array CpInfo := pool [(9, u "<init>"), (6, .class_ 18), (1, u "java/lang/Object"), (0, u "()V"), (1, .class_ 23), (1, u "jdk/internal/util/ArraysSupport"), (0, u "LOG2_ARRAY_LONG_INDEX_SCALE"), (0, u "I"), (2, u "U"), (0, u "Ljdk/internal/misc/Unsafe;"), (8, u "BIG_ENDIAN"), (0, u "Z"), (8, u "LOG2_BYTE_BIT_SIZE"), (4, u "LOG2_ARRAY_INT_INDEX_SCALE"), (54, u "JLA"), (0, u "Ljdk/internal/access/JavaLangAccess;"), (11, u "LOG2_ARRAY_BOOLEAN_INDEX_SCALE"), (9, u "LOG2_ARRAY_BYTE_INDEX_SCALE"), (5, u "LOG2_ARRAY_CHAR_INDEX_SCALE"), (5, u "LOG2_ARRAY_SHORT_INDEX_SCALE"), (18, u "LOG2_ARRAY_FLOAT_INDEX_SCALE"), (24, u "LOG2_ARRAY_DOUBLE_INDEX_SCALE"), (89, u "T_BOOLEAN"), (2, u "T_CHAR"), (1, u "T_FLOAT"), (1, u "T_DOUBLE"), (1, u "T_BYTE"), (1, u "T_SHORT"), (1, u "T_INT"), (1, u "T_LONG"), (1, u "SOFT_MAX_ARRAY_LENGTH")] 83

def k21m0 : Method := { name := "<init>", desc := "()V", sig := { parameters := [], returnType := none }, accessFlags := 2, code := none }
/-- jdk/internal/util/ArraysSupport -/
def k21 : Class := { plain "jdk/internal/util/ArraysSupport" (some 0) with
  accessFlags := 33
  interfaces := #[]
  cf := some (fileOf pool21 21 #[] #[{ accessFlags := 2, nameIndex := 9, descriptorIndex := 19, attributes := #[] }] 33 16 #[] #[{ accessFlags := 24, nameIndex := 28, descriptorIndex := 29, attributes := #[] }, { accessFlags := 26, nameIndex := 38, descriptorIndex := 39, attributes := #[] }, { accessFlags := 25, nameIndex := 121, descriptorIndex := 25, attributes := #[] }, { accessFlags := 25, nameIndex := 131, descriptorIndex := 25, attributes := #[] }, { accessFlags := 25, nameIndex := 137, descriptorIndex := 25, attributes := #[] }, { accessFlags := 25, nameIndex := 143, descriptorIndex := 25, attributes := #[] }, { accessFlags := 25, nameIndex := 53, descriptorIndex := 25, attributes := #[] }, { accessFlags := 25, nameIndex := 24, descriptorIndex := 25, attributes := #[] }, { accessFlags := 25, nameIndex := 162, descriptorIndex := 25, attributes := #[] }, { accessFlags := 25, nameIndex := 187, descriptorIndex := 25, attributes := #[] }, { accessFlags := 26, nameIndex := 48, descriptorIndex := 25, attributes := #[] }, { accessFlags := 25, nameIndex := 277, descriptorIndex := 25, attributes := #[] }, { accessFlags := 25, nameIndex := 280, descriptorIndex := 25, attributes := #[] }, { accessFlags := 25, nameIndex := 282, descriptorIndex := 25, attributes := #[] }, { accessFlags := 25, nameIndex := 284, descriptorIndex := 25, attributes := #[] }, { accessFlags := 25, nameIndex := 286, descriptorIndex := 25, attributes := #[] }, { accessFlags := 25, nameIndex := 288, descriptorIndex := 25, attributes := #[] }, { accessFlags := 25, nameIndex := 290, descriptorIndex := 25, attributes := #[] }, { accessFlags := 25, nameIndex := 292, descriptorIndex := 25, attributes := #[] }, { accessFlags := 26, nameIndex := 108, descriptorIndex := 109, attributes := #[] }, { accessFlags := 25, nameIndex := 294, descriptorIndex := 25, attributes := #[] }])
  fields := #[{ name := "U", type := (.object "jdk/internal/misc/Unsafe"), accessFlags := 24, slot := 0, constantValue := 0 }, { name := "BIG_ENDIAN", type := .boolean, accessFlags := 26, slot := 1, constantValue := 0 }, { name := "LOG2_ARRAY_BOOLEAN_INDEX_SCALE", type := .int, accessFlags := 25, slot := 2, constantValue := 0 }, { name := "LOG2_ARRAY_BYTE_INDEX_SCALE", type := .int, accessFlags := 25, slot := 3, constantValue := 0 }, { name := "LOG2_ARRAY_CHAR_INDEX_SCALE", type := .int, accessFlags := 25, slot := 4, constantValue := 0 }, { name := "LOG2_ARRAY_SHORT_INDEX_SCALE", type := .int, accessFlags := 25, slot := 5, constantValue := 0 }, { name := "LOG2_ARRAY_INT_INDEX_SCALE", type := .int, accessFlags := 25, slot := 6, constantValue := 0 }, { name := "LOG2_ARRAY_LONG_INDEX_SCALE", type := .int, accessFlags := 25, slot := 7, constantValue := 0 }, { name := "LOG2_ARRAY_FLOAT_INDEX_SCALE", type := .int, accessFlags := 25, slot := 8, constantValue := 0 }, { name := "LOG2_ARRAY_DOUBLE_INDEX_SCALE", type := .int, accessFlags := 25, slot := 9, constantValue := 0 }, { name := "LOG2_BYTE_BIT_SIZE", type := .int, accessFlags := 26, slot := 10, constantValue := 0 }, { name := "T_BOOLEAN", type := .int, accessFlags := 25, slot := 11, constantValue := 0 }, { name := "T_CHAR", type := .int, accessFlags := 25, slot := 12, constantValue := 0 }, { name := "T_FLOAT", type := .int, accessFlags := 25, slot := 13, constantValue := 0 }, { name := "T_DOUBLE", type := .int, accessFlags := 25, slot := 14, constantValue := 0 }, { name := "T_BYTE", type := .int, accessFlags := 25, slot := 15, constantValue := 0 }, { name := "T_SHORT", type := .int, accessFlags := 25, slot := 16, constantValue := 0 }, { name := "T_INT", type := .int, accessFlags := 25, slot := 17, constantValue := 0 }, { name := "T_LONG", type := .int, accessFlags := 25, slot := 18, constantValue := 0 }, { name := "JLA", type := (.object "jdk/internal/access/JavaLangAccess"), accessFlags := 26, slot := 19, constantValue := 0 }, { name := "SOFT_MAX_ARRAY_LENGTH", type := .int, accessFlags := 25, slot := 20, constantValue := 0 }]
  methods := #[k21m0]
  instanceTypes := #[]
  staticTypes := #[(.object "jdk/internal/misc/Unsafe"), .boolean, .int, .int, .int, .int, .int, .int, .int, .int, .int, .int, .int, .int, .int, .int, .int, .int, .int, (.object "jdk/internal/access/JavaLangAccess"), .int]
  resolved := Array.replicate 378 none
  statics := none }

def pool22 : Array CpInfo := pool [(1, u "java/lang/Cloneable"), (0, .class_ 1), (0, u "java/lang/Object"), (0, .class_ 3)] 3

/-- java/lang/Cloneable -/
def k22 : Class := { plain "java/lang/Cloneable" (some 0) with
  accessFlags := 1537
  interfaces := #[]
  cf := some (fileOf pool22 2 #[] #[] 1537 4 #[] #[])
  fields := #[]
  methods := #[]
  instanceTypes := #[]
  staticTypes := #[]
  resolved := Array.replicate 8 none
  statics := none }

/-- the primitive byte -/
def k23 : Class := { plain "byte" none with kind := .primitive 'B', accessFlags := 0x411 }
/-- [B -/
def k24 : Class := { plain "[B" (some 0) with kind := .array 23 .byte, interfaces := #[22, 2], accessFlags := 1041 }

/-- the primitive char -/
def k25 : Class := { plain "char" none with kind := .primitive 'C', accessFlags := 0x411 }
/-- [C -/
def k26 : Class := { plain "[C" (some 0) with kind := .array 25 .char, interfaces := #[22, 2], accessFlags := 1041 }

/-- the primitive int -/
def k27 : Class := { plain "int" none with kind := .primitive 'I', accessFlags := 0x411 }
/-- [I -/
def k28 : Class := { plain "[I" (some 0) with kind := .array 27 .int, interfaces := #[22, 2], accessFlags := 1041 }

def heap : Heap := #[{ cls := 7, slots := #[.long 0, .int 1, .null, .int 0, .null, .int 0, .int 0], vm := .statics 7 },
  { cls := 15, slots := #[.int 0, .int 0, .null, .null, .ref 4, .ref 3, .int 0, .int 0, .long 0], vm := .statics 15 },
  { cls := 19, slots := #[.null, .null, .null], vm := .statics 19 },
  { cls := 24, slots := #[.int 48, .int 49, .int 50, .int 51, .int 52, .int 53, .int 54, .int 55, .int 56, .int 57, .int 48, .int 49, .int 50, .int 51, .int 52, .int 53, .int 54, .int 55, .int 56, .int 57, .int 48, .int 49, .int 50, .int 51, .int 52, .int 53, .int 54, .int 55, .int 56, .int 57, .int 48, .int 49, .int 50, .int 51, .int 52, .int 53, .int 54, .int 55, .int 56, .int 57, .int 48, .int 49, .int 50, .int 51, .int 52, .int 53, .int 54, .int 55, .int 56, .int 57, .int 48, .int 49, .int 50, .int 51, .int 52, .int 53, .int 54, .int 55, .int 56, .int 57, .int 48, .int 49, .int 50, .int 51, .int 52, .int 53, .int 54, .int 55, .int 56, .int 57, .int 48, .int 49, .int 50, .int 51, .int 52, .int 53, .int 54, .int 55, .int 56, .int 57, .int 48, .int 49, .int 50, .int 51, .int 52, .int 53, .int 54, .int 55, .int 56, .int 57, .int 48, .int 49, .int 50, .int 51, .int 52, .int 53, .int 54, .int 55, .int 56, .int 57], vm := .none },
  { cls := 24, slots := #[.int 48, .int 48, .int 48, .int 48, .int 48, .int 48, .int 48, .int 48, .int 48, .int 48, .int 49, .int 49, .int 49, .int 49, .int 49, .int 49, .int 49, .int 49, .int 49, .int 49, .int 50, .int 50, .int 50, .int 50, .int 50, .int 50, .int 50, .int 50, .int 50, .int 50, .int 51, .int 51, .int 51, .int 51, .int 51, .int 51, .int 51, .int 51, .int 51, .int 51, .int 52, .int 52, .int 52, .int 52, .int 52, .int 52, .int 52, .int 52, .int 52, .int 52, .int 53, .int 53, .int 53, .int 53, .int 53, .int 53, .int 53, .int 53, .int 53, .int 53, .int 54, .int 54, .int 54, .int 54, .int 54, .int 54, .int 54, .int 54, .int 54, .int 54, .int 55, .int 55, .int 55, .int 55, .int 55, .int 55, .int 55, .int 55, .int 55, .int 55, .int 56, .int 56, .int 56, .int 56, .int 56, .int 56, .int 56, .int 56, .int 56, .int 56, .int 57, .int 57, .int 57, .int 57, .int 57, .int 57, .int 57, .int 57, .int 57, .int 57], vm := .none }]
def classes : Array Class := #[k0, k1, k2, k3, k4, k5, k6, k7, k8, k9, k10, k11, k12, k13, k14, k15, k16, k17, k18, k19, k20, k21, k22, k23, k24, k25, k26, k27, k28]
def interned : List (Array UInt16 × Addr) := []
def slotsUsed : Nat := 219
def theMethod : MethodId := ⟨1, 1⟩
def args0 : Array Value := #[.int 2, .int 65, .int 66, .int 67, .int 8080]
def aboutOver (below : List Frame) : State where
  vm := { classes := classes, interned := interned.toArray }
  heap := heap
  slotsUsed := slotsUsed
  threads := #[{ frames := .invoking theMethod args0 :: below }]
def below0 : List Frame := [.native { method := ⟨0, 0⟩, args := #[] }]
def about1 : State := aboutOver below0
def p0 : Program := .bare "" "" ""
def e0 : Env := launch0.env 0 0 0
theorem w_frames : about1.frames = Frame.invoking theMethod args0 :: below0 := rfl
set_option maxRecDepth 65536 in
theorem w_args : argsFit about1.vm theMethod args0 = true := by decide +kernel
set_option maxRecDepth 65536 in
theorem w_heap : heapFits about1 = true := by decide +kernel
set_option maxRecDepth 65536 in
theorem w_runnable : about1.curStatus? = some .runnable := by decide +kernel
set_option maxRecDepth 65536 in
theorem w_alone : about1.alone = true := by decide +kernel
set_option maxRecDepth 65536 in
theorem w_named : about1.methodNamed? x = some theMethod := by decide +kernel
set_option maxRecDepth 65536 in
theorem w_hears : about1.hears theMethod below0 = true := by decide +kernel
set_option maxRecDepth 65536 in
theorem w_ripe : about1.ripe theMethod args0 below0 = true := by decide +kernel
theorem w_running : about1.status = .running := rfl
set_option maxRecDepth 65536 in
theorem w_room : about1.hasRoom e0.platform room_1 = true :=
  launch0.hasRoom_least _ room_1 (by decide +kernel) (by decide +kernel) (by decide +kernel) (by decide +kernel) (by decide +kernel) (by decide +kernel)
theorem allAtoms_all (ts : List Jvm.Cond) (a : Array Jvm.Value) (st : Jvm.State) : (allAtoms ts).before a st = ts.all (fun c => c.before a st) := by
  induction ts with
  | nil => rfl
  | cons c t ih =>
    show (Jvm.Cond.and c (allAtoms t)).before a st = _
    rw [Jvm.Cond.before_and, ih, List.all_cons]
def words1 : List Jvm.Cond := Jvm.Cond.code x code maxLocals ret :: tables_1
/-- a 'code' word, met by the world's own term for the bytes: nothing is compared byte by byte -/
theorem code_word {y : MethodName} {bytes : ByteArray} {mx : Nat} {rt : Option FieldType} {a : Array Value} {s : State} {m : MethodId} {meth : Method} {c : Code} (h1 : s.methodNamed? y = some m) (h2 : s.vm.method? m = some meth) (h3 : meth.code = some c) (h4 : c.code = bytes)
    (h5 : (c.maxLocals == mx && c.exceptionTable.isEmpty && decide (c.maxStack ≤ mostOperands) && decide (meth.sig.returnType = rt) && !meth.locks && decide (parseMethodDescriptor y.desc = some meth.sig)) = true) : (Jvm.Cond.code y bytes mx rt).before a s = true := by
  simp only [Bool.and_eq_true, beq_iff_eq, Bool.not_eq_true', decide_eq_true_eq] at h5
  obtain ⟨⟨⟨⟨⟨g1, g2⟩, g3⟩, g4⟩, g5⟩, g6⟩ := h5
  simp [Cond.before, Cond.holds, Cond.value, h1, h2, h3, h4, g1, g2, g3, g4, g5, g6]
def isCode : Jvm.Cond → Bool
  | .code _ _ _ _ => true
  | _ => false
theorem all_split {L : List Jvm.Cond} {P : Jvm.Cond → Bool} (h1 : L.all (fun c => isCode c || P c) = true) (h2 : ∀ c ∈ L.filter isCode, P c = true) : L.all P = true := by
  refine List.all_eq_true.mpr fun c hc => ?_
  have h := List.all_eq_true.mp h1 c hc
  rcases Bool.eq_false_or_eq_true (isCode c) with hi | hi
  · exact h2 c (List.mem_filter.mpr ⟨hc, hi⟩)
  · simpa [hi] using h
set_option maxRecDepth 65536 in
theorem w_c0 : (Jvm.Cond.code x code maxLocals ret).before args0 about1 = true := code_word (m := ⟨1, 1⟩) (meth := k1m1) (c := k1c1) (by decide +kernel) rfl rfl rfl (by decide +kernel)
set_option maxRecDepth 65536 in
theorem w_c1 : (Jvm.Cond.code ({ cls := "com/example/twinshore/twinshore/HostPortToStringPinLaw", name := "digit", desc := "([CIIII)V" } : Jvm.MethodName) method_5_code (5 : Nat) (Option.none : Option Jvm.ClassFile.FieldType)).before args0 about1 = true := code_word (m := ⟨1, 4⟩) (meth := k1m4) (c := k1c4) (by decide +kernel) rfl rfl rfl (by decide +kernel)
set_option maxRecDepth 65536 in
theorem w_c2 : (Jvm.Cond.code ({ cls := "com/example/twinshore/twinshore/HostPortToStringPinLaw", name := "pow10", desc := "(I)I" } : Jvm.MethodName) method_4_code (1 : Nat) (Option.some Jvm.ClassFile.FieldType.int)).before args0 about1 = true := code_word (m := ⟨1, 3⟩) (meth := k1m3) (c := k1c3) (by decide +kernel) rfl rfl rfl (by decide +kernel)
set_option maxRecDepth 65536 in
theorem w_c3 : (Jvm.Cond.code ({ cls := "com/example/twinshore/twinshore/HostPort", name := "<init>", desc := "(Ljava/lang/String;I)V" } : Jvm.MethodName) prog_3_method_1_code (3 : Nat) (Option.none : Option Jvm.ClassFile.FieldType)).before args0 about1 = true := code_word (m := ⟨9, 0⟩) (meth := k9m0) (c := k9c0) (by decide +kernel) rfl rfl rfl (by decide +kernel)
set_option maxRecDepth 65536 in
theorem w_c4 : (Jvm.Cond.code ({ cls := "java/lang/Record", name := "<init>", desc := "()V" } : Jvm.MethodName) jdk_30_method_1_code (1 : Nat) (Option.none : Option Jvm.ClassFile.FieldType)).before args0 about1 = true := code_word (m := ⟨8, 0⟩) (meth := k8m0) (c := k8c0) (by decide +kernel) rfl rfl rfl (by decide +kernel)
set_option maxRecDepth 65536 in
theorem w_c5 : (Jvm.Cond.code ({ cls := "java/lang/Object", name := "<init>", desc := "()V" } : Jvm.MethodName) object_method_1_code (1 : Nat) (Option.none : Option Jvm.ClassFile.FieldType)).before args0 about1 = true := code_word (m := ⟨0, 0⟩) (meth := k0m0) (c := k0c0) (by decide +kernel) rfl rfl rfl (by decide +kernel)
set_option maxRecDepth 65536 in
theorem w_c6 : (Jvm.Cond.code ({ cls := "com/example/twinshore/twinshore/HostPort", name := "toString", desc := "()Ljava/lang/String;" } : Jvm.MethodName) prog_3_method_6_code (1 : Nat) (Option.some (Jvm.ClassFile.FieldType.object "java/lang/String"))).before args0 about1 = true := code_word (m := ⟨9, 1⟩) (meth := k9m1) (c := k9c1) (by decide +kernel) rfl rfl rfl (by decide +kernel)
set_option maxRecDepth 65536 in
theorem w_c7 : (Jvm.Cond.code ({ cls := "java/lang/StringBuilder", name := "<init>", desc := "()V" } : Jvm.MethodName) jdk_67_method_1_code (1 : Nat) (Option.none : Option Jvm.ClassFile.FieldType)).before args0 about1 = true := code_word (m := ⟨12, 0⟩) (meth := k12m0) (c := k12c0) (by decide +kernel) rfl rfl rfl (by decide +kernel)
set_option maxRecDepth 65536 in
theorem w_c8 : (Jvm.Cond.code ({ cls := "java/lang/AbstractStringBuilder", name := "<init>", desc := "(I)V" } : Jvm.MethodName) jdk_68_method_2_code (2 : Nat) (Option.none : Option Jvm.ClassFile.FieldType)).before args0 about1 = true := code_word (m := ⟨11, 1⟩) (meth := k11m1) (c := k11c1) (by decide +kernel) rfl rfl rfl (by decide +kernel)
set_option maxRecDepth 65536 in
theorem w_c9 : (Jvm.Cond.code ({ cls := "java/lang/StringBuilder", name := "append", desc := "(Ljava/lang/String;)Ljava/lang/StringBuilder;" } : Jvm.MethodName) jdk_67_method_7_code (2 : Nat) (Option.some (Jvm.ClassFile.FieldType.object "java/lang/StringBuilder"))).before args0 about1 = true := code_word (m := ⟨12, 1⟩) (meth := k12m1) (c := k12c1) (by decide +kernel) rfl rfl rfl (by decide +kernel)
set_option maxRecDepth 65536 in
theorem w_c10 : (Jvm.Cond.code ({ cls := "java/lang/AbstractStringBuilder", name := "append", desc := "(Ljava/lang/String;)Ljava/lang/AbstractStringBuilder;" } : Jvm.MethodName) jdk_68_method_22_code (3 : Nat) (Option.some (Jvm.ClassFile.FieldType.object "java/lang/AbstractStringBuilder"))).before args0 about1 = true := code_word (m := ⟨11, 4⟩) (meth := k11m4) (c := k11c4) (by decide +kernel) rfl rfl rfl (by decide +kernel)
set_option maxRecDepth 65536 in
theorem w_c11 : (Jvm.Cond.code ({ cls := "java/lang/String", name := "length", desc := "()I" } : Jvm.MethodName) jdk_42_method_54_code (1 : Nat) (Option.some Jvm.ClassFile.FieldType.int)).before args0 about1 = true := code_word (m := ⟨7, 3⟩) (meth := k7m3) (c := k7c3) (by decide +kernel) rfl rfl rfl (by decide +kernel)
set_option maxRecDepth 65536 in
theorem w_c12 : (Jvm.Cond.code ({ cls := "java/lang/String", name := "coder", desc := "()B" } : Jvm.MethodName) jdk_42_method_152_code (1 : Nat) (Option.some Jvm.ClassFile.FieldType.byte)).before args0 about1 = true := code_word (m := ⟨7, 10⟩) (meth := k7m10) (c := k7c10) (by decide +kernel) rfl rfl rfl (by decide +kernel)
set_option maxRecDepth 65536 in
theorem w_c13 : (Jvm.Cond.code ({ cls := "java/lang/AbstractStringBuilder", name := "ensureCapacityInternal", desc := "(I)V" } : Jvm.MethodName) jdk_68_method_9_code (3 : Nat) (Option.none : Option Jvm.ClassFile.FieldType)).before args0 about1 = true := code_word (m := ⟨11, 3⟩) (meth := k11m3) (c := k11c3) (by decide +kernel) rfl rfl rfl (by decide +kernel)
set_option maxRecDepth 65536 in
theorem w_c14 : (Jvm.Cond.code ({ cls := "java/lang/AbstractStringBuilder", name := "putStringAt", desc := "(ILjava/lang/String;)V" } : Jvm.MethodName) jdk_68_method_73_code (3 : Nat) (Option.none : Option Jvm.ClassFile.FieldType)).before args0 about1 = true := code_word (m := ⟨11, 9⟩) (meth := k11m9) (c := k11c9) (by decide +kernel) rfl rfl rfl (by decide +kernel)
set_option maxRecDepth 65536 in
theorem w_c15 : (Jvm.Cond.code ({ cls := "java/lang/AbstractStringBuilder", name := "inflateIfNeededFor", desc := "(Ljava/lang/String;)V" } : Jvm.MethodName) jdk_68_method_71_code (2 : Nat) (Option.none : Option Jvm.ClassFile.FieldType)).before args0 about1 = true := code_word (m := ⟨11, 8⟩) (meth := k11m8) (c := k11c8) (by decide +kernel) rfl rfl rfl (by decide +kernel)
set_option maxRecDepth 65536 in
theorem w_c16 : (Jvm.Cond.code ({ cls := "java/lang/String", name := "getBytes", desc := "([BIB)V" } : Jvm.MethodName) jdk_42_method_147_code (4 : Nat) (Option.none : Option Jvm.ClassFile.FieldType)).before args0 about1 = true := code_word (m := ⟨7, 6⟩) (meth := k7m6) (c := k7c6) (by decide +kernel) rfl rfl rfl (by decide +kernel)
set_option maxRecDepth 65536 in
theorem w_c17 : (Jvm.Cond.code ({ cls := "java/lang/StringBuilder", name := "append", desc := "(I)Ljava/lang/StringBuilder;" } : Jvm.MethodName) jdk_67_method_15_code (2 : Nat) (Option.some (Jvm.ClassFile.FieldType.object "java/lang/StringBuilder"))).before args0 about1 = true := code_word (m := ⟨12, 2⟩) (meth := k12m2) (c := k12c2) (by decide +kernel) rfl rfl rfl (by decide +kernel)
set_option maxRecDepth 65536 in
theorem w_c18 : (Jvm.Cond.code ({ cls := "java/lang/AbstractStringBuilder", name := "append", desc := "(I)Ljava/lang/AbstractStringBuilder;" } : Jvm.MethodName) jdk_68_method_32_code (4 : Nat) (Option.some (Jvm.ClassFile.FieldType.object "java/lang/AbstractStringBuilder"))).before args0 about1 = true := code_word (m := ⟨11, 5⟩) (meth := k11m5) (c := k11c5) (by decide +kernel) rfl rfl rfl (by decide +kernel)
set_option maxRecDepth 65536 in
theorem w_c19 : (Jvm.Cond.code ({ cls := "java/lang/Integer", name := "stringSize", desc := "(I)I" } : Jvm.MethodName) jdk_33_method_13_code (4 : Nat) (Option.some Jvm.ClassFile.FieldType.int)).before args0 about1 = true := code_word (m := ⟨15, 1⟩) (meth := k15m1) (c := k15c1) (by decide +kernel) rfl rfl rfl (by decide +kernel)
set_option maxRecDepth 65536 in
theorem w_c20 : (Jvm.Cond.code ({ cls := "java/lang/AbstractStringBuilder", name := "isLatin1", desc := "()Z" } : Jvm.MethodName) jdk_68_method_68_code (1 : Nat) (Option.some Jvm.ClassFile.FieldType.boolean)).before args0 about1 = true := code_word (m := ⟨11, 7⟩) (meth := k11m7) (c := k11c7) (by decide +kernel) rfl rfl rfl (by decide +kernel)
set_option maxRecDepth 65536 in
theorem w_c21 : (Jvm.Cond.code ({ cls := "java/lang/Integer", name := "getChars", desc := "(II[B)I" } : Jvm.MethodName) jdk_33_method_12_code (7 : Nat) (Option.some Jvm.ClassFile.FieldType.int)).before args0 about1 = true := code_word (m := ⟨15, 0⟩) (meth := k15m0) (c := k15c0) (by decide +kernel) rfl rfl rfl (by decide +kernel)
set_option maxRecDepth 65536 in
theorem w_c22 : (Jvm.Cond.code ({ cls := "java/lang/StringBuilder", name := "toString", desc := "()Ljava/lang/String;" } : Jvm.MethodName) jdk_67_method_42_code (1 : Nat) (Option.some (Jvm.ClassFile.FieldType.object "java/lang/String"))).before args0 about1 = true := code_word (m := ⟨12, 3⟩) (meth := k12m3) (c := k12c3) (by decide +kernel) rfl rfl rfl (by decide +kernel)
set_option maxRecDepth 65536 in
theorem w_c23 : (Jvm.Cond.code ({ cls := "java/lang/String", name := "<init>", desc := "(Ljava/lang/StringBuilder;)V" } : Jvm.MethodName) jdk_42_method_53_code (2 : Nat) (Option.none : Option Jvm.ClassFile.FieldType)).before args0 about1 = true := code_word (m := ⟨7, 2⟩) (meth := k7m2) (c := k7c2) (by decide +kernel) rfl rfl rfl (by decide +kernel)
set_option maxRecDepth 65536 in
theorem w_c24 : (Jvm.Cond.code ({ cls := "java/lang/String", name := "<init>", desc := "(Ljava/lang/AbstractStringBuilder;Ljava/lang/Void;)V" } : Jvm.MethodName) jdk_42_method_150_code (5 : Nat) (Option.none : Option Jvm.ClassFile.FieldType)).before args0 about1 = true := code_word (m := ⟨7, 8⟩) (meth := k7m8) (c := k7c8) (by decide +kernel) rfl rfl rfl (by decide +kernel)
set_option maxRecDepth 65536 in
theorem w_c25 : (Jvm.Cond.code ({ cls := "java/lang/AbstractStringBuilder", name := "getValue", desc := "()[B" } : Jvm.MethodName) jdk_68_method_64_code (1 : Nat) (Option.some (Jvm.ClassFile.FieldType.array Jvm.ClassFile.FieldType.byte))).before args0 about1 = true := code_word (m := ⟨11, 6⟩) (meth := k11m6) (c := k11c6) (by decide +kernel) rfl rfl rfl (by decide +kernel)
set_option maxRecDepth 65536 in
theorem w_c26 : (Jvm.Cond.code ({ cls := "java/lang/StringBuilder", name := "length", desc := "()I" } : Jvm.MethodName) jdk_67_method_93_code (1 : Nat) (Option.some Jvm.ClassFile.FieldType.int)).before args0 about1 = true := code_word (m := ⟨12, 4⟩) (meth := k12m4) (c := k12c4) (by decide +kernel) rfl rfl rfl (by decide +kernel)
set_option maxRecDepth 65536 in
theorem w_c27 : (Jvm.Cond.code ({ cls := "java/lang/AbstractStringBuilder", name := "length", desc := "()I" } : Jvm.MethodName) jdk_68_method_6_code (1 : Nat) (Option.some Jvm.ClassFile.FieldType.int)).before args0 about1 = true := code_word (m := ⟨11, 2⟩) (meth := k11m2) (c := k11c2) (by decide +kernel) rfl rfl rfl (by decide +kernel)
set_option maxRecDepth 65536 in
theorem w_c28 : (Jvm.Cond.code ({ cls := "java/util/Arrays", name := "copyOfRange", desc := "([BII)[B" } : Jvm.MethodName) jdk_65_method_132_code (3 : Nat) (Option.some (Jvm.ClassFile.FieldType.array Jvm.ClassFile.FieldType.byte))).before args0 about1 = true := code_word (m := ⟨16, 2⟩) (meth := k16m2) (c := k16c2) (by decide +kernel) rfl rfl rfl (by decide +kernel)
set_option maxRecDepth 65536 in
theorem w_c29 : (Jvm.Cond.code ({ cls := "java/util/Arrays", name := "copyOfRangeByte", desc := "([BII)[B" } : Jvm.MethodName) jdk_65_method_133_code (5 : Nat) (Option.some (Jvm.ClassFile.FieldType.array Jvm.ClassFile.FieldType.byte))).before args0 about1 = true := code_word (m := ⟨16, 3⟩) (meth := k16m3) (c := k16c3) (by decide +kernel) rfl rfl rfl (by decide +kernel)
set_option maxRecDepth 65536 in
theorem w_c30 : (Jvm.Cond.code ({ cls := "java/util/Arrays", name := "checkLength", desc := "(II)V" } : Jvm.MethodName) jdk_65_method_131_code (2 : Nat) (Option.none : Option Jvm.ClassFile.FieldType)).before args0 about1 = true := code_word (m := ⟨16, 1⟩) (meth := k16m1) (c := k16c1) (by decide +kernel) rfl rfl rfl (by decide +kernel)
set_option maxRecDepth 65536 in
theorem w_c31 : (Jvm.Cond.code ({ cls := "java/lang/Math", name := "min", desc := "(II)I" } : Jvm.MethodName) jdk_29_method_69_code (2 : Nat) (Option.some Jvm.ClassFile.FieldType.int)).before args0 about1 = true := code_word (m := ⟨17, 1⟩) (meth := k17m1) (c := k17c1) (by decide +kernel) rfl rfl rfl (by decide +kernel)
set_option maxRecDepth 65536 in
theorem w_c32 : (Jvm.Cond.code ({ cls := "com/example/twinshore/twinshore/HostPortToStringPinLaw", name := "at", desc := "(Ljava/lang/String;[CI)Z" } : Jvm.MethodName) method_3_code (3 : Nat) (Option.some Jvm.ClassFile.FieldType.boolean)).before args0 about1 = true := code_word (m := ⟨1, 2⟩) (meth := k1m2) (c := k1c2) (by decide +kernel) rfl rfl rfl (by decide +kernel)
set_option maxRecDepth 65536 in
theorem w_c33 : (Jvm.Cond.code ({ cls := "java/lang/String", name := "charAt", desc := "(I)C" } : Jvm.MethodName) jdk_42_method_56_code (2 : Nat) (Option.some Jvm.ClassFile.FieldType.char)).before args0 about1 = true := code_word (m := ⟨7, 4⟩) (meth := k7m4) (c := k7c4) (by decide +kernel) rfl rfl rfl (by decide +kernel)
set_option maxRecDepth 65536 in
theorem w_c34 : (Jvm.Cond.code ({ cls := "java/lang/String", name := "isLatin1", desc := "()Z" } : Jvm.MethodName) jdk_42_method_154_code (1 : Nat) (Option.some Jvm.ClassFile.FieldType.boolean)).before args0 about1 = true := code_word (m := ⟨7, 11⟩) (meth := k7m11) (c := k7c11) (by decide +kernel) rfl rfl rfl (by decide +kernel)
set_option maxRecDepth 65536 in
theorem w_c35 : (Jvm.Cond.code ({ cls := "java/lang/StringLatin1", name := "charAt", desc := "([BI)C" } : Jvm.MethodName) jdk_43_method_2_code (2 : Nat) (Option.some Jvm.ClassFile.FieldType.char)).before args0 about1 = true := code_word (m := ⟨18, 1⟩) (meth := k18m1) (c := k18c1) (by decide +kernel) rfl rfl rfl (by decide +kernel)
set_option maxRecDepth 65536 in
theorem w_c36 : (Jvm.Cond.code ({ cls := "java/lang/String", name := "checkIndex", desc := "(II)V" } : Jvm.MethodName) jdk_42_method_155_code (2 : Nat) (Option.none : Option Jvm.ClassFile.FieldType)).before args0 about1 = true := code_word (m := ⟨7, 12⟩) (meth := k7m12) (c := k7c12) (by decide +kernel) rfl rfl rfl (by decide +kernel)
set_option maxRecDepth 65536 in
theorem w_c37 : (Jvm.Cond.code ({ cls := "jdk/internal/util/Preconditions", name := "checkIndex", desc := "(IILjava/util/function/BiFunction;)I" } : Jvm.MethodName) jdk_41_method_11_code (3 : Nat) (Option.some Jvm.ClassFile.FieldType.int)).before args0 about1 = true := code_word (m := ⟨19, 1⟩) (meth := k19m1) (c := k19c1) (by decide +kernel) rfl rfl rfl (by decide +kernel)
set_option maxRecDepth 65536 in
theorem w_c38 : (Jvm.Cond.code ({ cls := "java/lang/String", name := "<init>", desc := "([C)V" } : Jvm.MethodName) jdk_42_method_3_code (2 : Nat) (Option.none : Option Jvm.ClassFile.FieldType)).before args0 about1 = true := code_word (m := ⟨7, 1⟩) (meth := k7m1) (c := k7c1) (by decide +kernel) rfl rfl rfl (by decide +kernel)
set_option maxRecDepth 65536 in
theorem w_c39 : (Jvm.Cond.code ({ cls := "java/lang/String", name := "<init>", desc := "([CIILjava/lang/Void;)V" } : Jvm.MethodName) jdk_42_method_149_code (6 : Nat) (Option.none : Option Jvm.ClassFile.FieldType)).before args0 about1 = true := code_word (m := ⟨7, 7⟩) (meth := k7m7) (c := k7c7) (by decide +kernel) rfl rfl rfl (by decide +kernel)
set_option maxRecDepth 65536 in
theorem w_c40 : (Jvm.Cond.code ({ cls := "java/lang/StringUTF16", name := "compress", desc := "([CII)[B" } : Jvm.MethodName) jdk_52_method_16_code (6 : Nat) (Option.some (Jvm.ClassFile.FieldType.array Jvm.ClassFile.FieldType.byte))).before args0 about1 = true := code_word (m := ⟨20, 2⟩) (meth := k20m2) (c := k20c2) (by decide +kernel) rfl rfl rfl (by decide +kernel)
set_option maxRecDepth 65536 in
theorem w_c41 : (Jvm.Cond.code ({ cls := "java/lang/StringUTF16", name := "compress", desc := "([CI[BII)I" } : Jvm.MethodName) jdk_52_method_21_code (7 : Nat) (Option.some Jvm.ClassFile.FieldType.int)).before args0 about1 = true := code_word (m := ⟨20, 3⟩) (meth := k20m3) (c := k20c3) (by decide +kernel) rfl rfl rfl (by decide +kernel)
set_option maxRecDepth 65536 in
theorem w_c42 : (Jvm.Cond.code ({ cls := "java/lang/StringUTF16", name := "coderFromArrayLen", desc := "([BI)B" } : Jvm.MethodName) jdk_52_method_15_code (2 : Nat) (Option.some Jvm.ClassFile.FieldType.byte)).before args0 about1 = true := code_word (m := ⟨20, 1⟩) (meth := k20m1) (c := k20c1) (by decide +kernel) rfl rfl rfl (by decide +kernel)
set_option maxRecDepth 65536 in
theorem w_c43 : (Jvm.Cond.code ({ cls := "java/lang/String", name := "valueOf", desc := "(C)Ljava/lang/String;" } : Jvm.MethodName) jdk_42_method_139_code (1 : Nat) (Option.some (Jvm.ClassFile.FieldType.object "java/lang/String"))).before args0 about1 = true := code_word (m := ⟨7, 5⟩) (meth := k7m5) (c := k7c5) (by decide +kernel) rfl rfl rfl (by decide +kernel)
set_option maxRecDepth 65536 in
theorem w_c44 : (Jvm.Cond.code ({ cls := "java/lang/StringLatin1", name := "canEncode", desc := "(C)Z" } : Jvm.MethodName) jdk_43_method_3_code (1 : Nat) (Option.some Jvm.ClassFile.FieldType.boolean)).before args0 about1 = true := code_word (m := ⟨18, 2⟩) (meth := k18m2) (c := k18c2) (by decide +kernel) rfl rfl rfl (by decide +kernel)
set_option maxRecDepth 65536 in
theorem w_c45 : (Jvm.Cond.code ({ cls := "java/lang/StringLatin1", name := "toBytes", desc := "(C)[B" } : Jvm.MethodName) jdk_43_method_46_code (1 : Nat) (Option.some (Jvm.ClassFile.FieldType.array Jvm.ClassFile.FieldType.byte))).before args0 about1 = true := code_word (m := ⟨18, 3⟩) (meth := k18m3) (c := k18c3) (by decide +kernel) rfl rfl rfl (by decide +kernel)
set_option maxRecDepth 65536 in
theorem w_c46 : (Jvm.Cond.code ({ cls := "java/lang/String", name := "<init>", desc := "([BB)V" } : Jvm.MethodName) jdk_42_method_151_code (3 : Nat) (Option.none : Option Jvm.ClassFile.FieldType)).before args0 about1 = true := code_word (m := ⟨7, 9⟩) (meth := k7m9) (c := k7c9) (by decide +kernel) rfl rfl rfl (by decide +kernel)
def codes1 : List Jvm.Cond := [Jvm.Cond.code x code maxLocals ret, Jvm.Cond.code ({ cls := "com/example/twinshore/twinshore/HostPortToStringPinLaw", name := "digit", desc := "([CIIII)V" } : Jvm.MethodName) method_5_code (5 : Nat) (Option.none : Option Jvm.ClassFile.FieldType), Jvm.Cond.code ({ cls := "com/example/twinshore/twinshore/HostPortToStringPinLaw", name := "pow10", desc := "(I)I" } : Jvm.MethodName) method_4_code (1 : Nat) (Option.some Jvm.ClassFile.FieldType.int), Jvm.Cond.code ({ cls := "com/example/twinshore/twinshore/HostPort", name := "<init>", desc := "(Ljava/lang/String;I)V" } : Jvm.MethodName) prog_3_method_1_code (3 : Nat) (Option.none : Option Jvm.ClassFile.FieldType), Jvm.Cond.code ({ cls := "java/lang/Record", name := "<init>", desc := "()V" } : Jvm.MethodName) jdk_30_method_1_code (1 : Nat) (Option.none : Option Jvm.ClassFile.FieldType), Jvm.Cond.code ({ cls := "java/lang/Object", name := "<init>", desc := "()V" } : Jvm.MethodName) object_method_1_code (1 : Nat) (Option.none : Option Jvm.ClassFile.FieldType), Jvm.Cond.code ({ cls := "com/example/twinshore/twinshore/HostPort", name := "toString", desc := "()Ljava/lang/String;" } : Jvm.MethodName) prog_3_method_6_code (1 : Nat) (Option.some (Jvm.ClassFile.FieldType.object "java/lang/String")), Jvm.Cond.code ({ cls := "java/lang/StringBuilder", name := "<init>", desc := "()V" } : Jvm.MethodName) jdk_67_method_1_code (1 : Nat) (Option.none : Option Jvm.ClassFile.FieldType), Jvm.Cond.code ({ cls := "java/lang/AbstractStringBuilder", name := "<init>", desc := "(I)V" } : Jvm.MethodName) jdk_68_method_2_code (2 : Nat) (Option.none : Option Jvm.ClassFile.FieldType), Jvm.Cond.code ({ cls := "java/lang/StringBuilder", name := "append", desc := "(Ljava/lang/String;)Ljava/lang/StringBuilder;" } : Jvm.MethodName) jdk_67_method_7_code (2 : Nat) (Option.some (Jvm.ClassFile.FieldType.object "java/lang/StringBuilder")), Jvm.Cond.code ({ cls := "java/lang/AbstractStringBuilder", name := "append", desc := "(Ljava/lang/String;)Ljava/lang/AbstractStringBuilder;" } : Jvm.MethodName) jdk_68_method_22_code (3 : Nat) (Option.some (Jvm.ClassFile.FieldType.object "java/lang/AbstractStringBuilder")), Jvm.Cond.code ({ cls := "java/lang/String", name := "length", desc := "()I" } : Jvm.MethodName) jdk_42_method_54_code (1 : Nat) (Option.some Jvm.ClassFile.FieldType.int), Jvm.Cond.code ({ cls := "java/lang/String", name := "coder", desc := "()B" } : Jvm.MethodName) jdk_42_method_152_code (1 : Nat) (Option.some Jvm.ClassFile.FieldType.byte), Jvm.Cond.code ({ cls := "java/lang/AbstractStringBuilder", name := "ensureCapacityInternal", desc := "(I)V" } : Jvm.MethodName) jdk_68_method_9_code (3 : Nat) (Option.none : Option Jvm.ClassFile.FieldType), Jvm.Cond.code ({ cls := "java/lang/AbstractStringBuilder", name := "putStringAt", desc := "(ILjava/lang/String;)V" } : Jvm.MethodName) jdk_68_method_73_code (3 : Nat) (Option.none : Option Jvm.ClassFile.FieldType), Jvm.Cond.code ({ cls := "java/lang/AbstractStringBuilder", name := "inflateIfNeededFor", desc := "(Ljava/lang/String;)V" } : Jvm.MethodName) jdk_68_method_71_code (2 : Nat) (Option.none : Option Jvm.ClassFile.FieldType), Jvm.Cond.code ({ cls := "java/lang/String", name := "getBytes", desc := "([BIB)V" } : Jvm.MethodName) jdk_42_method_147_code (4 : Nat) (Option.none : Option Jvm.ClassFile.FieldType), Jvm.Cond.code ({ cls := "java/lang/StringBuilder", name := "append", desc := "(I)Ljava/lang/StringBuilder;" } : Jvm.MethodName) jdk_67_method_15_code (2 : Nat) (Option.some (Jvm.ClassFile.FieldType.object "java/lang/StringBuilder")), Jvm.Cond.code ({ cls := "java/lang/AbstractStringBuilder", name := "append", desc := "(I)Ljava/lang/AbstractStringBuilder;" } : Jvm.MethodName) jdk_68_method_32_code (4 : Nat) (Option.some (Jvm.ClassFile.FieldType.object "java/lang/AbstractStringBuilder")), Jvm.Cond.code ({ cls := "java/lang/Integer", name := "stringSize", desc := "(I)I" } : Jvm.MethodName) jdk_33_method_13_code (4 : Nat) (Option.some Jvm.ClassFile.FieldType.int), Jvm.Cond.code ({ cls := "java/lang/AbstractStringBuilder", name := "isLatin1", desc := "()Z" } : Jvm.MethodName) jdk_68_method_68_code (1 : Nat) (Option.some Jvm.ClassFile.FieldType.boolean), Jvm.Cond.code ({ cls := "java/lang/Integer", name := "getChars", desc := "(II[B)I" } : Jvm.MethodName) jdk_33_method_12_code (7 : Nat) (Option.some Jvm.ClassFile.FieldType.int), Jvm.Cond.code ({ cls := "java/lang/StringBuilder", name := "toString", desc := "()Ljava/lang/String;" } : Jvm.MethodName) jdk_67_method_42_code (1 : Nat) (Option.some (Jvm.ClassFile.FieldType.object "java/lang/String")), Jvm.Cond.code ({ cls := "java/lang/String", name := "<init>", desc := "(Ljava/lang/StringBuilder;)V" } : Jvm.MethodName) jdk_42_method_53_code (2 : Nat) (Option.none : Option Jvm.ClassFile.FieldType), Jvm.Cond.code ({ cls := "java/lang/String", name := "<init>", desc := "(Ljava/lang/AbstractStringBuilder;Ljava/lang/Void;)V" } : Jvm.MethodName) jdk_42_method_150_code (5 : Nat) (Option.none : Option Jvm.ClassFile.FieldType), Jvm.Cond.code ({ cls := "java/lang/AbstractStringBuilder", name := "getValue", desc := "()[B" } : Jvm.MethodName) jdk_68_method_64_code (1 : Nat) (Option.some (Jvm.ClassFile.FieldType.array Jvm.ClassFile.FieldType.byte)), Jvm.Cond.code ({ cls := "java/lang/StringBuilder", name := "length", desc := "()I" } : Jvm.MethodName) jdk_67_method_93_code (1 : Nat) (Option.some Jvm.ClassFile.FieldType.int), Jvm.Cond.code ({ cls := "java/lang/AbstractStringBuilder", name := "length", desc := "()I" } : Jvm.MethodName) jdk_68_method_6_code (1 : Nat) (Option.some Jvm.ClassFile.FieldType.int), Jvm.Cond.code ({ cls := "java/util/Arrays", name := "copyOfRange", desc := "([BII)[B" } : Jvm.MethodName) jdk_65_method_132_code (3 : Nat) (Option.some (Jvm.ClassFile.FieldType.array Jvm.ClassFile.FieldType.byte)), Jvm.Cond.code ({ cls := "java/util/Arrays", name := "copyOfRangeByte", desc := "([BII)[B" } : Jvm.MethodName) jdk_65_method_133_code (5 : Nat) (Option.some (Jvm.ClassFile.FieldType.array Jvm.ClassFile.FieldType.byte)), Jvm.Cond.code ({ cls := "java/util/Arrays", name := "checkLength", desc := "(II)V" } : Jvm.MethodName) jdk_65_method_131_code (2 : Nat) (Option.none : Option Jvm.ClassFile.FieldType), Jvm.Cond.code ({ cls := "java/lang/Math", name := "min", desc := "(II)I" } : Jvm.MethodName) jdk_29_method_69_code (2 : Nat) (Option.some Jvm.ClassFile.FieldType.int), Jvm.Cond.code ({ cls := "com/example/twinshore/twinshore/HostPortToStringPinLaw", name := "at", desc := "(Ljava/lang/String;[CI)Z" } : Jvm.MethodName) method_3_code (3 : Nat) (Option.some Jvm.ClassFile.FieldType.boolean), Jvm.Cond.code ({ cls := "java/lang/String", name := "charAt", desc := "(I)C" } : Jvm.MethodName) jdk_42_method_56_code (2 : Nat) (Option.some Jvm.ClassFile.FieldType.char), Jvm.Cond.code ({ cls := "java/lang/String", name := "isLatin1", desc := "()Z" } : Jvm.MethodName) jdk_42_method_154_code (1 : Nat) (Option.some Jvm.ClassFile.FieldType.boolean), Jvm.Cond.code ({ cls := "java/lang/StringLatin1", name := "charAt", desc := "([BI)C" } : Jvm.MethodName) jdk_43_method_2_code (2 : Nat) (Option.some Jvm.ClassFile.FieldType.char), Jvm.Cond.code ({ cls := "java/lang/String", name := "checkIndex", desc := "(II)V" } : Jvm.MethodName) jdk_42_method_155_code (2 : Nat) (Option.none : Option Jvm.ClassFile.FieldType), Jvm.Cond.code ({ cls := "jdk/internal/util/Preconditions", name := "checkIndex", desc := "(IILjava/util/function/BiFunction;)I" } : Jvm.MethodName) jdk_41_method_11_code (3 : Nat) (Option.some Jvm.ClassFile.FieldType.int), Jvm.Cond.code ({ cls := "java/lang/String", name := "<init>", desc := "([C)V" } : Jvm.MethodName) jdk_42_method_3_code (2 : Nat) (Option.none : Option Jvm.ClassFile.FieldType), Jvm.Cond.code ({ cls := "java/lang/String", name := "<init>", desc := "([CIILjava/lang/Void;)V" } : Jvm.MethodName) jdk_42_method_149_code (6 : Nat) (Option.none : Option Jvm.ClassFile.FieldType), Jvm.Cond.code ({ cls := "java/lang/StringUTF16", name := "compress", desc := "([CII)[B" } : Jvm.MethodName) jdk_52_method_16_code (6 : Nat) (Option.some (Jvm.ClassFile.FieldType.array Jvm.ClassFile.FieldType.byte)), Jvm.Cond.code ({ cls := "java/lang/StringUTF16", name := "compress", desc := "([CI[BII)I" } : Jvm.MethodName) jdk_52_method_21_code (7 : Nat) (Option.some Jvm.ClassFile.FieldType.int), Jvm.Cond.code ({ cls := "java/lang/StringUTF16", name := "coderFromArrayLen", desc := "([BI)B" } : Jvm.MethodName) jdk_52_method_15_code (2 : Nat) (Option.some Jvm.ClassFile.FieldType.byte), Jvm.Cond.code ({ cls := "java/lang/String", name := "valueOf", desc := "(C)Ljava/lang/String;" } : Jvm.MethodName) jdk_42_method_139_code (1 : Nat) (Option.some (Jvm.ClassFile.FieldType.object "java/lang/String")), Jvm.Cond.code ({ cls := "java/lang/StringLatin1", name := "canEncode", desc := "(C)Z" } : Jvm.MethodName) jdk_43_method_3_code (1 : Nat) (Option.some Jvm.ClassFile.FieldType.boolean), Jvm.Cond.code ({ cls := "java/lang/StringLatin1", name := "toBytes", desc := "(C)[B" } : Jvm.MethodName) jdk_43_method_46_code (1 : Nat) (Option.some (Jvm.ClassFile.FieldType.array Jvm.ClassFile.FieldType.byte)), Jvm.Cond.code ({ cls := "java/lang/String", name := "<init>", desc := "([BB)V" } : Jvm.MethodName) jdk_42_method_151_code (3 : Nat) (Option.none : Option Jvm.ClassFile.FieldType)]
set_option maxRecDepth 65536 in
theorem codes_eq : words1.filter isCode = codes1 := rfl
theorem w_codes : ∀ c ∈ words1.filter isCode, c.before args0 about1 = true := by
  rw [codes_eq]
  intro c hc
  simp only [codes1, List.mem_cons, List.not_mem_nil, or_false] at hc
  rcases hc with rfl | rfl | rfl | rfl | rfl | rfl | rfl | rfl | rfl | rfl | rfl | rfl | rfl | rfl | rfl | rfl | rfl | rfl | rfl | rfl | rfl | rfl | rfl | rfl | rfl | rfl | rfl | rfl | rfl | rfl | rfl | rfl | rfl | rfl | rfl | rfl | rfl | rfl | rfl | rfl | rfl | rfl | rfl | rfl | rfl | rfl | rfl
  · exact w_c0
  · exact w_c1
  · exact w_c2
  · exact w_c3
  · exact w_c4
  · exact w_c5
  · exact w_c6
  · exact w_c7
  · exact w_c8
  · exact w_c9
  · exact w_c10
  · exact w_c11
  · exact w_c12
  · exact w_c13
  · exact w_c14
  · exact w_c15
  · exact w_c16
  · exact w_c17
  · exact w_c18
  · exact w_c19
  · exact w_c20
  · exact w_c21
  · exact w_c22
  · exact w_c23
  · exact w_c24
  · exact w_c25
  · exact w_c26
  · exact w_c27
  · exact w_c28
  · exact w_c29
  · exact w_c30
  · exact w_c31
  · exact w_c32
  · exact w_c33
  · exact w_c34
  · exact w_c35
  · exact w_c36
  · exact w_c37
  · exact w_c38
  · exact w_c39
  · exact w_c40
  · exact w_c41
  · exact w_c42
  · exact w_c43
  · exact w_c44
  · exact w_c45
  · exact w_c46
set_option maxRecDepth 65536 in
theorem w_t1 : (words1.take 24).all (fun c => isCode c || c.before args0 about1) = true := by decide +kernel
set_option maxRecDepth 65536 in
theorem w_t2 : ((words1.drop 24).take 24).all (fun c => isCode c || c.before args0 about1) = true := by decide +kernel
set_option maxRecDepth 65536 in
theorem w_t3 : (((words1.drop 24).drop 24).take 24).all (fun c => isCode c || c.before args0 about1) = true := by decide +kernel
set_option maxRecDepth 65536 in
theorem w_t4 : ((((words1.drop 24).drop 24).drop 24).take 24).all (fun c => isCode c || c.before args0 about1) = true := by decide +kernel
set_option maxRecDepth 65536 in
theorem w_t5 : (((((words1.drop 24).drop 24).drop 24).drop 24).take 24).all (fun c => isCode c || c.before args0 about1) = true := by decide +kernel
set_option maxRecDepth 65536 in
theorem w_t6 : ((((((words1.drop 24).drop 24).drop 24).drop 24).drop 24).take 24).all (fun c => isCode c || c.before args0 about1) = true := by decide +kernel
set_option maxRecDepth 65536 in
theorem w_t7 : (((((((words1.drop 24).drop 24).drop 24).drop 24).drop 24).drop 24).take 24).all (fun c => isCode c || c.before args0 about1) = true := by decide +kernel
set_option maxRecDepth 65536 in
theorem w_t8 : ((((((((words1.drop 24).drop 24).drop 24).drop 24).drop 24).drop 24).drop 24).take 24).all (fun c => isCode c || c.before args0 about1) = true := by decide +kernel
set_option maxRecDepth 65536 in
theorem w_t9 : (((((((((words1.drop 24).drop 24).drop 24).drop 24).drop 24).drop 24).drop 24).drop 24).take 24).all (fun c => isCode c || c.before args0 about1) = true := by decide +kernel
set_option maxRecDepth 65536 in
theorem w_t10 : (((((((((words1.drop 24).drop 24).drop 24).drop 24).drop 24).drop 24).drop 24).drop 24).drop 24).all (fun c => isCode c || c.before args0 about1) = true := by decide +kernel
theorem w_tables : (allAtoms (Jvm.Cond.code x code maxLocals ret :: tables_1)).before args0 about1 = true := by
  rw [allAtoms_all]
  show words1.all (fun c => c.before args0 about1) = true
  refine all_split ?_ w_codes
  rw [← List.take_append_drop 24 words1, List.all_append, w_t1, ← List.take_append_drop 24 (words1.drop 24), List.all_append, w_t2, ← List.take_append_drop 24 ((words1.drop 24).drop 24), List.all_append, w_t3, ← List.take_append_drop 24 (((words1.drop 24).drop 24).drop 24), List.all_append, w_t4, ← List.take_append_drop 24 ((((words1.drop 24).drop 24).drop 24).drop 24), List.all_append, w_t5, ← List.take_append_drop 24 (((((words1.drop 24).drop 24).drop 24).drop 24).drop 24), List.all_append, w_t6, ← List.take_append_drop 24 ((((((words1.drop 24).drop 24).drop 24).drop 24).drop 24).drop 24), List.all_append, w_t7, ← List.take_append_drop 24 (((((((words1.drop 24).drop 24).drop 24).drop 24).drop 24).drop 24).drop 24), List.all_append, w_t8, ← List.take_append_drop 24 ((((((((words1.drop 24).drop 24).drop 24).drop 24).drop 24).drop 24).drop 24).drop 24), List.all_append, w_t9, w_t10]
  rfl
set_option maxRecDepth 65536 in
theorem w_rest : rest_1_c.before args0 about1 = true := by decide +kernel
set_option maxRecDepth 65536 in
theorem w_case : (Jvm.Cond.and given_1 narrow_1).before args0 about1 = true := by decide +kernel
set_option maxRecDepth 65536 in
theorem w_consts : constsHeld consts_1 about1 := Jvm.Lit.constsHeldB_iff.mp (by decide +kernel)
theorem w_applies : (headSpec (Jvm.Cond.code x code maxLocals ret :: tables_1) room_1).applies x e0.platform about1 = true :=
  (Spec.applies_iff w_frames).mpr ⟨w_running, w_runnable, w_alone, w_named, w_hears, w_ripe, w_room, w_tables⟩
theorem atStart : AtStart classFile x code maxLocals ret World_1 tables_1 room_1 Calls_1 rest_1 Pre_1 launch0 p0 e0 about1 theMethod args0 below0 :=
  ⟨lists_1, trivial, launch0.admits_env _ _ _, launch0.least_env, fairChoices_fair.cas, fairChoices_fair.clock, w_frames, w_args, w_heap, w_applies, ⟨w_consts, trivial⟩, w_rest, w_case⟩
end start1
theorem witness_1 : WitnessClaimed_1 := ⟨start1.p0, start1.e0, start1.about1, start1.theMethod, start1.args0, start1.below0, start1.atStart⟩
end Jvm.Pilot.@@N@@
