import JvmDerived
import JvmDerived.Pilot.@@N@@Statement
import JvmDerived.Pilot.@@N@@Code
set_option linter.unusedVariables false
set_option linter.unusedSimpArgs false
/- laws to paste: Road.backV, Road.eqW (cut by pick.py; bodies as the Statement names them) -/
namespace Jvm.Pilot.@@N@@
namespace StrChars
open Jvm Sem ClassFile Op Lib Jvm.Stand Jvm.Free.XT Jvm.Free.ALB Jvm.Free.JM Jvm.Free
open Jvm.Lib.Cold (StaticIs)
/-- a char array whose places are chars -/
def Ch (a : Addr) (A : Cell) (U : State) : Prop := Arr .char a A U ∧ Typed .char A
theorem Ch.mv {a : Addr} {A : Cell} {U U' : State} (h : Ch a A U) (hal : U.vm.Alike U'.vm) (hh : U'.heap = U.heap) : Ch a A U' := ⟨h.1.mv hal hh, h.2⟩
theorem Ch.keep {a : Addr} {A : Cell} {U U' : State} (h : Ch a A U) (hal : U.vm.Alike U'.vm) (hk : U'.heap[a]? = some A) : Ch a A U' := ⟨h.1.keep hal hk, h.2⟩
/-- what place i of a char[]'s cell holds -/
def cv (A : Cell) (i : Nat) : Int32 := match A.slots[i]? with | some (.int x) => x | _ => 0
theorem Ch.get {a : Addr} {A : Cell} {U : State} (h : Ch a A U) {i : Nat} (hi : i < A.slots.size) : A.slots[i]? = some (.int (cv A i)) := by
  have e := Array.getElem?_eq_getElem hi
  have f := h.2 i _ e
  unfold cv; rw [e]
  generalize A.slots[i] = v at f
  cases v <;> simp [fits] at f ⊢
/-- the byte that i2b leaves of a char -/
def lo8 (x : Int32) : Int32 := x.toInt8.toInt32
theorem fits_lo8 (y : Int32) : fits .byte (.int (lo8 y)) = true := by
  have h1 := y.toInt8.le_toInt
  have h2 := y.toInt8.toInt_lt
  simp only [lo8, fits, Bool.and_eq_true, decide_eq_true_eq, Int32.le_iff_toInt_le, Int8.toInt_toInt32, show (-128 : Int32).toInt = -128 from by decide, show (127 : Int32).toInt = 127 from by decide]
  omega
/-- A' is A but that each place j of lo .. hi - 1 holds f j -/
def Laid (A A' : Cell) (lo hi : Nat) (f : Nat → Value) : Prop := A'.cls = A.cls ∧ A'.vm = A.vm ∧ A'.slots.size = A.slots.size ∧ ∀ i, A'.slots[i]? = if lo ≤ i ∧ i < hi then some (f i) else A.slots[i]?
theorem Laid.zero (A : Cell) (lo : Nat) (f : Nat → Value) : Laid A A lo (lo + 0) f := ⟨rfl, rfl, rfl, fun i => by rw [if_neg (by omega)]⟩
theorem Laid.step {A Ak : Cell} {lo k : Nat} {f : Nat → Value} {v : Value} (h : Laid A Ak lo k f) (hlo : lo ≤ k) (hk : k < Ak.slots.size) (hv : v = f k) : Laid A (Ak.setSlot k v) lo (k + 1) f := by
  refine ⟨h.1, h.2.1, by simpa [Cell.setSlot] using h.2.2.1, fun i => ?_⟩
  by_cases e : k = i
  · subst e; rw [Cell.slots_setSlot_self v hk, if_pos (by omega), hv]
  · rw [Cell.slots_setSlot_ne v e, h.2.2.2 i]
    by_cases q : lo ≤ i ∧ i < k
    · rw [if_pos q, if_pos (by omega)]
    · rw [if_neg q, if_neg (by omega)]
def U16 : String := "java/lang/StringUTF16"
namespace Cmp5
def yN : MethodName := ⟨"java/lang/StringUTF16", "compress", "([CI[BII)I"⟩
abbrev yB : ByteArray := jdk_52_method_21_code
theorem d0 : decode yB 0 = .ok (.iconst 0, 1) := by decide +kernel
theorem d1 : decode yB 1 = .ok (.istore 5, 2) := by decide +kernel
theorem d3 : decode yB 3 = .ok (.iload 5, 2) := by decide +kernel
theorem d5 : decode yB 5 = .ok (.iload 4, 2) := by decide +kernel
theorem d7 : decode yB 7 = .ok (.if_icmp (.ge) 37, 3) := by decide +kernel
theorem d10 : decode yB 10 = .ok (.aload_n 0, 1) := by decide +kernel
theorem d11 : decode yB 11 = .ok (.iload_n 1, 1) := by decide +kernel
theorem d12 : decode yB 12 = .ok (.caload, 1) := by decide +kernel
theorem d13 : decode yB 13 = .ok (.istore 6, 2) := by decide +kernel
theorem d15 : decode yB 15 = .ok (.iload 6, 2) := by decide +kernel
theorem d17 : decode yB 17 = .ok (.sipush 255, 3) := by decide +kernel
theorem d20 : decode yB 20 = .ok (.if_icmp (.le) 6, 3) := by decide +kernel
theorem d26 : decode yB 26 = .ok (.aload_n 2, 1) := by decide +kernel
theorem d27 : decode yB 27 = .ok (.iload_n 3, 1) := by decide +kernel
theorem d28 : decode yB 28 = .ok (.iload 6, 2) := by decide +kernel
theorem d30 : decode yB 30 = .ok (.i2b, 1) := by decide +kernel
theorem d31 : decode yB 31 = .ok (.bastore, 1) := by decide +kernel
theorem d32 : decode yB 32 = .ok (.iinc 1 1, 3) := by decide +kernel
theorem d35 : decode yB 35 = .ok (.iinc 3 1, 3) := by decide +kernel
theorem d38 : decode yB 38 = .ok (.iinc 5 1, 3) := by decide +kernel
theorem d41 : decode yB 41 = .ok (.goto (-38), 3) := by decide +kernel
theorem d44 : decode yB 44 = .ok (.iload 4, 2) := by decide +kernel
theorem d46 : decode yB 46 = .ok (.ireturn, 1) := by decide +kernel
def site : List Cond := []
def tab : Cond := tabOf yN yB 7 (some .int) site
def P (b : Addr) (A : Cell) (d : Addr) (B : Cell) (o q len : Nat) (args : Array Value) (s : State) : Prop := args = #[.ref b, .int (Int32.ofNat o), .ref d, .int (Int32.ofNat q), .int (Int32.ofNat len)] ∧ Ch b A s ∧ Arr .byte d B s ∧ b ≠ d ∧ o + len ≤ A.slots.size ∧ q + len ≤ B.slots.size ∧ ∀ i, i < len → ¬ 255 < cv A (o + i)
def E (b : Addr) (A : Cell) (d : Addr) (B : Cell) (o q len : Nat) (r : Option Value) (s u : State) : Prop := r = some (.int (Int32.ofNat len)) ∧ ∃ B', Put d B' s u ∧ Laid B B' q (q + len) (fun j => Value.int (lo8 (cv A (o + (j - q)))))
/-- no char of the range above 255: len; the places written hold each char's low byte -/
theorem law (l : Launch) (b : Addr) (A : Cell) (d : Addr) (B : Cell) (o q len : Nat) : Law l yN 5 5 0 0 yB 7 (some .int) site (P b A d B o q len) (E b A d B o q len) (copyLocs d q len) 0 0 := by
  refine Law.of_walk (plainFor_of_name (by decide +kernel)) (by decide +kernel) (by decide +kernel) (by decide) (fun _ _ h => by rw [h.1]; rfl) (fun _ U U' hal hh h => ⟨h.1, h.2.1.mv hal hh, h.2.2.1.mv hal hh, h.2.2.2⟩) (fun r U U' V V' h1 hal h2 h => ⟨h.1, h.2.elim fun B' q => ⟨B', q.1.mv h1 h2, q.2⟩⟩) ?_
  intro p e s m args below meth c s₁ X0 hexec hbytes hml hret hlk hnm hown hh0 W hP
  obtain ⟨rfl, hA, hB, hne, l1, l2, hp⟩ := hP
  have c1 : Steps p.tables e below (s₁.setTop (entryFrame m #[.ref b, .int (Int32.ofNat o), .ref d, .int (Int32.ofNat q), .int (Int32.ofNat len)] 7)) (s₁.setTop (mkF m 0 #[.val (.ref b), .val (.int (Int32.ofNat o)), .val (.ref d), .val (.int (Int32.ofNat q)), .val (.int (Int32.ofNat len)), .unset, .unset] [])) := entry rfl
  have hA0 := hA.1.mv X0.warmed.alike hh0
  have hB0 := hB.mv X0.warmed.alike hh0
  have a31 := hA.1.2.2.2
  have c2 : Steps p.tables e below (s₁.setTop (entryFrame m #[.ref b, .int (Int32.ofNat o), .ref d, .int (Int32.ofNat q), .int (Int32.ofNat len)] 7)) (s₁.setTop (mkF m 3 #[.val (.ref b), .val (.int (Int32.ofNat o)), .val (.ref d), .val (.int (Int32.ofNat q)), .val (.int (Int32.ofNat len)), .val (.int 0), .unset] [])) := c1.trans (by
    refine iconstV X0.here hexec rfl 0 (hb hbytes d0) (by decide) ?_
    refine XS.istore X0.here hexec rfl (hb hbytes d1) rfl rfl ?_
    exact Steps.refl _)
  have loop : ∀ (r i : Nat), i + r = len → ∀ (z : Slot), (z = .unset ∨ ∃ w, z = .val w ∧ w.category = 1) → ∀ (Tl : State) (Bk : Cell), Stand p l e { frames := 0, locals := 0, cells := 0, slots := 0 } s m #[.ref b, .int (Int32.ofNat o), .ref d, .int (Int32.ofNat q), .int (Int32.ofNat len)] below meth c Tl ([] ++ copyLocs d q i) 0 0 → Put d Bk s₁ Tl → Laid B Bk q (q + i) (fun j => Value.int (lo8 (cv A (o + (j - q))))) →
      Steps p.tables e below (s₁.setTop (entryFrame m #[.ref b, .int (Int32.ofNat o), .ref d, .int (Int32.ofNat q), .int (Int32.ofNat len)] 7)) (Tl.setTop (mkF m 3 #[.val (.ref b), .val (.int (Int32.ofNat (o + i))), .val (.ref d), .val (.int (Int32.ofNat (q + i))), .val (.int (Int32.ofNat len)), .val (.int (Int32.ofNat i)), z] [])) → ∃ (T' : State) (B' : Cell) (z' : Slot), Stand p l e { frames := 0, locals := 0, cells := 0, slots := 0 } s m #[.ref b, .int (Int32.ofNat o), .ref d, .int (Int32.ofNat q), .int (Int32.ofNat len)] below meth c T' ([] ++ copyLocs d q len) 0 0 ∧ Put d B' s₁ T' ∧ Laid B B' q (q + len) (fun j => Value.int (lo8 (cv A (o + (j - q))))) ∧
      Steps p.tables e below (s₁.setTop (entryFrame m #[.ref b, .int (Int32.ofNat o), .ref d, .int (Int32.ofNat q), .int (Int32.ofNat len)] 7)) (T'.setTop (mkF m 3 #[.val (.ref b), .val (.int (Int32.ofNat (o + len))), .val (.ref d), .val (.int (Int32.ofNat (q + len))), .val (.int (Int32.ofNat len)), .val (.int (Int32.ofNat len)), z'] [])) := by
    intro r
    induction r with
    | zero =>
      intro i hi z hz Tl Bk Xl pl fl cl
      have hil : i = len := by omega
      rw [hil] at Xl fl cl
      exact ⟨Tl, Bk, z, Xl, pl, fl, cl⟩
    | succ r ih =>
      intro i hi z hz Tl Bk Xl pl fl cl
      have all := X0.warmed.alike.symm.trans Xl.warmed.alike
      have hAl := hA0.keep all (pl.other hne hA0.1)
      have hBk := hB0.like all pl.1 fl.1 fl.2.1 fl.2.2.1
      have hlt : q + i < Bk.slots.size := by rw [fl.2.2.1]; omega
      have c3 : Steps p.tables e below (s₁.setTop (entryFrame m #[.ref b, .int (Int32.ofNat o), .ref d, .int (Int32.ofNat q), .int (Int32.ofNat len)] 7)) (Tl.setTop (mkF m 12 #[.val (.ref b), .val (.int (Int32.ofNat (o + i))), .val (.ref d), .val (.int (Int32.ofNat (q + i))), .val (.int (Int32.ofNat len)), .val (.int (Int32.ofNat i)), z] [.int (Int32.ofNat (o + i)), .ref b])) := cl.trans (by
        refine XS.iload Xl.here hexec rfl (hb hbytes d3) rfl ?_
        refine XS.iload Xl.here hexec rfl (hb hbytes d5) rfl ?_
        refine XS.icmpNo Xl.here hexec rfl (hb hbytes d7) rfl (ii_ge_f (lt32 (by omega) (by omega))) ?_
        refine XS.aloadN Xl.here hexec rfl (hb hbytes d10) rfl rfl ?_
        refine XS.iloadN Xl.here hexec rfl (hb hbytes d11) rfl ?_
        exact Steps.refl _)
      have c4 : Steps p.tables e below (s₁.setTop (entryFrame m #[.ref b, .int (Int32.ofNat o), .ref d, .int (Int32.ofNat q), .int (Int32.ofNat len)] 7)) (Tl.setTop (mkF m 13 #[.val (.ref b), .val (.int (Int32.ofNat (o + i))), .val (.ref d), .val (.int (Int32.ofNat (q + i))), .val (.int (Int32.ofNat len)), .val (.int (Int32.ofNat i)), z] [.int (cv A (o + i))])) := c3.trans (by
        refine Xl.aget hexec hAl rfl (hA.get (i := o + i) (by omega)) rfl rfl (hb hbytes d12) ?_
        exact Steps.refl _)
      have c5 : Steps p.tables e below (s₁.setTop (entryFrame m #[.ref b, .int (Int32.ofNat o), .ref d, .int (Int32.ofNat q), .int (Int32.ofNat len)] 7)) (Tl.setTop (mkF m 15 #[.val (.ref b), .val (.int (Int32.ofNat (o + i))), .val (.ref d), .val (.int (Int32.ofNat (q + i))), .val (.int (Int32.ofNat len)), .val (.int (Int32.ofNat i)), .val (.int (cv A (o + i)))] [])) := c4.trans (by
        refine XS.istoreS Xl.here hexec rfl (hb hbytes d13) rfl rfl hz ?_
        exact Steps.refl _)
      have c6 : Steps p.tables e below (s₁.setTop (entryFrame m #[.ref b, .int (Int32.ofNat o), .ref d, .int (Int32.ofNat q), .int (Int32.ofNat len)] 7)) (Tl.setTop (mkF m 31 #[.val (.ref b), .val (.int (Int32.ofNat (o + i))), .val (.ref d), .val (.int (Int32.ofNat (q + i))), .val (.int (Int32.ofNat len)), .val (.int (Int32.ofNat i)), .val (.int (cv A (o + i)))] [.int (lo8 (cv A (o + i))), .int (Int32.ofNat (q + i)), .ref d])) := c5.trans (by
        refine XS.iload Xl.here hexec rfl (hb hbytes d15) rfl ?_
        refine sipushV Xl.here hexec rfl 255 (hb hbytes d17) (by decide) ?_
        refine XS.icmpYes Xl.here hexec rfl (pc0 := 20) rfl (hb hbytes d20) rfl (ii_le_t (hp i (by omega))) (by decide) rfl ?_
        refine XS.aloadN Xl.here hexec rfl (hb hbytes d26) rfl rfl ?_
        refine XS.iloadN Xl.here hexec rfl (hb hbytes d27) rfl ?_
        refine XS.iload Xl.here hexec rfl (hb hbytes d28) rfl ?_
        refine i2b Xl.here hexec rfl (hb hbytes d30) rfl ?_
        exact Steps.refl _)
      obtain ⟨T7, X7, p7, st7⟩ := Xl.aput hexec hBk rfl hlt rfl (fits_lo8 (cv A (o + i))) (g := (mkF m 31 #[.val (.ref b), .val (.int (Int32.ofNat (o + i))), .val (.ref d), .val (.int (Int32.ofNat (q + i))), .val (.int (Int32.ofNat len)), .val (.int (Int32.ofNat i)), .val (.int (cv A (o + i)))] [.int (lo8 (cv A (o + i))), .int (Int32.ofNat (q + i)), .ref d])) rfl (rest := []) rfl (hb hbytes d31)
      have c8 : Steps p.tables e below (s₁.setTop (entryFrame m #[.ref b, .int (Int32.ofNat o), .ref d, .int (Int32.ofNat q), .int (Int32.ofNat len)] 7)) (T7.setTop (mkF m 32 #[.val (.ref b), .val (.int (Int32.ofNat (o + i))), .val (.ref d), .val (.int (Int32.ofNat (q + i))), .val (.int (Int32.ofNat len)), .val (.int (Int32.ofNat i)), .val (.int (cv A (o + i)))] [])) := c6.trans (st7 _ (Steps.refl _))
      have c9 : Steps p.tables e below (s₁.setTop (entryFrame m #[.ref b, .int (Int32.ofNat o), .ref d, .int (Int32.ofNat q), .int (Int32.ofNat len)] 7)) (T7.setTop (mkF m 3 #[.val (.ref b), .val (.int (Int32.ofNat (o + i) + 1)), .val (.ref d), .val (.int (Int32.ofNat (q + i) + 1)), .val (.int (Int32.ofNat len)), .val (.int (Int32.ofNat i + 1)), .val (.int (cv A (o + i)))] [])) := c8.trans (by
        refine iincV X7.here hexec rfl 1 (hb hbytes d32) (by decide) rfl rfl ?_
        refine iincV X7.here hexec rfl 1 (hb hbytes d35) (by decide) rfl rfl ?_
        refine iincV X7.here hexec rfl 1 (hb hbytes d38) (by decide) rfl rfl ?_
        refine XS.goto X7.here hexec rfl (pc0 := 41) rfl (hb hbytes d41) (by decide) rfl ?_
        exact Steps.refl _)
      have c10 : Steps p.tables e below (s₁.setTop (entryFrame m #[.ref b, .int (Int32.ofNat o), .ref d, .int (Int32.ofNat q), .int (Int32.ofNat len)] 7)) (T7.setTop (mkF m 3 #[.val (.ref b), .val (.int (Int32.ofNat (o + (i + 1)))), .val (.ref d), .val (.int (Int32.ofNat (q + (i + 1)))), .val (.int (Int32.ofNat len)), .val (.int (Int32.ofNat (i + 1))), .val (.int (cv A (o + i)))] [])) := by
        have := c9
        rw [succ32, succ32, succ32] at this
        exact this
      exact ih (i + 1) (by omega) _ (Or.inr ⟨_, rfl, rfl⟩) T7 _ (by rw [copyLocs_step, ← List.append_assoc]; exact X7) (pl.trans p7) (fl.step (by omega) hlt (by simp)) c10
  obtain ⟨T9, B9, z9, X9, p9, f9, g9⟩ := loop len 0 (by omega) .unset (Or.inl rfl) s₁ B (by simpa [copyLocs] using X0) ⟨hB0.1, fun _ _ => rfl, rfl⟩ (Laid.zero _ _ _) c2
  have c11 : Steps p.tables e below (s₁.setTop (entryFrame m #[.ref b, .int (Int32.ofNat o), .ref d, .int (Int32.ofNat q), .int (Int32.ofNat len)] 7)) (T9.setTop (mkF m 46 #[.val (.ref b), .val (.int (Int32.ofNat (o + len))), .val (.ref d), .val (.int (Int32.ofNat (q + len))), .val (.int (Int32.ofNat len)), .val (.int (Int32.ofNat len)), z9] [.int (Int32.ofNat len)])) := g9.trans (by
    refine XS.iload X9.here hexec rfl (hb hbytes d3) rfl ?_
    refine XS.iload X9.here hexec rfl (hb hbytes d5) rfl ?_
    refine XS.icmpYes X9.here hexec rfl (pc0 := 7) rfl (hb hbytes d7) rfl (ii_ge_t (nlt32 (by omega) (Nat.le_refl _))) (by decide) rfl ?_
    refine XS.iload X9.here hexec rfl (hb hbytes d44) rfl ?_
    exact Steps.refl _)
  exact ⟨T9, some (.int (Int32.ofNat len)), _, _, _, X9, by simp, rfl, rfl, (fun h => by cases h), ⟨rfl, B9, p9.from hh0, f9⟩, fun fs hl => c11.trans (X9.ireturnOut hexec hret rfl (Or.inl rfl) (hb hbytes d46) hl)⟩
end Cmp5
namespace Cmp3
def yN : MethodName := ⟨"java/lang/StringUTF16", "compress", "([CII)[B"⟩
abbrev yB : ByteArray := jdk_52_method_16_code
theorem d0 : decode yB 0 = .ok (.iload_n 2, 1) := by decide +kernel
theorem d1 : decode yB 1 = .ok (.newarray .byte, 2) := by decide +kernel
theorem d3 : decode yB 3 = .ok (.astore_n 3, 1) := by decide +kernel
theorem d4 : decode yB 4 = .ok (.aload_n 0, 1) := by decide +kernel
theorem d5 : decode yB 5 = .ok (.iload_n 1, 1) := by decide +kernel
theorem d6 : decode yB 6 = .ok (.aload_n 3, 1) := by decide +kernel
theorem d7 : decode yB 7 = .ok (.iconst 0, 1) := by decide +kernel
theorem d8 : decode yB 8 = .ok (.iload_n 2, 1) := by decide +kernel
theorem d9 : decode yB 9 = .ok (.invokestatic 115, 3) := by decide +kernel
theorem d12 : decode yB 12 = .ok (.istore 4, 2) := by decide +kernel
theorem d14 : decode yB 14 = .ok (.iload 4, 2) := by decide +kernel
theorem d16 : decode yB 16 = .ok (.iload_n 2, 1) := by decide +kernel
theorem d17 : decode yB 17 = .ok (.if_icmp (.eq) 40, 3) := by decide +kernel
theorem d57 : decode yB 57 = .ok (.aload_n 3, 1) := by decide +kernel
theorem d58 : decode yB 58 = .ok (.areturn, 1) := by decide +kernel
def site : List Cond := [.arrayClass .byte, Cmp5.tab] ++ staticW U16 115 Cmp5.yN
def tab : Cond := tabOf yN yB 6 (some (.array .byte)) site
def P (b : Addr) (A : Cell) (o len : Nat) (args : Array Value) (s : State) : Prop := args = #[.ref b, .int (Int32.ofNat o), .int (Int32.ofNat len)] ∧ Ch b A s ∧ o + len ≤ A.slots.size ∧ len ≤ 536870912 ∧ ∀ i, i < len → ¬ 255 < cv A (o + i)
def E (b : Addr) (A : Cell) (o len : Nat) (r : Option Value) (s u : State) : Prop := NewArr .byte "[B" len (fun j => .int (lo8 (cv A (o + j)))) r s u ∧ u.heap.size = s.heap.size + 1
/-- no char of the range above 255: a new byte[] of their low bytes -/
theorem law (l : Launch) (b : Addr) (A : Cell) (o len : Nat) : Law l yN 3 3 1 18 yB 6 (some (.array .byte)) site (P b A o len) (E b A o len) [] 1 len := by
  refine Law.of_walk (plainFor_of_name (by decide +kernel)) (by decide +kernel) (by decide +kernel) (by decide) (fun _ _ h => by rw [h.1]; rfl) (fun _ U U' hal hh h => ⟨h.1, h.2.1.mv hal hh, h.2.2⟩) (fun r U U' V V' h1 hal h2 h => ⟨NewArr.mv r U U' V V' h1 hal h2 h.1, by rw [h1, h2]; exact h.2⟩) ?_
  intro p e s m args below meth c s₁ X0 hexec hbytes hml hret hlk hnm hown hh0 W hP
  obtain ⟨rfl, hA, l1, l2, hp⟩ := hP
  have a31 := hA.1.2.2.2
  have c1 : Steps p.tables e below (s₁.setTop (entryFrame m #[.ref b, .int (Int32.ofNat o), .int (Int32.ofNat len)] 6)) (s₁.setTop (mkF m 0 #[.val (.ref b), .val (.int (Int32.ofNat o)), .val (.int (Int32.ofNat len)), .unset, .unset, .unset] [])) := entry rfl
  have c2 : Steps p.tables e below (s₁.setTop (entryFrame m #[.ref b, .int (Int32.ofNat o), .int (Int32.ofNat len)] 6)) (s₁.setTop (mkF m 1 #[.val (.ref b), .val (.int (Int32.ofNat o)), .val (.int (Int32.ofNat len)), .unset, .unset, .unset] [.int (Int32.ofNat len)])) := c1.trans (by
    refine XS.iloadN X0.here hexec rfl (hb hbytes d0) rfl ?_
    exact Steps.refl _)
  obtain ⟨T3, B3, X3, ba3, bs3, bv3, bh3, bf3, st3⟩ := X0.anew hexec (atype := .byte) (wk W (.arrayClass .byte)) rfl (by show len * 1 ≤ _; omega) (by omega) (g := (mkF m 1 #[.val (.ref b), .val (.int (Int32.ofNat o)), .val (.int (Int32.ofNat len)), .unset, .unset, .unset] [.int (Int32.ofNat len)])) rfl (hb hbytes d1) (rest := []) rfl (Nat.le_refl _) (by show 0 + len ≤ len; omega)
  rw [hh0] at ba3 st3
  have kp3 : XT.Kept s T3 := (XT.Kept.of_eq hh0).push bh3
  have hA3 := hA.keep X3.warmed.alike (kp3 _ _ hA.1.1)
  have hne : b ≠ s.heap.size := hA.1.ne
  have c4 : Steps p.tables e below (s₁.setTop (entryFrame m #[.ref b, .int (Int32.ofNat o), .int (Int32.ofNat len)] 6)) (T3.setTop (mkF m 3 #[.val (.ref b), .val (.int (Int32.ofNat o)), .val (.int (Int32.ofNat len)), .unset, .unset, .unset] [.ref s.heap.size])) := c2.trans (st3 _ (Steps.refl _))
  have c5 : Steps p.tables e below (s₁.setTop (entryFrame m #[.ref b, .int (Int32.ofNat o), .int (Int32.ofNat len)] 6)) (T3.setTop (mkF m 9 #[.val (.ref b), .val (.int (Int32.ofNat o)), .val (.int (Int32.ofNat len)), .val (.ref s.heap.size), .unset, .unset] [.int (Int32.ofNat len), .int 0, .ref s.heap.size, .int (Int32.ofNat o), .ref b])) := c4.trans (by
    refine XS.astoreN X3.here hexec rfl (hb hbytes d3) rfl rfl rfl ?_
    refine XS.aloadN X3.here hexec rfl (hb hbytes d4) rfl rfl ?_
    refine XS.iloadN X3.here hexec rfl (hb hbytes d5) rfl ?_
    refine XS.aloadN X3.here hexec rfl (hb hbytes d6) rfl rfl ?_
    refine iconstV X3.here hexec rfl 0 (hb hbytes d7) (by decide) ?_
    refine XS.iloadN X3.here hexec rfl (hb hbytes d8) rfl ?_
    exact Steps.refl _)
  obtain ⟨v6, T6, X6, E6, g6⟩ := X3.callS hexec (Cmp5.law l b A s.heap.size B3 o 0 len) hown (wks W (staticW U16 115 Cmp5.yN)) (wk W Cmp5.tab) (W := 0) (Nat.le_of_ble_eq_true rfl) (Nat.le_of_ble_eq_true rfl) (Nat.le_refl _) (by show 0 + len + 0 ≤ len; omega) (g := (mkF m 9 #[.val (.ref b), .val (.int (Int32.ofNat o)), .val (.int (Int32.ofNat len)), .val (.ref s.heap.size), .unset, .unset] [.int (Int32.ofNat len), .int (Int32.ofNat 0), .ref s.heap.size, .int (Int32.ofNat o), .ref b])) rfl (by rw [hml]; rfl) c5 (argsL := [.ref b, .int (Int32.ofNat o), .ref s.heap.size, .int (Int32.ofNat 0), .int (Int32.ofNat len)]) (rest := []) rfl rfl (by show 2 * 0 + 0 ≤ _; decide) (hb hbytes d9) (⟨rfl, hA3, ba3, hne, l1, by rw [bs3]; simp, hp⟩)
  obtain ⟨rfl, B6, p6, f6⟩ := E6
  have c7 : Steps p.tables e below (s₁.setTop (entryFrame m #[.ref b, .int (Int32.ofNat o), .int (Int32.ofNat len)] 6)) (T6.setTop (mkF m 12 #[.val (.ref b), .val (.int (Int32.ofNat o)), .val (.int (Int32.ofNat len)), .val (.ref s.heap.size), .unset, .unset] [.int (Int32.ofNat len)])) := g6
  have c8 : Steps p.tables e below (s₁.setTop (entryFrame m #[.ref b, .int (Int32.ofNat o), .int (Int32.ofNat len)] 6)) (T6.setTop (mkF m 58 #[.val (.ref b), .val (.int (Int32.ofNat o)), .val (.int (Int32.ofNat len)), .val (.ref s.heap.size), .val (.int (Int32.ofNat len)), .unset] [.ref s.heap.size])) := c7.trans (by
    refine XS.istore X6.here hexec rfl (hb hbytes d12) rfl rfl ?_
    refine XS.iload X6.here hexec rfl (hb hbytes d14) rfl ?_
    refine XS.iloadN X6.here hexec rfl (hb hbytes d16) rfl ?_
    refine XS.icmpYes X6.here hexec rfl (pc0 := 17) rfl (hb hbytes d17) rfl (ii_eq_t rfl) (by decide) rfl ?_
    refine XS.aloadN X6.here hexec rfl (hb hbytes d57) rfl rfl ?_
    exact Steps.refl _)
  have X8 := X6.wide (L' := []) (cells' := 1) (slots' := len) (fun x hx hlt => by
    simp only [List.nil_append, copyLocs, List.mem_map, List.mem_range] at hx
    obtain ⟨i, -, rfl⟩ := hx
    exact absurd hlt (Nat.lt_irrefl _)) (Nat.le_refl _) (by omega)
  exact ⟨T6, some (.ref s.heap.size), _, _, _, X8, rfl, rfl, rfl, (fun h => by cases h), ⟨⟨rfl, B6, ba3.like (X3.warmed.alike.symm.trans X6.warmed.alike) p6.1 f6.1 f6.2.1 f6.2.2.1, f6.2.1.trans bv3, by rw [X6.warmed.alike.findClass, f6.1]; exact bf3, by rw [f6.2.2.1, bs3]; simp, fun j hj => by rw [f6.2.2.2 j, if_pos (by omega)]; rfl, kp3.put p6 (Nat.le_refl _)⟩, by rw [p6.2.2, bh3, hh0]; simp⟩, fun fs hl => c8.trans (X8.areturnOut hexec rfl hret rfl (hb hbytes d58) hl)⟩
end Cmp3
namespace CodL
def yN : MethodName := ⟨"java/lang/StringUTF16", "coderFromArrayLen", "([BI)B"⟩
abbrev yB : ByteArray := jdk_52_method_15_code
theorem d0 : decode yB 0 = .ok (.iload_n 1, 1) := by decide +kernel
theorem d1 : decode yB 1 = .ok (.aload_n 0, 1) := by decide +kernel
theorem d2 : decode yB 2 = .ok (.arraylength, 1) := by decide +kernel
theorem d3 : decode yB 3 = .ok (.isub, 1) := by decide +kernel
theorem d4 : decode yB 4 = .ok (.bipush 31, 2) := by decide +kernel
theorem d6 : decode yB 6 = .ok (.iushr, 1) := by decide +kernel
theorem d7 : decode yB 7 = .ok (.i2b, 1) := by decide +kernel
theorem d8 : decode yB 8 = .ok (.ireturn, 1) := by decide +kernel
def site : List Cond := []
def tab : Cond := tabOf yN yB 2 (some .byte) site
def P (d : Addr) (B : Cell) (args : Array Value) (s : State) : Prop := args = #[.ref d, .int (Int32.ofNat B.slots.size)] ∧ Arr .byte d B s
def E (r : Option Value) (s u : State) : Prop := XT.PureE (some (.int 0)) r s u
/-- an array as long as the number of chars: LATIN1 -/
theorem law (l : Launch) (d : Addr) (B : Cell) : Law l yN 2 2 0 0 yB 2 (some .byte) site (P d B) E [] 0 0 := by
  refine Law.of_walk (plainFor_of_name (by decide +kernel)) (by decide +kernel) (by decide +kernel) (by decide) (fun _ _ h => by rw [h.1]; rfl) (fun _ U U' hal hh h => ⟨h.1, h.2.mv hal hh⟩) (fun r U U' V V' h1 hal h2 h => XT.PureE.mv r U U' V V' h1 hal h2 h) ?_
  intro p e s m args below meth c s₁ X0 hexec hbytes hml hret hlk hnm hown hh0 W hP
  obtain ⟨rfl, hB⟩ := hP
  have hB0 := hB.mv X0.warmed.alike hh0
  have c1 : Steps p.tables e below (s₁.setTop (entryFrame m #[.ref d, .int (Int32.ofNat B.slots.size)] 2)) (s₁.setTop (mkF m 0 #[.val (.ref d), .val (.int (Int32.ofNat B.slots.size))] [])) := entry rfl
  have c2 : Steps p.tables e below (s₁.setTop (entryFrame m #[.ref d, .int (Int32.ofNat B.slots.size)] 2)) (s₁.setTop (mkF m 2 #[.val (.ref d), .val (.int (Int32.ofNat B.slots.size))] [.ref d, .int (Int32.ofNat B.slots.size)])) := c1.trans (by
    refine XS.iloadN X0.here hexec rfl (hb hbytes d0) rfl ?_
    refine XS.aloadN X0.here hexec rfl (hb hbytes d1) rfl rfl ?_
    exact Steps.refl _)
  have c3 : Steps p.tables e below (s₁.setTop (entryFrame m #[.ref d, .int (Int32.ofNat B.slots.size)] 2)) (s₁.setTop (mkF m 8 #[.val (.ref d), .val (.int (Int32.ofNat B.slots.size))] [.int (lo8 (ushr (Int32.ofNat B.slots.size - Int32.ofNat B.slots.size) 31))])) := c2.trans (by
    refine X0.alen hexec hB0 rfl rfl (hb hbytes d2) ?_
    refine XS.isub X0.here hexec rfl (hb hbytes d3) rfl ?_
    refine bipushV X0.here hexec rfl 31 (hb hbytes d4) (by decide) ?_
    refine iushr X0.here hexec rfl (hb hbytes d6) rfl ?_
    refine i2b X0.here hexec rfl (hb hbytes d7) rfl ?_
    exact Steps.refl _)
  have e0 : lo8 (ushr (Int32.ofNat B.slots.size - Int32.ofNat B.slots.size) 31) = 0 := by rw [Int32.sub_self]; decide
  rw [e0] at c3
  exact ⟨s₁, some (.int 0), _, _, _, X0, rfl, rfl, rfl, (fun h => by cases h), ⟨rfl, hh0⟩, fun fs hl => c3.trans (X0.ireturnOut hexec hret rfl (Or.inr (Or.inr (Or.inl rfl))) (hb hbytes d8) hl)⟩
end CodL
/-- the String at a is Latin-1 over a new byte[] (the heap's one new cell): the low bytes of the len chars of A from o on; every cell but a is kept -/
def Got (a : Addr) (D : Cell) (fV fC : Field) (A : Cell) (o len : Nat) (r : Option Value) (s u : State) : Prop := r = none ∧ ∃ D' V : Cell, Blank "java/lang/String" a D' u ∧ Same D D' [fV.slot, fC.slot] ∧ D'.slots[fV.slot]? = some (.ref s.heap.size) ∧ D'.slots[fC.slot]? = some (.int 0) ∧ Arr .byte s.heap.size V u ∧ V.vm = .none ∧ u.vm.findClass "[B" = some V.cls ∧ V.slots.size = len ∧ (∀ j, j < len → V.slots[j]? = some (.int (lo8 (cv A (o + j))))) ∧ (∀ (y : Addr) (c : Cell), y ≠ a → s.heap[y]? = some c → u.heap[y]? = some c) ∧ u.heap.size = s.heap.size + 1
theorem Got.mv {a : Addr} {D A : Cell} {fV fC : Field} {o len : Nat} : ∀ r (U U' V V' : State), U'.heap = U.heap → V.vm.Alike V'.vm → V'.heap = V.heap → Got a D fV fC A o len r U V → Got a D fV fC A o len r U' V' :=
  fun r U U' V V' h1 hal h2 ⟨e0, D', X, a1, a2, a3, a4, a5, a6, a7, a8, a9, a10, a11⟩ => ⟨e0, D', X, a1.mv hal h2, a2, by rw [h1]; exact a3, a4, by rw [h1]; exact a5.mv hal h2, a6, by rw [hal.findClass]; exact a7, a8, a9, by rw [h1, h2]; exact a10, by rw [h1, h2]; exact a11⟩
namespace New4
def yN : MethodName := ⟨"java/lang/String", "<init>", "([CIILjava/lang/Void;)V"⟩
abbrev yB : ByteArray := jdk_42_method_149_code
theorem d0 : decode yB 0 = .ok (.aload_n 0, 1) := by decide +kernel
theorem d1 : decode yB 1 = .ok (.invokespecial 1, 3) := by decide +kernel
theorem d4 : decode yB 4 = .ok (.iload_n 3, 1) := by decide +kernel
theorem d5 : decode yB 5 = .ok (.ifCond (.ne) 22, 3) := by decide +kernel
theorem d27 : decode yB 27 = .ok (.getstatic 38, 3) := by decide +kernel
theorem d30 : decode yB 30 = .ok (.ifCond (.eq) 28, 3) := by decide +kernel
theorem d33 : decode yB 33 = .ok (.aload_n 1, 1) := by decide +kernel
theorem d34 : decode yB 34 = .ok (.iload_n 2, 1) := by decide +kernel
theorem d35 : decode yB 35 = .ok (.iload_n 3, 1) := by decide +kernel
theorem d36 : decode yB 36 = .ok (.invokestatic 177, 3) := by decide +kernel
theorem d39 : decode yB 39 = .ok (.astore 5, 2) := by decide +kernel
theorem d41 : decode yB 41 = .ok (.aload_n 0, 1) := by decide +kernel
theorem d42 : decode yB 42 = .ok (.aload 5, 2) := by decide +kernel
theorem d44 : decode yB 44 = .ok (.iload_n 3, 1) := by decide +kernel
theorem d45 : decode yB 45 = .ok (.invokestatic 47, 3) := by decide +kernel
theorem d48 : decode yB 48 = .ok (.putfield 15, 3) := by decide +kernel
theorem d51 : decode yB 51 = .ok (.aload_n 0, 1) := by decide +kernel
theorem d52 : decode yB 52 = .ok (.aload 5, 2) := by decide +kernel
theorem d54 : decode yB 54 = .ok (.putfield 9, 3) := by decide +kernel
theorem d57 : decode yB 57 = .ok (.return_, 1) := by decide +kernel
def site : List Cond := [.fieldLink "java/lang/String" 38 "java/lang/String" "COMPACT_STRINGS" "Z", Cmp3.tab, CodL.tab, .laysFinal "java/lang/String" "java/lang/String" "value" "[B", .fieldLink "java/lang/String" 9 "java/lang/String" "value" "[B", .laysFinal "java/lang/String" "java/lang/String" "coder" "B", .fieldLink "java/lang/String" 15 "java/lang/String" "coder" "B"] ++ objW "java/lang/String" 1 ++ staticW "java/lang/String" 177 Cmp3.yN ++ staticW "java/lang/String" 47 CodL.yN
def tab : Cond := tabOf yN yB 6 none site
def P (a : Addr) (D : Cell) (fV fC : Field) (b : Addr) (A : Cell) (z : Int32) (o len : Nat) (args : Array Value) (s : State) : Prop := args = #[.ref a, .ref b, .int (Int32.ofNat o), .int (Int32.ofNat len), .null] ∧ Blank "java/lang/String" a D s ∧ Found "java/lang/String" "value" "[B" fV s ∧ Found "java/lang/String" "coder" "B" fC s ∧ Ch b A s ∧ StaticIs s "java/lang/String" "COMPACT_STRINGS" "Z" (.int z) ∧ ¬ z = 0 ∧ 0 < len ∧ o + len ≤ A.slots.size ∧ len ≤ 536870912 ∧ ∀ i, i < len → ¬ 255 < cv A (o + i)
def E (a : Addr) (D : Cell) (fV fC : Field) (A : Cell) (o len : Nat) (r : Option Value) (s u : State) : Prop := Got a D fV fC A o len r s u
/-- len > 0, no char of the range above 255: a Latin-1 String of their low bytes -/
theorem law (l : Launch) (a : Addr) (D : Cell) (fV fC : Field) (b : Addr) (A : Cell) (z : Int32) (o len : Nat) : Law l yN 5 4 2 35 yB 6 none site (P a D fV fC b A z o len) (E a D fV fC A o len) [⟨a, fC.slot⟩, ⟨a, fV.slot⟩] 1 len := by
  refine Law.of_walk (plainFor_of_name (by decide +kernel)) (by decide +kernel) (by decide +kernel) (by decide) (fun _ _ h => by rw [h.1]; rfl) (fun _ U U' hal hh h => ⟨h.1, h.2.1.mv hal hh, h.2.2.1.al hal, h.2.2.2.1.al hal, h.2.2.2.2.1.mv hal hh, h.2.2.2.2.2.1.there hal hh, h.2.2.2.2.2.2⟩) (fun r U U' V V' h1 hal h2 h => Got.mv r U U' V V' h1 hal h2 h) ?_
  intro p e s m args below meth c s₁ X0 hexec hbytes hml hret hlk hnm hown hh0 W hP
  obtain ⟨rfl, hB, f1, f2, hA, s1, hz, l0, l1, l2, hp⟩ := hP
  have a31 := hA.1.2.2.2
  have c1 : Steps p.tables e below (s₁.setTop (entryFrame m #[.ref a, .ref b, .int (Int32.ofNat o), .int (Int32.ofNat len), .null] 6)) (s₁.setTop (mkF m 0 #[.val (.ref a), .val (.ref b), .val (.int (Int32.ofNat o)), .val (.int (Int32.ofNat len)), .val .null, .unset] [])) := entry rfl
  have c2 : Steps p.tables e below (s₁.setTop (entryFrame m #[.ref a, .ref b, .int (Int32.ofNat o), .int (Int32.ofNat len), .null] 6)) (s₁.setTop (mkF m 1 #[.val (.ref a), .val (.ref b), .val (.int (Int32.ofNat o)), .val (.int (Int32.ofNat len)), .val .null, .unset] [.ref a])) := c1.trans (by
    refine XS.aloadN X0.here hexec rfl (hb hbytes d0) rfl rfl ?_
    exact Steps.refl _)
  obtain ⟨T3, X3, q3, st3⟩ := X0.oinit hexec hown (wks W (objW "java/lang/String" 1)) (g := (mkF m 1 #[.val (.ref a), .val (.ref b), .val (.int (Int32.ofNat o)), .val (.int (Int32.ofNat len)), .val .null, .unset] [.ref a])) rfl (by rw [hml]; rfl) (rest := []) rfl (hb hbytes d1) (W := 0) (by show 2 * 0 + 0 ≤ _; decide) (Nat.le_of_ble_eq_true rfl) (Nat.le_of_ble_eq_true rfl)
  have hh3 := q3.trans hh0
  have c4 : Steps p.tables e below (s₁.setTop (entryFrame m #[.ref a, .ref b, .int (Int32.ofNat o), .int (Int32.ofNat len), .null] 6)) (T3.setTop (mkF m 27 #[.val (.ref a), .val (.ref b), .val (.int (Int32.ofNat o)), .val (.int (Int32.ofNat len)), .val .null, .unset] [])) := (c2.trans (st3 _ (Steps.refl _))).trans (by
    refine XS.iloadN X3.here hexec rfl (hb hbytes d4) rfl ?_
    refine XS.ifYes X3.here hexec rfl (pc0 := 5) rfl (hb hbytes d5) rfl (i0_ne_t (nz32 (by omega) l0)) (by decide) rfl ?_
    exact Steps.refl _)
  obtain ⟨T5, X5, q5, st5⟩ := X3.sget hexec hown (wk W (.fieldLink "java/lang/String" 38 "java/lang/String" "COMPACT_STRINGS" "Z")) s1 (fun _ _ h => by rw [hh3]; exact h) (g := (mkF m 27 #[.val (.ref a), .val (.ref b), .val (.int (Int32.ofNat o)), .val (.int (Int32.ofNat len)), .val .null, .unset] [])) rfl (hb hbytes d27)
  have hh5 := q5.trans hh3
  have c6 : Steps p.tables e below (s₁.setTop (entryFrame m #[.ref a, .ref b, .int (Int32.ofNat o), .int (Int32.ofNat len), .null] 6)) (T5.setTop (mkF m 30 #[.val (.ref a), .val (.ref b), .val (.int (Int32.ofNat o)), .val (.int (Int32.ofNat len)), .val .null, .unset] [.int z])) := c4.trans (st5 _ (Steps.refl _))
  have c7 : Steps p.tables e below (s₁.setTop (entryFrame m #[.ref a, .ref b, .int (Int32.ofNat o), .int (Int32.ofNat len), .null] 6)) (T5.setTop (mkF m 36 #[.val (.ref a), .val (.ref b), .val (.int (Int32.ofNat o)), .val (.int (Int32.ofNat len)), .val .null, .unset] [.int (Int32.ofNat len), .int (Int32.ofNat o), .ref b])) := c6.trans (by
    refine XS.ifNo X5.here hexec rfl (hb hbytes d30) rfl (i0_eq_f hz) ?_
    refine XS.aloadN X5.here hexec rfl (hb hbytes d33) rfl rfl ?_
    refine XS.iloadN X5.here hexec rfl (hb hbytes d34) rfl ?_
    refine XS.iloadN X5.here hexec rfl (hb hbytes d35) rfl ?_
    exact Steps.refl _)
  obtain ⟨v8, T8, X8, E8, g8⟩ := X5.callS hexec (Cmp3.law l b A o len) hown (wks W (staticW "java/lang/String" 177 Cmp3.yN)) (wk W Cmp3.tab) (W := 0) (Nat.le_of_ble_eq_true rfl) (Nat.le_of_ble_eq_true rfl) (Nat.le_refl _) (by show 0 + len ≤ len; omega) (g := (mkF m 36 #[.val (.ref a), .val (.ref b), .val (.int (Int32.ofNat o)), .val (.int (Int32.ofNat len)), .val .null, .unset] [.int (Int32.ofNat len), .int (Int32.ofNat o), .ref b])) rfl (by rw [hml]; rfl) c7 (argsL := [.ref b, .int (Int32.ofNat o), .int (Int32.ofNat len)]) (rest := []) rfl rfl (by show 2 * 0 + 0 ≤ _; decide) (hb hbytes d36) (⟨rfl, hA.mv X5.warmed.alike hh5, l1, l2, hp⟩)
  obtain ⟨e8, z8⟩ := E8
  obtain ⟨rfl, N, n1, n2, n3, n4, n5, n6⟩ := NewArr.mv _ T5 s _ _ hh5.symm (Vm.Alike.refl _) rfl e8
  rw [hh5] at z8
  have hB1 := hB.keep X8.warmed.alike (n6 _ _ hB.1)
  have hne : s.heap.size ≠ a := (Nat.ne_of_lt (Array.getElem?_eq_some_iff.mp hB.1).1).symm
  have c9 : Steps p.tables e below (s₁.setTop (entryFrame m #[.ref a, .ref b, .int (Int32.ofNat o), .int (Int32.ofNat len), .null] 6)) (T8.setTop (mkF m 39 #[.val (.ref a), .val (.ref b), .val (.int (Int32.ofNat o)), .val (.int (Int32.ofNat len)), .val .null, .unset] [.ref s.heap.size])) := g8
  have c10 : Steps p.tables e below (s₁.setTop (entryFrame m #[.ref a, .ref b, .int (Int32.ofNat o), .int (Int32.ofNat len), .null] 6)) (T8.setTop (mkF m 45 #[.val (.ref a), .val (.ref b), .val (.int (Int32.ofNat o)), .val (.int (Int32.ofNat len)), .val .null, .val (.ref s.heap.size)] [.int (Int32.ofNat N.slots.size), .ref s.heap.size, .ref a])) := by
    have hc : Steps p.tables e below (s₁.setTop (entryFrame m #[.ref a, .ref b, .int (Int32.ofNat o), .int (Int32.ofNat len), .null] 6)) (T8.setTop (mkF m 45 #[.val (.ref a), .val (.ref b), .val (.int (Int32.ofNat o)), .val (.int (Int32.ofNat len)), .val .null, .val (.ref s.heap.size)] [.int (Int32.ofNat len), .ref s.heap.size, .ref a])) := c9.trans (by
      refine XS.astore X8.here hexec rfl (hb hbytes d39) rfl rfl rfl ?_
      refine XS.aloadN X8.here hexec rfl (hb hbytes d41) rfl rfl ?_
      refine XS.aload X8.here hexec rfl (hb hbytes d42) rfl rfl ?_
      refine XS.iloadN X8.here hexec rfl (hb hbytes d44) rfl ?_
      exact Steps.refl _)
    rw [n4]; exact hc
  obtain ⟨v11, T11, X11, E11, g11⟩ := X8.callS hexec (CodL.law l s.heap.size N) hown (wks W (staticW "java/lang/String" 47 CodL.yN)) (wk W CodL.tab) (W := 1) (Nat.le_of_ble_eq_true rfl) (Nat.le_of_ble_eq_true rfl) (Nat.le_refl _) (by show 0 + len + 0 ≤ len; omega) (g := (mkF m 45 #[.val (.ref a), .val (.ref b), .val (.int (Int32.ofNat o)), .val (.int (Int32.ofNat len)), .val .null, .val (.ref s.heap.size)] [.int (Int32.ofNat N.slots.size), .ref s.heap.size, .ref a])) rfl (by rw [hml]; rfl) c10 (argsL := [.ref s.heap.size, .int (Int32.ofNat N.slots.size)]) (rest := [.ref a]) rfl rfl (by show 2 * 0 + (1 + 0) ≤ _; decide) (hb hbytes d45) (⟨rfl, n1⟩)
  obtain ⟨rfl, q11⟩ := E11
  have hB11 := hB1.mv (X8.warmed.alike.symm.trans X11.warmed.alike) q11
  have c12 : Steps p.tables e below (s₁.setTop (entryFrame m #[.ref a, .ref b, .int (Int32.ofNat o), .int (Int32.ofNat len), .null] 6)) (T11.setTop (mkF m 48 #[.val (.ref a), .val (.ref b), .val (.int (Int32.ofNat o)), .val (.int (Int32.ofNat len)), .val .null, .val (.ref s.heap.size)] [.int 0, .ref a])) := g11
  obtain ⟨T13, X13, p13, bl13, sl13, st13⟩ := X11.finit hexec hown (wk W (.fieldLink "java/lang/String" 15 "java/lang/String" "coder" "B")) (Or.inr ⟨_, (wk W (.laysFinal "java/lang/String" "java/lang/String" "coder" "B"))⟩) (Or.inl ⟨rfl, hnm⟩) f2 (Or.inl rfl) hB11 (t := .byte) (by decide +kernel) rfl (g := (mkF m 48 #[.val (.ref a), .val (.ref b), .val (.int (Int32.ofNat o)), .val (.int (Int32.ofNat len)), .val .null, .val (.ref s.heap.size)] [.int 0, .ref a])) rfl (rest := []) rfl (hb hbytes d48)
  have c14 : Steps p.tables e below (s₁.setTop (entryFrame m #[.ref a, .ref b, .int (Int32.ofNat o), .int (Int32.ofNat len), .null] 6)) (T13.setTop (mkF m 54 #[.val (.ref a), .val (.ref b), .val (.int (Int32.ofNat o)), .val (.int (Int32.ofNat len)), .val .null, .val (.ref s.heap.size)] [.ref s.heap.size, .ref a])) := (c12.trans (st13 _ (Steps.refl _))).trans (by
    refine XS.aloadN X13.here hexec rfl (hb hbytes d51) rfl rfl ?_
    refine XS.aload X13.here hexec rfl (hb hbytes d52) rfl rfl ?_
    exact Steps.refl _)
  obtain ⟨T15, X15, p15, bl15, sl15, st15⟩ := X13.finit hexec hown (wk W (.fieldLink "java/lang/String" 9 "java/lang/String" "value" "[B")) (Or.inr ⟨_, (wk W (.laysFinal "java/lang/String" "java/lang/String" "value" "[B"))⟩) (Or.inl ⟨rfl, hnm⟩) f1 (Or.inl rfl) bl13 (t := (.array .byte)) (by decide +kernel) rfl (g := (mkF m 54 #[.val (.ref a), .val (.ref b), .val (.int (Int32.ofNat o)), .val (.int (Int32.ofNat len)), .val .null, .val (.ref s.heap.size)] [.ref s.heap.size, .ref a])) rfl (rest := []) rfl (hb hbytes d54)
  have c16 : Steps p.tables e below (s₁.setTop (entryFrame m #[.ref a, .ref b, .int (Int32.ofNat o), .int (Int32.ofNat len), .null] 6)) (T15.setTop (mkF m 57 #[.val (.ref a), .val (.ref b), .val (.int (Int32.ofNat o)), .val (.int (Int32.ofNat len)), .val .null, .val (.ref s.heap.size)] [])) := c14.trans (st15 _ (Steps.refl _))
  have ap := apart (Or.inr ⟨_, (wk W (.laysFinal "java/lang/String" "java/lang/String" "value" "[B"))⟩) (Or.inr ⟨_, (wk W (.laysFinal "java/lang/String" "java/lang/String" "coder" "B"))⟩) f1 f2 (t₁ := .array .byte) (t₂ := .byte) (by decide +kernel) (by decide +kernel) (by decide)
  have al := X8.warmed.alike.symm.trans X15.warmed.alike
  have n7 : T11.heap[s.heap.size]? = some N := by rw [q11]; exact n1.1
  exact ⟨T15, none, _, _, _, X15, by simp, rfl, by omega, (fun _ => rfl), ⟨rfl, _, N, bl15, ((Same.refl D _).set _ (by simp)).set _ (by simp), sl15, (Cell.slots_setSlot_ne _ ap).trans sl13, n1.keep al (p15.other hne (p13.other hne n7)), n2, by rw [al.findClass]; exact n3, n4, n5, fun y c h1 h2 => p15.other h1 (p13.other h1 (by rw [q11]; exact n6 y c h2)), by rw [p15.2.2, p13.2.2, q11]; exact z8⟩, fun fs hl => c16.trans (X15.returnOut hexec hret (hb hbytes d57) hl)⟩
end New4
namespace New1
def yN : MethodName := ⟨"java/lang/String", "<init>", "([C)V"⟩
abbrev yB : ByteArray := jdk_42_method_3_code
theorem d0 : decode yB 0 = .ok (.aload_n 0, 1) := by decide +kernel
theorem d1 : decode yB 1 = .ok (.aload_n 1, 1) := by decide +kernel
theorem d2 : decode yB 2 = .ok (.iconst 0, 1) := by decide +kernel
theorem d3 : decode yB 3 = .ok (.aload_n 1, 1) := by decide +kernel
theorem d4 : decode yB 4 = .ok (.arraylength, 1) := by decide +kernel
theorem d5 : decode yB 5 = .ok (.aconst_null, 1) := by decide +kernel
theorem d6 : decode yB 6 = .ok (.invokespecial 27, 3) := by decide +kernel
theorem d9 : decode yB 9 = .ok (.return_, 1) := by decide +kernel
def site : List Cond := [New4.tab] ++ initW "java/lang/String" 27 New4.yN
def tab : Cond := tabOf yN yB 2 none site
def P (a : Addr) (D : Cell) (fV fC : Field) (b : Addr) (A : Cell) (z : Int32) (args : Array Value) (s : State) : Prop := args = #[.ref a, .ref b] ∧ Blank "java/lang/String" a D s ∧ Found "java/lang/String" "value" "[B" fV s ∧ Found "java/lang/String" "coder" "B" fC s ∧ Ch b A s ∧ StaticIs s "java/lang/String" "COMPACT_STRINGS" "Z" (.int z) ∧ ¬ z = 0 ∧ 0 < A.slots.size ∧ A.slots.size ≤ 536870912 ∧ ∀ i, i < A.slots.size → ¬ 255 < cv A i
def E (a : Addr) (D : Cell) (fV fC : Field) (A : Cell) (r : Option Value) (s u : State) : Prop := Got a D fV fC A 0 A.slots.size r s u
/-- new String(chars), not empty, no char above 255: a Latin-1 String of their low bytes -/
theorem law (l : Launch) (a : Addr) (D : Cell) (fV fC : Field) (b : Addr) (A : Cell) (z : Int32) : Law l yN 2 1 3 52 yB 2 none site (P a D fV fC b A z) (E a D fV fC A) [⟨a, fC.slot⟩, ⟨a, fV.slot⟩] 1 A.slots.size := by
  refine Law.of_walk (plainFor_of_name (by decide +kernel)) (by decide +kernel) (by decide +kernel) (by decide) (fun _ _ h => by rw [h.1]; rfl) (fun _ U U' hal hh h => ⟨h.1, h.2.1.mv hal hh, h.2.2.1.al hal, h.2.2.2.1.al hal, h.2.2.2.2.1.mv hal hh, h.2.2.2.2.2.1.there hal hh, h.2.2.2.2.2.2⟩) (fun r U U' V V' h1 hal h2 h => Got.mv r U U' V V' h1 hal h2 h) ?_
  intro p e s m args below meth c s₁ X0 hexec hbytes hml hret hlk hnm hown hh0 W hP
  obtain ⟨rfl, hB, f1, f2, hA, s1, hz, l0, l2, hp⟩ := hP
  have c1 : Steps p.tables e below (s₁.setTop (entryFrame m #[.ref a, .ref b] 2)) (s₁.setTop (mkF m 0 #[.val (.ref a), .val (.ref b)] [])) := entry rfl
  have c2 : Steps p.tables e below (s₁.setTop (entryFrame m #[.ref a, .ref b] 2)) (s₁.setTop (mkF m 6 #[.val (.ref a), .val (.ref b)] [.null, .int (Int32.ofNat A.slots.size), .int 0, .ref b, .ref a])) := c1.trans (by
    refine XS.aloadN X0.here hexec rfl (hb hbytes d0) rfl rfl ?_
    refine XS.aloadN X0.here hexec rfl (hb hbytes d1) rfl rfl ?_
    refine iconstV X0.here hexec rfl 0 (hb hbytes d2) (by decide) ?_
    refine XS.aloadN X0.here hexec rfl (hb hbytes d3) rfl rfl ?_
    refine X0.alen hexec (hA.1.mv X0.warmed.alike hh0) rfl rfl (hb hbytes d4) ?_
    refine XS.aconstNull X0.here hexec rfl (hb hbytes d5) ?_
    exact Steps.refl _)
  obtain ⟨v3, T3, X3, E3, g3⟩ := X0.callN hexec (New4.law l a D fV fC b A z 0 A.slots.size) rfl hown (wks W (initW "java/lang/String" 27 New4.yN)) (W New4.tab (by simp only [site, List.mem_cons, List.mem_append, true_or, or_true])) (W := 0) (Nat.le_of_ble_eq_true rfl) (Nat.le_of_ble_eq_true rfl) (Nat.le_refl _) (by show 0 + A.slots.size ≤ A.slots.size; omega) (g := (mkF m 6 #[.val (.ref a), .val (.ref b)] [.null, .int (Int32.ofNat A.slots.size), .int (Int32.ofNat 0), .ref b, .ref a])) rfl (by rw [hml]; rfl) c2 (argsL := [.ref b, .int (Int32.ofNat 0), .int (Int32.ofNat A.slots.size), .null]) (rest := []) rfl rfl (by show 2 * 0 + 0 ≤ _; decide) (hb hbytes d6) (⟨rfl, hB.mv X0.warmed.alike hh0, f1.al X0.warmed.alike, f2.al X0.warmed.alike, hA.mv X0.warmed.alike hh0, s1.there X0.warmed.alike hh0, hz, l0, by omega, l2, fun i hi => by rw [Nat.zero_add]; exact hp i hi⟩)
  have e0 := Got.mv _ s₁ s _ _ hh0.symm (Vm.Alike.refl _) rfl E3
  obtain rfl := e0.1
  have c4 : Steps p.tables e below (s₁.setTop (entryFrame m #[.ref a, .ref b] 2)) (T3.setTop (mkF m 9 #[.val (.ref a), .val (.ref b)] [])) := g3
  exact ⟨T3, none, _, _, _, X3, by simp, rfl, by omega, (fun _ => rfl), e0, fun fs hl => c4.trans (X3.returnOut hexec hret (hb hbytes d9) hl)⟩
theorem pays {l : Launch} {R : Room} {p : Program} {e : Env} {below : List Frame} {s : State} {sargs : Array Value} {len W : Nat} (a : Addr) (D : Cell) (fV fC : Field) (b : Addr) (A : Cell) (z : Int32) (htab : tab.before sargs s = true) (hfr : 4 ≤ R.frames) (hlo : W + 65 ≤ R.locals) :
    Back l R p e below s sargs yN len W (fun A₁ a₁ => A₁.cells + 1 ≤ R.cells ∧ A₁.slots + A.slots.size ≤ R.slots ∧ P a D fV fC b A z a₁ A₁.U) (fun A₁ _ v₁ B₁ => E a D fV fC A v₁ A₁.U B₁.U ∧ B₁.locs = A₁.locs ++ [⟨a, fC.slot⟩, ⟨a, fV.slot⟩] ∧ B₁.cells = A₁.cells + 1 ∧ B₁.slots = A₁.slots + A.slots.size) :=
  (law l a D fV fC b A z).pays htab hfr (by omega)
end New1
/-- the byte, read back as charAt reads it, is the char -/
theorem lo8_mask {x : Int32} (h0 : ¬ x < 0) (h1 : ¬ 255 < x) : lo8 x &&& 255 = x := by
  have t : ∀ k : Fin 256, lo8 (Int32.ofNat k.val) &&& 255 = Int32.ofNat k.val := by decide +kernel
  rw [Int32.lt_iff_toInt_lt] at h0 h1
  have e0 : (0 : Int32).toInt = 0 := rfl
  have e1 : (255 : Int32).toInt = 255 := rfl
  obtain ⟨k, hk⟩ : ∃ k : Nat, x.toInt = k := ⟨x.toInt.toNat, by omega⟩
  have hx : x = Int32.ofNat k := Int32.toInt_inj.mp (by rw [hk, Int32.toInt_ofNat_small (by omega)])
  rw [hx]
  exact t ⟨k, by omega⟩
end StrChars
namespace StrChars.Road
open Jvm Sem ClassFile Op Lib Jvm.Stand Jvm.Free Jvm.Free.XT
open Jvm.Lib.Cold (StaticIs)
abbrev ST : String := "java/lang/String"
/-- every table word that New1's law asks, flat -/
abbrev words : List Jvm.Cond := [.code New1.yN New1.yB 2 none, .initialized ST, .methodLink ST 27 New4.yN, .instanceMethod New4.yN,
  .code New4.yN New4.yB 6 none, .fieldLink ST 38 ST "COMPACT_STRINGS" "Z", .laysFinal ST ST "value" "[B", .fieldLink ST 9 ST "value" "[B", .laysFinal ST ST "coder" "B", .fieldLink ST 15 ST "coder" "B",
  .methodLink ST 1 Lib.objectInit, .instanceMethod Lib.objectInit, .code Lib.objectInit ⟨#[0xb1]⟩ 1 none, .methodLink ST 177 Cmp3.yN, .static Cmp3.yN, .methodLink ST 47 CodL.yN, .static CodL.yN,
  .code Cmp3.yN Cmp3.yB 6 (some (.array .byte)), .initialized U16, .arrayClass .byte, .methodLink U16 115 Cmp5.yN, .static Cmp5.yN, .code Cmp5.yN Cmp5.yB 7 (some .int), .code CodL.yN CodL.yB 2 (some .byte)]
theorem tab_of {a : Array Value} {s : State} (h : ∀ w ∈ words, w.before a s = true) : New1.tab.before a s = true := by
  have h5 : Cmp5.tab.before a s = true := unparts (wk h (.code Cmp5.yN Cmp5.yB 7 (some .int))) (wks h (.initialized Cmp5.yN.cls :: Cmp5.site))
  have hc : CodL.tab.before a s = true := unparts (wk h (.code CodL.yN CodL.yB 2 (some .byte))) (wks h (.initialized CodL.yN.cls :: CodL.site))
  have q5 : ∀ w ∈ Cmp5.tab :: words, w.before a s = true := fun w hw => (List.mem_cons.mp hw).elim (fun e => e ▸ h5) (h w)
  have h3 : Cmp3.tab.before a s = true := unparts (wk q5 (.code Cmp3.yN Cmp3.yB 6 (some (.array .byte)))) (wks q5 (.initialized Cmp3.yN.cls :: Cmp3.site))
  have q3 : ∀ w ∈ Cmp3.tab :: CodL.tab :: words, w.before a s = true := fun w hw => (List.mem_cons.mp hw).elim (fun e => e ▸ h3) fun hw => (List.mem_cons.mp hw).elim (fun e => e ▸ hc) (h w)
  have h4 : New4.tab.before a s = true := unparts (wk q3 (.code New4.yN New4.yB 6 none)) (wks q3 (.initialized New4.yN.cls :: New4.site))
  have q4 : ∀ w ∈ New4.tab :: words, w.before a s = true := fun w hw => (List.mem_cons.mp hw).elim (fun e => e ▸ h4) (h w)
  exact unparts (wk q4 (.code New1.yN New1.yB 2 none)) (wks q4 (.initialized New1.yN.cls :: New1.site))
/-- the words ride from the start Z to the walk's own state -/
theorem moved {Z s : State} {a0 args : Array Value} (hZ : Z.Warmed39 s.vm) (hw : ∀ d ∈ words, d.before a0 Z = true) : ∀ d ∈ words, d.before args s = true := fun d hd => by
  have q := hw d hd
  have t : ∀ d ∈ words, d = .arrayClass .byte ∨ (d.onTables && d.keepsFace) = true := by decide +kernel
  rcases t d hd with rfl | t
  · exact RoadKit.mvA hZ q
  · exact RoadKit.mv hZ q t
/-- WHAT COMES BACK, over the tables of the start Z: h the heap at the call, h' behind it -/
def Q (Z : State) (x : Addr) (A : Cell) (h : Heap) (v : Option Value) (h' : Heap) (L : List Loc) : Prop := v = none ∧ (∀ y ∈ L, y.base = x) ∧ RoadKit.Keep h h' [x] ∧ h'.size = h.size + 1 ∧ RoadKit.Exa Z h' x ST ∧ RoadKit.Fld Z h' x ST "value" "[B" (.ref h.size) ∧ RoadKit.Fld Z h' x ST "coder" "B" (.int 0) ∧
  (∃ V : Cell, RoadKit.Arr Z h' h.size V .byte ∧ V.vm = .none ∧ Z.vm.findClass "[B" = some V.cls ∧ V.slots.size = A.slots.size ∧ ∀ j, j < A.slots.size → V.slots[j]? = some (.int (lo8 (cv A j)))) ∧
  ∀ (O n d : String) (w : Value), RoadKit.Fld Z h x O n d w → RoadKit.slotOf Z O n d ≠ RoadKit.slotOf Z ST "value" "[B" → RoadKit.slotOf Z O n d ≠ RoadKit.slotOf Z ST "coder" "B" → RoadKit.Fld Z h' x O n d w
/-- **new String(chars) AT A CALL, IN THE ROAD'S FORM**: for specialBack behind newO: x the fresh String, b the char[] with the cell A -/
theorem back {p : Program} {l : Launch} {e : Env} {R : Room} {s : State} {args : Array Value} {below : List Frame} {len W : Nat} {Z : State} {a0 : Array Value} {h : Heap} (hZ : Z.Warmed39 s.vm) (hw : ∀ d ∈ words, d.before a0 Z = true) {kI : Nat} (wi : (Jvm.Cond.instantiable ST kI).before a0 Z = true)
    {x b : Addr} {A : Cell} {z : Int32} {v0 c0 : Value} (E : RoadKit.Exa Z h x ST) (V : RoadKit.Fld Z h x ST "value" "[B" v0) (C : RoadKit.Fld Z h x ST "coder" "B" c0) (K : RoadKit.Arr Z h b A .char) (hty : Typed .char A) (S : RoadKit.Sta Z h ST "COMPACT_STRINGS" "Z" (.int z)) (hz : ¬ z = 0)
    (l0 : 0 < A.slots.size) (l2 : A.slots.size ≤ 536870912) (hp : ∀ i, i < A.slots.size → ¬ 255 < cv A i) (hfr : 4 ≤ R.frames) (hlo : W + 65 ≤ R.locals) :
    Back l R p e below s args New1.yN len W (fun P a => a = #[.ref x, .ref b] ∧ P.U.heap = h ∧ P.cells + 1 ≤ R.cells ∧ P.slots + A.slots.size ≤ R.slots)
      (fun P _ v B => ∃ L, Q Z x A h v B.U.heap L ∧ B.locs = P.locs ++ L ∧ B.cells = P.cells + 1 ∧ B.slots = P.slots + A.slots.size) := by
  intro m meth c P g ig mk a X hg hsize hdg hW hn hp'
  obtain ⟨rfl, rfl, r1, r2⟩ := hp'
  have al : Z.vm.Alike P.U.vm := hZ.alike.trans X.warmed.alike
  obtain ⟨D, cfV, kV, iV, fV, hD, gV, stV, knV, obV, asV, slV⟩ := id V
  obtain ⟨D', cfC, kC, iC, fC, hD', gC, stC, -, -, asC, slC⟩ := id C
  cases hD.symm.trans hD'
  obtain ⟨D2, kD, e1, e2, e3, e4, e5⟩ := id E
  cases hD.symm.trans e1
  obtain ⟨c2, k2, i1, i2, i3, -⟩ := Cond.instantiable_spec wi
  cases e2.symm.trans i1
  cases e3.symm.trans i2
  obtain ⟨kU, u1, u2⟩ := al.2.2 _ _ e3
  have hB : Blank ST x D P.U := ⟨hD, ⟨knV, fun q hq => by rw [hq] at obV; cases obV⟩, by rw [al.findClass]; exact e2, kU, u1, by rw [u2]; exact i3, by rw [u2]; exact e5 i3⟩
  have F1 : Found ST "value" "[B" fV P.U := ⟨SBG.found_only al ⟨cfV, kV, iV, gV⟩, stV⟩
  have F2 : Found ST "coder" "B" fC P.U := ⟨SBG.found_only al ⟨cfC, kC, iC, gC⟩, stC⟩
  have hA : Ch b A P.U := ⟨⟨K.1, State.isArrayOf_alike al K.2.1, K.2.2, by omega⟩, hty⟩
  have hS : StaticIs P.U ST "COMPACT_STRINGS" "Z" (.int z) := by
    obtain ⟨cfS, iS, kS, fS, st, cS, t1, t2, t3, t4, t5, t6, t7⟩ := S
    exact StaticIs.there (s := { Z with heap := P.U.heap }) ⟨cfS, iS, kS, fS, st, cS, t1, t2, t3, t4, t5, (fun q => by rw [q] at t6; cases t6), t7⟩ al rfl
  obtain ⟨v, B, X', ⟨⟨hv, E', V', q1, q2, q3, q4, q5, q6, q7, q8, q9, q10, q11⟩, hl, hc, hs⟩, st⟩ := New1.pays x D fV fC b A z (tab_of (moved hZ hw)) hfr hlo m meth c P g ig mk _ X hg hsize hdg hW hn ⟨r1, r2, rfl, hB, F1, F2, hA, hS, hz, l0, l2, hp⟩
  have al' : Z.vm.Alike B.U.vm := hZ.alike.trans X'.warmed.alike
  have hsz : E'.slots.size = D.slots.size := by
    obtain ⟨-, -, -, kB, w1, w2, w3⟩ := q1
    obtain ⟨kB', y1, y2⟩ := al'.2.2 _ _ e3
    rw [q2.2.1] at w1
    cases w1.symm.trans y1
    rw [w3, e5 i3, y2]
  refine ⟨v, B, X', ⟨_, ⟨hv, ?_, ⟨by omega, fun y cy hy hn' => q10 y cy (by simpa using hn') hy, fun y cy hy => ?_⟩, q11, ⟨E', _, q1.1, by rw [q2.2.1]; exact e2, by rw [q2.2.1]; exact e3, by rw [q2.1]; exact obV, fun _ => by rw [hsz]; exact e5 i3⟩,
    ⟨E', cfV, kV, iV, fV, q1.1, gV, stV, by rw [q2.1]; exact knV, by rw [q2.1]; exact obV, by rw [q2.2.1]; exact asV, q3⟩, ⟨E', cfC, kC, iC, fC, q1.1, gC, stC, by rw [q2.1]; exact knV, by rw [q2.1]; exact obV, by rw [q2.2.1]; exact asC, q4⟩,
    ⟨V', ⟨q5.1, State.isArrayOf_alike al'.symm q5.2.1, q5.2.2.1⟩, q6, by rw [← al'.findClass]; exact q7, q8, fun j hj => by have := q9 j hj; rwa [Nat.zero_add] at this⟩, fun O n d w F n1 n2 => ?_⟩, hl, hc, hs⟩, st⟩
  · intro y hy
    simp only [List.mem_cons, List.not_mem_nil, or_false] at hy
    rcases hy with rfl | rfl <;> rfl
  · by_cases q : y = x
    · subst q
      cases hD.symm.trans hy
      exact ⟨E', q1.1, q2.2.1, q2.1, hsz⟩
    · exact ⟨cy, q10 y cy q hy, rfl, rfl, rfl⟩
  · obtain ⟨D3, cf, k, i, f, g1, g2, g3, g4, g5, g6, g7⟩ := F
    cases hD.symm.trans g1
    simp only [RoadKit.slotOf, g2, gV, gC, Option.map_some, Option.getD_some] at n1 n2
    exact ⟨E', cf, k, i, f, q1.1, g2, g3, by rw [q2.1]; exact g4, by rw [q2.1]; exact g5, by rw [q2.2.1]; exact g6, by rw [q2.2.2 f.slot (by simp [n1, n2])]; exact g7⟩
end StrChars.Road
namespace StrChars.Road
open Jvm Sem ClassFile Op Lib Jvm.Stand Jvm.Free Jvm.Free.XT
/-- WHAT COMES BACK, the byte[] as a list of values -/
def QA (Z : State) (x : Addr) (zn : Int32) (cs : List Int32) (h : Heap) (v : Option Value) (h' : Heap) (L : List Loc) : Prop := v = none ∧ (∀ y ∈ L, y.base = x) ∧ RoadKit.Keep h h' [x] ∧ h'.size = h.size + 1 ∧ RoadKit.Exa Z h' x ST ∧ RoadKit.Fld Z h' x ST "value" "[B" (.ref h.size) ∧ RoadKit.Fld Z h' x ST "coder" "B" (.int 0) ∧
  (∃ kb, Z.vm.findClass "[B" = some kb ∧ RoadKit.Arv Z h' h.size kb .byte zn (cs.map fun c => .int (lo8 c)) (.int 0)) ∧
  ∀ (O n d : String) (w : Value), RoadKit.Fld Z h x O n d w → RoadKit.slotOf Z O n d ≠ RoadKit.slotOf Z ST "value" "[B" → RoadKit.slotOf Z O n d ≠ RoadKit.slotOf Z ST "coder" "B" → RoadKit.Fld Z h' x O n d w
/-- **new String(chars) AT A CALL, THE ARRAYS AS LISTS**: the char[] at b holds cs, not empty, no char above 255 -/
theorem backArv {p : Program} {l : Launch} {e : Env} {R : Room} {s : State} {args : Array Value} {below : List Frame} {len W : Nat} {Z : State} {a0 : Array Value} {h : Heap} (hZ : Z.Warmed39 s.vm) (hw : ∀ d ∈ words, d.before a0 Z = true) {kI : Nat} (wi : (Jvm.Cond.instantiable ST kI).before a0 Z = true)
    {x b : Addr} {k : ClassId} {zn z : Int32} {cs : List Int32} {dv v0 c0 : Value} (E : RoadKit.Exa Z h x ST) (V : RoadKit.Fld Z h x ST "value" "[B" v0) (C : RoadKit.Fld Z h x ST "coder" "B" c0) (K : RoadKit.Arv Z h b k .char zn (cs.map Value.int) dv) (S : RoadKit.Sta Z h ST "COMPACT_STRINGS" "Z" (.int z)) (hz : ¬ z = 0)
    (hlen : zn.toNatClampNeg = cs.length) (h0 : 0 < cs.length) (hbig : cs.length ≤ 536870912) (hall : ∀ c ∈ cs, ¬ 255 < c) (hfr : 4 ≤ R.frames) (hlo : W + 65 ≤ R.locals) :
    Back l R p e below s args New1.yN len W (fun P a => a = #[.ref x, .ref b] ∧ P.U.heap = h ∧ P.cells + 1 ≤ R.cells ∧ P.slots + cs.length ≤ R.slots)
      (fun P _ v B => ∃ L, QA Z x zn cs h v B.U.heap L ∧ B.locs = P.locs ++ L ∧ B.cells = P.cells + 1 ∧ B.slots = P.slots + cs.length) := by
  obtain ⟨A, K1, K2, K3, K4, K5, K6⟩ := K
  have e : A.slots.size = cs.length := K3.trans hlen
  have hat : ∀ (i : Nat) (hi : i < cs.length), A.slots[i]? = some (.int cs[i]) := fun i hi => by rw [K5 i (by omega)]; simp [List.getD_eq_getElem?_getD, hi]
  have hcv : ∀ (i : Nat) (hi : i < cs.length), cv A i = cs[i] := fun i hi => by unfold cv; rw [hat i hi]
  have hty : Typed .char A := fun i v hv => by
    have hi : i < A.slots.size := (Array.getElem?_eq_some_iff.mp hv).1
    have q := K5 i hi
    rw [hv] at q
    rw [Option.some.inj q]
    exact K6 i hi
  refine Back.mono (back hZ hw wi E V C K1 hty S hz (by omega) (by omega) (fun i hi => by rw [hcv i (by omega)]; exact hall _ (List.getElem_mem _)) hfr hlo) (fun P a hp => ⟨hp.1, hp.2.1, hp.2.2.1, by rw [e]; exact hp.2.2.2⟩) (fun P a v B hp hq => ?_)
  obtain ⟨L, ⟨q1, q2, q3, q4, q5, q6, q7, ⟨V', v1, v2, v3, v4, v5⟩, q9⟩, hl, hc, hs⟩ := hq
  refine ⟨L, ⟨q1, q2, q3, q4, q5, q6, q7, ⟨V'.cls, v3, V', v1, rfl, by rw [v4, e, hlen], K4, fun i hi => ?_, fun i hi => ?_⟩, q9⟩, hl, hc, by rw [hs, e]⟩
  · have hi' : i < cs.length := by omega
    rw [v5 i (by omega), hcv i hi']; simp [List.getD_eq_getElem?_getD, hi']
  · have hi' : i < cs.length := by omega
    simp only [List.getD_eq_getElem?_getD, List.getElem?_map, List.getElem?_eq_getElem hi', Option.map_some, Option.getD_some]
    exact fits_lo8 _
end StrChars.Road
namespace StrChars.Road
open Jvm Sem ClassFile Op Lib Jvm.Stand Jvm.Free Jvm.Free.XT
/-- WHAT COMES BACK, in the writer's own shape -/
def QV (Z : State) (x : Addr) (N : Int32) (bs : List Int32) (h : Heap) (n0 : Nat) (v : Option Value) (h' : Heap) (L : List Loc) : Prop := v = none ∧ RoadKit.Fr n0 L ∧ RoadKit.Keep h h' [x] ∧ RoadKit.Exa Z h' x ST ∧ RoadKit.Fld Z h' x ST "coder" "B" (.int 0) ∧
  ∃ (t : Addr) (kb : ClassId), n0 ≤ t ∧ h.size ≤ t ∧ ¬ t = x ∧ RoadKit.Fld Z h' x ST "value" "[B" (.ref t) ∧ RoadKit.Arv Z h' t kb .byte N (bs.map Value.int) (.int 0)
/-- **new String(chars) AT A CALL, FOR THE WRITER**: a char[] of n known ints, each 0 to 255 -/
theorem backV {p : Program} {l : Launch} {e : Env} {R : Room} {s : State} {args : Array Value} {below : List Frame} {len W : Nat} {Z : State} {a0 : Array Value} {h : Heap} (hZ : Z.Warmed39 s.vm) (hw : ∀ d ∈ words, d.before a0 Z = true) {kI : Nat} (wi : (Jvm.Cond.instantiable ST kI).before a0 Z = true)
    {x b : Addr} {kC : ClassId} {cs bs : List Int32} {d v0 c0 : Value} {z N : Int32} {n n0 : Nat} (hx0 : n0 ≤ x) (hh0 : n0 ≤ h.size) (E : RoadKit.Exa Z h x ST) (V : RoadKit.Fld Z h x ST "value" "[B" v0) (C : RoadKit.Fld Z h x ST "coder" "B" c0) (K : RoadKit.Arv Z h b kC .char N (cs.map Value.int) d) (S : RoadKit.Sta Z h ST "COMPACT_STRINGS" "Z" (.int z)) (hz : ¬ z = 0)
    (hn : cs.length = n) (hN : N = Int32.ofNat n) (l0 : 0 < n) (l2 : n ≤ 4000) (hp : ∀ c ∈ cs, ¬ c < 0 ∧ ¬ (255 : Int32) < c) (hb : bs = cs.map (fun c => c.toInt8.toInt32)) (hfr : 4 ≤ R.frames) (hlo : W + 65 ≤ R.locals) :
    Back l R p e below s args (⟨"java/lang/String", "<init>", "([C)V"⟩ : MethodName) len W (fun P a => a = #[.ref x, .ref b] ∧ P.U.heap = h ∧ P.cells + 1 ≤ R.cells ∧ P.slots + n ≤ R.slots)
      (fun P _ v B => ∃ L, QV Z x N bs h n0 v B.U.heap L ∧ B.locs = P.locs ++ L ∧ B.cells = P.cells + 1 ∧ B.slots = P.slots + n) := by
  subst hn hN hb
  refine Back.mono (backArv hZ hw wi E V C K S hz (n32 (by omega)) l0 (by omega) (fun c hc => (hp c hc).2) hfr hlo) (fun P a hp => hp) (fun P a v B hp hq => ?_)
  obtain ⟨L, ⟨q1, q2, q3, q4, q5, q6, q7, ⟨kb, v1, v2⟩, q9⟩, hl, hc, hs⟩ := hq
  exact ⟨L, ⟨q1, fun y hy => by rw [q2 y hy]; exact hx0, q3, q5, q7, h.size, kb, hh0, Nat.le_refl _, Nat.ne_of_gt E.lt, q6, by rw [List.map_map]; exact v2⟩, hl, hc, hs⟩
end StrChars.Road
namespace StrChars
open Jvm Sem ClassFile Op Lib Jvm.Stand Jvm.Free.XT Jvm.Free.ALB Jvm.Free.JM Jvm.Free
open Jvm.Lib.Cold (StaticIs)
def hi8 (x : Int32) : Int32 := lo8 (x >>> ((8 : Int32) &&& 31))
/-- what StringUTF16.getChar makes of two bytes -/
def pairCh (u v : Int32) : Int32 := (((u &&& 255) <<< ((0 : Int32) &&& 31)) ||| ((v &&& 255) <<< ((8 : Int32) &&& 31))).toUInt32.toUInt16.toUInt32.toInt32
theorem lo8_and (x : Int32) : (lo8 x &&& 255).toBitVec.toNat = x.toBitVec.toNat % 256 := by
  have h : (lo8 x).toBitVec = (x.toBitVec.signExtend 8).signExtend 32 := by rw [lo8, Int8.toBitVec_toInt32, Int32.toBitVec_toInt8]
  rw [Int32.toBitVec_and, BitVec.toNat_and, h]
  have e : ((x.toBitVec.signExtend 8).signExtend 32).toNat % 256 = x.toBitVec.toNat % 256 := by
    rw [BitVec.toNat_signExtend]
    have hlt := x.toBitVec.isLt
    simp only [BitVec.toNat_setWidth, BitVec.toNat_signExtend]
    split <;> split <;> omega
  rw [← e]
  exact Nat.and_two_pow_sub_one_eq_mod _ 8
theorem pair_says {c : Int32} (h0 : ¬ c < 0) (h1 : ¬ 65535 < c) : pairCh (lo8 c) (hi8 c) = c := by
  rw [Int32.lt_iff_toInt_lt] at h0 h1
  have e0 : (0 : Int32).toInt = 0 := rfl
  have e1 : (65535 : Int32).toInt = 65535 := rfl
  have hc : c.toInt = c.toBitVec.toNat := by
    have := c.toBitVec.isLt
    have e : c.toInt = c.toBitVec.toInt := rfl
    rw [e] at h0 h1
    rw [e]
    rw [BitVec.toInt_eq_toNat_cond] at h0 h1 ⊢
    split at h0 <;> split <;> omega
  have hn : c.toBitVec.toNat < 65536 := by omega
  have a1 := lo8_and c
  have a2 : (hi8 c &&& 255).toBitVec.toNat = c.toBitVec.toNat / 256 := by
    rw [hi8, lo8_and]
    have e : ((8 : Int32) &&& 31) = 8 := by decide
    rw [e, Int32.toBitVec_shiftRight]
    have e2 : ((8 : Int32).toBitVec.smod 32) = 8#32 := by decide
    rw [e2, BitVec.sshiftRight_eq', BitVec.toNat_sshiftRight_of_msb_false (by rw [BitVec.msb_eq_false_iff_two_mul_lt]; omega)]
    show c.toBitVec.toNat >>> 8 % 256 = _
    rw [Nat.shiftRight_eq_div_pow]
    omega
  unfold pairCh
  apply Int32.toBitVec_inj.mp
  apply BitVec.eq_of_toNat_eq
  have f0 : ((0 : Int32) &&& 31) = 0 := by decide
  have f8 : ((8 : Int32) &&& 31) = 8 := by decide
  rw [f0, f8]
  have g : (((lo8 c &&& 255) <<< (0 : Int32)) ||| ((hi8 c &&& 255) <<< (8 : Int32))).toBitVec.toNat = c.toBitVec.toNat := by
    rw [Int32.toBitVec_or, Int32.toBitVec_shiftLeft, Int32.toBitVec_shiftLeft]
    have s0 : ((0 : Int32).toBitVec.smod 32) = 0#32 := by decide
    have s8 : ((8 : Int32).toBitVec.smod 32) = 8#32 := by decide
    rw [s0, s8, BitVec.toNat_or]
    simp only [BitVec.shiftLeft_eq', BitVec.toNat_shiftLeft, a1, a2]
    show (c.toBitVec.toNat % 256) <<< 0 % 2 ^ 32 ||| (c.toBitVec.toNat / 256) <<< 8 % 2 ^ 32 = _
    rw [Nat.shiftLeft_zero, Nat.mod_eq_of_lt (show c.toBitVec.toNat % 256 < 2 ^ 32 by omega), Nat.mod_eq_of_lt (show (c.toBitVec.toNat / 256) <<< 8 < 2 ^ 32 by rw [Nat.shiftLeft_eq]; omega), Nat.or_comm, ← Nat.shiftLeft_add_eq_or_of_lt (by omega), Nat.shiftLeft_eq]
    omega
  show BitVec.toNat (((((lo8 c &&& 255) <<< (0 : Int32)) ||| ((hi8 c &&& 255) <<< (8 : Int32))).toBitVec.setWidth 16).setWidth 32) = _
  rw [BitVec.toNat_setWidth, BitVec.toNat_setWidth, g]
  omega
end StrChars
namespace StrChars
open Jvm Sem ClassFile Op Lib Jvm.Stand Jvm.Free.XT Jvm.Free.ALB Jvm.Free.JM Jvm.Free
open Jvm.Lib.Cold (StaticIs)
/-- the array's cell V codes the n chars f 0 .. f (n - 1) by the coder cd, as the JDK does: coder 1 just where some char is above 255 -/
def Cod (cd : Int32) (n : Nat) (f : Nat → Int32) (V : Cell) : Prop := (cd = 0 ∧ V.slots.size = n ∧ ∀ j, j < n → V.slots[j]? = some (.int (lo8 (f j))) ∧ ¬ 255 < f j) ∨ (cd = 1 ∧ V.slots.size = 2 * n ∧ (∀ j, j < n → V.slots[2 * j]? = some (.int (lo8 (f j))) ∧ V.slots[2 * j + 1]? = some (.int (hi8 (f j)))) ∧ ∃ j, j < n ∧ 255 < f j)
/-- **x is a String of the n chars f 0 .. f (n - 1)**, Latin-1 or UTF-16; its array at t has the cell V -/
def Txt (x t : Addr) (V : Cell) (cd : Int32) (n : Nat) (f : Nat → Int32) (U : State) : Prop := Exact "java/lang/String" x U ∧ Has x "java/lang/String" "value" "[B" (.ref t) U ∧ Has x "java/lang/String" "coder" "B" (.int cd) U ∧ XT.Arr .byte t V U ∧ Cod cd n f V ∧ ∀ j, j < n → ¬ f j < 0 ∧ ¬ 65535 < f j
theorem Txt.mv {x t : Addr} {V : Cell} {cd : Int32} {n : Nat} {f : Nat → Int32} {U U' : State} (h : Txt x t V cd n f U) (hal : U.vm.Alike U'.vm) (hh : U'.heap = U.heap) : Txt x t V cd n f U' := ⟨h.1.mv hal hh, h.2.1.mv hal hh, h.2.2.1.mv hal hh, h.2.2.2.1.mv hal hh, h.2.2.2.2⟩
end StrChars
namespace StrChars.Road
open Jvm Sem ClassFile Op Lib Jvm.Stand Jvm.Free Jvm.Free.XT
open Jvm.Lib.Cold (StaticIs)
theorem consq {a : Array Value} {s : State} {c : Jvm.Cond} {L : List Jvm.Cond} (h0 : c.before a s = true) (h : ∀ w ∈ L, w.before a s = true) : ∀ w ∈ c :: L, w.before a s = true := fun w hw => (List.mem_cons.mp hw).elim (fun e => e ▸ h0) (h w)
/-- the bytes of the chars cs, low before high -/
def wideBytes : List Int32 → List Value
  | [] => []
  | c :: cs => .int (lo8 c) :: .int (hi8 c) :: wideBytes cs
theorem wide_lo (d : Value) : ∀ (cs : List Int32) (j : Nat), j < cs.length → (wideBytes cs).getD (2 * j) d = .int (lo8 (cs.getD j 0))
  | [], j, h => absurd h (Nat.not_lt_zero j)
  | c :: cs, 0, _ => rfl
  | c :: cs, j + 1, h => by
    have q := wide_lo d cs j (by simpa using h)
    rw [show 2 * (j + 1) = 2 * j + 1 + 1 from by omega]
    simpa [wideBytes] using q
theorem wide_hi (d : Value) : ∀ (cs : List Int32) (j : Nat), j < cs.length → (wideBytes cs).getD (2 * j + 1) d = .int (hi8 (cs.getD j 0))
  | [], j, h => absurd h (Nat.not_lt_zero j)
  | c :: cs, 0, _ => rfl
  | c :: cs, j + 1, h => by
    have q := wide_hi d cs j (by simpa using h)
    rw [show 2 * (j + 1) + 1 = 2 * j + 1 + 1 + 1 from by omega]
    simpa [wideBytes] using q
theorem low_at (d : Value) (cs : List Int32) (j : Nat) (h : j < cs.length) : (cs.map fun c => Value.int (lo8 c)).getD j d = .int (lo8 (cs.getD j 0)) := by
  simp [List.getD_eq_getElem?_getD, h]
/-- an array of N2 bytes vs codes the chars cs by the coder cd -/
def CodA (cs : List Int32) (cd N2 : Int32) (vs : List Value) : Prop := (cd = 0 ∧ N2 = Int32.ofNat cs.length ∧ vs = (cs.map fun c => Value.int (lo8 c)) ∧ ∀ c ∈ cs, ¬ 255 < c) ∨ (cd = 1 ∧ N2 = Int32.ofNat (2 * cs.length) ∧ vs = wideBytes cs ∧ ∃ c ∈ cs, 255 < c)
theorem CodA.cod {cs : List Int32} {cd N2 : Int32} {vs : List Value} {V : Cell} (h : CodA cs cd N2 vs) (hn : 2 * cs.length < 2 ^ 31) (hs : V.slots.size = N2.toNatClampNeg) (hv : RoadKit.Has V vs (.int 0)) : Cod cd cs.length (fun j => cs.getD j 0) V := by
  rcases h with ⟨rfl, rfl, rfl, h⟩ | ⟨rfl, rfl, rfl, c, hc, hw⟩
  · rw [n32 (by omega)] at hs
    exact Or.inl ⟨rfl, hs, fun j hj => ⟨by rw [hv j (by omega), low_at _ _ _ hj], by
      have e : cs.getD j 0 = cs[j] := by simp [List.getD_eq_getElem?_getD, hj]
      show ¬ 255 < cs.getD j 0
      rw [e]; exact h _ (List.getElem_mem _)⟩⟩
  · rw [n32 (by omega)] at hs
    obtain ⟨j, hj, rfl⟩ := List.getElem_of_mem hc
    exact Or.inr ⟨rfl, hs, fun j hj => ⟨by rw [hv _ (by omega), wide_lo _ _ _ hj], by rw [hv _ (by omega), wide_hi _ _ _ hj]⟩, j, hj, by
      have e : cs.getD j 0 = cs[j] := by simp [List.getD_eq_getElem?_getD, hj]
      show 255 < cs.getD j 0
      rw [e]; exact hw⟩
/-- an object of exactly java/lang/String, its two fields found: as the laws ask it -/
theorem strObj {Z U : State} {a0 : Array Value} {kI : Nat} (wi : (Jvm.Cond.instantiable ST kI).before a0 Z = true) (al : Z.vm.Alike U.vm) {x : Addr} {v0 c0 : Value} (E : RoadKit.Exa Z U.heap x ST) (V : RoadKit.Fld Z U.heap x ST "value" "[B" v0) (C : RoadKit.Fld Z U.heap x ST "coder" "B" c0) :
    ∃ (D : Cell) (fV fC : Field), Blank ST x D U ∧ Found ST "value" "[B" fV U ∧ Found ST "coder" "B" fC U ∧ D.slots[fV.slot]? = some v0 ∧ D.slots[fC.slot]? = some c0 ∧ RoadKit.slotOf Z ST "value" "[B" = fV.slot ∧ RoadKit.slotOf Z ST "coder" "B" = fC.slot := by
  obtain ⟨D, cfV, kV, iV, fV, hD, gV, stV, knV, obV, asV, slV⟩ := V
  obtain ⟨D', cfC, kC, iC, fC, hD', gC, stC, -, -, asC, slC⟩ := C
  cases hD.symm.trans hD'
  obtain ⟨D2, kD, e1, e2, e3, e4, e5⟩ := E
  cases hD.symm.trans e1
  obtain ⟨c2, k2, i1, i2, i3, -⟩ := Cond.instantiable_spec wi
  cases e2.symm.trans i1
  cases e3.symm.trans i2
  obtain ⟨kU, u1, u2⟩ := al.2.2 _ _ e3
  exact ⟨D, fV, fC, ⟨hD, ⟨knV, fun q hq => by rw [hq] at obV; cases obV⟩, by rw [al.findClass]; exact e2, kU, u1, by rw [u2]; exact i3, by rw [u2]; exact e5 i3⟩, ⟨SBG.found_only al ⟨cfV, kV, iV, gV⟩, stV⟩, ⟨SBG.found_only al ⟨cfC, kC, iC, gC⟩, stC⟩, slV, slC, by simp [RoadKit.slotOf, gV], by simp [RoadKit.slotOf, gC]⟩
theorem sta_is {Z U : State} (al : Z.vm.Alike U.vm) {C n d : String} {v : Value} (S : RoadKit.Sta Z U.heap C n d v) : StaticIs U C n d v := by
  obtain ⟨cfS, iS, kS, fS, st, cS, t1, t2, t3, t4, t5, t6, t7⟩ := S
  exact StaticIs.there (s := { Z with heap := U.heap }) ⟨cfS, iS, kS, fS, st, cS, t1, t2, t3, t4, t5, (fun q => by rw [q] at t6; cases t6), t7⟩ al rfl
end StrChars.Road
namespace StrChars
open Jvm Sem ClassFile Op Lib Jvm.Stand Jvm.Free.XT Jvm.Free.ALB Jvm.Free.JM Jvm.Free
open Jvm.Lib.Cold (StaticIs)
/-- what place i of a byte[]'s cell holds -/
def yv (A : Cell) (i : Nat) : Int32 := match A.slots[i]? with | some (.int x) => x | _ => 0
theorem yv_get {a : Addr} {A : Cell} {U : State} (h : XT.Arr .byte a A U) (ht : Typed .byte A) {i : Nat} (hi : i < A.slots.size) : A.slots[i]? = some (.int (yv A i)) := by
  have e := Array.getElem?_eq_getElem hi
  have f := ht i _ e
  unfold yv; rw [e]
  generalize A.slots[i] = v at f
  cases v <;> simp [fits] at f ⊢
/-- the two arrays are equal, place for place -/
def EqC (A B : Cell) : Prop := A.slots.size = B.slots.size ∧ ∀ i, i < A.slots.size → yv A i = yv B i
/-- a boolean that says whether p -/
def Says01 (q : Prop) (r : Option Value) (s u : State) : Prop := ∃ v : Int32, r = some (.int v) ∧ u.heap = s.heap ∧ ((v = 1 ∧ q) ∨ (v = 0 ∧ ¬ q))
theorem Says01.mv {q : Prop} : ∀ r (U U' V V' : State), U'.heap = U.heap → V.vm.Alike V'.vm → V'.heap = V.heap → Says01 q r U V → Says01 q r U' V' :=
  fun r U U' V V' h1 _ h2 ⟨v, a, b, c⟩ => ⟨v, a, by rw [h1, h2]; exact b, c⟩
namespace LEq
def yN : MethodName := ⟨"java/lang/StringLatin1", "equals", "([B[B)Z"⟩
abbrev yB : ByteArray := jdk_43_method_13_code
theorem d0 : decode yB 0 = .ok (.aload_n 0, 1) := by decide +kernel
theorem d1 : decode yB 1 = .ok (.arraylength, 1) := by decide +kernel
theorem d2 : decode yB 2 = .ok (.aload_n 1, 1) := by decide +kernel
theorem d3 : decode yB 3 = .ok (.arraylength, 1) := by decide +kernel
theorem d4 : decode yB 4 = .ok (.if_icmp (.ne) 30, 3) := by decide +kernel
theorem d7 : decode yB 7 = .ok (.iconst 0, 1) := by decide +kernel
theorem d8 : decode yB 8 = .ok (.istore_n 2, 1) := by decide +kernel
theorem d9 : decode yB 9 = .ok (.iload_n 2, 1) := by decide +kernel
theorem d10 : decode yB 10 = .ok (.aload_n 0, 1) := by decide +kernel
theorem d11 : decode yB 11 = .ok (.arraylength, 1) := by decide +kernel
theorem d12 : decode yB 12 = .ok (.if_icmp (.ge) 20, 3) := by decide +kernel
theorem d15 : decode yB 15 = .ok (.aload_n 0, 1) := by decide +kernel
theorem d16 : decode yB 16 = .ok (.iload_n 2, 1) := by decide +kernel
theorem d17 : decode yB 17 = .ok (.baload, 1) := by decide +kernel
theorem d18 : decode yB 18 = .ok (.aload_n 1, 1) := by decide +kernel
theorem d19 : decode yB 19 = .ok (.iload_n 2, 1) := by decide +kernel
theorem d20 : decode yB 20 = .ok (.baload, 1) := by decide +kernel
theorem d21 : decode yB 21 = .ok (.if_icmp (.eq) 5, 3) := by decide +kernel
theorem d24 : decode yB 24 = .ok (.iconst 0, 1) := by decide +kernel
theorem d25 : decode yB 25 = .ok (.ireturn, 1) := by decide +kernel
theorem d26 : decode yB 26 = .ok (.iinc 2 1, 3) := by decide +kernel
theorem d29 : decode yB 29 = .ok (.goto (-20), 3) := by decide +kernel
theorem d32 : decode yB 32 = .ok (.iconst 1, 1) := by decide +kernel
theorem d33 : decode yB 33 = .ok (.ireturn, 1) := by decide +kernel
theorem d34 : decode yB 34 = .ok (.iconst 0, 1) := by decide +kernel
theorem d35 : decode yB 35 = .ok (.ireturn, 1) := by decide +kernel
def site : List Cond := []
def tab : Cond := tabOf yN yB 3 (some .boolean) site
def P (a : Addr) (A : Cell) (b : Addr) (B : Cell) (args : Array Value) (s : State) : Prop := args = #[.ref a, .ref b] ∧ XT.Arr .byte a A s ∧ Typed .byte A ∧ XT.Arr .byte b B s ∧ Typed .byte B
/-- whether two byte[] are equal, place for place -/
theorem law (l : Launch) (a : Addr) (A : Cell) (b : Addr) (B : Cell) : Law l yN 2 2 0 0 yB 3 (some .boolean) site (P a A b B) (Says01 (EqC A B)) [] 0 0 := by
  refine Law.of_walk (plainFor_of_name (by decide +kernel)) (by decide +kernel) (by decide +kernel) (by decide) (fun _ _ h => by rw [h.1]; rfl) (fun _ U U' hal hh h => ⟨h.1, h.2.1.mv hal hh, h.2.2.1, h.2.2.2.1.mv hal hh, h.2.2.2.2⟩) (fun r U U' V V' h1 hal h2 h => Says01.mv r U U' V V' h1 hal h2 h) ?_
  intro p e s m args below meth c s₁ X0 hexec hbytes hml hret hlk hnm hown hh0 W hP
  obtain ⟨rfl, hA, tA, hB, tB⟩ := hP
  have a31 := hA.2.2.2
  have b31 := hB.2.2.2
  have hA0 := hA.mv X0.warmed.alike hh0
  have hB0 := hB.mv X0.warmed.alike hh0
  have c1 : Steps p.tables e below (s₁.setTop (entryFrame m #[.ref a, .ref b] 3)) (s₁.setTop (mkF m 0 #[.val (.ref a), .val (.ref b), .unset] [])) := entry rfl
  have c2 : Steps p.tables e below (s₁.setTop (entryFrame m #[.ref a, .ref b] 3)) (s₁.setTop (mkF m 4 #[.val (.ref a), .val (.ref b), .unset] [.int (Int32.ofNat B.slots.size), .int (Int32.ofNat A.slots.size)])) := c1.trans (by
    refine XS.aloadN X0.here hexec rfl (hb hbytes d0) rfl rfl ?_
    refine X0.alen hexec hA0 rfl rfl (hb hbytes d1) ?_
    refine XS.aloadN X0.here hexec rfl (hb hbytes d2) rfl rfl ?_
    refine X0.alen hexec hB0 rfl rfl (hb hbytes d3) ?_
    exact Steps.refl _)
  by_cases hs : A.slots.size = B.slots.size
  · have c3 : Steps p.tables e below (s₁.setTop (entryFrame m #[.ref a, .ref b] 3)) (s₁.setTop (mkF m 9 #[.val (.ref a), .val (.ref b), .val (.int 0)] [])) := c2.trans (by
      refine XS.icmpNo X0.here hexec rfl (hb hbytes d4) rfl (ii_ne_f (by rw [hs])) ?_
      refine iconstV X0.here hexec rfl 0 (hb hbytes d7) (by decide) ?_
      refine XS.istoreN X0.here hexec rfl (hb hbytes d8) rfl rfl ?_
      exact Steps.refl _)
    have loop : ∀ (r i : Nat), i + r = A.slots.size → (∀ j, j < i → yv A j = yv B j) → Steps p.tables e below (s₁.setTop (entryFrame m #[.ref a, .ref b] 3)) (s₁.setTop (mkF m 9 #[.val (.ref a), .val (.ref b), .val (.int (Int32.ofNat i))] [])) → ∃ (pc : Nat) (Ls : Array Slot) (v : Int32), (pc = 25 ∨ pc = 33) ∧ ((v = 1 ∧ EqC A B) ∨ (v = 0 ∧ ¬ EqC A B)) ∧ Steps p.tables e below (s₁.setTop (entryFrame m #[.ref a, .ref b] 3)) (s₁.setTop (mkF m pc Ls [.int v])) := by
      intro r
      induction r with
      | zero =>
        intro i hi he cl
        exact ⟨33, _, 1, Or.inr rfl, Or.inl ⟨rfl, hs, fun j hj => he j (by omega)⟩, cl.trans (by
          refine XS.iloadN X0.here hexec rfl (hb hbytes d9) rfl ?_
          refine XS.aloadN X0.here hexec rfl (hb hbytes d10) rfl rfl ?_
          refine X0.alen hexec hA0 rfl rfl (hb hbytes d11) ?_
          refine XS.icmpYes X0.here hexec rfl (pc0 := 12) rfl (hb hbytes d12) rfl (ii_ge_t (nlt32 (by omega) (by omega))) (by decide) rfl ?_
          refine iconstV X0.here hexec rfl 1 (hb hbytes d32) (by decide) ?_
          exact Steps.refl _)⟩
      | succ r ih =>
        intro i hi he cl
        have c4 : Steps p.tables e below (s₁.setTop (entryFrame m #[.ref a, .ref b] 3)) (s₁.setTop (mkF m 21 #[.val (.ref a), .val (.ref b), .val (.int (Int32.ofNat i))] [.int (yv B i), .int (yv A i)])) := cl.trans (by
          refine XS.iloadN X0.here hexec rfl (hb hbytes d9) rfl ?_
          refine XS.aloadN X0.here hexec rfl (hb hbytes d10) rfl rfl ?_
          refine X0.alen hexec hA0 rfl rfl (hb hbytes d11) ?_
          refine XS.icmpNo X0.here hexec rfl (hb hbytes d12) rfl (ii_ge_f (lt32 (by omega) (by omega))) ?_
          refine XS.aloadN X0.here hexec rfl (hb hbytes d15) rfl rfl ?_
          refine XS.iloadN X0.here hexec rfl (hb hbytes d16) rfl ?_
          refine X0.aget hexec hA0 rfl (yv_get hA tA (i := i) (by omega)) rfl rfl (hb hbytes d17) ?_
          refine XS.aloadN X0.here hexec rfl (hb hbytes d18) rfl rfl ?_
          refine XS.iloadN X0.here hexec rfl (hb hbytes d19) rfl ?_
          refine X0.aget hexec hB0 rfl (yv_get hB tB (i := i) (by omega)) rfl rfl (hb hbytes d20) ?_
          exact Steps.refl _)
        by_cases hv : yv A i = yv B i
        · have c5 : Steps p.tables e below (s₁.setTop (entryFrame m #[.ref a, .ref b] 3)) (s₁.setTop (mkF m 9 #[.val (.ref a), .val (.ref b), .val (.int (Int32.ofNat i + 1))] [])) := c4.trans (by
            refine XS.icmpYes X0.here hexec rfl (pc0 := 21) rfl (hb hbytes d21) rfl (ii_eq_t hv) (by decide) rfl ?_
            refine iincV X0.here hexec rfl 1 (hb hbytes d26) (by decide) rfl rfl ?_
            refine XS.goto X0.here hexec rfl (pc0 := 29) rfl (hb hbytes d29) (by decide) rfl ?_
            exact Steps.refl _)
          rw [succ32] at c5
          exact ih (i + 1) (by omega) (fun j hj => by
            by_cases e : j = i
            · rw [e]; exact hv
            · exact he j (by omega)) c5
        · exact ⟨25, _, 0, Or.inl rfl, Or.inr ⟨rfl, fun q => hv (q.2 i (by omega))⟩, c4.trans (by
            refine XS.icmpNo X0.here hexec rfl (hb hbytes d21) rfl (ii_eq_f hv) ?_
            refine iconstV X0.here hexec rfl 0 (hb hbytes d24) (by decide) ?_
            exact Steps.refl _)⟩
    obtain ⟨pc, Ls, v, hpc, hv, cz⟩ := loop A.slots.size 0 (by omega) (fun j hj => absurd hj (Nat.not_lt_zero j)) c3
    have nv : narrow .boolean (.int v) = .int v := by rcases hv with ⟨rfl, -⟩ | ⟨rfl, -⟩ <;> rfl
    rcases hpc with rfl | rfl
    · exact ⟨s₁, some (.int v), _, _, _, X0, rfl, rfl, rfl, (fun h => by cases h), ⟨v, rfl, hh0, hv⟩, fun fs hl => cz.trans (X0.ireturnOut hexec hret nv (Or.inr (Or.inl rfl)) (hb hbytes d25) hl)⟩
    · exact ⟨s₁, some (.int v), _, _, _, X0, rfl, rfl, rfl, (fun h => by cases h), ⟨v, rfl, hh0, hv⟩, fun fs hl => cz.trans (X0.ireturnOut hexec hret nv (Or.inr (Or.inl rfl)) (hb hbytes d33) hl)⟩
  · have c3 : Steps p.tables e below (s₁.setTop (entryFrame m #[.ref a, .ref b] 3)) (s₁.setTop (mkF m 35 #[.val (.ref a), .val (.ref b), .unset] [.int 0])) := c2.trans (by
      refine XS.icmpYes X0.here hexec rfl (pc0 := 4) rfl (hb hbytes d4) rfl (ii_ne_t (ne32 a31 b31 hs)) (by decide) rfl ?_
      refine iconstV X0.here hexec rfl 0 (hb hbytes d34) (by decide) ?_
      exact Steps.refl _)
    exact ⟨s₁, some (.int 0), _, _, _, X0, rfl, rfl, rfl, (fun h => by cases h), ⟨0, rfl, hh0, Or.inr ⟨rfl, fun q => hs q.1⟩⟩, fun fs hl => c3.trans (X0.ireturnOut hexec hret rfl (Or.inr (Or.inl rfl)) (hb hbytes d35) hl)⟩
end LEq
theorem Cod.ty {cd : Int32} {n : Nat} {f : Nat → Int32} {V : Cell} (h : Cod cd n f V) : Typed .byte V := fun i v hv => by
  have hi : i < V.slots.size := (Array.getElem?_eq_some_iff.mp hv).1
  rcases h with ⟨-, k1, k2⟩ | ⟨-, k1, k2, -⟩
  · rw [(k2 i (by omega)).1] at hv; cases hv; exact fits_lo8 _
  · rcases Nat.mod_two_eq_zero_or_one i with e | e
    · obtain ⟨j, rfl⟩ : ∃ j, i = 2 * j := ⟨i / 2, by omega⟩
      rw [(k2 j (by omega)).1] at hv; cases hv; exact fits_lo8 _
    · obtain ⟨j, rfl⟩ : ∃ j, i = 2 * j + 1 := ⟨i / 2, by omega⟩
      rw [(k2 j (by omega)).2] at hv; cases hv; exact fits_lo8 _
/-- the same text -/
def SameT (n : Nat) (f : Nat → Int32) (k : Nat) (g : Nat → Int32) : Prop := n = k ∧ ∀ j, j < n → f j = g j
theorem lo8_inj {x y : Int32} (h0 : ¬ x < 0) (h1 : ¬ 255 < x) (k0 : ¬ y < 0) (k1 : ¬ 255 < y) (h : lo8 x = lo8 y) : x = y := by
  rw [← lo8_mask h0 h1, ← lo8_mask k0 k1, h]
/-- arrays coded by one coder are equal just where the texts are -/
theorem Cod.eqv {cd : Int32} {n k : Nat} {f g : Nat → Int32} {V V' : Cell} (h : Cod cd n f V) (h' : Cod cd k g V') (hf : ∀ j, j < n → ¬ f j < 0 ∧ ¬ 65535 < f j) (hg : ∀ j, j < k → ¬ g j < 0 ∧ ¬ 65535 < g j) : EqC V V' ↔ SameT n f k g := by
  have yvv : ∀ {W : Cell} {i : Nat} {x : Int32}, W.slots[i]? = some (.int x) → yv W i = x := fun q => by unfold yv; rw [q]
  rcases h with ⟨rfl, k1, k2⟩ | ⟨rfl, k1, k2, -⟩
  · rcases h' with ⟨-, m1, m2⟩ | ⟨e, -⟩
    · constructor
      · rintro ⟨e1, e2⟩
        refine ⟨by omega, fun j hj => ?_⟩
        have q := e2 j (by omega)
        rw [yvv (k2 j hj).1, yvv (m2 j (by omega)).1] at q
        exact lo8_inj (hf j hj).1 (k2 j hj).2 (hg j (by omega)).1 (m2 j (by omega)).2 q
      · rintro ⟨rfl, e2⟩
        refine ⟨by omega, fun j hj => ?_⟩
        rw [yvv (k2 j (by omega)).1, yvv (m2 j (by omega)).1, e2 j (by omega)]
    · exact absurd e (by decide)
  · rcases h' with ⟨e, -⟩ | ⟨-, m1, m2, -⟩
    · exact absurd e (by decide)
    · constructor
      · rintro ⟨e1, e2⟩
        refine ⟨by omega, fun j hj => ?_⟩
        have q1 := e2 (2 * j) (by omega)
        have q2 := e2 (2 * j + 1) (by omega)
        rw [yvv (k2 j hj).1, yvv (m2 j (by omega)).1] at q1
        rw [yvv (k2 j hj).2, yvv (m2 j (by omega)).2] at q2
        rw [← pair_says (hf j hj).1 (hf j hj).2, ← pair_says (hg j (by omega)).1 (hg j (by omega)).2, q1, q2]
      · rintro ⟨rfl, e2⟩
        refine ⟨by omega, fun i hi => ?_⟩
        rcases Nat.mod_two_eq_zero_or_one i with e | e
        · obtain ⟨j, rfl⟩ : ∃ j, i = 2 * j := ⟨i / 2, by omega⟩
          rw [yvv (k2 j (by omega)).1, yvv (m2 j (by omega)).1, e2 j (by omega)]
        · obtain ⟨j, rfl⟩ : ∃ j, i = 2 * j + 1 := ⟨i / 2, by omega⟩
          rw [yvv (k2 j (by omega)).2, yvv (m2 j (by omega)).2, e2 j (by omega)]
/-- two codings differ: so do the texts -/
theorem Cod.dif {cd cd' : Int32} {n k : Nat} {f g : Nat → Int32} {V V' : Cell} (h : Cod cd n f V) (h' : Cod cd' k g V') (hne : ¬ cd = cd') : ¬ SameT n f k g := by
  rintro ⟨rfl, e⟩
  rcases h with ⟨rfl, -, k2⟩ | ⟨rfl, -, -, j, hj, hw⟩
  · rcases h' with ⟨rfl, -⟩ | ⟨-, -, -, j, hj, hw⟩
    · exact hne rfl
    · exact (k2 j hj).2 (by rw [e j hj]; exact hw)
  · rcases h' with ⟨-, -, m2⟩ | ⟨rfl, -⟩
    · exact (m2 j hj).2 (by rw [← e j hj]; exact hw)
    · exact hne rfl
/-- an object of exactly C is an instance of C -/
theorem cinst {p : Program} {l : Launch} {e : Env} {R : Room} {s : State} {m : MethodId} {args : Array Value} {below : List Frame} {meth : Method} {c : Code} {T : State} {locs : List Loc} {cells slots : Nat} (X : Stand p l e R s m args below meth c T locs cells slots) (hexec : p.tables.exec = Jvm.exec) {own C : String} {index : Nat} (hown : s.vm.findClass own = some m.cls) (hlink : (Cond.classLink own index C).before args s = true) {a : Addr} (hE : Exact C a T)
    {g : JFrame} (hg : g.method = m) {rest : List Value} (hstack : g.stack = .ref a :: rest) (hdg : decode c.code g.pc = .ok (.instanceof index, 3)) :
    ∃ T', Stand p l e R s m args below meth c T' locs cells slots ∧ T'.heap = T.heap ∧ ∀ target, Steps p.tables e below (T'.setTop { g with pc := g.pc + 3, stack := .int 1 :: rest }) target → Steps p.tables e below (T.setTop g) target := by
  obtain ⟨cB, h1, D, h2, h3, h4⟩ := hE
  have h1' : s.vm.findClass C = some cB := by rw [← X.warmed.alike.findClass]; exact h1
  obtain ⟨vm', X', st⟩ := X.instanceofYes hexec hown hlink h2 h4 h1' (by rw [h3]; exact Jvm.Free.SB.assignable_self _ _) hg hstack hdg
  exact ⟨_, X', rfl, st⟩
theorem cself {p : Program} {l : Launch} {e : Env} {R : Room} {s : State} {m : MethodId} {args : Array Value} {below : List Frame} {meth : Method} {c : Code} {T : State} {locs : List Loc} {cells slots : Nat} (X : Stand p l e R s m args below meth c T locs cells slots) (hexec : p.tables.exec = Jvm.exec) {own C : String} {index : Nat} (hown : s.vm.findClass own = some m.cls) (hlink : (Cond.classLink own index C).before args s = true) {a : Addr} (hE : Exact C a T)
    {g : JFrame} (hg : g.method = m) {rest : List Value} (hstack : g.stack = .ref a :: rest) (hdg : decode c.code g.pc = .ok (.checkcast index, 3)) :
    ∃ T', Stand p l e R s m args below meth c T' locs cells slots ∧ T'.heap = T.heap ∧ ∀ target, Steps p.tables e below (T'.setTop { g with pc := g.pc + 3, stack := .ref a :: rest }) target → Steps p.tables e below (T.setTop g) target := by
  obtain ⟨cB, h1, D, h2, h3, h4⟩ := hE
  have h1' : s.vm.findClass C = some cB := by rw [← X.warmed.alike.findClass]; exact h1
  obtain ⟨vm', X', st⟩ := X.checkcastYes hexec hown hlink h2 h4 h1' (by rw [h3]; exact Jvm.Free.SB.assignable_self _ _) hg hstack hdg
  exact ⟨_, X', rfl, fun t h => st t (by rw [← hstack] at h; exact h)⟩
namespace SEq
def yN : MethodName := ⟨"java/lang/String", "equals", "(Ljava/lang/Object;)Z"⟩
abbrev yB : ByteArray := jdk_42_method_66_code
theorem d0 : decode yB 0 = .ok (.aload_n 0, 1) := by decide +kernel
theorem d1 : decode yB 1 = .ok (.aload_n 1, 1) := by decide +kernel
theorem d2 : decode yB 2 = .ok (.if_acmp (.ne) 5, 3) := by decide +kernel
theorem d5 : decode yB 5 = .ok (.iconst 1, 1) := by decide +kernel
theorem d6 : decode yB 6 = .ok (.ireturn, 1) := by decide +kernel
theorem d7 : decode yB 7 = .ok (.aload_n 1, 1) := by decide +kernel
theorem d8 : decode yB 8 = .ok (.instanceof 10, 3) := by decide +kernel
theorem d11 : decode yB 11 = .ok (.ifCond (.eq) 43, 3) := by decide +kernel
theorem d14 : decode yB 14 = .ok (.aload_n 1, 1) := by decide +kernel
theorem d15 : decode yB 15 = .ok (.checkcast 10, 3) := by decide +kernel
theorem d18 : decode yB 18 = .ok (.astore_n 2, 1) := by decide +kernel
theorem d19 : decode yB 19 = .ok (.getstatic 38, 3) := by decide +kernel
theorem d22 : decode yB 22 = .ok (.ifCond (.eq) 14, 3) := by decide +kernel
theorem d25 : decode yB 25 = .ok (.aload_n 0, 1) := by decide +kernel
theorem d26 : decode yB 26 = .ok (.getfield 15, 3) := by decide +kernel
theorem d29 : decode yB 29 = .ok (.aload_n 2, 1) := by decide +kernel
theorem d30 : decode yB 30 = .ok (.getfield 15, 3) := by decide +kernel
theorem d33 : decode yB 33 = .ok (.if_icmp (.ne) 21, 3) := by decide +kernel
theorem d36 : decode yB 36 = .ok (.aload_n 0, 1) := by decide +kernel
theorem d37 : decode yB 37 = .ok (.getfield 9, 3) := by decide +kernel
theorem d40 : decode yB 40 = .ok (.aload_n 2, 1) := by decide +kernel
theorem d41 : decode yB 41 = .ok (.getfield 9, 3) := by decide +kernel
theorem d44 : decode yB 44 = .ok (.invokestatic 541, 3) := by decide +kernel
theorem d47 : decode yB 47 = .ok (.ifCond (.eq) 7, 3) := by decide +kernel
theorem d50 : decode yB 50 = .ok (.iconst 1, 1) := by decide +kernel
theorem d51 : decode yB 51 = .ok (.goto 4, 3) := by decide +kernel
theorem d54 : decode yB 54 = .ok (.iconst 0, 1) := by decide +kernel
theorem d55 : decode yB 55 = .ok (.ireturn, 1) := by decide +kernel
def site : List Cond := [.classLink "java/lang/String" 10 "java/lang/String", .fieldLink "java/lang/String" 38 "java/lang/String" "COMPACT_STRINGS" "Z", .fieldLink "java/lang/String" 15 "java/lang/String" "coder" "B", .fieldLink "java/lang/String" 9 "java/lang/String" "value" "[B", LEq.tab] ++ staticW "java/lang/String" 541 LEq.yN
def tab : Cond := tabOf yN yB 3 (some .boolean) site
def P (x t : Addr) (V : Cell) (cd : Int32) (n : Nat) (f : Nat → Int32) (y t' : Addr) (V' : Cell) (cd' : Int32) (k : Nat) (g : Nat → Int32) (z : Int32) (args : Array Value) (s : State) : Prop := args = #[.ref x, .ref y] ∧ Txt x t V cd n f s ∧ Txt y t' V' cd' k g s ∧ StaticIs s "java/lang/String" "COMPACT_STRINGS" "Z" (.int z) ∧ ¬ z = 0
/-- equals(Object) of two Strings: whether the texts are the same -/
theorem law (l : Launch) (x t : Addr) (V : Cell) (cd : Int32) (n : Nat) (f : Nat → Int32) (y t' : Addr) (V' : Cell) (cd' : Int32) (k : Nat) (g : Nat → Int32) (z : Int32) : Law l yN 2 1 1 14 yB 3 (some .boolean) site (P x t V cd n f y t' V' cd' k g z) (Says01 (SameT n f k g)) [] 0 0 := by
  refine Law.of_walk (plainFor_of_name (by decide +kernel)) (by decide +kernel) (by decide +kernel) (by decide) (fun _ _ h => by rw [h.1]; rfl) (fun _ U U' hal hh h => ⟨h.1, h.2.1.mv hal hh, h.2.2.1.mv hal hh, h.2.2.2.1.there hal hh, h.2.2.2.2⟩) (fun r U U' V V' h1 hal h2 h => Says01.mv r U U' V V' h1 hal h2 h) ?_
  intro p e s m args below meth c s₁ X0 hexec hbytes hml hret hlk hnm hown hh0 W hP
  obtain ⟨rfl, hx, hy, s1, hz⟩ := hP
  have c1 : Steps p.tables e below (s₁.setTop (entryFrame m #[.ref x, .ref y] 3)) (s₁.setTop (mkF m 2 #[.val (.ref x), .val (.ref y), .unset] [.ref y, .ref x])) := Steps.trans (entry rfl) (by
    show Steps p.tables e below (s₁.setTop (mkF m 0 #[.val (.ref x), .val (.ref y), .unset] [])) _
    refine XS.aloadN X0.here hexec rfl (hb hbytes d0) rfl rfl ?_
    refine XS.aloadN X0.here hexec rfl (hb hbytes d1) rfl rfl ?_
    exact Steps.refl _)
  by_cases hxy : x = y
  · have c2 : Steps p.tables e below (s₁.setTop (entryFrame m #[.ref x, .ref y] 3)) (s₁.setTop (mkF m 6 #[.val (.ref x), .val (.ref y), .unset] [.int 1])) := c1.trans (by
      refine acmpNo X0.here hexec rfl (hb hbytes d2) rfl rfl rfl (by simp [acmp, hxy]) ?_
      refine iconstV X0.here hexec rfl 1 (hb hbytes d5) (by decide) ?_
      exact Steps.refl _)
    subst hxy
    have ec : cd = cd' := by
      obtain ⟨D, fd, a1, a2, a3⟩ := hx.2.2.1
      obtain ⟨D', fd', b1, b2, b3⟩ := hy.2.2.1
      cases a1.symm.trans b1
      obtain ⟨q1, q2, q3, q4⟩ := a2.1
      obtain ⟨r1, r2, r3, r4⟩ := b2.1
      cases q4.symm.trans r4
      cases a3.symm.trans b3; rfl
    have et : t = t' := by
      obtain ⟨D, fd, a1, a2, a3⟩ := hx.2.1
      obtain ⟨D', fd', b1, b2, b3⟩ := hy.2.1
      cases a1.symm.trans b1
      obtain ⟨q1, q2, q3, q4⟩ := a2.1
      obtain ⟨r1, r2, r3, r4⟩ := b2.1
      cases q4.symm.trans r4
      cases a3.symm.trans b3; rfl
    subst ec et
    have ev : V = V' := by cases hx.2.2.2.1.1.symm.trans hy.2.2.2.1.1; rfl
    subst ev
    have hs : SameT n f k g := (Cod.eqv hx.2.2.2.2.1 hy.2.2.2.2.1 hx.2.2.2.2.2 hy.2.2.2.2.2).mp ⟨rfl, fun _ _ => rfl⟩
    exact ⟨s₁, some (.int 1), _, _, _, X0, rfl, rfl, rfl, (fun h => by cases h), ⟨1, rfl, hh0, Or.inl ⟨rfl, hs⟩⟩, fun fs hl => c2.trans (X0.ireturnOut hexec hret rfl (Or.inr (Or.inl rfl)) (hb hbytes d6) hl)⟩
  · have c2 : Steps p.tables e below (s₁.setTop (entryFrame m #[.ref x, .ref y] 3)) (s₁.setTop (mkF m 8 #[.val (.ref x), .val (.ref y), .unset] [.ref y])) := c1.trans (by
      refine acmpYes X0.here hexec rfl (pc0 := 2) rfl (hb hbytes d2) rfl rfl rfl (by simp [acmp, hxy]) (by decide) rfl ?_
      refine XS.aloadN X0.here hexec rfl (hb hbytes d7) rfl rfl ?_
      exact Steps.refl _)
    obtain ⟨T3, X3, q3, st3⟩ := cinst X0 hexec hown (wk W (.classLink "java/lang/String" 10 "java/lang/String")) (hy.mv X0.warmed.alike hh0).1 (g := (mkF m 8 #[.val (.ref x), .val (.ref y), .unset] [.ref y])) rfl (rest := []) rfl (hb hbytes d8)
    have hh3 := q3.trans hh0
    have c4 : Steps p.tables e below (s₁.setTop (entryFrame m #[.ref x, .ref y] 3)) (T3.setTop (mkF m 15 #[.val (.ref x), .val (.ref y), .unset] [.ref y])) := (c2.trans (st3 _ (Steps.refl _))).trans (by
      refine XS.ifNo X3.here hexec rfl (hb hbytes d11) rfl (i0_eq_f (by decide)) ?_
      refine XS.aloadN X3.here hexec rfl (hb hbytes d14) rfl rfl ?_
      exact Steps.refl _)
    obtain ⟨T5, X5, q5, st5⟩ := cself X3 hexec hown (wk W (.classLink "java/lang/String" 10 "java/lang/String")) (hy.mv X3.warmed.alike hh3).1 (g := (mkF m 15 #[.val (.ref x), .val (.ref y), .unset] [.ref y])) rfl (rest := []) rfl (hb hbytes d15)
    have hh5 := q5.trans hh3
    have c6 : Steps p.tables e below (s₁.setTop (entryFrame m #[.ref x, .ref y] 3)) (T5.setTop (mkF m 19 #[.val (.ref x), .val (.ref y), .val (.ref y)] [])) := (c4.trans (st5 _ (Steps.refl _))).trans (by
      refine XS.astoreN X5.here hexec rfl (hb hbytes d18) rfl rfl rfl ?_
      exact Steps.refl _)
    obtain ⟨T7, X7, q7, st7⟩ := X5.sget hexec hown (wk W (.fieldLink "java/lang/String" 38 "java/lang/String" "COMPACT_STRINGS" "Z")) s1 (fun _ _ h => by rw [hh5]; exact h) (g := (mkF m 19 #[.val (.ref x), .val (.ref y), .val (.ref y)] [])) rfl (hb hbytes d19)
    have hh7 := q7.trans hh5
    have c8 : Steps p.tables e below (s₁.setTop (entryFrame m #[.ref x, .ref y] 3)) (T7.setTop (mkF m 26 #[.val (.ref x), .val (.ref y), .val (.ref y)] [.ref x])) := (c6.trans (st7 _ (Steps.refl _))).trans (by
      refine XS.ifNo X7.here hexec rfl (hb hbytes d22) rfl (i0_eq_f hz) ?_
      refine XS.aloadN X7.here hexec rfl (hb hbytes d25) rfl rfl ?_
      exact Steps.refl _)
    obtain ⟨T9, X9, q9, st9⟩ := X7.hget hexec hown (wk W (.fieldLink "java/lang/String" 15 "java/lang/String" "coder" "B")) (hx.mv X7.warmed.alike hh7).2.2.1 (g := (mkF m 26 #[.val (.ref x), .val (.ref y), .val (.ref y)] [.ref x])) rfl (rest := []) rfl (hb hbytes d26)
    have hh9 := q9.trans hh7
    have c10 : Steps p.tables e below (s₁.setTop (entryFrame m #[.ref x, .ref y] 3)) (T9.setTop (mkF m 30 #[.val (.ref x), .val (.ref y), .val (.ref y)] [.ref y, .int cd])) := (c8.trans (st9 _ (Steps.refl _))).trans (by
      refine XS.aloadN X9.here hexec rfl (hb hbytes d29) rfl rfl ?_
      exact Steps.refl _)
    obtain ⟨T11, X11, q11, st11⟩ := X9.hget hexec hown (wk W (.fieldLink "java/lang/String" 15 "java/lang/String" "coder" "B")) (hy.mv X9.warmed.alike hh9).2.2.1 (g := (mkF m 30 #[.val (.ref x), .val (.ref y), .val (.ref y)] [.ref y, .int cd])) rfl (rest := [.int cd]) rfl (hb hbytes d30)
    have hh11 := q11.trans hh9
    have c12 : Steps p.tables e below (s₁.setTop (entryFrame m #[.ref x, .ref y] 3)) (T11.setTop (mkF m 33 #[.val (.ref x), .val (.ref y), .val (.ref y)] [.int cd', .int cd])) := c10.trans (st11 _ (Steps.refl _))
    by_cases hcd : cd = cd'
    · subst hcd
      have c13 : Steps p.tables e below (s₁.setTop (entryFrame m #[.ref x, .ref y] 3)) (T11.setTop (mkF m 37 #[.val (.ref x), .val (.ref y), .val (.ref y)] [.ref x])) := c12.trans (by
        refine XS.icmpNo X11.here hexec rfl (hb hbytes d33) rfl (ii_ne_f rfl) ?_
        refine XS.aloadN X11.here hexec rfl (hb hbytes d36) rfl rfl ?_
        exact Steps.refl _)
      obtain ⟨T14, X14, q14, st14⟩ := X11.hget hexec hown (wk W (.fieldLink "java/lang/String" 9 "java/lang/String" "value" "[B")) (hx.mv X11.warmed.alike hh11).2.1 (g := (mkF m 37 #[.val (.ref x), .val (.ref y), .val (.ref y)] [.ref x])) rfl (rest := []) rfl (hb hbytes d37)
      have hh14 := q14.trans hh11
      have c15 : Steps p.tables e below (s₁.setTop (entryFrame m #[.ref x, .ref y] 3)) (T14.setTop (mkF m 41 #[.val (.ref x), .val (.ref y), .val (.ref y)] [.ref y, .ref t])) := (c13.trans (st14 _ (Steps.refl _))).trans (by
        refine XS.aloadN X14.here hexec rfl (hb hbytes d40) rfl rfl ?_
        exact Steps.refl _)
      obtain ⟨T16, X16, q16, st16⟩ := X14.hget hexec hown (wk W (.fieldLink "java/lang/String" 9 "java/lang/String" "value" "[B")) (hy.mv X14.warmed.alike hh14).2.1 (g := (mkF m 41 #[.val (.ref x), .val (.ref y), .val (.ref y)] [.ref y, .ref t])) rfl (rest := [.ref t]) rfl (hb hbytes d41)
      have hh16 := q16.trans hh14
      have c17 : Steps p.tables e below (s₁.setTop (entryFrame m #[.ref x, .ref y] 3)) (T16.setTop (mkF m 44 #[.val (.ref x), .val (.ref y), .val (.ref y)] [.ref t', .ref t])) := c15.trans (st16 _ (Steps.refl _))
      obtain ⟨v18, T18, X18, E18, g18⟩ := X16.callS hexec (LEq.law l t V t' V') hown (wks W (staticW "java/lang/String" 541 LEq.yN)) (wk W LEq.tab) (W := 0) (Nat.le_of_ble_eq_true rfl) (Nat.le_of_ble_eq_true rfl) (Nat.le_refl _) (Nat.le_refl _) (g := (mkF m 44 #[.val (.ref x), .val (.ref y), .val (.ref y)] [.ref t', .ref t])) rfl (by rw [hml]; rfl) c17 (argsL := [.ref t, .ref t']) (rest := []) rfl rfl (by show 2 * 0 + 0 ≤ _; decide) (hb hbytes d44) (⟨rfl, hx.2.2.2.1.mv X16.warmed.alike hh16, hx.2.2.2.2.1.ty, hy.2.2.2.1.mv X16.warmed.alike hh16, hy.2.2.2.2.1.ty⟩)
      obtain ⟨v, rfl, q18, hv⟩ := E18
      have iff := Cod.eqv hx.2.2.2.2.1 hy.2.2.2.2.1 hx.2.2.2.2.2 hy.2.2.2.2.2
      rcases hv with ⟨rfl, he⟩ | ⟨rfl, he⟩
      · have c19 : Steps p.tables e below (s₁.setTop (entryFrame m #[.ref x, .ref y] 3)) (T18.setTop (mkF m 55 #[.val (.ref x), .val (.ref y), .val (.ref y)] [.int 1])) := Steps.trans g18 (by
          refine XS.ifNo X18.here hexec rfl (hb hbytes d47) rfl (i0_eq_f (by decide)) ?_
          refine iconstV X18.here hexec rfl 1 (hb hbytes d50) (by decide) ?_
          refine XS.goto X18.here hexec rfl (pc0 := 51) rfl (hb hbytes d51) (by decide) rfl ?_
          exact Steps.refl _)
        exact ⟨T18, some (.int 1), _, _, _, X18, rfl, rfl, rfl, (fun h => by cases h), ⟨1, rfl, q18.trans hh16, Or.inl ⟨rfl, iff.mp he⟩⟩, fun fs hl => c19.trans (X18.ireturnOut hexec hret rfl (Or.inr (Or.inl rfl)) (hb hbytes d55) hl)⟩
      · have c19 : Steps p.tables e below (s₁.setTop (entryFrame m #[.ref x, .ref y] 3)) (T18.setTop (mkF m 55 #[.val (.ref x), .val (.ref y), .val (.ref y)] [.int 0])) := Steps.trans g18 (by
          refine XS.ifYes X18.here hexec rfl (pc0 := 47) rfl (hb hbytes d47) rfl (i0_eq_t rfl) (by decide) rfl ?_
          refine iconstV X18.here hexec rfl 0 (hb hbytes d54) (by decide) ?_
          exact Steps.refl _)
        exact ⟨T18, some (.int 0), _, _, _, X18, rfl, rfl, rfl, (fun h => by cases h), ⟨0, rfl, q18.trans hh16, Or.inr ⟨rfl, fun q => he (iff.mpr q)⟩⟩, fun fs hl => c19.trans (X18.ireturnOut hexec hret rfl (Or.inr (Or.inl rfl)) (hb hbytes d55) hl)⟩
    · have c13 : Steps p.tables e below (s₁.setTop (entryFrame m #[.ref x, .ref y] 3)) (T11.setTop (mkF m 55 #[.val (.ref x), .val (.ref y), .val (.ref y)] [.int 0])) := c12.trans (by
        refine XS.icmpYes X11.here hexec rfl (pc0 := 33) rfl (hb hbytes d33) rfl (ii_ne_t hcd) (by decide) rfl ?_
        refine iconstV X11.here hexec rfl 0 (hb hbytes d54) (by decide) ?_
        exact Steps.refl _)
      exact ⟨T11, some (.int 0), _, _, _, X11, rfl, rfl, rfl, (fun h => by cases h), ⟨0, rfl, hh11, Or.inr ⟨rfl, Cod.dif hx.2.2.2.2.1 hy.2.2.2.2.1 hcd⟩⟩, fun fs hl => c13.trans (X11.ireturnOut hexec hret rfl (Or.inr (Or.inl rfl)) (hb hbytes d55) hl)⟩
theorem pays {l : Launch} {R : Room} {p : Program} {e : Env} {below : List Frame} {s : State} {sargs : Array Value} {len W : Nat} (x t : Addr) (V : Cell) (cd : Int32) (n : Nat) (f : Nat → Int32) (y t' : Addr) (V' : Cell) (cd' : Int32) (k : Nat) (g : Nat → Int32) (z : Int32) (htab : tab.before sargs s = true) (hfr : 2 ≤ R.frames) (hlo : W + 28 ≤ R.locals) :
    Back l R p e below s sargs yN len W (fun A₁ a₁ => A₁.cells + 0 ≤ R.cells ∧ A₁.slots + 0 ≤ R.slots ∧ P x t V cd n f y t' V' cd' k g z a₁ A₁.U) (fun A₁ _ v₁ B₁ => Says01 (SameT n f k g) v₁ A₁.U B₁.U ∧ B₁.locs = A₁.locs ++ [] ∧ B₁.cells = A₁.cells + 0 ∧ B₁.slots = A₁.slots + 0) :=
  (law l x t V cd n f y t' V' cd' k g z).pays htab hfr (by omega)
end SEq
end StrChars
namespace StrChars.Road
open Jvm Sem ClassFile Op Lib Jvm.Stand Jvm.Free Jvm.Free.XT
open Jvm.Lib.Cold (StaticIs)
/-- the words of String.equals(Object) -/
abbrev wordsEq : List Jvm.Cond := [.code SEq.yN SEq.yB 3 (some .boolean), .initialized ST, .classLink ST 10 ST, .fieldLink ST 38 ST "COMPACT_STRINGS" "Z", .fieldLink ST 15 ST "coder" "B", .fieldLink ST 9 ST "value" "[B", .methodLink ST 541 LEq.yN, .static LEq.yN, .code LEq.yN LEq.yB 3 (some .boolean), .initialized "java/lang/StringLatin1"]
theorem tabEq_of {a : Array Value} {s : State} (h : ∀ w ∈ wordsEq, w.before a s = true) : SEq.tab.before a s = true := by
  have hl : LEq.tab.before a s = true := unparts (wk h (.code LEq.yN LEq.yB 3 (some .boolean))) (wks h (.initialized LEq.yN.cls :: LEq.site))
  have q := consq hl h
  exact unparts (wk q (.code SEq.yN SEq.yB 3 (some .boolean))) (wks q (.initialized SEq.yN.cls :: SEq.site))
theorem movedEq {Z s : State} {a0 args : Array Value} (hZ : Z.Warmed39 s.vm) (hw : ∀ d ∈ wordsEq, d.before a0 Z = true) : ∀ d ∈ wordsEq, d.before args s = true := fun d hd => by
  have t : ∀ d ∈ wordsEq, (d.onTables && d.keepsFace) = true := by decide +kernel
  exact RoadKit.mv hZ (hw d hd) (t d hd)
/-- the road's facts of a String, as the laws ask it -/
theorem txt_of {Z U : State} {a0 : Array Value} {kI : Nat} (wi : (Jvm.Cond.instantiable ST kI).before a0 Z = true) (al : Z.vm.Alike U.vm) {x t : Addr} {kb : ClassId} {cs : List Int32} {cd N2 : Int32} {vs : List Value} (E : RoadKit.Exa Z U.heap x ST) (V : RoadKit.Fld Z U.heap x ST "value" "[B" (.ref t)) (C : RoadKit.Fld Z U.heap x ST "coder" "B" (.int cd)) (K : RoadKit.Arv Z U.heap t kb .byte N2 vs (.int 0)) (hc : CodA cs cd N2 vs) (hb : ∀ c ∈ cs, ¬ c < 0 ∧ ¬ (65535 : Int32) < c) (l2 : cs.length ≤ 4000) :
    ∃ A, Txt x t A cd cs.length (fun j => cs.getD j 0) U := by
  obtain ⟨A, K1, K2, K3, K4, K5, K6⟩ := K
  have hcod := hc.cod (by omega) K3 K5
  obtain ⟨D, fV, fC, hB, F1, F2, g1, g2, -, -⟩ := strObj wi al E V C
  exact ⟨A, ⟨_, hB.2.2.1, D, hB.1, rfl, by cases q : D.vm <;> first | rfl | exact absurd q (hB.2.1.2 _)⟩, Has.of hB F1 g1, Has.of hB F2 g2, ⟨K1.1, State.isArrayOf_alike al K1.2.1, K1.2.2, by rcases hcod with ⟨-, q, -⟩ | ⟨-, q, -⟩ <;> omega⟩, hcod, fun j hj => by
    have e : cs.getD j 0 = cs[j] := by simp [List.getD_eq_getElem?_getD, hj]
    show ¬ cs.getD j 0 < 0 ∧ ¬ 65535 < cs.getD j 0
    rw [e]; exact hb _ (List.getElem_mem _)⟩
theorem same_list (cs ds : List Int32) : SameT cs.length (fun j => cs.getD j 0) ds.length (fun j => ds.getD j 0) ↔ cs = ds := by
  constructor
  · rintro ⟨e, q⟩
    refine List.ext_getElem e fun j h1 h2 => ?_
    have := q j h1
    simpa [List.getD_eq_getElem?_getD, h1, h2] using this
  · rintro rfl
    exact ⟨rfl, fun _ _ => rfl⟩
/-- **equals(Object) OF TWO SUCH STRINGS**: 1 just where the chars are the same -/
theorem eqW {p : Program} {l : Launch} {e : Env} {R : Room} {s : State} {args : Array Value} {below : List Frame} {len W : Nat} {Z : State} {a0 : Array Value} {h : Heap} (hZ : Z.Warmed39 s.vm) (hw : ∀ d ∈ wordsEq, d.before a0 Z = true) {kI : Nat} (wi : (Jvm.Cond.instantiable ST kI).before a0 Z = true)
    {x t : Addr} {kb : ClassId} {cs : List Int32} {cd N2 : Int32} {vs : List Value} (E : RoadKit.Exa Z h x ST) (V : RoadKit.Fld Z h x ST "value" "[B" (.ref t)) (C : RoadKit.Fld Z h x ST "coder" "B" (.int cd)) (K : RoadKit.Arv Z h t kb .byte N2 vs (.int 0)) (hc : CodA cs cd N2 vs) (hb : ∀ c ∈ cs, ¬ c < 0 ∧ ¬ (65535 : Int32) < c) (l2 : cs.length ≤ 4000)
    {y t' : Addr} {kb' : ClassId} {ds : List Int32} {cd' N2' : Int32} {vs' : List Value} (E' : RoadKit.Exa Z h y ST) (V' : RoadKit.Fld Z h y ST "value" "[B" (.ref t')) (C' : RoadKit.Fld Z h y ST "coder" "B" (.int cd')) (K' : RoadKit.Arv Z h t' kb' .byte N2' vs' (.int 0)) (hc' : CodA ds cd' N2' vs') (hb' : ∀ c ∈ ds, ¬ c < 0 ∧ ¬ (65535 : Int32) < c) (l2' : ds.length ≤ 4000)
    {z : Int32} (S : RoadKit.Sta Z h ST "COMPACT_STRINGS" "Z" (.int z)) (hz : ¬ z = 0) (hfr : 2 ≤ R.frames) (hlo : W + 28 ≤ R.locals) :
    Back l R p e below s args (⟨"java/lang/String", "equals", "(Ljava/lang/Object;)Z"⟩ : MethodName) len W (fun P a => a = #[.ref x, .ref y] ∧ P.U.heap = h ∧ P.cells + 0 ≤ R.cells ∧ P.slots + 0 ≤ R.slots)
      (fun P _ v B => ∃ L, (((v = some (.int 1) ∧ cs = ds) ∨ (v = some (.int 0) ∧ ¬ cs = ds)) ∧ L = [] ∧ B.U.heap = h) ∧ B.locs = P.locs ++ L ∧ B.cells = P.cells + 0 ∧ B.slots = P.slots + 0) := by
  intro m meth c P g ig mk a X hg hsize hdg hW hn hp'
  obtain ⟨rfl, rfl, r1, r2⟩ := hp'
  have al : Z.vm.Alike P.U.vm := hZ.alike.trans X.warmed.alike
  obtain ⟨A, hx⟩ := txt_of wi al E V C K hc hb l2
  obtain ⟨A', hy⟩ := txt_of wi al E' V' C' K' hc' hb' l2'
  obtain ⟨v, B, X', ⟨⟨w, hv, hh, hq⟩, hl, hk, hs⟩, st⟩ := SEq.pays x t A cd cs.length (fun j => cs.getD j 0) y t' A' cd' ds.length (fun j => ds.getD j 0) z (tabEq_of (movedEq hZ hw)) hfr hlo m meth c P g ig mk _ X hg hsize hdg hW hn ⟨r1, r2, rfl, hx, hy, sta_is al S, hz⟩
  refine ⟨v, B, X', ⟨[], ⟨?_, rfl, hh⟩, hl, hk, hs⟩, st⟩
  rcases hq with ⟨rfl, q⟩ | ⟨rfl, q⟩
  · exact Or.inl ⟨hv, (same_list cs ds).mp q⟩
  · exact Or.inr ⟨hv, fun e => q ((same_list cs ds).mpr e)⟩
end StrChars.Road
end Jvm.Pilot.@@N@@
namespace Jvm.Pilot.@@N@@
open Jvm Jvm.ClassFile Sem Op Lib Jvm.Free Jvm.Stand Jvm.LawKit Jvm.RoadKit Bundle
/-! THE WALK's OWN LAYER: one predicate (Wk) for 'the walk stands at this frame', one lemma a step. -/
/-- a comparison of closed numbers -/
theorem nle {a b : Nat} (h : Nat.ble a b = true := by rfl) : a ≤ b := Nat.le_of_ble_eq_true h
section OwnWk
/-- the walk of y's body stands at the frame g, its heap h, its tables V; it has come from S0 -/
def Wk (p : Program) (l : Launch) (e : Env) (R : Room) (s : State) (m : MethodId) (args : Array Value) (below : List Frame) (meth : Method) (c : Code) (Z : State) (a0 : Array Value) (EL : List (String × Nat)) (S0 : State) (y : MethodName) (B : ByteArray) (ml : Nat) (ret : Option FieldType) (V : Vm) (h : Heap) (cl sl : Nat) (g : JFrame) : Prop :=
  (p.tables.exec = Jvm.exec ∧ c.code = B ∧ c.maxLocals = ml ∧ meth.sig.returnType = ret ∧ meth.locks = false ∧ Z.vm.findClass y.cls = some m.cls ∧ meth.name = y.name ∧ EW Z a0 EL) ∧
  (Z.Warmed39 V ∧ CHr Z EL s.vm s.heap V h ∧ Ext Z.heap h) ∧
  ∃ (T : State) (locs : List Loc) (k0 : Nat), Stand p l e R (s.setVm V) m args below meth c T locs cl sl ∧ T.heap = h ∧ s.Since V k0 ∧ k0 ≤ h.size ∧ Fr Z.heap.size locs ∧ ∀ t, Steps p.tables e below (T.setTop g) t → Steps p.tables e below S0 t
/-- the walk that began at S0 comes back, with Q of what it returns and leaves; k new cells, n new slots at the most -/
def Fini (p : Program) (e : Env) (below : List Frame) (s : State) (Z : State) (EL : List (String × Nat)) (S0 : State) (k n : Nat) (Q : Option Value → Heap → Prop) : Prop :=
  ∃ (s₂ : State) (o : Outcome), Steps p.tables e below S0 s₂ ∧ s₂.status = .running ∧ Ended s₂ below o ∧ ∃ (v : Option Value) (L : List Loc), o = .returned v ∧ Q v s₂.heap ∧ Ext Z.heap s₂.heap ∧ Fr Z.heap.size L ∧ CHr Z EL s.vm s.heap s₂.vm s₂.heap ∧ ReturnedEndW s o s₂ L k n
/-- a contract of y -/
def Met (l : Launch) (Z : State) (EL : List (String × Nat)) (y : MethodName) (B : ByteArray) (ml : Nat) (ret : Option FieldType) (ws : List Jvm.Cond) (rm : Room) (as' : Array Value) (h : Heap) (sf : List Addr) (Q : Option Value → Heap → Prop) : Prop :=
  MetFree l y (head1 (Jvm.Cond.code y B ml ret :: ws) rm) (fun a U => a = as' ∧ Z.Warmed39 U.vm ∧ U.heap = h ∧ CHv Z EL U.vm h ∧ ∀ x ∈ sf, Safe Z EL U.vm h x) (fun _ _ _ _ _ => True)
    (fun _ U o U' => ∃ (v : Option Value) (L : List Loc), o = .returned v ∧ Q v U'.heap ∧ Ext Z.heap U'.heap ∧ Fr Z.heap.size L ∧ CHr Z EL U.vm U.heap U'.vm U'.heap ∧ ReturnedEndW U o U' L rm.cells rm.slots)
variable {p : Program} {l : Launch} {e : Env} {R : Room} {s : State} {m : MethodId} {args : Array Value} {below : List Frame} {meth : Method} {c : Code} {Z : State} {a0 : Array Value} {EL : List (String × Nat)} {S0 : State} {y : MethodName} {B : ByteArray} {ml : Nat} {ret : Option FieldType} {V : Vm} {h : Heap} {cl sl : Nat}
theorem Met.of {ws : List Jvm.Cond} {rm : Room} {as' : Array Value} {sf : List Addr} {Q : Option Value → Heap → Prop} (hpl : plainName y.cls = true) (hEL : EW Z a0 EL) (hx : Ext Z.heap h)
    (body : ∀ (p : Program) (e : Env) (s : State) (m : MethodId) (below : List Frame) (meth : Method) (c : Code) (S0 : State) (V : Vm), Wk p l e rm s m as' below meth c Z a0 EL S0 y B ml ret V h 0 0 (entryFrame m as' ml) → s.heap = h → (∀ x ∈ sf, Safe Z EL V h x) → Fini p e below s Z EL S0 rm.cells rm.slots Q) :
    Met l Z EL y B ml ret ws rm as' h sf Q := by
  refine MetFree.of_bodySF (plainFor_of_name hpl) hisR ?_
  intro p e s m args below meth c s₁ Bd hml0 hP hK
  obtain ⟨rfl, hZ, hh, hC, hsf⟩ := hP
  have X0 : Stand p l e rm s m args below meth c s₁ [] 0 0 := Stand.of_body Bd
  have e0 : s₁.heap = h := by rw [← hh, Bd.state]; rfl
  have hown : s.vm.findClass y.cls = some m.cls := findClass_of_methodNamed Bd.named
  subst hh
  exact body p e s m below meth c (s₁.setTop (entryFrame m args ml)) s.vm
    ⟨⟨Bd.exec, Bd.bytes, hml0, Bd.returns, Bd.notSynchronized, by rw [← hZ.alike.findClass]; exact hown, (name_of_methodNamed Bd.named Bd.method).1, hEL⟩, ⟨hZ, CHr.refl hC, hx⟩, s₁, [], s.heap.size, X0, e0, (State.WarmedH.refl s).since _, Nat.le_refl _, Fr.nil _, fun t k => k⟩ rfl hsf
theorem Wk.hZ {g : JFrame} (w : Wk p l e R s m args below meth c Z a0 EL S0 y B ml ret V h cl sl g) : Z.Warmed39 V := w.2.1.1
theorem Wk.ch {g : JFrame} (w : Wk p l e R s m args below meth c Z a0 EL S0 y B ml ret V h cl sl g) : CHv Z EL V h := w.2.1.2.1.1
theorem Wk.old {g : JFrame} (w : Wk p l e R s m args below meth c Z a0 EL S0 y B ml ret V h cl sl g) : Ext Z.heap h := w.2.1.2.2
theorem Wk.zsz {g : JFrame} (w : Wk p l e R s m args below meth c Z a0 EL S0 y B ml ret V h cl sl g) : Z.heap.size ≤ h.size := w.2.1.2.2.1
theorem Wk.el {g : JFrame} (w : Wk p l e R s m args below meth c Z a0 EL S0 y B ml ret V h cl sl g) : EW Z a0 EL := w.1.2.2.2.2.2.2.2
/-- one plain step -/
theorem Wk.st {g g' : JFrame} (w : Wk p l e R s m args below meth c Z a0 EL S0 y B ml ret V h cl sl g)
    (k : ∀ (T : State) (t : State), At T m c below → p.tables.exec = Jvm.exec → c.code = B → Steps p.tables e below (T.setTop g') t → Steps p.tables e below (T.setTop g) t) : Wk p l e R s m args below meth c Z a0 EL S0 y B ml ret V h cl sl g' := by
  obtain ⟨hf, hz, T, locs, k0, X, e0, h1, h2, h3, st⟩ := w
  exact ⟨hf, hz, T, locs, k0, X, e0, h1, h2, h3, fun t hr => st t (k T t X.here hf.1 hf.2.1 hr)⟩
/-- a step that asks the Stand, and leaves it -/
theorem Wk.stX {g g' : JFrame} (w : Wk p l e R s m args below meth c Z a0 EL S0 y B ml ret V h cl sl g)
    (k : ∀ (T : State) (locs : List Loc) (t : State), Stand p l e R (s.setVm V) m args below meth c T locs cl sl → T.heap = h → Steps p.tables e below (T.setTop g') t → Steps p.tables e below (T.setTop g) t) : Wk p l e R s m args below meth c Z a0 EL S0 y B ml ret V h cl sl g' := by
  obtain ⟨hf, hz, T, locs, k0, X, e0, h1, h2, h3, st⟩ := w
  exact ⟨hf, hz, T, locs, k0, X, e0, h1, h2, h3, fun t hr => st t (k T locs t X e0 hr)⟩
theorem Wk.to {g g' : JFrame} (w : Wk p l e R s m args below meth c Z a0 EL S0 y B ml ret V h cl sl g) (q : g = g') : Wk p l e R s m args below meth c Z a0 EL S0 y B ml ret V h cl sl g' := q ▸ w
theorem Wk.more {g : JFrame} {cl' sl' : Nat} (w : Wk p l e R s m args below meth c Z a0 EL S0 y B ml ret V h cl sl g) (q1 : cl ≤ cl') (q2 : sl ≤ sl') : Wk p l e R s m args below meth c Z a0 EL S0 y B ml ret V h cl' sl' g := by
  obtain ⟨hf, hz, T, locs, k0, X, r⟩ := w
  exact ⟨hf, hz, T, locs, k0, X.more q1 q2, r⟩

theorem Wk.iloadN {pc pc' : Nat} {L : Array Slot} {st : List Value} {k : Fin 4} {x : Int32} (w : Wk p l e R s m args below meth c Z a0 EL S0 y B ml ret V h cl sl (mkF m pc L st)) (hd : decode B pc = .ok (.iload_n k, 1)) (hl : L[k.val]? = some (.val (.int x))) (hp : pc + 1 = pc' := by rfl) : Wk p l e R s m args below meth c Z a0 EL S0 y B ml ret V h cl sl (mkF m pc' L (.int x :: st)) := by
  subst hp
  exact w.st fun T t X hx hB k => XS.iloadN X hx rfl (hb hB hd) hl k
theorem Wk.iload {pc pc' : Nat} {L : Array Slot} {st : List Value} {k : Nat} {x : Int32} (w : Wk p l e R s m args below meth c Z a0 EL S0 y B ml ret V h cl sl (mkF m pc L st)) (hd : decode B pc = .ok (.iload k, 2)) (hl : L[k]? = some (.val (.int x))) (hp : pc + 2 = pc' := by rfl) : Wk p l e R s m args below meth c Z a0 EL S0 y B ml ret V h cl sl (mkF m pc' L (.int x :: st)) := by
  subst hp
  exact w.st fun T t X hx hB k => XS.iload X hx rfl (hb hB hd) hl k
theorem Wk.aloadN {pc pc' : Nat} {L : Array Slot} {st : List Value} {k : Fin 4} {x : Value} (w : Wk p l e R s m args below meth c Z a0 EL S0 y B ml ret V h cl sl (mkF m pc L st)) (hd : decode B pc = .ok (.aload_n k, 1)) (hl : L[k.val]? = some (.val x)) (hv : x.isRef = true := by rfl) (hp : pc + 1 = pc' := by rfl) : Wk p l e R s m args below meth c Z a0 EL S0 y B ml ret V h cl sl (mkF m pc' L (x :: st)) := by
  subst hp
  exact w.st fun T t X hx hB k => XS.aloadN X hx rfl (hb hB hd) hl hv k
theorem Wk.aload {pc pc' : Nat} {L : Array Slot} {st : List Value} {k : Nat} {x : Value} (w : Wk p l e R s m args below meth c Z a0 EL S0 y B ml ret V h cl sl (mkF m pc L st)) (hd : decode B pc = .ok (.aload k, 2)) (hl : L[k]? = some (.val x)) (hv : x.isRef = true := by rfl) (hp : pc + 2 = pc' := by rfl) : Wk p l e R s m args below meth c Z a0 EL S0 y B ml ret V h cl sl (mkF m pc' L (x :: st)) := by
  subst hp
  exact w.st fun T t X hx hB k => XS.aload X hx rfl (hb hB hd) hl hv k
theorem Wk.istoreN {pc pc' : Nat} {L : Array Slot} {st : List Value} {k : Fin 4} {x : Int32} {L' : Array Slot} (w : Wk p l e R s m args below meth c Z a0 EL S0 y B ml ret V h cl sl (mkF m pc L (.int x :: st))) (hd : decode B pc = .ok (.istore_n k, 1)) (hl : storeLocals L k.val (.int x) = some L') (hp : pc + 1 = pc' := by rfl) : Wk p l e R s m args below meth c Z a0 EL S0 y B ml ret V h cl sl (mkF m pc' L' st) := by
  subst hp
  exact w.st fun T t X hx hB k => XS.istoreN X hx rfl (hb hB hd) rfl hl k
theorem Wk.istore {pc pc' : Nat} {L : Array Slot} {st : List Value} {k : Nat} {x : Int32} {L' : Array Slot} (w : Wk p l e R s m args below meth c Z a0 EL S0 y B ml ret V h cl sl (mkF m pc L (.int x :: st))) (hd : decode B pc = .ok (.istore k, 2)) (hl : storeLocals L k (.int x) = some L') (hp : pc + 2 = pc' := by rfl) : Wk p l e R s m args below meth c Z a0 EL S0 y B ml ret V h cl sl (mkF m pc' L' st) := by
  subst hp
  exact w.st fun T t X hx hB k => XS.istore X hx rfl (hb hB hd) rfl hl k
theorem Wk.astoreN {pc pc' : Nat} {L : Array Slot} {st : List Value} {k : Fin 4} {x : Value} {L' : Array Slot} (w : Wk p l e R s m args below meth c Z a0 EL S0 y B ml ret V h cl sl (mkF m pc L (x :: st))) (hd : decode B pc = .ok (.astore_n k, 1)) (hl : storeLocals L k.val x = some L') (hv : x.isRef = true := by rfl) (hp : pc + 1 = pc' := by rfl) : Wk p l e R s m args below meth c Z a0 EL S0 y B ml ret V h cl sl (mkF m pc' L' st) := by
  subst hp
  exact w.st fun T t X hx hB k => XS.astoreN X hx rfl (hb hB hd) rfl hv hl k
theorem Wk.astore {pc pc' : Nat} {L : Array Slot} {st : List Value} {k : Nat} {x : Value} {L' : Array Slot} (w : Wk p l e R s m args below meth c Z a0 EL S0 y B ml ret V h cl sl (mkF m pc L (x :: st))) (hd : decode B pc = .ok (.astore k, 2)) (hl : storeLocals L k x = some L') (hv : x.isRef = true := by rfl) (hp : pc + 2 = pc' := by rfl) : Wk p l e R s m args below meth c Z a0 EL S0 y B ml ret V h cl sl (mkF m pc' L' st) := by
  subst hp
  exact w.st fun T t X hx hB k => XS.astore X hx rfl (hb hB hd) rfl hv hl k
theorem Wk.iinc {pc pc' : Nat} {L : Array Slot} {st : List Value} {k : Nat} {cst : Int} {x : Int32} {L' : Array Slot} (w : Wk p l e R s m args below meth c Z a0 EL S0 y B ml ret V h cl sl (mkF m pc L st)) (hd : decode B pc = .ok (.iinc k cst, 3)) (hl : L[k]? = some (.val (.int x))) (hl' : storeLocals L k (.int (x + Int32.ofInt cst)) = some L') (hp : pc + 3 = pc' := by rfl) : Wk p l e R s m args below meth c Z a0 EL S0 y B ml ret V h cl sl (mkF m pc' L' st) := by
  subst hp
  exact w.st fun T t X hx hB k => XS.iinc X hx rfl (hb hB hd) hl hl' k
theorem Wk.iconst {pc pc' : Nat} {L : Array Slot} {st : List Value} {i : Int} (x : Int32) (w : Wk p l e R s m args below meth c Z a0 EL S0 y B ml ret V h cl sl (mkF m pc L st)) (hd : decode B pc = .ok (.iconst i, 1)) (hx0 : Int32.ofInt i = x := by rfl) (hp : pc + 1 = pc' := by rfl) : Wk p l e R s m args below meth c Z a0 EL S0 y B ml ret V h cl sl (mkF m pc' L (.int x :: st)) := by
  subst hp hx0
  exact w.st fun T t X hx hB k => XS.iconst X hx rfl (hb hB hd) k
theorem Wk.bipush {pc pc' : Nat} {L : Array Slot} {st : List Value} {i : Int} (x : Int32) (w : Wk p l e R s m args below meth c Z a0 EL S0 y B ml ret V h cl sl (mkF m pc L st)) (hd : decode B pc = .ok (.bipush i, 2)) (hx0 : (Int8.ofInt i).toInt32 = x := by rfl) (hp : pc + 2 = pc' := by rfl) : Wk p l e R s m args below meth c Z a0 EL S0 y B ml ret V h cl sl (mkF m pc' L (.int x :: st)) := by
  subst hp hx0
  exact w.st fun T t X hx hB k => XS.bipush X hx rfl (hb hB hd) k
theorem Wk.sipush {pc pc' : Nat} {L : Array Slot} {st : List Value} {i : Int} (x : Int32) (w : Wk p l e R s m args below meth c Z a0 EL S0 y B ml ret V h cl sl (mkF m pc L st)) (hd : decode B pc = .ok (.sipush i, 3)) (hx0 : (Int16.ofInt i).toInt32 = x := by rfl) (hp : pc + 3 = pc' := by rfl) : Wk p l e R s m args below meth c Z a0 EL S0 y B ml ret V h cl sl (mkF m pc' L (.int x :: st)) := by
  subst hp hx0
  exact w.st fun T t X hx hB k => XS.sipush X hx rfl (hb hB hd) k
theorem Wk.aconstNull {pc pc' : Nat} {L : Array Slot} {st : List Value}  (w : Wk p l e R s m args below meth c Z a0 EL S0 y B ml ret V h cl sl (mkF m pc L st)) (hd : decode B pc = .ok (.aconst_null, 1))  (hp : pc + 1 = pc' := by rfl) : Wk p l e R s m args below meth c Z a0 EL S0 y B ml ret V h cl sl (mkF m pc' L (.null :: st)) := by
  subst hp
  exact w.st fun T t X hx hB k => XS.aconstNull X hx rfl (hb hB hd)  k
theorem Wk.dup {pc pc' : Nat} {L : Array Slot} {st : List Value} {x : Value} (w : Wk p l e R s m args below meth c Z a0 EL S0 y B ml ret V h cl sl (mkF m pc L (x :: st))) (hd : decode B pc = .ok (.dup, 1)) (hc : x.category = 1 := by rfl) (hp : pc + 1 = pc' := by rfl) : Wk p l e R s m args below meth c Z a0 EL S0 y B ml ret V h cl sl (mkF m pc' L (x :: x :: st)) := by
  subst hp
  exact w.st fun T t X hx hB k => XS.dup X hx rfl (hb hB hd) rfl hc k
theorem Wk.pop {pc pc' : Nat} {L : Array Slot} {st : List Value} {x : Value} (w : Wk p l e R s m args below meth c Z a0 EL S0 y B ml ret V h cl sl (mkF m pc L (x :: st))) (hd : decode B pc = .ok (.pop, 1)) (hc : x.category = 1 := by rfl) (hp : pc + 1 = pc' := by rfl) : Wk p l e R s m args below meth c Z a0 EL S0 y B ml ret V h cl sl (mkF m pc' L st) := by
  subst hp
  exact w.st fun T t X hx hB k => XS.pop X hx rfl (hb hB hd) rfl hc k
theorem Wk.iadd {pc pc' : Nat} {L : Array Slot} {st : List Value} {x yy : Int32} (w : Wk p l e R s m args below meth c Z a0 EL S0 y B ml ret V h cl sl (mkF m pc L (.int yy :: .int x :: st))) (hd : decode B pc = .ok (.iadd, 1))  (hp : pc + 1 = pc' := by rfl) : Wk p l e R s m args below meth c Z a0 EL S0 y B ml ret V h cl sl (mkF m pc' L (.int (x + yy) :: st)) := by
  subst hp
  exact w.st fun T t X hx hB k => XS.iadd X hx rfl (hb hB hd) rfl k
theorem Wk.isub {pc pc' : Nat} {L : Array Slot} {st : List Value} {x yy : Int32} (w : Wk p l e R s m args below meth c Z a0 EL S0 y B ml ret V h cl sl (mkF m pc L (.int yy :: .int x :: st))) (hd : decode B pc = .ok (.isub, 1))  (hp : pc + 1 = pc' := by rfl) : Wk p l e R s m args below meth c Z a0 EL S0 y B ml ret V h cl sl (mkF m pc' L (.int (x - yy) :: st)) := by
  subst hp
  exact w.st fun T t X hx hB k => XS.isub X hx rfl (hb hB hd) rfl k
theorem Wk.imul {pc pc' : Nat} {L : Array Slot} {st : List Value} {x yy : Int32} (w : Wk p l e R s m args below meth c Z a0 EL S0 y B ml ret V h cl sl (mkF m pc L (.int yy :: .int x :: st))) (hd : decode B pc = .ok (.imul, 1))  (hp : pc + 1 = pc' := by rfl) : Wk p l e R s m args below meth c Z a0 EL S0 y B ml ret V h cl sl (mkF m pc' L (.int (x * yy) :: st)) := by
  subst hp
  exact w.st fun T t X hx hB k => XS.imul X hx rfl (hb hB hd) rfl k
theorem Wk.iand {pc pc' : Nat} {L : Array Slot} {st : List Value} {x yy : Int32} (w : Wk p l e R s m args below meth c Z a0 EL S0 y B ml ret V h cl sl (mkF m pc L (.int yy :: .int x :: st))) (hd : decode B pc = .ok (.iand, 1))  (hp : pc + 1 = pc' := by rfl) : Wk p l e R s m args below meth c Z a0 EL S0 y B ml ret V h cl sl (mkF m pc' L (.int (x &&& yy) :: st)) := by
  subst hp
  exact w.st fun T t X hx hB k => XS.iand X hx rfl (hb hB hd) rfl k
theorem Wk.ior {pc pc' : Nat} {L : Array Slot} {st : List Value} {x yy : Int32} (w : Wk p l e R s m args below meth c Z a0 EL S0 y B ml ret V h cl sl (mkF m pc L (.int yy :: .int x :: st))) (hd : decode B pc = .ok (.ior, 1))  (hp : pc + 1 = pc' := by rfl) : Wk p l e R s m args below meth c Z a0 EL S0 y B ml ret V h cl sl (mkF m pc' L (.int (x ||| yy) :: st)) := by
  subst hp
  exact w.st fun T t X hx hB k => XS.ior X hx rfl (hb hB hd) rfl k
theorem Wk.ixor {pc pc' : Nat} {L : Array Slot} {st : List Value} {x yy : Int32} (w : Wk p l e R s m args below meth c Z a0 EL S0 y B ml ret V h cl sl (mkF m pc L (.int yy :: .int x :: st))) (hd : decode B pc = .ok (.ixor, 1))  (hp : pc + 1 = pc' := by rfl) : Wk p l e R s m args below meth c Z a0 EL S0 y B ml ret V h cl sl (mkF m pc' L (.int (x ^^^ yy) :: st)) := by
  subst hp
  exact w.st fun T t X hx hB k => XS.ixor X hx rfl (hb hB hd) rfl k
theorem Wk.ishl {pc pc' : Nat} {L : Array Slot} {st : List Value} {x yy : Int32} (w : Wk p l e R s m args below meth c Z a0 EL S0 y B ml ret V h cl sl (mkF m pc L (.int yy :: .int x :: st))) (hd : decode B pc = .ok (.ishl, 1))  (hp : pc + 1 = pc' := by rfl) : Wk p l e R s m args below meth c Z a0 EL S0 y B ml ret V h cl sl (mkF m pc' L (.int (x <<< (yy &&& 31)) :: st)) := by
  subst hp
  exact w.st fun T t X hx hB k => XS.ishl X hx rfl (hb hB hd) rfl k
theorem Wk.ishr {pc pc' : Nat} {L : Array Slot} {st : List Value} {x yy : Int32} (w : Wk p l e R s m args below meth c Z a0 EL S0 y B ml ret V h cl sl (mkF m pc L (.int yy :: .int x :: st))) (hd : decode B pc = .ok (.ishr, 1))  (hp : pc + 1 = pc' := by rfl) : Wk p l e R s m args below meth c Z a0 EL S0 y B ml ret V h cl sl (mkF m pc' L (.int (x >>> (yy &&& 31)) :: st)) := by
  subst hp
  exact w.st fun T t X hx hB k => XS.ishr X hx rfl (hb hB hd) rfl k
theorem Wk.iushr {pc pc' : Nat} {L : Array Slot} {st : List Value} {x yy : Int32} (w : Wk p l e R s m args below meth c Z a0 EL S0 y B ml ret V h cl sl (mkF m pc L (.int yy :: .int x :: st))) (hd : decode B pc = .ok (.iushr, 1))  (hp : pc + 1 = pc' := by rfl) : Wk p l e R s m args below meth c Z a0 EL S0 y B ml ret V h cl sl (mkF m pc' L (.int ((x.toUInt32 >>> (yy &&& 31).toUInt32).toInt32) :: st)) := by
  subst hp
  exact w.st fun T t X hx hB k => XS.iushr X hx rfl (hb hB hd) rfl k
theorem Wk.idiv {pc pc' : Nat} {L : Array Slot} {st : List Value} {x yy : Int32} (w : Wk p l e R s m args below meth c Z a0 EL S0 y B ml ret V h cl sl (mkF m pc L (.int yy :: .int x :: st))) (hd : decode B pc = .ok (.idiv, 1)) (hy : yy ≠ 0) (hp : pc + 1 = pc' := by rfl) : Wk p l e R s m args below meth c Z a0 EL S0 y B ml ret V h cl sl (mkF m pc' L (.int (x / yy) :: st)) := by
  subst hp
  exact w.st fun T t X hx hB k => XS.idiv X hx rfl (hb hB hd) rfl hy k
theorem Wk.irem {pc pc' : Nat} {L : Array Slot} {st : List Value} {x yy : Int32} (w : Wk p l e R s m args below meth c Z a0 EL S0 y B ml ret V h cl sl (mkF m pc L (.int yy :: .int x :: st))) (hd : decode B pc = .ok (.irem, 1)) (hy : yy ≠ 0) (hp : pc + 1 = pc' := by rfl) : Wk p l e R s m args below meth c Z a0 EL S0 y B ml ret V h cl sl (mkF m pc' L (.int (x % yy) :: st)) := by
  subst hp
  exact w.stX fun T locs t X e0 k => iremM X w.1.1 rfl (hb w.1.2.1 hd) rfl hy k
theorem Wk.ineg {pc pc' : Nat} {L : Array Slot} {st : List Value} {x : Int32} (w : Wk p l e R s m args below meth c Z a0 EL S0 y B ml ret V h cl sl (mkF m pc L (.int x :: st))) (hd : decode B pc = .ok (.ineg, 1))  (hp : pc + 1 = pc' := by rfl) : Wk p l e R s m args below meth c Z a0 EL S0 y B ml ret V h cl sl (mkF m pc' L (.int (-x) :: st)) := by
  subst hp
  exact w.st fun T t X hx hB k => XS.ineg X hx rfl (hb hB hd) rfl k
theorem Wk.i2b {pc pc' : Nat} {L : Array Slot} {st : List Value} {x : Int32} (w : Wk p l e R s m args below meth c Z a0 EL S0 y B ml ret V h cl sl (mkF m pc L (.int x :: st))) (hd : decode B pc = .ok (.i2b, 1))  (hp : pc + 1 = pc' := by rfl) : Wk p l e R s m args below meth c Z a0 EL S0 y B ml ret V h cl sl (mkF m pc' L (.int (x.toInt8.toInt32) :: st)) := by
  subst hp
  exact w.st fun T t X hx hB k => XS.i2b X hx rfl (hb hB hd) rfl k
theorem Wk.i2c {pc pc' : Nat} {L : Array Slot} {st : List Value} {x : Int32} (w : Wk p l e R s m args below meth c Z a0 EL S0 y B ml ret V h cl sl (mkF m pc L (.int x :: st))) (hd : decode B pc = .ok (.i2c, 1))  (hp : pc + 1 = pc' := by rfl) : Wk p l e R s m args below meth c Z a0 EL S0 y B ml ret V h cl sl (mkF m pc' L (.int (x.toUInt32.toUInt16.toUInt32.toInt32) :: st)) := by
  subst hp
  exact w.st fun T t X hx hB k => XS.i2c X hx rfl (hb hB hd) rfl k
theorem Wk.i2s {pc pc' : Nat} {L : Array Slot} {st : List Value} {x : Int32} (w : Wk p l e R s m args below meth c Z a0 EL S0 y B ml ret V h cl sl (mkF m pc L (.int x :: st))) (hd : decode B pc = .ok (.i2s, 1))  (hp : pc + 1 = pc' := by rfl) : Wk p l e R s m args below meth c Z a0 EL S0 y B ml ret V h cl sl (mkF m pc' L (.int (x.toInt16.toInt32) :: st)) := by
  subst hp
  exact w.st fun T t X hx hB k => XS.i2s X hx rfl (hb hB hd) rfl k
theorem Wk.goto {pc pc' : Nat} {L : Array Slot} {st : List Value} {o : Int} (w : Wk p l e R s m args below meth c Z a0 EL S0 y B ml ret V h cl sl (mkF m pc L st)) (hd : decode B pc = .ok (.goto o, 3)) (ho : 0 ≤ (pc : Int) + o := by decide) (hp : ((pc : Int) + o).toNat = pc' := by decide) : Wk p l e R s m args below meth c Z a0 EL S0 y B ml ret V h cl sl (mkF m pc' L st) := by
  subst hp
  exact w.st fun T t X hx hB k => XS.goto X hx rfl rfl (hb hB hd) ho rfl k
theorem Wk.ifYes {pc pc' : Nat} {L : Array Slot} {st : List Value} {cd : ClassFile.Cond} {o : Int} {x : Int32} (w : Wk p l e R s m args below meth c Z a0 EL S0 y B ml ret V h cl sl (mkF m pc L (.int x :: st))) (hd : decode B pc = .ok (.ifCond cd o, 3)) (hc : ifCond.holds cd x = true) (ho : 0 ≤ (pc : Int) + o := by decide) (hp : ((pc : Int) + o).toNat = pc' := by decide) : Wk p l e R s m args below meth c Z a0 EL S0 y B ml ret V h cl sl (mkF m pc' L st) := by
  subst hp
  exact w.st fun T t X hx hB k => XS.ifYes X hx rfl rfl (hb hB hd) rfl hc ho rfl k
theorem Wk.icmpYes {pc pc' : Nat} {L : Array Slot} {st : List Value} {cd : ClassFile.Cond} {o : Int} {x yy : Int32} (w : Wk p l e R s m args below meth c Z a0 EL S0 y B ml ret V h cl sl (mkF m pc L (.int yy :: .int x :: st))) (hd : decode B pc = .ok (.if_icmp cd o, 3)) (hc : if_icmp.holds cd x yy = true) (ho : 0 ≤ (pc : Int) + o := by decide) (hp : ((pc : Int) + o).toNat = pc' := by decide) : Wk p l e R s m args below meth c Z a0 EL S0 y B ml ret V h cl sl (mkF m pc' L st) := by
  subst hp
  exact w.st fun T t X hx hB k => XS.icmpYes X hx rfl rfl (hb hB hd) rfl hc ho rfl k
theorem Wk.ifnullYes {pc pc' : Nat} {L : Array Slot} {st : List Value} {o : Int} (w : Wk p l e R s m args below meth c Z a0 EL S0 y B ml ret V h cl sl (mkF m pc L (.null :: st))) (hd : decode B pc = .ok (.ifnull o, 3))  (ho : 0 ≤ (pc : Int) + o := by decide) (hp : ((pc : Int) + o).toNat = pc' := by decide) : Wk p l e R s m args below meth c Z a0 EL S0 y B ml ret V h cl sl (mkF m pc' L st) := by
  subst hp
  exact w.st fun T t X hx hB k => XS.ifnullYes X hx rfl rfl (hb hB hd) rfl ho rfl k
theorem Wk.ifnonnullYes {pc pc' : Nat} {L : Array Slot} {st : List Value} {o : Int} {b : Addr} (w : Wk p l e R s m args below meth c Z a0 EL S0 y B ml ret V h cl sl (mkF m pc L (.ref b :: st))) (hd : decode B pc = .ok (.ifnonnull o, 3))  (ho : 0 ≤ (pc : Int) + o := by decide) (hp : ((pc : Int) + o).toNat = pc' := by decide) : Wk p l e R s m args below meth c Z a0 EL S0 y B ml ret V h cl sl (mkF m pc' L st) := by
  subst hp
  exact w.st fun T t X hx hB k => XS.ifnonnullYes X hx rfl rfl (hb hB hd) rfl ho rfl k
theorem Wk.ifNo {pc pc' : Nat} {L : Array Slot} {st : List Value} {cd : ClassFile.Cond} {o : Int} {x : Int32} (w : Wk p l e R s m args below meth c Z a0 EL S0 y B ml ret V h cl sl (mkF m pc L (.int x :: st))) (hd : decode B pc = .ok (.ifCond cd o, 3)) (hc : ifCond.holds cd x = false) (hp : pc + 3 = pc' := by rfl) : Wk p l e R s m args below meth c Z a0 EL S0 y B ml ret V h cl sl (mkF m pc' L st) := by
  subst hp
  exact w.st fun T t X hx hB k => XS.ifNo X hx rfl (hb hB hd) rfl hc k
theorem Wk.icmpNo {pc pc' : Nat} {L : Array Slot} {st : List Value} {cd : ClassFile.Cond} {o : Int} {x yy : Int32} (w : Wk p l e R s m args below meth c Z a0 EL S0 y B ml ret V h cl sl (mkF m pc L (.int yy :: .int x :: st))) (hd : decode B pc = .ok (.if_icmp cd o, 3)) (hc : if_icmp.holds cd x yy = false) (hp : pc + 3 = pc' := by rfl) : Wk p l e R s m args below meth c Z a0 EL S0 y B ml ret V h cl sl (mkF m pc' L st) := by
  subst hp
  exact w.st fun T t X hx hB k => XS.icmpNo X hx rfl (hb hB hd) rfl hc k
theorem Wk.ifnullNo {pc pc' : Nat} {L : Array Slot} {st : List Value} {o : Int} {b : Addr} (w : Wk p l e R s m args below meth c Z a0 EL S0 y B ml ret V h cl sl (mkF m pc L (.ref b :: st))) (hd : decode B pc = .ok (.ifnull o, 3))  (hp : pc + 3 = pc' := by rfl) : Wk p l e R s m args below meth c Z a0 EL S0 y B ml ret V h cl sl (mkF m pc' L st) := by
  subst hp
  exact w.st fun T t X hx hB k => XS.ifnullNo X hx rfl (hb hB hd) rfl k
theorem Wk.ifnonnullNo {pc pc' : Nat} {L : Array Slot} {st : List Value} {o : Int} (w : Wk p l e R s m args below meth c Z a0 EL S0 y B ml ret V h cl sl (mkF m pc L (.null :: st))) (hd : decode B pc = .ok (.ifnonnull o, 3))  (hp : pc + 3 = pc' := by rfl) : Wk p l e R s m args below meth c Z a0 EL S0 y B ml ret V h cl sl (mkF m pc' L st) := by
  subst hp
  exact w.st fun T t X hx hB k => XS.ifnonnullNo X hx rfl (hb hB hd) rfl k

theorem Wk.acmp {pc pc' : Nat} {L : Array Slot} {st : List Value} {cd : ACond} {o : Int} {x yy : Value} (same : Bool) (w : Wk p l e R s m args below meth c Z a0 EL S0 y B ml ret V h cl sl (mkF m pc L (yy :: x :: st))) (hd : decode B pc = .ok (.if_acmp cd o, 3)) (hq : decide (x = yy) = same) (h1 : x.isRef = true := by rfl) (h2 : yy.isRef = true := by rfl) (ho : 0 ≤ (pc : Int) + o := by decide) (hp : pc' = if acV cd same = true then ((pc : Int) + o).toNat else pc + 3 := by rfl) :
    Wk p l e R s m args below meth c Z a0 EL S0 y B ml ret V h cl sl (mkF m pc' L st) :=
  w.stX fun T locs t X e0 k => RoadKit.acmp X w.1.1 rfl h1 h2 rfl (hb w.1.2.1 hd) rfl hq ho hp k
theorem Wk.ldcI {pc pc' : Nat} {L : Array Slot} {st : List Value} {index : Nat} {x : Int32} (w : Wk p l e R s m args below meth c Z a0 EL S0 y B ml ret V h cl sl (mkF m pc L st)) (wc : (Jvm.Cond.constant y.cls index x).before a0 Z = true) (hd : decode B pc = .ok (.ldc index, 2)) (hp : pc + 2 = pc' := by rfl) :
    Wk p l e R s m args below meth c Z a0 EL S0 y B ml ret V h cl sl (mkF m pc' L (.int x :: st)) := by
  subst hp
  exact w.stX fun T locs t X e0 k => X.ldcInt w.1.1 (by rw [show (s.setVm V).vm = V from rfl, w.hZ.alike.findClass]; exact w.1.2.2.2.2.2.1) (mv (s := s.setVm V) w.hZ wc) (g := mkF m pc L st) rfl (hb w.1.2.1 hd) t k
theorem Wk.own {g : JFrame} (w : Wk p l e R s m args below meth c Z a0 EL S0 y B ml ret V h cl sl g) : V.findClass y.cls = some m.cls := by rw [w.hZ.alike.findClass]; exact w.1.2.2.2.2.2.1
/-- the heap has changed: the walk goes on over h' -/
theorem Wk.heap {g g' : JFrame} {h' : Heap} {cl' sl' : Nat} (w : Wk p l e R s m args below meth c Z a0 EL S0 y B ml ret V h cl sl g) (A : CHr Z EL V h V h') (O : Ext Z.heap h')
    (k : ∀ (T : State) (locs : List Loc), Stand p l e R (s.setVm V) m args below meth c T locs cl sl → T.heap = h → Fr Z.heap.size locs → ∃ (T' : State) (locs' : List Loc), Stand p l e R (s.setVm V) m args below meth c T' locs' cl' sl' ∧ T'.heap = h' ∧ Fr Z.heap.size locs' ∧ ∀ t, Steps p.tables e below (T'.setTop g') t → Steps p.tables e below (T.setTop g) t) :
    Wk p l e R s m args below meth c Z a0 EL S0 y B ml ret V h' cl' sl' g' := by
  obtain ⟨hf, ⟨hz, hC, hO⟩, T, locs, k0, X, e0, h1, h2, h3, st⟩ := w
  obtain ⟨T', locs', X', e', f', st'⟩ := k T locs X e0 h3
  exact ⟨hf, ⟨hz, hC.trans A, O⟩, T', locs', k0, X', e', h1, Nat.le_trans h2 A.2.1, f', fun t q => st t (st' t q)⟩
theorem extT {h0 h1 h2 : Heap} (A : Ext h0 h1) (B : Ext h1 h2) : Ext h0 h2 := ⟨Nat.le_trans A.1 B.1, fun a c q => B.2 a c (A.2 a c q)⟩
theorem extR (h0 : Heap) : Ext h0 h0 := ⟨Nat.le_refl _, fun _ _ q => q⟩
theorem extW {h0 h1 h2 : Heap} {a : Addr} {n : Nat} {v : Value} (A : Ext h0 h1) (W : Wr h1 h2 a n v) (q : h0.size ≤ a) : Ext h0 h2 := by
  obtain ⟨cell, h1', h2', h3', rfl⟩ := W
  refine ⟨by simpa using A.1, fun b cb hb => ?_⟩
  have : a ≠ b := fun z => by subst z; exact absurd (Array.getElem?_eq_some_iff.mp hb).1 (Nat.not_lt.mpr q)
  rw [Array.getElem?_setIfInBounds_ne this]; exact A.2 b cb hb
theorem extK {h0 h1 h2 : Heap} {ws : List Addr} (A : Ext h0 h1) (K : Keep h1 h2 ws) (q : ∀ x ∈ ws, h0.size ≤ x) : Ext h0 h2 :=
  ⟨Nat.le_trans A.1 K.1, fun b cb hb => K.2.1 b cb (A.2 b cb hb) fun z => absurd (Array.getElem?_eq_some_iff.mp hb).1 (Nat.not_lt.mpr (q b z))⟩
theorem keepE {h0 h1 : Heap} (A : Ext h0 h1) (ws : List Addr) : Keep h0 h1 ws := (Keep.refl h0 ws).ext A
/-- new C -/
theorem Wk.new {pc pc' : Nat} {L : Array Slot} {st : List Value} {C : String} {index n : Nat} (w : Wk p l e R s m args below meth c Z a0 EL S0 y B ml ret V h cl sl (mkF m pc L st)) (wl : (Jvm.Cond.classLink y.cls index C).before a0 Z = true) (wi : (Jvm.Cond.instantiable C n).before a0 Z = true) (wz : (Jvm.Cond.initialized C).before a0 Z = true)
    (hd : decode B pc = .ok (.new index, 3)) (hc : cl + 1 ≤ R.cells) (hl : sl + n ≤ R.slots) (hp : pc + 3 = pc' := by rfl) :
    ∃ (h' : Heap) (a : Addr), a = h.size ∧ Ext h h' ∧ Exa Z h' a C ∧ (∀ {O nm d : String} {ty : FieldType}, Laid Z a0 C O nm d → parseFieldDescriptor d = some ty → Fld Z h' a O nm d (defaultValue ty)) ∧ Safe Z EL V h' a ∧ CHr Z EL V h V h' ∧
      Wk p l e R s m args below meth c Z a0 EL S0 y B ml ret V h' (cl + 1) (sl + n) (mkF m pc' L (.ref a :: st)) := by
  subst hp
  obtain ⟨hf, ⟨hz, hC, hO⟩, T, locs, k0, X, e0, h1, h2, h3, st0⟩ := id w
  obtain ⟨T', h', X', e', E, A, D, -, st'⟩ := newO X hf.1 hz w.own wl wi wz e0 (g := mkF m pc L st) rfl (hb hf.2.1 hd) hc hl
  have Q : CHr Z EL V h V h' := CHr.ext E w.ch
  exact ⟨h', h.size, rfl, E, A, D, Safe.ext E w.ch (Safe.new (Nat.le_refl _)), Q, hf, ⟨hz, hC.trans Q, extT hO E⟩, T', locs, k0, X', e', h1, Nat.le_trans h2 E.1, h3, fun t q => st0 t (st' t q)⟩
/-- newarray -/
theorem Wk.newarr {pc pc' : Nat} {L : Array Slot} {st : List Value} {aty : ArrayType} {n : Int32} {cap : Nat} (w : Wk p l e R s m args below meth c Z a0 EL S0 y B ml ret V h cl sl (mkF m pc L (.int n :: st))) (wa : (Jvm.Cond.arrayClass (newarray.typeOf aty)).before a0 Z = true)
    (hd : decode B pc = .ok (.newarray aty, 2)) (hn : ¬ n < 0) (hcap : n.toNatClampNeg ≤ cap) (hc : cl + 1 ≤ R.cells) (hl : sl + cap ≤ R.slots) (hb8 : cap * 8 ≤ 536870912 := by decide) (hp : pc + 2 = pc' := by rfl) :
    ∃ (h' : Heap) (a : Addr) (k : ClassId), a = h.size ∧ Ext h h' ∧ Arv Z h' a k (newarray.typeOf aty) n [] (defaultValue (newarray.typeOf aty)) ∧ Safe Z EL V h' a ∧ CHr Z EL V h V h' ∧
      Wk p l e R s m args below meth c Z a0 EL S0 y B ml ret V h' (cl + 1) (sl + cap) (mkF m pc' L (.ref a :: st)) := by
  subst hp
  obtain ⟨hf, ⟨hz, hC, hO⟩, T, locs, k0, X, e0, h1, h2, h3, st0⟩ := id w
  obtain ⟨T', h', k, X', e', E, A, st'⟩ := newP X hf.1 hz wa e0 (g := mkF m pc L (.int n :: st)) rfl (hb hf.2.1 hd) rfl hn hcap hb8 hc hl
  have Q : CHr Z EL V h V h' := CHr.ext E w.ch
  exact ⟨h', h.size, k, rfl, E, Arv.new A hn, Safe.ext E w.ch (Safe.new (Nat.le_refl _)), Q, hf, ⟨hz, hC.trans Q, extT hO E⟩, T', locs, k0, X', e', h1, Nat.le_trans h2 E.1, h3, fun t q => st0 t (st' t q)⟩
/-- castore into an array of the walk's own -/
theorem Wk.castore {pc pc' : Nat} {L : Array Slot} {st : List Value} {a : Addr} {k : ClassId} {z j x x' : Int32} {vs : List Value} {dv : Value} (w : Wk p l e R s m args below meth c Z a0 EL S0 y B ml ret V h cl sl (mkF m pc L (.int x :: .int j :: .ref a :: st))) (A : Arv Z h a k .char z vs dv)
    (hd : decode B pc = .ok (.castore, 1)) (hj : ¬ j < 0 ∧ j < z) (hx' : nar .char x = x') (i : Nat) (hi : j.toNatClampNeg = i) (hlen : i < vs.length) (ha : Z.heap.size ≤ a) (hp : pc + 1 = pc' := by rfl) :
    ∃ h' : Heap, Keep h h' [a] ∧ Arv Z h' a k .char z (vs.set i (.int x')) dv ∧ CHr Z EL V h V h' ∧ Wk p l e R s m args below meth c Z a0 EL S0 y B ml ret V h' cl sl (mkF m pc' L st) := by
  subst hp hx'
  obtain ⟨hf, ⟨hz, hC, hO⟩, T, locs, k0, X, e0, h1, h2, h3, st0⟩ := id w
  obtain ⟨cA, A1, A2, A3, A4, A5, A6⟩ := id A
  obtain ⟨T', h', X', e', W, st'⟩ := stC X hf.1 hz e0 A1 (j := j) (inb_of A3 hj) (g := mkF m pc L (.int x :: .int j :: .ref a :: st)) rfl rfl (hb hf.2.1 hd)
  have Q : CHr Z EL V h V h' := CHr.wr W (Safe.arr hz.alike A1 (by decide)) w.ch
  exact ⟨h', Keep.of_wr W, Arv.set A1 A2 A3 A4 A5 A6 (fits_nar_char x) W i hi hlen, Q, hf, ⟨hz, hC.trans Q, extW hO W ha⟩, T', _, k0, X', e', h1, Nat.le_trans h2 Q.2.1, Fr.snoc X' h3 ha, fun t q => st0 t (st' t q)⟩
theorem Wk.bastore {pc pc' : Nat} {L : Array Slot} {st : List Value} {a : Addr} {k : ClassId} {z j x x' : Int32} {vs : List Value} {dv : Value} (w : Wk p l e R s m args below meth c Z a0 EL S0 y B ml ret V h cl sl (mkF m pc L (.int x :: .int j :: .ref a :: st))) (A : Arv Z h a k .byte z vs dv)
    (hd : decode B pc = .ok (.bastore, 1)) (hj : ¬ j < 0 ∧ j < z) (hx' : x.toInt8.toInt32 = x') (i : Nat) (hi : j.toNatClampNeg = i) (hlen : i < vs.length) (ha : Z.heap.size ≤ a) (S : Safe Z EL V h a) (hp : pc + 1 = pc' := by rfl) :
    ∃ h' : Heap, Keep h h' [a] ∧ Arv Z h' a k .byte z (vs.set i (.int x')) dv ∧ CHr Z EL V h V h' ∧ Wk p l e R s m args below meth c Z a0 EL S0 y B ml ret V h' cl sl (mkF m pc' L st) := by
  subst hp hx'
  obtain ⟨hf, ⟨hz, hC, hO⟩, T, locs, k0, X, e0, h1, h2, h3, st0⟩ := id w
  obtain ⟨cA, A1, A2, A3, A4, A5, A6⟩ := id A
  obtain ⟨T', h', X', e', W, st'⟩ := stB X hf.1 hz e0 A1 (j := j) (inb_of A3 hj) (g := mkF m pc L (.int x :: .int j :: .ref a :: st)) rfl rfl (hb hf.2.1 hd)
  have Q : CHr Z EL V h V h' := CHr.wr W S w.ch
  exact ⟨h', Keep.of_wr W, Arv.set A1 A2 A3 A4 A5 A6 (fits_nar_byte x) W i hi hlen, Q, hf, ⟨hz, hC.trans Q, extW hO W ha⟩, T', _, k0, X', e', h1, Nat.le_trans h2 Q.2.1, Fr.snoc X' h3 ha, fun t q => st0 t (st' t q)⟩
theorem Wk.arrlen {pc pc' : Nat} {L : Array Slot} {st : List Value} {a : Addr} {k : ClassId} {ty : FieldType} {z : Int32} {vs : List Value} {dv : Value} (w : Wk p l e R s m args below meth c Z a0 EL S0 y B ml ret V h cl sl (mkF m pc L (.ref a :: st))) (A : Arv Z h a k ty z vs dv) (hd : decode B pc = .ok (.arraylength, 1)) (hp : pc + 1 = pc' := by rfl) :
    Wk p l e R s m args below meth c Z a0 EL S0 y B ml ret V h cl sl (mkF m pc' L (.int z :: st)) := by
  subst hp
  obtain ⟨cA, A1, A2, A3, A4, A5, A6⟩ := A
  have e1 := len_of A3 A4
  exact w.stX fun T locs t X e0 q => X.arraylength w.1.1 (by rw [e0]; exact A1.1) (State.isArrayOf_alike w.hZ.alike A1.2.1) (g := mkF m pc L (.ref a :: st)) rfl rfl (hb w.1.2.1 hd) t (by rw [e1]; exact q)
theorem Wk.caload {pc pc' : Nat} {L : Array Slot} {st : List Value} {a : Addr} {k : ClassId} {z j : Int32} {vs : List Value} {dv v : Value} (w : Wk p l e R s m args below meth c Z a0 EL S0 y B ml ret V h cl sl (mkF m pc L (.int j :: .ref a :: st))) (A : Arv Z h a k .char z vs dv) (hd : decode B pc = .ok (.caload, 1)) (hj : ¬ j < 0 ∧ j < z) (hv : vs.getD j.toNatClampNeg dv = v) (hp : pc + 1 = pc' := by rfl) :
    Wk p l e R s m args below meth c Z a0 EL S0 y B ml ret V h cl sl (mkF m pc' L (v :: st)) := by
  subst hp
  obtain ⟨cA, A1, A2, A3, A4, A5, A6⟩ := A
  have hin := inb_of A3 hj
  exact w.stX fun T locs t X e0 q => X.caload w.1.1 (by rw [e0]; exact A1.1) (State.isArrayOf_alike w.hZ.alike A1.2.1) A1.2.2 hin (A5.at hin hv) (g := mkF m pc L (.int j :: .ref a :: st)) rfl rfl (hb w.1.2.1 hd) t q
theorem Wk.baload {pc pc' : Nat} {L : Array Slot} {st : List Value} {a : Addr} {k : ClassId} {z j : Int32} {vs : List Value} {dv v : Value} (w : Wk p l e R s m args below meth c Z a0 EL S0 y B ml ret V h cl sl (mkF m pc L (.int j :: .ref a :: st))) (A : Arv Z h a k .byte z vs dv) (hd : decode B pc = .ok (.baload, 1)) (hj : ¬ j < 0 ∧ j < z) (hv : vs.getD j.toNatClampNeg dv = v) (hp : pc + 1 = pc' := by rfl) :
    Wk p l e R s m args below meth c Z a0 EL S0 y B ml ret V h cl sl (mkF m pc' L (v :: st)) := by
  subst hp
  obtain ⟨cA, A1, A2, A3, A4, A5, A6⟩ := A
  have hin := inb_of A3 hj
  exact w.stX fun T locs t X e0 q => X.baloadBytes w.1.1 (by rw [e0]; exact A1.1) (State.isArrayOf_alike w.hZ.alike A1.2.1) A1.2.2 hin (A5.at hin hv) (g := mkF m pc L (.int j :: .ref a :: st)) rfl rfl (hb w.1.2.1 hd) t q
theorem Wk.iaload {pc pc' : Nat} {L : Array Slot} {st : List Value} {a : Addr} {k : ClassId} {z j : Int32} {vs : List Value} {dv v : Value} (w : Wk p l e R s m args below meth c Z a0 EL S0 y B ml ret V h cl sl (mkF m pc L (.int j :: .ref a :: st))) (A : Arv Z h a k .int z vs dv) (hd : decode B pc = .ok (.iaload, 1)) (hj : ¬ j < 0 ∧ j < z) (hv : vs.getD j.toNatClampNeg dv = v) (hp : pc + 1 = pc' := by rfl) :
    Wk p l e R s m args below meth c Z a0 EL S0 y B ml ret V h cl sl (mkF m pc' L (v :: st)) := by
  subst hp
  obtain ⟨cA, A1, A2, A3, A4, A5, A6⟩ := A
  have hin := inb_of A3 hj
  exact w.stX fun T locs t X e0 q => X.iaload w.1.1 (by rw [e0]; exact A1.1) (State.isArrayOf_alike w.hZ.alike A1.2.1) A1.2.2 hin (A5.at hin hv) (g := mkF m pc L (.int j :: .ref a :: st)) rfl rfl (hb w.1.2.1 hd) t q
theorem Wk.aaload {pc pc' : Nat} {L : Array Slot} {st : List Value} {a : Addr} {k : ClassId} {z j : Int32} {ty : FieldType} {vs : List Value} {dv v : Value} (w : Wk p l e R s m args below meth c Z a0 EL S0 y B ml ret V h cl sl (mkF m pc L (.int j :: .ref a :: st))) (A : Arv Z h a k ty z vs dv) (hd : decode B pc = .ok (.aaload, 1)) (hj : ¬ j < 0 ∧ j < z) (hv : vs.getD j.toNatClampNeg dv = v) (hty : ty.isReference = true := by rfl) (hp : pc + 1 = pc' := by rfl) :
    Wk p l e R s m args below meth c Z a0 EL S0 y B ml ret V h cl sl (mkF m pc' L (v :: st)) := by
  subst hp
  obtain ⟨cA, A1, A2, A3, A4, A5, A6⟩ := A
  have hin := inb_of A3 hj
  exact w.stX fun T locs t X e0 q => X.aaload w.1.1 (by rw [e0]; exact A1.1) (State.isArrayOf_alike w.hZ.alike A1.2.1) hty A1.2.2 hin (A5.at hin hv) (g := mkF m pc L (.int j :: .ref a :: st)) rfl rfl (hb w.1.2.1 hd) t q

theorem Wk.getF {pc pc' : Nat} {L : Array Slot} {st : List Value} {index : Nat} {O n d : String} {a : Addr} {v : Value} (w : Wk p l e R s m args below meth c Z a0 EL S0 y B ml ret V h cl sl (mkF m pc L (.ref a :: st))) (wl : (Jvm.Cond.fieldLink y.cls index O n d).before a0 Z = true) (F : Fld Z h a O n d v) (hd : decode B pc = .ok (.getfield index, 3)) (hp : pc + 3 = pc' := by rfl) :
    Wk p l e R s m args below meth c Z a0 EL S0 y B ml ret V h cl sl (mkF m pc' L (v :: st)) := by
  subst hp
  refine w.heap (CHr.refl w.ch) w.old fun T locs X e0 f => ?_
  obtain ⟨T', X', e', st'⟩ := RoadKit.getF X w.1.1 w.hZ w.own (host := "") (Or.inl wl) Via.refl e0 F (g := mkF m pc L (.ref a :: st)) rfl rfl (hb w.1.2.1 hd)
  exact ⟨T', locs, X', e', f, st'⟩
theorem Wk.getS {pc pc' : Nat} {L : Array Slot} {st : List Value} {index : Nat} {O n d : String} {v : Value} (w : Wk p l e R s m args below meth c Z a0 EL S0 y B ml ret V h cl sl (mkF m pc L st)) (wl : (Jvm.Cond.fieldLink y.cls index O n d).before a0 Z = true) (F : Sta Z Z.heap O n d v) (hd : decode B pc = .ok (.getstatic index, 3)) (hp : pc + 3 = pc' := by rfl) :
    Wk p l e R s m args below meth c Z a0 EL S0 y B ml ret V h cl sl (mkF m pc' L (v :: st)) := by
  subst hp
  refine w.heap (CHr.refl w.ch) w.old fun T locs X e0 f => ?_
  obtain ⟨T', X', e', st'⟩ := RoadKit.getS X w.1.1 w.hZ (host := "") w.own wl Via.refl e0 (F.ext w.old) (g := mkF m pc L st) rfl (hb w.1.2.1 hd)
  exact ⟨T', locs, X', e', f, st'⟩
theorem Wk.putF {pc pc' : Nat} {L : Array Slot} {st : List Value} {index kk : Nat} {O n d C : String} {ty : FieldType} {a : Addr} {v old : Value} (w : Wk p l e R s m args below meth c Z a0 EL S0 y B ml ret V h cl sl (mkF m pc L (v :: .ref a :: st))) (wl : (Jvm.Cond.fieldLink y.cls index O n d).before a0 Z = true) (F : Fld Z h a O n d old) (E : Exa Z h a C)
    (La : (Jvm.Cond.lays C O n d).before a0 Z = true ∨ ((Jvm.Cond.laysFinal C O n d).before a0 Z = true ∧ y.cls = O ∧ y.name = "<init>")) (wi : (Jvm.Cond.instantiable C kk).before a0 Z = true) (hty : parseFieldDescriptor d = some ty) (hn : narrow ty v = v) (hf0 : fits ty v = true) (S : Safe Z EL V h a) (ha : Z.heap.size ≤ a) (hd : decode B pc = .ok (.putfield index, 3)) (hp : pc + 3 = pc' := by rfl) :
    ∃ h' : Heap, Wr h h' a (RoadKit.slotOf Z O n d) v ∧ Keep h h' [a] ∧ Fld Z h' a O n d v ∧ CHr Z EL V h V h' ∧ Wk p l e R s m args below meth c Z a0 EL S0 y B ml ret V h' cl sl (mkF m pc' L st) := by
  subst hp
  obtain ⟨hf, ⟨hz, hC, hO⟩, T, locs, k0, X, e0, h1, h2, h3, st0⟩ := id w
  obtain ⟨T', h', X', e', W, st'⟩ := RoadKit.putF X hf.1 hz w.own (host := "") (Or.inl wl) Via.refl e0 F E (La.imp id fun q => ⟨q.1, q.2.1, hf.2.2.2.2.2.2.1.trans q.2.2⟩) wi hty hn hf0 (g := mkF m pc L (v :: .ref a :: st)) rfl rfl (hb hf.2.1 hd)
  have Q : CHr Z EL V h V h' := CHr.wr W S w.ch
  exact ⟨h', W, Keep.of_wr W, F.same W, Q, hf, ⟨hz, hC.trans Q, extW hO W ha⟩, T', _, k0, X', e', h1, Nat.le_trans h2 Q.2.1, Fr.snoc X' h3 ha, fun t q => st0 t (st' t q)⟩
theorem Wk.putFN {pc pc' : Nat} {L : Array Slot} {st : List Value} {index kk : Nat} {O n d C : String} {ty : FieldType} {a : Addr} {v v' old : Value} (w : Wk p l e R s m args below meth c Z a0 EL S0 y B ml ret V h cl sl (mkF m pc L (v :: .ref a :: st))) (wl : (Jvm.Cond.fieldLink y.cls index O n d).before a0 Z = true) (F : Fld Z h a O n d old) (E : Exa Z h a C)
    (La : (Jvm.Cond.lays C O n d).before a0 Z = true ∨ ((Jvm.Cond.laysFinal C O n d).before a0 Z = true ∧ y.cls = O ∧ y.name = "<init>")) (wi : (Jvm.Cond.instantiable C kk).before a0 Z = true) (hty : parseFieldDescriptor d = some ty) (hn : narrow ty v = v') (hf0 : fits ty v' = true) (S : Safe Z EL V h a) (ha : Z.heap.size ≤ a) (hd : decode B pc = .ok (.putfield index, 3)) (hp : pc + 3 = pc' := by rfl) :
    ∃ h' : Heap, Wr h h' a (RoadKit.slotOf Z O n d) v' ∧ Keep h h' [a] ∧ Fld Z h' a O n d v' ∧ CHr Z EL V h V h' ∧ Wk p l e R s m args below meth c Z a0 EL S0 y B ml ret V h' cl sl (mkF m pc' L st) := by
  subst hp
  obtain ⟨hf, ⟨hz, hC, hO⟩, T, locs, k0, X, e0, h1, h2, h3, st0⟩ := id w
  obtain ⟨T', h', X', e', W, st'⟩ := RoadKit.putFN X hf.1 hz w.own wl Via.refl e0 F E (La.imp id fun q => ⟨q.1, q.2.1, hf.2.2.2.2.2.2.1.trans q.2.2⟩) wi hty hn hf0 (g := mkF m pc L (v :: .ref a :: st)) rfl rfl (hb hf.2.1 hd)
  have Q : CHr Z EL V h V h' := CHr.wr W S w.ch
  exact ⟨h', W, Keep.of_wr W, F.same W, Q, hf, ⟨hz, hC.trans Q, extW hO W ha⟩, T', _, k0, X', e', h1, Nat.le_trans h2 Q.2.1, Fr.snoc X' h3 ha, fun t q => st0 t (st' t q)⟩
theorem Wk.cast {pc pc' : Nat} {L : Array Slot} {st : List Value} {index : Nat} {K : String} {a : Addr} (w : Wk p l e R s m args below meth c Z a0 EL S0 y B ml ret V h cl sl (mkF m pc L (.ref a :: st))) (wl : (Jvm.Cond.classLink y.cls index K).before a0 Z = true) (F : Ins Z h a K true) (hd : decode B pc = .ok (.checkcast index, 3)) (hp : pc + 3 = pc' := by rfl) :
    Wk p l e R s m args below meth c Z a0 EL S0 y B ml ret V h cl sl (mkF m pc' L (.ref a :: st)) := by
  subst hp
  refine w.heap (CHr.refl w.ch) w.old fun T locs X e0 f => ?_
  obtain ⟨T', X', e', st'⟩ := castY X w.1.1 w.hZ w.own wl e0 F (g := mkF m pc L (.ref a :: st)) rfl rfl (hb w.1.2.1 hd)
  exact ⟨T', locs, X', e', f, st'⟩
theorem Wk.inst {pc pc' : Nat} {L : Array Slot} {st : List Value} {index : Nat} {K : String} {a : Addr} (w : Wk p l e R s m args below meth c Z a0 EL S0 y B ml ret V h cl sl (mkF m pc L (.ref a :: st))) (wl : (Jvm.Cond.classLink y.cls index K).before a0 Z = true) (F : Ins Z h a K true) (hd : decode B pc = .ok (.instanceof index, 3)) (hp : pc + 3 = pc' := by rfl) :
    Wk p l e R s m args below meth c Z a0 EL S0 y B ml ret V h cl sl (mkF m pc' L (.int 1 :: st)) := by
  subst hp
  refine w.heap (CHr.refl w.ch) w.old fun T locs X e0 f => ?_
  obtain ⟨T', X', e', st'⟩ := instY X w.1.1 w.hZ w.own wl e0 F (g := mkF m pc L (.ref a :: st)) rfl rfl (hb w.1.2.1 hd)
  exact ⟨T', locs, X', e', f, st'⟩
theorem Wk.instNull {pc pc' : Nat} {L : Array Slot} {st : List Value} {index : Nat} (w : Wk p l e R s m args below meth c Z a0 EL S0 y B ml ret V h cl sl (mkF m pc L (.null :: st))) (hd : decode B pc = .ok (.instanceof index, 3)) (hp : pc + 3 = pc' := by rfl) :
    Wk p l e R s m args below meth c Z a0 EL S0 y B ml ret V h cl sl (mkF m pc' L (.int 0 :: st)) := by
  subst hp
  exact w.stX fun T locs t X e0 k => X.instanceofNull w.1.1 (g := mkF m pc L (.null :: st)) rfl rfl (hb w.1.2.1 hd) t k
/-- Object.<init> -/
theorem Wk.initO {pc pc' : Nat} {L : Array Slot} {st : List Value} {idx : Nat} {a : Addr} (W : Nat) (w : Wk p l e R s m args below meth c Z a0 EL S0 y B ml ret V h cl sl (mkF m pc L (.ref a :: st))) (w1 : (Jvm.Cond.methodLink y.cls idx Lib.objectInit).before a0 Z = true) (w2 : (Jvm.Cond.instanceMethod Lib.objectInit).before a0 Z = true)
    (w3 : (Jvm.Cond.code Lib.objectInit ⟨#[0xb1]⟩ 1 none).before a0 Z = true) (hL : L.size = ml) (hd : decode B pc = .ok (.invokespecial idx, 3)) (hfr : 1 ≤ R.frames) (hW : (st.map fun v => v.category).sum ≤ W) (hlo : W + 12 ≤ R.locals) (hp : pc + 3 = pc' := by rfl) :
    Wk p l e R s m args below meth c Z a0 EL S0 y B ml ret V h cl sl (mkF m pc' L st) := by
  subst hp
  refine w.heap (CHr.refl w.ch) w.old fun T locs X e0 f => ?_
  obtain ⟨T', X', e', st'⟩ := RoadKit.initO X w.1.1 w.hZ w.own w1 w2 w3 e0 (g := mkF m pc L (.ref a :: st)) rfl (hL.trans w.1.2.2.1.symm) rfl (hb w.1.2.1 hd) hfr (W := W) (by show 2 * 0 + _ ≤ _; omega) hlo
  exact ⟨T', locs, X', e', f, st'⟩
/-- ldc of a String constant of EL, its text below 256 -/
theorem Wk.ldcS {pc pc' : Nat} {L : Array Slot} {st : List Value} {index : Nat} {text : String} {vs : List Value} {z : Int32} (n : Nat) (w : Wk p l e R s m args below meth c Z a0 EL S0 y B ml ret V h cl sl (mkF m pc L st)) (wl : (Jvm.Cond.stringLink y.cls index text).before a0 Z = true) (wS : ∀ a ∈ Bundle.stringAtoms, a.before a0 Z = true) (hm : (y.cls, index) ∈ EL)
    (ht : (∀ c ∈ text.toList, c.toNat < 256) ∧ text.toList.map (fun c => Value.int (Jvm.Lit.byteI c.toNat.toUInt16)) = vs) (hz : ¬ z < 0) (hl : z.toNatClampNeg = vs.length) (hd : decode B pc = .ok (.ldc index, 2)) (hn : 4 * text.toList.length ≤ n) (hbig : n ≤ 536870912) (hc : cl + 2 ≤ R.cells) (hl' : sl + (n + 4) ≤ R.slots) (hp : pc + 2 = pc' := by rfl) :
    ∃ (a : Addr) (V' : Vm) (h' : Heap) (b : Addr) (k : ClassId), Ext h h' ∧ Exa Z h' a "java/lang/String" ∧ Fld Z h' a "java/lang/String" "coder" "B" (.int 0) ∧ Fld Z h' a "java/lang/String" "value" "[B" (.ref b) ∧ Arv Z h' b k .byte z vs (.int 0) ∧ (∀ x, Safe Z EL V' h' x → x ≠ a ∧ x ≠ b) ∧ CHr Z EL V h V' h' ∧
      Wk p l e R s m args below meth c Z a0 EL S0 y B ml ret V' h' (cl + 2) (sl + (n + 4)) (mkF m pc' L (.ref a :: st)) := by
  subst hp
  obtain ⟨hf, ⟨hz0, hC, hO⟩, T, locs, k0, X, e0, h1, h2, h3, st0⟩ := id w
  obtain ⟨a, T', h', k1, b, k, X', e', E, hS, hk, hW, hown', q1, q2, q3, q4, -, -, Q, -, hne, st'⟩ := ldcCH X hf.1 hz0 w.own wl wS e0 h1 h2 hf.2.2.2.2.2.2.2 hm w.ch ht hz hl (g := mkF m pc L st) rfl (hb hf.2.1 hd) hn hbig hc hl'
  exact ⟨a, T'.vm, h', b, k, E, q1, q2, q3, q4, hne, Q, hf, ⟨hW, hC.trans Q, extT hO E⟩, T', locs, k1, X', e', hS, hk, h3, fun t q => st0 t (st' t q)⟩
/-! calls -/
/-- who pays a call of y': the shape of every payer here -/
def Pays (p : Program) (l : Launch) (e : Env) (R : Room) (s : State) (args : Array Value) (below : List Frame) (Z : State) (EL : List (String × Nat)) (V : Vm) (h : Heap) (y' : MethodName) (len W kc ks : Nat) (as' : Array Value) (Q : Option Value → Heap → Prop) : Prop :=
  BackS l R p e below (s.setVm V) args y' len W (fun A a => a = as' ∧ A.U.heap = h ∧ A.cells + kc ≤ R.cells ∧ A.slots + ks ≤ R.slots)
    (fun A _ v B => ∃ L : List Loc, Q v B.U.heap ∧ Ext Z.heap B.U.heap ∧ Fr Z.heap.size L ∧ CHr Z EL V h B.U.vm B.U.heap ∧ B.locs = A.locs ++ L ∧ B.cells = A.cells + kc ∧ B.slots = A.slots + ks)
theorem Wk.pays {g : JFrame} {y' : MethodName} {B' : ByteArray} {ml' : Nat} {ret' : Option FieldType} {rm : Room} {as' : Array Value} {sf : List Addr} {Q : Option Value → Heap → Prop} {len : Nat} (W : Nat) (w : Wk p l e R s m args below meth c Z a0 EL S0 y B ml ret V h cl sl g) (M : Met l Z EL y' B' ml' ret' [] rm as' h sf Q)
    (wc : (Jvm.Cond.code y' B' ml' ret').before a0 Z = true) (wz : (Jvm.Cond.initialized y'.cls).before a0 Z = true) (hsf : ∀ x ∈ sf, Safe Z EL V h x) (hf : rm.frames + 1 ≤ R.frames) (hl : W + (ml' + 11) + rm.locals ≤ R.locals) :
    Pays p l e R s args below Z EL V h y' len W rm.cells rm.slots as' Q :=
  BackS.of_freeW (bytes := B') (maxL := ml') (ret := ret') (E := fun _ first o t L k n => k = rm.cells ∧ n = rm.slots ∧ (∃ v, o = .returned v ∧ Q v t.heap) ∧ Ext Z.heap t.heap ∧ Fr Z.heap.size L ∧ CHr Z EL first.vm first.heap t.vm t.heap) M hf hl
    (fun m meth c A a Y hp => have hU : Z.Warmed39 A.U.vm := wtrans (s := s.setVm V) w.hZ Y.warmed
      ⟨by show (Jvm.Cond.and _ .tt).before a A.U = true; rw [Cond.before_and, mv hU wc]; rfl, mv hU wc, mv hU wz, hp.2.2.1, hp.2.2.2⟩)
    (fun m meth c A a g mk Y hp => ⟨hp.1, wtrans (s := s.setVm V) w.hZ Y.warmed, hp.2.1, (CHv.at Y w.hZ w.el w.ch).1, fun x hx => (CHv.at Y w.hZ w.el w.ch).2.2 x |> fun q B => (q B).elim (hsf x hx) (fun r => hsf x hx |> fun _ => by
      obtain ⟨cell, q0⟩ := B.there
      exact absurd (Array.getElem?_eq_some_iff.mp q0).1 (Nat.not_lt.mpr r))⟩) (fun _ _ _ _ _ _ _ _ _ => trivial)
    (fun _ _ _ _ ⟨v, L, h1, h2, h3, h4, h5, h6⟩ => ⟨L, _, _, h6, rfl, rfl, ⟨v, h1, h2⟩, h3, h4, h5⟩)
    (fun m meth c A a g mk v t L k n Y hp _ _ ⟨e1, e2, ⟨v', e3, e4⟩, e5, e6, e7⟩ => by
      cases e3; subst e1 e2
      refine ⟨L, e4, e5, e6, (CHv.at Y w.hZ w.el w.ch).trans ?_, rfl, rfl, rfl⟩
      rw [← hp.2.1]; exact e7)
/-- a payer of the library's (Back): what it writes lies in ws -/
theorem Wk.paysB {g : JFrame} {y' : MethodName} {as' : Array Value} {Qb : Option Value → Heap → List Loc → Prop} {len W kc ks : Nat} (w : Wk p l e R s m args below meth c Z a0 EL S0 y B ml ret V h cl sl g) (ws : List Addr)
    (K : Back l R p e below (s.setVm V) args y' len W (fun A a => a = as' ∧ A.U.heap = h ∧ A.cells + kc ≤ R.cells ∧ A.slots + ks ≤ R.slots) (fun A _ v B => ∃ L, Qb v B.U.heap L ∧ B.locs = A.locs ++ L ∧ B.cells = A.cells + kc ∧ B.slots = A.slots + ks))
    (hQ : ∀ v h' L, Qb v h' L → Keep h h' ws ∧ Fr Z.heap.size L) (hs : ∀ x ∈ ws, Safe Z EL V h x ∧ Z.heap.size ≤ x) :
    Pays p l e R s args below Z EL V h y' len W kc ks as' (fun v h' => ∃ L, Qb v h' L) := by
  intro m meth c A g ig mk a X hg hsize hdg hW hn hp
  obtain ⟨v, D, X', ⟨L, q1, q2, q3, q4⟩, st⟩ := K m meth c A g ig mk a X hg hsize hdg hW hn hp
  obtain ⟨K1, K2⟩ := hQ _ _ _ q1
  have A1 : CHr Z EL V h V D.U.heap := CHr.keep K1 (fun x hx => (hs x hx).1) w.ch
  refine ⟨v, D, X'.retabled X'.warmed.wide, X'.warmed.since _, by rw [hp.2.1]; exact K1.1, ⟨L, ⟨L, q1⟩, extK w.old K1 (fun x hx => (hs x hx).2), K2, A1.trans (CHv.at X' w.hZ w.el A1.1), q2, q3, q4⟩, st⟩
theorem Wk.back {g g' : JFrame} {y' : MethodName} {kc ks : Nat} {Q : Option Value → Heap → Prop} {v : Option Value} {T0 : State} {locs0 : List Loc} {D : Pt} {vm₁ : Vm} (w : Wk p l e R s m args below meth c Z a0 EL S0 y B ml ret V h cl sl g) {k0 : Nat} (h1 : s.Since V k0) (h2 : k0 ≤ h.size) (h3 : Fr Z.heap.size locs0) (e0 : T0.heap = h)
    (X' : Stand p l e R ((s.setVm V).setVm D.U.vm) m args below meth c D.U D.locs D.cells D.slots) (hS : (s.setVm V).Since D.U.vm D.U.heap.size) (hgr : T0.heap.size ≤ D.U.heap.size)
    (hpost : ∃ L : List Loc, Q v D.U.heap ∧ Ext Z.heap D.U.heap ∧ Fr Z.heap.size L ∧ CHr Z EL V h D.U.vm D.U.heap ∧ D.locs = Pt.locs (T0.setVm vm₁, locs0, cl, sl) ++ L ∧ D.cells = Pt.cells (T0.setVm vm₁, locs0, cl, sl) + kc ∧ D.slots = Pt.slots (T0.setVm vm₁, locs0, cl, sl) + ks)
    (st : ∀ t, Steps p.tables e below (D.U.setTop g') t → Steps p.tables e below S0 t) :
    ∃ (V' : Vm) (h' : Heap), Q v h' ∧ CHr Z EL V h V' h' ∧ Wk p l e R s m args below meth c Z a0 EL S0 y B ml ret V' h' (cl + kc) (sl + ks) g' := by
  obtain ⟨L, q1, q2, q3, q4, q5, q6, q7⟩ := hpost
  obtain ⟨U, locsD, cD, sD⟩ := D
  dsimp only [Pt.U, Pt.locs, Pt.cells, Pt.slots] at *
  subst q5 q6 q7
  exact ⟨U.vm, U.heap, q1, q4, w.1, ⟨State.Warmed39.trans (t := s.setVm V) w.hZ hS.1, w.2.1.2.1.trans q4, q2⟩, U, _, _, X', rfl, foldS (T := T0) h1 (by rw [e0]; exact h2) hS hgr, Nat.le_refl _, Fr.app h3 q3, st⟩
/-- invokestatic -/
theorem Wk.static {pc pc' : Nat} {L : Array Slot} {st rest argsL : List Value} {index W kc ks : Nat} {y' : MethodName} {B' : ByteArray} {ml' : Nat} {ret' : Option FieldType} {Q : Option Value → Heap → Prop} {ps : List FieldType} {r : Option FieldType} (w : Wk p l e R s m args below meth c Z a0 EL S0 y B ml ret V h cl sl (mkF m pc L st))
    (K : Pays p l e R s args below Z EL V h y' 3 W kc ks argsL.toArray Q) (wl : (Jvm.Cond.methodLink y.cls index y').before a0 Z = true) (wst : (Jvm.Cond.static y').before a0 Z = true) (wz : (Jvm.Cond.initialized y'.cls).before a0 Z = true) (wc : (Jvm.Cond.code y' B' ml' ret').before a0 Z = true)
    (hy : y'.cls ≠ "java/lang/invoke/MethodHandle" ∧ y'.cls ≠ "java/lang/invoke/VarHandle") (hpd : parseMethodDescriptor y'.desc = some ⟨ps, r⟩) (hlen : argsL.length = ps.length) (hst : st = argsL.reverse ++ rest) (hW : (rest.map fun v => v.category).sum ≤ W) (hL : L.size = ml) (hd : decode B pc = .ok (.invokestatic index, 3)) (hc : cl + kc ≤ R.cells) (hs : sl + ks ≤ R.slots) (hp : pc + 3 = pc' := by rfl) :
    ∃ (v : Option Value) (V' : Vm) (h' : Heap), Q v h' ∧ CHr Z EL V h V' h' ∧ Wk p l e R s m args below meth c Z a0 EL S0 y B ml ret V' h' (cl + kc) (sl + ks) (mkF m pc' L (v.toList ++ rest)) := by
  subst hp
  obtain ⟨hf, ⟨hz, hC, hO⟩, T, locs, k0, X, e0, h1, h2, h3, st0⟩ := id w
  obtain ⟨v, vm₁, D, -, X', hS, hgr, hpost, st'⟩ := callSS X hf.1 w.own (mv (s := s.setVm V) hz wl) (mv (s := s.setVm V) hz wst) (mv (s := s.setVm V) hz wz) (mv (s := s.setVm V) hz wc) hy K (g := mkF m pc L st) rfl (hL.trans hf.2.2.1.symm) (argsL := argsL) (rest := rest) (lenOf hpd hlen) hst (by show 2 * 0 + _ ≤ _; omega) (hb hf.2.1 hd) (fun _ _ => ⟨rfl, e0, hc, hs⟩)
  obtain ⟨V', h', a1, a2, a3⟩ := w.back (g' := mkF m (pc + 3) L (v.toList ++ rest)) (y' := y') h1 h2 h3 e0 X' hS hgr hpost (fun t q => st0 t (st'.trans q))
  exact ⟨v, V', h', a1, a2, a3⟩
/-- invokevirtual: the receiver is exactly a C, for which the call goes to z -/
theorem Wk.virtual {pc pc' : Nat} {L : Array Slot} {st rest argsL : List Value} {index W kc ks : Nat} {y' z : MethodName} {C : String} {b : Addr} {Q : Option Value → Heap → Prop} {ps : List FieldType} {r : Option FieldType} (w : Wk p l e R s m args below meth c Z a0 EL S0 y B ml ret V h cl sl (mkF m pc L st))
    (K : Pays p l e R s args below Z EL V h z 3 W kc ks (.ref b :: argsL).toArray Q) (wl : (Jvm.Cond.methodLink y.cls index y').before a0 Z = true) (wd : (Jvm.Cond.declares y').before a0 Z = true) (hnf : NotFace (s.setVm V) y') (ws : (Jvm.Cond.selects C y' z).before a0 Z = true) (wi : (Jvm.Cond.instanceMethod z).before a0 Z = true)
    (hy : y'.cls ≠ "java/lang/invoke/MethodHandle" ∧ y'.cls ≠ "java/lang/invoke/VarHandle") (E : Exa Z h b C) (hpd : parseMethodDescriptor y'.desc = some ⟨ps, r⟩) (hlen : argsL.length = ps.length) (hst : st = argsL.reverse ++ .ref b :: rest) (hW : (rest.map fun v => v.category).sum ≤ W) (hL : L.size = ml) (hd : decode B pc = .ok (.invokevirtual index, 3)) (hc : cl + kc ≤ R.cells) (hs : sl + ks ≤ R.slots) (hp : pc + 3 = pc' := by rfl) :
    ∃ (v : Option Value) (V' : Vm) (h' : Heap), Q v h' ∧ CHr Z EL V h V' h' ∧ Wk p l e R s m args below meth c Z a0 EL S0 y B ml ret V' h' (cl + kc) (sl + ks) (mkF m pc' L (v.toList ++ rest)) := by
  subst hp
  obtain ⟨hf, ⟨hz, hC, hO⟩, T, locs, k0, X, e0, h1, h2, h3, st0⟩ := id w
  obtain ⟨cB, kB, b1, b2, b3⟩ := isOf (s := s.setVm V) hz e0 E
  obtain ⟨v, vm₁, D, -, X', hS, hgr, hpost, st'⟩ := X.virtualBackS hf.1 w.own (mv (s := s.setVm V) hz wl) (mv (s := s.setVm V) hz wd) hnf (mv (s := s.setVm V) hz ws) (mv (s := s.setVm V) hz wi) hy K b1 b3 (g := mkF m pc L st) rfl (hL.trans hf.2.2.1.symm) (Steps.refl _) (argsL := argsL) (rest := rest) (lenOf hpd hlen) hst (by show 2 * 0 + _ ≤ _; omega) (hb hf.2.1 hd) (fun _ _ => ⟨rfl, e0, hc, hs⟩)
  obtain ⟨V', h', a1, a2, a3⟩ := w.back (g' := mkF m (pc + 3) L (v.toList ++ rest)) (y' := z) h1 h2 h3 e0 X' hS hgr hpost (fun t q => st0 t (st'.trans q))
  exact ⟨v, V', h', a1, a2, a3⟩
/-- .. where the entry's own class declares what is selected -/
theorem Wk.virt {pc pc' : Nat} {L : Array Slot} {st rest argsL : List Value} {index W kc ks : Nat} {y' : MethodName} {C : String} {b : Addr} {Q : Option Value → Heap → Prop} {ps : List FieldType} {r : Option FieldType} (w : Wk p l e R s m args below meth c Z a0 EL S0 y B ml ret V h cl sl (mkF m pc L st))
    (K : Pays p l e R s args below Z EL V h y' 3 W kc ks (.ref b :: argsL).toArray Q) (wl : (Jvm.Cond.methodLink y.cls index y').before a0 Z = true) (wd : (Jvm.Cond.declares y').before a0 Z = true) (ws : (Jvm.Cond.selects C y' y').before a0 Z = true) (wi : (Jvm.Cond.instanceMethod y').before a0 Z = true)
    (hy : y'.cls ≠ "java/lang/invoke/MethodHandle" ∧ y'.cls ≠ "java/lang/invoke/VarHandle") (E : Exa Z h b C) (hpd : parseMethodDescriptor y'.desc = some ⟨ps, r⟩) (hlen : argsL.length = ps.length) (hst : st = argsL.reverse ++ .ref b :: rest) (hW : (rest.map fun v => v.category).sum ≤ W) (hL : L.size = ml) (hd : decode B pc = .ok (.invokevirtual index, 3)) (hc : cl + kc ≤ R.cells) (hs : sl + ks ≤ R.slots) (hp : pc + 3 = pc' := by rfl) :
    ∃ (v : Option Value) (V' : Vm) (h' : Heap), Q v h' ∧ CHr Z EL V h V' h' ∧ Wk p l e R s m args below meth c Z a0 EL S0 y B ml ret V' h' (cl + kc) (sl + ks) (mkF m pc' L (v.toList ++ rest)) :=
  w.virtual K wl wd (notFace_of_selects (args := #[]) (mv (s := s.setVm V) w.hZ ws)) ws wi hy E hpd hlen hst hW hL hd hc hs hp
/-- invokespecial of a constructor -/
theorem Wk.ctor {pc pc' : Nat} {L : Array Slot} {st rest argsL : List Value} {index W kc ks : Nat} {y' : MethodName} {B' : ByteArray} {ml' : Nat} {a : Addr} {Q : Option Value → Heap → Prop} {ps : List FieldType} {r : Option FieldType} (w : Wk p l e R s m args below meth c Z a0 EL S0 y B ml ret V h cl sl (mkF m pc L st))
    (K : Pays p l e R s args below Z EL V h y' 3 W kc ks (.ref a :: argsL).toArray Q) (hy1 : y'.name = "<init>") (wl : (Jvm.Cond.methodLink y.cls index y').before a0 Z = true) (wi : (Jvm.Cond.instanceMethod y').before a0 Z = true) (wc : (Jvm.Cond.code y' B' ml' none).before a0 Z = true)
    (hy : y'.cls ≠ "java/lang/invoke/MethodHandle" ∧ y'.cls ≠ "java/lang/invoke/VarHandle") (hpd : parseMethodDescriptor y'.desc = some ⟨ps, r⟩) (hlen : argsL.length = ps.length) (hst : st = argsL.reverse ++ .ref a :: rest) (hW : (rest.map fun v => v.category).sum ≤ W) (hL : L.size = ml) (hd : decode B pc = .ok (.invokespecial index, 3)) (hc : cl + kc ≤ R.cells) (hs : sl + ks ≤ R.slots) (hp : pc + 3 = pc' := by rfl) :
    ∃ (v : Option Value) (V' : Vm) (h' : Heap), Q v h' ∧ CHr Z EL V h V' h' ∧ Wk p l e R s m args below meth c Z a0 EL S0 y B ml ret V' h' (cl + kc) (sl + ks) (mkF m pc' L (v.toList ++ rest)) := by
  subst hp
  obtain ⟨hf, ⟨hz, hC, hO⟩, T, locs, k0, X, e0, h1, h2, h3, st0⟩ := id w
  obtain ⟨v, vm₁, D, -, X', hS, hgr, hpost, st'⟩ := X.specialBackS hf.1 hy1 w.own (mv (s := s.setVm V) hz wl) (mv (s := s.setVm V) hz wi) (mv (s := s.setVm V) hz wc) hy K (g := mkF m pc L st) rfl (hL.trans hf.2.2.1.symm) (Steps.refl _) (a := a) (argsL := argsL) (rest := rest) (lenOf hpd hlen) hst (by show 2 * 0 + _ ≤ _; omega) (hb hf.2.1 hd) (fun _ _ => ⟨rfl, e0, hc, hs⟩)
  obtain ⟨V', h', a1, a2, a3⟩ := w.back (g' := mkF m (pc + 3) L (v.toList ++ rest)) (y' := y') h1 h2 h3 e0 X' hS hgr hpost (fun t q => st0 t (st'.trans q))
  exact ⟨v, V', h', a1, a2, a3⟩
/-- a private method by invokevirtual -/
theorem Wk.priv {pc pc' : Nat} {L : Array Slot} {st rest argsL : List Value} {index W kc ks : Nat} {y' : MethodName} {B' : ByteArray} {ml' : Nat} {ret' : Option FieldType} {C : String} {b : Addr} {Q : Option Value → Heap → Prop} {ps : List FieldType} {r : Option FieldType} (w : Wk p l e R s m args below meth c Z a0 EL S0 y B ml ret V h cl sl (mkF m pc L st))
    (K : Pays p l e R s args below Z EL V h y' 3 W kc ks (.ref b :: argsL).toArray Q) (wl : (Jvm.Cond.methodLink y.cls index y').before a0 Z = true) (wi : (Jvm.Cond.instanceMethod y').before a0 Z = true) (wp : (Jvm.Cond.privateMethod y').before a0 Z = true) (ws : (Jvm.Cond.selects C y' y').before a0 Z = true) (wc : (Jvm.Cond.code y' B' ml' ret').before a0 Z = true)
    (hy : y'.cls ≠ "java/lang/invoke/MethodHandle" ∧ y'.cls ≠ "java/lang/invoke/VarHandle") (E : Exa Z h b C) (hpd : parseMethodDescriptor y'.desc = some ⟨ps, r⟩) (hlen : argsL.length = ps.length) (hst : st = argsL.reverse ++ .ref b :: rest) (hW : (rest.map fun v => v.category).sum ≤ W) (hL : L.size = ml) (hd : decode B pc = .ok (.invokevirtual index, 3)) (hc : cl + kc ≤ R.cells) (hs : sl + ks ≤ R.slots) (hp : pc + 3 = pc' := by rfl) :
    ∃ (v : Option Value) (V' : Vm) (h' : Heap), Q v h' ∧ CHr Z EL V h V' h' ∧ Wk p l e R s m args below meth c Z a0 EL S0 y B ml ret V' h' (cl + kc) (sl + ks) (mkF m pc' L (v.toList ++ rest)) := by
  subst hp
  obtain ⟨hf, ⟨hz, hC, hO⟩, T, locs, k0, X, e0, h1, h2, h3, st0⟩ := id w
  obtain ⟨cell, q1, q2⟩ := E.cell
  obtain ⟨mk, methM, hnamed, hmethM, hstM, habM⟩ := Cond.instanceMethod_spec (mv (s := s.setVm V) (args := args) hz wi)
  obtain ⟨methM', cM, hmethM', -, -, -, -, -, -, hsigM⟩ := Cond.code_spec hnamed (mv (s := s.setVm V) (args := args) hz wc)
  cases hmethM.symm.trans hmethM'
  obtain ⟨c2, r2, m2, -, -, q3, -, kP, hkP, hkPi⟩ := Cond.selects_spec (mv (s := s.setVm V) (args := args) hz ws)
  cases hnamed.symm.trans q3
  have hselP : selectMethod e.platform (s.setVm V).vm cell.cls mk = .method mk := selectMethod_private hmethM (Cond.privateMethod_at (mvP (s := s.setVm V) hz wp (args := #[])) mk methM hnamed hmethM)
  obtain ⟨vm₁, X₁, hstep₁⟩ := X.invokevirtual hf.1 w.own (mv (s := s.setVm V) hz wl) hnamed hmethM hstM hkP hkPi hy (a := b) (cell := cell) (by rw [e0]; exact q1) q2 hselP hmethM habM hkP hkPi (g := mkF m pc L st) rfl (argsL := argsL) (rest := rest) (lenOf hpd hlen _ hsigM) hst (hb hf.2.1 hd)
  obtain ⟨v, D, X', hS, hgr, hpost, hsteps⟩ := K m meth c ⟨T.setVm vm₁, locs, cl, sl⟩ { (mkF m pc L st) with stack := rest } (.invokevirtual index) mk (.ref b :: argsL).toArray X₁ rfl (hL.trans hf.2.2.1.symm) (hb hf.2.1 hd) (by show 2 * 0 + (rest.map fun v => v.category).sum ≤ W; omega) (X₁.named hnamed) ⟨rfl, e0, hc, hs⟩
  obtain ⟨V', h', a1, a2, a3⟩ := w.back (g' := mkF m (pc + 3) L (v.toList ++ rest)) (y' := y') h1 h2 h3 e0 X' hS hgr hpost (fun t q => st0 t ((hstep₁ _ fun acts => by rw [doInvoke_state]; exact Steps.refl _).trans (hsteps.trans q)))
  exact ⟨v, V', h', a1, a2, a3⟩
theorem own_same {s0 : State} {as0 : Array Value} {y1 y2 : MethodName} {C : String} (w1 : (Jvm.Cond.instanceMethod y1).before as0 s0 = true) (w2 : (Jvm.Cond.instanceMethod y2).before as0 s0 = true) (ws : (Jvm.Cond.selects C y2 y2).before as0 s0 = true) (hc : y2.cls = y1.cls) (hy : y1.cls ≠ "java/lang/invoke/MethodHandle" ∧ y1.cls ≠ "java/lang/invoke/VarHandle") : (Jvm.Cond.sameMethod y1.cls y1.cls y1.name y1.desc).before as0 s0 = true := by
  obtain ⟨r0, m0, n1, -⟩ := Cond.instanceMethod_spec w1
  obtain ⟨r1, m1, n2, -⟩ := Cond.instanceMethod_spec w2
  obtain ⟨kr, hkr, hni⟩ := notFace_of_selects (args := as0) ws r1 n2
  have c1 := findClass_of_methodNamed n1
  have c2 := findClass_of_methodNamed n2
  rw [hc] at c2
  have f1 := State.methodFound?_of_named n1 hy
  have e1 : s0.methodNamed? ⟨y1.cls, y1.name, y1.desc⟩ = some r0 := n1
  have hk' : s0.vm.classes[r0.cls]? = some kr := by rw [Option.some.inj (c1.symm.trans c2)]; exact hkr
  simp [Cond.before, Cond.holds, Cond.value, c1, f1, e1, hk', hni]
/-- super.m(..) -/
theorem Wk.super {pc pc' : Nat} {L : Array Slot} {st rest argsL : List Value} {index W kc ks : Nat} {y' : MethodName} {B' : ByteArray} {ml' : Nat} {ret' : Option FieldType} {C : String} {b : Addr} {Q : Option Value → Heap → Prop} {ps : List FieldType} {r : Option FieldType} (w : Wk p l e R s m args below meth c Z a0 EL S0 y B ml ret V h cl sl (mkF m pc L st))
    (K : Pays p l e R s args below Z EL V h y' 3 W kc ks (.ref b :: argsL).toArray Q) (wl : (Jvm.Cond.methodLink y.cls index y').before a0 Z = true) (wsm : (Jvm.Cond.sameMethod y'.cls y'.cls y'.name y'.desc).before a0 Z = true) (wi : (Jvm.Cond.instanceMethod y').before a0 Z = true) (wsu : (Jvm.Cond.superclass y.cls y'.cls).before a0 Z = true) (wc : (Jvm.Cond.code y' B' ml' ret').before a0 Z = true)
    (hn : y'.name ≠ "<init>") (E : Exa Z h b C) (hpd : parseMethodDescriptor y'.desc = some ⟨ps, r⟩) (hlen : argsL.length = ps.length) (hst : st = argsL.reverse ++ .ref b :: rest) (hW : (rest.map fun v => v.category).sum ≤ W) (hL : L.size = ml) (hd : decode B pc = .ok (.invokespecial index, 3)) (hc : cl + kc ≤ R.cells) (hs : sl + ks ≤ R.slots) (hp : pc + 3 = pc' := by rfl) :
    ∃ (v : Option Value) (V' : Vm) (h' : Heap), Q v h' ∧ CHr Z EL V h V' h' ∧ Wk p l e R s m args below meth c Z a0 EL S0 y B ml ret V' h' (cl + kc) (sl + ks) (mkF m pc' L (v.toList ++ rest)) := by
  subst hp
  obtain ⟨hf, ⟨hz, hC, hO⟩, T, locs, k0, X, e0, h1, h2, h3, st0⟩ := id w
  obtain ⟨v, vm₁, D, -, X', hS, hgr, hpost, st'⟩ := superBackS X hf.1 hz w.own wl wsm wi wsu hn K e0 (Ins.self E) (g := mkF m pc L st) rfl (hL.trans hf.2.2.1.symm) wc (argsL := argsL) (rest := rest) (lenOf hpd hlen) hst (by show 2 * 0 + _ ≤ _; omega) (hb hf.2.1 hd) (fun _ _ => ⟨rfl, e0, hc, hs⟩)
  obtain ⟨V', h', a1, a2, a3⟩ := w.back (g' := mkF m (pc + 3) L (v.toList ++ rest)) (y' := y') h1 h2 h3 e0 X' hS hgr hpost (fun t q => st0 t (st'.trans q))
  exact ⟨v, V', h', a1, a2, a3⟩
/-- System.arraycopy of bytes into an array of the walk's own -/
theorem Wk.arrcopy {pc pc' : Nat} {L : Array Slot} {st : List Value} {index W : Nat} {a b : Addr} {k k' : ClassId} {z z' sp dp nn : Int32} {vs vd us : List Value} {dv dd : Value} (w : Wk p l e R s m args below meth c Z a0 EL S0 y B ml ret V h cl sl (mkF m pc L (.int nn :: .int dp :: .ref b :: .int sp :: .ref a :: st)))
    (w1 : (Jvm.Cond.methodLink y.cls index Jvm.Stand.acN).before a0 Z = true) (w2 : (Jvm.Cond.native Jvm.Stand.acN).before a0 Z = true) (w3 : (Jvm.Cond.static Jvm.Stand.acN).before a0 Z = true) (w4 : (Jvm.Cond.initialized "java/lang/System").before a0 Z = true) (A : Arv Z h a k .byte z vs dv) (D : Arv Z h b k' .byte z' vd dd)
    (h1 : ¬ sp < 0) (h2 : ¬ dp < 0) (h3 : ¬ nn < 0) (h4 : sp.toNatClampNeg + nn.toNatClampNeg ≤ z.toNatClampNeg) (h5 : dp.toNatClampNeg + nn.toNatClampNeg ≤ z'.toNatClampNeg) (hus : us = (List.range nn.toNatClampNeg).map fun i => vs.getD (sp.toNatClampNeg + i) dv) (hl : dp.toNatClampNeg + nn.toNatClampNeg ≤ vd.length) (ge : Z.heap.size ≤ b) (Sb : Safe Z EL V h b)
    (hL : L.size = ml) (hd : decode B pc = .ok (.invokestatic index, 3)) (hf : 1 ≤ R.frames) (hW : (st.map fun v => v.category).sum ≤ W) (hlo : W + (nativeFrameWords "java/lang/System" "arraycopy" 5 + 11) ≤ R.locals) (hp : pc + 3 = pc' := by rfl) :
    ∃ h' : Heap, Keep h h' [b] ∧ Arv Z h' b k' .byte z' (vd.take dp.toNatClampNeg ++ us ++ vd.drop (dp.toNatClampNeg + nn.toNatClampNeg)) dd ∧ CHr Z EL V h V h' ∧ Wk p l e R s m args below meth c Z a0 EL S0 y B ml ret V h' cl sl (mkF m pc' L st) := by
  subst hp
  obtain ⟨hf0, ⟨hz, hC, hO⟩, T, locs, k0, X, e0, g1, g2, g3, st0⟩ := id w
  obtain ⟨T', h', L', X', e', f', K, D', st'⟩ := cpA X hf0.1 hz w.own w1 w2 w3 w4 e0 A D (Or.inl ⟨rfl, rfl⟩) h1 h2 h3 h4 h5 hus hl g3 ge (g := mkF m pc L (.int nn :: .int dp :: .ref b :: .int sp :: .ref a :: st)) rfl (hL.trans hf0.2.2.1.symm) rfl (hb hf0.2.1 hd) hf (W := W) (by show 2 * 0 + _ ≤ _; omega) hlo
  have Q : CHr Z EL V h V h' := CHr.keep K (allS Sb all0) w.ch
  exact ⟨h', K, D', Q, hf0, ⟨hz, hC.trans Q, extK hO K (allS ge all0)⟩, T', L', k0, X', e', g1, Nat.le_trans g2 Q.2.1, f', fun t q => st0 t (st' t q)⟩
/-! the end -/
theorem Wk.fin {g : JFrame} {v : Option Value} {k n : Nat} {Q : Option Value → Heap → Prop} (w : Wk p l e R s m args below meth c Z a0 EL S0 y B ml ret V h cl sl g) (hv : ret = none → v = none)
    (step : ∀ (T : State) (locs : List Loc) (fs : List Frame), Stand p l e R (s.setVm V) m args below meth c T locs cl sl → (∀ (f : JFrame) (acts : List Action), f.method = m → f.locked = none → f.entered = [] → (doReturn e (T.setTop f) acts v).1 = T.setFrames fs) → Steps p.tables e below (T.setTop g) (T.setFrames fs))
    (hQ : Q v h) (hk : cl ≤ k) (hn : sl ≤ n) : Fini p e below s Z EL S0 k n Q := by
  obtain ⟨hf, ⟨hz, hC, hO⟩, T, locs, k0, X, e0, h1, h2, h3, st0⟩ := id w
  obtain ⟨fs, hr, hrun, hend, hR⟩ := (X.more hk hn).leaveW h1 (by rw [e0]; exact h2) (v := v) (fun q => hv (hf.2.2.2.1.symm.trans q)) hf.2.2.2.2.1
  have e1 : (T.setFrames fs).heap = h := e0
  refine ⟨T.setFrames fs, .returned v, st0 _ (step T locs fs X hr), hrun, hend, v, locs, rfl, by rw [e1]; exact hQ, by rw [e1]; exact hO, h3, ?_, hR⟩
  rw [e1]
  show CHr Z EL s.vm s.heap T.vm h
  exact hC.trans (CHv.at X hz w.el w.ch)
theorem Wk.ret0 {pc : Nat} {L : Array Slot} {k n : Nat} {Q : Option Value → Heap → Prop} (w : Wk p l e R s m args below meth c Z a0 EL S0 y B ml none V h cl sl (mkF m pc L [])) (hd : decode B pc = .ok (.return_, 1)) (hQ : Q none h) (hk : cl ≤ k) (hn : sl ≤ n) : Fini p e below s Z EL S0 k n Q :=
  w.fin (fun _ => rfl) (fun T locs fs X hr => X.returnOut w.1.1 w.1.2.2.2.1 (hb w.1.2.1 hd) hr) hQ hk hn
theorem Wk.retA {pc : Nat} {L : Array Slot} {st : List Value} {x : Value} {t : FieldType} {k n : Nat} {Q : Option Value → Heap → Prop} (w : Wk p l e R s m args below meth c Z a0 EL S0 y B ml (some t) V h cl sl (mkF m pc L (x :: st))) (hd : decode B pc = .ok (.areturn, 1)) (hQ : Q (some x) h) (hk : cl ≤ k) (hn : sl ≤ n) (ht : t.isReference = true := by rfl) (hx : x.isRef = true := by rfl) : Fini p e below s Z EL S0 k n Q :=
  w.fin (fun q => nomatch q) (fun T locs fs X hr => retOut X w.1.1 w.1.2.2.2.1 (by cases t <;> first | (cases ht; done) | (rcases ref_cases hx with rfl | ⟨z, rfl⟩ <;> rfl)) (Or.inr (Or.inr (Or.inr (Or.inr ⟨rfl, ht, hx⟩)))) (hb w.1.2.1 hd) hr) hQ hk hn
theorem Wk.retI {pc : Nat} {L : Array Slot} {st : List Value} {x : Int32} {k n : Nat} {Q : Option Value → Heap → Prop} (w : Wk p l e R s m args below meth c Z a0 EL S0 y B ml (some .int) V h cl sl (mkF m pc L (.int x :: st))) (hd : decode B pc = .ok (.ireturn, 1)) (hQ : Q (some (.int x)) h) (hk : cl ≤ k) (hn : sl ≤ n) : Fini p e below s Z EL S0 k n Q :=
  w.fin (fun q => nomatch q) (fun T locs fs X hr => retOut X w.1.1 w.1.2.2.2.1 rfl (Or.inl ⟨rfl, Or.inl rfl, _, rfl⟩) (hb w.1.2.1 hd) hr) hQ hk hn
theorem Wk.retN {pc : Nat} {L : Array Slot} {st : List Value} {x : Int32} {t : FieldType} {k n : Nat} {Q : Option Value → Heap → Prop} (w : Wk p l e R s m args below meth c Z a0 EL S0 y B ml (some t) V h cl sl (mkF m pc L (.int x :: st))) (hd : decode B pc = .ok (.ireturn, 1)) (ht : t = .boolean ∨ t = .byte ∨ t = .char ∨ t = .short) (hQ : Q (some (.int (nar t x))) h) (hk : cl ≤ k) (hn : sl ≤ n) : Fini p e below s Z EL S0 k n Q :=
  w.fin (fun q => nomatch q) (fun T locs fs X hr => RoadKit.retN X w.1.1 w.1.2.2.2.1 ht (hb w.1.2.1 hd) hr) hQ hk hn
theorem Fini.mono {k n : Nat} {Q Q' : Option Value → Heap → Prop} (F : Fini p e below s Z EL S0 k n Q) (hq : ∀ v h, Q v h → Q' v h) : Fini p e below s Z EL S0 k n Q' := by
  obtain ⟨s₂, o, h1, h2, h3, v, L, h4, h5, r⟩ := F
  exact ⟨s₂, o, h1, h2, h3, v, L, h4, hq _ _ h5, r⟩
end OwnWk
end Jvm.Pilot.@@N@@
namespace Jvm.Pilot.@@N@@
open Jvm Jvm.ClassFile Sem Op Lib Jvm.Free Jvm.Stand Jvm.LawKit Jvm.RoadKit Bundle
section OwnStr
variable {p : Program} {l : Launch} {e : Env} {R : Room} {s : State} {m : MethodId} {args : Array Value} {below : List Frame} {meth : Method} {c : Code} {Z : State} {a0 : Array Value} {EL : List (String × Nat)} {S0 : State} {y : MethodName} {B : ByteArray} {ml : Nat} {ret : Option FieldType} {V : Vm} {h h' : Heap} {cl sl : Nat} {g : JFrame}
theorem Pays.mono {y' : MethodName} {len W kc ks : Nat} {as' : Array Value} {Q Q' : Option Value → Heap → Prop} (K : Pays p l e R s args below Z EL V h y' len W kc ks as' Q) (hq : ∀ v h, Q v h → Q' v h) : Pays p l e R s args below Z EL V h y' len W kc ks as' Q' := by
  intro m meth c A g ig mk a X hg hsize hdg hW hn hp
  obtain ⟨v, D, X', h1, h2, ⟨L, q1, q2⟩, st⟩ := K m meth c A g ig mk a X hg hsize hdg hW hn hp
  exact ⟨v, D, X', h1, h2, ⟨L, hq _ _ q1, q2⟩, st⟩
/-- x is a String that spells cs, each sign 0 to 255 -/
def Str (Z : State) (h : Heap) (x : Addr) (cs : List Int32) : Prop :=
  (∀ c ∈ cs, ¬ c < 0 ∧ ¬ (255 : Int32) < c) ∧ ∃ (t : Addr) (kb : ClassId), Exa Z h x "java/lang/String" ∧ Fld Z h x "java/lang/String" "value" "[B" (.ref t) ∧ Fld Z h x "java/lang/String" "coder" "B" (.int 0) ∧ Arv Z h t kb .byte (Int32.ofNat cs.length) (cs.map fun c => Value.int c.toInt8.toInt32) (.int 0)
theorem Str.ext {x : Addr} {cs : List Int32} (E : Ext h h') (S : Str Z h x cs) : Str Z h' x cs := by
  obtain ⟨h1, t, kb, h2, h3, h4, h5⟩ := S; exact ⟨h1, t, kb, h2.ext E, h3.ext E, h4.ext E, h5.ext E⟩
theorem Str.exa {x : Addr} {cs : List Int32} (S : Str Z h x cs) : Exa Z h x "java/lang/String" := by obtain ⟨h1, t, kb, h2, h3, h4, h5⟩ := S; exact h2
theorem Str.lt {x : Addr} {cs : List Int32} (S : Str Z h x cs) : x < h.size := S.exa.lt
theorem up8 {cs : List Int32} (hp : ∀ c ∈ cs, ¬ c < 0 ∧ ¬ (255 : Int32) < c) : ∀ c ∈ cs, ¬ c < 0 ∧ ¬ (65535 : Int32) < c := fun c hc => ⟨(hp c hc).1, fun q => (hp c hc).2 (Int32.lt_trans (by decide) q)⟩
theorem and255 (x : Int32) : ¬ (x &&& 255) < 0 ∧ ¬ (255 : Int32) < (x &&& 255) := by
  have h := c_and x 255 (by decide)
  have e1 : (255 : Int32).toInt = 255 := by decide
  have e0 : (0 : Int32).toInt = 0 := by decide
  rw [Int32.lt_iff_toInt_lt, Int32.lt_iff_toInt_lt]; omega
theorem nar255 (x : Int32) : nar .char (x &&& 255) = x &&& 255 := i2c_mask x
theorem chars1 {a : Int32} (h : ¬ a < 0 ∧ ¬ (255 : Int32) < a) {cs : List Int32} (r : ∀ c ∈ cs, ¬ c < 0 ∧ ¬ (255 : Int32) < c) : ∀ c ∈ a :: cs, ¬ c < 0 ∧ ¬ (255 : Int32) < c := fun c hc => by
  rcases List.mem_cons.mp hc with rfl | hc
  · exact h
  · exact r c hc
theorem chars0 : ∀ c ∈ ([] : List Int32), ¬ c < 0 ∧ ¬ (255 : Int32) < c := fun _ q => nomatch q
/-- ldc of a String constant of EL: it spells cs -/
theorem Wk.ldcT {pc pc' : Nat} {L : Array Slot} {st : List Value} {index : Nat} {text : String} (cs : List Int32) (n : Nat) (w : Wk p l e R s m args below meth c Z a0 EL S0 y B ml ret V h cl sl (mkF m pc L st)) (wl : (Jvm.Cond.stringLink y.cls index text).before a0 Z = true) (wS : ∀ a ∈ Bundle.stringAtoms, a.before a0 Z = true) (hm : (y.cls, index) ∈ EL)
    (ht1 : ∀ c ∈ text.toList, c.toNat < 256) (ht2 : (text.toList.map fun c => Jvm.Lit.byteI c.toNat.toUInt16) = cs.map fun c => c.toInt8.toInt32) (hcs : ∀ c ∈ cs, ¬ c < 0 ∧ ¬ (255 : Int32) < c) (hz : ¬ Int32.ofNat cs.length < 0) (hl : (Int32.ofNat cs.length).toNatClampNeg = cs.length) (hd : decode B pc = .ok (.ldc index, 2)) (hn : 4 * text.toList.length ≤ n) (hbig : n ≤ 536870912) (hc : cl + 2 ≤ R.cells) (hl' : sl + (n + 4) ≤ R.slots) (hp : pc + 2 = pc' := by rfl) :
    ∃ (a : Addr) (V' : Vm) (h' : Heap), Ext h h' ∧ Str Z h' a cs ∧ (∀ x, Safe Z EL V' h' x → x ≠ a) ∧ CHr Z EL V h V' h' ∧
      Wk p l e R s m args below meth c Z a0 EL S0 y B ml ret V' h' (cl + 2) (sl + (n + 4)) (mkF m pc' L (.ref a :: st)) := by
  obtain ⟨a, V', h', b, k, E, q1, q2, q3, q4, q5, Q, w'⟩ := w.ldcS (vs := cs.map fun c => Value.int c.toInt8.toInt32) (z := Int32.ofNat cs.length) n wl wS hm ⟨ht1, by
    have := congrArg (List.map Value.int) ht2
    simpa [List.map_map, Function.comp_def] using this⟩ hz (by rw [hl]; simp) hd hn hbig hc hl' hp
  exact ⟨a, V', h', E, ⟨hcs, b, k, q1, q3, q2, q4⟩, fun x S => (q5 x S).1, Q, w'⟩
/-- clone() of an array -/
theorem Wk.clone {pc pc' : Nat} {L : Array Slot} {st : List Value} {index W cap : Nat} {ad : String} {a : Addr} {k : ClassId} {ty : FieldType} {z : Int32} {vs : List Value} {dv : Value} (w : Wk p l e R s m args below meth c Z a0 EL S0 y B ml ret V h cl sl (mkF m pc L (.ref a :: st)))
    (w1 : (Jvm.Cond.methodLink y.cls index ⟨ad, "clone", "()Ljava/lang/Object;"⟩).before a0 Z = true) (w2 : (Jvm.Cond.sameMethod ad "java/lang/Object" "clone" "()Ljava/lang/Object;").before a0 Z = true) (w3 : (Jvm.Cond.native ⟨"java/lang/Object", "clone", "()Ljava/lang/Object;"⟩).before a0 Z = true)
    (w4 : (Jvm.Cond.instanceMethod ⟨"java/lang/Object", "clone", "()Ljava/lang/Object;"⟩).before a0 Z = true) (w5 : (Jvm.Cond.selects ad ⟨ad, "clone", "()Ljava/lang/Object;"⟩ ⟨"java/lang/Object", "clone", "()Ljava/lang/Object;"⟩).before a0 Z = true) (w6 : (Jvm.Cond.castable ad "java/lang/Cloneable").before a0 Z = true)
    (F : Arv Z h a k ty z vs dv) (E : Exa Z h a ad) (hL : L.size = ml) (hd : decode B pc = .ok (.invokevirtual index, 3)) (hf : 1 ≤ R.frames) (hW : (st.map fun v => v.category).sum ≤ W) (hlo : W + 14 ≤ R.locals) (hcap : z.toNatClampNeg ≤ cap) (hc : cl + 1 ≤ R.cells) (hs : sl + cap ≤ R.slots) (hp : pc + 3 = pc' := by rfl) :
    ∃ (h' : Heap) (b : Addr), b = h.size ∧ Ext h h' ∧ Arv Z h' b k ty z vs dv ∧ Exa Z h' b ad ∧ CHr Z EL V h V h' ∧ Wk p l e R s m args below meth c Z a0 EL S0 y B ml ret V h' (cl + 1) (sl + cap) (mkF m pc' L (.ref b :: st)) := by
  subst hp
  obtain ⟨hf0, ⟨hz, hC, hO⟩, T, locs, k0, X, e0, h1, h2, h3, st0⟩ := id w
  obtain ⟨T', h', X', e', E', F', X2, st'⟩ := cloneH X hf0.1 hz w.own w1 w2 w3 w4 w5 w6 e0 (hs := []) F E (g := mkF m pc L (.ref a :: st)) rfl (hL.trans hf0.2.2.1.symm) rfl (hb hf0.2.1 hd) hf (W := W) (by show 2 * 0 + _ ≤ _; omega) hlo hcap hc hs
  have Q : CHr Z EL V h V h' := CHr.ext E' w.ch
  exact ⟨h', h.size, rfl, E', F', X2, Q, hf0, ⟨hz, hC.trans Q, extT hO E'⟩, T', locs, k0, X', e', h1, Nat.le_trans h2 E'.1, h3, fun t q => st0 t (st' t q)⟩
theorem eqv_r {Z : State} {args : Array Value} {X F : Term} {a : Addr} (hF : F.eval args Z none [] Z = some (.ref a)) (h : (Jvm.Cond.eq X F).value args Z none Z [] = some true) : X.eval args Z none [] Z = some (.ref a) := by
  obtain ⟨x, y, ex, ey, k1, k2⟩ := cmp_v (Or.inl h)
  cases hF.symm.trans ey
  have hx : x.isRef = true := k2.2
  have q := gotT (eq_R ex ey hx rfl) h
  rw [ex, q]
/-- an array of the start, by the words of the case -/
theorem own_arr0 {s : State} {args : Array Value} (hfit : Fit s) {t : Term} {b : Addr} {ty : FieldType} {n : Int32} (vs : List Value) (dv : Value) (ev : t.eval args s none [] s = some (.ref b)) (ha : (Jvm.Cond.arrayOf t ty).value args s none s [] = some true) (hl : (Jvm.Cond.eq (.length t) (.int n)).value args s none s [] = some true) (hn : ¬ n < 0) (hlen : n.toNatClampNeg = vs.length)
    (H : ∀ i v, vs[i]? = some v → (Term.elem t (.int (Int32.ofNat i))).eval args s none [] s = some v) : ∃ k, Arv s s.heap b k ty n vs dv := by
  obtain ⟨cl, A⟩ := Arr.start ev ha
  have e1 := eqv_i (Term.int_eval n) hl
  obtain ⟨b', cl', f1, f2, f3⟩ := Term.length_spec e1
  cases ev.symm.trans f1
  have f4 := (State.arrayAt?_spec f2).1
  cases A.1.symm.trans f4
  have q : cl.slots.size < 2 ^ 31 := SBG.length_lt ev f2 e1
  have hz : cl.slots.size.toInt32 = n := (Value.int.inj f3).symm
  refine ⟨cl.cls, Arv.start hfit A q hz hn hlen ?_⟩
  have key : ∀ (us : List Value) (i : Nat), (∀ j v, us[j]? = some v → vs[i + j]? = some v) → i + us.length ≤ vs.length → HasL cl i us := by
    intro us
    induction us with
    | nil => intro i _ _; trivial
    | cons u us ih =>
      intro i hi hle
      have hle' : i + (us.length + 1) ≤ vs.length := hle
      refine ⟨?_, ih (i + 1) (fun j v hv => by have := hi (j + 1) v (by simpa using hv); rwa [show i + (j + 1) = i + 1 + j by omega] at this) (by omega)⟩
      have hu := hi 0 u rfl
      have hE := H i u (by simpa using hu)
      have hi31 : i < 2 ^ 31 := by have := back32 hn; omega
      obtain ⟨-, g2⟩ := elem_in hE ev (Term.int_eval _) A.1
      have e3 : (Int32.ofNat i).toNatClampNeg = i := by
        have h0 : ¬ Int32.ofNat i < 0 := Int32.ofNat_not_neg hi31
        have h1 := nat_of h0
        have h2 : (Int32.ofNat i).toInt = i := Int32.toInt_ofNat_small hi31
        omega
      rw [e3] at g2; exact g2
  exact key vs 0 (fun j v hv => by simpa using hv) (by simp)
/-- a String of the start, by the words of the case -/
theorem own_str0 {s : State} {args : Array Value} (hfit : Fit s) {t : Term} {a : Addr} {n : Int32} (cs : List Int32) (ev : t.eval args s none [] s = some (.ref a)) (hx : (Jvm.Cond.exactly t "java/lang/String").value args s none s [] = some true) (hc : (Jvm.Cond.eq (.field t "java/lang/String" "coder" "B") (.int 0)).value args s none s [] = some true)
    (ha : (Jvm.Cond.arrayOf (.field t "java/lang/String" "value" "[B") .byte).value args s none s [] = some true) (hl : (Jvm.Cond.eq (.length (.field t "java/lang/String" "value" "[B")) (.int n)).value args s none s [] = some true) (hn : n = Int32.ofNat cs.length) (h0 : ¬ Int32.ofNat cs.length < 0) (h1 : (Int32.ofNat cs.length).toNatClampNeg = cs.length) (hcs : ∀ c ∈ cs, ¬ c < 0 ∧ ¬ (255 : Int32) < c)
    (H : ∀ i c, cs[i]? = some c → (Jvm.Cond.eq (.elem (.field t "java/lang/String" "value" "[B") (.int (Int32.ofNat i))) (.int c.toInt8.toInt32)).value args s none s [] = some true) : Str s s.heap a cs := by
  subst hn
  obtain ⟨b, eb⟩ := arr_v ha
  obtain ⟨k, A⟩ := own_arr0 hfit (cs.map fun c => Value.int c.toInt8.toInt32) (.int 0) eb ha hl h0 (by rw [h1]; simp) (fun i v hv => by
    rw [List.getElem?_map] at hv
    cases hq : cs[i]? with
    | none => rw [hq] at hv; cases hv
    | some c => rw [hq] at hv; cases hv; exact eqv_i (Term.int_eval _) (H i c hq))
  have ec := eqv_i (Term.int_eval 0) hc
  exact ⟨hcs, b, k, Exa.start ev hx, Fld.start (by rw [fld_at ev] at eb; exact eb), Fld.start (by rw [fld_at ev] at ec; exact ec), A⟩
/-- new String(char[]) of one to 4,000 signs -/
theorem Wk.payNew {len W kI : Nat} {x b : Addr} {kC : ClassId} {cs : List Int32} {N z : Int32} {dv v0 c0 : Value} (w : Wk p l e R s m args below meth c Z a0 EL S0 y B ml ret V h cl sl g) (hw : ∀ d ∈ StrChars.Road.words, d.before a0 Z = true) (wi : (Jvm.Cond.instantiable "java/lang/String" kI).before a0 Z = true)
    (E : Exa Z h x "java/lang/String") (Fv : Fld Z h x "java/lang/String" "value" "[B" v0) (Fc : Fld Z h x "java/lang/String" "coder" "B" c0) (K : Arv Z h b kC .char N (cs.map Value.int) dv) (S : Sta Z Z.heap "java/lang/String" "COMPACT_STRINGS" "Z" (.int z)) (hz : ¬ z = 0)
    (hN : N = Int32.ofNat cs.length) (l0 : 0 < cs.length) (l2 : cs.length ≤ 4000) (hp : ∀ c ∈ cs, ¬ c < 0 ∧ ¬ (255 : Int32) < c) (Sf : Safe Z EL V h x) (ge : Z.heap.size ≤ x) (hfr : 4 ≤ R.frames) (hlo : W + 65 ≤ R.locals) :
    Pays p l e R s args below Z EL V h (⟨"java/lang/String", "<init>", "([C)V"⟩ : MethodName) len W 1 cs.length #[.ref x, .ref b] (fun v h' => v = none ∧ Keep h h' [x] ∧ Str Z h' x cs) := by
  have K0 := StrChars.Road.backV (R := R) (p := p) (l := l) (e := e) (below := below) (args := args) (len := len) (W := W) (s := s.setVm V) w.hZ hw wi (n0 := Z.heap.size) ge w.zsz E Fv Fc K (S.ext w.old) hz rfl hN l0 l2 hp rfl hfr hlo
  refine Pays.mono (w.paysB [x] K0 (fun v h' L q => ⟨q.2.2.1, q.2.1⟩) (allS ⟨Sf, ge⟩ all0)) ?_
  rintro v h' ⟨L, q1, q2, q3, q4, q5, t, kb, q6, q7, q8, q9, q10⟩
  refine ⟨q1, q3, hp, t, kb, q4, q9, q5, ?_⟩
  rw [List.map_map] at q10
  rw [← hN]; exact q10
theorem Wk.payEq {len W kI : Nat} {x x' : Addr} {cs ds : List Int32} {z : Int32} (w : Wk p l e R s m args below meth c Z a0 EL S0 y B ml ret V h cl sl g) (hw : ∀ d ∈ StrChars.Road.wordsEq, d.before a0 Z = true) (wi : (Jvm.Cond.instantiable "java/lang/String" kI).before a0 Z = true)
    (X : Str Z h x cs) (Y : Str Z h x' ds) (S : Sta Z Z.heap "java/lang/String" "COMPACT_STRINGS" "Z" (.int z)) (hz : ¬ z = 0) (l2 : cs.length ≤ 4000) (l3 : ds.length ≤ 4000) (hfr : 2 ≤ R.frames) (hlo : W + 28 ≤ R.locals) :
    Pays p l e R s args below Z EL V h (⟨"java/lang/String", "equals", "(Ljava/lang/Object;)Z"⟩ : MethodName) len W 0 0 #[.ref x, .ref x'] (fun v h' => ((v = some (.int 1) ∧ cs = ds) ∨ (v = some (.int 0) ∧ ¬ cs = ds)) ∧ h' = h) := by
  obtain ⟨hp, t, kb, E, Fv, Fc, K⟩ := X
  obtain ⟨hp', t', kb', E', Fv', Fc', K'⟩ := Y
  have hc : StrChars.Road.CodA cs 0 (Int32.ofNat cs.length) (cs.map fun c => Value.int c.toInt8.toInt32) := Or.inl ⟨rfl, rfl, rfl, fun c hc => (hp c hc).2⟩
  have hc' : StrChars.Road.CodA ds 0 (Int32.ofNat ds.length) (ds.map fun c => Value.int c.toInt8.toInt32) := Or.inl ⟨rfl, rfl, rfl, fun c hc => (hp' c hc).2⟩
  have K0 := StrChars.Road.eqW (R := R) (p := p) (l := l) (e := e) (below := below) (args := args) (len := len) (W := W) (s := s.setVm V) w.hZ hw wi E Fv Fc K hc (up8 hp) l2 E' Fv' Fc' K' hc' (up8 hp') l3 (S.ext w.old) hz hfr hlo
  refine Pays.mono (w.paysB (Qb := fun v h' L => ((v = some (.int 1) ∧ cs = ds) ∨ (v = some (.int 0) ∧ ¬ cs = ds)) ∧ L = [] ∧ h' = h) [] K0 (fun v h' L q => ⟨q.2.2 ▸ Keep.refl _ _, q.2.1 ▸ Fr.nil _⟩) all0) ?_
  rintro v h' ⟨L, q1, q2, q3⟩
  exact ⟨q1, q3⟩
end OwnStr
end Jvm.Pilot.@@N@@
namespace Jvm.Pilot.@@N@@
open Jvm Jvm.ClassFile Sem Op Lib Jvm.Free Jvm.Stand Jvm.LawKit Jvm.RoadKit Bundle Jvm.Pilot.@@N@@.Jvm.D
theorem d7_0 : decode jdk_42_method_66_code 0 = .ok (.aload_n 0, 1) := by decide +kernel
theorem d7_1 : decode jdk_42_method_66_code 1 = .ok (.aload_n 1, 1) := by decide +kernel
theorem d7_2 : decode jdk_42_method_66_code 2 = .ok (.if_acmp .ne 5, 3) := by decide +kernel
theorem d7_5 : decode jdk_42_method_66_code 5 = .ok (.iconst 1, 1) := by decide +kernel
theorem d7_6 : decode jdk_42_method_66_code 6 = .ok (.ireturn, 1) := by decide +kernel
theorem d7_7 : decode jdk_42_method_66_code 7 = .ok (.aload_n 1, 1) := by decide +kernel
theorem d7_8 : decode jdk_42_method_66_code 8 = .ok (.instanceof 10, 3) := by decide +kernel
theorem d7_11 : decode jdk_42_method_66_code 11 = .ok (.ifCond .eq 43, 3) := by decide +kernel
theorem d7_14 : decode jdk_42_method_66_code 14 = .ok (.aload_n 1, 1) := by decide +kernel
theorem d7_15 : decode jdk_42_method_66_code 15 = .ok (.checkcast 10, 3) := by decide +kernel
theorem d7_18 : decode jdk_42_method_66_code 18 = .ok (.astore_n 2, 1) := by decide +kernel
theorem d7_19 : decode jdk_42_method_66_code 19 = .ok (.getstatic 38, 3) := by decide +kernel
theorem d7_22 : decode jdk_42_method_66_code 22 = .ok (.ifCond .eq 14, 3) := by decide +kernel
theorem d7_25 : decode jdk_42_method_66_code 25 = .ok (.aload_n 0, 1) := by decide +kernel
theorem d7_26 : decode jdk_42_method_66_code 26 = .ok (.getfield 15, 3) := by decide +kernel
theorem d7_29 : decode jdk_42_method_66_code 29 = .ok (.aload_n 2, 1) := by decide +kernel
theorem d7_30 : decode jdk_42_method_66_code 30 = .ok (.getfield 15, 3) := by decide +kernel
theorem d7_33 : decode jdk_42_method_66_code 33 = .ok (.if_icmp .ne 21, 3) := by decide +kernel
theorem d7_36 : decode jdk_42_method_66_code 36 = .ok (.aload_n 0, 1) := by decide +kernel
theorem d7_37 : decode jdk_42_method_66_code 37 = .ok (.getfield 9, 3) := by decide +kernel
theorem d7_40 : decode jdk_42_method_66_code 40 = .ok (.aload_n 2, 1) := by decide +kernel
theorem d7_41 : decode jdk_42_method_66_code 41 = .ok (.getfield 9, 3) := by decide +kernel
theorem d7_44 : decode jdk_42_method_66_code 44 = .ok (.invokestatic 541, 3) := by decide +kernel
theorem d7_47 : decode jdk_42_method_66_code 47 = .ok (.ifCond .eq 7, 3) := by decide +kernel
theorem d7_50 : decode jdk_42_method_66_code 50 = .ok (.iconst 1, 1) := by decide +kernel
theorem d7_51 : decode jdk_42_method_66_code 51 = .ok (.goto 4, 3) := by decide +kernel
theorem d7_54 : decode jdk_42_method_66_code 54 = .ok (.iconst 0, 1) := by decide +kernel
theorem d7_55 : decode jdk_42_method_66_code 55 = .ok (.ireturn, 1) := by decide +kernel
theorem d9_0 : decode prog_46_method_6_code 0 = .ok (.invokestatic 48, 3) := by decide +kernel
theorem d9_3 : decode prog_46_method_6_code 3 = .ok (.astore_n 1, 1) := by decide +kernel
theorem d9_4 : decode prog_46_method_6_code 4 = .ok (.aload_n 1, 1) := by decide +kernel
theorem d9_5 : decode prog_46_method_6_code 5 = .ok (.arraylength, 1) := by decide +kernel
theorem d9_6 : decode prog_46_method_6_code 6 = .ok (.istore_n 2, 1) := by decide +kernel
theorem d9_7 : decode prog_46_method_6_code 7 = .ok (.iconst 0, 1) := by decide +kernel
theorem d9_8 : decode prog_46_method_6_code 8 = .ok (.istore_n 3, 1) := by decide +kernel
theorem d9_9 : decode prog_46_method_6_code 9 = .ok (.iload_n 3, 1) := by decide +kernel
theorem d9_10 : decode prog_46_method_6_code 10 = .ok (.iload_n 2, 1) := by decide +kernel
theorem d9_11 : decode prog_46_method_6_code 11 = .ok (.if_icmp .ge 29, 3) := by decide +kernel
theorem d9_14 : decode prog_46_method_6_code 14 = .ok (.aload_n 1, 1) := by decide +kernel
theorem d9_15 : decode prog_46_method_6_code 15 = .ok (.iload_n 3, 1) := by decide +kernel
theorem d9_16 : decode prog_46_method_6_code 16 = .ok (.aaload, 1) := by decide +kernel
theorem d9_17 : decode prog_46_method_6_code 17 = .ok (.astore 4, 2) := by decide +kernel
theorem d9_19 : decode prog_46_method_6_code 19 = .ok (.aload 4, 2) := by decide +kernel
theorem d9_21 : decode prog_46_method_6_code 21 = .ok (.getfield 32, 3) := by decide +kernel
theorem d9_24 : decode prog_46_method_6_code 24 = .ok (.aload_n 0, 1) := by decide +kernel
theorem d9_25 : decode prog_46_method_6_code 25 = .ok (.invokevirtual 52, 3) := by decide +kernel
theorem d9_28 : decode prog_46_method_6_code 28 = .ok (.ifCond .eq 6, 3) := by decide +kernel
theorem d9_31 : decode prog_46_method_6_code 31 = .ok (.aload 4, 2) := by decide +kernel
theorem d9_33 : decode prog_46_method_6_code 33 = .ok (.areturn, 1) := by decide +kernel
theorem d9_34 : decode prog_46_method_6_code 34 = .ok (.iinc 3 1, 3) := by decide +kernel
theorem d9_37 : decode prog_46_method_6_code 37 = .ok (.goto (-28), 3) := by decide +kernel
theorem d9_40 : decode prog_46_method_6_code 40 = .ok (.aconst_null, 1) := by decide +kernel
theorem d9_41 : decode prog_46_method_6_code 41 = .ok (.areturn, 1) := by decide +kernel
theorem d10_0 : decode prog_46_method_1_code 0 = .ok (.getstatic 13, 3) := by decide +kernel
theorem d10_3 : decode prog_46_method_1_code 3 = .ok (.invokevirtual 17, 3) := by decide +kernel
theorem d10_6 : decode prog_46_method_1_code 6 = .ok (.checkcast 18, 3) := by decide +kernel
theorem d10_9 : decode prog_46_method_1_code 9 = .ok (.areturn, 1) := by decide +kernel
theorem pd_0 : parseMethodDescriptor "()[Lcom/example/carillon/carillon/store/Signing$Encoding;" = some ⟨[], some (.array (.object "com/example/carillon/carillon/store/Signing$Encoding"))⟩ := by decide +kernel
theorem pd_1 : parseMethodDescriptor "(Ljava/lang/Object;)Z" = some ⟨[(.object "java/lang/Object")], some .boolean⟩ := by decide +kernel
theorem pd_2 : parseMethodDescriptor "(Ljava/lang/String;)Lcom/example/carillon/carillon/store/Signing$Encoding;" = some ⟨[(.object "java/lang/String")], some (.object "com/example/carillon/carillon/store/Signing$Encoding")⟩ := by decide +kernel
theorem pd_3 : parseMethodDescriptor "([C)V" = some ⟨[(.array .char)], none⟩ := by decide +kernel
theorem own_hstr {Z : State} {a0 : Array Value} (hw : ∀ d ∈ tables_1, d.before a0 Z = true) : ∀ a ∈ Bundle.stringAtoms, a.before a0 Z = true := fun d hd => hw d ((by decide +kernel : ∀ d ∈ Bundle.stringAtoms, d ∈ tables_1) d hd)
theorem own_words {Z : State} {a0 : Array Value} (hw : ∀ d ∈ tables_1, d.before a0 Z = true) : ∀ d ∈ StrChars.Road.words, d.before a0 Z = true := fun d hd => hw d ((by decide +kernel : ∀ d ∈ StrChars.Road.words, d ∈ tables_1) d hd)
theorem own_wordsEq {Z : State} {a0 : Array Value} (hw : ∀ d ∈ tables_1, d.before a0 Z = true) : ∀ d ∈ StrChars.Road.wordsEq, d.before a0 Z = true := fun d hd => hw d ((by decide +kernel : ∀ d ∈ StrChars.Road.wordsEq, d ∈ tables_1) d hd)
/-- what the case says of the enum's constants -/
def Enum3 (Z : State) (x1 x2 x3 vs n1 n2 n3 : Addr) (k : ClassId) : Prop :=
  Sta Z Z.heap "com/example/carillon/carillon/store/Signing$Encoding" "BASE64" "Lcom/example/carillon/carillon/store/Signing$Encoding;" (.ref x1) ∧ Sta Z Z.heap "com/example/carillon/carillon/store/Signing$Encoding" "BASE64_UNPADDED" "Lcom/example/carillon/carillon/store/Signing$Encoding;" (.ref x2) ∧ Sta Z Z.heap "com/example/carillon/carillon/store/Signing$Encoding" "HEX" "Lcom/example/carillon/carillon/store/Signing$Encoding;" (.ref x3) ∧ Sta Z Z.heap "com/example/carillon/carillon/store/Signing$Encoding" "$VALUES" "[Lcom/example/carillon/carillon/store/Signing$Encoding;" (.ref vs) ∧
  Arv Z Z.heap vs k (.object "com/example/carillon/carillon/store/Signing$Encoding") 3 [.ref x1, .ref x2, .ref x3] .null ∧ Exa Z Z.heap vs "[Lcom/example/carillon/carillon/store/Signing$Encoding;" ∧ Fld Z Z.heap x1 "com/example/carillon/carillon/store/Signing$Encoding" "code" "Ljava/lang/String;" (.ref n1) ∧ Fld Z Z.heap x2 "com/example/carillon/carillon/store/Signing$Encoding" "code" "Ljava/lang/String;" (.ref n2) ∧ Fld Z Z.heap x3 "com/example/carillon/carillon/store/Signing$Encoding" "code" "Ljava/lang/String;" (.ref n3) ∧
  Str Z Z.heap n1 [98, 97, 115, 101, 54, 52] ∧ Str Z Z.heap n2 [98, 97, 115, 101, 54, 52, 45, 117, 110, 112, 97, 100, 100, 101, 100] ∧ Str Z Z.heap n3 [104, 101, 120]
/-- the constant of that code, or null -/
def own_pick (x1 x2 x3 : Addr) (cs : List Int32) : Value := if cs = [98, 97, 115, 101, 54, 52] then .ref x1 else if cs = [98, 97, 115, 101, 54, 52, 45, 117, 110, 112, 97, 100, 100, 101, 100] then .ref x2 else if cs = [104, 101, 120] then .ref x3 else .null
theorem pick1 {x1 x2 x3 : Addr} {cs : List Int32} (h : cs = [98, 97, 115, 101, 54, 52]) : own_pick x1 x2 x3 cs = .ref x1 := if_pos h
theorem pick2 {x1 x2 x3 : Addr} {cs : List Int32} (h : ¬ cs = [98, 97, 115, 101, 54, 52]) (h2 : cs = [98, 97, 115, 101, 54, 52, 45, 117, 110, 112, 97, 100, 100, 101, 100]) : own_pick x1 x2 x3 cs = .ref x2 := (if_neg h).trans (if_pos h2)
theorem pick3 {x1 x2 x3 : Addr} {cs : List Int32} (h : ¬ cs = [98, 97, 115, 101, 54, 52]) (h2 : ¬ cs = [98, 97, 115, 101, 54, 52, 45, 117, 110, 112, 97, 100, 100, 101, 100]) (h3 : cs = [104, 101, 120]) : own_pick x1 x2 x3 cs = .ref x3 := (if_neg h).trans ((if_neg h2).trans (if_pos h3))
theorem pick4 {x1 x2 x3 : Addr} {cs : List Int32} (h : ¬ cs = [98, 97, 115, 101, 54, 52]) (h2 : ¬ cs = [98, 97, 115, 101, 54, 52, 45, 117, 110, 112, 97, 100, 100, 101, 100]) (h3 : ¬ cs = [104, 101, 120]) : own_pick x1 x2 x3 cs = .null := (if_neg h).trans ((if_neg h2).trans (if_neg h3))
/-! String.equals(null) -/
set_option maxRecDepth 65536 in
theorem rm7 (l : Launch) (Z : State) (a0 : Array Value) (hw : ∀ d ∈ tables_1, d.before a0 Z = true) (hEL : EW Z a0 consts_1) (a : Addr) (h0 : Heap) (hx : Ext Z.heap h0) :
    Met l Z consts_1 (⟨"java/lang/String", "equals", "(Ljava/lang/Object;)Z"⟩ : MethodName) jdk_42_method_66_code 3 (some .boolean) [] ({ frames := 0, cells := 0, slots := 0, locals := 0 } : Room) #[.ref a, .null] h0 [] (fun v h => v = some (.int 0) ∧ h = h0) := by
  refine Met.of (a0 := a0) (by decide +kernel) hEL hx ?_
  intro p e s m below meth c S0 V w hs hsf
  replace w := w.to (g' := mkF m 0 #[.val (.ref a), .val .null, .unset] []) (by first | (simp [entryFrame, mkF, argsToLocals, Value.category]; done) | rfl)
  replace w := w.aloadN (pc' := 1) d7_0 rfl
  replace w := w.aloadN (pc' := 2) d7_1 rfl
  replace w := w.acmp (pc' := 7) false d7_2 (decide_eq_false nofun)
  replace w := w.aloadN (pc' := 8) d7_7 rfl
  replace w := w.instNull d7_8 (pc' := 11)
  replace w := w.ifYes (pc' := 54) d7_11 (by decide)
  replace w := w.iconst (pc' := 55) (0 : Int32) d7_54
  exact w.retN d7_55 (by simp) ⟨rfl, rfl⟩ nle nle
/-! Encoding.values -/
set_option maxRecDepth 65536 in
theorem rm10 (l : Launch) (Z : State) (a0 : Array Value) (hw : ∀ d ∈ tables_1, d.before a0 Z = true) (hEL : EW Z a0 consts_1) (x1 x2 x3 vs n1 n2 n3 : Addr) (k : ClassId) (En : Enum3 Z x1 x2 x3 vs n1 n2 n3 k) (h0 : Heap) (hx : Ext Z.heap h0) :
    Met l Z consts_1 (⟨"com/example/carillon/carillon/store/Signing$Encoding", "values", "()[Lcom/example/carillon/carillon/store/Signing$Encoding;"⟩ : MethodName) prog_46_method_1_code 0 (some (.array (.object "com/example/carillon/carillon/store/Signing$Encoding"))) [] ({ frames := 1, cells := 1, slots := 3, locals := 14 } : Room) #[] h0 [] (fun v h => ∃ b, v = some (.ref b) ∧ Ext h0 h ∧ Arv Z h b k (.object "com/example/carillon/carillon/store/Signing$Encoding") 3 [.ref x1, .ref x2, .ref x3] .null) := by
  obtain ⟨S1, S2, S3, S4, Av, Xv, F1, F2, F3, T1, T2, T3⟩ := En
  refine Met.of (a0 := a0) (by decide +kernel) hEL hx ?_
  intro p e s m below meth c S0 V w hs hsf
  replace w := w.to (g' := mkF m 0 #[] []) (by first | (simp [entryFrame, mkF, argsToLocals, Value.category]; done) | rfl)
  have B0 := extR h0
  have C0 := CHr.refl w.ch
  replace w := w.getS (hw _ (List.mem_of_getElem? (i := 53) rfl)) S4 d10_0 (pc' := 3)
  have Av0 := Av.ext w.old
  have Xv0 := Xv.ext w.old
  obtain ⟨h1, b, g_b, E1, V_b, X_b, A1, w⟩ := w.clone (W := 0) (cap := 3) (hw _ (List.mem_of_getElem? (i := 55) rfl)) (hw _ (List.mem_of_getElem? (i := 56) rfl)) (hw _ (List.mem_of_getElem? (i := 60) rfl)) (hw _ (List.mem_of_getElem? (i := 58) rfl)) (hw _ (List.mem_of_getElem? (i := 59) rfl)) (hw _ (List.mem_of_getElem? (i := 61) rfl)) Av0 Xv0 rfl d10_3 (by decide) (by decide) (by decide) (by decide) (by decide) (by decide) (pc' := 6)
  have B0 := extT B0 E1
  have C0 := C0.trans A1
  replace w := w.cast (hw _ (List.mem_of_getElem? (i := 65) rfl)) (Ins.self X_b) d10_6 (pc' := 9)
  exact w.retA d10_9 ⟨b, rfl, B0, V_b⟩ nle nle
/-! Encoding.fromCode of a String -/
set_option maxRecDepth 65536 in
theorem rm9 (l : Launch) (Z : State) (a0 : Array Value) (hw : ∀ d ∈ tables_1, d.before a0 Z = true) (hEL : EW Z a0 consts_1) (z0 : Int32) (Sc : Sta Z Z.heap "java/lang/String" "COMPACT_STRINGS" "Z" (.int z0)) (hz0 : ¬ z0 = 0) (x1 x2 x3 vs n1 n2 n3 : Addr) (k : ClassId) (En : Enum3 Z x1 x2 x3 vs n1 n2 n3 k) (b : Addr) (cs : List Int32) (h0 : Heap) (hx : Ext Z.heap h0) (T0 : Str Z h0 b cs) (hl5 : cs.length ≤ 4000) :
    Met l Z consts_1 (⟨"com/example/carillon/carillon/store/Signing$Encoding", "fromCode", "(Ljava/lang/String;)Lcom/example/carillon/carillon/store/Signing$Encoding;"⟩ : MethodName) prog_46_method_6_code 5 (some (.object "com/example/carillon/carillon/store/Signing$Encoding")) [] ({ frames := 2, cells := 1, slots := 3, locals := 28 } : Room) #[.ref b] h0 [] (fun v h => v = some (own_pick x1 x2 x3 cs)) := by
  have En0 := En
  obtain ⟨S1, S2, S3, S4, Av, Xv, F1, F2, F3, T1, T2, T3⟩ := En
  refine Met.of (a0 := a0) (by decide +kernel) hEL hx ?_
  intro p e s m below meth c S0 V w hs hsf
  have hwe := own_wordsEq hw
  replace w := w.to (g' := mkF m 0 #[.val (.ref b), .unset, .unset, .unset, .unset] []) (by first | (simp [entryFrame, mkF, argsToLocals, Value.category]; done) | rfl)
  have B0 := extR h0
  have C0 := CHr.refl w.ch
  obtain ⟨v1, V1, h1, hq1, A1, w⟩ := w.static (y' := (⟨"com/example/carillon/carillon/store/Signing$Encoding", "values", "()[Lcom/example/carillon/carillon/store/Signing$Encoding;"⟩ : MethodName)) (W := 0) (w.pays 0 (rm10 l Z a0 hw hEL x1 x2 x3 vs n1 n2 n3 k En0 h0 w.old) (hw _ (List.mem_of_getElem? (i := 52) rfl)) (hw _ (List.mem_of_getElem? (i := 45) rfl)) all0 nle nle) (hw _ (List.mem_of_getElem? (i := 50) rfl)) (hw _ (List.mem_of_getElem? (i := 51) rfl)) (hw _ (List.mem_of_getElem? (i := 45) rfl)) (hw _ (List.mem_of_getElem? (i := 52) rfl)) (argsL := []) (rest := []) (by decide) pd_0 rfl rfl (Nat.le_of_eq rfl) rfl d9_0 nle nle (pc' := 3)
  obtain ⟨ar, rfl, E1, Va⟩ := hq1
  replace w := w.to (g' := mkF m 3 #[.val (.ref b), .unset, .unset, .unset, .unset] [(.ref ar)]) rfl
  have B0 := extT B0 E1
  have C0 := C0.trans A1
  have T0' := T0.ext B0
  have F1' := F1.ext w.old
  have F2' := F2.ext w.old
  have F3' := F3.ext w.old
  have T1' := T1.ext w.old
  have T2' := T2.ext w.old
  have T3' := T3.ext w.old
  have X_n1 := T1'.exa
  have X_n2 := T2'.exa
  have X_n3 := T3'.exa
  replace w := w.astoreN (pc' := 4) (L' := #[.val (.ref b), .val (.ref ar), .unset, .unset, .unset]) d9_3 rfl
  replace w := w.aloadN (pc' := 5) d9_4 rfl
  replace w := w.arrlen Va d9_5 (pc' := 6)
  replace w := w.istoreN (pc' := 7) (L' := #[.val (.ref b), .val (.ref ar), .val (.int (3 : Int32)), .unset, .unset]) d9_6 rfl
  replace w := w.iconst (pc' := 8) (0 : Int32) d9_7
  replace w := w.istoreN (pc' := 9) (L' := #[.val (.ref b), .val (.ref ar), .val (.int (3 : Int32)), .val (.int (0 : Int32)), .unset]) d9_8 rfl
  replace w := w.iloadN (pc' := 10) d9_9 rfl
  replace w := w.iloadN (pc' := 11) d9_10 rfl
  replace w := w.icmpNo (pc' := 14) d9_11 (by decide)
  replace w := w.aloadN (pc' := 15) d9_14 rfl
  replace w := w.iloadN (pc' := 16) d9_15 rfl
  replace w := w.aaload (v := (.ref x1)) Va d9_16 ⟨by decide, by decide⟩ (rfl) (pc' := 17)
  replace w := w.astore (pc' := 19) (L' := #[.val (.ref b), .val (.ref ar), .val (.int (3 : Int32)), .val (.int (0 : Int32)), .val (.ref x1)]) d9_17 rfl
  replace w := w.aload (pc' := 21) d9_19 rfl
  replace w := w.getF (hw _ (List.mem_of_getElem? (i := 67) rfl)) F1' d9_21 (pc' := 24)
  replace w := w.aloadN (pc' := 25) d9_24 rfl
  obtain ⟨v2, V2, h2, hq2, A2, w⟩ := w.virt (y' := (⟨"java/lang/String", "equals", "(Ljava/lang/Object;)Z"⟩ : MethodName)) (W := 0) (C := "java/lang/String") (b := n1) (w.payEq (W := 0) hwe (hw _ (List.mem_of_getElem? (i := 3) rfl)) T1' T0' Sc hz0 nle hl5 nle nle) (hw _ (List.mem_of_getElem? (i := 69) rfl)) (hw _ (List.mem_of_getElem? (i := 35) rfl)) (hw _ (List.mem_of_getElem? (i := 37) rfl)) (hw _ (List.mem_of_getElem? (i := 36) rfl)) (argsL := [(.ref b)]) (rest := []) (by decide) X_n1 pd_1 rfl rfl (Nat.le_of_eq rfl) rfl d9_25 nle nle (pc' := 28)
  obtain ⟨hv2, he2⟩ := hq2
  replace he2 := he2.symm
  subst he2
  have C0 := C0.trans A2
  rcases hv2 with ⟨rfl, heq⟩ | ⟨rfl, hne1⟩
  ·
    replace w := w.to (g' := mkF m 28 #[.val (.ref b), .val (.ref ar), .val (.int (3 : Int32)), .val (.int (0 : Int32)), .val (.ref x1)] [(.int (1 : Int32))]) rfl
    replace w := w.ifNo (pc' := 31) d9_28 (by decide)
    replace w := w.aload (pc' := 33) d9_31 rfl
    exact w.retA d9_33 (congrArg some (pick1 heq.symm).symm) nle nle
  replace w := w.to (g' := mkF m 28 #[.val (.ref b), .val (.ref ar), .val (.int (3 : Int32)), .val (.int (0 : Int32)), .val (.ref x1)] [(.int (0 : Int32))]) rfl
  replace w := w.ifYes (pc' := 34) d9_28 (by decide)
  replace w := w.iinc (pc' := 37) (L' := #[.val (.ref b), .val (.ref ar), .val (.int (3 : Int32)), .val (.int ((0 : Int32) + (1 : Int32))), .val (.ref x1)]) d9_34 rfl rfl
  replace w := w.goto (pc' := 9) d9_37
  replace w := w.iloadN (pc' := 10) d9_9 rfl
  replace w := w.iloadN (pc' := 11) d9_10 rfl
  replace w := w.icmpNo (pc' := 14) d9_11 (by decide)
  replace w := w.aloadN (pc' := 15) d9_14 rfl
  replace w := w.iloadN (pc' := 16) d9_15 rfl
  replace w := w.aaload (v := (.ref x2)) Va d9_16 ⟨by decide, by decide⟩ (rfl) (pc' := 17)
  replace w := w.astore (pc' := 19) (L' := #[.val (.ref b), .val (.ref ar), .val (.int (3 : Int32)), .val (.int ((0 : Int32) + (1 : Int32))), .val (.ref x2)]) d9_17 rfl
  replace w := w.aload (pc' := 21) d9_19 rfl
  replace w := w.getF (hw _ (List.mem_of_getElem? (i := 67) rfl)) F2' d9_21 (pc' := 24)
  replace w := w.aloadN (pc' := 25) d9_24 rfl
  obtain ⟨v3, V3, h3, hq3, A3, w⟩ := w.virt (y' := (⟨"java/lang/String", "equals", "(Ljava/lang/Object;)Z"⟩ : MethodName)) (W := 0) (C := "java/lang/String") (b := n2) (w.payEq (W := 0) hwe (hw _ (List.mem_of_getElem? (i := 3) rfl)) T2' T0' Sc hz0 nle hl5 nle nle) (hw _ (List.mem_of_getElem? (i := 69) rfl)) (hw _ (List.mem_of_getElem? (i := 35) rfl)) (hw _ (List.mem_of_getElem? (i := 37) rfl)) (hw _ (List.mem_of_getElem? (i := 36) rfl)) (argsL := [(.ref b)]) (rest := []) (by decide) X_n2 pd_1 rfl rfl (Nat.le_of_eq rfl) rfl d9_25 nle nle (pc' := 28)
  obtain ⟨hv3, he3⟩ := hq3
  replace he3 := he3.symm
  subst he3
  have C0 := C0.trans A3
  rcases hv3 with ⟨rfl, heq⟩ | ⟨rfl, hne2⟩
  ·
    replace w := w.to (g' := mkF m 28 #[.val (.ref b), .val (.ref ar), .val (.int (3 : Int32)), .val (.int ((0 : Int32) + (1 : Int32))), .val (.ref x2)] [(.int (1 : Int32))]) rfl
    replace w := w.ifNo (pc' := 31) d9_28 (by decide)
    replace w := w.aload (pc' := 33) d9_31 rfl
    exact w.retA d9_33 (congrArg some (pick2 (fun q => hne1 q.symm) heq.symm).symm) nle nle
  replace w := w.to (g' := mkF m 28 #[.val (.ref b), .val (.ref ar), .val (.int (3 : Int32)), .val (.int ((0 : Int32) + (1 : Int32))), .val (.ref x2)] [(.int (0 : Int32))]) rfl
  replace w := w.ifYes (pc' := 34) d9_28 (by decide)
  replace w := w.iinc (pc' := 37) (L' := #[.val (.ref b), .val (.ref ar), .val (.int (3 : Int32)), .val (.int (((0 : Int32) + (1 : Int32)) + (1 : Int32))), .val (.ref x2)]) d9_34 rfl rfl
  replace w := w.goto (pc' := 9) d9_37
  replace w := w.iloadN (pc' := 10) d9_9 rfl
  replace w := w.iloadN (pc' := 11) d9_10 rfl
  replace w := w.icmpNo (pc' := 14) d9_11 (by decide)
  replace w := w.aloadN (pc' := 15) d9_14 rfl
  replace w := w.iloadN (pc' := 16) d9_15 rfl
  replace w := w.aaload (v := (.ref x3)) Va d9_16 ⟨by decide, by decide⟩ (rfl) (pc' := 17)
  replace w := w.astore (pc' := 19) (L' := #[.val (.ref b), .val (.ref ar), .val (.int (3 : Int32)), .val (.int (((0 : Int32) + (1 : Int32)) + (1 : Int32))), .val (.ref x3)]) d9_17 rfl
  replace w := w.aload (pc' := 21) d9_19 rfl
  replace w := w.getF (hw _ (List.mem_of_getElem? (i := 67) rfl)) F3' d9_21 (pc' := 24)
  replace w := w.aloadN (pc' := 25) d9_24 rfl
  obtain ⟨v4, V4, h4, hq4, A4, w⟩ := w.virt (y' := (⟨"java/lang/String", "equals", "(Ljava/lang/Object;)Z"⟩ : MethodName)) (W := 0) (C := "java/lang/String") (b := n3) (w.payEq (W := 0) hwe (hw _ (List.mem_of_getElem? (i := 3) rfl)) T3' T0' Sc hz0 nle hl5 nle nle) (hw _ (List.mem_of_getElem? (i := 69) rfl)) (hw _ (List.mem_of_getElem? (i := 35) rfl)) (hw _ (List.mem_of_getElem? (i := 37) rfl)) (hw _ (List.mem_of_getElem? (i := 36) rfl)) (argsL := [(.ref b)]) (rest := []) (by decide) X_n3 pd_1 rfl rfl (Nat.le_of_eq rfl) rfl d9_25 nle nle (pc' := 28)
  obtain ⟨hv4, he4⟩ := hq4
  replace he4 := he4.symm
  subst he4
  have C0 := C0.trans A4
  rcases hv4 with ⟨rfl, heq⟩ | ⟨rfl, hne3⟩
  ·
    replace w := w.to (g' := mkF m 28 #[.val (.ref b), .val (.ref ar), .val (.int (3 : Int32)), .val (.int (((0 : Int32) + (1 : Int32)) + (1 : Int32))), .val (.ref x3)] [(.int (1 : Int32))]) rfl
    replace w := w.ifNo (pc' := 31) d9_28 (by decide)
    replace w := w.aload (pc' := 33) d9_31 rfl
    exact w.retA d9_33 (congrArg some (pick3 (fun q => hne1 q.symm) (fun q => hne2 q.symm) heq.symm).symm) nle nle
  replace w := w.to (g' := mkF m 28 #[.val (.ref b), .val (.ref ar), .val (.int (3 : Int32)), .val (.int (((0 : Int32) + (1 : Int32)) + (1 : Int32))), .val (.ref x3)] [(.int (0 : Int32))]) rfl
  replace w := w.ifYes (pc' := 34) d9_28 (by decide)
  replace w := w.iinc (pc' := 37) (L' := #[.val (.ref b), .val (.ref ar), .val (.int (3 : Int32)), .val (.int ((((0 : Int32) + (1 : Int32)) + (1 : Int32)) + (1 : Int32))), .val (.ref x3)]) d9_34 rfl rfl
  replace w := w.goto (pc' := 9) d9_37
  replace w := w.iloadN (pc' := 10) d9_9 rfl
  replace w := w.iloadN (pc' := 11) d9_10 rfl
  replace w := w.icmpYes (pc' := 40) d9_11 (by decide)
  replace w := w.aconstNull (pc' := 41) d9_40
  exact w.retA d9_41 (congrArg some (pick4 (fun q => hne1 q.symm) (fun q => hne2 q.symm) (fun q => hne3 q.symm)).symm) nle nle
/-! Encoding.fromCode(null) -/
set_option maxRecDepth 65536 in
theorem rm9n (l : Launch) (Z : State) (a0 : Array Value) (hw : ∀ d ∈ tables_1, d.before a0 Z = true) (hEL : EW Z a0 consts_1) (z0 : Int32) (Sc : Sta Z Z.heap "java/lang/String" "COMPACT_STRINGS" "Z" (.int z0)) (hz0 : ¬ z0 = 0) (x1 x2 x3 vs n1 n2 n3 : Addr) (k : ClassId) (En : Enum3 Z x1 x2 x3 vs n1 n2 n3 k) (h0 : Heap) (hx : Ext Z.heap h0) :
    Met l Z consts_1 (⟨"com/example/carillon/carillon/store/Signing$Encoding", "fromCode", "(Ljava/lang/String;)Lcom/example/carillon/carillon/store/Signing$Encoding;"⟩ : MethodName) prog_46_method_6_code 5 (some (.object "com/example/carillon/carillon/store/Signing$Encoding")) [] ({ frames := 2, cells := 1, slots := 3, locals := 28 } : Room) #[.null] h0 [] (fun v h => v = some .null) := by
  have En0 := En
  obtain ⟨S1, S2, S3, S4, Av, Xv, F1, F2, F3, T1, T2, T3⟩ := En
  refine Met.of (a0 := a0) (by decide +kernel) hEL hx ?_
  intro p e s m below meth c S0 V w hs hsf
  replace w := w.to (g' := mkF m 0 #[.val .null, .unset, .unset, .unset, .unset] []) (by first | (simp [entryFrame, mkF, argsToLocals, Value.category]; done) | rfl)
  have B0 := extR h0
  have C0 := CHr.refl w.ch
  obtain ⟨v1, V1, h1, hq1, A1, w⟩ := w.static (y' := (⟨"com/example/carillon/carillon/store/Signing$Encoding", "values", "()[Lcom/example/carillon/carillon/store/Signing$Encoding;"⟩ : MethodName)) (W := 0) (w.pays 0 (rm10 l Z a0 hw hEL x1 x2 x3 vs n1 n2 n3 k En0 h0 w.old) (hw _ (List.mem_of_getElem? (i := 52) rfl)) (hw _ (List.mem_of_getElem? (i := 45) rfl)) all0 nle nle) (hw _ (List.mem_of_getElem? (i := 50) rfl)) (hw _ (List.mem_of_getElem? (i := 51) rfl)) (hw _ (List.mem_of_getElem? (i := 45) rfl)) (hw _ (List.mem_of_getElem? (i := 52) rfl)) (argsL := []) (rest := []) (by decide) pd_0 rfl rfl (Nat.le_of_eq rfl) rfl d9_0 nle nle (pc' := 3)
  obtain ⟨ar, rfl, E1, Va⟩ := hq1
  replace w := w.to (g' := mkF m 3 #[.val .null, .unset, .unset, .unset, .unset] [(.ref ar)]) rfl
  have B0 := extT B0 E1
  have C0 := C0.trans A1
  have F1' := F1.ext w.old
  have F2' := F2.ext w.old
  have F3' := F3.ext w.old
  have X_n1 := (T1.ext w.old).exa
  have X_n2 := (T2.ext w.old).exa
  have X_n3 := (T3.ext w.old).exa
  replace w := w.astoreN (pc' := 4) (L' := #[.val .null, .val (.ref ar), .unset, .unset, .unset]) d9_3 rfl
  replace w := w.aloadN (pc' := 5) d9_4 rfl
  replace w := w.arrlen Va d9_5 (pc' := 6)
  replace w := w.istoreN (pc' := 7) (L' := #[.val .null, .val (.ref ar), .val (.int (3 : Int32)), .unset, .unset]) d9_6 rfl
  replace w := w.iconst (pc' := 8) (0 : Int32) d9_7
  replace w := w.istoreN (pc' := 9) (L' := #[.val .null, .val (.ref ar), .val (.int (3 : Int32)), .val (.int (0 : Int32)), .unset]) d9_8 rfl
  replace w := w.iloadN (pc' := 10) d9_9 rfl
  replace w := w.iloadN (pc' := 11) d9_10 rfl
  replace w := w.icmpNo (pc' := 14) d9_11 (by decide)
  replace w := w.aloadN (pc' := 15) d9_14 rfl
  replace w := w.iloadN (pc' := 16) d9_15 rfl
  replace w := w.aaload (v := (.ref x1)) Va d9_16 ⟨by decide, by decide⟩ (rfl) (pc' := 17)
  replace w := w.astore (pc' := 19) (L' := #[.val .null, .val (.ref ar), .val (.int (3 : Int32)), .val (.int (0 : Int32)), .val (.ref x1)]) d9_17 rfl
  replace w := w.aload (pc' := 21) d9_19 rfl
  replace w := w.getF (hw _ (List.mem_of_getElem? (i := 67) rfl)) F1' d9_21 (pc' := 24)
  replace w := w.aloadN (pc' := 25) d9_24 rfl
  obtain ⟨v2, V2, h2, hq2, A2, w⟩ := w.virt (y' := (⟨"java/lang/String", "equals", "(Ljava/lang/Object;)Z"⟩ : MethodName)) (W := 0) (C := "java/lang/String") (b := n1) (w.pays 0 (rm7 l Z a0 hw hEL n1 h1 w.old) (hw _ (List.mem_of_getElem? (i := 38) rfl)) (hw _ (List.mem_of_getElem? (i := 4) rfl)) all0 nle nle) (hw _ (List.mem_of_getElem? (i := 69) rfl)) (hw _ (List.mem_of_getElem? (i := 35) rfl)) (hw _ (List.mem_of_getElem? (i := 37) rfl)) (hw _ (List.mem_of_getElem? (i := 36) rfl)) (argsL := [.null]) (rest := []) (by decide) X_n1 pd_1 rfl rfl (Nat.le_of_eq rfl) rfl d9_25 nle nle (pc' := 28)
  obtain ⟨rfl, he2⟩ := hq2
  replace w := w.to (g' := mkF m 28 #[.val .null, .val (.ref ar), .val (.int (3 : Int32)), .val (.int (0 : Int32)), .val (.ref x1)] [(.int (0 : Int32))]) rfl
  replace he2 := he2.symm
  subst he2
  have C0 := C0.trans A2
  replace w := w.ifYes (pc' := 34) d9_28 (by decide)
  replace w := w.iinc (pc' := 37) (L' := #[.val .null, .val (.ref ar), .val (.int (3 : Int32)), .val (.int ((0 : Int32) + (1 : Int32))), .val (.ref x1)]) d9_34 rfl rfl
  replace w := w.goto (pc' := 9) d9_37
  replace w := w.iloadN (pc' := 10) d9_9 rfl
  replace w := w.iloadN (pc' := 11) d9_10 rfl
  replace w := w.icmpNo (pc' := 14) d9_11 (by decide)
  replace w := w.aloadN (pc' := 15) d9_14 rfl
  replace w := w.iloadN (pc' := 16) d9_15 rfl
  replace w := w.aaload (v := (.ref x2)) Va d9_16 ⟨by decide, by decide⟩ (rfl) (pc' := 17)
  replace w := w.astore (pc' := 19) (L' := #[.val .null, .val (.ref ar), .val (.int (3 : Int32)), .val (.int ((0 : Int32) + (1 : Int32))), .val (.ref x2)]) d9_17 rfl
  replace w := w.aload (pc' := 21) d9_19 rfl
  replace w := w.getF (hw _ (List.mem_of_getElem? (i := 67) rfl)) F2' d9_21 (pc' := 24)
  replace w := w.aloadN (pc' := 25) d9_24 rfl
  obtain ⟨v3, V3, h3, hq3, A3, w⟩ := w.virt (y' := (⟨"java/lang/String", "equals", "(Ljava/lang/Object;)Z"⟩ : MethodName)) (W := 0) (C := "java/lang/String") (b := n2) (w.pays 0 (rm7 l Z a0 hw hEL n2 h1 w.old) (hw _ (List.mem_of_getElem? (i := 38) rfl)) (hw _ (List.mem_of_getElem? (i := 4) rfl)) all0 nle nle) (hw _ (List.mem_of_getElem? (i := 69) rfl)) (hw _ (List.mem_of_getElem? (i := 35) rfl)) (hw _ (List.mem_of_getElem? (i := 37) rfl)) (hw _ (List.mem_of_getElem? (i := 36) rfl)) (argsL := [.null]) (rest := []) (by decide) X_n2 pd_1 rfl rfl (Nat.le_of_eq rfl) rfl d9_25 nle nle (pc' := 28)
  obtain ⟨rfl, he3⟩ := hq3
  replace w := w.to (g' := mkF m 28 #[.val .null, .val (.ref ar), .val (.int (3 : Int32)), .val (.int ((0 : Int32) + (1 : Int32))), .val (.ref x2)] [(.int (0 : Int32))]) rfl
  replace he3 := he3.symm
  subst he3
  have C0 := C0.trans A3
  replace w := w.ifYes (pc' := 34) d9_28 (by decide)
  replace w := w.iinc (pc' := 37) (L' := #[.val .null, .val (.ref ar), .val (.int (3 : Int32)), .val (.int (((0 : Int32) + (1 : Int32)) + (1 : Int32))), .val (.ref x2)]) d9_34 rfl rfl
  replace w := w.goto (pc' := 9) d9_37
  replace w := w.iloadN (pc' := 10) d9_9 rfl
  replace w := w.iloadN (pc' := 11) d9_10 rfl
  replace w := w.icmpNo (pc' := 14) d9_11 (by decide)
  replace w := w.aloadN (pc' := 15) d9_14 rfl
  replace w := w.iloadN (pc' := 16) d9_15 rfl
  replace w := w.aaload (v := (.ref x3)) Va d9_16 ⟨by decide, by decide⟩ (rfl) (pc' := 17)
  replace w := w.astore (pc' := 19) (L' := #[.val .null, .val (.ref ar), .val (.int (3 : Int32)), .val (.int (((0 : Int32) + (1 : Int32)) + (1 : Int32))), .val (.ref x3)]) d9_17 rfl
  replace w := w.aload (pc' := 21) d9_19 rfl
  replace w := w.getF (hw _ (List.mem_of_getElem? (i := 67) rfl)) F3' d9_21 (pc' := 24)
  replace w := w.aloadN (pc' := 25) d9_24 rfl
  obtain ⟨v4, V4, h4, hq4, A4, w⟩ := w.virt (y' := (⟨"java/lang/String", "equals", "(Ljava/lang/Object;)Z"⟩ : MethodName)) (W := 0) (C := "java/lang/String") (b := n3) (w.pays 0 (rm7 l Z a0 hw hEL n3 h1 w.old) (hw _ (List.mem_of_getElem? (i := 38) rfl)) (hw _ (List.mem_of_getElem? (i := 4) rfl)) all0 nle nle) (hw _ (List.mem_of_getElem? (i := 69) rfl)) (hw _ (List.mem_of_getElem? (i := 35) rfl)) (hw _ (List.mem_of_getElem? (i := 37) rfl)) (hw _ (List.mem_of_getElem? (i := 36) rfl)) (argsL := [.null]) (rest := []) (by decide) X_n3 pd_1 rfl rfl (Nat.le_of_eq rfl) rfl d9_25 nle nle (pc' := 28)
  obtain ⟨rfl, he4⟩ := hq4
  replace w := w.to (g' := mkF m 28 #[.val .null, .val (.ref ar), .val (.int (3 : Int32)), .val (.int (((0 : Int32) + (1 : Int32)) + (1 : Int32))), .val (.ref x3)] [(.int (0 : Int32))]) rfl
  replace he4 := he4.symm
  subst he4
  have C0 := C0.trans A4
  replace w := w.ifYes (pc' := 34) d9_28 (by decide)
  replace w := w.iinc (pc' := 37) (L' := #[.val .null, .val (.ref ar), .val (.int (3 : Int32)), .val (.int ((((0 : Int32) + (1 : Int32)) + (1 : Int32)) + (1 : Int32))), .val (.ref x3)]) d9_34 rfl rfl
  replace w := w.goto (pc' := 9) d9_37
  replace w := w.iloadN (pc' := 10) d9_9 rfl
  replace w := w.iloadN (pc' := 11) d9_10 rfl
  replace w := w.icmpYes (pc' := 40) d9_11 (by decide)
  replace w := w.aconstNull (pc' := 41) d9_40
  exact w.retA d9_41 rfl nle nle
/-! the law's end: s in local 9, the expected constant in local 10 -/
set_option maxRecDepth 65536 in
theorem tl565 (l : Launch) (Z : State) (a0 : Array Value) (hw : ∀ d ∈ tables_1, d.before a0 Z = true) (hEL : EW Z a0 consts_1) (z0 : Int32) (Sc : Sta Z Z.heap "java/lang/String" "COMPACT_STRINGS" "Z" (.int z0)) (hz0 : ¬ z0 = 0) (x1 x2 x3 vs n1 n2 n3 : Addr) (k : ClassId) (En : Enum3 Z x1 x2 x3 vs n1 n2 n3 k) {p : Program} {e : Env} {s : State} {m : MethodId} {args : Array Value} {below : List Frame} {meth : Method} {c : Code} {S0 : State} {V : Vm} (cl sl : Nat) (hcl : cl ≤ 20) (hsl : sl ≤ 7000)
    (h0 : Heap) (a1 a2 a3 a4 a5 a6 a7 a8 a9 : Int32) (xs : Addr) (X : Value) (hX : X.isRef = true) (cs : List Int32) (T0 : Str Z h0 xs cs) (hl5 : cs.length ≤ 4000) (hpk : own_pick x1 x2 x3 cs = X) (w : Wk p l e room_1 s m args below meth c Z a0 consts_1 S0 x code maxLocals ret V h0 cl sl (mkF m 565 #[.val (.int a1), .val (.int a2), .val (.int a3), .val (.int a4), .val (.int a5), .val (.int a6), .val (.int a7), .val (.int a8), .val (.int a9), .val (.ref xs), .val X] [])) :
    Fini p e below s Z consts_1 S0 32 7360 (fun v h => v = some (.int 1)) := by
  have hc1 : cl + 1 ≤ room_1.cells := by show cl + 1 ≤ 32; omega
  have hs1 : sl + 3 ≤ room_1.slots := by show sl + 3 ≤ 7360; omega
  replace w := w.aload (pc' := 567) at_565 rfl
  obtain ⟨v1, V1, h1, hq1, A1, w⟩ := w.static (y' := (⟨"com/example/carillon/carillon/store/Signing$Encoding", "fromCode", "(Ljava/lang/String;)Lcom/example/carillon/carillon/store/Signing$Encoding;"⟩ : MethodName)) (W := 0) (w.pays 0 (rm9 l Z a0 hw hEL z0 Sc hz0 x1 x2 x3 vs n1 n2 n3 k En xs cs h0 w.old T0 hl5) (hw _ (List.mem_of_getElem? (i := 49) rfl)) (hw _ (List.mem_of_getElem? (i := 45) rfl)) all0 nle nle) (hw _ (List.mem_of_getElem? (i := 47) rfl)) (hw _ (List.mem_of_getElem? (i := 48) rfl)) (hw _ (List.mem_of_getElem? (i := 45) rfl)) (hw _ (List.mem_of_getElem? (i := 49) rfl)) (argsL := [(.ref xs)]) (rest := []) (by decide) pd_2 rfl rfl (Nat.le_of_eq rfl) rfl at_567 hc1 hs1 (pc' := 570)
  obtain rfl : v1 = some X := hq1.trans (congrArg some hpk)
  replace w := w.to (g' := mkF m 570 #[.val (.int a1), .val (.int a2), .val (.int a3), .val (.int a4), .val (.int a5), .val (.int a6), .val (.int a7), .val (.int a8), .val (.int a9), .val (.ref xs), .val X] [X]) rfl
  replace w := w.aload (pc' := 572) at_570 rfl (hv := hX)
  replace w := w.acmp (pc' := 575) true at_572 (decide_eq_true rfl) hX hX
  replace w := w.iconst (pc' := 576) (1 : Int32) at_575
  replace w := w.goto (pc' := 580) at_576
  exact w.retN at_580 (by simp) rfl (by show cl + 1 ≤ 32; omega) (by show sl + 3 ≤ 7360; omega)
set_option maxRecDepth 65536 in
theorem tl497 (l : Launch) (Z : State) (a0 : Array Value) (hw : ∀ d ∈ tables_1, d.before a0 Z = true) (hEL : EW Z a0 consts_1) (z0 : Int32) (Sc : Sta Z Z.heap "java/lang/String" "COMPACT_STRINGS" "Z" (.int z0)) (hz0 : ¬ z0 = 0) (x1 x2 x3 vs n1 n2 n3 : Addr) (k : ClassId) (En : Enum3 Z x1 x2 x3 vs n1 n2 n3 k) {p : Program} {e : Env} {s : State} {m : MethodId} {args : Array Value} {below : List Frame} {meth : Method} {c : Code} {S0 : State} {V : Vm}
    (h0 : Heap) (a1 a2 a3 a4 a5 a6 a7 a8 a9 : Int32) (xs : Addr) (o10 : Slot) (ho10 : One o10) (cs : List Int32) (T0 : Str Z h0 xs cs) (hl5 : cs.length ≤ 4000) (w : Wk p l e room_1 s m args below meth c Z a0 consts_1 S0 x code maxLocals ret V h0 3 60 (mkF m 497 #[.val (.int a1), .val (.int a2), .val (.int a3), .val (.int a4), .val (.int a5), .val (.int a6), .val (.int a7), .val (.int a8), .val (.int a9), .val (.ref xs), o10] [])) :
    Fini p e below s Z consts_1 S0 32 7360 (fun v h => v = some (.int 1)) := by
  have En0 := En
  obtain ⟨S1, S2, S3, S4, Av, Xv, F1, F2, F3, T1, T2, T3⟩ := En
  have hstr := own_hstr hw
  have hwe := own_wordsEq hw
  have B0 := extR h0
  have C0 := CHr.refl w.ch
  replace w := w.aload (pc' := 499) at_497 rfl
  replace w := w.ifnonnullYes (pc' := 508) at_499 
  replace w := w.aload (pc' := 510) at_508 rfl
  obtain ⟨q1, V1, h1, E1, T_q1, N_q1, A1, w⟩ := w.ldcT [(98 : Int32), (97 : Int32), (115 : Int32), (101 : Int32), (54 : Int32), (52 : Int32)] 24 (text := "base64") (hw _ (List.mem_of_getElem? (i := 31) rfl)) hstr (by decide) (by decide) (by decide) (by decide) (by decide) (by decide) at_510 (by decide) (by decide) (by decide) (by decide) (pc' := 512)
  have B0 := extT B0 E1
  have C0 := C0.trans A1
  have T0' := T0.ext B0
  have X_xs := T0'.exa
  obtain ⟨v2, V2, h2, hq2, A2, w⟩ := w.virt (y' := (⟨"java/lang/String", "equals", "(Ljava/lang/Object;)Z"⟩ : MethodName)) (W := 0) (C := "java/lang/String") (b := xs) (w.payEq (W := 0) hwe (hw _ (List.mem_of_getElem? (i := 3) rfl)) T0' T_q1 Sc hz0 hl5 nle nle nle) (hw _ (List.mem_of_getElem? (i := 34) rfl)) (hw _ (List.mem_of_getElem? (i := 35) rfl)) (hw _ (List.mem_of_getElem? (i := 37) rfl)) (hw _ (List.mem_of_getElem? (i := 36) rfl)) (argsL := [(.ref q1)]) (rest := []) (by decide) X_xs pd_1 rfl rfl (Nat.le_of_eq rfl) rfl at_512 nle nle (pc' := 515)
  obtain ⟨hv2, he2⟩ := hq2
  replace he2 := he2.symm
  subst he2
  have C0 := C0.trans A2
  rcases hv2 with ⟨rfl, heq1⟩ | ⟨rfl, hne1⟩
  ·
    replace w := w.to (g' := mkF m 515 #[.val (.int a1), .val (.int a2), .val (.int a3), .val (.int a4), .val (.int a5), .val (.int a6), .val (.int a7), .val (.int a8), .val (.int a9), .val (.ref xs), o10] [(.int (1 : Int32))]) rfl
    replace w := w.ifNo (pc' := 518) at_515 (by decide)
    replace w := w.getS (hw _ (List.mem_of_getElem? (i := 44) rfl)) S1 at_518 (pc' := 521)
    replace w := w.astore (pc' := 523) (L' := #[.val (.int a1), .val (.int a2), .val (.int a3), .val (.int a4), .val (.int a5), .val (.int a6), .val (.int a7), .val (.int a8), .val (.int a9), .val (.ref xs), .val (.ref x1)]) at_521 (XS.store1 rfl (ho10) rfl)
    replace w := w.goto (pc' := 565) at_523
    exact tl565 l Z a0 hw hEL z0 Sc hz0 x1 x2 x3 vs n1 n2 n3 k En0 _ _ (by decide) (by decide) _ _ _ _ _ _ _ _ _ _ xs (.ref x1) rfl cs T0' hl5 (pick1 heq1) w
  replace w := w.to (g' := mkF m 515 #[.val (.int a1), .val (.int a2), .val (.int a3), .val (.int a4), .val (.int a5), .val (.int a6), .val (.int a7), .val (.int a8), .val (.int a9), .val (.ref xs), o10] [(.int (0 : Int32))]) rfl
  replace w := w.ifYes (pc' := 526) at_515 (by decide)
  replace w := w.aload (pc' := 528) at_526 rfl
  obtain ⟨q2, V3, h3, E3, T_q2, N_q2, A3, w⟩ := w.ldcT [(98 : Int32), (97 : Int32), (115 : Int32), (101 : Int32), (54 : Int32), (52 : Int32), (45 : Int32), (117 : Int32), (110 : Int32), (112 : Int32), (97 : Int32), (100 : Int32), (100 : Int32), (101 : Int32), (100 : Int32)] 60 (text := "base64-unpadded") (hw _ (List.mem_of_getElem? (i := 70) rfl)) hstr (by decide) (by decide) (by decide) (by decide) (by decide) (by decide) at_528 (by decide) (by decide) (by decide) (by decide) (pc' := 530)
  have B0 := extT B0 E3
  have C0 := C0.trans A3
  have T0' := T0.ext B0
  have X_xs := T0'.exa
  obtain ⟨v4, V4, h4, hq4, A4, w⟩ := w.virt (y' := (⟨"java/lang/String", "equals", "(Ljava/lang/Object;)Z"⟩ : MethodName)) (W := 0) (C := "java/lang/String") (b := xs) (w.payEq (W := 0) hwe (hw _ (List.mem_of_getElem? (i := 3) rfl)) T0' T_q2 Sc hz0 hl5 nle nle nle) (hw _ (List.mem_of_getElem? (i := 34) rfl)) (hw _ (List.mem_of_getElem? (i := 35) rfl)) (hw _ (List.mem_of_getElem? (i := 37) rfl)) (hw _ (List.mem_of_getElem? (i := 36) rfl)) (argsL := [(.ref q2)]) (rest := []) (by decide) X_xs pd_1 rfl rfl (Nat.le_of_eq rfl) rfl at_530 nle nle (pc' := 533)
  obtain ⟨hv4, he4⟩ := hq4
  replace he4 := he4.symm
  subst he4
  have C0 := C0.trans A4
  rcases hv4 with ⟨rfl, heq2⟩ | ⟨rfl, hne2⟩
  ·
    replace w := w.to (g' := mkF m 533 #[.val (.int a1), .val (.int a2), .val (.int a3), .val (.int a4), .val (.int a5), .val (.int a6), .val (.int a7), .val (.int a8), .val (.int a9), .val (.ref xs), o10] [(.int (1 : Int32))]) rfl
    replace w := w.ifNo (pc' := 536) at_533 (by decide)
    replace w := w.getS (hw _ (List.mem_of_getElem? (i := 75) rfl)) S2 at_536 (pc' := 539)
    replace w := w.astore (pc' := 541) (L' := #[.val (.int a1), .val (.int a2), .val (.int a3), .val (.int a4), .val (.int a5), .val (.int a6), .val (.int a7), .val (.int a8), .val (.int a9), .val (.ref xs), .val (.ref x2)]) at_539 (XS.store1 rfl (ho10) rfl)
    replace w := w.goto (pc' := 565) at_541
    exact tl565 l Z a0 hw hEL z0 Sc hz0 x1 x2 x3 vs n1 n2 n3 k En0 _ _ (by decide) (by decide) _ _ _ _ _ _ _ _ _ _ xs (.ref x2) rfl cs T0' hl5 (pick2 hne1 heq2) w
  replace w := w.to (g' := mkF m 533 #[.val (.int a1), .val (.int a2), .val (.int a3), .val (.int a4), .val (.int a5), .val (.int a6), .val (.int a7), .val (.int a8), .val (.int a9), .val (.ref xs), o10] [(.int (0 : Int32))]) rfl
  replace w := w.ifYes (pc' := 544) at_533 (by decide)
  replace w := w.aload (pc' := 546) at_544 rfl
  obtain ⟨q3, V5, h5, E5, T_q3, N_q3, A5, w⟩ := w.ldcT [(104 : Int32), (101 : Int32), (120 : Int32)] 12 (text := "hex") (hw _ (List.mem_of_getElem? (i := 71) rfl)) hstr (by decide) (by decide) (by decide) (by decide) (by decide) (by decide) at_546 (by decide) (by decide) (by decide) (by decide) (pc' := 548)
  have B0 := extT B0 E5
  have C0 := C0.trans A5
  have T0' := T0.ext B0
  have X_xs := T0'.exa
  obtain ⟨v6, V6, h6, hq6, A6, w⟩ := w.virt (y' := (⟨"java/lang/String", "equals", "(Ljava/lang/Object;)Z"⟩ : MethodName)) (W := 0) (C := "java/lang/String") (b := xs) (w.payEq (W := 0) hwe (hw _ (List.mem_of_getElem? (i := 3) rfl)) T0' T_q3 Sc hz0 hl5 nle nle nle) (hw _ (List.mem_of_getElem? (i := 34) rfl)) (hw _ (List.mem_of_getElem? (i := 35) rfl)) (hw _ (List.mem_of_getElem? (i := 37) rfl)) (hw _ (List.mem_of_getElem? (i := 36) rfl)) (argsL := [(.ref q3)]) (rest := []) (by decide) X_xs pd_1 rfl rfl (Nat.le_of_eq rfl) rfl at_548 nle nle (pc' := 551)
  obtain ⟨hv6, he6⟩ := hq6
  replace he6 := he6.symm
  subst he6
  have C0 := C0.trans A6
  rcases hv6 with ⟨rfl, heq3⟩ | ⟨rfl, hne3⟩
  ·
    replace w := w.to (g' := mkF m 551 #[.val (.int a1), .val (.int a2), .val (.int a3), .val (.int a4), .val (.int a5), .val (.int a6), .val (.int a7), .val (.int a8), .val (.int a9), .val (.ref xs), o10] [(.int (1 : Int32))]) rfl
    replace w := w.ifNo (pc' := 554) at_551 (by decide)
    replace w := w.getS (hw _ (List.mem_of_getElem? (i := 72) rfl)) S3 at_554 (pc' := 557)
    replace w := w.astore (pc' := 559) (L' := #[.val (.int a1), .val (.int a2), .val (.int a3), .val (.int a4), .val (.int a5), .val (.int a6), .val (.int a7), .val (.int a8), .val (.int a9), .val (.ref xs), .val (.ref x3)]) at_557 (XS.store1 rfl (ho10) rfl)
    replace w := w.goto (pc' := 565) at_559
    exact tl565 l Z a0 hw hEL z0 Sc hz0 x1 x2 x3 vs n1 n2 n3 k En0 _ _ (by decide) (by decide) _ _ _ _ _ _ _ _ _ _ xs (.ref x3) rfl cs T0' hl5 (pick3 hne1 hne2 heq3) w
  replace w := w.to (g' := mkF m 551 #[.val (.int a1), .val (.int a2), .val (.int a3), .val (.int a4), .val (.int a5), .val (.int a6), .val (.int a7), .val (.int a8), .val (.int a9), .val (.ref xs), o10] [(.int (0 : Int32))]) rfl
  replace w := w.ifYes (pc' := 562) at_551 (by decide)
  replace w := w.aconstNull (pc' := 563) at_562
  replace w := w.astore (pc' := 565) (L' := #[.val (.int a1), .val (.int a2), .val (.int a3), .val (.int a4), .val (.int a5), .val (.int a6), .val (.int a7), .val (.int a8), .val (.int a9), .val (.ref xs), .val .null]) at_563 (XS.store1 rfl (ho10) rfl)
  exact tl565 l Z a0 hw hEL z0 Sc hz0 x1 x2 x3 vs n1 n2 n3 k En0 _ _ (by decide) (by decide) _ _ _ _ _ _ _ _ _ _ xs .null rfl cs (T0.ext B0) hl5 (pick4 hne1 hne2 hne3) w
/-! .. the String of the char[] in local 10 -/
set_option maxRecDepth 65536 in
theorem tl90 (l : Launch) (Z : State) (a0 : Array Value) (hw : ∀ d ∈ tables_1, d.before a0 Z = true) (hEL : EW Z a0 consts_1) (z0 : Int32) (Sc : Sta Z Z.heap "java/lang/String" "COMPACT_STRINGS" "Z" (.int z0)) (hz0 : ¬ z0 = 0) (x1 x2 x3 vs n1 n2 n3 : Addr) (k : ClassId) (En : Enum3 Z x1 x2 x3 vs n1 n2 n3 k) {p : Program} {e : Env} {s : State} {m : MethodId} {args : Array Value} {below : List Frame} {meth : Method} {c : Code} {S0 : State} {V : Vm}
    (h0 : Heap) (a1 a2 a3 a4 a5 a6 a7 a8 a9 : Int32) (b : Addr) (kb : ClassId) (dv : Value) (cs : List Int32) (hl5 : cs.length = 6) (hcs : ∀ c ∈ cs, ¬ c < 0 ∧ ¬ (255 : Int32) < c) (V_b : Arv Z h0 b kb .char 6 (cs.map Value.int) dv) (w : Wk p l e room_1 s m args below meth c Z a0 consts_1 S0 x code maxLocals ret V h0 1 6 (mkF m 90 #[.val (.int a1), .val (.int a2), .val (.int a3), .val (.int a4), .val (.int a5), .val (.int a6), .val (.int a7), .val (.int a8), .val (.int a9), .unset, .val (.ref b)] [])) :
    Fini p e below s Z consts_1 S0 32 7360 (fun v h => v = some (.int 1)) := by
  have hws := own_words hw
  have BZ := w.old
  obtain ⟨h1, xs, g_xs, E1, X_xs, D_xs, S_xs, A1, w⟩ := w.new (hw _ (List.mem_of_getElem? (i := 2) rfl)) (hw _ (List.mem_of_getElem? (i := 3) rfl)) (hw _ (List.mem_of_getElem? (i := 4) rfl)) at_90 nle nle (pc' := 93)
  have lt_xs : xs < h1.size := X_xs.lt
  have ge_xs_Z : Z.heap.size ≤ xs := Nat.le_trans BZ.1 (Nat.le_of_eq g_xs.symm)
  have F_xs_coder := D_xs (Or.inr (hw _ (List.mem_of_getElem? (i := 28) rfl))) (ty := .byte) (by decide)
  have F_xs_value := D_xs (Or.inr (hw _ (List.mem_of_getElem? (i := 30) rfl))) (ty := (.array .byte)) (by decide)
  have BZ := extT BZ E1
  replace w := w.dup (pc' := 94) at_93
  replace w := w.aload (pc' := 96) at_94 rfl
  obtain ⟨v2, V2, h2, hq2, A2, w⟩ := w.ctor (y' := (⟨"java/lang/String", "<init>", "([C)V"⟩ : MethodName)) (W := 1) (a := xs) (w.payNew (W := 1) (cs := cs) hws (hw _ (List.mem_of_getElem? (i := 3) rfl)) X_xs F_xs_value F_xs_coder (V_b.ext E1) Sc hz0 (by rw [hl5]; rfl) (by omega) (by omega) hcs S_xs ge_xs_Z nle nle) rfl (hw _ (List.mem_of_getElem? (i := 5) rfl)) (hw _ (List.mem_of_getElem? (i := 6) rfl)) (hw _ (List.mem_of_getElem? (i := 7) rfl)) (argsL := [(.ref b)]) (rest := [(.ref xs)]) (by decide) pd_3 rfl rfl (Nat.le_of_eq rfl) rfl at_96 nle (by rw [hl5]; exact nle) (pc' := 99)
  obtain ⟨rfl, K2, T0⟩ := hq2
  replace w := w.to (g' := mkF m 99 #[.val (.int a1), .val (.int a2), .val (.int a3), .val (.int a4), .val (.int a5), .val (.int a6), .val (.int a7), .val (.int a8), .val (.int a9), .unset, .val (.ref b)] [(.ref xs)]) rfl
  have BZ := extK BZ K2 (allS ge_xs_Z all0)
  replace w := w.astore (pc' := 101) (L' := #[.val (.int a1), .val (.int a2), .val (.int a3), .val (.int a4), .val (.int a5), .val (.int a6), .val (.int a7), .val (.int a8), .val (.int a9), .val (.ref xs), .val (.ref b)]) at_99 rfl
  replace w := w.goto (pc' := 497) at_101
  exact tl497 l Z a0 hw hEL z0 Sc hz0 x1 x2 x3 vs n1 n2 n3 k En h2 a1 a2 a3 a4 a5 a6 a7 a8 a9 xs _ (One.val rfl) cs T0 (by omega) (w.more (by decide) (by omega))
set_option maxRecDepth 65536 in
theorem tl215 (l : Launch) (Z : State) (a0 : Array Value) (hw : ∀ d ∈ tables_1, d.before a0 Z = true) (hEL : EW Z a0 consts_1) (z0 : Int32) (Sc : Sta Z Z.heap "java/lang/String" "COMPACT_STRINGS" "Z" (.int z0)) (hz0 : ¬ z0 = 0) (x1 x2 x3 vs n1 n2 n3 : Addr) (k : ClassId) (En : Enum3 Z x1 x2 x3 vs n1 n2 n3 k) {p : Program} {e : Env} {s : State} {m : MethodId} {args : Array Value} {below : List Frame} {meth : Method} {c : Code} {S0 : State} {V : Vm}
    (h0 : Heap) (a1 a2 a3 a4 a5 a6 a7 a8 a9 : Int32) (b : Addr) (kb : ClassId) (dv : Value) (cs : List Int32) (hl5 : cs.length = 15) (hcs : ∀ c ∈ cs, ¬ c < 0 ∧ ¬ (255 : Int32) < c) (V_b : Arv Z h0 b kb .char 15 (cs.map Value.int) dv) (w : Wk p l e room_1 s m args below meth c Z a0 consts_1 S0 x code maxLocals ret V h0 1 15 (mkF m 215 #[.val (.int a1), .val (.int a2), .val (.int a3), .val (.int a4), .val (.int a5), .val (.int a6), .val (.int a7), .val (.int a8), .val (.int a9), .unset, .val (.ref b)] [])) :
    Fini p e below s Z consts_1 S0 32 7360 (fun v h => v = some (.int 1)) := by
  have hws := own_words hw
  have BZ := w.old
  obtain ⟨h1, xs, g_xs, E1, X_xs, D_xs, S_xs, A1, w⟩ := w.new (hw _ (List.mem_of_getElem? (i := 2) rfl)) (hw _ (List.mem_of_getElem? (i := 3) rfl)) (hw _ (List.mem_of_getElem? (i := 4) rfl)) at_215 nle nle (pc' := 218)
  have lt_xs : xs < h1.size := X_xs.lt
  have ge_xs_Z : Z.heap.size ≤ xs := Nat.le_trans BZ.1 (Nat.le_of_eq g_xs.symm)
  have F_xs_coder := D_xs (Or.inr (hw _ (List.mem_of_getElem? (i := 28) rfl))) (ty := .byte) (by decide)
  have F_xs_value := D_xs (Or.inr (hw _ (List.mem_of_getElem? (i := 30) rfl))) (ty := (.array .byte)) (by decide)
  have BZ := extT BZ E1
  replace w := w.dup (pc' := 219) at_218
  replace w := w.aload (pc' := 221) at_219 rfl
  obtain ⟨v2, V2, h2, hq2, A2, w⟩ := w.ctor (y' := (⟨"java/lang/String", "<init>", "([C)V"⟩ : MethodName)) (W := 1) (a := xs) (w.payNew (W := 1) (cs := cs) hws (hw _ (List.mem_of_getElem? (i := 3) rfl)) X_xs F_xs_value F_xs_coder (V_b.ext E1) Sc hz0 (by rw [hl5]; rfl) (by omega) (by omega) hcs S_xs ge_xs_Z nle nle) rfl (hw _ (List.mem_of_getElem? (i := 5) rfl)) (hw _ (List.mem_of_getElem? (i := 6) rfl)) (hw _ (List.mem_of_getElem? (i := 7) rfl)) (argsL := [(.ref b)]) (rest := [(.ref xs)]) (by decide) pd_3 rfl rfl (Nat.le_of_eq rfl) rfl at_221 nle (by rw [hl5]; exact nle) (pc' := 224)
  obtain ⟨rfl, K2, T0⟩ := hq2
  replace w := w.to (g' := mkF m 224 #[.val (.int a1), .val (.int a2), .val (.int a3), .val (.int a4), .val (.int a5), .val (.int a6), .val (.int a7), .val (.int a8), .val (.int a9), .unset, .val (.ref b)] [(.ref xs)]) rfl
  have BZ := extK BZ K2 (allS ge_xs_Z all0)
  replace w := w.astore (pc' := 226) (L' := #[.val (.int a1), .val (.int a2), .val (.int a3), .val (.int a4), .val (.int a5), .val (.int a6), .val (.int a7), .val (.int a8), .val (.int a9), .val (.ref xs), .val (.ref b)]) at_224 rfl
  replace w := w.goto (pc' := 497) at_226
  exact tl497 l Z a0 hw hEL z0 Sc hz0 x1 x2 x3 vs n1 n2 n3 k En h2 a1 a2 a3 a4 a5 a6 a7 a8 a9 xs _ (One.val rfl) cs T0 (by omega) (w.more (by decide) (by omega))
set_option maxRecDepth 65536 in
theorem tl269 (l : Launch) (Z : State) (a0 : Array Value) (hw : ∀ d ∈ tables_1, d.before a0 Z = true) (hEL : EW Z a0 consts_1) (z0 : Int32) (Sc : Sta Z Z.heap "java/lang/String" "COMPACT_STRINGS" "Z" (.int z0)) (hz0 : ¬ z0 = 0) (x1 x2 x3 vs n1 n2 n3 : Addr) (k : ClassId) (En : Enum3 Z x1 x2 x3 vs n1 n2 n3 k) {p : Program} {e : Env} {s : State} {m : MethodId} {args : Array Value} {below : List Frame} {meth : Method} {c : Code} {S0 : State} {V : Vm}
    (h0 : Heap) (a1 a2 a3 a4 a5 a6 a7 a8 a9 : Int32) (b : Addr) (kb : ClassId) (dv : Value) (cs : List Int32) (hl5 : cs.length = 3) (hcs : ∀ c ∈ cs, ¬ c < 0 ∧ ¬ (255 : Int32) < c) (V_b : Arv Z h0 b kb .char 3 (cs.map Value.int) dv) (w : Wk p l e room_1 s m args below meth c Z a0 consts_1 S0 x code maxLocals ret V h0 1 3 (mkF m 269 #[.val (.int a1), .val (.int a2), .val (.int a3), .val (.int a4), .val (.int a5), .val (.int a6), .val (.int a7), .val (.int a8), .val (.int a9), .unset, .val (.ref b)] [])) :
    Fini p e below s Z consts_1 S0 32 7360 (fun v h => v = some (.int 1)) := by
  have hws := own_words hw
  have BZ := w.old
  obtain ⟨h1, xs, g_xs, E1, X_xs, D_xs, S_xs, A1, w⟩ := w.new (hw _ (List.mem_of_getElem? (i := 2) rfl)) (hw _ (List.mem_of_getElem? (i := 3) rfl)) (hw _ (List.mem_of_getElem? (i := 4) rfl)) at_269 nle nle (pc' := 272)
  have lt_xs : xs < h1.size := X_xs.lt
  have ge_xs_Z : Z.heap.size ≤ xs := Nat.le_trans BZ.1 (Nat.le_of_eq g_xs.symm)
  have F_xs_coder := D_xs (Or.inr (hw _ (List.mem_of_getElem? (i := 28) rfl))) (ty := .byte) (by decide)
  have F_xs_value := D_xs (Or.inr (hw _ (List.mem_of_getElem? (i := 30) rfl))) (ty := (.array .byte)) (by decide)
  have BZ := extT BZ E1
  replace w := w.dup (pc' := 273) at_272
  replace w := w.aload (pc' := 275) at_273 rfl
  obtain ⟨v2, V2, h2, hq2, A2, w⟩ := w.ctor (y' := (⟨"java/lang/String", "<init>", "([C)V"⟩ : MethodName)) (W := 1) (a := xs) (w.payNew (W := 1) (cs := cs) hws (hw _ (List.mem_of_getElem? (i := 3) rfl)) X_xs F_xs_value F_xs_coder (V_b.ext E1) Sc hz0 (by rw [hl5]; rfl) (by omega) (by omega) hcs S_xs ge_xs_Z nle nle) rfl (hw _ (List.mem_of_getElem? (i := 5) rfl)) (hw _ (List.mem_of_getElem? (i := 6) rfl)) (hw _ (List.mem_of_getElem? (i := 7) rfl)) (argsL := [(.ref b)]) (rest := [(.ref xs)]) (by decide) pd_3 rfl rfl (Nat.le_of_eq rfl) rfl at_275 nle (by rw [hl5]; exact nle) (pc' := 278)
  obtain ⟨rfl, K2, T0⟩ := hq2
  replace w := w.to (g' := mkF m 278 #[.val (.int a1), .val (.int a2), .val (.int a3), .val (.int a4), .val (.int a5), .val (.int a6), .val (.int a7), .val (.int a8), .val (.int a9), .unset, .val (.ref b)] [(.ref xs)]) rfl
  have BZ := extK BZ K2 (allS ge_xs_Z all0)
  replace w := w.astore (pc' := 280) (L' := #[.val (.int a1), .val (.int a2), .val (.int a3), .val (.int a4), .val (.int a5), .val (.int a6), .val (.int a7), .val (.int a8), .val (.int a9), .val (.ref xs), .val (.ref b)]) at_278 rfl
  replace w := w.goto (pc' := 497) at_280
  exact tl497 l Z a0 hw hEL z0 Sc hz0 x1 x2 x3 vs n1 n2 n3 k En h2 a1 a2 a3 a4 a5 a6 a7 a8 a9 xs _ (One.val rfl) cs T0 (by omega) (w.more (by decide) (by omega))
set_option maxRecDepth 65536 in
theorem tl331 (l : Launch) (Z : State) (a0 : Array Value) (hw : ∀ d ∈ tables_1, d.before a0 Z = true) (hEL : EW Z a0 consts_1) (z0 : Int32) (Sc : Sta Z Z.heap "java/lang/String" "COMPACT_STRINGS" "Z" (.int z0)) (hz0 : ¬ z0 = 0) (x1 x2 x3 vs n1 n2 n3 : Addr) (k : ClassId) (En : Enum3 Z x1 x2 x3 vs n1 n2 n3 k) {p : Program} {e : Env} {s : State} {m : MethodId} {args : Array Value} {below : List Frame} {meth : Method} {c : Code} {S0 : State} {V : Vm}
    (h0 : Heap) (a1 a2 a3 a4 a5 a6 a7 a8 a9 : Int32) (b : Addr) (kb : ClassId) (dv : Value) (cs : List Int32) (hl5 : cs.length = 7) (hcs : ∀ c ∈ cs, ¬ c < 0 ∧ ¬ (255 : Int32) < c) (V_b : Arv Z h0 b kb .char 7 (cs.map Value.int) dv) (w : Wk p l e room_1 s m args below meth c Z a0 consts_1 S0 x code maxLocals ret V h0 1 7 (mkF m 331 #[.val (.int a1), .val (.int a2), .val (.int a3), .val (.int a4), .val (.int a5), .val (.int a6), .val (.int a7), .val (.int a8), .val (.int a9), .unset, .val (.ref b)] [])) :
    Fini p e below s Z consts_1 S0 32 7360 (fun v h => v = some (.int 1)) := by
  have hws := own_words hw
  have BZ := w.old
  obtain ⟨h1, xs, g_xs, E1, X_xs, D_xs, S_xs, A1, w⟩ := w.new (hw _ (List.mem_of_getElem? (i := 2) rfl)) (hw _ (List.mem_of_getElem? (i := 3) rfl)) (hw _ (List.mem_of_getElem? (i := 4) rfl)) at_331 nle nle (pc' := 334)
  have lt_xs : xs < h1.size := X_xs.lt
  have ge_xs_Z : Z.heap.size ≤ xs := Nat.le_trans BZ.1 (Nat.le_of_eq g_xs.symm)
  have F_xs_coder := D_xs (Or.inr (hw _ (List.mem_of_getElem? (i := 28) rfl))) (ty := .byte) (by decide)
  have F_xs_value := D_xs (Or.inr (hw _ (List.mem_of_getElem? (i := 30) rfl))) (ty := (.array .byte)) (by decide)
  have BZ := extT BZ E1
  replace w := w.dup (pc' := 335) at_334
  replace w := w.aload (pc' := 337) at_335 rfl
  obtain ⟨v2, V2, h2, hq2, A2, w⟩ := w.ctor (y' := (⟨"java/lang/String", "<init>", "([C)V"⟩ : MethodName)) (W := 1) (a := xs) (w.payNew (W := 1) (cs := cs) hws (hw _ (List.mem_of_getElem? (i := 3) rfl)) X_xs F_xs_value F_xs_coder (V_b.ext E1) Sc hz0 (by rw [hl5]; rfl) (by omega) (by omega) hcs S_xs ge_xs_Z nle nle) rfl (hw _ (List.mem_of_getElem? (i := 5) rfl)) (hw _ (List.mem_of_getElem? (i := 6) rfl)) (hw _ (List.mem_of_getElem? (i := 7) rfl)) (argsL := [(.ref b)]) (rest := [(.ref xs)]) (by decide) pd_3 rfl rfl (Nat.le_of_eq rfl) rfl at_337 nle (by rw [hl5]; exact nle) (pc' := 340)
  obtain ⟨rfl, K2, T0⟩ := hq2
  replace w := w.to (g' := mkF m 340 #[.val (.int a1), .val (.int a2), .val (.int a3), .val (.int a4), .val (.int a5), .val (.int a6), .val (.int a7), .val (.int a8), .val (.int a9), .unset, .val (.ref b)] [(.ref xs)]) rfl
  have BZ := extK BZ K2 (allS ge_xs_Z all0)
  replace w := w.astore (pc' := 342) (L' := #[.val (.int a1), .val (.int a2), .val (.int a3), .val (.int a4), .val (.int a5), .val (.int a6), .val (.int a7), .val (.int a8), .val (.int a9), .val (.ref xs), .val (.ref b)]) at_340 rfl
  replace w := w.goto (pc' := 497) at_342
  exact tl497 l Z a0 hw hEL z0 Sc hz0 x1 x2 x3 vs n1 n2 n3 k En h2 a1 a2 a3 a4 a5 a6 a7 a8 a9 xs _ (One.val rfl) cs T0 (by omega) (w.more (by decide) (by omega))
set_option maxRecDepth 65536 in
theorem tl376 (l : Launch) (Z : State) (a0 : Array Value) (hw : ∀ d ∈ tables_1, d.before a0 Z = true) (hEL : EW Z a0 consts_1) (z0 : Int32) (Sc : Sta Z Z.heap "java/lang/String" "COMPACT_STRINGS" "Z" (.int z0)) (hz0 : ¬ z0 = 0) (x1 x2 x3 vs n1 n2 n3 : Addr) (k : ClassId) (En : Enum3 Z x1 x2 x3 vs n1 n2 n3 k) {p : Program} {e : Env} {s : State} {m : MethodId} {args : Array Value} {below : List Frame} {meth : Method} {c : Code} {S0 : State} {V : Vm}
    (h0 : Heap) (a1 a2 a3 a4 a5 a6 a7 a8 a9 : Int32) (b : Addr) (kb : ClassId) (dv : Value) (cs : List Int32) (hl5 : cs.length = 4) (hcs : ∀ c ∈ cs, ¬ c < 0 ∧ ¬ (255 : Int32) < c) (V_b : Arv Z h0 b kb .char 4 (cs.map Value.int) dv) (w : Wk p l e room_1 s m args below meth c Z a0 consts_1 S0 x code maxLocals ret V h0 1 4 (mkF m 376 #[.val (.int a1), .val (.int a2), .val (.int a3), .val (.int a4), .val (.int a5), .val (.int a6), .val (.int a7), .val (.int a8), .val (.int a9), .unset, .val (.ref b)] [])) :
    Fini p e below s Z consts_1 S0 32 7360 (fun v h => v = some (.int 1)) := by
  have hws := own_words hw
  have BZ := w.old
  obtain ⟨h1, xs, g_xs, E1, X_xs, D_xs, S_xs, A1, w⟩ := w.new (hw _ (List.mem_of_getElem? (i := 2) rfl)) (hw _ (List.mem_of_getElem? (i := 3) rfl)) (hw _ (List.mem_of_getElem? (i := 4) rfl)) at_376 nle nle (pc' := 379)
  have lt_xs : xs < h1.size := X_xs.lt
  have ge_xs_Z : Z.heap.size ≤ xs := Nat.le_trans BZ.1 (Nat.le_of_eq g_xs.symm)
  have F_xs_coder := D_xs (Or.inr (hw _ (List.mem_of_getElem? (i := 28) rfl))) (ty := .byte) (by decide)
  have F_xs_value := D_xs (Or.inr (hw _ (List.mem_of_getElem? (i := 30) rfl))) (ty := (.array .byte)) (by decide)
  have BZ := extT BZ E1
  replace w := w.dup (pc' := 380) at_379
  replace w := w.aload (pc' := 382) at_380 rfl
  obtain ⟨v2, V2, h2, hq2, A2, w⟩ := w.ctor (y' := (⟨"java/lang/String", "<init>", "([C)V"⟩ : MethodName)) (W := 1) (a := xs) (w.payNew (W := 1) (cs := cs) hws (hw _ (List.mem_of_getElem? (i := 3) rfl)) X_xs F_xs_value F_xs_coder (V_b.ext E1) Sc hz0 (by rw [hl5]; rfl) (by omega) (by omega) hcs S_xs ge_xs_Z nle nle) rfl (hw _ (List.mem_of_getElem? (i := 5) rfl)) (hw _ (List.mem_of_getElem? (i := 6) rfl)) (hw _ (List.mem_of_getElem? (i := 7) rfl)) (argsL := [(.ref b)]) (rest := [(.ref xs)]) (by decide) pd_3 rfl rfl (Nat.le_of_eq rfl) rfl at_382 nle (by rw [hl5]; exact nle) (pc' := 385)
  obtain ⟨rfl, K2, T0⟩ := hq2
  replace w := w.to (g' := mkF m 385 #[.val (.int a1), .val (.int a2), .val (.int a3), .val (.int a4), .val (.int a5), .val (.int a6), .val (.int a7), .val (.int a8), .val (.int a9), .unset, .val (.ref b)] [(.ref xs)]) rfl
  have BZ := extK BZ K2 (allS ge_xs_Z all0)
  replace w := w.astore (pc' := 387) (L' := #[.val (.int a1), .val (.int a2), .val (.int a3), .val (.int a4), .val (.int a5), .val (.int a6), .val (.int a7), .val (.int a8), .val (.int a9), .val (.ref xs), .val (.ref b)]) at_385 rfl
  replace w := w.goto (pc' := 497) at_387
  exact tl497 l Z a0 hw hEL z0 Sc hz0 x1 x2 x3 vs n1 n2 n3 k En h2 a1 a2 a3 a4 a5 a6 a7 a8 a9 xs _ (One.val rfl) cs T0 (by omega) (w.more (by decide) (by omega))
set_option maxRecDepth 65536 in
theorem tl486 (l : Launch) (Z : State) (a0 : Array Value) (hw : ∀ d ∈ tables_1, d.before a0 Z = true) (hEL : EW Z a0 consts_1) (z0 : Int32) (Sc : Sta Z Z.heap "java/lang/String" "COMPACT_STRINGS" "Z" (.int z0)) (hz0 : ¬ z0 = 0) (x1 x2 x3 vs n1 n2 n3 : Addr) (k : ClassId) (En : Enum3 Z x1 x2 x3 vs n1 n2 n3 k) {p : Program} {e : Env} {s : State} {m : MethodId} {args : Array Value} {below : List Frame} {meth : Method} {c : Code} {S0 : State} {V : Vm}
    (h0 : Heap) (a1 a2 a3 a4 a5 a6 a7 a8 a9 : Int32) (b : Addr) (kb : ClassId) (dv : Value) (cs : List Int32) (hl5 : cs.length = 3) (hcs : ∀ c ∈ cs, ¬ c < 0 ∧ ¬ (255 : Int32) < c) (V_b : Arv Z h0 b kb .char 3 (cs.map Value.int) dv) (w : Wk p l e room_1 s m args below meth c Z a0 consts_1 S0 x code maxLocals ret V h0 1 3 (mkF m 486 #[.val (.int a1), .val (.int a2), .val (.int a3), .val (.int a4), .val (.int a5), .val (.int a6), .val (.int a7), .val (.int a8), .val (.int a9), .unset, .val (.ref b)] [])) :
    Fini p e below s Z consts_1 S0 32 7360 (fun v h => v = some (.int 1)) := by
  have hws := own_words hw
  have BZ := w.old
  obtain ⟨h1, xs, g_xs, E1, X_xs, D_xs, S_xs, A1, w⟩ := w.new (hw _ (List.mem_of_getElem? (i := 2) rfl)) (hw _ (List.mem_of_getElem? (i := 3) rfl)) (hw _ (List.mem_of_getElem? (i := 4) rfl)) at_486 nle nle (pc' := 489)
  have lt_xs : xs < h1.size := X_xs.lt
  have ge_xs_Z : Z.heap.size ≤ xs := Nat.le_trans BZ.1 (Nat.le_of_eq g_xs.symm)
  have F_xs_coder := D_xs (Or.inr (hw _ (List.mem_of_getElem? (i := 28) rfl))) (ty := .byte) (by decide)
  have F_xs_value := D_xs (Or.inr (hw _ (List.mem_of_getElem? (i := 30) rfl))) (ty := (.array .byte)) (by decide)
  have BZ := extT BZ E1
  replace w := w.dup (pc' := 490) at_489
  replace w := w.aload (pc' := 492) at_490 rfl
  obtain ⟨v2, V2, h2, hq2, A2, w⟩ := w.ctor (y' := (⟨"java/lang/String", "<init>", "([C)V"⟩ : MethodName)) (W := 1) (a := xs) (w.payNew (W := 1) (cs := cs) hws (hw _ (List.mem_of_getElem? (i := 3) rfl)) X_xs F_xs_value F_xs_coder (V_b.ext E1) Sc hz0 (by rw [hl5]; rfl) (by omega) (by omega) hcs S_xs ge_xs_Z nle nle) rfl (hw _ (List.mem_of_getElem? (i := 5) rfl)) (hw _ (List.mem_of_getElem? (i := 6) rfl)) (hw _ (List.mem_of_getElem? (i := 7) rfl)) (argsL := [(.ref b)]) (rest := [(.ref xs)]) (by decide) pd_3 rfl rfl (Nat.le_of_eq rfl) rfl at_492 nle (by rw [hl5]; exact nle) (pc' := 495)
  obtain ⟨rfl, K2, T0⟩ := hq2
  replace w := w.to (g' := mkF m 495 #[.val (.int a1), .val (.int a2), .val (.int a3), .val (.int a4), .val (.int a5), .val (.int a6), .val (.int a7), .val (.int a8), .val (.int a9), .unset, .val (.ref b)] [(.ref xs)]) rfl
  have BZ := extK BZ K2 (allS ge_xs_Z all0)
  replace w := w.astore (pc' := 497) (L' := #[.val (.int a1), .val (.int a2), .val (.int a3), .val (.int a4), .val (.int a5), .val (.int a6), .val (.int a7), .val (.int a8), .val (.int a9), .val (.ref xs), .val (.ref b)]) at_495 rfl
  exact tl497 l Z a0 hw hEL z0 Sc hz0 x1 x2 x3 vs n1 n2 n3 k En h2 a1 a2 a3 a4 a5 a6 a7 a8 a9 xs _ (One.val rfl) cs T0 (by omega) (w.more (by decide) (by omega))
theorem own_idx (x y : Int32) (hy : 0 < y.toInt) : ¬ ((x &&& 2147483647) % y) < 0 ∧ ((x &&& 2147483647) % y) < y := by
  have h := (c_and x 2147483647 (by decide)).1
  have h2 := (c_iremV (x &&& 2147483647) y).1 h hy
  have e0 : (0 : Int32).toInt = 0 := by decide
  rw [Int32.lt_iff_toInt_lt, Int32.lt_iff_toInt_lt]; omega
theorem own_nat {j y : Int32} (h : ¬ j < 0 ∧ j < y) {n : Nat} (hy : y.toInt = n) : j.toNatClampNeg < n := by
  have h1 := nat_of h.1
  have h2 := h.2
  rw [Int32.lt_iff_toInt_lt] at h2
  omega
theorem own_set {cs : List Int32} (i : Nat) {a : Int32} (h : ¬ a < 0 ∧ ¬ (255 : Int32) < a) (r : ∀ c ∈ cs, ¬ c < 0 ∧ ¬ (255 : Int32) < c) : ∀ c ∈ cs.set i a, ¬ c < 0 ∧ ¬ (255 : Int32) < c := fun c hc => by
  rcases List.mem_or_eq_of_mem_set hc with q | q
  · exact r c q
  · exact q ▸ h
/-! the law from pc 34 on -/
set_option maxRecDepth 65536 in
theorem hd34 (l : Launch) (Z : State) (a0 : Array Value) (hw : ∀ d ∈ tables_1, d.before a0 Z = true) (hEL : EW Z a0 consts_1) (z0 : Int32) (Sc : Sta Z Z.heap "java/lang/String" "COMPACT_STRINGS" "Z" (.int z0)) (hz0 : ¬ z0 = 0) (x1 x2 x3 vs n1 n2 n3 : Addr) (k : ClassId) (En : Enum3 Z x1 x2 x3 vs n1 n2 n3 k) {p : Program} {e : Env} {s : State} {m : MethodId} {args : Array Value} {below : List Frame} {meth : Method} {c : Code} {S0 : State} {V : Vm}
    (h0 : Heap) (a1 a2 a3 a4 a5 kk mu c0 : Int32) (r0 : ¬ c0 < 0 ∧ ¬ (255 : Int32) < c0) (n0 : nar .char c0 = c0) (w : Wk p l e room_1 s m args below meth c Z a0 consts_1 S0 x code maxLocals ret V h0 0 0 (mkF m 34 #[.val (.int a1), .val (.int a2), .val (.int a3), .val (.int a4), .val (.int a5), .val (.int kk), .val (.int mu), .val (.int c0), .val (.int (a2 &&& 2147483647)), .unset, .unset] [])) :
    Fini p e below s Z consts_1 S0 32 7360 (fun v h => v = some (.int 1)) := by
  have hstr := own_hstr hw
  have BZ := w.old
  replace w := w.iload (pc' := 36) at_34 rfl
  by_cases q0 : kk = 0
  ·
    replace w := w.ifNo (pc' := 39) at_36 ((if0 _ _).trans (teq q0).2)
    replace w := w.bipush (pc' := 41) (6 : Int32) at_39
    obtain ⟨h1, b, k_b, g_b, E1, V_b, S_b, A1, w⟩ := w.newarr (cap := 6) (hw _ (List.mem_of_getElem? (i := 1) rfl)) at_41 (by decide) (by decide) nle nle (pc' := 43)
    have lt_b : b < h1.size := V_b.lt
    have ge_b_Z : Z.heap.size ≤ b := Nat.le_trans BZ.1 (Nat.le_of_eq g_b.symm)
    have BZ := extT BZ E1
    replace V_b := V_b.pad (vs' := [(.int (0 : Int32)), (.int (0 : Int32)), (.int (0 : Int32)), (.int (0 : Int32)), (.int (0 : Int32)), (.int (0 : Int32))]) (pad_rep [] _ 6)
    replace w := w.dup (pc' := 44) at_43
    replace w := w.iconst (pc' := 45) (0 : Int32) at_44
    replace w := w.bipush (pc' := 47) (98 : Int32) at_45
    obtain ⟨h2, K2, V_b, A2, w⟩ := w.castore (x' := (98 : Int32)) V_b at_47 ⟨by decide, by decide⟩ (by decide) 0 rfl nle ge_b_Z (pc' := 48)
    replace V_b := V_b.pad (vs' := [(.int (98 : Int32)), (.int (0 : Int32)), (.int (0 : Int32)), (.int (0 : Int32)), (.int (0 : Int32)), (.int (0 : Int32))]) (fun _ => rfl)
    have BZ := extK BZ K2 (allS ge_b_Z all0)
    replace w := w.dup (pc' := 49) at_48
    replace w := w.iconst (pc' := 50) (1 : Int32) at_49
    replace w := w.bipush (pc' := 52) (97 : Int32) at_50
    obtain ⟨h3, K3, V_b, A3, w⟩ := w.castore (x' := (97 : Int32)) V_b at_52 ⟨by decide, by decide⟩ (by decide) 1 rfl nle ge_b_Z (pc' := 53)
    replace V_b := V_b.pad (vs' := [(.int (98 : Int32)), (.int (97 : Int32)), (.int (0 : Int32)), (.int (0 : Int32)), (.int (0 : Int32)), (.int (0 : Int32))]) (fun _ => rfl)
    have BZ := extK BZ K3 (allS ge_b_Z all0)
    replace w := w.dup (pc' := 54) at_53
    replace w := w.iconst (pc' := 55) (2 : Int32) at_54
    replace w := w.bipush (pc' := 57) (115 : Int32) at_55
    obtain ⟨h4, K4, V_b, A4, w⟩ := w.castore (x' := (115 : Int32)) V_b at_57 ⟨by decide, by decide⟩ (by decide) 2 rfl nle ge_b_Z (pc' := 58)
    replace V_b := V_b.pad (vs' := [(.int (98 : Int32)), (.int (97 : Int32)), (.int (115 : Int32)), (.int (0 : Int32)), (.int (0 : Int32)), (.int (0 : Int32))]) (fun _ => rfl)
    have BZ := extK BZ K4 (allS ge_b_Z all0)
    replace w := w.dup (pc' := 59) at_58
    replace w := w.iconst (pc' := 60) (3 : Int32) at_59
    replace w := w.bipush (pc' := 62) (101 : Int32) at_60
    obtain ⟨h5, K5, V_b, A5, w⟩ := w.castore (x' := (101 : Int32)) V_b at_62 ⟨by decide, by decide⟩ (by decide) 3 rfl nle ge_b_Z (pc' := 63)
    replace V_b := V_b.pad (vs' := [(.int (98 : Int32)), (.int (97 : Int32)), (.int (115 : Int32)), (.int (101 : Int32)), (.int (0 : Int32)), (.int (0 : Int32))]) (fun _ => rfl)
    have BZ := extK BZ K5 (allS ge_b_Z all0)
    replace w := w.dup (pc' := 64) at_63
    replace w := w.iconst (pc' := 65) (4 : Int32) at_64
    replace w := w.bipush (pc' := 67) (54 : Int32) at_65
    obtain ⟨h6, K6, V_b, A6, w⟩ := w.castore (x' := (54 : Int32)) V_b at_67 ⟨by decide, by decide⟩ (by decide) 4 rfl nle ge_b_Z (pc' := 68)
    replace V_b := V_b.pad (vs' := [(.int (98 : Int32)), (.int (97 : Int32)), (.int (115 : Int32)), (.int (101 : Int32)), (.int (54 : Int32)), (.int (0 : Int32))]) (fun _ => rfl)
    have BZ := extK BZ K6 (allS ge_b_Z all0)
    replace w := w.dup (pc' := 69) at_68
    replace w := w.iconst (pc' := 70) (5 : Int32) at_69
    replace w := w.bipush (pc' := 72) (52 : Int32) at_70
    obtain ⟨h7, K7, V_b, A7, w⟩ := w.castore (x' := (52 : Int32)) V_b at_72 ⟨by decide, by decide⟩ (by decide) 5 rfl nle ge_b_Z (pc' := 73)
    replace V_b := V_b.pad (vs' := [(.int (98 : Int32)), (.int (97 : Int32)), (.int (115 : Int32)), (.int (101 : Int32)), (.int (54 : Int32)), (.int (52 : Int32))]) (fun _ => rfl)
    have BZ := extK BZ K7 (allS ge_b_Z all0)
    replace w := w.astore (pc' := 75) (L' := #[.val (.int a1), .val (.int a2), .val (.int a3), .val (.int a4), .val (.int a5), .val (.int kk), .val (.int mu), .val (.int c0), .val (.int (a2 &&& (2147483647 : Int32))), .unset, .val (.ref b)]) at_73 rfl
    replace w := w.iload (pc' := 77) at_75 rfl
    by_cases qm : mu = 0
    ·
      replace w := w.ifYes (pc' := 90) at_77 ((if0 _ _).trans (teq qm).1)
      exact tl90 l Z a0 hw hEL z0 Sc hz0 x1 x2 x3 vs n1 n2 n3 k En _ _ _ _ _ _ _ _ _ _ b k_b _ [98, 97, 115, 101, 54, 52] rfl (by decide) V_b w
    replace w := w.ifNo (pc' := 80) at_77 ((if0 _ _).trans (feq qm).1)
    replace w := w.aload (pc' := 82) at_80 rfl
    replace w := w.iload (pc' := 84) at_82 rfl
    replace w := w.bipush (pc' := 86) (6 : Int32) at_84
    replace w := w.irem (pc' := 87) at_86 (by decide)
    replace w := w.iload (pc' := 89) at_87 rfl
    have hj := own_idx a2 6 (by decide)
    obtain ⟨h99, K99, V99, A99, w⟩ := w.castore (x' := c0) V_b at_89 hj n0 _ rfl (own_nat hj rfl) ge_b_Z (pc' := 90)
    exact tl90 l Z a0 hw hEL z0 Sc hz0 x1 x2 x3 vs n1 n2 n3 k En _ _ _ _ _ _ _ _ _ _ b k_b _ (([98, 97, 115, 101, 54, 52] : List Int32).set _ c0) (by simp) (own_set _ r0 (by decide)) (by rw [List.map_set]; exact V99) w
  replace w := w.ifYes (pc' := 104) at_36 ((if0 _ _).trans (feq q0).2)
  replace w := w.iload (pc' := 106) at_104 rfl
  replace w := w.iconst (pc' := 107) (1 : Int32) at_106
  by_cases q1 : kk = 1
  ·
    replace w := w.icmpNo (pc' := 110) at_107 ((teq q1).2)
    replace w := w.bipush (pc' := 112) (15 : Int32) at_110
    obtain ⟨h8, b, k_b, g_b, E8, V_b, S_b, A8, w⟩ := w.newarr (cap := 15) (hw _ (List.mem_of_getElem? (i := 1) rfl)) at_112 (by decide) (by decide) nle nle (pc' := 114)
    have lt_b : b < h8.size := V_b.lt
    have ge_b_Z : Z.heap.size ≤ b := Nat.le_trans BZ.1 (Nat.le_of_eq g_b.symm)
    have BZ := extT BZ E8
    replace V_b := V_b.pad (vs' := [(.int (0 : Int32)), (.int (0 : Int32)), (.int (0 : Int32)), (.int (0 : Int32)), (.int (0 : Int32)), (.int (0 : Int32)), (.int (0 : Int32)), (.int (0 : Int32)), (.int (0 : Int32)), (.int (0 : Int32)), (.int (0 : Int32)), (.int (0 : Int32)), (.int (0 : Int32)), (.int (0 : Int32)), (.int (0 : Int32))]) (pad_rep [] _ 15)
    replace w := w.dup (pc' := 115) at_114
    replace w := w.iconst (pc' := 116) (0 : Int32) at_115
    replace w := w.bipush (pc' := 118) (98 : Int32) at_116
    obtain ⟨h9, K9, V_b, A9, w⟩ := w.castore (x' := (98 : Int32)) V_b at_118 ⟨by decide, by decide⟩ (by decide) 0 rfl nle ge_b_Z (pc' := 119)
    replace V_b := V_b.pad (vs' := [(.int (98 : Int32)), (.int (0 : Int32)), (.int (0 : Int32)), (.int (0 : Int32)), (.int (0 : Int32)), (.int (0 : Int32)), (.int (0 : Int32)), (.int (0 : Int32)), (.int (0 : Int32)), (.int (0 : Int32)), (.int (0 : Int32)), (.int (0 : Int32)), (.int (0 : Int32)), (.int (0 : Int32)), (.int (0 : Int32))]) (fun _ => rfl)
    have BZ := extK BZ K9 (allS ge_b_Z all0)
    replace w := w.dup (pc' := 120) at_119
    replace w := w.iconst (pc' := 121) (1 : Int32) at_120
    replace w := w.bipush (pc' := 123) (97 : Int32) at_121
    obtain ⟨h10, K10, V_b, A10, w⟩ := w.castore (x' := (97 : Int32)) V_b at_123 ⟨by decide, by decide⟩ (by decide) 1 rfl nle ge_b_Z (pc' := 124)
    replace V_b := V_b.pad (vs' := [(.int (98 : Int32)), (.int (97 : Int32)), (.int (0 : Int32)), (.int (0 : Int32)), (.int (0 : Int32)), (.int (0 : Int32)), (.int (0 : Int32)), (.int (0 : Int32)), (.int (0 : Int32)), (.int (0 : Int32)), (.int (0 : Int32)), (.int (0 : Int32)), (.int (0 : Int32)), (.int (0 : Int32)), (.int (0 : Int32))]) (fun _ => rfl)
    have BZ := extK BZ K10 (allS ge_b_Z all0)
    replace w := w.dup (pc' := 125) at_124
    replace w := w.iconst (pc' := 126) (2 : Int32) at_125
    replace w := w.bipush (pc' := 128) (115 : Int32) at_126
    obtain ⟨h11, K11, V_b, A11, w⟩ := w.castore (x' := (115 : Int32)) V_b at_128 ⟨by decide, by decide⟩ (by decide) 2 rfl nle ge_b_Z (pc' := 129)
    replace V_b := V_b.pad (vs' := [(.int (98 : Int32)), (.int (97 : Int32)), (.int (115 : Int32)), (.int (0 : Int32)), (.int (0 : Int32)), (.int (0 : Int32)), (.int (0 : Int32)), (.int (0 : Int32)), (.int (0 : Int32)), (.int (0 : Int32)), (.int (0 : Int32)), (.int (0 : Int32)), (.int (0 : Int32)), (.int (0 : Int32)), (.int (0 : Int32))]) (fun _ => rfl)
    have BZ := extK BZ K11 (allS ge_b_Z all0)
    replace w := w.dup (pc' := 130) at_129
    replace w := w.iconst (pc' := 131) (3 : Int32) at_130
    replace w := w.bipush (pc' := 133) (101 : Int32) at_131
    obtain ⟨h12, K12, V_b, A12, w⟩ := w.castore (x' := (101 : Int32)) V_b at_133 ⟨by decide, by decide⟩ (by decide) 3 rfl nle ge_b_Z (pc' := 134)
    replace V_b := V_b.pad (vs' := [(.int (98 : Int32)), (.int (97 : Int32)), (.int (115 : Int32)), (.int (101 : Int32)), (.int (0 : Int32)), (.int (0 : Int32)), (.int (0 : Int32)), (.int (0 : Int32)), (.int (0 : Int32)), (.int (0 : Int32)), (.int (0 : Int32)), (.int (0 : Int32)), (.int (0 : Int32)), (.int (0 : Int32)), (.int (0 : Int32))]) (fun _ => rfl)
    have BZ := extK BZ K12 (allS ge_b_Z all0)
    replace w := w.dup (pc' := 135) at_134
    replace w := w.iconst (pc' := 136) (4 : Int32) at_135
    replace w := w.bipush (pc' := 138) (54 : Int32) at_136
    obtain ⟨h13, K13, V_b, A13, w⟩ := w.castore (x' := (54 : Int32)) V_b at_138 ⟨by decide, by decide⟩ (by decide) 4 rfl nle ge_b_Z (pc' := 139)
    replace V_b := V_b.pad (vs' := [(.int (98 : Int32)), (.int (97 : Int32)), (.int (115 : Int32)), (.int (101 : Int32)), (.int (54 : Int32)), (.int (0 : Int32)), (.int (0 : Int32)), (.int (0 : Int32)), (.int (0 : Int32)), (.int (0 : Int32)), (.int (0 : Int32)), (.int (0 : Int32)), (.int (0 : Int32)), (.int (0 : Int32)), (.int (0 : Int32))]) (fun _ => rfl)
    have BZ := extK BZ K13 (allS ge_b_Z all0)
    replace w := w.dup (pc' := 140) at_139
    replace w := w.iconst (pc' := 141) (5 : Int32) at_140
    replace w := w.bipush (pc' := 143) (52 : Int32) at_141
    obtain ⟨h14, K14, V_b, A14, w⟩ := w.castore (x' := (52 : Int32)) V_b at_143 ⟨by decide, by decide⟩ (by decide) 5 rfl nle ge_b_Z (pc' := 144)
    replace V_b := V_b.pad (vs' := [(.int (98 : Int32)), (.int (97 : Int32)), (.int (115 : Int32)), (.int (101 : Int32)), (.int (54 : Int32)), (.int (52 : Int32)), (.int (0 : Int32)), (.int (0 : Int32)), (.int (0 : Int32)), (.int (0 : Int32)), (.int (0 : Int32)), (.int (0 : Int32)), (.int (0 : Int32)), (.int (0 : Int32)), (.int (0 : Int32))]) (fun _ => rfl)
    have BZ := extK BZ K14 (allS ge_b_Z all0)
    replace w := w.dup (pc' := 145) at_144
    replace w := w.bipush (pc' := 147) (6 : Int32) at_145
    replace w := w.bipush (pc' := 149) (45 : Int32) at_147
    obtain ⟨h15, K15, V_b, A15, w⟩ := w.castore (x' := (45 : Int32)) V_b at_149 ⟨by decide, by decide⟩ (by decide) 6 rfl nle ge_b_Z (pc' := 150)
    replace V_b := V_b.pad (vs' := [(.int (98 : Int32)), (.int (97 : Int32)), (.int (115 : Int32)), (.int (101 : Int32)), (.int (54 : Int32)), (.int (52 : Int32)), (.int (45 : Int32)), (.int (0 : Int32)), (.int (0 : Int32)), (.int (0 : Int32)), (.int (0 : Int32)), (.int (0 : Int32)), (.int (0 : Int32)), (.int (0 : Int32)), (.int (0 : Int32))]) (fun _ => rfl)
    have BZ := extK BZ K15 (allS ge_b_Z all0)
    replace w := w.dup (pc' := 151) at_150
    replace w := w.bipush (pc' := 153) (7 : Int32) at_151
    replace w := w.bipush (pc' := 155) (117 : Int32) at_153
    obtain ⟨h16, K16, V_b, A16, w⟩ := w.castore (x' := (117 : Int32)) V_b at_155 ⟨by decide, by decide⟩ (by decide) 7 rfl nle ge_b_Z (pc' := 156)
    replace V_b := V_b.pad (vs' := [(.int (98 : Int32)), (.int (97 : Int32)), (.int (115 : Int32)), (.int (101 : Int32)), (.int (54 : Int32)), (.int (52 : Int32)), (.int (45 : Int32)), (.int (117 : Int32)), (.int (0 : Int32)), (.int (0 : Int32)), (.int (0 : Int32)), (.int (0 : Int32)), (.int (0 : Int32)), (.int (0 : Int32)), (.int (0 : Int32))]) (fun _ => rfl)
    have BZ := extK BZ K16 (allS ge_b_Z all0)
    replace w := w.dup (pc' := 157) at_156
    replace w := w.bipush (pc' := 159) (8 : Int32) at_157
    replace w := w.bipush (pc' := 161) (110 : Int32) at_159
    obtain ⟨h17, K17, V_b, A17, w⟩ := w.castore (x' := (110 : Int32)) V_b at_161 ⟨by decide, by decide⟩ (by decide) 8 rfl nle ge_b_Z (pc' := 162)
    replace V_b := V_b.pad (vs' := [(.int (98 : Int32)), (.int (97 : Int32)), (.int (115 : Int32)), (.int (101 : Int32)), (.int (54 : Int32)), (.int (52 : Int32)), (.int (45 : Int32)), (.int (117 : Int32)), (.int (110 : Int32)), (.int (0 : Int32)), (.int (0 : Int32)), (.int (0 : Int32)), (.int (0 : Int32)), (.int (0 : Int32)), (.int (0 : Int32))]) (fun _ => rfl)
    have BZ := extK BZ K17 (allS ge_b_Z all0)
    replace w := w.dup (pc' := 163) at_162
    replace w := w.bipush (pc' := 165) (9 : Int32) at_163
    replace w := w.bipush (pc' := 167) (112 : Int32) at_165
    obtain ⟨h18, K18, V_b, A18, w⟩ := w.castore (x' := (112 : Int32)) V_b at_167 ⟨by decide, by decide⟩ (by decide) 9 rfl nle ge_b_Z (pc' := 168)
    replace V_b := V_b.pad (vs' := [(.int (98 : Int32)), (.int (97 : Int32)), (.int (115 : Int32)), (.int (101 : Int32)), (.int (54 : Int32)), (.int (52 : Int32)), (.int (45 : Int32)), (.int (117 : Int32)), (.int (110 : Int32)), (.int (112 : Int32)), (.int (0 : Int32)), (.int (0 : Int32)), (.int (0 : Int32)), (.int (0 : Int32)), (.int (0 : Int32))]) (fun _ => rfl)
    have BZ := extK BZ K18 (allS ge_b_Z all0)
    replace w := w.dup (pc' := 169) at_168
    replace w := w.bipush (pc' := 171) (10 : Int32) at_169
    replace w := w.bipush (pc' := 173) (97 : Int32) at_171
    obtain ⟨h19, K19, V_b, A19, w⟩ := w.castore (x' := (97 : Int32)) V_b at_173 ⟨by decide, by decide⟩ (by decide) 10 rfl nle ge_b_Z (pc' := 174)
    replace V_b := V_b.pad (vs' := [(.int (98 : Int32)), (.int (97 : Int32)), (.int (115 : Int32)), (.int (101 : Int32)), (.int (54 : Int32)), (.int (52 : Int32)), (.int (45 : Int32)), (.int (117 : Int32)), (.int (110 : Int32)), (.int (112 : Int32)), (.int (97 : Int32)), (.int (0 : Int32)), (.int (0 : Int32)), (.int (0 : Int32)), (.int (0 : Int32))]) (fun _ => rfl)
    have BZ := extK BZ K19 (allS ge_b_Z all0)
    replace w := w.dup (pc' := 175) at_174
    replace w := w.bipush (pc' := 177) (11 : Int32) at_175
    replace w := w.bipush (pc' := 179) (100 : Int32) at_177
    obtain ⟨h20, K20, V_b, A20, w⟩ := w.castore (x' := (100 : Int32)) V_b at_179 ⟨by decide, by decide⟩ (by decide) 11 rfl nle ge_b_Z (pc' := 180)
    replace V_b := V_b.pad (vs' := [(.int (98 : Int32)), (.int (97 : Int32)), (.int (115 : Int32)), (.int (101 : Int32)), (.int (54 : Int32)), (.int (52 : Int32)), (.int (45 : Int32)), (.int (117 : Int32)), (.int (110 : Int32)), (.int (112 : Int32)), (.int (97 : Int32)), (.int (100 : Int32)), (.int (0 : Int32)), (.int (0 : Int32)), (.int (0 : Int32))]) (fun _ => rfl)
    have BZ := extK BZ K20 (allS ge_b_Z all0)
    replace w := w.dup (pc' := 181) at_180
    replace w := w.bipush (pc' := 183) (12 : Int32) at_181
    replace w := w.bipush (pc' := 185) (100 : Int32) at_183
    obtain ⟨h21, K21, V_b, A21, w⟩ := w.castore (x' := (100 : Int32)) V_b at_185 ⟨by decide, by decide⟩ (by decide) 12 rfl nle ge_b_Z (pc' := 186)
    replace V_b := V_b.pad (vs' := [(.int (98 : Int32)), (.int (97 : Int32)), (.int (115 : Int32)), (.int (101 : Int32)), (.int (54 : Int32)), (.int (52 : Int32)), (.int (45 : Int32)), (.int (117 : Int32)), (.int (110 : Int32)), (.int (112 : Int32)), (.int (97 : Int32)), (.int (100 : Int32)), (.int (100 : Int32)), (.int (0 : Int32)), (.int (0 : Int32))]) (fun _ => rfl)
    have BZ := extK BZ K21 (allS ge_b_Z all0)
    replace w := w.dup (pc' := 187) at_186
    replace w := w.bipush (pc' := 189) (13 : Int32) at_187
    replace w := w.bipush (pc' := 191) (101 : Int32) at_189
    obtain ⟨h22, K22, V_b, A22, w⟩ := w.castore (x' := (101 : Int32)) V_b at_191 ⟨by decide, by decide⟩ (by decide) 13 rfl nle ge_b_Z (pc' := 192)
    replace V_b := V_b.pad (vs' := [(.int (98 : Int32)), (.int (97 : Int32)), (.int (115 : Int32)), (.int (101 : Int32)), (.int (54 : Int32)), (.int (52 : Int32)), (.int (45 : Int32)), (.int (117 : Int32)), (.int (110 : Int32)), (.int (112 : Int32)), (.int (97 : Int32)), (.int (100 : Int32)), (.int (100 : Int32)), (.int (101 : Int32)), (.int (0 : Int32))]) (fun _ => rfl)
    have BZ := extK BZ K22 (allS ge_b_Z all0)
    replace w := w.dup (pc' := 193) at_192
    replace w := w.bipush (pc' := 195) (14 : Int32) at_193
    replace w := w.bipush (pc' := 197) (100 : Int32) at_195
    obtain ⟨h23, K23, V_b, A23, w⟩ := w.castore (x' := (100 : Int32)) V_b at_197 ⟨by decide, by decide⟩ (by decide) 14 rfl nle ge_b_Z (pc' := 198)
    replace V_b := V_b.pad (vs' := [(.int (98 : Int32)), (.int (97 : Int32)), (.int (115 : Int32)), (.int (101 : Int32)), (.int (54 : Int32)), (.int (52 : Int32)), (.int (45 : Int32)), (.int (117 : Int32)), (.int (110 : Int32)), (.int (112 : Int32)), (.int (97 : Int32)), (.int (100 : Int32)), (.int (100 : Int32)), (.int (101 : Int32)), (.int (100 : Int32))]) (fun _ => rfl)
    have BZ := extK BZ K23 (allS ge_b_Z all0)
    replace w := w.astore (pc' := 200) (L' := #[.val (.int a1), .val (.int a2), .val (.int a3), .val (.int a4), .val (.int a5), .val (.int kk), .val (.int mu), .val (.int c0), .val (.int (a2 &&& (2147483647 : Int32))), .unset, .val (.ref b)]) at_198 rfl
    replace w := w.iload (pc' := 202) at_200 rfl
    by_cases qm : mu = 0
    ·
      replace w := w.ifYes (pc' := 215) at_202 ((if0 _ _).trans (teq qm).1)
      exact tl215 l Z a0 hw hEL z0 Sc hz0 x1 x2 x3 vs n1 n2 n3 k En _ _ _ _ _ _ _ _ _ _ b k_b _ [98, 97, 115, 101, 54, 52, 45, 117, 110, 112, 97, 100, 100, 101, 100] rfl (by decide) V_b w
    replace w := w.ifNo (pc' := 205) at_202 ((if0 _ _).trans (feq qm).1)
    replace w := w.aload (pc' := 207) at_205 rfl
    replace w := w.iload (pc' := 209) at_207 rfl
    replace w := w.bipush (pc' := 211) (15 : Int32) at_209
    replace w := w.irem (pc' := 212) at_211 (by decide)
    replace w := w.iload (pc' := 214) at_212 rfl
    have hj := own_idx a2 15 (by decide)
    obtain ⟨h99, K99, V99, A99, w⟩ := w.castore (x' := c0) V_b at_214 hj n0 _ rfl (own_nat hj rfl) ge_b_Z (pc' := 215)
    exact tl215 l Z a0 hw hEL z0 Sc hz0 x1 x2 x3 vs n1 n2 n3 k En _ _ _ _ _ _ _ _ _ _ b k_b _ (([98, 97, 115, 101, 54, 52, 45, 117, 110, 112, 97, 100, 100, 101, 100] : List Int32).set _ c0) (by simp) (own_set _ r0 (by decide)) (by rw [List.map_set]; exact V99) w
  replace w := w.icmpYes (pc' := 229) at_107 ((feq q1).2)
  replace w := w.iload (pc' := 231) at_229 rfl
  replace w := w.iconst (pc' := 232) (2 : Int32) at_231
  by_cases q2 : kk = 2
  ·
    replace w := w.icmpNo (pc' := 235) at_232 ((teq q2).2)
    replace w := w.iconst (pc' := 236) (3 : Int32) at_235
    obtain ⟨h24, b, k_b, g_b, E24, V_b, S_b, A24, w⟩ := w.newarr (cap := 3) (hw _ (List.mem_of_getElem? (i := 1) rfl)) at_236 (by decide) (by decide) nle nle (pc' := 238)
    have lt_b : b < h24.size := V_b.lt
    have ge_b_Z : Z.heap.size ≤ b := Nat.le_trans BZ.1 (Nat.le_of_eq g_b.symm)
    have BZ := extT BZ E24
    replace V_b := V_b.pad (vs' := [(.int (0 : Int32)), (.int (0 : Int32)), (.int (0 : Int32))]) (pad_rep [] _ 3)
    replace w := w.dup (pc' := 239) at_238
    replace w := w.iconst (pc' := 240) (0 : Int32) at_239
    replace w := w.bipush (pc' := 242) (104 : Int32) at_240
    obtain ⟨h25, K25, V_b, A25, w⟩ := w.castore (x' := (104 : Int32)) V_b at_242 ⟨by decide, by decide⟩ (by decide) 0 rfl nle ge_b_Z (pc' := 243)
    replace V_b := V_b.pad (vs' := [(.int (104 : Int32)), (.int (0 : Int32)), (.int (0 : Int32))]) (fun _ => rfl)
    have BZ := extK BZ K25 (allS ge_b_Z all0)
    replace w := w.dup (pc' := 244) at_243
    replace w := w.iconst (pc' := 245) (1 : Int32) at_244
    replace w := w.bipush (pc' := 247) (101 : Int32) at_245
    obtain ⟨h26, K26, V_b, A26, w⟩ := w.castore (x' := (101 : Int32)) V_b at_247 ⟨by decide, by decide⟩ (by decide) 1 rfl nle ge_b_Z (pc' := 248)
    replace V_b := V_b.pad (vs' := [(.int (104 : Int32)), (.int (101 : Int32)), (.int (0 : Int32))]) (fun _ => rfl)
    have BZ := extK BZ K26 (allS ge_b_Z all0)
    replace w := w.dup (pc' := 249) at_248
    replace w := w.iconst (pc' := 250) (2 : Int32) at_249
    replace w := w.bipush (pc' := 252) (120 : Int32) at_250
    obtain ⟨h27, K27, V_b, A27, w⟩ := w.castore (x' := (120 : Int32)) V_b at_252 ⟨by decide, by decide⟩ (by decide) 2 rfl nle ge_b_Z (pc' := 253)
    replace V_b := V_b.pad (vs' := [(.int (104 : Int32)), (.int (101 : Int32)), (.int (120 : Int32))]) (fun _ => rfl)
    have BZ := extK BZ K27 (allS ge_b_Z all0)
    replace w := w.astore (pc' := 255) (L' := #[.val (.int a1), .val (.int a2), .val (.int a3), .val (.int a4), .val (.int a5), .val (.int kk), .val (.int mu), .val (.int c0), .val (.int (a2 &&& (2147483647 : Int32))), .unset, .val (.ref b)]) at_253 rfl
    replace w := w.iload (pc' := 257) at_255 rfl
    by_cases qm : mu = 0
    ·
      replace w := w.ifYes (pc' := 269) at_257 ((if0 _ _).trans (teq qm).1)
      exact tl269 l Z a0 hw hEL z0 Sc hz0 x1 x2 x3 vs n1 n2 n3 k En _ _ _ _ _ _ _ _ _ _ b k_b _ [104, 101, 120] rfl (by decide) V_b w
    replace w := w.ifNo (pc' := 260) at_257 ((if0 _ _).trans (feq qm).1)
    replace w := w.aload (pc' := 262) at_260 rfl
    replace w := w.iload (pc' := 264) at_262 rfl
    replace w := w.iconst (pc' := 265) (3 : Int32) at_264
    replace w := w.irem (pc' := 266) at_265 (by decide)
    replace w := w.iload (pc' := 268) at_266 rfl
    have hj := own_idx a2 3 (by decide)
    obtain ⟨h99, K99, V99, A99, w⟩ := w.castore (x' := c0) V_b at_268 hj n0 _ rfl (own_nat hj rfl) ge_b_Z (pc' := 269)
    exact tl269 l Z a0 hw hEL z0 Sc hz0 x1 x2 x3 vs n1 n2 n3 k En _ _ _ _ _ _ _ _ _ _ b k_b _ (([104, 101, 120] : List Int32).set _ c0) (by simp) (own_set _ r0 (by decide)) (by rw [List.map_set]; exact V99) w
  replace w := w.icmpYes (pc' := 283) at_232 ((feq q2).2)
  replace w := w.iload (pc' := 285) at_283 rfl
  replace w := w.iconst (pc' := 286) (3 : Int32) at_285
  by_cases q3 : kk = 3
  ·
    replace w := w.icmpNo (pc' := 289) at_286 ((teq q3).2)
    replace w := w.bipush (pc' := 291) (7 : Int32) at_289
    obtain ⟨h28, b, k_b, g_b, E28, V_b, S_b, A28, w⟩ := w.newarr (cap := 7) (hw _ (List.mem_of_getElem? (i := 1) rfl)) at_291 (by decide) (by decide) nle nle (pc' := 293)
    have lt_b : b < h28.size := V_b.lt
    have ge_b_Z : Z.heap.size ≤ b := Nat.le_trans BZ.1 (Nat.le_of_eq g_b.symm)
    have BZ := extT BZ E28
    replace V_b := V_b.pad (vs' := [(.int (0 : Int32)), (.int (0 : Int32)), (.int (0 : Int32)), (.int (0 : Int32)), (.int (0 : Int32)), (.int (0 : Int32)), (.int (0 : Int32))]) (pad_rep [] _ 7)
    replace w := w.dup (pc' := 294) at_293
    replace w := w.iconst (pc' := 295) (0 : Int32) at_294
    replace w := w.bipush (pc' := 297) (98 : Int32) at_295
    obtain ⟨h29, K29, V_b, A29, w⟩ := w.castore (x' := (98 : Int32)) V_b at_297 ⟨by decide, by decide⟩ (by decide) 0 rfl nle ge_b_Z (pc' := 298)
    replace V_b := V_b.pad (vs' := [(.int (98 : Int32)), (.int (0 : Int32)), (.int (0 : Int32)), (.int (0 : Int32)), (.int (0 : Int32)), (.int (0 : Int32)), (.int (0 : Int32))]) (fun _ => rfl)
    have BZ := extK BZ K29 (allS ge_b_Z all0)
    replace w := w.dup (pc' := 299) at_298
    replace w := w.iconst (pc' := 300) (1 : Int32) at_299
    replace w := w.bipush (pc' := 302) (97 : Int32) at_300
    obtain ⟨h30, K30, V_b, A30, w⟩ := w.castore (x' := (97 : Int32)) V_b at_302 ⟨by decide, by decide⟩ (by decide) 1 rfl nle ge_b_Z (pc' := 303)
    replace V_b := V_b.pad (vs' := [(.int (98 : Int32)), (.int (97 : Int32)), (.int (0 : Int32)), (.int (0 : Int32)), (.int (0 : Int32)), (.int (0 : Int32)), (.int (0 : Int32))]) (fun _ => rfl)
    have BZ := extK BZ K30 (allS ge_b_Z all0)
    replace w := w.dup (pc' := 304) at_303
    replace w := w.iconst (pc' := 305) (2 : Int32) at_304
    replace w := w.bipush (pc' := 307) (115 : Int32) at_305
    obtain ⟨h31, K31, V_b, A31, w⟩ := w.castore (x' := (115 : Int32)) V_b at_307 ⟨by decide, by decide⟩ (by decide) 2 rfl nle ge_b_Z (pc' := 308)
    replace V_b := V_b.pad (vs' := [(.int (98 : Int32)), (.int (97 : Int32)), (.int (115 : Int32)), (.int (0 : Int32)), (.int (0 : Int32)), (.int (0 : Int32)), (.int (0 : Int32))]) (fun _ => rfl)
    have BZ := extK BZ K31 (allS ge_b_Z all0)
    replace w := w.dup (pc' := 309) at_308
    replace w := w.iconst (pc' := 310) (3 : Int32) at_309
    replace w := w.bipush (pc' := 312) (101 : Int32) at_310
    obtain ⟨h32, K32, V_b, A32, w⟩ := w.castore (x' := (101 : Int32)) V_b at_312 ⟨by decide, by decide⟩ (by decide) 3 rfl nle ge_b_Z (pc' := 313)
    replace V_b := V_b.pad (vs' := [(.int (98 : Int32)), (.int (97 : Int32)), (.int (115 : Int32)), (.int (101 : Int32)), (.int (0 : Int32)), (.int (0 : Int32)), (.int (0 : Int32))]) (fun _ => rfl)
    have BZ := extK BZ K32 (allS ge_b_Z all0)
    replace w := w.dup (pc' := 314) at_313
    replace w := w.iconst (pc' := 315) (4 : Int32) at_314
    replace w := w.bipush (pc' := 317) (54 : Int32) at_315
    obtain ⟨h33, K33, V_b, A33, w⟩ := w.castore (x' := (54 : Int32)) V_b at_317 ⟨by decide, by decide⟩ (by decide) 4 rfl nle ge_b_Z (pc' := 318)
    replace V_b := V_b.pad (vs' := [(.int (98 : Int32)), (.int (97 : Int32)), (.int (115 : Int32)), (.int (101 : Int32)), (.int (54 : Int32)), (.int (0 : Int32)), (.int (0 : Int32))]) (fun _ => rfl)
    have BZ := extK BZ K33 (allS ge_b_Z all0)
    replace w := w.dup (pc' := 319) at_318
    replace w := w.iconst (pc' := 320) (5 : Int32) at_319
    replace w := w.bipush (pc' := 322) (52 : Int32) at_320
    obtain ⟨h34, K34, V_b, A34, w⟩ := w.castore (x' := (52 : Int32)) V_b at_322 ⟨by decide, by decide⟩ (by decide) 5 rfl nle ge_b_Z (pc' := 323)
    replace V_b := V_b.pad (vs' := [(.int (98 : Int32)), (.int (97 : Int32)), (.int (115 : Int32)), (.int (101 : Int32)), (.int (54 : Int32)), (.int (52 : Int32)), (.int (0 : Int32))]) (fun _ => rfl)
    have BZ := extK BZ K34 (allS ge_b_Z all0)
    replace w := w.dup (pc' := 324) at_323
    replace w := w.bipush (pc' := 326) (6 : Int32) at_324
    replace w := w.iload (pc' := 328) at_326 rfl
    obtain ⟨h35, K35, V_b, A35, w⟩ := w.castore (x' := c0) V_b at_328 ⟨by decide, by decide⟩ n0 6 rfl nle ge_b_Z (pc' := 329)
    replace V_b := V_b.pad (vs' := [(.int (98 : Int32)), (.int (97 : Int32)), (.int (115 : Int32)), (.int (101 : Int32)), (.int (54 : Int32)), (.int (52 : Int32)), (.int c0)]) (fun _ => rfl)
    have BZ := extK BZ K35 (allS ge_b_Z all0)
    replace w := w.astore (pc' := 331) (L' := #[.val (.int a1), .val (.int a2), .val (.int a3), .val (.int a4), .val (.int a5), .val (.int kk), .val (.int mu), .val (.int c0), .val (.int (a2 &&& (2147483647 : Int32))), .unset, .val (.ref b)]) at_329 rfl
    exact tl331 l Z a0 hw hEL z0 Sc hz0 x1 x2 x3 vs n1 n2 n3 k En _ _ _ _ _ _ _ _ _ _ b k_b _ [98, 97, 115, 101, 54, 52, c0] rfl (chars1 (by decide) (chars1 (by decide) (chars1 (by decide) (chars1 (by decide) (chars1 (by decide) (chars1 (by decide) (chars1 r0 chars0))))))) V_b w
  replace w := w.icmpYes (pc' := 345) at_286 ((feq q3).2)
  replace w := w.iload (pc' := 347) at_345 rfl
  replace w := w.iconst (pc' := 348) (4 : Int32) at_347
  by_cases q4 : kk = 4
  ·
    replace w := w.icmpNo (pc' := 351) at_348 ((teq q4).2)
    replace w := w.iconst (pc' := 352) (4 : Int32) at_351
    obtain ⟨h36, b, k_b, g_b, E36, V_b, S_b, A36, w⟩ := w.newarr (cap := 4) (hw _ (List.mem_of_getElem? (i := 1) rfl)) at_352 (by decide) (by decide) nle nle (pc' := 354)
    have lt_b : b < h36.size := V_b.lt
    have ge_b_Z : Z.heap.size ≤ b := Nat.le_trans BZ.1 (Nat.le_of_eq g_b.symm)
    have BZ := extT BZ E36
    replace V_b := V_b.pad (vs' := [(.int (0 : Int32)), (.int (0 : Int32)), (.int (0 : Int32)), (.int (0 : Int32))]) (pad_rep [] _ 4)
    replace w := w.dup (pc' := 355) at_354
    replace w := w.iconst (pc' := 356) (0 : Int32) at_355
    replace w := w.bipush (pc' := 358) (104 : Int32) at_356
    obtain ⟨h37, K37, V_b, A37, w⟩ := w.castore (x' := (104 : Int32)) V_b at_358 ⟨by decide, by decide⟩ (by decide) 0 rfl nle ge_b_Z (pc' := 359)
    replace V_b := V_b.pad (vs' := [(.int (104 : Int32)), (.int (0 : Int32)), (.int (0 : Int32)), (.int (0 : Int32))]) (fun _ => rfl)
    have BZ := extK BZ K37 (allS ge_b_Z all0)
    replace w := w.dup (pc' := 360) at_359
    replace w := w.iconst (pc' := 361) (1 : Int32) at_360
    replace w := w.bipush (pc' := 363) (101 : Int32) at_361
    obtain ⟨h38, K38, V_b, A38, w⟩ := w.castore (x' := (101 : Int32)) V_b at_363 ⟨by decide, by decide⟩ (by decide) 1 rfl nle ge_b_Z (pc' := 364)
    replace V_b := V_b.pad (vs' := [(.int (104 : Int32)), (.int (101 : Int32)), (.int (0 : Int32)), (.int (0 : Int32))]) (fun _ => rfl)
    have BZ := extK BZ K38 (allS ge_b_Z all0)
    replace w := w.dup (pc' := 365) at_364
    replace w := w.iconst (pc' := 366) (2 : Int32) at_365
    replace w := w.bipush (pc' := 368) (120 : Int32) at_366
    obtain ⟨h39, K39, V_b, A39, w⟩ := w.castore (x' := (120 : Int32)) V_b at_368 ⟨by decide, by decide⟩ (by decide) 2 rfl nle ge_b_Z (pc' := 369)
    replace V_b := V_b.pad (vs' := [(.int (104 : Int32)), (.int (101 : Int32)), (.int (120 : Int32)), (.int (0 : Int32))]) (fun _ => rfl)
    have BZ := extK BZ K39 (allS ge_b_Z all0)
    replace w := w.dup (pc' := 370) at_369
    replace w := w.iconst (pc' := 371) (3 : Int32) at_370
    replace w := w.iload (pc' := 373) at_371 rfl
    obtain ⟨h40, K40, V_b, A40, w⟩ := w.castore (x' := c0) V_b at_373 ⟨by decide, by decide⟩ n0 3 rfl nle ge_b_Z (pc' := 374)
    replace V_b := V_b.pad (vs' := [(.int (104 : Int32)), (.int (101 : Int32)), (.int (120 : Int32)), (.int c0)]) (fun _ => rfl)
    have BZ := extK BZ K40 (allS ge_b_Z all0)
    replace w := w.astore (pc' := 376) (L' := #[.val (.int a1), .val (.int a2), .val (.int a3), .val (.int a4), .val (.int a5), .val (.int kk), .val (.int mu), .val (.int c0), .val (.int (a2 &&& (2147483647 : Int32))), .unset, .val (.ref b)]) at_374 rfl
    exact tl376 l Z a0 hw hEL z0 Sc hz0 x1 x2 x3 vs n1 n2 n3 k En _ _ _ _ _ _ _ _ _ _ b k_b _ [104, 101, 120, c0] rfl (chars1 (by decide) (chars1 (by decide) (chars1 (by decide) (chars1 r0 chars0)))) V_b w
  replace w := w.icmpYes (pc' := 390) at_348 ((feq q4).2)
  replace w := w.iload (pc' := 392) at_390 rfl
  replace w := w.iconst (pc' := 393) (5 : Int32) at_392
  by_cases q5 : kk = 5
  ·
    replace w := w.icmpNo (pc' := 396) at_393 ((teq q5).2)
    replace w := w.iload (pc' := 398) at_396 rfl
    by_cases qm : mu = 0
    ·
      replace w := w.ifYes (pc' := 408) at_398 ((if0 _ _).trans (teq qm).1)
      replace w := w.iload (pc' := 410) at_408 rfl
      replace w := w.iconst (pc' := 411) (3 : Int32) at_410
      replace w := w.irem (pc' := 412) at_411 (by decide)
      by_cases qr : (a2 &&& (2147483647 : Int32)) % 3 = 0
      ·
        replace w := w.ifNo (pc' := 415) at_412 ((if0 _ _).trans (teq qr).2)
        obtain ⟨q, V41, h41, E41, T_q, N_q, A41, w⟩ := w.ldcT [(98 : Int32), (97 : Int32), (115 : Int32), (101 : Int32), (54 : Int32)] 20 (text := "base6") (hw _ (List.mem_of_getElem? (i := 74) rfl)) hstr (by decide) (by decide) (by decide) (by decide) (by decide) (by decide) at_415 (by decide) (by decide) (by decide) (by decide) (pc' := 417)
        have BZ := extT BZ E41
        replace w := w.astore (pc' := 419) (L' := #[.val (.int a1), .val (.int a2), .val (.int a3), .val (.int a4), .val (.int a5), .val (.int kk), .val (.int mu), .val (.int c0), .val (.int (a2 &&& (2147483647 : Int32))), .val (.ref q), .unset]) at_417 rfl
        replace w := w.goto (pc' := 497) at_419
        exact tl497 l Z a0 hw hEL z0 Sc hz0 x1 x2 x3 vs n1 n2 n3 k En _ _ _ _ _ _ _ _ _ _ q _ One.u _ T_q (by decide) (w.more (by decide) (by decide))
      replace w := w.ifYes (pc' := 422) at_412 ((if0 _ _).trans (feq qr).2)
      replace w := w.iload (pc' := 424) at_422 rfl
      replace w := w.iconst (pc' := 425) (3 : Int32) at_424
      replace w := w.irem (pc' := 426) at_425 (by decide)
      replace w := w.iconst (pc' := 427) (1 : Int32) at_426
      by_cases qs : (a2 &&& (2147483647 : Int32)) % 3 = 1
      ·
        replace w := w.icmpNo (pc' := 430) at_427 ((teq qs).2)
        obtain ⟨q, V42, h42, E42, T_q, N_q, A42, w⟩ := w.ldcT [(104 : Int32), (101 : Int32)] 8 (text := "he") (hw _ (List.mem_of_getElem? (i := 73) rfl)) hstr (by decide) (by decide) (by decide) (by decide) (by decide) (by decide) at_430 (by decide) (by decide) (by decide) (by decide) (pc' := 432)
        have BZ := extT BZ E42
        replace w := w.astore (pc' := 434) (L' := #[.val (.int a1), .val (.int a2), .val (.int a3), .val (.int a4), .val (.int a5), .val (.int kk), .val (.int mu), .val (.int c0), .val (.int (a2 &&& (2147483647 : Int32))), .val (.ref q), .unset]) at_432 rfl
        replace w := w.goto (pc' := 497) at_434
        exact tl497 l Z a0 hw hEL z0 Sc hz0 x1 x2 x3 vs n1 n2 n3 k En _ _ _ _ _ _ _ _ _ _ q _ One.u _ T_q (by decide) (w.more (by decide) (by decide))
      replace w := w.icmpYes (pc' := 437) at_427 ((feq qs).2)
      obtain ⟨q, V43, h43, E43, T_q, N_q, A43, w⟩ := w.ldcT [(98 : Int32), (97 : Int32), (115 : Int32), (101 : Int32), (54 : Int32), (52 : Int32), (45 : Int32), (117 : Int32), (110 : Int32), (112 : Int32), (97 : Int32), (100 : Int32), (100 : Int32), (101 : Int32)] 56 (text := "base64-unpadde") (hw _ (List.mem_of_getElem? (i := 77) rfl)) hstr (by decide) (by decide) (by decide) (by decide) (by decide) (by decide) at_437 (by decide) (by decide) (by decide) (by decide) (pc' := 439)
      have BZ := extT BZ E43
      replace w := w.astore (pc' := 441) (L' := #[.val (.int a1), .val (.int a2), .val (.int a3), .val (.int a4), .val (.int a5), .val (.int kk), .val (.int mu), .val (.int c0), .val (.int (a2 &&& (2147483647 : Int32))), .val (.ref q), .unset]) at_439 rfl
      replace w := w.goto (pc' := 497) at_441
      exact tl497 l Z a0 hw hEL z0 Sc hz0 x1 x2 x3 vs n1 n2 n3 k En _ _ _ _ _ _ _ _ _ _ q _ One.u _ T_q (by decide) (w.more (by decide) (by decide))
    replace w := w.ifNo (pc' := 401) at_398 ((if0 _ _).trans (feq qm).1)
    obtain ⟨q, V44, h44, E44, T_q, N_q, A44, w⟩ := w.ldcT [] 0 (text := "") (hw _ (List.mem_of_getElem? (i := 76) rfl)) hstr (by decide) (by decide) (by decide) (by decide) (by decide) (by decide) at_401 (by decide) (by decide) (by decide) (by decide) (pc' := 403)
    have BZ := extT BZ E44
    replace w := w.astore (pc' := 405) (L' := #[.val (.int a1), .val (.int a2), .val (.int a3), .val (.int a4), .val (.int a5), .val (.int kk), .val (.int mu), .val (.int c0), .val (.int (a2 &&& (2147483647 : Int32))), .val (.ref q), .unset]) at_403 rfl
    replace w := w.goto (pc' := 497) at_405
    exact tl497 l Z a0 hw hEL z0 Sc hz0 x1 x2 x3 vs n1 n2 n3 k En _ _ _ _ _ _ _ _ _ _ q _ One.u _ T_q (by decide) (w.more (by decide) (by decide))
  replace w := w.icmpYes (pc' := 444) at_393 ((feq q5).2)
  replace w := w.iload (pc' := 446) at_444 rfl
  replace w := w.bipush (pc' := 448) (6 : Int32) at_446
  by_cases q6 : kk = 6
  ·
    replace w := w.icmpNo (pc' := 451) at_448 ((teq q6).2)
    replace w := w.aconstNull (pc' := 452) at_451
    replace w := w.astore (pc' := 454) (L' := #[.val (.int a1), .val (.int a2), .val (.int a3), .val (.int a4), .val (.int a5), .val (.int kk), .val (.int mu), .val (.int c0), .val (.int (a2 &&& (2147483647 : Int32))), .val .null, .unset]) at_452 rfl
    replace w := w.goto (pc' := 497) at_454
    replace w := w.aload (pc' := 499) at_497 rfl
    replace w := w.ifnonnullNo (pc' := 502) at_499 
    replace w := w.aconstNull (pc' := 503) at_502
    replace w := w.astore (pc' := 505) (L' := #[.val (.int a1), .val (.int a2), .val (.int a3), .val (.int a4), .val (.int a5), .val (.int kk), .val (.int mu), .val (.int c0), .val (.int (a2 &&& (2147483647 : Int32))), .val .null, .val .null]) at_503 rfl
    replace w := w.goto (pc' := 565) at_505
    replace w := w.aload (pc' := 567) at_565 rfl
    obtain ⟨v45, V45, h45, hq45, A45, w⟩ := w.static (y' := (⟨"com/example/carillon/carillon/store/Signing$Encoding", "fromCode", "(Ljava/lang/String;)Lcom/example/carillon/carillon/store/Signing$Encoding;"⟩ : MethodName)) (W := 0) (w.pays 0 (rm9n l Z a0 hw hEL z0 Sc hz0 x1 x2 x3 vs n1 n2 n3 k En h0 w.old) (hw _ (List.mem_of_getElem? (i := 49) rfl)) (hw _ (List.mem_of_getElem? (i := 45) rfl)) all0 nle nle) (hw _ (List.mem_of_getElem? (i := 47) rfl)) (hw _ (List.mem_of_getElem? (i := 48) rfl)) (hw _ (List.mem_of_getElem? (i := 45) rfl)) (hw _ (List.mem_of_getElem? (i := 49) rfl)) (argsL := [.null]) (rest := []) (by decide) pd_2 rfl rfl (Nat.le_of_eq rfl) rfl at_567 nle nle (pc' := 570)
    subst hq45
    replace w := w.to (g' := mkF m 570 #[.val (.int a1), .val (.int a2), .val (.int a3), .val (.int a4), .val (.int a5), .val (.int kk), .val (.int mu), .val (.int c0), .val (.int (a2 &&& (2147483647 : Int32))), .val .null, .val .null] [.null]) rfl
    replace w := w.aload (pc' := 572) at_570 rfl
    replace w := w.acmp (pc' := 575) true at_572 (decide_eq_true rfl)
    replace w := w.iconst (pc' := 576) (1 : Int32) at_575
    replace w := w.goto (pc' := 580) at_576
    exact w.retN at_580 (by simp) rfl nle nle
  replace w := w.icmpYes (pc' := 457) at_448 ((feq q6).2)
  replace w := w.iconst (pc' := 458) (3 : Int32) at_457
  obtain ⟨h46, b, k_b, g_b, E46, V_b, S_b, A46, w⟩ := w.newarr (cap := 3) (hw _ (List.mem_of_getElem? (i := 1) rfl)) at_458 (by decide) (by decide) nle nle (pc' := 460)
  have lt_b : b < h46.size := V_b.lt
  have ge_b_Z : Z.heap.size ≤ b := Nat.le_trans BZ.1 (Nat.le_of_eq g_b.symm)
  have BZ := extT BZ E46
  replace V_b := V_b.pad (vs' := [(.int (0 : Int32)), (.int (0 : Int32)), (.int (0 : Int32))]) (pad_rep [] _ 3)
  replace w := w.dup (pc' := 461) at_460
  replace w := w.iconst (pc' := 462) (0 : Int32) at_461
  replace w := w.iload (pc' := 464) at_462 rfl
  obtain ⟨h47, K47, V_b, A47, w⟩ := w.castore (x' := c0) V_b at_464 ⟨by decide, by decide⟩ n0 0 rfl nle ge_b_Z (pc' := 465)
  replace V_b := V_b.pad (vs' := [(.int c0), (.int (0 : Int32)), (.int (0 : Int32))]) (fun _ => rfl)
  have BZ := extK BZ K47 (allS ge_b_Z all0)
  replace w := w.dup (pc' := 466) at_465
  replace w := w.iconst (pc' := 467) (1 : Int32) at_466
  replace w := w.iloadN (pc' := 468) at_467 rfl
  replace w := w.sipush (pc' := 471) (255 : Int32) at_468
  replace w := w.iand (pc' := 472) at_471
  replace w := w.i2c (pc' := 473) at_472
  rw [i2c_mask] at w
  obtain ⟨c1, hc1⟩ : ∃ z, z = (a4 &&& (255 : Int32)) := ⟨_, rfl⟩
  rw [← hc1] at w
  have r1 : ¬ c1 < 0 ∧ ¬ (255 : Int32) < c1 := hc1 ▸ and255 a4
  have n1' : nar .char c1 = c1 := by rw [hc1]; exact nar255 a4
  obtain ⟨h48, K48, V_b, A48, w⟩ := w.castore (x' := c1) V_b at_473 ⟨by decide, by decide⟩ n1' 1 rfl nle ge_b_Z (pc' := 474)
  replace V_b := V_b.pad (vs' := [(.int c0), (.int c1), (.int (0 : Int32))]) (fun _ => rfl)
  have BZ := extK BZ K48 (allS ge_b_Z all0)
  replace w := w.dup (pc' := 475) at_474
  replace w := w.iconst (pc' := 476) (2 : Int32) at_475
  replace w := w.iload (pc' := 478) at_476 rfl
  replace w := w.sipush (pc' := 481) (255 : Int32) at_478
  replace w := w.iand (pc' := 482) at_481
  replace w := w.i2c (pc' := 483) at_482
  rw [i2c_mask] at w
  obtain ⟨c2, hc2⟩ : ∃ z, z = (a5 &&& (255 : Int32)) := ⟨_, rfl⟩
  rw [← hc2] at w
  have r2 : ¬ c2 < 0 ∧ ¬ (255 : Int32) < c2 := hc2 ▸ and255 a5
  have n2' : nar .char c2 = c2 := by rw [hc2]; exact nar255 a5
  obtain ⟨h49, K49, V_b, A49, w⟩ := w.castore (x' := c2) V_b at_483 ⟨by decide, by decide⟩ n2' 2 rfl nle ge_b_Z (pc' := 484)
  replace V_b := V_b.pad (vs' := [(.int c0), (.int c1), (.int c2)]) (fun _ => rfl)
  have BZ := extK BZ K49 (allS ge_b_Z all0)
  replace w := w.astore (pc' := 486) (L' := #[.val (.int a1), .val (.int a2), .val (.int a3), .val (.int a4), .val (.int a5), .val (.int kk), .val (.int mu), .val (.int c0), .val (.int (a2 &&& (2147483647 : Int32))), .unset, .val (.ref b)]) at_484 rfl
  exact tl486 l Z a0 hw hEL z0 Sc hz0 x1 x2 x3 vs n1 n2 n3 k En _ _ _ _ _ _ _ _ _ _ b k_b _ [c0, c1, c2] rfl (chars1 r0 (chars1 r1 (chars1 r2 chars0))) V_b w
set_option maxRecDepth 65536 in
theorem rm0 (l : Launch) (Z : State) (a0 : Array Value) (hw : ∀ d ∈ tables_1, d.before a0 Z = true) (hEL : EW Z a0 consts_1) (z0 : Int32) (Sc : Sta Z Z.heap "java/lang/String" "COMPACT_STRINGS" "Z" (.int z0)) (hz0 : ¬ z0 = 0) (x1 x2 x3 vs n1 n2 n3 : Addr) (k : ClassId) (En : Enum3 Z x1 x2 x3 vs n1 n2 n3 k) (p0 p1 p2 p3 p4 : Int32) :
    Met l Z consts_1 x code maxLocals ret tables_1 room_1 #[.int p0, .int p1, .int p2, .int p3, .int p4] Z.heap [] (fun v h => v = some (.int 1)) := by
  refine Met.of (a0 := a0) (by decide +kernel) hEL (extR _) ?_
  intro p e s m below meth c S0 V w hs hsf
  replace w := w.to (g' := mkF m 0 #[.val (.int p0), .val (.int p1), .val (.int p2), .val (.int p3), .val (.int p4), .unset, .unset, .unset, .unset, .unset, .unset] []) (by first | (simp [entryFrame, mkF, argsToLocals, Value.category]; done) | rfl)
  replace w := w.iloadN (pc' := 1) at_0 rfl
  replace w := w.bipush (pc' := 3) (7 : Int32) at_1
  replace w := w.iand (pc' := 4) at_3
  replace w := w.istore (pc' := 6) (L' := #[.val (.int p0), .val (.int p1), .val (.int p2), .val (.int p3), .val (.int p4), .val (.int (p0 &&& (7 : Int32))), .unset, .unset, .unset, .unset, .unset]) at_4 rfl
  replace w := w.iloadN (pc' := 7) at_6 rfl
  replace w := w.bipush (pc' := 9) (8 : Int32) at_7
  replace w := w.iand (pc' := 10) at_9
  by_cases q0 : p0 &&& (8 : Int32) = 0
  ·
    replace w := w.ifYes (pc' := 17) at_10 ((if0 _ _).trans (teq q0).1)
    replace w := w.iconst (pc' := 18) (0 : Int32) at_17
    replace w := w.istore (pc' := 20) (L' := #[.val (.int p0), .val (.int p1), .val (.int p2), .val (.int p3), .val (.int p4), .val (.int (p0 &&& (7 : Int32))), .val (.int (0 : Int32)), .unset, .unset, .unset, .unset]) at_18 rfl
    replace w := w.iloadN (pc' := 21) at_20 rfl
    replace w := w.sipush (pc' := 24) (255 : Int32) at_21
    replace w := w.iand (pc' := 25) at_24
    replace w := w.i2c (pc' := 26) at_25
    rw [i2c_mask] at w
    obtain ⟨c0, hc0⟩ : ∃ z, z = (p2 &&& (255 : Int32)) := ⟨_, rfl⟩
    rw [← hc0] at w
    have r0 : ¬ c0 < 0 ∧ ¬ (255 : Int32) < c0 := hc0 ▸ and255 p2
    have n0 : nar .char c0 = c0 := by rw [hc0]; exact nar255 p2
    replace w := w.istore (pc' := 28) (L' := #[.val (.int p0), .val (.int p1), .val (.int p2), .val (.int p3), .val (.int p4), .val (.int (p0 &&& (7 : Int32))), .val (.int (0 : Int32)), .val (.int c0), .unset, .unset, .unset]) at_26 rfl
    replace w := w.iloadN (pc' := 29) at_28 rfl
    replace w := w.ldcI (pc' := 31) (x := (2147483647 : Int32)) (hw _ (List.mem_of_getElem? (i := 0) rfl)) at_29
    replace w := w.iand (pc' := 32) at_31
    replace w := w.istore (pc' := 34) (L' := #[.val (.int p0), .val (.int p1), .val (.int p2), .val (.int p3), .val (.int p4), .val (.int (p0 &&& (7 : Int32))), .val (.int (0 : Int32)), .val (.int c0), .val (.int (p1 &&& (2147483647 : Int32))), .unset, .unset]) at_32 rfl
    exact hd34 l Z a0 hw hEL z0 Sc hz0 x1 x2 x3 vs n1 n2 n3 k En _ _ _ _ _ _ _ _ c0 r0 n0 w
  replace w := w.ifNo (pc' := 13) at_10 ((if0 _ _).trans (feq q0).1)
  replace w := w.iconst (pc' := 14) (1 : Int32) at_13
  replace w := w.goto (pc' := 18) at_14
  replace w := w.istore (pc' := 20) (L' := #[.val (.int p0), .val (.int p1), .val (.int p2), .val (.int p3), .val (.int p4), .val (.int (p0 &&& (7 : Int32))), .val (.int (1 : Int32)), .unset, .unset, .unset, .unset]) at_18 rfl
  replace w := w.iloadN (pc' := 21) at_20 rfl
  replace w := w.sipush (pc' := 24) (255 : Int32) at_21
  replace w := w.iand (pc' := 25) at_24
  replace w := w.i2c (pc' := 26) at_25
  rw [i2c_mask] at w
  obtain ⟨c0, hc0⟩ : ∃ z, z = (p2 &&& (255 : Int32)) := ⟨_, rfl⟩
  rw [← hc0] at w
  have r0 : ¬ c0 < 0 ∧ ¬ (255 : Int32) < c0 := hc0 ▸ and255 p2
  have n0 : nar .char c0 = c0 := by rw [hc0]; exact nar255 p2
  replace w := w.istore (pc' := 28) (L' := #[.val (.int p0), .val (.int p1), .val (.int p2), .val (.int p3), .val (.int p4), .val (.int (p0 &&& (7 : Int32))), .val (.int (1 : Int32)), .val (.int c0), .unset, .unset, .unset]) at_26 rfl
  replace w := w.iloadN (pc' := 29) at_28 rfl
  replace w := w.ldcI (pc' := 31) (x := (2147483647 : Int32)) (hw _ (List.mem_of_getElem? (i := 0) rfl)) at_29
  replace w := w.iand (pc' := 32) at_31
  replace w := w.istore (pc' := 34) (L' := #[.val (.int p0), .val (.int p1), .val (.int p2), .val (.int p3), .val (.int p4), .val (.int (p0 &&& (7 : Int32))), .val (.int (1 : Int32)), .val (.int c0), .val (.int (p1 &&& (2147483647 : Int32))), .unset, .unset]) at_32 rfl
  exact hd34 l Z a0 hw hEL z0 Sc hz0 x1 x2 x3 vs n1 n2 n3 k En _ _ _ _ _ _ _ _ c0 r0 n0 w
set_option maxRecDepth 65536 in
set_option maxHeartbeats 40000000 in
theorem comes_1 {Post : Tables → Env → Array Value → State → Outcome → State → Prop} (hpost : ∀ tb e args s v u, (limb_1_1.after args s (.returned v) u = true ∧ limb_1_2.after args s (.returned v) u = true ∧ True) → FramedW s (.returned v) u (Jvm.fieldLocs frame_1_writes args s ++ Jvm.arrayLocs frame_1_arrays args s ++ Jvm.staticLocs frame_1_statics s) 32 7360 → Post tb e args s (.returned v) u) :
    ArmFor flags0 classFile x code maxLocals ret World_1 tables_1 room_1 Calls_1 rest_1 Pre_1 Post := by
  intro l hfl _ _ p e ha hc hk s m args below hf hA hF happ hP
  obtain ⟨hcalls, hrest, hpre⟩ := hP
  obtain ⟨-, -, -, hnamed, -, -, -, hat⟩ := (Spec.applies_iff hf).mp happ
  obtain ⟨hg, hn⟩ := and_e (Cond.before_iff.mp (show (Jvm.Cond.and given_1 narrow_1).before args s = true from hpre))
  obtain ⟨hcount, g0⟩ := and_e hg
  obtain ⟨g0, g1⟩ := and_e g0
  obtain ⟨g1, g2⟩ := and_e g1
  obtain ⟨g2, g3⟩ := and_e g2
  obtain ⟨g3, g4⟩ := and_e g3
  obtain ⟨w0, w1, w2, w3, w4, rfl⟩ : ∃ w0 w1 w2 w3 w4 : Value, args = #[w0, w1, w2, w3, w4] := by
    have hs : args.size = 5 := by simpa [Cond.value, given_1] using hcount
    obtain ⟨L⟩ := args
    match L, hs with
    | [w0, w1, w2, w3, w4], _ => exact ⟨w0, w1, w2, w3, w4, rfl⟩
  have hw := fun d (hd : d ∈ tables_1) => atoms_spec (ws := Jvm.Cond.code x code maxLocals ret :: tables_1) hat d (List.mem_cons_of_mem _ hd)
  obtain ⟨hsets, hown0⟩ := atoms_of _ (rest_1_c_eq ▸ (show rest_1_c.before _ s = true from hrest))
  have hfit : Fit s := fun {y c} hc i hi => by
    obtain ⟨ha, rfl⟩ := Array.getElem?_eq_some_iff.mp hc
    have q := List.all_eq_true.mp ((Array.all_eq_true_iff_forall_mem.mp hF) _ (Array.getElem_mem ha)) i (List.mem_range.mpr hi)
    simpa [Array.getElem?_eq_getElem hi] using q
  have n5 := not_v (Cond.before_iff.mp (hsets _ (List.mem_of_getElem? (i := 2) rfl)))
  obtain ⟨i0, e0⟩ := is_v g0
  obtain rfl : w0 = (.int i0) := Option.some.inj e0
  obtain ⟨i1, e1⟩ := is_v g1
  obtain rfl : w1 = (.int i1) := Option.some.inj e1
  obtain ⟨i2, e2⟩ := is_v g2
  obtain rfl : w2 = (.int i2) := Option.some.inj e2
  obtain ⟨i3, e3⟩ := is_v g3
  obtain rfl : w3 = (.int i3) := Option.some.inj e3
  obtain ⟨i4, e4⟩ := is_v g4
  obtain rfl : w4 = (.int i4) := Option.some.inj e4
  obtain ⟨z0, ez⟩ := is_v (Cond.before_iff.mp (hsets _ (List.mem_of_getElem? (i := 1) rfl)))
  have Sc : Sta s s.heap "java/lang/String" "COMPACT_STRINGS" "Z" (.int z0) := Sta.start ez (Or.inl (hsets _ (List.mem_of_getElem? (i := 0) rfl)))
  have hz0 : ¬ (z0 = (0 : Int32)) := gotF (Cond.eq_ints ez (Term.int_eval (0))) n5
  obtain ⟨fm, ef, rfm⟩ := isR_v (Cond.before_iff.mp (hsets _ (List.mem_of_getElem? (i := 8) rfl)))
  have Sf : Sta s s.heap "jdk/internal/util/Preconditions" "SIOOBE_FORMATTER" "Ljava/util/function/BiFunction;" fm := Sta.start ef (Or.inl (hsets _ (List.mem_of_getElem? (i := 7) rfl)))
  have hEL : EW s #[.int i0, .int i1, .int i2, .int i3, .int i4] consts_1 := (EW.cons (hw _ (List.mem_of_getElem? (i := 76) rfl)) (by decide) (EW.cons (hw _ (List.mem_of_getElem? (i := 74) rfl)) (by decide) (EW.cons (hw _ (List.mem_of_getElem? (i := 73) rfl)) (by decide) (EW.cons (hw _ (List.mem_of_getElem? (i := 77) rfl)) (by decide) (EW.cons (hw _ (List.mem_of_getElem? (i := 31) rfl)) (by decide) (EW.cons (hw _ (List.mem_of_getElem? (i := 70) rfl)) (by decide) (EW.cons (hw _ (List.mem_of_getElem? (i := 71) rfl)) (by decide) EW.nil)))))))
  have hCH : CHv s consts_1 s.vm s.heap := CHv.start hEL (fun q hq => hcalls.1 q hq) (hsets _ (List.mem_of_getElem? (i := 2) rfl)) (hw _ (List.mem_of_getElem? (i := 20) rfl)) (hw _ (List.mem_of_getElem? (i := 3) rfl))
  obtain ⟨n101, hn⟩ := and_e hn
  obtain ⟨n102, hn⟩ := and_e hn
  obtain ⟨n103, hn⟩ := and_e hn
  obtain ⟨n104, hn⟩ := and_e hn
  obtain ⟨n105, hn⟩ := and_e hn
  obtain ⟨n106, hn⟩ := and_e hn
  obtain ⟨n107, hn⟩ := and_e hn
  obtain ⟨n108, hn⟩ := and_e hn
  obtain ⟨n109, hn⟩ := and_e hn
  obtain ⟨n110, hn⟩ := and_e hn
  obtain ⟨n111, hn⟩ := and_e hn
  obtain ⟨n112, hn⟩ := and_e hn
  obtain ⟨n113, hn⟩ := and_e hn
  obtain ⟨n114, hn⟩ := and_e hn
  obtain ⟨n115, hn⟩ := and_e hn
  obtain ⟨n116, hn⟩ := and_e hn
  obtain ⟨n117, hn⟩ := and_e hn
  obtain ⟨n118, hn⟩ := and_e hn
  obtain ⟨n119, hn⟩ := and_e hn
  obtain ⟨n120, hn⟩ := and_e hn
  obtain ⟨n121, hn⟩ := and_e hn
  obtain ⟨n122, hn⟩ := and_e hn
  obtain ⟨n123, hn⟩ := and_e hn
  obtain ⟨n124, hn⟩ := and_e hn
  obtain ⟨n125, hn⟩ := and_e hn
  obtain ⟨n126, hn⟩ := and_e hn
  obtain ⟨n127, hn⟩ := and_e hn
  obtain ⟨n128, hn⟩ := and_e hn
  obtain ⟨n129, hn⟩ := and_e hn
  obtain ⟨n130, hn⟩ := and_e hn
  obtain ⟨n131, hn⟩ := and_e hn
  obtain ⟨n132, hn⟩ := and_e hn
  obtain ⟨n133, hn⟩ := and_e hn
  obtain ⟨n134, hn⟩ := and_e hn
  obtain ⟨n135, hn⟩ := and_e hn
  obtain ⟨n136, hn⟩ := and_e hn
  obtain ⟨n137, hn⟩ := and_e hn
  obtain ⟨n138, hn⟩ := and_e hn
  obtain ⟨n139, hn⟩ := and_e hn
  obtain ⟨n140, hn⟩ := and_e hn
  obtain ⟨n141, hn⟩ := and_e hn
  obtain ⟨n142, hn⟩ := and_e hn
  obtain ⟨n143, hn⟩ := and_e hn
  obtain ⟨n144, hn⟩ := and_e hn
  obtain ⟨x1, e1'⟩ := exa_v n101
  obtain ⟨x2, e2'⟩ := exa_v n106
  obtain ⟨x3, e3'⟩ := exa_v n108
  obtain ⟨vs, eV⟩ := exa_v n103
  obtain ⟨m1, eN1⟩ := exa_v n110
  obtain ⟨m2, eN2⟩ := exa_v n114
  obtain ⟨m3, eN3⟩ := exa_v n118
  have wC := (hw _ (List.mem_of_getElem? (i := 45) rfl))
  have T3 : Str s s.heap m3 [104, 101, 120] := own_str0 hfit _ eN3 n118 n119 n120 n121 rfl (by decide) (by decide) (by decide) (fun i c hi => by
    rcases i with _ | _ | _ | i
    · cases hi; exact n122
    · cases hi; exact n123
    · cases hi; exact n124
    · simp at hi)
  have T1 : Str s s.heap m1 [98, 97, 115, 101, 54, 52] := own_str0 hfit _ eN1 n110 n111 n112 n113 rfl (by decide) (by decide) (by decide) (fun i c hi => by
    rcases i with _ | _ | _ | _ | _ | _ | i
    · cases hi; exact n125
    · cases hi; exact n126
    · cases hi; exact n127
    · cases hi; exact n128
    · cases hi; exact n129
    · cases hi; exact n130
    · simp at hi)
  have T2 : Str s s.heap m2 [98, 97, 115, 101, 54, 52, 45, 117, 110, 112, 97, 100, 100, 101, 100] := own_str0 hfit _ eN2 n114 n115 n116 n117 rfl (by decide) (by decide) (by decide) (fun i c hi => by
    rcases i with _ | _ | _ | _ | _ | _ | _ | _ | _ | _ | _ | _ | _ | _ | _ | i
    · cases hi; exact n131
    · cases hi; exact n132
    · cases hi; exact n133
    · cases hi; exact n134
    · cases hi; exact n135
    · cases hi; exact n136
    · cases hi; exact n137
    · cases hi; exact n138
    · cases hi; exact n139
    · cases hi; exact n140
    · cases hi; exact n141
    · cases hi; exact n142
    · cases hi; exact n143
    · cases hi; exact n144
    · cases hi; exact hn
    · simp at hi)
  obtain ⟨k, Av⟩ := own_arr0 hfit [.ref x1, .ref x2, .ref x3] .null eV n102 n104 (by decide) rfl (fun i v hi => by
    rcases i with _ | _ | _ | i
    · cases hi; exact eqv_r e1' n105
    · cases hi; exact eqv_r e2' n107
    · cases hi; exact eqv_r e3' n109
    · simp at hi)
  have En : Enum3 s x1 x2 x3 vs m1 m2 m3 k := ⟨Sta.start e1' (Or.inr ⟨wC, (hw _ (List.mem_of_getElem? (i := 46) rfl))⟩), Sta.start e2' (Or.inr ⟨wC, (hw _ (List.mem_of_getElem? (i := 62) rfl))⟩), Sta.start e3' (Or.inr ⟨wC, (hw _ (List.mem_of_getElem? (i := 63) rfl))⟩), Sta.start eV (Or.inr ⟨wC, (hw _ (List.mem_of_getElem? (i := 54) rfl))⟩), Av, Exa.start eV n103, Fld.start (by rw [fld_at e1'] at eN1; exact eN1), Fld.start (by rw [fld_at e2'] at eN2; exact eN2), Fld.start (by rw [fld_at e3'] at eN3; exact eN3), T1, T2, T3⟩
  obtain ⟨n, o, h1, h2, h3, v, L, rfl, rfl, -, N, -, hq⟩ := rm0 l s _ hw hEL z0 Sc hz0 x1 x2 x3 vs m1 m2 m3 k En i0 i1 i2 i3 i4 p e ha hc hk s m _ below hf ((Spec.applies_iff_loose hf).mp happ).1 ⟨rfl, State.Warmed39.refl s, rfl, hCH, all0⟩ trivial
  refine ⟨n, _, h1, h2, h3, hpost _ _ _ _ _ _ ⟨Cond.after_iff.mpr rfl, Cond.after_iff.mpr (eq_i res_at (Term.int_eval (1)) rfl), trivial⟩ ⟨hq.1, hq.2.1, hq.2.2.1, (hq.2.2.2.sift fun y hy => Or.inr (N y hy)).mono (by decide) (by decide)⟩⟩
theorem main_1_1 : Claimed_1_1 := comes_1 fun _ _ _ _ _ _ h hF => ⟨h.1, hF⟩
theorem main_1_2 : Claimed_1_2 := comes_1 fun _ _ _ _ _ _ h hF => ⟨h.2.1, hF⟩
end Jvm.Pilot.@@N@@
namespace Jvm.Pilot.@@N@@
open Jvm Jvm.ClassFile Sem Op Lib Jvm.Free Jvm.Stand Jvm.Pilot.@@N@@.Jvm.D
/-! MADE BY PROGRAM (witnessworld.py) out of the Statement's table words and the real class files: 22 classes; the members and pool entries that the words name. The judged class is class 1, her method 1. -/
namespace start1
open Jvm.ClassFile
def u (s : String) : CpInfo := .utf8 (stringToUtf16 s)
/-- a pool by its gaps: so many unusable entries, then the entry; so many at the end -/
def gap : Nat → List CpInfo → List CpInfo
  | 0, r => r
  | n + 1, r => .unusable :: gap n r
def poolList (es : List (Nat × CpInfo)) (last : Nat) : List CpInfo := es.foldr (fun e r => gap e.1 (e.2 :: r)) (gap last [])
def pool (es : List (Nat × CpInfo)) (last : Nat) : Array CpInfo := ⟨poolList es last⟩
def fileOf (pool : Array CpInfo) (this : Nat) (attrs : Array Attribute := #[]) (ms : Array MethodInfo := #[]) (fl : Nat := 33) (sup : Nat := 0) (ifs : Array Nat := #[]) (fds : Array FieldInfo := #[]) : ClassFile where
  minorVersion := 0
  majorVersion := 65
  constantPool := pool
  accessFlags := fl
  thisClass := this
  superClass := sup
  interfaces := ifs
  fields := fds
  methods := ms
  attributes := attrs
def plain (name : String) (sup : Option ClassId) : Class where
  name := name
  kind := .ordinary
  loader := none
  accessFlags := 33
  super := sup
  interfaces := #[]
  cf := none
  fields := #[]
  methods := #[]
  instanceTypes := #[]
  staticTypes := #[]
  resolved := #[]
  callSites := []
  init := .initialized
  statics := none
  mirror := none

def pool0 : Array CpInfo := pool [(5, u "<init>"), (0, u "()V"), (1, .class_ 10), (1, u "java/lang/Object"), (85, u "clone"), (0, u "()Ljava/lang/Object;")] 26

def k0c0 : Code := { maxStack := 0, maxLocals := 1, code := object_method_1_code, exceptionTable := #[], attributes := #[] }
def k0m0 : Method := { name := "<init>", desc := "()V", sig := { parameters := [], returnType := none }, accessFlags := 1, code := some k0c0 }
def k0m1 : Method := { name := "clone", desc := "()Ljava/lang/Object;", sig := { parameters := [], returnType := some (.object "java/lang/Object") }, accessFlags := 260, code := none }
/-- java/lang/Object -/
def k0 : Class := { plain "java/lang/Object" none with
  accessFlags := 33
  interfaces := #[]
  cf := some (fileOf pool0 8 #[] #[{ accessFlags := 1, nameIndex := 5, descriptorIndex := 6, attributes := #[] }, { accessFlags := 260, nameIndex := 96, descriptorIndex := 97, attributes := #[] }] 33 0 #[] #[])
  fields := #[]
  methods := #[k0m0, k0m1]
  instanceTypes := #[]
  staticTypes := #[]
  resolved := Array.replicate 124 none
  statics := none }

def pool1 : Array CpInfo := pool [(2, .class_ 4), (1, u "java/lang/Object"), (0, u "<init>"), (0, u "()V"), (0, .integer 2147483647), (0, .class_ 9), (0, u "java/lang/String"), (0, .methodref 8 11), (0, .nameAndType 5 12), (0, u "([C)V"), (0, .string 14), (0, u ""), (0, .string 16), (0, u "base6"), (0, .string 18), (0, u "he"), (0, .string 20), (0, u "base64-unpadde"), (0, .string 22), (0, u "base64"), (0, .methodref 8 24), (0, .nameAndType 25 26), (0, u "equals"), (0, u "(Ljava/lang/Object;)Z"), (0, .fieldref 28 29), (0, .class_ 30), (0, .nameAndType 31 32), (0, u "com/example/carillon/carillon/store/Signing$Encoding"), (0, u "BASE64"), (0, u "Lcom/example/carillon/carillon/store/Signing$Encoding;"), (0, .string 34), (0, u "base64-unpadded"), (0, .fieldref 28 36), (0, .nameAndType 37 32), (0, u "BASE64_UNPADDED"), (0, .string 39), (0, u "hex"), (0, .fieldref 28 41), (0, .nameAndType 42 32), (0, u "HEX"), (0, .methodref 28 44), (0, .nameAndType 45 46), (0, u "fromCode"), (0, u "(Ljava/lang/String;)Lcom/example/carillon/carillon/store/Signing$Encoding;"), (0, .class_ 48), (0, u "com/example/carillon/carillon/store/EncodingFromCodePinLaw"), (2, u "law"), (0, u "(IIIII)Z")] 9

def k1m0 : Method := { name := "<init>", desc := "()V", sig := { parameters := [], returnType := none }, accessFlags := 1, code := none }
def k1c1 : Code := { maxStack := 5, maxLocals := 11, code := code, exceptionTable := #[], attributes := #[] }
def k1m1 : Method := { name := "law", desc := "(IIIII)Z", sig := { parameters := [.int, .int, .int, .int, .int], returnType := some .boolean }, accessFlags := 9, code := some k1c1 }
/-- com/example/carillon/carillon/store/EncodingFromCodePinLaw -/
def k1 : Class := { plain "com/example/carillon/carillon/store/EncodingFromCodePinLaw" (some 0) with
  accessFlags := 49
  interfaces := #[]
  cf := some (fileOf pool1 47 #[] #[{ accessFlags := 1, nameIndex := 5, descriptorIndex := 6, attributes := #[] }, { accessFlags := 9, nameIndex := 51, descriptorIndex := 52, attributes := #[] }] 49 2 #[] #[])
  fields := #[]
  methods := #[k1m0, k1m1]
  instanceTypes := #[]
  staticTypes := #[]
  resolved := Array.replicate 62 none
  statics := none }

def pool2 : Array CpInfo := pool [(1, .class_ 2), (0, u "java/io/Serializable"), (0, .class_ 4), (0, u "java/lang/Object")] 2

/-- java/io/Serializable -/
def k2 : Class := { plain "java/io/Serializable" (some 0) with
  accessFlags := 1537
  interfaces := #[]
  cf := some (fileOf pool2 1 #[] #[] 1537 3 #[] #[])
  fields := #[]
  methods := #[]
  instanceTypes := #[]
  staticTypes := #[]
  resolved := Array.replicate 7 none
  statics := none }

def pool3 : Array CpInfo := pool [(1, .class_ 2), (0, u "java/lang/Comparable"), (0, .class_ 4), (0, u "java/lang/Object")] 7

/-- java/lang/Comparable -/
def k3 : Class := { plain "java/lang/Comparable" (some 0) with
  accessFlags := 1537
  interfaces := #[]
  cf := some (fileOf pool3 1 #[] #[] 1537 3 #[] #[])
  fields := #[]
  methods := #[]
  instanceTypes := #[]
  staticTypes := #[]
  resolved := Array.replicate 12 none
  statics := none }

def pool4 : Array CpInfo := pool [(2, .class_ 4), (1, u "java/lang/CharSequence"), (42, .class_ 48), (0, u "java/lang/CharSequence$1CodePointIterator"), (10, .class_ 60), (0, u "java/lang/CharSequence$1CharIterator"), (5, .class_ 67), (0, u "java/lang/Object")] 63

/-- java/lang/CharSequence -/
def k4 : Class := { plain "java/lang/CharSequence" (some 0) with
  accessFlags := 1537
  interfaces := #[]
  cf := some (fileOf pool4 2 #[.nestMembers #[47, 59]] #[] 1537 66 #[] #[])
  fields := #[]
  methods := #[]
  instanceTypes := #[]
  staticTypes := #[]
  resolved := Array.replicate 131 none
  statics := none }

def pool5 : Array CpInfo := pool [(1, .class_ 2), (0, u "java/lang/constant/Constable"), (0, .class_ 4), (0, u "java/lang/Object")] 6

/-- java/lang/constant/Constable -/
def k5 : Class := { plain "java/lang/constant/Constable" (some 0) with
  accessFlags := 1537
  interfaces := #[]
  cf := some (fileOf pool5 1 #[] #[] 1537 3 #[] #[])
  fields := #[]
  methods := #[]
  instanceTypes := #[]
  staticTypes := #[]
  resolved := Array.replicate 11 none
  statics := none }

def pool6 : Array CpInfo := pool [(1, .class_ 2), (0, u "java/lang/constant/ConstantDesc"), (0, .class_ 4), (0, u "java/lang/Object")] 32

/-- java/lang/constant/ConstantDesc -/
def k6 : Class := { plain "java/lang/constant/ConstantDesc" (some 0) with
  accessFlags := 1537
  interfaces := #[]
  cf := some (fileOf pool6 1 #[] #[] 1537 3 #[] #[])
  fields := #[]
  methods := #[]
  instanceTypes := #[]
  staticTypes := #[]
  resolved := Array.replicate 37 none
  statics := none }

def pool7 : Array CpInfo := pool [(1, .methodref 2 3), (0, .class_ 4), (0, .nameAndType 5 6), (0, u "java/lang/Object"), (0, u "<init>"), (0, u "()V"), (2, .fieldref 10 11), (0, .class_ 12), (0, .nameAndType 13 14), (0, u "java/lang/String"), (0, u "value"), (0, u "[B"), (0, .fieldref 10 16), (0, .nameAndType 17 18), (0, u "coder"), (0, u "B"), (2, u "hash"), (0, u "I"), (2, u "hashIsZero"), (0, u "Z"), (0, .methodref 10 28), (0, .nameAndType 5 29), (0, u "([CIILjava/lang/Void;)V"), (8, .fieldref 10 39), (0, .nameAndType 40 26), (0, u "COMPACT_STRINGS"), (1, .class_ 44), (1, u "java/lang/StringUTF16"), (0, u "compress"), (1, .methodref 42 48), (0, .nameAndType 49 50), (0, u "coderFromArrayLen"), (0, u "([BI)B"), (56, .class_ 109), (1, u "java/lang/StringLatin1"), (67, .methodref 42 178), (0, .nameAndType 45 179), (0, u "([CII)[B"), (361, .methodref 107 542), (0, .nameAndType 543 544), (0, u "equals"), (0, u "([B[B)Z"), (28, u "(Ljava/lang/Object;)Z"), (1, .class_ 576), (0, u "java/lang/CharSequence"), (22, u "CASE_INSENSITIVE_ORDER"), (0, u "Ljava/util/Comparator;"), (409, u "([C)V"), (90, u "serialPersistentFields"), (0, u "[Ljava/io/ObjectStreamField;"), (0, .class_ 1104), (0, u "java/lang/String$CaseInsensitiveComparator"), (1, .class_ 1107), (0, u "java/io/Serializable"), (0, .class_ 1109), (0, u "java/lang/Comparable"), (0, .class_ 1111), (0, u "java/lang/constant/Constable"), (0, .class_ 1113), (0, u "java/lang/constant/ConstantDesc"), (2, u "serialVersionUID"), (0, u "J"), (3, u "REPL"), (0, u "C"), (2, u "LATIN1"), (1, u "UTF16")] 323

def k7m0 : Method := { name := "<init>", desc := "()V", sig := { parameters := [], returnType := none }, accessFlags := 1, code := none }
def k7c1 : Code := { maxStack := 5, maxLocals := 2, code := jdk_42_method_3_code, exceptionTable := #[], attributes := #[] }
def k7m1 : Method := { name := "<init>", desc := "([C)V", sig := { parameters := [(.array .char)], returnType := none }, accessFlags := 1, code := some k7c1 }
def k7c2 : Code := { maxStack := 2, maxLocals := 3, code := jdk_42_method_66_code, exceptionTable := #[], attributes := #[] }
def k7m2 : Method := { name := "equals", desc := "(Ljava/lang/Object;)Z", sig := { parameters := [(.object "java/lang/Object")], returnType := some .boolean }, accessFlags := 1, code := some k7c2 }
def k7c3 : Code := { maxStack := 4, maxLocals := 6, code := jdk_42_method_149_code, exceptionTable := #[], attributes := #[] }
def k7m3 : Method := { name := "<init>", desc := "([CIILjava/lang/Void;)V", sig := { parameters := [(.array .char), .int, .int, (.object "java/lang/Void")], returnType := none }, accessFlags := 2, code := some k7c3 }
/-- java/lang/String -/
def k7 : Class := { plain "java/lang/String" (some 0) with
  accessFlags := 49
  interfaces := #[2, 3, 4, 5, 6]
  cf := some (fileOf pool7 10 #[.nestMembers #[1103]] #[{ accessFlags := 1, nameIndex := 5, descriptorIndex := 6, attributes := #[] }, { accessFlags := 1, nameIndex := 5, descriptorIndex := 1010, attributes := #[] }, { accessFlags := 1, nameIndex := 543, descriptorIndex := 573, attributes := #[] }, { accessFlags := 2, nameIndex := 5, descriptorIndex := 29, attributes := #[] }] 49 2 #[1106, 1108, 575, 1110, 1112] #[{ accessFlags := 18, nameIndex := 13, descriptorIndex := 14, attributes := #[] }, { accessFlags := 18, nameIndex := 17, descriptorIndex := 18, attributes := #[] }, { accessFlags := 2, nameIndex := 21, descriptorIndex := 22, attributes := #[] }, { accessFlags := 2, nameIndex := 25, descriptorIndex := 26, attributes := #[] }, { accessFlags := 26, nameIndex := 1116, descriptorIndex := 1117, attributes := #[] }, { accessFlags := 24, nameIndex := 40, descriptorIndex := 26, attributes := #[] }, { accessFlags := 26, nameIndex := 1101, descriptorIndex := 1102, attributes := #[] }, { accessFlags := 26, nameIndex := 1121, descriptorIndex := 1122, attributes := #[] }, { accessFlags := 25, nameIndex := 599, descriptorIndex := 600, attributes := #[] }, { accessFlags := 24, nameIndex := 1125, descriptorIndex := 18, attributes := #[] }, { accessFlags := 24, nameIndex := 1127, descriptorIndex := 18, attributes := #[] }])
  fields := #[{ name := "value", type := (.array .byte), accessFlags := 18, slot := 0, constantValue := 0 }, { name := "coder", type := .byte, accessFlags := 18, slot := 1, constantValue := 0 }, { name := "hash", type := .int, accessFlags := 2, slot := 2, constantValue := 0 }, { name := "hashIsZero", type := .boolean, accessFlags := 2, slot := 3, constantValue := 0 }, { name := "serialVersionUID", type := .long, accessFlags := 26, slot := 0, constantValue := 0 }, { name := "COMPACT_STRINGS", type := .boolean, accessFlags := 24, slot := 1, constantValue := 0 }, { name := "serialPersistentFields", type := (.array (.object "java/io/ObjectStreamField")), accessFlags := 26, slot := 2, constantValue := 0 }, { name := "REPL", type := .char, accessFlags := 26, slot := 3, constantValue := 0 }, { name := "CASE_INSENSITIVE_ORDER", type := (.object "java/util/Comparator"), accessFlags := 25, slot := 4, constantValue := 0 }, { name := "LATIN1", type := .byte, accessFlags := 24, slot := 5, constantValue := 0 }, { name := "UTF16", type := .byte, accessFlags := 24, slot := 6, constantValue := 0 }]
  methods := #[k7m0, k7m1, k7m2, k7m3]
  instanceTypes := #[(.array .byte), .byte, .int, .boolean]
  staticTypes := #[.long, .boolean, (.array (.object "java/io/ObjectStreamField")), .char, (.object "java/util/Comparator"), .byte, .byte]
  resolved := Array.replicate 1451 none
  statics := some 0 }

def pool8 : Array CpInfo := pool [(6, .class_ 8), (1, u "java/lang/Object"), (0, u "<init>"), (0, u "()V"), (1, .class_ 14), (1, u "java/lang/StringUTF16"), (31, u "$assertionsDisabled"), (0, u "Z"), (13, u "HI_BYTE_SHIFT"), (0, u "I"), (2, u "LO_BYTE_SHIFT"), (49, .methodref 12 116), (0, .nameAndType 117 118), (0, u "compress"), (0, u "([CI[BII)I"), (3, u "([CII)[B"), (138, u "coderFromArrayLen"), (0, u "([BI)B"), (106, .class_ 371), (1, u "java/lang/StringUTF16$LinesSpliterator"), (58, u "MAX_LENGTH"), (196, .class_ 628), (0, u "java/lang/StringUTF16$CodePointsSpliterator"), (0, .class_ 630), (0, u "java/lang/StringUTF16$CharsSpliterator")] 4

def k8m0 : Method := { name := "<init>", desc := "()V", sig := { parameters := [], returnType := none }, accessFlags := 0, code := none }
def k8c1 : Code := { maxStack := 2, maxLocals := 2, code := jdk_52_method_15_code, exceptionTable := #[], attributes := #[] }
def k8m1 : Method := { name := "coderFromArrayLen", desc := "([BI)B", sig := { parameters := [(.array .byte), .int], returnType := some .byte }, accessFlags := 8, code := some k8c1 }
def k8c2 : Code := { maxStack := 5, maxLocals := 6, code := jdk_52_method_16_code, exceptionTable := #[], attributes := #[] }
def k8m2 : Method := { name := "compress", desc := "([CII)[B", sig := { parameters := [(.array .char), .int, .int], returnType := some (.array .byte) }, accessFlags := 9, code := some k8c2 }
def k8c3 : Code := { maxStack := 3, maxLocals := 7, code := jdk_52_method_21_code, exceptionTable := #[], attributes := #[] }
def k8m3 : Method := { name := "compress", desc := "([CI[BII)I", sig := { parameters := [(.array .char), .int, (.array .byte), .int, .int], returnType := some .int }, accessFlags := 9, code := some k8c3 }
/-- java/lang/StringUTF16 -/
def k8 : Class := { plain "java/lang/StringUTF16" (some 0) with
  accessFlags := 48
  interfaces := #[]
  cf := some (fileOf pool8 12 #[.nestMembers #[627, 629, 369]] #[{ accessFlags := 0, nameIndex := 9, descriptorIndex := 10, attributes := #[] }, { accessFlags := 8, nameIndex := 261, descriptorIndex := 262, attributes := #[] }, { accessFlags := 9, nameIndex := 117, descriptorIndex := 122, attributes := #[] }, { accessFlags := 9, nameIndex := 117, descriptorIndex := 118, attributes := #[] }] 48 6 #[] #[{ accessFlags := 26, nameIndex := 61, descriptorIndex := 62, attributes := #[] }, { accessFlags := 26, nameIndex := 65, descriptorIndex := 62, attributes := #[] }, { accessFlags := 24, nameIndex := 430, descriptorIndex := 62, attributes := #[] }, { accessFlags := 4120, nameIndex := 46, descriptorIndex := 47, attributes := #[] }])
  fields := #[{ name := "HI_BYTE_SHIFT", type := .int, accessFlags := 26, slot := 0, constantValue := 0 }, { name := "LO_BYTE_SHIFT", type := .int, accessFlags := 26, slot := 1, constantValue := 0 }, { name := "MAX_LENGTH", type := .int, accessFlags := 24, slot := 2, constantValue := 0 }, { name := "$assertionsDisabled", type := .boolean, accessFlags := 4120, slot := 3, constantValue := 0 }]
  methods := #[k8m0, k8m1, k8m2, k8m3]
  instanceTypes := #[]
  staticTypes := #[.int, .int, .int, .boolean]
  resolved := Array.replicate 635 none
  statics := none }

def pool9 : Array CpInfo := pool [(4, .class_ 6), (1, u "java/lang/Object"), (0, u "<init>"), (0, u "()V"), (5, .class_ 16), (1, u "java/lang/StringLatin1"), (104, u "$assertionsDisabled"), (0, u "Z"), (98, .class_ 223), (1, u "java/lang/StringLatin1$LinesSpliterator"), (57, u "equals"), (0, u "([B[B)Z"), (107, .class_ 391), (0, u "java/lang/StringLatin1$CharsSpliterator")] 3

def k9m0 : Method := { name := "<init>", desc := "()V", sig := { parameters := [], returnType := none }, accessFlags := 0, code := none }
def k9c1 : Code := { maxStack := 3, maxLocals := 3, code := jdk_43_method_13_code, exceptionTable := #[], attributes := #[] }
def k9m1 : Method := { name := "equals", desc := "([B[B)Z", sig := { parameters := [(.array .byte), (.array .byte)], returnType := some .boolean }, accessFlags := 9, code := some k9c1 }
/-- java/lang/StringLatin1 -/
def k9 : Class := { plain "java/lang/StringLatin1" (some 0) with
  accessFlags := 48
  interfaces := #[]
  cf := some (fileOf pool9 14 #[.nestMembers #[390, 221]] #[{ accessFlags := 0, nameIndex := 7, descriptorIndex := 8, attributes := #[] }, { accessFlags := 9, nameIndex := 281, descriptorIndex := 282, attributes := #[] }] 48 4 #[] #[{ accessFlags := 4120, nameIndex := 121, descriptorIndex := 122, attributes := #[] }])
  fields := #[{ name := "$assertionsDisabled", type := .boolean, accessFlags := 4120, slot := 0, constantValue := 0 }]
  methods := #[k9m0, k9m1]
  instanceTypes := #[]
  staticTypes := #[.boolean]
  resolved := Array.replicate 395 none
  statics := none }

def pool10 : Array CpInfo := pool [(2, .class_ 4), (1, u "java/lang/Enum"), (0, u "name"), (0, u "Ljava/lang/String;"), (2, u "ordinal"), (0, u "I"), (1, .class_ 14), (1, u "java/lang/Object"), (4, u "hash"), (86, .class_ 108), (1, u "java/lang/Enum$EnumDesc"), (2, .class_ 112), (0, u "java/lang/constant/Constable"), (0, .class_ 114), (0, u "java/lang/Comparable"), (0, .class_ 116), (0, u "java/io/Serializable")] 87

/-- java/lang/Enum -/
def k10 : Class := { plain "java/lang/Enum" (some 0) with
  accessFlags := 1057
  interfaces := #[5, 3, 2]
  cf := some (fileOf pool10 2 #[.nestMembers #[106]] #[] 1057 12 #[111, 113, 115] #[{ accessFlags := 18, nameIndex := 5, descriptorIndex := 6, attributes := #[] }, { accessFlags := 18, nameIndex := 9, descriptorIndex := 10, attributes := #[] }, { accessFlags := 2, nameIndex := 19, descriptorIndex := 10, attributes := #[] }])
  fields := #[{ name := "name", type := (.object "java/lang/String"), accessFlags := 18, slot := 0, constantValue := 0 }, { name := "ordinal", type := .int, accessFlags := 18, slot := 1, constantValue := 0 }, { name := "hash", type := .int, accessFlags := 2, slot := 2, constantValue := 0 }]
  methods := #[]
  instanceTypes := #[(.object "java/lang/String"), .int, .int]
  staticTypes := #[]
  resolved := Array.replicate 204 none
  statics := none }

def pool11 : Array CpInfo := pool [(1, .class_ 2), (0, u "com/example/carillon/carillon/store/Signing$Encoding"), (2, u "BASE64"), (0, u "Lcom/example/carillon/carillon/store/Signing$Encoding;"), (2, u "BASE64_UNPADDED"), (2, u "HEX"), (0, .fieldref 1 14), (0, .nameAndType 15 16), (0, u "$VALUES"), (0, u "[Lcom/example/carillon/carillon/store/Signing$Encoding;"), (0, .methodref 18 19), (0, .class_ 16), (0, .nameAndType 20 21), (0, u "clone"), (0, u "()Ljava/lang/Object;"), (1, .class_ 25), (1, u "java/lang/Enum"), (6, .fieldref 1 33), (0, .nameAndType 34 35), (0, u "code"), (0, u "Ljava/lang/String;"), (2, u "writer"), (0, u "Ljava/util/function/Function;"), (6, .class_ 47), (0, u "java/lang/String"), (0, .methodref 1 49), (0, .nameAndType 50 51), (0, u "values"), (0, u "()[Lcom/example/carillon/carillon/store/Signing$Encoding;"), (0, .methodref 46 53), (0, .nameAndType 54 55), (0, u "equals"), (0, u "(Ljava/lang/Object;)Z"), (47, u "(Ljava/lang/String;)Lcom/example/carillon/carillon/store/Signing$Encoding;"), (5, u "fromCode"), (7, .class_ 118), (0, u "com/example/carillon/carillon/store/Signing")] 26

def k11c0 : Code := { maxStack := 1, maxLocals := 0, code := prog_46_method_1_code, exceptionTable := #[], attributes := #[] }
def k11m0 : Method := { name := "values", desc := "()[Lcom/example/carillon/carillon/store/Signing$Encoding;", sig := { parameters := [], returnType := some (.array (.object "com/example/carillon/carillon/store/Signing$Encoding")) }, accessFlags := 9, code := some k11c0 }
def k11c1 : Code := { maxStack := 2, maxLocals := 5, code := prog_46_method_6_code, exceptionTable := #[], attributes := #[] }
def k11m1 : Method := { name := "fromCode", desc := "(Ljava/lang/String;)Lcom/example/carillon/carillon/store/Signing$Encoding;", sig := { parameters := [(.object "java/lang/String")], returnType := some (.object "com/example/carillon/carillon/store/Signing$Encoding") }, accessFlags := 9, code := some k11c1 }
/-- com/example/carillon/carillon/store/Signing$Encoding -/
def k11 : Class := { plain "com/example/carillon/carillon/store/Signing$Encoding" (some 10) with
  accessFlags := 16433
  interfaces := #[]
  cf := some (fileOf pool11 1 #[.nestHost 117] #[{ accessFlags := 9, nameIndex := 50, descriptorIndex := 51, attributes := #[] }, { accessFlags := 9, nameIndex := 109, descriptorIndex := 103, attributes := #[] }] 16433 23 #[] #[{ accessFlags := 16409, nameIndex := 5, descriptorIndex := 6, attributes := #[] }, { accessFlags := 16409, nameIndex := 9, descriptorIndex := 6, attributes := #[] }, { accessFlags := 16409, nameIndex := 12, descriptorIndex := 6, attributes := #[] }, { accessFlags := 18, nameIndex := 34, descriptorIndex := 35, attributes := #[] }, { accessFlags := 18, nameIndex := 38, descriptorIndex := 39, attributes := #[] }, { accessFlags := 4122, nameIndex := 15, descriptorIndex := 16, attributes := #[] }])
  fields := #[{ name := "BASE64", type := (.object "com/example/carillon/carillon/store/Signing$Encoding"), accessFlags := 16409, slot := 0, constantValue := 0 }, { name := "BASE64_UNPADDED", type := (.object "com/example/carillon/carillon/store/Signing$Encoding"), accessFlags := 16409, slot := 1, constantValue := 0 }, { name := "HEX", type := (.object "com/example/carillon/carillon/store/Signing$Encoding"), accessFlags := 16409, slot := 2, constantValue := 0 }, { name := "code", type := (.object "java/lang/String"), accessFlags := 18, slot := 3, constantValue := 0 }, { name := "writer", type := (.object "java/util/function/Function"), accessFlags := 18, slot := 4, constantValue := 0 }, { name := "$VALUES", type := (.array (.object "com/example/carillon/carillon/store/Signing$Encoding")), accessFlags := 4122, slot := 3, constantValue := 0 }]
  methods := #[k11m0, k11m1]
  instanceTypes := #[(.object "java/lang/String"), .int, .int, (.object "java/lang/String"), (.object "java/util/function/Function")]
  staticTypes := #[(.object "com/example/carillon/carillon/store/Signing$Encoding"), (.object "com/example/carillon/carillon/store/Signing$Encoding"), (.object "com/example/carillon/carillon/store/Signing$Encoding"), (.array (.object "com/example/carillon/carillon/store/Signing$Encoding"))]
  resolved := Array.replicate 145 none
  statics := some 1 }

def pool12 : Array CpInfo := pool [(1, .class_ 2), (0, u "java/lang/Cloneable"), (0, .class_ 4), (0, u "java/lang/Object")] 2

/-- java/lang/Cloneable -/
def k12 : Class := { plain "java/lang/Cloneable" (some 0) with
  accessFlags := 1537
  interfaces := #[]
  cf := some (fileOf pool12 1 #[] #[] 1537 3 #[] #[])
  fields := #[]
  methods := #[]
  instanceTypes := #[]
  staticTypes := #[]
  resolved := Array.replicate 7 none
  statics := none }

def pool13 : Array CpInfo := pool [(2, .class_ 4), (1, u "java/lang/Object"), (0, u "<init>"), (0, u "()V"), (17, .class_ 26), (1, u "jdk/internal/util/Preconditions"), (28, .class_ 56), (0, u "jdk/internal/util/Preconditions$4"), (57, .class_ 115), (0, u "jdk/internal/util/Preconditions$1"), (7, u "SIOOBE_FORMATTER"), (0, u "Ljava/util/function/BiFunction;"), (0, .class_ 126), (0, u "jdk/internal/util/Preconditions$2"), (3, u "AIOOBE_FORMATTER"), (0, .class_ 132), (0, u "jdk/internal/util/Preconditions$3"), (3, u "IOOBE_FORMATTER")] 57

def k13m0 : Method := { name := "<init>", desc := "()V", sig := { parameters := [], returnType := none }, accessFlags := 1, code := none }
/-- jdk/internal/util/Preconditions -/
def k13 : Class := { plain "jdk/internal/util/Preconditions" (some 0) with
  accessFlags := 33
  interfaces := #[]
  cf := some (fileOf pool13 24 #[.nestMembers #[55, 131, 125, 114]] #[{ accessFlags := 1, nameIndex := 5, descriptorIndex := 6, attributes := #[] }] 33 2 #[] #[{ accessFlags := 25, nameIndex := 123, descriptorIndex := 124, attributes := #[] }, { accessFlags := 25, nameIndex := 130, descriptorIndex := 124, attributes := #[] }, { accessFlags := 25, nameIndex := 136, descriptorIndex := 124, attributes := #[] }])
  fields := #[{ name := "SIOOBE_FORMATTER", type := (.object "java/util/function/BiFunction"), accessFlags := 25, slot := 0, constantValue := 0 }, { name := "AIOOBE_FORMATTER", type := (.object "java/util/function/BiFunction"), accessFlags := 25, slot := 1, constantValue := 0 }, { name := "IOOBE_FORMATTER", type := (.object "java/util/function/BiFunction"), accessFlags := 25, slot := 2, constantValue := 0 }]
  methods := #[k13m0]
  instanceTypes := #[]
  staticTypes := #[(.object "java/util/function/BiFunction"), (.object "java/util/function/BiFunction"), (.object "java/util/function/BiFunction")]
  resolved := Array.replicate 194 none
  statics := some 2 }

def pool14 : Array CpInfo := pool [(9, u "<init>"), (6, .class_ 18), (1, u "java/lang/Object"), (0, u "()V"), (1, .class_ 23), (1, u "jdk/internal/util/ArraysSupport"), (0, u "LOG2_ARRAY_LONG_INDEX_SCALE"), (0, u "I"), (2, u "U"), (0, u "Ljdk/internal/misc/Unsafe;"), (8, u "BIG_ENDIAN"), (0, u "Z"), (8, u "LOG2_BYTE_BIT_SIZE"), (4, u "LOG2_ARRAY_INT_INDEX_SCALE"), (54, u "JLA"), (0, u "Ljdk/internal/access/JavaLangAccess;"), (11, u "LOG2_ARRAY_BOOLEAN_INDEX_SCALE"), (9, u "LOG2_ARRAY_BYTE_INDEX_SCALE"), (5, u "LOG2_ARRAY_CHAR_INDEX_SCALE"), (5, u "LOG2_ARRAY_SHORT_INDEX_SCALE"), (18, u "LOG2_ARRAY_FLOAT_INDEX_SCALE"), (24, u "LOG2_ARRAY_DOUBLE_INDEX_SCALE"), (89, u "T_BOOLEAN"), (2, u "T_CHAR"), (1, u "T_FLOAT"), (1, u "T_DOUBLE"), (1, u "T_BYTE"), (1, u "T_SHORT"), (1, u "T_INT"), (1, u "T_LONG"), (1, u "SOFT_MAX_ARRAY_LENGTH")] 83

def k14m0 : Method := { name := "<init>", desc := "()V", sig := { parameters := [], returnType := none }, accessFlags := 2, code := none }
/-- jdk/internal/util/ArraysSupport -/
def k14 : Class := { plain "jdk/internal/util/ArraysSupport" (some 0) with
  accessFlags := 33
  interfaces := #[]
  cf := some (fileOf pool14 21 #[] #[{ accessFlags := 2, nameIndex := 9, descriptorIndex := 19, attributes := #[] }] 33 16 #[] #[{ accessFlags := 24, nameIndex := 28, descriptorIndex := 29, attributes := #[] }, { accessFlags := 26, nameIndex := 38, descriptorIndex := 39, attributes := #[] }, { accessFlags := 25, nameIndex := 121, descriptorIndex := 25, attributes := #[] }, { accessFlags := 25, nameIndex := 131, descriptorIndex := 25, attributes := #[] }, { accessFlags := 25, nameIndex := 137, descriptorIndex := 25, attributes := #[] }, { accessFlags := 25, nameIndex := 143, descriptorIndex := 25, attributes := #[] }, { accessFlags := 25, nameIndex := 53, descriptorIndex := 25, attributes := #[] }, { accessFlags := 25, nameIndex := 24, descriptorIndex := 25, attributes := #[] }, { accessFlags := 25, nameIndex := 162, descriptorIndex := 25, attributes := #[] }, { accessFlags := 25, nameIndex := 187, descriptorIndex := 25, attributes := #[] }, { accessFlags := 26, nameIndex := 48, descriptorIndex := 25, attributes := #[] }, { accessFlags := 25, nameIndex := 277, descriptorIndex := 25, attributes := #[] }, { accessFlags := 25, nameIndex := 280, descriptorIndex := 25, attributes := #[] }, { accessFlags := 25, nameIndex := 282, descriptorIndex := 25, attributes := #[] }, { accessFlags := 25, nameIndex := 284, descriptorIndex := 25, attributes := #[] }, { accessFlags := 25, nameIndex := 286, descriptorIndex := 25, attributes := #[] }, { accessFlags := 25, nameIndex := 288, descriptorIndex := 25, attributes := #[] }, { accessFlags := 25, nameIndex := 290, descriptorIndex := 25, attributes := #[] }, { accessFlags := 25, nameIndex := 292, descriptorIndex := 25, attributes := #[] }, { accessFlags := 26, nameIndex := 108, descriptorIndex := 109, attributes := #[] }, { accessFlags := 25, nameIndex := 294, descriptorIndex := 25, attributes := #[] }])
  fields := #[{ name := "U", type := (.object "jdk/internal/misc/Unsafe"), accessFlags := 24, slot := 0, constantValue := 0 }, { name := "BIG_ENDIAN", type := .boolean, accessFlags := 26, slot := 1, constantValue := 0 }, { name := "LOG2_ARRAY_BOOLEAN_INDEX_SCALE", type := .int, accessFlags := 25, slot := 2, constantValue := 0 }, { name := "LOG2_ARRAY_BYTE_INDEX_SCALE", type := .int, accessFlags := 25, slot := 3, constantValue := 0 }, { name := "LOG2_ARRAY_CHAR_INDEX_SCALE", type := .int, accessFlags := 25, slot := 4, constantValue := 0 }, { name := "LOG2_ARRAY_SHORT_INDEX_SCALE", type := .int, accessFlags := 25, slot := 5, constantValue := 0 }, { name := "LOG2_ARRAY_INT_INDEX_SCALE", type := .int, accessFlags := 25, slot := 6, constantValue := 0 }, { name := "LOG2_ARRAY_LONG_INDEX_SCALE", type := .int, accessFlags := 25, slot := 7, constantValue := 0 }, { name := "LOG2_ARRAY_FLOAT_INDEX_SCALE", type := .int, accessFlags := 25, slot := 8, constantValue := 0 }, { name := "LOG2_ARRAY_DOUBLE_INDEX_SCALE", type := .int, accessFlags := 25, slot := 9, constantValue := 0 }, { name := "LOG2_BYTE_BIT_SIZE", type := .int, accessFlags := 26, slot := 10, constantValue := 0 }, { name := "T_BOOLEAN", type := .int, accessFlags := 25, slot := 11, constantValue := 0 }, { name := "T_CHAR", type := .int, accessFlags := 25, slot := 12, constantValue := 0 }, { name := "T_FLOAT", type := .int, accessFlags := 25, slot := 13, constantValue := 0 }, { name := "T_DOUBLE", type := .int, accessFlags := 25, slot := 14, constantValue := 0 }, { name := "T_BYTE", type := .int, accessFlags := 25, slot := 15, constantValue := 0 }, { name := "T_SHORT", type := .int, accessFlags := 25, slot := 16, constantValue := 0 }, { name := "T_INT", type := .int, accessFlags := 25, slot := 17, constantValue := 0 }, { name := "T_LONG", type := .int, accessFlags := 25, slot := 18, constantValue := 0 }, { name := "JLA", type := (.object "jdk/internal/access/JavaLangAccess"), accessFlags := 26, slot := 19, constantValue := 0 }, { name := "SOFT_MAX_ARRAY_LENGTH", type := .int, accessFlags := 25, slot := 20, constantValue := 0 }]
  methods := #[k14m0]
  instanceTypes := #[]
  staticTypes := #[(.object "jdk/internal/misc/Unsafe"), .boolean, .int, .int, .int, .int, .int, .int, .int, .int, .int, .int, .int, .int, .int, .int, .int, .int, .int, (.object "jdk/internal/access/JavaLangAccess"), .int]
  resolved := Array.replicate 378 none
  statics := none }

/-- the primitive byte -/
def k15 : Class := { plain "byte" none with kind := .primitive 'B', accessFlags := 0x411 }
/-- [B -/
def k16 : Class := { plain "[B" (some 0) with kind := .array 15 .byte, interfaces := #[12, 2], accessFlags := 1041 }

/-- the primitive char -/
def k17 : Class := { plain "char" none with kind := .primitive 'C', accessFlags := 0x411 }
/-- [C -/
def k18 : Class := { plain "[C" (some 0) with kind := .array 17 .char, interfaces := #[12, 2], accessFlags := 1041 }

/-- the primitive int -/
def k19 : Class := { plain "int" none with kind := .primitive 'I', accessFlags := 0x411 }
/-- [I -/
def k20 : Class := { plain "[I" (some 0) with kind := .array 19 .int, interfaces := #[12, 2], accessFlags := 1041 }

/-- [Lcom/example/carillon/carillon/store/Signing$Encoding; -/
def k21 : Class := { plain "[Lcom/example/carillon/carillon/store/Signing$Encoding;" (some 0) with kind := .array 11 (.object "com/example/carillon/carillon/store/Signing$Encoding"), interfaces := #[12, 2], accessFlags := 1041 }

def heap : Heap := #[{ cls := 7, slots := #[.long 0, .int 1, .null, .int 0, .null, .int 0, .int 0], vm := .statics 7 },
  { cls := 11, slots := #[.ref 6, .ref 9, .ref 12, .ref 3], vm := .statics 11 },
  { cls := 13, slots := #[.null, .null, .null], vm := .statics 13 },
  { cls := 21, slots := #[.ref 6, .ref 9, .ref 12], vm := .none },
  { cls := 16, slots := #[.int 98, .int 97, .int 115, .int 101, .int 54, .int 52], vm := .none },
  { cls := 7, slots := #[.ref 4, .int 0, .int 0, .int 0], vm := .none },
  { cls := 11, slots := #[.null, .int 0, .int 0, .ref 5, .null], vm := .none },
  { cls := 16, slots := #[.int 98, .int 97, .int 115, .int 101, .int 54, .int 52, .int 45, .int 117, .int 110, .int 112, .int 97, .int 100, .int 100, .int 101, .int 100], vm := .none },
  { cls := 7, slots := #[.ref 7, .int 0, .int 0, .int 0], vm := .none },
  { cls := 11, slots := #[.null, .int 1, .int 0, .ref 8, .null], vm := .none },
  { cls := 16, slots := #[.int 104, .int 101, .int 120], vm := .none },
  { cls := 7, slots := #[.ref 10, .int 0, .int 0, .int 0], vm := .none },
  { cls := 11, slots := #[.null, .int 2, .int 0, .ref 11, .null], vm := .none }]
def classes : Array Class := #[k0, k1, k2, k3, k4, k5, k6, k7, k8, k9, k10, k11, k12, k13, k14, k15, k16, k17, k18, k19, k20, k21]
def interned : List (Array UInt16 × Addr) := []
def slotsUsed : Nat := 68
def theMethod : MethodId := ⟨1, 1⟩
def args0 : Array Value := #[.int 0, .int 3, .int 65, .int 66, .int 67]
def aboutOver (below : List Frame) : State where
  vm := { classes := classes, interned := interned.toArray }
  heap := heap
  slotsUsed := slotsUsed
  threads := #[{ frames := .invoking theMethod args0 :: below }]
def below0 : List Frame := [.native { method := ⟨0, 0⟩, args := #[] }]
def about1 : State := aboutOver below0
def p0 : Program := .bare "" "" ""
def e0 : Env := launch0.env 0 0 0
theorem w_frames : about1.frames = Frame.invoking theMethod args0 :: below0 := rfl
set_option maxRecDepth 65536 in
theorem w_args : argsFit about1.vm theMethod args0 = true := by decide +kernel
set_option maxRecDepth 65536 in
theorem w_heap : heapFits about1 = true := by decide +kernel
set_option maxRecDepth 65536 in
theorem w_runnable : about1.curStatus? = some .runnable := by decide +kernel
set_option maxRecDepth 65536 in
theorem w_alone : about1.alone = true := by decide +kernel
set_option maxRecDepth 65536 in
theorem w_named : about1.methodNamed? x = some theMethod := by decide +kernel
set_option maxRecDepth 65536 in
theorem w_hears : about1.hears theMethod below0 = true := by decide +kernel
set_option maxRecDepth 65536 in
theorem w_ripe : about1.ripe theMethod args0 below0 = true := by decide +kernel
theorem w_running : about1.status = .running := rfl
set_option maxRecDepth 65536 in
theorem w_room : about1.hasRoom e0.platform room_1 = true :=
  launch0.hasRoom_least _ room_1 (by decide +kernel) (by decide +kernel) (by decide +kernel) (by decide +kernel) (by decide +kernel) (by decide +kernel)
theorem allAtoms_all (ts : List Jvm.Cond) (a : Array Jvm.Value) (st : Jvm.State) : (allAtoms ts).before a st = ts.all (fun c => c.before a st) := by
  induction ts with
  | nil => rfl
  | cons c t ih =>
    show (Jvm.Cond.and c (allAtoms t)).before a st = _
    rw [Jvm.Cond.before_and, ih, List.all_cons]
def words1 : List Jvm.Cond := Jvm.Cond.code x code maxLocals ret :: tables_1
/-- a 'code' word, met by the world's own term for the bytes: nothing is compared byte by byte -/
theorem code_word {y : MethodName} {bytes : ByteArray} {mx : Nat} {rt : Option FieldType} {a : Array Value} {s : State} {m : MethodId} {meth : Method} {c : Code} (h1 : s.methodNamed? y = some m) (h2 : s.vm.method? m = some meth) (h3 : meth.code = some c) (h4 : c.code = bytes)
    (h5 : (c.maxLocals == mx && c.exceptionTable.isEmpty && decide (c.maxStack ≤ mostOperands) && decide (meth.sig.returnType = rt) && !meth.locks && decide (parseMethodDescriptor y.desc = some meth.sig)) = true) : (Jvm.Cond.code y bytes mx rt).before a s = true := by
  simp only [Bool.and_eq_true, beq_iff_eq, Bool.not_eq_true', decide_eq_true_eq] at h5
  obtain ⟨⟨⟨⟨⟨g1, g2⟩, g3⟩, g4⟩, g5⟩, g6⟩ := h5
  simp [Cond.before, Cond.holds, Cond.value, h1, h2, h3, h4, g1, g2, g3, g4, g5, g6]
def isCode : Jvm.Cond → Bool
  | .code _ _ _ _ => true
  | _ => false
theorem all_split {L : List Jvm.Cond} {P : Jvm.Cond → Bool} (h1 : L.all (fun c => isCode c || P c) = true) (h2 : ∀ c ∈ L.filter isCode, P c = true) : L.all P = true := by
  refine List.all_eq_true.mpr fun c hc => ?_
  have h := List.all_eq_true.mp h1 c hc
  rcases Bool.eq_false_or_eq_true (isCode c) with hi | hi
  · exact h2 c (List.mem_filter.mpr ⟨hc, hi⟩)
  · simpa [hi] using h
set_option maxRecDepth 65536 in
theorem w_c0 : (Jvm.Cond.code x code maxLocals ret).before args0 about1 = true := code_word (m := ⟨1, 1⟩) (meth := k1m1) (c := k1c1) (by decide +kernel) rfl rfl rfl (by decide +kernel)
set_option maxRecDepth 65536 in
theorem w_c1 : (Jvm.Cond.code ({ cls := "java/lang/String", name := "<init>", desc := "([C)V" } : Jvm.MethodName) jdk_42_method_3_code (2 : Nat) (Option.none : Option Jvm.ClassFile.FieldType)).before args0 about1 = true := code_word (m := ⟨7, 1⟩) (meth := k7m1) (c := k7c1) (by decide +kernel) rfl rfl rfl (by decide +kernel)
set_option maxRecDepth 65536 in
theorem w_c2 : (Jvm.Cond.code ({ cls := "java/lang/String", name := "<init>", desc := "([CIILjava/lang/Void;)V" } : Jvm.MethodName) jdk_42_method_149_code (6 : Nat) (Option.none : Option Jvm.ClassFile.FieldType)).before args0 about1 = true := code_word (m := ⟨7, 3⟩) (meth := k7m3) (c := k7c3) (by decide +kernel) rfl rfl rfl (by decide +kernel)
set_option maxRecDepth 65536 in
theorem w_c3 : (Jvm.Cond.code ({ cls := "java/lang/Object", name := "<init>", desc := "()V" } : Jvm.MethodName) object_method_1_code (1 : Nat) (Option.none : Option Jvm.ClassFile.FieldType)).before args0 about1 = true := code_word (m := ⟨0, 0⟩) (meth := k0m0) (c := k0c0) (by decide +kernel) rfl rfl rfl (by decide +kernel)
set_option maxRecDepth 65536 in
theorem w_c4 : (Jvm.Cond.code ({ cls := "java/lang/StringUTF16", name := "compress", desc := "([CII)[B" } : Jvm.MethodName) jdk_52_method_16_code (6 : Nat) (Option.some (Jvm.ClassFile.FieldType.array Jvm.ClassFile.FieldType.byte))).before args0 about1 = true := code_word (m := ⟨8, 2⟩) (meth := k8m2) (c := k8c2) (by decide +kernel) rfl rfl rfl (by decide +kernel)
set_option maxRecDepth 65536 in
theorem w_c5 : (Jvm.Cond.code ({ cls := "java/lang/StringUTF16", name := "compress", desc := "([CI[BII)I" } : Jvm.MethodName) jdk_52_method_21_code (7 : Nat) (Option.some Jvm.ClassFile.FieldType.int)).before args0 about1 = true := code_word (m := ⟨8, 3⟩) (meth := k8m3) (c := k8c3) (by decide +kernel) rfl rfl rfl (by decide +kernel)
set_option maxRecDepth 65536 in
theorem w_c6 : (Jvm.Cond.code ({ cls := "java/lang/StringUTF16", name := "coderFromArrayLen", desc := "([BI)B" } : Jvm.MethodName) jdk_52_method_15_code (2 : Nat) (Option.some Jvm.ClassFile.FieldType.byte)).before args0 about1 = true := code_word (m := ⟨8, 1⟩) (meth := k8m1) (c := k8c1) (by decide +kernel) rfl rfl rfl (by decide +kernel)
set_option maxRecDepth 65536 in
theorem w_c7 : (Jvm.Cond.code ({ cls := "java/lang/String", name := "equals", desc := "(Ljava/lang/Object;)Z" } : Jvm.MethodName) jdk_42_method_66_code (3 : Nat) (Option.some Jvm.ClassFile.FieldType.boolean)).before args0 about1 = true := code_word (m := ⟨7, 2⟩) (meth := k7m2) (c := k7c2) (by decide +kernel) rfl rfl rfl (by decide +kernel)
set_option maxRecDepth 65536 in
theorem w_c8 : (Jvm.Cond.code ({ cls := "java/lang/StringLatin1", name := "equals", desc := "([B[B)Z" } : Jvm.MethodName) jdk_43_method_13_code (3 : Nat) (Option.some Jvm.ClassFile.FieldType.boolean)).before args0 about1 = true := code_word (m := ⟨9, 1⟩) (meth := k9m1) (c := k9c1) (by decide +kernel) rfl rfl rfl (by decide +kernel)
set_option maxRecDepth 65536 in
theorem w_c9 : (Jvm.Cond.code ({ cls := "com/example/carillon/carillon/store/Signing$Encoding", name := "fromCode", desc := "(Ljava/lang/String;)Lcom/example/carillon/carillon/store/Signing$Encoding;" } : Jvm.MethodName) prog_46_method_6_code (5 : Nat) (Option.some (Jvm.ClassFile.FieldType.object "com/example/carillon/carillon/store/Signing$Encoding"))).before args0 about1 = true := code_word (m := ⟨11, 1⟩) (meth := k11m1) (c := k11c1) (by decide +kernel) rfl rfl rfl (by decide +kernel)
set_option maxRecDepth 65536 in
theorem w_c10 : (Jvm.Cond.code ({ cls := "com/example/carillon/carillon/store/Signing$Encoding", name := "values", desc := "()[Lcom/example/carillon/carillon/store/Signing$Encoding;" } : Jvm.MethodName) prog_46_method_1_code (0 : Nat) (Option.some (Jvm.ClassFile.FieldType.array (Jvm.ClassFile.FieldType.object "com/example/carillon/carillon/store/Signing$Encoding")))).before args0 about1 = true := code_word (m := ⟨11, 0⟩) (meth := k11m0) (c := k11c0) (by decide +kernel) rfl rfl rfl (by decide +kernel)
def codes1 : List Jvm.Cond := [Jvm.Cond.code x code maxLocals ret, Jvm.Cond.code ({ cls := "java/lang/String", name := "<init>", desc := "([C)V" } : Jvm.MethodName) jdk_42_method_3_code (2 : Nat) (Option.none : Option Jvm.ClassFile.FieldType), Jvm.Cond.code ({ cls := "java/lang/String", name := "<init>", desc := "([CIILjava/lang/Void;)V" } : Jvm.MethodName) jdk_42_method_149_code (6 : Nat) (Option.none : Option Jvm.ClassFile.FieldType), Jvm.Cond.code ({ cls := "java/lang/Object", name := "<init>", desc := "()V" } : Jvm.MethodName) object_method_1_code (1 : Nat) (Option.none : Option Jvm.ClassFile.FieldType), Jvm.Cond.code ({ cls := "java/lang/StringUTF16", name := "compress", desc := "([CII)[B" } : Jvm.MethodName) jdk_52_method_16_code (6 : Nat) (Option.some (Jvm.ClassFile.FieldType.array Jvm.ClassFile.FieldType.byte)), Jvm.Cond.code ({ cls := "java/lang/StringUTF16", name := "compress", desc := "([CI[BII)I" } : Jvm.MethodName) jdk_52_method_21_code (7 : Nat) (Option.some Jvm.ClassFile.FieldType.int), Jvm.Cond.code ({ cls := "java/lang/StringUTF16", name := "coderFromArrayLen", desc := "([BI)B" } : Jvm.MethodName) jdk_52_method_15_code (2 : Nat) (Option.some Jvm.ClassFile.FieldType.byte), Jvm.Cond.code ({ cls := "java/lang/String", name := "equals", desc := "(Ljava/lang/Object;)Z" } : Jvm.MethodName) jdk_42_method_66_code (3 : Nat) (Option.some Jvm.ClassFile.FieldType.boolean), Jvm.Cond.code ({ cls := "java/lang/StringLatin1", name := "equals", desc := "([B[B)Z" } : Jvm.MethodName) jdk_43_method_13_code (3 : Nat) (Option.some Jvm.ClassFile.FieldType.boolean), Jvm.Cond.code ({ cls := "com/example/carillon/carillon/store/Signing$Encoding", name := "fromCode", desc := "(Ljava/lang/String;)Lcom/example/carillon/carillon/store/Signing$Encoding;" } : Jvm.MethodName) prog_46_method_6_code (5 : Nat) (Option.some (Jvm.ClassFile.FieldType.object "com/example/carillon/carillon/store/Signing$Encoding")), Jvm.Cond.code ({ cls := "com/example/carillon/carillon/store/Signing$Encoding", name := "values", desc := "()[Lcom/example/carillon/carillon/store/Signing$Encoding;" } : Jvm.MethodName) prog_46_method_1_code (0 : Nat) (Option.some (Jvm.ClassFile.FieldType.array (Jvm.ClassFile.FieldType.object "com/example/carillon/carillon/store/Signing$Encoding")))]
set_option maxRecDepth 65536 in
theorem codes_eq : words1.filter isCode = codes1 := rfl
theorem w_codes : ∀ c ∈ words1.filter isCode, c.before args0 about1 = true := by
  rw [codes_eq]
  intro c hc
  simp only [codes1, List.mem_cons, List.not_mem_nil, or_false] at hc
  rcases hc with rfl | rfl | rfl | rfl | rfl | rfl | rfl | rfl | rfl | rfl | rfl
  · exact w_c0
  · exact w_c1
  · exact w_c2
  · exact w_c3
  · exact w_c4
  · exact w_c5
  · exact w_c6
  · exact w_c7
  · exact w_c8
  · exact w_c9
  · exact w_c10
set_option maxRecDepth 65536 in
theorem w_t1 : (words1.take 24).all (fun c => isCode c || c.before args0 about1) = true := by decide +kernel
set_option maxRecDepth 65536 in
theorem w_t2 : ((words1.drop 24).take 24).all (fun c => isCode c || c.before args0 about1) = true := by decide +kernel
set_option maxRecDepth 65536 in
theorem w_t3 : (((words1.drop 24).drop 24).take 24).all (fun c => isCode c || c.before args0 about1) = true := by decide +kernel
set_option maxRecDepth 65536 in
theorem w_t4 : (((words1.drop 24).drop 24).drop 24).all (fun c => isCode c || c.before args0 about1) = true := by decide +kernel
theorem w_tables : (allAtoms (Jvm.Cond.code x code maxLocals ret :: tables_1)).before args0 about1 = true := by
  rw [allAtoms_all]
  show words1.all (fun c => c.before args0 about1) = true
  refine all_split ?_ w_codes
  rw [← List.take_append_drop 24 words1, List.all_append, w_t1, ← List.take_append_drop 24 (words1.drop 24), List.all_append, w_t2, ← List.take_append_drop 24 ((words1.drop 24).drop 24), List.all_append, w_t3, w_t4]
  rfl
set_option maxRecDepth 65536 in
theorem w_rest : rest_1_c.before args0 about1 = true := by decide +kernel
set_option maxRecDepth 65536 in
theorem w_case : (Jvm.Cond.and given_1 narrow_1).before args0 about1 = true := by decide +kernel
set_option maxRecDepth 65536 in
theorem w_consts : constsHeld consts_1 about1 := Jvm.Lit.constsHeldB_iff.mp (by decide +kernel)
theorem w_applies : (headSpec (Jvm.Cond.code x code maxLocals ret :: tables_1) room_1).applies x e0.platform about1 = true :=
  (Spec.applies_iff w_frames).mpr ⟨w_running, w_runnable, w_alone, w_named, w_hears, w_ripe, w_room, w_tables⟩
theorem atStart : AtStart classFile x code maxLocals ret World_1 tables_1 room_1 Calls_1 rest_1 Pre_1 launch0 p0 e0 about1 theMethod args0 below0 :=
  ⟨lists_1, trivial, launch0.admits_env _ _ _, launch0.least_env, fairChoices_fair.cas, fairChoices_fair.clock, w_frames, w_args, w_heap, w_applies, ⟨w_consts, trivial⟩, w_rest, w_case⟩
end start1
theorem witness_1 : WitnessClaimed_1 := ⟨start1.p0, start1.e0, start1.about1, start1.theMethod, start1.args0, start1.below0, start1.atStart⟩
end Jvm.Pilot.@@N@@
