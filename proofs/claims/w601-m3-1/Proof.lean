import JvmDerived
import JvmDerived.Pilot.@@N@@Statement
import JvmDerived.Pilot.@@N@@Code
set_option linter.unusedVariables false
set_option linter.unusedSimpArgs false
/- laws to paste: Road.backV (cut by pick.py; bodies as the Statement names them) -/
namespace Jvm.Pilot.@@N@@
namespace StrChars
open Jvm Sem ClassFile Op Lib Jvm.Stand Jvm.Free.XT Jvm.Free.ALB Jvm.Free.JM Jvm.Free
open Jvm.Lib.Cold (StaticIs)
/-- a char array whose places are chars -/
def Ch (a : Addr) (A : Cell) (U : State) : Prop := Arr .char a A U ∧ Typed .char A
theorem Ch.mv {a : Addr} {A : Cell} {U U' : State} (h : Ch a A U) (hal : U.vm.Alike U'.vm) (hh : U'.heap = U.heap) : Ch a A U' := ⟨h.1.mv hal hh, h.2⟩
theorem Ch.keep {a : Addr} {A : Cell} {U U' : State} (h : Ch a A U) (hal : U.vm.Alike U'.vm) (hk : U'.heap[a]? = some A) : Ch a A U' := ⟨h.1.keep hal hk, h.2⟩
/-- what place i of a char[]'s cell holds -/
def cv (A : Cell) (i : Nat) : Int32 := match A.slots[i]? with | some (.int x) => x | _ => 0
theorem Ch.get {a : Addr} {A : Cell} {U : State} (h : Ch a A U) {i : Nat} (hi : i < A.slots.size) : A.slots[i]? = some (.int (cv A i)) := by
  have e := Array.getElem?_eq_getElem hi
  have f := h.2 i _ e
  unfold cv; rw [e]
  generalize A.slots[i] = v at f
  cases v <;> simp [fits] at f ⊢
/-- the byte that i2b leaves of a char -/
def lo8 (x : Int32) : Int32 := x.toInt8.toInt32
theorem fits_lo8 (y : Int32) : fits .byte (.int (lo8 y)) = true := by
  have h1 := y.toInt8.le_toInt
  have h2 := y.toInt8.toInt_lt
  simp only [lo8, fits, Bool.and_eq_true, decide_eq_true_eq, Int32.le_iff_toInt_le, Int8.toInt_toInt32, show (-128 : Int32).toInt = -128 from by decide, show (127 : Int32).toInt = 127 from by decide]
  omega
/-- A' is A but that each place j of lo .. hi - 1 holds f j -/
def Laid (A A' : Cell) (lo hi : Nat) (f : Nat → Value) : Prop := A'.cls = A.cls ∧ A'.vm = A.vm ∧ A'.slots.size = A.slots.size ∧ ∀ i, A'.slots[i]? = if lo ≤ i ∧ i < hi then some (f i) else A.slots[i]?
theorem Laid.zero (A : Cell) (lo : Nat) (f : Nat → Value) : Laid A A lo (lo + 0) f := ⟨rfl, rfl, rfl, fun i => by rw [if_neg (by omega)]⟩
theorem Laid.step {A Ak : Cell} {lo k : Nat} {f : Nat → Value} {v : Value} (h : Laid A Ak lo k f) (hlo : lo ≤ k) (hk : k < Ak.slots.size) (hv : v = f k) : Laid A (Ak.setSlot k v) lo (k + 1) f := by
  refine ⟨h.1, h.2.1, by simpa [Cell.setSlot] using h.2.2.1, fun i => ?_⟩
  by_cases e : k = i
  · subst e; rw [Cell.slots_setSlot_self v hk, if_pos (by omega), hv]
  · rw [Cell.slots_setSlot_ne v e, h.2.2.2 i]
    by_cases q : lo ≤ i ∧ i < k
    · rw [if_pos q, if_pos (by omega)]
    · rw [if_neg q, if_neg (by omega)]
def U16 : String := "java/lang/StringUTF16"
namespace Cmp5
def yN : MethodName := ⟨"java/lang/StringUTF16", "compress", "([CI[BII)I"⟩
abbrev yB : ByteArray := jdk_52_method_21_code
theorem d0 : decode yB 0 = .ok (.iconst 0, 1) := by decide +kernel
theorem d1 : decode yB 1 = .ok (.istore 5, 2) := by decide +kernel
theorem d3 : decode yB 3 = .ok (.iload 5, 2) := by decide +kernel
theorem d5 : decode yB 5 = .ok (.iload 4, 2) := by decide +kernel
theorem d7 : decode yB 7 = .ok (.if_icmp (.ge) 37, 3) := by decide +kernel
theorem d10 : decode yB 10 = .ok (.aload_n 0, 1) := by decide +kernel
theorem d11 : decode yB 11 = .ok (.iload_n 1, 1) := by decide +kernel
theorem d12 : decode yB 12 = .ok (.caload, 1) := by decide +kernel
theorem d13 : decode yB 13 = .ok (.istore 6, 2) := by decide +kernel
theorem d15 : decode yB 15 = .ok (.iload 6, 2) := by decide +kernel
theorem d17 : decode yB 17 = .ok (.sipush 255, 3) := by decide +kernel
theorem d20 : decode yB 20 = .ok (.if_icmp (.le) 6, 3) := by decide +kernel
theorem d26 : decode yB 26 = .ok (.aload_n 2, 1) := by decide +kernel
theorem d27 : decode yB 27 = .ok (.iload_n 3, 1) := by decide +kernel
theorem d28 : decode yB 28 = .ok (.iload 6, 2) := by decide +kernel
theorem d30 : decode yB 30 = .ok (.i2b, 1) := by decide +kernel
theorem d31 : decode yB 31 = .ok (.bastore, 1) := by decide +kernel
theorem d32 : decode yB 32 = .ok (.iinc 1 1, 3) := by decide +kernel
theorem d35 : decode yB 35 = .ok (.iinc 3 1, 3) := by decide +kernel
theorem d38 : decode yB 38 = .ok (.iinc 5 1, 3) := by decide +kernel
theorem d41 : decode yB 41 = .ok (.goto (-38), 3) := by decide +kernel
theorem d44 : decode yB 44 = .ok (.iload 4, 2) := by decide +kernel
theorem d46 : decode yB 46 = .ok (.ireturn, 1) := by decide +kernel
def site : List Cond := []
def tab : Cond := tabOf yN yB 7 (some .int) site
def P (b : Addr) (A : Cell) (d : Addr) (B : Cell) (o q len : Nat) (args : Array Value) (s : State) : Prop := args = #[.ref b, .int (Int32.ofNat o), .ref d, .int (Int32.ofNat q), .int (Int32.ofNat len)] ∧ Ch b A s ∧ Arr .byte d B s ∧ b ≠ d ∧ o + len ≤ A.slots.size ∧ q + len ≤ B.slots.size ∧ ∀ i, i < len → ¬ 255 < cv A (o + i)
def E (b : Addr) (A : Cell) (d : Addr) (B : Cell) (o q len : Nat) (r : Option Value) (s u : State) : Prop := r = some (.int (Int32.ofNat len)) ∧ ∃ B', Put d B' s u ∧ Laid B B' q (q + len) (fun j => Value.int (lo8 (cv A (o + (j - q)))))
/-- no char of the range above 255: len; the places written hold each char's low byte -/
theorem law (l : Launch) (b : Addr) (A : Cell) (d : Addr) (B : Cell) (o q len : Nat) : Law l yN 5 5 0 0 yB 7 (some .int) site (P b A d B o q len) (E b A d B o q len) (copyLocs d q len) 0 0 := by
  refine Law.of_walk (plainFor_of_name (by decide +kernel)) (by decide +kernel) (by decide +kernel) (by decide) (fun _ _ h => by rw [h.1]; rfl) (fun _ U U' hal hh h => ⟨h.1, h.2.1.mv hal hh, h.2.2.1.mv hal hh, h.2.2.2⟩) (fun r U U' V V' h1 hal h2 h => ⟨h.1, h.2.elim fun B' q => ⟨B', q.1.mv h1 h2, q.2⟩⟩) ?_
  intro p e s m args below meth c s₁ X0 hexec hbytes hml hret hlk hnm hown hh0 W hP
  obtain ⟨rfl, hA, hB, hne, l1, l2, hp⟩ := hP
  have c1 : Steps p.tables e below (s₁.setTop (entryFrame m #[.ref b, .int (Int32.ofNat o), .ref d, .int (Int32.ofNat q), .int (Int32.ofNat len)] 7)) (s₁.setTop (mkF m 0 #[.val (.ref b), .val (.int (Int32.ofNat o)), .val (.ref d), .val (.int (Int32.ofNat q)), .val (.int (Int32.ofNat len)), .unset, .unset] [])) := entry rfl
  have hA0 := hA.1.mv X0.warmed.alike hh0
  have hB0 := hB.mv X0.warmed.alike hh0
  have a31 := hA.1.2.2.2
  have c2 : Steps p.tables e below (s₁.setTop (entryFrame m #[.ref b, .int (Int32.ofNat o), .ref d, .int (Int32.ofNat q), .int (Int32.ofNat len)] 7)) (s₁.setTop (mkF m 3 #[.val (.ref b), .val (.int (Int32.ofNat o)), .val (.ref d), .val (.int (Int32.ofNat q)), .val (.int (Int32.ofNat len)), .val (.int 0), .unset] [])) := c1.trans (by
    refine iconstV X0.here hexec rfl 0 (hb hbytes d0) (by decide) ?_
    refine XS.istore X0.here hexec rfl (hb hbytes d1) rfl rfl ?_
    exact Steps.refl _)
  have loop : ∀ (r i : Nat), i + r = len → ∀ (z : Slot), (z = .unset ∨ ∃ w, z = .val w ∧ w.category = 1) → ∀ (Tl : State) (Bk : Cell), Stand p l e { frames := 0, locals := 0, cells := 0, slots := 0 } s m #[.ref b, .int (Int32.ofNat o), .ref d, .int (Int32.ofNat q), .int (Int32.ofNat len)] below meth c Tl ([] ++ copyLocs d q i) 0 0 → Put d Bk s₁ Tl → Laid B Bk q (q + i) (fun j => Value.int (lo8 (cv A (o + (j - q))))) →
      Steps p.tables e below (s₁.setTop (entryFrame m #[.ref b, .int (Int32.ofNat o), .ref d, .int (Int32.ofNat q), .int (Int32.ofNat len)] 7)) (Tl.setTop (mkF m 3 #[.val (.ref b), .val (.int (Int32.ofNat (o + i))), .val (.ref d), .val (.int (Int32.ofNat (q + i))), .val (.int (Int32.ofNat len)), .val (.int (Int32.ofNat i)), z] [])) → ∃ (T' : State) (B' : Cell) (z' : Slot), Stand p l e { frames := 0, locals := 0, cells := 0, slots := 0 } s m #[.ref b, .int (Int32.ofNat o), .ref d, .int (Int32.ofNat q), .int (Int32.ofNat len)] below meth c T' ([] ++ copyLocs d q len) 0 0 ∧ Put d B' s₁ T' ∧ Laid B B' q (q + len) (fun j => Value.int (lo8 (cv A (o + (j - q))))) ∧
      Steps p.tables e below (s₁.setTop (entryFrame m #[.ref b, .int (Int32.ofNat o), .ref d, .int (Int32.ofNat q), .int (Int32.ofNat len)] 7)) (T'.setTop (mkF m 3 #[.val (.ref b), .val (.int (Int32.ofNat (o + len))), .val (.ref d), .val (.int (Int32.ofNat (q + len))), .val (.int (Int32.ofNat len)), .val (.int (Int32.ofNat len)), z'] [])) := by
    intro r
    induction r with
    | zero =>
      intro i hi z hz Tl Bk Xl pl fl cl
      have hil : i = len := by omega
      rw [hil] at Xl fl cl
      exact ⟨Tl, Bk, z, Xl, pl, fl, cl⟩
    | succ r ih =>
      intro i hi z hz Tl Bk Xl pl fl cl
      have all := X0.warmed.alike.symm.trans Xl.warmed.alike
      have hAl := hA0.keep all (pl.other hne hA0.1)
      have hBk := hB0.like all pl.1 fl.1 fl.2.1 fl.2.2.1
      have hlt : q + i < Bk.slots.size := by rw [fl.2.2.1]; omega
      have c3 : Steps p.tables e below (s₁.setTop (entryFrame m #[.ref b, .int (Int32.ofNat o), .ref d, .int (Int32.ofNat q), .int (Int32.ofNat len)] 7)) (Tl.setTop (mkF m 12 #[.val (.ref b), .val (.int (Int32.ofNat (o + i))), .val (.ref d), .val (.int (Int32.ofNat (q + i))), .val (.int (Int32.ofNat len)), .val (.int (Int32.ofNat i)), z] [.int (Int32.ofNat (o + i)), .ref b])) := cl.trans (by
        refine XS.iload Xl.here hexec rfl (hb hbytes d3) rfl ?_
        refine XS.iload Xl.here hexec rfl (hb hbytes d5) rfl ?_
        refine XS.icmpNo Xl.here hexec rfl (hb hbytes d7) rfl (ii_ge_f (lt32 (by omega) (by omega))) ?_
        refine XS.aloadN Xl.here hexec rfl (hb hbytes d10) rfl rfl ?_
        refine XS.iloadN Xl.here hexec rfl (hb hbytes d11) rfl ?_
        exact Steps.refl _)
      have c4 : Steps p.tables e below (s₁.setTop (entryFrame m #[.ref b, .int (Int32.ofNat o), .ref d, .int (Int32.ofNat q), .int (Int32.ofNat len)] 7)) (Tl.setTop (mkF m 13 #[.val (.ref b), .val (.int (Int32.ofNat (o + i))), .val (.ref d), .val (.int (Int32.ofNat (q + i))), .val (.int (Int32.ofNat len)), .val (.int (Int32.ofNat i)), z] [.int (cv A (o + i))])) := c3.trans (by
        refine Xl.aget hexec hAl rfl (hA.get (i := o + i) (by omega)) rfl rfl (hb hbytes d12) ?_
        exact Steps.refl _)
      have c5 : Steps p.tables e below (s₁.setTop (entryFrame m #[.ref b, .int (Int32.ofNat o), .ref d, .int (Int32.ofNat q), .int (Int32.ofNat len)] 7)) (Tl.setTop (mkF m 15 #[.val (.ref b), .val (.int (Int32.ofNat (o + i))), .val (.ref d), .val (.int (Int32.ofNat (q + i))), .val (.int (Int32.ofNat len)), .val (.int (Int32.ofNat i)), .val (.int (cv A (o + i)))] [])) := c4.trans (by
        refine XS.istoreS Xl.here hexec rfl (hb hbytes d13) rfl rfl hz ?_
        exact Steps.refl _)
      have c6 : Steps p.tables e below (s₁.setTop (entryFrame m #[.ref b, .int (Int32.ofNat o), .ref d, .int (Int32.ofNat q), .int (Int32.ofNat len)] 7)) (Tl.setTop (mkF m 31 #[.val (.ref b), .val (.int (Int32.ofNat (o + i))), .val (.ref d), .val (.int (Int32.ofNat (q + i))), .val (.int (Int32.ofNat len)), .val (.int (Int32.ofNat i)), .val (.int (cv A (o + i)))] [.int (lo8 (cv A (o + i))), .int (Int32.ofNat (q + i)), .ref d])) := c5.trans (by
        refine XS.iload Xl.here hexec rfl (hb hbytes d15) rfl ?_
        refine sipushV Xl.here hexec rfl 255 (hb hbytes d17) (by decide) ?_
        refine XS.icmpYes Xl.here hexec rfl (pc0 := 20) rfl (hb hbytes d20) rfl (ii_le_t (hp i (by omega))) (by decide) rfl ?_
        refine XS.aloadN Xl.here hexec rfl (hb hbytes d26) rfl rfl ?_
        refine XS.iloadN Xl.here hexec rfl (hb hbytes d27) rfl ?_
        refine XS.iload Xl.here hexec rfl (hb hbytes d28) rfl ?_
        refine i2b Xl.here hexec rfl (hb hbytes d30) rfl ?_
        exact Steps.refl _)
      obtain ⟨T7, X7, p7, st7⟩ := Xl.aput hexec hBk rfl hlt rfl (fits_lo8 (cv A (o + i))) (g := (mkF m 31 #[.val (.ref b), .val (.int (Int32.ofNat (o + i))), .val (.ref d), .val (.int (Int32.ofNat (q + i))), .val (.int (Int32.ofNat len)), .val (.int (Int32.ofNat i)), .val (.int (cv A (o + i)))] [.int (lo8 (cv A (o + i))), .int (Int32.ofNat (q + i)), .ref d])) rfl (rest := []) rfl (hb hbytes d31)
      have c8 : Steps p.tables e below (s₁.setTop (entryFrame m #[.ref b, .int (Int32.ofNat o), .ref d, .int (Int32.ofNat q), .int (Int32.ofNat len)] 7)) (T7.setTop (mkF m 32 #[.val (.ref b), .val (.int (Int32.ofNat (o + i))), .val (.ref d), .val (.int (Int32.ofNat (q + i))), .val (.int (Int32.ofNat len)), .val (.int (Int32.ofNat i)), .val (.int (cv A (o + i)))] [])) := c6.trans (st7 _ (Steps.refl _))
      have c9 : Steps p.tables e below (s₁.setTop (entryFrame m #[.ref b, .int (Int32.ofNat o), .ref d, .int (Int32.ofNat q), .int (Int32.ofNat len)] 7)) (T7.setTop (mkF m 3 #[.val (.ref b), .val (.int (Int32.ofNat (o + i) + 1)), .val (.ref d), .val (.int (Int32.ofNat (q + i) + 1)), .val (.int (Int32.ofNat len)), .val (.int (Int32.ofNat i + 1)), .val (.int (cv A (o + i)))] [])) := c8.trans (by
        refine iincV X7.here hexec rfl 1 (hb hbytes d32) (by decide) rfl rfl ?_
        refine iincV X7.here hexec rfl 1 (hb hbytes d35) (by decide) rfl rfl ?_
        refine iincV X7.here hexec rfl 1 (hb hbytes d38) (by decide) rfl rfl ?_
        refine XS.goto X7.here hexec rfl (pc0 := 41) rfl (hb hbytes d41) (by decide) rfl ?_
        exact Steps.refl _)
      have c10 : Steps p.tables e below (s₁.setTop (entryFrame m #[.ref b, .int (Int32.ofNat o), .ref d, .int (Int32.ofNat q), .int (Int32.ofNat len)] 7)) (T7.setTop (mkF m 3 #[.val (.ref b), .val (.int (Int32.ofNat (o + (i + 1)))), .val (.ref d), .val (.int (Int32.ofNat (q + (i + 1)))), .val (.int (Int32.ofNat len)), .val (.int (Int32.ofNat (i + 1))), .val (.int (cv A (o + i)))] [])) := by
        have := c9
        rw [succ32, succ32, succ32] at this
        exact this
      exact ih (i + 1) (by omega) _ (Or.inr ⟨_, rfl, rfl⟩) T7 _ (by rw [copyLocs_step, ← List.append_assoc]; exact X7) (pl.trans p7) (fl.step (by omega) hlt (by simp)) c10
  obtain ⟨T9, B9, z9, X9, p9, f9, g9⟩ := loop len 0 (by omega) .unset (Or.inl rfl) s₁ B (by simpa [copyLocs] using X0) ⟨hB0.1, fun _ _ => rfl, rfl⟩ (Laid.zero _ _ _) c2
  have c11 : Steps p.tables e below (s₁.setTop (entryFrame m #[.ref b, .int (Int32.ofNat o), .ref d, .int (Int32.ofNat q), .int (Int32.ofNat len)] 7)) (T9.setTop (mkF m 46 #[.val (.ref b), .val (.int (Int32.ofNat (o + len))), .val (.ref d), .val (.int (Int32.ofNat (q + len))), .val (.int (Int32.ofNat len)), .val (.int (Int32.ofNat len)), z9] [.int (Int32.ofNat len)])) := g9.trans (by
    refine XS.iload X9.here hexec rfl (hb hbytes d3) rfl ?_
    refine XS.iload X9.here hexec rfl (hb hbytes d5) rfl ?_
    refine XS.icmpYes X9.here hexec rfl (pc0 := 7) rfl (hb hbytes d7) rfl (ii_ge_t (nlt32 (by omega) (Nat.le_refl _))) (by decide) rfl ?_
    refine XS.iload X9.here hexec rfl (hb hbytes d44) rfl ?_
    exact Steps.refl _)
  exact ⟨T9, some (.int (Int32.ofNat len)), _, _, _, X9, by simp, rfl, rfl, (fun h => by cases h), ⟨rfl, B9, p9.from hh0, f9⟩, fun fs hl => c11.trans (X9.ireturnOut hexec hret rfl (Or.inl rfl) (hb hbytes d46) hl)⟩
end Cmp5
namespace Cmp3
def yN : MethodName := ⟨"java/lang/StringUTF16", "compress", "([CII)[B"⟩
abbrev yB : ByteArray := jdk_52_method_16_code
theorem d0 : decode yB 0 = .ok (.iload_n 2, 1) := by decide +kernel
theorem d1 : decode yB 1 = .ok (.newarray .byte, 2) := by decide +kernel
theorem d3 : decode yB 3 = .ok (.astore_n 3, 1) := by decide +kernel
theorem d4 : decode yB 4 = .ok (.aload_n 0, 1) := by decide +kernel
theorem d5 : decode yB 5 = .ok (.iload_n 1, 1) := by decide +kernel
theorem d6 : decode yB 6 = .ok (.aload_n 3, 1) := by decide +kernel
theorem d7 : decode yB 7 = .ok (.iconst 0, 1) := by decide +kernel
theorem d8 : decode yB 8 = .ok (.iload_n 2, 1) := by decide +kernel
theorem d9 : decode yB 9 = .ok (.invokestatic 115, 3) := by decide +kernel
theorem d12 : decode yB 12 = .ok (.istore 4, 2) := by decide +kernel
theorem d14 : decode yB 14 = .ok (.iload 4, 2) := by decide +kernel
theorem d16 : decode yB 16 = .ok (.iload_n 2, 1) := by decide +kernel
theorem d17 : decode yB 17 = .ok (.if_icmp (.eq) 40, 3) := by decide +kernel
theorem d57 : decode yB 57 = .ok (.aload_n 3, 1) := by decide +kernel
theorem d58 : decode yB 58 = .ok (.areturn, 1) := by decide +kernel
def site : List Cond := [.arrayClass .byte, Cmp5.tab] ++ staticW U16 115 Cmp5.yN
def tab : Cond := tabOf yN yB 6 (some (.array .byte)) site
def P (b : Addr) (A : Cell) (o len : Nat) (args : Array Value) (s : State) : Prop := args = #[.ref b, .int (Int32.ofNat o), .int (Int32.ofNat len)] ∧ Ch b A s ∧ o + len ≤ A.slots.size ∧ len ≤ 536870912 ∧ ∀ i, i < len → ¬ 255 < cv A (o + i)
def E (b : Addr) (A : Cell) (o len : Nat) (r : Option Value) (s u : State) : Prop := NewArr .byte "[B" len (fun j => .int (lo8 (cv A (o + j)))) r s u ∧ u.heap.size = s.heap.size + 1
/-- no char of the range above 255: a new byte[] of their low bytes -/
theorem law (l : Launch) (b : Addr) (A : Cell) (o len : Nat) : Law l yN 3 3 1 18 yB 6 (some (.array .byte)) site (P b A o len) (E b A o len) [] 1 len := by
  refine Law.of_walk (plainFor_of_name (by decide +kernel)) (by decide +kernel) (by decide +kernel) (by decide) (fun _ _ h => by rw [h.1]; rfl) (fun _ U U' hal hh h => ⟨h.1, h.2.1.mv hal hh, h.2.2⟩) (fun r U U' V V' h1 hal h2 h => ⟨NewArr.mv r U U' V V' h1 hal h2 h.1, by rw [h1, h2]; exact h.2⟩) ?_
  intro p e s m args below meth c s₁ X0 hexec hbytes hml hret hlk hnm hown hh0 W hP
  obtain ⟨rfl, hA, l1, l2, hp⟩ := hP
  have a31 := hA.1.2.2.2
  have c1 : Steps p.tables e below (s₁.setTop (entryFrame m #[.ref b, .int (Int32.ofNat o), .int (Int32.ofNat len)] 6)) (s₁.setTop (mkF m 0 #[.val (.ref b), .val (.int (Int32.ofNat o)), .val (.int (Int32.ofNat len)), .unset, .unset, .unset] [])) := entry rfl
  have c2 : Steps p.tables e below (s₁.setTop (entryFrame m #[.ref b, .int (Int32.ofNat o), .int (Int32.ofNat len)] 6)) (s₁.setTop (mkF m 1 #[.val (.ref b), .val (.int (Int32.ofNat o)), .val (.int (Int32.ofNat len)), .unset, .unset, .unset] [.int (Int32.ofNat len)])) := c1.trans (by
    refine XS.iloadN X0.here hexec rfl (hb hbytes d0) rfl ?_
    exact Steps.refl _)
  obtain ⟨T3, B3, X3, ba3, bs3, bv3, bh3, bf3, st3⟩ := X0.anew hexec (atype := .byte) (wk W (.arrayClass .byte)) rfl (by show len * 1 ≤ _; omega) (by omega) (g := (mkF m 1 #[.val (.ref b), .val (.int (Int32.ofNat o)), .val (.int (Int32.ofNat len)), .unset, .unset, .unset] [.int (Int32.ofNat len)])) rfl (hb hbytes d1) (rest := []) rfl (Nat.le_refl _) (by show 0 + len ≤ len; omega)
  rw [hh0] at ba3 st3
  have kp3 : XT.Kept s T3 := (XT.Kept.of_eq hh0).push bh3
  have hA3 := hA.keep X3.warmed.alike (kp3 _ _ hA.1.1)
  have hne : b ≠ s.heap.size := hA.1.ne
  have c4 : Steps p.tables e below (s₁.setTop (entryFrame m #[.ref b, .int (Int32.ofNat o), .int (Int32.ofNat len)] 6)) (T3.setTop (mkF m 3 #[.val (.ref b), .val (.int (Int32.ofNat o)), .val (.int (Int32.ofNat len)), .unset, .unset, .unset] [.ref s.heap.size])) := c2.trans (st3 _ (Steps.refl _))
  have c5 : Steps p.tables e below (s₁.setTop (entryFrame m #[.ref b, .int (Int32.ofNat o), .int (Int32.ofNat len)] 6)) (T3.setTop (mkF m 9 #[.val (.ref b), .val (.int (Int32.ofNat o)), .val (.int (Int32.ofNat len)), .val (.ref s.heap.size), .unset, .unset] [.int (Int32.ofNat len), .int 0, .ref s.heap.size, .int (Int32.ofNat o), .ref b])) := c4.trans (by
    refine XS.astoreN X3.here hexec rfl (hb hbytes d3) rfl rfl rfl ?_
    refine XS.aloadN X3.here hexec rfl (hb hbytes d4) rfl rfl ?_
    refine XS.iloadN X3.here hexec rfl (hb hbytes d5) rfl ?_
    refine XS.aloadN X3.here hexec rfl (hb hbytes d6) rfl rfl ?_
    refine iconstV X3.here hexec rfl 0 (hb hbytes d7) (by decide) ?_
    refine XS.iloadN X3.here hexec rfl (hb hbytes d8) rfl ?_
    exact Steps.refl _)
  obtain ⟨v6, T6, X6, E6, g6⟩ := X3.callS hexec (Cmp5.law l b A s.heap.size B3 o 0 len) hown (wks W (staticW U16 115 Cmp5.yN)) (wk W Cmp5.tab) (W := 0) (Nat.le_of_ble_eq_true rfl) (Nat.le_of_ble_eq_true rfl) (Nat.le_refl _) (by show 0 + len + 0 ≤ len; omega) (g := (mkF m 9 #[.val (.ref b), .val (.int (Int32.ofNat o)), .val (.int (Int32.ofNat len)), .val (.ref s.heap.size), .unset, .unset] [.int (Int32.ofNat len), .int (Int32.ofNat 0), .ref s.heap.size, .int (Int32.ofNat o), .ref b])) rfl (by rw [hml]; rfl) c5 (argsL := [.ref b, .int (Int32.ofNat o), .ref s.heap.size, .int (Int32.ofNat 0), .int (Int32.ofNat len)]) (rest := []) rfl rfl (by show 2 * 0 + 0 ≤ _; decide) (hb hbytes d9) (⟨rfl, hA3, ba3, hne, l1, by rw [bs3]; simp, hp⟩)
  obtain ⟨rfl, B6, p6, f6⟩ := E6
  have c7 : Steps p.tables e below (s₁.setTop (entryFrame m #[.ref b, .int (Int32.ofNat o), .int (Int32.ofNat len)] 6)) (T6.setTop (mkF m 12 #[.val (.ref b), .val (.int (Int32.ofNat o)), .val (.int (Int32.ofNat len)), .val (.ref s.heap.size), .unset, .unset] [.int (Int32.ofNat len)])) := g6
  have c8 : Steps p.tables e below (s₁.setTop (entryFrame m #[.ref b, .int (Int32.ofNat o), .int (Int32.ofNat len)] 6)) (T6.setTop (mkF m 58 #[.val (.ref b), .val (.int (Int32.ofNat o)), .val (.int (Int32.ofNat len)), .val (.ref s.heap.size), .val (.int (Int32.ofNat len)), .unset] [.ref s.heap.size])) := c7.trans (by
    refine XS.istore X6.here hexec rfl (hb hbytes d12) rfl rfl ?_
    refine XS.iload X6.here hexec rfl (hb hbytes d14) rfl ?_
    refine XS.iloadN X6.here hexec rfl (hb hbytes d16) rfl ?_
    refine XS.icmpYes X6.here hexec rfl (pc0 := 17) rfl (hb hbytes d17) rfl (ii_eq_t rfl) (by decide) rfl ?_
    refine XS.aloadN X6.here hexec rfl (hb hbytes d57) rfl rfl ?_
    exact Steps.refl _)
  have X8 := X6.wide (L' := []) (cells' := 1) (slots' := len) (fun x hx hlt => by
    simp only [List.nil_append, copyLocs, List.mem_map, List.mem_range] at hx
    obtain ⟨i, -, rfl⟩ := hx
    exact absurd hlt (Nat.lt_irrefl _)) (Nat.le_refl _) (by omega)
  exact ⟨T6, some (.ref s.heap.size), _, _, _, X8, rfl, rfl, rfl, (fun h => by cases h), ⟨⟨rfl, B6, ba3.like (X3.warmed.alike.symm.trans X6.warmed.alike) p6.1 f6.1 f6.2.1 f6.2.2.1, f6.2.1.trans bv3, by rw [X6.warmed.alike.findClass, f6.1]; exact bf3, by rw [f6.2.2.1, bs3]; simp, fun j hj => by rw [f6.2.2.2 j, if_pos (by omega)]; rfl, kp3.put p6 (Nat.le_refl _)⟩, by rw [p6.2.2, bh3, hh0]; simp⟩, fun fs hl => c8.trans (X8.areturnOut hexec rfl hret rfl (hb hbytes d58) hl)⟩
end Cmp3
namespace CodL
def yN : MethodName := ⟨"java/lang/StringUTF16", "coderFromArrayLen", "([BI)B"⟩
abbrev yB : ByteArray := jdk_52_method_15_code
theorem d0 : decode yB 0 = .ok (.iload_n 1, 1) := by decide +kernel
theorem d1 : decode yB 1 = .ok (.aload_n 0, 1) := by decide +kernel
theorem d2 : decode yB 2 = .ok (.arraylength, 1) := by decide +kernel
theorem d3 : decode yB 3 = .ok (.isub, 1) := by decide +kernel
theorem d4 : decode yB 4 = .ok (.bipush 31, 2) := by decide +kernel
theorem d6 : decode yB 6 = .ok (.iushr, 1) := by decide +kernel
theorem d7 : decode yB 7 = .ok (.i2b, 1) := by decide +kernel
theorem d8 : decode yB 8 = .ok (.ireturn, 1) := by decide +kernel
def site : List Cond := []
def tab : Cond := tabOf yN yB 2 (some .byte) site
def P (d : Addr) (B : Cell) (args : Array Value) (s : State) : Prop := args = #[.ref d, .int (Int32.ofNat B.slots.size)] ∧ Arr .byte d B s
def E (r : Option Value) (s u : State) : Prop := XT.PureE (some (.int 0)) r s u
/-- an array as long as the number of chars: LATIN1 -/
theorem law (l : Launch) (d : Addr) (B : Cell) : Law l yN 2 2 0 0 yB 2 (some .byte) site (P d B) E [] 0 0 := by
  refine Law.of_walk (plainFor_of_name (by decide +kernel)) (by decide +kernel) (by decide +kernel) (by decide) (fun _ _ h => by rw [h.1]; rfl) (fun _ U U' hal hh h => ⟨h.1, h.2.mv hal hh⟩) (fun r U U' V V' h1 hal h2 h => XT.PureE.mv r U U' V V' h1 hal h2 h) ?_
  intro p e s m args below meth c s₁ X0 hexec hbytes hml hret hlk hnm hown hh0 W hP
  obtain ⟨rfl, hB⟩ := hP
  have hB0 := hB.mv X0.warmed.alike hh0
  have c1 : Steps p.tables e below (s₁.setTop (entryFrame m #[.ref d, .int (Int32.ofNat B.slots.size)] 2)) (s₁.setTop (mkF m 0 #[.val (.ref d), .val (.int (Int32.ofNat B.slots.size))] [])) := entry rfl
  have c2 : Steps p.tables e below (s₁.setTop (entryFrame m #[.ref d, .int (Int32.ofNat B.slots.size)] 2)) (s₁.setTop (mkF m 2 #[.val (.ref d), .val (.int (Int32.ofNat B.slots.size))] [.ref d, .int (Int32.ofNat B.slots.size)])) := c1.trans (by
    refine XS.iloadN X0.here hexec rfl (hb hbytes d0) rfl ?_
    refine XS.aloadN X0.here hexec rfl (hb hbytes d1) rfl rfl ?_
    exact Steps.refl _)
  have c3 : Steps p.tables e below (s₁.setTop (entryFrame m #[.ref d, .int (Int32.ofNat B.slots.size)] 2)) (s₁.setTop (mkF m 8 #[.val (.ref d), .val (.int (Int32.ofNat B.slots.size))] [.int (lo8 (ushr (Int32.ofNat B.slots.size - Int32.ofNat B.slots.size) 31))])) := c2.trans (by
    refine X0.alen hexec hB0 rfl rfl (hb hbytes d2) ?_
    refine XS.isub X0.here hexec rfl (hb hbytes d3) rfl ?_
    refine bipushV X0.here hexec rfl 31 (hb hbytes d4) (by decide) ?_
    refine iushr X0.here hexec rfl (hb hbytes d6) rfl ?_
    refine i2b X0.here hexec rfl (hb hbytes d7) rfl ?_
    exact Steps.refl _)
  have e0 : lo8 (ushr (Int32.ofNat B.slots.size - Int32.ofNat B.slots.size) 31) = 0 := by rw [Int32.sub_self]; decide
  rw [e0] at c3
  exact ⟨s₁, some (.int 0), _, _, _, X0, rfl, rfl, rfl, (fun h => by cases h), ⟨rfl, hh0⟩, fun fs hl => c3.trans (X0.ireturnOut hexec hret rfl (Or.inr (Or.inr (Or.inl rfl))) (hb hbytes d8) hl)⟩
end CodL
/-- the String at a is Latin-1 over a new byte[] (the heap's one new cell): the low bytes of the len chars of A from o on; every cell but a is kept -/
def Got (a : Addr) (D : Cell) (fV fC : Field) (A : Cell) (o len : Nat) (r : Option Value) (s u : State) : Prop := r = none ∧ ∃ D' V : Cell, Blank "java/lang/String" a D' u ∧ Same D D' [fV.slot, fC.slot] ∧ D'.slots[fV.slot]? = some (.ref s.heap.size) ∧ D'.slots[fC.slot]? = some (.int 0) ∧ Arr .byte s.heap.size V u ∧ V.vm = .none ∧ u.vm.findClass "[B" = some V.cls ∧ V.slots.size = len ∧ (∀ j, j < len → V.slots[j]? = some (.int (lo8 (cv A (o + j))))) ∧ (∀ (y : Addr) (c : Cell), y ≠ a → s.heap[y]? = some c → u.heap[y]? = some c) ∧ u.heap.size = s.heap.size + 1
theorem Got.mv {a : Addr} {D A : Cell} {fV fC : Field} {o len : Nat} : ∀ r (U U' V V' : State), U'.heap = U.heap → V.vm.Alike V'.vm → V'.heap = V.heap → Got a D fV fC A o len r U V → Got a D fV fC A o len r U' V' :=
  fun r U U' V V' h1 hal h2 ⟨e0, D', X, a1, a2, a3, a4, a5, a6, a7, a8, a9, a10, a11⟩ => ⟨e0, D', X, a1.mv hal h2, a2, by rw [h1]; exact a3, a4, by rw [h1]; exact a5.mv hal h2, a6, by rw [hal.findClass]; exact a7, a8, a9, by rw [h1, h2]; exact a10, by rw [h1, h2]; exact a11⟩
namespace New4
def yN : MethodName := ⟨"java/lang/String", "<init>", "([CIILjava/lang/Void;)V"⟩
abbrev yB : ByteArray := jdk_42_method_149_code
theorem d0 : decode yB 0 = .ok (.aload_n 0, 1) := by decide +kernel
theorem d1 : decode yB 1 = .ok (.invokespecial 1, 3) := by decide +kernel
theorem d4 : decode yB 4 = .ok (.iload_n 3, 1) := by decide +kernel
theorem d5 : decode yB 5 = .ok (.ifCond (.ne) 22, 3) := by decide +kernel
theorem d27 : decode yB 27 = .ok (.getstatic 38, 3) := by decide +kernel
theorem d30 : decode yB 30 = .ok (.ifCond (.eq) 28, 3) := by decide +kernel
theorem d33 : decode yB 33 = .ok (.aload_n 1, 1) := by decide +kernel
theorem d34 : decode yB 34 = .ok (.iload_n 2, 1) := by decide +kernel
theorem d35 : decode yB 35 = .ok (.iload_n 3, 1) := by decide +kernel
theorem d36 : decode yB 36 = .ok (.invokestatic 177, 3) := by decide +kernel
theorem d39 : decode yB 39 = .ok (.astore 5, 2) := by decide +kernel
theorem d41 : decode yB 41 = .ok (.aload_n 0, 1) := by decide +kernel
theorem d42 : decode yB 42 = .ok (.aload 5, 2) := by decide +kernel
theorem d44 : decode yB 44 = .ok (.iload_n 3, 1) := by decide +kernel
theorem d45 : decode yB 45 = .ok (.invokestatic 47, 3) := by decide +kernel
theorem d48 : decode yB 48 = .ok (.putfield 15, 3) := by decide +kernel
theorem d51 : decode yB 51 = .ok (.aload_n 0, 1) := by decide +kernel
theorem d52 : decode yB 52 = .ok (.aload 5, 2) := by decide +kernel
theorem d54 : decode yB 54 = .ok (.putfield 9, 3) := by decide +kernel
theorem d57 : decode yB 57 = .ok (.return_, 1) := by decide +kernel
def site : List Cond := [.fieldLink "java/lang/String" 38 "java/lang/String" "COMPACT_STRINGS" "Z", Cmp3.tab, CodL.tab, .laysFinal "java/lang/String" "java/lang/String" "value" "[B", .fieldLink "java/lang/String" 9 "java/lang/String" "value" "[B", .laysFinal "java/lang/String" "java/lang/String" "coder" "B", .fieldLink "java/lang/String" 15 "java/lang/String" "coder" "B"] ++ objW "java/lang/String" 1 ++ staticW "java/lang/String" 177 Cmp3.yN ++ staticW "java/lang/String" 47 CodL.yN
def tab : Cond := tabOf yN yB 6 none site
def P (a : Addr) (D : Cell) (fV fC : Field) (b : Addr) (A : Cell) (z : Int32) (o len : Nat) (args : Array Value) (s : State) : Prop := args = #[.ref a, .ref b, .int (Int32.ofNat o), .int (Int32.ofNat len), .null] ∧ Blank "java/lang/String" a D s ∧ Found "java/lang/String" "value" "[B" fV s ∧ Found "java/lang/String" "coder" "B" fC s ∧ Ch b A s ∧ StaticIs s "java/lang/String" "COMPACT_STRINGS" "Z" (.int z) ∧ ¬ z = 0 ∧ 0 < len ∧ o + len ≤ A.slots.size ∧ len ≤ 536870912 ∧ ∀ i, i < len → ¬ 255 < cv A (o + i)
def E (a : Addr) (D : Cell) (fV fC : Field) (A : Cell) (o len : Nat) (r : Option Value) (s u : State) : Prop := Got a D fV fC A o len r s u
/-- len > 0, no char of the range above 255: a Latin-1 String of their low bytes -/
theorem law (l : Launch) (a : Addr) (D : Cell) (fV fC : Field) (b : Addr) (A : Cell) (z : Int32) (o len : Nat) : Law l yN 5 4 2 35 yB 6 none site (P a D fV fC b A z o len) (E a D fV fC A o len) [⟨a, fC.slot⟩, ⟨a, fV.slot⟩] 1 len := by
  refine Law.of_walk (plainFor_of_name (by decide +kernel)) (by decide +kernel) (by decide +kernel) (by decide) (fun _ _ h => by rw [h.1]; rfl) (fun _ U U' hal hh h => ⟨h.1, h.2.1.mv hal hh, h.2.2.1.al hal, h.2.2.2.1.al hal, h.2.2.2.2.1.mv hal hh, h.2.2.2.2.2.1.there hal hh, h.2.2.2.2.2.2⟩) (fun r U U' V V' h1 hal h2 h => Got.mv r U U' V V' h1 hal h2 h) ?_
  intro p e s m args below meth c s₁ X0 hexec hbytes hml hret hlk hnm hown hh0 W hP
  obtain ⟨rfl, hB, f1, f2, hA, s1, hz, l0, l1, l2, hp⟩ := hP
  have a31 := hA.1.2.2.2
  have c1 : Steps p.tables e below (s₁.setTop (entryFrame m #[.ref a, .ref b, .int (Int32.ofNat o), .int (Int32.ofNat len), .null] 6)) (s₁.setTop (mkF m 0 #[.val (.ref a), .val (.ref b), .val (.int (Int32.ofNat o)), .val (.int (Int32.ofNat len)), .val .null, .unset] [])) := entry rfl
  have c2 : Steps p.tables e below (s₁.setTop (entryFrame m #[.ref a, .ref b, .int (Int32.ofNat o), .int (Int32.ofNat len), .null] 6)) (s₁.setTop (mkF m 1 #[.val (.ref a), .val (.ref b), .val (.int (Int32.ofNat o)), .val (.int (Int32.ofNat len)), .val .null, .unset] [.ref a])) := c1.trans (by
    refine XS.aloadN X0.here hexec rfl (hb hbytes d0) rfl rfl ?_
    exact Steps.refl _)
  obtain ⟨T3, X3, q3, st3⟩ := X0.oinit hexec hown (wks W (objW "java/lang/String" 1)) (g := (mkF m 1 #[.val (.ref a), .val (.ref b), .val (.int (Int32.ofNat o)), .val (.int (Int32.ofNat len)), .val .null, .unset] [.ref a])) rfl (by rw [hml]; rfl) (rest := []) rfl (hb hbytes d1) (W := 0) (by show 2 * 0 + 0 ≤ _; decide) (Nat.le_of_ble_eq_true rfl) (Nat.le_of_ble_eq_true rfl)
  have hh3 := q3.trans hh0
  have c4 : Steps p.tables e below (s₁.setTop (entryFrame m #[.ref a, .ref b, .int (Int32.ofNat o), .int (Int32.ofNat len), .null] 6)) (T3.setTop (mkF m 27 #[.val (.ref a), .val (.ref b), .val (.int (Int32.ofNat o)), .val (.int (Int32.ofNat len)), .val .null, .unset] [])) := (c2.trans (st3 _ (Steps.refl _))).trans (by
    refine XS.iloadN X3.here hexec rfl (hb hbytes d4) rfl ?_
    refine XS.ifYes X3.here hexec rfl (pc0 := 5) rfl (hb hbytes d5) rfl (i0_ne_t (nz32 (by omega) l0)) (by decide) rfl ?_
    exact Steps.refl _)
  obtain ⟨T5, X5, q5, st5⟩ := X3.sget hexec hown (wk W (.fieldLink "java/lang/String" 38 "java/lang/String" "COMPACT_STRINGS" "Z")) s1 (fun _ _ h => by rw [hh3]; exact h) (g := (mkF m 27 #[.val (.ref a), .val (.ref b), .val (.int (Int32.ofNat o)), .val (.int (Int32.ofNat len)), .val .null, .unset] [])) rfl (hb hbytes d27)
  have hh5 := q5.trans hh3
  have c6 : Steps p.tables e below (s₁.setTop (entryFrame m #[.ref a, .ref b, .int (Int32.ofNat o), .int (Int32.ofNat len), .null] 6)) (T5.setTop (mkF m 30 #[.val (.ref a), .val (.ref b), .val (.int (Int32.ofNat o)), .val (.int (Int32.ofNat len)), .val .null, .unset] [.int z])) := c4.trans (st5 _ (Steps.refl _))
  have c7 : Steps p.tables e below (s₁.setTop (entryFrame m #[.ref a, .ref b, .int (Int32.ofNat o), .int (Int32.ofNat len), .null] 6)) (T5.setTop (mkF m 36 #[.val (.ref a), .val (.ref b), .val (.int (Int32.ofNat o)), .val (.int (Int32.ofNat len)), .val .null, .unset] [.int (Int32.ofNat len), .int (Int32.ofNat o), .ref b])) := c6.trans (by
    refine XS.ifNo X5.here hexec rfl (hb hbytes d30) rfl (i0_eq_f hz) ?_
    refine XS.aloadN X5.here hexec rfl (hb hbytes d33) rfl rfl ?_
    refine XS.iloadN X5.here hexec rfl (hb hbytes d34) rfl ?_
    refine XS.iloadN X5.here hexec rfl (hb hbytes d35) rfl ?_
    exact Steps.refl _)
  obtain ⟨v8, T8, X8, E8, g8⟩ := X5.callS hexec (Cmp3.law l b A o len) hown (wks W (staticW "java/lang/String" 177 Cmp3.yN)) (wk W Cmp3.tab) (W := 0) (Nat.le_of_ble_eq_true rfl) (Nat.le_of_ble_eq_true rfl) (Nat.le_refl _) (by show 0 + len ≤ len; omega) (g := (mkF m 36 #[.val (.ref a), .val (.ref b), .val (.int (Int32.ofNat o)), .val (.int (Int32.ofNat len)), .val .null, .unset] [.int (Int32.ofNat len), .int (Int32.ofNat o), .ref b])) rfl (by rw [hml]; rfl) c7 (argsL := [.ref b, .int (Int32.ofNat o), .int (Int32.ofNat len)]) (rest := []) rfl rfl (by show 2 * 0 + 0 ≤ _; decide) (hb hbytes d36) (⟨rfl, hA.mv X5.warmed.alike hh5, l1, l2, hp⟩)
  obtain ⟨e8, z8⟩ := E8
  obtain ⟨rfl, N, n1, n2, n3, n4, n5, n6⟩ := NewArr.mv _ T5 s _ _ hh5.symm (Vm.Alike.refl _) rfl e8
  rw [hh5] at z8
  have hB1 := hB.keep X8.warmed.alike (n6 _ _ hB.1)
  have hne : s.heap.size ≠ a := (Nat.ne_of_lt (Array.getElem?_eq_some_iff.mp hB.1).1).symm
  have c9 : Steps p.tables e below (s₁.setTop (entryFrame m #[.ref a, .ref b, .int (Int32.ofNat o), .int (Int32.ofNat len), .null] 6)) (T8.setTop (mkF m 39 #[.val (.ref a), .val (.ref b), .val (.int (Int32.ofNat o)), .val (.int (Int32.ofNat len)), .val .null, .unset] [.ref s.heap.size])) := g8
  have c10 : Steps p.tables e below (s₁.setTop (entryFrame m #[.ref a, .ref b, .int (Int32.ofNat o), .int (Int32.ofNat len), .null] 6)) (T8.setTop (mkF m 45 #[.val (.ref a), .val (.ref b), .val (.int (Int32.ofNat o)), .val (.int (Int32.ofNat len)), .val .null, .val (.ref s.heap.size)] [.int (Int32.ofNat N.slots.size), .ref s.heap.size, .ref a])) := by
    have hc : Steps p.tables e below (s₁.setTop (entryFrame m #[.ref a, .ref b, .int (Int32.ofNat o), .int (Int32.ofNat len), .null] 6)) (T8.setTop (mkF m 45 #[.val (.ref a), .val (.ref b), .val (.int (Int32.ofNat o)), .val (.int (Int32.ofNat len)), .val .null, .val (.ref s.heap.size)] [.int (Int32.ofNat len), .ref s.heap.size, .ref a])) := c9.trans (by
      refine XS.astore X8.here hexec rfl (hb hbytes d39) rfl rfl rfl ?_
      refine XS.aloadN X8.here hexec rfl (hb hbytes d41) rfl rfl ?_
      refine XS.aload X8.here hexec rfl (hb hbytes d42) rfl rfl ?_
      refine XS.iloadN X8.here hexec rfl (hb hbytes d44) rfl ?_
      exact Steps.refl _)
    rw [n4]; exact hc
  obtain ⟨v11, T11, X11, E11, g11⟩ := X8.callS hexec (CodL.law l s.heap.size N) hown (wks W (staticW "java/lang/String" 47 CodL.yN)) (wk W CodL.tab) (W := 1) (Nat.le_of_ble_eq_true rfl) (Nat.le_of_ble_eq_true rfl) (Nat.le_refl _) (by show 0 + len + 0 ≤ len; omega) (g := (mkF m 45 #[.val (.ref a), .val (.ref b), .val (.int (Int32.ofNat o)), .val (.int (Int32.ofNat len)), .val .null, .val (.ref s.heap.size)] [.int (Int32.ofNat N.slots.size), .ref s.heap.size, .ref a])) rfl (by rw [hml]; rfl) c10 (argsL := [.ref s.heap.size, .int (Int32.ofNat N.slots.size)]) (rest := [.ref a]) rfl rfl (by show 2 * 0 + (1 + 0) ≤ _; decide) (hb hbytes d45) (⟨rfl, n1⟩)
  obtain ⟨rfl, q11⟩ := E11
  have hB11 := hB1.mv (X8.warmed.alike.symm.trans X11.warmed.alike) q11
  have c12 : Steps p.tables e below (s₁.setTop (entryFrame m #[.ref a, .ref b, .int (Int32.ofNat o), .int (Int32.ofNat len), .null] 6)) (T11.setTop (mkF m 48 #[.val (.ref a), .val (.ref b), .val (.int (Int32.ofNat o)), .val (.int (Int32.ofNat len)), .val .null, .val (.ref s.heap.size)] [.int 0, .ref a])) := g11
  obtain ⟨T13, X13, p13, bl13, sl13, st13⟩ := X11.finit hexec hown (wk W (.fieldLink "java/lang/String" 15 "java/lang/String" "coder" "B")) (Or.inr ⟨_, (wk W (.laysFinal "java/lang/String" "java/lang/String" "coder" "B"))⟩) (Or.inl ⟨rfl, hnm⟩) f2 (Or.inl rfl) hB11 (t := .byte) (by decide +kernel) rfl (g := (mkF m 48 #[.val (.ref a), .val (.ref b), .val (.int (Int32.ofNat o)), .val (.int (Int32.ofNat len)), .val .null, .val (.ref s.heap.size)] [.int 0, .ref a])) rfl (rest := []) rfl (hb hbytes d48)
  have c14 : Steps p.tables e below (s₁.setTop (entryFrame m #[.ref a, .ref b, .int (Int32.ofNat o), .int (Int32.ofNat len), .null] 6)) (T13.setTop (mkF m 54 #[.val (.ref a), .val (.ref b), .val (.int (Int32.ofNat o)), .val (.int (Int32.ofNat len)), .val .null, .val (.ref s.heap.size)] [.ref s.heap.size, .ref a])) := (c12.trans (st13 _ (Steps.refl _))).trans (by
    refine XS.aloadN X13.here hexec rfl (hb hbytes d51) rfl rfl ?_
    refine XS.aload X13.here hexec rfl (hb hbytes d52) rfl rfl ?_
    exact Steps.refl _)
  obtain ⟨T15, X15, p15, bl15, sl15, st15⟩ := X13.finit hexec hown (wk W (.fieldLink "java/lang/String" 9 "java/lang/String" "value" "[B")) (Or.inr ⟨_, (wk W (.laysFinal "java/lang/String" "java/lang/String" "value" "[B"))⟩) (Or.inl ⟨rfl, hnm⟩) f1 (Or.inl rfl) bl13 (t := (.array .byte)) (by decide +kernel) rfl (g := (mkF m 54 #[.val (.ref a), .val (.ref b), .val (.int (Int32.ofNat o)), .val (.int (Int32.ofNat len)), .val .null, .val (.ref s.heap.size)] [.ref s.heap.size, .ref a])) rfl (rest := []) rfl (hb hbytes d54)
  have c16 : Steps p.tables e below (s₁.setTop (entryFrame m #[.ref a, .ref b, .int (Int32.ofNat o), .int (Int32.ofNat len), .null] 6)) (T15.setTop (mkF m 57 #[.val (.ref a), .val (.ref b), .val (.int (Int32.ofNat o)), .val (.int (Int32.ofNat len)), .val .null, .val (.ref s.heap.size)] [])) := c14.trans (st15 _ (Steps.refl _))
  have ap := apart (Or.inr ⟨_, (wk W (.laysFinal "java/lang/String" "java/lang/String" "value" "[B"))⟩) (Or.inr ⟨_, (wk W (.laysFinal "java/lang/String" "java/lang/String" "coder" "B"))⟩) f1 f2 (t₁ := .array .byte) (t₂ := .byte) (by decide +kernel) (by decide +kernel) (by decide)
  have al := X8.warmed.alike.symm.trans X15.warmed.alike
  have n7 : T11.heap[s.heap.size]? = some N := by rw [q11]; exact n1.1
  exact ⟨T15, none, _, _, _, X15, by simp, rfl, by omega, (fun _ => rfl), ⟨rfl, _, N, bl15, ((Same.refl D _).set _ (by simp)).set _ (by simp), sl15, (Cell.slots_setSlot_ne _ ap).trans sl13, n1.keep al (p15.other hne (p13.other hne n7)), n2, by rw [al.findClass]; exact n3, n4, n5, fun y c h1 h2 => p15.other h1 (p13.other h1 (by rw [q11]; exact n6 y c h2)), by rw [p15.2.2, p13.2.2, q11]; exact z8⟩, fun fs hl => c16.trans (X15.returnOut hexec hret (hb hbytes d57) hl)⟩
end New4
namespace New1
def yN : MethodName := ⟨"java/lang/String", "<init>", "([C)V"⟩
abbrev yB : ByteArray := jdk_42_method_3_code
theorem d0 : decode yB 0 = .ok (.aload_n 0, 1) := by decide +kernel
theorem d1 : decode yB 1 = .ok (.aload_n 1, 1) := by decide +kernel
theorem d2 : decode yB 2 = .ok (.iconst 0, 1) := by decide +kernel
theorem d3 : decode yB 3 = .ok (.aload_n 1, 1) := by decide +kernel
theorem d4 : decode yB 4 = .ok (.arraylength, 1) := by decide +kernel
theorem d5 : decode yB 5 = .ok (.aconst_null, 1) := by decide +kernel
theorem d6 : decode yB 6 = .ok (.invokespecial 27, 3) := by decide +kernel
theorem d9 : decode yB 9 = .ok (.return_, 1) := by decide +kernel
def site : List Cond := [New4.tab] ++ initW "java/lang/String" 27 New4.yN
def tab : Cond := tabOf yN yB 2 none site
def P (a : Addr) (D : Cell) (fV fC : Field) (b : Addr) (A : Cell) (z : Int32) (args : Array Value) (s : State) : Prop := args = #[.ref a, .ref b] ∧ Blank "java/lang/String" a D s ∧ Found "java/lang/String" "value" "[B" fV s ∧ Found "java/lang/String" "coder" "B" fC s ∧ Ch b A s ∧ StaticIs s "java/lang/String" "COMPACT_STRINGS" "Z" (.int z) ∧ ¬ z = 0 ∧ 0 < A.slots.size ∧ A.slots.size ≤ 536870912 ∧ ∀ i, i < A.slots.size → ¬ 255 < cv A i
def E (a : Addr) (D : Cell) (fV fC : Field) (A : Cell) (r : Option Value) (s u : State) : Prop := Got a D fV fC A 0 A.slots.size r s u
/-- new String(chars), not empty, no char above 255: a Latin-1 String of their low bytes -/
theorem law (l : Launch) (a : Addr) (D : Cell) (fV fC : Field) (b : Addr) (A : Cell) (z : Int32) : Law l yN 2 1 3 52 yB 2 none site (P a D fV fC b A z) (E a D fV fC A) [⟨a, fC.slot⟩, ⟨a, fV.slot⟩] 1 A.slots.size := by
  refine Law.of_walk (plainFor_of_name (by decide +kernel)) (by decide +kernel) (by decide +kernel) (by decide) (fun _ _ h => by rw [h.1]; rfl) (fun _ U U' hal hh h => ⟨h.1, h.2.1.mv hal hh, h.2.2.1.al hal, h.2.2.2.1.al hal, h.2.2.2.2.1.mv hal hh, h.2.2.2.2.2.1.there hal hh, h.2.2.2.2.2.2⟩) (fun r U U' V V' h1 hal h2 h => Got.mv r U U' V V' h1 hal h2 h) ?_
  intro p e s m args below meth c s₁ X0 hexec hbytes hml hret hlk hnm hown hh0 W hP
  obtain ⟨rfl, hB, f1, f2, hA, s1, hz, l0, l2, hp⟩ := hP
  have c1 : Steps p.tables e below (s₁.setTop (entryFrame m #[.ref a, .ref b] 2)) (s₁.setTop (mkF m 0 #[.val (.ref a), .val (.ref b)] [])) := entry rfl
  have c2 : Steps p.tables e below (s₁.setTop (entryFrame m #[.ref a, .ref b] 2)) (s₁.setTop (mkF m 6 #[.val (.ref a), .val (.ref b)] [.null, .int (Int32.ofNat A.slots.size), .int 0, .ref b, .ref a])) := c1.trans (by
    refine XS.aloadN X0.here hexec rfl (hb hbytes d0) rfl rfl ?_
    refine XS.aloadN X0.here hexec rfl (hb hbytes d1) rfl rfl ?_
    refine iconstV X0.here hexec rfl 0 (hb hbytes d2) (by decide) ?_
    refine XS.aloadN X0.here hexec rfl (hb hbytes d3) rfl rfl ?_
    refine X0.alen hexec (hA.1.mv X0.warmed.alike hh0) rfl rfl (hb hbytes d4) ?_
    refine XS.aconstNull X0.here hexec rfl (hb hbytes d5) ?_
    exact Steps.refl _)
  obtain ⟨v3, T3, X3, E3, g3⟩ := X0.callN hexec (New4.law l a D fV fC b A z 0 A.slots.size) rfl hown (wks W (initW "java/lang/String" 27 New4.yN)) (W New4.tab (by simp only [site, List.mem_cons, List.mem_append, true_or, or_true])) (W := 0) (Nat.le_of_ble_eq_true rfl) (Nat.le_of_ble_eq_true rfl) (Nat.le_refl _) (by show 0 + A.slots.size ≤ A.slots.size; omega) (g := (mkF m 6 #[.val (.ref a), .val (.ref b)] [.null, .int (Int32.ofNat A.slots.size), .int (Int32.ofNat 0), .ref b, .ref a])) rfl (by rw [hml]; rfl) c2 (argsL := [.ref b, .int (Int32.ofNat 0), .int (Int32.ofNat A.slots.size), .null]) (rest := []) rfl rfl (by show 2 * 0 + 0 ≤ _; decide) (hb hbytes d6) (⟨rfl, hB.mv X0.warmed.alike hh0, f1.al X0.warmed.alike, f2.al X0.warmed.alike, hA.mv X0.warmed.alike hh0, s1.there X0.warmed.alike hh0, hz, l0, by omega, l2, fun i hi => by rw [Nat.zero_add]; exact hp i hi⟩)
  have e0 := Got.mv _ s₁ s _ _ hh0.symm (Vm.Alike.refl _) rfl E3
  obtain rfl := e0.1
  have c4 : Steps p.tables e below (s₁.setTop (entryFrame m #[.ref a, .ref b] 2)) (T3.setTop (mkF m 9 #[.val (.ref a), .val (.ref b)] [])) := g3
  exact ⟨T3, none, _, _, _, X3, by simp, rfl, by omega, (fun _ => rfl), e0, fun fs hl => c4.trans (X3.returnOut hexec hret (hb hbytes d9) hl)⟩
theorem pays {l : Launch} {R : Room} {p : Program} {e : Env} {below : List Frame} {s : State} {sargs : Array Value} {len W : Nat} (a : Addr) (D : Cell) (fV fC : Field) (b : Addr) (A : Cell) (z : Int32) (htab : tab.before sargs s = true) (hfr : 4 ≤ R.frames) (hlo : W + 65 ≤ R.locals) :
    Back l R p e below s sargs yN len W (fun A₁ a₁ => A₁.cells + 1 ≤ R.cells ∧ A₁.slots + A.slots.size ≤ R.slots ∧ P a D fV fC b A z a₁ A₁.U) (fun A₁ _ v₁ B₁ => E a D fV fC A v₁ A₁.U B₁.U ∧ B₁.locs = A₁.locs ++ [⟨a, fC.slot⟩, ⟨a, fV.slot⟩] ∧ B₁.cells = A₁.cells + 1 ∧ B₁.slots = A₁.slots + A.slots.size) :=
  (law l a D fV fC b A z).pays htab hfr (by omega)
end New1
end StrChars
namespace StrChars.Road
open Jvm Sem ClassFile Op Lib Jvm.Stand Jvm.Free Jvm.Free.XT
open Jvm.Lib.Cold (StaticIs)
abbrev ST : String := "java/lang/String"
/-- every table word that New1's law asks, flat -/
abbrev words : List Jvm.Cond := [.code New1.yN New1.yB 2 none, .initialized ST, .methodLink ST 27 New4.yN, .instanceMethod New4.yN,
  .code New4.yN New4.yB 6 none, .fieldLink ST 38 ST "COMPACT_STRINGS" "Z", .laysFinal ST ST "value" "[B", .fieldLink ST 9 ST "value" "[B", .laysFinal ST ST "coder" "B", .fieldLink ST 15 ST "coder" "B",
  .methodLink ST 1 Lib.objectInit, .instanceMethod Lib.objectInit, .code Lib.objectInit ⟨#[0xb1]⟩ 1 none, .methodLink ST 177 Cmp3.yN, .static Cmp3.yN, .methodLink ST 47 CodL.yN, .static CodL.yN,
  .code Cmp3.yN Cmp3.yB 6 (some (.array .byte)), .initialized U16, .arrayClass .byte, .methodLink U16 115 Cmp5.yN, .static Cmp5.yN, .code Cmp5.yN Cmp5.yB 7 (some .int), .code CodL.yN CodL.yB 2 (some .byte)]
theorem tab_of {a : Array Value} {s : State} (h : ∀ w ∈ words, w.before a s = true) : New1.tab.before a s = true := by
  have h5 : Cmp5.tab.before a s = true := unparts (wk h (.code Cmp5.yN Cmp5.yB 7 (some .int))) (wks h (.initialized Cmp5.yN.cls :: Cmp5.site))
  have hc : CodL.tab.before a s = true := unparts (wk h (.code CodL.yN CodL.yB 2 (some .byte))) (wks h (.initialized CodL.yN.cls :: CodL.site))
  have q5 : ∀ w ∈ Cmp5.tab :: words, w.before a s = true := fun w hw => (List.mem_cons.mp hw).elim (fun e => e ▸ h5) (h w)
  have h3 : Cmp3.tab.before a s = true := unparts (wk q5 (.code Cmp3.yN Cmp3.yB 6 (some (.array .byte)))) (wks q5 (.initialized Cmp3.yN.cls :: Cmp3.site))
  have q3 : ∀ w ∈ Cmp3.tab :: CodL.tab :: words, w.before a s = true := fun w hw => (List.mem_cons.mp hw).elim (fun e => e ▸ h3) fun hw => (List.mem_cons.mp hw).elim (fun e => e ▸ hc) (h w)
  have h4 : New4.tab.before a s = true := unparts (wk q3 (.code New4.yN New4.yB 6 none)) (wks q3 (.initialized New4.yN.cls :: New4.site))
  have q4 : ∀ w ∈ New4.tab :: words, w.before a s = true := fun w hw => (List.mem_cons.mp hw).elim (fun e => e ▸ h4) (h w)
  exact unparts (wk q4 (.code New1.yN New1.yB 2 none)) (wks q4 (.initialized New1.yN.cls :: New1.site))
/-- the words ride from the start Z to the walk's own state -/
theorem moved {Z s : State} {a0 args : Array Value} (hZ : Z.Warmed39 s.vm) (hw : ∀ d ∈ words, d.before a0 Z = true) : ∀ d ∈ words, d.before args s = true := fun d hd => by
  have q := hw d hd
  have t : ∀ d ∈ words, d = .arrayClass .byte ∨ (d.onTables && d.keepsFace) = true := by decide +kernel
  rcases t d hd with rfl | t
  · exact RoadKit.mvA hZ q
  · exact RoadKit.mv hZ q t
/-- WHAT COMES BACK, over the tables of the start Z: h the heap at the call, h' behind it -/
def Q (Z : State) (x : Addr) (A : Cell) (h : Heap) (v : Option Value) (h' : Heap) (L : List Loc) : Prop := v = none ∧ (∀ y ∈ L, y.base = x) ∧ RoadKit.Keep h h' [x] ∧ h'.size = h.size + 1 ∧ RoadKit.Exa Z h' x ST ∧ RoadKit.Fld Z h' x ST "value" "[B" (.ref h.size) ∧ RoadKit.Fld Z h' x ST "coder" "B" (.int 0) ∧
  (∃ V : Cell, RoadKit.Arr Z h' h.size V .byte ∧ V.vm = .none ∧ Z.vm.findClass "[B" = some V.cls ∧ V.slots.size = A.slots.size ∧ ∀ j, j < A.slots.size → V.slots[j]? = some (.int (lo8 (cv A j)))) ∧
  ∀ (O n d : String) (w : Value), RoadKit.Fld Z h x O n d w → RoadKit.slotOf Z O n d ≠ RoadKit.slotOf Z ST "value" "[B" → RoadKit.slotOf Z O n d ≠ RoadKit.slotOf Z ST "coder" "B" → RoadKit.Fld Z h' x O n d w
/-- **new String(chars) AT A CALL, IN THE ROAD'S FORM**: for specialBack behind newO: x the fresh String, b the char[] with the cell A -/
theorem back {p : Program} {l : Launch} {e : Env} {R : Room} {s : State} {args : Array Value} {below : List Frame} {len W : Nat} {Z : State} {a0 : Array Value} {h : Heap} (hZ : Z.Warmed39 s.vm) (hw : ∀ d ∈ words, d.before a0 Z = true) {kI : Nat} (wi : (Jvm.Cond.instantiable ST kI).before a0 Z = true)
    {x b : Addr} {A : Cell} {z : Int32} {v0 c0 : Value} (E : RoadKit.Exa Z h x ST) (V : RoadKit.Fld Z h x ST "value" "[B" v0) (C : RoadKit.Fld Z h x ST "coder" "B" c0) (K : RoadKit.Arr Z h b A .char) (hty : Typed .char A) (S : RoadKit.Sta Z h ST "COMPACT_STRINGS" "Z" (.int z)) (hz : ¬ z = 0)
    (l0 : 0 < A.slots.size) (l2 : A.slots.size ≤ 536870912) (hp : ∀ i, i < A.slots.size → ¬ 255 < cv A i) (hfr : 4 ≤ R.frames) (hlo : W + 65 ≤ R.locals) :
    Back l R p e below s args New1.yN len W (fun P a => a = #[.ref x, .ref b] ∧ P.U.heap = h ∧ P.cells + 1 ≤ R.cells ∧ P.slots + A.slots.size ≤ R.slots)
      (fun P _ v B => ∃ L, Q Z x A h v B.U.heap L ∧ B.locs = P.locs ++ L ∧ B.cells = P.cells + 1 ∧ B.slots = P.slots + A.slots.size) := by
  intro m meth c P g ig mk a X hg hsize hdg hW hn hp'
  obtain ⟨rfl, rfl, r1, r2⟩ := hp'
  have al : Z.vm.Alike P.U.vm := hZ.alike.trans X.warmed.alike
  obtain ⟨D, cfV, kV, iV, fV, hD, gV, stV, knV, obV, asV, slV⟩ := id V
  obtain ⟨D', cfC, kC, iC, fC, hD', gC, stC, -, -, asC, slC⟩ := id C
  cases hD.symm.trans hD'
  obtain ⟨D2, kD, e1, e2, e3, e4, e5⟩ := id E
  cases hD.symm.trans e1
  obtain ⟨c2, k2, i1, i2, i3, -⟩ := Cond.instantiable_spec wi
  cases e2.symm.trans i1
  cases e3.symm.trans i2
  obtain ⟨kU, u1, u2⟩ := al.2.2 _ _ e3
  have hB : Blank ST x D P.U := ⟨hD, ⟨knV, fun q hq => by rw [hq] at obV; cases obV⟩, by rw [al.findClass]; exact e2, kU, u1, by rw [u2]; exact i3, by rw [u2]; exact e5 i3⟩
  have F1 : Found ST "value" "[B" fV P.U := ⟨SBG.found_only al ⟨cfV, kV, iV, gV⟩, stV⟩
  have F2 : Found ST "coder" "B" fC P.U := ⟨SBG.found_only al ⟨cfC, kC, iC, gC⟩, stC⟩
  have hA : Ch b A P.U := ⟨⟨K.1, State.isArrayOf_alike al K.2.1, K.2.2, by omega⟩, hty⟩
  have hS : StaticIs P.U ST "COMPACT_STRINGS" "Z" (.int z) := by
    obtain ⟨cfS, iS, kS, fS, st, cS, t1, t2, t3, t4, t5, t6, t7⟩ := S
    exact StaticIs.there (s := { Z with heap := P.U.heap }) ⟨cfS, iS, kS, fS, st, cS, t1, t2, t3, t4, t5, (fun q => by rw [q] at t6; cases t6), t7⟩ al rfl
  obtain ⟨v, B, X', ⟨⟨hv, E', V', q1, q2, q3, q4, q5, q6, q7, q8, q9, q10, q11⟩, hl, hc, hs⟩, st⟩ := New1.pays x D fV fC b A z (tab_of (moved hZ hw)) hfr hlo m meth c P g ig mk _ X hg hsize hdg hW hn ⟨r1, r2, rfl, hB, F1, F2, hA, hS, hz, l0, l2, hp⟩
  have al' : Z.vm.Alike B.U.vm := hZ.alike.trans X'.warmed.alike
  have hsz : E'.slots.size = D.slots.size := by
    obtain ⟨-, -, -, kB, w1, w2, w3⟩ := q1
    obtain ⟨kB', y1, y2⟩ := al'.2.2 _ _ e3
    rw [q2.2.1] at w1
    cases w1.symm.trans y1
    rw [w3, e5 i3, y2]
  refine ⟨v, B, X', ⟨_, ⟨hv, ?_, ⟨by omega, fun y cy hy hn' => q10 y cy (by simpa using hn') hy, fun y cy hy => ?_⟩, q11, ⟨E', _, q1.1, by rw [q2.2.1]; exact e2, by rw [q2.2.1]; exact e3, by rw [q2.1]; exact obV, fun _ => by rw [hsz]; exact e5 i3⟩,
    ⟨E', cfV, kV, iV, fV, q1.1, gV, stV, by rw [q2.1]; exact knV, by rw [q2.1]; exact obV, by rw [q2.2.1]; exact asV, q3⟩, ⟨E', cfC, kC, iC, fC, q1.1, gC, stC, by rw [q2.1]; exact knV, by rw [q2.1]; exact obV, by rw [q2.2.1]; exact asC, q4⟩,
    ⟨V', ⟨q5.1, State.isArrayOf_alike al'.symm q5.2.1, q5.2.2.1⟩, q6, by rw [← al'.findClass]; exact q7, q8, fun j hj => by have := q9 j hj; rwa [Nat.zero_add] at this⟩, fun O n d w F n1 n2 => ?_⟩, hl, hc, hs⟩, st⟩
  · intro y hy
    simp only [List.mem_cons, List.not_mem_nil, or_false] at hy
    rcases hy with rfl | rfl <;> rfl
  · by_cases q : y = x
    · subst q
      cases hD.symm.trans hy
      exact ⟨E', q1.1, q2.2.1, q2.1, hsz⟩
    · exact ⟨cy, q10 y cy q hy, rfl, rfl, rfl⟩
  · obtain ⟨D3, cf, k, i, f, g1, g2, g3, g4, g5, g6, g7⟩ := F
    cases hD.symm.trans g1
    simp only [RoadKit.slotOf, g2, gV, gC, Option.map_some, Option.getD_some] at n1 n2
    exact ⟨E', cf, k, i, f, q1.1, g2, g3, by rw [q2.1]; exact g4, by rw [q2.1]; exact g5, by rw [q2.2.1]; exact g6, by rw [q2.2.2 f.slot (by simp [n1, n2])]; exact g7⟩
end StrChars.Road
namespace StrChars.Road
open Jvm Sem ClassFile Op Lib Jvm.Stand Jvm.Free Jvm.Free.XT
/-- WHAT COMES BACK, the byte[] as a list of values -/
def QA (Z : State) (x : Addr) (zn : Int32) (cs : List Int32) (h : Heap) (v : Option Value) (h' : Heap) (L : List Loc) : Prop := v = none ∧ (∀ y ∈ L, y.base = x) ∧ RoadKit.Keep h h' [x] ∧ h'.size = h.size + 1 ∧ RoadKit.Exa Z h' x ST ∧ RoadKit.Fld Z h' x ST "value" "[B" (.ref h.size) ∧ RoadKit.Fld Z h' x ST "coder" "B" (.int 0) ∧
  (∃ kb, Z.vm.findClass "[B" = some kb ∧ RoadKit.Arv Z h' h.size kb .byte zn (cs.map fun c => .int (lo8 c)) (.int 0)) ∧
  ∀ (O n d : String) (w : Value), RoadKit.Fld Z h x O n d w → RoadKit.slotOf Z O n d ≠ RoadKit.slotOf Z ST "value" "[B" → RoadKit.slotOf Z O n d ≠ RoadKit.slotOf Z ST "coder" "B" → RoadKit.Fld Z h' x O n d w
/-- **new String(chars) AT A CALL, THE ARRAYS AS LISTS**: the char[] at b holds cs, not empty, no char above 255 -/
theorem backArv {p : Program} {l : Launch} {e : Env} {R : Room} {s : State} {args : Array Value} {below : List Frame} {len W : Nat} {Z : State} {a0 : Array Value} {h : Heap} (hZ : Z.Warmed39 s.vm) (hw : ∀ d ∈ words, d.before a0 Z = true) {kI : Nat} (wi : (Jvm.Cond.instantiable ST kI).before a0 Z = true)
    {x b : Addr} {k : ClassId} {zn z : Int32} {cs : List Int32} {dv v0 c0 : Value} (E : RoadKit.Exa Z h x ST) (V : RoadKit.Fld Z h x ST "value" "[B" v0) (C : RoadKit.Fld Z h x ST "coder" "B" c0) (K : RoadKit.Arv Z h b k .char zn (cs.map Value.int) dv) (S : RoadKit.Sta Z h ST "COMPACT_STRINGS" "Z" (.int z)) (hz : ¬ z = 0)
    (hlen : zn.toNatClampNeg = cs.length) (h0 : 0 < cs.length) (hbig : cs.length ≤ 536870912) (hall : ∀ c ∈ cs, ¬ 255 < c) (hfr : 4 ≤ R.frames) (hlo : W + 65 ≤ R.locals) :
    Back l R p e below s args New1.yN len W (fun P a => a = #[.ref x, .ref b] ∧ P.U.heap = h ∧ P.cells + 1 ≤ R.cells ∧ P.slots + cs.length ≤ R.slots)
      (fun P _ v B => ∃ L, QA Z x zn cs h v B.U.heap L ∧ B.locs = P.locs ++ L ∧ B.cells = P.cells + 1 ∧ B.slots = P.slots + cs.length) := by
  obtain ⟨A, K1, K2, K3, K4, K5, K6⟩ := K
  have e : A.slots.size = cs.length := K3.trans hlen
  have hat : ∀ (i : Nat) (hi : i < cs.length), A.slots[i]? = some (.int cs[i]) := fun i hi => by rw [K5 i (by omega)]; simp [List.getD_eq_getElem?_getD, hi]
  have hcv : ∀ (i : Nat) (hi : i < cs.length), cv A i = cs[i] := fun i hi => by unfold cv; rw [hat i hi]
  have hty : Typed .char A := fun i v hv => by
    have hi : i < A.slots.size := (Array.getElem?_eq_some_iff.mp hv).1
    have q := K5 i hi
    rw [hv] at q
    rw [Option.some.inj q]
    exact K6 i hi
  refine Back.mono (back hZ hw wi E V C K1 hty S hz (by omega) (by omega) (fun i hi => by rw [hcv i (by omega)]; exact hall _ (List.getElem_mem _)) hfr hlo) (fun P a hp => ⟨hp.1, hp.2.1, hp.2.2.1, by rw [e]; exact hp.2.2.2⟩) (fun P a v B hp hq => ?_)
  obtain ⟨L, ⟨q1, q2, q3, q4, q5, q6, q7, ⟨V', v1, v2, v3, v4, v5⟩, q9⟩, hl, hc, hs⟩ := hq
  refine ⟨L, ⟨q1, q2, q3, q4, q5, q6, q7, ⟨V'.cls, v3, V', v1, rfl, by rw [v4, e, hlen], K4, fun i hi => ?_, fun i hi => ?_⟩, q9⟩, hl, hc, by rw [hs, e]⟩
  · have hi' : i < cs.length := by omega
    rw [v5 i (by omega), hcv i hi']; simp [List.getD_eq_getElem?_getD, hi']
  · have hi' : i < cs.length := by omega
    simp only [List.getD_eq_getElem?_getD, List.getElem?_map, List.getElem?_eq_getElem hi', Option.map_some, Option.getD_some]
    exact fits_lo8 _
end StrChars.Road
namespace StrChars.Road
open Jvm Sem ClassFile Op Lib Jvm.Stand Jvm.Free Jvm.Free.XT
/-- WHAT COMES BACK, in the writer's own shape -/
def QV (Z : State) (x : Addr) (N : Int32) (bs : List Int32) (h : Heap) (n0 : Nat) (v : Option Value) (h' : Heap) (L : List Loc) : Prop := v = none ∧ RoadKit.Fr n0 L ∧ RoadKit.Keep h h' [x] ∧ RoadKit.Exa Z h' x ST ∧ RoadKit.Fld Z h' x ST "coder" "B" (.int 0) ∧
  ∃ (t : Addr) (kb : ClassId), n0 ≤ t ∧ h.size ≤ t ∧ ¬ t = x ∧ RoadKit.Fld Z h' x ST "value" "[B" (.ref t) ∧ RoadKit.Arv Z h' t kb .byte N (bs.map Value.int) (.int 0)
/-- **new String(chars) AT A CALL, FOR THE WRITER**: a char[] of n known ints, each 0 to 255 -/
theorem backV {p : Program} {l : Launch} {e : Env} {R : Room} {s : State} {args : Array Value} {below : List Frame} {len W : Nat} {Z : State} {a0 : Array Value} {h : Heap} (hZ : Z.Warmed39 s.vm) (hw : ∀ d ∈ words, d.before a0 Z = true) {kI : Nat} (wi : (Jvm.Cond.instantiable ST kI).before a0 Z = true)
    {x b : Addr} {kC : ClassId} {cs bs : List Int32} {d v0 c0 : Value} {z N : Int32} {n n0 : Nat} (hx0 : n0 ≤ x) (hh0 : n0 ≤ h.size) (E : RoadKit.Exa Z h x ST) (V : RoadKit.Fld Z h x ST "value" "[B" v0) (C : RoadKit.Fld Z h x ST "coder" "B" c0) (K : RoadKit.Arv Z h b kC .char N (cs.map Value.int) d) (S : RoadKit.Sta Z h ST "COMPACT_STRINGS" "Z" (.int z)) (hz : ¬ z = 0)
    (hn : cs.length = n) (hN : N = Int32.ofNat n) (l0 : 0 < n) (l2 : n ≤ 4000) (hp : ∀ c ∈ cs, ¬ c < 0 ∧ ¬ (255 : Int32) < c) (hb : bs = cs.map (fun c => c.toInt8.toInt32)) (hfr : 4 ≤ R.frames) (hlo : W + 65 ≤ R.locals) :
    Back l R p e below s args (⟨"java/lang/String", "<init>", "([C)V"⟩ : MethodName) len W (fun P a => a = #[.ref x, .ref b] ∧ P.U.heap = h ∧ P.cells + 1 ≤ R.cells ∧ P.slots + n ≤ R.slots)
      (fun P _ v B => ∃ L, QV Z x N bs h n0 v B.U.heap L ∧ B.locs = P.locs ++ L ∧ B.cells = P.cells + 1 ∧ B.slots = P.slots + n) := by
  subst hn hN hb
  refine Back.mono (backArv hZ hw wi E V C K S hz (n32 (by omega)) l0 (by omega) (fun c hc => (hp c hc).2) hfr hlo) (fun P a hp => hp) (fun P a v B hp hq => ?_)
  obtain ⟨L, ⟨q1, q2, q3, q4, q5, q6, q7, ⟨kb, v1, v2⟩, q9⟩, hl, hc, hs⟩ := hq
  exact ⟨L, ⟨q1, fun y hy => by rw [q2 y hy]; exact hx0, q3, q5, q7, h.size, kb, hh0, Nat.le_refl _, Nat.ne_of_gt E.lt, q6, by rw [List.map_map]; exact v2⟩, hl, hc, hs⟩
end StrChars.Road
end Jvm.Pilot.@@N@@
namespace Jvm.Pilot.@@N@@
namespace Own
open Jvm Jvm.ClassFile Sem Op Lib Jvm.Free Jvm.Stand Jvm.LawKit Jvm.RoadKit
/-- what stays through a whole case: the launch, the start, its arguments, the assumed constants, the start heap's size -/
def Gl : Type := Launch × State × Array Value × List (String × Nat) × Nat
def Gl.l (G : Gl) : Launch := G.1
def Gl.Z (G : Gl) : State := G.2.1
def Gl.a0 (G : Gl) : Array Value := G.2.2.1
def Gl.EL (G : Gl) : List (String × Nat) := G.2.2.2.1
def Gl.n0 (G : Gl) : Nat := G.2.2.2.2
/-- one run of one body -/
def Rn : Type := Program × Env × State × MethodId × Array Value × List Frame × Method × Code
def Rn.p (X : Rn) : Program := X.1
def Rn.e (X : Rn) : Env := X.2.1
def Rn.s (X : Rn) : State := X.2.2.1
def Rn.m (X : Rn) : MethodId := X.2.2.2.1
def Rn.args (X : Rn) : Array Value := X.2.2.2.2.1
def Rn.below (X : Rn) : List Frame := X.2.2.2.2.2.1
def Rn.meth (X : Rn) : Method := X.2.2.2.2.2.2.1
def Rn.c (X : Rn) : Code := X.2.2.2.2.2.2.2
/-- one body: its name, bytes, locals, what it returns, its room -/
def Bo : Type := MethodName × ByteArray × Nat × Option FieldType × Room
abbrev Bo.y (M : Bo) : MethodName := M.1
abbrev Bo.bytes (M : Bo) : ByteArray := M.2.1
abbrev Bo.maxL (M : Bo) : Nat := M.2.2.1
abbrev Bo.ret (M : Bo) : Option FieldType := M.2.2.2.1
abbrev Bo.R (M : Bo) : Room := M.2.2.2.2
/-- what is known of a run's body throughout -/
def Fixd (G : Gl) (X : Rn) (M : Bo) : Prop := X.p.tables.exec = Jvm.exec ∧ X.c.code = M.bytes ∧ X.c.maxLocals = M.maxL ∧ X.meth.sig.returnType = M.ret ∧ X.meth.locks = false ∧ X.meth.name = M.y.name ∧ EW G.Z G.a0 G.EL
/-- WHERE A WALK STANDS: the tables of its base vm, the state T, its heap h, at most C new cells of S slots -/
def Here (G : Gl) (X : Rn) (M : Bo) (vm : Vm) (T : State) (h : Heap) (C S : Nat) : Prop :=
  Fixd G X M ∧ ∃ (k0 : Nat) (locs : List Loc) (cells slots : Nat), Stand X.p G.l X.e M.R (X.s.setVm vm) X.m X.args X.below X.meth X.c T locs cells slots ∧ T.heap = h ∧ X.s.Since vm k0 ∧ k0 ≤ h.size ∧ G.Z.Warmed39 vm ∧ vm.findClass M.y.cls = some X.m.cls ∧
    CHr G.Z G.EL X.s.vm X.s.heap vm h ∧ Fr G.n0 locs ∧ Old G.Z G.n0 h ∧ cells ≤ C ∧ slots ≤ S
/-- THE GOAL: from this frame the body comes to its end, and there Q holds -/
def Go (G : Gl) (X : Rn) (M : Bo) (Q : Option Value → Heap → Prop) (T : State) (pc : Nat) (Ls : Array Slot) (st : List Value) : Prop :=
  ∃ s₂ o, Steps X.p.tables X.e X.below (T.setTop (mkF X.m pc Ls st)) s₂ ∧ s₂.status = .running ∧ Ended s₂ X.below o ∧ ∃ v L, o = .returned v ∧ (Q v s₂.heap ∧ Fr G.n0 L ∧ Old G.Z G.n0 s₂.heap) ∧ CHr G.Z G.EL X.s.vm X.s.heap s₂.vm s₂.heap ∧ ReturnedEndW X.s o s₂ L M.R.cells M.R.slots
/-- A BODY's CONTRACT: called with as' in the heap h (the places sf not booked by a constant), it returns and Q holds -/
def Con (G : Gl) (ws : List Jvm.Cond) (M : Bo) (as' : Array Value) (h : Heap) (sf : List Addr) (Q : Option Value → Heap → Prop) : Prop :=
  MetFree G.l M.y (head1 (Jvm.Cond.code M.y M.bytes M.maxL M.ret :: ws) M.R) (fun a U => a = as' ∧ G.Z.Warmed39 U.vm ∧ U.heap = h ∧ CHv G.Z G.EL U.vm h ∧ ∀ x ∈ sf, Safe G.Z G.EL U.vm h x) (fun _ _ _ _ _ => True)
    (fun _ U o U' => ∃ v L, o = .returned v ∧ (Q v U'.heap ∧ Fr G.n0 L ∧ Old G.Z G.n0 U'.heap) ∧ CHr G.Z G.EL U.vm U.heap U'.vm U'.heap ∧ ReturnedEndW U o U' L M.R.cells M.R.slots)
/-- A CALL THAT IS PAID -/
def Pay (G : Gl) (X : Rn) (M : Bo) (vm : Vm) (h : Heap) (y : MethodName) (len W : Nat) (as' : Array Value) (kc ks : Nat) (Q : Option Value → Heap → Prop) : Prop :=
  BackS G.l M.R X.p X.e X.below (X.s.setVm vm) X.args y len W (fun A a => a = as' ∧ A.U.heap = h ∧ A.cells + kc ≤ M.R.cells ∧ A.slots + ks ≤ M.R.slots)
    (fun A _ v B => ∃ L, (Q v B.U.heap ∧ Fr G.n0 L ∧ Old G.Z G.n0 B.U.heap) ∧ B.locs = A.locs ++ L ∧ B.cells ≤ A.cells + kc ∧ B.slots ≤ A.slots + ks ∧ CHr G.Z G.EL vm h B.U.vm B.U.heap)
section Kit
variable {G : Gl} {X : Rn} {M : Bo} {vm : Vm} {T : State} {h : Heap} {C S : Nat} {Q : Option Value → Heap → Prop} {pc pc' : Nat} {Ls Ls' : Array Slot} {st : List Value}
theorem Go.stp {T' : State} {st' : List Value} (hs : ∀ t, Steps X.p.tables X.e X.below (T'.setTop (mkF X.m pc' Ls' st')) t → Steps X.p.tables X.e X.below (T.setTop (mkF X.m pc Ls st)) t) (k : Go G X M Q T' pc' Ls' st') : Go G X M Q T pc Ls st := by
  obtain ⟨s₂, o, h1, r⟩ := k
  exact ⟨s₂, o, hs _ h1, r⟩
theorem Here.x (W : Here G X M vm T h C S) : X.p.tables.exec = Jvm.exec := W.1.1
theorem Here.d (W : Here G X M vm T h C S) {pc : Nat} {r : Except ClassFile.DecodeError (ClassFile.Instr × Nat)} (h2 : ClassFile.decode M.bytes pc = r) : ClassFile.decode X.c.code pc = r := hb W.1.2.1 h2
theorem Here.at (W : Here G X M vm T h C S) : Jvm.At T X.m X.c X.below := by obtain ⟨-, _, _, _, _, X1, -⟩ := W; exact X1.here
theorem Here.old (W : Here G X M vm T h C S) : Old G.Z G.n0 h := by obtain ⟨-, _, _, _, _, -, -, -, -, -, -, -, -, o, -⟩ := W; exact o
theorem Here.ch (W : Here G X M vm T h C S) : CHv G.Z G.EL vm h := by obtain ⟨-, _, _, _, _, -, -, -, -, -, -, q, -⟩ := W; exact q.1
theorem Here.wz (W : Here G X M vm T h C S) : G.Z.Warmed39 vm := by obtain ⟨-, _, _, _, _, -, -, -, -, q, -⟩ := W; exact q
theorem Here.le (W : Here G X M vm T h C S) {C' S' : Nat} (hc : C ≤ C') (hs : S ≤ S') : Here G X M vm T h C' S' := by
  obtain ⟨F, k0, L, c, s, h1, h2, h3, h4, h5, h6, h7, h8, h9, h10, h11⟩ := W
  exact ⟨F, k0, L, c, s, h1, h2, h3, h4, h5, h6, h7, h8, h9, Nat.le_trans h10 hc, Nat.le_trans h11 hs⟩
theorem Here.n0 (W : Here G X M vm T h C S) : G.n0 ≤ h.size := W.old.1 ▸ W.old.2.1
/-- the start heap's fact, now -/
theorem Here.sta (W : Here G X M vm T h C S) {c n d : String} {v : Value} (F : Sta G.Z G.Z.heap c n d v) : Sta G.Z h c n d v := F.ext W.old.2
/-! ### plain steps -/
theorem iconst (W : Here G X M vm T h C S) {i : Int} (hd : decode M.bytes pc = .ok (.iconst i, 1)) (pc' : Nat) (hp : pc + 1 = pc') (v : Int32) (hv : Int32.ofInt i = v) (k : Go G X M Q T pc' Ls (.int v :: st)) : Go G X M Q T pc Ls st := by
  subst hp hv; exact Go.stp (fun t r => XS.iconst W.at W.x rfl (W.d hd) r) k
theorem bipush (W : Here G X M vm T h C S) {i : Int} (hd : decode M.bytes pc = .ok (.bipush i, 2)) (pc' : Nat) (hp : pc + 2 = pc') (v : Int32) (hv : (Int8.ofInt i).toInt32 = v) (k : Go G X M Q T pc' Ls (.int v :: st)) : Go G X M Q T pc Ls st := by
  subst hp hv; exact Go.stp (fun t r => XS.bipush W.at W.x rfl (W.d hd) r) k
theorem sipush (W : Here G X M vm T h C S) {i : Int} (hd : decode M.bytes pc = .ok (.sipush i, 3)) (pc' : Nat) (hp : pc + 3 = pc') (v : Int32) (hv : (Int16.ofInt i).toInt32 = v) (k : Go G X M Q T pc' Ls (.int v :: st)) : Go G X M Q T pc Ls st := by
  subst hp hv; exact Go.stp (fun t r => XS.sipush W.at W.x rfl (W.d hd) r) k
theorem aconstNull (W : Here G X M vm T h C S) (hd : decode M.bytes pc = .ok (.aconst_null, 1)) (pc' : Nat) (hp : pc + 1 = pc') (k : Go G X M Q T pc' Ls (.null :: st)) : Go G X M Q T pc Ls st := by
  subst hp; exact Go.stp (fun t r => XS.aconstNull W.at W.x rfl (W.d hd) r) k
theorem iloadN (W : Here G X M vm T h C S) {j : Fin 4} (hd : decode M.bytes pc = .ok (.iload_n j, 1)) (pc' : Nat) (hp : pc + 1 = pc') (v : Int32) (hl : Ls[j.val]? = some (.val (.int v))) (k : Go G X M Q T pc' Ls (.int v :: st)) : Go G X M Q T pc Ls st := by
  subst hp; exact Go.stp (fun t r => XS.iloadN W.at W.x rfl (W.d hd) hl r) k
theorem iload (W : Here G X M vm T h C S) {j : Nat} (hd : decode M.bytes pc = .ok (.iload j, 2)) (pc' : Nat) (hp : pc + 2 = pc') (v : Int32) (hl : Ls[j]? = some (.val (.int v))) (k : Go G X M Q T pc' Ls (.int v :: st)) : Go G X M Q T pc Ls st := by
  subst hp; exact Go.stp (fun t r => XS.iload W.at W.x rfl (W.d hd) hl r) k
theorem aloadN (W : Here G X M vm T h C S) {j : Fin 4} (hd : decode M.bytes pc = .ok (.aload_n j, 1)) (pc' : Nat) (hp : pc + 1 = pc') (v : Value) (hl : Ls[j.val]? = some (.val v)) (hv : v.isRef = true) (k : Go G X M Q T pc' Ls (v :: st)) : Go G X M Q T pc Ls st := by
  subst hp; exact Go.stp (fun t r => XS.aloadN W.at W.x rfl (W.d hd) hl hv r) k
theorem aload (W : Here G X M vm T h C S) {j : Nat} (hd : decode M.bytes pc = .ok (.aload j, 2)) (pc' : Nat) (hp : pc + 2 = pc') (v : Value) (hl : Ls[j]? = some (.val v)) (hv : v.isRef = true) (k : Go G X M Q T pc' Ls (v :: st)) : Go G X M Q T pc Ls st := by
  subst hp; exact Go.stp (fun t r => XS.aload W.at W.x rfl (W.d hd) hl hv r) k
theorem istoreN (W : Here G X M vm T h C S) {j : Fin 4} {x : Int32} (hd : decode M.bytes pc = .ok (.istore_n j, 1)) (pc' : Nat) (hp : pc + 1 = pc') (Ls' : Array Slot) (hl : storeLocals Ls j.val (.int x) = some Ls') (k : Go G X M Q T pc' Ls' st) : Go G X M Q T pc Ls (.int x :: st) := by
  subst hp; exact Go.stp (fun t r => XS.istoreN W.at W.x rfl (W.d hd) rfl hl r) k
theorem istore (W : Here G X M vm T h C S) {j : Nat} {x : Int32} (hd : decode M.bytes pc = .ok (.istore j, 2)) (pc' : Nat) (hp : pc + 2 = pc') (Ls' : Array Slot) (hl : storeLocals Ls j (.int x) = some Ls') (k : Go G X M Q T pc' Ls' st) : Go G X M Q T pc Ls (.int x :: st) := by
  subst hp; exact Go.stp (fun t r => XS.istore W.at W.x rfl (W.d hd) rfl hl r) k
theorem astoreN (W : Here G X M vm T h C S) {j : Fin 4} {x : Value} (hd : decode M.bytes pc = .ok (.astore_n j, 1)) (pc' : Nat) (hp : pc + 1 = pc') (hv : x.isRef = true) (Ls' : Array Slot) (hl : storeLocals Ls j.val x = some Ls') (k : Go G X M Q T pc' Ls' st) : Go G X M Q T pc Ls (x :: st) := by
  subst hp; exact Go.stp (fun t r => XS.astoreN W.at W.x rfl (W.d hd) rfl hv hl r) k
theorem astore (W : Here G X M vm T h C S) {j : Nat} {x : Value} (hd : decode M.bytes pc = .ok (.astore j, 2)) (pc' : Nat) (hp : pc + 2 = pc') (hv : x.isRef = true) (Ls' : Array Slot) (hl : storeLocals Ls j x = some Ls') (k : Go G X M Q T pc' Ls' st) : Go G X M Q T pc Ls (x :: st) := by
  subst hp; exact Go.stp (fun t r => XS.astore W.at W.x rfl (W.d hd) rfl hv hl r) k
theorem iinc (W : Here G X M vm T h C S) {j : Nat} {cst : Int} {x : Int32} (hd : decode M.bytes pc = .ok (.iinc j cst, 3)) (pc' : Nat) (hp : pc + 3 = pc') (hl : Ls[j]? = some (.val (.int x))) (Ls' : Array Slot) (hl' : storeLocals Ls j (.int (x + Int32.ofInt cst)) = some Ls') (k : Go G X M Q T pc' Ls' st) : Go G X M Q T pc Ls st := by
  subst hp; exact Go.stp (fun t r => XS.iinc W.at W.x rfl (W.d hd) hl hl' r) k
theorem iadd (W : Here G X M vm T h C S) {x y : Int32} (hd : decode M.bytes pc = .ok (.iadd, 1)) (pc' : Nat) (hp : pc + 1 = pc') (k : Go G X M Q T pc' Ls (.int (x + y) :: st)) : Go G X M Q T pc Ls (.int y :: .int x :: st) := by
  subst hp; exact Go.stp (fun t r => XS.iadd W.at W.x rfl (W.d hd) rfl r) k
theorem isub (W : Here G X M vm T h C S) {x y : Int32} (hd : decode M.bytes pc = .ok (.isub, 1)) (pc' : Nat) (hp : pc + 1 = pc') (k : Go G X M Q T pc' Ls (.int (x - y) :: st)) : Go G X M Q T pc Ls (.int y :: .int x :: st) := by
  subst hp; exact Go.stp (fun t r => XS.isub W.at W.x rfl (W.d hd) rfl r) k
theorem iand (W : Here G X M vm T h C S) {x y : Int32} (hd : decode M.bytes pc = .ok (.iand, 1)) (pc' : Nat) (hp : pc + 1 = pc') (k : Go G X M Q T pc' Ls (.int (x &&& y) :: st)) : Go G X M Q T pc Ls (.int y :: .int x :: st) := by
  subst hp; exact Go.stp (fun t r => XS.iand W.at W.x rfl (W.d hd) rfl r) k
theorem ixor (W : Here G X M vm T h C S) {x y : Int32} (hd : decode M.bytes pc = .ok (.ixor, 1)) (pc' : Nat) (hp : pc + 1 = pc') (k : Go G X M Q T pc' Ls (.int (x ^^^ y) :: st)) : Go G X M Q T pc Ls (.int y :: .int x :: st) := by
  subst hp; exact Go.stp (fun t r => XS.ixor W.at W.x rfl (W.d hd) rfl r) k
theorem iushr (W : Here G X M vm T h C S) {x y : Int32} (hd : decode M.bytes pc = .ok (.iushr, 1)) (pc' : Nat) (hp : pc + 1 = pc') (k : Go G X M Q T pc' Ls (.int ((x.toUInt32 >>> (y &&& 31).toUInt32).toInt32) :: st)) : Go G X M Q T pc Ls (.int y :: .int x :: st) := by
  subst hp; exact Go.stp (fun t r => XS.iushr W.at W.x rfl (W.d hd) rfl r) k
theorem ineg (W : Here G X M vm T h C S) {x : Int32} (hd : decode M.bytes pc = .ok (.ineg, 1)) (pc' : Nat) (hp : pc + 1 = pc') (k : Go G X M Q T pc' Ls (.int (-x) :: st)) : Go G X M Q T pc Ls (.int x :: st) := by
  subst hp; exact Go.stp (fun t r => XS.ineg W.at W.x rfl (W.d hd) rfl r) k
theorem i2c (W : Here G X M vm T h C S) {x : Int32} (hd : decode M.bytes pc = .ok (.i2c, 1)) (pc' : Nat) (hp : pc + 1 = pc') (k : Go G X M Q T pc' Ls (.int x.toUInt32.toUInt16.toUInt32.toInt32 :: st)) : Go G X M Q T pc Ls (.int x :: st) := by
  subst hp; exact Go.stp (fun t r => XS.i2c W.at W.x rfl (W.d hd) rfl r) k
theorem i2b (W : Here G X M vm T h C S) {x : Int32} (hd : decode M.bytes pc = .ok (.i2b, 1)) (pc' : Nat) (hp : pc + 1 = pc') (k : Go G X M Q T pc' Ls (.int x.toInt8.toInt32 :: st)) : Go G X M Q T pc Ls (.int x :: st) := by
  subst hp; exact Go.stp (fun t r => XS.i2b W.at W.x rfl (W.d hd) rfl r) k
theorem irem (W : Here G X M vm T h C S) {x y : Int32} (hd : decode M.bytes pc = .ok (.irem, 1)) (pc' : Nat) (hp : pc + 1 = pc') (hy : y ≠ 0) (k : Go G X M Q T pc' Ls (.int (x % y) :: st)) : Go G X M Q T pc Ls (.int y :: .int x :: st) := by
  subst hp
  obtain ⟨F, k0, L, c, s, X1, -⟩ := id W
  exact Go.stp (fun t r => iremM X1 W.x rfl (W.d hd) rfl hy r) k
theorem dup (W : Here G X M vm T h C S) {x : Value} (hd : decode M.bytes pc = .ok (.dup, 1)) (pc' : Nat) (hp : pc + 1 = pc') (hc : x.category = 1) (k : Go G X M Q T pc' Ls (x :: x :: st)) : Go G X M Q T pc Ls (x :: st) := by
  subst hp; exact Go.stp (fun t r => XS.dup W.at W.x rfl (W.d hd) rfl hc r) k
theorem pop (W : Here G X M vm T h C S) {x : Value} (hd : decode M.bytes pc = .ok (.pop, 1)) (pc' : Nat) (hp : pc + 1 = pc') (hc : x.category = 1) (k : Go G X M Q T pc' Ls st) : Go G X M Q T pc Ls (x :: st) := by
  subst hp; exact Go.stp (fun t r => XS.pop W.at W.x rfl (W.d hd) rfl hc r) k
theorem goto (W : Here G X M vm T h C S) {o : Int} (hd : decode M.bytes pc = .ok (.goto o, 3)) (pc' : Nat) (ho : 0 ≤ (pc : Int) + o) (hp : ((pc : Int) + o).toNat = pc') (k : Go G X M Q T pc' Ls st) : Go G X M Q T pc Ls st :=
  Go.stp (fun t r => XS.goto W.at W.x rfl (pc0 := pc) (pc' := pc') rfl (W.d hd) ho hp r) k
theorem ifYes (W : Here G X M vm T h C S) {cd : ClassFile.Cond} {x : Int32} {o : Int} (hd : decode M.bytes pc = .ok (.ifCond cd o, 3)) (pc' : Nat) (hc : ifCond.holds cd x = true) (ho : 0 ≤ (pc : Int) + o) (hp : ((pc : Int) + o).toNat = pc') (k : Go G X M Q T pc' Ls st) : Go G X M Q T pc Ls (.int x :: st) :=
  Go.stp (fun t r => XS.ifYes W.at W.x rfl (pc0 := pc) (pc' := pc') rfl (W.d hd) rfl hc ho hp r) k
theorem ifNo (W : Here G X M vm T h C S) {cd : ClassFile.Cond} {x : Int32} {o : Int} (hd : decode M.bytes pc = .ok (.ifCond cd o, 3)) (pc' : Nat) (hc : ifCond.holds cd x = false) (hp : pc + 3 = pc') (k : Go G X M Q T pc' Ls st) : Go G X M Q T pc Ls (.int x :: st) := by
  subst hp; exact Go.stp (fun t r => XS.ifNo W.at W.x rfl (W.d hd) rfl hc r) k
theorem icmpYes (W : Here G X M vm T h C S) {cd : ClassFile.Cond} {x y : Int32} {o : Int} (hd : decode M.bytes pc = .ok (.if_icmp cd o, 3)) (pc' : Nat) (hc : if_icmp.holds cd x y = true) (ho : 0 ≤ (pc : Int) + o) (hp : ((pc : Int) + o).toNat = pc') (k : Go G X M Q T pc' Ls st) : Go G X M Q T pc Ls (.int y :: .int x :: st) :=
  Go.stp (fun t r => XS.icmpYes W.at W.x rfl (pc0 := pc) (pc' := pc') rfl (W.d hd) rfl hc ho hp r) k
theorem icmpNo (W : Here G X M vm T h C S) {cd : ClassFile.Cond} {x y : Int32} {o : Int} (hd : decode M.bytes pc = .ok (.if_icmp cd o, 3)) (pc' : Nat) (hc : if_icmp.holds cd x y = false) (hp : pc + 3 = pc') (k : Go G X M Q T pc' Ls st) : Go G X M Q T pc Ls (.int y :: .int x :: st) := by
  subst hp; exact Go.stp (fun t r => XS.icmpNo W.at W.x rfl (W.d hd) rfl hc r) k
theorem ifnullYes (W : Here G X M vm T h C S) {o : Int} (hd : decode M.bytes pc = .ok (.ifnull o, 3)) (pc' : Nat) (ho : 0 ≤ (pc : Int) + o) (hp : ((pc : Int) + o).toNat = pc') (k : Go G X M Q T pc' Ls st) : Go G X M Q T pc Ls (.null :: st) :=
  Go.stp (fun t r => XS.ifnullYes W.at W.x rfl (pc0 := pc) (pc' := pc') rfl (W.d hd) rfl ho hp r) k
theorem ifnullNo (W : Here G X M vm T h C S) {o : Int} {b : Addr} (hd : decode M.bytes pc = .ok (.ifnull o, 3)) (pc' : Nat) (hp : pc + 3 = pc') (k : Go G X M Q T pc' Ls st) : Go G X M Q T pc Ls (.ref b :: st) := by
  subst hp; exact Go.stp (fun t r => XS.ifnullNo W.at W.x rfl (W.d hd) rfl r) k
theorem ifnonnullYes (W : Here G X M vm T h C S) {o : Int} {b : Addr} (hd : decode M.bytes pc = .ok (.ifnonnull o, 3)) (pc' : Nat) (ho : 0 ≤ (pc : Int) + o) (hp : ((pc : Int) + o).toNat = pc') (k : Go G X M Q T pc' Ls st) : Go G X M Q T pc Ls (.ref b :: st) :=
  Go.stp (fun t r => XT.nonnullYes W.at W.x rfl (pc0 := pc) (pc' := pc') rfl (W.d hd) rfl rfl (fun q => nomatch q) ho hp r) k
theorem ifnonnullNo (W : Here G X M vm T h C S) {o : Int} (hd : decode M.bytes pc = .ok (.ifnonnull o, 3)) (pc' : Nat) (hp : pc + 3 = pc') (k : Go G X M Q T pc' Ls st) : Go G X M Q T pc Ls (.null :: st) := by
  subst hp; exact Go.stp (fun t r => XT.nonnullNo W.at W.x rfl (W.d hd) rfl rfl r) k
theorem acmp (W : Here G X M vm T h C S) {cd : ACond} {x y : Value} {o : Int} (hd : decode M.bytes pc = .ok (.if_acmp cd o, 3)) (pc' : Nat) (h1 : x.isRef = true) (h2 : y.isRef = true) (same : Bool) (hs : decide (x = y) = same) (ho : 0 ≤ (pc : Int) + o) (hp : pc' = if acV cd same = true then ((pc : Int) + o).toNat else pc + 3) (k : Go G X M Q T pc' Ls st) : Go G X M Q T pc Ls (y :: x :: st) := by
  obtain ⟨F, k0, L, c, s, X1, -⟩ := id W
  exact Go.stp (fun t r => Jvm.RoadKit.acmp (g := mkF X.m pc Ls (y :: x :: st)) X1 W.x rfl h1 h2 (pc0 := pc) (pc' := pc') (same := same) rfl (W.d hd) rfl hs ho hp r) k
end Kit
end Own
end Jvm.Pilot.@@N@@
namespace Jvm.Pilot.@@N@@
namespace Own
open Jvm Jvm.ClassFile Sem Op Lib Jvm.Free Jvm.Stand Jvm.LawKit Jvm.RoadKit
section Kit2
variable {G : Gl} {X : Rn} {M : Bo} {vm : Vm} {T : State} {h : Heap} {C S : Nat} {Q : Option Value → Heap → Prop} {pc pc' : Nat} {Ls Ls' : Array Slot} {st : List Value}
theorem Ext.rfl' (h : Heap) : Ext h h := ⟨Nat.le_refl _, fun _ _ q => q⟩
theorem Ext.tr {h1 h2 h3 : Heap} (a : Ext h1 h2) (b : Ext h2 h3) : Ext h1 h3 := ⟨Nat.le_trans a.1 b.1, fun x c q => b.2 x c (a.2 x c q)⟩
theorem Ext.wr' {h1 h2 h3 : Heap} {a : Addr} {sl : Nat} {v : Value} (e : Ext h1 h2) (w : Wr h2 h3 a sl v) (ha : h1.size ≤ a) : Ext h1 h3 := ⟨Nat.le_trans e.1 (Keep.of_wr w).1, fun x c q => (Keep.of_wr w).2.1 x c (e.2 x c q) fun z => by
  cases List.mem_singleton.mp z; exact absurd (Array.getElem?_eq_some_iff.mp q).1 (Nat.not_lt.mpr ha)⟩
theorem Ext.kp {h1 h2 h3 : Heap} {ws : List Addr} (e : Ext h1 h2) (k : Keep h2 h3 ws) (ha : ∀ x ∈ ws, h1.size ≤ x) : Ext h1 h3 := ⟨Nat.le_trans e.1 k.1, fun x c q => k.2.1 x c (e.2 x c q) fun z => absurd (Array.getElem?_eq_some_iff.mp q).1 (Nat.not_lt.mpr (ha x z))⟩
theorem Ext.keep {h1 h2 : Heap} (e : Ext h1 h2) : Keep h1 h2 [] := ⟨e.1, fun x c q _ => e.2 x c q, fun x c q => ⟨c, e.2 x c q, rfl, rfl, rfl⟩⟩
/-! ### the end -/
theorem Go.retW (W : Here G X M vm T h C S) (hC : C ≤ M.R.cells) (hS : S ≤ M.R.slots) {v : Option Value} (hv : M.ret = none → v = none)
    (hst : ∀ fs, (∀ (f : JFrame) (acts : List Action), f.method = X.m → f.locked = none → f.entered = [] → (doReturn X.e (T.setTop f) acts v).1 = T.setFrames fs) → Steps X.p.tables X.e X.below (T.setTop (mkF X.m pc Ls st)) (T.setFrames fs)) (hQ : Q v h) : Go G X M Q T pc Ls st := by
  obtain ⟨⟨hx, hby, hml, hret, hlk, hnm, hEL⟩, k0, L, c, s, X1, e1, S1, hk, hZ, hown, hCH, N, O, c1, s1⟩ := W
  obtain ⟨fs, hr, hrun, hended, h1, h2, h3, h4⟩ := X1.leaveW S1 (by rw [e1]; exact hk) (v := v) (fun q => hv (hret.symm.trans q)) hlk
  refine ⟨_, _, hst fs hr, hrun, hended, v, L, rfl, ⟨?_, N, ?_⟩, ?_, h1, h2, h3, h4.mono (Nat.le_trans c1 hC) (Nat.le_trans s1 hS)⟩
  · show Q v T.heap
    rw [e1]; exact hQ
  · show Old G.Z G.n0 T.heap
    rw [e1]; exact O
  · show CHr G.Z G.EL X.s.vm X.s.heap T.vm T.heap
    rw [e1]; exact hCH.trans (CHv.at X1 hZ hEL hCH.1)
theorem retI (W : Here G X M vm T h C S) (hC : C ≤ M.R.cells) (hS : S ≤ M.R.slots) (hr : M.ret = some .int) (hd : decode M.bytes pc = .ok (.ireturn, 1)) {z : Int32} (hQ : Q (some (.int z)) h) : Go G X M Q T pc Ls (.int z :: st) := by
  obtain ⟨F, k0, L, c, s, X1, -⟩ := id W
  exact Go.retW W hC hS (fun q => by rw [hr] at q; cases q) (fun fs q => retOut X1 W.x (F.2.2.2.1.trans hr) rfl (Or.inl ⟨rfl, Or.inl rfl, z, rfl⟩) (W.d hd) q) hQ
theorem retB (W : Here G X M vm T h C S) (hC : C ≤ M.R.cells) (hS : S ≤ M.R.slots) (hr : M.ret = some .boolean) (hd : decode M.bytes pc = .ok (.ireturn, 1)) {z : Int32} (hz : narrow .boolean (.int z) = .int z) (hQ : Q (some (.int z)) h) : Go G X M Q T pc Ls (.int z :: st) := by
  obtain ⟨F, k0, L, c, s, X1, -⟩ := id W
  exact Go.retW W hC hS (fun q => by rw [hr] at q; cases q) (fun fs q => retOut X1 W.x (F.2.2.2.1.trans hr) hz (Or.inl ⟨rfl, Or.inr (Or.inl rfl), z, rfl⟩) (W.d hd) q) hQ
theorem retC (W : Here G X M vm T h C S) (hC : C ≤ M.R.cells) (hS : S ≤ M.R.slots) (hr : M.ret = some .char) (hd : decode M.bytes pc = .ok (.ireturn, 1)) {z : Int32} (hz : narrow .char (.int z) = .int z) (hQ : Q (some (.int z)) h) : Go G X M Q T pc Ls (.int z :: st) := by
  obtain ⟨F, k0, L, c, s, X1, -⟩ := id W
  exact Go.retW W hC hS (fun q => by rw [hr] at q; cases q) (fun fs q => retOut X1 W.x (F.2.2.2.1.trans hr) hz (Or.inl ⟨rfl, Or.inr (Or.inr (Or.inr (Or.inl rfl))), z, rfl⟩) (W.d hd) q) hQ
theorem retY (W : Here G X M vm T h C S) (hC : C ≤ M.R.cells) (hS : S ≤ M.R.slots) (hr : M.ret = some .byte) (hd : decode M.bytes pc = .ok (.ireturn, 1)) {z : Int32} (hz : narrow .byte (.int z) = .int z) (hQ : Q (some (.int z)) h) : Go G X M Q T pc Ls (.int z :: st) := by
  obtain ⟨F, k0, L, c, s, X1, -⟩ := id W
  exact Go.retW W hC hS (fun q => by rw [hr] at q; cases q) (fun fs q => retOut X1 W.x (F.2.2.2.1.trans hr) hz (Or.inl ⟨rfl, Or.inr (Or.inr (Or.inl rfl)), z, rfl⟩) (W.d hd) q) hQ
theorem retA (W : Here G X M vm T h C S) (hC : C ≤ M.R.cells) (hS : S ≤ M.R.slots) {t : FieldType} (hr : M.ret = some t) (ht : t.isReference = true) {w : Value} (hw : w.isRef = true) (hd : decode M.bytes pc = .ok (.areturn, 1)) (hQ : Q (some w) h) : Go G X M Q T pc Ls (w :: st) := by
  obtain ⟨F, k0, L, c, s, X1, -⟩ := id W
  refine Go.retW W hC hS (fun q => by rw [hr] at q; cases q) (fun fs q => retOut X1 W.x (F.2.2.2.1.trans hr) ?_ (Or.inr (Or.inr (Or.inr (Or.inr ⟨rfl, ht, hw⟩)))) (W.d hd) q) hQ
  rcases ref_cases hw with rfl | ⟨b, rfl⟩ <;> cases t <;> first | rfl | cases ht
theorem retL (W : Here G X M vm T h C S) (hC : C ≤ M.R.cells) (hS : S ≤ M.R.slots) (hr : M.ret = some .long) (hd : decode M.bytes pc = .ok (.lreturn, 1)) {z : Int64} (hQ : Q (some (.long z)) h) : Go G X M Q T pc Ls (.long z :: st) := by
  obtain ⟨F, k0, L, c, s, X1, -⟩ := id W
  exact Go.retW W hC hS (fun q => by rw [hr] at q; cases q) (fun fs q => retOut X1 W.x (F.2.2.2.1.trans hr) rfl (Or.inr (Or.inl ⟨rfl, rfl, z, rfl⟩)) (W.d hd) q) hQ
theorem retV (W : Here G X M vm T h C S) (hC : C ≤ M.R.cells) (hS : S ≤ M.R.slots) (hr : M.ret = none) (hd : decode M.bytes pc = .ok (.return_, 1)) (hQ : Q none h) : Go G X M Q T pc Ls [] := by
  obtain ⟨F, k0, L, c, s, X1, -⟩ := id W
  exact Go.retW W hC hS (fun _ => rfl) (fun fs q => X1.returnOut W.x (F.2.2.2.1.trans hr) (W.d hd) q) hQ
/-! ### the entry -/
theorem Con.intro {ws : List Jvm.Cond} {as' : Array Value} {sf : List Addr} (hpn : plainFor M.y = true) (hO : Old G.Z G.n0 h) (hEL : EW G.Z G.a0 G.EL) (Ls0 : Array Slot) (hef : ∀ m, entryFrame m as' M.maxL = mkF m 0 Ls0 [])
    (body : ∀ (X : Rn) (T : State), Here G X M X.s.vm T h 0 0 → (∀ x ∈ sf, Safe G.Z G.EL X.s.vm h x) → Go G X M Q T 0 Ls0 []) : Con G ws M as' h sf Q := by
  refine MetFree.of_bodySF hpn hisR ?_
  intro p e s m args below meth c s₁ Bd hml0 hP hK
  obtain ⟨rfl, hZ, rfl, hCH, hsf⟩ := hP
  have hown : s.vm.findClass M.y.cls = some m.cls := findClass_of_methodNamed Bd.named
  have hnm := (name_of_methodNamed Bd.named Bd.method).1
  have X0 : Stand p G.l e M.R s m args below meth c s₁ [] 0 0 := Stand.of_body Bd
  have e0 : s₁.heap = s.heap := by rw [Bd.state]; rfl
  have q := body (p, e, s, m, args, below, meth, c) s₁ ⟨⟨Bd.exec, Bd.bytes, hml0, Bd.returns, Bd.notSynchronized, hnm, hEL⟩, s.heap.size, [], 0, 0, X0, e0, (State.WarmedH.refl s).since _, Nat.le_refl _, hZ, hown, CHr.refl hCH, Fr.nil _, hO, Nat.le_refl 0, Nat.le_refl 0⟩ hsf
  rw [hef m]
  exact q
/-! ### calls -/
theorem Con.pay {N : Bo} {as' : Array Value} {sf : List Addr} {Qy : Option Value → Heap → Prop} (K : Con G [] N as' h sf Qy) (W : Here G X M vm T h C S) (wc : (Jvm.Cond.code N.y N.bytes N.maxL N.ret).before G.a0 G.Z = true) (wz : (Jvm.Cond.initialized N.y.cls).before G.a0 G.Z = true) {len wd : Nat}
    (hf : N.R.frames + 1 ≤ M.R.frames) (hl : wd + (N.maxL + 11) + N.R.locals ≤ M.R.locals) (hsf : ∀ x ∈ sf, x < h.size ∧ Safe G.Z G.EL vm h x) : Pay G X M vm h N.y len wd as' N.R.cells N.R.slots Qy := by
  have hZ := W.wz
  have hEL := W.1.2.2.2.2.2.2
  have H := W.ch
  exact BackS.of_freeW (bytes := N.bytes) (maxL := N.maxL) (ret := N.ret) (E := fun _ first o t L k n => k = N.R.cells ∧ n = N.R.slots ∧ (∃ v, o = .returned v ∧ Qy v t.heap ∧ Fr G.n0 L ∧ Old G.Z G.n0 t.heap) ∧ CHr G.Z G.EL first.vm first.heap t.vm t.heap) K hf hl
    (fun m meth c A a Y hp => have hU : G.Z.Warmed39 A.U.vm := wtrans (s := X.s.setVm vm) hZ Y.warmed
      ⟨by show (Cond.and _ .tt).before a A.U = true; rw [Cond.before_and, mv hU wc]; rfl, mv hU wc, mv hU wz, hp.2.2.1, hp.2.2.2⟩)
    (fun m meth c A a g mk Y hp => ⟨hp.1, wtrans (s := X.s.setVm vm) hZ Y.warmed, hp.2.1, (CHv.at Y hZ hEL H).1, fun x hx => (CHv.at Y hZ hEL H).safe (hsf x hx).1 (hsf x hx).2⟩) (fun _ _ _ _ _ _ _ _ _ => trivial)
    (fun _ _ _ _ ⟨v, L, h1, h2, h3, h4⟩ => ⟨L, _, _, h4, rfl, rfl, ⟨v, h1, h2⟩, h3⟩)
    (fun m meth c A a g mk v t L k n Y hp _ _ ⟨e1, e2, ⟨v', e3, e4⟩, e5⟩ => by
      cases e3; subst e1 e2
      refine ⟨L, e4, rfl, Nat.le_refl _, Nat.le_refl _, (CHv.at Y hZ hEL H).trans ?_⟩
      rw [← hp.2.1]; exact e5)
/-- a law of the other shape pays too: its callee interns nothing -/
theorem payB {y : MethodName} {len wd kc ks : Nat} {as' : Array Value} {Qy : Option Value → Heap → List Loc → Prop} {Q' : Option Value → Heap → Prop}
    (B : Back G.l M.R X.p X.e X.below (X.s.setVm vm) X.args y len wd (fun P a => a = as' ∧ P.U.heap = h ∧ P.cells + kc ≤ M.R.cells ∧ P.slots + ks ≤ M.R.slots) (fun P _ v B => ∃ L, Qy v B.U.heap L ∧ B.locs = P.locs ++ L ∧ B.cells = P.cells + kc ∧ B.slots = P.slots + ks))
    (W : Here G X M vm T h C S) (hq : ∀ v h' L, Qy v h' L → Q' v h' ∧ Fr G.n0 L ∧ Old G.Z G.n0 h' ∧ CHr G.Z G.EL vm h vm h') : Pay G X M vm h y len wd as' kc ks Q' := by
  intro m meth c A g ig mk a X1 hg hsize hdg hW hn hp
  obtain ⟨v, B', X', ⟨L, q, e1, e2, e3⟩, st⟩ := B m meth c A g ig mk a X1 hg hsize hdg hW hn hp
  obtain ⟨q1, q2, q3, q4⟩ := hq _ _ _ q
  refine ⟨v, B', X'.retabled X'.warmed.wide, X'.warmed.since _, ?_, ⟨L, ⟨q1, q2, q3⟩, e1, Nat.le_of_eq e2, Nat.le_of_eq e3, q4.trans (CHv.at X' W.wz W.1.2.2.2.2.2.2 q4.1)⟩, st⟩
  rw [hp.2.1]; exact q4.2.1
theorem Here.call (W : Here G X M vm T h C S) {kc ks C' S' : Nat} {v : Option Value} {Qy : Option Value → Heap → Prop} (hc : C + kc ≤ C') (hs : S + ks ≤ S')
    {k0 : Nat} {locs : List Loc} {cells slots : Nat} (hS : X.s.Since vm k0) (hk : k0 ≤ h.size) (hown : vm.findClass M.y.cls = some X.m.cls) (hCH : CHr G.Z G.EL X.s.vm X.s.heap vm h) (hF : Fr G.n0 locs) (c1 : cells ≤ C) (s1 : slots ≤ S) {B : Pt}
    (X' : Stand X.p G.l X.e M.R ((X.s.setVm vm).setVm B.U.vm) X.m X.args X.below X.meth X.c B.U B.locs B.cells B.slots) (h2 : (X.s.setVm vm).Since B.U.vm B.U.heap.size) (hg : h.size ≤ B.U.heap.size) {L : List Loc}
    (hq : (Qy v B.U.heap ∧ Fr G.n0 L ∧ Old G.Z G.n0 B.U.heap) ∧ B.locs = locs ++ L ∧ B.cells ≤ cells + kc ∧ B.slots ≤ slots + ks ∧ CHr G.Z G.EL vm h B.U.vm B.U.heap) : Here G X M B.U.vm B.U B.U.heap C' S' := by
  obtain ⟨X2, S2, Z2, o2⟩ := rebS hS hk X' h2 hg W.wz hown
  obtain ⟨⟨-, q2, q3⟩, e1, e2, e3, q4⟩ := hq
  refine ⟨W.1, _, _, _, _, X2, rfl, S2, Nat.le_refl _, Z2, o2, hCH.trans q4, ?_, q3, ?_, ?_⟩
  · rw [e1]; exact hF.app q2
  · omega
  · omega
theorem callS (W : Here G X M vm T h C S) {y : MethodName} {idx : Nat} {bytes : ByteArray} {maxL : Nat} {ret : Option FieldType} (w1 : (Jvm.Cond.methodLink M.y.cls idx y).before G.a0 G.Z = true) (w2 : (Jvm.Cond.static y).before G.a0 G.Z = true) (w3 : (Jvm.Cond.initialized y.cls).before G.a0 G.Z = true) (w4 : (Jvm.Cond.code y bytes maxL ret).before G.a0 G.Z = true)
    (hy : y.cls ≠ "java/lang/invoke/MethodHandle" ∧ y.cls ≠ "java/lang/invoke/VarHandle") {wd kc ks : Nat} {argsL rest : List Value} {Qy : Option Value → Heap → Prop} (P : Pay G X M vm h y 3 wd argsL.toArray kc ks Qy) (hsz : Ls.size = M.maxL) (hlen : ∀ sig, parseMethodDescriptor y.desc = some sig → argsL.length = sig.parameters.length)
    (hstk : st = argsL.reverse ++ rest) (hwd : (rest.map fun v => v.category).sum ≤ wd) (hd : decode M.bytes pc = .ok (.invokestatic idx, 3)) (pc' : Nat) (hp : pc + 3 = pc') (C' S' : Nat) (hc : C + kc ≤ C') (hs : S + ks ≤ S') (hc' : C' ≤ M.R.cells) (hs' : S' ≤ M.R.slots)
    (k : ∀ (vm' : Vm) (T' : State) (h' : Heap) (v : Option Value), Here G X M vm' T' h' C' S' → CHr G.Z G.EL vm h vm' h' → Qy v h' → Go G X M Q T' pc' Ls (v.toList ++ rest)) : Go G X M Q T pc Ls st := by
  subst hp hstk
  obtain ⟨F, k0, locs, cells, slots, X1, e1, hS, hk, hZ, hown, hCH, hF, O, c1, s1⟩ := id W
  subst e1
  obtain ⟨v, vm₁, B, -, X', h2, hg, ⟨L, hq⟩, st'⟩ := callSS X1 W.x (y := y) hown (mv (s := X.s.setVm vm) hZ w1) (mv (s := X.s.setVm vm) hZ w2) (mv (s := X.s.setVm vm) hZ w3) (mv (s := X.s.setVm vm) hZ w4) hy P (g := mkF X.m pc Ls (argsL.reverse ++ rest)) rfl (hsz.trans F.2.2.1.symm) (argsL := argsL) (rest := rest) hlen rfl (by show 2 * 0 + _ ≤ _; omega) (W.d hd) (fun _ _ => ⟨rfl, rfl, by show cells + kc ≤ _; omega, by show slots + ks ≤ _; omega⟩)
  exact Go.stp (fun t r => st'.trans r) (k B.U.vm B.U B.U.heap v (Here.call W hc hs hS hk hown hCH hF c1 s1 X' h2 hg hq) hq.2.2.2.2 hq.1.1)
theorem callX (W : Here G X M vm T h C S) {y : MethodName} {idx : Nat} {bytes : ByteArray} {maxL : Nat} (hy1 : y.name = "<init>") (w1 : (Jvm.Cond.methodLink M.y.cls idx y).before G.a0 G.Z = true) (w2 : (Jvm.Cond.instanceMethod y).before G.a0 G.Z = true) (w4 : (Jvm.Cond.code y bytes maxL none).before G.a0 G.Z = true)
    (hy : y.cls ≠ "java/lang/invoke/MethodHandle" ∧ y.cls ≠ "java/lang/invoke/VarHandle") {wd kc ks : Nat} {a : Addr} {argsL rest : List Value} {Qy : Option Value → Heap → Prop} (P : Pay G X M vm h y 3 wd (.ref a :: argsL).toArray kc ks Qy) (hsz : Ls.size = M.maxL) (hlen : ∀ sig, parseMethodDescriptor y.desc = some sig → argsL.length = sig.parameters.length)
    (hstk : st = argsL.reverse ++ .ref a :: rest) (hwd : (rest.map fun v => v.category).sum ≤ wd) (hd : decode M.bytes pc = .ok (.invokespecial idx, 3)) (pc' : Nat) (hp : pc + 3 = pc') (C' S' : Nat) (hc : C + kc ≤ C') (hs : S + ks ≤ S') (hc' : C' ≤ M.R.cells) (hs' : S' ≤ M.R.slots)
    (k : ∀ (vm' : Vm) (T' : State) (h' : Heap) (v : Option Value), Here G X M vm' T' h' C' S' → CHr G.Z G.EL vm h vm' h' → Qy v h' → Go G X M Q T' pc' Ls (v.toList ++ rest)) : Go G X M Q T pc Ls st := by
  subst hp hstk
  obtain ⟨F, k0, locs, cells, slots, X1, e1, hS, hk, hZ, hown, hCH, hF, O, c1, s1⟩ := id W
  subst e1
  obtain ⟨v, vm₁, B, -, X', h2, hg, ⟨L, hq⟩, st'⟩ := X1.specialBackS W.x (y := y) hy1 hown (mv (s := X.s.setVm vm) hZ w1) (mv (s := X.s.setVm vm) hZ w2) (mv (s := X.s.setVm vm) hZ w4) hy P (g := mkF X.m pc Ls (argsL.reverse ++ .ref a :: rest)) rfl (hsz.trans F.2.2.1.symm) (Steps.refl _) (a := a) (argsL := argsL) (rest := rest) hlen rfl (by show 2 * 0 + _ ≤ _; omega) (W.d hd) (fun _ _ => ⟨rfl, rfl, by show cells + kc ≤ _; omega, by show slots + ks ≤ _; omega⟩)
  exact Go.stp (fun t r => st'.trans r) (k B.U.vm B.U B.U.heap v (Here.call W hc hs hS hk hown hCH hF c1 s1 X' h2 hg hq) hq.2.2.2.2 hq.1.1)
theorem callV (W : Here G X M vm T h C S) {y z : MethodName} {idx : Nat} {cl : String} (w1 : (Jvm.Cond.methodLink M.y.cls idx y).before G.a0 G.Z = true) (w2 : (Jvm.Cond.declares y).before G.a0 G.Z = true) (nf : ∀ s : State, G.Z.Warmed39 s.vm → NotFace s y) (w3 : (Jvm.Cond.selects cl y z).before G.a0 G.Z = true) (w4 : (Jvm.Cond.instanceMethod z).before G.a0 G.Z = true)
    (hy : y.cls ≠ "java/lang/invoke/MethodHandle" ∧ y.cls ≠ "java/lang/invoke/VarHandle") {wd kc ks : Nat} {a : Addr} {argsL rest : List Value} {Qy : Option Value → Heap → Prop} (P : Pay G X M vm h z 3 wd (.ref a :: argsL).toArray kc ks Qy) (E : Exa G.Z h a cl) (hsz : Ls.size = M.maxL) (hlen : ∀ sig, parseMethodDescriptor y.desc = some sig → argsL.length = sig.parameters.length)
    (hstk : st = argsL.reverse ++ .ref a :: rest) (hwd : (rest.map fun v => v.category).sum ≤ wd) (hd : decode M.bytes pc = .ok (.invokevirtual idx, 3)) (pc' : Nat) (hp : pc + 3 = pc') (C' S' : Nat) (hc : C + kc ≤ C') (hs : S + ks ≤ S') (hc' : C' ≤ M.R.cells) (hs' : S' ≤ M.R.slots)
    (k : ∀ (vm' : Vm) (T' : State) (h' : Heap) (v : Option Value), Here G X M vm' T' h' C' S' → CHr G.Z G.EL vm h vm' h' → Qy v h' → Go G X M Q T' pc' Ls (v.toList ++ rest)) : Go G X M Q T pc Ls st := by
  subst hp hstk
  obtain ⟨F, k0, locs, cells, slots, X1, e1, hS, hk, hZ, hown, hCH, hF, O, c1, s1⟩ := id W
  obtain ⟨cq, kq, qa, qb, qc⟩ := isOf (s := X.s.setVm vm) hZ e1 E
  subst e1
  obtain ⟨v, vm₁, B, -, X', h2, hg, ⟨L, hq⟩, st'⟩ := X1.virtualBackS W.x (y := y) (z := z) hown (mv (s := X.s.setVm vm) hZ w1) (mv (s := X.s.setVm vm) hZ w2) (nf _ hZ) (mv (s := X.s.setVm vm) hZ w3) (mv (s := X.s.setVm vm) hZ w4) hy P qa qc (g := mkF X.m pc Ls (argsL.reverse ++ .ref a :: rest)) rfl (hsz.trans F.2.2.1.symm) (Steps.refl _) (argsL := argsL) (rest := rest) hlen rfl (by show 2 * 0 + _ ≤ _; omega) (W.d hd) (fun _ _ => ⟨rfl, rfl, by show cells + kc ≤ _; omega, by show slots + ks ≤ _; omega⟩)
  exact Go.stp (fun t r => st'.trans r) (k B.U.vm B.U B.U.heap v (Here.call W hc hs hS hk hown hCH hF c1 s1 X' h2 hg hq) hq.2.2.2.2 hq.1.1)
theorem callI (W : Here G X M vm T h C S) {y z : MethodName} {idx count : Nat} {cl : String} (w1 : (Jvm.Cond.methodLink M.y.cls idx y).before G.a0 G.Z = true) (w2 : (Jvm.Cond.declares y).before G.a0 G.Z = true) (wf : (Jvm.Cond.interfaceMethod y.cls y.cls y.name y.desc).before G.a0 G.Z = true) (hfa : ((Jvm.Cond.interfaceMethod y.cls y.cls y.name y.desc).onTables && (Jvm.Cond.interfaceMethod y.cls y.cls y.name y.desc).keepsFace) = true) (w3 : (Jvm.Cond.selects cl y z).before G.a0 G.Z = true) (w4 : (Jvm.Cond.instanceMethod z).before G.a0 G.Z = true)
    (w5 : (Jvm.Cond.publicMethod z).before G.a0 G.Z = true) (w6 : (Jvm.Cond.unhidden cl y.name y.desc).before G.a0 G.Z = true) (w7 : (Jvm.Cond.castable cl y.cls).before G.a0 G.Z = true)
    (hy : y.cls ≠ "java/lang/invoke/MethodHandle" ∧ y.cls ≠ "java/lang/invoke/VarHandle") {wd kc ks : Nat} {a : Addr} {argsL rest : List Value} {Qy : Option Value → Heap → Prop} (P : Pay G X M vm h z 5 wd (.ref a :: argsL).toArray kc ks Qy) (E : Exa G.Z h a cl) (hsz : Ls.size = M.maxL) (hlen : ∀ sig, parseMethodDescriptor y.desc = some sig → argsL.length = sig.parameters.length)
    (hstk : st = argsL.reverse ++ .ref a :: rest) (hwd : (rest.map fun v => v.category).sum ≤ wd) (hd : decode M.bytes pc = .ok (.invokeinterface idx count, 5)) (pc' : Nat) (hp : pc + 5 = pc') (C' S' : Nat) (hc : C + kc ≤ C') (hs : S + ks ≤ S') (hc' : C' ≤ M.R.cells) (hs' : S' ≤ M.R.slots)
    (k : ∀ (vm' : Vm) (T' : State) (h' : Heap) (v : Option Value), Here G X M vm' T' h' C' S' → CHr G.Z G.EL vm h vm' h' → Qy v h' → Go G X M Q T' pc' Ls (v.toList ++ rest)) : Go G X M Q T pc Ls st := by
  subst hp hstk
  obtain ⟨F, k0, locs, cells, slots, X1, e1, hS, hk, hZ, hown, hCH, hF, O, c1, s1⟩ := id W
  obtain ⟨cq, kq, qa, qb, qc⟩ := isOf (s := X.s.setVm vm) hZ e1 E
  subst e1
  obtain ⟨v, vm₁, B, -, X', h2, hg, ⟨L, hq⟩, st'⟩ := X1.interfaceBackS W.x (xi := y) (y := z) hown (mv (s := X.s.setVm vm) hZ w1) (mv (s := X.s.setVm vm) hZ w2) (mv (s := X.s.setVm vm) hZ wf hfa) (mv (s := X.s.setVm vm) hZ w3) (mv (s := X.s.setVm vm) hZ w4) (mv (s := X.s.setVm vm) hZ w5) (mv (s := X.s.setVm vm) hZ w6) (mv (s := X.s.setVm vm) hZ w7) hy P qa qb qc (g := mkF X.m pc Ls (argsL.reverse ++ .ref a :: rest)) rfl (hsz.trans F.2.2.1.symm) (Steps.refl _) (argsL := argsL) (rest := rest) hlen rfl (by show 2 * 0 + _ ≤ _; omega) (W.d hd) (fun _ _ => ⟨rfl, rfl, by show cells + kc ≤ _; omega, by show slots + ks ≤ _; omega⟩)
  exact Go.stp (fun t r => st'.trans r) (k B.U.vm B.U B.U.heap v (Here.call W hc hs hS hk hown hCH hF c1 s1 X' h2 hg hq) hq.2.2.2.2 hq.1.1)
/-! ### steps on the heap -/
theorem Here.ext (W : Here G X M vm T h C S) {T' : State} {h' : Heap} {k0 : Nat} {locs : List Loc} {cells slots C' S' : Nat} (hS : X.s.Since vm k0) (hk : k0 ≤ h.size) (hown : vm.findClass M.y.cls = some X.m.cls) (hCH : CHr G.Z G.EL X.s.vm X.s.heap vm h) (hF : Fr G.n0 locs)
    (X' : Stand X.p G.l X.e M.R (X.s.setVm vm) X.m X.args X.below X.meth X.c T' locs cells slots) (e' : T'.heap = h') (E : Ext h h') (hc : cells ≤ C') (hs : slots ≤ S') : Here G X M vm T' h' C' S' :=
  ⟨W.1, k0, locs, cells, slots, X', e', hS, Nat.le_trans hk E.1, W.wz, hown, hCH.trans (CHr.ext E hCH.1), hF, W.old.ext E, hc, hs⟩
theorem newO (W : Here G X M vm T h C S) {cl : String} {idx n : Nat} (w : (Jvm.Cond.classLink M.y.cls idx cl).before G.a0 G.Z = true) (wi : (Jvm.Cond.instantiable cl n).before G.a0 G.Z = true) (wz : (Jvm.Cond.initialized cl).before G.a0 G.Z = true) (hd : decode M.bytes pc = .ok (.new idx, 3)) (pc' : Nat) (hp : pc + 3 = pc') (C' S' : Nat) (hc : C + 1 ≤ C') (hs : S + n ≤ S') (hc' : C' ≤ M.R.cells) (hs' : S' ≤ M.R.slots)
    (k : ∀ (T' : State) (h' : Heap) (a : Addr), a = h.size → Here G X M vm T' h' C' S' → Ext h h' → Exa G.Z h' a cl → (∀ {O nm d : String} {ty : FieldType}, Laid G.Z G.a0 cl O nm d → parseFieldDescriptor d = some ty → Fld G.Z h' a O nm d (defaultValue ty)) → Safe G.Z G.EL vm h' a → (∀ y, Safe G.Z G.EL vm h y → Safe G.Z G.EL vm h' y) → Go G X M Q T' pc' Ls (.ref a :: st)) : Go G X M Q T pc Ls st := by
  subst hp
  obtain ⟨F, k0, locs, cells, slots, X1, e1, hS, hk, hZ, hown, hCH, hF, O, c1, s1⟩ := id W
  obtain ⟨T', h', X', e', E, A, D, -, st'⟩ := RoadKit.newO X1 W.x hZ hown w wi wz e1 (g := mkF X.m pc Ls st) rfl (W.d hd) (by omega) (by omega)
  exact Go.stp (fun t r => st' t r) (k T' h' h.size rfl (Here.ext W hS hk hown hCH hF X' e' E (by omega) (by omega)) E A D (Safe.ext E hCH.1 (Safe.new (Nat.le_refl _))) (fun y q => Safe.ext E hCH.1 q))
theorem newA (W : Here G X M vm T h C S) {aty : ArrayType} {n : Int32} (w : (Jvm.Cond.arrayClass (newarray.typeOf aty)).before G.a0 G.Z = true) (hd : decode M.bytes pc = .ok (.newarray aty, 2)) (pc' : Nat) (hp : pc + 2 = pc') (hn : ¬ n < 0) (cap : Nat) (hcap : n.toNatClampNeg ≤ cap) (hb : cap * 8 ≤ 536870912) (C' S' : Nat) (hc : C + 1 ≤ C') (hs : S + cap ≤ S') (hc' : C' ≤ M.R.cells) (hs' : S' ≤ M.R.slots)
    (k : ∀ (T' : State) (h' : Heap) (a : Addr) (kA : ClassId), a = h.size → Here G X M vm T' h' C' S' → Ext h h' → Arv G.Z h' a kA (newarray.typeOf aty) n (List.replicate cap (defaultValue (newarray.typeOf aty))) (defaultValue (newarray.typeOf aty)) → Safe G.Z G.EL vm h' a → (∀ y, Safe G.Z G.EL vm h y → Safe G.Z G.EL vm h' y) → Go G X M Q T' pc' Ls (.ref a :: st)) : Go G X M Q T pc Ls (.int n :: st) := by
  subst hp
  obtain ⟨F, k0, locs, cells, slots, X1, e1, hS, hk, hZ, hown, hCH, hF, O, c1, s1⟩ := id W
  obtain ⟨T', h', kA, X', e', E, A, st'⟩ := RoadKit.newP X1 W.x hZ w e1 (g := mkF X.m pc Ls (.int n :: st)) rfl (W.d hd) rfl hn hcap hb (by omega) (by omega)
  exact Go.stp (fun t r => st' t r) (k T' h' h.size kA rfl (Here.ext W hS hk hown hCH hF X' e' E (by omega) (by omega)) E ((Arv.new A hn).pad (pad_rep [] _ cap)) (Safe.ext E hCH.1 (Safe.new (Nat.le_refl _))) (fun y q => Safe.ext E hCH.1 q))
theorem getF (W : Here G X M vm T h C S) {R0 O n d : String} {idx : Nat} {a : Addr} {v : Value} (w : (Jvm.Cond.fieldLink M.y.cls idx R0 n d).before G.a0 G.Z = true) (via : Via G.Z R0 O n d) (F : Fld G.Z h a O n d v) (hd : decode M.bytes pc = .ok (.getfield idx, 3)) (pc' : Nat) (hp : pc + 3 = pc')
    (k : ∀ T' : State, Here G X M vm T' h C S → Go G X M Q T' pc' Ls (v :: st)) : Go G X M Q T pc Ls (.ref a :: st) := by
  subst hp
  obtain ⟨F', k0, locs, cells, slots, X1, e1, hS, hk, hZ, hown, hCH, hF, O', c1, s1⟩ := id W
  obtain ⟨T', X', e', st'⟩ := RoadKit.getF X1 W.x hZ hown (host := "") (Or.inl w) via e1 F (g := mkF X.m pc Ls (.ref a :: st)) rfl rfl (W.d hd)
  exact Go.stp (fun t r => st' t r) (k T' (Here.ext W hS hk hown hCH hF X' e' (Ext.rfl' h) c1 s1))
theorem getS (W : Here G X M vm T h C S) {R0 O n d : String} {idx : Nat} {v : Value} (w : (Jvm.Cond.fieldLink M.y.cls idx R0 n d).before G.a0 G.Z = true) (via : Via G.Z R0 O n d) (F : Sta G.Z h O n d v) (hd : decode M.bytes pc = .ok (.getstatic idx, 3)) (pc' : Nat) (hp : pc + 3 = pc')
    (k : ∀ T' : State, Here G X M vm T' h C S → Go G X M Q T' pc' Ls (v :: st)) : Go G X M Q T pc Ls st := by
  subst hp
  obtain ⟨F', k0, locs, cells, slots, X1, e1, hS, hk, hZ, hown, hCH, hF, O', c1, s1⟩ := id W
  obtain ⟨T', X', e', st'⟩ := RoadKit.getS X1 W.x hZ (host := "") hown w via e1 F (g := mkF X.m pc Ls st) rfl (W.d hd)
  exact Go.stp (fun t r => st' t r) (k T' (Here.ext W hS hk hown hCH hF X' e' (Ext.rfl' h) c1 s1))
theorem castY (W : Here G X M vm T h C S) {K : String} {idx : Nat} {a : Addr} (w : (Jvm.Cond.classLink M.y.cls idx K).before G.a0 G.Z = true) (F : Ins G.Z h a K true) (hd : decode M.bytes pc = .ok (.checkcast idx, 3)) (pc' : Nat) (hp : pc + 3 = pc')
    (k : ∀ T' : State, Here G X M vm T' h C S → Go G X M Q T' pc' Ls (.ref a :: st)) : Go G X M Q T pc Ls (.ref a :: st) := by
  subst hp
  obtain ⟨F', k0, locs, cells, slots, X1, e1, hS, hk, hZ, hown, hCH, hF, O', c1, s1⟩ := id W
  obtain ⟨T', X', e', st'⟩ := RoadKit.castY X1 W.x hZ hown w e1 F (g := mkF X.m pc Ls (.ref a :: st)) rfl rfl (W.d hd)
  exact Go.stp (fun t r => st' t r) (k T' (Here.ext W hS hk hown hCH hF X' e' (Ext.rfl' h) c1 s1))
theorem instY (W : Here G X M vm T h C S) {K : String} {idx : Nat} {a : Addr} (w : (Jvm.Cond.classLink M.y.cls idx K).before G.a0 G.Z = true) (F : Ins G.Z h a K true) (hd : decode M.bytes pc = .ok (.instanceof idx, 3)) (pc' : Nat) (hp : pc + 3 = pc')
    (k : ∀ T' : State, Here G X M vm T' h C S → Go G X M Q T' pc' Ls (.int 1 :: st)) : Go G X M Q T pc Ls (.ref a :: st) := by
  subst hp
  obtain ⟨F', k0, locs, cells, slots, X1, e1, hS, hk, hZ, hown, hCH, hF, O', c1, s1⟩ := id W
  obtain ⟨T', X', e', st'⟩ := RoadKit.instY X1 W.x hZ hown w e1 F (g := mkF X.m pc Ls (.ref a :: st)) rfl rfl (W.d hd)
  exact Go.stp (fun t r => st' t r) (k T' (Here.ext W hS hk hown hCH hF X' e' (Ext.rfl' h) c1 s1))
theorem instNo (W : Here G X M vm T h C S) {K c0 : String} {idx : Nat} {a : Addr} (w : (Jvm.Cond.classLink M.y.cls idx K).before G.a0 G.Z = true) (E : Exa G.Z h a c0) (F : ∃ c t, G.Z.vm.findClass c0 = some c ∧ G.Z.vm.findClass K = some t ∧ G.Z.vm.assignable c t = false) (hd : decode M.bytes pc = .ok (.instanceof idx, 3)) (pc' : Nat) (hp : pc + 3 = pc')
    (k : ∀ T' : State, Here G X M vm T' h C S → Go G X M Q T' pc' Ls (.int 0 :: st)) : Go G X M Q T pc Ls (.ref a :: st) := by
  subst hp
  obtain ⟨F', k0, locs, cells, slots, X1, e1, hS, hk, hZ, hown, hCH, hF, O', c1, s1⟩ := id W
  obtain ⟨T', X', e', st'⟩ := RoadKit.instNo X1 W.x hZ hown w e1 E F (g := mkF X.m pc Ls (.ref a :: st)) rfl rfl (W.d hd)
  exact Go.stp (fun t r => st' t r) (k T' (Here.ext W hS hk hown hCH hF X' e' (Ext.rfl' h) c1 s1))
theorem instNull (W : Here G X M vm T h C S) {idx : Nat} (hd : decode M.bytes pc = .ok (.instanceof idx, 3)) (pc' : Nat) (hp : pc + 3 = pc') (k : Go G X M Q T pc' Ls (.int 0 :: st)) : Go G X M Q T pc Ls (.null :: st) := by
  subst hp
  obtain ⟨F', k0, locs, cells, slots, X1, -⟩ := id W
  exact Go.stp (fun t r => X1.instanceofNull W.x (g := mkF X.m pc Ls (.null :: st)) rfl rfl (W.d hd) t r) k
theorem castNull (W : Here G X M vm T h C S) {idx : Nat} (hd : decode M.bytes pc = .ok (.checkcast idx, 3)) (pc' : Nat) (hp : pc + 3 = pc') (k : Go G X M Q T pc' Ls (.null :: st)) : Go G X M Q T pc Ls (.null :: st) := by
  subst hp
  obtain ⟨F', k0, locs, cells, slots, X1, -⟩ := id W
  exact Go.stp (fun t r => X1.checkcastNull W.x (g := mkF X.m pc Ls (.null :: st)) rfl rfl (W.d hd) t r) k
theorem Here.wr (W : Here G X M vm T h C S) {T' : State} {h' : Heap} {k0 : Nat} {locs : List Loc} {cells slots : Nat} {a : Addr} {sl : Nat} {v : Value} (hS : X.s.Since vm k0) (hk : k0 ≤ h.size) (hown : vm.findClass M.y.cls = some X.m.cls) (hCH : CHr G.Z G.EL X.s.vm X.s.heap vm h) (hF : Fr G.n0 locs) (ha : G.n0 ≤ a) (sf : Safe G.Z G.EL vm h a)
    (X' : Stand X.p G.l X.e M.R (X.s.setVm vm) X.m X.args X.below X.meth X.c T' (locs ++ [⟨a, sl⟩]) cells slots) (e' : T'.heap = h') (E : Wr h h' a sl v) (hc : cells ≤ C) (hs : slots ≤ S) : Here G X M vm T' h' C S :=
  ⟨W.1, k0, _, cells, slots, X', e', hS, by rw [E.size]; exact hk, W.wz, hown, hCH.trans (CHr.wr E sf hCH.1), Fr.snoc X' hF ha, W.old.wr E ha, hc, hs⟩
theorem putF (W : Here G X M vm T h C S) {R0 O n d cl : String} {idx kk : Nat} {ty : FieldType} {a : Addr} {v v' old : Value} (w : (Jvm.Cond.fieldLink M.y.cls idx R0 n d).before G.a0 G.Z = true) (via : Via G.Z R0 O n d) (F : Fld G.Z h a O n d old) (E : Exa G.Z h a cl)
    (L : (Jvm.Cond.lays cl O n d).before G.a0 G.Z = true ∨ ((Jvm.Cond.laysFinal cl O n d).before G.a0 G.Z = true ∧ M.y.cls = O ∧ M.y.name = "<init>")) (wi : (Jvm.Cond.instantiable cl kk).before G.a0 G.Z = true) (hty : parseFieldDescriptor d = some ty) (hn : narrow ty v = v') (hf : fits ty v' = true) (ha : G.n0 ≤ a) (sf : Safe G.Z G.EL vm h a)
    (hd : decode M.bytes pc = .ok (.putfield idx, 3)) (pc' : Nat) (hp : pc + 3 = pc') (k : ∀ (T' : State) (h' : Heap), Here G X M vm T' h' C S → Wr h h' a (RoadKit.slotOf G.Z O n d) v' → (∀ y, Safe G.Z G.EL vm h y → Safe G.Z G.EL vm h' y) → Go G X M Q T' pc' Ls st) : Go G X M Q T pc Ls (v :: .ref a :: st) := by
  subst hp
  obtain ⟨F', k0, locs, cells, slots, X1, e1, hS, hk, hZ, hown, hCH, hF, O', c1, s1⟩ := id W
  obtain ⟨T', h', X', e', Wq, st'⟩ := RoadKit.putFN X1 W.x hZ hown w via e1 F E (L.imp id fun q => ⟨q.1, q.2.1, F'.2.2.2.2.2.1.trans q.2.2⟩) wi hty hn hf (g := mkF X.m pc Ls (v :: .ref a :: st)) rfl rfl (W.d hd)
  exact Go.stp (fun t r => st' t r) (k T' h' (Here.wr W hS hk hown hCH hF ha sf X' e' Wq c1 s1) Wq (fun y q => Safe.wr Wq sf hCH.1 q))
theorem castore (W : Here G X M vm T h C S) {a : Addr} {kA : ClassId} {z j x : Int32} {vs : List Value} {dv : Value} (A : Arv G.Z h a kA .char z vs dv) (i : Nat) (hj : j.toNatClampNeg = i) (hj0 : ¬ j < 0 ∧ j < z) (hi : i < vs.length) (ha : G.n0 ≤ a) {x' : Int32} (hx' : nar .char x = x') (hd : decode M.bytes pc = .ok (.castore, 1)) (pc' : Nat) (hp : pc + 1 = pc')
    (k : ∀ (T' : State) (h' : Heap), Here G X M vm T' h' C S → Wr h h' a i (.int x') → Arv G.Z h' a kA .char z (vs.set i (.int x')) dv → (∀ y, Safe G.Z G.EL vm h y → Safe G.Z G.EL vm h' y) → Go G X M Q T' pc' Ls st) : Go G X M Q T pc Ls (.int x :: .int j :: .ref a :: st) := by
  subst hp hj hx'
  obtain ⟨F', k0, locs, cells, slots, X1, e1, hS, hk, hZ, hown, hCH, hF, O', c1, s1⟩ := id W
  have sf : Safe G.Z G.EL vm h a := Safe.arv hZ.alike A (by decide)
  obtain ⟨cl, A1, q, Sz, Nz, H, Gz⟩ := A
  obtain ⟨T', h', X', e', Wq, st'⟩ := RoadKit.stC X1 W.x hZ e1 A1 (j := j) (inb_of Sz hj0) (g := mkF X.m pc Ls (.int x :: .int j :: .ref a :: st)) rfl rfl (W.d hd)
  exact Go.stp (fun t r => st' t r) (k T' h' (Here.wr W hS hk hown hCH hF ha sf X' e' Wq c1 s1) Wq (Arv.set A1 q Sz Nz H Gz (fits_nar_char _) Wq _ rfl hi) (fun y q => Safe.wr Wq sf hCH.1 q))
theorem arrlen (W : Here G X M vm T h C S) {a : Addr} {kA : ClassId} {ty : FieldType} {z : Int32} {vs : List Value} {dv : Value} (A : Arv G.Z h a kA ty z vs dv) (hd : decode M.bytes pc = .ok (.arraylength, 1)) (pc' : Nat) (hp : pc + 1 = pc') (k : Go G X M Q T pc' Ls (.int z :: st)) : Go G X M Q T pc Ls (.ref a :: st) := by
  subst hp
  obtain ⟨F', k0, locs, cells, slots, X1, e1, hS, hk, hZ, hown, hCH, hF, O', c1, s1⟩ := id W
  obtain ⟨cl, A1, q, Sz, Nz, H, Gz⟩ := A
  rw [← len_of Sz Nz] at k
  exact Go.stp (fun t r => X1.arraylength W.x (by rw [e1]; exact A1.1) (State.isArrayOf_alike (T := X.s.setVm vm) hZ.alike A1.2.1) (g := mkF X.m pc Ls (.ref a :: st)) rfl rfl (W.d hd) t r) k
theorem caload (W : Here G X M vm T h C S) {a : Addr} {kA : ClassId} {z j : Int32} {vs : List Value} {dv : Value} (A : Arv G.Z h a kA .char z vs dv) (hj0 : ¬ j < 0 ∧ j < z) (v : Value) (hv : vs.getD j.toNatClampNeg dv = v) (hd : decode M.bytes pc = .ok (.caload, 1)) (pc' : Nat) (hp : pc + 1 = pc') (k : Go G X M Q T pc' Ls (v :: st)) : Go G X M Q T pc Ls (.int j :: .ref a :: st) := by
  subst hp
  obtain ⟨F', k0, locs, cells, slots, X1, e1, hS, hk, hZ, hown, hCH, hF, O', c1, s1⟩ := id W
  obtain ⟨cl, A1, q, Sz, Nz, H, Gz⟩ := A
  exact Go.stp (fun t r => X1.caload W.x (by rw [e1]; exact A1.1) (State.isArrayOf_alike (T := X.s.setVm vm) hZ.alike A1.2.1) A1.2.2 (inb_of Sz hj0) (H.at (inb_of Sz hj0) hv) (g := mkF X.m pc Ls (.int j :: .ref a :: st)) rfl rfl (W.d hd) t r) k
theorem bastore (W : Here G X M vm T h C S) {a : Addr} {kA : ClassId} {z j x : Int32} {vs : List Value} {dv : Value} (A : Arv G.Z h a kA .byte z vs dv) (i : Nat) (hj : j.toNatClampNeg = i) (hj0 : ¬ j < 0 ∧ j < z) (hi : i < vs.length) (ha : G.n0 ≤ a) (sf : Safe G.Z G.EL vm h a) {x' : Int32} (hx' : nar .byte x = x') (hd : decode M.bytes pc = .ok (.bastore, 1)) (pc' : Nat) (hp : pc + 1 = pc')
    (k : ∀ (T' : State) (h' : Heap), Here G X M vm T' h' C S → Wr h h' a i (.int x') → Arv G.Z h' a kA .byte z (vs.set i (.int x')) dv → (∀ y, Safe G.Z G.EL vm h y → Safe G.Z G.EL vm h' y) → Go G X M Q T' pc' Ls st) : Go G X M Q T pc Ls (.int x :: .int j :: .ref a :: st) := by
  subst hp hj hx'
  obtain ⟨F', k0, locs, cells, slots, X1, e1, hS, hk, hZ, hown, hCH, hF, O', c1, s1⟩ := id W
  obtain ⟨cl, A1, q, Sz, Nz, H, Gz⟩ := A
  obtain ⟨T', h', X', e', Wq, st'⟩ := RoadKit.stB X1 W.x hZ e1 A1 (j := j) (inb_of Sz hj0) (g := mkF X.m pc Ls (.int x :: .int j :: .ref a :: st)) rfl rfl (W.d hd)
  exact Go.stp (fun t r => st' t r) (k T' h' (Here.wr W hS hk hown hCH hF ha sf X' e' Wq c1 s1) Wq (Arv.set A1 q Sz Nz H Gz (fits_nar_byte _) Wq _ rfl hi) (fun y q => Safe.wr Wq sf hCH.1 q))
theorem baload (W : Here G X M vm T h C S) {a : Addr} {kA : ClassId} {z j : Int32} {vs : List Value} {dv : Value} (A : Arv G.Z h a kA .byte z vs dv) (hj0 : ¬ j < 0 ∧ j < z) (v : Value) (hv : vs.getD j.toNatClampNeg dv = v) (hd : decode M.bytes pc = .ok (.baload, 1)) (pc' : Nat) (hp : pc + 1 = pc') (k : Go G X M Q T pc' Ls (v :: st)) : Go G X M Q T pc Ls (.int j :: .ref a :: st) := by
  subst hp
  obtain ⟨F', k0, locs, cells, slots, X1, e1, hS, hk, hZ, hown, hCH, hF, O', c1, s1⟩ := id W
  obtain ⟨cl, A1, q, Sz, Nz, H, Gz⟩ := A
  exact Go.stp (fun t r => X1.baloadBytes W.x (by rw [e1]; exact A1.1) (State.isArrayOf_alike (T := X.s.setVm vm) hZ.alike A1.2.1) A1.2.2 (inb_of Sz hj0) (H.at (inb_of Sz hj0) hv) (g := mkF X.m pc Ls (.int j :: .ref a :: st)) rfl rfl (W.d hd) t r) k
theorem initO (W : Here G X M vm T h C S) {idx : Nat} {a : Addr} (w1 : (Jvm.Cond.methodLink M.y.cls idx Lib.objectInit).before G.a0 G.Z = true) (w2 : (Jvm.Cond.instanceMethod Lib.objectInit).before G.a0 G.Z = true) (w3 : (Jvm.Cond.code Lib.objectInit ⟨#[0xb1]⟩ 1 none).before G.a0 G.Z = true) (hsz : Ls.size = M.maxL)
    (hd : decode M.bytes pc = .ok (.invokespecial idx, 3)) (pc' : Nat) (hp : pc + 3 = pc') (hf : 1 ≤ M.R.frames) (hl : (st.map fun v => v.category).sum + 12 ≤ M.R.locals) (k : ∀ T' : State, Here G X M vm T' h C S → Go G X M Q T' pc' Ls st) : Go G X M Q T pc Ls (.ref a :: st) := by
  subst hp
  obtain ⟨F', k0, locs, cells, slots, X1, e1, hS, hk, hZ, hown, hCH, hF, O', c1, s1⟩ := id W
  obtain ⟨T', X', e', st'⟩ := RoadKit.initO X1 W.x hZ hown w1 w2 w3 e1 (g := mkF X.m pc Ls (.ref a :: st)) rfl (hsz.trans F'.2.2.1.symm) rfl (W.d hd) hf (W := (st.map fun v => v.category).sum) (by show 2 * 0 + _ ≤ _; omega) hl
  exact Go.stp (fun t r => st' t r) (k T' (Here.ext W hS hk hown hCH hF X' e' (Ext.rfl' h) c1 s1))
/-! ### more plain steps -/
theorem imul (W : Here G X M vm T h C S) {x y : Int32} (hd : decode M.bytes pc = .ok (.imul, 1)) (pc' : Nat) (hp : pc + 1 = pc') (k : Go G X M Q T pc' Ls (.int (x * y) :: st)) : Go G X M Q T pc Ls (.int y :: .int x :: st) := by
  subst hp; exact Go.stp (fun t r => XS.imul W.at W.x rfl (W.d hd) rfl r) k
theorem ior (W : Here G X M vm T h C S) {x y : Int32} (hd : decode M.bytes pc = .ok (.ior, 1)) (pc' : Nat) (hp : pc + 1 = pc') (k : Go G X M Q T pc' Ls (.int (x ||| y) :: st)) : Go G X M Q T pc Ls (.int y :: .int x :: st) := by
  subst hp; exact Go.stp (fun t r => XS.ior W.at W.x rfl (W.d hd) rfl r) k
theorem ishr (W : Here G X M vm T h C S) {x y : Int32} (hd : decode M.bytes pc = .ok (.ishr, 1)) (pc' : Nat) (hp : pc + 1 = pc') (k : Go G X M Q T pc' Ls (.int (x >>> (y &&& 31)) :: st)) : Go G X M Q T pc Ls (.int y :: .int x :: st) := by
  subst hp; exact Go.stp (fun t r => XS.ishr W.at W.x rfl (W.d hd) rfl r) k
theorem ishl (W : Here G X M vm T h C S) {x y : Int32} (hd : decode M.bytes pc = .ok (.ishl, 1)) (pc' : Nat) (hp : pc + 1 = pc') (k : Go G X M Q T pc' Ls (.int (x <<< (y &&& 31)) :: st)) : Go G X M Q T pc Ls (.int y :: .int x :: st) := by
  subst hp; exact Go.stp (fun t r => XS.ishl W.at W.x rfl (W.d hd) rfl r) k
theorem ladd (W : Here G X M vm T h C S) {x y : Int64} (hd : decode M.bytes pc = .ok (.ladd, 1)) (pc' : Nat) (hp : pc + 1 = pc') (k : Go G X M Q T pc' Ls (.long (x + y) :: st)) : Go G X M Q T pc Ls (.long y :: .long x :: st) := by
  subst hp; exact Go.stp (fun t r => XS.ladd W.at W.x rfl (W.d hd) rfl r) k
theorem lsub (W : Here G X M vm T h C S) {x y : Int64} (hd : decode M.bytes pc = .ok (.lsub, 1)) (pc' : Nat) (hp : pc + 1 = pc') (k : Go G X M Q T pc' Ls (.long (x - y) :: st)) : Go G X M Q T pc Ls (.long y :: .long x :: st) := by
  subst hp; exact Go.stp (fun t r => XS.lsub W.at W.x rfl (W.d hd) rfl r) k
theorem lcmp (W : Here G X M vm T h C S) {x y : Int64} (hd : decode M.bytes pc = .ok (.lcmp, 1)) (pc' : Nat) (hp : pc + 1 = pc') (k : Go G X M Q T pc' Ls (.int (XT.cmpL x y) :: st)) : Go G X M Q T pc Ls (.long y :: .long x :: st) := by
  subst hp; exact Go.stp (fun t r => XS.lcmp W.at W.x rfl (W.d hd) rfl r) k
theorem lneg (W : Here G X M vm T h C S) {x : Int64} (hd : decode M.bytes pc = .ok (.lneg, 1)) (pc' : Nat) (hp : pc + 1 = pc') (k : Go G X M Q T pc' Ls (.long (-x) :: st)) : Go G X M Q T pc Ls (.long x :: st) := by
  subst hp; exact Go.stp (fun t r => XS.lneg W.at W.x rfl (W.d hd) rfl r) k
theorem i2l (W : Here G X M vm T h C S) {x : Int32} (hd : decode M.bytes pc = .ok (.i2l, 1)) (pc' : Nat) (hp : pc + 1 = pc') (k : Go G X M Q T pc' Ls (.long x.toInt64 :: st)) : Go G X M Q T pc Ls (.int x :: st) := by
  subst hp; exact Go.stp (fun t r => XS.i2l W.at W.x rfl (W.d hd) rfl r) k
theorem l2i (W : Here G X M vm T h C S) {x : Int64} (hd : decode M.bytes pc = .ok (.l2i, 1)) (pc' : Nat) (hp : pc + 1 = pc') (k : Go G X M Q T pc' Ls (.int x.toInt32 :: st)) : Go G X M Q T pc Ls (.long x :: st) := by
  subst hp; exact Go.stp (fun t r => XS.l2i W.at W.x rfl (W.d hd) rfl r) k
theorem lushr (W : Here G X M vm T h C S) {x : Int64} {y : Int32} (hd : decode M.bytes pc = .ok (.lushr, 1)) (pc' : Nat) (hp : pc + 1 = pc') (k : Go G X M Q T pc' Ls (.long ((x.toUInt64 >>> (y &&& 0x3f).toInt64.toUInt64).toInt64) :: st)) : Go G X M Q T pc Ls (.int y :: .long x :: st) := by
  subst hp; exact Go.stp (fun t r => XS.lushr W.at W.x rfl (W.d hd) rfl r) k
theorem idiv (W : Here G X M vm T h C S) {x y : Int32} (hd : decode M.bytes pc = .ok (.idiv, 1)) (pc' : Nat) (hp : pc + 1 = pc') (hy : y ≠ 0) (k : Go G X M Q T pc' Ls (.int (x / y) :: st)) : Go G X M Q T pc Ls (.int y :: .int x :: st) := by
  subst hp; exact Go.stp (fun t r => XS.idiv W.at W.x rfl (W.d hd) rfl hy r) k
theorem lconst (W : Here G X M vm T h C S) {j : Fin 2} (hd : decode M.bytes pc = .ok (.lconst j, 1)) (pc' : Nat) (hp : pc + 1 = pc') (v : Int64) (hv : Int64.ofNat j = v) (k : Go G X M Q T pc' Ls (.long v :: st)) : Go G X M Q T pc Ls st := by
  subst hp hv; exact Go.stp (fun t r => XS.lconst W.at W.x rfl (W.d hd) r) k
theorem lloadN (W : Here G X M vm T h C S) {j : Fin 4} (hd : decode M.bytes pc = .ok (.lload_n j, 1)) (pc' : Nat) (hp : pc + 1 = pc') (v : Int64) (hl : Ls[j.val]? = some (.val (.long v))) (k : Go G X M Q T pc' Ls (.long v :: st)) : Go G X M Q T pc Ls st := by
  subst hp; exact Go.stp (fun t r => XS.lloadN W.at W.x rfl (W.d hd) hl r) k
theorem lload (W : Here G X M vm T h C S) {j : Nat} (hd : decode M.bytes pc = .ok (.lload j, 2)) (pc' : Nat) (hp : pc + 2 = pc') (v : Int64) (hl : Ls[j]? = some (.val (.long v))) (k : Go G X M Q T pc' Ls (.long v :: st)) : Go G X M Q T pc Ls st := by
  subst hp; exact Go.stp (fun t r => XS.lload W.at W.x rfl (W.d hd) hl r) k
theorem lstoreN (W : Here G X M vm T h C S) {j : Fin 4} {x : Int64} (hd : decode M.bytes pc = .ok (.lstore_n j, 1)) (pc' : Nat) (hp : pc + 1 = pc') (Ls' : Array Slot) (hl : storeLocals Ls j.val (.long x) = some Ls') (k : Go G X M Q T pc' Ls' st) : Go G X M Q T pc Ls (.long x :: st) := by
  subst hp; exact Go.stp (fun t r => XS.lstoreN W.at W.x rfl (W.d hd) rfl hl r) k
theorem lstore (W : Here G X M vm T h C S) {j : Nat} {x : Int64} (hd : decode M.bytes pc = .ok (.lstore j, 2)) (pc' : Nat) (hp : pc + 2 = pc') (Ls' : Array Slot) (hl : storeLocals Ls j (.long x) = some Ls') (k : Go G X M Q T pc' Ls' st) : Go G X M Q T pc Ls (.long x :: st) := by
  subst hp; exact Go.stp (fun t r => XS.lstore W.at W.x rfl (W.d hd) rfl hl r) k
theorem ldcI (W : Here G X M vm T h C S) {idx : Nat} {v : Int32} (w : (Jvm.Cond.constant M.y.cls idx v).before G.a0 G.Z = true) (hd : decode M.bytes pc = .ok (.ldc idx, 2)) (pc' : Nat) (hp : pc + 2 = pc') (k : Go G X M Q T pc' Ls (.int v :: st)) : Go G X M Q T pc Ls st := by
  subst hp
  obtain ⟨F', k0, locs, cells, slots, X1, e1, hS, hk, hZ, hown, -⟩ := id W
  exact Go.stp (fun t r => X1.ldcInt W.x hown (mv (s := X.s.setVm vm) hZ w) (g := mkF X.m pc Ls st) rfl (W.d hd) t r) k
theorem ldc2 (W : Here G X M vm T h C S) {idx : Nat} {v : Int64} (w : (Jvm.Cond.constantLong M.y.cls idx v).before G.a0 G.Z = true) (hd : decode M.bytes pc = .ok (.ldc2_w idx, 3)) (pc' : Nat) (hp : pc + 3 = pc') (k : Go G X M Q T pc' Ls (.long v :: st)) : Go G X M Q T pc Ls st := by
  subst hp
  obtain ⟨F', k0, locs, cells, slots, X1, e1, hS, hk, hZ, hown, -⟩ := id W
  exact Go.stp (fun t r => X1.ldc2Long W.x hown (mv (s := X.s.setVm vm) hZ w) (g := mkF X.m pc Ls st) rfl (W.d hd) t r) k
/-! ### String constants -/
theorem ldcR (W : Here G X M vm T h C S) {idx : Nat} {text : String} (w : (Jvm.Cond.stringLink M.y.cls idx text).before G.a0 G.Z = true) (wS : ∀ a ∈ Bundle.stringAtoms, a.before G.a0 G.Z = true) (hmem : (M.y.cls, idx) ∈ G.EL) {vs : List Value} {z : Int32} (ht : (∀ c ∈ text.toList, c.toNat < 256) ∧ text.toList.map (fun c => Value.int (Jvm.Lit.byteI c.toNat.toUInt16)) = vs) (hz : ¬ z < 0) (hl : z.toNatClampNeg = vs.length)
    (hd : decode M.bytes pc = .ok (.ldc idx, 2)) (pc' : Nat) (hp : pc + 2 = pc') (n : Nat) (hn : 4 * text.toList.length ≤ n) (hbig : n ≤ 536870912) (C' S' : Nat) (hc : C + 2 ≤ C') (hs : S + (n + 4) ≤ S') (hc' : C' ≤ M.R.cells) (hs' : S' ≤ M.R.slots)
    (k : ∀ (vm' : Vm) (T' : State) (h' : Heap) (a b : Addr) (kb : ClassId), Here G X M vm' T' h' C' S' → CHr G.Z G.EL vm h vm' h' → Ext h h' → Exa G.Z h' a "java/lang/String" → Fld G.Z h' a "java/lang/String" "coder" "B" (.int 0) → Fld G.Z h' a "java/lang/String" "value" "[B" (.ref b) → Arv G.Z h' b kb .byte z vs (.int 0) → (∀ x, Safe G.Z G.EL vm' h' x → x ≠ a ∧ x ≠ b) → Go G X M Q T' pc' Ls (.ref a :: st)) : Go G X M Q T pc Ls st := by
  subst hp
  obtain ⟨F', k0, locs, cells, slots, X1, e1, hS, hk, hZ, hown, hCH, hF, O', c1, s1⟩ := id W
  obtain ⟨a, T', h', k1, b, kb, X', e', E, hS', hk', hZ', ho', f1, f2, f3, f4, -, -, r1, -, r2, st'⟩ := ldcCH X1 W.x hZ hown w wS e1 hS hk F'.2.2.2.2.2.2 hmem hCH.1 ht hz hl (g := mkF X.m pc Ls st) rfl (W.d hd) hn hbig (by omega) (by omega)
  exact Go.stp (fun t r => st' t r) (k T'.vm T' h' a b kb ⟨F', k1, locs, _, _, X', e', hS', hk', hZ', ho', hCH.trans r1, hF, O'.ext E, by omega, by omega⟩ r1 E f1 f2 f3 f4 r2)
theorem ldcO (W : Here G X M vm T h C S) {idx : Nat} {text : String} (w : (Jvm.Cond.stringLink M.y.cls idx text).before G.a0 G.Z = true) (wS : ∀ a ∈ Bundle.stringAtoms, a.before G.a0 G.Z = true)
    (hd : decode M.bytes pc = .ok (.ldc idx, 2)) (pc' : Nat) (hp : pc + 2 = pc') (n : Nat) (hn : 4 * text.toList.length ≤ n) (hbig : n ≤ 536870912) (C' S' : Nat) (hc : C + 2 ≤ C') (hs : S + (n + 4) ≤ S') (hc' : C' ≤ M.R.cells) (hs' : S' ≤ M.R.slots)
    (k : ∀ (vm' : Vm) (T' : State) (h' : Heap) (a : Addr), Here G X M vm' T' h' C' S' → CHr G.Z G.EL vm h vm' h' → Ext h h' → Go G X M Q T' pc' Ls (.ref a :: st)) : Go G X M Q T pc Ls st := by
  subst hp
  obtain ⟨F', k0, locs, cells, slots, X1, e1, hS, hk, hZ, hown, hCH, hF, O', c1, s1⟩ := id W
  obtain ⟨a, T', h', k1, X', e', E, hS', hk', hZ', ho', r1, -, st'⟩ := ldcOH X1 W.x hZ hown w wS e1 hS hk F'.2.2.2.2.2.2 hCH.1 (g := mkF X.m pc Ls st) rfl (W.d hd) hn hbig (by omega) (by omega)
  exact Go.stp (fun t r => st' t r) (k T'.vm T' h' a ⟨F', k1, locs, _, _, X', e', hS', hk', hZ', ho', hCH.trans r1, hF, O'.ext E, by omega, by omega⟩ r1 E)
end Kit2
end Own
end Jvm.Pilot.@@N@@
namespace Jvm.Pilot.@@N@@
namespace Own
open Jvm Jvm.ClassFile Sem Op Lib Jvm.Free Jvm.Stand Jvm.LawKit Jvm.RoadKit
abbrev ST : String := "java/lang/String"
/-- a String that spells the chars cs, each 0 to 255 -/
def Str (Z : State) (h : Heap) (a : Addr) (cs : List Int32) : Prop := Exa Z h a ST ∧ Fld Z h a ST "coder" "B" (.int 0) ∧ (∀ c ∈ cs, ¬ c < 0 ∧ ¬ (255 : Int32) < c) ∧ cs.length ≤ 4000 ∧
  ∃ (b : Addr) (kb : ClassId), Fld Z h a ST "value" "[B" (.ref b) ∧ Arv Z h b kb .byte (Int32.ofNat cs.length) ((cs.map fun c => c.toInt8.toInt32).map Value.int) (.int 0)
theorem Str.ext {Z : State} {h h' : Heap} {a : Addr} {cs : List Int32} (F : Str Z h a cs) (E : Ext h h') : Str Z h' a cs := by
  obtain ⟨h1, h2, h3, h4, b, kb, h5, h6⟩ := F
  exact ⟨h1.ext E, h2.ext E, h3, h4, b, kb, h5.ext E, h6.ext E⟩
theorem Str.lt {Z : State} {h : Heap} {a : Addr} {cs : List Int32} (F : Str Z h a cs) : a < h.size := F.1.lt
theorem Str.exa {Z : State} {h : Heap} {a : Addr} {cs : List Int32} (F : Str Z h a cs) : Exa Z h a ST := F.1
/-- over a change of other objects, none of them a String or a byte[] -/
theorem Str.keep {Z : State} {h h' : Heap} {a : Addr} {cs : List Int32} {ws : List Addr} (F : Str Z h a cs) (K : Keep h h' ws) (ha : a ∉ ws) (hb : ∀ x ∈ ws, ∀ (cl : Cell), ¬ Arr Z h x cl .byte) : Str Z h' a cs := by
  obtain ⟨h1, h2, h3, h4, b, kb, h5, h6⟩ := F
  refine ⟨h1.keep K, h2.keep K ha, h3, h4, b, kb, h5.keep K ha, h6.keep K fun q => ?_⟩
  obtain ⟨cl, A, -⟩ := h6
  exact hb b q cl A
theorem wide16 {cs : List Int32} (hb : ∀ c ∈ cs, ¬ c < 0 ∧ ¬ (255 : Int32) < c) : ∀ c ∈ cs, ¬ c < 0 ∧ ¬ (65535 : Int32) < c := fun c hc => ⟨(hb c hc).1, fun q => (hb c hc).2 (Int32.lt_trans (by decide) q)⟩
/-- the words of a String constant's load, and of the empty road of new String(char[]) -/
abbrev wordsS : List Jvm.Cond := StrChars.Road.words ++ [.initialized ST, .instantiable ST 4, .soleField ST "value", .soleField ST "coder", .stringLink ST 7 ""]
section Kit3
variable {G : Gl} {X : Rn} {M : Bo} {vm : Vm} {T : State} {h : Heap} {C S : Nat} {Q : Option Value → Heap → Prop} {pc pc' : Nat} {Ls Ls' : Array Slot} {st : List Value}
theorem sAtoms (hw : ∀ d ∈ wordsS, d.before G.a0 G.Z = true) : ∀ a ∈ Bundle.stringAtoms, a.before G.a0 G.Z = true := fun d hd => hw d ((by decide +kernel : ∀ d ∈ Bundle.stringAtoms, d ∈ wordsS) d hd)
theorem w1 (hw : ∀ d ∈ wordsS, d.before G.a0 G.Z = true) (d : Jvm.Cond) (hd : d ∈ wordsS := by decide +kernel) : d.before G.a0 G.Z = true := hw d hd
abbrev bNew4 : Bo := (StrChars.New4.yN, StrChars.New4.yB, 6, none, ({ frames := 1, cells := 4, slots := 8, locals := 12 } : Room))
abbrev bNew1 : Bo := (StrChars.New1.yN, StrChars.New1.yB, 2, none, ({ frames := 2, cells := 4, slots := 8, locals := 29 } : Room))
theorem e4_8 : decode StrChars.New4.yB 8 = .ok (.aload_n 0, 1) := by decide +kernel
theorem e4_9 : decode StrChars.New4.yB 9 = .ok (.ldc 7, 2) := by decide +kernel
theorem e4_11 : decode StrChars.New4.yB 11 = .ok (.getfield 9, 3) := by decide +kernel
theorem e4_14 : decode StrChars.New4.yB 14 = .ok (.putfield 9, 3) := by decide +kernel
theorem e4_17 : decode StrChars.New4.yB 17 = .ok (.aload_n 0, 1) := by decide +kernel
theorem e4_18 : decode StrChars.New4.yB 18 = .ok (.ldc 7, 2) := by decide +kernel
theorem e4_20 : decode StrChars.New4.yB 20 = .ok (.getfield 15, 3) := by decide +kernel
theorem e4_23 : decode StrChars.New4.yB 23 = .ok (.putfield 15, 3) := by decide +kernel
theorem e4_26 : decode StrChars.New4.yB 26 = .ok (.return_, 1) := by decide +kernel
theorem pnST : plainName "java/lang/String" = true := by first | (simp [plainName, overriddenIn]; done) | decide +kernel
theorem pd4 : parseMethodDescriptor "([CIILjava/lang/Void;)V" = some ⟨[.array .char, .int, .int, .object "java/lang/Void"], none⟩ := by decide +kernel
theorem pd1 : parseMethodDescriptor "([C)V" = some ⟨[.array .char], none⟩ := by decide +kernel
theorem ef4 (m : MethodId) (x b : Addr) : entryFrame m #[.ref x, .ref b, .int 0, .int 0, .null] 6 = mkF m 0 #[.val (.ref x), .val (.ref b), .val (.int 0), .val (.int 0), .val .null, .unset] [] := by first | (simp [entryFrame, mkF, argsToLocals, Value.category]; done) | rfl
theorem ef1 (m : MethodId) (x b : Addr) : entryFrame m #[.ref x, .ref b] 2 = mkF m 0 #[.val (.ref x), .val (.ref b)] [] := by first | (simp [entryFrame, mkF, argsToLocals, Value.category]; done) | rfl
set_option maxRecDepth 65536 in
set_option maxHeartbeats 4000000 in
theorem con_new4e (hw : ∀ d ∈ wordsS, d.before G.a0 G.Z = true) (hEL : EW G.Z G.a0 G.EL) (hmem : (ST, 7) ∈ G.EL) {x b : Addr} {v0 c0 : Value} (hO : Old G.Z G.n0 h) (hx0 : G.n0 ≤ x) (E : Exa G.Z h x ST) (V : Fld G.Z h x ST "value" "[B" v0) (Cd : Fld G.Z h x ST "coder" "B" c0) :
    Con G [] bNew4 #[.ref x, .ref b, .int 0, .int 0, .null] h [x] (fun v h' => v = none ∧ Keep h h' [x] ∧ Str G.Z h' x []) := by
  refine Con.intro (plainFor_of_name pnST) hO hEL _ (fun m => ef4 m x b) ?_
  intro X T W sf
  have sx := sf x (List.mem_singleton.mpr rfl)
  have wS := sAtoms hw
  refine aloadN W StrChars.New4.d0 1 rfl _ rfl rfl ?_
  refine initO W (w1 hw (.methodLink ST 1 Lib.objectInit)) (w1 hw (.instanceMethod Lib.objectInit)) (w1 hw (.code Lib.objectInit ⟨#[0xb1]⟩ 1 none)) rfl StrChars.New4.d1 4 rfl (by decide) (by decide) ?_
  intro T1 W1
  refine iloadN W1 StrChars.New4.d4 5 rfl _ rfl ?_
  refine ifNo W1 StrChars.New4.d5 8 (by decide) rfl ?_
  refine aloadN W1 e4_8 9 rfl _ rfl rfl ?_
  refine ldcR W1 (w1 hw (.stringLink ST 7 "")) wS hmem (vs := []) (z := 0) ⟨by decide, by decide⟩ (by decide) (by decide) e4_9 11 rfl 0 (by decide) (by decide) 2 4 (by decide) (by decide) (by decide) (by decide) ?_
  intro vm2 T2 h2 a2 b2 kb2 W2 R2 E2 fa fc fv fb hne
  have sx2 : Safe G.Z G.EL vm2 h2 x := R2.safe E.lt sx
  have ne2 := hne x sx2
  refine getF W2 (w1 hw (.fieldLink ST 9 ST "value" "[B")) Via.refl fv e4_11 14 rfl ?_
  intro T3 W3
  refine putF W3 (w1 hw (.fieldLink ST 9 ST "value" "[B")) Via.refl (V.ext E2) (E.ext E2) (Or.inr ⟨w1 hw (.laysFinal ST ST "value" "[B"), rfl, rfl⟩) (w1 hw (.instantiable ST 4)) (ty := .array .byte) (by decide) rfl rfl hx0 sx2 e4_14 17 rfl ?_
  intro T4 h4 W4 Wr4 k4
  refine aloadN W4 e4_17 18 rfl _ rfl rfl ?_
  refine ldcR W4 (w1 hw (.stringLink ST 7 "")) wS hmem (vs := []) (z := 0) ⟨by decide, by decide⟩ (by decide) (by decide) e4_18 20 rfl 0 (by decide) (by decide) 4 8 (by decide) (by decide) (by decide) (by decide) ?_
  intro vm5 T5 h5 a5 b5 kb5 W5 R5 E5 ga gc gv gb hne5
  have x4 : x < h4.size := by rw [Wr4.size]; exact (E.ext E2).lt
  have sx4 : Safe G.Z G.EL vm2 h4 x := k4 x sx2
  have sx5 : Safe G.Z G.EL vm5 h5 x := R5.safe x4 sx4
  refine getF W5 (w1 hw (.fieldLink ST 15 ST "coder" "B")) Via.refl gc e4_20 23 rfl ?_
  intro T6 W6
  have Ex5 : Exa G.Z h5 x ST := ((E.ext E2).wr Wr4).ext E5
  have sne : RoadKit.slotOf G.Z ST "coder" "B" ≠ RoadKit.slotOf G.Z ST "value" "[B" := slot_ne (Or.inr (w1 hw (.laysFinal ST ST "coder" "B"))) (Or.inr (w1 hw (.laysFinal ST ST "value" "[B"))) (by decide) (t := .byte) (t' := .array .byte) (by decide) (by decide)
  have Cd5 : Fld G.Z h5 x ST "coder" "B" c0 := ((Cd.ext E2).other Wr4 (Or.inr sne)).ext E5
  have V5 : Fld G.Z h5 x ST "value" "[B" (.ref b2) := ((V.ext E2).same Wr4).ext E5
  have B5 : Arv G.Z h5 b2 kb2 .byte 0 [] (.int 0) := (fb.other Wr4 (Ne.symm ne2.2)).ext E5
  refine putF W6 (w1 hw (.fieldLink ST 15 ST "coder" "B")) Via.refl Cd5 Ex5 (Or.inr ⟨w1 hw (.laysFinal ST ST "coder" "B"), rfl, rfl⟩) (w1 hw (.instantiable ST 4)) (ty := .byte) (v' := .int 0) (by decide) rfl rfl hx0 sx5 e4_23 26 rfl ?_
  intro T7 h7 W7 Wr7 _
  refine retV W7 (by decide) (by decide) rfl e4_26 ⟨rfl, ?_, ?_⟩
  · exact ((((Keep.refl h [x]).ext E2).wr Wr4 (Or.inl (List.mem_singleton.mpr rfl))).ext E5).wr Wr7 (Or.inl (List.mem_singleton.mpr rfl))
  · have nb : b2 ≠ x := Ne.symm ne2.2
    exact ⟨Ex5.wr Wr7, Cd5.same Wr7, by simp, by simp, b2, kb2, V5.other Wr7 (Or.inr (Ne.symm sne)), B5.other Wr7 nb⟩
set_option maxRecDepth 65536 in
set_option maxHeartbeats 4000000 in
theorem con_new1e (hw : ∀ d ∈ wordsS, d.before G.a0 G.Z = true) (hEL : EW G.Z G.a0 G.EL) (hmem : (ST, 7) ∈ G.EL) {x b : Addr} {kC : ClassId} {v0 c0 dv : Value} {vs : List Value} (hO : Old G.Z G.n0 h) (hx0 : G.n0 ≤ x) (E : Exa G.Z h x ST) (V : Fld G.Z h x ST "value" "[B" v0) (Cd : Fld G.Z h x ST "coder" "B" c0) (A : Arv G.Z h b kC .char 0 vs dv) :
    Con G [] bNew1 #[.ref x, .ref b] h [x] (fun v h' => v = none ∧ Keep h h' [x] ∧ Str G.Z h' x []) := by
  refine Con.intro (plainFor_of_name pnST) hO hEL _ (fun m => ef1 m x b) ?_
  intro X T W sf
  have sx := sf x (List.mem_singleton.mpr rfl)
  refine aloadN W StrChars.New1.d0 1 rfl _ rfl rfl ?_
  refine aloadN W StrChars.New1.d1 2 rfl _ rfl rfl ?_
  refine iconst W StrChars.New1.d2 3 rfl 0 rfl ?_
  refine aloadN W StrChars.New1.d3 4 rfl _ rfl rfl ?_
  refine arrlen W A StrChars.New1.d4 5 rfl ?_
  refine aconstNull W StrChars.New1.d5 6 rfl ?_
  refine callX W (y := StrChars.New4.yN) rfl (w1 hw (.methodLink ST 27 StrChars.New4.yN)) (w1 hw (.instanceMethod StrChars.New4.yN)) (w1 hw (.code StrChars.New4.yN StrChars.New4.yB 6 none)) (by decide) (argsL := [.ref b, .int 0, .int 0, .null]) (rest := [])
    (Con.pay (con_new4e hw hEL hmem hO hx0 E V Cd) W (w1 hw (.code StrChars.New4.yN StrChars.New4.yB 6 none)) (w1 hw (.initialized ST)) (len := 3) (wd := 0) (by decide) (by decide) (fun y hy => by cases List.mem_singleton.mp hy; exact ⟨E.lt, sx⟩)) rfl (lenOf pd4 rfl) rfl (by decide) StrChars.New1.d6 9 rfl 4 8 (by decide) (by decide) (by decide) (by decide) ?_
  intro vm1 T1 h1 v W1 R1 hq
  obtain ⟨rfl, K, F⟩ := hq
  exact retV W1 (by decide) (by decide) rfl StrChars.New1.d9 ⟨rfl, K, F⟩
/-- **new String(char[]) AT ITS CALL**: x the fresh String, b the char[] that holds cs -/
theorem payStr (hw : ∀ d ∈ wordsS, d.before G.a0 G.Z = true) (hEL : EW G.Z G.a0 G.EL) (hmem : (ST, 7) ∈ G.EL) (W : Here G X M vm T h C S) {x b : Addr} {kC : ClassId} {v0 c0 dv : Value} {cs : List Int32} {z cz : Int32} (hx0 : G.n0 ≤ x) (sx : Safe G.Z G.EL vm h x) (E : Exa G.Z h x ST) (V : Fld G.Z h x ST "value" "[B" v0) (Cd : Fld G.Z h x ST "coder" "B" c0)
    (A : Arv G.Z h b kC .char z (cs.map Value.int) dv) (hz : z = Int32.ofNat cs.length) (hcs : ∀ c ∈ cs, ¬ c < 0 ∧ ¬ (255 : Int32) < c) (hl : cs.length ≤ 4000) (hS : Sta G.Z G.Z.heap ST "COMPACT_STRINGS" "Z" (.int cz)) (hcz : ¬ cz = 0) {len wd : Nat} (hf : 4 ≤ M.R.frames) (hlo : wd + 65 ≤ M.R.locals) :
    Pay G X M vm h StrChars.New1.yN len wd #[.ref x, .ref b] 4 (8 + cs.length) (fun v h' => v = none ∧ Keep h h' [x] ∧ Str G.Z h' x cs) := by
  have hO := W.old
  subst hz
  match cs, A, hcs, hl with
  | [], A, _, _ =>
    exact Con.pay (con_new1e hw hEL hmem hO hx0 E V Cd A) W (w1 hw (.code StrChars.New1.yN StrChars.New1.yB 2 none)) (w1 hw (.initialized ST)) (by show 2 + 1 ≤ _; omega) (by show wd + (2 + 11) + 29 ≤ _; omega) (fun y hy => by cases List.mem_singleton.mp hy; exact ⟨E.lt, sx⟩)
  | c :: cs, A, hcs, hl =>
    have B := StrChars.Road.backV (p := X.p) (l := G.l) (e := X.e) (R := M.R) (s := X.s.setVm vm) (args := X.args) (below := X.below) (len := len) (W := wd) (Z := G.Z) (a0 := G.a0) W.wz (fun d hd => hw d (List.mem_append_left _ hd)) (kI := 4) (w1 hw (.instantiable ST 4)) hx0 W.n0 E V Cd A (W.sta hS) hcz (n := (c :: cs).length) rfl rfl (by simp) hl hcs rfl hf hlo
    have P := payB (Q' := fun v h' => v = none ∧ Keep h h' [x] ∧ Str G.Z h' x (c :: cs)) B W (fun v h' L q => by
      obtain ⟨q1, q2, q3, q4, q5, t, kb, q6, q7, q8, q9, q10⟩ := q
      have ks : ∀ y ∈ [x], Safe G.Z G.EL vm h y := fun y hy => by cases List.mem_singleton.mp hy; exact sx
      exact ⟨⟨q1, q3, q4, q5, hcs, hl, t, kb, q9, q10⟩, q2, hO.keep q3 (fun y hy => by cases List.mem_singleton.mp hy; exact hx0), CHr.keep q3 ks W.ch⟩)
    intro m meth c' A' g ig mk a X1 hg hsize hdg hW hn hp
    obtain ⟨v, B', r1, r2, r3, ⟨L, r4, r5, r6, r7, r8⟩, r9⟩ := P m meth c' A' g ig mk a X1 hg hsize hdg hW hn ⟨hp.1, hp.2.1, by have := hp.2.2.1; omega, by have := hp.2.2.2; omega⟩
    exact ⟨v, B', r1, r2, r3, ⟨L, r4, r5, by omega, by omega, r8⟩, r9⟩
end Kit3
/-! ### chars -/
def chr (x : Int32) : Int32 := x.toUInt32.toUInt16.toUInt32.toInt32
def us (x k : Int32) : Int32 := (x.toUInt32 >>> (k &&& 31).toUInt32).toInt32
/-- the low eight bits, as a char -/
def lo (x : Int32) : Int32 := chr (x &&& 255)
theorem chr_id {x : Int32} (h0 : 0 ≤ x.toInt) (h1 : x.toInt < 65536) : chr x = x := Int32.toInt_inj.mp (by
  have q := c_i2c x
  unfold chr
  omega)
theorem and255 (x : Int32) : 0 ≤ (x &&& 255).toInt ∧ (x &&& 255).toInt ≤ 255 := c_and x 255 (by decide)
theorem lo_eq (x : Int32) : lo x = x &&& 255 := chr_id (and255 x).1 (by have := (and255 x).2; omega)
theorem lo_rng (x : Int32) : ¬ lo x < 0 ∧ ¬ (255 : Int32) < lo x := by
  rw [lo_eq, Int32.lt_iff_toInt_lt, Int32.lt_iff_toInt_lt]
  have q := and255 x
  have e1 : (0 : Int32).toInt = 0 := by decide
  have e2 : (255 : Int32).toInt = 255 := by decide
  rw [e1, e2]; omega
theorem nar_of {c : Int32} (q : ¬ c < 0 ∧ ¬ (255 : Int32) < c) : nar .char c = c := by
  rw [Int32.lt_iff_toInt_lt, Int32.lt_iff_toInt_lt] at q
  have e1 : (0 : Int32).toInt = 0 := by decide
  have e2 : (255 : Int32).toInt = 255 := by decide
  rw [e1, e2] at q
  show chr c = c
  exact chr_id (by omega) (by omega)
theorem nar_b8 (x : Int32) : nar .byte x.toInt8.toInt32 = x.toInt8.toInt32 := by
  show (x.toInt8.toInt32).toInt8.toInt32 = x.toInt8.toInt32
  simp
theorem nar_lo (x : Int32) : nar .char (lo x) = lo x := by
  show chr (lo x) = lo x
  rw [lo_eq]; exact chr_id (and255 x).1 (by have := (and255 x).2; omega)
end Own
end Jvm.Pilot.@@N@@
namespace Jvm.Pilot.@@N@@
namespace Own
open Jvm Jvm.ClassFile Sem Op Lib Jvm.Free Jvm.Stand Jvm.LawKit Jvm.RoadKit
/-- a case's word 'the field of that object is this int', as a fact on the start's heap -/
theorem fldOf {s : State} {args : Array Value} {t : Term} {r : Addr} {cl n d : String} {k : Int32} (ev : t.eval args s none [] s = some (.ref r)) (m : (Jvm.Cond.eq (.field t cl n d) (.int k)).value args s none s [] = some true) : Fld s s.heap r cl n d (.int k) := by
  have e := Cond.eq_int (Cond.before_iff.mpr m) rfl
  rw [fld_at ev] at e
  exact Fld.start e
end Own
end Jvm.Pilot.@@N@@
namespace Jvm.Pilot.@@N@@
namespace Own
open Jvm Jvm.ClassFile Sem Op Lib Jvm.Free Jvm.Stand Jvm.LawKit Jvm.RoadKit
section Enum
variable {G : Gl} {X : Rn} {M : Bo} {vm : Vm} {T : State} {h : Heap} {C S : Nat} {Q : Option Value → Heap → Prop} {pc pc' : Nat} {Ls Ls' : Array Slot} {st : List Value}
theorem aaload (W : Here G X M vm T h C S) {a : Addr} {kA : ClassId} {ty : FieldType} {z j : Int32} {vs : List Value} {dv : Value} (A : Arv G.Z h a kA ty z vs dv) (hty : ty.isReference = true) (hj0 : ¬ j < 0 ∧ j < z) (v : Value) (hv : vs.getD j.toNatClampNeg dv = v) (hd : decode M.bytes pc = .ok (.aaload, 1)) (pc' : Nat) (hp : pc + 1 = pc') (k : Go G X M Q T pc' Ls (v :: st)) : Go G X M Q T pc Ls (.int j :: .ref a :: st) := by
  subst hp
  obtain ⟨F', k0, locs, cells, slots, X1, e1, hS, hk, hZ, hown, hCH, hF, O', c1, s1⟩ := id W
  obtain ⟨cl, A1, q, Sz, Nz, H, Gz⟩ := A
  exact Go.stp (fun t r => X1.aaload W.x (by rw [e1]; exact A1.1) (State.isArrayOf_alike (T := X.s.setVm vm) hZ.alike A1.2.1) hty A1.2.2 (inb_of Sz hj0) (H.at (inb_of Sz hj0) hv) (g := mkF X.m pc Ls (.int j :: .ref a :: st)) rfl rfl (W.d hd) t r) k
theorem cloneV (W : Here G X M vm T h C S) {ad : String} {idx : Nat} {a : Addr} {kA : ClassId} {ty : FieldType} {z : Int32} {vs : List Value} {dv : Value} (w1 : (Jvm.Cond.methodLink M.y.cls idx ⟨ad, "clone", "()Ljava/lang/Object;"⟩).before G.a0 G.Z = true) (w2 : (Jvm.Cond.sameMethod ad "java/lang/Object" "clone" "()Ljava/lang/Object;").before G.a0 G.Z = true) (w3 : (Jvm.Cond.native ⟨"java/lang/Object", "clone", "()Ljava/lang/Object;"⟩).before G.a0 G.Z = true)
    (w4 : (Jvm.Cond.instanceMethod ⟨"java/lang/Object", "clone", "()Ljava/lang/Object;"⟩).before G.a0 G.Z = true) (w5 : (Jvm.Cond.selects ad ⟨ad, "clone", "()Ljava/lang/Object;"⟩ ⟨"java/lang/Object", "clone", "()Ljava/lang/Object;"⟩).before G.a0 G.Z = true) (w6 : (Jvm.Cond.castable ad "java/lang/Cloneable").before G.a0 G.Z = true)
    (A : Arv G.Z h a kA ty z vs dv) (E : Exa G.Z h a ad) (hsz : Ls.size = M.maxL) (hd : decode M.bytes pc = .ok (.invokevirtual idx, 3)) (pc' : Nat) (hp : pc + 3 = pc') (hf : 1 ≤ M.R.frames) (hl : (st.map fun v => v.category).sum + 14 ≤ M.R.locals) (cap : Nat) (hcap : z.toNatClampNeg ≤ cap) (C' S' : Nat) (hc : C + 1 ≤ C') (hs : S + cap ≤ S') (hc' : C' ≤ M.R.cells) (hs' : S' ≤ M.R.slots)
    (k : ∀ (T' : State) (h' : Heap) (b : Addr), b = h.size → Here G X M vm T' h' C' S' → Ext h h' → Arv G.Z h' b kA ty z vs dv → Exa G.Z h' b ad → Go G X M Q T' pc' Ls (.ref b :: st)) : Go G X M Q T pc Ls (.ref a :: st) := by
  subst hp
  obtain ⟨F', k0, locs, cells, slots, X1, e1, hS, hk, hZ, hown, hCH, hF, O', c1, s1⟩ := id W
  obtain ⟨T', h', X', e', E', A', Ex', st'⟩ := RoadKit.cloneH X1 W.x hZ hown w1 w2 w3 w4 w5 w6 e1 A.arh E (g := mkF X.m pc Ls (.ref a :: st)) rfl (hsz.trans F'.2.2.1.symm) rfl (W.d hd) hf (W := (st.map fun v => v.category).sum) (cap := cap) (by show 2 * 0 + _ ≤ _; omega) hl hcap (by omega) (by omega)
  exact Go.stp (fun t r => st' t r) (k T' h' h.size rfl (Here.ext W hS hk hown hCH hF X' e' E' (by omega) (by omega)) E' A' Ex')
end Enum
/-! ### a case's words on its start: arrays and Strings -/
section Start
variable {s : State} {args : Array Value} {t : Term} {r : Addr}
theorem eqRef {a b : Term} {r : Addr} (m : (Jvm.Cond.eq a b).value args s none s [] = some true) (ev : b.eval args s none [] s = some (.ref r)) : a.eval args s none [] s = some (.ref r) := by
  simp only [Cond.value, ev] at m
  cases ha : a.eval args s none [] s with
  | none => simp [ha] at m
  | some x => cases x <;> simp [ha] at m ⊢ <;> exact m
theorem eqI {a : Term} {k : Int32} (m : (Jvm.Cond.eq a (.int k)).value args s none s [] = some true) : a.eval args s none [] s = some (.int k) := Cond.eq_int (Cond.before_iff.mpr m) rfl
theorem hasL_of {cl : Cell} : ∀ (vs : List Value) (i : Nat), (∀ j (hj : j < vs.length), cl.slots[i + j]? = some vs[j]) → HasL cl i vs
  | [], _, _ => trivial
  | v :: vs, i, q => ⟨q 0 (by simp), hasL_of vs (i + 1) fun j hj => by
      have z := q (j + 1) (by simp; omega)
      rw [show i + 1 + j = i + (j + 1) from by omega]
      simpa using z⟩
theorem arvStart (hf : Fit s) {ty : FieldType} {z : Int32} {vs : List Value} {dv : Value} (ev : t.eval args s none [] s = some (.ref r)) (ha : (Jvm.Cond.arrayOf t ty).value args s none s [] = some true) (hl : (Jvm.Cond.eq (.length t) (.int z)).value args s none s [] = some true) (hz : ¬ z < 0) (hn : z.toNatClampNeg = vs.length)
    (hel : ∀ i (hi : i < vs.length), (Term.elem t (.int (Int32.ofNat i))).eval args s none [] s = some vs[i]) : ∃ k, Arv s s.heap r k ty z vs dv := by
  obtain ⟨cl, A⟩ := Arr.start ev ha
  have e := eqI hl
  obtain ⟨sd, SA, hev, harrAt, -⟩ := Term.length_spec e
  have h31 := SBG.length_lt hev harrAt e
  cases ev.symm.trans hev
  have hcl : SA = cl := by
    have q := Arr.fin (U := s) (Vm.Alike.refl _) A
    exact Option.some.inj (harrAt.symm.trans q)
  subst hcl
  have e2 := len_f (o := none) (idx := []) ev harrAt h31
  have ez : SA.slots.size.toInt32 = z := by
    have q := e2.symm.trans e
    simpa using q
  refine ⟨SA.cls, Arv.start hf A h31 ez hz hn (hasL_of vs 0 fun j hj => ?_)⟩
  have q := elem_in (hel j hj) ev rfl A.1
  have z2 := q.2
  rw [show (Int32.ofNat j).toNatClampNeg = j from by
    have := Int32.toInt_ofNat_small (n := j) (by have := back32 hz; omega)
    simp [Int32.toNatClampNeg, this]] at z2
  rw [Nat.zero_add]; exact z2
end Start
end Own
end Jvm.Pilot.@@N@@
namespace Jvm.Pilot.@@N@@
namespace Own
open Jvm Jvm.ClassFile Sem Op Lib Jvm.Free Jvm.Stand Jvm.LawKit Jvm.RoadKit
section L
variable {G : Gl} {X : Rn} {M : Bo} {vm : Vm} {T : State} {h : Heap} {C S : Nat} {Q : Option Value → Heap → Prop} {pc pc' : Nat} {Ls Ls' : Array Slot} {st : List Value}
theorem dupX1 (W : Here G X M vm T h C S) {x y : Value} (hd : decode M.bytes pc = .ok (.dup_x1, 1)) (pc' : Nat) (hp : pc + 1 = pc') (hc : x.category = 1) (hc' : y.category = 1) (k : Go G X M Q T pc' Ls (x :: y :: x :: st)) : Go G X M Q T pc Ls (x :: y :: st) := by
  subst hp; exact Go.stp (fun t r => XT.dupX1 W.at W.x rfl (W.d hd) rfl hc hc' r) k
theorem newR (W : Here G X M vm T h C S) {C0 ad : String} {idx : Nat} {n : Int32} (w1 : (Jvm.Cond.classLink M.y.cls idx C0).before G.a0 G.Z = true) (w2 : (Jvm.Cond.arrayOver (.object C0)).before G.a0 G.Z = true) (had : "[" ++ (FieldType.object C0).toString = ad) (hd : decode M.bytes pc = .ok (.anewarray idx, 3)) (pc' : Nat) (hp : pc + 3 = pc') (hn : ¬ n < 0) (cap : Nat) (hcap : n.toNatClampNeg ≤ cap) (hb : cap * 8 ≤ 536870912) (C' S' : Nat) (hc : C + 1 ≤ C') (hs : S + cap ≤ S') (hc' : C' ≤ M.R.cells) (hs' : S' ≤ M.R.slots)
    (k : ∀ (T' : State) (h' : Heap) (a : Addr) (kA : ClassId), a = h.size → Here G X M vm T' h' C' S' → Ext h h' → Arv G.Z h' a kA (.object C0) n (List.replicate cap .null) .null → Exa G.Z h' a ad → Ovr G.Z kA C0 → Safe G.Z G.EL vm h' a → (∀ y, Safe G.Z G.EL vm h y → Safe G.Z G.EL vm h' y) → Go G X M Q T' pc' Ls (.ref a :: st)) : Go G X M Q T pc Ls (.int n :: st) := by
  subst hp
  obtain ⟨F, k0, locs, cells, slots, X1, e1, hS, hk, hZ, hown, hCH, hF, O, c1, s1⟩ := id W
  obtain ⟨T', h', kA, X', e', E, A, Ex, Ov, st'⟩ := RoadKit.newRE X1 W.x hZ hown w1 w2 e1 (g := mkF X.m pc Ls (.int n :: st)) rfl (W.d hd) rfl hn hcap hb (by omega) (by omega) had
  exact Go.stp (fun t r => st' t r) (k T' h' h.size kA rfl (Here.ext W hS hk hown hCH hF X' e' E (by omega) (by omega)) E ((Arv.new A hn).pad (pad_rep [] _ cap)) Ex Ov (Safe.ext E hCH.1 (Safe.new (Nat.le_refl _))) (fun y q => Safe.ext E hCH.1 q))
theorem aastore (W : Here G X M vm T h C S) {a : Addr} {kA : ClassId} {C0 : String} {z j : Int32} {vs : List Value} {dv : Value} {y : Addr} (A : Arv G.Z h a kA (.object C0) z vs dv) (O : Ovr G.Z kA C0) (I : Ins G.Z h y C0 true) (i : Nat) (hj : j.toNatClampNeg = i) (hj0 : ¬ j < 0 ∧ j < z) (hi : i < vs.length) (ha : G.n0 ≤ a) (hd : decode M.bytes pc = .ok (.aastore, 1)) (pc' : Nat) (hp : pc + 1 = pc')
    (k : ∀ (T' : State) (h' : Heap), Here G X M vm T' h' C S → Wr h h' a i (.ref y) → Arv G.Z h' a kA (.object C0) z (vs.set i (.ref y)) dv → (∀ y, Safe G.Z G.EL vm h y → Safe G.Z G.EL vm h' y) → Go G X M Q T' pc' Ls st) : Go G X M Q T pc Ls (.ref y :: .int j :: .ref a :: st) := by
  subst hp hj
  obtain ⟨F', k0, locs, cells, slots, X1, e1, hS, hk, hZ, hown, hCH, hF, O', c1, s1⟩ := id W
  have sf : Safe G.Z G.EL vm h a := Safe.arv hZ.alike A (fun q => by cases q)
  obtain ⟨cl, A1, q, Sz, Nz, H, Gz⟩ := A
  obtain ⟨T', h', X', e', Wq, st'⟩ := RoadKit.stR X1 W.x hZ e1 A1 (j := j) (inb_of Sz hj0) rfl (Sto.ofV A1 q O I) (g := mkF X.m pc Ls (.ref y :: .int j :: .ref a :: st)) rfl rfl (W.d hd)
  exact Go.stp (fun t r => st' t r) (k T' h' (Here.wr W hS hk hown hCH hF ha sf X' e' Wq c1 s1) Wq (Arv.set A1 q Sz Nz H Gz rfl Wq _ rfl hi) (fun y q => Safe.wr Wq sf hCH.1 q))
theorem priv_warm {Z U : State} {a0 a1 : Array Value} {y : MethodName} (hZ : Z.Warmed39 U.vm) (h : (Jvm.Cond.privateMethod y).before a0 Z = true) : (Jvm.Cond.privateMethod y).before a1 U = true := by
  have hal := hZ.alike
  have e1 : U.methodNamed? y = Z.methodNamed? y := by rw [State.methodNamed?_of_vm (show U.vm = (Z.setVm U.vm).vm from rfl), State.methodNamed?_setVm hal]
  have e2 : U.vm.method? = Z.vm.method? := funext hal.method?
  simp only [Cond.before, Cond.holds, Cond.value] at h ⊢
  rw [e1, e2]; exact h
theorem callP (W : Here G X M vm T h C S) {y : MethodName} {idx : Nat} {cl : String} {bytes : ByteArray} {maxL : Nat} {ret : Option FieldType} (w1 : (Jvm.Cond.methodLink M.y.cls idx y).before G.a0 G.Z = true) (w2 : (Jvm.Cond.instanceMethod y).before G.a0 G.Z = true) (w3 : (Jvm.Cond.selects y.cls y y).before G.a0 G.Z = true) (w4 : (Jvm.Cond.privateMethod y).before G.a0 G.Z = true) (w5 : (Jvm.Cond.code y bytes maxL ret).before G.a0 G.Z = true)
    (hy : y.cls ≠ "java/lang/invoke/MethodHandle" ∧ y.cls ≠ "java/lang/invoke/VarHandle") {wd kc ks : Nat} {a : Addr} {argsL rest : List Value} {Qy : Option Value → Heap → Prop} (P : Pay G X M vm h y 3 wd (.ref a :: argsL).toArray kc ks Qy) (E : Exa G.Z h a cl) (hsz : Ls.size = M.maxL) (hlen : ∀ sig, parseMethodDescriptor y.desc = some sig → argsL.length = sig.parameters.length)
    (hstk : st = argsL.reverse ++ .ref a :: rest) (hwd : (rest.map fun v => v.category).sum ≤ wd) (hd : decode M.bytes pc = .ok (.invokevirtual idx, 3)) (pc' : Nat) (hp : pc + 3 = pc') (C' S' : Nat) (hc : C + kc ≤ C') (hs : S + ks ≤ S') (hc' : C' ≤ M.R.cells) (hs' : S' ≤ M.R.slots)
    (k : ∀ (vm' : Vm) (T' : State) (h' : Heap) (v : Option Value), Here G X M vm' T' h' C' S' → CHr G.Z G.EL vm h vm' h' → Qy v h' → Go G X M Q T' pc' Ls (v.toList ++ rest)) : Go G X M Q T pc Ls st := by
  subst hp hstk
  obtain ⟨F, k0, locs, cells, slots, X1, e1, hS, hk, hZ, hown, hCH, hF, O, c1, s1⟩ := id W
  obtain ⟨cell, qa, qb⟩ := (Ins.self E).cell
  subst e1
  obtain ⟨v, vm₁, B, -, X', h2, hg, ⟨L, hq⟩, st'⟩ := X1.privateBackS W.x (y := y) hown (mv (s := X.s.setVm vm) hZ w1) (mv (s := X.s.setVm vm) hZ w2) (mv (s := X.s.setVm vm) hZ w3) (Cond.privateMethod_at (priv_warm (a1 := X.args) (U := X.s.setVm vm) hZ w4)) (mv (s := X.s.setVm vm) hZ w5) hy P (g := mkF X.m pc Ls (argsL.reverse ++ .ref a :: rest)) rfl (hsz.trans F.2.2.1.symm) (Steps.refl _) qa qb (argsL := argsL) (rest := rest) hlen rfl (by show 2 * 0 + _ ≤ _; omega) (W.d hd) (fun _ _ => ⟨rfl, rfl, by show cells + kc ≤ _; omega, by show slots + ks ≤ _; omega⟩)
  exact Go.stp (fun t r => st'.trans r) (k B.U.vm B.U B.U.heap v (Here.call W hc hs hS hk hown hCH hF c1 s1 X' h2 hg hq) hq.2.2.2.2 hq.1.1)
end L
abbrev ALN : String := "java/util/ArrayList"
/-- an ArrayList of n things in the array e -/
def AL (Z : State) (h : Heap) (a : Addr) (n : Int32) (e : Addr) : Prop := Exa Z h a ALN ∧ (∃ m : Int32, Fld Z h a "java/util/AbstractList" "modCount" "I" (.int m)) ∧ Fld Z h a ALN "size" "I" (.int n) ∧ Fld Z h a ALN "elementData" "[Ljava/lang/Object;" (.ref e)
theorem AL.ext {Z : State} {h h' : Heap} {a : Addr} {n : Int32} {e : Addr} (F : AL Z h a n e) (E : Ext h h') : AL Z h' a n e := by
  obtain ⟨q1, ⟨m, q2⟩, q3, q4⟩ := F
  exact ⟨q1.ext E, ⟨m, q2.ext E⟩, q3.ext E, q4.ext E⟩
theorem AL.lt {Z : State} {h : Heap} {a : Addr} {n : Int32} {e : Addr} (F : AL Z h a n e) : a < h.size := F.1.lt
theorem AL.exa {Z : State} {h : Heap} {a : Addr} {n : Int32} {e : Addr} (F : AL Z h a n e) : Exa Z h a ALN := F.1
theorem AL.keep {Z : State} {h h' : Heap} {a : Addr} {n : Int32} {e : Addr} {ws : List Addr} (F : AL Z h a n e) (K : Keep h h' ws) (q : a ∉ ws) : AL Z h' a n e := by
  obtain ⟨q1, ⟨m, q2⟩, q3, q4⟩ := F
  exact ⟨q1.keep K, ⟨m, q2.keep K q⟩, q3.keep K q, q4.keep K q⟩
theorem AL.other {Z : State} {h h' : Heap} {a b : Addr} {n : Int32} {e : Addr} {sl : Nat} {v : Value} (F : AL Z h b n e) (W : Wr h h' a sl v) (q : b ≠ a) : AL Z h' b n e := by
  obtain ⟨q1, ⟨m, q2⟩, q3, q4⟩ := F
  exact ⟨q1.wr W, ⟨m, q2.other W (Or.inl q)⟩, q3.other W (Or.inl q), q4.other W (Or.inl q)⟩
end Own
end Jvm.Pilot.@@N@@
namespace Jvm.Pilot.@@N@@
open Jvm Jvm.ClassFile Sem Op Lib Jvm.Free Jvm.Stand Jvm.LawKit Jvm.RoadKit Bundle Jvm.Pilot.@@N@@.Jvm.D
theorem tw {G : Own.Gl} (hw : ∀ d ∈ tables_1, d.before G.a0 G.Z = true) (i : Nat) {d : Jvm.Cond} (h : tables_1[i]? = some d) : d.before G.a0 G.Z = true := hw d (List.mem_of_getElem? h)
theorem wS_in : ∀ d ∈ Own.wordsS, d ∈ tables_1 := by decide +kernel
theorem wS {G : Own.Gl} (hw : ∀ d ∈ tables_1, d.before G.a0 G.Z = true) : ∀ d ∈ Own.wordsS, d.before G.a0 G.Z = true := fun d hd => hw d (wS_in d hd)
theorem d1_0 : decode method_2_code 0 = .ok (.iload_n 0, 1) := by decide +kernel
theorem d1_1 : decode method_2_code 1 = .ok (.iconst 3, 1) := by decide +kernel
theorem d1_2 : decode method_2_code 2 = .ok (.iand, 1) := by decide +kernel
theorem d1_3 : decode method_2_code 3 = .ok (.istore_n 1, 1) := by decide +kernel
theorem d1_4 : decode method_2_code 4 = .ok (.iload_n 0, 1) := by decide +kernel
theorem d1_5 : decode method_2_code 5 = .ok (.iconst 2, 1) := by decide +kernel
theorem d1_6 : decode method_2_code 6 = .ok (.iushr, 1) := by decide +kernel
theorem d1_7 : decode method_2_code 7 = .ok (.sipush 255, 3) := by decide +kernel
theorem d1_10 : decode method_2_code 10 = .ok (.iand, 1) := by decide +kernel
theorem d1_11 : decode method_2_code 11 = .ok (.i2c, 1) := by decide +kernel
theorem d1_12 : decode method_2_code 12 = .ok (.istore_n 2, 1) := by decide +kernel
theorem d1_13 : decode method_2_code 13 = .ok (.iload_n 0, 1) := by decide +kernel
theorem d1_14 : decode method_2_code 14 = .ok (.bipush 10, 2) := by decide +kernel
theorem d1_16 : decode method_2_code 16 = .ok (.iushr, 1) := by decide +kernel
theorem d1_17 : decode method_2_code 17 = .ok (.sipush 255, 3) := by decide +kernel
theorem d1_20 : decode method_2_code 20 = .ok (.iand, 1) := by decide +kernel
theorem d1_21 : decode method_2_code 21 = .ok (.i2c, 1) := by decide +kernel
theorem d1_22 : decode method_2_code 22 = .ok (.istore_n 3, 1) := by decide +kernel
theorem d1_23 : decode method_2_code 23 = .ok (.iload_n 1, 1) := by decide +kernel
theorem d1_24 : decode method_2_code 24 = .ok (.ifCond .ne 14, 3) := by decide +kernel
theorem d1_27 : decode method_2_code 27 = .ok (.new 7, 3) := by decide +kernel
theorem d1_30 : decode method_2_code 30 = .ok (.dup, 1) := by decide +kernel
theorem d1_31 : decode method_2_code 31 = .ok (.iconst 0, 1) := by decide +kernel
theorem d1_32 : decode method_2_code 32 = .ok (.newarray .char, 2) := by decide +kernel
theorem d1_34 : decode method_2_code 34 = .ok (.invokespecial 9, 3) := by decide +kernel
theorem d1_37 : decode method_2_code 37 = .ok (.areturn, 1) := by decide +kernel
theorem d1_38 : decode method_2_code 38 = .ok (.iload_n 1, 1) := by decide +kernel
theorem d1_39 : decode method_2_code 39 = .ok (.iconst 1, 1) := by decide +kernel
theorem d1_40 : decode method_2_code 40 = .ok (.if_icmp .ne 8, 3) := by decide +kernel
theorem d1_43 : decode method_2_code 43 = .ok (.iload_n 2, 1) := by decide +kernel
theorem d1_44 : decode method_2_code 44 = .ok (.invokestatic 12, 3) := by decide +kernel
theorem d1_47 : decode method_2_code 47 = .ok (.areturn, 1) := by decide +kernel
theorem d1_48 : decode method_2_code 48 = .ok (.new 7, 3) := by decide +kernel
theorem d1_51 : decode method_2_code 51 = .ok (.dup, 1) := by decide +kernel
theorem d1_52 : decode method_2_code 52 = .ok (.iconst 2, 1) := by decide +kernel
theorem d1_53 : decode method_2_code 53 = .ok (.newarray .char, 2) := by decide +kernel
theorem d1_55 : decode method_2_code 55 = .ok (.dup, 1) := by decide +kernel
theorem d1_56 : decode method_2_code 56 = .ok (.iconst 0, 1) := by decide +kernel
theorem d1_57 : decode method_2_code 57 = .ok (.iload_n 2, 1) := by decide +kernel
theorem d1_58 : decode method_2_code 58 = .ok (.castore, 1) := by decide +kernel
theorem d1_59 : decode method_2_code 59 = .ok (.dup, 1) := by decide +kernel
theorem d1_60 : decode method_2_code 60 = .ok (.iconst 1, 1) := by decide +kernel
theorem d1_61 : decode method_2_code 61 = .ok (.iload_n 3, 1) := by decide +kernel
theorem d1_62 : decode method_2_code 62 = .ok (.castore, 1) := by decide +kernel
theorem d1_63 : decode method_2_code 63 = .ok (.invokespecial 9, 3) := by decide +kernel
theorem d1_66 : decode method_2_code 66 = .ok (.areturn, 1) := by decide +kernel
theorem d8_0 : decode jdk_42_method_139_code 0 = .ok (.getstatic 38, 3) := by decide +kernel
theorem d8_3 : decode jdk_42_method_139_code 3 = .ok (.ifCond .eq 23, 3) := by decide +kernel
theorem d8_6 : decode jdk_42_method_139_code 6 = .ok (.iload_n 0, 1) := by decide +kernel
theorem d8_7 : decode jdk_42_method_139_code 7 = .ok (.invokestatic 1015, 3) := by decide +kernel
theorem d8_10 : decode jdk_42_method_139_code 10 = .ok (.ifCond .eq 16, 3) := by decide +kernel
theorem d8_13 : decode jdk_42_method_139_code 13 = .ok (.new 10, 3) := by decide +kernel
theorem d8_16 : decode jdk_42_method_139_code 16 = .ok (.dup, 1) := by decide +kernel
theorem d8_17 : decode jdk_42_method_139_code 17 = .ok (.iload_n 0, 1) := by decide +kernel
theorem d8_18 : decode jdk_42_method_139_code 18 = .ok (.invokestatic 1018, 3) := by decide +kernel
theorem d8_21 : decode jdk_42_method_139_code 21 = .ok (.iconst 0, 1) := by decide +kernel
theorem d8_22 : decode jdk_42_method_139_code 22 = .ok (.invokespecial 209, 3) := by decide +kernel
theorem d8_25 : decode jdk_42_method_139_code 25 = .ok (.areturn, 1) := by decide +kernel
theorem d9_0 : decode jdk_43_method_3_code 0 = .ok (.iload_n 0, 1) := by decide +kernel
theorem d9_1 : decode jdk_43_method_3_code 1 = .ok (.sipush 255, 3) := by decide +kernel
theorem d9_4 : decode jdk_43_method_3_code 4 = .ok (.if_icmp .gt 7, 3) := by decide +kernel
theorem d9_7 : decode jdk_43_method_3_code 7 = .ok (.iconst 1, 1) := by decide +kernel
theorem d9_8 : decode jdk_43_method_3_code 8 = .ok (.goto 4, 3) := by decide +kernel
theorem d9_12 : decode jdk_43_method_3_code 12 = .ok (.ireturn, 1) := by decide +kernel
theorem d10_0 : decode jdk_43_method_46_code 0 = .ok (.iconst 1, 1) := by decide +kernel
theorem d10_1 : decode jdk_43_method_46_code 1 = .ok (.newarray .byte, 2) := by decide +kernel
theorem d10_3 : decode jdk_43_method_46_code 3 = .ok (.dup, 1) := by decide +kernel
theorem d10_4 : decode jdk_43_method_46_code 4 = .ok (.iconst 0, 1) := by decide +kernel
theorem d10_5 : decode jdk_43_method_46_code 5 = .ok (.iload_n 0, 1) := by decide +kernel
theorem d10_6 : decode jdk_43_method_46_code 6 = .ok (.i2b, 1) := by decide +kernel
theorem d10_7 : decode jdk_43_method_46_code 7 = .ok (.bastore, 1) := by decide +kernel
theorem d10_8 : decode jdk_43_method_46_code 8 = .ok (.areturn, 1) := by decide +kernel
theorem d11_0 : decode jdk_42_method_151_code 0 = .ok (.aload_n 0, 1) := by decide +kernel
theorem d11_1 : decode jdk_42_method_151_code 1 = .ok (.invokespecial 1, 3) := by decide +kernel
theorem d11_4 : decode jdk_42_method_151_code 4 = .ok (.aload_n 0, 1) := by decide +kernel
theorem d11_5 : decode jdk_42_method_151_code 5 = .ok (.aload_n 1, 1) := by decide +kernel
theorem d11_6 : decode jdk_42_method_151_code 6 = .ok (.putfield 9, 3) := by decide +kernel
theorem d11_9 : decode jdk_42_method_151_code 9 = .ok (.aload_n 0, 1) := by decide +kernel
theorem d11_10 : decode jdk_42_method_151_code 10 = .ok (.iload_n 2, 1) := by decide +kernel
theorem d11_11 : decode jdk_42_method_151_code 11 = .ok (.putfield 15, 3) := by decide +kernel
theorem d11_14 : decode jdk_42_method_151_code 14 = .ok (.return_, 1) := by decide +kernel
theorem d12_0 : decode prog_3_method_1_code 0 = .ok (.aload_n 0, 1) := by decide +kernel
theorem d12_1 : decode prog_3_method_1_code 1 = .ok (.invokespecial 1, 3) := by decide +kernel
theorem d12_4 : decode prog_3_method_1_code 4 = .ok (.aload_n 0, 1) := by decide +kernel
theorem d12_5 : decode prog_3_method_1_code 5 = .ok (.new 7, 3) := by decide +kernel
theorem d12_8 : decode prog_3_method_1_code 8 = .ok (.dup, 1) := by decide +kernel
theorem d12_9 : decode prog_3_method_1_code 9 = .ok (.invokespecial 9, 3) := by decide +kernel
theorem d12_12 : decode prog_3_method_1_code 12 = .ok (.putfield 10, 3) := by decide +kernel
theorem d12_15 : decode prog_3_method_1_code 15 = .ok (.aload_n 0, 1) := by decide +kernel
theorem d12_16 : decode prog_3_method_1_code 16 = .ok (.new 7, 3) := by decide +kernel
theorem d12_19 : decode prog_3_method_1_code 19 = .ok (.dup, 1) := by decide +kernel
theorem d12_20 : decode prog_3_method_1_code 20 = .ok (.invokespecial 9, 3) := by decide +kernel
theorem d12_23 : decode prog_3_method_1_code 23 = .ok (.putfield 16, 3) := by decide +kernel
theorem d12_26 : decode prog_3_method_1_code 26 = .ok (.aload_n 0, 1) := by decide +kernel
theorem d12_27 : decode prog_3_method_1_code 27 = .ok (.aload_n 1, 1) := by decide +kernel
theorem d12_28 : decode prog_3_method_1_code 28 = .ok (.ldc 19, 2) := by decide +kernel
theorem d12_30 : decode prog_3_method_1_code 30 = .ok (.invokestatic 21, 3) := by decide +kernel
theorem d12_33 : decode prog_3_method_1_code 33 = .ok (.checkcast 27, 3) := by decide +kernel
theorem d12_36 : decode prog_3_method_1_code 36 = .ok (.putfield 29, 3) := by decide +kernel
theorem d12_39 : decode prog_3_method_1_code 39 = .ok (.return_, 1) := by decide +kernel
theorem d13_0 : decode jdk_38_method_2_code 0 = .ok (.aload_n 0, 1) := by decide +kernel
theorem d13_1 : decode jdk_38_method_2_code 1 = .ok (.invokespecial 1, 3) := by decide +kernel
theorem d13_4 : decode jdk_38_method_2_code 4 = .ok (.aload_n 0, 1) := by decide +kernel
theorem d13_5 : decode jdk_38_method_2_code 5 = .ok (.getstatic 39, 3) := by decide +kernel
theorem d13_8 : decode jdk_38_method_2_code 8 = .ok (.putfield 9, 3) := by decide +kernel
theorem d13_11 : decode jdk_38_method_2_code 11 = .ok (.return_, 1) := by decide +kernel
theorem d14_0 : decode jdk_39_method_1_code 0 = .ok (.aload_n 0, 1) := by decide +kernel
theorem d14_1 : decode jdk_39_method_1_code 1 = .ok (.invokespecial 1, 3) := by decide +kernel
theorem d14_4 : decode jdk_39_method_1_code 4 = .ok (.aload_n 0, 1) := by decide +kernel
theorem d14_5 : decode jdk_39_method_1_code 5 = .ok (.iconst 0, 1) := by decide +kernel
theorem d14_6 : decode jdk_39_method_1_code 6 = .ok (.putfield 7, 3) := by decide +kernel
theorem d14_9 : decode jdk_39_method_1_code 9 = .ok (.return_, 1) := by decide +kernel
theorem d15_0 : decode jdk_22_method_1_code 0 = .ok (.aload_n 0, 1) := by decide +kernel
theorem d15_1 : decode jdk_22_method_1_code 1 = .ok (.invokespecial 1, 3) := by decide +kernel
theorem d15_4 : decode jdk_22_method_1_code 4 = .ok (.return_, 1) := by decide +kernel
theorem d16_0 : decode jdk_31_method_11_code 0 = .ok (.aload_n 0, 1) := by decide +kernel
theorem d16_1 : decode jdk_31_method_11_code 1 = .ok (.ifnonnull 12, 3) := by decide +kernel
theorem d16_13 : decode jdk_31_method_11_code 13 = .ok (.aload_n 0, 1) := by decide +kernel
theorem d16_14 : decode jdk_31_method_11_code 14 = .ok (.areturn, 1) := by decide +kernel
theorem d17_0 : decode prog_3_method_3_code 0 = .ok (.aload_n 0, 1) := by decide +kernel
theorem d17_1 : decode prog_3_method_3_code 1 = .ok (.getfield 16, 3) := by decide +kernel
theorem d17_4 : decode prog_3_method_3_code 4 = .ok (.aload_n 1, 1) := by decide +kernel
theorem d17_5 : decode prog_3_method_3_code 5 = .ok (.ldc 32, 2) := by decide +kernel
theorem d17_7 : decode prog_3_method_3_code 7 = .ok (.invokestatic 21, 3) := by decide +kernel
theorem d17_10 : decode prog_3_method_3_code 10 = .ok (.checkcast 27, 3) := by decide +kernel
theorem d17_13 : decode prog_3_method_3_code 13 = .ok (.invokeinterface 34 2, 5) := by decide +kernel
theorem d17_18 : decode prog_3_method_3_code 18 = .ok (.pop, 1) := by decide +kernel
theorem d17_19 : decode prog_3_method_3_code 19 = .ok (.aload_n 0, 1) := by decide +kernel
theorem d17_20 : decode prog_3_method_3_code 20 = .ok (.areturn, 1) := by decide +kernel
theorem d18_0 : decode jdk_38_method_25_code 0 = .ok (.aload_n 0, 1) := by decide +kernel
theorem d18_1 : decode jdk_38_method_25_code 1 = .ok (.dup, 1) := by decide +kernel
theorem d18_2 : decode jdk_38_method_25_code 2 = .ok (.getfield 63, 3) := by decide +kernel
theorem d18_5 : decode jdk_38_method_25_code 5 = .ok (.iconst 1, 1) := by decide +kernel
theorem d18_6 : decode jdk_38_method_25_code 6 = .ok (.iadd, 1) := by decide +kernel
theorem d18_7 : decode jdk_38_method_25_code 7 = .ok (.putfield 63, 3) := by decide +kernel
theorem d18_10 : decode jdk_38_method_25_code 10 = .ok (.aload_n 0, 1) := by decide +kernel
theorem d18_11 : decode jdk_38_method_25_code 11 = .ok (.aload_n 1, 1) := by decide +kernel
theorem d18_12 : decode jdk_38_method_25_code 12 = .ok (.aload_n 0, 1) := by decide +kernel
theorem d18_13 : decode jdk_38_method_25_code 13 = .ok (.getfield 9, 3) := by decide +kernel
theorem d18_16 : decode jdk_38_method_25_code 16 = .ok (.aload_n 0, 1) := by decide +kernel
theorem d18_17 : decode jdk_38_method_25_code 17 = .ok (.getfield 48, 3) := by decide +kernel
theorem d18_20 : decode jdk_38_method_25_code 20 = .ok (.invokevirtual 131, 3) := by decide +kernel
theorem d18_23 : decode jdk_38_method_25_code 23 = .ok (.iconst 1, 1) := by decide +kernel
theorem d18_24 : decode jdk_38_method_25_code 24 = .ok (.ireturn, 1) := by decide +kernel
theorem d19_0 : decode jdk_38_method_24_code 0 = .ok (.iload_n 3, 1) := by decide +kernel
theorem d19_1 : decode jdk_38_method_24_code 1 = .ok (.aload_n 2, 1) := by decide +kernel
theorem d19_2 : decode jdk_38_method_24_code 2 = .ok (.arraylength, 1) := by decide +kernel
theorem d19_3 : decode jdk_38_method_24_code 3 = .ok (.if_icmp .ne 8, 3) := by decide +kernel
theorem d19_6 : decode jdk_38_method_24_code 6 = .ok (.aload_n 0, 1) := by decide +kernel
theorem d19_7 : decode jdk_38_method_24_code 7 = .ok (.invokevirtual 129, 3) := by decide +kernel
theorem d19_10 : decode jdk_38_method_24_code 10 = .ok (.astore_n 2, 1) := by decide +kernel
theorem d19_11 : decode jdk_38_method_24_code 11 = .ok (.aload_n 2, 1) := by decide +kernel
theorem d19_12 : decode jdk_38_method_24_code 12 = .ok (.iload_n 3, 1) := by decide +kernel
theorem d19_13 : decode jdk_38_method_24_code 13 = .ok (.aload_n 1, 1) := by decide +kernel
theorem d19_14 : decode jdk_38_method_24_code 14 = .ok (.aastore, 1) := by decide +kernel
theorem d19_15 : decode jdk_38_method_24_code 15 = .ok (.aload_n 0, 1) := by decide +kernel
theorem d19_16 : decode jdk_38_method_24_code 16 = .ok (.iload_n 3, 1) := by decide +kernel
theorem d19_17 : decode jdk_38_method_24_code 17 = .ok (.iconst 1, 1) := by decide +kernel
theorem d19_18 : decode jdk_38_method_24_code 18 = .ok (.iadd, 1) := by decide +kernel
theorem d19_19 : decode jdk_38_method_24_code 19 = .ok (.putfield 48, 3) := by decide +kernel
theorem d19_22 : decode jdk_38_method_24_code 22 = .ok (.return_, 1) := by decide +kernel
theorem d20_0 : decode jdk_38_method_7_code 0 = .ok (.aload_n 0, 1) := by decide +kernel
theorem d20_1 : decode jdk_38_method_7_code 1 = .ok (.aload_n 0, 1) := by decide +kernel
theorem d20_2 : decode jdk_38_method_7_code 2 = .ok (.getfield 48, 3) := by decide +kernel
theorem d20_5 : decode jdk_38_method_7_code 5 = .ok (.iconst 1, 1) := by decide +kernel
theorem d20_6 : decode jdk_38_method_7_code 6 = .ok (.iadd, 1) := by decide +kernel
theorem d20_7 : decode jdk_38_method_7_code 7 = .ok (.invokevirtual 69, 3) := by decide +kernel
theorem d20_10 : decode jdk_38_method_7_code 10 = .ok (.areturn, 1) := by decide +kernel
theorem d21_0 : decode jdk_38_method_6_code 0 = .ok (.aload_n 0, 1) := by decide +kernel
theorem d21_1 : decode jdk_38_method_6_code 1 = .ok (.getfield 9, 3) := by decide +kernel
theorem d21_4 : decode jdk_38_method_6_code 4 = .ok (.arraylength, 1) := by decide +kernel
theorem d21_5 : decode jdk_38_method_6_code 5 = .ok (.istore_n 2, 1) := by decide +kernel
theorem d21_6 : decode jdk_38_method_6_code 6 = .ok (.iload_n 2, 1) := by decide +kernel
theorem d21_7 : decode jdk_38_method_6_code 7 = .ok (.ifCond .gt 13, 3) := by decide +kernel
theorem d21_10 : decode jdk_38_method_6_code 10 = .ok (.aload_n 0, 1) := by decide +kernel
theorem d21_11 : decode jdk_38_method_6_code 11 = .ok (.getfield 9, 3) := by decide +kernel
theorem d21_14 : decode jdk_38_method_6_code 14 = .ok (.getstatic 39, 3) := by decide +kernel
theorem d21_17 : decode jdk_38_method_6_code 17 = .ok (.if_acmp .eq 28, 3) := by decide +kernel
theorem d21_45 : decode jdk_38_method_6_code 45 = .ok (.aload_n 0, 1) := by decide +kernel
theorem d21_46 : decode jdk_38_method_6_code 46 = .ok (.bipush 10, 2) := by decide +kernel
theorem d21_48 : decode jdk_38_method_6_code 48 = .ok (.iload_n 1, 1) := by decide +kernel
theorem d21_49 : decode jdk_38_method_6_code 49 = .ok (.invokestatic 79, 3) := by decide +kernel
theorem d21_52 : decode jdk_38_method_6_code 52 = .ok (.anewarray 7, 3) := by decide +kernel
theorem d21_55 : decode jdk_38_method_6_code 55 = .ok (.dup_x1, 1) := by decide +kernel
theorem d21_56 : decode jdk_38_method_6_code 56 = .ok (.putfield 9, 3) := by decide +kernel
theorem d21_59 : decode jdk_38_method_6_code 59 = .ok (.areturn, 1) := by decide +kernel
theorem d22_0 : decode jdk_29_method_65_code 0 = .ok (.iload_n 0, 1) := by decide +kernel
theorem d22_1 : decode jdk_29_method_65_code 1 = .ok (.iload_n 1, 1) := by decide +kernel
theorem d22_2 : decode jdk_29_method_65_code 2 = .ok (.if_icmp .lt 7, 3) := by decide +kernel
theorem d22_5 : decode jdk_29_method_65_code 5 = .ok (.iload_n 0, 1) := by decide +kernel
theorem d22_6 : decode jdk_29_method_65_code 6 = .ok (.goto 4, 3) := by decide +kernel
theorem d22_10 : decode jdk_29_method_65_code 10 = .ok (.ireturn, 1) := by decide +kernel
theorem d23_0 : decode prog_3_method_6_code 0 = .ok (.aload_n 0, 1) := by decide +kernel
theorem d23_1 : decode prog_3_method_6_code 1 = .ok (.getfield 16, 3) := by decide +kernel
theorem d23_4 : decode prog_3_method_6_code 4 = .ok (.areturn, 1) := by decide +kernel
theorem d24_0 : decode jdk_38_method_8_code 0 = .ok (.aload_n 0, 1) := by decide +kernel
theorem d24_1 : decode jdk_38_method_8_code 1 = .ok (.getfield 48, 3) := by decide +kernel
theorem d24_4 : decode jdk_38_method_8_code 4 = .ok (.ireturn, 1) := by decide +kernel
theorem d25_0 : decode jdk_38_method_20_code 0 = .ok (.iload_n 1, 1) := by decide +kernel
theorem d25_1 : decode jdk_38_method_20_code 1 = .ok (.aload_n 0, 1) := by decide +kernel
theorem d25_2 : decode jdk_38_method_20_code 2 = .ok (.getfield 48, 3) := by decide +kernel
theorem d25_5 : decode jdk_38_method_20_code 5 = .ok (.invokestatic 118, 3) := by decide +kernel
theorem d25_8 : decode jdk_38_method_20_code 8 = .ok (.pop, 1) := by decide +kernel
theorem d25_9 : decode jdk_38_method_20_code 9 = .ok (.aload_n 0, 1) := by decide +kernel
theorem d25_10 : decode jdk_38_method_20_code 10 = .ok (.iload_n 1, 1) := by decide +kernel
theorem d25_11 : decode jdk_38_method_20_code 11 = .ok (.invokevirtual 123, 3) := by decide +kernel
theorem d25_14 : decode jdk_38_method_20_code 14 = .ok (.areturn, 1) := by decide +kernel
theorem d26_0 : decode jdk_31_method_17_code 0 = .ok (.iload_n 0, 1) := by decide +kernel
theorem d26_1 : decode jdk_31_method_17_code 1 = .ok (.iload_n 1, 1) := by decide +kernel
theorem d26_2 : decode jdk_31_method_17_code 2 = .ok (.aconst_null, 1) := by decide +kernel
theorem d26_3 : decode jdk_31_method_17_code 3 = .ok (.invokestatic 105, 3) := by decide +kernel
theorem d26_6 : decode jdk_31_method_17_code 6 = .ok (.ireturn, 1) := by decide +kernel
theorem d27_0 : decode jdk_41_method_11_code 0 = .ok (.iload_n 0, 1) := by decide +kernel
theorem d27_1 : decode jdk_41_method_11_code 1 = .ok (.ifCond .lt 8, 3) := by decide +kernel
theorem d27_4 : decode jdk_41_method_11_code 4 = .ok (.iload_n 0, 1) := by decide +kernel
theorem d27_5 : decode jdk_41_method_11_code 5 = .ok (.iload_n 1, 1) := by decide +kernel
theorem d27_6 : decode jdk_41_method_11_code 6 = .ok (.if_icmp .lt 10, 3) := by decide +kernel
theorem d27_16 : decode jdk_41_method_11_code 16 = .ok (.iload_n 0, 1) := by decide +kernel
theorem d27_17 : decode jdk_41_method_11_code 17 = .ok (.ireturn, 1) := by decide +kernel
theorem d28_0 : decode jdk_38_method_18_code 0 = .ok (.aload_n 0, 1) := by decide +kernel
theorem d28_1 : decode jdk_38_method_18_code 1 = .ok (.getfield 9, 3) := by decide +kernel
theorem d28_4 : decode jdk_38_method_18_code 4 = .ok (.iload_n 1, 1) := by decide +kernel
theorem d28_5 : decode jdk_38_method_18_code 5 = .ok (.aaload, 1) := by decide +kernel
theorem d28_6 : decode jdk_38_method_18_code 6 = .ok (.areturn, 1) := by decide +kernel
theorem d29_0 : decode jdk_42_method_66_code 0 = .ok (.aload_n 0, 1) := by decide +kernel
theorem d29_1 : decode jdk_42_method_66_code 1 = .ok (.aload_n 1, 1) := by decide +kernel
theorem d29_2 : decode jdk_42_method_66_code 2 = .ok (.if_acmp .ne 5, 3) := by decide +kernel
theorem d29_5 : decode jdk_42_method_66_code 5 = .ok (.iconst 1, 1) := by decide +kernel
theorem d29_6 : decode jdk_42_method_66_code 6 = .ok (.ireturn, 1) := by decide +kernel
theorem d30_0 : decode prog_3_method_5_code 0 = .ok (.aload_n 0, 1) := by decide +kernel
theorem d30_1 : decode prog_3_method_5_code 1 = .ok (.getfield 10, 3) := by decide +kernel
theorem d30_4 : decode prog_3_method_5_code 4 = .ok (.areturn, 1) := by decide +kernel
theorem d31_0 : decode prog_3_method_4_code 0 = .ok (.aload_n 0, 1) := by decide +kernel
theorem d31_1 : decode prog_3_method_4_code 1 = .ok (.getfield 29, 3) := by decide +kernel
theorem d31_4 : decode prog_3_method_4_code 4 = .ok (.areturn, 1) := by decide +kernel
theorem d32_0 : decode prog_3_method_2_code 0 = .ok (.aload_n 0, 1) := by decide +kernel
theorem d32_1 : decode prog_3_method_2_code 1 = .ok (.getfield 10, 3) := by decide +kernel
theorem d32_4 : decode prog_3_method_2_code 4 = .ok (.aload_n 1, 1) := by decide +kernel
theorem d32_5 : decode prog_3_method_2_code 5 = .ok (.ldc 32, 2) := by decide +kernel
theorem d32_7 : decode prog_3_method_2_code 7 = .ok (.invokestatic 21, 3) := by decide +kernel
theorem d32_10 : decode prog_3_method_2_code 10 = .ok (.checkcast 27, 3) := by decide +kernel
theorem d32_13 : decode prog_3_method_2_code 13 = .ok (.invokeinterface 34 2, 5) := by decide +kernel
theorem d32_18 : decode prog_3_method_2_code 18 = .ok (.pop, 1) := by decide +kernel
theorem d32_19 : decode prog_3_method_2_code 19 = .ok (.aload_n 0, 1) := by decide +kernel
theorem d32_20 : decode prog_3_method_2_code 20 = .ok (.areturn, 1) := by decide +kernel
theorem pd_0 : parseMethodDescriptor "()V" = some ⟨[], none⟩ := by decide +kernel
theorem pd_1 : parseMethodDescriptor "(II)I" = some ⟨[.int, .int], some .int⟩ := by decide +kernel
theorem pd_2 : parseMethodDescriptor "(I)[Ljava/lang/Object;" = some ⟨[.int], some (.array (.object "java/lang/Object"))⟩ := by decide +kernel
theorem pd_3 : parseMethodDescriptor "()[Ljava/lang/Object;" = some ⟨[], some (.array (.object "java/lang/Object"))⟩ := by decide +kernel
theorem pd_4 : parseMethodDescriptor "(Ljava/lang/Object;[Ljava/lang/Object;I)V" = some ⟨[(.object "java/lang/Object"), (.array (.object "java/lang/Object")), .int], none⟩ := by decide +kernel
theorem pd_5 : parseMethodDescriptor "(IILjava/util/function/BiFunction;)I" = some ⟨[.int, .int, (.object "java/util/function/BiFunction")], some .int⟩ := by decide +kernel
theorem pd_6 : parseMethodDescriptor "(I)Ljava/lang/Object;" = some ⟨[.int], some (.object "java/lang/Object")⟩ := by decide +kernel
theorem pd_7 : parseMethodDescriptor "(Ljava/lang/Object;Ljava/lang/String;)Ljava/lang/Object;" = some ⟨[(.object "java/lang/Object"), (.object "java/lang/String")], some (.object "java/lang/Object")⟩ := by decide +kernel
theorem pd_8 : parseMethodDescriptor "(Ljava/lang/Object;)Z" = some ⟨[(.object "java/lang/Object")], some .boolean⟩ := by decide +kernel
theorem pd_9 : parseMethodDescriptor "(C)Z" = some ⟨[.char], some .boolean⟩ := by decide +kernel
theorem pd_10 : parseMethodDescriptor "(C)[B" = some ⟨[.char], some (.array .byte)⟩ := by decide +kernel
theorem pd_11 : parseMethodDescriptor "([BB)V" = some ⟨[(.array .byte), .byte], none⟩ := by decide +kernel
theorem pd_12 : parseMethodDescriptor "([C)V" = some ⟨[(.array .char)], none⟩ := by decide +kernel
theorem pd_13 : parseMethodDescriptor "(C)Ljava/lang/String;" = some ⟨[.char], some (.object "java/lang/String")⟩ := by decide +kernel
theorem pd_14 : parseMethodDescriptor "(I)Ljava/lang/String;" = some ⟨[.int], some (.object "java/lang/String")⟩ := by decide +kernel
theorem pd_15 : parseMethodDescriptor "(Ljava/lang/String;)V" = some ⟨[(.object "java/lang/String")], none⟩ := by decide +kernel
theorem pd_16 : parseMethodDescriptor "(Ljava/lang/String;)Lcom/example/kickstand/kickstand/CommandDecoration;" = some ⟨[(.object "java/lang/String")], some (.object "com/example/kickstand/kickstand/CommandDecoration")⟩ := by decide +kernel
theorem pd_17 : parseMethodDescriptor "()Ljava/util/List;" = some ⟨[], some (.object "java/util/List")⟩ := by decide +kernel
theorem pd_18 : parseMethodDescriptor "()I" = some ⟨[], some .int⟩ := by decide +kernel
theorem pd_19 : parseMethodDescriptor "()Ljava/lang/String;" = some ⟨[], some (.object "java/lang/String")⟩ := by decide +kernel
theorem pn_0 : plainName "java/util/AbstractCollection" = true := by first | (simp [plainName, overriddenIn]; done) | decide +kernel
theorem pn_1 : plainName "java/util/AbstractList" = true := by first | (simp [plainName, overriddenIn]; done) | decide +kernel
theorem pn_2 : plainName "java/util/ArrayList" = true := by first | (simp [plainName, overriddenIn]; done) | decide +kernel
theorem pn_3 : plainName "jdk/internal/util/Preconditions" = true := by first | (simp [plainName, overriddenIn]; done) | decide +kernel
theorem pn_4 : plainName "java/util/Objects" = true := by first | (simp [plainName, overriddenIn]; done) | decide +kernel
theorem pn_5 : plainName "com/example/kickstand/kickstand/CommandDecoration" = true := by first | (simp [plainName, overriddenIn]; done) | decide +kernel
theorem pn_6 : plainName "java/lang/String" = true := by first | (simp [plainName, overriddenIn]; done) | decide +kernel
theorem pn_7 : plainName "java/lang/StringLatin1" = true := by first | (simp [plainName, overriddenIn]; done) | decide +kernel
theorem pn_8 : plainName "com/example/kickstand/kickstand/CommandDecorationRunBesidePinLaw" = true := by first | (simp [plainName, overriddenIn]; done) | decide +kernel
theorem ef_bAC (m : MethodId) (a : Addr) : entryFrame m #[(.ref a)] 1 = mkF m 0 #[.val (.ref a)] [] := by first | (simp [entryFrame, mkF, argsToLocals, Value.category]; done) | rfl
theorem ef_bAbl (m : MethodId) (a : Addr) : entryFrame m #[(.ref a)] 1 = mkF m 0 #[.val (.ref a)] [] := by first | (simp [entryFrame, mkF, argsToLocals, Value.category]; done) | rfl
theorem ef_bAli (m : MethodId) (a : Addr) : entryFrame m #[(.ref a)] 1 = mkF m 0 #[.val (.ref a)] [] := by first | (simp [entryFrame, mkF, argsToLocals, Value.category]; done) | rfl
theorem ef_bMax (m : MethodId) (x : Int32) (y : Int32) : entryFrame m #[(.int x), (.int y)] 2 = mkF m 0 #[.val (.int x), .val (.int y)] [] := by first | (simp [entryFrame, mkF, argsToLocals, Value.category]; done) | rfl
theorem ef_bGr1 (m : MethodId) (l : Addr) (k : Int32) : entryFrame m #[(.ref l), (.int k)] 4 = mkF m 0 #[.val (.ref l), .val (.int k), .unset, .unset] [] := by first | (simp [entryFrame, mkF, argsToLocals, Value.category]; done) | rfl
theorem ef_bGr0 (m : MethodId) (l : Addr) : entryFrame m #[(.ref l)] 1 = mkF m 0 #[.val (.ref l)] [] := by first | (simp [entryFrame, mkF, argsToLocals, Value.category]; done) | rfl
theorem ef_bAd3_0 (m : MethodId) (l : Addr) (x : Addr) (dc : Addr) (k : Int32) : entryFrame m #[(.ref l), (.ref x), (.ref dc), (.int k)] 4 = mkF m 0 #[.val (.ref l), .val (.ref x), .val (.ref dc), .val (.int k)] [] := by first | (simp [entryFrame, mkF, argsToLocals, Value.category]; done) | rfl
theorem ef_bAd_0 (m : MethodId) (l : Addr) (x : Addr) : entryFrame m #[(.ref l), (.ref x)] 2 = mkF m 0 #[.val (.ref l), .val (.ref x)] [] := by first | (simp [entryFrame, mkF, argsToLocals, Value.category]; done) | rfl
theorem ef_bAd3_1 (m : MethodId) (l : Addr) (x : Addr) (e : Addr) (k : Int32) : entryFrame m #[(.ref l), (.ref x), (.ref e), (.int k)] 4 = mkF m 0 #[.val (.ref l), .val (.ref x), .val (.ref e), .val (.int k)] [] := by first | (simp [entryFrame, mkF, argsToLocals, Value.category]; done) | rfl
theorem ef_bAd_1 (m : MethodId) (l : Addr) (x : Addr) : entryFrame m #[(.ref l), (.ref x)] 2 = mkF m 0 #[.val (.ref l), .val (.ref x)] [] := by first | (simp [entryFrame, mkF, argsToLocals, Value.category]; done) | rfl
theorem ef_bPci (m : MethodId) (i : Int32) (n : Int32) : entryFrame m #[(.int i), (.int n), .null] 3 = mkF m 0 #[.val (.int i), .val (.int n), .val .null] [] := by first | (simp [entryFrame, mkF, argsToLocals, Value.category]; done) | rfl
theorem ef_bOci (m : MethodId) (i : Int32) (n : Int32) : entryFrame m #[(.int i), (.int n)] 2 = mkF m 0 #[.val (.int i), .val (.int n)] [] := by first | (simp [entryFrame, mkF, argsToLocals, Value.category]; done) | rfl
theorem ef_bEd (m : MethodId) (l : Addr) (i : Int32) : entryFrame m #[(.ref l), (.int i)] 2 = mkF m 0 #[.val (.ref l), .val (.int i)] [] := by first | (simp [entryFrame, mkF, argsToLocals, Value.category]; done) | rfl
theorem ef_bGet (m : MethodId) (l : Addr) (i : Int32) : entryFrame m #[(.ref l), (.int i)] 2 = mkF m 0 #[.val (.ref l), .val (.int i)] [] := by first | (simp [entryFrame, mkF, argsToLocals, Value.category]; done) | rfl
theorem ef_bSz (m : MethodId) (l : Addr) : entryFrame m #[(.ref l)] 1 = mkF m 0 #[.val (.ref l)] [] := by first | (simp [entryFrame, mkF, argsToLocals, Value.category]; done) | rfl
theorem ef_bRnn (m : MethodId) (a : Addr) (mg : Addr) : entryFrame m #[(.ref a), (.ref mg)] 2 = mkF m 0 #[.val (.ref a), .val (.ref mg)] [] := by first | (simp [entryFrame, mkF, argsToLocals, Value.category]; done) | rfl
theorem ef_bCd (m : MethodId) (d : Addr) (x : Addr) : entryFrame m #[(.ref d), (.ref x)] 2 = mkF m 0 #[.val (.ref d), .val (.ref x)] [] := by first | (simp [entryFrame, mkF, argsToLocals, Value.category]; done) | rfl
theorem ef_b_runBefore_0 (m : MethodId) (d : Addr) (x : Addr) : entryFrame m #[(.ref d), (.ref x)] 2 = mkF m 0 #[.val (.ref d), .val (.ref x)] [] := by first | (simp [entryFrame, mkF, argsToLocals, Value.category]; done) | rfl
theorem ef_b_runBeside_0 (m : MethodId) (d : Addr) (x : Addr) : entryFrame m #[(.ref d), (.ref x)] 2 = mkF m 0 #[.val (.ref d), .val (.ref x)] [] := by first | (simp [entryFrame, mkF, argsToLocals, Value.category]; done) | rfl
theorem ef_b_runBeside_1 (m : MethodId) (d : Addr) (x : Addr) : entryFrame m #[(.ref d), (.ref x)] 2 = mkF m 0 #[.val (.ref d), .val (.ref x)] [] := by first | (simp [entryFrame, mkF, argsToLocals, Value.category]; done) | rfl
theorem ef_b_get_before (m : MethodId) (a : Addr) : entryFrame m #[(.ref a)] 1 = mkF m 0 #[.val (.ref a)] [] := by first | (simp [entryFrame, mkF, argsToLocals, Value.category]; done) | rfl
theorem ef_b_get_beside (m : MethodId) (a : Addr) : entryFrame m #[(.ref a)] 1 = mkF m 0 #[.val (.ref a)] [] := by first | (simp [entryFrame, mkF, argsToLocals, Value.category]; done) | rfl
theorem ef_b_get_name (m : MethodId) (a : Addr) : entryFrame m #[(.ref a)] 1 = mkF m 0 #[.val (.ref a)] [] := by first | (simp [entryFrame, mkF, argsToLocals, Value.category]; done) | rfl
theorem ef_bNewBB (m : MethodId) (x : Addr) (b : Addr) (cd : Int32) : entryFrame m #[(.ref x), (.ref b), (.int cd)] 3 = mkF m 0 #[.val (.ref x), .val (.ref b), .val (.int cd)] [] := by first | (simp [entryFrame, mkF, argsToLocals, Value.category]; done) | rfl
theorem ef_bCanE (m : MethodId) (ch : Int32) : entryFrame m #[(.int ch)] 1 = mkF m 0 #[.val (.int ch)] [] := by first | (simp [entryFrame, mkF, argsToLocals, Value.category]; done) | rfl
theorem ef_bToB (m : MethodId) (ch : Int32) : entryFrame m #[(.int ch)] 1 = mkF m 0 #[.val (.int ch)] [] := by first | (simp [entryFrame, mkF, argsToLocals, Value.category]; done) | rfl
theorem ef_bValOf (m : MethodId) (ch : Int32) : entryFrame m #[(.int ch)] 1 = mkF m 0 #[.val (.int ch)] [] := by first | (simp [entryFrame, mkF, argsToLocals, Value.category]; done) | rfl
theorem ef_bSEq (m : MethodId) (a : Addr) : entryFrame m #[.ref a, .ref a] 3 = mkF m 0 #[.val (.ref a), .val (.ref a), .unset] [] := by first | (simp [entryFrame, mkF, argsToLocals, Value.category]; done) | rfl
theorem ef_bMk (m : MethodId) (i : Int32) : entryFrame m #[(.int i)] 4 = mkF m 0 #[.val (.int i), .unset, .unset, .unset] [] := by first | (simp [entryFrame, mkF, argsToLocals, Value.category]; done) | rfl
theorem ef_law (m : MethodId) (p0 : Int32) (p1 : Int32) (p2 : Int32) (p3 : Int32) : entryFrame m #[(.int p0), (.int p1), (.int p2), (.int p3)] maxLocals = mkF m 0 #[.val (.int p0), .val (.int p1), .val (.int p2), .val (.int p3), .unset, .unset, .unset, .unset, .unset, .unset, .unset, .unset, .unset, .unset, .unset, .unset, .unset] [] := by first | (simp [entryFrame, mkF, argsToLocals, Value.category, maxLocals]; done) | rfl
abbrev bAC : Own.Bo := (⟨"java/util/AbstractCollection", "<init>", "()V"⟩, jdk_22_method_1_code, 1, none, ({ frames := 1, cells := 0, slots := 0, locals := 12 } : Room))
abbrev bAbl : Own.Bo := (⟨"java/util/AbstractList", "<init>", "()V"⟩, jdk_39_method_1_code, 1, none, ({ frames := 2, cells := 0, slots := 0, locals := 25 } : Room))
abbrev bAli : Own.Bo := (⟨"java/util/ArrayList", "<init>", "()V"⟩, jdk_38_method_2_code, 1, none, ({ frames := 3, cells := 0, slots := 0, locals := 38 } : Room))
abbrev bMax : Own.Bo := (⟨"java/lang/Math", "max", "(II)I"⟩, jdk_29_method_65_code, 2, (some .int), ({ frames := 0, cells := 0, slots := 0, locals := 0 } : Room))
abbrev bGr1 : Own.Bo := (⟨"java/util/ArrayList", "grow", "(I)[Ljava/lang/Object;"⟩, jdk_38_method_6_code, 4, (some (.array (.object "java/lang/Object"))), ({ frames := 1, cells := 1, slots := 10, locals := 18 } : Room))
abbrev bGr0 : Own.Bo := (⟨"java/util/ArrayList", "grow", "()[Ljava/lang/Object;"⟩, jdk_38_method_7_code, 1, (some (.array (.object "java/lang/Object"))), ({ frames := 2, cells := 1, slots := 10, locals := 33 } : Room))
abbrev bAd3_0 : Own.Bo := (⟨"java/util/ArrayList", "add", "(Ljava/lang/Object;[Ljava/lang/Object;I)V"⟩, jdk_38_method_24_code, 4, none, ({ frames := 3, cells := 1, slots := 10, locals := 46 } : Room))
abbrev bAd_0 : Own.Bo := (⟨"java/util/ArrayList", "add", "(Ljava/lang/Object;)Z"⟩, jdk_38_method_25_code, 2, (some .boolean), ({ frames := 4, cells := 1, slots := 10, locals := 62 } : Room))
abbrev bAd3_1 : Own.Bo := (⟨"java/util/ArrayList", "add", "(Ljava/lang/Object;[Ljava/lang/Object;I)V"⟩, jdk_38_method_24_code, 4, none, ({ frames := 3, cells := 1, slots := 10, locals := 46 } : Room))
abbrev bAd_1 : Own.Bo := (⟨"java/util/ArrayList", "add", "(Ljava/lang/Object;)Z"⟩, jdk_38_method_25_code, 2, (some .boolean), ({ frames := 4, cells := 1, slots := 10, locals := 62 } : Room))
abbrev bPci : Own.Bo := (⟨"jdk/internal/util/Preconditions", "checkIndex", "(IILjava/util/function/BiFunction;)I"⟩, jdk_41_method_11_code, 3, (some .int), ({ frames := 0, cells := 0, slots := 0, locals := 0 } : Room))
abbrev bOci : Own.Bo := (⟨"java/util/Objects", "checkIndex", "(II)I"⟩, jdk_31_method_17_code, 2, (some .int), ({ frames := 1, cells := 0, slots := 0, locals := 14 } : Room))
abbrev bEd : Own.Bo := (⟨"java/util/ArrayList", "elementData", "(I)Ljava/lang/Object;"⟩, jdk_38_method_18_code, 2, (some (.object "java/lang/Object")), ({ frames := 0, cells := 0, slots := 0, locals := 0 } : Room))
abbrev bGet : Own.Bo := (⟨"java/util/ArrayList", "get", "(I)Ljava/lang/Object;"⟩, jdk_38_method_20_code, 2, (some (.object "java/lang/Object")), ({ frames := 2, cells := 0, slots := 0, locals := 30 } : Room))
abbrev bSz : Own.Bo := (⟨"java/util/ArrayList", "size", "()I"⟩, jdk_38_method_8_code, 1, (some .int), ({ frames := 0, cells := 0, slots := 0, locals := 0 } : Room))
abbrev bRnn : Own.Bo := (⟨"java/util/Objects", "requireNonNull", "(Ljava/lang/Object;Ljava/lang/String;)Ljava/lang/Object;"⟩, jdk_31_method_11_code, 2, (some (.object "java/lang/Object")), ({ frames := 0, cells := 0, slots := 0, locals := 0 } : Room))
abbrev bCd : Own.Bo := (⟨"com/example/kickstand/kickstand/CommandDecoration", "<init>", "(Ljava/lang/String;)V"⟩, prog_3_method_1_code, 2, none, ({ frames := 4, cells := 4, slots := 26, locals := 60 } : Room))
abbrev b_runBefore_0 : Own.Bo := (⟨"com/example/kickstand/kickstand/CommandDecoration", "runBefore", "(Ljava/lang/String;)Lcom/example/kickstand/kickstand/CommandDecoration;"⟩, prog_3_method_2_code, 2, (some (.object "com/example/kickstand/kickstand/CommandDecoration")), ({ frames := 5, cells := 3, slots := 42, locals := 80 } : Room))
abbrev b_runBeside_0 : Own.Bo := (⟨"com/example/kickstand/kickstand/CommandDecoration", "runBeside", "(Ljava/lang/String;)Lcom/example/kickstand/kickstand/CommandDecoration;"⟩, prog_3_method_3_code, 2, (some (.object "com/example/kickstand/kickstand/CommandDecoration")), ({ frames := 5, cells := 3, slots := 42, locals := 80 } : Room))
abbrev b_runBeside_1 : Own.Bo := (⟨"com/example/kickstand/kickstand/CommandDecoration", "runBeside", "(Ljava/lang/String;)Lcom/example/kickstand/kickstand/CommandDecoration;"⟩, prog_3_method_3_code, 2, (some (.object "com/example/kickstand/kickstand/CommandDecoration")), ({ frames := 5, cells := 3, slots := 42, locals := 80 } : Room))
abbrev b_get_before : Own.Bo := (⟨"com/example/kickstand/kickstand/CommandDecoration", "before", "()Ljava/util/List;"⟩, prog_3_method_5_code, 1, (some (.object "java/util/List")), ({ frames := 0, cells := 0, slots := 0, locals := 0 } : Room))
abbrev b_get_beside : Own.Bo := (⟨"com/example/kickstand/kickstand/CommandDecoration", "beside", "()Ljava/util/List;"⟩, prog_3_method_6_code, 1, (some (.object "java/util/List")), ({ frames := 0, cells := 0, slots := 0, locals := 0 } : Room))
abbrev b_get_name : Own.Bo := (⟨"com/example/kickstand/kickstand/CommandDecoration", "name", "()Ljava/lang/String;"⟩, prog_3_method_4_code, 1, (some (.object "java/lang/String")), ({ frames := 0, cells := 0, slots := 0, locals := 0 } : Room))
abbrev bNewBB : Own.Bo := (⟨"java/lang/String", "<init>", "([BB)V"⟩, jdk_42_method_151_code, 3, none, ({ frames := 1, cells := 0, slots := 0, locals := 12 } : Room))
abbrev bCanE : Own.Bo := (⟨"java/lang/StringLatin1", "canEncode", "(C)Z"⟩, jdk_43_method_3_code, 1, (some .boolean), ({ frames := 0, cells := 0, slots := 0, locals := 0 } : Room))
abbrev bToB : Own.Bo := (⟨"java/lang/StringLatin1", "toBytes", "(C)[B"⟩, jdk_43_method_46_code, 1, (some (.array .byte)), ({ frames := 0, cells := 1, slots := 1, locals := 0 } : Room))
abbrev bValOf : Own.Bo := (⟨"java/lang/String", "valueOf", "(C)Ljava/lang/String;"⟩, jdk_42_method_139_code, 1, (some (.object "java/lang/String")), ({ frames := 2, cells := 2, slots := 5, locals := 30 } : Room))
abbrev bSEq : Own.Bo := (⟨"java/lang/String", "equals", "(Ljava/lang/Object;)Z"⟩, jdk_42_method_66_code, 3, (some .boolean), ({ frames := 0, cells := 0, slots := 0, locals := 0 } : Room))
abbrev bMk : Own.Bo := (⟨"com/example/kickstand/kickstand/CommandDecorationRunBesidePinLaw", "mk", "(I)Ljava/lang/String;"⟩, method_2_code, 4, (some (.object "java/lang/String")), ({ frames := 4, cells := 6, slots := 16, locals := 68 } : Room))
abbrev bLaw : Own.Bo := (x, code, maxLocals, ret, room_1)
set_option maxRecDepth 65536 in
set_option maxHeartbeats 40000000 in
theorem con_ac {G : Own.Gl} (hw : ∀ d ∈ tables_1, d.before G.a0 G.Z = true) (hEL : EW G.Z G.a0 G.EL) (a : Addr) {h : Heap} (hO : Old G.Z G.n0 h) :
    Own.Con G [] bAC #[.ref a] h [] (fun v h' => v = none ∧ h' = h) := by
  refine Own.Con.intro (plainFor_of_name pn_0) hO hEL _ (fun m => ef_bAC m a) ?_
  intro X T0 W0 sf
  refine Own.aloadN W0 d15_0 1 rfl (.ref a) rfl rfl ?_
  refine Own.initO W0 (tw hw 76 rfl) (tw hw 16 rfl) (tw hw 17 rfl) rfl d15_1 4 rfl (by decide) (by decide) ?_
  intro T1 W1
  exact Own.retV W1 (by decide) (by decide) rfl d15_4 ⟨rfl, rfl⟩
set_option maxRecDepth 65536 in
set_option maxHeartbeats 40000000 in
theorem con_abl {G : Own.Gl} (hw : ∀ d ∈ tables_1, d.before G.a0 G.Z = true) (hEL : EW G.Z G.a0 G.EL) {a : Addr} {h : Heap} (hO : Old G.Z G.n0 h) (hn_a : G.n0 ≤ a) (E : Exa G.Z h a "java/util/ArrayList") {um us ue : Value} (Fm : Fld G.Z h a "java/util/AbstractList" "modCount" "I" um) (Fs : Fld G.Z h a "java/util/ArrayList" "size" "I" us) (Fe : Fld G.Z h a "java/util/ArrayList" "elementData" "[Ljava/lang/Object;" ue) :
    Own.Con G [] bAbl #[.ref a] h [] (fun v h' => v = none ∧ Keep h h' [a] ∧ Exa G.Z h' a "java/util/ArrayList" ∧ Fld G.Z h' a "java/util/AbstractList" "modCount" "I" (.int 0) ∧ Fld G.Z h' a "java/util/ArrayList" "size" "I" us ∧ Fld G.Z h' a "java/util/ArrayList" "elementData" "[Ljava/lang/Object;" ue) := by
  refine Own.Con.intro (plainFor_of_name pn_1) hO hEL _ (fun m => ef_bAbl m a) ?_
  intro X T0 W0 sf
  refine Own.aloadN W0 d14_0 1 rfl (.ref a) rfl rfl ?_
  refine Own.callX W0 rfl (tw hw 70 rfl) (tw hw 71 rfl) (tw hw 75 rfl) (by decide) (argsL := []) (rest := []) (Own.Con.pay (con_ac hw hEL a W0.old) W0 (tw hw 75 rfl) (tw hw 74 rfl) (len := 3) (wd := 0) (by decide) (by decide) (fun _ q => nomatch q)) rfl (lenOf pd_0 rfl) rfl (Nat.le_of_ble_eq_true rfl) d14_1 4 rfl 0 0 (Nat.le_of_ble_eq_true rfl) (Nat.le_of_ble_eq_true rfl) (Nat.le_of_ble_eq_true rfl) (Nat.le_of_ble_eq_true rfl) ?_
  intro v1 T1 h1 u1 W1 R1 hq
  obtain ⟨rfl, eh1⟩ := hq
  have ei1 := eh1.symm; subst ei1
  show Own.Go _ _ _ _ _ 4 #[.val (.ref a)] []
  refine Own.aloadN W1 d14_4 5 rfl (.ref a) rfl rfl ?_
  refine Own.iconst W1 d14_5 6 rfl (0 : Int32) rfl ?_
  refine Own.putF W1 (tw hw 77 rfl) Via.refl Fm E (Or.inl (tw hw 78 rfl)) (tw hw 59 rfl) (ty := .int) (v' := (.int (0 : Int32))) (by decide) rfl rfl hn_a (Safe.exa W1.wz.alike E (by decide) (by decide)) d14_6 9 rfl ?_
  intro T2 h2 W2 Q2 k2
  have F2_modCount := Fld.same Q2 Fm
  exact Own.retV W2 (by decide) (by decide) rfl d14_9 ⟨rfl, (Keep.wr (Keep.refl h [a]) Q2 (Or.inl (by simp))), (E.wr Q2), F2_modCount, (Fs.other Q2 (Or.inr (slot_ne (Or.inl (tw hw 112 rfl)) (Or.inl (tw hw 78 rfl)) (by decide) (t := .int) (t' := .int) (by decide) (by decide)))), (Fe.other Q2 (Or.inr (slot_ne (Or.inl (tw hw 81 rfl)) (Or.inl (tw hw 78 rfl)) (by decide) (t := (.array (.object "java/lang/Object"))) (t' := .int) (by decide) (by decide))))⟩
set_option maxRecDepth 65536 in
set_option maxHeartbeats 40000000 in
theorem con_ali {G : Own.Gl} (hw : ∀ d ∈ tables_1, d.before G.a0 G.Z = true) (hEL : EW G.Z G.a0 G.EL) {dc : Addr} {kD : ClassId} (DS : Sta G.Z G.Z.heap "java/util/ArrayList" "DEFAULTCAPACITY_EMPTY_ELEMENTDATA" "[Ljava/lang/Object;" (.ref dc)) (DA : Arv G.Z G.Z.heap dc kD (.object "java/lang/Object") 0 [] .null) {a : Addr} {h : Heap} (hO : Old G.Z G.n0 h) (hn_a : G.n0 ≤ a) (E : Exa G.Z h a "java/util/ArrayList") {um ue : Value} (Fm : Fld G.Z h a "java/util/AbstractList" "modCount" "I" um) (Fs : Fld G.Z h a "java/util/ArrayList" "size" "I" (.int 0)) (Fe : Fld G.Z h a "java/util/ArrayList" "elementData" "[Ljava/lang/Object;" ue) :
    Own.Con G [] bAli #[.ref a] h [] (fun v h' => v = none ∧ Keep h h' [a] ∧ Own.AL G.Z h' a 0 dc) := by
  refine Own.Con.intro (plainFor_of_name pn_2) hO hEL _ (fun m => ef_bAli m a) ?_
  intro X T0 W0 sf
  refine Own.aloadN W0 d13_0 1 rfl (.ref a) rfl rfl ?_
  refine Own.callX W0 rfl (tw hw 64 rfl) (tw hw 65 rfl) (tw hw 69 rfl) (by decide) (argsL := []) (rest := []) (Own.Con.pay (con_abl hw hEL W0.old hn_a E Fm Fs Fe) W0 (tw hw 69 rfl) (tw hw 68 rfl) (len := 3) (wd := 0) (by decide) (by decide) (fun _ q => nomatch q)) rfl (lenOf pd_0 rfl) rfl (Nat.le_of_ble_eq_true rfl) d13_1 4 rfl 0 0 (Nat.le_of_ble_eq_true rfl) (Nat.le_of_ble_eq_true rfl) (Nat.le_of_ble_eq_true rfl) (Nat.le_of_ble_eq_true rfl) ?_
  intro v1 T1 h1 u1 W1 R1 hq
  obtain ⟨rfl, K1, E1, Fm1, Fs1, Fe1⟩ := hq
  show Own.Go _ _ _ _ _ 4 #[.val (.ref a)] []
  refine Own.aloadN W1 d13_4 5 rfl (.ref a) rfl rfl ?_
  refine Own.getS W1 (tw hw 79 rfl) Via.refl (W1.sta DS) d13_5 8 rfl ?_
  intro T2 W2
  refine Own.putF W2 (tw hw 80 rfl) Via.refl Fe1 E1 (Or.inl (tw hw 81 rfl)) (tw hw 59 rfl) (ty := (.array (.object "java/lang/Object"))) (v' := (.ref dc)) (by decide) rfl rfl hn_a (Safe.exa W2.wz.alike E1 (by decide) (by decide)) d13_8 11 rfl ?_
  intro T3 h3 W3 Q3 k3
  have F3_elementData := Fld.same Q3 Fe1
  exact Own.retV W3 (by decide) (by decide) rfl d13_11 ⟨rfl, (Keep.wr (Keep.trans (Keep.refl h [a]) K1 (by intro y hy; simp only [List.mem_cons, List.not_mem_nil, or_false] at hy; rcases hy with rfl; exact (Or.inl (by simp)))) Q3 (Or.inl (by simp))), ⟨(E1.wr Q3), ⟨_, (Fm1.other Q3 (Or.inr (slot_ne (Or.inl (tw hw 78 rfl)) (Or.inl (tw hw 81 rfl)) (by decide) (t := .int) (t' := (.array (.object "java/lang/Object"))) (by decide) (by decide))))⟩, (Fs1.other Q3 (Or.inr (slot_ne (Or.inl (tw hw 112 rfl)) (Or.inl (tw hw 81 rfl)) (by decide) (t := .int) (t' := (.array (.object "java/lang/Object"))) (by decide) (by decide)))), F3_elementData⟩⟩
set_option maxRecDepth 65536 in
set_option maxHeartbeats 40000000 in
theorem con_max {G : Own.Gl} (hw : ∀ d ∈ tables_1, d.before G.a0 G.Z = true) (hEL : EW G.Z G.a0 G.EL) (x y : Int32) (hxy : ¬ x < y) {h : Heap} (hO : Old G.Z G.n0 h) :
    Own.Con G [] bMax #[.int x, .int y] h [] (fun v h' => v = some (.int x) ∧ h' = h) := by
  refine Own.Con.intro (by decide +kernel) hO hEL _ (fun m => ef_bMax m x y) ?_
  intro X T0 W0 sf
  refine Own.iloadN W0 d22_0 1 rfl x rfl ?_
  refine Own.iloadN W0 d22_1 2 rfl y rfl ?_
  refine Own.icmpNo W0 d22_2 5 (XT.ii_lt_f hxy) rfl ?_
  refine Own.iloadN W0 d22_5 6 rfl x rfl ?_
  refine Own.goto W0 d22_6 10 (by decide) (by decide) ?_
  exact Own.retI W0 (by decide) (by decide) rfl d22_10 ⟨rfl, rfl⟩
set_option maxRecDepth 65536 in
set_option maxHeartbeats 40000000 in
theorem con_gr1 {G : Own.Gl} (hw : ∀ d ∈ tables_1, d.before G.a0 G.Z = true) (hEL : EW G.Z G.a0 G.EL) {dc : Addr} {kD : ClassId} (DS : Sta G.Z G.Z.heap "java/util/ArrayList" "DEFAULTCAPACITY_EMPTY_ELEMENTDATA" "[Ljava/lang/Object;" (.ref dc)) (DA : Arv G.Z G.Z.heap dc kD (.object "java/lang/Object") 0 [] .null) {k : Int32} (hk : k = 1) {l : Addr} {h : Heap} (hO : Old G.Z G.n0 h) (hn_l : G.n0 ≤ l) (F : Own.AL G.Z h l 0 dc) :
    Own.Con G [] bGr1 #[.ref l, .int k] h [] (fun v h' => ∃ (e : Addr) (kA : ClassId), v = some (.ref e) ∧ Keep h h' [l] ∧ h.size ≤ e ∧ Own.AL G.Z h' l 0 e ∧ Arv G.Z h' e kA (.object "java/lang/Object") 10 [.null, .null, .null, .null, .null, .null, .null, .null, .null, .null] .null ∧ Ovr G.Z kA "java/lang/Object") := by
  refine Own.Con.intro (plainFor_of_name pn_2) hO hEL _ (fun m => ef_bGr1 m l k) ?_
  intro X T0 W0 sf
  subst hk
  obtain ⟨E, ⟨m, Fm⟩, Fs, Fe⟩ := F
  have DA' := DA.ext W0.old.2
  refine Own.aloadN W0 d21_0 1 rfl (.ref l) rfl rfl ?_
  refine Own.getF W0 (tw hw 80 rfl) Via.refl Fe d21_1 4 rfl ?_
  intro T1 W1
  refine Own.arrlen W1 DA' d21_4 5 rfl ?_
  refine Own.istoreN W1 d21_5 6 rfl #[.val (.ref l), .val (.int (1 : Int32)), .val (.int (0 : Int32)), .unset] rfl ?_
  refine Own.iloadN W1 d21_6 7 rfl (0 : Int32) rfl ?_
  refine Own.ifNo W1 d21_7 10 (by decide) rfl ?_
  refine Own.aloadN W1 d21_10 11 rfl (.ref l) rfl rfl ?_
  refine Own.getF W1 (tw hw 80 rfl) Via.refl Fe d21_11 14 rfl ?_
  intro T2 W2
  refine Own.getS W2 (tw hw 79 rfl) Via.refl (W2.sta DS) d21_14 17 rfl ?_
  intro T3 W3
  refine Own.acmp W3 d21_17 45 rfl rfl true (decide_eq_true rfl) (by decide) rfl ?_
  refine Own.aloadN W3 d21_45 46 rfl (.ref l) rfl rfl ?_
  refine Own.bipush W3 d21_46 48 rfl (10 : Int32) rfl ?_
  refine Own.iloadN W3 d21_48 49 rfl (1 : Int32) rfl ?_
  refine Own.callS W3 (tw hw 128 rfl) (tw hw 129 rfl) (tw hw 130 rfl) (tw hw 131 rfl) (by decide) (argsL := [(.int (10 : Int32)), (.int (1 : Int32))]) (rest := [(.ref l)]) (Own.Con.pay (con_max hw hEL (10 : Int32) (1 : Int32) (by decide) W3.old) W3 (tw hw 131 rfl) (tw hw 130 rfl) (len := 3) (wd := 1) (by decide) (by decide) (fun _ q => nomatch q)) rfl (lenOf pd_1 rfl) rfl (Nat.le_of_ble_eq_true rfl) d21_49 52 rfl 0 0 (Nat.le_of_ble_eq_true rfl) (Nat.le_of_ble_eq_true rfl) (Nat.le_of_ble_eq_true rfl) (Nat.le_of_ble_eq_true rfl) ?_
  intro v4 T4 h4 u4 W4 R4 hq
  obtain ⟨rfl, eh4⟩ := hq
  have ei4 := eh4.symm; subst ei4
  show Own.Go _ _ _ _ _ 52 #[.val (.ref l), .val (.int (1 : Int32)), .val (.int (0 : Int32)), .unset] [(.int (10 : Int32)), (.ref l)]
  refine Own.newR W4 (tw hw 132 rfl) (tw hw 133 rfl) rfl d21_52 55 rfl (by decide) 10 (by decide) (by decide) 1 10 (by decide) (by decide) (by decide) (by decide) ?_
  intro T5 h5 o5 c5 g5 W5 E5 A5 X5 O5 s5 k5
  have V5 : Arv G.Z h5 o5 c5 (.object "java/lang/Object") (10 : Int32) [.null, .null, .null, .null, .null, .null, .null, .null, .null, .null] .null := A5
  refine Own.dupX1 W5 d21_55 56 rfl rfl rfl ?_
  have X7 : Ext h h5 := E5
  refine Own.putF W5 (tw hw 80 rfl) Via.refl (Fe.ext X7) (E.ext X7) (Or.inl (tw hw 81 rfl)) (tw hw 59 rfl) (ty := (.array (.object "java/lang/Object"))) (v' := (.ref o5)) (by decide) rfl rfl hn_l (Safe.exa W5.wz.alike (E.ext X7) (by decide) (by decide)) d21_56 59 rfl ?_
  intro T6 h6 W6 Q6 k6
  have F6_elementData := Fld.same Q6 (Fe.ext X7)
  exact Own.retA W6 (by decide) (by decide) rfl rfl rfl d21_59 ⟨o5, c5, rfl, (Keep.wr (Keep.ext (Keep.refl h [l]) E5) Q6 (Or.inl (by simp))), (Nat.le_of_eq g5.symm), ⟨((E.ext E5).wr Q6), ⟨_, ((Fm.ext E5).other Q6 (Or.inr (slot_ne (Or.inl (tw hw 78 rfl)) (Or.inl (tw hw 81 rfl)) (by decide) (t := .int) (t' := (.array (.object "java/lang/Object"))) (by decide) (by decide))))⟩, ((Fs.ext E5).other Q6 (Or.inr (slot_ne (Or.inl (tw hw 112 rfl)) (Or.inl (tw hw 81 rfl)) (by decide) (t := .int) (t' := (.array (.object "java/lang/Object"))) (by decide) (by decide)))), F6_elementData⟩, (V5.other Q6 (Ne.symm (Nat.ne_of_lt (Nat.lt_of_lt_of_le E.lt (Nat.le_of_eq g5.symm))))), O5⟩
set_option maxRecDepth 65536 in
set_option maxHeartbeats 40000000 in
theorem con_gr0 {G : Own.Gl} (hw : ∀ d ∈ tables_1, d.before G.a0 G.Z = true) (hEL : EW G.Z G.a0 G.EL) {dc : Addr} {kD : ClassId} (DS : Sta G.Z G.Z.heap "java/util/ArrayList" "DEFAULTCAPACITY_EMPTY_ELEMENTDATA" "[Ljava/lang/Object;" (.ref dc)) (DA : Arv G.Z G.Z.heap dc kD (.object "java/lang/Object") 0 [] .null) {l : Addr} {h : Heap} (hO : Old G.Z G.n0 h) (hn_l : G.n0 ≤ l) (F : Own.AL G.Z h l 0 dc) :
    Own.Con G [] bGr0 #[.ref l] h [] (fun v h' => ∃ (e : Addr) (kA : ClassId), v = some (.ref e) ∧ Keep h h' [l] ∧ h.size ≤ e ∧ Own.AL G.Z h' l 0 e ∧ Arv G.Z h' e kA (.object "java/lang/Object") 10 [.null, .null, .null, .null, .null, .null, .null, .null, .null, .null] .null ∧ Ovr G.Z kA "java/lang/Object") := by
  refine Own.Con.intro (plainFor_of_name pn_2) hO hEL _ (fun m => ef_bGr0 m l) ?_
  intro X T0 W0 sf
  obtain ⟨E, ⟨m, Fm⟩, Fs, Fe⟩ := id F
  refine Own.aloadN W0 d20_0 1 rfl (.ref l) rfl rfl ?_
  refine Own.aloadN W0 d20_1 2 rfl (.ref l) rfl rfl ?_
  refine Own.getF W0 (tw hw 111 rfl) Via.refl Fs d20_2 5 rfl ?_
  intro T1 W1
  refine Own.iconst W1 d20_5 6 rfl (1 : Int32) rfl ?_
  refine Own.iadd W1 d20_6 7 rfl ?_
  refine Own.callP W1 (tw hw 123 rfl) (tw hw 124 rfl) (tw hw 126 rfl) (tw hw 125 rfl) (tw hw 127 rfl) (by decide) (argsL := [(.int (1 : Int32))]) (rest := []) (Own.Con.pay (con_gr1 hw hEL DS DA (by decide) W1.old hn_l F) W1 (tw hw 127 rfl) (tw hw 60 rfl) (len := 3) (wd := 0) (by decide) (by decide) (fun _ q => nomatch q)) E rfl (lenOf pd_2 rfl) rfl (Nat.le_of_ble_eq_true rfl) d20_7 10 rfl 1 10 (Nat.le_of_ble_eq_true rfl) (Nat.le_of_ble_eq_true rfl) (Nat.le_of_ble_eq_true rfl) (Nat.le_of_ble_eq_true rfl) ?_
  intro v2 T2 h2 u2 W2 R2 hq
  obtain ⟨e2, c2, rfl, K2, g2, L2, A2, O2⟩ := hq
  show Own.Go _ _ _ _ _ 10 #[.val (.ref l)] [(.ref e2)]
  exact Own.retA W2 (by decide) (by decide) rfl rfl rfl d20_10 ⟨e2, _, rfl, K2, g2, L2, A2, O2⟩
set_option maxRecDepth 65536 in
set_option maxHeartbeats 40000000 in
theorem con_ad3_0 {G : Own.Gl} (hw : ∀ d ∈ tables_1, d.before G.a0 G.Z = true) (hEL : EW G.Z G.a0 G.EL) {dc : Addr} {kD : ClassId} (DS : Sta G.Z G.Z.heap "java/util/ArrayList" "DEFAULTCAPACITY_EMPTY_ELEMENTDATA" "[Ljava/lang/Object;" (.ref dc)) (DA : Arv G.Z G.Z.heap dc kD (.object "java/lang/Object") 0 [] .null) {k : Int32} (hk : k = 0) {l : Addr} {h : Heap} (hO : Old G.Z G.n0 h) (hn_l : G.n0 ≤ l) (F : Own.AL G.Z h l 0 dc) {x : Addr} (Ex : Exa G.Z h x "java/lang/String") :
    Own.Con G [] bAd3_0 #[.ref l, .ref x, .ref dc, .int k] h [] (fun v h' => v = none ∧ ∃ (e : Addr) (kA : ClassId), Keep h h' [l] ∧ h.size ≤ e ∧ Own.AL G.Z h' l 1 e ∧ Arv G.Z h' e kA (.object "java/lang/Object") 10 [.ref x, .null, .null, .null, .null, .null, .null, .null, .null, .null] .null ∧ Ovr G.Z kA "java/lang/Object") := by
  refine Own.Con.intro (plainFor_of_name pn_2) hO hEL _ (fun m => ef_bAd3_0 m l x dc k) ?_
  intro X T0 W0 sf
  subst hk
  obtain ⟨E, ⟨m, Fm⟩, Fs, Fe⟩ := id F
  have DA' := DA.ext W0.old.2
  refine Own.iloadN W0 d19_0 1 rfl (0 : Int32) rfl ?_
  refine Own.aloadN W0 d19_1 2 rfl (.ref dc) rfl rfl ?_
  refine Own.arrlen W0 DA' d19_2 3 rfl ?_
  refine Own.icmpNo W0 d19_3 6 (by decide) rfl ?_
  refine Own.aloadN W0 d19_6 7 rfl (.ref l) rfl rfl ?_
  refine Own.callP W0 (tw hw 118 rfl) (tw hw 119 rfl) (tw hw 121 rfl) (tw hw 120 rfl) (tw hw 122 rfl) (by decide) (argsL := []) (rest := []) (Own.Con.pay (con_gr0 hw hEL DS DA W0.old hn_l F) W0 (tw hw 122 rfl) (tw hw 60 rfl) (len := 3) (wd := 0) (by decide) (by decide) (fun _ q => nomatch q)) E rfl (lenOf pd_3 rfl) rfl (Nat.le_of_ble_eq_true rfl) d19_7 10 rfl 1 10 (Nat.le_of_ble_eq_true rfl) (Nat.le_of_ble_eq_true rfl) (Nat.le_of_ble_eq_true rfl) (Nat.le_of_ble_eq_true rfl) ?_
  intro v1 T1 h1 u1 W1 R1 hq
  obtain ⟨e1, c1, rfl, K1, g1, L1, A1, O1⟩ := hq
  show Own.Go _ _ _ _ _ 10 #[.val (.ref l), .val (.ref x), .val (.ref dc), .val (.int (0 : Int32))] [(.ref e1)]
  obtain ⟨Ea, ⟨m', Fma⟩, Fsa, Fea⟩ := L1
  refine Own.astoreN W1 d19_10 11 rfl rfl #[.val (.ref l), .val (.ref x), .val (.ref e1), .val (.int (0 : Int32))] rfl ?_
  refine Own.aloadN W1 d19_11 12 rfl (.ref e1) rfl rfl ?_
  refine Own.iloadN W1 d19_12 13 rfl (0 : Int32) rfl ?_
  refine Own.aloadN W1 d19_13 14 rfl (.ref x) rfl rfl ?_
  refine Own.aastore W1 A1 O1 (Ins.of_exa (Ex.keep K1) (tw hw 134 rfl)) 0 (by decide) (by decide) (Nat.le_of_ble_eq_true rfl) (Nat.le_trans W0.n0 g1) d19_14 15 rfl ?_
  intro T2 h2 W2 Q2 A2 k2
  have V2 : Arv G.Z h2 e1 c1 (.object "java/lang/Object") (10 : Int32) [(.ref x), .null, .null, .null, .null, .null, .null, .null, .null, .null] .null := A2
  refine Own.aloadN W2 d19_15 16 rfl (.ref l) rfl rfl ?_
  refine Own.iloadN W2 d19_16 17 rfl (0 : Int32) rfl ?_
  refine Own.iconst W2 d19_17 18 rfl (1 : Int32) rfl ?_
  refine Own.iadd W2 d19_18 19 rfl ?_
  refine Own.putF W2 (tw hw 111 rfl) Via.refl (Fsa.other Q2 (Or.inl (Nat.ne_of_lt (Nat.lt_of_lt_of_le E.lt g1)))) (Ea.wr Q2) (Or.inl (tw hw 112 rfl)) (tw hw 59 rfl) (ty := .int) (v' := (.int (1 : Int32))) (by decide) rfl rfl hn_l (Safe.exa W2.wz.alike (Ea.wr Q2) (by decide) (by decide)) d19_19 22 rfl ?_
  intro T3 h3 W3 Q3 k3
  have F3_size := Fld.same Q3 (Fsa.other Q2 (Or.inl (Nat.ne_of_lt (Nat.lt_of_lt_of_le E.lt g1))))
  exact Own.retV W3 (by decide) (by decide) rfl d19_22 ⟨rfl, e1, _, (Keep.wr (Keep.wr (Keep.trans (Keep.refl h [l]) K1 (by intro y hy; simp only [List.mem_cons, List.not_mem_nil, or_false] at hy; rcases hy with rfl; exact (Or.inl (by simp)))) Q2 (Or.inr g1)) Q3 (Or.inl (by simp))), g1, ⟨((Ea.wr Q2).wr Q3), ⟨_, ((Fma.other Q2 (Or.inl (Nat.ne_of_lt (Nat.lt_of_lt_of_le E.lt g1)))).other Q3 (Or.inr (slot_ne (Or.inl (tw hw 78 rfl)) (Or.inl (tw hw 112 rfl)) (by decide) (t := .int) (t' := .int) (by decide) (by decide))))⟩, F3_size, ((Fea.other Q2 (Or.inl (Nat.ne_of_lt (Nat.lt_of_lt_of_le E.lt g1)))).other Q3 (Or.inr (slot_ne (Or.inl (tw hw 81 rfl)) (Or.inl (tw hw 112 rfl)) (by decide) (t := (.array (.object "java/lang/Object"))) (t' := .int) (by decide) (by decide))))⟩, (V2.other Q3 (Ne.symm (Nat.ne_of_lt (Nat.lt_of_lt_of_le E.lt g1)))), O1⟩
set_option maxRecDepth 65536 in
set_option maxHeartbeats 40000000 in
theorem con_ad_0 {G : Own.Gl} (hw : ∀ d ∈ tables_1, d.before G.a0 G.Z = true) (hEL : EW G.Z G.a0 G.EL) {dc : Addr} {kD : ClassId} (DS : Sta G.Z G.Z.heap "java/util/ArrayList" "DEFAULTCAPACITY_EMPTY_ELEMENTDATA" "[Ljava/lang/Object;" (.ref dc)) (DA : Arv G.Z G.Z.heap dc kD (.object "java/lang/Object") 0 [] .null) {l : Addr} {h : Heap} (hO : Old G.Z G.n0 h) (hn_l : G.n0 ≤ l) (F : Own.AL G.Z h l 0 dc) {x : Addr} (Ex : Exa G.Z h x "java/lang/String") :
    Own.Con G [] bAd_0 #[.ref l, .ref x] h [] (fun v h' => v = some (.int 1) ∧ ∃ (e : Addr) (kA : ClassId), Keep h h' [l] ∧ h.size ≤ e ∧ Own.AL G.Z h' l 1 e ∧ Arv G.Z h' e kA (.object "java/lang/Object") 10 [.ref x, .null, .null, .null, .null, .null, .null, .null, .null, .null] .null ∧ Ovr G.Z kA "java/lang/Object") := by
  refine Own.Con.intro (plainFor_of_name pn_2) hO hEL _ (fun m => ef_bAd_0 m l x) ?_
  intro X T0 W0 sf
  obtain ⟨E, ⟨m, Fm⟩, Fs, Fe⟩ := F
  refine Own.aloadN W0 d18_0 1 rfl (.ref l) rfl rfl ?_
  refine Own.dup W0 d18_1 2 rfl rfl ?_
  refine Own.getF W0 (tw hw 109 rfl) (Via.of (tw hw 110 rfl)) Fm d18_2 5 rfl ?_
  intro T1 W1
  refine Own.iconst W1 d18_5 6 rfl (1 : Int32) rfl ?_
  refine Own.iadd W1 d18_6 7 rfl ?_
  refine Own.putF W1 (tw hw 109 rfl) (Via.of (tw hw 110 rfl)) Fm E (Or.inl (tw hw 78 rfl)) (tw hw 59 rfl) (ty := .int) (v' := (.int (m + (1 : Int32)))) (by decide) rfl rfl hn_l (Safe.exa W1.wz.alike E (by decide) (by decide)) d18_7 10 rfl ?_
  intro T2 h2 W2 Q2 k2
  have F2_modCount := Fld.same Q2 Fm
  refine Own.aloadN W2 d18_10 11 rfl (.ref l) rfl rfl ?_
  refine Own.aloadN W2 d18_11 12 rfl (.ref x) rfl rfl ?_
  refine Own.aloadN W2 d18_12 13 rfl (.ref l) rfl rfl ?_
  refine Own.getF W2 (tw hw 80 rfl) Via.refl (Fe.other Q2 (Or.inr (slot_ne (Or.inl (tw hw 81 rfl)) (Or.inl (tw hw 78 rfl)) (by decide) (t := (.array (.object "java/lang/Object"))) (t' := .int) (by decide) (by decide)))) d18_13 16 rfl ?_
  intro T3 W3
  refine Own.aloadN W3 d18_16 17 rfl (.ref l) rfl rfl ?_
  refine Own.getF W3 (tw hw 111 rfl) Via.refl (Fs.other Q2 (Or.inr (slot_ne (Or.inl (tw hw 112 rfl)) (Or.inl (tw hw 78 rfl)) (by decide) (t := .int) (t' := .int) (by decide) (by decide)))) d18_17 20 rfl ?_
  intro T4 W4
  refine Own.callP W4 (tw hw 113 rfl) (tw hw 114 rfl) (tw hw 116 rfl) (tw hw 115 rfl) (tw hw 117 rfl) (by decide) (argsL := [(.ref x), (.ref dc), (.int (0 : Int32))]) (rest := []) (Own.Con.pay (con_ad3_0 hw hEL DS DA (by decide) W4.old hn_l ⟨(E.wr Q2), ⟨_, F2_modCount⟩, (Fs.other Q2 (Or.inr (slot_ne (Or.inl (tw hw 112 rfl)) (Or.inl (tw hw 78 rfl)) (by decide) (t := .int) (t' := .int) (by decide) (by decide)))), (Fe.other Q2 (Or.inr (slot_ne (Or.inl (tw hw 81 rfl)) (Or.inl (tw hw 78 rfl)) (by decide) (t := (.array (.object "java/lang/Object"))) (t' := .int) (by decide) (by decide))))⟩ (Ex.wr Q2)) W4 (tw hw 117 rfl) (tw hw 60 rfl) (len := 3) (wd := 0) (by decide) (by decide) (fun _ q => nomatch q)) (E.wr Q2) rfl (lenOf pd_4 rfl) rfl (Nat.le_of_ble_eq_true rfl) d18_20 23 rfl 1 10 (Nat.le_of_ble_eq_true rfl) (Nat.le_of_ble_eq_true rfl) (Nat.le_of_ble_eq_true rfl) (Nat.le_of_ble_eq_true rfl) ?_
  intro v5 T5 h5 u5 W5 R5 hq
  obtain ⟨rfl, e5, c5, K5, g5, L5, A5, O5⟩ := hq
  show Own.Go _ _ _ _ _ 23 #[.val (.ref l), .val (.ref x)] []
  refine Own.iconst W5 d18_23 24 rfl (1 : Int32) rfl ?_
  exact Own.retB W5 (by decide) (by decide) rfl d18_24 rfl ⟨rfl, e5, _, (Keep.trans (Keep.wr (Keep.refl h [l]) Q2 (Or.inl (by simp))) K5 (by intro y hy; simp only [List.mem_cons, List.not_mem_nil, or_false] at hy; rcases hy with rfl; exact (Or.inl (by simp)))), (Nat.le_trans (Keep.wr (Keep.refl h [l]) Q2 (Or.inl (by simp))).1 g5), L5, A5, O5⟩
set_option maxRecDepth 65536 in
set_option maxHeartbeats 40000000 in
theorem con_ad3_1 {G : Own.Gl} (hw : ∀ d ∈ tables_1, d.before G.a0 G.Z = true) (hEL : EW G.Z G.a0 G.EL) {dc : Addr} {kD : ClassId} (DS : Sta G.Z G.Z.heap "java/util/ArrayList" "DEFAULTCAPACITY_EMPTY_ELEMENTDATA" "[Ljava/lang/Object;" (.ref dc)) (DA : Arv G.Z G.Z.heap dc kD (.object "java/lang/Object") 0 [] .null) {k : Int32} (hk : k = 1) {l e : Addr} {kA : ClassId} {x0 : Addr} {h : Heap} (hO : Old G.Z G.n0 h) (hn_l : G.n0 ≤ l) (hn_e : G.n0 ≤ e) (hle : l ≠ e) (F : Own.AL G.Z h l 1 e) (A : Arv G.Z h e kA (.object "java/lang/Object") 10 [.ref x0, .null, .null, .null, .null, .null, .null, .null, .null, .null] .null) (O : Ovr G.Z kA "java/lang/Object") {x : Addr} (Ex : Exa G.Z h x "java/lang/String") :
    Own.Con G [] bAd3_1 #[.ref l, .ref x, .ref e, .int k] h [] (fun v h' => v = none ∧ Keep h h' [l, e] ∧ Own.AL G.Z h' l 2 e ∧ Arv G.Z h' e kA (.object "java/lang/Object") 10 [.ref x0, .ref x, .null, .null, .null, .null, .null, .null, .null, .null] .null) := by
  refine Own.Con.intro (plainFor_of_name pn_2) hO hEL _ (fun m => ef_bAd3_1 m l x e k) ?_
  intro X T0 W0 sf
  subst hk
  obtain ⟨E, ⟨m, Fm⟩, Fs, Fe⟩ := F
  refine Own.iloadN W0 d19_0 1 rfl (1 : Int32) rfl ?_
  refine Own.aloadN W0 d19_1 2 rfl (.ref e) rfl rfl ?_
  refine Own.arrlen W0 A d19_2 3 rfl ?_
  refine Own.icmpYes W0 d19_3 11 (by decide) (by decide) (by decide) ?_
  refine Own.aloadN W0 d19_11 12 rfl (.ref e) rfl rfl ?_
  refine Own.iloadN W0 d19_12 13 rfl (1 : Int32) rfl ?_
  refine Own.aloadN W0 d19_13 14 rfl (.ref x) rfl rfl ?_
  refine Own.aastore W0 A O (Ins.of_exa Ex (tw hw 134 rfl)) 1 (by decide) (by decide) (Nat.le_of_ble_eq_true rfl) hn_e d19_14 15 rfl ?_
  intro T1 h1 W1 Q1 A1 k1
  have V1 : Arv G.Z h1 e kA (.object "java/lang/Object") (10 : Int32) [(.ref x0), (.ref x), .null, .null, .null, .null, .null, .null, .null, .null] .null := A1
  refine Own.aloadN W1 d19_15 16 rfl (.ref l) rfl rfl ?_
  refine Own.iloadN W1 d19_16 17 rfl (1 : Int32) rfl ?_
  refine Own.iconst W1 d19_17 18 rfl (1 : Int32) rfl ?_
  refine Own.iadd W1 d19_18 19 rfl ?_
  refine Own.putF W1 (tw hw 111 rfl) Via.refl (Fs.other Q1 (Or.inl hle)) (E.wr Q1) (Or.inl (tw hw 112 rfl)) (tw hw 59 rfl) (ty := .int) (v' := (.int (2 : Int32))) (by decide) rfl rfl hn_l (Safe.exa W1.wz.alike (E.wr Q1) (by decide) (by decide)) d19_19 22 rfl ?_
  intro T2 h2 W2 Q2 k2
  have F2_size := Fld.same Q2 (Fs.other Q1 (Or.inl hle))
  exact Own.retV W2 (by decide) (by decide) rfl d19_22 ⟨rfl, (Keep.wr (Keep.wr (Keep.refl h [l, e]) Q1 (Or.inl (by simp))) Q2 (Or.inl (by simp))), ⟨((E.wr Q1).wr Q2), ⟨_, ((Fm.other Q1 (Or.inl hle)).other Q2 (Or.inr (slot_ne (Or.inl (tw hw 78 rfl)) (Or.inl (tw hw 112 rfl)) (by decide) (t := .int) (t' := .int) (by decide) (by decide))))⟩, F2_size, ((Fe.other Q1 (Or.inl hle)).other Q2 (Or.inr (slot_ne (Or.inl (tw hw 81 rfl)) (Or.inl (tw hw 112 rfl)) (by decide) (t := (.array (.object "java/lang/Object"))) (t' := .int) (by decide) (by decide))))⟩, (V1.other Q2 (Ne.symm hle))⟩
set_option maxRecDepth 65536 in
set_option maxHeartbeats 40000000 in
theorem con_ad_1 {G : Own.Gl} (hw : ∀ d ∈ tables_1, d.before G.a0 G.Z = true) (hEL : EW G.Z G.a0 G.EL) {dc : Addr} {kD : ClassId} (DS : Sta G.Z G.Z.heap "java/util/ArrayList" "DEFAULTCAPACITY_EMPTY_ELEMENTDATA" "[Ljava/lang/Object;" (.ref dc)) (DA : Arv G.Z G.Z.heap dc kD (.object "java/lang/Object") 0 [] .null) {l e : Addr} {kA : ClassId} {x0 : Addr} {h : Heap} (hO : Old G.Z G.n0 h) (hn_l : G.n0 ≤ l) (hn_e : G.n0 ≤ e) (hle : l ≠ e) (F : Own.AL G.Z h l 1 e) (A : Arv G.Z h e kA (.object "java/lang/Object") 10 [.ref x0, .null, .null, .null, .null, .null, .null, .null, .null, .null] .null) (O : Ovr G.Z kA "java/lang/Object") {x : Addr} (Ex : Exa G.Z h x "java/lang/String") :
    Own.Con G [] bAd_1 #[.ref l, .ref x] h [] (fun v h' => v = some (.int 1) ∧ Keep h h' [l, e] ∧ Own.AL G.Z h' l 2 e ∧ Arv G.Z h' e kA (.object "java/lang/Object") 10 [.ref x0, .ref x, .null, .null, .null, .null, .null, .null, .null, .null] .null) := by
  refine Own.Con.intro (plainFor_of_name pn_2) hO hEL _ (fun m => ef_bAd_1 m l x) ?_
  intro X T0 W0 sf
  obtain ⟨E, ⟨m, Fm⟩, Fs, Fe⟩ := F
  refine Own.aloadN W0 d18_0 1 rfl (.ref l) rfl rfl ?_
  refine Own.dup W0 d18_1 2 rfl rfl ?_
  refine Own.getF W0 (tw hw 109 rfl) (Via.of (tw hw 110 rfl)) Fm d18_2 5 rfl ?_
  intro T1 W1
  refine Own.iconst W1 d18_5 6 rfl (1 : Int32) rfl ?_
  refine Own.iadd W1 d18_6 7 rfl ?_
  refine Own.putF W1 (tw hw 109 rfl) (Via.of (tw hw 110 rfl)) Fm E (Or.inl (tw hw 78 rfl)) (tw hw 59 rfl) (ty := .int) (v' := (.int (m + (1 : Int32)))) (by decide) rfl rfl hn_l (Safe.exa W1.wz.alike E (by decide) (by decide)) d18_7 10 rfl ?_
  intro T2 h2 W2 Q2 k2
  have F2_modCount := Fld.same Q2 Fm
  refine Own.aloadN W2 d18_10 11 rfl (.ref l) rfl rfl ?_
  refine Own.aloadN W2 d18_11 12 rfl (.ref x) rfl rfl ?_
  refine Own.aloadN W2 d18_12 13 rfl (.ref l) rfl rfl ?_
  refine Own.getF W2 (tw hw 80 rfl) Via.refl (Fe.other Q2 (Or.inr (slot_ne (Or.inl (tw hw 81 rfl)) (Or.inl (tw hw 78 rfl)) (by decide) (t := (.array (.object "java/lang/Object"))) (t' := .int) (by decide) (by decide)))) d18_13 16 rfl ?_
  intro T3 W3
  refine Own.aloadN W3 d18_16 17 rfl (.ref l) rfl rfl ?_
  refine Own.getF W3 (tw hw 111 rfl) Via.refl (Fs.other Q2 (Or.inr (slot_ne (Or.inl (tw hw 112 rfl)) (Or.inl (tw hw 78 rfl)) (by decide) (t := .int) (t' := .int) (by decide) (by decide)))) d18_17 20 rfl ?_
  intro T4 W4
  refine Own.callP W4 (tw hw 113 rfl) (tw hw 114 rfl) (tw hw 116 rfl) (tw hw 115 rfl) (tw hw 117 rfl) (by decide) (argsL := [(.ref x), (.ref e), (.int (1 : Int32))]) (rest := []) (Own.Con.pay (con_ad3_1 hw hEL DS DA (by decide) W4.old hn_l hn_e hle ⟨(E.wr Q2), ⟨_, F2_modCount⟩, (Fs.other Q2 (Or.inr (slot_ne (Or.inl (tw hw 112 rfl)) (Or.inl (tw hw 78 rfl)) (by decide) (t := .int) (t' := .int) (by decide) (by decide)))), (Fe.other Q2 (Or.inr (slot_ne (Or.inl (tw hw 81 rfl)) (Or.inl (tw hw 78 rfl)) (by decide) (t := (.array (.object "java/lang/Object"))) (t' := .int) (by decide) (by decide))))⟩ (A.other Q2 (Ne.symm hle)) O (Ex.wr Q2)) W4 (tw hw 117 rfl) (tw hw 60 rfl) (len := 3) (wd := 0) (by decide) (by decide) (fun _ q => nomatch q)) (E.wr Q2) rfl (lenOf pd_4 rfl) rfl (Nat.le_of_ble_eq_true rfl) d18_20 23 rfl 1 10 (Nat.le_of_ble_eq_true rfl) (Nat.le_of_ble_eq_true rfl) (Nat.le_of_ble_eq_true rfl) (Nat.le_of_ble_eq_true rfl) ?_
  intro v5 T5 h5 u5 W5 R5 hq
  obtain ⟨rfl, K5, L5, A5⟩ := hq
  show Own.Go _ _ _ _ _ 23 #[.val (.ref l), .val (.ref x)] []
  refine Own.iconst W5 d18_23 24 rfl (1 : Int32) rfl ?_
  exact Own.retB W5 (by decide) (by decide) rfl d18_24 rfl ⟨rfl, (Keep.trans (Keep.wr (Keep.refl h [l, e]) Q2 (Or.inl (by simp))) K5 (by intro y hy; simp only [List.mem_cons, List.not_mem_nil, or_false] at hy; rcases hy with rfl | rfl; exact (Or.inl (by simp)); exact (Or.inl (by simp)))), L5, A5⟩
set_option maxRecDepth 65536 in
set_option maxHeartbeats 40000000 in
theorem con_pci {G : Own.Gl} (hw : ∀ d ∈ tables_1, d.before G.a0 G.Z = true) (hEL : EW G.Z G.a0 G.EL) (i n : Int32) (h0 : ¬ i < 0) (h1 : i < n) {h : Heap} (hO : Old G.Z G.n0 h) :
    Own.Con G [] bPci #[.int i, .int n, .null] h [] (fun v h' => v = some (.int i) ∧ h' = h) := by
  refine Own.Con.intro (plainFor_of_name pn_3) hO hEL _ (fun m => ef_bPci m i n) ?_
  intro X T0 W0 sf
  refine Own.iloadN W0 d27_0 1 rfl i rfl ?_
  refine Own.ifNo W0 d27_1 4 (XT.i0_lt_f h0) rfl ?_
  refine Own.iloadN W0 d27_4 5 rfl i rfl ?_
  refine Own.iloadN W0 d27_5 6 rfl n rfl ?_
  refine Own.icmpYes W0 d27_6 16 (XT.ii_lt_t h1) (by decide) (by decide) ?_
  refine Own.iloadN W0 d27_16 17 rfl i rfl ?_
  exact Own.retI W0 (by decide) (by decide) rfl d27_17 ⟨rfl, rfl⟩
set_option maxRecDepth 65536 in
set_option maxHeartbeats 40000000 in
theorem con_oci {G : Own.Gl} (hw : ∀ d ∈ tables_1, d.before G.a0 G.Z = true) (hEL : EW G.Z G.a0 G.EL) (i n : Int32) (h0 : ¬ i < 0) (h1 : i < n) {h : Heap} (hO : Old G.Z G.n0 h) :
    Own.Con G [] bOci #[.int i, .int n] h [] (fun v h' => v = some (.int i) ∧ h' = h) := by
  refine Own.Con.intro (plainFor_of_name pn_4) hO hEL _ (fun m => ef_bOci m i n) ?_
  intro X T0 W0 sf
  refine Own.iloadN W0 d26_0 1 rfl i rfl ?_
  refine Own.iloadN W0 d26_1 2 rfl n rfl ?_
  refine Own.aconstNull W0 d26_2 3 rfl ?_
  refine Own.callS W0 (tw hw 159 rfl) (tw hw 160 rfl) (tw hw 161 rfl) (tw hw 162 rfl) (by decide) (argsL := [(.int i), (.int n), .null]) (rest := []) (Own.Con.pay (con_pci hw hEL i n h0 h1 W0.old) W0 (tw hw 162 rfl) (tw hw 161 rfl) (len := 3) (wd := 0) (by decide) (by decide) (fun _ q => nomatch q)) rfl (lenOf pd_5 rfl) rfl (Nat.le_of_ble_eq_true rfl) d26_3 6 rfl 0 0 (Nat.le_of_ble_eq_true rfl) (Nat.le_of_ble_eq_true rfl) (Nat.le_of_ble_eq_true rfl) (Nat.le_of_ble_eq_true rfl) ?_
  intro v1 T1 h1 u1 W1 R1 hq
  obtain ⟨rfl, eh1⟩ := hq
  have ei1 := eh1.symm; subst ei1
  show Own.Go _ _ _ _ _ 6 #[.val (.int i), .val (.int n)] [(.int i)]
  exact Own.retI W1 (by decide) (by decide) rfl d26_6 ⟨rfl, rfl⟩
set_option maxRecDepth 65536 in
set_option maxHeartbeats 40000000 in
theorem con_ed {G : Own.Gl} (hw : ∀ d ∈ tables_1, d.before G.a0 G.Z = true) (hEL : EW G.Z G.a0 G.EL) {l e : Addr} {n : Int32} (i : Int32) (h0 : ¬ i < 0) (h10 : i < 10) {h : Heap} (hO : Old G.Z G.n0 h) (F : Own.AL G.Z h l n e) {kA : ClassId} {vs : List Value} (A : Arv G.Z h e kA (.object "java/lang/Object") 10 vs .null) {y : Addr} (hv : vs.getD i.toNatClampNeg .null = .ref y) :
    Own.Con G [] bEd #[.ref l, .int i] h [] (fun v h' => v = some (.ref y) ∧ h' = h) := by
  refine Own.Con.intro (plainFor_of_name pn_2) hO hEL _ (fun m => ef_bEd m l i) ?_
  intro X T0 W0 sf
  obtain ⟨E, ⟨m, Fm⟩, Fs, Fe⟩ := F
  refine Own.aloadN W0 d28_0 1 rfl (.ref l) rfl rfl ?_
  refine Own.getF W0 (tw hw 80 rfl) Via.refl Fe d28_1 4 rfl ?_
  intro T1 W1
  refine Own.iloadN W1 d28_4 5 rfl i rfl ?_
  refine Own.aaload W1 A rfl ⟨h0, h10⟩ (.ref y) hv d28_5 6 rfl ?_
  exact Own.retA W1 (by decide) (by decide) rfl rfl rfl d28_6 ⟨rfl, rfl⟩
set_option maxRecDepth 65536 in
set_option maxHeartbeats 40000000 in
theorem con_get {G : Own.Gl} (hw : ∀ d ∈ tables_1, d.before G.a0 G.Z = true) (hEL : EW G.Z G.a0 G.EL) {l e : Addr} {n : Int32} (i : Int32) (h0 : ¬ i < 0) (hin : i < n) (h10 : i < 10) {h : Heap} (hO : Old G.Z G.n0 h) (F : Own.AL G.Z h l n e) {kA : ClassId} {vs : List Value} (A : Arv G.Z h e kA (.object "java/lang/Object") 10 vs .null) {y : Addr} (hv : vs.getD i.toNatClampNeg .null = .ref y) :
    Own.Con G [] bGet #[.ref l, .int i] h [] (fun v h' => v = some (.ref y) ∧ h' = h) := by
  refine Own.Con.intro (plainFor_of_name pn_2) hO hEL _ (fun m => ef_bGet m l i) ?_
  intro X T0 W0 sf
  obtain ⟨E, ⟨m, Fm⟩, Fs, Fe⟩ := id F
  refine Own.iloadN W0 d25_0 1 rfl i rfl ?_
  refine Own.aloadN W0 d25_1 2 rfl (.ref l) rfl rfl ?_
  refine Own.getF W0 (tw hw 111 rfl) Via.refl Fs d25_2 5 rfl ?_
  intro T1 W1
  refine Own.callS W1 (tw hw 156 rfl) (tw hw 157 rfl) (tw hw 89 rfl) (tw hw 158 rfl) (by decide) (argsL := [(.int i), (.int n)]) (rest := []) (Own.Con.pay (con_oci hw hEL i n h0 hin W1.old) W1 (tw hw 158 rfl) (tw hw 89 rfl) (len := 3) (wd := 0) (by decide) (by decide) (fun _ q => nomatch q)) rfl (lenOf pd_1 rfl) rfl (Nat.le_of_ble_eq_true rfl) d25_5 8 rfl 0 0 (Nat.le_of_ble_eq_true rfl) (Nat.le_of_ble_eq_true rfl) (Nat.le_of_ble_eq_true rfl) (Nat.le_of_ble_eq_true rfl) ?_
  intro v2 T2 h2 u2 W2 R2 hq
  obtain ⟨rfl, eh2⟩ := hq
  have ei2 := eh2.symm; subst ei2
  show Own.Go _ _ _ _ _ 8 #[.val (.ref l), .val (.int i)] [(.int i)]
  refine Own.pop W2 d25_8 9 rfl rfl ?_
  refine Own.aloadN W2 d25_9 10 rfl (.ref l) rfl rfl ?_
  refine Own.iloadN W2 d25_10 11 rfl i rfl ?_
  refine Own.callV W2 (tw hw 163 rfl) (tw hw 164 rfl) (fun s q => notFace_of_selects (args := #[]) (mvT (s := s) q (tw hw 166 rfl))) (tw hw 166 rfl) (tw hw 165 rfl) (by decide) (argsL := [(.int i)]) (rest := []) (Own.Con.pay (con_ed hw hEL i h0 h10 W2.old F A hv) W2 (tw hw 167 rfl) (tw hw 60 rfl) (len := 3) (wd := 0) (by decide) (by decide) (fun _ q => nomatch q)) E rfl (lenOf pd_6 rfl) rfl (Nat.le_of_ble_eq_true rfl) d25_11 14 rfl 0 0 (Nat.le_of_ble_eq_true rfl) (Nat.le_of_ble_eq_true rfl) (Nat.le_of_ble_eq_true rfl) (Nat.le_of_ble_eq_true rfl) ?_
  intro v3 T3 h3 u3 W3 R3 hq
  obtain ⟨rfl, eh3⟩ := hq
  have ei3 := eh3.symm; subst ei3
  show Own.Go _ _ _ _ _ 14 #[.val (.ref l), .val (.int i)] [(.ref y)]
  exact Own.retA W3 (by decide) (by decide) rfl rfl rfl d25_14 ⟨rfl, rfl⟩
set_option maxRecDepth 65536 in
set_option maxHeartbeats 40000000 in
theorem con_sz {G : Own.Gl} (hw : ∀ d ∈ tables_1, d.before G.a0 G.Z = true) (hEL : EW G.Z G.a0 G.EL) {l e : Addr} {n : Int32} {h : Heap} (hO : Old G.Z G.n0 h) (F : Own.AL G.Z h l n e) :
    Own.Con G [] bSz #[.ref l] h [] (fun v h' => v = some (.int n) ∧ h' = h) := by
  refine Own.Con.intro (plainFor_of_name pn_2) hO hEL _ (fun m => ef_bSz m l) ?_
  intro X T0 W0 sf
  obtain ⟨E, ⟨m, Fm⟩, Fs, Fe⟩ := F
  refine Own.aloadN W0 d24_0 1 rfl (.ref l) rfl rfl ?_
  refine Own.getF W0 (tw hw 111 rfl) Via.refl Fs d24_1 4 rfl ?_
  intro T1 W1
  exact Own.retI W1 (by decide) (by decide) rfl d24_4 ⟨rfl, rfl⟩
set_option maxRecDepth 65536 in
set_option maxHeartbeats 40000000 in
theorem con_rnn {G : Own.Gl} (hw : ∀ d ∈ tables_1, d.before G.a0 G.Z = true) (hEL : EW G.Z G.a0 G.EL) (a mg : Addr) {h : Heap} (hO : Old G.Z G.n0 h) :
    Own.Con G [] bRnn #[.ref a, .ref mg] h [] (fun v h' => v = some (.ref a) ∧ h' = h) := by
  refine Own.Con.intro (plainFor_of_name pn_4) hO hEL _ (fun m => ef_bRnn m a mg) ?_
  intro X T0 W0 sf
  refine Own.aloadN W0 d16_0 1 rfl (.ref a) rfl rfl ?_
  refine Own.ifnonnullYes W0 d16_1 13 (by decide) (by decide) ?_
  refine Own.aloadN W0 d16_13 14 rfl (.ref a) rfl rfl ?_
  exact Own.retA W0 (by decide) (by decide) rfl rfl rfl d16_14 ⟨rfl, rfl⟩
set_option maxRecDepth 65536 in
set_option maxHeartbeats 40000000 in
theorem con_cd {G : Own.Gl} (hw : ∀ d ∈ tables_1, d.before G.a0 G.Z = true) (hEL : EW G.Z G.a0 G.EL) {dc : Addr} {kD : ClassId} (DS : Sta G.Z G.Z.heap "java/util/ArrayList" "DEFAULTCAPACITY_EMPTY_ELEMENTDATA" "[Ljava/lang/Object;" (.ref dc)) (DA : Arv G.Z G.Z.heap dc kD (.object "java/lang/Object") 0 [] .null) {d x : Addr} {h : Heap} (hO : Old G.Z G.n0 h) (hn_d : G.n0 ≤ d) (E : Exa G.Z h d "com/example/kickstand/kickstand/CommandDecoration") (Ex : Exa G.Z h x "java/lang/String") {u_before : Value} (F_before : Fld G.Z h d "com/example/kickstand/kickstand/CommandDecoration" "before" "Ljava/util/List;" u_before) {u_beside : Value} (F_beside : Fld G.Z h d "com/example/kickstand/kickstand/CommandDecoration" "beside" "Ljava/util/List;" u_beside) {u_name : Value} (F_name : Fld G.Z h d "com/example/kickstand/kickstand/CommandDecoration" "name" "Ljava/lang/String;" u_name) :
    Own.Con G [] bCd #[.ref d, .ref x] h [] (fun v h' => v = none ∧ Keep h h' [d] ∧ ∃ l1 l2 : Addr, h.size ≤ l1 ∧ h.size ≤ l2 ∧ l1 ≠ l2 ∧ (Exa G.Z h' d "com/example/kickstand/kickstand/CommandDecoration" ∧ Fld G.Z h' d "com/example/kickstand/kickstand/CommandDecoration" "before" "Ljava/util/List;" (.ref l1) ∧ Fld G.Z h' d "com/example/kickstand/kickstand/CommandDecoration" "beside" "Ljava/util/List;" (.ref l2) ∧ Fld G.Z h' d "com/example/kickstand/kickstand/CommandDecoration" "name" "Ljava/lang/String;" (.ref x)) ∧ Own.AL G.Z h' l1 0 dc ∧ Own.AL G.Z h' l2 0 dc) := by
  refine Own.Con.intro (plainFor_of_name pn_5) hO hEL _ (fun m => ef_bCd m d x) ?_
  intro X T0 W0 sf
  refine Own.aloadN W0 d12_0 1 rfl (.ref d) rfl rfl ?_
  refine Own.initO W0 (tw hw 57 rfl) (tw hw 16 rfl) (tw hw 17 rfl) rfl d12_1 4 rfl (by decide) (by decide) ?_
  intro T1 W1
  refine Own.aloadN W1 d12_4 5 rfl (.ref d) rfl rfl ?_
  refine Own.newO W1 (tw hw 58 rfl) (tw hw 59 rfl) (tw hw 60 rfl) d12_5 8 rfl 1 3 (by decide) (by decide) (by decide) (by decide) ?_
  intro T2 h2 o2 g2 W2 E2 A2 D2 s2 k2
  have F2_modCount : Fld G.Z h2 o2 "java/util/AbstractList" "modCount" "I" (.int (0 : Int32)) := D2 (Or.inl (tw hw 78 rfl)) (ty := .int) (by decide)
  have F2_elementData : Fld G.Z h2 o2 "java/util/ArrayList" "elementData" "[Ljava/lang/Object;" .null := D2 (Or.inl (tw hw 81 rfl)) (ty := (.array (.object "java/lang/Object"))) (by decide)
  have F2_size : Fld G.Z h2 o2 "java/util/ArrayList" "size" "I" (.int (0 : Int32)) := D2 (Or.inl (tw hw 112 rfl)) (ty := .int) (by decide)
  refine Own.dup W2 d12_8 9 rfl rfl ?_
  refine Own.callX W2 rfl (tw hw 61 rfl) (tw hw 62 rfl) (tw hw 63 rfl) (by decide) (argsL := []) (rest := [(.ref o2), (.ref d)]) (Own.Con.pay (con_ali hw hEL DS DA W2.old (Nat.le_trans W0.n0 (Nat.le_of_eq g2.symm)) A2 F2_modCount F2_size F2_elementData) W2 (tw hw 63 rfl) (tw hw 60 rfl) (len := 3) (wd := 2) (by decide) (by decide) (fun _ q => nomatch q)) rfl (lenOf pd_0 rfl) rfl (Nat.le_of_ble_eq_true rfl) d12_9 12 rfl 1 3 (Nat.le_of_ble_eq_true rfl) (Nat.le_of_ble_eq_true rfl) (Nat.le_of_ble_eq_true rfl) (Nat.le_of_ble_eq_true rfl) ?_
  intro v3 T3 h3 u3 W3 R3 hq
  obtain ⟨rfl, K3, L3⟩ := hq
  show Own.Go _ _ _ _ _ 12 #[.val (.ref d), .val (.ref x)] [(.ref o2), (.ref d)]
  have X5 : Ext h h2 := E2
  have X6 : Ext h h3 := Own.Ext.kp X5 K3 (allS (Nat.le_of_eq g2.symm) all0)
  refine Own.putF W3 (tw hw 82 rfl) Via.refl (F_before.ext X6) (E.ext X6) (Or.inr ⟨(tw hw 83 rfl), rfl, rfl⟩) (tw hw 52 rfl) (ty := (.object "java/util/List")) (v' := (.ref o2)) (by decide) rfl rfl hn_d (Safe.exa W3.wz.alike (E.ext X6) (by decide) (by decide)) d12_12 15 rfl ?_
  intro T4 h4 W4 Q4 k4
  have F4_before := Fld.same Q4 (F_before.ext X6)
  refine Own.aloadN W4 d12_15 16 rfl (.ref d) rfl rfl ?_
  refine Own.newO W4 (tw hw 58 rfl) (tw hw 59 rfl) (tw hw 60 rfl) d12_16 19 rfl 2 6 (by decide) (by decide) (by decide) (by decide) ?_
  intro T7 h7 o7 g7 W7 E7 A7 D7 s7 k7
  have F7_modCount : Fld G.Z h7 o7 "java/util/AbstractList" "modCount" "I" (.int (0 : Int32)) := D7 (Or.inl (tw hw 78 rfl)) (ty := .int) (by decide)
  have F7_elementData : Fld G.Z h7 o7 "java/util/ArrayList" "elementData" "[Ljava/lang/Object;" .null := D7 (Or.inl (tw hw 81 rfl)) (ty := (.array (.object "java/lang/Object"))) (by decide)
  have F7_size : Fld G.Z h7 o7 "java/util/ArrayList" "size" "I" (.int (0 : Int32)) := D7 (Or.inl (tw hw 112 rfl)) (ty := .int) (by decide)
  refine Own.dup W7 d12_19 20 rfl rfl ?_
  refine Own.callX W7 rfl (tw hw 61 rfl) (tw hw 62 rfl) (tw hw 63 rfl) (by decide) (argsL := []) (rest := [(.ref o7), (.ref d)]) (Own.Con.pay (con_ali hw hEL DS DA W7.old (Nat.le_trans W0.n0 (Nat.le_trans (Nat.le_trans (Nat.le_trans (Nat.le_trans (Nat.le_refl _) E2.1) K3.1) (Nat.le_of_eq Q4.size.symm)) (Nat.le_of_eq g7.symm))) A7 F7_modCount F7_size F7_elementData) W7 (tw hw 63 rfl) (tw hw 60 rfl) (len := 3) (wd := 2) (by decide) (by decide) (fun _ q => nomatch q)) rfl (lenOf pd_0 rfl) rfl (Nat.le_of_ble_eq_true rfl) d12_20 23 rfl 2 6 (Nat.le_of_ble_eq_true rfl) (Nat.le_of_ble_eq_true rfl) (Nat.le_of_ble_eq_true rfl) (Nat.le_of_ble_eq_true rfl) ?_
  intro v8 T8 h8 u8 W8 R8 hq
  obtain ⟨rfl, K8, L8⟩ := hq
  show Own.Go _ _ _ _ _ 23 #[.val (.ref d), .val (.ref x)] [(.ref o7), (.ref d)]
  refine Own.putF W8 (tw hw 84 rfl) Via.refl (((((F_beside.ext E2).keep K3 (ninS (Nat.ne_of_lt (Nat.lt_of_lt_of_le E.lt (Nat.le_of_eq g2.symm))) nin0)).other Q4 (Or.inr (slot_ne (Or.inr (tw hw 85 rfl)) (Or.inr (tw hw 83 rfl)) (by decide) (t := (.object "java/util/List")) (t' := (.object "java/util/List")) (by decide) (by decide)))).ext E7).keep K8 (ninS (Nat.ne_of_lt (Nat.lt_of_lt_of_le F4_before.lt (Nat.le_of_eq g7.symm))) nin0)) (((((E.ext E2).keep K3).wr Q4).ext E7).keep K8) (Or.inr ⟨(tw hw 85 rfl), rfl, rfl⟩) (tw hw 52 rfl) (ty := (.object "java/util/List")) (v' := (.ref o7)) (by decide) rfl rfl hn_d (Safe.exa W8.wz.alike (((((E.ext E2).keep K3).wr Q4).ext E7).keep K8) (by decide) (by decide)) d12_23 26 rfl ?_
  intro T9 h9 W9 Q9 k9
  have F9_beside := Fld.same Q9 (((((F_beside.ext E2).keep K3 (ninS (Nat.ne_of_lt (Nat.lt_of_lt_of_le E.lt (Nat.le_of_eq g2.symm))) nin0)).other Q4 (Or.inr (slot_ne (Or.inr (tw hw 85 rfl)) (Or.inr (tw hw 83 rfl)) (by decide) (t := (.object "java/util/List")) (t' := (.object "java/util/List")) (by decide) (by decide)))).ext E7).keep K8 (ninS (Nat.ne_of_lt (Nat.lt_of_lt_of_le F4_before.lt (Nat.le_of_eq g7.symm))) nin0))
  refine Own.aloadN W9 d12_26 27 rfl (.ref d) rfl rfl ?_
  refine Own.aloadN W9 d12_27 28 rfl (.ref x) rfl rfl ?_
  refine Own.ldcO W9 (tw hw 86 rfl) (Own.sAtoms (wS hw)) d12_28 30 rfl 16 (by decide) (by decide) 4 26 (by decide) (by decide) (by decide) (by decide) ?_
  intro v10 T10 h10 o10 W10 R10 E10
  refine Own.callS W10 (tw hw 87 rfl) (tw hw 88 rfl) (tw hw 89 rfl) (tw hw 90 rfl) (by decide) (argsL := [(.ref x), (.ref o10)]) (rest := [(.ref d)]) (Own.Con.pay (con_rnn hw hEL x o10 W10.old) W10 (tw hw 90 rfl) (tw hw 89 rfl) (len := 3) (wd := 1) (by decide) (by decide) (fun _ q => nomatch q)) rfl (lenOf pd_7 rfl) rfl (Nat.le_of_ble_eq_true rfl) d12_30 33 rfl 4 26 (Nat.le_of_ble_eq_true rfl) (Nat.le_of_ble_eq_true rfl) (Nat.le_of_ble_eq_true rfl) (Nat.le_of_ble_eq_true rfl) ?_
  intro v11 T11 h11 u11 W11 R11 hq
  obtain ⟨rfl, eh11⟩ := hq
  have ei11 := eh11.symm; subst ei11
  show Own.Go _ _ _ _ _ 33 #[.val (.ref d), .val (.ref x)] [(.ref x), (.ref d)]
  refine Own.castY W11 (tw hw 91 rfl) (Ins.self (((((((Ex.ext E2).keep K3).wr Q4).ext E7).keep K8).wr Q9).ext E10)) d12_33 36 rfl ?_
  intro T12 W12
  refine Own.putF W12 (tw hw 92 rfl) Via.refl (((((((F_name.ext E2).keep K3 (ninS (Nat.ne_of_lt (Nat.lt_of_lt_of_le E.lt (Nat.le_of_eq g2.symm))) nin0)).other Q4 (Or.inr (slot_ne (Or.inr (tw hw 93 rfl)) (Or.inr (tw hw 83 rfl)) (by decide) (t := (.object "java/lang/String")) (t' := (.object "java/util/List")) (by decide) (by decide)))).ext E7).keep K8 (ninS (Nat.ne_of_lt (Nat.lt_of_lt_of_le F4_before.lt (Nat.le_of_eq g7.symm))) nin0)).other Q9 (Or.inr (slot_ne (Or.inr (tw hw 93 rfl)) (Or.inr (tw hw 85 rfl)) (by decide) (t := (.object "java/lang/String")) (t' := (.object "java/util/List")) (by decide) (by decide)))).ext E10) (((((((E.ext E2).keep K3).wr Q4).ext E7).keep K8).wr Q9).ext E10) (Or.inr ⟨(tw hw 93 rfl), rfl, rfl⟩) (tw hw 52 rfl) (ty := (.object "java/lang/String")) (v' := (.ref x)) (by decide) rfl rfl hn_d (Safe.exa W12.wz.alike (((((((E.ext E2).keep K3).wr Q4).ext E7).keep K8).wr Q9).ext E10) (by decide) (by decide)) d12_36 39 rfl ?_
  intro T13 h13 W13 Q13 k13
  have F13_name := Fld.same Q13 (((((((F_name.ext E2).keep K3 (ninS (Nat.ne_of_lt (Nat.lt_of_lt_of_le E.lt (Nat.le_of_eq g2.symm))) nin0)).other Q4 (Or.inr (slot_ne (Or.inr (tw hw 93 rfl)) (Or.inr (tw hw 83 rfl)) (by decide) (t := (.object "java/lang/String")) (t' := (.object "java/util/List")) (by decide) (by decide)))).ext E7).keep K8 (ninS (Nat.ne_of_lt (Nat.lt_of_lt_of_le F4_before.lt (Nat.le_of_eq g7.symm))) nin0)).other Q9 (Or.inr (slot_ne (Or.inr (tw hw 93 rfl)) (Or.inr (tw hw 85 rfl)) (by decide) (t := (.object "java/lang/String")) (t' := (.object "java/util/List")) (by decide) (by decide)))).ext E10)
  exact Own.retV W13 (by decide) (by decide) rfl d12_39 ⟨rfl, (Keep.wr (Keep.ext (Keep.wr (Keep.trans (Keep.ext (Keep.wr (Keep.trans (Keep.ext (Keep.refl h [d]) E2) K3 (by intro y hy; simp only [List.mem_cons, List.not_mem_nil, or_false] at hy; rcases hy with rfl; exact (Or.inr (Nat.le_of_eq g2.symm)))) Q4 (Or.inl (by simp))) E7) K8 (by intro y hy; simp only [List.mem_cons, List.not_mem_nil, or_false] at hy; rcases hy with rfl; exact (Or.inr (Nat.le_trans (Nat.le_trans (Nat.le_trans (Nat.le_trans (Nat.le_refl _) E2.1) K3.1) (Nat.le_of_eq Q4.size.symm)) (Nat.le_of_eq g7.symm))))) Q9 (Or.inl (by simp))) E10) Q13 (Or.inl (by simp))), o2, o7, (Nat.le_of_eq g2.symm), (Nat.le_trans (Nat.le_trans (Nat.le_trans (Nat.le_trans (Nat.le_refl _) E2.1) K3.1) (Nat.le_of_eq Q4.size.symm)) (Nat.le_of_eq g7.symm)), (Nat.ne_of_lt (Nat.lt_of_lt_of_le L3.lt (Nat.le_trans (Nat.le_trans (Nat.le_refl _) (Nat.le_of_eq Q4.size.symm)) (Nat.le_of_eq g7.symm)))), ⟨((((((((E.ext E2).keep K3).wr Q4).ext E7).keep K8).wr Q9).ext E10).wr Q13), (((((F4_before.ext E7).keep K8 (ninS (Nat.ne_of_lt (Nat.lt_of_lt_of_le F4_before.lt (Nat.le_of_eq g7.symm))) nin0)).other Q9 (Or.inr (slot_ne (Or.inr (tw hw 83 rfl)) (Or.inr (tw hw 85 rfl)) (by decide) (t := (.object "java/util/List")) (t' := (.object "java/util/List")) (by decide) (by decide)))).ext E10).other Q13 (Or.inr (slot_ne (Or.inr (tw hw 83 rfl)) (Or.inr (tw hw 93 rfl)) (by decide) (t := (.object "java/util/List")) (t' := (.object "java/lang/String")) (by decide) (by decide)))), ((F9_beside.ext E10).other Q13 (Or.inr (slot_ne (Or.inr (tw hw 85 rfl)) (Or.inr (tw hw 93 rfl)) (by decide) (t := (.object "java/util/List")) (t' := (.object "java/lang/String")) (by decide) (by decide)))), F13_name⟩, ((((((L3.other Q4 (Ne.symm (Nat.ne_of_lt (Nat.lt_of_lt_of_le E.lt (Nat.le_of_eq g2.symm))))).ext E7).keep K8 (ninS (Nat.ne_of_lt (Nat.lt_of_lt_of_le L3.lt (Nat.le_trans (Nat.le_trans (Nat.le_refl _) (Nat.le_of_eq Q4.size.symm)) (Nat.le_of_eq g7.symm)))) nin0)).other Q9 (Ne.symm (Nat.ne_of_lt (Nat.lt_of_lt_of_le E.lt (Nat.le_of_eq g2.symm))))).ext E10).other Q13 (Ne.symm (Nat.ne_of_lt (Nat.lt_of_lt_of_le E.lt (Nat.le_of_eq g2.symm))))), (((L8.other Q9 (Ne.symm (Nat.ne_of_lt (Nat.lt_of_lt_of_le F4_before.lt (Nat.le_of_eq g7.symm))))).ext E10).other Q13 (Ne.symm (Nat.ne_of_lt (Nat.lt_of_lt_of_le F4_before.lt (Nat.le_of_eq g7.symm)))))⟩
set_option maxRecDepth 65536 in
set_option maxHeartbeats 40000000 in
theorem con_runBefore_0 {G : Own.Gl} (hw : ∀ d ∈ tables_1, d.before G.a0 G.Z = true) (hEL : EW G.Z G.a0 G.EL) {dc : Addr} {kD : ClassId} (DS : Sta G.Z G.Z.heap "java/util/ArrayList" "DEFAULTCAPACITY_EMPTY_ELEMENTDATA" "[Ljava/lang/Object;" (.ref dc)) (DA : Arv G.Z G.Z.heap dc kD (.object "java/lang/Object") 0 [] .null) {d l : Addr} {h : Heap} (hO : Old G.Z G.n0 h) (hn_l : G.n0 ≤ l) (Fd : Fld G.Z h d "com/example/kickstand/kickstand/CommandDecoration" "before" "Ljava/util/List;" (.ref l)) (F : Own.AL G.Z h l 0 dc) {x : Addr} (Ex : Exa G.Z h x "java/lang/String") :
    Own.Con G [] b_runBefore_0 #[.ref d, .ref x] h [] (fun v h' => v = some (.ref d) ∧ ∃ (e : Addr) (kA : ClassId), Keep h h' [l] ∧ h.size ≤ e ∧ Own.AL G.Z h' l 1 e ∧ Arv G.Z h' e kA (.object "java/lang/Object") 10 [.ref x, .null, .null, .null, .null, .null, .null, .null, .null, .null] .null ∧ Ovr G.Z kA "java/lang/Object") := by
  refine Own.Con.intro (plainFor_of_name pn_5) hO hEL _ (fun m => ef_b_runBefore_0 m d x) ?_
  intro X T0 W0 sf
  have El := F.exa
  refine Own.aloadN W0 d32_0 1 rfl (.ref d) rfl rfl ?_
  refine Own.getF W0 (tw hw 82 rfl) Via.refl Fd d32_1 4 rfl ?_
  intro T1 W1
  refine Own.aloadN W1 d32_4 5 rfl (.ref x) rfl rfl ?_
  refine Own.ldcO W1 (tw hw 99 rfl) (Own.sAtoms (wS hw)) d32_5 7 rfl 28 (by decide) (by decide) 2 32 (by decide) (by decide) (by decide) (by decide) ?_
  intro v2 T2 h2 o2 W2 R2 E2
  refine Own.callS W2 (tw hw 87 rfl) (tw hw 88 rfl) (tw hw 89 rfl) (tw hw 90 rfl) (by decide) (argsL := [(.ref x), (.ref o2)]) (rest := [(.ref l)]) (Own.Con.pay (con_rnn hw hEL x o2 W2.old) W2 (tw hw 90 rfl) (tw hw 89 rfl) (len := 3) (wd := 1) (by decide) (by decide) (fun _ q => nomatch q)) rfl (lenOf pd_7 rfl) rfl (Nat.le_of_ble_eq_true rfl) d32_7 10 rfl 2 32 (Nat.le_of_ble_eq_true rfl) (Nat.le_of_ble_eq_true rfl) (Nat.le_of_ble_eq_true rfl) (Nat.le_of_ble_eq_true rfl) ?_
  intro v3 T3 h3 u3 W3 R3 hq
  obtain ⟨rfl, eh3⟩ := hq
  have ei3 := eh3.symm; subst ei3
  show Own.Go _ _ _ _ _ 10 #[.val (.ref d), .val (.ref x)] [(.ref x), (.ref l)]
  have X5 : Ext h h2 := E2
  refine Own.castY W3 (tw hw 91 rfl) (Ins.self (Ex.ext X5)) d32_10 13 rfl ?_
  intro T4 W4
  refine Own.callI W4 (tw hw 100 rfl) (tw hw 101 rfl) (tw hw 102 rfl) rfl (tw hw 103 rfl) (tw hw 104 rfl) (tw hw 105 rfl) (tw hw 106 rfl) (tw hw 107 rfl) (by decide) (argsL := [(.ref x)]) (rest := []) (Own.Con.pay (con_ad_0 hw hEL DS DA W4.old hn_l (F.ext X5) (Ex.ext X5)) W4 (tw hw 108 rfl) (tw hw 60 rfl) (len := 5) (wd := 0) (by decide) (by decide) (fun _ q => nomatch q)) (El.ext X5) rfl (lenOf pd_8 rfl) rfl (Nat.le_of_ble_eq_true rfl) d32_13 18 rfl 3 42 (Nat.le_of_ble_eq_true rfl) (Nat.le_of_ble_eq_true rfl) (Nat.le_of_ble_eq_true rfl) (Nat.le_of_ble_eq_true rfl) ?_
  intro v6 T6 h6 u6 W6 R6 hq
  obtain ⟨rfl, e6, c6, K6, g6, L6, A6, O6⟩ := hq
  show Own.Go _ _ _ _ _ 18 #[.val (.ref d), .val (.ref x)] [(.int (1 : Int32))]
  refine Own.pop W6 d32_18 19 rfl rfl ?_
  refine Own.aloadN W6 d32_19 20 rfl (.ref d) rfl rfl ?_
  exact Own.retA W6 (by decide) (by decide) rfl rfl rfl d32_20 ⟨rfl, e6, _, (Keep.trans (Keep.ext (Keep.refl h [l]) E2) K6 (by intro y hy; simp only [List.mem_cons, List.not_mem_nil, or_false] at hy; rcases hy with rfl; exact (Or.inl (by simp)))), (Nat.le_trans X5.1 g6), L6, A6, O6⟩
set_option maxRecDepth 65536 in
set_option maxHeartbeats 40000000 in
theorem con_runBeside_0 {G : Own.Gl} (hw : ∀ d ∈ tables_1, d.before G.a0 G.Z = true) (hEL : EW G.Z G.a0 G.EL) {dc : Addr} {kD : ClassId} (DS : Sta G.Z G.Z.heap "java/util/ArrayList" "DEFAULTCAPACITY_EMPTY_ELEMENTDATA" "[Ljava/lang/Object;" (.ref dc)) (DA : Arv G.Z G.Z.heap dc kD (.object "java/lang/Object") 0 [] .null) {d l : Addr} {h : Heap} (hO : Old G.Z G.n0 h) (hn_l : G.n0 ≤ l) (Fd : Fld G.Z h d "com/example/kickstand/kickstand/CommandDecoration" "beside" "Ljava/util/List;" (.ref l)) (F : Own.AL G.Z h l 0 dc) {x : Addr} (Ex : Exa G.Z h x "java/lang/String") :
    Own.Con G [] b_runBeside_0 #[.ref d, .ref x] h [] (fun v h' => v = some (.ref d) ∧ ∃ (e : Addr) (kA : ClassId), Keep h h' [l] ∧ h.size ≤ e ∧ Own.AL G.Z h' l 1 e ∧ Arv G.Z h' e kA (.object "java/lang/Object") 10 [.ref x, .null, .null, .null, .null, .null, .null, .null, .null, .null] .null ∧ Ovr G.Z kA "java/lang/Object") := by
  refine Own.Con.intro (plainFor_of_name pn_5) hO hEL _ (fun m => ef_b_runBeside_0 m d x) ?_
  intro X T0 W0 sf
  have El := F.exa
  refine Own.aloadN W0 d17_0 1 rfl (.ref d) rfl rfl ?_
  refine Own.getF W0 (tw hw 84 rfl) Via.refl Fd d17_1 4 rfl ?_
  intro T1 W1
  refine Own.aloadN W1 d17_4 5 rfl (.ref x) rfl rfl ?_
  refine Own.ldcO W1 (tw hw 99 rfl) (Own.sAtoms (wS hw)) d17_5 7 rfl 28 (by decide) (by decide) 2 32 (by decide) (by decide) (by decide) (by decide) ?_
  intro v2 T2 h2 o2 W2 R2 E2
  refine Own.callS W2 (tw hw 87 rfl) (tw hw 88 rfl) (tw hw 89 rfl) (tw hw 90 rfl) (by decide) (argsL := [(.ref x), (.ref o2)]) (rest := [(.ref l)]) (Own.Con.pay (con_rnn hw hEL x o2 W2.old) W2 (tw hw 90 rfl) (tw hw 89 rfl) (len := 3) (wd := 1) (by decide) (by decide) (fun _ q => nomatch q)) rfl (lenOf pd_7 rfl) rfl (Nat.le_of_ble_eq_true rfl) d17_7 10 rfl 2 32 (Nat.le_of_ble_eq_true rfl) (Nat.le_of_ble_eq_true rfl) (Nat.le_of_ble_eq_true rfl) (Nat.le_of_ble_eq_true rfl) ?_
  intro v3 T3 h3 u3 W3 R3 hq
  obtain ⟨rfl, eh3⟩ := hq
  have ei3 := eh3.symm; subst ei3
  show Own.Go _ _ _ _ _ 10 #[.val (.ref d), .val (.ref x)] [(.ref x), (.ref l)]
  have X5 : Ext h h2 := E2
  refine Own.castY W3 (tw hw 91 rfl) (Ins.self (Ex.ext X5)) d17_10 13 rfl ?_
  intro T4 W4
  refine Own.callI W4 (tw hw 100 rfl) (tw hw 101 rfl) (tw hw 102 rfl) rfl (tw hw 103 rfl) (tw hw 104 rfl) (tw hw 105 rfl) (tw hw 106 rfl) (tw hw 107 rfl) (by decide) (argsL := [(.ref x)]) (rest := []) (Own.Con.pay (con_ad_0 hw hEL DS DA W4.old hn_l (F.ext X5) (Ex.ext X5)) W4 (tw hw 108 rfl) (tw hw 60 rfl) (len := 5) (wd := 0) (by decide) (by decide) (fun _ q => nomatch q)) (El.ext X5) rfl (lenOf pd_8 rfl) rfl (Nat.le_of_ble_eq_true rfl) d17_13 18 rfl 3 42 (Nat.le_of_ble_eq_true rfl) (Nat.le_of_ble_eq_true rfl) (Nat.le_of_ble_eq_true rfl) (Nat.le_of_ble_eq_true rfl) ?_
  intro v6 T6 h6 u6 W6 R6 hq
  obtain ⟨rfl, e6, c6, K6, g6, L6, A6, O6⟩ := hq
  show Own.Go _ _ _ _ _ 18 #[.val (.ref d), .val (.ref x)] [(.int (1 : Int32))]
  refine Own.pop W6 d17_18 19 rfl rfl ?_
  refine Own.aloadN W6 d17_19 20 rfl (.ref d) rfl rfl ?_
  exact Own.retA W6 (by decide) (by decide) rfl rfl rfl d17_20 ⟨rfl, e6, _, (Keep.trans (Keep.ext (Keep.refl h [l]) E2) K6 (by intro y hy; simp only [List.mem_cons, List.not_mem_nil, or_false] at hy; rcases hy with rfl; exact (Or.inl (by simp)))), (Nat.le_trans X5.1 g6), L6, A6, O6⟩
set_option maxRecDepth 65536 in
set_option maxHeartbeats 40000000 in
theorem con_runBeside_1 {G : Own.Gl} (hw : ∀ d ∈ tables_1, d.before G.a0 G.Z = true) (hEL : EW G.Z G.a0 G.EL) {dc : Addr} {kD : ClassId} (DS : Sta G.Z G.Z.heap "java/util/ArrayList" "DEFAULTCAPACITY_EMPTY_ELEMENTDATA" "[Ljava/lang/Object;" (.ref dc)) (DA : Arv G.Z G.Z.heap dc kD (.object "java/lang/Object") 0 [] .null) {d l e : Addr} {kA : ClassId} {x0 : Addr} {h : Heap} (hO : Old G.Z G.n0 h) (hn_l : G.n0 ≤ l) (hn_e : G.n0 ≤ e) (hle : l ≠ e) (Fd : Fld G.Z h d "com/example/kickstand/kickstand/CommandDecoration" "beside" "Ljava/util/List;" (.ref l)) (F : Own.AL G.Z h l 1 e) (A : Arv G.Z h e kA (.object "java/lang/Object") 10 [.ref x0, .null, .null, .null, .null, .null, .null, .null, .null, .null] .null) (O : Ovr G.Z kA "java/lang/Object") {x : Addr} (Ex : Exa G.Z h x "java/lang/String") :
    Own.Con G [] b_runBeside_1 #[.ref d, .ref x] h [] (fun v h' => v = some (.ref d) ∧ Keep h h' [l, e] ∧ Own.AL G.Z h' l 2 e ∧ Arv G.Z h' e kA (.object "java/lang/Object") 10 [.ref x0, .ref x, .null, .null, .null, .null, .null, .null, .null, .null] .null) := by
  refine Own.Con.intro (plainFor_of_name pn_5) hO hEL _ (fun m => ef_b_runBeside_1 m d x) ?_
  intro X T0 W0 sf
  have El := F.exa
  refine Own.aloadN W0 d17_0 1 rfl (.ref d) rfl rfl ?_
  refine Own.getF W0 (tw hw 84 rfl) Via.refl Fd d17_1 4 rfl ?_
  intro T1 W1
  refine Own.aloadN W1 d17_4 5 rfl (.ref x) rfl rfl ?_
  refine Own.ldcO W1 (tw hw 99 rfl) (Own.sAtoms (wS hw)) d17_5 7 rfl 28 (by decide) (by decide) 2 32 (by decide) (by decide) (by decide) (by decide) ?_
  intro v2 T2 h2 o2 W2 R2 E2
  refine Own.callS W2 (tw hw 87 rfl) (tw hw 88 rfl) (tw hw 89 rfl) (tw hw 90 rfl) (by decide) (argsL := [(.ref x), (.ref o2)]) (rest := [(.ref l)]) (Own.Con.pay (con_rnn hw hEL x o2 W2.old) W2 (tw hw 90 rfl) (tw hw 89 rfl) (len := 3) (wd := 1) (by decide) (by decide) (fun _ q => nomatch q)) rfl (lenOf pd_7 rfl) rfl (Nat.le_of_ble_eq_true rfl) d17_7 10 rfl 2 32 (Nat.le_of_ble_eq_true rfl) (Nat.le_of_ble_eq_true rfl) (Nat.le_of_ble_eq_true rfl) (Nat.le_of_ble_eq_true rfl) ?_
  intro v3 T3 h3 u3 W3 R3 hq
  obtain ⟨rfl, eh3⟩ := hq
  have ei3 := eh3.symm; subst ei3
  show Own.Go _ _ _ _ _ 10 #[.val (.ref d), .val (.ref x)] [(.ref x), (.ref l)]
  have X5 : Ext h h2 := E2
  refine Own.castY W3 (tw hw 91 rfl) (Ins.self (Ex.ext X5)) d17_10 13 rfl ?_
  intro T4 W4
  refine Own.callI W4 (tw hw 100 rfl) (tw hw 101 rfl) (tw hw 102 rfl) rfl (tw hw 103 rfl) (tw hw 104 rfl) (tw hw 105 rfl) (tw hw 106 rfl) (tw hw 107 rfl) (by decide) (argsL := [(.ref x)]) (rest := []) (Own.Con.pay (con_ad_1 hw hEL DS DA W4.old hn_l hn_e hle (F.ext X5) (A.ext X5) O (Ex.ext X5)) W4 (tw hw 108 rfl) (tw hw 60 rfl) (len := 5) (wd := 0) (by decide) (by decide) (fun _ q => nomatch q)) (El.ext X5) rfl (lenOf pd_8 rfl) rfl (Nat.le_of_ble_eq_true rfl) d17_13 18 rfl 3 42 (Nat.le_of_ble_eq_true rfl) (Nat.le_of_ble_eq_true rfl) (Nat.le_of_ble_eq_true rfl) (Nat.le_of_ble_eq_true rfl) ?_
  intro v6 T6 h6 u6 W6 R6 hq
  obtain ⟨rfl, K6, L6, A6⟩ := hq
  show Own.Go _ _ _ _ _ 18 #[.val (.ref d), .val (.ref x)] [(.int (1 : Int32))]
  refine Own.pop W6 d17_18 19 rfl rfl ?_
  refine Own.aloadN W6 d17_19 20 rfl (.ref d) rfl rfl ?_
  exact Own.retA W6 (by decide) (by decide) rfl rfl rfl d17_20 ⟨rfl, (Keep.trans (Keep.ext (Keep.refl h [l, e]) E2) K6 (by intro y hy; simp only [List.mem_cons, List.not_mem_nil, or_false] at hy; rcases hy with rfl | rfl; exact (Or.inl (by simp)); exact (Or.inl (by simp)))), L6, A6⟩
set_option maxRecDepth 65536 in
set_option maxHeartbeats 40000000 in
theorem con_b_get_before {G : Own.Gl} (hw : ∀ d ∈ tables_1, d.before G.a0 G.Z = true) (hEL : EW G.Z G.a0 G.EL) {a : Addr} {v : Addr} {h : Heap} (hO : Old G.Z G.n0 h) (F : Fld G.Z h a "com/example/kickstand/kickstand/CommandDecoration" "before" "Ljava/util/List;" (.ref v)) :
    Own.Con G [] b_get_before #[.ref a] h [] (fun u h' => u = some (.ref v) ∧ h' = h) := by
  refine Own.Con.intro (plainFor_of_name pn_5) hO hEL _ (fun m => ef_b_get_before m a) ?_
  intro X T0 W0 sf
  refine Own.aloadN W0 d30_0 1 rfl (.ref a) rfl rfl ?_
  refine Own.getF W0 (tw hw 82 rfl) Via.refl F d30_1 4 rfl ?_
  intro T1 W1
  exact Own.retA W1 (by decide) (by decide) rfl rfl rfl d30_4 ⟨rfl, rfl⟩
set_option maxRecDepth 65536 in
set_option maxHeartbeats 40000000 in
theorem con_b_get_beside {G : Own.Gl} (hw : ∀ d ∈ tables_1, d.before G.a0 G.Z = true) (hEL : EW G.Z G.a0 G.EL) {a : Addr} {v : Addr} {h : Heap} (hO : Old G.Z G.n0 h) (F : Fld G.Z h a "com/example/kickstand/kickstand/CommandDecoration" "beside" "Ljava/util/List;" (.ref v)) :
    Own.Con G [] b_get_beside #[.ref a] h [] (fun u h' => u = some (.ref v) ∧ h' = h) := by
  refine Own.Con.intro (plainFor_of_name pn_5) hO hEL _ (fun m => ef_b_get_beside m a) ?_
  intro X T0 W0 sf
  refine Own.aloadN W0 d23_0 1 rfl (.ref a) rfl rfl ?_
  refine Own.getF W0 (tw hw 84 rfl) Via.refl F d23_1 4 rfl ?_
  intro T1 W1
  exact Own.retA W1 (by decide) (by decide) rfl rfl rfl d23_4 ⟨rfl, rfl⟩
set_option maxRecDepth 65536 in
set_option maxHeartbeats 40000000 in
theorem con_b_get_name {G : Own.Gl} (hw : ∀ d ∈ tables_1, d.before G.a0 G.Z = true) (hEL : EW G.Z G.a0 G.EL) {a : Addr} {v : Addr} {h : Heap} (hO : Old G.Z G.n0 h) (F : Fld G.Z h a "com/example/kickstand/kickstand/CommandDecoration" "name" "Ljava/lang/String;" (.ref v)) :
    Own.Con G [] b_get_name #[.ref a] h [] (fun u h' => u = some (.ref v) ∧ h' = h) := by
  refine Own.Con.intro (plainFor_of_name pn_5) hO hEL _ (fun m => ef_b_get_name m a) ?_
  intro X T0 W0 sf
  refine Own.aloadN W0 d31_0 1 rfl (.ref a) rfl rfl ?_
  refine Own.getF W0 (tw hw 92 rfl) Via.refl F d31_1 4 rfl ?_
  intro T1 W1
  exact Own.retA W1 (by decide) (by decide) rfl rfl rfl d31_4 ⟨rfl, rfl⟩
set_option maxRecDepth 65536 in
set_option maxHeartbeats 40000000 in
theorem con_newBB {G : Own.Gl} (hw : ∀ d ∈ tables_1, d.before G.a0 G.Z = true) (hEL : EW G.Z G.a0 G.EL) {x b : Addr} {cd : Int32} (hnar : narrow .byte (.int cd) = .int cd) (hfit : fits .byte (.int cd) = true) {h : Heap} (hO : Old G.Z G.n0 h) (hn_x : G.n0 ≤ x) (E : Exa G.Z h x "java/lang/String") {v0 c0 : Value} (V : Fld G.Z h x "java/lang/String" "value" "[B" v0) (Cd : Fld G.Z h x "java/lang/String" "coder" "B" c0) :
    Own.Con G [] bNewBB #[.ref x, .ref b, .int cd] h [x] (fun v h' => v = none ∧ Keep h h' [x] ∧ Exa G.Z h' x "java/lang/String" ∧ Fld G.Z h' x "java/lang/String" "value" "[B" (.ref b) ∧ Fld G.Z h' x "java/lang/String" "coder" "B" (.int cd)) := by
  refine Own.Con.intro (plainFor_of_name pn_6) hO hEL _ (fun m => ef_bNewBB m x b cd) ?_
  intro X T0 W0 sf
  have sx := sf x (List.mem_singleton.mpr rfl)
  refine Own.aloadN W0 d11_0 1 rfl (.ref x) rfl rfl ?_
  refine Own.initO W0 (tw hw 15 rfl) (tw hw 16 rfl) (tw hw 17 rfl) rfl d11_1 4 rfl (by decide) (by decide) ?_
  intro T1 W1
  refine Own.aloadN W1 d11_4 5 rfl (.ref x) rfl rfl ?_
  refine Own.aloadN W1 d11_5 6 rfl (.ref b) rfl rfl ?_
  refine Own.putF W1 (tw hw 24 rfl) Via.refl V E (Or.inr ⟨(tw hw 20 rfl), rfl, rfl⟩) (tw hw 5 rfl) (ty := (.array .byte)) (v' := (.ref b)) (by decide) rfl rfl hn_x sx d11_6 9 rfl ?_
  intro T2 h2 W2 Q2 k2
  have F2_value := Fld.same Q2 V
  refine Own.aloadN W2 d11_9 10 rfl (.ref x) rfl rfl ?_
  refine Own.iloadN W2 d11_10 11 rfl cd rfl ?_
  refine Own.putF W2 (tw hw 25 rfl) Via.refl (Cd.other Q2 (Or.inr (slot_ne (Or.inr (tw hw 21 rfl)) (Or.inr (tw hw 20 rfl)) (by decide) (t := .byte) (t' := (.array .byte)) (by decide) (by decide)))) (E.wr Q2) (Or.inr ⟨(tw hw 21 rfl), rfl, rfl⟩) (tw hw 5 rfl) (ty := .byte) (v' := (.int cd)) (by decide) hnar hfit hn_x (k2 x sx) d11_11 14 rfl ?_
  intro T3 h3 W3 Q3 k3
  have F3_coder := Fld.same Q3 (Cd.other Q2 (Or.inr (slot_ne (Or.inr (tw hw 21 rfl)) (Or.inr (tw hw 20 rfl)) (by decide) (t := .byte) (t' := (.array .byte)) (by decide) (by decide))))
  exact Own.retV W3 (by decide) (by decide) rfl d11_14 ⟨rfl, (Keep.wr (Keep.wr (Keep.refl h [x]) Q2 (Or.inl (List.mem_singleton.mpr rfl))) Q3 (Or.inl (List.mem_singleton.mpr rfl))), ((E.wr Q2).wr Q3), (F2_value.other Q3 (Or.inr (slot_ne (Or.inr (tw hw 20 rfl)) (Or.inr (tw hw 21 rfl)) (by decide) (t := (.array .byte)) (t' := .byte) (by decide) (by decide)))), F3_coder⟩
set_option maxRecDepth 65536 in
set_option maxHeartbeats 40000000 in
theorem con_canE {G : Own.Gl} (hw : ∀ d ∈ tables_1, d.before G.a0 G.Z = true) (hEL : EW G.Z G.a0 G.EL) (ch : Int32) (hch : ¬ ch < 0 ∧ ¬ (255 : Int32) < ch) {h : Heap} (hO : Old G.Z G.n0 h) :
    Own.Con G [] bCanE #[.int ch] h [] (fun v h' => v = some (.int 1) ∧ h' = h) := by
  refine Own.Con.intro (plainFor_of_name pn_7) hO hEL _ (fun m => ef_bCanE m ch) ?_
  intro X T0 W0 sf
  refine Own.iloadN W0 d9_0 1 rfl ch rfl ?_
  refine Own.sipush W0 d9_1 4 rfl (255 : Int32) rfl ?_
  refine Own.icmpNo W0 d9_4 7 (XT.ii_gt_f hch.2) rfl ?_
  refine Own.iconst W0 d9_7 8 rfl (1 : Int32) rfl ?_
  refine Own.goto W0 d9_8 12 (by decide) (by decide) ?_
  exact Own.retB W0 (by decide) (by decide) rfl d9_12 rfl ⟨rfl, rfl⟩
set_option maxRecDepth 65536 in
set_option maxHeartbeats 40000000 in
theorem con_toB {G : Own.Gl} (hw : ∀ d ∈ tables_1, d.before G.a0 G.Z = true) (hEL : EW G.Z G.a0 G.EL) (ch : Int32) {h : Heap} (hO : Old G.Z G.n0 h) :
    Own.Con G [] bToB #[.int ch] h [] (fun v h' => ∃ (b : Addr) (kb : ClassId), v = some (.ref b) ∧ Ext h h' ∧ h.size ≤ b ∧ Arv G.Z h' b kb .byte 1 [.int ch.toInt8.toInt32] (.int 0)) := by
  refine Own.Con.intro (plainFor_of_name pn_7) hO hEL _ (fun m => ef_bToB m ch) ?_
  intro X T0 W0 sf
  refine Own.iconst W0 d10_0 1 rfl (1 : Int32) rfl ?_
  refine Own.newA W0 (tw hw 19 rfl) d10_1 3 rfl (by decide) 1 (by decide) (by decide) 1 1 (by decide) (by decide) (by decide) (by decide) ?_
  intro T1 h1 o1 c1 g1 W1 E1 A1 s1 k1
  have V1 : Arv G.Z h1 o1 c1 .byte (1 : Int32) [(.int (0 : Int32))] (.int (0 : Int32)) := A1
  refine Own.dup W1 d10_3 4 rfl rfl ?_
  refine Own.iconst W1 d10_4 5 rfl (0 : Int32) rfl ?_
  refine Own.iloadN W1 d10_5 6 rfl ch rfl ?_
  refine Own.i2b W1 d10_6 7 rfl ?_
  refine Own.bastore W1 V1 0 (by decide) (by decide) (Nat.le_of_ble_eq_true rfl) (Nat.le_trans W0.n0 (Nat.le_of_eq g1.symm)) s1 (x' := ch.toInt8.toInt32) (Own.nar_b8 _) d10_7 8 rfl ?_
  intro T2 h2 W2 Q2 A2 k2
  have V2 : Arv G.Z h2 o1 c1 .byte (1 : Int32) [(.int ch.toInt8.toInt32)] (.int (0 : Int32)) := A2
  have X3 : Ext h h1 := E1
  have X4 : Ext h h2 := Own.Ext.wr' X3 Q2 (Nat.le_of_eq g1.symm)
  exact Own.retA W2 (by decide) (by decide) rfl rfl rfl d10_8 ⟨o1, c1, rfl, X4, (Nat.le_of_eq g1.symm), V2⟩
set_option maxRecDepth 65536 in
set_option maxHeartbeats 40000000 in
theorem con_valOf {G : Own.Gl} (hw : ∀ d ∈ tables_1, d.before G.a0 G.Z = true) (hEL : EW G.Z G.a0 G.EL) (hmem : (Own.ST, 7) ∈ G.EL) {cz : Int32} (hS : Sta G.Z G.Z.heap Own.ST "COMPACT_STRINGS" "Z" (.int cz)) (hcz : ¬ cz = 0) (ch : Int32) (hch : ¬ ch < 0 ∧ ¬ (255 : Int32) < ch) {h : Heap} (hO : Old G.Z G.n0 h) :
    Own.Con G [] bValOf #[.int ch] h [] (fun v h' => ∃ a : Addr, v = some (.ref a) ∧ Ext h h' ∧ h.size ≤ a ∧ Own.Str G.Z h' a [ch]) := by
  refine Own.Con.intro (plainFor_of_name pn_6) hO hEL _ (fun m => ef_bValOf m ch) ?_
  intro X T0 W0 sf
  refine Own.getS W0 (tw hw 26 rfl) Via.refl (W0.sta hS) d8_0 3 rfl ?_
  intro T1 W1
  refine Own.ifNo W1 d8_3 6 (XT.i0_eq_f hcz) rfl ?_
  refine Own.iloadN W1 d8_6 7 rfl ch rfl ?_
  refine Own.callS W1 (tw hw 40 rfl) (tw hw 41 rfl) (tw hw 42 rfl) (tw hw 43 rfl) (by decide) (argsL := [(.int ch)]) (rest := []) (Own.Con.pay (con_canE hw hEL ch hch W1.old) W1 (tw hw 43 rfl) (tw hw 42 rfl) (len := 3) (wd := 0) (by decide) (by decide) (fun _ q => nomatch q)) rfl (lenOf pd_9 rfl) rfl (Nat.le_of_ble_eq_true rfl) d8_7 10 rfl 0 0 (Nat.le_of_ble_eq_true rfl) (Nat.le_of_ble_eq_true rfl) (Nat.le_of_ble_eq_true rfl) (Nat.le_of_ble_eq_true rfl) ?_
  intro v2 T2 h2 u2 W2 R2 hq
  obtain ⟨rfl, eh2⟩ := hq
  have ei2 := eh2.symm; subst ei2
  show Own.Go _ _ _ _ _ 10 #[.val (.int ch)] [(.int (1 : Int32))]
  refine Own.ifNo W2 d8_10 13 (by decide) rfl ?_
  refine Own.newO W2 (tw hw 44 rfl) (tw hw 5 rfl) (tw hw 6 rfl) d8_13 16 rfl 1 4 (by decide) (by decide) (by decide) (by decide) ?_
  intro T3 h3 o3 g3 W3 E3 A3 D3 s3 k3
  have F3_value : Fld G.Z h3 o3 "java/lang/String" "value" "[B" .null := D3 (Or.inr (tw hw 20 rfl)) (ty := (.array .byte)) (by decide)
  have F3_coder : Fld G.Z h3 o3 "java/lang/String" "coder" "B" (.int (0 : Int32)) := D3 (Or.inr (tw hw 21 rfl)) (ty := .byte) (by decide)
  refine Own.dup W3 d8_16 17 rfl rfl ?_
  refine Own.iloadN W3 d8_17 18 rfl ch rfl ?_
  refine Own.callS W3 (tw hw 45 rfl) (tw hw 46 rfl) (tw hw 42 rfl) (tw hw 47 rfl) (by decide) (argsL := [(.int ch)]) (rest := [(.ref o3), (.ref o3)]) (Own.Con.pay (con_toB hw hEL ch W3.old) W3 (tw hw 47 rfl) (tw hw 42 rfl) (len := 3) (wd := 2) (by decide) (by decide) (fun _ q => nomatch q)) rfl (lenOf pd_10 rfl) rfl (Nat.le_of_ble_eq_true rfl) d8_18 21 rfl 2 5 (Nat.le_of_ble_eq_true rfl) (Nat.le_of_ble_eq_true rfl) (Nat.le_of_ble_eq_true rfl) (Nat.le_of_ble_eq_true rfl) ?_
  intro v4 T4 h4 u4 W4 R4 hq
  obtain ⟨o4, c4, rfl, E4, g4, A4⟩ := hq
  show Own.Go _ _ _ _ _ 21 #[.val (.int ch)] [(.ref o4), (.ref o3), (.ref o3)]
  refine Own.iconst W4 d8_21 22 rfl (0 : Int32) rfl ?_
  have X5 : Ext h3 h4 := E4
  refine Own.callX W4 rfl (tw hw 48 rfl) (tw hw 49 rfl) (tw hw 50 rfl) (by decide) (argsL := [(.ref o4), (.int (0 : Int32))]) (rest := [(.ref o3)]) (Own.Con.pay (con_newBB hw hEL (x := o3) (b := o4) (cd := 0) rfl rfl W4.old (Nat.le_trans W0.n0 (Nat.le_of_eq g3.symm)) (A3.ext X5) (F3_value.ext X5) (F3_coder.ext X5)) W4 (tw hw 50 rfl) (tw hw 6 rfl) (len := 3) (wd := 1) (by decide) (by decide) (fun y hy => by cases List.mem_singleton.mp hy; exact ⟨(A3.ext X5).lt, (R4.safe A3.lt s3)⟩)) rfl (lenOf pd_11 rfl) rfl (Nat.le_of_ble_eq_true rfl) d8_22 25 rfl 2 5 (Nat.le_of_ble_eq_true rfl) (Nat.le_of_ble_eq_true rfl) (Nat.le_of_ble_eq_true rfl) (Nat.le_of_ble_eq_true rfl) ?_
  intro v6 T6 h6 u6 W6 R6 hq
  obtain ⟨rfl, K6, Ex6, Va6, Co6⟩ := hq
  show Own.Go _ _ _ _ _ 25 #[.val (.int ch)] [(.ref o3)]
  have X7 : Ext h h3 := E3
  have X8 : Ext h h4 := Own.Ext.tr X7 E4
  have X9 : Ext h h6 := Own.Ext.kp X8 K6 (allS (Nat.le_of_eq g3.symm) all0)
  exact Own.retA W6 (by decide) (by decide) rfl rfl rfl d8_25 ⟨o3, rfl, X9, (Nat.le_of_eq g3.symm), Ex6, Co6, by intro c hc; cases List.mem_singleton.mp hc; exact hch, Nat.le_of_ble_eq_true rfl, o4, c4, Va6, (A4.keep K6 (ninS (Ne.symm (Nat.ne_of_lt (Nat.lt_of_lt_of_le A3.lt g4))) nin0))⟩
set_option maxRecDepth 65536 in
set_option maxHeartbeats 40000000 in
theorem con_eqid {G : Own.Gl} (hw : ∀ d ∈ tables_1, d.before G.a0 G.Z = true) (hEL : EW G.Z G.a0 G.EL) (a : Addr) {h : Heap} (hO : Old G.Z G.n0 h) :
    Own.Con G [] bSEq #[.ref a, .ref a] h [] (fun v h' => v = some (.int 1) ∧ h' = h) := by
  refine Own.Con.intro (plainFor_of_name pn_6) hO hEL _ (fun m => ef_bSEq m a) ?_
  intro X T0 W0 sf
  refine Own.aloadN W0 d29_0 1 rfl (.ref a) rfl rfl ?_
  refine Own.aloadN W0 d29_1 2 rfl (.ref a) rfl rfl ?_
  refine Own.acmp W0 d29_2 5 rfl rfl true (decide_eq_true rfl) (by decide) rfl ?_
  refine Own.iconst W0 d29_5 6 rfl (1 : Int32) rfl ?_
  exact Own.retB W0 (by decide) (by decide) rfl d29_6 rfl ⟨rfl, rfl⟩
set_option maxRecDepth 65536 in
set_option maxHeartbeats 40000000 in
theorem con_mk {G : Own.Gl} (hw : ∀ d ∈ tables_1, d.before G.a0 G.Z = true) (hEL : EW G.Z G.a0 G.EL) (hmem : (Own.ST, 7) ∈ G.EL) {cz : Int32} (hS : Sta G.Z G.Z.heap Own.ST "COMPACT_STRINGS" "Z" (.int cz)) (hcz : ¬ cz = 0) (i : Int32) {h : Heap} (hO : Old G.Z G.n0 h) :
    Own.Con G [] bMk #[.int i] h [] (fun v h' => ∃ a : Addr, v = some (.ref a) ∧ Ext h h' ∧ h.size ≤ a ∧ Exa G.Z h' a "java/lang/String") := by
  refine Own.Con.intro (plainFor_of_name pn_8) hO hEL _ (fun m => ef_bMk m i) ?_
  intro X T0 W0 sf
  refine Own.iloadN W0 d1_0 1 rfl i rfl ?_
  refine Own.iconst W0 d1_1 2 rfl (3 : Int32) rfl ?_
  refine Own.iand W0 d1_2 3 rfl ?_
  refine Own.istoreN W0 d1_3 4 rfl #[.val (.int i), .val (.int (i &&& (3 : Int32))), .unset, .unset] rfl ?_
  refine Own.iloadN W0 d1_4 5 rfl i rfl ?_
  refine Own.iconst W0 d1_5 6 rfl (2 : Int32) rfl ?_
  refine Own.iushr W0 d1_6 7 rfl ?_
  refine Own.sipush W0 d1_7 10 rfl (255 : Int32) rfl ?_
  refine Own.iand W0 d1_10 11 rfl ?_
  refine Own.i2c W0 d1_11 12 rfl ?_
  refine Own.istoreN W0 d1_12 13 rfl #[.val (.int i), .val (.int (i &&& (3 : Int32))), .val (.int ((((i.toUInt32 >>> ((2 : Int32) &&& 31).toUInt32).toInt32) &&& (255 : Int32)).toUInt32.toUInt16.toUInt32.toInt32)), .unset] rfl ?_
  refine Own.iloadN W0 d1_13 14 rfl i rfl ?_
  refine Own.bipush W0 d1_14 16 rfl (10 : Int32) rfl ?_
  refine Own.iushr W0 d1_16 17 rfl ?_
  refine Own.sipush W0 d1_17 20 rfl (255 : Int32) rfl ?_
  refine Own.iand W0 d1_20 21 rfl ?_
  refine Own.i2c W0 d1_21 22 rfl ?_
  refine Own.istoreN W0 d1_22 23 rfl #[.val (.int i), .val (.int (i &&& (3 : Int32))), .val (.int ((((i.toUInt32 >>> ((2 : Int32) &&& 31).toUInt32).toInt32) &&& (255 : Int32)).toUInt32.toUInt16.toUInt32.toInt32)), .val (.int ((((i.toUInt32 >>> ((10 : Int32) &&& 31).toUInt32).toInt32) &&& (255 : Int32)).toUInt32.toUInt16.toUInt32.toInt32))] rfl ?_
  refine Own.iloadN W0 d1_23 24 rfl (i &&& (3 : Int32)) rfl ?_
  by_cases e0 : (i &&& (3 : Int32)) = (0 : Int32)
  · skip
    refine Own.ifNo W0 d1_24 27 (XT.i0_ne_f e0) rfl ?_
    refine Own.newO W0 (tw hw 4 rfl) (tw hw 5 rfl) (tw hw 6 rfl) d1_27 30 rfl 1 4 (by decide) (by decide) (by decide) (by decide) ?_
    intro T1 h1 o1 g1 W1 E1 A1 D1 s1 k1
    have F1_value : Fld G.Z h1 o1 "java/lang/String" "value" "[B" .null := D1 (Or.inr (tw hw 20 rfl)) (ty := (.array .byte)) (by decide)
    have F1_coder : Fld G.Z h1 o1 "java/lang/String" "coder" "B" (.int (0 : Int32)) := D1 (Or.inr (tw hw 21 rfl)) (ty := .byte) (by decide)
    refine Own.dup W1 d1_30 31 rfl rfl ?_
    refine Own.iconst W1 d1_31 32 rfl (0 : Int32) rfl ?_
    refine Own.newA W1 (tw hw 7 rfl) d1_32 34 rfl (by decide) 0 (by decide) (by decide) 2 4 (by decide) (by decide) (by decide) (by decide) ?_
    intro T2 h2 o2 c2 g2 W2 E2 A2 s2 k2
    have V2 : Arv G.Z h2 o2 c2 .char (0 : Int32) [] (.int (0 : Int32)) := A2
    have X3 : Ext h1 h2 := E2
    refine Own.callX W2 rfl (tw hw 8 rfl) (tw hw 9 rfl) (tw hw 10 rfl) (by decide) (argsL := [(.ref o2)]) (rest := [(.ref o1)]) (Own.payStr (wS hw) hEL hmem W2 (cs := []) (z := (0 : Int32)) (cz := cz) (Nat.le_trans W0.n0 (Nat.le_of_eq g1.symm)) (k2 o1 s1) (A1.ext X3) (F1_value.ext X3) (F1_coder.ext X3) (V2) rfl (by intro c hc; cases hc) (Nat.le_of_ble_eq_true rfl) hS hcz (len := 3) (wd := 1) (by decide) (by decide)) rfl (lenOf pd_12 rfl) rfl (Nat.le_of_ble_eq_true rfl) d1_34 37 rfl 6 12 (Nat.le_of_ble_eq_true rfl) (Nat.le_of_ble_eq_true rfl) (Nat.le_of_ble_eq_true rfl) (Nat.le_of_ble_eq_true rfl) ?_
    intro v4 T4 h4 u4 W4 R4 hq
    obtain ⟨rfl, K4, F4⟩ := hq
    show Own.Go _ _ _ _ _ 37 #[.val (.int i), .val (.int (i &&& (3 : Int32))), .val (.int ((((i.toUInt32 >>> ((2 : Int32) &&& 31).toUInt32).toInt32) &&& (255 : Int32)).toUInt32.toUInt16.toUInt32.toInt32)), .val (.int ((((i.toUInt32 >>> ((10 : Int32) &&& 31).toUInt32).toInt32) &&& (255 : Int32)).toUInt32.toUInt16.toUInt32.toInt32))] [(.ref o1)]
    have X5 : Ext h h1 := E1
    have X6 : Ext h h2 := Own.Ext.tr X5 E2
    have X7 : Ext h h4 := Own.Ext.kp X6 K4 (allS (Nat.le_of_eq g1.symm) all0)
    exact Own.retA W4 (by decide) (by decide) rfl rfl rfl d1_37 ⟨o1, rfl, X7, (Nat.le_of_eq g1.symm), F4.exa⟩
  · skip
    refine Own.ifYes W0 d1_24 38 (XT.i0_ne_t e0) (by decide) (by decide) ?_
    refine Own.iloadN W0 d1_38 39 rfl (i &&& (3 : Int32)) rfl ?_
    refine Own.iconst W0 d1_39 40 rfl (1 : Int32) rfl ?_
    by_cases e1 : (i &&& (3 : Int32)) = (1 : Int32)
    · skip
      refine Own.icmpNo W0 d1_40 43 (XT.ii_ne_f e1) rfl ?_
      refine Own.iloadN W0 d1_43 44 rfl ((((i.toUInt32 >>> ((2 : Int32) &&& 31).toUInt32).toInt32) &&& (255 : Int32)).toUInt32.toUInt16.toUInt32.toInt32) rfl ?_
      refine Own.callS W0 (tw hw 37 rfl) (tw hw 38 rfl) (tw hw 6 rfl) (tw hw 39 rfl) (by decide) (argsL := [(.int ((((i.toUInt32 >>> ((2 : Int32) &&& 31).toUInt32).toInt32) &&& (255 : Int32)).toUInt32.toUInt16.toUInt32.toInt32))]) (rest := []) (Own.Con.pay (con_valOf hw hEL hmem hS hcz ((((i.toUInt32 >>> ((2 : Int32) &&& 31).toUInt32).toInt32) &&& (255 : Int32)).toUInt32.toUInt16.toUInt32.toInt32) (Own.lo_rng _) W0.old) W0 (tw hw 39 rfl) (tw hw 6 rfl) (len := 3) (wd := 0) (by decide) (by decide) (fun _ q => nomatch q)) rfl (lenOf pd_13 rfl) rfl (Nat.le_of_ble_eq_true rfl) d1_44 47 rfl 2 5 (Nat.le_of_ble_eq_true rfl) (Nat.le_of_ble_eq_true rfl) (Nat.le_of_ble_eq_true rfl) (Nat.le_of_ble_eq_true rfl) ?_
      intro v8 T8 h8 u8 W8 R8 hq
      obtain ⟨o8, rfl, E8, g8, F8⟩ := hq
      show Own.Go _ _ _ _ _ 47 #[.val (.int i), .val (.int (i &&& (3 : Int32))), .val (.int ((((i.toUInt32 >>> ((2 : Int32) &&& 31).toUInt32).toInt32) &&& (255 : Int32)).toUInt32.toUInt16.toUInt32.toInt32)), .val (.int ((((i.toUInt32 >>> ((10 : Int32) &&& 31).toUInt32).toInt32) &&& (255 : Int32)).toUInt32.toUInt16.toUInt32.toInt32))] [(.ref o8)]
      have X9 : Ext h h8 := E8
      exact Own.retA W8 (by decide) (by decide) rfl rfl rfl d1_47 ⟨o8, rfl, X9, g8, F8.exa⟩
    · skip
      refine Own.icmpYes W0 d1_40 48 (XT.ii_ne_t e1) (by decide) (by decide) ?_
      refine Own.newO W0 (tw hw 4 rfl) (tw hw 5 rfl) (tw hw 6 rfl) d1_48 51 rfl 1 4 (by decide) (by decide) (by decide) (by decide) ?_
      intro T10 h10 o10 g10 W10 E10 A10 D10 s10 k10
      have F10_value : Fld G.Z h10 o10 "java/lang/String" "value" "[B" .null := D10 (Or.inr (tw hw 20 rfl)) (ty := (.array .byte)) (by decide)
      have F10_coder : Fld G.Z h10 o10 "java/lang/String" "coder" "B" (.int (0 : Int32)) := D10 (Or.inr (tw hw 21 rfl)) (ty := .byte) (by decide)
      refine Own.dup W10 d1_51 52 rfl rfl ?_
      refine Own.iconst W10 d1_52 53 rfl (2 : Int32) rfl ?_
      refine Own.newA W10 (tw hw 7 rfl) d1_53 55 rfl (by decide) 2 (by decide) (by decide) 2 6 (by decide) (by decide) (by decide) (by decide) ?_
      intro T11 h11 o11 c11 g11 W11 E11 A11 s11 k11
      have V11 : Arv G.Z h11 o11 c11 .char (2 : Int32) [(.int (0 : Int32)), (.int (0 : Int32))] (.int (0 : Int32)) := A11
      refine Own.dup W11 d1_55 56 rfl rfl ?_
      refine Own.iconst W11 d1_56 57 rfl (0 : Int32) rfl ?_
      refine Own.iloadN W11 d1_57 58 rfl ((((i.toUInt32 >>> ((2 : Int32) &&& 31).toUInt32).toInt32) &&& (255 : Int32)).toUInt32.toUInt16.toUInt32.toInt32) rfl ?_
      have X13 : Ext h h10 := E10
      refine Own.castore W11 V11 0 (by decide) (by decide) (Nat.le_of_ble_eq_true rfl) (Nat.le_trans W0.n0 (Nat.le_trans X13.1 (Nat.le_of_eq g11.symm))) (x' := ((((i.toUInt32 >>> ((2 : Int32) &&& 31).toUInt32).toInt32) &&& (255 : Int32)).toUInt32.toUInt16.toUInt32.toInt32)) (Own.nar_lo _) d1_58 59 rfl ?_
      intro T12 h12 W12 Q12 A12 k12
      have V12 : Arv G.Z h12 o11 c11 .char (2 : Int32) [(.int ((((i.toUInt32 >>> ((2 : Int32) &&& 31).toUInt32).toInt32) &&& (255 : Int32)).toUInt32.toUInt16.toUInt32.toInt32)), (.int (0 : Int32))] (.int (0 : Int32)) := A12
      refine Own.dup W12 d1_59 60 rfl rfl ?_
      refine Own.iconst W12 d1_60 61 rfl (1 : Int32) rfl ?_
      refine Own.iloadN W12 d1_61 62 rfl ((((i.toUInt32 >>> ((10 : Int32) &&& 31).toUInt32).toInt32) &&& (255 : Int32)).toUInt32.toUInt16.toUInt32.toInt32) rfl ?_
      refine Own.castore W12 V12 1 (by decide) (by decide) (Nat.le_of_ble_eq_true rfl) (Nat.le_trans W0.n0 (Nat.le_trans X13.1 (Nat.le_of_eq g11.symm))) (x' := ((((i.toUInt32 >>> ((10 : Int32) &&& 31).toUInt32).toInt32) &&& (255 : Int32)).toUInt32.toUInt16.toUInt32.toInt32)) (Own.nar_lo _) d1_62 63 rfl ?_
      intro T14 h14 W14 Q14 A14 k14
      have V14 : Arv G.Z h14 o11 c11 .char (2 : Int32) [(.int ((((i.toUInt32 >>> ((2 : Int32) &&& 31).toUInt32).toInt32) &&& (255 : Int32)).toUInt32.toUInt16.toUInt32.toInt32)), (.int ((((i.toUInt32 >>> ((10 : Int32) &&& 31).toUInt32).toInt32) &&& (255 : Int32)).toUInt32.toUInt16.toUInt32.toInt32))] (.int (0 : Int32)) := A14
      have X15 : Ext h10 h11 := E11
      have X16 : Ext h10 h12 := Own.Ext.wr' X15 Q12 (Nat.le_of_eq g11.symm)
      have X17 : Ext h10 h14 := Own.Ext.wr' X16 Q14 (Nat.le_of_eq g11.symm)
      refine Own.callX W14 rfl (tw hw 8 rfl) (tw hw 9 rfl) (tw hw 10 rfl) (by decide) (argsL := [(.ref o11)]) (rest := [(.ref o10)]) (Own.payStr (wS hw) hEL hmem W14 (cs := [((((i.toUInt32 >>> ((2 : Int32) &&& 31).toUInt32).toInt32) &&& (255 : Int32)).toUInt32.toUInt16.toUInt32.toInt32), ((((i.toUInt32 >>> ((10 : Int32) &&& 31).toUInt32).toInt32) &&& (255 : Int32)).toUInt32.toUInt16.toUInt32.toInt32)]) (z := (2 : Int32)) (cz := cz) (Nat.le_trans W0.n0 (Nat.le_of_eq g10.symm)) (k14 o10 (k12 o10 (k11 o10 s10))) (A10.ext X17) (F10_value.ext X17) (F10_coder.ext X17) (V14) rfl (by intro c hc; simp only [List.mem_cons, List.not_mem_nil, or_false] at hc; rcases hc with rfl | rfl <;> exact Own.lo_rng _) (Nat.le_of_ble_eq_true rfl) hS hcz (len := 3) (wd := 1) (by decide) (by decide)) rfl (lenOf pd_12 rfl) rfl (Nat.le_of_ble_eq_true rfl) d1_63 66 rfl 6 16 (Nat.le_of_ble_eq_true rfl) (Nat.le_of_ble_eq_true rfl) (Nat.le_of_ble_eq_true rfl) (Nat.le_of_ble_eq_true rfl) ?_
      intro v18 T18 h18 u18 W18 R18 hq
      obtain ⟨rfl, K18, F18⟩ := hq
      show Own.Go _ _ _ _ _ 66 #[.val (.int i), .val (.int (i &&& (3 : Int32))), .val (.int ((((i.toUInt32 >>> ((2 : Int32) &&& 31).toUInt32).toInt32) &&& (255 : Int32)).toUInt32.toUInt16.toUInt32.toInt32)), .val (.int ((((i.toUInt32 >>> ((10 : Int32) &&& 31).toUInt32).toInt32) &&& (255 : Int32)).toUInt32.toUInt16.toUInt32.toInt32))] [(.ref o10)]
      have X19 : Ext h h11 := Own.Ext.tr X13 E11
      have X20 : Ext h h12 := Own.Ext.wr' X19 Q12 (Nat.le_trans X13.1 (Nat.le_of_eq g11.symm))
      have X21 : Ext h h14 := Own.Ext.wr' X20 Q14 (Nat.le_trans X13.1 (Nat.le_of_eq g11.symm))
      have X22 : Ext h h18 := Own.Ext.kp X21 K18 (allS (Nat.le_of_eq g10.symm) all0)
      exact Own.retA W18 (by decide) (by decide) rfl rfl rfl d1_66 ⟨o10, rfl, X22, (Nat.le_of_eq g10.symm), F18.exa⟩
set_option maxRecDepth 65536 in
set_option maxHeartbeats 40000000 in
theorem con_law {G : Own.Gl} (hw : ∀ d ∈ tables_1, d.before G.a0 G.Z = true) (hEL : EW G.Z G.a0 G.EL) (hmem : (Own.ST, 7) ∈ G.EL) {cz : Int32} (hS : Sta G.Z G.Z.heap Own.ST "COMPACT_STRINGS" "Z" (.int cz)) (hcz : ¬ cz = 0) {dc : Addr} {kD : ClassId} (DS : Sta G.Z G.Z.heap "java/util/ArrayList" "DEFAULTCAPACITY_EMPTY_ELEMENTDATA" "[Ljava/lang/Object;" (.ref dc)) (DA : Arv G.Z G.Z.heap dc kD (.object "java/lang/Object") 0 [] .null) (p0 : Int32) (p1 : Int32) (p2 : Int32) (p3 : Int32) {h : Heap} (hO : Old G.Z G.n0 h) :
    Own.Con G tables_1 bLaw #[.int p0, .int p1, .int p2, .int p3] h [] (fun v h' => v = some (.int 1)) := by
  refine Own.Con.intro (plainFor_of_name pn_8) hO hEL _ (fun m => ef_law m p0 p1 p2 p3) ?_
  intro X T0 W0 sf
  refine Own.iloadN W0 at_0 1 rfl p0 rfl ?_
  refine Own.callS W0 (tw hw 0 rfl) (tw hw 1 rfl) (tw hw 2 rfl) (tw hw 3 rfl) (by decide) (argsL := [(.int p0)]) (rest := []) (Own.Con.pay (con_mk hw hEL hmem hS hcz _ W0.old) W0 (tw hw 3 rfl) (tw hw 2 rfl) (len := 3) (wd := 0) (by decide) (by decide) (fun _ q => nomatch q)) rfl (lenOf pd_14 rfl) rfl (Nat.le_of_ble_eq_true rfl) at_1 4 rfl 6 16 (Nat.le_of_ble_eq_true rfl) (Nat.le_of_ble_eq_true rfl) (Nat.le_of_ble_eq_true rfl) (Nat.le_of_ble_eq_true rfl) ?_
  intro v1 T1 h1 u1 W1 R1 hq
  obtain ⟨o1, rfl, E1, g1, F1⟩ := hq
  show Own.Go _ _ _ _ _ 4 #[.val (.int p0), .val (.int p1), .val (.int p2), .val (.int p3), .unset, .unset, .unset, .unset, .unset, .unset, .unset, .unset, .unset, .unset, .unset, .unset, .unset] [(.ref o1)]
  refine Own.astore W1 at_4 6 rfl rfl #[.val (.int p0), .val (.int p1), .val (.int p2), .val (.int p3), .val (.ref o1), .unset, .unset, .unset, .unset, .unset, .unset, .unset, .unset, .unset, .unset, .unset, .unset] rfl ?_
  refine Own.iloadN W1 at_6 7 rfl p1 rfl ?_
  refine Own.callS W1 (tw hw 0 rfl) (tw hw 1 rfl) (tw hw 2 rfl) (tw hw 3 rfl) (by decide) (argsL := [(.int p1)]) (rest := []) (Own.Con.pay (con_mk hw hEL hmem hS hcz _ W1.old) W1 (tw hw 3 rfl) (tw hw 2 rfl) (len := 3) (wd := 0) (by decide) (by decide) (fun _ q => nomatch q)) rfl (lenOf pd_14 rfl) rfl (Nat.le_of_ble_eq_true rfl) at_7 10 rfl 12 32 (Nat.le_of_ble_eq_true rfl) (Nat.le_of_ble_eq_true rfl) (Nat.le_of_ble_eq_true rfl) (Nat.le_of_ble_eq_true rfl) ?_
  intro v2 T2 h2 u2 W2 R2 hq
  obtain ⟨o2, rfl, E2, g2, F2⟩ := hq
  show Own.Go _ _ _ _ _ 10 #[.val (.int p0), .val (.int p1), .val (.int p2), .val (.int p3), .val (.ref o1), .unset, .unset, .unset, .unset, .unset, .unset, .unset, .unset, .unset, .unset, .unset, .unset] [(.ref o2)]
  refine Own.astore W2 at_10 12 rfl rfl #[.val (.int p0), .val (.int p1), .val (.int p2), .val (.int p3), .val (.ref o1), .val (.ref o2), .unset, .unset, .unset, .unset, .unset, .unset, .unset, .unset, .unset, .unset, .unset] rfl ?_
  refine Own.iloadN W2 at_12 13 rfl p2 rfl ?_
  refine Own.callS W2 (tw hw 0 rfl) (tw hw 1 rfl) (tw hw 2 rfl) (tw hw 3 rfl) (by decide) (argsL := [(.int p2)]) (rest := []) (Own.Con.pay (con_mk hw hEL hmem hS hcz _ W2.old) W2 (tw hw 3 rfl) (tw hw 2 rfl) (len := 3) (wd := 0) (by decide) (by decide) (fun _ q => nomatch q)) rfl (lenOf pd_14 rfl) rfl (Nat.le_of_ble_eq_true rfl) at_13 16 rfl 18 48 (Nat.le_of_ble_eq_true rfl) (Nat.le_of_ble_eq_true rfl) (Nat.le_of_ble_eq_true rfl) (Nat.le_of_ble_eq_true rfl) ?_
  intro v3 T3 h3 u3 W3 R3 hq
  obtain ⟨o3, rfl, E3, g3, F3⟩ := hq
  show Own.Go _ _ _ _ _ 16 #[.val (.int p0), .val (.int p1), .val (.int p2), .val (.int p3), .val (.ref o1), .val (.ref o2), .unset, .unset, .unset, .unset, .unset, .unset, .unset, .unset, .unset, .unset, .unset] [(.ref o3)]
  refine Own.astore W3 at_16 18 rfl rfl #[.val (.int p0), .val (.int p1), .val (.int p2), .val (.int p3), .val (.ref o1), .val (.ref o2), .val (.ref o3), .unset, .unset, .unset, .unset, .unset, .unset, .unset, .unset, .unset, .unset] rfl ?_
  refine Own.iloadN W3 at_18 19 rfl p3 rfl ?_
  refine Own.callS W3 (tw hw 0 rfl) (tw hw 1 rfl) (tw hw 2 rfl) (tw hw 3 rfl) (by decide) (argsL := [(.int p3)]) (rest := []) (Own.Con.pay (con_mk hw hEL hmem hS hcz _ W3.old) W3 (tw hw 3 rfl) (tw hw 2 rfl) (len := 3) (wd := 0) (by decide) (by decide) (fun _ q => nomatch q)) rfl (lenOf pd_14 rfl) rfl (Nat.le_of_ble_eq_true rfl) at_19 22 rfl 24 64 (Nat.le_of_ble_eq_true rfl) (Nat.le_of_ble_eq_true rfl) (Nat.le_of_ble_eq_true rfl) (Nat.le_of_ble_eq_true rfl) ?_
  intro v4 T4 h4 u4 W4 R4 hq
  obtain ⟨o4, rfl, E4, g4, F4⟩ := hq
  show Own.Go _ _ _ _ _ 22 #[.val (.int p0), .val (.int p1), .val (.int p2), .val (.int p3), .val (.ref o1), .val (.ref o2), .val (.ref o3), .unset, .unset, .unset, .unset, .unset, .unset, .unset, .unset, .unset, .unset] [(.ref o4)]
  refine Own.astore W4 at_22 24 rfl rfl #[.val (.int p0), .val (.int p1), .val (.int p2), .val (.int p3), .val (.ref o1), .val (.ref o2), .val (.ref o3), .val (.ref o4), .unset, .unset, .unset, .unset, .unset, .unset, .unset, .unset, .unset] rfl ?_
  refine Own.iloadN W4 at_24 25 rfl p3 rfl ?_
  refine Own.bipush W4 at_25 27 rfl (18 : Int32) rfl ?_
  refine Own.iushr W4 at_27 28 rfl ?_
  refine Own.iconst W4 at_28 29 rfl (1 : Int32) rfl ?_
  refine Own.iand W4 at_29 30 rfl ?_
  by_cases e0 : (((p3.toUInt32 >>> ((18 : Int32) &&& 31).toUInt32).toInt32) &&& (1 : Int32)) = (0 : Int32)
  · skip
    refine Own.ifYes W4 at_30 37 (XT.i0_eq_t e0) (by decide) (by decide) ?_
    refine Own.iconst W4 at_37 38 rfl (0 : Int32) rfl ?_
    refine Own.istore W4 at_38 40 rfl #[.val (.int p0), .val (.int p1), .val (.int p2), .val (.int p3), .val (.ref o1), .val (.ref o2), .val (.ref o3), .val (.ref o4), .val (.int (0 : Int32)), .unset, .unset, .unset, .unset, .unset, .unset, .unset, .unset] rfl ?_
    refine Own.iloadN W4 at_40 41 rfl p3 rfl ?_
    refine Own.bipush W4 at_41 43 rfl (19 : Int32) rfl ?_
    refine Own.iushr W4 at_43 44 rfl ?_
    refine Own.iconst W4 at_44 45 rfl (1 : Int32) rfl ?_
    refine Own.iand W4 at_45 46 rfl ?_
    by_cases e1 : (((p3.toUInt32 >>> ((19 : Int32) &&& 31).toUInt32).toInt32) &&& (1 : Int32)) = (0 : Int32)
    · skip
      refine Own.ifYes W4 at_46 53 (XT.i0_eq_t e1) (by decide) (by decide) ?_
      refine Own.iconst W4 at_53 54 rfl (0 : Int32) rfl ?_
      refine Own.istore W4 at_54 56 rfl #[.val (.int p0), .val (.int p1), .val (.int p2), .val (.int p3), .val (.ref o1), .val (.ref o2), .val (.ref o3), .val (.ref o4), .val (.int (0 : Int32)), .val (.int (0 : Int32)), .unset, .unset, .unset, .unset, .unset, .unset, .unset] rfl ?_
      refine Own.newO W4 (tw hw 51 rfl) (tw hw 52 rfl) (tw hw 53 rfl) at_56 59 rfl 25 67 (by decide) (by decide) (by decide) (by decide) ?_
      intro T5 h5 o5 g5 W5 E5 A5 D5 s5 k5
      have F5_before : Fld G.Z h5 o5 "com/example/kickstand/kickstand/CommandDecoration" "before" "Ljava/util/List;" .null := D5 (Or.inr (tw hw 83 rfl)) (ty := (.object "java/util/List")) (by decide)
      have F5_beside : Fld G.Z h5 o5 "com/example/kickstand/kickstand/CommandDecoration" "beside" "Ljava/util/List;" .null := D5 (Or.inr (tw hw 85 rfl)) (ty := (.object "java/util/List")) (by decide)
      have F5_name : Fld G.Z h5 o5 "com/example/kickstand/kickstand/CommandDecoration" "name" "Ljava/lang/String;" .null := D5 (Or.inr (tw hw 93 rfl)) (ty := (.object "java/lang/String")) (by decide)
      refine Own.dup W5 at_59 60 rfl rfl ?_
      refine Own.aload W5 at_60 62 rfl (.ref o1) rfl rfl ?_
      have X6 : Ext h h1 := E1
      have X7 : Ext h h2 := Own.Ext.tr X6 E2
      have X8 : Ext h h3 := Own.Ext.tr X7 E3
      have X9 : Ext h h4 := Own.Ext.tr X8 E4
      have X10 : Ext h1 h2 := E2
      have X11 : Ext h1 h3 := Own.Ext.tr X10 E3
      have X12 : Ext h1 h4 := Own.Ext.tr X11 E4
      have X13 : Ext h1 h5 := Own.Ext.tr X12 E5
      refine Own.callX W5 rfl (tw hw 54 rfl) (tw hw 55 rfl) (tw hw 56 rfl) (by decide) (argsL := [(.ref o1)]) (rest := [(.ref o5)]) (Own.Con.pay (con_cd hw hEL DS DA W5.old (Nat.le_trans W0.n0 (Nat.le_trans X9.1 (Nat.le_of_eq g5.symm))) A5 (F1.ext X13) F5_before F5_beside F5_name) W5 (tw hw 56 rfl) (tw hw 53 rfl) (len := 3) (wd := 1) (by decide) (by decide) (fun _ q => nomatch q)) rfl (lenOf pd_15 rfl) rfl (Nat.le_of_ble_eq_true rfl) at_62 65 rfl 29 93 (Nat.le_of_ble_eq_true rfl) (Nat.le_of_ble_eq_true rfl) (Nat.le_of_ble_eq_true rfl) (Nat.le_of_ble_eq_true rfl) ?_
      intro v14 T14 h14 u14 W14 R14 hq
      obtain ⟨rfl, K14, p14, q14, gp14, gq14, ne14, ⟨E14, F114, F214, F314⟩, L114, L214⟩ := hq
      show Own.Go _ _ _ _ _ 65 #[.val (.int p0), .val (.int p1), .val (.int p2), .val (.int p3), .val (.ref o1), .val (.ref o2), .val (.ref o3), .val (.ref o4), .val (.int (0 : Int32)), .val (.int (0 : Int32)), .unset, .unset, .unset, .unset, .unset, .unset, .unset] [(.ref o5)]
      refine Own.astore W14 at_65 67 rfl rfl #[.val (.int p0), .val (.int p1), .val (.int p2), .val (.int p3), .val (.ref o1), .val (.ref o2), .val (.ref o3), .val (.ref o4), .val (.int (0 : Int32)), .val (.int (0 : Int32)), .val (.ref o5), .unset, .unset, .unset, .unset, .unset, .unset] rfl ?_
      refine Own.iload W14 at_67 69 rfl (0 : Int32) rfl ?_
      refine Own.ifYes W14 at_69 80 (by decide) (by decide) (by decide) ?_
      refine Own.aload W14 at_80 82 rfl (.ref o5) rfl rfl ?_
      refine Own.aload W14 at_82 84 rfl (.ref o2) rfl rfl ?_
      have X15 : Ext h h5 := Own.Ext.tr X9 E5
      have X16 : Ext h2 h3 := E3
      have X17 : Ext h2 h4 := Own.Ext.tr X16 E4
      have X18 : Ext h2 h5 := Own.Ext.tr X17 E5
      have X19 : Ext h2 h14 := Own.Ext.kp X18 K14 (allS (Nat.le_trans X17.1 (Nat.le_of_eq g5.symm)) all0)
      refine Own.callV W14 (tw hw 94 rfl) (tw hw 95 rfl) (fun s q => notFace_of_selects (args := #[]) (mvT (s := s) q (tw hw 97 rfl))) (tw hw 97 rfl) (tw hw 96 rfl) (by decide) (argsL := [(.ref o2)]) (rest := []) (Own.Con.pay (con_runBeside_0 hw hEL DS DA W14.old (Nat.le_trans W0.n0 (Nat.le_trans X15.1 gq14)) F214 L214 (F2.ext X19)) W14 (tw hw 98 rfl) (tw hw 53 rfl) (len := 3) (wd := 0) (by decide) (by decide) (fun _ q => nomatch q)) E14 rfl (lenOf pd_16 rfl) rfl (Nat.le_of_ble_eq_true rfl) at_84 87 rfl 32 135 (Nat.le_of_ble_eq_true rfl) (Nat.le_of_ble_eq_true rfl) (Nat.le_of_ble_eq_true rfl) (Nat.le_of_ble_eq_true rfl) ?_
      intro v20 T20 h20 u20 W20 R20 hq
      obtain ⟨rfl, e20, c20, K20, g20, L20, A20, O20⟩ := hq
      show Own.Go _ _ _ _ _ 87 #[.val (.int p0), .val (.int p1), .val (.int p2), .val (.int p3), .val (.ref o1), .val (.ref o2), .val (.ref o3), .val (.ref o4), .val (.int (0 : Int32)), .val (.int (0 : Int32)), .val (.ref o5), .unset, .unset, .unset, .unset, .unset, .unset] [(.ref o5)]
      refine Own.astore W20 at_87 89 rfl rfl #[.val (.int p0), .val (.int p1), .val (.int p2), .val (.int p3), .val (.ref o1), .val (.ref o2), .val (.ref o3), .val (.ref o4), .val (.int (0 : Int32)), .val (.int (0 : Int32)), .val (.ref o5), .val (.ref o5), .unset, .unset, .unset, .unset, .unset] rfl ?_
      refine Own.aload W20 at_89 91 rfl (.ref o5) rfl rfl ?_
      refine Own.astore W20 at_91 93 rfl rfl #[.val (.int p0), .val (.int p1), .val (.int p2), .val (.int p3), .val (.ref o1), .val (.ref o2), .val (.ref o3), .val (.ref o4), .val (.int (0 : Int32)), .val (.int (0 : Int32)), .val (.ref o5), .val (.ref o5), .val (.ref o5), .unset, .unset, .unset, .unset] rfl ?_
      refine Own.iload W20 at_93 95 rfl (0 : Int32) rfl ?_
      refine Own.ifYes W20 at_95 107 (by decide) (by decide) (by decide) ?_
      refine Own.aload W20 at_107 109 rfl (.ref o5) rfl rfl ?_
      refine Own.aload W20 at_109 111 rfl (.ref o5) rfl rfl ?_
      refine Own.acmp W20 at_111 114 rfl rfl true (decide_eq_true rfl) (by decide) rfl ?_
      refine Own.aload W20 at_114 116 rfl (.ref o5) rfl rfl ?_
      refine Own.aload W20 at_116 118 rfl (.ref o5) rfl rfl ?_
      refine Own.acmp W20 at_118 123 rfl rfl true (decide_eq_true rfl) (by decide) rfl ?_
      refine Own.aload W20 at_123 125 rfl (.ref o5) rfl rfl ?_
      refine Own.callV W20 (tw hw 135 rfl) (tw hw 136 rfl) (fun s q => notFace_of_selects (args := #[]) (mvT (s := s) q (tw hw 138 rfl))) (tw hw 138 rfl) (tw hw 137 rfl) (by decide) (argsL := []) (rest := []) (Own.Con.pay (con_b_get_beside hw hEL W20.old (F214.keep K20 (ninS (Nat.ne_of_lt (Nat.lt_of_lt_of_le A5.lt gq14)) nin0))) W20 (tw hw 139 rfl) (tw hw 53 rfl) (len := 3) (wd := 0) (by decide) (by decide) (fun _ q => nomatch q)) (E14.keep K20) rfl (lenOf pd_17 rfl) rfl (Nat.le_of_ble_eq_true rfl) at_125 128 rfl 32 135 (Nat.le_of_ble_eq_true rfl) (Nat.le_of_ble_eq_true rfl) (Nat.le_of_ble_eq_true rfl) (Nat.le_of_ble_eq_true rfl) ?_
      intro v21 T21 h21 u21 W21 R21 hq
      obtain ⟨rfl, eh21⟩ := hq
      have ei21 := eh21.symm; subst ei21
      show Own.Go _ _ _ _ _ 128 #[.val (.int p0), .val (.int p1), .val (.int p2), .val (.int p3), .val (.ref o1), .val (.ref o2), .val (.ref o3), .val (.ref o4), .val (.int (0 : Int32)), .val (.int (0 : Int32)), .val (.ref o5), .val (.ref o5), .val (.ref o5), .unset, .unset, .unset, .unset] [(.ref q14)]
      refine Own.astore W21 at_128 130 rfl rfl #[.val (.int p0), .val (.int p1), .val (.int p2), .val (.int p3), .val (.ref o1), .val (.ref o2), .val (.ref o3), .val (.ref o4), .val (.int (0 : Int32)), .val (.int (0 : Int32)), .val (.ref o5), .val (.ref o5), .val (.ref o5), .val (.ref q14), .unset, .unset, .unset] rfl ?_
      refine Own.iload W21 at_130 132 rfl (0 : Int32) rfl ?_
      refine Own.ifYes W21 at_132 139 (by decide) (by decide) (by decide) ?_
      refine Own.iconst W21 at_139 140 rfl (1 : Int32) rfl ?_
      refine Own.istore W21 at_140 142 rfl #[.val (.int p0), .val (.int p1), .val (.int p2), .val (.int p3), .val (.ref o1), .val (.ref o2), .val (.ref o3), .val (.ref o4), .val (.int (0 : Int32)), .val (.int (0 : Int32)), .val (.ref o5), .val (.ref o5), .val (.ref o5), .val (.ref q14), .val (.int (1 : Int32)), .unset, .unset] rfl ?_
      refine Own.aload W21 at_142 144 rfl (.ref q14) rfl rfl ?_
      have XL22 := L20.exa
      refine Own.callI W21 (tw hw 140 rfl) (tw hw 141 rfl) (tw hw 142 rfl) rfl (tw hw 143 rfl) (tw hw 144 rfl) (tw hw 145 rfl) (tw hw 146 rfl) (tw hw 107 rfl) (by decide) (argsL := []) (rest := []) (Own.Con.pay (con_sz hw hEL W21.old L20) W21 (tw hw 147 rfl) (tw hw 60 rfl) (len := 5) (wd := 0) (by decide) (by decide) (fun _ q => nomatch q)) XL22 rfl (lenOf pd_18 rfl) rfl (Nat.le_of_ble_eq_true rfl) at_144 149 rfl 32 135 (Nat.le_of_ble_eq_true rfl) (Nat.le_of_ble_eq_true rfl) (Nat.le_of_ble_eq_true rfl) (Nat.le_of_ble_eq_true rfl) ?_
      intro v23 T23 h23 u23 W23 R23 hq
      obtain ⟨rfl, eh23⟩ := hq
      have ei23 := eh23.symm; subst ei23
      show Own.Go _ _ _ _ _ 149 #[.val (.int p0), .val (.int p1), .val (.int p2), .val (.int p3), .val (.ref o1), .val (.ref o2), .val (.ref o3), .val (.ref o4), .val (.int (0 : Int32)), .val (.int (0 : Int32)), .val (.ref o5), .val (.ref o5), .val (.ref o5), .val (.ref q14), .val (.int (1 : Int32)), .unset, .unset] [(.int (1 : Int32))]
      refine Own.iload W23 at_149 151 rfl (1 : Int32) rfl ?_
      refine Own.icmpYes W23 at_151 156 (by decide) (by decide) (by decide) ?_
      refine Own.aload W23 at_156 158 rfl (.ref o2) rfl rfl ?_
      refine Own.aload W23 at_158 160 rfl (.ref q14) rfl rfl ?_
      refine Own.iconst W23 at_160 161 rfl (0 : Int32) rfl ?_
      have XL24 := L20.exa
      refine Own.callI W23 (tw hw 148 rfl) (tw hw 149 rfl) (tw hw 150 rfl) rfl (tw hw 151 rfl) (tw hw 152 rfl) (tw hw 153 rfl) (tw hw 154 rfl) (tw hw 107 rfl) (by decide) (argsL := [(.int (0 : Int32))]) (rest := [(.ref o2)]) (Own.Con.pay (con_get hw hEL (0 : Int32) (by decide) (by decide) (by decide) W23.old L20 A20 (y := o2) rfl) W23 (tw hw 155 rfl) (tw hw 60 rfl) (len := 5) (wd := 1) (by decide) (by decide) (fun _ q => nomatch q)) XL24 rfl (lenOf pd_6 rfl) rfl (Nat.le_of_ble_eq_true rfl) at_161 166 rfl 32 135 (Nat.le_of_ble_eq_true rfl) (Nat.le_of_ble_eq_true rfl) (Nat.le_of_ble_eq_true rfl) (Nat.le_of_ble_eq_true rfl) ?_
      intro v25 T25 h25 u25 W25 R25 hq
      obtain ⟨rfl, eh25⟩ := hq
      have ei25 := eh25.symm; subst ei25
      show Own.Go _ _ _ _ _ 166 #[.val (.int p0), .val (.int p1), .val (.int p2), .val (.int p3), .val (.ref o1), .val (.ref o2), .val (.ref o3), .val (.ref o4), .val (.int (0 : Int32)), .val (.int (0 : Int32)), .val (.ref o5), .val (.ref o5), .val (.ref o5), .val (.ref q14), .val (.int (1 : Int32)), .unset, .unset] [(.ref o2), (.ref o2)]
      have X27 : Ext h2 h20 := Own.Ext.kp X19 K20 (allS (Nat.le_trans X18.1 gq14) all0)
      refine Own.callV W25 (tw hw 168 rfl) (tw hw 169 rfl) (fun s q => notFace_of_selects (args := #[]) (mvT (s := s) q (tw hw 171 rfl))) (tw hw 171 rfl) (tw hw 170 rfl) (by decide) (argsL := [(.ref o2)]) (rest := []) (Own.Con.pay (con_eqid hw hEL o2 W25.old) W25 (tw hw 172 rfl) (tw hw 6 rfl) (len := 3) (wd := 0) (by decide) (by decide) (fun _ q => nomatch q)) (F2.ext X27) rfl (lenOf pd_8 rfl) rfl (Nat.le_of_ble_eq_true rfl) at_166 169 rfl 32 135 (Nat.le_of_ble_eq_true rfl) (Nat.le_of_ble_eq_true rfl) (Nat.le_of_ble_eq_true rfl) (Nat.le_of_ble_eq_true rfl) ?_
      intro v26 T26 h26 u26 W26 R26 hq
      obtain ⟨rfl, eh26⟩ := hq
      have ei26 := eh26.symm; subst ei26
      show Own.Go _ _ _ _ _ 169 #[.val (.int p0), .val (.int p1), .val (.int p2), .val (.int p3), .val (.ref o1), .val (.ref o2), .val (.ref o3), .val (.ref o4), .val (.int (0 : Int32)), .val (.int (0 : Int32)), .val (.ref o5), .val (.ref o5), .val (.ref o5), .val (.ref q14), .val (.int (1 : Int32)), .unset, .unset] [(.int (1 : Int32))]
      refine Own.ifYes W26 at_169 174 (by decide) (by decide) (by decide) ?_
      refine Own.iload W26 at_174 176 rfl (0 : Int32) rfl ?_
      refine Own.ifYes W26 at_176 197 (by decide) (by decide) (by decide) ?_
      refine Own.aload W26 at_197 199 rfl (.ref o5) rfl rfl ?_
      refine Own.callV W26 (tw hw 173 rfl) (tw hw 174 rfl) (fun s q => notFace_of_selects (args := #[]) (mvT (s := s) q (tw hw 176 rfl))) (tw hw 176 rfl) (tw hw 175 rfl) (by decide) (argsL := []) (rest := []) (Own.Con.pay (con_b_get_before hw hEL W26.old (F114.keep K20 (ninS (Nat.ne_of_lt (Nat.lt_of_lt_of_le A5.lt gq14)) nin0))) W26 (tw hw 177 rfl) (tw hw 53 rfl) (len := 3) (wd := 0) (by decide) (by decide) (fun _ q => nomatch q)) (E14.keep K20) rfl (lenOf pd_17 rfl) rfl (Nat.le_of_ble_eq_true rfl) at_199 202 rfl 32 135 (Nat.le_of_ble_eq_true rfl) (Nat.le_of_ble_eq_true rfl) (Nat.le_of_ble_eq_true rfl) (Nat.le_of_ble_eq_true rfl) ?_
      intro v28 T28 h28 u28 W28 R28 hq
      obtain ⟨rfl, eh28⟩ := hq
      have ei28 := eh28.symm; subst ei28
      show Own.Go _ _ _ _ _ 202 #[.val (.int p0), .val (.int p1), .val (.int p2), .val (.int p3), .val (.ref o1), .val (.ref o2), .val (.ref o3), .val (.ref o4), .val (.int (0 : Int32)), .val (.int (0 : Int32)), .val (.ref o5), .val (.ref o5), .val (.ref o5), .val (.ref q14), .val (.int (1 : Int32)), .unset, .unset] [(.ref p14)]
      refine Own.astore W28 at_202 204 rfl rfl #[.val (.int p0), .val (.int p1), .val (.int p2), .val (.int p3), .val (.ref o1), .val (.ref o2), .val (.ref o3), .val (.ref o4), .val (.int (0 : Int32)), .val (.int (0 : Int32)), .val (.ref o5), .val (.ref o5), .val (.ref o5), .val (.ref q14), .val (.int (1 : Int32)), .val (.ref p14), .unset] rfl ?_
      refine Own.iload W28 at_204 206 rfl (0 : Int32) rfl ?_
      refine Own.ifYes W28 at_206 213 (by decide) (by decide) (by decide) ?_
      refine Own.iconst W28 at_213 214 rfl (0 : Int32) rfl ?_
      refine Own.istore W28 at_214 216 rfl #[.val (.int p0), .val (.int p1), .val (.int p2), .val (.int p3), .val (.ref o1), .val (.ref o2), .val (.ref o3), .val (.ref o4), .val (.int (0 : Int32)), .val (.int (0 : Int32)), .val (.ref o5), .val (.ref o5), .val (.ref o5), .val (.ref q14), .val (.int (1 : Int32)), .val (.ref p14), .val (.int (0 : Int32))] rfl ?_
      refine Own.aload W28 at_216 218 rfl (.ref p14) rfl rfl ?_
      have XL29 := (L114.keep K20 (ninS ne14 nin0)).exa
      refine Own.callI W28 (tw hw 140 rfl) (tw hw 141 rfl) (tw hw 142 rfl) rfl (tw hw 143 rfl) (tw hw 144 rfl) (tw hw 145 rfl) (tw hw 146 rfl) (tw hw 107 rfl) (by decide) (argsL := []) (rest := []) (Own.Con.pay (con_sz hw hEL W28.old (L114.keep K20 (ninS ne14 nin0))) W28 (tw hw 147 rfl) (tw hw 60 rfl) (len := 5) (wd := 0) (by decide) (by decide) (fun _ q => nomatch q)) XL29 rfl (lenOf pd_18 rfl) rfl (Nat.le_of_ble_eq_true rfl) at_218 223 rfl 32 135 (Nat.le_of_ble_eq_true rfl) (Nat.le_of_ble_eq_true rfl) (Nat.le_of_ble_eq_true rfl) (Nat.le_of_ble_eq_true rfl) ?_
      intro v30 T30 h30 u30 W30 R30 hq
      obtain ⟨rfl, eh30⟩ := hq
      have ei30 := eh30.symm; subst ei30
      show Own.Go _ _ _ _ _ 223 #[.val (.int p0), .val (.int p1), .val (.int p2), .val (.int p3), .val (.ref o1), .val (.ref o2), .val (.ref o3), .val (.ref o4), .val (.int (0 : Int32)), .val (.int (0 : Int32)), .val (.ref o5), .val (.ref o5), .val (.ref o5), .val (.ref q14), .val (.int (1 : Int32)), .val (.ref p14), .val (.int (0 : Int32))] [(.int (0 : Int32))]
      refine Own.iload W30 at_223 225 rfl (0 : Int32) rfl ?_
      refine Own.icmpYes W30 at_225 230 (by decide) (by decide) (by decide) ?_
      refine Own.iload W30 at_230 232 rfl (0 : Int32) rfl ?_
      refine Own.ifYes W30 at_232 253 (by decide) (by decide) (by decide) ?_
      refine Own.aload W30 at_253 255 rfl (.ref o1) rfl rfl ?_
      refine Own.aload W30 at_255 257 rfl (.ref o5) rfl rfl ?_
      refine Own.callV W30 (tw hw 178 rfl) (tw hw 179 rfl) (fun s q => notFace_of_selects (args := #[]) (mvT (s := s) q (tw hw 181 rfl))) (tw hw 181 rfl) (tw hw 180 rfl) (by decide) (argsL := []) (rest := [(.ref o1)]) (Own.Con.pay (con_b_get_name hw hEL W30.old (F314.keep K20 (ninS (Nat.ne_of_lt (Nat.lt_of_lt_of_le A5.lt gq14)) nin0))) W30 (tw hw 182 rfl) (tw hw 53 rfl) (len := 3) (wd := 1) (by decide) (by decide) (fun _ q => nomatch q)) (E14.keep K20) rfl (lenOf pd_19 rfl) rfl (Nat.le_of_ble_eq_true rfl) at_257 260 rfl 32 135 (Nat.le_of_ble_eq_true rfl) (Nat.le_of_ble_eq_true rfl) (Nat.le_of_ble_eq_true rfl) (Nat.le_of_ble_eq_true rfl) ?_
      intro v31 T31 h31 u31 W31 R31 hq
      obtain ⟨rfl, eh31⟩ := hq
      have ei31 := eh31.symm; subst ei31
      show Own.Go _ _ _ _ _ 260 #[.val (.int p0), .val (.int p1), .val (.int p2), .val (.int p3), .val (.ref o1), .val (.ref o2), .val (.ref o3), .val (.ref o4), .val (.int (0 : Int32)), .val (.int (0 : Int32)), .val (.ref o5), .val (.ref o5), .val (.ref o5), .val (.ref q14), .val (.int (1 : Int32)), .val (.ref p14), .val (.int (0 : Int32))] [(.ref o1), (.ref o1)]
      have X33 : Ext h1 h14 := Own.Ext.kp X13 K14 (allS (Nat.le_trans X12.1 (Nat.le_of_eq g5.symm)) all0)
      have X34 : Ext h1 h20 := Own.Ext.kp X33 K20 (allS (Nat.le_trans X13.1 gq14) all0)
      refine Own.callV W31 (tw hw 168 rfl) (tw hw 169 rfl) (fun s q => notFace_of_selects (args := #[]) (mvT (s := s) q (tw hw 171 rfl))) (tw hw 171 rfl) (tw hw 170 rfl) (by decide) (argsL := [(.ref o1)]) (rest := []) (Own.Con.pay (con_eqid hw hEL o1 W31.old) W31 (tw hw 172 rfl) (tw hw 6 rfl) (len := 3) (wd := 0) (by decide) (by decide) (fun _ q => nomatch q)) (F1.ext X34) rfl (lenOf pd_8 rfl) rfl (Nat.le_of_ble_eq_true rfl) at_260 263 rfl 32 135 (Nat.le_of_ble_eq_true rfl) (Nat.le_of_ble_eq_true rfl) (Nat.le_of_ble_eq_true rfl) (Nat.le_of_ble_eq_true rfl) ?_
      intro v32 T32 h32 u32 W32 R32 hq
      obtain ⟨rfl, eh32⟩ := hq
      have ei32 := eh32.symm; subst ei32
      show Own.Go _ _ _ _ _ 263 #[.val (.int p0), .val (.int p1), .val (.int p2), .val (.int p3), .val (.ref o1), .val (.ref o2), .val (.ref o3), .val (.ref o4), .val (.int (0 : Int32)), .val (.int (0 : Int32)), .val (.ref o5), .val (.ref o5), .val (.ref o5), .val (.ref q14), .val (.int (1 : Int32)), .val (.ref p14), .val (.int (0 : Int32))] [(.int (1 : Int32))]
      exact Own.retB W32 (by decide) (by decide) rfl at_263 rfl rfl
    · skip
      refine Own.ifNo W4 at_46 49 (XT.i0_eq_f e1) rfl ?_
      refine Own.iconst W4 at_49 50 rfl (1 : Int32) rfl ?_
      refine Own.goto W4 at_50 54 (by decide) (by decide) ?_
      refine Own.istore W4 at_54 56 rfl #[.val (.int p0), .val (.int p1), .val (.int p2), .val (.int p3), .val (.ref o1), .val (.ref o2), .val (.ref o3), .val (.ref o4), .val (.int (0 : Int32)), .val (.int (1 : Int32)), .unset, .unset, .unset, .unset, .unset, .unset, .unset] rfl ?_
      refine Own.newO W4 (tw hw 51 rfl) (tw hw 52 rfl) (tw hw 53 rfl) at_56 59 rfl 25 67 (by decide) (by decide) (by decide) (by decide) ?_
      intro T35 h35 o35 g35 W35 E35 A35 D35 s35 k35
      have F35_before : Fld G.Z h35 o35 "com/example/kickstand/kickstand/CommandDecoration" "before" "Ljava/util/List;" .null := D35 (Or.inr (tw hw 83 rfl)) (ty := (.object "java/util/List")) (by decide)
      have F35_beside : Fld G.Z h35 o35 "com/example/kickstand/kickstand/CommandDecoration" "beside" "Ljava/util/List;" .null := D35 (Or.inr (tw hw 85 rfl)) (ty := (.object "java/util/List")) (by decide)
      have F35_name : Fld G.Z h35 o35 "com/example/kickstand/kickstand/CommandDecoration" "name" "Ljava/lang/String;" .null := D35 (Or.inr (tw hw 93 rfl)) (ty := (.object "java/lang/String")) (by decide)
      refine Own.dup W35 at_59 60 rfl rfl ?_
      refine Own.aload W35 at_60 62 rfl (.ref o1) rfl rfl ?_
      have X36 : Ext h h1 := E1
      have X37 : Ext h h2 := Own.Ext.tr X36 E2
      have X38 : Ext h h3 := Own.Ext.tr X37 E3
      have X39 : Ext h h4 := Own.Ext.tr X38 E4
      have X40 : Ext h1 h2 := E2
      have X41 : Ext h1 h3 := Own.Ext.tr X40 E3
      have X42 : Ext h1 h4 := Own.Ext.tr X41 E4
      have X43 : Ext h1 h35 := Own.Ext.tr X42 E35
      refine Own.callX W35 rfl (tw hw 54 rfl) (tw hw 55 rfl) (tw hw 56 rfl) (by decide) (argsL := [(.ref o1)]) (rest := [(.ref o35)]) (Own.Con.pay (con_cd hw hEL DS DA W35.old (Nat.le_trans W0.n0 (Nat.le_trans X39.1 (Nat.le_of_eq g35.symm))) A35 (F1.ext X43) F35_before F35_beside F35_name) W35 (tw hw 56 rfl) (tw hw 53 rfl) (len := 3) (wd := 1) (by decide) (by decide) (fun _ q => nomatch q)) rfl (lenOf pd_15 rfl) rfl (Nat.le_of_ble_eq_true rfl) at_62 65 rfl 29 93 (Nat.le_of_ble_eq_true rfl) (Nat.le_of_ble_eq_true rfl) (Nat.le_of_ble_eq_true rfl) (Nat.le_of_ble_eq_true rfl) ?_
      intro v44 T44 h44 u44 W44 R44 hq
      obtain ⟨rfl, K44, p44, q44, gp44, gq44, ne44, ⟨E44, F144, F244, F344⟩, L144, L244⟩ := hq
      show Own.Go _ _ _ _ _ 65 #[.val (.int p0), .val (.int p1), .val (.int p2), .val (.int p3), .val (.ref o1), .val (.ref o2), .val (.ref o3), .val (.ref o4), .val (.int (0 : Int32)), .val (.int (1 : Int32)), .unset, .unset, .unset, .unset, .unset, .unset, .unset] [(.ref o35)]
      refine Own.astore W44 at_65 67 rfl rfl #[.val (.int p0), .val (.int p1), .val (.int p2), .val (.int p3), .val (.ref o1), .val (.ref o2), .val (.ref o3), .val (.ref o4), .val (.int (0 : Int32)), .val (.int (1 : Int32)), .val (.ref o35), .unset, .unset, .unset, .unset, .unset, .unset] rfl ?_
      refine Own.iload W44 at_67 69 rfl (0 : Int32) rfl ?_
      refine Own.ifYes W44 at_69 80 (by decide) (by decide) (by decide) ?_
      refine Own.aload W44 at_80 82 rfl (.ref o35) rfl rfl ?_
      refine Own.aload W44 at_82 84 rfl (.ref o2) rfl rfl ?_
      have X45 : Ext h h35 := Own.Ext.tr X39 E35
      have X46 : Ext h2 h3 := E3
      have X47 : Ext h2 h4 := Own.Ext.tr X46 E4
      have X48 : Ext h2 h35 := Own.Ext.tr X47 E35
      have X49 : Ext h2 h44 := Own.Ext.kp X48 K44 (allS (Nat.le_trans X47.1 (Nat.le_of_eq g35.symm)) all0)
      refine Own.callV W44 (tw hw 94 rfl) (tw hw 95 rfl) (fun s q => notFace_of_selects (args := #[]) (mvT (s := s) q (tw hw 97 rfl))) (tw hw 97 rfl) (tw hw 96 rfl) (by decide) (argsL := [(.ref o2)]) (rest := []) (Own.Con.pay (con_runBeside_0 hw hEL DS DA W44.old (Nat.le_trans W0.n0 (Nat.le_trans X45.1 gq44)) F244 L244 (F2.ext X49)) W44 (tw hw 98 rfl) (tw hw 53 rfl) (len := 3) (wd := 0) (by decide) (by decide) (fun _ q => nomatch q)) E44 rfl (lenOf pd_16 rfl) rfl (Nat.le_of_ble_eq_true rfl) at_84 87 rfl 32 135 (Nat.le_of_ble_eq_true rfl) (Nat.le_of_ble_eq_true rfl) (Nat.le_of_ble_eq_true rfl) (Nat.le_of_ble_eq_true rfl) ?_
      intro v50 T50 h50 u50 W50 R50 hq
      obtain ⟨rfl, e50, c50, K50, g50, L50, A50, O50⟩ := hq
      show Own.Go _ _ _ _ _ 87 #[.val (.int p0), .val (.int p1), .val (.int p2), .val (.int p3), .val (.ref o1), .val (.ref o2), .val (.ref o3), .val (.ref o4), .val (.int (0 : Int32)), .val (.int (1 : Int32)), .val (.ref o35), .unset, .unset, .unset, .unset, .unset, .unset] [(.ref o35)]
      refine Own.astore W50 at_87 89 rfl rfl #[.val (.int p0), .val (.int p1), .val (.int p2), .val (.int p3), .val (.ref o1), .val (.ref o2), .val (.ref o3), .val (.ref o4), .val (.int (0 : Int32)), .val (.int (1 : Int32)), .val (.ref o35), .val (.ref o35), .unset, .unset, .unset, .unset, .unset] rfl ?_
      refine Own.aload W50 at_89 91 rfl (.ref o35) rfl rfl ?_
      refine Own.astore W50 at_91 93 rfl rfl #[.val (.int p0), .val (.int p1), .val (.int p2), .val (.int p3), .val (.ref o1), .val (.ref o2), .val (.ref o3), .val (.ref o4), .val (.int (0 : Int32)), .val (.int (1 : Int32)), .val (.ref o35), .val (.ref o35), .val (.ref o35), .unset, .unset, .unset, .unset] rfl ?_
      refine Own.iload W50 at_93 95 rfl (1 : Int32) rfl ?_
      refine Own.ifNo W50 at_95 98 (by decide) rfl ?_
      refine Own.aload W50 at_98 100 rfl (.ref o35) rfl rfl ?_
      refine Own.aload W50 at_100 102 rfl (.ref o3) rfl rfl ?_
      have X51 : Ext h h44 := Own.Ext.kp X45 K44 (allS (Nat.le_trans X39.1 (Nat.le_of_eq g35.symm)) all0)
      have X52 : Ext h3 h4 := E4
      have X53 : Ext h3 h35 := Own.Ext.tr X52 E35
      have X54 : Ext h3 h44 := Own.Ext.kp X53 K44 (allS (Nat.le_trans X52.1 (Nat.le_of_eq g35.symm)) all0)
      have X55 : Ext h3 h50 := Own.Ext.kp X54 K50 (allS (Nat.le_trans X53.1 gq44) all0)
      refine Own.callV W50 (tw hw 94 rfl) (tw hw 95 rfl) (fun s q => notFace_of_selects (args := #[]) (mvT (s := s) q (tw hw 97 rfl))) (tw hw 97 rfl) (tw hw 96 rfl) (by decide) (argsL := [(.ref o3)]) (rest := []) (Own.Con.pay (con_runBeside_1 hw hEL DS DA W50.old (Nat.le_trans W0.n0 (Nat.le_trans X45.1 gq44)) (Nat.le_trans W0.n0 (Nat.le_trans X51.1 g50)) (Nat.ne_of_lt (Nat.lt_of_lt_of_le L244.lt g50)) (F244.keep K50 (ninS (Nat.ne_of_lt (Nat.lt_of_lt_of_le A35.lt gq44)) nin0)) L50 A50 O50 (F3.ext X55)) W50 (tw hw 98 rfl) (tw hw 53 rfl) (len := 3) (wd := 0) (by decide) (by decide) (fun _ q => nomatch q)) (E44.keep K50) rfl (lenOf pd_16 rfl) rfl (Nat.le_of_ble_eq_true rfl) at_102 105 rfl 35 177 (Nat.le_of_ble_eq_true rfl) (Nat.le_of_ble_eq_true rfl) (Nat.le_of_ble_eq_true rfl) (Nat.le_of_ble_eq_true rfl) ?_
      intro v56 T56 h56 u56 W56 R56 hq
      obtain ⟨rfl, K56, L56, A56⟩ := hq
      show Own.Go _ _ _ _ _ 105 #[.val (.int p0), .val (.int p1), .val (.int p2), .val (.int p3), .val (.ref o1), .val (.ref o2), .val (.ref o3), .val (.ref o4), .val (.int (0 : Int32)), .val (.int (1 : Int32)), .val (.ref o35), .val (.ref o35), .val (.ref o35), .unset, .unset, .unset, .unset] [(.ref o35)]
      refine Own.astore W56 at_105 107 rfl rfl #[.val (.int p0), .val (.int p1), .val (.int p2), .val (.int p3), .val (.ref o1), .val (.ref o2), .val (.ref o3), .val (.ref o4), .val (.int (0 : Int32)), .val (.int (1 : Int32)), .val (.ref o35), .val (.ref o35), .val (.ref o35), .unset, .unset, .unset, .unset] rfl ?_
      refine Own.aload W56 at_107 109 rfl (.ref o35) rfl rfl ?_
      refine Own.aload W56 at_109 111 rfl (.ref o35) rfl rfl ?_
      refine Own.acmp W56 at_111 114 rfl rfl true (decide_eq_true rfl) (by decide) rfl ?_
      refine Own.aload W56 at_114 116 rfl (.ref o35) rfl rfl ?_
      refine Own.aload W56 at_116 118 rfl (.ref o35) rfl rfl ?_
      refine Own.acmp W56 at_118 123 rfl rfl true (decide_eq_true rfl) (by decide) rfl ?_
      refine Own.aload W56 at_123 125 rfl (.ref o35) rfl rfl ?_
      refine Own.callV W56 (tw hw 135 rfl) (tw hw 136 rfl) (fun s q => notFace_of_selects (args := #[]) (mvT (s := s) q (tw hw 138 rfl))) (tw hw 138 rfl) (tw hw 137 rfl) (by decide) (argsL := []) (rest := []) (Own.Con.pay (con_b_get_beside hw hEL W56.old ((F244.keep K50 (ninS (Nat.ne_of_lt (Nat.lt_of_lt_of_le A35.lt gq44)) nin0)).keep K56 (ninS (Nat.ne_of_lt (Nat.lt_of_lt_of_le A35.lt gq44)) (ninS (Nat.ne_of_lt (Nat.lt_of_lt_of_le E44.lt g50)) nin0)))) W56 (tw hw 139 rfl) (tw hw 53 rfl) (len := 3) (wd := 0) (by decide) (by decide) (fun _ q => nomatch q)) ((E44.keep K50).keep K56) rfl (lenOf pd_17 rfl) rfl (Nat.le_of_ble_eq_true rfl) at_125 128 rfl 35 177 (Nat.le_of_ble_eq_true rfl) (Nat.le_of_ble_eq_true rfl) (Nat.le_of_ble_eq_true rfl) (Nat.le_of_ble_eq_true rfl) ?_
      intro v57 T57 h57 u57 W57 R57 hq
      obtain ⟨rfl, eh57⟩ := hq
      have ei57 := eh57.symm; subst ei57
      show Own.Go _ _ _ _ _ 128 #[.val (.int p0), .val (.int p1), .val (.int p2), .val (.int p3), .val (.ref o1), .val (.ref o2), .val (.ref o3), .val (.ref o4), .val (.int (0 : Int32)), .val (.int (1 : Int32)), .val (.ref o35), .val (.ref o35), .val (.ref o35), .unset, .unset, .unset, .unset] [(.ref q44)]
      refine Own.astore W57 at_128 130 rfl rfl #[.val (.int p0), .val (.int p1), .val (.int p2), .val (.int p3), .val (.ref o1), .val (.ref o2), .val (.ref o3), .val (.ref o4), .val (.int (0 : Int32)), .val (.int (1 : Int32)), .val (.ref o35), .val (.ref o35), .val (.ref o35), .val (.ref q44), .unset, .unset, .unset] rfl ?_
      refine Own.iload W57 at_130 132 rfl (1 : Int32) rfl ?_
      refine Own.ifNo W57 at_132 135 (by decide) rfl ?_
      refine Own.iconst W57 at_135 136 rfl (2 : Int32) rfl ?_
      refine Own.goto W57 at_136 140 (by decide) (by decide) ?_
      refine Own.istore W57 at_140 142 rfl #[.val (.int p0), .val (.int p1), .val (.int p2), .val (.int p3), .val (.ref o1), .val (.ref o2), .val (.ref o3), .val (.ref o4), .val (.int (0 : Int32)), .val (.int (1 : Int32)), .val (.ref o35), .val (.ref o35), .val (.ref o35), .val (.ref q44), .val (.int (2 : Int32)), .unset, .unset] rfl ?_
      refine Own.aload W57 at_142 144 rfl (.ref q44) rfl rfl ?_
      have XL58 := L56.exa
      refine Own.callI W57 (tw hw 140 rfl) (tw hw 141 rfl) (tw hw 142 rfl) rfl (tw hw 143 rfl) (tw hw 144 rfl) (tw hw 145 rfl) (tw hw 146 rfl) (tw hw 107 rfl) (by decide) (argsL := []) (rest := []) (Own.Con.pay (con_sz hw hEL W57.old L56) W57 (tw hw 147 rfl) (tw hw 60 rfl) (len := 5) (wd := 0) (by decide) (by decide) (fun _ q => nomatch q)) XL58 rfl (lenOf pd_18 rfl) rfl (Nat.le_of_ble_eq_true rfl) at_144 149 rfl 35 177 (Nat.le_of_ble_eq_true rfl) (Nat.le_of_ble_eq_true rfl) (Nat.le_of_ble_eq_true rfl) (Nat.le_of_ble_eq_true rfl) ?_
      intro v59 T59 h59 u59 W59 R59 hq
      obtain ⟨rfl, eh59⟩ := hq
      have ei59 := eh59.symm; subst ei59
      show Own.Go _ _ _ _ _ 149 #[.val (.int p0), .val (.int p1), .val (.int p2), .val (.int p3), .val (.ref o1), .val (.ref o2), .val (.ref o3), .val (.ref o4), .val (.int (0 : Int32)), .val (.int (1 : Int32)), .val (.ref o35), .val (.ref o35), .val (.ref o35), .val (.ref q44), .val (.int (2 : Int32)), .unset, .unset] [(.int (2 : Int32))]
      refine Own.iload W59 at_149 151 rfl (2 : Int32) rfl ?_
      refine Own.icmpYes W59 at_151 156 (by decide) (by decide) (by decide) ?_
      refine Own.aload W59 at_156 158 rfl (.ref o2) rfl rfl ?_
      refine Own.aload W59 at_158 160 rfl (.ref q44) rfl rfl ?_
      refine Own.iconst W59 at_160 161 rfl (0 : Int32) rfl ?_
      have XL60 := L56.exa
      refine Own.callI W59 (tw hw 148 rfl) (tw hw 149 rfl) (tw hw 150 rfl) rfl (tw hw 151 rfl) (tw hw 152 rfl) (tw hw 153 rfl) (tw hw 154 rfl) (tw hw 107 rfl) (by decide) (argsL := [(.int (0 : Int32))]) (rest := [(.ref o2)]) (Own.Con.pay (con_get hw hEL (0 : Int32) (by decide) (by decide) (by decide) W59.old L56 A56 (y := o2) rfl) W59 (tw hw 155 rfl) (tw hw 60 rfl) (len := 5) (wd := 1) (by decide) (by decide) (fun _ q => nomatch q)) XL60 rfl (lenOf pd_6 rfl) rfl (Nat.le_of_ble_eq_true rfl) at_161 166 rfl 35 177 (Nat.le_of_ble_eq_true rfl) (Nat.le_of_ble_eq_true rfl) (Nat.le_of_ble_eq_true rfl) (Nat.le_of_ble_eq_true rfl) ?_
      intro v61 T61 h61 u61 W61 R61 hq
      obtain ⟨rfl, eh61⟩ := hq
      have ei61 := eh61.symm; subst ei61
      show Own.Go _ _ _ _ _ 166 #[.val (.int p0), .val (.int p1), .val (.int p2), .val (.int p3), .val (.ref o1), .val (.ref o2), .val (.ref o3), .val (.ref o4), .val (.int (0 : Int32)), .val (.int (1 : Int32)), .val (.ref o35), .val (.ref o35), .val (.ref o35), .val (.ref q44), .val (.int (2 : Int32)), .unset, .unset] [(.ref o2), (.ref o2)]
      have X63 : Ext h2 h50 := Own.Ext.kp X49 K50 (allS (Nat.le_trans X48.1 gq44) all0)
      have X64 : Ext h2 h56 := Own.Ext.kp X63 K56 (allS (Nat.le_trans X48.1 gq44) (allS (Nat.le_trans X49.1 g50) all0))
      refine Own.callV W61 (tw hw 168 rfl) (tw hw 169 rfl) (fun s q => notFace_of_selects (args := #[]) (mvT (s := s) q (tw hw 171 rfl))) (tw hw 171 rfl) (tw hw 170 rfl) (by decide) (argsL := [(.ref o2)]) (rest := []) (Own.Con.pay (con_eqid hw hEL o2 W61.old) W61 (tw hw 172 rfl) (tw hw 6 rfl) (len := 3) (wd := 0) (by decide) (by decide) (fun _ q => nomatch q)) (F2.ext X64) rfl (lenOf pd_8 rfl) rfl (Nat.le_of_ble_eq_true rfl) at_166 169 rfl 35 177 (Nat.le_of_ble_eq_true rfl) (Nat.le_of_ble_eq_true rfl) (Nat.le_of_ble_eq_true rfl) (Nat.le_of_ble_eq_true rfl) ?_
      intro v62 T62 h62 u62 W62 R62 hq
      obtain ⟨rfl, eh62⟩ := hq
      have ei62 := eh62.symm; subst ei62
      show Own.Go _ _ _ _ _ 169 #[.val (.int p0), .val (.int p1), .val (.int p2), .val (.int p3), .val (.ref o1), .val (.ref o2), .val (.ref o3), .val (.ref o4), .val (.int (0 : Int32)), .val (.int (1 : Int32)), .val (.ref o35), .val (.ref o35), .val (.ref o35), .val (.ref q44), .val (.int (2 : Int32)), .unset, .unset] [(.int (1 : Int32))]
      refine Own.ifYes W62 at_169 174 (by decide) (by decide) (by decide) ?_
      refine Own.iload W62 at_174 176 rfl (1 : Int32) rfl ?_
      refine Own.ifNo W62 at_176 179 (by decide) rfl ?_
      refine Own.aload W62 at_179 181 rfl (.ref o3) rfl rfl ?_
      refine Own.aload W62 at_181 183 rfl (.ref q44) rfl rfl ?_
      refine Own.iconst W62 at_183 184 rfl (1 : Int32) rfl ?_
      have XL65 := L56.exa
      refine Own.callI W62 (tw hw 148 rfl) (tw hw 149 rfl) (tw hw 150 rfl) rfl (tw hw 151 rfl) (tw hw 152 rfl) (tw hw 153 rfl) (tw hw 154 rfl) (tw hw 107 rfl) (by decide) (argsL := [(.int (1 : Int32))]) (rest := [(.ref o3)]) (Own.Con.pay (con_get hw hEL (1 : Int32) (by decide) (by decide) (by decide) W62.old L56 A56 (y := o3) rfl) W62 (tw hw 155 rfl) (tw hw 60 rfl) (len := 5) (wd := 1) (by decide) (by decide) (fun _ q => nomatch q)) XL65 rfl (lenOf pd_6 rfl) rfl (Nat.le_of_ble_eq_true rfl) at_184 189 rfl 35 177 (Nat.le_of_ble_eq_true rfl) (Nat.le_of_ble_eq_true rfl) (Nat.le_of_ble_eq_true rfl) (Nat.le_of_ble_eq_true rfl) ?_
      intro v66 T66 h66 u66 W66 R66 hq
      obtain ⟨rfl, eh66⟩ := hq
      have ei66 := eh66.symm; subst ei66
      show Own.Go _ _ _ _ _ 189 #[.val (.int p0), .val (.int p1), .val (.int p2), .val (.int p3), .val (.ref o1), .val (.ref o2), .val (.ref o3), .val (.ref o4), .val (.int (0 : Int32)), .val (.int (1 : Int32)), .val (.ref o35), .val (.ref o35), .val (.ref o35), .val (.ref q44), .val (.int (2 : Int32)), .unset, .unset] [(.ref o3), (.ref o3)]
      have X68 : Ext h3 h56 := Own.Ext.kp X55 K56 (allS (Nat.le_trans X53.1 gq44) (allS (Nat.le_trans X54.1 g50) all0))
      refine Own.callV W66 (tw hw 168 rfl) (tw hw 169 rfl) (fun s q => notFace_of_selects (args := #[]) (mvT (s := s) q (tw hw 171 rfl))) (tw hw 171 rfl) (tw hw 170 rfl) (by decide) (argsL := [(.ref o3)]) (rest := []) (Own.Con.pay (con_eqid hw hEL o3 W66.old) W66 (tw hw 172 rfl) (tw hw 6 rfl) (len := 3) (wd := 0) (by decide) (by decide) (fun _ q => nomatch q)) (F3.ext X68) rfl (lenOf pd_8 rfl) rfl (Nat.le_of_ble_eq_true rfl) at_189 192 rfl 35 177 (Nat.le_of_ble_eq_true rfl) (Nat.le_of_ble_eq_true rfl) (Nat.le_of_ble_eq_true rfl) (Nat.le_of_ble_eq_true rfl) ?_
      intro v67 T67 h67 u67 W67 R67 hq
      obtain ⟨rfl, eh67⟩ := hq
      have ei67 := eh67.symm; subst ei67
      show Own.Go _ _ _ _ _ 192 #[.val (.int p0), .val (.int p1), .val (.int p2), .val (.int p3), .val (.ref o1), .val (.ref o2), .val (.ref o3), .val (.ref o4), .val (.int (0 : Int32)), .val (.int (1 : Int32)), .val (.ref o35), .val (.ref o35), .val (.ref o35), .val (.ref q44), .val (.int (2 : Int32)), .unset, .unset] [(.int (1 : Int32))]
      refine Own.ifYes W67 at_192 197 (by decide) (by decide) (by decide) ?_
      refine Own.aload W67 at_197 199 rfl (.ref o35) rfl rfl ?_
      refine Own.callV W67 (tw hw 173 rfl) (tw hw 174 rfl) (fun s q => notFace_of_selects (args := #[]) (mvT (s := s) q (tw hw 176 rfl))) (tw hw 176 rfl) (tw hw 175 rfl) (by decide) (argsL := []) (rest := []) (Own.Con.pay (con_b_get_before hw hEL W67.old ((F144.keep K50 (ninS (Nat.ne_of_lt (Nat.lt_of_lt_of_le A35.lt gq44)) nin0)).keep K56 (ninS (Nat.ne_of_lt (Nat.lt_of_lt_of_le A35.lt gq44)) (ninS (Nat.ne_of_lt (Nat.lt_of_lt_of_le E44.lt g50)) nin0)))) W67 (tw hw 177 rfl) (tw hw 53 rfl) (len := 3) (wd := 0) (by decide) (by decide) (fun _ q => nomatch q)) ((E44.keep K50).keep K56) rfl (lenOf pd_17 rfl) rfl (Nat.le_of_ble_eq_true rfl) at_199 202 rfl 35 177 (Nat.le_of_ble_eq_true rfl) (Nat.le_of_ble_eq_true rfl) (Nat.le_of_ble_eq_true rfl) (Nat.le_of_ble_eq_true rfl) ?_
      intro v69 T69 h69 u69 W69 R69 hq
      obtain ⟨rfl, eh69⟩ := hq
      have ei69 := eh69.symm; subst ei69
      show Own.Go _ _ _ _ _ 202 #[.val (.int p0), .val (.int p1), .val (.int p2), .val (.int p3), .val (.ref o1), .val (.ref o2), .val (.ref o3), .val (.ref o4), .val (.int (0 : Int32)), .val (.int (1 : Int32)), .val (.ref o35), .val (.ref o35), .val (.ref o35), .val (.ref q44), .val (.int (2 : Int32)), .unset, .unset] [(.ref p44)]
      refine Own.astore W69 at_202 204 rfl rfl #[.val (.int p0), .val (.int p1), .val (.int p2), .val (.int p3), .val (.ref o1), .val (.ref o2), .val (.ref o3), .val (.ref o4), .val (.int (0 : Int32)), .val (.int (1 : Int32)), .val (.ref o35), .val (.ref o35), .val (.ref o35), .val (.ref q44), .val (.int (2 : Int32)), .val (.ref p44), .unset] rfl ?_
      refine Own.iload W69 at_204 206 rfl (0 : Int32) rfl ?_
      refine Own.ifYes W69 at_206 213 (by decide) (by decide) (by decide) ?_
      refine Own.iconst W69 at_213 214 rfl (0 : Int32) rfl ?_
      refine Own.istore W69 at_214 216 rfl #[.val (.int p0), .val (.int p1), .val (.int p2), .val (.int p3), .val (.ref o1), .val (.ref o2), .val (.ref o3), .val (.ref o4), .val (.int (0 : Int32)), .val (.int (1 : Int32)), .val (.ref o35), .val (.ref o35), .val (.ref o35), .val (.ref q44), .val (.int (2 : Int32)), .val (.ref p44), .val (.int (0 : Int32))] rfl ?_
      refine Own.aload W69 at_216 218 rfl (.ref p44) rfl rfl ?_
      have XL70 := ((L144.keep K50 (ninS ne44 nin0)).keep K56 (ninS ne44 (ninS (Nat.ne_of_lt (Nat.lt_of_lt_of_le L144.lt g50)) nin0))).exa
      refine Own.callI W69 (tw hw 140 rfl) (tw hw 141 rfl) (tw hw 142 rfl) rfl (tw hw 143 rfl) (tw hw 144 rfl) (tw hw 145 rfl) (tw hw 146 rfl) (tw hw 107 rfl) (by decide) (argsL := []) (rest := []) (Own.Con.pay (con_sz hw hEL W69.old ((L144.keep K50 (ninS ne44 nin0)).keep K56 (ninS ne44 (ninS (Nat.ne_of_lt (Nat.lt_of_lt_of_le L144.lt g50)) nin0)))) W69 (tw hw 147 rfl) (tw hw 60 rfl) (len := 5) (wd := 0) (by decide) (by decide) (fun _ q => nomatch q)) XL70 rfl (lenOf pd_18 rfl) rfl (Nat.le_of_ble_eq_true rfl) at_218 223 rfl 35 177 (Nat.le_of_ble_eq_true rfl) (Nat.le_of_ble_eq_true rfl) (Nat.le_of_ble_eq_true rfl) (Nat.le_of_ble_eq_true rfl) ?_
      intro v71 T71 h71 u71 W71 R71 hq
      obtain ⟨rfl, eh71⟩ := hq
      have ei71 := eh71.symm; subst ei71
      show Own.Go _ _ _ _ _ 223 #[.val (.int p0), .val (.int p1), .val (.int p2), .val (.int p3), .val (.ref o1), .val (.ref o2), .val (.ref o3), .val (.ref o4), .val (.int (0 : Int32)), .val (.int (1 : Int32)), .val (.ref o35), .val (.ref o35), .val (.ref o35), .val (.ref q44), .val (.int (2 : Int32)), .val (.ref p44), .val (.int (0 : Int32))] [(.int (0 : Int32))]
      refine Own.iload W71 at_223 225 rfl (0 : Int32) rfl ?_
      refine Own.icmpYes W71 at_225 230 (by decide) (by decide) (by decide) ?_
      refine Own.iload W71 at_230 232 rfl (0 : Int32) rfl ?_
      refine Own.ifYes W71 at_232 253 (by decide) (by decide) (by decide) ?_
      refine Own.aload W71 at_253 255 rfl (.ref o1) rfl rfl ?_
      refine Own.aload W71 at_255 257 rfl (.ref o35) rfl rfl ?_
      refine Own.callV W71 (tw hw 178 rfl) (tw hw 179 rfl) (fun s q => notFace_of_selects (args := #[]) (mvT (s := s) q (tw hw 181 rfl))) (tw hw 181 rfl) (tw hw 180 rfl) (by decide) (argsL := []) (rest := [(.ref o1)]) (Own.Con.pay (con_b_get_name hw hEL W71.old ((F344.keep K50 (ninS (Nat.ne_of_lt (Nat.lt_of_lt_of_le A35.lt gq44)) nin0)).keep K56 (ninS (Nat.ne_of_lt (Nat.lt_of_lt_of_le A35.lt gq44)) (ninS (Nat.ne_of_lt (Nat.lt_of_lt_of_le E44.lt g50)) nin0)))) W71 (tw hw 182 rfl) (tw hw 53 rfl) (len := 3) (wd := 1) (by decide) (by decide) (fun _ q => nomatch q)) ((E44.keep K50).keep K56) rfl (lenOf pd_19 rfl) rfl (Nat.le_of_ble_eq_true rfl) at_257 260 rfl 35 177 (Nat.le_of_ble_eq_true rfl) (Nat.le_of_ble_eq_true rfl) (Nat.le_of_ble_eq_true rfl) (Nat.le_of_ble_eq_true rfl) ?_
      intro v72 T72 h72 u72 W72 R72 hq
      obtain ⟨rfl, eh72⟩ := hq
      have ei72 := eh72.symm; subst ei72
      show Own.Go _ _ _ _ _ 260 #[.val (.int p0), .val (.int p1), .val (.int p2), .val (.int p3), .val (.ref o1), .val (.ref o2), .val (.ref o3), .val (.ref o4), .val (.int (0 : Int32)), .val (.int (1 : Int32)), .val (.ref o35), .val (.ref o35), .val (.ref o35), .val (.ref q44), .val (.int (2 : Int32)), .val (.ref p44), .val (.int (0 : Int32))] [(.ref o1), (.ref o1)]
      have X74 : Ext h1 h44 := Own.Ext.kp X43 K44 (allS (Nat.le_trans X42.1 (Nat.le_of_eq g35.symm)) all0)
      have X75 : Ext h1 h50 := Own.Ext.kp X74 K50 (allS (Nat.le_trans X43.1 gq44) all0)
      have X76 : Ext h1 h56 := Own.Ext.kp X75 K56 (allS (Nat.le_trans X43.1 gq44) (allS (Nat.le_trans X74.1 g50) all0))
      refine Own.callV W72 (tw hw 168 rfl) (tw hw 169 rfl) (fun s q => notFace_of_selects (args := #[]) (mvT (s := s) q (tw hw 171 rfl))) (tw hw 171 rfl) (tw hw 170 rfl) (by decide) (argsL := [(.ref o1)]) (rest := []) (Own.Con.pay (con_eqid hw hEL o1 W72.old) W72 (tw hw 172 rfl) (tw hw 6 rfl) (len := 3) (wd := 0) (by decide) (by decide) (fun _ q => nomatch q)) (F1.ext X76) rfl (lenOf pd_8 rfl) rfl (Nat.le_of_ble_eq_true rfl) at_260 263 rfl 35 177 (Nat.le_of_ble_eq_true rfl) (Nat.le_of_ble_eq_true rfl) (Nat.le_of_ble_eq_true rfl) (Nat.le_of_ble_eq_true rfl) ?_
      intro v73 T73 h73 u73 W73 R73 hq
      obtain ⟨rfl, eh73⟩ := hq
      have ei73 := eh73.symm; subst ei73
      show Own.Go _ _ _ _ _ 263 #[.val (.int p0), .val (.int p1), .val (.int p2), .val (.int p3), .val (.ref o1), .val (.ref o2), .val (.ref o3), .val (.ref o4), .val (.int (0 : Int32)), .val (.int (1 : Int32)), .val (.ref o35), .val (.ref o35), .val (.ref o35), .val (.ref q44), .val (.int (2 : Int32)), .val (.ref p44), .val (.int (0 : Int32))] [(.int (1 : Int32))]
      exact Own.retB W73 (by decide) (by decide) rfl at_263 rfl rfl
  · skip
    refine Own.ifNo W4 at_30 33 (XT.i0_eq_f e0) rfl ?_
    refine Own.iconst W4 at_33 34 rfl (1 : Int32) rfl ?_
    refine Own.goto W4 at_34 38 (by decide) (by decide) ?_
    refine Own.istore W4 at_38 40 rfl #[.val (.int p0), .val (.int p1), .val (.int p2), .val (.int p3), .val (.ref o1), .val (.ref o2), .val (.ref o3), .val (.ref o4), .val (.int (1 : Int32)), .unset, .unset, .unset, .unset, .unset, .unset, .unset, .unset] rfl ?_
    refine Own.iloadN W4 at_40 41 rfl p3 rfl ?_
    refine Own.bipush W4 at_41 43 rfl (19 : Int32) rfl ?_
    refine Own.iushr W4 at_43 44 rfl ?_
    refine Own.iconst W4 at_44 45 rfl (1 : Int32) rfl ?_
    refine Own.iand W4 at_45 46 rfl ?_
    by_cases e1 : (((p3.toUInt32 >>> ((19 : Int32) &&& 31).toUInt32).toInt32) &&& (1 : Int32)) = (0 : Int32)
    · skip
      refine Own.ifYes W4 at_46 53 (XT.i0_eq_t e1) (by decide) (by decide) ?_
      refine Own.iconst W4 at_53 54 rfl (0 : Int32) rfl ?_
      refine Own.istore W4 at_54 56 rfl #[.val (.int p0), .val (.int p1), .val (.int p2), .val (.int p3), .val (.ref o1), .val (.ref o2), .val (.ref o3), .val (.ref o4), .val (.int (1 : Int32)), .val (.int (0 : Int32)), .unset, .unset, .unset, .unset, .unset, .unset, .unset] rfl ?_
      refine Own.newO W4 (tw hw 51 rfl) (tw hw 52 rfl) (tw hw 53 rfl) at_56 59 rfl 25 67 (by decide) (by decide) (by decide) (by decide) ?_
      intro T77 h77 o77 g77 W77 E77 A77 D77 s77 k77
      have F77_before : Fld G.Z h77 o77 "com/example/kickstand/kickstand/CommandDecoration" "before" "Ljava/util/List;" .null := D77 (Or.inr (tw hw 83 rfl)) (ty := (.object "java/util/List")) (by decide)
      have F77_beside : Fld G.Z h77 o77 "com/example/kickstand/kickstand/CommandDecoration" "beside" "Ljava/util/List;" .null := D77 (Or.inr (tw hw 85 rfl)) (ty := (.object "java/util/List")) (by decide)
      have F77_name : Fld G.Z h77 o77 "com/example/kickstand/kickstand/CommandDecoration" "name" "Ljava/lang/String;" .null := D77 (Or.inr (tw hw 93 rfl)) (ty := (.object "java/lang/String")) (by decide)
      refine Own.dup W77 at_59 60 rfl rfl ?_
      refine Own.aload W77 at_60 62 rfl (.ref o1) rfl rfl ?_
      have X78 : Ext h h1 := E1
      have X79 : Ext h h2 := Own.Ext.tr X78 E2
      have X80 : Ext h h3 := Own.Ext.tr X79 E3
      have X81 : Ext h h4 := Own.Ext.tr X80 E4
      have X82 : Ext h1 h2 := E2
      have X83 : Ext h1 h3 := Own.Ext.tr X82 E3
      have X84 : Ext h1 h4 := Own.Ext.tr X83 E4
      have X85 : Ext h1 h77 := Own.Ext.tr X84 E77
      refine Own.callX W77 rfl (tw hw 54 rfl) (tw hw 55 rfl) (tw hw 56 rfl) (by decide) (argsL := [(.ref o1)]) (rest := [(.ref o77)]) (Own.Con.pay (con_cd hw hEL DS DA W77.old (Nat.le_trans W0.n0 (Nat.le_trans X81.1 (Nat.le_of_eq g77.symm))) A77 (F1.ext X85) F77_before F77_beside F77_name) W77 (tw hw 56 rfl) (tw hw 53 rfl) (len := 3) (wd := 1) (by decide) (by decide) (fun _ q => nomatch q)) rfl (lenOf pd_15 rfl) rfl (Nat.le_of_ble_eq_true rfl) at_62 65 rfl 29 93 (Nat.le_of_ble_eq_true rfl) (Nat.le_of_ble_eq_true rfl) (Nat.le_of_ble_eq_true rfl) (Nat.le_of_ble_eq_true rfl) ?_
      intro v86 T86 h86 u86 W86 R86 hq
      obtain ⟨rfl, K86, p86, q86, gp86, gq86, ne86, ⟨E86, F186, F286, F386⟩, L186, L286⟩ := hq
      show Own.Go _ _ _ _ _ 65 #[.val (.int p0), .val (.int p1), .val (.int p2), .val (.int p3), .val (.ref o1), .val (.ref o2), .val (.ref o3), .val (.ref o4), .val (.int (1 : Int32)), .val (.int (0 : Int32)), .unset, .unset, .unset, .unset, .unset, .unset, .unset] [(.ref o77)]
      refine Own.astore W86 at_65 67 rfl rfl #[.val (.int p0), .val (.int p1), .val (.int p2), .val (.int p3), .val (.ref o1), .val (.ref o2), .val (.ref o3), .val (.ref o4), .val (.int (1 : Int32)), .val (.int (0 : Int32)), .val (.ref o77), .unset, .unset, .unset, .unset, .unset, .unset] rfl ?_
      refine Own.iload W86 at_67 69 rfl (1 : Int32) rfl ?_
      refine Own.ifNo W86 at_69 72 (by decide) rfl ?_
      refine Own.aload W86 at_72 74 rfl (.ref o77) rfl rfl ?_
      refine Own.aload W86 at_74 76 rfl (.ref o4) rfl rfl ?_
      have X87 : Ext h h77 := Own.Ext.tr X81 E77
      have X88 : Ext h4 h77 := E77
      have X89 : Ext h4 h86 := Own.Ext.kp X88 K86 (allS (Nat.le_of_eq g77.symm) all0)
      refine Own.callV W86 (tw hw 183 rfl) (tw hw 184 rfl) (fun s q => notFace_of_selects (args := #[]) (mvT (s := s) q (tw hw 186 rfl))) (tw hw 186 rfl) (tw hw 185 rfl) (by decide) (argsL := [(.ref o4)]) (rest := []) (Own.Con.pay (con_runBefore_0 hw hEL DS DA W86.old (Nat.le_trans W0.n0 (Nat.le_trans X87.1 gp86)) F186 L186 (F4.ext X89)) W86 (tw hw 187 rfl) (tw hw 53 rfl) (len := 3) (wd := 0) (by decide) (by decide) (fun _ q => nomatch q)) E86 rfl (lenOf pd_16 rfl) rfl (Nat.le_of_ble_eq_true rfl) at_76 79 rfl 32 135 (Nat.le_of_ble_eq_true rfl) (Nat.le_of_ble_eq_true rfl) (Nat.le_of_ble_eq_true rfl) (Nat.le_of_ble_eq_true rfl) ?_
      intro v90 T90 h90 u90 W90 R90 hq
      obtain ⟨rfl, e90, c90, K90, g90, L90, A90, O90⟩ := hq
      show Own.Go _ _ _ _ _ 79 #[.val (.int p0), .val (.int p1), .val (.int p2), .val (.int p3), .val (.ref o1), .val (.ref o2), .val (.ref o3), .val (.ref o4), .val (.int (1 : Int32)), .val (.int (0 : Int32)), .val (.ref o77), .unset, .unset, .unset, .unset, .unset, .unset] [(.ref o77)]
      refine Own.pop W90 at_79 80 rfl rfl ?_
      refine Own.aload W90 at_80 82 rfl (.ref o77) rfl rfl ?_
      refine Own.aload W90 at_82 84 rfl (.ref o2) rfl rfl ?_
      have X91 : Ext h2 h3 := E3
      have X92 : Ext h2 h4 := Own.Ext.tr X91 E4
      have X93 : Ext h2 h77 := Own.Ext.tr X92 E77
      have X94 : Ext h2 h86 := Own.Ext.kp X93 K86 (allS (Nat.le_trans X92.1 (Nat.le_of_eq g77.symm)) all0)
      have X95 : Ext h2 h90 := Own.Ext.kp X94 K90 (allS (Nat.le_trans X93.1 gp86) all0)
      refine Own.callV W90 (tw hw 94 rfl) (tw hw 95 rfl) (fun s q => notFace_of_selects (args := #[]) (mvT (s := s) q (tw hw 97 rfl))) (tw hw 97 rfl) (tw hw 96 rfl) (by decide) (argsL := [(.ref o2)]) (rest := []) (Own.Con.pay (con_runBeside_0 hw hEL DS DA W90.old (Nat.le_trans W0.n0 (Nat.le_trans X87.1 gq86)) (F286.keep K90 (ninS (Nat.ne_of_lt (Nat.lt_of_lt_of_le A77.lt gp86)) nin0)) (L286.keep K90 (ninS (Ne.symm ne86) nin0)) (F2.ext X95)) W90 (tw hw 98 rfl) (tw hw 53 rfl) (len := 3) (wd := 0) (by decide) (by decide) (fun _ q => nomatch q)) (E86.keep K90) rfl (lenOf pd_16 rfl) rfl (Nat.le_of_ble_eq_true rfl) at_84 87 rfl 35 177 (Nat.le_of_ble_eq_true rfl) (Nat.le_of_ble_eq_true rfl) (Nat.le_of_ble_eq_true rfl) (Nat.le_of_ble_eq_true rfl) ?_
      intro v96 T96 h96 u96 W96 R96 hq
      obtain ⟨rfl, e96, c96, K96, g96, L96, A96, O96⟩ := hq
      show Own.Go _ _ _ _ _ 87 #[.val (.int p0), .val (.int p1), .val (.int p2), .val (.int p3), .val (.ref o1), .val (.ref o2), .val (.ref o3), .val (.ref o4), .val (.int (1 : Int32)), .val (.int (0 : Int32)), .val (.ref o77), .unset, .unset, .unset, .unset, .unset, .unset] [(.ref o77)]
      refine Own.astore W96 at_87 89 rfl rfl #[.val (.int p0), .val (.int p1), .val (.int p2), .val (.int p3), .val (.ref o1), .val (.ref o2), .val (.ref o3), .val (.ref o4), .val (.int (1 : Int32)), .val (.int (0 : Int32)), .val (.ref o77), .val (.ref o77), .unset, .unset, .unset, .unset, .unset] rfl ?_
      refine Own.aload W96 at_89 91 rfl (.ref o77) rfl rfl ?_
      refine Own.astore W96 at_91 93 rfl rfl #[.val (.int p0), .val (.int p1), .val (.int p2), .val (.int p3), .val (.ref o1), .val (.ref o2), .val (.ref o3), .val (.ref o4), .val (.int (1 : Int32)), .val (.int (0 : Int32)), .val (.ref o77), .val (.ref o77), .val (.ref o77), .unset, .unset, .unset, .unset] rfl ?_
      refine Own.iload W96 at_93 95 rfl (0 : Int32) rfl ?_
      refine Own.ifYes W96 at_95 107 (by decide) (by decide) (by decide) ?_
      refine Own.aload W96 at_107 109 rfl (.ref o77) rfl rfl ?_
      refine Own.aload W96 at_109 111 rfl (.ref o77) rfl rfl ?_
      refine Own.acmp W96 at_111 114 rfl rfl true (decide_eq_true rfl) (by decide) rfl ?_
      refine Own.aload W96 at_114 116 rfl (.ref o77) rfl rfl ?_
      refine Own.aload W96 at_116 118 rfl (.ref o77) rfl rfl ?_
      refine Own.acmp W96 at_118 123 rfl rfl true (decide_eq_true rfl) (by decide) rfl ?_
      refine Own.aload W96 at_123 125 rfl (.ref o77) rfl rfl ?_
      refine Own.callV W96 (tw hw 135 rfl) (tw hw 136 rfl) (fun s q => notFace_of_selects (args := #[]) (mvT (s := s) q (tw hw 138 rfl))) (tw hw 138 rfl) (tw hw 137 rfl) (by decide) (argsL := []) (rest := []) (Own.Con.pay (con_b_get_beside hw hEL W96.old ((F286.keep K90 (ninS (Nat.ne_of_lt (Nat.lt_of_lt_of_le A77.lt gp86)) nin0)).keep K96 (ninS (Nat.ne_of_lt (Nat.lt_of_lt_of_le A77.lt gq86)) nin0))) W96 (tw hw 139 rfl) (tw hw 53 rfl) (len := 3) (wd := 0) (by decide) (by decide) (fun _ q => nomatch q)) ((E86.keep K90).keep K96) rfl (lenOf pd_17 rfl) rfl (Nat.le_of_ble_eq_true rfl) at_125 128 rfl 35 177 (Nat.le_of_ble_eq_true rfl) (Nat.le_of_ble_eq_true rfl) (Nat.le_of_ble_eq_true rfl) (Nat.le_of_ble_eq_true rfl) ?_
      intro v97 T97 h97 u97 W97 R97 hq
      obtain ⟨rfl, eh97⟩ := hq
      have ei97 := eh97.symm; subst ei97
      show Own.Go _ _ _ _ _ 128 #[.val (.int p0), .val (.int p1), .val (.int p2), .val (.int p3), .val (.ref o1), .val (.ref o2), .val (.ref o3), .val (.ref o4), .val (.int (1 : Int32)), .val (.int (0 : Int32)), .val (.ref o77), .val (.ref o77), .val (.ref o77), .unset, .unset, .unset, .unset] [(.ref q86)]
      refine Own.astore W97 at_128 130 rfl rfl #[.val (.int p0), .val (.int p1), .val (.int p2), .val (.int p3), .val (.ref o1), .val (.ref o2), .val (.ref o3), .val (.ref o4), .val (.int (1 : Int32)), .val (.int (0 : Int32)), .val (.ref o77), .val (.ref o77), .val (.ref o77), .val (.ref q86), .unset, .unset, .unset] rfl ?_
      refine Own.iload W97 at_130 132 rfl (0 : Int32) rfl ?_
      refine Own.ifYes W97 at_132 139 (by decide) (by decide) (by decide) ?_
      refine Own.iconst W97 at_139 140 rfl (1 : Int32) rfl ?_
      refine Own.istore W97 at_140 142 rfl #[.val (.int p0), .val (.int p1), .val (.int p2), .val (.int p3), .val (.ref o1), .val (.ref o2), .val (.ref o3), .val (.ref o4), .val (.int (1 : Int32)), .val (.int (0 : Int32)), .val (.ref o77), .val (.ref o77), .val (.ref o77), .val (.ref q86), .val (.int (1 : Int32)), .unset, .unset] rfl ?_
      refine Own.aload W97 at_142 144 rfl (.ref q86) rfl rfl ?_
      have XL98 := L96.exa
      refine Own.callI W97 (tw hw 140 rfl) (tw hw 141 rfl) (tw hw 142 rfl) rfl (tw hw 143 rfl) (tw hw 144 rfl) (tw hw 145 rfl) (tw hw 146 rfl) (tw hw 107 rfl) (by decide) (argsL := []) (rest := []) (Own.Con.pay (con_sz hw hEL W97.old L96) W97 (tw hw 147 rfl) (tw hw 60 rfl) (len := 5) (wd := 0) (by decide) (by decide) (fun _ q => nomatch q)) XL98 rfl (lenOf pd_18 rfl) rfl (Nat.le_of_ble_eq_true rfl) at_144 149 rfl 35 177 (Nat.le_of_ble_eq_true rfl) (Nat.le_of_ble_eq_true rfl) (Nat.le_of_ble_eq_true rfl) (Nat.le_of_ble_eq_true rfl) ?_
      intro v99 T99 h99 u99 W99 R99 hq
      obtain ⟨rfl, eh99⟩ := hq
      have ei99 := eh99.symm; subst ei99
      show Own.Go _ _ _ _ _ 149 #[.val (.int p0), .val (.int p1), .val (.int p2), .val (.int p3), .val (.ref o1), .val (.ref o2), .val (.ref o3), .val (.ref o4), .val (.int (1 : Int32)), .val (.int (0 : Int32)), .val (.ref o77), .val (.ref o77), .val (.ref o77), .val (.ref q86), .val (.int (1 : Int32)), .unset, .unset] [(.int (1 : Int32))]
      refine Own.iload W99 at_149 151 rfl (1 : Int32) rfl ?_
      refine Own.icmpYes W99 at_151 156 (by decide) (by decide) (by decide) ?_
      refine Own.aload W99 at_156 158 rfl (.ref o2) rfl rfl ?_
      refine Own.aload W99 at_158 160 rfl (.ref q86) rfl rfl ?_
      refine Own.iconst W99 at_160 161 rfl (0 : Int32) rfl ?_
      have XL100 := L96.exa
      refine Own.callI W99 (tw hw 148 rfl) (tw hw 149 rfl) (tw hw 150 rfl) rfl (tw hw 151 rfl) (tw hw 152 rfl) (tw hw 153 rfl) (tw hw 154 rfl) (tw hw 107 rfl) (by decide) (argsL := [(.int (0 : Int32))]) (rest := [(.ref o2)]) (Own.Con.pay (con_get hw hEL (0 : Int32) (by decide) (by decide) (by decide) W99.old L96 A96 (y := o2) rfl) W99 (tw hw 155 rfl) (tw hw 60 rfl) (len := 5) (wd := 1) (by decide) (by decide) (fun _ q => nomatch q)) XL100 rfl (lenOf pd_6 rfl) rfl (Nat.le_of_ble_eq_true rfl) at_161 166 rfl 35 177 (Nat.le_of_ble_eq_true rfl) (Nat.le_of_ble_eq_true rfl) (Nat.le_of_ble_eq_true rfl) (Nat.le_of_ble_eq_true rfl) ?_
      intro v101 T101 h101 u101 W101 R101 hq
      obtain ⟨rfl, eh101⟩ := hq
      have ei101 := eh101.symm; subst ei101
      show Own.Go _ _ _ _ _ 166 #[.val (.int p0), .val (.int p1), .val (.int p2), .val (.int p3), .val (.ref o1), .val (.ref o2), .val (.ref o3), .val (.ref o4), .val (.int (1 : Int32)), .val (.int (0 : Int32)), .val (.ref o77), .val (.ref o77), .val (.ref o77), .val (.ref q86), .val (.int (1 : Int32)), .unset, .unset] [(.ref o2), (.ref o2)]
      have X103 : Ext h2 h96 := Own.Ext.kp X95 K96 (allS (Nat.le_trans X93.1 gq86) all0)
      refine Own.callV W101 (tw hw 168 rfl) (tw hw 169 rfl) (fun s q => notFace_of_selects (args := #[]) (mvT (s := s) q (tw hw 171 rfl))) (tw hw 171 rfl) (tw hw 170 rfl) (by decide) (argsL := [(.ref o2)]) (rest := []) (Own.Con.pay (con_eqid hw hEL o2 W101.old) W101 (tw hw 172 rfl) (tw hw 6 rfl) (len := 3) (wd := 0) (by decide) (by decide) (fun _ q => nomatch q)) (F2.ext X103) rfl (lenOf pd_8 rfl) rfl (Nat.le_of_ble_eq_true rfl) at_166 169 rfl 35 177 (Nat.le_of_ble_eq_true rfl) (Nat.le_of_ble_eq_true rfl) (Nat.le_of_ble_eq_true rfl) (Nat.le_of_ble_eq_true rfl) ?_
      intro v102 T102 h102 u102 W102 R102 hq
      obtain ⟨rfl, eh102⟩ := hq
      have ei102 := eh102.symm; subst ei102
      show Own.Go _ _ _ _ _ 169 #[.val (.int p0), .val (.int p1), .val (.int p2), .val (.int p3), .val (.ref o1), .val (.ref o2), .val (.ref o3), .val (.ref o4), .val (.int (1 : Int32)), .val (.int (0 : Int32)), .val (.ref o77), .val (.ref o77), .val (.ref o77), .val (.ref q86), .val (.int (1 : Int32)), .unset, .unset] [(.int (1 : Int32))]
      refine Own.ifYes W102 at_169 174 (by decide) (by decide) (by decide) ?_
      refine Own.iload W102 at_174 176 rfl (0 : Int32) rfl ?_
      refine Own.ifYes W102 at_176 197 (by decide) (by decide) (by decide) ?_
      refine Own.aload W102 at_197 199 rfl (.ref o77) rfl rfl ?_
      refine Own.callV W102 (tw hw 173 rfl) (tw hw 174 rfl) (fun s q => notFace_of_selects (args := #[]) (mvT (s := s) q (tw hw 176 rfl))) (tw hw 176 rfl) (tw hw 175 rfl) (by decide) (argsL := []) (rest := []) (Own.Con.pay (con_b_get_before hw hEL W102.old ((F186.keep K90 (ninS (Nat.ne_of_lt (Nat.lt_of_lt_of_le A77.lt gp86)) nin0)).keep K96 (ninS (Nat.ne_of_lt (Nat.lt_of_lt_of_le A77.lt gq86)) nin0))) W102 (tw hw 177 rfl) (tw hw 53 rfl) (len := 3) (wd := 0) (by decide) (by decide) (fun _ q => nomatch q)) ((E86.keep K90).keep K96) rfl (lenOf pd_17 rfl) rfl (Nat.le_of_ble_eq_true rfl) at_199 202 rfl 35 177 (Nat.le_of_ble_eq_true rfl) (Nat.le_of_ble_eq_true rfl) (Nat.le_of_ble_eq_true rfl) (Nat.le_of_ble_eq_true rfl) ?_
      intro v104 T104 h104 u104 W104 R104 hq
      obtain ⟨rfl, eh104⟩ := hq
      have ei104 := eh104.symm; subst ei104
      show Own.Go _ _ _ _ _ 202 #[.val (.int p0), .val (.int p1), .val (.int p2), .val (.int p3), .val (.ref o1), .val (.ref o2), .val (.ref o3), .val (.ref o4), .val (.int (1 : Int32)), .val (.int (0 : Int32)), .val (.ref o77), .val (.ref o77), .val (.ref o77), .val (.ref q86), .val (.int (1 : Int32)), .unset, .unset] [(.ref p86)]
      refine Own.astore W104 at_202 204 rfl rfl #[.val (.int p0), .val (.int p1), .val (.int p2), .val (.int p3), .val (.ref o1), .val (.ref o2), .val (.ref o3), .val (.ref o4), .val (.int (1 : Int32)), .val (.int (0 : Int32)), .val (.ref o77), .val (.ref o77), .val (.ref o77), .val (.ref q86), .val (.int (1 : Int32)), .val (.ref p86), .unset] rfl ?_
      refine Own.iload W104 at_204 206 rfl (1 : Int32) rfl ?_
      refine Own.ifNo W104 at_206 209 (by decide) rfl ?_
      refine Own.iconst W104 at_209 210 rfl (1 : Int32) rfl ?_
      refine Own.goto W104 at_210 214 (by decide) (by decide) ?_
      refine Own.istore W104 at_214 216 rfl #[.val (.int p0), .val (.int p1), .val (.int p2), .val (.int p3), .val (.ref o1), .val (.ref o2), .val (.ref o3), .val (.ref o4), .val (.int (1 : Int32)), .val (.int (0 : Int32)), .val (.ref o77), .val (.ref o77), .val (.ref o77), .val (.ref q86), .val (.int (1 : Int32)), .val (.ref p86), .val (.int (1 : Int32))] rfl ?_
      refine Own.aload W104 at_216 218 rfl (.ref p86) rfl rfl ?_
      have XL105 := (L90.keep K96 (ninS ne86 nin0)).exa
      refine Own.callI W104 (tw hw 140 rfl) (tw hw 141 rfl) (tw hw 142 rfl) rfl (tw hw 143 rfl) (tw hw 144 rfl) (tw hw 145 rfl) (tw hw 146 rfl) (tw hw 107 rfl) (by decide) (argsL := []) (rest := []) (Own.Con.pay (con_sz hw hEL W104.old (L90.keep K96 (ninS ne86 nin0))) W104 (tw hw 147 rfl) (tw hw 60 rfl) (len := 5) (wd := 0) (by decide) (by decide) (fun _ q => nomatch q)) XL105 rfl (lenOf pd_18 rfl) rfl (Nat.le_of_ble_eq_true rfl) at_218 223 rfl 35 177 (Nat.le_of_ble_eq_true rfl) (Nat.le_of_ble_eq_true rfl) (Nat.le_of_ble_eq_true rfl) (Nat.le_of_ble_eq_true rfl) ?_
      intro v106 T106 h106 u106 W106 R106 hq
      obtain ⟨rfl, eh106⟩ := hq
      have ei106 := eh106.symm; subst ei106
      show Own.Go _ _ _ _ _ 223 #[.val (.int p0), .val (.int p1), .val (.int p2), .val (.int p3), .val (.ref o1), .val (.ref o2), .val (.ref o3), .val (.ref o4), .val (.int (1 : Int32)), .val (.int (0 : Int32)), .val (.ref o77), .val (.ref o77), .val (.ref o77), .val (.ref q86), .val (.int (1 : Int32)), .val (.ref p86), .val (.int (1 : Int32))] [(.int (1 : Int32))]
      refine Own.iload W106 at_223 225 rfl (1 : Int32) rfl ?_
      refine Own.icmpYes W106 at_225 230 (by decide) (by decide) (by decide) ?_
      refine Own.iload W106 at_230 232 rfl (1 : Int32) rfl ?_
      refine Own.ifNo W106 at_232 235 (by decide) rfl ?_
      refine Own.aload W106 at_235 237 rfl (.ref o4) rfl rfl ?_
      refine Own.aload W106 at_237 239 rfl (.ref p86) rfl rfl ?_
      refine Own.iconst W106 at_239 240 rfl (0 : Int32) rfl ?_
      have XL107 := (L90.keep K96 (ninS ne86 nin0)).exa
      refine Own.callI W106 (tw hw 148 rfl) (tw hw 149 rfl) (tw hw 150 rfl) rfl (tw hw 151 rfl) (tw hw 152 rfl) (tw hw 153 rfl) (tw hw 154 rfl) (tw hw 107 rfl) (by decide) (argsL := [(.int (0 : Int32))]) (rest := [(.ref o4)]) (Own.Con.pay (con_get hw hEL (0 : Int32) (by decide) (by decide) (by decide) W106.old (L90.keep K96 (ninS ne86 nin0)) (A90.keep K96 (ninS (Ne.symm (Nat.ne_of_lt (Nat.lt_of_lt_of_le L286.lt g90))) nin0)) (y := o4) rfl) W106 (tw hw 155 rfl) (tw hw 60 rfl) (len := 5) (wd := 1) (by decide) (by decide) (fun _ q => nomatch q)) XL107 rfl (lenOf pd_6 rfl) rfl (Nat.le_of_ble_eq_true rfl) at_240 245 rfl 35 177 (Nat.le_of_ble_eq_true rfl) (Nat.le_of_ble_eq_true rfl) (Nat.le_of_ble_eq_true rfl) (Nat.le_of_ble_eq_true rfl) ?_
      intro v108 T108 h108 u108 W108 R108 hq
      obtain ⟨rfl, eh108⟩ := hq
      have ei108 := eh108.symm; subst ei108
      show Own.Go _ _ _ _ _ 245 #[.val (.int p0), .val (.int p1), .val (.int p2), .val (.int p3), .val (.ref o1), .val (.ref o2), .val (.ref o3), .val (.ref o4), .val (.int (1 : Int32)), .val (.int (0 : Int32)), .val (.ref o77), .val (.ref o77), .val (.ref o77), .val (.ref q86), .val (.int (1 : Int32)), .val (.ref p86), .val (.int (1 : Int32))] [(.ref o4), (.ref o4)]
      have X110 : Ext h4 h90 := Own.Ext.kp X89 K90 (allS (Nat.le_trans X88.1 gp86) all0)
      have X111 : Ext h4 h96 := Own.Ext.kp X110 K96 (allS (Nat.le_trans X88.1 gq86) all0)
      refine Own.callV W108 (tw hw 168 rfl) (tw hw 169 rfl) (fun s q => notFace_of_selects (args := #[]) (mvT (s := s) q (tw hw 171 rfl))) (tw hw 171 rfl) (tw hw 170 rfl) (by decide) (argsL := [(.ref o4)]) (rest := []) (Own.Con.pay (con_eqid hw hEL o4 W108.old) W108 (tw hw 172 rfl) (tw hw 6 rfl) (len := 3) (wd := 0) (by decide) (by decide) (fun _ q => nomatch q)) (F4.ext X111) rfl (lenOf pd_8 rfl) rfl (Nat.le_of_ble_eq_true rfl) at_245 248 rfl 35 177 (Nat.le_of_ble_eq_true rfl) (Nat.le_of_ble_eq_true rfl) (Nat.le_of_ble_eq_true rfl) (Nat.le_of_ble_eq_true rfl) ?_
      intro v109 T109 h109 u109 W109 R109 hq
      obtain ⟨rfl, eh109⟩ := hq
      have ei109 := eh109.symm; subst ei109
      show Own.Go _ _ _ _ _ 248 #[.val (.int p0), .val (.int p1), .val (.int p2), .val (.int p3), .val (.ref o1), .val (.ref o2), .val (.ref o3), .val (.ref o4), .val (.int (1 : Int32)), .val (.int (0 : Int32)), .val (.ref o77), .val (.ref o77), .val (.ref o77), .val (.ref q86), .val (.int (1 : Int32)), .val (.ref p86), .val (.int (1 : Int32))] [(.int (1 : Int32))]
      refine Own.ifYes W109 at_248 253 (by decide) (by decide) (by decide) ?_
      refine Own.aload W109 at_253 255 rfl (.ref o1) rfl rfl ?_
      refine Own.aload W109 at_255 257 rfl (.ref o77) rfl rfl ?_
      refine Own.callV W109 (tw hw 178 rfl) (tw hw 179 rfl) (fun s q => notFace_of_selects (args := #[]) (mvT (s := s) q (tw hw 181 rfl))) (tw hw 181 rfl) (tw hw 180 rfl) (by decide) (argsL := []) (rest := [(.ref o1)]) (Own.Con.pay (con_b_get_name hw hEL W109.old ((F386.keep K90 (ninS (Nat.ne_of_lt (Nat.lt_of_lt_of_le A77.lt gp86)) nin0)).keep K96 (ninS (Nat.ne_of_lt (Nat.lt_of_lt_of_le A77.lt gq86)) nin0))) W109 (tw hw 182 rfl) (tw hw 53 rfl) (len := 3) (wd := 1) (by decide) (by decide) (fun _ q => nomatch q)) ((E86.keep K90).keep K96) rfl (lenOf pd_19 rfl) rfl (Nat.le_of_ble_eq_true rfl) at_257 260 rfl 35 177 (Nat.le_of_ble_eq_true rfl) (Nat.le_of_ble_eq_true rfl) (Nat.le_of_ble_eq_true rfl) (Nat.le_of_ble_eq_true rfl) ?_
      intro v112 T112 h112 u112 W112 R112 hq
      obtain ⟨rfl, eh112⟩ := hq
      have ei112 := eh112.symm; subst ei112
      show Own.Go _ _ _ _ _ 260 #[.val (.int p0), .val (.int p1), .val (.int p2), .val (.int p3), .val (.ref o1), .val (.ref o2), .val (.ref o3), .val (.ref o4), .val (.int (1 : Int32)), .val (.int (0 : Int32)), .val (.ref o77), .val (.ref o77), .val (.ref o77), .val (.ref q86), .val (.int (1 : Int32)), .val (.ref p86), .val (.int (1 : Int32))] [(.ref o1), (.ref o1)]
      have X114 : Ext h1 h86 := Own.Ext.kp X85 K86 (allS (Nat.le_trans X84.1 (Nat.le_of_eq g77.symm)) all0)
      have X115 : Ext h1 h90 := Own.Ext.kp X114 K90 (allS (Nat.le_trans X85.1 gp86) all0)
      have X116 : Ext h1 h96 := Own.Ext.kp X115 K96 (allS (Nat.le_trans X85.1 gq86) all0)
      refine Own.callV W112 (tw hw 168 rfl) (tw hw 169 rfl) (fun s q => notFace_of_selects (args := #[]) (mvT (s := s) q (tw hw 171 rfl))) (tw hw 171 rfl) (tw hw 170 rfl) (by decide) (argsL := [(.ref o1)]) (rest := []) (Own.Con.pay (con_eqid hw hEL o1 W112.old) W112 (tw hw 172 rfl) (tw hw 6 rfl) (len := 3) (wd := 0) (by decide) (by decide) (fun _ q => nomatch q)) (F1.ext X116) rfl (lenOf pd_8 rfl) rfl (Nat.le_of_ble_eq_true rfl) at_260 263 rfl 35 177 (Nat.le_of_ble_eq_true rfl) (Nat.le_of_ble_eq_true rfl) (Nat.le_of_ble_eq_true rfl) (Nat.le_of_ble_eq_true rfl) ?_
      intro v113 T113 h113 u113 W113 R113 hq
      obtain ⟨rfl, eh113⟩ := hq
      have ei113 := eh113.symm; subst ei113
      show Own.Go _ _ _ _ _ 263 #[.val (.int p0), .val (.int p1), .val (.int p2), .val (.int p3), .val (.ref o1), .val (.ref o2), .val (.ref o3), .val (.ref o4), .val (.int (1 : Int32)), .val (.int (0 : Int32)), .val (.ref o77), .val (.ref o77), .val (.ref o77), .val (.ref q86), .val (.int (1 : Int32)), .val (.ref p86), .val (.int (1 : Int32))] [(.int (1 : Int32))]
      exact Own.retB W113 (by decide) (by decide) rfl at_263 rfl rfl
    · skip
      refine Own.ifNo W4 at_46 49 (XT.i0_eq_f e1) rfl ?_
      refine Own.iconst W4 at_49 50 rfl (1 : Int32) rfl ?_
      refine Own.goto W4 at_50 54 (by decide) (by decide) ?_
      refine Own.istore W4 at_54 56 rfl #[.val (.int p0), .val (.int p1), .val (.int p2), .val (.int p3), .val (.ref o1), .val (.ref o2), .val (.ref o3), .val (.ref o4), .val (.int (1 : Int32)), .val (.int (1 : Int32)), .unset, .unset, .unset, .unset, .unset, .unset, .unset] rfl ?_
      refine Own.newO W4 (tw hw 51 rfl) (tw hw 52 rfl) (tw hw 53 rfl) at_56 59 rfl 25 67 (by decide) (by decide) (by decide) (by decide) ?_
      intro T117 h117 o117 g117 W117 E117 A117 D117 s117 k117
      have F117_before : Fld G.Z h117 o117 "com/example/kickstand/kickstand/CommandDecoration" "before" "Ljava/util/List;" .null := D117 (Or.inr (tw hw 83 rfl)) (ty := (.object "java/util/List")) (by decide)
      have F117_beside : Fld G.Z h117 o117 "com/example/kickstand/kickstand/CommandDecoration" "beside" "Ljava/util/List;" .null := D117 (Or.inr (tw hw 85 rfl)) (ty := (.object "java/util/List")) (by decide)
      have F117_name : Fld G.Z h117 o117 "com/example/kickstand/kickstand/CommandDecoration" "name" "Ljava/lang/String;" .null := D117 (Or.inr (tw hw 93 rfl)) (ty := (.object "java/lang/String")) (by decide)
      refine Own.dup W117 at_59 60 rfl rfl ?_
      refine Own.aload W117 at_60 62 rfl (.ref o1) rfl rfl ?_
      have X118 : Ext h h1 := E1
      have X119 : Ext h h2 := Own.Ext.tr X118 E2
      have X120 : Ext h h3 := Own.Ext.tr X119 E3
      have X121 : Ext h h4 := Own.Ext.tr X120 E4
      have X122 : Ext h1 h2 := E2
      have X123 : Ext h1 h3 := Own.Ext.tr X122 E3
      have X124 : Ext h1 h4 := Own.Ext.tr X123 E4
      have X125 : Ext h1 h117 := Own.Ext.tr X124 E117
      refine Own.callX W117 rfl (tw hw 54 rfl) (tw hw 55 rfl) (tw hw 56 rfl) (by decide) (argsL := [(.ref o1)]) (rest := [(.ref o117)]) (Own.Con.pay (con_cd hw hEL DS DA W117.old (Nat.le_trans W0.n0 (Nat.le_trans X121.1 (Nat.le_of_eq g117.symm))) A117 (F1.ext X125) F117_before F117_beside F117_name) W117 (tw hw 56 rfl) (tw hw 53 rfl) (len := 3) (wd := 1) (by decide) (by decide) (fun _ q => nomatch q)) rfl (lenOf pd_15 rfl) rfl (Nat.le_of_ble_eq_true rfl) at_62 65 rfl 29 93 (Nat.le_of_ble_eq_true rfl) (Nat.le_of_ble_eq_true rfl) (Nat.le_of_ble_eq_true rfl) (Nat.le_of_ble_eq_true rfl) ?_
      intro v126 T126 h126 u126 W126 R126 hq
      obtain ⟨rfl, K126, p126, q126, gp126, gq126, ne126, ⟨E126, F1126, F2126, F3126⟩, L1126, L2126⟩ := hq
      show Own.Go _ _ _ _ _ 65 #[.val (.int p0), .val (.int p1), .val (.int p2), .val (.int p3), .val (.ref o1), .val (.ref o2), .val (.ref o3), .val (.ref o4), .val (.int (1 : Int32)), .val (.int (1 : Int32)), .unset, .unset, .unset, .unset, .unset, .unset, .unset] [(.ref o117)]
      refine Own.astore W126 at_65 67 rfl rfl #[.val (.int p0), .val (.int p1), .val (.int p2), .val (.int p3), .val (.ref o1), .val (.ref o2), .val (.ref o3), .val (.ref o4), .val (.int (1 : Int32)), .val (.int (1 : Int32)), .val (.ref o117), .unset, .unset, .unset, .unset, .unset, .unset] rfl ?_
      refine Own.iload W126 at_67 69 rfl (1 : Int32) rfl ?_
      refine Own.ifNo W126 at_69 72 (by decide) rfl ?_
      refine Own.aload W126 at_72 74 rfl (.ref o117) rfl rfl ?_
      refine Own.aload W126 at_74 76 rfl (.ref o4) rfl rfl ?_
      have X127 : Ext h h117 := Own.Ext.tr X121 E117
      have X128 : Ext h4 h117 := E117
      have X129 : Ext h4 h126 := Own.Ext.kp X128 K126 (allS (Nat.le_of_eq g117.symm) all0)
      refine Own.callV W126 (tw hw 183 rfl) (tw hw 184 rfl) (fun s q => notFace_of_selects (args := #[]) (mvT (s := s) q (tw hw 186 rfl))) (tw hw 186 rfl) (tw hw 185 rfl) (by decide) (argsL := [(.ref o4)]) (rest := []) (Own.Con.pay (con_runBefore_0 hw hEL DS DA W126.old (Nat.le_trans W0.n0 (Nat.le_trans X127.1 gp126)) F1126 L1126 (F4.ext X129)) W126 (tw hw 187 rfl) (tw hw 53 rfl) (len := 3) (wd := 0) (by decide) (by decide) (fun _ q => nomatch q)) E126 rfl (lenOf pd_16 rfl) rfl (Nat.le_of_ble_eq_true rfl) at_76 79 rfl 32 135 (Nat.le_of_ble_eq_true rfl) (Nat.le_of_ble_eq_true rfl) (Nat.le_of_ble_eq_true rfl) (Nat.le_of_ble_eq_true rfl) ?_
      intro v130 T130 h130 u130 W130 R130 hq
      obtain ⟨rfl, e130, c130, K130, g130, L130, A130, O130⟩ := hq
      show Own.Go _ _ _ _ _ 79 #[.val (.int p0), .val (.int p1), .val (.int p2), .val (.int p3), .val (.ref o1), .val (.ref o2), .val (.ref o3), .val (.ref o4), .val (.int (1 : Int32)), .val (.int (1 : Int32)), .val (.ref o117), .unset, .unset, .unset, .unset, .unset, .unset] [(.ref o117)]
      refine Own.pop W130 at_79 80 rfl rfl ?_
      refine Own.aload W130 at_80 82 rfl (.ref o117) rfl rfl ?_
      refine Own.aload W130 at_82 84 rfl (.ref o2) rfl rfl ?_
      have X131 : Ext h2 h3 := E3
      have X132 : Ext h2 h4 := Own.Ext.tr X131 E4
      have X133 : Ext h2 h117 := Own.Ext.tr X132 E117
      have X134 : Ext h2 h126 := Own.Ext.kp X133 K126 (allS (Nat.le_trans X132.1 (Nat.le_of_eq g117.symm)) all0)
      have X135 : Ext h2 h130 := Own.Ext.kp X134 K130 (allS (Nat.le_trans X133.1 gp126) all0)
      refine Own.callV W130 (tw hw 94 rfl) (tw hw 95 rfl) (fun s q => notFace_of_selects (args := #[]) (mvT (s := s) q (tw hw 97 rfl))) (tw hw 97 rfl) (tw hw 96 rfl) (by decide) (argsL := [(.ref o2)]) (rest := []) (Own.Con.pay (con_runBeside_0 hw hEL DS DA W130.old (Nat.le_trans W0.n0 (Nat.le_trans X127.1 gq126)) (F2126.keep K130 (ninS (Nat.ne_of_lt (Nat.lt_of_lt_of_le A117.lt gp126)) nin0)) (L2126.keep K130 (ninS (Ne.symm ne126) nin0)) (F2.ext X135)) W130 (tw hw 98 rfl) (tw hw 53 rfl) (len := 3) (wd := 0) (by decide) (by decide) (fun _ q => nomatch q)) (E126.keep K130) rfl (lenOf pd_16 rfl) rfl (Nat.le_of_ble_eq_true rfl) at_84 87 rfl 35 177 (Nat.le_of_ble_eq_true rfl) (Nat.le_of_ble_eq_true rfl) (Nat.le_of_ble_eq_true rfl) (Nat.le_of_ble_eq_true rfl) ?_
      intro v136 T136 h136 u136 W136 R136 hq
      obtain ⟨rfl, e136, c136, K136, g136, L136, A136, O136⟩ := hq
      show Own.Go _ _ _ _ _ 87 #[.val (.int p0), .val (.int p1), .val (.int p2), .val (.int p3), .val (.ref o1), .val (.ref o2), .val (.ref o3), .val (.ref o4), .val (.int (1 : Int32)), .val (.int (1 : Int32)), .val (.ref o117), .unset, .unset, .unset, .unset, .unset, .unset] [(.ref o117)]
      refine Own.astore W136 at_87 89 rfl rfl #[.val (.int p0), .val (.int p1), .val (.int p2), .val (.int p3), .val (.ref o1), .val (.ref o2), .val (.ref o3), .val (.ref o4), .val (.int (1 : Int32)), .val (.int (1 : Int32)), .val (.ref o117), .val (.ref o117), .unset, .unset, .unset, .unset, .unset] rfl ?_
      refine Own.aload W136 at_89 91 rfl (.ref o117) rfl rfl ?_
      refine Own.astore W136 at_91 93 rfl rfl #[.val (.int p0), .val (.int p1), .val (.int p2), .val (.int p3), .val (.ref o1), .val (.ref o2), .val (.ref o3), .val (.ref o4), .val (.int (1 : Int32)), .val (.int (1 : Int32)), .val (.ref o117), .val (.ref o117), .val (.ref o117), .unset, .unset, .unset, .unset] rfl ?_
      refine Own.iload W136 at_93 95 rfl (1 : Int32) rfl ?_
      refine Own.ifNo W136 at_95 98 (by decide) rfl ?_
      refine Own.aload W136 at_98 100 rfl (.ref o117) rfl rfl ?_
      refine Own.aload W136 at_100 102 rfl (.ref o3) rfl rfl ?_
      have X137 : Ext h h126 := Own.Ext.kp X127 K126 (allS (Nat.le_trans X121.1 (Nat.le_of_eq g117.symm)) all0)
      have X138 : Ext h h130 := Own.Ext.kp X137 K130 (allS (Nat.le_trans X127.1 gp126) all0)
      have X139 : Ext h3 h4 := E4
      have X140 : Ext h3 h117 := Own.Ext.tr X139 E117
      have X141 : Ext h3 h126 := Own.Ext.kp X140 K126 (allS (Nat.le_trans X139.1 (Nat.le_of_eq g117.symm)) all0)
      have X142 : Ext h3 h130 := Own.Ext.kp X141 K130 (allS (Nat.le_trans X140.1 gp126) all0)
      have X143 : Ext h3 h136 := Own.Ext.kp X142 K136 (allS (Nat.le_trans X140.1 gq126) all0)
      refine Own.callV W136 (tw hw 94 rfl) (tw hw 95 rfl) (fun s q => notFace_of_selects (args := #[]) (mvT (s := s) q (tw hw 97 rfl))) (tw hw 97 rfl) (tw hw 96 rfl) (by decide) (argsL := [(.ref o3)]) (rest := []) (Own.Con.pay (con_runBeside_1 hw hEL DS DA W136.old (Nat.le_trans W0.n0 (Nat.le_trans X127.1 gq126)) (Nat.le_trans W0.n0 (Nat.le_trans X138.1 g136)) (Nat.ne_of_lt (Nat.lt_of_lt_of_le L2126.lt (Nat.le_trans (Nat.le_trans (Nat.le_refl _) K130.1) g136))) ((F2126.keep K130 (ninS (Nat.ne_of_lt (Nat.lt_of_lt_of_le A117.lt gp126)) nin0)).keep K136 (ninS (Nat.ne_of_lt (Nat.lt_of_lt_of_le A117.lt gq126)) nin0)) L136 A136 O136 (F3.ext X143)) W136 (tw hw 98 rfl) (tw hw 53 rfl) (len := 3) (wd := 0) (by decide) (by decide) (fun _ q => nomatch q)) ((E126.keep K130).keep K136) rfl (lenOf pd_16 rfl) rfl (Nat.le_of_ble_eq_true rfl) at_102 105 rfl 38 219 (Nat.le_of_ble_eq_true rfl) (Nat.le_of_ble_eq_true rfl) (Nat.le_of_ble_eq_true rfl) (Nat.le_of_ble_eq_true rfl) ?_
      intro v144 T144 h144 u144 W144 R144 hq
      obtain ⟨rfl, K144, L144, A144⟩ := hq
      show Own.Go _ _ _ _ _ 105 #[.val (.int p0), .val (.int p1), .val (.int p2), .val (.int p3), .val (.ref o1), .val (.ref o2), .val (.ref o3), .val (.ref o4), .val (.int (1 : Int32)), .val (.int (1 : Int32)), .val (.ref o117), .val (.ref o117), .val (.ref o117), .unset, .unset, .unset, .unset] [(.ref o117)]
      refine Own.astore W144 at_105 107 rfl rfl #[.val (.int p0), .val (.int p1), .val (.int p2), .val (.int p3), .val (.ref o1), .val (.ref o2), .val (.ref o3), .val (.ref o4), .val (.int (1 : Int32)), .val (.int (1 : Int32)), .val (.ref o117), .val (.ref o117), .val (.ref o117), .unset, .unset, .unset, .unset] rfl ?_
      refine Own.aload W144 at_107 109 rfl (.ref o117) rfl rfl ?_
      refine Own.aload W144 at_109 111 rfl (.ref o117) rfl rfl ?_
      refine Own.acmp W144 at_111 114 rfl rfl true (decide_eq_true rfl) (by decide) rfl ?_
      refine Own.aload W144 at_114 116 rfl (.ref o117) rfl rfl ?_
      refine Own.aload W144 at_116 118 rfl (.ref o117) rfl rfl ?_
      refine Own.acmp W144 at_118 123 rfl rfl true (decide_eq_true rfl) (by decide) rfl ?_
      refine Own.aload W144 at_123 125 rfl (.ref o117) rfl rfl ?_
      refine Own.callV W144 (tw hw 135 rfl) (tw hw 136 rfl) (fun s q => notFace_of_selects (args := #[]) (mvT (s := s) q (tw hw 138 rfl))) (tw hw 138 rfl) (tw hw 137 rfl) (by decide) (argsL := []) (rest := []) (Own.Con.pay (con_b_get_beside hw hEL W144.old (((F2126.keep K130 (ninS (Nat.ne_of_lt (Nat.lt_of_lt_of_le A117.lt gp126)) nin0)).keep K136 (ninS (Nat.ne_of_lt (Nat.lt_of_lt_of_le A117.lt gq126)) nin0)).keep K144 (ninS (Nat.ne_of_lt (Nat.lt_of_lt_of_le A117.lt gq126)) (ninS (Nat.ne_of_lt (Nat.lt_of_lt_of_le E126.lt (Nat.le_trans (Nat.le_trans (Nat.le_refl _) K130.1) g136))) nin0)))) W144 (tw hw 139 rfl) (tw hw 53 rfl) (len := 3) (wd := 0) (by decide) (by decide) (fun _ q => nomatch q)) (((E126.keep K130).keep K136).keep K144) rfl (lenOf pd_17 rfl) rfl (Nat.le_of_ble_eq_true rfl) at_125 128 rfl 38 219 (Nat.le_of_ble_eq_true rfl) (Nat.le_of_ble_eq_true rfl) (Nat.le_of_ble_eq_true rfl) (Nat.le_of_ble_eq_true rfl) ?_
      intro v145 T145 h145 u145 W145 R145 hq
      obtain ⟨rfl, eh145⟩ := hq
      have ei145 := eh145.symm; subst ei145
      show Own.Go _ _ _ _ _ 128 #[.val (.int p0), .val (.int p1), .val (.int p2), .val (.int p3), .val (.ref o1), .val (.ref o2), .val (.ref o3), .val (.ref o4), .val (.int (1 : Int32)), .val (.int (1 : Int32)), .val (.ref o117), .val (.ref o117), .val (.ref o117), .unset, .unset, .unset, .unset] [(.ref q126)]
      refine Own.astore W145 at_128 130 rfl rfl #[.val (.int p0), .val (.int p1), .val (.int p2), .val (.int p3), .val (.ref o1), .val (.ref o2), .val (.ref o3), .val (.ref o4), .val (.int (1 : Int32)), .val (.int (1 : Int32)), .val (.ref o117), .val (.ref o117), .val (.ref o117), .val (.ref q126), .unset, .unset, .unset] rfl ?_
      refine Own.iload W145 at_130 132 rfl (1 : Int32) rfl ?_
      refine Own.ifNo W145 at_132 135 (by decide) rfl ?_
      refine Own.iconst W145 at_135 136 rfl (2 : Int32) rfl ?_
      refine Own.goto W145 at_136 140 (by decide) (by decide) ?_
      refine Own.istore W145 at_140 142 rfl #[.val (.int p0), .val (.int p1), .val (.int p2), .val (.int p3), .val (.ref o1), .val (.ref o2), .val (.ref o3), .val (.ref o4), .val (.int (1 : Int32)), .val (.int (1 : Int32)), .val (.ref o117), .val (.ref o117), .val (.ref o117), .val (.ref q126), .val (.int (2 : Int32)), .unset, .unset] rfl ?_
      refine Own.aload W145 at_142 144 rfl (.ref q126) rfl rfl ?_
      have XL146 := L144.exa
      refine Own.callI W145 (tw hw 140 rfl) (tw hw 141 rfl) (tw hw 142 rfl) rfl (tw hw 143 rfl) (tw hw 144 rfl) (tw hw 145 rfl) (tw hw 146 rfl) (tw hw 107 rfl) (by decide) (argsL := []) (rest := []) (Own.Con.pay (con_sz hw hEL W145.old L144) W145 (tw hw 147 rfl) (tw hw 60 rfl) (len := 5) (wd := 0) (by decide) (by decide) (fun _ q => nomatch q)) XL146 rfl (lenOf pd_18 rfl) rfl (Nat.le_of_ble_eq_true rfl) at_144 149 rfl 38 219 (Nat.le_of_ble_eq_true rfl) (Nat.le_of_ble_eq_true rfl) (Nat.le_of_ble_eq_true rfl) (Nat.le_of_ble_eq_true rfl) ?_
      intro v147 T147 h147 u147 W147 R147 hq
      obtain ⟨rfl, eh147⟩ := hq
      have ei147 := eh147.symm; subst ei147
      show Own.Go _ _ _ _ _ 149 #[.val (.int p0), .val (.int p1), .val (.int p2), .val (.int p3), .val (.ref o1), .val (.ref o2), .val (.ref o3), .val (.ref o4), .val (.int (1 : Int32)), .val (.int (1 : Int32)), .val (.ref o117), .val (.ref o117), .val (.ref o117), .val (.ref q126), .val (.int (2 : Int32)), .unset, .unset] [(.int (2 : Int32))]
      refine Own.iload W147 at_149 151 rfl (2 : Int32) rfl ?_
      refine Own.icmpYes W147 at_151 156 (by decide) (by decide) (by decide) ?_
      refine Own.aload W147 at_156 158 rfl (.ref o2) rfl rfl ?_
      refine Own.aload W147 at_158 160 rfl (.ref q126) rfl rfl ?_
      refine Own.iconst W147 at_160 161 rfl (0 : Int32) rfl ?_
      have XL148 := L144.exa
      refine Own.callI W147 (tw hw 148 rfl) (tw hw 149 rfl) (tw hw 150 rfl) rfl (tw hw 151 rfl) (tw hw 152 rfl) (tw hw 153 rfl) (tw hw 154 rfl) (tw hw 107 rfl) (by decide) (argsL := [(.int (0 : Int32))]) (rest := [(.ref o2)]) (Own.Con.pay (con_get hw hEL (0 : Int32) (by decide) (by decide) (by decide) W147.old L144 A144 (y := o2) rfl) W147 (tw hw 155 rfl) (tw hw 60 rfl) (len := 5) (wd := 1) (by decide) (by decide) (fun _ q => nomatch q)) XL148 rfl (lenOf pd_6 rfl) rfl (Nat.le_of_ble_eq_true rfl) at_161 166 rfl 38 219 (Nat.le_of_ble_eq_true rfl) (Nat.le_of_ble_eq_true rfl) (Nat.le_of_ble_eq_true rfl) (Nat.le_of_ble_eq_true rfl) ?_
      intro v149 T149 h149 u149 W149 R149 hq
      obtain ⟨rfl, eh149⟩ := hq
      have ei149 := eh149.symm; subst ei149
      show Own.Go _ _ _ _ _ 166 #[.val (.int p0), .val (.int p1), .val (.int p2), .val (.int p3), .val (.ref o1), .val (.ref o2), .val (.ref o3), .val (.ref o4), .val (.int (1 : Int32)), .val (.int (1 : Int32)), .val (.ref o117), .val (.ref o117), .val (.ref o117), .val (.ref q126), .val (.int (2 : Int32)), .unset, .unset] [(.ref o2), (.ref o2)]
      have X151 : Ext h2 h136 := Own.Ext.kp X135 K136 (allS (Nat.le_trans X133.1 gq126) all0)
      have X152 : Ext h2 h144 := Own.Ext.kp X151 K144 (allS (Nat.le_trans X133.1 gq126) (allS (Nat.le_trans X135.1 g136) all0))
      refine Own.callV W149 (tw hw 168 rfl) (tw hw 169 rfl) (fun s q => notFace_of_selects (args := #[]) (mvT (s := s) q (tw hw 171 rfl))) (tw hw 171 rfl) (tw hw 170 rfl) (by decide) (argsL := [(.ref o2)]) (rest := []) (Own.Con.pay (con_eqid hw hEL o2 W149.old) W149 (tw hw 172 rfl) (tw hw 6 rfl) (len := 3) (wd := 0) (by decide) (by decide) (fun _ q => nomatch q)) (F2.ext X152) rfl (lenOf pd_8 rfl) rfl (Nat.le_of_ble_eq_true rfl) at_166 169 rfl 38 219 (Nat.le_of_ble_eq_true rfl) (Nat.le_of_ble_eq_true rfl) (Nat.le_of_ble_eq_true rfl) (Nat.le_of_ble_eq_true rfl) ?_
      intro v150 T150 h150 u150 W150 R150 hq
      obtain ⟨rfl, eh150⟩ := hq
      have ei150 := eh150.symm; subst ei150
      show Own.Go _ _ _ _ _ 169 #[.val (.int p0), .val (.int p1), .val (.int p2), .val (.int p3), .val (.ref o1), .val (.ref o2), .val (.ref o3), .val (.ref o4), .val (.int (1 : Int32)), .val (.int (1 : Int32)), .val (.ref o117), .val (.ref o117), .val (.ref o117), .val (.ref q126), .val (.int (2 : Int32)), .unset, .unset] [(.int (1 : Int32))]
      refine Own.ifYes W150 at_169 174 (by decide) (by decide) (by decide) ?_
      refine Own.iload W150 at_174 176 rfl (1 : Int32) rfl ?_
      refine Own.ifNo W150 at_176 179 (by decide) rfl ?_
      refine Own.aload W150 at_179 181 rfl (.ref o3) rfl rfl ?_
      refine Own.aload W150 at_181 183 rfl (.ref q126) rfl rfl ?_
      refine Own.iconst W150 at_183 184 rfl (1 : Int32) rfl ?_
      have XL153 := L144.exa
      refine Own.callI W150 (tw hw 148 rfl) (tw hw 149 rfl) (tw hw 150 rfl) rfl (tw hw 151 rfl) (tw hw 152 rfl) (tw hw 153 rfl) (tw hw 154 rfl) (tw hw 107 rfl) (by decide) (argsL := [(.int (1 : Int32))]) (rest := [(.ref o3)]) (Own.Con.pay (con_get hw hEL (1 : Int32) (by decide) (by decide) (by decide) W150.old L144 A144 (y := o3) rfl) W150 (tw hw 155 rfl) (tw hw 60 rfl) (len := 5) (wd := 1) (by decide) (by decide) (fun _ q => nomatch q)) XL153 rfl (lenOf pd_6 rfl) rfl (Nat.le_of_ble_eq_true rfl) at_184 189 rfl 38 219 (Nat.le_of_ble_eq_true rfl) (Nat.le_of_ble_eq_true rfl) (Nat.le_of_ble_eq_true rfl) (Nat.le_of_ble_eq_true rfl) ?_
      intro v154 T154 h154 u154 W154 R154 hq
      obtain ⟨rfl, eh154⟩ := hq
      have ei154 := eh154.symm; subst ei154
      show Own.Go _ _ _ _ _ 189 #[.val (.int p0), .val (.int p1), .val (.int p2), .val (.int p3), .val (.ref o1), .val (.ref o2), .val (.ref o3), .val (.ref o4), .val (.int (1 : Int32)), .val (.int (1 : Int32)), .val (.ref o117), .val (.ref o117), .val (.ref o117), .val (.ref q126), .val (.int (2 : Int32)), .unset, .unset] [(.ref o3), (.ref o3)]
      have X156 : Ext h3 h144 := Own.Ext.kp X143 K144 (allS (Nat.le_trans X140.1 gq126) (allS (Nat.le_trans X142.1 g136) all0))
      refine Own.callV W154 (tw hw 168 rfl) (tw hw 169 rfl) (fun s q => notFace_of_selects (args := #[]) (mvT (s := s) q (tw hw 171 rfl))) (tw hw 171 rfl) (tw hw 170 rfl) (by decide) (argsL := [(.ref o3)]) (rest := []) (Own.Con.pay (con_eqid hw hEL o3 W154.old) W154 (tw hw 172 rfl) (tw hw 6 rfl) (len := 3) (wd := 0) (by decide) (by decide) (fun _ q => nomatch q)) (F3.ext X156) rfl (lenOf pd_8 rfl) rfl (Nat.le_of_ble_eq_true rfl) at_189 192 rfl 38 219 (Nat.le_of_ble_eq_true rfl) (Nat.le_of_ble_eq_true rfl) (Nat.le_of_ble_eq_true rfl) (Nat.le_of_ble_eq_true rfl) ?_
      intro v155 T155 h155 u155 W155 R155 hq
      obtain ⟨rfl, eh155⟩ := hq
      have ei155 := eh155.symm; subst ei155
      show Own.Go _ _ _ _ _ 192 #[.val (.int p0), .val (.int p1), .val (.int p2), .val (.int p3), .val (.ref o1), .val (.ref o2), .val (.ref o3), .val (.ref o4), .val (.int (1 : Int32)), .val (.int (1 : Int32)), .val (.ref o117), .val (.ref o117), .val (.ref o117), .val (.ref q126), .val (.int (2 : Int32)), .unset, .unset] [(.int (1 : Int32))]
      refine Own.ifYes W155 at_192 197 (by decide) (by decide) (by decide) ?_
      refine Own.aload W155 at_197 199 rfl (.ref o117) rfl rfl ?_
      refine Own.callV W155 (tw hw 173 rfl) (tw hw 174 rfl) (fun s q => notFace_of_selects (args := #[]) (mvT (s := s) q (tw hw 176 rfl))) (tw hw 176 rfl) (tw hw 175 rfl) (by decide) (argsL := []) (rest := []) (Own.Con.pay (con_b_get_before hw hEL W155.old (((F1126.keep K130 (ninS (Nat.ne_of_lt (Nat.lt_of_lt_of_le A117.lt gp126)) nin0)).keep K136 (ninS (Nat.ne_of_lt (Nat.lt_of_lt_of_le A117.lt gq126)) nin0)).keep K144 (ninS (Nat.ne_of_lt (Nat.lt_of_lt_of_le A117.lt gq126)) (ninS (Nat.ne_of_lt (Nat.lt_of_lt_of_le E126.lt (Nat.le_trans (Nat.le_trans (Nat.le_refl _) K130.1) g136))) nin0)))) W155 (tw hw 177 rfl) (tw hw 53 rfl) (len := 3) (wd := 0) (by decide) (by decide) (fun _ q => nomatch q)) (((E126.keep K130).keep K136).keep K144) rfl (lenOf pd_17 rfl) rfl (Nat.le_of_ble_eq_true rfl) at_199 202 rfl 38 219 (Nat.le_of_ble_eq_true rfl) (Nat.le_of_ble_eq_true rfl) (Nat.le_of_ble_eq_true rfl) (Nat.le_of_ble_eq_true rfl) ?_
      intro v157 T157 h157 u157 W157 R157 hq
      obtain ⟨rfl, eh157⟩ := hq
      have ei157 := eh157.symm; subst ei157
      show Own.Go _ _ _ _ _ 202 #[.val (.int p0), .val (.int p1), .val (.int p2), .val (.int p3), .val (.ref o1), .val (.ref o2), .val (.ref o3), .val (.ref o4), .val (.int (1 : Int32)), .val (.int (1 : Int32)), .val (.ref o117), .val (.ref o117), .val (.ref o117), .val (.ref q126), .val (.int (2 : Int32)), .unset, .unset] [(.ref p126)]
      refine Own.astore W157 at_202 204 rfl rfl #[.val (.int p0), .val (.int p1), .val (.int p2), .val (.int p3), .val (.ref o1), .val (.ref o2), .val (.ref o3), .val (.ref o4), .val (.int (1 : Int32)), .val (.int (1 : Int32)), .val (.ref o117), .val (.ref o117), .val (.ref o117), .val (.ref q126), .val (.int (2 : Int32)), .val (.ref p126), .unset] rfl ?_
      refine Own.iload W157 at_204 206 rfl (1 : Int32) rfl ?_
      refine Own.ifNo W157 at_206 209 (by decide) rfl ?_
      refine Own.iconst W157 at_209 210 rfl (1 : Int32) rfl ?_
      refine Own.goto W157 at_210 214 (by decide) (by decide) ?_
      refine Own.istore W157 at_214 216 rfl #[.val (.int p0), .val (.int p1), .val (.int p2), .val (.int p3), .val (.ref o1), .val (.ref o2), .val (.ref o3), .val (.ref o4), .val (.int (1 : Int32)), .val (.int (1 : Int32)), .val (.ref o117), .val (.ref o117), .val (.ref o117), .val (.ref q126), .val (.int (2 : Int32)), .val (.ref p126), .val (.int (1 : Int32))] rfl ?_
      refine Own.aload W157 at_216 218 rfl (.ref p126) rfl rfl ?_
      have XL158 := ((L130.keep K136 (ninS ne126 nin0)).keep K144 (ninS ne126 (ninS (Nat.ne_of_lt (Nat.lt_of_lt_of_le L130.lt g136)) nin0))).exa
      refine Own.callI W157 (tw hw 140 rfl) (tw hw 141 rfl) (tw hw 142 rfl) rfl (tw hw 143 rfl) (tw hw 144 rfl) (tw hw 145 rfl) (tw hw 146 rfl) (tw hw 107 rfl) (by decide) (argsL := []) (rest := []) (Own.Con.pay (con_sz hw hEL W157.old ((L130.keep K136 (ninS ne126 nin0)).keep K144 (ninS ne126 (ninS (Nat.ne_of_lt (Nat.lt_of_lt_of_le L130.lt g136)) nin0)))) W157 (tw hw 147 rfl) (tw hw 60 rfl) (len := 5) (wd := 0) (by decide) (by decide) (fun _ q => nomatch q)) XL158 rfl (lenOf pd_18 rfl) rfl (Nat.le_of_ble_eq_true rfl) at_218 223 rfl 38 219 (Nat.le_of_ble_eq_true rfl) (Nat.le_of_ble_eq_true rfl) (Nat.le_of_ble_eq_true rfl) (Nat.le_of_ble_eq_true rfl) ?_
      intro v159 T159 h159 u159 W159 R159 hq
      obtain ⟨rfl, eh159⟩ := hq
      have ei159 := eh159.symm; subst ei159
      show Own.Go _ _ _ _ _ 223 #[.val (.int p0), .val (.int p1), .val (.int p2), .val (.int p3), .val (.ref o1), .val (.ref o2), .val (.ref o3), .val (.ref o4), .val (.int (1 : Int32)), .val (.int (1 : Int32)), .val (.ref o117), .val (.ref o117), .val (.ref o117), .val (.ref q126), .val (.int (2 : Int32)), .val (.ref p126), .val (.int (1 : Int32))] [(.int (1 : Int32))]
      refine Own.iload W159 at_223 225 rfl (1 : Int32) rfl ?_
      refine Own.icmpYes W159 at_225 230 (by decide) (by decide) (by decide) ?_
      refine Own.iload W159 at_230 232 rfl (1 : Int32) rfl ?_
      refine Own.ifNo W159 at_232 235 (by decide) rfl ?_
      refine Own.aload W159 at_235 237 rfl (.ref o4) rfl rfl ?_
      refine Own.aload W159 at_237 239 rfl (.ref p126) rfl rfl ?_
      refine Own.iconst W159 at_239 240 rfl (0 : Int32) rfl ?_
      have XL160 := ((L130.keep K136 (ninS ne126 nin0)).keep K144 (ninS ne126 (ninS (Nat.ne_of_lt (Nat.lt_of_lt_of_le L130.lt g136)) nin0))).exa
      refine Own.callI W159 (tw hw 148 rfl) (tw hw 149 rfl) (tw hw 150 rfl) rfl (tw hw 151 rfl) (tw hw 152 rfl) (tw hw 153 rfl) (tw hw 154 rfl) (tw hw 107 rfl) (by decide) (argsL := [(.int (0 : Int32))]) (rest := [(.ref o4)]) (Own.Con.pay (con_get hw hEL (0 : Int32) (by decide) (by decide) (by decide) W159.old ((L130.keep K136 (ninS ne126 nin0)).keep K144 (ninS ne126 (ninS (Nat.ne_of_lt (Nat.lt_of_lt_of_le L130.lt g136)) nin0))) ((A130.keep K136 (ninS (Ne.symm (Nat.ne_of_lt (Nat.lt_of_lt_of_le L2126.lt g130))) nin0)).keep K144 (ninS (Ne.symm (Nat.ne_of_lt (Nat.lt_of_lt_of_le L2126.lt g130))) (ninS (Nat.ne_of_lt (Nat.lt_of_lt_of_le A130.lt g136)) nin0))) (y := o4) rfl) W159 (tw hw 155 rfl) (tw hw 60 rfl) (len := 5) (wd := 1) (by decide) (by decide) (fun _ q => nomatch q)) XL160 rfl (lenOf pd_6 rfl) rfl (Nat.le_of_ble_eq_true rfl) at_240 245 rfl 38 219 (Nat.le_of_ble_eq_true rfl) (Nat.le_of_ble_eq_true rfl) (Nat.le_of_ble_eq_true rfl) (Nat.le_of_ble_eq_true rfl) ?_
      intro v161 T161 h161 u161 W161 R161 hq
      obtain ⟨rfl, eh161⟩ := hq
      have ei161 := eh161.symm; subst ei161
      show Own.Go _ _ _ _ _ 245 #[.val (.int p0), .val (.int p1), .val (.int p2), .val (.int p3), .val (.ref o1), .val (.ref o2), .val (.ref o3), .val (.ref o4), .val (.int (1 : Int32)), .val (.int (1 : Int32)), .val (.ref o117), .val (.ref o117), .val (.ref o117), .val (.ref q126), .val (.int (2 : Int32)), .val (.ref p126), .val (.int (1 : Int32))] [(.ref o4), (.ref o4)]
      have X163 : Ext h4 h130 := Own.Ext.kp X129 K130 (allS (Nat.le_trans X128.1 gp126) all0)
      have X164 : Ext h4 h136 := Own.Ext.kp X163 K136 (allS (Nat.le_trans X128.1 gq126) all0)
      have X165 : Ext h4 h144 := Own.Ext.kp X164 K144 (allS (Nat.le_trans X128.1 gq126) (allS (Nat.le_trans X163.1 g136) all0))
      refine Own.callV W161 (tw hw 168 rfl) (tw hw 169 rfl) (fun s q => notFace_of_selects (args := #[]) (mvT (s := s) q (tw hw 171 rfl))) (tw hw 171 rfl) (tw hw 170 rfl) (by decide) (argsL := [(.ref o4)]) (rest := []) (Own.Con.pay (con_eqid hw hEL o4 W161.old) W161 (tw hw 172 rfl) (tw hw 6 rfl) (len := 3) (wd := 0) (by decide) (by decide) (fun _ q => nomatch q)) (F4.ext X165) rfl (lenOf pd_8 rfl) rfl (Nat.le_of_ble_eq_true rfl) at_245 248 rfl 38 219 (Nat.le_of_ble_eq_true rfl) (Nat.le_of_ble_eq_true rfl) (Nat.le_of_ble_eq_true rfl) (Nat.le_of_ble_eq_true rfl) ?_
      intro v162 T162 h162 u162 W162 R162 hq
      obtain ⟨rfl, eh162⟩ := hq
      have ei162 := eh162.symm; subst ei162
      show Own.Go _ _ _ _ _ 248 #[.val (.int p0), .val (.int p1), .val (.int p2), .val (.int p3), .val (.ref o1), .val (.ref o2), .val (.ref o3), .val (.ref o4), .val (.int (1 : Int32)), .val (.int (1 : Int32)), .val (.ref o117), .val (.ref o117), .val (.ref o117), .val (.ref q126), .val (.int (2 : Int32)), .val (.ref p126), .val (.int (1 : Int32))] [(.int (1 : Int32))]
      refine Own.ifYes W162 at_248 253 (by decide) (by decide) (by decide) ?_
      refine Own.aload W162 at_253 255 rfl (.ref o1) rfl rfl ?_
      refine Own.aload W162 at_255 257 rfl (.ref o117) rfl rfl ?_
      refine Own.callV W162 (tw hw 178 rfl) (tw hw 179 rfl) (fun s q => notFace_of_selects (args := #[]) (mvT (s := s) q (tw hw 181 rfl))) (tw hw 181 rfl) (tw hw 180 rfl) (by decide) (argsL := []) (rest := [(.ref o1)]) (Own.Con.pay (con_b_get_name hw hEL W162.old (((F3126.keep K130 (ninS (Nat.ne_of_lt (Nat.lt_of_lt_of_le A117.lt gp126)) nin0)).keep K136 (ninS (Nat.ne_of_lt (Nat.lt_of_lt_of_le A117.lt gq126)) nin0)).keep K144 (ninS (Nat.ne_of_lt (Nat.lt_of_lt_of_le A117.lt gq126)) (ninS (Nat.ne_of_lt (Nat.lt_of_lt_of_le E126.lt (Nat.le_trans (Nat.le_trans (Nat.le_refl _) K130.1) g136))) nin0)))) W162 (tw hw 182 rfl) (tw hw 53 rfl) (len := 3) (wd := 1) (by decide) (by decide) (fun _ q => nomatch q)) (((E126.keep K130).keep K136).keep K144) rfl (lenOf pd_19 rfl) rfl (Nat.le_of_ble_eq_true rfl) at_257 260 rfl 38 219 (Nat.le_of_ble_eq_true rfl) (Nat.le_of_ble_eq_true rfl) (Nat.le_of_ble_eq_true rfl) (Nat.le_of_ble_eq_true rfl) ?_
      intro v166 T166 h166 u166 W166 R166 hq
      obtain ⟨rfl, eh166⟩ := hq
      have ei166 := eh166.symm; subst ei166
      show Own.Go _ _ _ _ _ 260 #[.val (.int p0), .val (.int p1), .val (.int p2), .val (.int p3), .val (.ref o1), .val (.ref o2), .val (.ref o3), .val (.ref o4), .val (.int (1 : Int32)), .val (.int (1 : Int32)), .val (.ref o117), .val (.ref o117), .val (.ref o117), .val (.ref q126), .val (.int (2 : Int32)), .val (.ref p126), .val (.int (1 : Int32))] [(.ref o1), (.ref o1)]
      have X168 : Ext h1 h126 := Own.Ext.kp X125 K126 (allS (Nat.le_trans X124.1 (Nat.le_of_eq g117.symm)) all0)
      have X169 : Ext h1 h130 := Own.Ext.kp X168 K130 (allS (Nat.le_trans X125.1 gp126) all0)
      have X170 : Ext h1 h136 := Own.Ext.kp X169 K136 (allS (Nat.le_trans X125.1 gq126) all0)
      have X171 : Ext h1 h144 := Own.Ext.kp X170 K144 (allS (Nat.le_trans X125.1 gq126) (allS (Nat.le_trans X169.1 g136) all0))
      refine Own.callV W166 (tw hw 168 rfl) (tw hw 169 rfl) (fun s q => notFace_of_selects (args := #[]) (mvT (s := s) q (tw hw 171 rfl))) (tw hw 171 rfl) (tw hw 170 rfl) (by decide) (argsL := [(.ref o1)]) (rest := []) (Own.Con.pay (con_eqid hw hEL o1 W166.old) W166 (tw hw 172 rfl) (tw hw 6 rfl) (len := 3) (wd := 0) (by decide) (by decide) (fun _ q => nomatch q)) (F1.ext X171) rfl (lenOf pd_8 rfl) rfl (Nat.le_of_ble_eq_true rfl) at_260 263 rfl 38 219 (Nat.le_of_ble_eq_true rfl) (Nat.le_of_ble_eq_true rfl) (Nat.le_of_ble_eq_true rfl) (Nat.le_of_ble_eq_true rfl) ?_
      intro v167 T167 h167 u167 W167 R167 hq
      obtain ⟨rfl, eh167⟩ := hq
      have ei167 := eh167.symm; subst ei167
      show Own.Go _ _ _ _ _ 263 #[.val (.int p0), .val (.int p1), .val (.int p2), .val (.int p3), .val (.ref o1), .val (.ref o2), .val (.ref o3), .val (.ref o4), .val (.int (1 : Int32)), .val (.int (1 : Int32)), .val (.ref o117), .val (.ref o117), .val (.ref o117), .val (.ref q126), .val (.int (2 : Int32)), .val (.ref p126), .val (.int (1 : Int32))] [(.int (1 : Int32))]
      exact Own.retB W167 (by decide) (by decide) rfl at_263 rfl rfl
theorem elW {G : Own.Gl} (hw : ∀ d ∈ tables_1, d.before G.a0 G.Z = true) : EW G.Z G.a0 consts_1 := (EW.cons (tw hw 86 rfl) (by decide) (EW.cons (tw hw 99 rfl) (by decide) (EW.cons (tw hw 18 rfl) (by decide) EW.nil)))
set_option maxRecDepth 65536 in
set_option maxHeartbeats 40000000 in
theorem comes_1 {Post : Tables → Env → Array Value → State → Outcome → State → Prop} (hpost : ∀ tb e args s v u, (limb_1_1.after args s (.returned v) u = true ∧ limb_1_2.after args s (.returned v) u = true ∧ True) → ReturnedEndW s (.returned v) u (Jvm.fieldLocs frame_1_writes args s ++ Jvm.arrayLocs frame_1_arrays args s ++ Jvm.staticLocs frame_1_statics s) 48 3328 → Post tb e args s (.returned v) u) :
    ArmFor flags0 classFile x code maxLocals ret World_1 tables_1 room_1 Calls_1 rest_1 Pre_1 Post := by
  intro l hfl _ _ p e ha hc hk s m args below hf hA hF happ hP
  obtain ⟨hcalls, hrest, hpre⟩ := hP
  obtain ⟨-, -, -, hnamed, -, -, -, hat⟩ := (Spec.applies_iff hf).mp happ
  obtain ⟨hg, hn⟩ := and_e (Cond.before_iff.mp (show (Jvm.Cond.and given_1 narrow_1).before args s = true from hpre))
  obtain ⟨hcnt, g1⟩ := and_e hg
  obtain ⟨a0, g2⟩ := and_e g1
  obtain ⟨a1, g3⟩ := and_e g2
  obtain ⟨a2, g4⟩ := and_e g3
  have a3 := g4
  obtain ⟨w0, w1, w2, w3, rfl⟩ : ∃ w0 w1 w2 w3 : Value, args = #[w0, w1, w2, w3] := by
    have hs : args.size = 4 := by simpa [Cond.value, given_1] using hcnt
    obtain ⟨L⟩ := args
    match L, hs with
    | [w0, w1, w2, w3], _ => exact ⟨w0, w1, w2, w3, rfl⟩
  have hw := fun d (hd : d ∈ tables_1) => atoms_spec (ws := Jvm.Cond.code x code maxLocals ret :: tables_1) hat d (List.mem_cons_of_mem _ hd)
  have hfit : Fit s := fun {y c} hc i hi => by
    obtain ⟨ha, rfl⟩ := Array.getElem?_eq_some_iff.mp hc
    have q := List.all_eq_true.mp ((Array.all_eq_true_iff_forall_mem.mp hF) _ (Array.getElem_mem ha)) i (List.mem_range.mpr hi)
    simpa [Array.getElem?_eq_getElem hi] using q
  obtain ⟨hsets, hown0⟩ := atoms_of _ (rest_1_c_eq ▸ (show rest_1_c.before _ s = true from hrest))
  obtain ⟨i0, ei0⟩ := is_v a0
  obtain rfl : w0 = (.int i0) := Option.some.inj ei0
  obtain ⟨i1, ei1⟩ := is_v a1
  obtain rfl : w1 = (.int i1) := Option.some.inj ei1
  obtain ⟨i2, ei2⟩ := is_v a2
  obtain rfl : w2 = (.int i2) := Option.some.inj ei2
  obtain ⟨i3, ei3⟩ := is_v a3
  obtain rfl : w3 = (.int i3) := Option.some.inj ei3
  have n3 := not_v (Cond.before_iff.mp (hsets _ (List.mem_of_getElem? (i := 2) rfl)))
  obtain ⟨cz, ecz⟩ := is_v (Cond.before_iff.mp (hsets _ (List.mem_of_getElem? (i := 1) rfl)))
  have S8 : Sta s s.heap "java/lang/String" "COMPACT_STRINGS" "Z" (.int cz) := Sta.start ecz (Or.inl (hsets _ (List.mem_of_getElem? (i := 0) rfl)))
  have hcz : ¬ (cz = (0 : Int32)) := gotF (Cond.eq_ints ecz (Term.int_eval (0))) n3
  obtain ⟨fm, efm, rfm⟩ := isR_v (Cond.before_iff.mp (hsets _ (List.mem_of_getElem? (i := 8) rfl)))
  have SF : Sta s s.heap "jdk/internal/util/Preconditions" "SIOOBE_FORMATTER" "Ljava/util/function/BiFunction;" fm := Sta.start efm (Or.inl (hsets _ (List.mem_of_getElem? (i := 7) rfl)))
  let G : Own.Gl := (l, s, #[(.int i0), (.int i1), (.int i2), (.int i3)], consts_1, s.heap.size)
  have hw' : ∀ d ∈ tables_1, d.before G.a0 G.Z = true := hw
  have hEL : EW G.Z G.a0 G.EL := elW hw'
  have hcw : Jvm.Lit.compactW.before G.a0 G.Z = true := hsets _ (List.mem_of_getElem? (i := 2) rfl)
  have hCH : CHv G.Z G.EL G.Z.vm G.Z.heap := CHv.start hEL (fun q hq => hcalls.1 q hq) hcw (tw hw' 19 rfl) (tw hw' 5 rfl)
  obtain ⟨dc, edc⟩ := arr_v (Cond.before_iff.mp (hsets _ (List.mem_of_getElem? (i := 15) rfl)))
  have DS := Sta.start edc (Or.inr ⟨hw _ (List.mem_of_getElem? (i := 60) rfl), hsets _ (List.mem_of_getElem? (i := 11) rfl)⟩)
  obtain ⟨kD, DA⟩ := Own.arvStart hfit (dv := .null) (vs := []) edc (Cond.before_iff.mp (hsets _ (List.mem_of_getElem? (i := 15) rfl))) (Cond.before_iff.mp (hsets _ (List.mem_of_getElem? (i := 17) rfl))) (by decide) rfl (by intro i hi; cases hi)
  obtain ⟨n, o, h1, h2, h3, v, L, rfl, ⟨hv, N, -⟩, -, hq⟩ := con_law (G := G) hw' hEL (by show (Own.ST, 7) ∈ consts_1; decide) S8 hcz DS DA i0 i1 i2 i3 (Old.start s) p e ha hc hk s m _ below hf ((Spec.applies_iff_loose hf).mp happ).1 ⟨rfl, State.Warmed39.refl s, rfl, hCH, fun _ q => nomatch q⟩ trivial
  subst hv
  exact ⟨n, _, h1, h2, h3, hpost _ _ _ _ _ _ ⟨Cond.after_iff.mpr rfl, Cond.after_iff.mpr (eq_i res_at (Term.int_eval (1)) rfl), trivial⟩ ⟨hq.1, hq.2.1, hq.2.2.1, (hq.2.2.2.sift fun y hy => Or.inr (N y hy)).mono (by decide) (by decide)⟩⟩
theorem main_1_1 : Claimed_1_1 := comes_1 fun _ _ _ _ _ _ h hF => ⟨h.1, hF⟩
theorem main_1_2 : Claimed_1_2 := comes_1 fun _ _ _ _ _ _ h hF => ⟨h.2.1, hF⟩
end Jvm.Pilot.@@N@@
namespace Jvm.Pilot.@@N@@
open Jvm Jvm.ClassFile Sem Op Lib Jvm.Free Jvm.Stand Jvm.Pilot.@@N@@.Jvm.D
/-! MADE BY PROGRAM (witnessworld.py) out of the Statement's table words and the real class files: 31 classes; the members and pool entries that the words name. The judged class is class 1, her method 2. -/
namespace start1
open Jvm.ClassFile
def u (s : String) : CpInfo := .utf8 (stringToUtf16 s)
/-- a pool by its gaps: so many unusable entries, then the entry; so many at the end -/
def gap : Nat → List CpInfo → List CpInfo
  | 0, r => r
  | n + 1, r => .unusable :: gap n r
def poolList (es : List (Nat × CpInfo)) (last : Nat) : List CpInfo := es.foldr (fun e r => gap e.1 (e.2 :: r)) (gap last [])
def pool (es : List (Nat × CpInfo)) (last : Nat) : Array CpInfo := ⟨poolList es last⟩
def fileOf (pool : Array CpInfo) (this : Nat) (attrs : Array Attribute := #[]) (ms : Array MethodInfo := #[]) (fl : Nat := 33) (sup : Nat := 0) (ifs : Array Nat := #[]) (fds : Array FieldInfo := #[]) : ClassFile where
  minorVersion := 0
  majorVersion := 65
  constantPool := pool
  accessFlags := fl
  thisClass := this
  superClass := sup
  interfaces := ifs
  fields := fds
  methods := ms
  attributes := attrs
def plain (name : String) (sup : Option ClassId) : Class where
  name := name
  kind := .ordinary
  loader := none
  accessFlags := 33
  super := sup
  interfaces := #[]
  cf := none
  fields := #[]
  methods := #[]
  instanceTypes := #[]
  staticTypes := #[]
  resolved := #[]
  callSites := []
  init := .initialized
  statics := none
  mirror := none

def pool0 : Array CpInfo := pool [(5, u "<init>"), (0, u "()V"), (1, .class_ 10), (1, u "java/lang/Object")] 113

def k0c0 : Code := { maxStack := 0, maxLocals := 1, code := object_method_1_code, exceptionTable := #[], attributes := #[] }
def k0m0 : Method := { name := "<init>", desc := "()V", sig := { parameters := [], returnType := none }, accessFlags := 1, code := some k0c0 }
/-- java/lang/Object -/
def k0 : Class := { plain "java/lang/Object" none with
  accessFlags := 33
  interfaces := #[]
  cf := some (fileOf pool0 8 #[] #[{ accessFlags := 1, nameIndex := 5, descriptorIndex := 6, attributes := #[] }] 33 0 #[] #[])
  fields := #[]
  methods := #[k0m0]
  instanceTypes := #[]
  staticTypes := #[]
  resolved := Array.replicate 124 none
  statics := none }

def pool1 : Array CpInfo := pool [(2, .class_ 4), (1, u "java/lang/Object"), (0, u "<init>"), (0, u "()V"), (0, .class_ 8), (0, u "java/lang/String"), (0, .methodref 7 10), (0, .nameAndType 5 11), (0, u "([C)V"), (0, .methodref 7 13), (0, .nameAndType 14 15), (0, u "valueOf"), (0, u "(C)Ljava/lang/String;"), (0, .methodref 17 18), (0, .class_ 19), (0, .nameAndType 20 21), (0, u "com/example/kickstand/kickstand/CommandDecorationRunBesidePinLaw"), (0, u "mk"), (0, u "(I)Ljava/lang/String;"), (0, .class_ 23), (0, u "com/example/kickstand/kickstand/CommandDecoration"), (0, .methodref 22 25), (0, .nameAndType 5 26), (0, u "(Ljava/lang/String;)V"), (0, .methodref 22 28), (0, .nameAndType 29 30), (0, u "runBefore"), (0, u "(Ljava/lang/String;)Lcom/example/kickstand/kickstand/CommandDecoration;"), (0, .methodref 22 32), (0, .nameAndType 33 30), (0, u "runBeside"), (0, .methodref 22 35), (0, .nameAndType 36 37), (0, u "beside"), (0, u "()Ljava/util/List;"), (0, .interfaceMethodref 39 40), (0, .class_ 41), (0, .nameAndType 42 43), (0, u "java/util/List"), (0, u "size"), (0, u "()I"), (0, .interfaceMethodref 39 45), (0, .nameAndType 46 47), (0, u "get"), (0, u "(I)Ljava/lang/Object;"), (0, .methodref 7 49), (0, .nameAndType 50 51), (0, u "equals"), (0, u "(Ljava/lang/Object;)Z"), (0, .methodref 22 53), (0, .nameAndType 54 37), (0, u "before"), (0, .methodref 22 56), (0, .nameAndType 57 58), (0, u "name"), (0, u "()Ljava/lang/String;"), (3, u "law"), (0, u "(IIII)Z")] 2

def k1m0 : Method := { name := "<init>", desc := "()V", sig := { parameters := [], returnType := none }, accessFlags := 1, code := none }
def k1c1 : Code := { maxStack := 6, maxLocals := 4, code := method_2_code, exceptionTable := #[], attributes := #[] }
def k1m1 : Method := { name := "mk", desc := "(I)Ljava/lang/String;", sig := { parameters := [.int], returnType := some (.object "java/lang/String") }, accessFlags := 10, code := some k1c1 }
def k1c2 : Code := { maxStack := 3, maxLocals := 17, code := code, exceptionTable := #[], attributes := #[] }
def k1m2 : Method := { name := "law", desc := "(IIII)Z", sig := { parameters := [.int, .int, .int, .int], returnType := some .boolean }, accessFlags := 9, code := some k1c2 }
/-- com/example/kickstand/kickstand/CommandDecorationRunBesidePinLaw -/
def k1 : Class := { plain "com/example/kickstand/kickstand/CommandDecorationRunBesidePinLaw" (some 0) with
  accessFlags := 49
  interfaces := #[]
  cf := some (fileOf pool1 17 #[] #[{ accessFlags := 1, nameIndex := 5, descriptorIndex := 6, attributes := #[] }, { accessFlags := 10, nameIndex := 20, descriptorIndex := 21, attributes := #[] }, { accessFlags := 9, nameIndex := 62, descriptorIndex := 63, attributes := #[] }] 49 2 #[] #[])
  fields := #[]
  methods := #[k1m0, k1m1, k1m2]
  instanceTypes := #[]
  staticTypes := #[]
  resolved := Array.replicate 66 none
  statics := none }

def pool2 : Array CpInfo := pool [(1, .class_ 2), (0, u "java/io/Serializable"), (0, .class_ 4), (0, u "java/lang/Object")] 2

/-- java/io/Serializable -/
def k2 : Class := { plain "java/io/Serializable" (some 0) with
  accessFlags := 1537
  interfaces := #[]
  cf := some (fileOf pool2 1 #[] #[] 1537 3 #[] #[])
  fields := #[]
  methods := #[]
  instanceTypes := #[]
  staticTypes := #[]
  resolved := Array.replicate 7 none
  statics := none }

def pool3 : Array CpInfo := pool [(1, .class_ 2), (0, u "java/lang/Comparable"), (0, .class_ 4), (0, u "java/lang/Object")] 7

/-- java/lang/Comparable -/
def k3 : Class := { plain "java/lang/Comparable" (some 0) with
  accessFlags := 1537
  interfaces := #[]
  cf := some (fileOf pool3 1 #[] #[] 1537 3 #[] #[])
  fields := #[]
  methods := #[]
  instanceTypes := #[]
  staticTypes := #[]
  resolved := Array.replicate 12 none
  statics := none }

def pool4 : Array CpInfo := pool [(2, .class_ 4), (1, u "java/lang/CharSequence"), (42, .class_ 48), (0, u "java/lang/CharSequence$1CodePointIterator"), (10, .class_ 60), (0, u "java/lang/CharSequence$1CharIterator"), (5, .class_ 67), (0, u "java/lang/Object")] 63

/-- java/lang/CharSequence -/
def k4 : Class := { plain "java/lang/CharSequence" (some 0) with
  accessFlags := 1537
  interfaces := #[]
  cf := some (fileOf pool4 2 #[.nestMembers #[47, 59]] #[] 1537 66 #[] #[])
  fields := #[]
  methods := #[]
  instanceTypes := #[]
  staticTypes := #[]
  resolved := Array.replicate 131 none
  statics := none }

def pool5 : Array CpInfo := pool [(1, .class_ 2), (0, u "java/lang/constant/Constable"), (0, .class_ 4), (0, u "java/lang/Object")] 6

/-- java/lang/constant/Constable -/
def k5 : Class := { plain "java/lang/constant/Constable" (some 0) with
  accessFlags := 1537
  interfaces := #[]
  cf := some (fileOf pool5 1 #[] #[] 1537 3 #[] #[])
  fields := #[]
  methods := #[]
  instanceTypes := #[]
  staticTypes := #[]
  resolved := Array.replicate 11 none
  statics := none }

def pool6 : Array CpInfo := pool [(1, .class_ 2), (0, u "java/lang/constant/ConstantDesc"), (0, .class_ 4), (0, u "java/lang/Object")] 32

/-- java/lang/constant/ConstantDesc -/
def k6 : Class := { plain "java/lang/constant/ConstantDesc" (some 0) with
  accessFlags := 1537
  interfaces := #[]
  cf := some (fileOf pool6 1 #[] #[] 1537 3 #[] #[])
  fields := #[]
  methods := #[]
  instanceTypes := #[]
  staticTypes := #[]
  resolved := Array.replicate 37 none
  statics := none }

def pool7 : Array CpInfo := pool [(1, .methodref 2 3), (0, .class_ 4), (0, .nameAndType 5 6), (0, u "java/lang/Object"), (0, u "<init>"), (0, u "()V"), (0, .string 8), (0, u ""), (0, .fieldref 10 11), (0, .class_ 12), (0, .nameAndType 13 14), (0, u "java/lang/String"), (0, u "value"), (0, u "[B"), (0, .fieldref 10 16), (0, .nameAndType 17 18), (0, u "coder"), (0, u "B"), (2, u "hash"), (0, u "I"), (2, u "hashIsZero"), (0, u "Z"), (0, .methodref 10 28), (0, .nameAndType 5 29), (0, u "([CIILjava/lang/Void;)V"), (8, .fieldref 10 39), (0, .nameAndType 40 26), (0, u "COMPACT_STRINGS"), (1, .class_ 44), (1, u "java/lang/StringUTF16"), (0, u "compress"), (1, .methodref 42 48), (0, .nameAndType 49 50), (0, u "coderFromArrayLen"), (0, u "([BI)B"), (2, u "toBytes"), (53, .class_ 109), (1, u "java/lang/StringLatin1"), (67, .methodref 42 178), (0, .nameAndType 45 179), (0, u "([CII)[B"), (29, .methodref 10 210), (0, .nameAndType 5 211), (0, u "([BB)V"), (157, u "(C)Z"), (173, u "equals"), (29, u "(Ljava/lang/Object;)Z"), (1, .class_ 576), (0, u "java/lang/CharSequence"), (22, u "CASE_INSENSITIVE_ORDER"), (0, u "Ljava/util/Comparator;"), (181, u "valueOf"), (0, u "(C)Ljava/lang/String;"), (226, u "([C)V"), (4, .methodref 107 1016), (0, .nameAndType 1017 369), (0, u "canEncode"), (0, .methodref 107 1019), (0, .nameAndType 53 1020), (0, u "(C)[B"), (80, u "serialPersistentFields"), (0, u "[Ljava/io/ObjectStreamField;"), (0, .class_ 1104), (0, u "java/lang/String$CaseInsensitiveComparator"), (1, .class_ 1107), (0, u "java/io/Serializable"), (0, .class_ 1109), (0, u "java/lang/Comparable"), (0, .class_ 1111), (0, u "java/lang/constant/Constable"), (0, .class_ 1113), (0, u "java/lang/constant/ConstantDesc"), (2, u "serialVersionUID"), (0, u "J"), (3, u "REPL"), (0, u "C"), (2, u "LATIN1"), (1, u "UTF16")] 323

def k7m0 : Method := { name := "<init>", desc := "()V", sig := { parameters := [], returnType := none }, accessFlags := 1, code := none }
def k7c1 : Code := { maxStack := 5, maxLocals := 2, code := jdk_42_method_3_code, exceptionTable := #[], attributes := #[] }
def k7m1 : Method := { name := "<init>", desc := "([C)V", sig := { parameters := [(.array .char)], returnType := none }, accessFlags := 1, code := some k7c1 }
def k7c2 : Code := { maxStack := 2, maxLocals := 3, code := jdk_42_method_66_code, exceptionTable := #[], attributes := #[] }
def k7m2 : Method := { name := "equals", desc := "(Ljava/lang/Object;)Z", sig := { parameters := [(.object "java/lang/Object")], returnType := some .boolean }, accessFlags := 1, code := some k7c2 }
def k7c3 : Code := { maxStack := 4, maxLocals := 1, code := jdk_42_method_139_code, exceptionTable := #[], attributes := #[] }
def k7m3 : Method := { name := "valueOf", desc := "(C)Ljava/lang/String;", sig := { parameters := [.char], returnType := some (.object "java/lang/String") }, accessFlags := 9, code := some k7c3 }
def k7c4 : Code := { maxStack := 4, maxLocals := 6, code := jdk_42_method_149_code, exceptionTable := #[], attributes := #[] }
def k7m4 : Method := { name := "<init>", desc := "([CIILjava/lang/Void;)V", sig := { parameters := [(.array .char), .int, .int, (.object "java/lang/Void")], returnType := none }, accessFlags := 2, code := some k7c4 }
def k7c5 : Code := { maxStack := 2, maxLocals := 3, code := jdk_42_method_151_code, exceptionTable := #[], attributes := #[] }
def k7m5 : Method := { name := "<init>", desc := "([BB)V", sig := { parameters := [(.array .byte), .byte], returnType := none }, accessFlags := 0, code := some k7c5 }
/-- java/lang/String -/
def k7 : Class := { plain "java/lang/String" (some 0) with
  accessFlags := 49
  interfaces := #[2, 3, 4, 5, 6]
  cf := some (fileOf pool7 10 #[.nestMembers #[1103]] #[{ accessFlags := 1, nameIndex := 5, descriptorIndex := 6, attributes := #[] }, { accessFlags := 1, nameIndex := 5, descriptorIndex := 1010, attributes := #[] }, { accessFlags := 1, nameIndex := 543, descriptorIndex := 573, attributes := #[] }, { accessFlags := 9, nameIndex := 782, descriptorIndex := 783, attributes := #[] }, { accessFlags := 2, nameIndex := 5, descriptorIndex := 29, attributes := #[] }, { accessFlags := 0, nameIndex := 5, descriptorIndex := 211, attributes := #[] }] 49 2 #[1106, 1108, 575, 1110, 1112] #[{ accessFlags := 18, nameIndex := 13, descriptorIndex := 14, attributes := #[] }, { accessFlags := 18, nameIndex := 17, descriptorIndex := 18, attributes := #[] }, { accessFlags := 2, nameIndex := 21, descriptorIndex := 22, attributes := #[] }, { accessFlags := 2, nameIndex := 25, descriptorIndex := 26, attributes := #[] }, { accessFlags := 26, nameIndex := 1116, descriptorIndex := 1117, attributes := #[] }, { accessFlags := 24, nameIndex := 40, descriptorIndex := 26, attributes := #[] }, { accessFlags := 26, nameIndex := 1101, descriptorIndex := 1102, attributes := #[] }, { accessFlags := 26, nameIndex := 1121, descriptorIndex := 1122, attributes := #[] }, { accessFlags := 25, nameIndex := 599, descriptorIndex := 600, attributes := #[] }, { accessFlags := 24, nameIndex := 1125, descriptorIndex := 18, attributes := #[] }, { accessFlags := 24, nameIndex := 1127, descriptorIndex := 18, attributes := #[] }])
  fields := #[{ name := "value", type := (.array .byte), accessFlags := 18, slot := 0, constantValue := 0 }, { name := "coder", type := .byte, accessFlags := 18, slot := 1, constantValue := 0 }, { name := "hash", type := .int, accessFlags := 2, slot := 2, constantValue := 0 }, { name := "hashIsZero", type := .boolean, accessFlags := 2, slot := 3, constantValue := 0 }, { name := "serialVersionUID", type := .long, accessFlags := 26, slot := 0, constantValue := 0 }, { name := "COMPACT_STRINGS", type := .boolean, accessFlags := 24, slot := 1, constantValue := 0 }, { name := "serialPersistentFields", type := (.array (.object "java/io/ObjectStreamField")), accessFlags := 26, slot := 2, constantValue := 0 }, { name := "REPL", type := .char, accessFlags := 26, slot := 3, constantValue := 0 }, { name := "CASE_INSENSITIVE_ORDER", type := (.object "java/util/Comparator"), accessFlags := 25, slot := 4, constantValue := 0 }, { name := "LATIN1", type := .byte, accessFlags := 24, slot := 5, constantValue := 0 }, { name := "UTF16", type := .byte, accessFlags := 24, slot := 6, constantValue := 0 }]
  methods := #[k7m0, k7m1, k7m2, k7m3, k7m4, k7m5]
  instanceTypes := #[(.array .byte), .byte, .int, .boolean]
  staticTypes := #[.long, .boolean, (.array (.object "java/io/ObjectStreamField")), .char, (.object "java/util/Comparator"), .byte, .byte]
  resolved := Array.replicate 1451 none
  statics := some 0 }

def pool8 : Array CpInfo := pool [(6, .class_ 8), (1, u "java/lang/Object"), (0, u "<init>"), (0, u "()V"), (1, .class_ 14), (1, u "java/lang/StringUTF16"), (31, u "$assertionsDisabled"), (0, u "Z"), (13, u "HI_BYTE_SHIFT"), (0, u "I"), (2, u "LO_BYTE_SHIFT"), (49, .methodref 12 116), (0, .nameAndType 117 118), (0, u "compress"), (0, u "([CI[BII)I"), (3, u "([CII)[B"), (138, u "coderFromArrayLen"), (0, u "([BI)B"), (106, .class_ 371), (1, u "java/lang/StringUTF16$LinesSpliterator"), (58, u "MAX_LENGTH"), (196, .class_ 628), (0, u "java/lang/StringUTF16$CodePointsSpliterator"), (0, .class_ 630), (0, u "java/lang/StringUTF16$CharsSpliterator")] 4

def k8m0 : Method := { name := "<init>", desc := "()V", sig := { parameters := [], returnType := none }, accessFlags := 0, code := none }
def k8c1 : Code := { maxStack := 2, maxLocals := 2, code := jdk_52_method_15_code, exceptionTable := #[], attributes := #[] }
def k8m1 : Method := { name := "coderFromArrayLen", desc := "([BI)B", sig := { parameters := [(.array .byte), .int], returnType := some .byte }, accessFlags := 8, code := some k8c1 }
def k8c2 : Code := { maxStack := 5, maxLocals := 6, code := jdk_52_method_16_code, exceptionTable := #[], attributes := #[] }
def k8m2 : Method := { name := "compress", desc := "([CII)[B", sig := { parameters := [(.array .char), .int, .int], returnType := some (.array .byte) }, accessFlags := 9, code := some k8c2 }
def k8c3 : Code := { maxStack := 3, maxLocals := 7, code := jdk_52_method_21_code, exceptionTable := #[], attributes := #[] }
def k8m3 : Method := { name := "compress", desc := "([CI[BII)I", sig := { parameters := [(.array .char), .int, (.array .byte), .int, .int], returnType := some .int }, accessFlags := 9, code := some k8c3 }
/-- java/lang/StringUTF16 -/
def k8 : Class := { plain "java/lang/StringUTF16" (some 0) with
  accessFlags := 48
  interfaces := #[]
  cf := some (fileOf pool8 12 #[.nestMembers #[627, 629, 369]] #[{ accessFlags := 0, nameIndex := 9, descriptorIndex := 10, attributes := #[] }, { accessFlags := 8, nameIndex := 261, descriptorIndex := 262, attributes := #[] }, { accessFlags := 9, nameIndex := 117, descriptorIndex := 122, attributes := #[] }, { accessFlags := 9, nameIndex := 117, descriptorIndex := 118, attributes := #[] }] 48 6 #[] #[{ accessFlags := 26, nameIndex := 61, descriptorIndex := 62, attributes := #[] }, { accessFlags := 26, nameIndex := 65, descriptorIndex := 62, attributes := #[] }, { accessFlags := 24, nameIndex := 430, descriptorIndex := 62, attributes := #[] }, { accessFlags := 4120, nameIndex := 46, descriptorIndex := 47, attributes := #[] }])
  fields := #[{ name := "HI_BYTE_SHIFT", type := .int, accessFlags := 26, slot := 0, constantValue := 0 }, { name := "LO_BYTE_SHIFT", type := .int, accessFlags := 26, slot := 1, constantValue := 0 }, { name := "MAX_LENGTH", type := .int, accessFlags := 24, slot := 2, constantValue := 0 }, { name := "$assertionsDisabled", type := .boolean, accessFlags := 4120, slot := 3, constantValue := 0 }]
  methods := #[k8m0, k8m1, k8m2, k8m3]
  instanceTypes := #[]
  staticTypes := #[.int, .int, .int, .boolean]
  resolved := Array.replicate 635 none
  statics := none }

def pool9 : Array CpInfo := pool [(4, .class_ 6), (1, u "java/lang/Object"), (0, u "<init>"), (0, u "()V"), (5, .class_ 16), (1, u "java/lang/StringLatin1"), (73, u "canEncode"), (14, u "(C)Z"), (15, u "$assertionsDisabled"), (0, u "Z"), (98, .class_ 223), (1, u "java/lang/StringLatin1$LinesSpliterator"), (156, u "toBytes"), (1, u "(C)[B"), (7, .class_ 391), (0, u "java/lang/StringLatin1$CharsSpliterator")] 3

def k9m0 : Method := { name := "<init>", desc := "()V", sig := { parameters := [], returnType := none }, accessFlags := 0, code := none }
def k9c1 : Code := { maxStack := 2, maxLocals := 1, code := jdk_43_method_3_code, exceptionTable := #[], attributes := #[] }
def k9m1 : Method := { name := "canEncode", desc := "(C)Z", sig := { parameters := [.char], returnType := some .boolean }, accessFlags := 9, code := some k9c1 }
def k9c2 : Code := { maxStack := 4, maxLocals := 1, code := jdk_43_method_46_code, exceptionTable := #[], attributes := #[] }
def k9m2 : Method := { name := "toBytes", desc := "(C)[B", sig := { parameters := [.char], returnType := some (.array .byte) }, accessFlags := 9, code := some k9c2 }
/-- java/lang/StringLatin1 -/
def k9 : Class := { plain "java/lang/StringLatin1" (some 0) with
  accessFlags := 48
  interfaces := #[]
  cf := some (fileOf pool9 14 #[.nestMembers #[390, 221]] #[{ accessFlags := 0, nameIndex := 7, descriptorIndex := 8, attributes := #[] }, { accessFlags := 9, nameIndex := 90, descriptorIndex := 105, attributes := #[] }, { accessFlags := 9, nameIndex := 380, descriptorIndex := 382, attributes := #[] }] 48 4 #[] #[{ accessFlags := 4120, nameIndex := 121, descriptorIndex := 122, attributes := #[] }])
  fields := #[{ name := "$assertionsDisabled", type := .boolean, accessFlags := 4120, slot := 0, constantValue := 0 }]
  methods := #[k9m0, k9m1, k9m2]
  instanceTypes := #[]
  staticTypes := #[.boolean]
  resolved := Array.replicate 395 none
  statics := none }

def pool10 : Array CpInfo := pool [(1, .methodref 2 3), (0, .class_ 4), (0, .nameAndType 5 6), (0, u "java/lang/Object"), (0, u "<init>"), (0, u "()V"), (0, .class_ 8), (0, u "java/util/ArrayList"), (0, .methodref 7 3), (0, .fieldref 11 12), (0, .class_ 13), (0, .nameAndType 14 15), (0, u "com/example/kickstand/kickstand/CommandDecoration"), (0, u "before"), (0, u "Ljava/util/List;"), (0, .fieldref 11 17), (0, .nameAndType 18 15), (0, u "beside"), (0, .string 20), (0, u "name"), (0, .methodref 22 23), (0, .class_ 24), (0, .nameAndType 25 26), (0, u "java/util/Objects"), (0, u "requireNonNull"), (0, u "(Ljava/lang/Object;Ljava/lang/String;)Ljava/lang/Object;"), (0, .class_ 28), (0, u "java/lang/String"), (0, .fieldref 11 30), (0, .nameAndType 20 31), (0, u "Ljava/lang/String;"), (0, .string 33), (0, u "command"), (0, .interfaceMethodref 35 36), (0, .class_ 37), (0, .nameAndType 38 39), (0, u "java/util/List"), (0, u "add"), (0, u "(Ljava/lang/Object;)Z"), (2, u "(Ljava/lang/String;)V"), (2, u "runBefore"), (0, u "(Ljava/lang/String;)Lcom/example/kickstand/kickstand/CommandDecoration;"), (0, u "runBeside"), (0, u "()Ljava/lang/String;"), (0, u "()Ljava/util/List;")] 3

def k10c0 : Code := { maxStack := 3, maxLocals := 2, code := prog_3_method_1_code, exceptionTable := #[], attributes := #[] }
def k10m0 : Method := { name := "<init>", desc := "(Ljava/lang/String;)V", sig := { parameters := [(.object "java/lang/String")], returnType := none }, accessFlags := 0, code := some k10c0 }
def k10c1 : Code := { maxStack := 3, maxLocals := 2, code := prog_3_method_2_code, exceptionTable := #[], attributes := #[] }
def k10m1 : Method := { name := "runBefore", desc := "(Ljava/lang/String;)Lcom/example/kickstand/kickstand/CommandDecoration;", sig := { parameters := [(.object "java/lang/String")], returnType := some (.object "com/example/kickstand/kickstand/CommandDecoration") }, accessFlags := 1, code := some k10c1 }
def k10c2 : Code := { maxStack := 3, maxLocals := 2, code := prog_3_method_3_code, exceptionTable := #[], attributes := #[] }
def k10m2 : Method := { name := "runBeside", desc := "(Ljava/lang/String;)Lcom/example/kickstand/kickstand/CommandDecoration;", sig := { parameters := [(.object "java/lang/String")], returnType := some (.object "com/example/kickstand/kickstand/CommandDecoration") }, accessFlags := 1, code := some k10c2 }
def k10c3 : Code := { maxStack := 1, maxLocals := 1, code := prog_3_method_4_code, exceptionTable := #[], attributes := #[] }
def k10m3 : Method := { name := "name", desc := "()Ljava/lang/String;", sig := { parameters := [], returnType := some (.object "java/lang/String") }, accessFlags := 0, code := some k10c3 }
def k10c4 : Code := { maxStack := 1, maxLocals := 1, code := prog_3_method_5_code, exceptionTable := #[], attributes := #[] }
def k10m4 : Method := { name := "before", desc := "()Ljava/util/List;", sig := { parameters := [], returnType := some (.object "java/util/List") }, accessFlags := 0, code := some k10c4 }
def k10c5 : Code := { maxStack := 1, maxLocals := 1, code := prog_3_method_6_code, exceptionTable := #[], attributes := #[] }
def k10m5 : Method := { name := "beside", desc := "()Ljava/util/List;", sig := { parameters := [], returnType := some (.object "java/util/List") }, accessFlags := 0, code := some k10c5 }
/-- com/example/kickstand/kickstand/CommandDecoration -/
def k10 : Class := { plain "com/example/kickstand/kickstand/CommandDecoration" (some 0) with
  accessFlags := 49
  interfaces := #[]
  cf := some (fileOf pool10 11 #[] #[{ accessFlags := 0, nameIndex := 5, descriptorIndex := 42, attributes := #[] }, { accessFlags := 1, nameIndex := 45, descriptorIndex := 46, attributes := #[] }, { accessFlags := 1, nameIndex := 47, descriptorIndex := 46, attributes := #[] }, { accessFlags := 0, nameIndex := 20, descriptorIndex := 48, attributes := #[] }, { accessFlags := 0, nameIndex := 14, descriptorIndex := 49, attributes := #[] }, { accessFlags := 0, nameIndex := 18, descriptorIndex := 49, attributes := #[] }] 49 2 #[] #[{ accessFlags := 18, nameIndex := 20, descriptorIndex := 31, attributes := #[] }, { accessFlags := 18, nameIndex := 14, descriptorIndex := 15, attributes := #[] }, { accessFlags := 18, nameIndex := 18, descriptorIndex := 15, attributes := #[] }])
  fields := #[{ name := "name", type := (.object "java/lang/String"), accessFlags := 18, slot := 0, constantValue := 0 }, { name := "before", type := (.object "java/util/List"), accessFlags := 18, slot := 1, constantValue := 0 }, { name := "beside", type := (.object "java/util/List"), accessFlags := 18, slot := 2, constantValue := 0 }]
  methods := #[k10m0, k10m1, k10m2, k10m3, k10m4, k10m5]
  instanceTypes := #[(.object "java/lang/String"), (.object "java/util/List"), (.object "java/util/List")]
  staticTypes := #[]
  resolved := Array.replicate 53 none
  statics := none }

def pool11 : Array CpInfo := pool [(8, .class_ 10), (1, u "java/lang/Iterable"), (24, .class_ 36), (0, u "java/lang/Object")] 25

/-- java/lang/Iterable -/
def k11 : Class := { plain "java/lang/Iterable" (some 0) with
  accessFlags := 1537
  interfaces := #[]
  cf := some (fileOf pool11 8 #[] #[] 1537 35 #[] #[])
  fields := #[]
  methods := #[]
  instanceTypes := #[]
  staticTypes := #[]
  resolved := Array.replicate 62 none
  statics := none }

def pool12 : Array CpInfo := pool [(10, .class_ 12), (1, u "java/util/Collection"), (47, .class_ 61), (0, u "java/lang/Object"), (0, .class_ 63), (0, u "java/lang/Iterable")] 51

/-- java/util/Collection -/
def k12 : Class := { plain "java/util/Collection" (some 0) with
  accessFlags := 1537
  interfaces := #[11]
  cf := some (fileOf pool12 10 #[] #[] 1537 60 #[62] #[])
  fields := #[]
  methods := #[]
  instanceTypes := #[]
  staticTypes := #[]
  resolved := Array.replicate 115 none
  statics := none }

def pool13 : Array CpInfo := pool [(1, .methodref 2 3), (0, .class_ 4), (0, .nameAndType 5 6), (0, u "java/lang/Object"), (0, u "<init>"), (0, u "()V"), (1, .class_ 10), (1, u "java/util/AbstractCollection"), (66, .class_ 78), (0, u "java/util/Collection")] 81

def k13c0 : Code := { maxStack := 1, maxLocals := 1, code := jdk_22_method_1_code, exceptionTable := #[], attributes := #[] }
def k13m0 : Method := { name := "<init>", desc := "()V", sig := { parameters := [], returnType := none }, accessFlags := 4, code := some k13c0 }
/-- java/util/AbstractCollection -/
def k13 : Class := { plain "java/util/AbstractCollection" (some 0) with
  accessFlags := 1057
  interfaces := #[12]
  cf := some (fileOf pool13 8 #[] #[{ accessFlags := 4, nameIndex := 5, descriptorIndex := 6, attributes := #[] }] 1057 2 #[77] #[])
  fields := #[]
  methods := #[k13m0]
  instanceTypes := #[]
  staticTypes := #[]
  resolved := Array.replicate 160 none
  statics := none }

def pool14 : Array CpInfo := pool [(8, .class_ 10), (1, u "java/util/SequencedCollection"), (15, .class_ 27), (0, u "java/lang/Object"), (0, .class_ 29), (0, u "java/util/Collection")] 27

/-- java/util/SequencedCollection -/
def k14 : Class := { plain "java/util/SequencedCollection" (some 0) with
  accessFlags := 1537
  interfaces := #[12]
  cf := some (fileOf pool14 8 #[] #[] 1537 26 #[28] #[])
  fields := #[]
  methods := #[]
  instanceTypes := #[]
  staticTypes := #[]
  resolved := Array.replicate 57 none
  statics := none }

def pool15 : Array CpInfo := pool [(8, .class_ 10), (1, u "java/util/List"), (49, u "add"), (3, u "(Ljava/lang/Object;)Z"), (10, u "get"), (0, u "(I)Ljava/lang/Object;"), (2, u "size"), (0, u "()I"), (22, .class_ 104), (0, u "java/lang/Object"), (15, .class_ 121), (0, u "java/util/SequencedCollection")] 129

def k15m0 : Method := { name := "size", desc := "()I", sig := { parameters := [], returnType := some .int }, accessFlags := 1025, code := none }
def k15m1 : Method := { name := "add", desc := "(Ljava/lang/Object;)Z", sig := { parameters := [(.object "java/lang/Object")], returnType := some .boolean }, accessFlags := 1025, code := none }
def k15m2 : Method := { name := "get", desc := "(I)Ljava/lang/Object;", sig := { parameters := [.int], returnType := some (.object "java/lang/Object") }, accessFlags := 1025, code := none }
/-- java/util/List -/
def k15 : Class := { plain "java/util/List" (some 0) with
  accessFlags := 1537
  interfaces := #[14]
  cf := some (fileOf pool15 8 #[] #[{ accessFlags := 1025, nameIndex := 79, descriptorIndex := 80, attributes := #[] }, { accessFlags := 1025, nameIndex := 60, descriptorIndex := 64, attributes := #[] }, { accessFlags := 1025, nameIndex := 75, descriptorIndex := 76, attributes := #[] }] 1537 103 #[120] #[])
  fields := #[]
  methods := #[k15m0, k15m1, k15m2]
  instanceTypes := #[]
  staticTypes := #[]
  resolved := Array.replicate 251 none
  statics := none }

def pool16 : Array CpInfo := pool [(1, .methodref 2 3), (0, .class_ 4), (0, .nameAndType 5 6), (0, u "java/util/AbstractCollection"), (0, u "<init>"), (0, u "()V"), (0, .fieldref 8 9), (0, .class_ 10), (0, .nameAndType 11 12), (0, u "java/util/AbstractList"), (0, u "modCount"), (0, u "I"), (64, .class_ 78), (0, u "java/util/AbstractList$Itr"), (3, .class_ 83), (0, u "java/util/AbstractList$ListItr"), (9, .class_ 94), (0, u "java/util/AbstractList$RandomAccessSubList"), (3, .class_ 99), (0, u "java/util/AbstractList$SubList"), (33, .class_ 134), (0, u "java/util/List"), (73, .class_ 209), (0, u "java/util/AbstractList$SubList$1"), (0, .class_ 211), (0, u "java/util/AbstractList$RandomAccessSpliterator")] 6

def k16c0 : Code := { maxStack := 2, maxLocals := 1, code := jdk_39_method_1_code, exceptionTable := #[], attributes := #[] }
def k16m0 : Method := { name := "<init>", desc := "()V", sig := { parameters := [], returnType := none }, accessFlags := 4, code := some k16c0 }
/-- java/util/AbstractList -/
def k16 : Class := { plain "java/util/AbstractList" (some 13) with
  accessFlags := 1057
  interfaces := #[15]
  cf := some (fileOf pool16 8 #[.nestMembers #[93, 98, 208, 210, 82, 77]] #[{ accessFlags := 4, nameIndex := 5, descriptorIndex := 6, attributes := #[] }] 1057 2 #[133] #[{ accessFlags := 132, nameIndex := 11, descriptorIndex := 12, attributes := #[] }])
  fields := #[{ name := "modCount", type := .int, accessFlags := 132, slot := 0, constantValue := 0 }]
  methods := #[k16m0]
  instanceTypes := #[.int]
  staticTypes := #[]
  resolved := Array.replicate 218 none
  statics := none }

def pool17 : Array CpInfo := pool [(1, .class_ 2), (0, u "java/util/RandomAccess"), (0, .class_ 4), (0, u "java/lang/Object")] 2

/-- java/util/RandomAccess -/
def k17 : Class := { plain "java/util/RandomAccess" (some 0) with
  accessFlags := 1537
  interfaces := #[]
  cf := some (fileOf pool17 1 #[] #[] 1537 3 #[] #[])
  fields := #[]
  methods := #[]
  instanceTypes := #[]
  staticTypes := #[]
  resolved := Array.replicate 7 none
  statics := none }

def pool18 : Array CpInfo := pool [(1, .class_ 2), (0, u "java/lang/Cloneable"), (0, .class_ 4), (0, u "java/lang/Object")] 2

/-- java/lang/Cloneable -/
def k18 : Class := { plain "java/lang/Cloneable" (some 0) with
  accessFlags := 1537
  interfaces := #[]
  cf := some (fileOf pool18 1 #[] #[] 1537 3 #[] #[])
  fields := #[]
  methods := #[]
  instanceTypes := #[]
  staticTypes := #[]
  resolved := Array.replicate 7 none
  statics := none }

def pool19 : Array CpInfo := pool [(1, .methodref 2 3), (0, .class_ 4), (0, .nameAndType 5 6), (0, u "java/util/AbstractList"), (0, u "<init>"), (0, u "()V"), (0, .class_ 8), (0, u "java/lang/Object"), (0, .fieldref 10 11), (0, .class_ 12), (0, .nameAndType 13 14), (0, u "java/util/ArrayList"), (0, u "elementData"), (0, u "[Ljava/lang/Object;"), (2, u "EMPTY_ELEMENTDATA"), (21, .fieldref 10 40), (0, .nameAndType 41 14), (0, u "DEFAULTCAPACITY_EMPTY_ELEMENTDATA"), (5, u "()[Ljava/lang/Object;"), (0, .fieldref 10 49), (0, .nameAndType 50 51), (0, u "size"), (0, u "I"), (11, .fieldref 10 64), (0, .nameAndType 65 51), (0, u "modCount"), (3, .methodref 10 70), (0, .nameAndType 71 72), (0, u "grow"), (0, u "(I)[Ljava/lang/Object;"), (6, .methodref 80 81), (0, .class_ 82), (0, .nameAndType 83 84), (0, u "java/lang/Math"), (0, u "max"), (0, u "(II)I"), (11, u "(Ljava/lang/Object;)Z"), (21, .methodref 119 120), (0, .class_ 121), (0, .nameAndType 122 84), (0, u "java/util/Objects"), (0, u "checkIndex"), (0, .methodref 10 124), (0, .nameAndType 13 125), (0, u "(I)Ljava/lang/Object;"), (3, .methodref 10 130), (0, .nameAndType 71 47), (0, .methodref 10 132), (0, .nameAndType 133 134), (0, u "add"), (0, u "(Ljava/lang/Object;[Ljava/lang/Object;I)V"), (13, .class_ 149), (0, u "java/util/List"), (36, u "()I"), (75, .class_ 263), (0, u "java/util/ArrayList$ListItr"), (3, .class_ 268), (0, u "java/util/ArrayList$Itr"), (7, .class_ 277), (0, u "java/util/ArrayList$SubList"), (12, .class_ 291), (0, u "java/util/ArrayList$ArrayListSpliterator"), (37, .class_ 330), (0, u "java/util/RandomAccess"), (0, .class_ 332), (0, u "java/lang/Cloneable"), (0, .class_ 334), (0, u "java/io/Serializable"), (0, u "serialVersionUID"), (0, u "J"), (3, u "DEFAULT_CAPACITY"), (40, u "get"), (118, .class_ 501), (0, u "java/util/ArrayList$SubList$2"), (0, .class_ 503), (0, u "java/util/ArrayList$SubList$1")] 5

def k19c0 : Code := { maxStack := 2, maxLocals := 1, code := jdk_38_method_2_code, exceptionTable := #[], attributes := #[] }
def k19m0 : Method := { name := "<init>", desc := "()V", sig := { parameters := [], returnType := none }, accessFlags := 1, code := some k19c0 }
def k19c1 : Code := { maxStack := 4, maxLocals := 4, code := jdk_38_method_6_code, exceptionTable := #[], attributes := #[] }
def k19m1 : Method := { name := "grow", desc := "(I)[Ljava/lang/Object;", sig := { parameters := [.int], returnType := some (.array (.object "java/lang/Object")) }, accessFlags := 2, code := some k19c1 }
def k19c2 : Code := { maxStack := 3, maxLocals := 1, code := jdk_38_method_7_code, exceptionTable := #[], attributes := #[] }
def k19m2 : Method := { name := "grow", desc := "()[Ljava/lang/Object;", sig := { parameters := [], returnType := some (.array (.object "java/lang/Object")) }, accessFlags := 2, code := some k19c2 }
def k19c3 : Code := { maxStack := 1, maxLocals := 1, code := jdk_38_method_8_code, exceptionTable := #[], attributes := #[] }
def k19m3 : Method := { name := "size", desc := "()I", sig := { parameters := [], returnType := some .int }, accessFlags := 1, code := some k19c3 }
def k19c4 : Code := { maxStack := 2, maxLocals := 2, code := jdk_38_method_18_code, exceptionTable := #[], attributes := #[] }
def k19m4 : Method := { name := "elementData", desc := "(I)Ljava/lang/Object;", sig := { parameters := [.int], returnType := some (.object "java/lang/Object") }, accessFlags := 0, code := some k19c4 }
def k19c5 : Code := { maxStack := 2, maxLocals := 2, code := jdk_38_method_20_code, exceptionTable := #[], attributes := #[] }
def k19m5 : Method := { name := "get", desc := "(I)Ljava/lang/Object;", sig := { parameters := [.int], returnType := some (.object "java/lang/Object") }, accessFlags := 1, code := some k19c5 }
def k19c6 : Code := { maxStack := 3, maxLocals := 4, code := jdk_38_method_24_code, exceptionTable := #[], attributes := #[] }
def k19m6 : Method := { name := "add", desc := "(Ljava/lang/Object;[Ljava/lang/Object;I)V", sig := { parameters := [(.object "java/lang/Object"), (.array (.object "java/lang/Object")), .int], returnType := none }, accessFlags := 2, code := some k19c6 }
def k19c7 : Code := { maxStack := 4, maxLocals := 2, code := jdk_38_method_25_code, exceptionTable := #[], attributes := #[] }
def k19m7 : Method := { name := "add", desc := "(Ljava/lang/Object;)Z", sig := { parameters := [(.object "java/lang/Object")], returnType := some .boolean }, accessFlags := 1, code := some k19c7 }
/-- java/util/ArrayList -/
def k19 : Class := { plain "java/util/ArrayList" (some 16) with
  accessFlags := 33
  interfaces := #[15, 17, 18, 2]
  cf := some (fileOf pool19 10 #[.nestMembers #[290, 276, 500, 502, 262, 267]] #[{ accessFlags := 1, nameIndex := 5, descriptorIndex := 6, attributes := #[] }, { accessFlags := 2, nameIndex := 71, descriptorIndex := 72, attributes := #[] }, { accessFlags := 2, nameIndex := 71, descriptorIndex := 47, attributes := #[] }, { accessFlags := 1, nameIndex := 50, descriptorIndex := 186, attributes := #[] }, { accessFlags := 0, nameIndex := 13, descriptorIndex := 125, attributes := #[] }, { accessFlags := 1, nameIndex := 381, descriptorIndex := 125, attributes := #[] }, { accessFlags := 2, nameIndex := 133, descriptorIndex := 134, attributes := #[] }, { accessFlags := 1, nameIndex := 133, descriptorIndex := 96, attributes := #[] }] 33 2 #[148, 329, 331, 333] #[{ accessFlags := 26, nameIndex := 335, descriptorIndex := 336, attributes := #[] }, { accessFlags := 26, nameIndex := 340, descriptorIndex := 51, attributes := #[] }, { accessFlags := 26, nameIndex := 17, descriptorIndex := 14, attributes := #[] }, { accessFlags := 26, nameIndex := 41, descriptorIndex := 14, attributes := #[] }, { accessFlags := 128, nameIndex := 13, descriptorIndex := 14, attributes := #[] }, { accessFlags := 2, nameIndex := 50, descriptorIndex := 51, attributes := #[] }])
  fields := #[{ name := "serialVersionUID", type := .long, accessFlags := 26, slot := 0, constantValue := 0 }, { name := "DEFAULT_CAPACITY", type := .int, accessFlags := 26, slot := 1, constantValue := 0 }, { name := "EMPTY_ELEMENTDATA", type := (.array (.object "java/lang/Object")), accessFlags := 26, slot := 2, constantValue := 0 }, { name := "DEFAULTCAPACITY_EMPTY_ELEMENTDATA", type := (.array (.object "java/lang/Object")), accessFlags := 26, slot := 3, constantValue := 0 }, { name := "elementData", type := (.array (.object "java/lang/Object")), accessFlags := 128, slot := 1, constantValue := 0 }, { name := "size", type := .int, accessFlags := 2, slot := 2, constantValue := 0 }]
  methods := #[k19m0, k19m1, k19m2, k19m3, k19m4, k19m5, k19m6, k19m7]
  instanceTypes := #[.int, (.array (.object "java/lang/Object")), .int]
  staticTypes := #[.long, .int, (.array (.object "java/lang/Object")), (.array (.object "java/lang/Object"))]
  resolved := Array.replicate 509 none
  statics := some 1 }

def pool20 : Array CpInfo := pool [(2, .class_ 4), (1, u "java/lang/Object"), (0, u "<init>"), (0, u "()V"), (35, .class_ 44), (1, u "java/util/Objects"), (0, u "requireNonNull"), (48, u "(Ljava/lang/Object;Ljava/lang/String;)Ljava/lang/Object;"), (10, .methodref 106 107), (0, .class_ 108), (0, .nameAndType 109 110), (0, u "jdk/internal/util/Preconditions"), (0, u "checkIndex"), (0, u "(IILjava/util/function/BiFunction;)I"), (60, u "(II)I")] 12

def k20m0 : Method := { name := "<init>", desc := "()V", sig := { parameters := [], returnType := none }, accessFlags := 2, code := none }
def k20c1 : Code := { maxStack := 3, maxLocals := 2, code := jdk_31_method_11_code, exceptionTable := #[], attributes := #[] }
def k20m1 : Method := { name := "requireNonNull", desc := "(Ljava/lang/Object;Ljava/lang/String;)Ljava/lang/Object;", sig := { parameters := [(.object "java/lang/Object"), (.object "java/lang/String")], returnType := some (.object "java/lang/Object") }, accessFlags := 9, code := some k20c1 }
def k20c2 : Code := { maxStack := 3, maxLocals := 2, code := jdk_31_method_17_code, exceptionTable := #[], attributes := #[] }
def k20m2 : Method := { name := "checkIndex", desc := "(II)I", sig := { parameters := [.int, .int], returnType := some .int }, accessFlags := 9, code := some k20c2 }
/-- java/util/Objects -/
def k20 : Class := { plain "java/util/Objects" (some 0) with
  accessFlags := 49
  interfaces := #[]
  cf := some (fileOf pool20 42 #[] #[{ accessFlags := 2, nameIndex := 5, descriptorIndex := 6, attributes := #[] }, { accessFlags := 9, nameIndex := 45, descriptorIndex := 94, attributes := #[] }, { accessFlags := 9, nameIndex := 109, descriptorIndex := 171, attributes := #[] }] 49 2 #[] #[])
  fields := #[]
  methods := #[k20m0, k20m1, k20m2]
  instanceTypes := #[]
  staticTypes := #[]
  resolved := Array.replicate 184 none
  statics := none }

def pool21 : Array CpInfo := pool [(1, .class_ 2), (0, u "java/lang/Math"), (1, .class_ 6), (1, u "java/lang/Object"), (0, u "<init>"), (0, u "()V"), (89, .class_ 100), (1, u "java/lang/Math$RandomNumberGeneratorHolder"), (71, u "negativeZeroFloatBits"), (0, u "J"), (2, u "negativeZeroDoubleBits"), (21, u "max"), (46, u "$assertionsDisabled"), (0, u "Z"), (88, u "(II)I"), (2, u "twoToTheDoubleScaleDown"), (0, u "D"), (4, u "twoToTheDoubleScaleUp"), (9, u "E"), (3, u "PI"), (2, u "TAU"), (2, u "DEGREES_TO_RADIANS"), (0, u "RADIANS_TO_DEGREES")] 94

def k21m0 : Method := { name := "<init>", desc := "()V", sig := { parameters := [], returnType := none }, accessFlags := 2, code := none }
def k21c1 : Code := { maxStack := 2, maxLocals := 2, code := jdk_29_method_65_code, exceptionTable := #[], attributes := #[] }
def k21m1 : Method := { name := "max", desc := "(II)I", sig := { parameters := [.int, .int], returnType := some .int }, accessFlags := 9, code := some k21c1 }
/-- java/lang/Math -/
def k21 : Class := { plain "java/lang/Math" (some 0) with
  accessFlags := 49
  interfaces := #[]
  cf := some (fileOf pool21 1 #[.nestMembers #[98]] #[{ accessFlags := 2, nameIndex := 7, descriptorIndex := 8, attributes := #[] }, { accessFlags := 9, nameIndex := 198, descriptorIndex := 335, attributes := #[] }] 49 4 #[] #[{ accessFlags := 25, nameIndex := 354, descriptorIndex := 339, attributes := #[] }, { accessFlags := 25, nameIndex := 358, descriptorIndex := 339, attributes := #[] }, { accessFlags := 25, nameIndex := 361, descriptorIndex := 339, attributes := #[] }, { accessFlags := 26, nameIndex := 364, descriptorIndex := 339, attributes := #[] }, { accessFlags := 26, nameIndex := 365, descriptorIndex := 339, attributes := #[] }, { accessFlags := 26, nameIndex := 172, descriptorIndex := 173, attributes := #[] }, { accessFlags := 26, nameIndex := 176, descriptorIndex := 173, attributes := #[] }, { accessFlags := 8, nameIndex := 344, descriptorIndex := 339, attributes := #[] }, { accessFlags := 8, nameIndex := 338, descriptorIndex := 339, attributes := #[] }, { accessFlags := 4120, nameIndex := 245, descriptorIndex := 246, attributes := #[] }])
  fields := #[{ name := "E", type := .double, accessFlags := 25, slot := 0, constantValue := 0 }, { name := "PI", type := .double, accessFlags := 25, slot := 1, constantValue := 0 }, { name := "TAU", type := .double, accessFlags := 25, slot := 2, constantValue := 0 }, { name := "DEGREES_TO_RADIANS", type := .double, accessFlags := 26, slot := 3, constantValue := 0 }, { name := "RADIANS_TO_DEGREES", type := .double, accessFlags := 26, slot := 4, constantValue := 0 }, { name := "negativeZeroFloatBits", type := .long, accessFlags := 26, slot := 5, constantValue := 0 }, { name := "negativeZeroDoubleBits", type := .long, accessFlags := 26, slot := 6, constantValue := 0 }, { name := "twoToTheDoubleScaleUp", type := .double, accessFlags := 8, slot := 7, constantValue := 0 }, { name := "twoToTheDoubleScaleDown", type := .double, accessFlags := 8, slot := 8, constantValue := 0 }, { name := "$assertionsDisabled", type := .boolean, accessFlags := 4120, slot := 9, constantValue := 0 }]
  methods := #[k21m0, k21m1]
  instanceTypes := #[]
  staticTypes := #[.double, .double, .double, .double, .double, .long, .long, .double, .double, .boolean]
  resolved := Array.replicate 460 none
  statics := none }

def pool22 : Array CpInfo := pool [(2, .class_ 4), (1, u "java/lang/Object"), (0, u "<init>"), (0, u "()V"), (17, .class_ 26), (1, u "jdk/internal/util/Preconditions"), (6, u "checkIndex"), (21, .class_ 56), (0, u "jdk/internal/util/Preconditions$4"), (57, .class_ 115), (0, u "jdk/internal/util/Preconditions$1"), (7, u "SIOOBE_FORMATTER"), (0, u "Ljava/util/function/BiFunction;"), (0, .class_ 126), (0, u "jdk/internal/util/Preconditions$2"), (3, u "AIOOBE_FORMATTER"), (0, .class_ 132), (0, u "jdk/internal/util/Preconditions$3"), (3, u "IOOBE_FORMATTER"), (41, u "(IILjava/util/function/BiFunction;)I")] 15

def k22m0 : Method := { name := "<init>", desc := "()V", sig := { parameters := [], returnType := none }, accessFlags := 1, code := none }
def k22c1 : Code := { maxStack := 3, maxLocals := 3, code := jdk_41_method_11_code, exceptionTable := #[], attributes := #[] }
def k22m1 : Method := { name := "checkIndex", desc := "(IILjava/util/function/BiFunction;)I", sig := { parameters := [.int, .int, (.object "java/util/function/BiFunction")], returnType := some .int }, accessFlags := 9, code := some k22c1 }
/-- jdk/internal/util/Preconditions -/
def k22 : Class := { plain "jdk/internal/util/Preconditions" (some 0) with
  accessFlags := 33
  interfaces := #[]
  cf := some (fileOf pool22 24 #[.nestMembers #[55, 131, 125, 114]] #[{ accessFlags := 1, nameIndex := 5, descriptorIndex := 6, attributes := #[] }, { accessFlags := 9, nameIndex := 33, descriptorIndex := 178, attributes := #[] }] 33 2 #[] #[{ accessFlags := 25, nameIndex := 123, descriptorIndex := 124, attributes := #[] }, { accessFlags := 25, nameIndex := 130, descriptorIndex := 124, attributes := #[] }, { accessFlags := 25, nameIndex := 136, descriptorIndex := 124, attributes := #[] }])
  fields := #[{ name := "SIOOBE_FORMATTER", type := (.object "java/util/function/BiFunction"), accessFlags := 25, slot := 0, constantValue := 0 }, { name := "AIOOBE_FORMATTER", type := (.object "java/util/function/BiFunction"), accessFlags := 25, slot := 1, constantValue := 0 }, { name := "IOOBE_FORMATTER", type := (.object "java/util/function/BiFunction"), accessFlags := 25, slot := 2, constantValue := 0 }]
  methods := #[k22m0, k22m1]
  instanceTypes := #[]
  staticTypes := #[(.object "java/util/function/BiFunction"), (.object "java/util/function/BiFunction"), (.object "java/util/function/BiFunction")]
  resolved := Array.replicate 194 none
  statics := some 2 }

def pool23 : Array CpInfo := pool [(9, u "<init>"), (6, .class_ 18), (1, u "java/lang/Object"), (0, u "()V"), (1, .class_ 23), (1, u "jdk/internal/util/ArraysSupport"), (0, u "LOG2_ARRAY_LONG_INDEX_SCALE"), (0, u "I"), (2, u "U"), (0, u "Ljdk/internal/misc/Unsafe;"), (8, u "BIG_ENDIAN"), (0, u "Z"), (8, u "LOG2_BYTE_BIT_SIZE"), (4, u "LOG2_ARRAY_INT_INDEX_SCALE"), (54, u "JLA"), (0, u "Ljdk/internal/access/JavaLangAccess;"), (11, u "LOG2_ARRAY_BOOLEAN_INDEX_SCALE"), (9, u "LOG2_ARRAY_BYTE_INDEX_SCALE"), (5, u "LOG2_ARRAY_CHAR_INDEX_SCALE"), (5, u "LOG2_ARRAY_SHORT_INDEX_SCALE"), (18, u "LOG2_ARRAY_FLOAT_INDEX_SCALE"), (24, u "LOG2_ARRAY_DOUBLE_INDEX_SCALE"), (89, u "T_BOOLEAN"), (2, u "T_CHAR"), (1, u "T_FLOAT"), (1, u "T_DOUBLE"), (1, u "T_BYTE"), (1, u "T_SHORT"), (1, u "T_INT"), (1, u "T_LONG"), (1, u "SOFT_MAX_ARRAY_LENGTH")] 83

def k23m0 : Method := { name := "<init>", desc := "()V", sig := { parameters := [], returnType := none }, accessFlags := 2, code := none }
/-- jdk/internal/util/ArraysSupport -/
def k23 : Class := { plain "jdk/internal/util/ArraysSupport" (some 0) with
  accessFlags := 33
  interfaces := #[]
  cf := some (fileOf pool23 21 #[] #[{ accessFlags := 2, nameIndex := 9, descriptorIndex := 19, attributes := #[] }] 33 16 #[] #[{ accessFlags := 24, nameIndex := 28, descriptorIndex := 29, attributes := #[] }, { accessFlags := 26, nameIndex := 38, descriptorIndex := 39, attributes := #[] }, { accessFlags := 25, nameIndex := 121, descriptorIndex := 25, attributes := #[] }, { accessFlags := 25, nameIndex := 131, descriptorIndex := 25, attributes := #[] }, { accessFlags := 25, nameIndex := 137, descriptorIndex := 25, attributes := #[] }, { accessFlags := 25, nameIndex := 143, descriptorIndex := 25, attributes := #[] }, { accessFlags := 25, nameIndex := 53, descriptorIndex := 25, attributes := #[] }, { accessFlags := 25, nameIndex := 24, descriptorIndex := 25, attributes := #[] }, { accessFlags := 25, nameIndex := 162, descriptorIndex := 25, attributes := #[] }, { accessFlags := 25, nameIndex := 187, descriptorIndex := 25, attributes := #[] }, { accessFlags := 26, nameIndex := 48, descriptorIndex := 25, attributes := #[] }, { accessFlags := 25, nameIndex := 277, descriptorIndex := 25, attributes := #[] }, { accessFlags := 25, nameIndex := 280, descriptorIndex := 25, attributes := #[] }, { accessFlags := 25, nameIndex := 282, descriptorIndex := 25, attributes := #[] }, { accessFlags := 25, nameIndex := 284, descriptorIndex := 25, attributes := #[] }, { accessFlags := 25, nameIndex := 286, descriptorIndex := 25, attributes := #[] }, { accessFlags := 25, nameIndex := 288, descriptorIndex := 25, attributes := #[] }, { accessFlags := 25, nameIndex := 290, descriptorIndex := 25, attributes := #[] }, { accessFlags := 25, nameIndex := 292, descriptorIndex := 25, attributes := #[] }, { accessFlags := 26, nameIndex := 108, descriptorIndex := 109, attributes := #[] }, { accessFlags := 25, nameIndex := 294, descriptorIndex := 25, attributes := #[] }])
  fields := #[{ name := "U", type := (.object "jdk/internal/misc/Unsafe"), accessFlags := 24, slot := 0, constantValue := 0 }, { name := "BIG_ENDIAN", type := .boolean, accessFlags := 26, slot := 1, constantValue := 0 }, { name := "LOG2_ARRAY_BOOLEAN_INDEX_SCALE", type := .int, accessFlags := 25, slot := 2, constantValue := 0 }, { name := "LOG2_ARRAY_BYTE_INDEX_SCALE", type := .int, accessFlags := 25, slot := 3, constantValue := 0 }, { name := "LOG2_ARRAY_CHAR_INDEX_SCALE", type := .int, accessFlags := 25, slot := 4, constantValue := 0 }, { name := "LOG2_ARRAY_SHORT_INDEX_SCALE", type := .int, accessFlags := 25, slot := 5, constantValue := 0 }, { name := "LOG2_ARRAY_INT_INDEX_SCALE", type := .int, accessFlags := 25, slot := 6, constantValue := 0 }, { name := "LOG2_ARRAY_LONG_INDEX_SCALE", type := .int, accessFlags := 25, slot := 7, constantValue := 0 }, { name := "LOG2_ARRAY_FLOAT_INDEX_SCALE", type := .int, accessFlags := 25, slot := 8, constantValue := 0 }, { name := "LOG2_ARRAY_DOUBLE_INDEX_SCALE", type := .int, accessFlags := 25, slot := 9, constantValue := 0 }, { name := "LOG2_BYTE_BIT_SIZE", type := .int, accessFlags := 26, slot := 10, constantValue := 0 }, { name := "T_BOOLEAN", type := .int, accessFlags := 25, slot := 11, constantValue := 0 }, { name := "T_CHAR", type := .int, accessFlags := 25, slot := 12, constantValue := 0 }, { name := "T_FLOAT", type := .int, accessFlags := 25, slot := 13, constantValue := 0 }, { name := "T_DOUBLE", type := .int, accessFlags := 25, slot := 14, constantValue := 0 }, { name := "T_BYTE", type := .int, accessFlags := 25, slot := 15, constantValue := 0 }, { name := "T_SHORT", type := .int, accessFlags := 25, slot := 16, constantValue := 0 }, { name := "T_INT", type := .int, accessFlags := 25, slot := 17, constantValue := 0 }, { name := "T_LONG", type := .int, accessFlags := 25, slot := 18, constantValue := 0 }, { name := "JLA", type := (.object "jdk/internal/access/JavaLangAccess"), accessFlags := 26, slot := 19, constantValue := 0 }, { name := "SOFT_MAX_ARRAY_LENGTH", type := .int, accessFlags := 25, slot := 20, constantValue := 0 }]
  methods := #[k23m0]
  instanceTypes := #[]
  staticTypes := #[(.object "jdk/internal/misc/Unsafe"), .boolean, .int, .int, .int, .int, .int, .int, .int, .int, .int, .int, .int, .int, .int, .int, .int, .int, .int, (.object "jdk/internal/access/JavaLangAccess"), .int]
  resolved := Array.replicate 378 none
  statics := none }

/-- the primitive byte -/
def k24 : Class := { plain "byte" none with kind := .primitive 'B', accessFlags := 0x411 }
/-- [B -/
def k25 : Class := { plain "[B" (some 0) with kind := .array 24 .byte, interfaces := #[18, 2], accessFlags := 1041 }

/-- the primitive char -/
def k26 : Class := { plain "char" none with kind := .primitive 'C', accessFlags := 0x411 }
/-- [C -/
def k27 : Class := { plain "[C" (some 0) with kind := .array 26 .char, interfaces := #[18, 2], accessFlags := 1041 }

/-- the primitive int -/
def k28 : Class := { plain "int" none with kind := .primitive 'I', accessFlags := 0x411 }
/-- [I -/
def k29 : Class := { plain "[I" (some 0) with kind := .array 28 .int, interfaces := #[18, 2], accessFlags := 1041 }

/-- [Ljava/lang/Object; -/
def k30 : Class := { plain "[Ljava/lang/Object;" (some 0) with kind := .array 0 (.object "java/lang/Object"), interfaces := #[18, 2], accessFlags := 1041 }

def heap : Heap := #[{ cls := 7, slots := #[.long 0, .int 1, .null, .int 0, .null, .int 0, .int 0], vm := .statics 7 },
  { cls := 19, slots := #[.long 0, .int 0, .ref 3, .ref 4], vm := .statics 19 },
  { cls := 22, slots := #[.null, .null, .null], vm := .statics 22 },
  { cls := 30, slots := #[], vm := .none },
  { cls := 30, slots := #[], vm := .none }]
def classes : Array Class := #[k0, k1, k2, k3, k4, k5, k6, k7, k8, k9, k10, k11, k12, k13, k14, k15, k16, k17, k18, k19, k20, k21, k22, k23, k24, k25, k26, k27, k28, k29, k30]
def interned : List (Array UInt16 × Addr) := []
def slotsUsed : Nat := 14
def theMethod : MethodId := ⟨1, 2⟩
def args0 : Array Value := #[.int 5, .int 6, .int 7, .int 9]
def aboutOver (below : List Frame) : State where
  vm := { classes := classes, interned := interned.toArray }
  heap := heap
  slotsUsed := slotsUsed
  threads := #[{ frames := .invoking theMethod args0 :: below }]
def below0 : List Frame := [.native { method := ⟨0, 0⟩, args := #[] }]
def about1 : State := aboutOver below0
def p0 : Program := .bare "" "" ""
def e0 : Env := launch0.env 0 0 0
theorem w_frames : about1.frames = Frame.invoking theMethod args0 :: below0 := rfl
set_option maxRecDepth 65536 in
theorem w_args : argsFit about1.vm theMethod args0 = true := by decide +kernel
set_option maxRecDepth 65536 in
theorem w_heap : heapFits about1 = true := by decide +kernel
set_option maxRecDepth 65536 in
theorem w_runnable : about1.curStatus? = some .runnable := by decide +kernel
set_option maxRecDepth 65536 in
theorem w_alone : about1.alone = true := by decide +kernel
set_option maxRecDepth 65536 in
theorem w_named : about1.methodNamed? x = some theMethod := by decide +kernel
set_option maxRecDepth 65536 in
theorem w_hears : about1.hears theMethod below0 = true := by decide +kernel
set_option maxRecDepth 65536 in
theorem w_ripe : about1.ripe theMethod args0 below0 = true := by decide +kernel
theorem w_running : about1.status = .running := rfl
set_option maxRecDepth 65536 in
theorem w_room : about1.hasRoom e0.platform room_1 = true :=
  launch0.hasRoom_least _ room_1 (by decide +kernel) (by decide +kernel) (by decide +kernel) (by decide +kernel) (by decide +kernel) (by decide +kernel)
theorem allAtoms_all (ts : List Jvm.Cond) (a : Array Jvm.Value) (st : Jvm.State) : (allAtoms ts).before a st = ts.all (fun c => c.before a st) := by
  induction ts with
  | nil => rfl
  | cons c t ih =>
    show (Jvm.Cond.and c (allAtoms t)).before a st = _
    rw [Jvm.Cond.before_and, ih, List.all_cons]
def words1 : List Jvm.Cond := Jvm.Cond.code x code maxLocals ret :: tables_1
/-- a 'code' word, met by the world's own term for the bytes: nothing is compared byte by byte -/
theorem code_word {y : MethodName} {bytes : ByteArray} {mx : Nat} {rt : Option FieldType} {a : Array Value} {s : State} {m : MethodId} {meth : Method} {c : Code} (h1 : s.methodNamed? y = some m) (h2 : s.vm.method? m = some meth) (h3 : meth.code = some c) (h4 : c.code = bytes)
    (h5 : (c.maxLocals == mx && c.exceptionTable.isEmpty && decide (c.maxStack ≤ mostOperands) && decide (meth.sig.returnType = rt) && !meth.locks && decide (parseMethodDescriptor y.desc = some meth.sig)) = true) : (Jvm.Cond.code y bytes mx rt).before a s = true := by
  simp only [Bool.and_eq_true, beq_iff_eq, Bool.not_eq_true', decide_eq_true_eq] at h5
  obtain ⟨⟨⟨⟨⟨g1, g2⟩, g3⟩, g4⟩, g5⟩, g6⟩ := h5
  simp [Cond.before, Cond.holds, Cond.value, h1, h2, h3, h4, g1, g2, g3, g4, g5, g6]
def isCode : Jvm.Cond → Bool
  | .code _ _ _ _ => true
  | _ => false
theorem all_split {L : List Jvm.Cond} {P : Jvm.Cond → Bool} (h1 : L.all (fun c => isCode c || P c) = true) (h2 : ∀ c ∈ L.filter isCode, P c = true) : L.all P = true := by
  refine List.all_eq_true.mpr fun c hc => ?_
  have h := List.all_eq_true.mp h1 c hc
  rcases Bool.eq_false_or_eq_true (isCode c) with hi | hi
  · exact h2 c (List.mem_filter.mpr ⟨hc, hi⟩)
  · simpa [hi] using h
set_option maxRecDepth 65536 in
theorem w_c0 : (Jvm.Cond.code x code maxLocals ret).before args0 about1 = true := code_word (m := ⟨1, 2⟩) (meth := k1m2) (c := k1c2) (by decide +kernel) rfl rfl rfl (by decide +kernel)
set_option maxRecDepth 65536 in
theorem w_c1 : (Jvm.Cond.code ({ cls := "com/example/kickstand/kickstand/CommandDecorationRunBesidePinLaw", name := "mk", desc := "(I)Ljava/lang/String;" } : Jvm.MethodName) method_2_code (4 : Nat) (Option.some (Jvm.ClassFile.FieldType.object "java/lang/String"))).before args0 about1 = true := code_word (m := ⟨1, 1⟩) (meth := k1m1) (c := k1c1) (by decide +kernel) rfl rfl rfl (by decide +kernel)
set_option maxRecDepth 65536 in
theorem w_c2 : (Jvm.Cond.code ({ cls := "java/lang/String", name := "<init>", desc := "([C)V" } : Jvm.MethodName) jdk_42_method_3_code (2 : Nat) (Option.none : Option Jvm.ClassFile.FieldType)).before args0 about1 = true := code_word (m := ⟨7, 1⟩) (meth := k7m1) (c := k7c1) (by decide +kernel) rfl rfl rfl (by decide +kernel)
set_option maxRecDepth 65536 in
theorem w_c3 : (Jvm.Cond.code ({ cls := "java/lang/String", name := "<init>", desc := "([CIILjava/lang/Void;)V" } : Jvm.MethodName) jdk_42_method_149_code (6 : Nat) (Option.none : Option Jvm.ClassFile.FieldType)).before args0 about1 = true := code_word (m := ⟨7, 4⟩) (meth := k7m4) (c := k7c4) (by decide +kernel) rfl rfl rfl (by decide +kernel)
set_option maxRecDepth 65536 in
theorem w_c4 : (Jvm.Cond.code ({ cls := "java/lang/Object", name := "<init>", desc := "()V" } : Jvm.MethodName) object_method_1_code (1 : Nat) (Option.none : Option Jvm.ClassFile.FieldType)).before args0 about1 = true := code_word (m := ⟨0, 0⟩) (meth := k0m0) (c := k0c0) (by decide +kernel) rfl rfl rfl (by decide +kernel)
set_option maxRecDepth 65536 in
theorem w_c5 : (Jvm.Cond.code ({ cls := "java/lang/StringUTF16", name := "compress", desc := "([CII)[B" } : Jvm.MethodName) jdk_52_method_16_code (6 : Nat) (Option.some (Jvm.ClassFile.FieldType.array Jvm.ClassFile.FieldType.byte))).before args0 about1 = true := code_word (m := ⟨8, 2⟩) (meth := k8m2) (c := k8c2) (by decide +kernel) rfl rfl rfl (by decide +kernel)
set_option maxRecDepth 65536 in
theorem w_c6 : (Jvm.Cond.code ({ cls := "java/lang/StringUTF16", name := "compress", desc := "([CI[BII)I" } : Jvm.MethodName) jdk_52_method_21_code (7 : Nat) (Option.some Jvm.ClassFile.FieldType.int)).before args0 about1 = true := code_word (m := ⟨8, 3⟩) (meth := k8m3) (c := k8c3) (by decide +kernel) rfl rfl rfl (by decide +kernel)
set_option maxRecDepth 65536 in
theorem w_c7 : (Jvm.Cond.code ({ cls := "java/lang/StringUTF16", name := "coderFromArrayLen", desc := "([BI)B" } : Jvm.MethodName) jdk_52_method_15_code (2 : Nat) (Option.some Jvm.ClassFile.FieldType.byte)).before args0 about1 = true := code_word (m := ⟨8, 1⟩) (meth := k8m1) (c := k8c1) (by decide +kernel) rfl rfl rfl (by decide +kernel)
set_option maxRecDepth 65536 in
theorem w_c8 : (Jvm.Cond.code ({ cls := "java/lang/String", name := "valueOf", desc := "(C)Ljava/lang/String;" } : Jvm.MethodName) jdk_42_method_139_code (1 : Nat) (Option.some (Jvm.ClassFile.FieldType.object "java/lang/String"))).before args0 about1 = true := code_word (m := ⟨7, 3⟩) (meth := k7m3) (c := k7c3) (by decide +kernel) rfl rfl rfl (by decide +kernel)
set_option maxRecDepth 65536 in
theorem w_c9 : (Jvm.Cond.code ({ cls := "java/lang/StringLatin1", name := "canEncode", desc := "(C)Z" } : Jvm.MethodName) jdk_43_method_3_code (1 : Nat) (Option.some Jvm.ClassFile.FieldType.boolean)).before args0 about1 = true := code_word (m := ⟨9, 1⟩) (meth := k9m1) (c := k9c1) (by decide +kernel) rfl rfl rfl (by decide +kernel)
set_option maxRecDepth 65536 in
theorem w_c10 : (Jvm.Cond.code ({ cls := "java/lang/StringLatin1", name := "toBytes", desc := "(C)[B" } : Jvm.MethodName) jdk_43_method_46_code (1 : Nat) (Option.some (Jvm.ClassFile.FieldType.array Jvm.ClassFile.FieldType.byte))).before args0 about1 = true := code_word (m := ⟨9, 2⟩) (meth := k9m2) (c := k9c2) (by decide +kernel) rfl rfl rfl (by decide +kernel)
set_option maxRecDepth 65536 in
theorem w_c11 : (Jvm.Cond.code ({ cls := "java/lang/String", name := "<init>", desc := "([BB)V" } : Jvm.MethodName) jdk_42_method_151_code (3 : Nat) (Option.none : Option Jvm.ClassFile.FieldType)).before args0 about1 = true := code_word (m := ⟨7, 5⟩) (meth := k7m5) (c := k7c5) (by decide +kernel) rfl rfl rfl (by decide +kernel)
set_option maxRecDepth 65536 in
theorem w_c12 : (Jvm.Cond.code ({ cls := "com/example/kickstand/kickstand/CommandDecoration", name := "<init>", desc := "(Ljava/lang/String;)V" } : Jvm.MethodName) prog_3_method_1_code (2 : Nat) (Option.none : Option Jvm.ClassFile.FieldType)).before args0 about1 = true := code_word (m := ⟨10, 0⟩) (meth := k10m0) (c := k10c0) (by decide +kernel) rfl rfl rfl (by decide +kernel)
set_option maxRecDepth 65536 in
theorem w_c13 : (Jvm.Cond.code ({ cls := "java/util/ArrayList", name := "<init>", desc := "()V" } : Jvm.MethodName) jdk_38_method_2_code (1 : Nat) (Option.none : Option Jvm.ClassFile.FieldType)).before args0 about1 = true := code_word (m := ⟨19, 0⟩) (meth := k19m0) (c := k19c0) (by decide +kernel) rfl rfl rfl (by decide +kernel)
set_option maxRecDepth 65536 in
theorem w_c14 : (Jvm.Cond.code ({ cls := "java/util/AbstractList", name := "<init>", desc := "()V" } : Jvm.MethodName) jdk_39_method_1_code (1 : Nat) (Option.none : Option Jvm.ClassFile.FieldType)).before args0 about1 = true := code_word (m := ⟨16, 0⟩) (meth := k16m0) (c := k16c0) (by decide +kernel) rfl rfl rfl (by decide +kernel)
set_option maxRecDepth 65536 in
theorem w_c15 : (Jvm.Cond.code ({ cls := "java/util/AbstractCollection", name := "<init>", desc := "()V" } : Jvm.MethodName) jdk_22_method_1_code (1 : Nat) (Option.none : Option Jvm.ClassFile.FieldType)).before args0 about1 = true := code_word (m := ⟨13, 0⟩) (meth := k13m0) (c := k13c0) (by decide +kernel) rfl rfl rfl (by decide +kernel)
set_option maxRecDepth 65536 in
theorem w_c16 : (Jvm.Cond.code ({ cls := "java/util/Objects", name := "requireNonNull", desc := "(Ljava/lang/Object;Ljava/lang/String;)Ljava/lang/Object;" } : Jvm.MethodName) jdk_31_method_11_code (2 : Nat) (Option.some (Jvm.ClassFile.FieldType.object "java/lang/Object"))).before args0 about1 = true := code_word (m := ⟨20, 1⟩) (meth := k20m1) (c := k20c1) (by decide +kernel) rfl rfl rfl (by decide +kernel)
set_option maxRecDepth 65536 in
theorem w_c17 : (Jvm.Cond.code ({ cls := "com/example/kickstand/kickstand/CommandDecoration", name := "runBeside", desc := "(Ljava/lang/String;)Lcom/example/kickstand/kickstand/CommandDecoration;" } : Jvm.MethodName) prog_3_method_3_code (2 : Nat) (Option.some (Jvm.ClassFile.FieldType.object "com/example/kickstand/kickstand/CommandDecoration"))).before args0 about1 = true := code_word (m := ⟨10, 2⟩) (meth := k10m2) (c := k10c2) (by decide +kernel) rfl rfl rfl (by decide +kernel)
set_option maxRecDepth 65536 in
theorem w_c18 : (Jvm.Cond.code ({ cls := "java/util/ArrayList", name := "add", desc := "(Ljava/lang/Object;)Z" } : Jvm.MethodName) jdk_38_method_25_code (2 : Nat) (Option.some Jvm.ClassFile.FieldType.boolean)).before args0 about1 = true := code_word (m := ⟨19, 7⟩) (meth := k19m7) (c := k19c7) (by decide +kernel) rfl rfl rfl (by decide +kernel)
set_option maxRecDepth 65536 in
theorem w_c19 : (Jvm.Cond.code ({ cls := "java/util/ArrayList", name := "add", desc := "(Ljava/lang/Object;[Ljava/lang/Object;I)V" } : Jvm.MethodName) jdk_38_method_24_code (4 : Nat) (Option.none : Option Jvm.ClassFile.FieldType)).before args0 about1 = true := code_word (m := ⟨19, 6⟩) (meth := k19m6) (c := k19c6) (by decide +kernel) rfl rfl rfl (by decide +kernel)
set_option maxRecDepth 65536 in
theorem w_c20 : (Jvm.Cond.code ({ cls := "java/util/ArrayList", name := "grow", desc := "()[Ljava/lang/Object;" } : Jvm.MethodName) jdk_38_method_7_code (1 : Nat) (Option.some (Jvm.ClassFile.FieldType.array (Jvm.ClassFile.FieldType.object "java/lang/Object")))).before args0 about1 = true := code_word (m := ⟨19, 2⟩) (meth := k19m2) (c := k19c2) (by decide +kernel) rfl rfl rfl (by decide +kernel)
set_option maxRecDepth 65536 in
theorem w_c21 : (Jvm.Cond.code ({ cls := "java/util/ArrayList", name := "grow", desc := "(I)[Ljava/lang/Object;" } : Jvm.MethodName) jdk_38_method_6_code (4 : Nat) (Option.some (Jvm.ClassFile.FieldType.array (Jvm.ClassFile.FieldType.object "java/lang/Object")))).before args0 about1 = true := code_word (m := ⟨19, 1⟩) (meth := k19m1) (c := k19c1) (by decide +kernel) rfl rfl rfl (by decide +kernel)
set_option maxRecDepth 65536 in
theorem w_c22 : (Jvm.Cond.code ({ cls := "java/lang/Math", name := "max", desc := "(II)I" } : Jvm.MethodName) jdk_29_method_65_code (2 : Nat) (Option.some Jvm.ClassFile.FieldType.int)).before args0 about1 = true := code_word (m := ⟨21, 1⟩) (meth := k21m1) (c := k21c1) (by decide +kernel) rfl rfl rfl (by decide +kernel)
set_option maxRecDepth 65536 in
theorem w_c23 : (Jvm.Cond.code ({ cls := "com/example/kickstand/kickstand/CommandDecoration", name := "beside", desc := "()Ljava/util/List;" } : Jvm.MethodName) prog_3_method_6_code (1 : Nat) (Option.some (Jvm.ClassFile.FieldType.object "java/util/List"))).before args0 about1 = true := code_word (m := ⟨10, 5⟩) (meth := k10m5) (c := k10c5) (by decide +kernel) rfl rfl rfl (by decide +kernel)
set_option maxRecDepth 65536 in
theorem w_c24 : (Jvm.Cond.code ({ cls := "java/util/ArrayList", name := "size", desc := "()I" } : Jvm.MethodName) jdk_38_method_8_code (1 : Nat) (Option.some Jvm.ClassFile.FieldType.int)).before args0 about1 = true := code_word (m := ⟨19, 3⟩) (meth := k19m3) (c := k19c3) (by decide +kernel) rfl rfl rfl (by decide +kernel)
set_option maxRecDepth 65536 in
theorem w_c25 : (Jvm.Cond.code ({ cls := "java/util/ArrayList", name := "get", desc := "(I)Ljava/lang/Object;" } : Jvm.MethodName) jdk_38_method_20_code (2 : Nat) (Option.some (Jvm.ClassFile.FieldType.object "java/lang/Object"))).before args0 about1 = true := code_word (m := ⟨19, 5⟩) (meth := k19m5) (c := k19c5) (by decide +kernel) rfl rfl rfl (by decide +kernel)
set_option maxRecDepth 65536 in
theorem w_c26 : (Jvm.Cond.code ({ cls := "java/util/Objects", name := "checkIndex", desc := "(II)I" } : Jvm.MethodName) jdk_31_method_17_code (2 : Nat) (Option.some Jvm.ClassFile.FieldType.int)).before args0 about1 = true := code_word (m := ⟨20, 2⟩) (meth := k20m2) (c := k20c2) (by decide +kernel) rfl rfl rfl (by decide +kernel)
set_option maxRecDepth 65536 in
theorem w_c27 : (Jvm.Cond.code ({ cls := "jdk/internal/util/Preconditions", name := "checkIndex", desc := "(IILjava/util/function/BiFunction;)I" } : Jvm.MethodName) jdk_41_method_11_code (3 : Nat) (Option.some Jvm.ClassFile.FieldType.int)).before args0 about1 = true := code_word (m := ⟨22, 1⟩) (meth := k22m1) (c := k22c1) (by decide +kernel) rfl rfl rfl (by decide +kernel)
set_option maxRecDepth 65536 in
theorem w_c28 : (Jvm.Cond.code ({ cls := "java/util/ArrayList", name := "elementData", desc := "(I)Ljava/lang/Object;" } : Jvm.MethodName) jdk_38_method_18_code (2 : Nat) (Option.some (Jvm.ClassFile.FieldType.object "java/lang/Object"))).before args0 about1 = true := code_word (m := ⟨19, 4⟩) (meth := k19m4) (c := k19c4) (by decide +kernel) rfl rfl rfl (by decide +kernel)
set_option maxRecDepth 65536 in
theorem w_c29 : (Jvm.Cond.code ({ cls := "java/lang/String", name := "equals", desc := "(Ljava/lang/Object;)Z" } : Jvm.MethodName) jdk_42_method_66_code (3 : Nat) (Option.some Jvm.ClassFile.FieldType.boolean)).before args0 about1 = true := code_word (m := ⟨7, 2⟩) (meth := k7m2) (c := k7c2) (by decide +kernel) rfl rfl rfl (by decide +kernel)
set_option maxRecDepth 65536 in
theorem w_c30 : (Jvm.Cond.code ({ cls := "com/example/kickstand/kickstand/CommandDecoration", name := "before", desc := "()Ljava/util/List;" } : Jvm.MethodName) prog_3_method_5_code (1 : Nat) (Option.some (Jvm.ClassFile.FieldType.object "java/util/List"))).before args0 about1 = true := code_word (m := ⟨10, 4⟩) (meth := k10m4) (c := k10c4) (by decide +kernel) rfl rfl rfl (by decide +kernel)
set_option maxRecDepth 65536 in
theorem w_c31 : (Jvm.Cond.code ({ cls := "com/example/kickstand/kickstand/CommandDecoration", name := "name", desc := "()Ljava/lang/String;" } : Jvm.MethodName) prog_3_method_4_code (1 : Nat) (Option.some (Jvm.ClassFile.FieldType.object "java/lang/String"))).before args0 about1 = true := code_word (m := ⟨10, 3⟩) (meth := k10m3) (c := k10c3) (by decide +kernel) rfl rfl rfl (by decide +kernel)
set_option maxRecDepth 65536 in
theorem w_c32 : (Jvm.Cond.code ({ cls := "com/example/kickstand/kickstand/CommandDecoration", name := "runBefore", desc := "(Ljava/lang/String;)Lcom/example/kickstand/kickstand/CommandDecoration;" } : Jvm.MethodName) prog_3_method_2_code (2 : Nat) (Option.some (Jvm.ClassFile.FieldType.object "com/example/kickstand/kickstand/CommandDecoration"))).before args0 about1 = true := code_word (m := ⟨10, 1⟩) (meth := k10m1) (c := k10c1) (by decide +kernel) rfl rfl rfl (by decide +kernel)
def codes1 : List Jvm.Cond := [Jvm.Cond.code x code maxLocals ret, Jvm.Cond.code ({ cls := "com/example/kickstand/kickstand/CommandDecorationRunBesidePinLaw", name := "mk", desc := "(I)Ljava/lang/String;" } : Jvm.MethodName) method_2_code (4 : Nat) (Option.some (Jvm.ClassFile.FieldType.object "java/lang/String")), Jvm.Cond.code ({ cls := "java/lang/String", name := "<init>", desc := "([C)V" } : Jvm.MethodName) jdk_42_method_3_code (2 : Nat) (Option.none : Option Jvm.ClassFile.FieldType), Jvm.Cond.code ({ cls := "java/lang/String", name := "<init>", desc := "([CIILjava/lang/Void;)V" } : Jvm.MethodName) jdk_42_method_149_code (6 : Nat) (Option.none : Option Jvm.ClassFile.FieldType), Jvm.Cond.code ({ cls := "java/lang/Object", name := "<init>", desc := "()V" } : Jvm.MethodName) object_method_1_code (1 : Nat) (Option.none : Option Jvm.ClassFile.FieldType), Jvm.Cond.code ({ cls := "java/lang/StringUTF16", name := "compress", desc := "([CII)[B" } : Jvm.MethodName) jdk_52_method_16_code (6 : Nat) (Option.some (Jvm.ClassFile.FieldType.array Jvm.ClassFile.FieldType.byte)), Jvm.Cond.code ({ cls := "java/lang/StringUTF16", name := "compress", desc := "([CI[BII)I" } : Jvm.MethodName) jdk_52_method_21_code (7 : Nat) (Option.some Jvm.ClassFile.FieldType.int), Jvm.Cond.code ({ cls := "java/lang/StringUTF16", name := "coderFromArrayLen", desc := "([BI)B" } : Jvm.MethodName) jdk_52_method_15_code (2 : Nat) (Option.some Jvm.ClassFile.FieldType.byte), Jvm.Cond.code ({ cls := "java/lang/String", name := "valueOf", desc := "(C)Ljava/lang/String;" } : Jvm.MethodName) jdk_42_method_139_code (1 : Nat) (Option.some (Jvm.ClassFile.FieldType.object "java/lang/String")), Jvm.Cond.code ({ cls := "java/lang/StringLatin1", name := "canEncode", desc := "(C)Z" } : Jvm.MethodName) jdk_43_method_3_code (1 : Nat) (Option.some Jvm.ClassFile.FieldType.boolean), Jvm.Cond.code ({ cls := "java/lang/StringLatin1", name := "toBytes", desc := "(C)[B" } : Jvm.MethodName) jdk_43_method_46_code (1 : Nat) (Option.some (Jvm.ClassFile.FieldType.array Jvm.ClassFile.FieldType.byte)), Jvm.Cond.code ({ cls := "java/lang/String", name := "<init>", desc := "([BB)V" } : Jvm.MethodName) jdk_42_method_151_code (3 : Nat) (Option.none : Option Jvm.ClassFile.FieldType), Jvm.Cond.code ({ cls := "com/example/kickstand/kickstand/CommandDecoration", name := "<init>", desc := "(Ljava/lang/String;)V" } : Jvm.MethodName) prog_3_method_1_code (2 : Nat) (Option.none : Option Jvm.ClassFile.FieldType), Jvm.Cond.code ({ cls := "java/util/ArrayList", name := "<init>", desc := "()V" } : Jvm.MethodName) jdk_38_method_2_code (1 : Nat) (Option.none : Option Jvm.ClassFile.FieldType), Jvm.Cond.code ({ cls := "java/util/AbstractList", name := "<init>", desc := "()V" } : Jvm.MethodName) jdk_39_method_1_code (1 : Nat) (Option.none : Option Jvm.ClassFile.FieldType), Jvm.Cond.code ({ cls := "java/util/AbstractCollection", name := "<init>", desc := "()V" } : Jvm.MethodName) jdk_22_method_1_code (1 : Nat) (Option.none : Option Jvm.ClassFile.FieldType), Jvm.Cond.code ({ cls := "java/util/Objects", name := "requireNonNull", desc := "(Ljava/lang/Object;Ljava/lang/String;)Ljava/lang/Object;" } : Jvm.MethodName) jdk_31_method_11_code (2 : Nat) (Option.some (Jvm.ClassFile.FieldType.object "java/lang/Object")), Jvm.Cond.code ({ cls := "com/example/kickstand/kickstand/CommandDecoration", name := "runBeside", desc := "(Ljava/lang/String;)Lcom/example/kickstand/kickstand/CommandDecoration;" } : Jvm.MethodName) prog_3_method_3_code (2 : Nat) (Option.some (Jvm.ClassFile.FieldType.object "com/example/kickstand/kickstand/CommandDecoration")), Jvm.Cond.code ({ cls := "java/util/ArrayList", name := "add", desc := "(Ljava/lang/Object;)Z" } : Jvm.MethodName) jdk_38_method_25_code (2 : Nat) (Option.some Jvm.ClassFile.FieldType.boolean), Jvm.Cond.code ({ cls := "java/util/ArrayList", name := "add", desc := "(Ljava/lang/Object;[Ljava/lang/Object;I)V" } : Jvm.MethodName) jdk_38_method_24_code (4 : Nat) (Option.none : Option Jvm.ClassFile.FieldType), Jvm.Cond.code ({ cls := "java/util/ArrayList", name := "grow", desc := "()[Ljava/lang/Object;" } : Jvm.MethodName) jdk_38_method_7_code (1 : Nat) (Option.some (Jvm.ClassFile.FieldType.array (Jvm.ClassFile.FieldType.object "java/lang/Object"))), Jvm.Cond.code ({ cls := "java/util/ArrayList", name := "grow", desc := "(I)[Ljava/lang/Object;" } : Jvm.MethodName) jdk_38_method_6_code (4 : Nat) (Option.some (Jvm.ClassFile.FieldType.array (Jvm.ClassFile.FieldType.object "java/lang/Object"))), Jvm.Cond.code ({ cls := "java/lang/Math", name := "max", desc := "(II)I" } : Jvm.MethodName) jdk_29_method_65_code (2 : Nat) (Option.some Jvm.ClassFile.FieldType.int), Jvm.Cond.code ({ cls := "com/example/kickstand/kickstand/CommandDecoration", name := "beside", desc := "()Ljava/util/List;" } : Jvm.MethodName) prog_3_method_6_code (1 : Nat) (Option.some (Jvm.ClassFile.FieldType.object "java/util/List")), Jvm.Cond.code ({ cls := "java/util/ArrayList", name := "size", desc := "()I" } : Jvm.MethodName) jdk_38_method_8_code (1 : Nat) (Option.some Jvm.ClassFile.FieldType.int), Jvm.Cond.code ({ cls := "java/util/ArrayList", name := "get", desc := "(I)Ljava/lang/Object;" } : Jvm.MethodName) jdk_38_method_20_code (2 : Nat) (Option.some (Jvm.ClassFile.FieldType.object "java/lang/Object")), Jvm.Cond.code ({ cls := "java/util/Objects", name := "checkIndex", desc := "(II)I" } : Jvm.MethodName) jdk_31_method_17_code (2 : Nat) (Option.some Jvm.ClassFile.FieldType.int), Jvm.Cond.code ({ cls := "jdk/internal/util/Preconditions", name := "checkIndex", desc := "(IILjava/util/function/BiFunction;)I" } : Jvm.MethodName) jdk_41_method_11_code (3 : Nat) (Option.some Jvm.ClassFile.FieldType.int), Jvm.Cond.code ({ cls := "java/util/ArrayList", name := "elementData", desc := "(I)Ljava/lang/Object;" } : Jvm.MethodName) jdk_38_method_18_code (2 : Nat) (Option.some (Jvm.ClassFile.FieldType.object "java/lang/Object")), Jvm.Cond.code ({ cls := "java/lang/String", name := "equals", desc := "(Ljava/lang/Object;)Z" } : Jvm.MethodName) jdk_42_method_66_code (3 : Nat) (Option.some Jvm.ClassFile.FieldType.boolean), Jvm.Cond.code ({ cls := "com/example/kickstand/kickstand/CommandDecoration", name := "before", desc := "()Ljava/util/List;" } : Jvm.MethodName) prog_3_method_5_code (1 : Nat) (Option.some (Jvm.ClassFile.FieldType.object "java/util/List")), Jvm.Cond.code ({ cls := "com/example/kickstand/kickstand/CommandDecoration", name := "name", desc := "()Ljava/lang/String;" } : Jvm.MethodName) prog_3_method_4_code (1 : Nat) (Option.some (Jvm.ClassFile.FieldType.object "java/lang/String")), Jvm.Cond.code ({ cls := "com/example/kickstand/kickstand/CommandDecoration", name := "runBefore", desc := "(Ljava/lang/String;)Lcom/example/kickstand/kickstand/CommandDecoration;" } : Jvm.MethodName) prog_3_method_2_code (2 : Nat) (Option.some (Jvm.ClassFile.FieldType.object "com/example/kickstand/kickstand/CommandDecoration"))]
set_option maxRecDepth 65536 in
theorem codes_eq : words1.filter isCode = codes1 := rfl
theorem w_codes : ∀ c ∈ words1.filter isCode, c.before args0 about1 = true := by
  rw [codes_eq]
  intro c hc
  simp only [codes1, List.mem_cons, List.not_mem_nil, or_false] at hc
  rcases hc with rfl | rfl | rfl | rfl | rfl | rfl | rfl | rfl | rfl | rfl | rfl | rfl | rfl | rfl | rfl | rfl | rfl | rfl | rfl | rfl | rfl | rfl | rfl | rfl | rfl | rfl | rfl | rfl | rfl | rfl | rfl | rfl | rfl
  · exact w_c0
  · exact w_c1
  · exact w_c2
  · exact w_c3
  · exact w_c4
  · exact w_c5
  · exact w_c6
  · exact w_c7
  · exact w_c8
  · exact w_c9
  · exact w_c10
  · exact w_c11
  · exact w_c12
  · exact w_c13
  · exact w_c14
  · exact w_c15
  · exact w_c16
  · exact w_c17
  · exact w_c18
  · exact w_c19
  · exact w_c20
  · exact w_c21
  · exact w_c22
  · exact w_c23
  · exact w_c24
  · exact w_c25
  · exact w_c26
  · exact w_c27
  · exact w_c28
  · exact w_c29
  · exact w_c30
  · exact w_c31
  · exact w_c32
set_option maxRecDepth 65536 in
theorem w_t1 : (words1.take 24).all (fun c => isCode c || c.before args0 about1) = true := by decide +kernel
set_option maxRecDepth 65536 in
theorem w_t2 : ((words1.drop 24).take 24).all (fun c => isCode c || c.before args0 about1) = true := by decide +kernel
set_option maxRecDepth 65536 in
theorem w_t3 : (((words1.drop 24).drop 24).take 24).all (fun c => isCode c || c.before args0 about1) = true := by decide +kernel
set_option maxRecDepth 65536 in
theorem w_t4 : ((((words1.drop 24).drop 24).drop 24).take 24).all (fun c => isCode c || c.before args0 about1) = true := by decide +kernel
set_option maxRecDepth 65536 in
theorem w_t5 : (((((words1.drop 24).drop 24).drop 24).drop 24).take 24).all (fun c => isCode c || c.before args0 about1) = true := by decide +kernel
set_option maxRecDepth 65536 in
theorem w_t6 : ((((((words1.drop 24).drop 24).drop 24).drop 24).drop 24).take 24).all (fun c => isCode c || c.before args0 about1) = true := by decide +kernel
set_option maxRecDepth 65536 in
theorem w_t7 : (((((((words1.drop 24).drop 24).drop 24).drop 24).drop 24).drop 24).take 24).all (fun c => isCode c || c.before args0 about1) = true := by decide +kernel
set_option maxRecDepth 65536 in
theorem w_t8 : (((((((words1.drop 24).drop 24).drop 24).drop 24).drop 24).drop 24).drop 24).all (fun c => isCode c || c.before args0 about1) = true := by decide +kernel
theorem w_tables : (allAtoms (Jvm.Cond.code x code maxLocals ret :: tables_1)).before args0 about1 = true := by
  rw [allAtoms_all]
  show words1.all (fun c => c.before args0 about1) = true
  refine all_split ?_ w_codes
  rw [← List.take_append_drop 24 words1, List.all_append, w_t1, ← List.take_append_drop 24 (words1.drop 24), List.all_append, w_t2, ← List.take_append_drop 24 ((words1.drop 24).drop 24), List.all_append, w_t3, ← List.take_append_drop 24 (((words1.drop 24).drop 24).drop 24), List.all_append, w_t4, ← List.take_append_drop 24 ((((words1.drop 24).drop 24).drop 24).drop 24), List.all_append, w_t5, ← List.take_append_drop 24 (((((words1.drop 24).drop 24).drop 24).drop 24).drop 24), List.all_append, w_t6, ← List.take_append_drop 24 ((((((words1.drop 24).drop 24).drop 24).drop 24).drop 24).drop 24), List.all_append, w_t7, w_t8]
  rfl
set_option maxRecDepth 65536 in
theorem w_rest : rest_1_c.before args0 about1 = true := by decide +kernel
set_option maxRecDepth 65536 in
theorem w_case : (Jvm.Cond.and given_1 narrow_1).before args0 about1 = true := by decide +kernel
set_option maxRecDepth 65536 in
theorem w_consts : constsHeld consts_1 about1 := Jvm.Lit.constsHeldB_iff.mp (by decide +kernel)
theorem w_applies : (headSpec (Jvm.Cond.code x code maxLocals ret :: tables_1) room_1).applies x e0.platform about1 = true :=
  (Spec.applies_iff w_frames).mpr ⟨w_running, w_runnable, w_alone, w_named, w_hears, w_ripe, w_room, w_tables⟩
theorem atStart : AtStart classFile x code maxLocals ret World_1 tables_1 room_1 Calls_1 rest_1 Pre_1 launch0 p0 e0 about1 theMethod args0 below0 :=
  ⟨lists_1, trivial, launch0.admits_env _ _ _, launch0.least_env, fairChoices_fair.cas, fairChoices_fair.clock, w_frames, w_args, w_heap, w_applies, ⟨w_consts, trivial⟩, w_rest, w_case⟩
end start1
theorem witness_1 : WitnessClaimed_1 := ⟨start1.p0, start1.e0, start1.about1, start1.theMethod, start1.args0, start1.below0, start1.atStart⟩
end Jvm.Pilot.@@N@@
