import JvmDerived
import JvmDerived.Pilot.@@N@@Statement
import JvmDerived.Pilot.@@N@@Code
set_option linter.unusedVariables false
set_option linter.unusedSimpArgs false
/- laws to paste: Road.backV, Road.lenW, Road.chN (cut by pick.py; bodies as the Statement names them) -/
namespace Jvm.Pilot.@@N@@
namespace StrChars
open Jvm Sem ClassFile Op Lib Jvm.Stand Jvm.Free.XT Jvm.Free.ALB Jvm.Free.JM Jvm.Free
open Jvm.Lib.Cold (StaticIs)
/-- a char array whose places are chars -/
def Ch (a : Addr) (A : Cell) (U : State) : Prop := Arr .char a A U ∧ Typed .char A
theorem Ch.mv {a : Addr} {A : Cell} {U U' : State} (h : Ch a A U) (hal : U.vm.Alike U'.vm) (hh : U'.heap = U.heap) : Ch a A U' := ⟨h.1.mv hal hh, h.2⟩
theorem Ch.keep {a : Addr} {A : Cell} {U U' : State} (h : Ch a A U) (hal : U.vm.Alike U'.vm) (hk : U'.heap[a]? = some A) : Ch a A U' := ⟨h.1.keep hal hk, h.2⟩
/-- what place i of a char[]'s cell holds -/
def cv (A : Cell) (i : Nat) : Int32 := match A.slots[i]? with | some (.int x) => x | _ => 0
theorem Ch.get {a : Addr} {A : Cell} {U : State} (h : Ch a A U) {i : Nat} (hi : i < A.slots.size) : A.slots[i]? = some (.int (cv A i)) := by
  have e := Array.getElem?_eq_getElem hi
  have f := h.2 i _ e
  unfold cv; rw [e]
  generalize A.slots[i] = v at f
  cases v <;> simp [fits] at f ⊢
/-- the byte that i2b leaves of a char -/
def lo8 (x : Int32) : Int32 := x.toInt8.toInt32
theorem fits_lo8 (y : Int32) : fits .byte (.int (lo8 y)) = true := by
  have h1 := y.toInt8.le_toInt
  have h2 := y.toInt8.toInt_lt
  simp only [lo8, fits, Bool.and_eq_true, decide_eq_true_eq, Int32.le_iff_toInt_le, Int8.toInt_toInt32, show (-128 : Int32).toInt = -128 from by decide, show (127 : Int32).toInt = 127 from by decide]
  omega
/-- A' is A but that each place j of lo .. hi - 1 holds f j -/
def Laid (A A' : Cell) (lo hi : Nat) (f : Nat → Value) : Prop := A'.cls = A.cls ∧ A'.vm = A.vm ∧ A'.slots.size = A.slots.size ∧ ∀ i, A'.slots[i]? = if lo ≤ i ∧ i < hi then some (f i) else A.slots[i]?
theorem Laid.zero (A : Cell) (lo : Nat) (f : Nat → Value) : Laid A A lo (lo + 0) f := ⟨rfl, rfl, rfl, fun i => by rw [if_neg (by omega)]⟩
theorem Laid.step {A Ak : Cell} {lo k : Nat} {f : Nat → Value} {v : Value} (h : Laid A Ak lo k f) (hlo : lo ≤ k) (hk : k < Ak.slots.size) (hv : v = f k) : Laid A (Ak.setSlot k v) lo (k + 1) f := by
  refine ⟨h.1, h.2.1, by simpa [Cell.setSlot] using h.2.2.1, fun i => ?_⟩
  by_cases e : k = i
  · subst e; rw [Cell.slots_setSlot_self v hk, if_pos (by omega), hv]
  · rw [Cell.slots_setSlot_ne v e, h.2.2.2 i]
    by_cases q : lo ≤ i ∧ i < k
    · rw [if_pos q, if_pos (by omega)]
    · rw [if_neg q, if_neg (by omega)]
def U16 : String := "java/lang/StringUTF16"
namespace Cmp5
def yN : MethodName := ⟨"java/lang/StringUTF16", "compress", "([CI[BII)I"⟩
abbrev yB : ByteArray := jdk_52_method_21_code
theorem d0 : decode yB 0 = .ok (.iconst 0, 1) := by decide +kernel
theorem d1 : decode yB 1 = .ok (.istore 5, 2) := by decide +kernel
theorem d3 : decode yB 3 = .ok (.iload 5, 2) := by decide +kernel
theorem d5 : decode yB 5 = .ok (.iload 4, 2) := by decide +kernel
theorem d7 : decode yB 7 = .ok (.if_icmp (.ge) 37, 3) := by decide +kernel
theorem d10 : decode yB 10 = .ok (.aload_n 0, 1) := by decide +kernel
theorem d11 : decode yB 11 = .ok (.iload_n 1, 1) := by decide +kernel
theorem d12 : decode yB 12 = .ok (.caload, 1) := by decide +kernel
theorem d13 : decode yB 13 = .ok (.istore 6, 2) := by decide +kernel
theorem d15 : decode yB 15 = .ok (.iload 6, 2) := by decide +kernel
theorem d17 : decode yB 17 = .ok (.sipush 255, 3) := by decide +kernel
theorem d20 : decode yB 20 = .ok (.if_icmp (.le) 6, 3) := by decide +kernel
theorem d26 : decode yB 26 = .ok (.aload_n 2, 1) := by decide +kernel
theorem d27 : decode yB 27 = .ok (.iload_n 3, 1) := by decide +kernel
theorem d28 : decode yB 28 = .ok (.iload 6, 2) := by decide +kernel
theorem d30 : decode yB 30 = .ok (.i2b, 1) := by decide +kernel
theorem d31 : decode yB 31 = .ok (.bastore, 1) := by decide +kernel
theorem d32 : decode yB 32 = .ok (.iinc 1 1, 3) := by decide +kernel
theorem d35 : decode yB 35 = .ok (.iinc 3 1, 3) := by decide +kernel
theorem d38 : decode yB 38 = .ok (.iinc 5 1, 3) := by decide +kernel
theorem d41 : decode yB 41 = .ok (.goto (-38), 3) := by decide +kernel
theorem d44 : decode yB 44 = .ok (.iload 4, 2) := by decide +kernel
theorem d46 : decode yB 46 = .ok (.ireturn, 1) := by decide +kernel
def site : List Cond := []
def tab : Cond := tabOf yN yB 7 (some .int) site
def P (b : Addr) (A : Cell) (d : Addr) (B : Cell) (o q len : Nat) (args : Array Value) (s : State) : Prop := args = #[.ref b, .int (Int32.ofNat o), .ref d, .int (Int32.ofNat q), .int (Int32.ofNat len)] ∧ Ch b A s ∧ Arr .byte d B s ∧ b ≠ d ∧ o + len ≤ A.slots.size ∧ q + len ≤ B.slots.size ∧ ∀ i, i < len → ¬ 255 < cv A (o + i)
def E (b : Addr) (A : Cell) (d : Addr) (B : Cell) (o q len : Nat) (r : Option Value) (s u : State) : Prop := r = some (.int (Int32.ofNat len)) ∧ ∃ B', Put d B' s u ∧ Laid B B' q (q + len) (fun j => Value.int (lo8 (cv A (o + (j - q)))))
/-- no char of the range above 255: len; the places written hold each char's low byte -/
theorem law (l : Launch) (b : Addr) (A : Cell) (d : Addr) (B : Cell) (o q len : Nat) : Law l yN 5 5 0 0 yB 7 (some .int) site (P b A d B o q len) (E b A d B o q len) (copyLocs d q len) 0 0 := by
  refine Law.of_walk (plainFor_of_name (by decide +kernel)) (by decide +kernel) (by decide +kernel) (by decide) (fun _ _ h => by rw [h.1]; rfl) (fun _ U U' hal hh h => ⟨h.1, h.2.1.mv hal hh, h.2.2.1.mv hal hh, h.2.2.2⟩) (fun r U U' V V' h1 hal h2 h => ⟨h.1, h.2.elim fun B' q => ⟨B', q.1.mv h1 h2, q.2⟩⟩) ?_
  intro p e s m args below meth c s₁ X0 hexec hbytes hml hret hlk hnm hown hh0 W hP
  obtain ⟨rfl, hA, hB, hne, l1, l2, hp⟩ := hP
  have c1 : Steps p.tables e below (s₁.setTop (entryFrame m #[.ref b, .int (Int32.ofNat o), .ref d, .int (Int32.ofNat q), .int (Int32.ofNat len)] 7)) (s₁.setTop (mkF m 0 #[.val (.ref b), .val (.int (Int32.ofNat o)), .val (.ref d), .val (.int (Int32.ofNat q)), .val (.int (Int32.ofNat len)), .unset, .unset] [])) := entry rfl
  have hA0 := hA.1.mv X0.warmed.alike hh0
  have hB0 := hB.mv X0.warmed.alike hh0
  have a31 := hA.1.2.2.2
  have c2 : Steps p.tables e below (s₁.setTop (entryFrame m #[.ref b, .int (Int32.ofNat o), .ref d, .int (Int32.ofNat q), .int (Int32.ofNat len)] 7)) (s₁.setTop (mkF m 3 #[.val (.ref b), .val (.int (Int32.ofNat o)), .val (.ref d), .val (.int (Int32.ofNat q)), .val (.int (Int32.ofNat len)), .val (.int 0), .unset] [])) := c1.trans (by
    refine iconstV X0.here hexec rfl 0 (hb hbytes d0) (by decide) ?_
    refine XS.istore X0.here hexec rfl (hb hbytes d1) rfl rfl ?_
    exact Steps.refl _)
  have loop : ∀ (r i : Nat), i + r = len → ∀ (z : Slot), (z = .unset ∨ ∃ w, z = .val w ∧ w.category = 1) → ∀ (Tl : State) (Bk : Cell), Stand p l e { frames := 0, locals := 0, cells := 0, slots := 0 } s m #[.ref b, .int (Int32.ofNat o), .ref d, .int (Int32.ofNat q), .int (Int32.ofNat len)] below meth c Tl ([] ++ copyLocs d q i) 0 0 → Put d Bk s₁ Tl → Laid B Bk q (q + i) (fun j => Value.int (lo8 (cv A (o + (j - q))))) →
      Steps p.tables e below (s₁.setTop (entryFrame m #[.ref b, .int (Int32.ofNat o), .ref d, .int (Int32.ofNat q), .int (Int32.ofNat len)] 7)) (Tl.setTop (mkF m 3 #[.val (.ref b), .val (.int (Int32.ofNat (o + i))), .val (.ref d), .val (.int (Int32.ofNat (q + i))), .val (.int (Int32.ofNat len)), .val (.int (Int32.ofNat i)), z] [])) → ∃ (T' : State) (B' : Cell) (z' : Slot), Stand p l e { frames := 0, locals := 0, cells := 0, slots := 0 } s m #[.ref b, .int (Int32.ofNat o), .ref d, .int (Int32.ofNat q), .int (Int32.ofNat len)] below meth c T' ([] ++ copyLocs d q len) 0 0 ∧ Put d B' s₁ T' ∧ Laid B B' q (q + len) (fun j => Value.int (lo8 (cv A (o + (j - q))))) ∧
      Steps p.tables e below (s₁.setTop (entryFrame m #[.ref b, .int (Int32.ofNat o), .ref d, .int (Int32.ofNat q), .int (Int32.ofNat len)] 7)) (T'.setTop (mkF m 3 #[.val (.ref b), .val (.int (Int32.ofNat (o + len))), .val (.ref d), .val (.int (Int32.ofNat (q + len))), .val (.int (Int32.ofNat len)), .val (.int (Int32.ofNat len)), z'] [])) := by
    intro r
    induction r with
    | zero =>
      intro i hi z hz Tl Bk Xl pl fl cl
      have hil : i = len := by omega
      rw [hil] at Xl fl cl
      exact ⟨Tl, Bk, z, Xl, pl, fl, cl⟩
    | succ r ih =>
      intro i hi z hz Tl Bk Xl pl fl cl
      have all := X0.warmed.alike.symm.trans Xl.warmed.alike
      have hAl := hA0.keep all (pl.other hne hA0.1)
      have hBk := hB0.like all pl.1 fl.1 fl.2.1 fl.2.2.1
      have hlt : q + i < Bk.slots.size := by rw [fl.2.2.1]; omega
      have c3 : Steps p.tables e below (s₁.setTop (entryFrame m #[.ref b, .int (Int32.ofNat o), .ref d, .int (Int32.ofNat q), .int (Int32.ofNat len)] 7)) (Tl.setTop (mkF m 12 #[.val (.ref b), .val (.int (Int32.ofNat (o + i))), .val (.ref d), .val (.int (Int32.ofNat (q + i))), .val (.int (Int32.ofNat len)), .val (.int (Int32.ofNat i)), z] [.int (Int32.ofNat (o + i)), .ref b])) := cl.trans (by
        refine XS.iload Xl.here hexec rfl (hb hbytes d3) rfl ?_
        refine XS.iload Xl.here hexec rfl (hb hbytes d5) rfl ?_
        refine XS.icmpNo Xl.here hexec rfl (hb hbytes d7) rfl (ii_ge_f (lt32 (by omega) (by omega))) ?_
        refine XS.aloadN Xl.here hexec rfl (hb hbytes d10) rfl rfl ?_
        refine XS.iloadN Xl.here hexec rfl (hb hbytes d11) rfl ?_
        exact Steps.refl _)
      have c4 : Steps p.tables e below (s₁.setTop (entryFrame m #[.ref b, .int (Int32.ofNat o), .ref d, .int (Int32.ofNat q), .int (Int32.ofNat len)] 7)) (Tl.setTop (mkF m 13 #[.val (.ref b), .val (.int (Int32.ofNat (o + i))), .val (.ref d), .val (.int (Int32.ofNat (q + i))), .val (.int (Int32.ofNat len)), .val (.int (Int32.ofNat i)), z] [.int (cv A (o + i))])) := c3.trans (by
        refine Xl.aget hexec hAl rfl (hA.get (i := o + i) (by omega)) rfl rfl (hb hbytes d12) ?_
        exact Steps.refl _)
      have c5 : Steps p.tables e below (s₁.setTop (entryFrame m #[.ref b, .int (Int32.ofNat o), .ref d, .int (Int32.ofNat q), .int (Int32.ofNat len)] 7)) (Tl.setTop (mkF m 15 #[.val (.ref b), .val (.int (Int32.ofNat (o + i))), .val (.ref d), .val (.int (Int32.ofNat (q + i))), .val (.int (Int32.ofNat len)), .val (.int (Int32.ofNat i)), .val (.int (cv A (o + i)))] [])) := c4.trans (by
        refine XS.istoreS Xl.here hexec rfl (hb hbytes d13) rfl rfl hz ?_
        exact Steps.refl _)
      have c6 : Steps p.tables e below (s₁.setTop (entryFrame m #[.ref b, .int (Int32.ofNat o), .ref d, .int (Int32.ofNat q), .int (Int32.ofNat len)] 7)) (Tl.setTop (mkF m 31 #[.val (.ref b), .val (.int (Int32.ofNat (o + i))), .val (.ref d), .val (.int (Int32.ofNat (q + i))), .val (.int (Int32.ofNat len)), .val (.int (Int32.ofNat i)), .val (.int (cv A (o + i)))] [.int (lo8 (cv A (o + i))), .int (Int32.ofNat (q + i)), .ref d])) := c5.trans (by
        refine XS.iload Xl.here hexec rfl (hb hbytes d15) rfl ?_
        refine sipushV Xl.here hexec rfl 255 (hb hbytes d17) (by decide) ?_
        refine XS.icmpYes Xl.here hexec rfl (pc0 := 20) rfl (hb hbytes d20) rfl (ii_le_t (hp i (by omega))) (by decide) rfl ?_
        refine XS.aloadN Xl.here hexec rfl (hb hbytes d26) rfl rfl ?_
        refine XS.iloadN Xl.here hexec rfl (hb hbytes d27) rfl ?_
        refine XS.iload Xl.here hexec rfl (hb hbytes d28) rfl ?_
        refine i2b Xl.here hexec rfl (hb hbytes d30) rfl ?_
        exact Steps.refl _)
      obtain ⟨T7, X7, p7, st7⟩ := Xl.aput hexec hBk rfl hlt rfl (fits_lo8 (cv A (o + i))) (g := (mkF m 31 #[.val (.ref b), .val (.int (Int32.ofNat (o + i))), .val (.ref d), .val (.int (Int32.ofNat (q + i))), .val (.int (Int32.ofNat len)), .val (.int (Int32.ofNat i)), .val (.int (cv A (o + i)))] [.int (lo8 (cv A (o + i))), .int (Int32.ofNat (q + i)), .ref d])) rfl (rest := []) rfl (hb hbytes d31)
      have c8 : Steps p.tables e below (s₁.setTop (entryFrame m #[.ref b, .int (Int32.ofNat o), .ref d, .int (Int32.ofNat q), .int (Int32.ofNat len)] 7)) (T7.setTop (mkF m 32 #[.val (.ref b), .val (.int (Int32.ofNat (o + i))), .val (.ref d), .val (.int (Int32.ofNat (q + i))), .val (.int (Int32.ofNat len)), .val (.int (Int32.ofNat i)), .val (.int (cv A (o + i)))] [])) := c6.trans (st7 _ (Steps.refl _))
      have c9 : Steps p.tables e below (s₁.setTop (entryFrame m #[.ref b, .int (Int32.ofNat o), .ref d, .int (Int32.ofNat q), .int (Int32.ofNat len)] 7)) (T7.setTop (mkF m 3 #[.val (.ref b), .val (.int (Int32.ofNat (o + i) + 1)), .val (.ref d), .val (.int (Int32.ofNat (q + i) + 1)), .val (.int (Int32.ofNat len)), .val (.int (Int32.ofNat i + 1)), .val (.int (cv A (o + i)))] [])) := c8.trans (by
        refine iincV X7.here hexec rfl 1 (hb hbytes d32) (by decide) rfl rfl ?_
        refine iincV X7.here hexec rfl 1 (hb hbytes d35) (by decide) rfl rfl ?_
        refine iincV X7.here hexec rfl 1 (hb hbytes d38) (by decide) rfl rfl ?_
        refine XS.goto X7.here hexec rfl (pc0 := 41) rfl (hb hbytes d41) (by decide) rfl ?_
        exact Steps.refl _)
      have c10 : Steps p.tables e below (s₁.setTop (entryFrame m #[.ref b, .int (Int32.ofNat o), .ref d, .int (Int32.ofNat q), .int (Int32.ofNat len)] 7)) (T7.setTop (mkF m 3 #[.val (.ref b), .val (.int (Int32.ofNat (o + (i + 1)))), .val (.ref d), .val (.int (Int32.ofNat (q + (i + 1)))), .val (.int (Int32.ofNat len)), .val (.int (Int32.ofNat (i + 1))), .val (.int (cv A (o + i)))] [])) := by
        have := c9
        rw [succ32, succ32, succ32] at this
        exact this
      exact ih (i + 1) (by omega) _ (Or.inr ⟨_, rfl, rfl⟩) T7 _ (by rw [copyLocs_step, ← List.append_assoc]; exact X7) (pl.trans p7) (fl.step (by omega) hlt (by simp)) c10
  obtain ⟨T9, B9, z9, X9, p9, f9, g9⟩ := loop len 0 (by omega) .unset (Or.inl rfl) s₁ B (by simpa [copyLocs] using X0) ⟨hB0.1, fun _ _ => rfl, rfl⟩ (Laid.zero _ _ _) c2
  have c11 : Steps p.tables e below (s₁.setTop (entryFrame m #[.ref b, .int (Int32.ofNat o), .ref d, .int (Int32.ofNat q), .int (Int32.ofNat len)] 7)) (T9.setTop (mkF m 46 #[.val (.ref b), .val (.int (Int32.ofNat (o + len))), .val (.ref d), .val (.int (Int32.ofNat (q + len))), .val (.int (Int32.ofNat len)), .val (.int (Int32.ofNat len)), z9] [.int (Int32.ofNat len)])) := g9.trans (by
    refine XS.iload X9.here hexec rfl (hb hbytes d3) rfl ?_
    refine XS.iload X9.here hexec rfl (hb hbytes d5) rfl ?_
    refine XS.icmpYes X9.here hexec rfl (pc0 := 7) rfl (hb hbytes d7) rfl (ii_ge_t (nlt32 (by omega) (Nat.le_refl _))) (by decide) rfl ?_
    refine XS.iload X9.here hexec rfl (hb hbytes d44) rfl ?_
    exact Steps.refl _)
  exact ⟨T9, some (.int (Int32.ofNat len)), _, _, _, X9, by simp, rfl, rfl, (fun h => by cases h), ⟨rfl, B9, p9.from hh0, f9⟩, fun fs hl => c11.trans (X9.ireturnOut hexec hret rfl (Or.inl rfl) (hb hbytes d46) hl)⟩
end Cmp5
namespace Cmp3
def yN : MethodName := ⟨"java/lang/StringUTF16", "compress", "([CII)[B"⟩
abbrev yB : ByteArray := jdk_52_method_16_code
theorem d0 : decode yB 0 = .ok (.iload_n 2, 1) := by decide +kernel
theorem d1 : decode yB 1 = .ok (.newarray .byte, 2) := by decide +kernel
theorem d3 : decode yB 3 = .ok (.astore_n 3, 1) := by decide +kernel
theorem d4 : decode yB 4 = .ok (.aload_n 0, 1) := by decide +kernel
theorem d5 : decode yB 5 = .ok (.iload_n 1, 1) := by decide +kernel
theorem d6 : decode yB 6 = .ok (.aload_n 3, 1) := by decide +kernel
theorem d7 : decode yB 7 = .ok (.iconst 0, 1) := by decide +kernel
theorem d8 : decode yB 8 = .ok (.iload_n 2, 1) := by decide +kernel
theorem d9 : decode yB 9 = .ok (.invokestatic 115, 3) := by decide +kernel
theorem d12 : decode yB 12 = .ok (.istore 4, 2) := by decide +kernel
theorem d14 : decode yB 14 = .ok (.iload 4, 2) := by decide +kernel
theorem d16 : decode yB 16 = .ok (.iload_n 2, 1) := by decide +kernel
theorem d17 : decode yB 17 = .ok (.if_icmp (.eq) 40, 3) := by decide +kernel
theorem d57 : decode yB 57 = .ok (.aload_n 3, 1) := by decide +kernel
theorem d58 : decode yB 58 = .ok (.areturn, 1) := by decide +kernel
def site : List Cond := [.arrayClass .byte, Cmp5.tab] ++ staticW U16 115 Cmp5.yN
def tab : Cond := tabOf yN yB 6 (some (.array .byte)) site
def P (b : Addr) (A : Cell) (o len : Nat) (args : Array Value) (s : State) : Prop := args = #[.ref b, .int (Int32.ofNat o), .int (Int32.ofNat len)] ∧ Ch b A s ∧ o + len ≤ A.slots.size ∧ len ≤ 536870912 ∧ ∀ i, i < len → ¬ 255 < cv A (o + i)
def E (b : Addr) (A : Cell) (o len : Nat) (r : Option Value) (s u : State) : Prop := NewArr .byte "[B" len (fun j => .int (lo8 (cv A (o + j)))) r s u ∧ u.heap.size = s.heap.size + 1
/-- no char of the range above 255: a new byte[] of their low bytes -/
theorem law (l : Launch) (b : Addr) (A : Cell) (o len : Nat) : Law l yN 3 3 1 18 yB 6 (some (.array .byte)) site (P b A o len) (E b A o len) [] 1 len := by
  refine Law.of_walk (plainFor_of_name (by decide +kernel)) (by decide +kernel) (by decide +kernel) (by decide) (fun _ _ h => by rw [h.1]; rfl) (fun _ U U' hal hh h => ⟨h.1, h.2.1.mv hal hh, h.2.2⟩) (fun r U U' V V' h1 hal h2 h => ⟨NewArr.mv r U U' V V' h1 hal h2 h.1, by rw [h1, h2]; exact h.2⟩) ?_
  intro p e s m args below meth c s₁ X0 hexec hbytes hml hret hlk hnm hown hh0 W hP
  obtain ⟨rfl, hA, l1, l2, hp⟩ := hP
  have a31 := hA.1.2.2.2
  have c1 : Steps p.tables e below (s₁.setTop (entryFrame m #[.ref b, .int (Int32.ofNat o), .int (Int32.ofNat len)] 6)) (s₁.setTop (mkF m 0 #[.val (.ref b), .val (.int (Int32.ofNat o)), .val (.int (Int32.ofNat len)), .unset, .unset, .unset] [])) := entry rfl
  have c2 : Steps p.tables e below (s₁.setTop (entryFrame m #[.ref b, .int (Int32.ofNat o), .int (Int32.ofNat len)] 6)) (s₁.setTop (mkF m 1 #[.val (.ref b), .val (.int (Int32.ofNat o)), .val (.int (Int32.ofNat len)), .unset, .unset, .unset] [.int (Int32.ofNat len)])) := c1.trans (by
    refine XS.iloadN X0.here hexec rfl (hb hbytes d0) rfl ?_
    exact Steps.refl _)
  obtain ⟨T3, B3, X3, ba3, bs3, bv3, bh3, bf3, st3⟩ := X0.anew hexec (atype := .byte) (wk W (.arrayClass .byte)) rfl (by show len * 1 ≤ _; omega) (by omega) (g := (mkF m 1 #[.val (.ref b), .val (.int (Int32.ofNat o)), .val (.int (Int32.ofNat len)), .unset, .unset, .unset] [.int (Int32.ofNat len)])) rfl (hb hbytes d1) (rest := []) rfl (Nat.le_refl _) (by show 0 + len ≤ len; omega)
  rw [hh0] at ba3 st3
  have kp3 : XT.Kept s T3 := (XT.Kept.of_eq hh0).push bh3
  have hA3 := hA.keep X3.warmed.alike (kp3 _ _ hA.1.1)
  have hne : b ≠ s.heap.size := hA.1.ne
  have c4 : Steps p.tables e below (s₁.setTop (entryFrame m #[.ref b, .int (Int32.ofNat o), .int (Int32.ofNat len)] 6)) (T3.setTop (mkF m 3 #[.val (.ref b), .val (.int (Int32.ofNat o)), .val (.int (Int32.ofNat len)), .unset, .unset, .unset] [.ref s.heap.size])) := c2.trans (st3 _ (Steps.refl _))
  have c5 : Steps p.tables e below (s₁.setTop (entryFrame m #[.ref b, .int (Int32.ofNat o), .int (Int32.ofNat len)] 6)) (T3.setTop (mkF m 9 #[.val (.ref b), .val (.int (Int32.ofNat o)), .val (.int (Int32.ofNat len)), .val (.ref s.heap.size), .unset, .unset] [.int (Int32.ofNat len), .int 0, .ref s.heap.size, .int (Int32.ofNat o), .ref b])) := c4.trans (by
    refine XS.astoreN X3.here hexec rfl (hb hbytes d3) rfl rfl rfl ?_
    refine XS.aloadN X3.here hexec rfl (hb hbytes d4) rfl rfl ?_
    refine XS.iloadN X3.here hexec rfl (hb hbytes d5) rfl ?_
    refine XS.aloadN X3.here hexec rfl (hb hbytes d6) rfl rfl ?_
    refine iconstV X3.here hexec rfl 0 (hb hbytes d7) (by decide) ?_
    refine XS.iloadN X3.here hexec rfl (hb hbytes d8) rfl ?_
    exact Steps.refl _)
  obtain ⟨v6, T6, X6, E6, g6⟩ := X3.callS hexec (Cmp5.law l b A s.heap.size B3 o 0 len) hown (wks W (staticW U16 115 Cmp5.yN)) (wk W Cmp5.tab) (W := 0) (Nat.le_of_ble_eq_true rfl) (Nat.le_of_ble_eq_true rfl) (Nat.le_refl _) (by show 0 + len + 0 ≤ len; omega) (g := (mkF m 9 #[.val (.ref b), .val (.int (Int32.ofNat o)), .val (.int (Int32.ofNat len)), .val (.ref s.heap.size), .unset, .unset] [.int (Int32.ofNat len), .int (Int32.ofNat 0), .ref s.heap.size, .int (Int32.ofNat o), .ref b])) rfl (by rw [hml]; rfl) c5 (argsL := [.ref b, .int (Int32.ofNat o), .ref s.heap.size, .int (Int32.ofNat 0), .int (Int32.ofNat len)]) (rest := []) rfl rfl (by show 2 * 0 + 0 ≤ _; decide) (hb hbytes d9) (⟨rfl, hA3, ba3, hne, l1, by rw [bs3]; simp, hp⟩)
  obtain ⟨rfl, B6, p6, f6⟩ := E6
  have c7 : Steps p.tables e below (s₁.setTop (entryFrame m #[.ref b, .int (Int32.ofNat o), .int (Int32.ofNat len)] 6)) (T6.setTop (mkF m 12 #[.val (.ref b), .val (.int (Int32.ofNat o)), .val (.int (Int32.ofNat len)), .val (.ref s.heap.size), .unset, .unset] [.int (Int32.ofNat len)])) := g6
  have c8 : Steps p.tables e below (s₁.setTop (entryFrame m #[.ref b, .int (Int32.ofNat o), .int (Int32.ofNat len)] 6)) (T6.setTop (mkF m 58 #[.val (.ref b), .val (.int (Int32.ofNat o)), .val (.int (Int32.ofNat len)), .val (.ref s.heap.size), .val (.int (Int32.ofNat len)), .unset] [.ref s.heap.size])) := c7.trans (by
    refine XS.istore X6.here hexec rfl (hb hbytes d12) rfl rfl ?_
    refine XS.iload X6.here hexec rfl (hb hbytes d14) rfl ?_
    refine XS.iloadN X6.here hexec rfl (hb hbytes d16) rfl ?_
    refine XS.icmpYes X6.here hexec rfl (pc0 := 17) rfl (hb hbytes d17) rfl (ii_eq_t rfl) (by decide) rfl ?_
    refine XS.aloadN X6.here hexec rfl (hb hbytes d57) rfl rfl ?_
    exact Steps.refl _)
  have X8 := X6.wide (L' := []) (cells' := 1) (slots' := len) (fun x hx hlt => by
    simp only [List.nil_append, copyLocs, List.mem_map, List.mem_range] at hx
    obtain ⟨i, -, rfl⟩ := hx
    exact absurd hlt (Nat.lt_irrefl _)) (Nat.le_refl _) (by omega)
  exact ⟨T6, some (.ref s.heap.size), _, _, _, X8, rfl, rfl, rfl, (fun h => by cases h), ⟨⟨rfl, B6, ba3.like (X3.warmed.alike.symm.trans X6.warmed.alike) p6.1 f6.1 f6.2.1 f6.2.2.1, f6.2.1.trans bv3, by rw [X6.warmed.alike.findClass, f6.1]; exact bf3, by rw [f6.2.2.1, bs3]; simp, fun j hj => by rw [f6.2.2.2 j, if_pos (by omega)]; rfl, kp3.put p6 (Nat.le_refl _)⟩, by rw [p6.2.2, bh3, hh0]; simp⟩, fun fs hl => c8.trans (X8.areturnOut hexec rfl hret rfl (hb hbytes d58) hl)⟩
end Cmp3
namespace CodL
def yN : MethodName := ⟨"java/lang/StringUTF16", "coderFromArrayLen", "([BI)B"⟩
abbrev yB : ByteArray := jdk_52_method_15_code
theorem d0 : decode yB 0 = .ok (.iload_n 1, 1) := by decide +kernel
theorem d1 : decode yB 1 = .ok (.aload_n 0, 1) := by decide +kernel
theorem d2 : decode yB 2 = .ok (.arraylength, 1) := by decide +kernel
theorem d3 : decode yB 3 = .ok (.isub, 1) := by decide +kernel
theorem d4 : decode yB 4 = .ok (.bipush 31, 2) := by decide +kernel
theorem d6 : decode yB 6 = .ok (.iushr, 1) := by decide +kernel
theorem d7 : decode yB 7 = .ok (.i2b, 1) := by decide +kernel
theorem d8 : decode yB 8 = .ok (.ireturn, 1) := by decide +kernel
def site : List Cond := []
def tab : Cond := tabOf yN yB 2 (some .byte) site
def P (d : Addr) (B : Cell) (args : Array Value) (s : State) : Prop := args = #[.ref d, .int (Int32.ofNat B.slots.size)] ∧ Arr .byte d B s
def E (r : Option Value) (s u : State) : Prop := XT.PureE (some (.int 0)) r s u
/-- an array as long as the number of chars: LATIN1 -/
theorem law (l : Launch) (d : Addr) (B : Cell) : Law l yN 2 2 0 0 yB 2 (some .byte) site (P d B) E [] 0 0 := by
  refine Law.of_walk (plainFor_of_name (by decide +kernel)) (by decide +kernel) (by decide +kernel) (by decide) (fun _ _ h => by rw [h.1]; rfl) (fun _ U U' hal hh h => ⟨h.1, h.2.mv hal hh⟩) (fun r U U' V V' h1 hal h2 h => XT.PureE.mv r U U' V V' h1 hal h2 h) ?_
  intro p e s m args below meth c s₁ X0 hexec hbytes hml hret hlk hnm hown hh0 W hP
  obtain ⟨rfl, hB⟩ := hP
  have hB0 := hB.mv X0.warmed.alike hh0
  have c1 : Steps p.tables e below (s₁.setTop (entryFrame m #[.ref d, .int (Int32.ofNat B.slots.size)] 2)) (s₁.setTop (mkF m 0 #[.val (.ref d), .val (.int (Int32.ofNat B.slots.size))] [])) := entry rfl
  have c2 : Steps p.tables e below (s₁.setTop (entryFrame m #[.ref d, .int (Int32.ofNat B.slots.size)] 2)) (s₁.setTop (mkF m 2 #[.val (.ref d), .val (.int (Int32.ofNat B.slots.size))] [.ref d, .int (Int32.ofNat B.slots.size)])) := c1.trans (by
    refine XS.iloadN X0.here hexec rfl (hb hbytes d0) rfl ?_
    refine XS.aloadN X0.here hexec rfl (hb hbytes d1) rfl rfl ?_
    exact Steps.refl _)
  have c3 : Steps p.tables e below (s₁.setTop (entryFrame m #[.ref d, .int (Int32.ofNat B.slots.size)] 2)) (s₁.setTop (mkF m 8 #[.val (.ref d), .val (.int (Int32.ofNat B.slots.size))] [.int (lo8 (ushr (Int32.ofNat B.slots.size - Int32.ofNat B.slots.size) 31))])) := c2.trans (by
    refine X0.alen hexec hB0 rfl rfl (hb hbytes d2) ?_
    refine XS.isub X0.here hexec rfl (hb hbytes d3) rfl ?_
    refine bipushV X0.here hexec rfl 31 (hb hbytes d4) (by decide) ?_
    refine iushr X0.here hexec rfl (hb hbytes d6) rfl ?_
    refine i2b X0.here hexec rfl (hb hbytes d7) rfl ?_
    exact Steps.refl _)
  have e0 : lo8 (ushr (Int32.ofNat B.slots.size - Int32.ofNat B.slots.size) 31) = 0 := by rw [Int32.sub_self]; decide
  rw [e0] at c3
  exact ⟨s₁, some (.int 0), _, _, _, X0, rfl, rfl, rfl, (fun h => by cases h), ⟨rfl, hh0⟩, fun fs hl => c3.trans (X0.ireturnOut hexec hret rfl (Or.inr (Or.inr (Or.inl rfl))) (hb hbytes d8) hl)⟩
end CodL
/-- the String at a is Latin-1 over a new byte[] (the heap's one new cell): the low bytes of the len chars of A from o on; every cell but a is kept -/
def Got (a : Addr) (D : Cell) (fV fC : Field) (A : Cell) (o len : Nat) (r : Option Value) (s u : State) : Prop := r = none ∧ ∃ D' V : Cell, Blank "java/lang/String" a D' u ∧ Same D D' [fV.slot, fC.slot] ∧ D'.slots[fV.slot]? = some (.ref s.heap.size) ∧ D'.slots[fC.slot]? = some (.int 0) ∧ Arr .byte s.heap.size V u ∧ V.vm = .none ∧ u.vm.findClass "[B" = some V.cls ∧ V.slots.size = len ∧ (∀ j, j < len → V.slots[j]? = some (.int (lo8 (cv A (o + j))))) ∧ (∀ (y : Addr) (c : Cell), y ≠ a → s.heap[y]? = some c → u.heap[y]? = some c) ∧ u.heap.size = s.heap.size + 1
theorem Got.mv {a : Addr} {D A : Cell} {fV fC : Field} {o len : Nat} : ∀ r (U U' V V' : State), U'.heap = U.heap → V.vm.Alike V'.vm → V'.heap = V.heap → Got a D fV fC A o len r U V → Got a D fV fC A o len r U' V' :=
  fun r U U' V V' h1 hal h2 ⟨e0, D', X, a1, a2, a3, a4, a5, a6, a7, a8, a9, a10, a11⟩ => ⟨e0, D', X, a1.mv hal h2, a2, by rw [h1]; exact a3, a4, by rw [h1]; exact a5.mv hal h2, a6, by rw [hal.findClass]; exact a7, a8, a9, by rw [h1, h2]; exact a10, by rw [h1, h2]; exact a11⟩
namespace New4
def yN : MethodName := ⟨"java/lang/String", "<init>", "([CIILjava/lang/Void;)V"⟩
abbrev yB : ByteArray := jdk_42_method_149_code
theorem d0 : decode yB 0 = .ok (.aload_n 0, 1) := by decide +kernel
theorem d1 : decode yB 1 = .ok (.invokespecial 1, 3) := by decide +kernel
theorem d4 : decode yB 4 = .ok (.iload_n 3, 1) := by decide +kernel
theorem d5 : decode yB 5 = .ok (.ifCond (.ne) 22, 3) := by decide +kernel
theorem d27 : decode yB 27 = .ok (.getstatic 38, 3) := by decide +kernel
theorem d30 : decode yB 30 = .ok (.ifCond (.eq) 28, 3) := by decide +kernel
theorem d33 : decode yB 33 = .ok (.aload_n 1, 1) := by decide +kernel
theorem d34 : decode yB 34 = .ok (.iload_n 2, 1) := by decide +kernel
theorem d35 : decode yB 35 = .ok (.iload_n 3, 1) := by decide +kernel
theorem d36 : decode yB 36 = .ok (.invokestatic 177, 3) := by decide +kernel
theorem d39 : decode yB 39 = .ok (.astore 5, 2) := by decide +kernel
theorem d41 : decode yB 41 = .ok (.aload_n 0, 1) := by decide +kernel
theorem d42 : decode yB 42 = .ok (.aload 5, 2) := by decide +kernel
theorem d44 : decode yB 44 = .ok (.iload_n 3, 1) := by decide +kernel
theorem d45 : decode yB 45 = .ok (.invokestatic 47, 3) := by decide +kernel
theorem d48 : decode yB 48 = .ok (.putfield 15, 3) := by decide +kernel
theorem d51 : decode yB 51 = .ok (.aload_n 0, 1) := by decide +kernel
theorem d52 : decode yB 52 = .ok (.aload 5, 2) := by decide +kernel
theorem d54 : decode yB 54 = .ok (.putfield 9, 3) := by decide +kernel
theorem d57 : decode yB 57 = .ok (.return_, 1) := by decide +kernel
def site : List Cond := [.fieldLink "java/lang/String" 38 "java/lang/String" "COMPACT_STRINGS" "Z", Cmp3.tab, CodL.tab, .laysFinal "java/lang/String" "java/lang/String" "value" "[B", .fieldLink "java/lang/String" 9 "java/lang/String" "value" "[B", .laysFinal "java/lang/String" "java/lang/String" "coder" "B", .fieldLink "java/lang/String" 15 "java/lang/String" "coder" "B"] ++ objW "java/lang/String" 1 ++ staticW "java/lang/String" 177 Cmp3.yN ++ staticW "java/lang/String" 47 CodL.yN
def tab : Cond := tabOf yN yB 6 none site
def P (a : Addr) (D : Cell) (fV fC : Field) (b : Addr) (A : Cell) (z : Int32) (o len : Nat) (args : Array Value) (s : State) : Prop := args = #[.ref a, .ref b, .int (Int32.ofNat o), .int (Int32.ofNat len), .null] ∧ Blank "java/lang/String" a D s ∧ Found "java/lang/String" "value" "[B" fV s ∧ Found "java/lang/String" "coder" "B" fC s ∧ Ch b A s ∧ StaticIs s "java/lang/String" "COMPACT_STRINGS" "Z" (.int z) ∧ ¬ z = 0 ∧ 0 < len ∧ o + len ≤ A.slots.size ∧ len ≤ 536870912 ∧ ∀ i, i < len → ¬ 255 < cv A (o + i)
def E (a : Addr) (D : Cell) (fV fC : Field) (A : Cell) (o len : Nat) (r : Option Value) (s u : State) : Prop := Got a D fV fC A o len r s u
/-- len > 0, no char of the range above 255: a Latin-1 String of their low bytes -/
theorem law (l : Launch) (a : Addr) (D : Cell) (fV fC : Field) (b : Addr) (A : Cell) (z : Int32) (o len : Nat) : Law l yN 5 4 2 35 yB 6 none site (P a D fV fC b A z o len) (E a D fV fC A o len) [⟨a, fC.slot⟩, ⟨a, fV.slot⟩] 1 len := by
  refine Law.of_walk (plainFor_of_name (by decide +kernel)) (by decide +kernel) (by decide +kernel) (by decide) (fun _ _ h => by rw [h.1]; rfl) (fun _ U U' hal hh h => ⟨h.1, h.2.1.mv hal hh, h.2.2.1.al hal, h.2.2.2.1.al hal, h.2.2.2.2.1.mv hal hh, h.2.2.2.2.2.1.there hal hh, h.2.2.2.2.2.2⟩) (fun r U U' V V' h1 hal h2 h => Got.mv r U U' V V' h1 hal h2 h) ?_
  intro p e s m args below meth c s₁ X0 hexec hbytes hml hret hlk hnm hown hh0 W hP
  obtain ⟨rfl, hB, f1, f2, hA, s1, hz, l0, l1, l2, hp⟩ := hP
  have a31 := hA.1.2.2.2
  have c1 : Steps p.tables e below (s₁.setTop (entryFrame m #[.ref a, .ref b, .int (Int32.ofNat o), .int (Int32.ofNat len), .null] 6)) (s₁.setTop (mkF m 0 #[.val (.ref a), .val (.ref b), .val (.int (Int32.ofNat o)), .val (.int (Int32.ofNat len)), .val .null, .unset] [])) := entry rfl
  have c2 : Steps p.tables e below (s₁.setTop (entryFrame m #[.ref a, .ref b, .int (Int32.ofNat o), .int (Int32.ofNat len), .null] 6)) (s₁.setTop (mkF m 1 #[.val (.ref a), .val (.ref b), .val (.int (Int32.ofNat o)), .val (.int (Int32.ofNat len)), .val .null, .unset] [.ref a])) := c1.trans (by
    refine XS.aloadN X0.here hexec rfl (hb hbytes d0) rfl rfl ?_
    exact Steps.refl _)
  obtain ⟨T3, X3, q3, st3⟩ := X0.oinit hexec hown (wks W (objW "java/lang/String" 1)) (g := (mkF m 1 #[.val (.ref a), .val (.ref b), .val (.int (Int32.ofNat o)), .val (.int (Int32.ofNat len)), .val .null, .unset] [.ref a])) rfl (by rw [hml]; rfl) (rest := []) rfl (hb hbytes d1) (W := 0) (by show 2 * 0 + 0 ≤ _; decide) (Nat.le_of_ble_eq_true rfl) (Nat.le_of_ble_eq_true rfl)
  have hh3 := q3.trans hh0
  have c4 : Steps p.tables e below (s₁.setTop (entryFrame m #[.ref a, .ref b, .int (Int32.ofNat o), .int (Int32.ofNat len), .null] 6)) (T3.setTop (mkF m 27 #[.val (.ref a), .val (.ref b), .val (.int (Int32.ofNat o)), .val (.int (Int32.ofNat len)), .val .null, .unset] [])) := (c2.trans (st3 _ (Steps.refl _))).trans (by
    refine XS.iloadN X3.here hexec rfl (hb hbytes d4) rfl ?_
    refine XS.ifYes X3.here hexec rfl (pc0 := 5) rfl (hb hbytes d5) rfl (i0_ne_t (nz32 (by omega) l0)) (by decide) rfl ?_
    exact Steps.refl _)
  obtain ⟨T5, X5, q5, st5⟩ := X3.sget hexec hown (wk W (.fieldLink "java/lang/String" 38 "java/lang/String" "COMPACT_STRINGS" "Z")) s1 (fun _ _ h => by rw [hh3]; exact h) (g := (mkF m 27 #[.val (.ref a), .val (.ref b), .val (.int (Int32.ofNat o)), .val (.int (Int32.ofNat len)), .val .null, .unset] [])) rfl (hb hbytes d27)
  have hh5 := q5.trans hh3
  have c6 : Steps p.tables e below (s₁.setTop (entryFrame m #[.ref a, .ref b, .int (Int32.ofNat o), .int (Int32.ofNat len), .null] 6)) (T5.setTop (mkF m 30 #[.val (.ref a), .val (.ref b), .val (.int (Int32.ofNat o)), .val (.int (Int32.ofNat len)), .val .null, .unset] [.int z])) := c4.trans (st5 _ (Steps.refl _))
  have c7 : Steps p.tables e below (s₁.setTop (entryFrame m #[.ref a, .ref b, .int (Int32.ofNat o), .int (Int32.ofNat len), .null] 6)) (T5.setTop (mkF m 36 #[.val (.ref a), .val (.ref b), .val (.int (Int32.ofNat o)), .val (.int (Int32.ofNat len)), .val .null, .unset] [.int (Int32.ofNat len), .int (Int32.ofNat o), .ref b])) := c6.trans (by
    refine XS.ifNo X5.here hexec rfl (hb hbytes d30) rfl (i0_eq_f hz) ?_
    refine XS.aloadN X5.here hexec rfl (hb hbytes d33) rfl rfl ?_
    refine XS.iloadN X5.here hexec rfl (hb hbytes d34) rfl ?_
    refine XS.iloadN X5.here hexec rfl (hb hbytes d35) rfl ?_
    exact Steps.refl _)
  obtain ⟨v8, T8, X8, E8, g8⟩ := X5.callS hexec (Cmp3.law l b A o len) hown (wks W (staticW "java/lang/String" 177 Cmp3.yN)) (wk W Cmp3.tab) (W := 0) (Nat.le_of_ble_eq_true rfl) (Nat.le_of_ble_eq_true rfl) (Nat.le_refl _) (by show 0 + len ≤ len; omega) (g := (mkF m 36 #[.val (.ref a), .val (.ref b), .val (.int (Int32.ofNat o)), .val (.int (Int32.ofNat len)), .val .null, .unset] [.int (Int32.ofNat len), .int (Int32.ofNat o), .ref b])) rfl (by rw [hml]; rfl) c7 (argsL := [.ref b, .int (Int32.ofNat o), .int (Int32.ofNat len)]) (rest := []) rfl rfl (by show 2 * 0 + 0 ≤ _; decide) (hb hbytes d36) (⟨rfl, hA.mv X5.warmed.alike hh5, l1, l2, hp⟩)
  obtain ⟨e8, z8⟩ := E8
  obtain ⟨rfl, N, n1, n2, n3, n4, n5, n6⟩ := NewArr.mv _ T5 s _ _ hh5.symm (Vm.Alike.refl _) rfl e8
  rw [hh5] at z8
  have hB1 := hB.keep X8.warmed.alike (n6 _ _ hB.1)
  have hne : s.heap.size ≠ a := (Nat.ne_of_lt (Array.getElem?_eq_some_iff.mp hB.1).1).symm
  have c9 : Steps p.tables e below (s₁.setTop (entryFrame m #[.ref a, .ref b, .int (Int32.ofNat o), .int (Int32.ofNat len), .null] 6)) (T8.setTop (mkF m 39 #[.val (.ref a), .val (.ref b), .val (.int (Int32.ofNat o)), .val (.int (Int32.ofNat len)), .val .null, .unset] [.ref s.heap.size])) := g8
  have c10 : Steps p.tables e below (s₁.setTop (entryFrame m #[.ref a, .ref b, .int (Int32.ofNat o), .int (Int32.ofNat len), .null] 6)) (T8.setTop (mkF m 45 #[.val (.ref a), .val (.ref b), .val (.int (Int32.ofNat o)), .val (.int (Int32.ofNat len)), .val .null, .val (.ref s.heap.size)] [.int (Int32.ofNat N.slots.size), .ref s.heap.size, .ref a])) := by
    have hc : Steps p.tables e below (s₁.setTop (entryFrame m #[.ref a, .ref b, .int (Int32.ofNat o), .int (Int32.ofNat len), .null] 6)) (T8.setTop (mkF m 45 #[.val (.ref a), .val (.ref b), .val (.int (Int32.ofNat o)), .val (.int (Int32.ofNat len)), .val .null, .val (.ref s.heap.size)] [.int (Int32.ofNat len), .ref s.heap.size, .ref a])) := c9.trans (by
      refine XS.astore X8.here hexec rfl (hb hbytes d39) rfl rfl rfl ?_
      refine XS.aloadN X8.here hexec rfl (hb hbytes d41) rfl rfl ?_
      refine XS.aload X8.here hexec rfl (hb hbytes d42) rfl rfl ?_
      refine XS.iloadN X8.here hexec rfl (hb hbytes d44) rfl ?_
      exact Steps.refl _)
    rw [n4]; exact hc
  obtain ⟨v11, T11, X11, E11, g11⟩ := X8.callS hexec (CodL.law l s.heap.size N) hown (wks W (staticW "java/lang/String" 47 CodL.yN)) (wk W CodL.tab) (W := 1) (Nat.le_of_ble_eq_true rfl) (Nat.le_of_ble_eq_true rfl) (Nat.le_refl _) (by show 0 + len + 0 ≤ len; omega) (g := (mkF m 45 #[.val (.ref a), .val (.ref b), .val (.int (Int32.ofNat o)), .val (.int (Int32.ofNat len)), .val .null, .val (.ref s.heap.size)] [.int (Int32.ofNat N.slots.size), .ref s.heap.size, .ref a])) rfl (by rw [hml]; rfl) c10 (argsL := [.ref s.heap.size, .int (Int32.ofNat N.slots.size)]) (rest := [.ref a]) rfl rfl (by show 2 * 0 + (1 + 0) ≤ _; decide) (hb hbytes d45) (⟨rfl, n1⟩)
  obtain ⟨rfl, q11⟩ := E11
  have hB11 := hB1.mv (X8.warmed.alike.symm.trans X11.warmed.alike) q11
  have c12 : Steps p.tables e below (s₁.setTop (entryFrame m #[.ref a, .ref b, .int (Int32.ofNat o), .int (Int32.ofNat len), .null] 6)) (T11.setTop (mkF m 48 #[.val (.ref a), .val (.ref b), .val (.int (Int32.ofNat o)), .val (.int (Int32.ofNat len)), .val .null, .val (.ref s.heap.size)] [.int 0, .ref a])) := g11
  obtain ⟨T13, X13, p13, bl13, sl13, st13⟩ := X11.finit hexec hown (wk W (.fieldLink "java/lang/String" 15 "java/lang/String" "coder" "B")) (Or.inr ⟨_, (wk W (.laysFinal "java/lang/String" "java/lang/String" "coder" "B"))⟩) (Or.inl ⟨rfl, hnm⟩) f2 (Or.inl rfl) hB11 (t := .byte) (by decide +kernel) rfl (g := (mkF m 48 #[.val (.ref a), .val (.ref b), .val (.int (Int32.ofNat o)), .val (.int (Int32.ofNat len)), .val .null, .val (.ref s.heap.size)] [.int 0, .ref a])) rfl (rest := []) rfl (hb hbytes d48)
  have c14 : Steps p.tables e below (s₁.setTop (entryFrame m #[.ref a, .ref b, .int (Int32.ofNat o), .int (Int32.ofNat len), .null] 6)) (T13.setTop (mkF m 54 #[.val (.ref a), .val (.ref b), .val (.int (Int32.ofNat o)), .val (.int (Int32.ofNat len)), .val .null, .val (.ref s.heap.size)] [.ref s.heap.size, .ref a])) := (c12.trans (st13 _ (Steps.refl _))).trans (by
    refine XS.aloadN X13.here hexec rfl (hb hbytes d51) rfl rfl ?_
    refine XS.aload X13.here hexec rfl (hb hbytes d52) rfl rfl ?_
    exact Steps.refl _)
  obtain ⟨T15, X15, p15, bl15, sl15, st15⟩ := X13.finit hexec hown (wk W (.fieldLink "java/lang/String" 9 "java/lang/String" "value" "[B")) (Or.inr ⟨_, (wk W (.laysFinal "java/lang/String" "java/lang/String" "value" "[B"))⟩) (Or.inl ⟨rfl, hnm⟩) f1 (Or.inl rfl) bl13 (t := (.array .byte)) (by decide +kernel) rfl (g := (mkF m 54 #[.val (.ref a), .val (.ref b), .val (.int (Int32.ofNat o)), .val (.int (Int32.ofNat len)), .val .null, .val (.ref s.heap.size)] [.ref s.heap.size, .ref a])) rfl (rest := []) rfl (hb hbytes d54)
  have c16 : Steps p.tables e below (s₁.setTop (entryFrame m #[.ref a, .ref b, .int (Int32.ofNat o), .int (Int32.ofNat len), .null] 6)) (T15.setTop (mkF m 57 #[.val (.ref a), .val (.ref b), .val (.int (Int32.ofNat o)), .val (.int (Int32.ofNat len)), .val .null, .val (.ref s.heap.size)] [])) := c14.trans (st15 _ (Steps.refl _))
  have ap := apart (Or.inr ⟨_, (wk W (.laysFinal "java/lang/String" "java/lang/String" "value" "[B"))⟩) (Or.inr ⟨_, (wk W (.laysFinal "java/lang/String" "java/lang/String" "coder" "B"))⟩) f1 f2 (t₁ := .array .byte) (t₂ := .byte) (by decide +kernel) (by decide +kernel) (by decide)
  have al := X8.warmed.alike.symm.trans X15.warmed.alike
  have n7 : T11.heap[s.heap.size]? = some N := by rw [q11]; exact n1.1
  exact ⟨T15, none, _, _, _, X15, by simp, rfl, by omega, (fun _ => rfl), ⟨rfl, _, N, bl15, ((Same.refl D _).set _ (by simp)).set _ (by simp), sl15, (Cell.slots_setSlot_ne _ ap).trans sl13, n1.keep al (p15.other hne (p13.other hne n7)), n2, by rw [al.findClass]; exact n3, n4, n5, fun y c h1 h2 => p15.other h1 (p13.other h1 (by rw [q11]; exact n6 y c h2)), by rw [p15.2.2, p13.2.2, q11]; exact z8⟩, fun fs hl => c16.trans (X15.returnOut hexec hret (hb hbytes d57) hl)⟩
end New4
namespace New1
def yN : MethodName := ⟨"java/lang/String", "<init>", "([C)V"⟩
abbrev yB : ByteArray := jdk_42_method_3_code
theorem d0 : decode yB 0 = .ok (.aload_n 0, 1) := by decide +kernel
theorem d1 : decode yB 1 = .ok (.aload_n 1, 1) := by decide +kernel
theorem d2 : decode yB 2 = .ok (.iconst 0, 1) := by decide +kernel
theorem d3 : decode yB 3 = .ok (.aload_n 1, 1) := by decide +kernel
theorem d4 : decode yB 4 = .ok (.arraylength, 1) := by decide +kernel
theorem d5 : decode yB 5 = .ok (.aconst_null, 1) := by decide +kernel
theorem d6 : decode yB 6 = .ok (.invokespecial 27, 3) := by decide +kernel
theorem d9 : decode yB 9 = .ok (.return_, 1) := by decide +kernel
def site : List Cond := [New4.tab] ++ initW "java/lang/String" 27 New4.yN
def tab : Cond := tabOf yN yB 2 none site
def P (a : Addr) (D : Cell) (fV fC : Field) (b : Addr) (A : Cell) (z : Int32) (args : Array Value) (s : State) : Prop := args = #[.ref a, .ref b] ∧ Blank "java/lang/String" a D s ∧ Found "java/lang/String" "value" "[B" fV s ∧ Found "java/lang/String" "coder" "B" fC s ∧ Ch b A s ∧ StaticIs s "java/lang/String" "COMPACT_STRINGS" "Z" (.int z) ∧ ¬ z = 0 ∧ 0 < A.slots.size ∧ A.slots.size ≤ 536870912 ∧ ∀ i, i < A.slots.size → ¬ 255 < cv A i
def E (a : Addr) (D : Cell) (fV fC : Field) (A : Cell) (r : Option Value) (s u : State) : Prop := Got a D fV fC A 0 A.slots.size r s u
/-- new String(chars), not empty, no char above 255: a Latin-1 String of their low bytes -/
theorem law (l : Launch) (a : Addr) (D : Cell) (fV fC : Field) (b : Addr) (A : Cell) (z : Int32) : Law l yN 2 1 3 52 yB 2 none site (P a D fV fC b A z) (E a D fV fC A) [⟨a, fC.slot⟩, ⟨a, fV.slot⟩] 1 A.slots.size := by
  refine Law.of_walk (plainFor_of_name (by decide +kernel)) (by decide +kernel) (by decide +kernel) (by decide) (fun _ _ h => by rw [h.1]; rfl) (fun _ U U' hal hh h => ⟨h.1, h.2.1.mv hal hh, h.2.2.1.al hal, h.2.2.2.1.al hal, h.2.2.2.2.1.mv hal hh, h.2.2.2.2.2.1.there hal hh, h.2.2.2.2.2.2⟩) (fun r U U' V V' h1 hal h2 h => Got.mv r U U' V V' h1 hal h2 h) ?_
  intro p e s m args below meth c s₁ X0 hexec hbytes hml hret hlk hnm hown hh0 W hP
  obtain ⟨rfl, hB, f1, f2, hA, s1, hz, l0, l2, hp⟩ := hP
  have c1 : Steps p.tables e below (s₁.setTop (entryFrame m #[.ref a, .ref b] 2)) (s₁.setTop (mkF m 0 #[.val (.ref a), .val (.ref b)] [])) := entry rfl
  have c2 : Steps p.tables e below (s₁.setTop (entryFrame m #[.ref a, .ref b] 2)) (s₁.setTop (mkF m 6 #[.val (.ref a), .val (.ref b)] [.null, .int (Int32.ofNat A.slots.size), .int 0, .ref b, .ref a])) := c1.trans (by
    refine XS.aloadN X0.here hexec rfl (hb hbytes d0) rfl rfl ?_
    refine XS.aloadN X0.here hexec rfl (hb hbytes d1) rfl rfl ?_
    refine iconstV X0.here hexec rfl 0 (hb hbytes d2) (by decide) ?_
    refine XS.aloadN X0.here hexec rfl (hb hbytes d3) rfl rfl ?_
    refine X0.alen hexec (hA.1.mv X0.warmed.alike hh0) rfl rfl (hb hbytes d4) ?_
    refine XS.aconstNull X0.here hexec rfl (hb hbytes d5) ?_
    exact Steps.refl _)
  obtain ⟨v3, T3, X3, E3, g3⟩ := X0.callN hexec (New4.law l a D fV fC b A z 0 A.slots.size) rfl hown (wks W (initW "java/lang/String" 27 New4.yN)) (W New4.tab (by simp only [site, List.mem_cons, List.mem_append, true_or, or_true])) (W := 0) (Nat.le_of_ble_eq_true rfl) (Nat.le_of_ble_eq_true rfl) (Nat.le_refl _) (by show 0 + A.slots.size ≤ A.slots.size; omega) (g := (mkF m 6 #[.val (.ref a), .val (.ref b)] [.null, .int (Int32.ofNat A.slots.size), .int (Int32.ofNat 0), .ref b, .ref a])) rfl (by rw [hml]; rfl) c2 (argsL := [.ref b, .int (Int32.ofNat 0), .int (Int32.ofNat A.slots.size), .null]) (rest := []) rfl rfl (by show 2 * 0 + 0 ≤ _; decide) (hb hbytes d6) (⟨rfl, hB.mv X0.warmed.alike hh0, f1.al X0.warmed.alike, f2.al X0.warmed.alike, hA.mv X0.warmed.alike hh0, s1.there X0.warmed.alike hh0, hz, l0, by omega, l2, fun i hi => by rw [Nat.zero_add]; exact hp i hi⟩)
  have e0 := Got.mv _ s₁ s _ _ hh0.symm (Vm.Alike.refl _) rfl E3
  obtain rfl := e0.1
  have c4 : Steps p.tables e below (s₁.setTop (entryFrame m #[.ref a, .ref b] 2)) (T3.setTop (mkF m 9 #[.val (.ref a), .val (.ref b)] [])) := g3
  exact ⟨T3, none, _, _, _, X3, by simp, rfl, by omega, (fun _ => rfl), e0, fun fs hl => c4.trans (X3.returnOut hexec hret (hb hbytes d9) hl)⟩
theorem pays {l : Launch} {R : Room} {p : Program} {e : Env} {below : List Frame} {s : State} {sargs : Array Value} {len W : Nat} (a : Addr) (D : Cell) (fV fC : Field) (b : Addr) (A : Cell) (z : Int32) (htab : tab.before sargs s = true) (hfr : 4 ≤ R.frames) (hlo : W + 65 ≤ R.locals) :
    Back l R p e below s sargs yN len W (fun A₁ a₁ => A₁.cells + 1 ≤ R.cells ∧ A₁.slots + A.slots.size ≤ R.slots ∧ P a D fV fC b A z a₁ A₁.U) (fun A₁ _ v₁ B₁ => E a D fV fC A v₁ A₁.U B₁.U ∧ B₁.locs = A₁.locs ++ [⟨a, fC.slot⟩, ⟨a, fV.slot⟩] ∧ B₁.cells = A₁.cells + 1 ∧ B₁.slots = A₁.slots + A.slots.size) :=
  (law l a D fV fC b A z).pays htab hfr (by omega)
end New1
/-- the byte, read back as charAt reads it, is the char -/
theorem lo8_mask {x : Int32} (h0 : ¬ x < 0) (h1 : ¬ 255 < x) : lo8 x &&& 255 = x := by
  have t : ∀ k : Fin 256, lo8 (Int32.ofNat k.val) &&& 255 = Int32.ofNat k.val := by decide +kernel
  rw [Int32.lt_iff_toInt_lt] at h0 h1
  have e0 : (0 : Int32).toInt = 0 := rfl
  have e1 : (255 : Int32).toInt = 255 := rfl
  obtain ⟨k, hk⟩ : ∃ k : Nat, x.toInt = k := ⟨x.toInt.toNat, by omega⟩
  have hx : x = Int32.ofNat k := Int32.toInt_inj.mp (by rw [hk, Int32.toInt_ofNat_small (by omega)])
  rw [hx]
  exact t ⟨k, by omega⟩
end StrChars
namespace StrChars.Road
open Jvm Sem ClassFile Op Lib Jvm.Stand Jvm.Free Jvm.Free.XT
open Jvm.Lib.Cold (StaticIs)
abbrev ST : String := "java/lang/String"
/-- every table word that New1's law asks, flat -/
abbrev words : List Jvm.Cond := [.code New1.yN New1.yB 2 none, .initialized ST, .methodLink ST 27 New4.yN, .instanceMethod New4.yN,
  .code New4.yN New4.yB 6 none, .fieldLink ST 38 ST "COMPACT_STRINGS" "Z", .laysFinal ST ST "value" "[B", .fieldLink ST 9 ST "value" "[B", .laysFinal ST ST "coder" "B", .fieldLink ST 15 ST "coder" "B",
  .methodLink ST 1 Lib.objectInit, .instanceMethod Lib.objectInit, .code Lib.objectInit ⟨#[0xb1]⟩ 1 none, .methodLink ST 177 Cmp3.yN, .static Cmp3.yN, .methodLink ST 47 CodL.yN, .static CodL.yN,
  .code Cmp3.yN Cmp3.yB 6 (some (.array .byte)), .initialized U16, .arrayClass .byte, .methodLink U16 115 Cmp5.yN, .static Cmp5.yN, .code Cmp5.yN Cmp5.yB 7 (some .int), .code CodL.yN CodL.yB 2 (some .byte)]
theorem tab_of {a : Array Value} {s : State} (h : ∀ w ∈ words, w.before a s = true) : New1.tab.before a s = true := by
  have h5 : Cmp5.tab.before a s = true := unparts (wk h (.code Cmp5.yN Cmp5.yB 7 (some .int))) (wks h (.initialized Cmp5.yN.cls :: Cmp5.site))
  have hc : CodL.tab.before a s = true := unparts (wk h (.code CodL.yN CodL.yB 2 (some .byte))) (wks h (.initialized CodL.yN.cls :: CodL.site))
  have q5 : ∀ w ∈ Cmp5.tab :: words, w.before a s = true := fun w hw => (List.mem_cons.mp hw).elim (fun e => e ▸ h5) (h w)
  have h3 : Cmp3.tab.before a s = true := unparts (wk q5 (.code Cmp3.yN Cmp3.yB 6 (some (.array .byte)))) (wks q5 (.initialized Cmp3.yN.cls :: Cmp3.site))
  have q3 : ∀ w ∈ Cmp3.tab :: CodL.tab :: words, w.before a s = true := fun w hw => (List.mem_cons.mp hw).elim (fun e => e ▸ h3) fun hw => (List.mem_cons.mp hw).elim (fun e => e ▸ hc) (h w)
  have h4 : New4.tab.before a s = true := unparts (wk q3 (.code New4.yN New4.yB 6 none)) (wks q3 (.initialized New4.yN.cls :: New4.site))
  have q4 : ∀ w ∈ New4.tab :: words, w.before a s = true := fun w hw => (List.mem_cons.mp hw).elim (fun e => e ▸ h4) (h w)
  exact unparts (wk q4 (.code New1.yN New1.yB 2 none)) (wks q4 (.initialized New1.yN.cls :: New1.site))
/-- the words ride from the start Z to the walk's own state -/
theorem moved {Z s : State} {a0 args : Array Value} (hZ : Z.Warmed39 s.vm) (hw : ∀ d ∈ words, d.before a0 Z = true) : ∀ d ∈ words, d.before args s = true := fun d hd => by
  have q := hw d hd
  have t : ∀ d ∈ words, d = .arrayClass .byte ∨ (d.onTables && d.keepsFace) = true := by decide +kernel
  rcases t d hd with rfl | t
  · exact RoadKit.mvA hZ q
  · exact RoadKit.mv hZ q t
/-- WHAT COMES BACK, over the tables of the start Z: h the heap at the call, h' behind it -/
def Q (Z : State) (x : Addr) (A : Cell) (h : Heap) (v : Option Value) (h' : Heap) (L : List Loc) : Prop := v = none ∧ (∀ y ∈ L, y.base = x) ∧ RoadKit.Keep h h' [x] ∧ h'.size = h.size + 1 ∧ RoadKit.Exa Z h' x ST ∧ RoadKit.Fld Z h' x ST "value" "[B" (.ref h.size) ∧ RoadKit.Fld Z h' x ST "coder" "B" (.int 0) ∧
  (∃ V : Cell, RoadKit.Arr Z h' h.size V .byte ∧ V.vm = .none ∧ Z.vm.findClass "[B" = some V.cls ∧ V.slots.size = A.slots.size ∧ ∀ j, j < A.slots.size → V.slots[j]? = some (.int (lo8 (cv A j)))) ∧
  ∀ (O n d : String) (w : Value), RoadKit.Fld Z h x O n d w → RoadKit.slotOf Z O n d ≠ RoadKit.slotOf Z ST "value" "[B" → RoadKit.slotOf Z O n d ≠ RoadKit.slotOf Z ST "coder" "B" → RoadKit.Fld Z h' x O n d w
/-- **new String(chars) AT A CALL, IN THE ROAD'S FORM**: for specialBack behind newO: x the fresh String, b the char[] with the cell A -/
theorem back {p : Program} {l : Launch} {e : Env} {R : Room} {s : State} {args : Array Value} {below : List Frame} {len W : Nat} {Z : State} {a0 : Array Value} {h : Heap} (hZ : Z.Warmed39 s.vm) (hw : ∀ d ∈ words, d.before a0 Z = true) {kI : Nat} (wi : (Jvm.Cond.instantiable ST kI).before a0 Z = true)
    {x b : Addr} {A : Cell} {z : Int32} {v0 c0 : Value} (E : RoadKit.Exa Z h x ST) (V : RoadKit.Fld Z h x ST "value" "[B" v0) (C : RoadKit.Fld Z h x ST "coder" "B" c0) (K : RoadKit.Arr Z h b A .char) (hty : Typed .char A) (S : RoadKit.Sta Z h ST "COMPACT_STRINGS" "Z" (.int z)) (hz : ¬ z = 0)
    (l0 : 0 < A.slots.size) (l2 : A.slots.size ≤ 536870912) (hp : ∀ i, i < A.slots.size → ¬ 255 < cv A i) (hfr : 4 ≤ R.frames) (hlo : W + 65 ≤ R.locals) :
    Back l R p e below s args New1.yN len W (fun P a => a = #[.ref x, .ref b] ∧ P.U.heap = h ∧ P.cells + 1 ≤ R.cells ∧ P.slots + A.slots.size ≤ R.slots)
      (fun P _ v B => ∃ L, Q Z x A h v B.U.heap L ∧ B.locs = P.locs ++ L ∧ B.cells = P.cells + 1 ∧ B.slots = P.slots + A.slots.size) := by
  intro m meth c P g ig mk a X hg hsize hdg hW hn hp'
  obtain ⟨rfl, rfl, r1, r2⟩ := hp'
  have al : Z.vm.Alike P.U.vm := hZ.alike.trans X.warmed.alike
  obtain ⟨D, cfV, kV, iV, fV, hD, gV, stV, knV, obV, asV, slV⟩ := id V
  obtain ⟨D', cfC, kC, iC, fC, hD', gC, stC, -, -, asC, slC⟩ := id C
  cases hD.symm.trans hD'
  obtain ⟨D2, kD, e1, e2, e3, e4, e5⟩ := id E
  cases hD.symm.trans e1
  obtain ⟨c2, k2, i1, i2, i3, -⟩ := Cond.instantiable_spec wi
  cases e2.symm.trans i1
  cases e3.symm.trans i2
  obtain ⟨kU, u1, u2⟩ := al.2.2 _ _ e3
  have hB : Blank ST x D P.U := ⟨hD, ⟨knV, fun q hq => by rw [hq] at obV; cases obV⟩, by rw [al.findClass]; exact e2, kU, u1, by rw [u2]; exact i3, by rw [u2]; exact e5 i3⟩
  have F1 : Found ST "value" "[B" fV P.U := ⟨SBG.found_only al ⟨cfV, kV, iV, gV⟩, stV⟩
  have F2 : Found ST "coder" "B" fC P.U := ⟨SBG.found_only al ⟨cfC, kC, iC, gC⟩, stC⟩
  have hA : Ch b A P.U := ⟨⟨K.1, State.isArrayOf_alike al K.2.1, K.2.2, by omega⟩, hty⟩
  have hS : StaticIs P.U ST "COMPACT_STRINGS" "Z" (.int z) := by
    obtain ⟨cfS, iS, kS, fS, st, cS, t1, t2, t3, t4, t5, t6, t7⟩ := S
    exact StaticIs.there (s := { Z with heap := P.U.heap }) ⟨cfS, iS, kS, fS, st, cS, t1, t2, t3, t4, t5, (fun q => by rw [q] at t6; cases t6), t7⟩ al rfl
  obtain ⟨v, B, X', ⟨⟨hv, E', V', q1, q2, q3, q4, q5, q6, q7, q8, q9, q10, q11⟩, hl, hc, hs⟩, st⟩ := New1.pays x D fV fC b A z (tab_of (moved hZ hw)) hfr hlo m meth c P g ig mk _ X hg hsize hdg hW hn ⟨r1, r2, rfl, hB, F1, F2, hA, hS, hz, l0, l2, hp⟩
  have al' : Z.vm.Alike B.U.vm := hZ.alike.trans X'.warmed.alike
  have hsz : E'.slots.size = D.slots.size := by
    obtain ⟨-, -, -, kB, w1, w2, w3⟩ := q1
    obtain ⟨kB', y1, y2⟩ := al'.2.2 _ _ e3
    rw [q2.2.1] at w1
    cases w1.symm.trans y1
    rw [w3, e5 i3, y2]
  refine ⟨v, B, X', ⟨_, ⟨hv, ?_, ⟨by omega, fun y cy hy hn' => q10 y cy (by simpa using hn') hy, fun y cy hy => ?_⟩, q11, ⟨E', _, q1.1, by rw [q2.2.1]; exact e2, by rw [q2.2.1]; exact e3, by rw [q2.1]; exact obV, fun _ => by rw [hsz]; exact e5 i3⟩,
    ⟨E', cfV, kV, iV, fV, q1.1, gV, stV, by rw [q2.1]; exact knV, by rw [q2.1]; exact obV, by rw [q2.2.1]; exact asV, q3⟩, ⟨E', cfC, kC, iC, fC, q1.1, gC, stC, by rw [q2.1]; exact knV, by rw [q2.1]; exact obV, by rw [q2.2.1]; exact asC, q4⟩,
    ⟨V', ⟨q5.1, State.isArrayOf_alike al'.symm q5.2.1, q5.2.2.1⟩, q6, by rw [← al'.findClass]; exact q7, q8, fun j hj => by have := q9 j hj; rwa [Nat.zero_add] at this⟩, fun O n d w F n1 n2 => ?_⟩, hl, hc, hs⟩, st⟩
  · intro y hy
    simp only [List.mem_cons, List.not_mem_nil, or_false] at hy
    rcases hy with rfl | rfl <;> rfl
  · by_cases q : y = x
    · subst q
      cases hD.symm.trans hy
      exact ⟨E', q1.1, q2.2.1, q2.1, hsz⟩
    · exact ⟨cy, q10 y cy q hy, rfl, rfl, rfl⟩
  · obtain ⟨D3, cf, k, i, f, g1, g2, g3, g4, g5, g6, g7⟩ := F
    cases hD.symm.trans g1
    simp only [RoadKit.slotOf, g2, gV, gC, Option.map_some, Option.getD_some] at n1 n2
    exact ⟨E', cf, k, i, f, q1.1, g2, g3, by rw [q2.1]; exact g4, by rw [q2.1]; exact g5, by rw [q2.2.1]; exact g6, by rw [q2.2.2 f.slot (by simp [n1, n2])]; exact g7⟩
end StrChars.Road
namespace StrChars.Road
open Jvm Sem ClassFile Op Lib Jvm.Stand Jvm.Free Jvm.Free.XT
/-- WHAT COMES BACK, the byte[] as a list of values -/
def QA (Z : State) (x : Addr) (zn : Int32) (cs : List Int32) (h : Heap) (v : Option Value) (h' : Heap) (L : List Loc) : Prop := v = none ∧ (∀ y ∈ L, y.base = x) ∧ RoadKit.Keep h h' [x] ∧ h'.size = h.size + 1 ∧ RoadKit.Exa Z h' x ST ∧ RoadKit.Fld Z h' x ST "value" "[B" (.ref h.size) ∧ RoadKit.Fld Z h' x ST "coder" "B" (.int 0) ∧
  (∃ kb, Z.vm.findClass "[B" = some kb ∧ RoadKit.Arv Z h' h.size kb .byte zn (cs.map fun c => .int (lo8 c)) (.int 0)) ∧
  ∀ (O n d : String) (w : Value), RoadKit.Fld Z h x O n d w → RoadKit.slotOf Z O n d ≠ RoadKit.slotOf Z ST "value" "[B" → RoadKit.slotOf Z O n d ≠ RoadKit.slotOf Z ST "coder" "B" → RoadKit.Fld Z h' x O n d w
/-- **new String(chars) AT A CALL, THE ARRAYS AS LISTS**: the char[] at b holds cs, not empty, no char above 255 -/
theorem backArv {p : Program} {l : Launch} {e : Env} {R : Room} {s : State} {args : Array Value} {below : List Frame} {len W : Nat} {Z : State} {a0 : Array Value} {h : Heap} (hZ : Z.Warmed39 s.vm) (hw : ∀ d ∈ words, d.before a0 Z = true) {kI : Nat} (wi : (Jvm.Cond.instantiable ST kI).before a0 Z = true)
    {x b : Addr} {k : ClassId} {zn z : Int32} {cs : List Int32} {dv v0 c0 : Value} (E : RoadKit.Exa Z h x ST) (V : RoadKit.Fld Z h x ST "value" "[B" v0) (C : RoadKit.Fld Z h x ST "coder" "B" c0) (K : RoadKit.Arv Z h b k .char zn (cs.map Value.int) dv) (S : RoadKit.Sta Z h ST "COMPACT_STRINGS" "Z" (.int z)) (hz : ¬ z = 0)
    (hlen : zn.toNatClampNeg = cs.length) (h0 : 0 < cs.length) (hbig : cs.length ≤ 536870912) (hall : ∀ c ∈ cs, ¬ 255 < c) (hfr : 4 ≤ R.frames) (hlo : W + 65 ≤ R.locals) :
    Back l R p e below s args New1.yN len W (fun P a => a = #[.ref x, .ref b] ∧ P.U.heap = h ∧ P.cells + 1 ≤ R.cells ∧ P.slots + cs.length ≤ R.slots)
      (fun P _ v B => ∃ L, QA Z x zn cs h v B.U.heap L ∧ B.locs = P.locs ++ L ∧ B.cells = P.cells + 1 ∧ B.slots = P.slots + cs.length) := by
  obtain ⟨A, K1, K2, K3, K4, K5, K6⟩ := K
  have e : A.slots.size = cs.length := K3.trans hlen
  have hat : ∀ (i : Nat) (hi : i < cs.length), A.slots[i]? = some (.int cs[i]) := fun i hi => by rw [K5 i (by omega)]; simp [List.getD_eq_getElem?_getD, hi]
  have hcv : ∀ (i : Nat) (hi : i < cs.length), cv A i = cs[i] := fun i hi => by unfold cv; rw [hat i hi]
  have hty : Typed .char A := fun i v hv => by
    have hi : i < A.slots.size := (Array.getElem?_eq_some_iff.mp hv).1
    have q := K5 i hi
    rw [hv] at q
    rw [Option.some.inj q]
    exact K6 i hi
  refine Back.mono (back hZ hw wi E V C K1 hty S hz (by omega) (by omega) (fun i hi => by rw [hcv i (by omega)]; exact hall _ (List.getElem_mem _)) hfr hlo) (fun P a hp => ⟨hp.1, hp.2.1, hp.2.2.1, by rw [e]; exact hp.2.2.2⟩) (fun P a v B hp hq => ?_)
  obtain ⟨L, ⟨q1, q2, q3, q4, q5, q6, q7, ⟨V', v1, v2, v3, v4, v5⟩, q9⟩, hl, hc, hs⟩ := hq
  refine ⟨L, ⟨q1, q2, q3, q4, q5, q6, q7, ⟨V'.cls, v3, V', v1, rfl, by rw [v4, e, hlen], K4, fun i hi => ?_, fun i hi => ?_⟩, q9⟩, hl, hc, by rw [hs, e]⟩
  · have hi' : i < cs.length := by omega
    rw [v5 i (by omega), hcv i hi']; simp [List.getD_eq_getElem?_getD, hi']
  · have hi' : i < cs.length := by omega
    simp only [List.getD_eq_getElem?_getD, List.getElem?_map, List.getElem?_eq_getElem hi', Option.map_some, Option.getD_some]
    exact fits_lo8 _
end StrChars.Road
namespace StrChars.Road
open Jvm Sem ClassFile Op Lib Jvm.Stand Jvm.Free Jvm.Free.XT
/-- WHAT COMES BACK, in the writer's own shape -/
def QV (Z : State) (x : Addr) (N : Int32) (bs : List Int32) (h : Heap) (n0 : Nat) (v : Option Value) (h' : Heap) (L : List Loc) : Prop := v = none ∧ RoadKit.Fr n0 L ∧ RoadKit.Keep h h' [x] ∧ RoadKit.Exa Z h' x ST ∧ RoadKit.Fld Z h' x ST "coder" "B" (.int 0) ∧
  ∃ (t : Addr) (kb : ClassId), n0 ≤ t ∧ h.size ≤ t ∧ ¬ t = x ∧ RoadKit.Fld Z h' x ST "value" "[B" (.ref t) ∧ RoadKit.Arv Z h' t kb .byte N (bs.map Value.int) (.int 0)
/-- **new String(chars) AT A CALL, FOR THE WRITER**: a char[] of n known ints, each 0 to 255 -/
theorem backV {p : Program} {l : Launch} {e : Env} {R : Room} {s : State} {args : Array Value} {below : List Frame} {len W : Nat} {Z : State} {a0 : Array Value} {h : Heap} (hZ : Z.Warmed39 s.vm) (hw : ∀ d ∈ words, d.before a0 Z = true) {kI : Nat} (wi : (Jvm.Cond.instantiable ST kI).before a0 Z = true)
    {x b : Addr} {kC : ClassId} {cs bs : List Int32} {d v0 c0 : Value} {z N : Int32} {n n0 : Nat} (hx0 : n0 ≤ x) (hh0 : n0 ≤ h.size) (E : RoadKit.Exa Z h x ST) (V : RoadKit.Fld Z h x ST "value" "[B" v0) (C : RoadKit.Fld Z h x ST "coder" "B" c0) (K : RoadKit.Arv Z h b kC .char N (cs.map Value.int) d) (S : RoadKit.Sta Z h ST "COMPACT_STRINGS" "Z" (.int z)) (hz : ¬ z = 0)
    (hn : cs.length = n) (hN : N = Int32.ofNat n) (l0 : 0 < n) (l2 : n ≤ 4000) (hp : ∀ c ∈ cs, ¬ c < 0 ∧ ¬ (255 : Int32) < c) (hb : bs = cs.map (fun c => c.toInt8.toInt32)) (hfr : 4 ≤ R.frames) (hlo : W + 65 ≤ R.locals) :
    Back l R p e below s args (⟨"java/lang/String", "<init>", "([C)V"⟩ : MethodName) len W (fun P a => a = #[.ref x, .ref b] ∧ P.U.heap = h ∧ P.cells + 1 ≤ R.cells ∧ P.slots + n ≤ R.slots)
      (fun P _ v B => ∃ L, QV Z x N bs h n0 v B.U.heap L ∧ B.locs = P.locs ++ L ∧ B.cells = P.cells + 1 ∧ B.slots = P.slots + n) := by
  subst hn hN hb
  refine Back.mono (backArv hZ hw wi E V C K S hz (n32 (by omega)) l0 (by omega) (fun c hc => (hp c hc).2) hfr hlo) (fun P a hp => hp) (fun P a v B hp hq => ?_)
  obtain ⟨L, ⟨q1, q2, q3, q4, q5, q6, q7, ⟨kb, v1, v2⟩, q9⟩, hl, hc, hs⟩ := hq
  exact ⟨L, ⟨q1, fun y hy => by rw [q2 y hy]; exact hx0, q3, q5, q7, h.size, kb, hh0, Nat.le_refl _, Nat.ne_of_gt E.lt, q6, by rw [List.map_map]; exact v2⟩, hl, hc, hs⟩
end StrChars.Road
namespace StrChars
open Jvm Sem ClassFile Op Lib Jvm.Stand Jvm.Free.XT Jvm.Free.ALB Jvm.Free.JM Jvm.Free
open Jvm.Lib.Cold (StaticIs)
def hi8 (x : Int32) : Int32 := lo8 (x >>> ((8 : Int32) &&& 31))
/-- what StringUTF16.getChar makes of two bytes -/
def pairCh (u v : Int32) : Int32 := (((u &&& 255) <<< ((0 : Int32) &&& 31)) ||| ((v &&& 255) <<< ((8 : Int32) &&& 31))).toUInt32.toUInt16.toUInt32.toInt32
theorem shr0 (c : Int32) : c >>> ((0 : Int32) &&& 31) = c := by
  have e : ((0 : Int32) &&& 31) = 0 := by decide
  rw [e]
  apply Int32.toBitVec_inj.mp
  rw [Int32.toBitVec_shiftRight]
  have e1 : ((0 : Int32).toBitVec.smod 32) = 0#32 := by decide
  rw [e1, BitVec.sshiftRight_eq']
  exact BitVec.sshiftRight_zero
theorem lo8_and (x : Int32) : (lo8 x &&& 255).toBitVec.toNat = x.toBitVec.toNat % 256 := by
  have h : (lo8 x).toBitVec = (x.toBitVec.signExtend 8).signExtend 32 := by rw [lo8, Int8.toBitVec_toInt32, Int32.toBitVec_toInt8]
  rw [Int32.toBitVec_and, BitVec.toNat_and, h]
  have e : ((x.toBitVec.signExtend 8).signExtend 32).toNat % 256 = x.toBitVec.toNat % 256 := by
    rw [BitVec.toNat_signExtend]
    have hlt := x.toBitVec.isLt
    simp only [BitVec.toNat_setWidth, BitVec.toNat_signExtend]
    split <;> split <;> omega
  rw [← e]
  exact Nat.and_two_pow_sub_one_eq_mod _ 8
theorem pair_says {c : Int32} (h0 : ¬ c < 0) (h1 : ¬ 65535 < c) : pairCh (lo8 c) (hi8 c) = c := by
  rw [Int32.lt_iff_toInt_lt] at h0 h1
  have e0 : (0 : Int32).toInt = 0 := rfl
  have e1 : (65535 : Int32).toInt = 65535 := rfl
  have hc : c.toInt = c.toBitVec.toNat := by
    have := c.toBitVec.isLt
    have e : c.toInt = c.toBitVec.toInt := rfl
    rw [e] at h0 h1
    rw [e]
    rw [BitVec.toInt_eq_toNat_cond] at h0 h1 ⊢
    split at h0 <;> split <;> omega
  have hn : c.toBitVec.toNat < 65536 := by omega
  have a1 := lo8_and c
  have a2 : (hi8 c &&& 255).toBitVec.toNat = c.toBitVec.toNat / 256 := by
    rw [hi8, lo8_and]
    have e : ((8 : Int32) &&& 31) = 8 := by decide
    rw [e, Int32.toBitVec_shiftRight]
    have e2 : ((8 : Int32).toBitVec.smod 32) = 8#32 := by decide
    rw [e2, BitVec.sshiftRight_eq', BitVec.toNat_sshiftRight_of_msb_false (by rw [BitVec.msb_eq_false_iff_two_mul_lt]; omega)]
    show c.toBitVec.toNat >>> 8 % 256 = _
    rw [Nat.shiftRight_eq_div_pow]
    omega
  unfold pairCh
  apply Int32.toBitVec_inj.mp
  apply BitVec.eq_of_toNat_eq
  have f0 : ((0 : Int32) &&& 31) = 0 := by decide
  have f8 : ((8 : Int32) &&& 31) = 8 := by decide
  rw [f0, f8]
  have g : (((lo8 c &&& 255) <<< (0 : Int32)) ||| ((hi8 c &&& 255) <<< (8 : Int32))).toBitVec.toNat = c.toBitVec.toNat := by
    rw [Int32.toBitVec_or, Int32.toBitVec_shiftLeft, Int32.toBitVec_shiftLeft]
    have s0 : ((0 : Int32).toBitVec.smod 32) = 0#32 := by decide
    have s8 : ((8 : Int32).toBitVec.smod 32) = 8#32 := by decide
    rw [s0, s8, BitVec.toNat_or]
    simp only [BitVec.shiftLeft_eq', BitVec.toNat_shiftLeft, a1, a2]
    show (c.toBitVec.toNat % 256) <<< 0 % 2 ^ 32 ||| (c.toBitVec.toNat / 256) <<< 8 % 2 ^ 32 = _
    rw [Nat.shiftLeft_zero, Nat.mod_eq_of_lt (show c.toBitVec.toNat % 256 < 2 ^ 32 by omega), Nat.mod_eq_of_lt (show (c.toBitVec.toNat / 256) <<< 8 < 2 ^ 32 by rw [Nat.shiftLeft_eq]; omega), Nat.or_comm, ← Nat.shiftLeft_add_eq_or_of_lt (by omega), Nat.shiftLeft_eq]
    omega
  show BitVec.toNat (((((lo8 c &&& 255) <<< (0 : Int32)) ||| ((hi8 c &&& 255) <<< (8 : Int32))).toBitVec.setWidth 16).setWidth 32) = _
  rw [BitVec.toNat_setWidth, BitVec.toNat_setWidth, g]
  omega
end StrChars
namespace StrChars
open Jvm Sem ClassFile Op Lib Jvm.Stand Jvm.Free.XT Jvm.Free.ALB Jvm.Free.JM Jvm.Free
open Jvm.Lib.Cold (StaticIs)
theorem shr1 {n : Nat} (h : 2 * n < 2 ^ 31) : Int32.ofNat (2 * n) >>> ((1 : Int32) &&& 31) = Int32.ofNat n := by
  have e : ((1 : Int32) &&& 31) = 1 := by decide
  rw [e]
  apply Int32.toBitVec_inj.mp
  rw [Int32.toBitVec_shiftRight]
  have e1 : ((1 : Int32).toBitVec.smod 32) = 1#32 := by decide
  have hm : (BitVec.ofNat 32 (2 * n)).toNat = 2 * n := by rw [BitVec.toNat_ofNat, Nat.mod_eq_of_lt (by omega)]
  rw [e1, BitVec.sshiftRight_eq']
  apply BitVec.eq_of_toNat_eq
  show ((BitVec.ofNat 32 (2 * n)).sshiftRight 1).toNat = (BitVec.ofNat 32 n).toNat
  rw [BitVec.toNat_sshiftRight_of_msb_false (by rw [BitVec.msb_eq_false_iff_two_mul_lt, hm]; omega), hm, BitVec.toNat_ofNat, Nat.shiftRight_eq_div_pow]
  omega
/-- charAt's cast of a byte read back -/
def chr8 (u : Int32) : Int32 := (u &&& 255).toUInt32.toUInt16.toUInt32.toInt32
theorem chr8_lo8 {c : Int32} (h0 : ¬ c < 0) (h1 : ¬ 255 < c) : chr8 (lo8 c) = c := by
  have t : ∀ k : Fin 256, (Int32.ofNat k.val).toUInt32.toUInt16.toUInt32.toInt32 = Int32.ofNat k.val := by decide +kernel
  unfold chr8
  rw [lo8_mask h0 h1]
  rw [Int32.lt_iff_toInt_lt] at h0 h1
  have e0 : (0 : Int32).toInt = 0 := rfl
  have e1 : (255 : Int32).toInt = 255 := rfl
  obtain ⟨k, hk⟩ : ∃ k : Nat, c.toInt = k := ⟨c.toInt.toNat, by omega⟩
  have hx : c = Int32.ofNat k := Int32.toInt_inj.mp (by rw [hk, Int32.toInt_ofNat_small (by omega)])
  rw [hx]
  exact t ⟨k, by omega⟩
theorem narrow_ch {c : Int32} (h0 : ¬ c < 0) (h1 : ¬ 65535 < c) : narrow .char (.int c) = .int c := by
  have q : narrow .char (.int (pairCh (lo8 c) (hi8 c))) = .int (pairCh (lo8 c) (hi8 c)) := narrow_c _
  rwa [pair_says h0 h1] at q
/-- the array's cell V codes the n chars f 0 .. f (n - 1) by the coder cd, as the JDK does: coder 1 just where some char is above 255 -/
def Cod (cd : Int32) (n : Nat) (f : Nat → Int32) (V : Cell) : Prop := (cd = 0 ∧ V.slots.size = n ∧ ∀ j, j < n → V.slots[j]? = some (.int (lo8 (f j))) ∧ ¬ 255 < f j) ∨ (cd = 1 ∧ V.slots.size = 2 * n ∧ (∀ j, j < n → V.slots[2 * j]? = some (.int (lo8 (f j))) ∧ V.slots[2 * j + 1]? = some (.int (hi8 (f j)))) ∧ ∃ j, j < n ∧ 255 < f j)
theorem Cod.cd {cd : Int32} {n : Nat} {f : Nat → Int32} {V : Cell} (h : Cod cd n f V) : cd = 0 ∨ cd = 1 := h.imp (fun q => q.1) fun q => q.1
theorem Cod.len {cd : Int32} {n : Nat} {f : Nat → Int32} {V : Cell} (h : Cod cd n f V) (hs : V.slots.size < 2 ^ 31) : Int32.ofNat V.slots.size >>> (cd &&& 31) = Int32.ofNat n := by
  rcases h with ⟨rfl, h, -⟩ | ⟨rfl, h, -⟩
  · rw [shr0, h]
  · rw [h, shr1 (by omega)]
/-- **x is a String of the n chars f 0 .. f (n - 1)**, Latin-1 or UTF-16; its array at t has the cell V -/
def Txt (x t : Addr) (V : Cell) (cd : Int32) (n : Nat) (f : Nat → Int32) (U : State) : Prop := Exact "java/lang/String" x U ∧ Has x "java/lang/String" "value" "[B" (.ref t) U ∧ Has x "java/lang/String" "coder" "B" (.int cd) U ∧ XT.Arr .byte t V U ∧ Cod cd n f V ∧ ∀ j, j < n → ¬ f j < 0 ∧ ¬ 65535 < f j
theorem Txt.mv {x t : Addr} {V : Cell} {cd : Int32} {n : Nat} {f : Nat → Int32} {U U' : State} (h : Txt x t V cd n f U) (hal : U.vm.Alike U'.vm) (hh : U'.heap = U.heap) : Txt x t V cd n f U' := ⟨h.1.mv hal hh, h.2.1.mv hal hh, h.2.2.1.mv hal hh, h.2.2.2.1.mv hal hh, h.2.2.2.2⟩
namespace Cdr
def yN : MethodName := ⟨"java/lang/String", "coder", "()B"⟩
abbrev yB : ByteArray := jdk_42_method_152_code
theorem d0 : decode yB 0 = .ok (.getstatic 38, 3) := by decide +kernel
theorem d3 : decode yB 3 = .ok (.ifCond (.eq) 10, 3) := by decide +kernel
theorem d6 : decode yB 6 = .ok (.aload_n 0, 1) := by decide +kernel
theorem d7 : decode yB 7 = .ok (.getfield 15, 3) := by decide +kernel
theorem d10 : decode yB 10 = .ok (.goto 4, 3) := by decide +kernel
theorem d14 : decode yB 14 = .ok (.ireturn, 1) := by decide +kernel
def site : List Cond := [.fieldLink "java/lang/String" 38 "java/lang/String" "COMPACT_STRINGS" "Z", .fieldLink "java/lang/String" 15 "java/lang/String" "coder" "B"]
def tab : Cond := tabOf yN yB 1 (some .byte) site
def P (x : Addr) (cd z : Int32) (args : Array Value) (s : State) : Prop := args = #[.ref x] ∧ Has x "java/lang/String" "coder" "B" (.int cd) s ∧ (cd = 0 ∨ cd = 1) ∧ StaticIs s "java/lang/String" "COMPACT_STRINGS" "Z" (.int z) ∧ ¬ z = 0
def E (cd : Int32) (r : Option Value) (s u : State) : Prop := XT.PureE (some (.int cd)) r s u
theorem law (l : Launch) (x : Addr) (cd z : Int32) : Law l yN 1 0 0 0 yB 1 (some .byte) site (P x cd z) (E cd) [] 0 0 := by
  refine Law.of_walk (plainFor_of_name (by decide +kernel)) (by decide +kernel) (by decide +kernel) (by decide) (fun _ _ h => by rw [h.1]; rfl) (fun _ U U' hal hh h => ⟨h.1, h.2.1.mv hal hh, h.2.2.1, h.2.2.2.1.there hal hh, h.2.2.2.2⟩) (fun r U U' V V' h1 hal h2 h => XT.PureE.mv r U U' V V' h1 hal h2 h) ?_
  intro p e s m args below meth c s₁ X0 hexec hbytes hml hret hlk hnm hown hh0 W hP
  obtain ⟨rfl, hx, hc, s1, hz⟩ := hP
  have c1 : Steps p.tables e below (s₁.setTop (entryFrame m #[.ref x] 1)) (s₁.setTop (mkF m 0 #[.val (.ref x)] [])) := entry rfl
  obtain ⟨T2, X2, q2, st2⟩ := X0.sget hexec hown (wk W (.fieldLink "java/lang/String" 38 "java/lang/String" "COMPACT_STRINGS" "Z")) s1 (fun _ _ h => by rw [hh0]; exact h) (g := (mkF m 0 #[.val (.ref x)] [])) rfl (hb hbytes d0)
  have hh2 := q2.trans hh0
  have c3 : Steps p.tables e below (s₁.setTop (entryFrame m #[.ref x] 1)) (T2.setTop (mkF m 7 #[.val (.ref x)] [.ref x])) := (c1.trans (st2 _ (Steps.refl _))).trans (by
    refine XS.ifNo X2.here hexec rfl (hb hbytes d3) rfl (i0_eq_f hz) ?_
    refine XS.aloadN X2.here hexec rfl (hb hbytes d6) rfl rfl ?_
    exact Steps.refl _)
  obtain ⟨T4, X4, q4, st4⟩ := X2.hget hexec hown (wk W (.fieldLink "java/lang/String" 15 "java/lang/String" "coder" "B")) (hx.mv X2.warmed.alike hh2) (g := (mkF m 7 #[.val (.ref x)] [.ref x])) rfl (rest := []) rfl (hb hbytes d7)
  have c5 : Steps p.tables e below (s₁.setTop (entryFrame m #[.ref x] 1)) (T4.setTop (mkF m 14 #[.val (.ref x)] [.int cd])) := (c3.trans (st4 _ (Steps.refl _))).trans (by
    refine XS.goto X4.here hexec rfl (pc0 := 10) rfl (hb hbytes d10) (by decide) rfl ?_
    exact Steps.refl _)
  exact ⟨T4, some (.int cd), _, _, _, X4, rfl, rfl, rfl, (fun h => by cases h), ⟨rfl, q4.trans hh2⟩, fun fs hl => c5.trans (X4.ireturnOut hexec hret (by rcases hc with rfl | rfl <;> rfl) (Or.inr (Or.inr (Or.inl rfl))) (hb hbytes d14) hl)⟩
end Cdr
namespace Len
def yN : MethodName := ⟨"java/lang/String", "length", "()I"⟩
abbrev yB : ByteArray := jdk_42_method_54_code
theorem d0 : decode yB 0 = .ok (.aload_n 0, 1) := by decide +kernel
theorem d1 : decode yB 1 = .ok (.getfield 9, 3) := by decide +kernel
theorem d4 : decode yB 4 = .ok (.arraylength, 1) := by decide +kernel
theorem d5 : decode yB 5 = .ok (.aload_n 0, 1) := by decide +kernel
theorem d6 : decode yB 6 = .ok (.invokevirtual 335, 3) := by decide +kernel
theorem d9 : decode yB 9 = .ok (.ishr, 1) := by decide +kernel
theorem d10 : decode yB 10 = .ok (.ireturn, 1) := by decide +kernel
def site : List Cond := [.fieldLink "java/lang/String" 9 "java/lang/String" "value" "[B", Cdr.tab] ++ virtW "java/lang/String" 335 "java/lang/String" Cdr.yN Cdr.yN
def tab : Cond := tabOf yN yB 1 (some .int) site
def P (x t : Addr) (V : Cell) (cd : Int32) (n : Nat) (f : Nat → Int32) (z : Int32) (args : Array Value) (s : State) : Prop := args = #[.ref x] ∧ Txt x t V cd n f s ∧ StaticIs s "java/lang/String" "COMPACT_STRINGS" "Z" (.int z) ∧ ¬ z = 0
def E (n : Nat) (r : Option Value) (s u : State) : Prop := XT.PureE (some (.int (Int32.ofNat n))) r s u
/-- length() of a String of n chars, in either coding -/
theorem law (l : Launch) (x t : Addr) (V : Cell) (cd : Int32) (n : Nat) (f : Nat → Int32) (z : Int32) : Law l yN 1 0 1 13 yB 1 (some .int) site (P x t V cd n f z) (E n) [] 0 0 := by
  refine Law.of_walk (plainFor_of_name (by decide +kernel)) (by decide +kernel) (by decide +kernel) (by decide) (fun _ _ h => by rw [h.1]; rfl) (fun _ U U' hal hh h => ⟨h.1, h.2.1.mv hal hh, h.2.2.1.there hal hh, h.2.2.2⟩) (fun r U U' V V' h1 hal h2 h => XT.PureE.mv r U U' V V' h1 hal h2 h) ?_
  intro p e s m args below meth c s₁ X0 hexec hbytes hml hret hlk hnm hown hh0 W hP
  obtain ⟨rfl, hx, s1, hz⟩ := hP
  have v31 := hx.2.2.2.1.2.2.2
  have c1 : Steps p.tables e below (s₁.setTop (entryFrame m #[.ref x] 1)) (s₁.setTop (mkF m 1 #[.val (.ref x)] [.ref x])) := Steps.trans (entry rfl) (by
    show Steps p.tables e below (s₁.setTop (mkF m 0 #[.val (.ref x)] [])) _
    refine XS.aloadN X0.here hexec rfl (hb hbytes d0) rfl rfl ?_
    exact Steps.refl _)
  obtain ⟨T2, X2, q2, st2⟩ := X0.hget hexec hown (wk W (.fieldLink "java/lang/String" 9 "java/lang/String" "value" "[B")) (hx.mv X0.warmed.alike hh0).2.1 (g := (mkF m 1 #[.val (.ref x)] [.ref x])) rfl (rest := []) rfl (hb hbytes d1)
  have hh2 := q2.trans hh0
  have hx2 := hx.mv X2.warmed.alike hh2
  have c3 : Steps p.tables e below (s₁.setTop (entryFrame m #[.ref x] 1)) (T2.setTop (mkF m 6 #[.val (.ref x)] [.ref x, .int (Int32.ofNat V.slots.size)])) := (c1.trans (st2 _ (Steps.refl _))).trans (by
    refine X2.alen hexec hx2.2.2.2.1 rfl rfl (hb hbytes d4) ?_
    refine XS.aloadN X2.here hexec rfl (hb hbytes d5) rfl rfl ?_
    exact Steps.refl _)
  obtain ⟨v4, T4, X4, E4, g4⟩ := X2.callV hexec (Cdr.law l x cd z) hown (wks W (virtW "java/lang/String" 335 "java/lang/String" Cdr.yN Cdr.yN)) rfl (by decide) (wk W Cdr.tab) (W := 1) (Nat.le_of_ble_eq_true rfl) (Nat.le_of_ble_eq_true rfl) (Nat.le_refl _) (Nat.le_refl _) (hx2.1.fc X2.warmed.alike) hx2.1.is (g := (mkF m 6 #[.val (.ref x)] [.ref x, .int (Int32.ofNat V.slots.size)])) rfl (by rw [hml]; rfl) c3 (argsL := []) (rest := [.int (Int32.ofNat V.slots.size)]) rfl rfl (by show 2 * 0 + (1 + 0) ≤ _; decide) (hb hbytes d6) (⟨rfl, hx2.2.2.1, hx.2.2.2.2.1.cd, s1.there X2.warmed.alike hh2, hz⟩)
  obtain ⟨rfl, q4⟩ := E4
  have c5 : Steps p.tables e below (s₁.setTop (entryFrame m #[.ref x] 1)) (T4.setTop (mkF m 10 #[.val (.ref x)] [.int (Int32.ofNat V.slots.size >>> (cd &&& 31))])) := Steps.trans g4 (by
    refine ishr X4.here hexec rfl (hb hbytes d9) rfl ?_
    exact Steps.refl _)
  rw [hx.2.2.2.2.1.len v31] at c5
  exact ⟨T4, some (.int (Int32.ofNat n)), _, _, _, X4, rfl, rfl, rfl, (fun h => by cases h), ⟨rfl, q4.trans hh2⟩, fun fs hl => c5.trans (X4.ireturnOut hexec hret rfl (Or.inl rfl) (hb hbytes d10) hl)⟩
theorem pays {l : Launch} {R : Room} {p : Program} {e : Env} {below : List Frame} {s : State} {sargs : Array Value} {len W : Nat} (x t : Addr) (V : Cell) (cd : Int32) (n : Nat) (f : Nat → Int32) (z : Int32) (htab : tab.before sargs s = true) (hfr : 2 ≤ R.frames) (hlo : W + 25 ≤ R.locals) :
    Back l R p e below s sargs yN len W (fun A₁ a₁ => A₁.cells + 0 ≤ R.cells ∧ A₁.slots + 0 ≤ R.slots ∧ P x t V cd n f z a₁ A₁.U) (fun A₁ _ v₁ B₁ => E n v₁ A₁.U B₁.U ∧ B₁.locs = A₁.locs ++ [] ∧ B₁.cells = A₁.cells + 0 ∧ B₁.slots = A₁.slots + 0) :=
  (law l x t V cd n f z).pays htab hfr (by omega)
end Len
namespace IsL
def yN : MethodName := ⟨"java/lang/String", "isLatin1", "()Z"⟩
abbrev yB : ByteArray := jdk_42_method_154_code
theorem d0 : decode yB 0 = .ok (.getstatic 38, 3) := by decide +kernel
theorem d3 : decode yB 3 = .ok (.ifCond (.eq) 14, 3) := by decide +kernel
theorem d6 : decode yB 6 = .ok (.aload_n 0, 1) := by decide +kernel
theorem d7 : decode yB 7 = .ok (.getfield 15, 3) := by decide +kernel
theorem d10 : decode yB 10 = .ok (.ifCond (.ne) 7, 3) := by decide +kernel
theorem d13 : decode yB 13 = .ok (.iconst 1, 1) := by decide +kernel
theorem d14 : decode yB 14 = .ok (.goto 4, 3) := by decide +kernel
theorem d17 : decode yB 17 = .ok (.iconst 0, 1) := by decide +kernel
theorem d18 : decode yB 18 = .ok (.ireturn, 1) := by decide +kernel
def site : List Cond := [.fieldLink "java/lang/String" 38 "java/lang/String" "COMPACT_STRINGS" "Z", .fieldLink "java/lang/String" 15 "java/lang/String" "coder" "B"]
def tab : Cond := tabOf yN yB 1 (some .boolean) site
def P (x : Addr) (cd z : Int32) (args : Array Value) (s : State) : Prop := args = #[.ref x] ∧ Has x "java/lang/String" "coder" "B" (.int cd) s ∧ (cd = 0 ∨ cd = 1) ∧ StaticIs s "java/lang/String" "COMPACT_STRINGS" "Z" (.int z) ∧ ¬ z = 0
def E (cd : Int32) (r : Option Value) (s u : State) : Prop := XT.PureE (some (.int (1 - cd))) r s u
theorem law (l : Launch) (x : Addr) (cd z : Int32) : Law l yN 1 0 0 0 yB 1 (some .boolean) site (P x cd z) (E cd) [] 0 0 := by
  refine Law.of_walk (plainFor_of_name (by decide +kernel)) (by decide +kernel) (by decide +kernel) (by decide) (fun _ _ h => by rw [h.1]; rfl) (fun _ U U' hal hh h => ⟨h.1, h.2.1.mv hal hh, h.2.2.1, h.2.2.2.1.there hal hh, h.2.2.2.2⟩) (fun r U U' V V' h1 hal h2 h => XT.PureE.mv r U U' V V' h1 hal h2 h) ?_
  intro p e s m args below meth c s₁ X0 hexec hbytes hml hret hlk hnm hown hh0 W hP
  obtain ⟨rfl, hx, hc, s1, hz⟩ := hP
  have c1 : Steps p.tables e below (s₁.setTop (entryFrame m #[.ref x] 1)) (s₁.setTop (mkF m 0 #[.val (.ref x)] [])) := entry rfl
  obtain ⟨T2, X2, q2, st2⟩ := X0.sget hexec hown (wk W (.fieldLink "java/lang/String" 38 "java/lang/String" "COMPACT_STRINGS" "Z")) s1 (fun _ _ h => by rw [hh0]; exact h) (g := (mkF m 0 #[.val (.ref x)] [])) rfl (hb hbytes d0)
  have hh2 := q2.trans hh0
  have c3 : Steps p.tables e below (s₁.setTop (entryFrame m #[.ref x] 1)) (T2.setTop (mkF m 7 #[.val (.ref x)] [.ref x])) := (c1.trans (st2 _ (Steps.refl _))).trans (by
    refine XS.ifNo X2.here hexec rfl (hb hbytes d3) rfl (i0_eq_f hz) ?_
    refine XS.aloadN X2.here hexec rfl (hb hbytes d6) rfl rfl ?_
    exact Steps.refl _)
  obtain ⟨T4, X4, q4, st4⟩ := X2.hget hexec hown (wk W (.fieldLink "java/lang/String" 15 "java/lang/String" "coder" "B")) (hx.mv X2.warmed.alike hh2) (g := (mkF m 7 #[.val (.ref x)] [.ref x])) rfl (rest := []) rfl (hb hbytes d7)
  have c5 : Steps p.tables e below (s₁.setTop (entryFrame m #[.ref x] 1)) (T4.setTop (mkF m 10 #[.val (.ref x)] [.int cd])) := c3.trans (st4 _ (Steps.refl _))
  have c6 : Steps p.tables e below (s₁.setTop (entryFrame m #[.ref x] 1)) (T4.setTop (mkF m 18 #[.val (.ref x)] [.int (1 - cd)])) := by
    rcases hc with rfl | rfl
    · exact c5.trans (by
        refine XS.ifNo X4.here hexec rfl (hb hbytes d10) rfl (i0_ne_f rfl) ?_
        refine iconstV X4.here hexec rfl 1 (hb hbytes d13) (by decide) ?_
        refine XS.goto X4.here hexec rfl (pc0 := 14) rfl (hb hbytes d14) (by decide) rfl ?_
        exact Steps.refl _)
    · exact c5.trans (by
        refine XS.ifYes X4.here hexec rfl (pc0 := 10) rfl (hb hbytes d10) rfl (i0_ne_t (by decide)) (by decide) rfl ?_
        refine iconstV X4.here hexec rfl 0 (hb hbytes d17) (by decide) ?_
        exact Steps.refl _)
  exact ⟨T4, some (.int (1 - cd)), _, _, _, X4, rfl, rfl, rfl, (fun h => by cases h), ⟨rfl, q4.trans hh2⟩, fun fs hl => c6.trans (X4.ireturnOut hexec hret (by rcases hc with rfl | rfl <;> rfl) (Or.inr (Or.inl rfl)) (hb hbytes d18) hl)⟩
end IsL
namespace LChA
def yN : MethodName := ⟨"java/lang/StringLatin1", "charAt", "([BI)C"⟩
abbrev yB : ByteArray := jdk_43_method_2_code
theorem d0 : decode yB 0 = .ok (.iload_n 1, 1) := by decide +kernel
theorem d1 : decode yB 1 = .ok (.aload_n 0, 1) := by decide +kernel
theorem d2 : decode yB 2 = .ok (.arraylength, 1) := by decide +kernel
theorem d3 : decode yB 3 = .ok (.invokestatic 9, 3) := by decide +kernel
theorem d6 : decode yB 6 = .ok (.aload_n 0, 1) := by decide +kernel
theorem d7 : decode yB 7 = .ok (.iload_n 1, 1) := by decide +kernel
theorem d8 : decode yB 8 = .ok (.baload, 1) := by decide +kernel
theorem d9 : decode yB 9 = .ok (.sipush 255, 3) := by decide +kernel
theorem d12 : decode yB 12 = .ok (.iand, 1) := by decide +kernel
theorem d13 : decode yB 13 = .ok (.i2c, 1) := by decide +kernel
theorem d14 : decode yB 14 = .ok (.ireturn, 1) := by decide +kernel
def site : List Cond := [JO.Str_checkIndex.tab] ++ staticW "java/lang/StringLatin1" 9 JO.Str_checkIndex.yN
def tab : Cond := tabOf yN yB 2 (some .char) site
def P (t : Addr) (V : Cell) (i : Nat) (u : Int32) (fm : Value) (args : Array Value) (s : State) : Prop := args = #[.ref t, .int (Int32.ofNat i)] ∧ XT.Arr .byte t V s ∧ V.slots[i]? = some (.int u) ∧ (StaticIs s "jdk/internal/util/Preconditions" "SIOOBE_FORMATTER" "Ljava/util/function/BiFunction;" fm ∧ fm.isRef = true)
def E (u : Int32) (r : Option Value) (s w : State) : Prop := XT.PureE (some (.int (chr8 u))) r s w
theorem law (l : Launch) (t : Addr) (V : Cell) (i : Nat) (u : Int32) (fm : Value) : Law l yN 2 2 2 27 yB 2 (some .char) site (P t V i u fm) (E u) [] 0 0 := by
  refine Law.of_walk (plainFor_of_name (by decide +kernel)) (by decide +kernel) (by decide +kernel) (by decide) (fun _ _ h => by rw [h.1]; rfl) (fun _ U U' hal hh h => ⟨h.1, h.2.1.mv hal hh, h.2.2.1, h.2.2.2.1.there hal hh, h.2.2.2.2⟩) (fun r U U' V V' h1 hal h2 h => XT.PureE.mv r U U' V V' h1 hal h2 h) ?_
  intro p e s m args below meth c s₁ X0 hexec hbytes hml hret hlk hnm hown hh0 W hP
  obtain ⟨rfl, hV, hu, s1, rf⟩ := hP
  have v31 := hV.2.2.2
  have hi : i < V.slots.size := (Array.getElem?_eq_some_iff.mp hu).1
  have c1 : Steps p.tables e below (s₁.setTop (entryFrame m #[.ref t, .int (Int32.ofNat i)] 2)) (s₁.setTop (mkF m 0 #[.val (.ref t), .val (.int (Int32.ofNat i))] [])) := entry rfl
  have c2 : Steps p.tables e below (s₁.setTop (entryFrame m #[.ref t, .int (Int32.ofNat i)] 2)) (s₁.setTop (mkF m 3 #[.val (.ref t), .val (.int (Int32.ofNat i))] [.int (Int32.ofNat V.slots.size), .int (Int32.ofNat i)])) := c1.trans (by
    refine XS.iloadN X0.here hexec rfl (hb hbytes d0) rfl ?_
    refine XS.aloadN X0.here hexec rfl (hb hbytes d1) rfl rfl ?_
    refine X0.alen hexec (hV.mv X0.warmed.alike hh0) rfl rfl (hb hbytes d2) ?_
    exact Steps.refl _)
  obtain ⟨v3, T3, X3, E3, g3⟩ := X0.callS hexec (JO.Str_checkIndex.law l (Int32.ofNat i) (Int32.ofNat V.slots.size) fm) hown (wks W (staticW "java/lang/StringLatin1" 9 JO.Str_checkIndex.yN)) (wk W JO.Str_checkIndex.tab) (W := 0) (Nat.le_of_ble_eq_true rfl) (Nat.le_of_ble_eq_true rfl) (Nat.le_refl _) (Nat.le_refl _) (g := (mkF m 3 #[.val (.ref t), .val (.int (Int32.ofNat i))] [.int (Int32.ofNat V.slots.size), .int (Int32.ofNat i)])) rfl (by rw [hml]; rfl) c2 (argsL := [.int (Int32.ofNat i), .int (Int32.ofNat V.slots.size)]) (rest := []) rfl rfl (by show 2 * 0 + 0 ≤ _; decide) (hb hbytes d3) (⟨rfl, rf, s1.there X0.warmed.alike hh0, Int32.ofNat_not_neg (by omega), lt32 v31 hi⟩)
  obtain ⟨rfl, q3⟩ := E3
  have hh3 := q3.trans hh0
  have c4 : Steps p.tables e below (s₁.setTop (entryFrame m #[.ref t, .int (Int32.ofNat i)] 2)) (T3.setTop (mkF m 14 #[.val (.ref t), .val (.int (Int32.ofNat i))] [.int (chr8 u)])) := Steps.trans g3 (by
    refine XS.aloadN X3.here hexec rfl (hb hbytes d6) rfl rfl ?_
    refine XS.iloadN X3.here hexec rfl (hb hbytes d7) rfl ?_
    refine X3.aget hexec (hV.mv X3.warmed.alike hh3) rfl hu rfl rfl (hb hbytes d8) ?_
    refine sipushV X3.here hexec rfl 255 (hb hbytes d9) (by decide) ?_
    refine XS.iand X3.here hexec rfl (hb hbytes d12) rfl ?_
    refine i2c X3.here hexec rfl (hb hbytes d13) rfl ?_
    exact Steps.refl _)
  exact ⟨T3, some (.int (chr8 u)), _, _, _, X3, rfl, rfl, rfl, (fun h => by cases h), ⟨rfl, hh3⟩, fun fs hl => c4.trans (X3.ireturnOut hexec hret (narrow_c _) (Or.inr (Or.inr (Or.inr (Or.inl rfl)))) (hb hbytes d14) hl)⟩
end LChA
end StrChars
namespace StrChars.Road
open Jvm Sem ClassFile Op Lib Jvm.Stand Jvm.Free Jvm.Free.XT
open Jvm.Lib.Cold (StaticIs)
theorem consq {a : Array Value} {s : State} {c : Jvm.Cond} {L : List Jvm.Cond} (h0 : c.before a s = true) (h : ∀ w ∈ L, w.before a s = true) : ∀ w ∈ c :: L, w.before a s = true := fun w hw => (List.mem_cons.mp hw).elim (fun e => e ▸ h0) (h w)
/-- the words of String.length(), either coding -/
abbrev wordsLen : List Jvm.Cond := [.code Len.yN Len.yB 1 (some .int), .initialized ST, .fieldLink ST 9 ST "value" "[B", .fieldLink ST 38 ST "COMPACT_STRINGS" "Z", .fieldLink ST 15 ST "coder" "B", .code Cdr.yN Cdr.yB 1 (some .byte), .methodLink ST 335 Cdr.yN, .declares Cdr.yN, .selects ST Cdr.yN Cdr.yN, .instanceMethod Cdr.yN]
theorem tabLen_of {a : Array Value} {s : State} (h : ∀ w ∈ wordsLen, w.before a s = true) : Len.tab.before a s = true := by
  have hc : Cdr.tab.before a s = true := unparts (wk h (.code Cdr.yN Cdr.yB 1 (some .byte))) (wks h (.initialized Cdr.yN.cls :: Cdr.site))
  have q := consq hc h
  exact unparts (wk q (.code Len.yN Len.yB 1 (some .int))) (wks q (.initialized Len.yN.cls :: Len.site))
theorem movedLen {Z s : State} {a0 args : Array Value} (hZ : Z.Warmed39 s.vm) (hw : ∀ d ∈ wordsLen, d.before a0 Z = true) : ∀ d ∈ wordsLen, d.before args s = true := fun d hd => by
  have q := hw d hd
  have t : ∀ d ∈ wordsLen, d = .arrayClass .byte ∨ (d.onTables && d.keepsFace) = true := by decide +kernel
  rcases t d hd with rfl | t
  · exact RoadKit.mvA hZ q
  · exact RoadKit.mv hZ q t
/-- the bytes of the chars cs, low before high -/
def wideBytes : List Int32 → List Value
  | [] => []
  | c :: cs => .int (lo8 c) :: .int (hi8 c) :: wideBytes cs
theorem wide_lo (d : Value) : ∀ (cs : List Int32) (j : Nat), j < cs.length → (wideBytes cs).getD (2 * j) d = .int (lo8 (cs.getD j 0))
  | [], j, h => absurd h (Nat.not_lt_zero j)
  | c :: cs, 0, _ => rfl
  | c :: cs, j + 1, h => by
    have q := wide_lo d cs j (by simpa using h)
    rw [show 2 * (j + 1) = 2 * j + 1 + 1 from by omega]
    simpa [wideBytes] using q
theorem wide_hi (d : Value) : ∀ (cs : List Int32) (j : Nat), j < cs.length → (wideBytes cs).getD (2 * j + 1) d = .int (hi8 (cs.getD j 0))
  | [], j, h => absurd h (Nat.not_lt_zero j)
  | c :: cs, 0, _ => rfl
  | c :: cs, j + 1, h => by
    have q := wide_hi d cs j (by simpa using h)
    rw [show 2 * (j + 1) + 1 = 2 * j + 1 + 1 + 1 from by omega]
    simpa [wideBytes] using q
theorem low_at (d : Value) (cs : List Int32) (j : Nat) (h : j < cs.length) : (cs.map fun c => Value.int (lo8 c)).getD j d = .int (lo8 (cs.getD j 0)) := by
  simp [List.getD_eq_getElem?_getD, h]
/-- an array of N2 bytes vs codes the chars cs by the coder cd -/
def CodA (cs : List Int32) (cd N2 : Int32) (vs : List Value) : Prop := (cd = 0 ∧ N2 = Int32.ofNat cs.length ∧ vs = (cs.map fun c => Value.int (lo8 c)) ∧ ∀ c ∈ cs, ¬ 255 < c) ∨ (cd = 1 ∧ N2 = Int32.ofNat (2 * cs.length) ∧ vs = wideBytes cs ∧ ∃ c ∈ cs, 255 < c)
theorem CodA.cod {cs : List Int32} {cd N2 : Int32} {vs : List Value} {V : Cell} (h : CodA cs cd N2 vs) (hn : 2 * cs.length < 2 ^ 31) (hs : V.slots.size = N2.toNatClampNeg) (hv : RoadKit.Has V vs (.int 0)) : Cod cd cs.length (fun j => cs.getD j 0) V := by
  rcases h with ⟨rfl, rfl, rfl, h⟩ | ⟨rfl, rfl, rfl, c, hc, hw⟩
  · rw [n32 (by omega)] at hs
    exact Or.inl ⟨rfl, hs, fun j hj => ⟨by rw [hv j (by omega), low_at _ _ _ hj], by
      have e : cs.getD j 0 = cs[j] := by simp [List.getD_eq_getElem?_getD, hj]
      show ¬ 255 < cs.getD j 0
      rw [e]; exact h _ (List.getElem_mem _)⟩⟩
  · rw [n32 (by omega)] at hs
    obtain ⟨j, hj, rfl⟩ := List.getElem_of_mem hc
    exact Or.inr ⟨rfl, hs, fun j hj => ⟨by rw [hv _ (by omega), wide_lo _ _ _ hj], by rw [hv _ (by omega), wide_hi _ _ _ hj]⟩, j, hj, by
      have e : cs.getD j 0 = cs[j] := by simp [List.getD_eq_getElem?_getD, hj]
      show 255 < cs.getD j 0
      rw [e]; exact hw⟩
/-- an object of exactly java/lang/String, its two fields found: as the laws ask it -/
theorem strObj {Z U : State} {a0 : Array Value} {kI : Nat} (wi : (Jvm.Cond.instantiable ST kI).before a0 Z = true) (al : Z.vm.Alike U.vm) {x : Addr} {v0 c0 : Value} (E : RoadKit.Exa Z U.heap x ST) (V : RoadKit.Fld Z U.heap x ST "value" "[B" v0) (C : RoadKit.Fld Z U.heap x ST "coder" "B" c0) :
    ∃ (D : Cell) (fV fC : Field), Blank ST x D U ∧ Found ST "value" "[B" fV U ∧ Found ST "coder" "B" fC U ∧ D.slots[fV.slot]? = some v0 ∧ D.slots[fC.slot]? = some c0 ∧ RoadKit.slotOf Z ST "value" "[B" = fV.slot ∧ RoadKit.slotOf Z ST "coder" "B" = fC.slot := by
  obtain ⟨D, cfV, kV, iV, fV, hD, gV, stV, knV, obV, asV, slV⟩ := V
  obtain ⟨D', cfC, kC, iC, fC, hD', gC, stC, -, -, asC, slC⟩ := C
  cases hD.symm.trans hD'
  obtain ⟨D2, kD, e1, e2, e3, e4, e5⟩ := E
  cases hD.symm.trans e1
  obtain ⟨c2, k2, i1, i2, i3, -⟩ := Cond.instantiable_spec wi
  cases e2.symm.trans i1
  cases e3.symm.trans i2
  obtain ⟨kU, u1, u2⟩ := al.2.2 _ _ e3
  exact ⟨D, fV, fC, ⟨hD, ⟨knV, fun q hq => by rw [hq] at obV; cases obV⟩, by rw [al.findClass]; exact e2, kU, u1, by rw [u2]; exact i3, by rw [u2]; exact e5 i3⟩, ⟨SBG.found_only al ⟨cfV, kV, iV, gV⟩, stV⟩, ⟨SBG.found_only al ⟨cfC, kC, iC, gC⟩, stC⟩, slV, slC, by simp [RoadKit.slotOf, gV], by simp [RoadKit.slotOf, gC]⟩
theorem sta_is {Z U : State} (al : Z.vm.Alike U.vm) {C n d : String} {v : Value} (S : RoadKit.Sta Z U.heap C n d v) : StaticIs U C n d v := by
  obtain ⟨cfS, iS, kS, fS, st, cS, t1, t2, t3, t4, t5, t6, t7⟩ := S
  exact StaticIs.there (s := { Z with heap := U.heap }) ⟨cfS, iS, kS, fS, st, cS, t1, t2, t3, t4, t5, (fun q => by rw [q] at t6; cases t6), t7⟩ al rfl
/-- **length() OF SUCH A STRING** -/
theorem lenW {p : Program} {l : Launch} {e : Env} {R : Room} {s : State} {args : Array Value} {below : List Frame} {len W : Nat} {Z : State} {a0 : Array Value} {h : Heap} (hZ : Z.Warmed39 s.vm) (hw : ∀ d ∈ wordsLen, d.before a0 Z = true) {kI : Nat} (wi : (Jvm.Cond.instantiable ST kI).before a0 Z = true)
    {x t : Addr} {kb : ClassId} {cs : List Int32} {cd N2 z : Int32} {vs : List Value} (E : RoadKit.Exa Z h x ST) (V : RoadKit.Fld Z h x ST "value" "[B" (.ref t)) (C : RoadKit.Fld Z h x ST "coder" "B" (.int cd)) (K : RoadKit.Arv Z h t kb .byte N2 vs (.int 0)) (hc : CodA cs cd N2 vs) (hb : ∀ c ∈ cs, ¬ c < 0 ∧ ¬ (65535 : Int32) < c)
    (S : RoadKit.Sta Z h ST "COMPACT_STRINGS" "Z" (.int z)) (hz : ¬ z = 0) (l2 : cs.length ≤ 4000) (hfr : 2 ≤ R.frames) (hlo : W + 25 ≤ R.locals) :
    Back l R p e below s args (⟨"java/lang/String", "length", "()I"⟩ : MethodName) len W (fun P a => a = #[.ref x] ∧ P.U.heap = h ∧ P.cells + 0 ≤ R.cells ∧ P.slots + 0 ≤ R.slots)
      (fun P _ v B => ∃ L, (v = some (.int (Int32.ofNat cs.length)) ∧ L = [] ∧ B.U.heap = h) ∧ B.locs = P.locs ++ L ∧ B.cells = P.cells + 0 ∧ B.slots = P.slots + 0) := by
  obtain ⟨A, K1, K2, K3, K4, K5, K6⟩ := K
  have hcod := hc.cod (by omega) K3 K5
  intro m meth c P g ig mk a X hg hsize hdg hW hn hp'
  obtain ⟨rfl, rfl, r1, r2⟩ := hp'
  have al : Z.vm.Alike P.U.vm := hZ.alike.trans X.warmed.alike
  obtain ⟨D, fV, fC, hB, F1, F2, g1, g2, -, -⟩ := strObj wi al E V C
  have hx : Txt x t A cd cs.length (fun j => cs.getD j 0) P.U := ⟨⟨_, hB.2.2.1, D, hB.1, rfl, by cases q : D.vm <;> first | rfl | exact absurd q (hB.2.1.2 _)⟩, Has.of hB F1 g1, Has.of hB F2 g2, ⟨K1.1, State.isArrayOf_alike al K1.2.1, K1.2.2, by rcases hcod with ⟨-, q, -⟩ | ⟨-, q, -⟩ <;> omega⟩, hcod, fun j hj => by
    have e : cs.getD j 0 = cs[j] := by simp [List.getD_eq_getElem?_getD, hj]
    show ¬ cs.getD j 0 < 0 ∧ ¬ 65535 < cs.getD j 0
    rw [e]; exact hb _ (List.getElem_mem _)⟩
  obtain ⟨v, B, X', ⟨⟨hv, hh⟩, hl, hk, hs⟩, st⟩ := Len.pays x t A cd cs.length (fun j => cs.getD j 0) z (tabLen_of (movedLen hZ hw)) hfr hlo m meth c P g ig mk _ X hg hsize hdg hW hn ⟨r1, r2, rfl, hx, sta_is al S, hz⟩
  exact ⟨v, B, X', ⟨[], ⟨hv, rfl, hh⟩, hl, hk, hs⟩, st⟩
end StrChars.Road
namespace StrChars.Road
open Jvm Sem ClassFile Op Lib Jvm.Stand Jvm.Free Jvm.Free.XT
open Jvm.Lib.Cold (StaticIs)
/-- the road's facts of a String, as the laws ask it -/
theorem txt_of {Z U : State} {a0 : Array Value} {kI : Nat} (wi : (Jvm.Cond.instantiable ST kI).before a0 Z = true) (al : Z.vm.Alike U.vm) {x t : Addr} {kb : ClassId} {cs : List Int32} {cd N2 : Int32} {vs : List Value} (E : RoadKit.Exa Z U.heap x ST) (V : RoadKit.Fld Z U.heap x ST "value" "[B" (.ref t)) (C : RoadKit.Fld Z U.heap x ST "coder" "B" (.int cd)) (K : RoadKit.Arv Z U.heap t kb .byte N2 vs (.int 0)) (hc : CodA cs cd N2 vs) (hb : ∀ c ∈ cs, ¬ c < 0 ∧ ¬ (65535 : Int32) < c) (l2 : cs.length ≤ 4000) :
    ∃ A, Txt x t A cd cs.length (fun j => cs.getD j 0) U := by
  obtain ⟨A, K1, K2, K3, K4, K5, K6⟩ := K
  have hcod := hc.cod (by omega) K3 K5
  obtain ⟨D, fV, fC, hB, F1, F2, g1, g2, -, -⟩ := strObj wi al E V C
  exact ⟨A, ⟨_, hB.2.2.1, D, hB.1, rfl, by cases q : D.vm <;> first | rfl | exact absurd q (hB.2.1.2 _)⟩, Has.of hB F1 g1, Has.of hB F2 g2, ⟨K1.1, State.isArrayOf_alike al K1.2.1, K1.2.2, by rcases hcod with ⟨-, q, -⟩ | ⟨-, q, -⟩ <;> omega⟩, hcod, fun j hj => by
    have e : cs.getD j 0 = cs[j] := by simp [List.getD_eq_getElem?_getD, hj]
    show ¬ cs.getD j 0 < 0 ∧ ¬ 65535 < cs.getD j 0
    rw [e]; exact hb _ (List.getElem_mem _)⟩
end StrChars.Road
namespace StrChars
open Jvm Sem ClassFile Op Lib Jvm.Stand Jvm.Free.XT Jvm.Free.ALB Jvm.Free.JM Jvm.Free
open Jvm.Lib.Cold (StaticIs)
namespace ChN
def yN : MethodName := ⟨"java/lang/String", "charAt", "(I)C"⟩
abbrev yB : ByteArray := jdk_42_method_56_code
theorem d0 : decode yB 0 = .ok (.aload_n 0, 1) := by decide +kernel
theorem d1 : decode yB 1 = .ok (.invokevirtual 492, 3) := by decide +kernel
theorem d4 : decode yB 4 = .ok (.ifCond (.eq) 12, 3) := by decide +kernel
theorem d7 : decode yB 7 = .ok (.aload_n 0, 1) := by decide +kernel
theorem d8 : decode yB 8 = .ok (.getfield 9, 3) := by decide +kernel
theorem d11 : decode yB 11 = .ok (.iload_n 1, 1) := by decide +kernel
theorem d12 : decode yB 12 = .ok (.invokestatic 495, 3) := by decide +kernel
theorem d15 : decode yB 15 = .ok (.ireturn, 1) := by decide +kernel
def site : List Cond := [.fieldLink "java/lang/String" 9 "java/lang/String" "value" "[B", IsL.tab, LChA.tab] ++ virtW "java/lang/String" 492 "java/lang/String" IsL.yN IsL.yN ++ staticW "java/lang/String" 495 LChA.yN
def tab : Cond := tabOf yN yB 2 (some .char) site
def P (x t : Addr) (V : Cell) (n : Nat) (f : Nat → Int32) (z : Int32) (fm : Value) (i : Nat) (args : Array Value) (s : State) : Prop := args = #[.ref x, .int (Int32.ofNat i)] ∧ Txt x t V 0 n f s ∧ i < n ∧ StaticIs s "java/lang/String" "COMPACT_STRINGS" "Z" (.int z) ∧ ¬ z = 0 ∧ StaticIs s "jdk/internal/util/Preconditions" "SIOOBE_FORMATTER" "Ljava/util/function/BiFunction;" fm ∧ fm.isRef = true
def E (f : Nat → Int32) (i : Nat) (r : Option Value) (s u : State) : Prop := XT.PureE (some (.int (f i))) r s u
/-- charAt(i) of a Latin-1 String of n chars, i < n: f i -/
theorem law (l : Launch) (x t : Addr) (V : Cell) (n : Nat) (f : Nat → Int32) (z : Int32) (fm : Value) (i : Nat) : Law l yN 2 1 3 40 yB 2 (some .char) site (P x t V n f z fm i) (E f i) [] 0 0 := by
  refine Law.of_walk (plainFor_of_name (by decide +kernel)) (by decide +kernel) (by decide +kernel) (by decide) (fun _ _ h => by rw [h.1]; rfl) (fun _ U U' hal hh h => ⟨h.1, h.2.1.mv hal hh, h.2.2.1, h.2.2.2.1.there hal hh, h.2.2.2.2.1, h.2.2.2.2.2.1.there hal hh, h.2.2.2.2.2.2⟩) (fun r U U' V V' h1 hal h2 h => XT.PureE.mv r U U' V V' h1 hal h2 h) ?_
  intro p e s m args below meth c s₁ X0 hexec hbytes hml hret hlk hnm hown hh0 W hP
  obtain ⟨rfl, hx, hi, s1, hz, s3, rf⟩ := hP
  have v31 := hx.2.2.2.1.2.2.2
  have hr := hx.2.2.2.2.2 i hi
  have hx0 := hx.mv X0.warmed.alike hh0
  have c1 : Steps p.tables e below (s₁.setTop (entryFrame m #[.ref x, .int (Int32.ofNat i)] 2)) (s₁.setTop (mkF m 1 #[.val (.ref x), .val (.int (Int32.ofNat i))] [.ref x])) := Steps.trans (entry rfl) (by
    show Steps p.tables e below (s₁.setTop (mkF m 0 #[.val (.ref x), .val (.int (Int32.ofNat i))] [])) _
    refine XS.aloadN X0.here hexec rfl (hb hbytes d0) rfl rfl ?_
    exact Steps.refl _)
  obtain ⟨v2, T2, X2, E2, g2⟩ := X0.callV hexec (IsL.law l x 0 z) hown (wks W (virtW "java/lang/String" 492 "java/lang/String" IsL.yN IsL.yN)) rfl (by decide) (wk W IsL.tab) (W := 0) (Nat.le_of_ble_eq_true rfl) (Nat.le_of_ble_eq_true rfl) (Nat.le_refl _) (Nat.le_refl _) (hx0.1.fc X0.warmed.alike) hx0.1.is (g := (mkF m 1 #[.val (.ref x), .val (.int (Int32.ofNat i))] [.ref x])) rfl (by rw [hml]; rfl) c1 (argsL := []) (rest := []) rfl rfl (by show 2 * 0 + 0 ≤ _; decide) (hb hbytes d1) (⟨rfl, hx0.2.2.1, hx.2.2.2.2.1.cd, s1.there X0.warmed.alike hh0, hz⟩)
  obtain ⟨rfl, q2⟩ := E2
  have hh2 := q2.trans hh0
  have hx2 := hx.mv X2.warmed.alike hh2
  obtain ⟨-, k1, k2⟩ | ⟨k0, -⟩ := hx.2.2.2.2.1
  · have c3 : Steps p.tables e below (s₁.setTop (entryFrame m #[.ref x, .int (Int32.ofNat i)] 2)) (T2.setTop (mkF m 8 #[.val (.ref x), .val (.int (Int32.ofNat i))] [.ref x])) := Steps.trans g2 (by
      refine XS.ifNo X2.here hexec rfl (hb hbytes d4) rfl (i0_eq_f (by decide)) ?_
      refine XS.aloadN X2.here hexec rfl (hb hbytes d7) rfl rfl ?_
      exact Steps.refl _)
    obtain ⟨T4, X4, q4, st4⟩ := X2.hget hexec hown (wk W (.fieldLink "java/lang/String" 9 "java/lang/String" "value" "[B")) hx2.2.1 (g := (mkF m 8 #[.val (.ref x), .val (.int (Int32.ofNat i))] [.ref x])) rfl (rest := []) rfl (hb hbytes d8)
    have hh4 := q4.trans hh2
    have c5 : Steps p.tables e below (s₁.setTop (entryFrame m #[.ref x, .int (Int32.ofNat i)] 2)) (T4.setTop (mkF m 12 #[.val (.ref x), .val (.int (Int32.ofNat i))] [.int (Int32.ofNat i), .ref t])) := (c3.trans (st4 _ (Steps.refl _))).trans (by
      refine XS.iloadN X4.here hexec rfl (hb hbytes d11) rfl ?_
      exact Steps.refl _)
    obtain ⟨v6, T6, X6, E6, g6⟩ := X4.callS hexec (LChA.law l t V i (lo8 (f i)) fm) hown (wks W (staticW "java/lang/String" 495 LChA.yN)) (wk W LChA.tab) (W := 0) (Nat.le_of_ble_eq_true rfl) (Nat.le_of_ble_eq_true rfl) (Nat.le_refl _) (Nat.le_refl _) (g := (mkF m 12 #[.val (.ref x), .val (.int (Int32.ofNat i))] [.int (Int32.ofNat i), .ref t])) rfl (by rw [hml]; rfl) c5 (argsL := [.ref t, .int (Int32.ofNat i)]) (rest := []) rfl rfl (by show 2 * 0 + 0 ≤ _; decide) (hb hbytes d12) (⟨rfl, hx.2.2.2.1.mv X4.warmed.alike hh4, (k2 i hi).1, s3.there X4.warmed.alike hh4, rf⟩)
    obtain ⟨rfl, q6⟩ := E6
    rw [chr8_lo8 hr.1 (k2 i hi).2] at g6
    exact ⟨T6, some (.int (f i)), _, _, _, X6, rfl, rfl, rfl, (fun h => by cases h), ⟨rfl, q6.trans hh4⟩, fun fs hl => Steps.trans g6 (X6.ireturnOut hexec hret (narrow_ch hr.1 hr.2) (Or.inr (Or.inr (Or.inr (Or.inl rfl)))) (hb hbytes d15) hl)⟩
  · exact absurd k0 (by decide)
theorem pays {l : Launch} {R : Room} {p : Program} {e : Env} {below : List Frame} {s : State} {sargs : Array Value} {len W : Nat} (x t : Addr) (V : Cell) (n : Nat) (f : Nat → Int32) (z : Int32) (fm : Value) (i : Nat) (htab : tab.before sargs s = true) (hfr : 4 ≤ R.frames) (hlo : W + 53 ≤ R.locals) :
    Back l R p e below s sargs yN len W (fun A₁ a₁ => A₁.cells + 0 ≤ R.cells ∧ A₁.slots + 0 ≤ R.slots ∧ P x t V n f z fm i a₁ A₁.U) (fun A₁ _ v₁ B₁ => E f i v₁ A₁.U B₁.U ∧ B₁.locs = A₁.locs ++ [] ∧ B₁.cells = A₁.cells + 0 ∧ B₁.slots = A₁.slots + 0) :=
  (law l x t V n f z fm i).pays htab hfr (by omega)
end ChN
end StrChars
namespace StrChars.Road
open Jvm Sem ClassFile Op Lib Jvm.Stand Jvm.Free Jvm.Free.XT
open Jvm.Lib.Cold (StaticIs)
/-- the words of String.charAt(int), the Latin-1 road alone -/
abbrev wordsChN : List Jvm.Cond := [.code ChN.yN ChN.yB 2 (some .char), .initialized ST, .fieldLink ST 9 ST "value" "[B", .fieldLink ST 38 ST "COMPACT_STRINGS" "Z", .fieldLink ST 15 ST "coder" "B", .code IsL.yN IsL.yB 1 (some .boolean), .methodLink ST 492 IsL.yN, .declares IsL.yN, .selects ST IsL.yN IsL.yN, .instanceMethod IsL.yN,
  .methodLink ST 495 LChA.yN, .static LChA.yN, .code LChA.yN LChA.yB 2 (some .char), .initialized "java/lang/StringLatin1", .methodLink "java/lang/StringLatin1" 9 JO.Str_checkIndex.yN, .static JO.Str_checkIndex.yN, .code JO.Str_checkIndex.yN JO.Str_checkIndex.yB 2 none,
  .fieldLink ST 1053 "jdk/internal/util/Preconditions" "SIOOBE_FORMATTER" "Ljava/util/function/BiFunction;", .methodLink ST 1059 JC.PreCheck.yN, .static JC.PreCheck.yN, .code JC.PreCheck.yN JC.PreCheck.yB 3 (some .int), .initialized "jdk/internal/util/Preconditions"]
theorem tabChN_of {a : Array Value} {s : State} (h : ∀ w ∈ wordsChN, w.before a s = true) : ChN.tab.before a s = true := by
  have hp : JC.PreCheck.tab.before a s = true := unparts (wk h (.code JC.PreCheck.yN JC.PreCheck.yB 3 (some .int))) (wks h (.initialized JC.PreCheck.yN.cls :: JC.PreCheck.site))
  have qk := consq hp h
  have hk : JO.Str_checkIndex.tab.before a s = true := unparts (wk qk (.code JO.Str_checkIndex.yN JO.Str_checkIndex.yB 2 none)) (wks qk (.initialized JO.Str_checkIndex.yN.cls :: JO.Str_checkIndex.site))
  have ql := consq hk h
  have hl : LChA.tab.before a s = true := unparts (wk ql (.code LChA.yN LChA.yB 2 (some .char))) (wks ql (.initialized LChA.yN.cls :: LChA.site))
  have hi : IsL.tab.before a s = true := unparts (wk h (.code IsL.yN IsL.yB 1 (some .boolean))) (wks h (.initialized IsL.yN.cls :: IsL.site))
  have q := consq hi (consq hl h)
  exact unparts (wk q (.code ChN.yN ChN.yB 2 (some .char))) (wks q (.initialized ChN.yN.cls :: ChN.site))
theorem movedChN {Z s : State} {a0 args : Array Value} (hZ : Z.Warmed39 s.vm) (hw : ∀ d ∈ wordsChN, d.before a0 Z = true) : ∀ d ∈ wordsChN, d.before args s = true := fun d hd => by
  have t : ∀ d ∈ wordsChN, (d.onTables && d.keepsFace) = true := by decide +kernel
  exact RoadKit.mv hZ (hw d hd) (t d hd)
/-- **charAt(i) OF A LATIN-1 STRING**, i < n: the char -/
theorem chN {p : Program} {l : Launch} {e : Env} {R : Room} {s : State} {args : Array Value} {below : List Frame} {len W : Nat} {Z : State} {a0 : Array Value} {h : Heap} (hZ : Z.Warmed39 s.vm) (hw : ∀ d ∈ wordsChN, d.before a0 Z = true) {kI : Nat} (wi : (Jvm.Cond.instantiable ST kI).before a0 Z = true)
    {x t : Addr} {kb : ClassId} {cs : List Int32} {N2 z : Int32} {vs : List Value} {fm : Value} {i : Nat} {j : Int32} (E : RoadKit.Exa Z h x ST) (V : RoadKit.Fld Z h x ST "value" "[B" (.ref t)) (C : RoadKit.Fld Z h x ST "coder" "B" (.int 0)) (K : RoadKit.Arv Z h t kb .byte N2 vs (.int 0)) (hc : CodA cs 0 N2 vs) (hb : ∀ c ∈ cs, ¬ c < 0 ∧ ¬ (65535 : Int32) < c)
    (S : RoadKit.Sta Z h ST "COMPACT_STRINGS" "Z" (.int z)) (hz : ¬ z = 0) (F : RoadKit.Sta Z h "jdk/internal/util/Preconditions" "SIOOBE_FORMATTER" "Ljava/util/function/BiFunction;" fm) (rf : fm.isRef = true) (l2 : cs.length ≤ 4000) (hi : i < cs.length) (hj : j = Int32.ofNat i) (hfr : 4 ≤ R.frames) (hlo : W + 53 ≤ R.locals) :
    Back l R p e below s args (⟨"java/lang/String", "charAt", "(I)C"⟩ : MethodName) len W (fun P a => a = #[.ref x, .int j] ∧ P.U.heap = h ∧ P.cells + 0 ≤ R.cells ∧ P.slots + 0 ≤ R.slots)
      (fun P _ v B => ∃ L, (v = some (.int (cs.getD i 0)) ∧ L = [] ∧ B.U.heap = h) ∧ B.locs = P.locs ++ L ∧ B.cells = P.cells + 0 ∧ B.slots = P.slots + 0) := by
  subst hj
  intro m meth c P g ig mk a X hg hsize hdg hW hn hp'
  obtain ⟨rfl, rfl, r1, r2⟩ := hp'
  have al : Z.vm.Alike P.U.vm := hZ.alike.trans X.warmed.alike
  obtain ⟨A, hx⟩ := txt_of wi al E V C K hc hb l2
  obtain ⟨v, B, X', ⟨⟨hv, hh⟩, hl, hk, hs⟩, st⟩ := ChN.pays x t A cs.length (fun j => cs.getD j 0) z fm i (tabChN_of (movedChN hZ hw)) hfr hlo m meth c P g ig mk _ X hg hsize hdg hW hn ⟨r1, r2, rfl, hx, hi, sta_is al S, hz, sta_is al F, rf⟩
  exact ⟨v, B, X', ⟨[], ⟨hv, rfl, hh⟩, hl, hk, hs⟩, st⟩
end StrChars.Road
end Jvm.Pilot.@@N@@
namespace Jvm.Pilot.@@N@@
namespace Own
open Jvm Jvm.ClassFile Sem Op Lib Jvm.Free Jvm.Stand Jvm.LawKit Jvm.RoadKit
/-- what stays through a whole case: the launch, the start, its arguments, the assumed constants, the start heap's size -/
def Gl : Type := Launch × State × Array Value × List (String × Nat) × Nat
def Gl.l (G : Gl) : Launch := G.1
def Gl.Z (G : Gl) : State := G.2.1
def Gl.a0 (G : Gl) : Array Value := G.2.2.1
def Gl.EL (G : Gl) : List (String × Nat) := G.2.2.2.1
def Gl.n0 (G : Gl) : Nat := G.2.2.2.2
/-- one run of one body -/
def Rn : Type := Program × Env × State × MethodId × Array Value × List Frame × Method × Code
def Rn.p (X : Rn) : Program := X.1
def Rn.e (X : Rn) : Env := X.2.1
def Rn.s (X : Rn) : State := X.2.2.1
def Rn.m (X : Rn) : MethodId := X.2.2.2.1
def Rn.args (X : Rn) : Array Value := X.2.2.2.2.1
def Rn.below (X : Rn) : List Frame := X.2.2.2.2.2.1
def Rn.meth (X : Rn) : Method := X.2.2.2.2.2.2.1
def Rn.c (X : Rn) : Code := X.2.2.2.2.2.2.2
/-- one body: its name, bytes, locals, what it returns, its room -/
def Bo : Type := MethodName × ByteArray × Nat × Option FieldType × Room
abbrev Bo.y (M : Bo) : MethodName := M.1
abbrev Bo.bytes (M : Bo) : ByteArray := M.2.1
abbrev Bo.maxL (M : Bo) : Nat := M.2.2.1
abbrev Bo.ret (M : Bo) : Option FieldType := M.2.2.2.1
abbrev Bo.R (M : Bo) : Room := M.2.2.2.2
/-- what is known of a run's body throughout -/
def Fixd (G : Gl) (X : Rn) (M : Bo) : Prop := X.p.tables.exec = Jvm.exec ∧ X.c.code = M.bytes ∧ X.c.maxLocals = M.maxL ∧ X.meth.sig.returnType = M.ret ∧ X.meth.locks = false ∧ X.meth.name = M.y.name ∧ EW G.Z G.a0 G.EL
/-- WHERE A WALK STANDS: the tables of its base vm, the state T, its heap h, at most C new cells of S slots -/
def Here (G : Gl) (X : Rn) (M : Bo) (vm : Vm) (T : State) (h : Heap) (C S : Nat) : Prop :=
  Fixd G X M ∧ ∃ (k0 : Nat) (locs : List Loc) (cells slots : Nat), Stand X.p G.l X.e M.R (X.s.setVm vm) X.m X.args X.below X.meth X.c T locs cells slots ∧ T.heap = h ∧ X.s.Since vm k0 ∧ k0 ≤ h.size ∧ G.Z.Warmed39 vm ∧ vm.findClass M.y.cls = some X.m.cls ∧
    CHr G.Z G.EL X.s.vm X.s.heap vm h ∧ Fr G.n0 locs ∧ Old G.Z G.n0 h ∧ cells ≤ C ∧ slots ≤ S
/-- THE GOAL: from this frame the body comes to its end, and there Q holds -/
def Go (G : Gl) (X : Rn) (M : Bo) (Q : Option Value → Heap → Prop) (T : State) (pc : Nat) (Ls : Array Slot) (st : List Value) : Prop :=
  ∃ s₂ o, Steps X.p.tables X.e X.below (T.setTop (mkF X.m pc Ls st)) s₂ ∧ s₂.status = .running ∧ Ended s₂ X.below o ∧ ∃ v L, o = .returned v ∧ (Q v s₂.heap ∧ Fr G.n0 L ∧ Old G.Z G.n0 s₂.heap) ∧ CHr G.Z G.EL X.s.vm X.s.heap s₂.vm s₂.heap ∧ ReturnedEndW X.s o s₂ L M.R.cells M.R.slots
/-- A BODY's CONTRACT: called with as' in the heap h (the places sf not booked by a constant), it returns and Q holds -/
def Con (G : Gl) (ws : List Jvm.Cond) (M : Bo) (as' : Array Value) (h : Heap) (sf : List Addr) (Q : Option Value → Heap → Prop) : Prop :=
  MetFree G.l M.y (head1 (Jvm.Cond.code M.y M.bytes M.maxL M.ret :: ws) M.R) (fun a U => a = as' ∧ G.Z.Warmed39 U.vm ∧ U.heap = h ∧ CHv G.Z G.EL U.vm h ∧ ∀ x ∈ sf, Safe G.Z G.EL U.vm h x) (fun _ _ _ _ _ => True)
    (fun _ U o U' => ∃ v L, o = .returned v ∧ (Q v U'.heap ∧ Fr G.n0 L ∧ Old G.Z G.n0 U'.heap) ∧ CHr G.Z G.EL U.vm U.heap U'.vm U'.heap ∧ ReturnedEndW U o U' L M.R.cells M.R.slots)
/-- A CALL THAT IS PAID -/
def Pay (G : Gl) (X : Rn) (M : Bo) (vm : Vm) (h : Heap) (y : MethodName) (len W : Nat) (as' : Array Value) (kc ks : Nat) (Q : Option Value → Heap → Prop) : Prop :=
  BackS G.l M.R X.p X.e X.below (X.s.setVm vm) X.args y len W (fun A a => a = as' ∧ A.U.heap = h ∧ A.cells + kc ≤ M.R.cells ∧ A.slots + ks ≤ M.R.slots)
    (fun A _ v B => ∃ L, (Q v B.U.heap ∧ Fr G.n0 L ∧ Old G.Z G.n0 B.U.heap) ∧ B.locs = A.locs ++ L ∧ B.cells ≤ A.cells + kc ∧ B.slots ≤ A.slots + ks ∧ CHr G.Z G.EL vm h B.U.vm B.U.heap)
section Kit
variable {G : Gl} {X : Rn} {M : Bo} {vm : Vm} {T : State} {h : Heap} {C S : Nat} {Q : Option Value → Heap → Prop} {pc pc' : Nat} {Ls Ls' : Array Slot} {st : List Value}
theorem Go.stp {T' : State} {st' : List Value} (hs : ∀ t, Steps X.p.tables X.e X.below (T'.setTop (mkF X.m pc' Ls' st')) t → Steps X.p.tables X.e X.below (T.setTop (mkF X.m pc Ls st)) t) (k : Go G X M Q T' pc' Ls' st') : Go G X M Q T pc Ls st := by
  obtain ⟨s₂, o, h1, r⟩ := k
  exact ⟨s₂, o, hs _ h1, r⟩
theorem Here.x (W : Here G X M vm T h C S) : X.p.tables.exec = Jvm.exec := W.1.1
theorem Here.d (W : Here G X M vm T h C S) {pc : Nat} {r : Except ClassFile.DecodeError (ClassFile.Instr × Nat)} (h2 : ClassFile.decode M.bytes pc = r) : ClassFile.decode X.c.code pc = r := hb W.1.2.1 h2
theorem Here.at (W : Here G X M vm T h C S) : Jvm.At T X.m X.c X.below := by obtain ⟨-, _, _, _, _, X1, -⟩ := W; exact X1.here
theorem Here.old (W : Here G X M vm T h C S) : Old G.Z G.n0 h := by obtain ⟨-, _, _, _, _, -, -, -, -, -, -, -, -, o, -⟩ := W; exact o
theorem Here.ch (W : Here G X M vm T h C S) : CHv G.Z G.EL vm h := by obtain ⟨-, _, _, _, _, -, -, -, -, -, -, q, -⟩ := W; exact q.1
theorem Here.wz (W : Here G X M vm T h C S) : G.Z.Warmed39 vm := by obtain ⟨-, _, _, _, _, -, -, -, -, q, -⟩ := W; exact q
theorem Here.le (W : Here G X M vm T h C S) {C' S' : Nat} (hc : C ≤ C') (hs : S ≤ S') : Here G X M vm T h C' S' := by
  obtain ⟨F, k0, L, c, s, h1, h2, h3, h4, h5, h6, h7, h8, h9, h10, h11⟩ := W
  exact ⟨F, k0, L, c, s, h1, h2, h3, h4, h5, h6, h7, h8, h9, Nat.le_trans h10 hc, Nat.le_trans h11 hs⟩
theorem Here.n0 (W : Here G X M vm T h C S) : G.n0 ≤ h.size := W.old.1 ▸ W.old.2.1
/-- the start heap's fact, now -/
theorem Here.sta (W : Here G X M vm T h C S) {c n d : String} {v : Value} (F : Sta G.Z G.Z.heap c n d v) : Sta G.Z h c n d v := F.ext W.old.2
/-! ### plain steps -/
theorem iconst (W : Here G X M vm T h C S) {i : Int} (hd : decode M.bytes pc = .ok (.iconst i, 1)) (pc' : Nat) (hp : pc + 1 = pc') (v : Int32) (hv : Int32.ofInt i = v) (k : Go G X M Q T pc' Ls (.int v :: st)) : Go G X M Q T pc Ls st := by
  subst hp hv; exact Go.stp (fun t r => XS.iconst W.at W.x rfl (W.d hd) r) k
theorem bipush (W : Here G X M vm T h C S) {i : Int} (hd : decode M.bytes pc = .ok (.bipush i, 2)) (pc' : Nat) (hp : pc + 2 = pc') (v : Int32) (hv : (Int8.ofInt i).toInt32 = v) (k : Go G X M Q T pc' Ls (.int v :: st)) : Go G X M Q T pc Ls st := by
  subst hp hv; exact Go.stp (fun t r => XS.bipush W.at W.x rfl (W.d hd) r) k
theorem sipush (W : Here G X M vm T h C S) {i : Int} (hd : decode M.bytes pc = .ok (.sipush i, 3)) (pc' : Nat) (hp : pc + 3 = pc') (v : Int32) (hv : (Int16.ofInt i).toInt32 = v) (k : Go G X M Q T pc' Ls (.int v :: st)) : Go G X M Q T pc Ls st := by
  subst hp hv; exact Go.stp (fun t r => XS.sipush W.at W.x rfl (W.d hd) r) k
theorem aconstNull (W : Here G X M vm T h C S) (hd : decode M.bytes pc = .ok (.aconst_null, 1)) (pc' : Nat) (hp : pc + 1 = pc') (k : Go G X M Q T pc' Ls (.null :: st)) : Go G X M Q T pc Ls st := by
  subst hp; exact Go.stp (fun t r => XS.aconstNull W.at W.x rfl (W.d hd) r) k
theorem iloadN (W : Here G X M vm T h C S) {j : Fin 4} (hd : decode M.bytes pc = .ok (.iload_n j, 1)) (pc' : Nat) (hp : pc + 1 = pc') (v : Int32) (hl : Ls[j.val]? = some (.val (.int v))) (k : Go G X M Q T pc' Ls (.int v :: st)) : Go G X M Q T pc Ls st := by
  subst hp; exact Go.stp (fun t r => XS.iloadN W.at W.x rfl (W.d hd) hl r) k
theorem iload (W : Here G X M vm T h C S) {j : Nat} (hd : decode M.bytes pc = .ok (.iload j, 2)) (pc' : Nat) (hp : pc + 2 = pc') (v : Int32) (hl : Ls[j]? = some (.val (.int v))) (k : Go G X M Q T pc' Ls (.int v :: st)) : Go G X M Q T pc Ls st := by
  subst hp; exact Go.stp (fun t r => XS.iload W.at W.x rfl (W.d hd) hl r) k
theorem aloadN (W : Here G X M vm T h C S) {j : Fin 4} (hd : decode M.bytes pc = .ok (.aload_n j, 1)) (pc' : Nat) (hp : pc + 1 = pc') (v : Value) (hl : Ls[j.val]? = some (.val v)) (hv : v.isRef = true) (k : Go G X M Q T pc' Ls (v :: st)) : Go G X M Q T pc Ls st := by
  subst hp; exact Go.stp (fun t r => XS.aloadN W.at W.x rfl (W.d hd) hl hv r) k
theorem aload (W : Here G X M vm T h C S) {j : Nat} (hd : decode M.bytes pc = .ok (.aload j, 2)) (pc' : Nat) (hp : pc + 2 = pc') (v : Value) (hl : Ls[j]? = some (.val v)) (hv : v.isRef = true) (k : Go G X M Q T pc' Ls (v :: st)) : Go G X M Q T pc Ls st := by
  subst hp; exact Go.stp (fun t r => XS.aload W.at W.x rfl (W.d hd) hl hv r) k
theorem istoreN (W : Here G X M vm T h C S) {j : Fin 4} {x : Int32} (hd : decode M.bytes pc = .ok (.istore_n j, 1)) (pc' : Nat) (hp : pc + 1 = pc') (Ls' : Array Slot) (hl : storeLocals Ls j.val (.int x) = some Ls') (k : Go G X M Q T pc' Ls' st) : Go G X M Q T pc Ls (.int x :: st) := by
  subst hp; exact Go.stp (fun t r => XS.istoreN W.at W.x rfl (W.d hd) rfl hl r) k
theorem istore (W : Here G X M vm T h C S) {j : Nat} {x : Int32} (hd : decode M.bytes pc = .ok (.istore j, 2)) (pc' : Nat) (hp : pc + 2 = pc') (Ls' : Array Slot) (hl : storeLocals Ls j (.int x) = some Ls') (k : Go G X M Q T pc' Ls' st) : Go G X M Q T pc Ls (.int x :: st) := by
  subst hp; exact Go.stp (fun t r => XS.istore W.at W.x rfl (W.d hd) rfl hl r) k
theorem astoreN (W : Here G X M vm T h C S) {j : Fin 4} {x : Value} (hd : decode M.bytes pc = .ok (.astore_n j, 1)) (pc' : Nat) (hp : pc + 1 = pc') (hv : x.isRef = true) (Ls' : Array Slot) (hl : storeLocals Ls j.val x = some Ls') (k : Go G X M Q T pc' Ls' st) : Go G X M Q T pc Ls (x :: st) := by
  subst hp; exact Go.stp (fun t r => XS.astoreN W.at W.x rfl (W.d hd) rfl hv hl r) k
theorem astore (W : Here G X M vm T h C S) {j : Nat} {x : Value} (hd : decode M.bytes pc = .ok (.astore j, 2)) (pc' : Nat) (hp : pc + 2 = pc') (hv : x.isRef = true) (Ls' : Array Slot) (hl : storeLocals Ls j x = some Ls') (k : Go G X M Q T pc' Ls' st) : Go G X M Q T pc Ls (x :: st) := by
  subst hp; exact Go.stp (fun t r => XS.astore W.at W.x rfl (W.d hd) rfl hv hl r) k
theorem iinc (W : Here G X M vm T h C S) {j : Nat} {cst : Int} {x : Int32} (hd : decode M.bytes pc = .ok (.iinc j cst, 3)) (pc' : Nat) (hp : pc + 3 = pc') (hl : Ls[j]? = some (.val (.int x))) (Ls' : Array Slot) (hl' : storeLocals Ls j (.int (x + Int32.ofInt cst)) = some Ls') (k : Go G X M Q T pc' Ls' st) : Go G X M Q T pc Ls st := by
  subst hp; exact Go.stp (fun t r => XS.iinc W.at W.x rfl (W.d hd) hl hl' r) k
theorem iadd (W : Here G X M vm T h C S) {x y : Int32} (hd : decode M.bytes pc = .ok (.iadd, 1)) (pc' : Nat) (hp : pc + 1 = pc') (k : Go G X M Q T pc' Ls (.int (x + y) :: st)) : Go G X M Q T pc Ls (.int y :: .int x :: st) := by
  subst hp; exact Go.stp (fun t r => XS.iadd W.at W.x rfl (W.d hd) rfl r) k
theorem isub (W : Here G X M vm T h C S) {x y : Int32} (hd : decode M.bytes pc = .ok (.isub, 1)) (pc' : Nat) (hp : pc + 1 = pc') (k : Go G X M Q T pc' Ls (.int (x - y) :: st)) : Go G X M Q T pc Ls (.int y :: .int x :: st) := by
  subst hp; exact Go.stp (fun t r => XS.isub W.at W.x rfl (W.d hd) rfl r) k
theorem iand (W : Here G X M vm T h C S) {x y : Int32} (hd : decode M.bytes pc = .ok (.iand, 1)) (pc' : Nat) (hp : pc + 1 = pc') (k : Go G X M Q T pc' Ls (.int (x &&& y) :: st)) : Go G X M Q T pc Ls (.int y :: .int x :: st) := by
  subst hp; exact Go.stp (fun t r => XS.iand W.at W.x rfl (W.d hd) rfl r) k
theorem ixor (W : Here G X M vm T h C S) {x y : Int32} (hd : decode M.bytes pc = .ok (.ixor, 1)) (pc' : Nat) (hp : pc + 1 = pc') (k : Go G X M Q T pc' Ls (.int (x ^^^ y) :: st)) : Go G X M Q T pc Ls (.int y :: .int x :: st) := by
  subst hp; exact Go.stp (fun t r => XS.ixor W.at W.x rfl (W.d hd) rfl r) k
theorem iushr (W : Here G X M vm T h C S) {x y : Int32} (hd : decode M.bytes pc = .ok (.iushr, 1)) (pc' : Nat) (hp : pc + 1 = pc') (k : Go G X M Q T pc' Ls (.int ((x.toUInt32 >>> (y &&& 31).toUInt32).toInt32) :: st)) : Go G X M Q T pc Ls (.int y :: .int x :: st) := by
  subst hp; exact Go.stp (fun t r => XS.iushr W.at W.x rfl (W.d hd) rfl r) k
theorem ineg (W : Here G X M vm T h C S) {x : Int32} (hd : decode M.bytes pc = .ok (.ineg, 1)) (pc' : Nat) (hp : pc + 1 = pc') (k : Go G X M Q T pc' Ls (.int (-x) :: st)) : Go G X M Q T pc Ls (.int x :: st) := by
  subst hp; exact Go.stp (fun t r => XS.ineg W.at W.x rfl (W.d hd) rfl r) k
theorem i2c (W : Here G X M vm T h C S) {x : Int32} (hd : decode M.bytes pc = .ok (.i2c, 1)) (pc' : Nat) (hp : pc + 1 = pc') (k : Go G X M Q T pc' Ls (.int x.toUInt32.toUInt16.toUInt32.toInt32 :: st)) : Go G X M Q T pc Ls (.int x :: st) := by
  subst hp; exact Go.stp (fun t r => XS.i2c W.at W.x rfl (W.d hd) rfl r) k
theorem i2b (W : Here G X M vm T h C S) {x : Int32} (hd : decode M.bytes pc = .ok (.i2b, 1)) (pc' : Nat) (hp : pc + 1 = pc') (k : Go G X M Q T pc' Ls (.int x.toInt8.toInt32 :: st)) : Go G X M Q T pc Ls (.int x :: st) := by
  subst hp; exact Go.stp (fun t r => XS.i2b W.at W.x rfl (W.d hd) rfl r) k
theorem irem (W : Here G X M vm T h C S) {x y : Int32} (hd : decode M.bytes pc = .ok (.irem, 1)) (pc' : Nat) (hp : pc + 1 = pc') (hy : y ≠ 0) (k : Go G X M Q T pc' Ls (.int (x % y) :: st)) : Go G X M Q T pc Ls (.int y :: .int x :: st) := by
  subst hp
  obtain ⟨F, k0, L, c, s, X1, -⟩ := id W
  exact Go.stp (fun t r => iremM X1 W.x rfl (W.d hd) rfl hy r) k
theorem dup (W : Here G X M vm T h C S) {x : Value} (hd : decode M.bytes pc = .ok (.dup, 1)) (pc' : Nat) (hp : pc + 1 = pc') (hc : x.category = 1) (k : Go G X M Q T pc' Ls (x :: x :: st)) : Go G X M Q T pc Ls (x :: st) := by
  subst hp; exact Go.stp (fun t r => XS.dup W.at W.x rfl (W.d hd) rfl hc r) k
theorem pop (W : Here G X M vm T h C S) {x : Value} (hd : decode M.bytes pc = .ok (.pop, 1)) (pc' : Nat) (hp : pc + 1 = pc') (hc : x.category = 1) (k : Go G X M Q T pc' Ls st) : Go G X M Q T pc Ls (x :: st) := by
  subst hp; exact Go.stp (fun t r => XS.pop W.at W.x rfl (W.d hd) rfl hc r) k
theorem goto (W : Here G X M vm T h C S) {o : Int} (hd : decode M.bytes pc = .ok (.goto o, 3)) (pc' : Nat) (ho : 0 ≤ (pc : Int) + o) (hp : ((pc : Int) + o).toNat = pc') (k : Go G X M Q T pc' Ls st) : Go G X M Q T pc Ls st :=
  Go.stp (fun t r => XS.goto W.at W.x rfl (pc0 := pc) (pc' := pc') rfl (W.d hd) ho hp r) k
theorem ifYes (W : Here G X M vm T h C S) {cd : ClassFile.Cond} {x : Int32} {o : Int} (hd : decode M.bytes pc = .ok (.ifCond cd o, 3)) (pc' : Nat) (hc : ifCond.holds cd x = true) (ho : 0 ≤ (pc : Int) + o) (hp : ((pc : Int) + o).toNat = pc') (k : Go G X M Q T pc' Ls st) : Go G X M Q T pc Ls (.int x :: st) :=
  Go.stp (fun t r => XS.ifYes W.at W.x rfl (pc0 := pc) (pc' := pc') rfl (W.d hd) rfl hc ho hp r) k
theorem ifNo (W : Here G X M vm T h C S) {cd : ClassFile.Cond} {x : Int32} {o : Int} (hd : decode M.bytes pc = .ok (.ifCond cd o, 3)) (pc' : Nat) (hc : ifCond.holds cd x = false) (hp : pc + 3 = pc') (k : Go G X M Q T pc' Ls st) : Go G X M Q T pc Ls (.int x :: st) := by
  subst hp; exact Go.stp (fun t r => XS.ifNo W.at W.x rfl (W.d hd) rfl hc r) k
theorem icmpYes (W : Here G X M vm T h C S) {cd : ClassFile.Cond} {x y : Int32} {o : Int} (hd : decode M.bytes pc = .ok (.if_icmp cd o, 3)) (pc' : Nat) (hc : if_icmp.holds cd x y = true) (ho : 0 ≤ (pc : Int) + o) (hp : ((pc : Int) + o).toNat = pc') (k : Go G X M Q T pc' Ls st) : Go G X M Q T pc Ls (.int y :: .int x :: st) :=
  Go.stp (fun t r => XS.icmpYes W.at W.x rfl (pc0 := pc) (pc' := pc') rfl (W.d hd) rfl hc ho hp r) k
theorem icmpNo (W : Here G X M vm T h C S) {cd : ClassFile.Cond} {x y : Int32} {o : Int} (hd : decode M.bytes pc = .ok (.if_icmp cd o, 3)) (pc' : Nat) (hc : if_icmp.holds cd x y = false) (hp : pc + 3 = pc') (k : Go G X M Q T pc' Ls st) : Go G X M Q T pc Ls (.int y :: .int x :: st) := by
  subst hp; exact Go.stp (fun t r => XS.icmpNo W.at W.x rfl (W.d hd) rfl hc r) k
theorem ifnullYes (W : Here G X M vm T h C S) {o : Int} (hd : decode M.bytes pc = .ok (.ifnull o, 3)) (pc' : Nat) (ho : 0 ≤ (pc : Int) + o) (hp : ((pc : Int) + o).toNat = pc') (k : Go G X M Q T pc' Ls st) : Go G X M Q T pc Ls (.null :: st) :=
  Go.stp (fun t r => XS.ifnullYes W.at W.x rfl (pc0 := pc) (pc' := pc') rfl (W.d hd) rfl ho hp r) k
theorem ifnullNo (W : Here G X M vm T h C S) {o : Int} {b : Addr} (hd : decode M.bytes pc = .ok (.ifnull o, 3)) (pc' : Nat) (hp : pc + 3 = pc') (k : Go G X M Q T pc' Ls st) : Go G X M Q T pc Ls (.ref b :: st) := by
  subst hp; exact Go.stp (fun t r => XS.ifnullNo W.at W.x rfl (W.d hd) rfl r) k
theorem ifnonnullYes (W : Here G X M vm T h C S) {o : Int} {b : Addr} (hd : decode M.bytes pc = .ok (.ifnonnull o, 3)) (pc' : Nat) (ho : 0 ≤ (pc : Int) + o) (hp : ((pc : Int) + o).toNat = pc') (k : Go G X M Q T pc' Ls st) : Go G X M Q T pc Ls (.ref b :: st) :=
  Go.stp (fun t r => XT.nonnullYes W.at W.x rfl (pc0 := pc) (pc' := pc') rfl (W.d hd) rfl rfl (fun q => nomatch q) ho hp r) k
theorem ifnonnullNo (W : Here G X M vm T h C S) {o : Int} (hd : decode M.bytes pc = .ok (.ifnonnull o, 3)) (pc' : Nat) (hp : pc + 3 = pc') (k : Go G X M Q T pc' Ls st) : Go G X M Q T pc Ls (.null :: st) := by
  subst hp; exact Go.stp (fun t r => XT.nonnullNo W.at W.x rfl (W.d hd) rfl rfl r) k
theorem acmp (W : Here G X M vm T h C S) {cd : ACond} {x y : Value} {o : Int} (hd : decode M.bytes pc = .ok (.if_acmp cd o, 3)) (pc' : Nat) (h1 : x.isRef = true) (h2 : y.isRef = true) (same : Bool) (hs : decide (x = y) = same) (ho : 0 ≤ (pc : Int) + o) (hp : pc' = if acV cd same = true then ((pc : Int) + o).toNat else pc + 3) (k : Go G X M Q T pc' Ls st) : Go G X M Q T pc Ls (y :: x :: st) := by
  obtain ⟨F, k0, L, c, s, X1, -⟩ := id W
  exact Go.stp (fun t r => Jvm.RoadKit.acmp (g := mkF X.m pc Ls (y :: x :: st)) X1 W.x rfl h1 h2 (pc0 := pc) (pc' := pc') (same := same) rfl (W.d hd) rfl hs ho hp r) k
end Kit
end Own
end Jvm.Pilot.@@N@@
namespace Jvm.Pilot.@@N@@
namespace Own
open Jvm Jvm.ClassFile Sem Op Lib Jvm.Free Jvm.Stand Jvm.LawKit Jvm.RoadKit
section Kit2
variable {G : Gl} {X : Rn} {M : Bo} {vm : Vm} {T : State} {h : Heap} {C S : Nat} {Q : Option Value → Heap → Prop} {pc pc' : Nat} {Ls Ls' : Array Slot} {st : List Value}
theorem Ext.rfl' (h : Heap) : Ext h h := ⟨Nat.le_refl _, fun _ _ q => q⟩
theorem Ext.tr {h1 h2 h3 : Heap} (a : Ext h1 h2) (b : Ext h2 h3) : Ext h1 h3 := ⟨Nat.le_trans a.1 b.1, fun x c q => b.2 x c (a.2 x c q)⟩
theorem Ext.wr' {h1 h2 h3 : Heap} {a : Addr} {sl : Nat} {v : Value} (e : Ext h1 h2) (w : Wr h2 h3 a sl v) (ha : h1.size ≤ a) : Ext h1 h3 := ⟨Nat.le_trans e.1 (Keep.of_wr w).1, fun x c q => (Keep.of_wr w).2.1 x c (e.2 x c q) fun z => by
  cases List.mem_singleton.mp z; exact absurd (Array.getElem?_eq_some_iff.mp q).1 (Nat.not_lt.mpr ha)⟩
theorem Ext.kp {h1 h2 h3 : Heap} {ws : List Addr} (e : Ext h1 h2) (k : Keep h2 h3 ws) (ha : ∀ x ∈ ws, h1.size ≤ x) : Ext h1 h3 := ⟨Nat.le_trans e.1 k.1, fun x c q => k.2.1 x c (e.2 x c q) fun z => absurd (Array.getElem?_eq_some_iff.mp q).1 (Nat.not_lt.mpr (ha x z))⟩
theorem Ext.keep {h1 h2 : Heap} (e : Ext h1 h2) : Keep h1 h2 [] := ⟨e.1, fun x c q _ => e.2 x c q, fun x c q => ⟨c, e.2 x c q, rfl, rfl, rfl⟩⟩
/-! ### the end -/
theorem Go.retW (W : Here G X M vm T h C S) (hC : C ≤ M.R.cells) (hS : S ≤ M.R.slots) {v : Option Value} (hv : M.ret = none → v = none)
    (hst : ∀ fs, (∀ (f : JFrame) (acts : List Action), f.method = X.m → f.locked = none → f.entered = [] → (doReturn X.e (T.setTop f) acts v).1 = T.setFrames fs) → Steps X.p.tables X.e X.below (T.setTop (mkF X.m pc Ls st)) (T.setFrames fs)) (hQ : Q v h) : Go G X M Q T pc Ls st := by
  obtain ⟨⟨hx, hby, hml, hret, hlk, hnm, hEL⟩, k0, L, c, s, X1, e1, S1, hk, hZ, hown, hCH, N, O, c1, s1⟩ := W
  obtain ⟨fs, hr, hrun, hended, h1, h2, h3, h4⟩ := X1.leaveW S1 (by rw [e1]; exact hk) (v := v) (fun q => hv (hret.symm.trans q)) hlk
  refine ⟨_, _, hst fs hr, hrun, hended, v, L, rfl, ⟨?_, N, ?_⟩, ?_, h1, h2, h3, h4.mono (Nat.le_trans c1 hC) (Nat.le_trans s1 hS)⟩
  · show Q v T.heap
    rw [e1]; exact hQ
  · show Old G.Z G.n0 T.heap
    rw [e1]; exact O
  · show CHr G.Z G.EL X.s.vm X.s.heap T.vm T.heap
    rw [e1]; exact hCH.trans (CHv.at X1 hZ hEL hCH.1)
theorem retI (W : Here G X M vm T h C S) (hC : C ≤ M.R.cells) (hS : S ≤ M.R.slots) (hr : M.ret = some .int) (hd : decode M.bytes pc = .ok (.ireturn, 1)) {z : Int32} (hQ : Q (some (.int z)) h) : Go G X M Q T pc Ls (.int z :: st) := by
  obtain ⟨F, k0, L, c, s, X1, -⟩ := id W
  exact Go.retW W hC hS (fun q => by rw [hr] at q; cases q) (fun fs q => retOut X1 W.x (F.2.2.2.1.trans hr) rfl (Or.inl ⟨rfl, Or.inl rfl, z, rfl⟩) (W.d hd) q) hQ
theorem retB (W : Here G X M vm T h C S) (hC : C ≤ M.R.cells) (hS : S ≤ M.R.slots) (hr : M.ret = some .boolean) (hd : decode M.bytes pc = .ok (.ireturn, 1)) {z : Int32} (hz : narrow .boolean (.int z) = .int z) (hQ : Q (some (.int z)) h) : Go G X M Q T pc Ls (.int z :: st) := by
  obtain ⟨F, k0, L, c, s, X1, -⟩ := id W
  exact Go.retW W hC hS (fun q => by rw [hr] at q; cases q) (fun fs q => retOut X1 W.x (F.2.2.2.1.trans hr) hz (Or.inl ⟨rfl, Or.inr (Or.inl rfl), z, rfl⟩) (W.d hd) q) hQ
theorem retC (W : Here G X M vm T h C S) (hC : C ≤ M.R.cells) (hS : S ≤ M.R.slots) (hr : M.ret = some .char) (hd : decode M.bytes pc = .ok (.ireturn, 1)) {z : Int32} (hz : narrow .char (.int z) = .int z) (hQ : Q (some (.int z)) h) : Go G X M Q T pc Ls (.int z :: st) := by
  obtain ⟨F, k0, L, c, s, X1, -⟩ := id W
  exact Go.retW W hC hS (fun q => by rw [hr] at q; cases q) (fun fs q => retOut X1 W.x (F.2.2.2.1.trans hr) hz (Or.inl ⟨rfl, Or.inr (Or.inr (Or.inr (Or.inl rfl))), z, rfl⟩) (W.d hd) q) hQ
theorem retY (W : Here G X M vm T h C S) (hC : C ≤ M.R.cells) (hS : S ≤ M.R.slots) (hr : M.ret = some .byte) (hd : decode M.bytes pc = .ok (.ireturn, 1)) {z : Int32} (hz : narrow .byte (.int z) = .int z) (hQ : Q (some (.int z)) h) : Go G X M Q T pc Ls (.int z :: st) := by
  obtain ⟨F, k0, L, c, s, X1, -⟩ := id W
  exact Go.retW W hC hS (fun q => by rw [hr] at q; cases q) (fun fs q => retOut X1 W.x (F.2.2.2.1.trans hr) hz (Or.inl ⟨rfl, Or.inr (Or.inr (Or.inl rfl)), z, rfl⟩) (W.d hd) q) hQ
theorem retA (W : Here G X M vm T h C S) (hC : C ≤ M.R.cells) (hS : S ≤ M.R.slots) {t : FieldType} (hr : M.ret = some t) (ht : t.isReference = true) {w : Value} (hw : w.isRef = true) (hd : decode M.bytes pc = .ok (.areturn, 1)) (hQ : Q (some w) h) : Go G X M Q T pc Ls (w :: st) := by
  obtain ⟨F, k0, L, c, s, X1, -⟩ := id W
  refine Go.retW W hC hS (fun q => by rw [hr] at q; cases q) (fun fs q => retOut X1 W.x (F.2.2.2.1.trans hr) ?_ (Or.inr (Or.inr (Or.inr (Or.inr ⟨rfl, ht, hw⟩)))) (W.d hd) q) hQ
  rcases ref_cases hw with rfl | ⟨b, rfl⟩ <;> cases t <;> first | rfl | cases ht
theorem retL (W : Here G X M vm T h C S) (hC : C ≤ M.R.cells) (hS : S ≤ M.R.slots) (hr : M.ret = some .long) (hd : decode M.bytes pc = .ok (.lreturn, 1)) {z : Int64} (hQ : Q (some (.long z)) h) : Go G X M Q T pc Ls (.long z :: st) := by
  obtain ⟨F, k0, L, c, s, X1, -⟩ := id W
  exact Go.retW W hC hS (fun q => by rw [hr] at q; cases q) (fun fs q => retOut X1 W.x (F.2.2.2.1.trans hr) rfl (Or.inr (Or.inl ⟨rfl, rfl, z, rfl⟩)) (W.d hd) q) hQ
theorem retV (W : Here G X M vm T h C S) (hC : C ≤ M.R.cells) (hS : S ≤ M.R.slots) (hr : M.ret = none) (hd : decode M.bytes pc = .ok (.return_, 1)) (hQ : Q none h) : Go G X M Q T pc Ls [] := by
  obtain ⟨F, k0, L, c, s, X1, -⟩ := id W
  exact Go.retW W hC hS (fun _ => rfl) (fun fs q => X1.returnOut W.x (F.2.2.2.1.trans hr) (W.d hd) q) hQ
/-! ### the entry -/
theorem Con.intro {ws : List Jvm.Cond} {as' : Array Value} {sf : List Addr} (hpn : plainFor M.y = true) (hO : Old G.Z G.n0 h) (hEL : EW G.Z G.a0 G.EL) (Ls0 : Array Slot) (hef : ∀ m, entryFrame m as' M.maxL = mkF m 0 Ls0 [])
    (body : ∀ (X : Rn) (T : State), Here G X M X.s.vm T h 0 0 → (∀ x ∈ sf, Safe G.Z G.EL X.s.vm h x) → Go G X M Q T 0 Ls0 []) : Con G ws M as' h sf Q := by
  refine MetFree.of_bodySF hpn hisR ?_
  intro p e s m args below meth c s₁ Bd hml0 hP hK
  obtain ⟨rfl, hZ, rfl, hCH, hsf⟩ := hP
  have hown : s.vm.findClass M.y.cls = some m.cls := findClass_of_methodNamed Bd.named
  have hnm := (name_of_methodNamed Bd.named Bd.method).1
  have X0 : Stand p G.l e M.R s m args below meth c s₁ [] 0 0 := Stand.of_body Bd
  have e0 : s₁.heap = s.heap := by rw [Bd.state]; rfl
  have q := body (p, e, s, m, args, below, meth, c) s₁ ⟨⟨Bd.exec, Bd.bytes, hml0, Bd.returns, Bd.notSynchronized, hnm, hEL⟩, s.heap.size, [], 0, 0, X0, e0, (State.WarmedH.refl s).since _, Nat.le_refl _, hZ, hown, CHr.refl hCH, Fr.nil _, hO, Nat.le_refl 0, Nat.le_refl 0⟩ hsf
  rw [hef m]
  exact q
/-! ### calls -/
theorem Con.pay {N : Bo} {as' : Array Value} {sf : List Addr} {Qy : Option Value → Heap → Prop} (K : Con G [] N as' h sf Qy) (W : Here G X M vm T h C S) (wc : (Jvm.Cond.code N.y N.bytes N.maxL N.ret).before G.a0 G.Z = true) (wz : (Jvm.Cond.initialized N.y.cls).before G.a0 G.Z = true) {len wd : Nat}
    (hf : N.R.frames + 1 ≤ M.R.frames) (hl : wd + (N.maxL + 11) + N.R.locals ≤ M.R.locals) (hsf : ∀ x ∈ sf, x < h.size ∧ Safe G.Z G.EL vm h x) : Pay G X M vm h N.y len wd as' N.R.cells N.R.slots Qy := by
  have hZ := W.wz
  have hEL := W.1.2.2.2.2.2.2
  have H := W.ch
  exact BackS.of_freeW (bytes := N.bytes) (maxL := N.maxL) (ret := N.ret) (E := fun _ first o t L k n => k = N.R.cells ∧ n = N.R.slots ∧ (∃ v, o = .returned v ∧ Qy v t.heap ∧ Fr G.n0 L ∧ Old G.Z G.n0 t.heap) ∧ CHr G.Z G.EL first.vm first.heap t.vm t.heap) K hf hl
    (fun m meth c A a Y hp => have hU : G.Z.Warmed39 A.U.vm := wtrans (s := X.s.setVm vm) hZ Y.warmed
      ⟨by show (Cond.and _ .tt).before a A.U = true; rw [Cond.before_and, mv hU wc]; rfl, mv hU wc, mv hU wz, hp.2.2.1, hp.2.2.2⟩)
    (fun m meth c A a g mk Y hp => ⟨hp.1, wtrans (s := X.s.setVm vm) hZ Y.warmed, hp.2.1, (CHv.at Y hZ hEL H).1, fun x hx => (CHv.at Y hZ hEL H).safe (hsf x hx).1 (hsf x hx).2⟩) (fun _ _ _ _ _ _ _ _ _ => trivial)
    (fun _ _ _ _ ⟨v, L, h1, h2, h3, h4⟩ => ⟨L, _, _, h4, rfl, rfl, ⟨v, h1, h2⟩, h3⟩)
    (fun m meth c A a g mk v t L k n Y hp _ _ ⟨e1, e2, ⟨v', e3, e4⟩, e5⟩ => by
      cases e3; subst e1 e2
      refine ⟨L, e4, rfl, Nat.le_refl _, Nat.le_refl _, (CHv.at Y hZ hEL H).trans ?_⟩
      rw [← hp.2.1]; exact e5)
/-- a law of the other shape pays too: its callee interns nothing -/
theorem payB {y : MethodName} {len wd kc ks : Nat} {as' : Array Value} {Qy : Option Value → Heap → List Loc → Prop} {Q' : Option Value → Heap → Prop}
    (B : Back G.l M.R X.p X.e X.below (X.s.setVm vm) X.args y len wd (fun P a => a = as' ∧ P.U.heap = h ∧ P.cells + kc ≤ M.R.cells ∧ P.slots + ks ≤ M.R.slots) (fun P _ v B => ∃ L, Qy v B.U.heap L ∧ B.locs = P.locs ++ L ∧ B.cells = P.cells + kc ∧ B.slots = P.slots + ks))
    (W : Here G X M vm T h C S) (hq : ∀ v h' L, Qy v h' L → Q' v h' ∧ Fr G.n0 L ∧ Old G.Z G.n0 h' ∧ CHr G.Z G.EL vm h vm h') : Pay G X M vm h y len wd as' kc ks Q' := by
  intro m meth c A g ig mk a X1 hg hsize hdg hW hn hp
  obtain ⟨v, B', X', ⟨L, q, e1, e2, e3⟩, st⟩ := B m meth c A g ig mk a X1 hg hsize hdg hW hn hp
  obtain ⟨q1, q2, q3, q4⟩ := hq _ _ _ q
  refine ⟨v, B', X'.retabled X'.warmed.wide, X'.warmed.since _, ?_, ⟨L, ⟨q1, q2, q3⟩, e1, Nat.le_of_eq e2, Nat.le_of_eq e3, q4.trans (CHv.at X' W.wz W.1.2.2.2.2.2.2 q4.1)⟩, st⟩
  rw [hp.2.1]; exact q4.2.1
theorem Here.call (W : Here G X M vm T h C S) {kc ks C' S' : Nat} {v : Option Value} {Qy : Option Value → Heap → Prop} (hc : C + kc ≤ C') (hs : S + ks ≤ S')
    {k0 : Nat} {locs : List Loc} {cells slots : Nat} (hS : X.s.Since vm k0) (hk : k0 ≤ h.size) (hown : vm.findClass M.y.cls = some X.m.cls) (hCH : CHr G.Z G.EL X.s.vm X.s.heap vm h) (hF : Fr G.n0 locs) (c1 : cells ≤ C) (s1 : slots ≤ S) {B : Pt}
    (X' : Stand X.p G.l X.e M.R ((X.s.setVm vm).setVm B.U.vm) X.m X.args X.below X.meth X.c B.U B.locs B.cells B.slots) (h2 : (X.s.setVm vm).Since B.U.vm B.U.heap.size) (hg : h.size ≤ B.U.heap.size) {L : List Loc}
    (hq : (Qy v B.U.heap ∧ Fr G.n0 L ∧ Old G.Z G.n0 B.U.heap) ∧ B.locs = locs ++ L ∧ B.cells ≤ cells + kc ∧ B.slots ≤ slots + ks ∧ CHr G.Z G.EL vm h B.U.vm B.U.heap) : Here G X M B.U.vm B.U B.U.heap C' S' := by
  obtain ⟨X2, S2, Z2, o2⟩ := rebS hS hk X' h2 hg W.wz hown
  obtain ⟨⟨-, q2, q3⟩, e1, e2, e3, q4⟩ := hq
  refine ⟨W.1, _, _, _, _, X2, rfl, S2, Nat.le_refl _, Z2, o2, hCH.trans q4, ?_, q3, ?_, ?_⟩
  · rw [e1]; exact hF.app q2
  · omega
  · omega
theorem callS (W : Here G X M vm T h C S) {y : MethodName} {idx : Nat} {bytes : ByteArray} {maxL : Nat} {ret : Option FieldType} (w1 : (Jvm.Cond.methodLink M.y.cls idx y).before G.a0 G.Z = true) (w2 : (Jvm.Cond.static y).before G.a0 G.Z = true) (w3 : (Jvm.Cond.initialized y.cls).before G.a0 G.Z = true) (w4 : (Jvm.Cond.code y bytes maxL ret).before G.a0 G.Z = true)
    (hy : y.cls ≠ "java/lang/invoke/MethodHandle" ∧ y.cls ≠ "java/lang/invoke/VarHandle") {wd kc ks : Nat} {argsL rest : List Value} {Qy : Option Value → Heap → Prop} (P : Pay G X M vm h y 3 wd argsL.toArray kc ks Qy) (hsz : Ls.size = M.maxL) (hlen : ∀ sig, parseMethodDescriptor y.desc = some sig → argsL.length = sig.parameters.length)
    (hstk : st = argsL.reverse ++ rest) (hwd : (rest.map fun v => v.category).sum ≤ wd) (hd : decode M.bytes pc = .ok (.invokestatic idx, 3)) (pc' : Nat) (hp : pc + 3 = pc') (C' S' : Nat) (hc : C + kc ≤ C') (hs : S + ks ≤ S') (hc' : C' ≤ M.R.cells) (hs' : S' ≤ M.R.slots)
    (k : ∀ (vm' : Vm) (T' : State) (h' : Heap) (v : Option Value), Here G X M vm' T' h' C' S' → CHr G.Z G.EL vm h vm' h' → Qy v h' → Go G X M Q T' pc' Ls (v.toList ++ rest)) : Go G X M Q T pc Ls st := by
  subst hp hstk
  obtain ⟨F, k0, locs, cells, slots, X1, e1, hS, hk, hZ, hown, hCH, hF, O, c1, s1⟩ := id W
  subst e1
  obtain ⟨v, vm₁, B, -, X', h2, hg, ⟨L, hq⟩, st'⟩ := callSS X1 W.x (y := y) hown (mv (s := X.s.setVm vm) hZ w1) (mv (s := X.s.setVm vm) hZ w2) (mv (s := X.s.setVm vm) hZ w3) (mv (s := X.s.setVm vm) hZ w4) hy P (g := mkF X.m pc Ls (argsL.reverse ++ rest)) rfl (hsz.trans F.2.2.1.symm) (argsL := argsL) (rest := rest) hlen rfl (by show 2 * 0 + _ ≤ _; omega) (W.d hd) (fun _ _ => ⟨rfl, rfl, by show cells + kc ≤ _; omega, by show slots + ks ≤ _; omega⟩)
  exact Go.stp (fun t r => st'.trans r) (k B.U.vm B.U B.U.heap v (Here.call W hc hs hS hk hown hCH hF c1 s1 X' h2 hg hq) hq.2.2.2.2 hq.1.1)
theorem callX (W : Here G X M vm T h C S) {y : MethodName} {idx : Nat} {bytes : ByteArray} {maxL : Nat} (hy1 : y.name = "<init>") (w1 : (Jvm.Cond.methodLink M.y.cls idx y).before G.a0 G.Z = true) (w2 : (Jvm.Cond.instanceMethod y).before G.a0 G.Z = true) (w4 : (Jvm.Cond.code y bytes maxL none).before G.a0 G.Z = true)
    (hy : y.cls ≠ "java/lang/invoke/MethodHandle" ∧ y.cls ≠ "java/lang/invoke/VarHandle") {wd kc ks : Nat} {a : Addr} {argsL rest : List Value} {Qy : Option Value → Heap → Prop} (P : Pay G X M vm h y 3 wd (.ref a :: argsL).toArray kc ks Qy) (hsz : Ls.size = M.maxL) (hlen : ∀ sig, parseMethodDescriptor y.desc = some sig → argsL.length = sig.parameters.length)
    (hstk : st = argsL.reverse ++ .ref a :: rest) (hwd : (rest.map fun v => v.category).sum ≤ wd) (hd : decode M.bytes pc = .ok (.invokespecial idx, 3)) (pc' : Nat) (hp : pc + 3 = pc') (C' S' : Nat) (hc : C + kc ≤ C') (hs : S + ks ≤ S') (hc' : C' ≤ M.R.cells) (hs' : S' ≤ M.R.slots)
    (k : ∀ (vm' : Vm) (T' : State) (h' : Heap) (v : Option Value), Here G X M vm' T' h' C' S' → CHr G.Z G.EL vm h vm' h' → Qy v h' → Go G X M Q T' pc' Ls (v.toList ++ rest)) : Go G X M Q T pc Ls st := by
  subst hp hstk
  obtain ⟨F, k0, locs, cells, slots, X1, e1, hS, hk, hZ, hown, hCH, hF, O, c1, s1⟩ := id W
  subst e1
  obtain ⟨v, vm₁, B, -, X', h2, hg, ⟨L, hq⟩, st'⟩ := X1.specialBackS W.x (y := y) hy1 hown (mv (s := X.s.setVm vm) hZ w1) (mv (s := X.s.setVm vm) hZ w2) (mv (s := X.s.setVm vm) hZ w4) hy P (g := mkF X.m pc Ls (argsL.reverse ++ .ref a :: rest)) rfl (hsz.trans F.2.2.1.symm) (Steps.refl _) (a := a) (argsL := argsL) (rest := rest) hlen rfl (by show 2 * 0 + _ ≤ _; omega) (W.d hd) (fun _ _ => ⟨rfl, rfl, by show cells + kc ≤ _; omega, by show slots + ks ≤ _; omega⟩)
  exact Go.stp (fun t r => st'.trans r) (k B.U.vm B.U B.U.heap v (Here.call W hc hs hS hk hown hCH hF c1 s1 X' h2 hg hq) hq.2.2.2.2 hq.1.1)
theorem callV (W : Here G X M vm T h C S) {y z : MethodName} {idx : Nat} {cl : String} (w1 : (Jvm.Cond.methodLink M.y.cls idx y).before G.a0 G.Z = true) (w2 : (Jvm.Cond.declares y).before G.a0 G.Z = true) (nf : ∀ s : State, G.Z.Warmed39 s.vm → NotFace s y) (w3 : (Jvm.Cond.selects cl y z).before G.a0 G.Z = true) (w4 : (Jvm.Cond.instanceMethod z).before G.a0 G.Z = true)
    (hy : y.cls ≠ "java/lang/invoke/MethodHandle" ∧ y.cls ≠ "java/lang/invoke/VarHandle") {wd kc ks : Nat} {a : Addr} {argsL rest : List Value} {Qy : Option Value → Heap → Prop} (P : Pay G X M vm h z 3 wd (.ref a :: argsL).toArray kc ks Qy) (E : Exa G.Z h a cl) (hsz : Ls.size = M.maxL) (hlen : ∀ sig, parseMethodDescriptor y.desc = some sig → argsL.length = sig.parameters.length)
    (hstk : st = argsL.reverse ++ .ref a :: rest) (hwd : (rest.map fun v => v.category).sum ≤ wd) (hd : decode M.bytes pc = .ok (.invokevirtual idx, 3)) (pc' : Nat) (hp : pc + 3 = pc') (C' S' : Nat) (hc : C + kc ≤ C') (hs : S + ks ≤ S') (hc' : C' ≤ M.R.cells) (hs' : S' ≤ M.R.slots)
    (k : ∀ (vm' : Vm) (T' : State) (h' : Heap) (v : Option Value), Here G X M vm' T' h' C' S' → CHr G.Z G.EL vm h vm' h' → Qy v h' → Go G X M Q T' pc' Ls (v.toList ++ rest)) : Go G X M Q T pc Ls st := by
  subst hp hstk
  obtain ⟨F, k0, locs, cells, slots, X1, e1, hS, hk, hZ, hown, hCH, hF, O, c1, s1⟩ := id W
  obtain ⟨cq, kq, qa, qb, qc⟩ := isOf (s := X.s.setVm vm) hZ e1 E
  subst e1
  obtain ⟨v, vm₁, B, -, X', h2, hg, ⟨L, hq⟩, st'⟩ := X1.virtualBackS W.x (y := y) (z := z) hown (mv (s := X.s.setVm vm) hZ w1) (mv (s := X.s.setVm vm) hZ w2) (nf _ hZ) (mv (s := X.s.setVm vm) hZ w3) (mv (s := X.s.setVm vm) hZ w4) hy P qa qc (g := mkF X.m pc Ls (argsL.reverse ++ .ref a :: rest)) rfl (hsz.trans F.2.2.1.symm) (Steps.refl _) (argsL := argsL) (rest := rest) hlen rfl (by show 2 * 0 + _ ≤ _; omega) (W.d hd) (fun _ _ => ⟨rfl, rfl, by show cells + kc ≤ _; omega, by show slots + ks ≤ _; omega⟩)
  exact Go.stp (fun t r => st'.trans r) (k B.U.vm B.U B.U.heap v (Here.call W hc hs hS hk hown hCH hF c1 s1 X' h2 hg hq) hq.2.2.2.2 hq.1.1)
theorem callI (W : Here G X M vm T h C S) {y z : MethodName} {idx count : Nat} {cl : String} (w1 : (Jvm.Cond.methodLink M.y.cls idx y).before G.a0 G.Z = true) (w2 : (Jvm.Cond.declares y).before G.a0 G.Z = true) (wf : (Jvm.Cond.interfaceMethod y.cls y.cls y.name y.desc).before G.a0 G.Z = true) (hfa : ((Jvm.Cond.interfaceMethod y.cls y.cls y.name y.desc).onTables && (Jvm.Cond.interfaceMethod y.cls y.cls y.name y.desc).keepsFace) = true) (w3 : (Jvm.Cond.selects cl y z).before G.a0 G.Z = true) (w4 : (Jvm.Cond.instanceMethod z).before G.a0 G.Z = true)
    (w5 : (Jvm.Cond.publicMethod z).before G.a0 G.Z = true) (w6 : (Jvm.Cond.unhidden cl y.name y.desc).before G.a0 G.Z = true) (w7 : (Jvm.Cond.castable cl y.cls).before G.a0 G.Z = true)
    (hy : y.cls ≠ "java/lang/invoke/MethodHandle" ∧ y.cls ≠ "java/lang/invoke/VarHandle") {wd kc ks : Nat} {a : Addr} {argsL rest : List Value} {Qy : Option Value → Heap → Prop} (P : Pay G X M vm h z 5 wd (.ref a :: argsL).toArray kc ks Qy) (E : Exa G.Z h a cl) (hsz : Ls.size = M.maxL) (hlen : ∀ sig, parseMethodDescriptor y.desc = some sig → argsL.length = sig.parameters.length)
    (hstk : st = argsL.reverse ++ .ref a :: rest) (hwd : (rest.map fun v => v.category).sum ≤ wd) (hd : decode M.bytes pc = .ok (.invokeinterface idx count, 5)) (pc' : Nat) (hp : pc + 5 = pc') (C' S' : Nat) (hc : C + kc ≤ C') (hs : S + ks ≤ S') (hc' : C' ≤ M.R.cells) (hs' : S' ≤ M.R.slots)
    (k : ∀ (vm' : Vm) (T' : State) (h' : Heap) (v : Option Value), Here G X M vm' T' h' C' S' → CHr G.Z G.EL vm h vm' h' → Qy v h' → Go G X M Q T' pc' Ls (v.toList ++ rest)) : Go G X M Q T pc Ls st := by
  subst hp hstk
  obtain ⟨F, k0, locs, cells, slots, X1, e1, hS, hk, hZ, hown, hCH, hF, O, c1, s1⟩ := id W
  obtain ⟨cq, kq, qa, qb, qc⟩ := isOf (s := X.s.setVm vm) hZ e1 E
  subst e1
  obtain ⟨v, vm₁, B, -, X', h2, hg, ⟨L, hq⟩, st'⟩ := X1.interfaceBackS W.x (xi := y) (y := z) hown (mv (s := X.s.setVm vm) hZ w1) (mv (s := X.s.setVm vm) hZ w2) (mv (s := X.s.setVm vm) hZ wf hfa) (mv (s := X.s.setVm vm) hZ w3) (mv (s := X.s.setVm vm) hZ w4) (mv (s := X.s.setVm vm) hZ w5) (mv (s := X.s.setVm vm) hZ w6) (mv (s := X.s.setVm vm) hZ w7) hy P qa qb qc (g := mkF X.m pc Ls (argsL.reverse ++ .ref a :: rest)) rfl (hsz.trans F.2.2.1.symm) (Steps.refl _) (argsL := argsL) (rest := rest) hlen rfl (by show 2 * 0 + _ ≤ _; omega) (W.d hd) (fun _ _ => ⟨rfl, rfl, by show cells + kc ≤ _; omega, by show slots + ks ≤ _; omega⟩)
  exact Go.stp (fun t r => st'.trans r) (k B.U.vm B.U B.U.heap v (Here.call W hc hs hS hk hown hCH hF c1 s1 X' h2 hg hq) hq.2.2.2.2 hq.1.1)
/-! ### steps on the heap -/
theorem Here.ext (W : Here G X M vm T h C S) {T' : State} {h' : Heap} {k0 : Nat} {locs : List Loc} {cells slots C' S' : Nat} (hS : X.s.Since vm k0) (hk : k0 ≤ h.size) (hown : vm.findClass M.y.cls = some X.m.cls) (hCH : CHr G.Z G.EL X.s.vm X.s.heap vm h) (hF : Fr G.n0 locs)
    (X' : Stand X.p G.l X.e M.R (X.s.setVm vm) X.m X.args X.below X.meth X.c T' locs cells slots) (e' : T'.heap = h') (E : Ext h h') (hc : cells ≤ C') (hs : slots ≤ S') : Here G X M vm T' h' C' S' :=
  ⟨W.1, k0, locs, cells, slots, X', e', hS, Nat.le_trans hk E.1, W.wz, hown, hCH.trans (CHr.ext E hCH.1), hF, W.old.ext E, hc, hs⟩
theorem newO (W : Here G X M vm T h C S) {cl : String} {idx n : Nat} (w : (Jvm.Cond.classLink M.y.cls idx cl).before G.a0 G.Z = true) (wi : (Jvm.Cond.instantiable cl n).before G.a0 G.Z = true) (wz : (Jvm.Cond.initialized cl).before G.a0 G.Z = true) (hd : decode M.bytes pc = .ok (.new idx, 3)) (pc' : Nat) (hp : pc + 3 = pc') (C' S' : Nat) (hc : C + 1 ≤ C') (hs : S + n ≤ S') (hc' : C' ≤ M.R.cells) (hs' : S' ≤ M.R.slots)
    (k : ∀ (T' : State) (h' : Heap) (a : Addr), a = h.size → Here G X M vm T' h' C' S' → Ext h h' → Exa G.Z h' a cl → (∀ {O nm d : String} {ty : FieldType}, Laid G.Z G.a0 cl O nm d → parseFieldDescriptor d = some ty → Fld G.Z h' a O nm d (defaultValue ty)) → Safe G.Z G.EL vm h' a → (∀ y, Safe G.Z G.EL vm h y → Safe G.Z G.EL vm h' y) → Go G X M Q T' pc' Ls (.ref a :: st)) : Go G X M Q T pc Ls st := by
  subst hp
  obtain ⟨F, k0, locs, cells, slots, X1, e1, hS, hk, hZ, hown, hCH, hF, O, c1, s1⟩ := id W
  obtain ⟨T', h', X', e', E, A, D, -, st'⟩ := RoadKit.newO X1 W.x hZ hown w wi wz e1 (g := mkF X.m pc Ls st) rfl (W.d hd) (by omega) (by omega)
  exact Go.stp (fun t r => st' t r) (k T' h' h.size rfl (Here.ext W hS hk hown hCH hF X' e' E (by omega) (by omega)) E A D (Safe.ext E hCH.1 (Safe.new (Nat.le_refl _))) (fun y q => Safe.ext E hCH.1 q))
theorem newA (W : Here G X M vm T h C S) {aty : ArrayType} {n : Int32} (w : (Jvm.Cond.arrayClass (newarray.typeOf aty)).before G.a0 G.Z = true) (hd : decode M.bytes pc = .ok (.newarray aty, 2)) (pc' : Nat) (hp : pc + 2 = pc') (hn : ¬ n < 0) (cap : Nat) (hcap : n.toNatClampNeg ≤ cap) (hb : cap * 8 ≤ 536870912) (C' S' : Nat) (hc : C + 1 ≤ C') (hs : S + cap ≤ S') (hc' : C' ≤ M.R.cells) (hs' : S' ≤ M.R.slots)
    (k : ∀ (T' : State) (h' : Heap) (a : Addr) (kA : ClassId), a = h.size → Here G X M vm T' h' C' S' → Ext h h' → Arv G.Z h' a kA (newarray.typeOf aty) n (List.replicate cap (defaultValue (newarray.typeOf aty))) (defaultValue (newarray.typeOf aty)) → Safe G.Z G.EL vm h' a → (∀ y, Safe G.Z G.EL vm h y → Safe G.Z G.EL vm h' y) → Go G X M Q T' pc' Ls (.ref a :: st)) : Go G X M Q T pc Ls (.int n :: st) := by
  subst hp
  obtain ⟨F, k0, locs, cells, slots, X1, e1, hS, hk, hZ, hown, hCH, hF, O, c1, s1⟩ := id W
  obtain ⟨T', h', kA, X', e', E, A, st'⟩ := RoadKit.newP X1 W.x hZ w e1 (g := mkF X.m pc Ls (.int n :: st)) rfl (W.d hd) rfl hn hcap hb (by omega) (by omega)
  exact Go.stp (fun t r => st' t r) (k T' h' h.size kA rfl (Here.ext W hS hk hown hCH hF X' e' E (by omega) (by omega)) E ((Arv.new A hn).pad (pad_rep [] _ cap)) (Safe.ext E hCH.1 (Safe.new (Nat.le_refl _))) (fun y q => Safe.ext E hCH.1 q))
theorem getF (W : Here G X M vm T h C S) {R0 O n d : String} {idx : Nat} {a : Addr} {v : Value} (w : (Jvm.Cond.fieldLink M.y.cls idx R0 n d).before G.a0 G.Z = true) (via : Via G.Z R0 O n d) (F : Fld G.Z h a O n d v) (hd : decode M.bytes pc = .ok (.getfield idx, 3)) (pc' : Nat) (hp : pc + 3 = pc')
    (k : ∀ T' : State, Here G X M vm T' h C S → Go G X M Q T' pc' Ls (v :: st)) : Go G X M Q T pc Ls (.ref a :: st) := by
  subst hp
  obtain ⟨F', k0, locs, cells, slots, X1, e1, hS, hk, hZ, hown, hCH, hF, O', c1, s1⟩ := id W
  obtain ⟨T', X', e', st'⟩ := RoadKit.getF X1 W.x hZ hown (host := "") (Or.inl w) via e1 F (g := mkF X.m pc Ls (.ref a :: st)) rfl rfl (W.d hd)
  exact Go.stp (fun t r => st' t r) (k T' (Here.ext W hS hk hown hCH hF X' e' (Ext.rfl' h) c1 s1))
theorem getS (W : Here G X M vm T h C S) {R0 O n d : String} {idx : Nat} {v : Value} (w : (Jvm.Cond.fieldLink M.y.cls idx R0 n d).before G.a0 G.Z = true) (via : Via G.Z R0 O n d) (F : Sta G.Z h O n d v) (hd : decode M.bytes pc = .ok (.getstatic idx, 3)) (pc' : Nat) (hp : pc + 3 = pc')
    (k : ∀ T' : State, Here G X M vm T' h C S → Go G X M Q T' pc' Ls (v :: st)) : Go G X M Q T pc Ls st := by
  subst hp
  obtain ⟨F', k0, locs, cells, slots, X1, e1, hS, hk, hZ, hown, hCH, hF, O', c1, s1⟩ := id W
  obtain ⟨T', X', e', st'⟩ := RoadKit.getS X1 W.x hZ (host := "") hown w via e1 F (g := mkF X.m pc Ls st) rfl (W.d hd)
  exact Go.stp (fun t r => st' t r) (k T' (Here.ext W hS hk hown hCH hF X' e' (Ext.rfl' h) c1 s1))
theorem castY (W : Here G X M vm T h C S) {K : String} {idx : Nat} {a : Addr} (w : (Jvm.Cond.classLink M.y.cls idx K).before G.a0 G.Z = true) (F : Ins G.Z h a K true) (hd : decode M.bytes pc = .ok (.checkcast idx, 3)) (pc' : Nat) (hp : pc + 3 = pc')
    (k : ∀ T' : State, Here G X M vm T' h C S → Go G X M Q T' pc' Ls (.ref a :: st)) : Go G X M Q T pc Ls (.ref a :: st) := by
  subst hp
  obtain ⟨F', k0, locs, cells, slots, X1, e1, hS, hk, hZ, hown, hCH, hF, O', c1, s1⟩ := id W
  obtain ⟨T', X', e', st'⟩ := RoadKit.castY X1 W.x hZ hown w e1 F (g := mkF X.m pc Ls (.ref a :: st)) rfl rfl (W.d hd)
  exact Go.stp (fun t r => st' t r) (k T' (Here.ext W hS hk hown hCH hF X' e' (Ext.rfl' h) c1 s1))
theorem instY (W : Here G X M vm T h C S) {K : String} {idx : Nat} {a : Addr} (w : (Jvm.Cond.classLink M.y.cls idx K).before G.a0 G.Z = true) (F : Ins G.Z h a K true) (hd : decode M.bytes pc = .ok (.instanceof idx, 3)) (pc' : Nat) (hp : pc + 3 = pc')
    (k : ∀ T' : State, Here G X M vm T' h C S → Go G X M Q T' pc' Ls (.int 1 :: st)) : Go G X M Q T pc Ls (.ref a :: st) := by
  subst hp
  obtain ⟨F', k0, locs, cells, slots, X1, e1, hS, hk, hZ, hown, hCH, hF, O', c1, s1⟩ := id W
  obtain ⟨T', X', e', st'⟩ := RoadKit.instY X1 W.x hZ hown w e1 F (g := mkF X.m pc Ls (.ref a :: st)) rfl rfl (W.d hd)
  exact Go.stp (fun t r => st' t r) (k T' (Here.ext W hS hk hown hCH hF X' e' (Ext.rfl' h) c1 s1))
theorem instNo (W : Here G X M vm T h C S) {K c0 : String} {idx : Nat} {a : Addr} (w : (Jvm.Cond.classLink M.y.cls idx K).before G.a0 G.Z = true) (E : Exa G.Z h a c0) (F : ∃ c t, G.Z.vm.findClass c0 = some c ∧ G.Z.vm.findClass K = some t ∧ G.Z.vm.assignable c t = false) (hd : decode M.bytes pc = .ok (.instanceof idx, 3)) (pc' : Nat) (hp : pc + 3 = pc')
    (k : ∀ T' : State, Here G X M vm T' h C S → Go G X M Q T' pc' Ls (.int 0 :: st)) : Go G X M Q T pc Ls (.ref a :: st) := by
  subst hp
  obtain ⟨F', k0, locs, cells, slots, X1, e1, hS, hk, hZ, hown, hCH, hF, O', c1, s1⟩ := id W
  obtain ⟨T', X', e', st'⟩ := RoadKit.instNo X1 W.x hZ hown w e1 E F (g := mkF X.m pc Ls (.ref a :: st)) rfl rfl (W.d hd)
  exact Go.stp (fun t r => st' t r) (k T' (Here.ext W hS hk hown hCH hF X' e' (Ext.rfl' h) c1 s1))
theorem instNull (W : Here G X M vm T h C S) {idx : Nat} (hd : decode M.bytes pc = .ok (.instanceof idx, 3)) (pc' : Nat) (hp : pc + 3 = pc') (k : Go G X M Q T pc' Ls (.int 0 :: st)) : Go G X M Q T pc Ls (.null :: st) := by
  subst hp
  obtain ⟨F', k0, locs, cells, slots, X1, -⟩ := id W
  exact Go.stp (fun t r => X1.instanceofNull W.x (g := mkF X.m pc Ls (.null :: st)) rfl rfl (W.d hd) t r) k
theorem castNull (W : Here G X M vm T h C S) {idx : Nat} (hd : decode M.bytes pc = .ok (.checkcast idx, 3)) (pc' : Nat) (hp : pc + 3 = pc') (k : Go G X M Q T pc' Ls (.null :: st)) : Go G X M Q T pc Ls (.null :: st) := by
  subst hp
  obtain ⟨F', k0, locs, cells, slots, X1, -⟩ := id W
  exact Go.stp (fun t r => X1.checkcastNull W.x (g := mkF X.m pc Ls (.null :: st)) rfl rfl (W.d hd) t r) k
theorem Here.wr (W : Here G X M vm T h C S) {T' : State} {h' : Heap} {k0 : Nat} {locs : List Loc} {cells slots : Nat} {a : Addr} {sl : Nat} {v : Value} (hS : X.s.Since vm k0) (hk : k0 ≤ h.size) (hown : vm.findClass M.y.cls = some X.m.cls) (hCH : CHr G.Z G.EL X.s.vm X.s.heap vm h) (hF : Fr G.n0 locs) (ha : G.n0 ≤ a) (sf : Safe G.Z G.EL vm h a)
    (X' : Stand X.p G.l X.e M.R (X.s.setVm vm) X.m X.args X.below X.meth X.c T' (locs ++ [⟨a, sl⟩]) cells slots) (e' : T'.heap = h') (E : Wr h h' a sl v) (hc : cells ≤ C) (hs : slots ≤ S) : Here G X M vm T' h' C S :=
  ⟨W.1, k0, _, cells, slots, X', e', hS, by rw [E.size]; exact hk, W.wz, hown, hCH.trans (CHr.wr E sf hCH.1), Fr.snoc X' hF ha, W.old.wr E ha, hc, hs⟩
theorem putF (W : Here G X M vm T h C S) {R0 O n d cl : String} {idx kk : Nat} {ty : FieldType} {a : Addr} {v v' old : Value} (w : (Jvm.Cond.fieldLink M.y.cls idx R0 n d).before G.a0 G.Z = true) (via : Via G.Z R0 O n d) (F : Fld G.Z h a O n d old) (E : Exa G.Z h a cl)
    (L : (Jvm.Cond.lays cl O n d).before G.a0 G.Z = true ∨ ((Jvm.Cond.laysFinal cl O n d).before G.a0 G.Z = true ∧ M.y.cls = O ∧ M.y.name = "<init>")) (wi : (Jvm.Cond.instantiable cl kk).before G.a0 G.Z = true) (hty : parseFieldDescriptor d = some ty) (hn : narrow ty v = v') (hf : fits ty v' = true) (ha : G.n0 ≤ a) (sf : Safe G.Z G.EL vm h a)
    (hd : decode M.bytes pc = .ok (.putfield idx, 3)) (pc' : Nat) (hp : pc + 3 = pc') (k : ∀ (T' : State) (h' : Heap), Here G X M vm T' h' C S → Wr h h' a (RoadKit.slotOf G.Z O n d) v' → (∀ y, Safe G.Z G.EL vm h y → Safe G.Z G.EL vm h' y) → Go G X M Q T' pc' Ls st) : Go G X M Q T pc Ls (v :: .ref a :: st) := by
  subst hp
  obtain ⟨F', k0, locs, cells, slots, X1, e1, hS, hk, hZ, hown, hCH, hF, O', c1, s1⟩ := id W
  obtain ⟨T', h', X', e', Wq, st'⟩ := RoadKit.putFN X1 W.x hZ hown w via e1 F E (L.imp id fun q => ⟨q.1, q.2.1, F'.2.2.2.2.2.1.trans q.2.2⟩) wi hty hn hf (g := mkF X.m pc Ls (v :: .ref a :: st)) rfl rfl (W.d hd)
  exact Go.stp (fun t r => st' t r) (k T' h' (Here.wr W hS hk hown hCH hF ha sf X' e' Wq c1 s1) Wq (fun y q => Safe.wr Wq sf hCH.1 q))
theorem castore (W : Here G X M vm T h C S) {a : Addr} {kA : ClassId} {z j x : Int32} {vs : List Value} {dv : Value} (A : Arv G.Z h a kA .char z vs dv) (i : Nat) (hj : j.toNatClampNeg = i) (hj0 : ¬ j < 0 ∧ j < z) (hi : i < vs.length) (ha : G.n0 ≤ a) {x' : Int32} (hx' : nar .char x = x') (hd : decode M.bytes pc = .ok (.castore, 1)) (pc' : Nat) (hp : pc + 1 = pc')
    (k : ∀ (T' : State) (h' : Heap), Here G X M vm T' h' C S → Wr h h' a i (.int x') → Arv G.Z h' a kA .char z (vs.set i (.int x')) dv → (∀ y, Safe G.Z G.EL vm h y → Safe G.Z G.EL vm h' y) → Go G X M Q T' pc' Ls st) : Go G X M Q T pc Ls (.int x :: .int j :: .ref a :: st) := by
  subst hp hj hx'
  obtain ⟨F', k0, locs, cells, slots, X1, e1, hS, hk, hZ, hown, hCH, hF, O', c1, s1⟩ := id W
  have sf : Safe G.Z G.EL vm h a := Safe.arv hZ.alike A (by decide)
  obtain ⟨cl, A1, q, Sz, Nz, H, Gz⟩ := A
  obtain ⟨T', h', X', e', Wq, st'⟩ := RoadKit.stC X1 W.x hZ e1 A1 (j := j) (inb_of Sz hj0) (g := mkF X.m pc Ls (.int x :: .int j :: .ref a :: st)) rfl rfl (W.d hd)
  exact Go.stp (fun t r => st' t r) (k T' h' (Here.wr W hS hk hown hCH hF ha sf X' e' Wq c1 s1) Wq (Arv.set A1 q Sz Nz H Gz (fits_nar_char _) Wq _ rfl hi) (fun y q => Safe.wr Wq sf hCH.1 q))
theorem arrlen (W : Here G X M vm T h C S) {a : Addr} {kA : ClassId} {ty : FieldType} {z : Int32} {vs : List Value} {dv : Value} (A : Arv G.Z h a kA ty z vs dv) (hd : decode M.bytes pc = .ok (.arraylength, 1)) (pc' : Nat) (hp : pc + 1 = pc') (k : Go G X M Q T pc' Ls (.int z :: st)) : Go G X M Q T pc Ls (.ref a :: st) := by
  subst hp
  obtain ⟨F', k0, locs, cells, slots, X1, e1, hS, hk, hZ, hown, hCH, hF, O', c1, s1⟩ := id W
  obtain ⟨cl, A1, q, Sz, Nz, H, Gz⟩ := A
  rw [← len_of Sz Nz] at k
  exact Go.stp (fun t r => X1.arraylength W.x (by rw [e1]; exact A1.1) (State.isArrayOf_alike (T := X.s.setVm vm) hZ.alike A1.2.1) (g := mkF X.m pc Ls (.ref a :: st)) rfl rfl (W.d hd) t r) k
theorem caload (W : Here G X M vm T h C S) {a : Addr} {kA : ClassId} {z j : Int32} {vs : List Value} {dv : Value} (A : Arv G.Z h a kA .char z vs dv) (hj0 : ¬ j < 0 ∧ j < z) (v : Value) (hv : vs.getD j.toNatClampNeg dv = v) (hd : decode M.bytes pc = .ok (.caload, 1)) (pc' : Nat) (hp : pc + 1 = pc') (k : Go G X M Q T pc' Ls (v :: st)) : Go G X M Q T pc Ls (.int j :: .ref a :: st) := by
  subst hp
  obtain ⟨F', k0, locs, cells, slots, X1, e1, hS, hk, hZ, hown, hCH, hF, O', c1, s1⟩ := id W
  obtain ⟨cl, A1, q, Sz, Nz, H, Gz⟩ := A
  exact Go.stp (fun t r => X1.caload W.x (by rw [e1]; exact A1.1) (State.isArrayOf_alike (T := X.s.setVm vm) hZ.alike A1.2.1) A1.2.2 (inb_of Sz hj0) (H.at (inb_of Sz hj0) hv) (g := mkF X.m pc Ls (.int j :: .ref a :: st)) rfl rfl (W.d hd) t r) k
theorem bastore (W : Here G X M vm T h C S) {a : Addr} {kA : ClassId} {z j x : Int32} {vs : List Value} {dv : Value} (A : Arv G.Z h a kA .byte z vs dv) (i : Nat) (hj : j.toNatClampNeg = i) (hj0 : ¬ j < 0 ∧ j < z) (hi : i < vs.length) (ha : G.n0 ≤ a) (sf : Safe G.Z G.EL vm h a) {x' : Int32} (hx' : nar .byte x = x') (hd : decode M.bytes pc = .ok (.bastore, 1)) (pc' : Nat) (hp : pc + 1 = pc')
    (k : ∀ (T' : State) (h' : Heap), Here G X M vm T' h' C S → Wr h h' a i (.int x') → Arv G.Z h' a kA .byte z (vs.set i (.int x')) dv → (∀ y, Safe G.Z G.EL vm h y → Safe G.Z G.EL vm h' y) → Go G X M Q T' pc' Ls st) : Go G X M Q T pc Ls (.int x :: .int j :: .ref a :: st) := by
  subst hp hj hx'
  obtain ⟨F', k0, locs, cells, slots, X1, e1, hS, hk, hZ, hown, hCH, hF, O', c1, s1⟩ := id W
  obtain ⟨cl, A1, q, Sz, Nz, H, Gz⟩ := A
  obtain ⟨T', h', X', e', Wq, st'⟩ := RoadKit.stB X1 W.x hZ e1 A1 (j := j) (inb_of Sz hj0) (g := mkF X.m pc Ls (.int x :: .int j :: .ref a :: st)) rfl rfl (W.d hd)
  exact Go.stp (fun t r => st' t r) (k T' h' (Here.wr W hS hk hown hCH hF ha sf X' e' Wq c1 s1) Wq (Arv.set A1 q Sz Nz H Gz (fits_nar_byte _) Wq _ rfl hi) (fun y q => Safe.wr Wq sf hCH.1 q))
theorem baload (W : Here G X M vm T h C S) {a : Addr} {kA : ClassId} {z j : Int32} {vs : List Value} {dv : Value} (A : Arv G.Z h a kA .byte z vs dv) (hj0 : ¬ j < 0 ∧ j < z) (v : Value) (hv : vs.getD j.toNatClampNeg dv = v) (hd : decode M.bytes pc = .ok (.baload, 1)) (pc' : Nat) (hp : pc + 1 = pc') (k : Go G X M Q T pc' Ls (v :: st)) : Go G X M Q T pc Ls (.int j :: .ref a :: st) := by
  subst hp
  obtain ⟨F', k0, locs, cells, slots, X1, e1, hS, hk, hZ, hown, hCH, hF, O', c1, s1⟩ := id W
  obtain ⟨cl, A1, q, Sz, Nz, H, Gz⟩ := A
  exact Go.stp (fun t r => X1.baloadBytes W.x (by rw [e1]; exact A1.1) (State.isArrayOf_alike (T := X.s.setVm vm) hZ.alike A1.2.1) A1.2.2 (inb_of Sz hj0) (H.at (inb_of Sz hj0) hv) (g := mkF X.m pc Ls (.int j :: .ref a :: st)) rfl rfl (W.d hd) t r) k
theorem initO (W : Here G X M vm T h C S) {idx : Nat} {a : Addr} (w1 : (Jvm.Cond.methodLink M.y.cls idx Lib.objectInit).before G.a0 G.Z = true) (w2 : (Jvm.Cond.instanceMethod Lib.objectInit).before G.a0 G.Z = true) (w3 : (Jvm.Cond.code Lib.objectInit ⟨#[0xb1]⟩ 1 none).before G.a0 G.Z = true) (hsz : Ls.size = M.maxL)
    (hd : decode M.bytes pc = .ok (.invokespecial idx, 3)) (pc' : Nat) (hp : pc + 3 = pc') (hf : 1 ≤ M.R.frames) (hl : (st.map fun v => v.category).sum + 12 ≤ M.R.locals) (k : ∀ T' : State, Here G X M vm T' h C S → Go G X M Q T' pc' Ls st) : Go G X M Q T pc Ls (.ref a :: st) := by
  subst hp
  obtain ⟨F', k0, locs, cells, slots, X1, e1, hS, hk, hZ, hown, hCH, hF, O', c1, s1⟩ := id W
  obtain ⟨T', X', e', st'⟩ := RoadKit.initO X1 W.x hZ hown w1 w2 w3 e1 (g := mkF X.m pc Ls (.ref a :: st)) rfl (hsz.trans F'.2.2.1.symm) rfl (W.d hd) hf (W := (st.map fun v => v.category).sum) (by show 2 * 0 + _ ≤ _; omega) hl
  exact Go.stp (fun t r => st' t r) (k T' (Here.ext W hS hk hown hCH hF X' e' (Ext.rfl' h) c1 s1))
/-! ### more plain steps -/
theorem imul (W : Here G X M vm T h C S) {x y : Int32} (hd : decode M.bytes pc = .ok (.imul, 1)) (pc' : Nat) (hp : pc + 1 = pc') (k : Go G X M Q T pc' Ls (.int (x * y) :: st)) : Go G X M Q T pc Ls (.int y :: .int x :: st) := by
  subst hp; exact Go.stp (fun t r => XS.imul W.at W.x rfl (W.d hd) rfl r) k
theorem ior (W : Here G X M vm T h C S) {x y : Int32} (hd : decode M.bytes pc = .ok (.ior, 1)) (pc' : Nat) (hp : pc + 1 = pc') (k : Go G X M Q T pc' Ls (.int (x ||| y) :: st)) : Go G X M Q T pc Ls (.int y :: .int x :: st) := by
  subst hp; exact Go.stp (fun t r => XS.ior W.at W.x rfl (W.d hd) rfl r) k
theorem ishr (W : Here G X M vm T h C S) {x y : Int32} (hd : decode M.bytes pc = .ok (.ishr, 1)) (pc' : Nat) (hp : pc + 1 = pc') (k : Go G X M Q T pc' Ls (.int (x >>> (y &&& 31)) :: st)) : Go G X M Q T pc Ls (.int y :: .int x :: st) := by
  subst hp; exact Go.stp (fun t r => XS.ishr W.at W.x rfl (W.d hd) rfl r) k
theorem ishl (W : Here G X M vm T h C S) {x y : Int32} (hd : decode M.bytes pc = .ok (.ishl, 1)) (pc' : Nat) (hp : pc + 1 = pc') (k : Go G X M Q T pc' Ls (.int (x <<< (y &&& 31)) :: st)) : Go G X M Q T pc Ls (.int y :: .int x :: st) := by
  subst hp; exact Go.stp (fun t r => XS.ishl W.at W.x rfl (W.d hd) rfl r) k
theorem ladd (W : Here G X M vm T h C S) {x y : Int64} (hd : decode M.bytes pc = .ok (.ladd, 1)) (pc' : Nat) (hp : pc + 1 = pc') (k : Go G X M Q T pc' Ls (.long (x + y) :: st)) : Go G X M Q T pc Ls (.long y :: .long x :: st) := by
  subst hp; exact Go.stp (fun t r => XS.ladd W.at W.x rfl (W.d hd) rfl r) k
theorem lsub (W : Here G X M vm T h C S) {x y : Int64} (hd : decode M.bytes pc = .ok (.lsub, 1)) (pc' : Nat) (hp : pc + 1 = pc') (k : Go G X M Q T pc' Ls (.long (x - y) :: st)) : Go G X M Q T pc Ls (.long y :: .long x :: st) := by
  subst hp; exact Go.stp (fun t r => XS.lsub W.at W.x rfl (W.d hd) rfl r) k
theorem lcmp (W : Here G X M vm T h C S) {x y : Int64} (hd : decode M.bytes pc = .ok (.lcmp, 1)) (pc' : Nat) (hp : pc + 1 = pc') (k : Go G X M Q T pc' Ls (.int (XT.cmpL x y) :: st)) : Go G X M Q T pc Ls (.long y :: .long x :: st) := by
  subst hp; exact Go.stp (fun t r => XS.lcmp W.at W.x rfl (W.d hd) rfl r) k
theorem lneg (W : Here G X M vm T h C S) {x : Int64} (hd : decode M.bytes pc = .ok (.lneg, 1)) (pc' : Nat) (hp : pc + 1 = pc') (k : Go G X M Q T pc' Ls (.long (-x) :: st)) : Go G X M Q T pc Ls (.long x :: st) := by
  subst hp; exact Go.stp (fun t r => XS.lneg W.at W.x rfl (W.d hd) rfl r) k
theorem i2l (W : Here G X M vm T h C S) {x : Int32} (hd : decode M.bytes pc = .ok (.i2l, 1)) (pc' : Nat) (hp : pc + 1 = pc') (k : Go G X M Q T pc' Ls (.long x.toInt64 :: st)) : Go G X M Q T pc Ls (.int x :: st) := by
  subst hp; exact Go.stp (fun t r => XS.i2l W.at W.x rfl (W.d hd) rfl r) k
theorem l2i (W : Here G X M vm T h C S) {x : Int64} (hd : decode M.bytes pc = .ok (.l2i, 1)) (pc' : Nat) (hp : pc + 1 = pc') (k : Go G X M Q T pc' Ls (.int x.toInt32 :: st)) : Go G X M Q T pc Ls (.long x :: st) := by
  subst hp; exact Go.stp (fun t r => XS.l2i W.at W.x rfl (W.d hd) rfl r) k
theorem lushr (W : Here G X M vm T h C S) {x : Int64} {y : Int32} (hd : decode M.bytes pc = .ok (.lushr, 1)) (pc' : Nat) (hp : pc + 1 = pc') (k : Go G X M Q T pc' Ls (.long ((x.toUInt64 >>> (y &&& 0x3f).toInt64.toUInt64).toInt64) :: st)) : Go G X M Q T pc Ls (.int y :: .long x :: st) := by
  subst hp; exact Go.stp (fun t r => XS.lushr W.at W.x rfl (W.d hd) rfl r) k
theorem idiv (W : Here G X M vm T h C S) {x y : Int32} (hd : decode M.bytes pc = .ok (.idiv, 1)) (pc' : Nat) (hp : pc + 1 = pc') (hy : y ≠ 0) (k : Go G X M Q T pc' Ls (.int (x / y) :: st)) : Go G X M Q T pc Ls (.int y :: .int x :: st) := by
  subst hp; exact Go.stp (fun t r => XS.idiv W.at W.x rfl (W.d hd) rfl hy r) k
theorem lconst (W : Here G X M vm T h C S) {j : Fin 2} (hd : decode M.bytes pc = .ok (.lconst j, 1)) (pc' : Nat) (hp : pc + 1 = pc') (v : Int64) (hv : Int64.ofNat j = v) (k : Go G X M Q T pc' Ls (.long v :: st)) : Go G X M Q T pc Ls st := by
  subst hp hv; exact Go.stp (fun t r => XS.lconst W.at W.x rfl (W.d hd) r) k
theorem lloadN (W : Here G X M vm T h C S) {j : Fin 4} (hd : decode M.bytes pc = .ok (.lload_n j, 1)) (pc' : Nat) (hp : pc + 1 = pc') (v : Int64) (hl : Ls[j.val]? = some (.val (.long v))) (k : Go G X M Q T pc' Ls (.long v :: st)) : Go G X M Q T pc Ls st := by
  subst hp; exact Go.stp (fun t r => XS.lloadN W.at W.x rfl (W.d hd) hl r) k
theorem lload (W : Here G X M vm T h C S) {j : Nat} (hd : decode M.bytes pc = .ok (.lload j, 2)) (pc' : Nat) (hp : pc + 2 = pc') (v : Int64) (hl : Ls[j]? = some (.val (.long v))) (k : Go G X M Q T pc' Ls (.long v :: st)) : Go G X M Q T pc Ls st := by
  subst hp; exact Go.stp (fun t r => XS.lload W.at W.x rfl (W.d hd) hl r) k
theorem lstoreN (W : Here G X M vm T h C S) {j : Fin 4} {x : Int64} (hd : decode M.bytes pc = .ok (.lstore_n j, 1)) (pc' : Nat) (hp : pc + 1 = pc') (Ls' : Array Slot) (hl : storeLocals Ls j.val (.long x) = some Ls') (k : Go G X M Q T pc' Ls' st) : Go G X M Q T pc Ls (.long x :: st) := by
  subst hp; exact Go.stp (fun t r => XS.lstoreN W.at W.x rfl (W.d hd) rfl hl r) k
theorem lstore (W : Here G X M vm T h C S) {j : Nat} {x : Int64} (hd : decode M.bytes pc = .ok (.lstore j, 2)) (pc' : Nat) (hp : pc + 2 = pc') (Ls' : Array Slot) (hl : storeLocals Ls j (.long x) = some Ls') (k : Go G X M Q T pc' Ls' st) : Go G X M Q T pc Ls (.long x :: st) := by
  subst hp; exact Go.stp (fun t r => XS.lstore W.at W.x rfl (W.d hd) rfl hl r) k
theorem ldcI (W : Here G X M vm T h C S) {idx : Nat} {v : Int32} (w : (Jvm.Cond.constant M.y.cls idx v).before G.a0 G.Z = true) (hd : decode M.bytes pc = .ok (.ldc idx, 2)) (pc' : Nat) (hp : pc + 2 = pc') (k : Go G X M Q T pc' Ls (.int v :: st)) : Go G X M Q T pc Ls st := by
  subst hp
  obtain ⟨F', k0, locs, cells, slots, X1, e1, hS, hk, hZ, hown, -⟩ := id W
  exact Go.stp (fun t r => X1.ldcInt W.x hown (mv (s := X.s.setVm vm) hZ w) (g := mkF X.m pc Ls st) rfl (W.d hd) t r) k
theorem ldc2 (W : Here G X M vm T h C S) {idx : Nat} {v : Int64} (w : (Jvm.Cond.constantLong M.y.cls idx v).before G.a0 G.Z = true) (hd : decode M.bytes pc = .ok (.ldc2_w idx, 3)) (pc' : Nat) (hp : pc + 3 = pc') (k : Go G X M Q T pc' Ls (.long v :: st)) : Go G X M Q T pc Ls st := by
  subst hp
  obtain ⟨F', k0, locs, cells, slots, X1, e1, hS, hk, hZ, hown, -⟩ := id W
  exact Go.stp (fun t r => X1.ldc2Long W.x hown (mv (s := X.s.setVm vm) hZ w) (g := mkF X.m pc Ls st) rfl (W.d hd) t r) k
/-! ### String constants -/
theorem ldcR (W : Here G X M vm T h C S) {idx : Nat} {text : String} (w : (Jvm.Cond.stringLink M.y.cls idx text).before G.a0 G.Z = true) (wS : ∀ a ∈ Bundle.stringAtoms, a.before G.a0 G.Z = true) (hmem : (M.y.cls, idx) ∈ G.EL) {vs : List Value} {z : Int32} (ht : (∀ c ∈ text.toList, c.toNat < 256) ∧ text.toList.map (fun c => Value.int (Jvm.Lit.byteI c.toNat.toUInt16)) = vs) (hz : ¬ z < 0) (hl : z.toNatClampNeg = vs.length)
    (hd : decode M.bytes pc = .ok (.ldc idx, 2)) (pc' : Nat) (hp : pc + 2 = pc') (n : Nat) (hn : 4 * text.toList.length ≤ n) (hbig : n ≤ 536870912) (C' S' : Nat) (hc : C + 2 ≤ C') (hs : S + (n + 4) ≤ S') (hc' : C' ≤ M.R.cells) (hs' : S' ≤ M.R.slots)
    (k : ∀ (vm' : Vm) (T' : State) (h' : Heap) (a b : Addr) (kb : ClassId), Here G X M vm' T' h' C' S' → CHr G.Z G.EL vm h vm' h' → Ext h h' → Exa G.Z h' a "java/lang/String" → Fld G.Z h' a "java/lang/String" "coder" "B" (.int 0) → Fld G.Z h' a "java/lang/String" "value" "[B" (.ref b) → Arv G.Z h' b kb .byte z vs (.int 0) → (∀ x, Safe G.Z G.EL vm' h' x → x ≠ a ∧ x ≠ b) → Go G X M Q T' pc' Ls (.ref a :: st)) : Go G X M Q T pc Ls st := by
  subst hp
  obtain ⟨F', k0, locs, cells, slots, X1, e1, hS, hk, hZ, hown, hCH, hF, O', c1, s1⟩ := id W
  obtain ⟨a, T', h', k1, b, kb, X', e', E, hS', hk', hZ', ho', f1, f2, f3, f4, -, -, r1, -, r2, st'⟩ := ldcCH X1 W.x hZ hown w wS e1 hS hk F'.2.2.2.2.2.2 hmem hCH.1 ht hz hl (g := mkF X.m pc Ls st) rfl (W.d hd) hn hbig (by omega) (by omega)
  exact Go.stp (fun t r => st' t r) (k T'.vm T' h' a b kb ⟨F', k1, locs, _, _, X', e', hS', hk', hZ', ho', hCH.trans r1, hF, O'.ext E, by omega, by omega⟩ r1 E f1 f2 f3 f4 r2)
theorem ldcO (W : Here G X M vm T h C S) {idx : Nat} {text : String} (w : (Jvm.Cond.stringLink M.y.cls idx text).before G.a0 G.Z = true) (wS : ∀ a ∈ Bundle.stringAtoms, a.before G.a0 G.Z = true)
    (hd : decode M.bytes pc = .ok (.ldc idx, 2)) (pc' : Nat) (hp : pc + 2 = pc') (n : Nat) (hn : 4 * text.toList.length ≤ n) (hbig : n ≤ 536870912) (C' S' : Nat) (hc : C + 2 ≤ C') (hs : S + (n + 4) ≤ S') (hc' : C' ≤ M.R.cells) (hs' : S' ≤ M.R.slots)
    (k : ∀ (vm' : Vm) (T' : State) (h' : Heap) (a : Addr), Here G X M vm' T' h' C' S' → CHr G.Z G.EL vm h vm' h' → Ext h h' → Go G X M Q T' pc' Ls (.ref a :: st)) : Go G X M Q T pc Ls st := by
  subst hp
  obtain ⟨F', k0, locs, cells, slots, X1, e1, hS, hk, hZ, hown, hCH, hF, O', c1, s1⟩ := id W
  obtain ⟨a, T', h', k1, X', e', E, hS', hk', hZ', ho', r1, -, st'⟩ := ldcOH X1 W.x hZ hown w wS e1 hS hk F'.2.2.2.2.2.2 hCH.1 (g := mkF X.m pc Ls st) rfl (W.d hd) hn hbig (by omega) (by omega)
  exact Go.stp (fun t r => st' t r) (k T'.vm T' h' a ⟨F', k1, locs, _, _, X', e', hS', hk', hZ', ho', hCH.trans r1, hF, O'.ext E, by omega, by omega⟩ r1 E)
end Kit2
end Own
end Jvm.Pilot.@@N@@
namespace Jvm.Pilot.@@N@@
namespace Own
open Jvm Jvm.ClassFile Sem Op Lib Jvm.Free Jvm.Stand Jvm.LawKit Jvm.RoadKit
abbrev ST : String := "java/lang/String"
/-- a String that spells the chars cs, each 0 to 255 -/
def Str (Z : State) (h : Heap) (a : Addr) (cs : List Int32) : Prop := Exa Z h a ST ∧ Fld Z h a ST "coder" "B" (.int 0) ∧ (∀ c ∈ cs, ¬ c < 0 ∧ ¬ (255 : Int32) < c) ∧ cs.length ≤ 4000 ∧
  ∃ (b : Addr) (kb : ClassId), Fld Z h a ST "value" "[B" (.ref b) ∧ Arv Z h b kb .byte (Int32.ofNat cs.length) ((cs.map fun c => c.toInt8.toInt32).map Value.int) (.int 0)
theorem Str.ext {Z : State} {h h' : Heap} {a : Addr} {cs : List Int32} (F : Str Z h a cs) (E : Ext h h') : Str Z h' a cs := by
  obtain ⟨h1, h2, h3, h4, b, kb, h5, h6⟩ := F
  exact ⟨h1.ext E, h2.ext E, h3, h4, b, kb, h5.ext E, h6.ext E⟩
theorem Str.lt {Z : State} {h : Heap} {a : Addr} {cs : List Int32} (F : Str Z h a cs) : a < h.size := F.1.lt
theorem Str.exa {Z : State} {h : Heap} {a : Addr} {cs : List Int32} (F : Str Z h a cs) : Exa Z h a ST := F.1
/-- over a change of other objects, none of them a String or a byte[] -/
theorem Str.keep {Z : State} {h h' : Heap} {a : Addr} {cs : List Int32} {ws : List Addr} (F : Str Z h a cs) (K : Keep h h' ws) (ha : a ∉ ws) (hb : ∀ x ∈ ws, ∀ (cl : Cell), ¬ Arr Z h x cl .byte) : Str Z h' a cs := by
  obtain ⟨h1, h2, h3, h4, b, kb, h5, h6⟩ := F
  refine ⟨h1.keep K, h2.keep K ha, h3, h4, b, kb, h5.keep K ha, h6.keep K fun q => ?_⟩
  obtain ⟨cl, A, -⟩ := h6
  exact hb b q cl A
theorem codS {cs : List Int32} (hb : ∀ c ∈ cs, ¬ c < 0 ∧ ¬ (255 : Int32) < c) : StrChars.Road.CodA cs 0 (Int32.ofNat cs.length) ((cs.map fun c => c.toInt8.toInt32).map Value.int) :=
  Or.inl ⟨rfl, rfl, by rw [List.map_map]; rfl, fun c hc => (hb c hc).2⟩
theorem wide16 {cs : List Int32} (hb : ∀ c ∈ cs, ¬ c < 0 ∧ ¬ (255 : Int32) < c) : ∀ c ∈ cs, ¬ c < 0 ∧ ¬ (65535 : Int32) < c := fun c hc => ⟨(hb c hc).1, fun q => (hb c hc).2 (Int32.lt_trans (by decide) q)⟩
/-- the words of a String constant's load, and of the empty road of new String(char[]) -/
abbrev wordsS : List Jvm.Cond := StrChars.Road.words ++ [.initialized ST, .instantiable ST 4, .soleField ST "value", .soleField ST "coder", .stringLink ST 7 ""]
section Kit3
variable {G : Gl} {X : Rn} {M : Bo} {vm : Vm} {T : State} {h : Heap} {C S : Nat} {Q : Option Value → Heap → Prop} {pc pc' : Nat} {Ls Ls' : Array Slot} {st : List Value}
theorem sAtoms (hw : ∀ d ∈ wordsS, d.before G.a0 G.Z = true) : ∀ a ∈ Bundle.stringAtoms, a.before G.a0 G.Z = true := fun d hd => hw d ((by decide +kernel : ∀ d ∈ Bundle.stringAtoms, d ∈ wordsS) d hd)
theorem w1 (hw : ∀ d ∈ wordsS, d.before G.a0 G.Z = true) (d : Jvm.Cond) (hd : d ∈ wordsS := by decide +kernel) : d.before G.a0 G.Z = true := hw d hd
abbrev bNew4 : Bo := (StrChars.New4.yN, StrChars.New4.yB, 6, none, ({ frames := 1, cells := 4, slots := 8, locals := 12 } : Room))
abbrev bNew1 : Bo := (StrChars.New1.yN, StrChars.New1.yB, 2, none, ({ frames := 2, cells := 4, slots := 8, locals := 29 } : Room))
theorem e4_8 : decode StrChars.New4.yB 8 = .ok (.aload_n 0, 1) := by decide +kernel
theorem e4_9 : decode StrChars.New4.yB 9 = .ok (.ldc 7, 2) := by decide +kernel
theorem e4_11 : decode StrChars.New4.yB 11 = .ok (.getfield 9, 3) := by decide +kernel
theorem e4_14 : decode StrChars.New4.yB 14 = .ok (.putfield 9, 3) := by decide +kernel
theorem e4_17 : decode StrChars.New4.yB 17 = .ok (.aload_n 0, 1) := by decide +kernel
theorem e4_18 : decode StrChars.New4.yB 18 = .ok (.ldc 7, 2) := by decide +kernel
theorem e4_20 : decode StrChars.New4.yB 20 = .ok (.getfield 15, 3) := by decide +kernel
theorem e4_23 : decode StrChars.New4.yB 23 = .ok (.putfield 15, 3) := by decide +kernel
theorem e4_26 : decode StrChars.New4.yB 26 = .ok (.return_, 1) := by decide +kernel
theorem pnST : plainName "java/lang/String" = true := by first | (simp [plainName, overriddenIn]; done) | decide +kernel
theorem pd4 : parseMethodDescriptor "([CIILjava/lang/Void;)V" = some ⟨[.array .char, .int, .int, .object "java/lang/Void"], none⟩ := by decide +kernel
theorem pd1 : parseMethodDescriptor "([C)V" = some ⟨[.array .char], none⟩ := by decide +kernel
theorem ef4 (m : MethodId) (x b : Addr) : entryFrame m #[.ref x, .ref b, .int 0, .int 0, .null] 6 = mkF m 0 #[.val (.ref x), .val (.ref b), .val (.int 0), .val (.int 0), .val .null, .unset] [] := by first | (simp [entryFrame, mkF, argsToLocals, Value.category]; done) | rfl
theorem ef1 (m : MethodId) (x b : Addr) : entryFrame m #[.ref x, .ref b] 2 = mkF m 0 #[.val (.ref x), .val (.ref b)] [] := by first | (simp [entryFrame, mkF, argsToLocals, Value.category]; done) | rfl
set_option maxRecDepth 65536 in
set_option maxHeartbeats 4000000 in
theorem con_new4e (hw : ∀ d ∈ wordsS, d.before G.a0 G.Z = true) (hEL : EW G.Z G.a0 G.EL) (hmem : (ST, 7) ∈ G.EL) {x b : Addr} {v0 c0 : Value} (hO : Old G.Z G.n0 h) (hx0 : G.n0 ≤ x) (E : Exa G.Z h x ST) (V : Fld G.Z h x ST "value" "[B" v0) (Cd : Fld G.Z h x ST "coder" "B" c0) :
    Con G [] bNew4 #[.ref x, .ref b, .int 0, .int 0, .null] h [x] (fun v h' => v = none ∧ Keep h h' [x] ∧ Str G.Z h' x []) := by
  refine Con.intro (plainFor_of_name pnST) hO hEL _ (fun m => ef4 m x b) ?_
  intro X T W sf
  have sx := sf x (List.mem_singleton.mpr rfl)
  have wS := sAtoms hw
  refine aloadN W StrChars.New4.d0 1 rfl _ rfl rfl ?_
  refine initO W (w1 hw (.methodLink ST 1 Lib.objectInit)) (w1 hw (.instanceMethod Lib.objectInit)) (w1 hw (.code Lib.objectInit ⟨#[0xb1]⟩ 1 none)) rfl StrChars.New4.d1 4 rfl (by decide) (by decide) ?_
  intro T1 W1
  refine iloadN W1 StrChars.New4.d4 5 rfl _ rfl ?_
  refine ifNo W1 StrChars.New4.d5 8 (by decide) rfl ?_
  refine aloadN W1 e4_8 9 rfl _ rfl rfl ?_
  refine ldcR W1 (w1 hw (.stringLink ST 7 "")) wS hmem (vs := []) (z := 0) ⟨by decide, by decide⟩ (by decide) (by decide) e4_9 11 rfl 0 (by decide) (by decide) 2 4 (by decide) (by decide) (by decide) (by decide) ?_
  intro vm2 T2 h2 a2 b2 kb2 W2 R2 E2 fa fc fv fb hne
  have sx2 : Safe G.Z G.EL vm2 h2 x := R2.safe E.lt sx
  have ne2 := hne x sx2
  refine getF W2 (w1 hw (.fieldLink ST 9 ST "value" "[B")) Via.refl fv e4_11 14 rfl ?_
  intro T3 W3
  refine putF W3 (w1 hw (.fieldLink ST 9 ST "value" "[B")) Via.refl (V.ext E2) (E.ext E2) (Or.inr ⟨w1 hw (.laysFinal ST ST "value" "[B"), rfl, rfl⟩) (w1 hw (.instantiable ST 4)) (ty := .array .byte) (by decide) rfl rfl hx0 sx2 e4_14 17 rfl ?_
  intro T4 h4 W4 Wr4 k4
  refine aloadN W4 e4_17 18 rfl _ rfl rfl ?_
  refine ldcR W4 (w1 hw (.stringLink ST 7 "")) wS hmem (vs := []) (z := 0) ⟨by decide, by decide⟩ (by decide) (by decide) e4_18 20 rfl 0 (by decide) (by decide) 4 8 (by decide) (by decide) (by decide) (by decide) ?_
  intro vm5 T5 h5 a5 b5 kb5 W5 R5 E5 ga gc gv gb hne5
  have x4 : x < h4.size := by rw [Wr4.size]; exact (E.ext E2).lt
  have sx4 : Safe G.Z G.EL vm2 h4 x := k4 x sx2
  have sx5 : Safe G.Z G.EL vm5 h5 x := R5.safe x4 sx4
  refine getF W5 (w1 hw (.fieldLink ST 15 ST "coder" "B")) Via.refl gc e4_20 23 rfl ?_
  intro T6 W6
  have Ex5 : Exa G.Z h5 x ST := ((E.ext E2).wr Wr4).ext E5
  have sne : RoadKit.slotOf G.Z ST "coder" "B" ≠ RoadKit.slotOf G.Z ST "value" "[B" := slot_ne (Or.inr (w1 hw (.laysFinal ST ST "coder" "B"))) (Or.inr (w1 hw (.laysFinal ST ST "value" "[B"))) (by decide) (t := .byte) (t' := .array .byte) (by decide) (by decide)
  have Cd5 : Fld G.Z h5 x ST "coder" "B" c0 := ((Cd.ext E2).other Wr4 (Or.inr sne)).ext E5
  have V5 : Fld G.Z h5 x ST "value" "[B" (.ref b2) := ((V.ext E2).same Wr4).ext E5
  have B5 : Arv G.Z h5 b2 kb2 .byte 0 [] (.int 0) := (fb.other Wr4 (Ne.symm ne2.2)).ext E5
  refine putF W6 (w1 hw (.fieldLink ST 15 ST "coder" "B")) Via.refl Cd5 Ex5 (Or.inr ⟨w1 hw (.laysFinal ST ST "coder" "B"), rfl, rfl⟩) (w1 hw (.instantiable ST 4)) (ty := .byte) (v' := .int 0) (by decide) rfl rfl hx0 sx5 e4_23 26 rfl ?_
  intro T7 h7 W7 Wr7 _
  refine retV W7 (by decide) (by decide) rfl e4_26 ⟨rfl, ?_, ?_⟩
  · exact ((((Keep.refl h [x]).ext E2).wr Wr4 (Or.inl (List.mem_singleton.mpr rfl))).ext E5).wr Wr7 (Or.inl (List.mem_singleton.mpr rfl))
  · have nb : b2 ≠ x := Ne.symm ne2.2
    exact ⟨Ex5.wr Wr7, Cd5.same Wr7, by simp, by simp, b2, kb2, V5.other Wr7 (Or.inr (Ne.symm sne)), B5.other Wr7 nb⟩
set_option maxRecDepth 65536 in
set_option maxHeartbeats 4000000 in
theorem con_new1e (hw : ∀ d ∈ wordsS, d.before G.a0 G.Z = true) (hEL : EW G.Z G.a0 G.EL) (hmem : (ST, 7) ∈ G.EL) {x b : Addr} {kC : ClassId} {v0 c0 dv : Value} {vs : List Value} (hO : Old G.Z G.n0 h) (hx0 : G.n0 ≤ x) (E : Exa G.Z h x ST) (V : Fld G.Z h x ST "value" "[B" v0) (Cd : Fld G.Z h x ST "coder" "B" c0) (A : Arv G.Z h b kC .char 0 vs dv) :
    Con G [] bNew1 #[.ref x, .ref b] h [x] (fun v h' => v = none ∧ Keep h h' [x] ∧ Str G.Z h' x []) := by
  refine Con.intro (plainFor_of_name pnST) hO hEL _ (fun m => ef1 m x b) ?_
  intro X T W sf
  have sx := sf x (List.mem_singleton.mpr rfl)
  refine aloadN W StrChars.New1.d0 1 rfl _ rfl rfl ?_
  refine aloadN W StrChars.New1.d1 2 rfl _ rfl rfl ?_
  refine iconst W StrChars.New1.d2 3 rfl 0 rfl ?_
  refine aloadN W StrChars.New1.d3 4 rfl _ rfl rfl ?_
  refine arrlen W A StrChars.New1.d4 5 rfl ?_
  refine aconstNull W StrChars.New1.d5 6 rfl ?_
  refine callX W (y := StrChars.New4.yN) rfl (w1 hw (.methodLink ST 27 StrChars.New4.yN)) (w1 hw (.instanceMethod StrChars.New4.yN)) (w1 hw (.code StrChars.New4.yN StrChars.New4.yB 6 none)) (by decide) (argsL := [.ref b, .int 0, .int 0, .null]) (rest := [])
    (Con.pay (con_new4e hw hEL hmem hO hx0 E V Cd) W (w1 hw (.code StrChars.New4.yN StrChars.New4.yB 6 none)) (w1 hw (.initialized ST)) (len := 3) (wd := 0) (by decide) (by decide) (fun y hy => by cases List.mem_singleton.mp hy; exact ⟨E.lt, sx⟩)) rfl (lenOf pd4 rfl) rfl (by decide) StrChars.New1.d6 9 rfl 4 8 (by decide) (by decide) (by decide) (by decide) ?_
  intro vm1 T1 h1 v W1 R1 hq
  obtain ⟨rfl, K, F⟩ := hq
  exact retV W1 (by decide) (by decide) rfl StrChars.New1.d9 ⟨rfl, K, F⟩
/-- **new String(char[]) AT ITS CALL**: x the fresh String, b the char[] that holds cs -/
theorem payStr (hw : ∀ d ∈ wordsS, d.before G.a0 G.Z = true) (hEL : EW G.Z G.a0 G.EL) (hmem : (ST, 7) ∈ G.EL) (W : Here G X M vm T h C S) {x b : Addr} {kC : ClassId} {v0 c0 dv : Value} {cs : List Int32} {z cz : Int32} (hx0 : G.n0 ≤ x) (sx : Safe G.Z G.EL vm h x) (E : Exa G.Z h x ST) (V : Fld G.Z h x ST "value" "[B" v0) (Cd : Fld G.Z h x ST "coder" "B" c0)
    (A : Arv G.Z h b kC .char z (cs.map Value.int) dv) (hz : z = Int32.ofNat cs.length) (hcs : ∀ c ∈ cs, ¬ c < 0 ∧ ¬ (255 : Int32) < c) (hl : cs.length ≤ 4000) (hS : Sta G.Z G.Z.heap ST "COMPACT_STRINGS" "Z" (.int cz)) (hcz : ¬ cz = 0) {len wd : Nat} (hf : 4 ≤ M.R.frames) (hlo : wd + 65 ≤ M.R.locals) :
    Pay G X M vm h StrChars.New1.yN len wd #[.ref x, .ref b] 4 (8 + cs.length) (fun v h' => v = none ∧ Keep h h' [x] ∧ Str G.Z h' x cs) := by
  have hO := W.old
  subst hz
  match cs, A, hcs, hl with
  | [], A, _, _ =>
    exact Con.pay (con_new1e hw hEL hmem hO hx0 E V Cd A) W (w1 hw (.code StrChars.New1.yN StrChars.New1.yB 2 none)) (w1 hw (.initialized ST)) (by show 2 + 1 ≤ _; omega) (by show wd + (2 + 11) + 29 ≤ _; omega) (fun y hy => by cases List.mem_singleton.mp hy; exact ⟨E.lt, sx⟩)
  | c :: cs, A, hcs, hl =>
    have B := StrChars.Road.backV (p := X.p) (l := G.l) (e := X.e) (R := M.R) (s := X.s.setVm vm) (args := X.args) (below := X.below) (len := len) (W := wd) (Z := G.Z) (a0 := G.a0) W.wz (fun d hd => hw d (List.mem_append_left _ hd)) (kI := 4) (w1 hw (.instantiable ST 4)) hx0 W.n0 E V Cd A (W.sta hS) hcz (n := (c :: cs).length) rfl rfl (by simp) hl hcs rfl hf hlo
    have P := payB (Q' := fun v h' => v = none ∧ Keep h h' [x] ∧ Str G.Z h' x (c :: cs)) B W (fun v h' L q => by
      obtain ⟨q1, q2, q3, q4, q5, t, kb, q6, q7, q8, q9, q10⟩ := q
      have ks : ∀ y ∈ [x], Safe G.Z G.EL vm h y := fun y hy => by cases List.mem_singleton.mp hy; exact sx
      exact ⟨⟨q1, q3, q4, q5, hcs, hl, t, kb, q9, q10⟩, q2, hO.keep q3 (fun y hy => by cases List.mem_singleton.mp hy; exact hx0), CHr.keep q3 ks W.ch⟩)
    intro m meth c' A' g ig mk a X1 hg hsize hdg hW hn hp
    obtain ⟨v, B', r1, r2, r3, ⟨L, r4, r5, r6, r7, r8⟩, r9⟩ := P m meth c' A' g ig mk a X1 hg hsize hdg hW hn ⟨hp.1, hp.2.1, by have := hp.2.2.1; omega, by have := hp.2.2.2; omega⟩
    exact ⟨v, B', r1, r2, r3, ⟨L, r4, r5, by omega, by omega, r8⟩, r9⟩
end Kit3
/-! ### chars -/
def chr (x : Int32) : Int32 := x.toUInt32.toUInt16.toUInt32.toInt32
def us (x k : Int32) : Int32 := (x.toUInt32 >>> (k &&& 31).toUInt32).toInt32
/-- the low eight bits, as a char -/
def lo (x : Int32) : Int32 := chr (x &&& 255)
theorem chr_id {x : Int32} (h0 : 0 ≤ x.toInt) (h1 : x.toInt < 65536) : chr x = x := Int32.toInt_inj.mp (by
  have q := c_i2c x
  unfold chr
  omega)
theorem and255 (x : Int32) : 0 ≤ (x &&& 255).toInt ∧ (x &&& 255).toInt ≤ 255 := c_and x 255 (by decide)
theorem lo_eq (x : Int32) : lo x = x &&& 255 := chr_id (and255 x).1 (by have := (and255 x).2; omega)
theorem lo_rng (x : Int32) : ¬ lo x < 0 ∧ ¬ (255 : Int32) < lo x := by
  rw [lo_eq, Int32.lt_iff_toInt_lt, Int32.lt_iff_toInt_lt]
  have q := and255 x
  have e1 : (0 : Int32).toInt = 0 := by decide
  have e2 : (255 : Int32).toInt = 255 := by decide
  rw [e1, e2]; omega
theorem nar_of {c : Int32} (q : ¬ c < 0 ∧ ¬ (255 : Int32) < c) : nar .char c = c := by
  rw [Int32.lt_iff_toInt_lt, Int32.lt_iff_toInt_lt] at q
  have e1 : (0 : Int32).toInt = 0 := by decide
  have e2 : (255 : Int32).toInt = 255 := by decide
  rw [e1, e2] at q
  show chr c = c
  exact chr_id (by omega) (by omega)
theorem nar_b8 (x : Int32) : nar .byte x.toInt8.toInt32 = x.toInt8.toInt32 := by
  show (x.toInt8.toInt32).toInt8.toInt32 = x.toInt8.toInt32
  simp
theorem nar_lo (x : Int32) : nar .char (lo x) = lo x := by
  show chr (lo x) = lo x
  rw [lo_eq]; exact chr_id (and255 x).1 (by have := (and255 x).2; omega)
end Own
end Jvm.Pilot.@@N@@
namespace Jvm.Pilot.@@N@@
namespace Own
open Jvm Jvm.ClassFile Sem Op Lib Jvm.Free Jvm.Stand Jvm.LawKit Jvm.RoadKit
theorem payLen {G : Gl} {X : Rn} {M : Bo} {vm : Vm} {T : State} {h : Heap} {C S : Nat} {cs : List Int32} {x : Addr} {cz : Int32} (hwE : ∀ d ∈ StrChars.Road.wordsLen, d.before G.a0 G.Z = true) {kI : Nat} (wi : (Jvm.Cond.instantiable ST kI).before G.a0 G.Z = true) (W : Here G X M vm T h C S) (F : Str G.Z h x cs)
    (hS : Sta G.Z G.Z.heap ST "COMPACT_STRINGS" "Z" (.int cz)) (hcz : ¬ cz = 0) {len wd : Nat} (hf : 2 ≤ M.R.frames) (hlo : wd + 25 ≤ M.R.locals) :
    Pay G X M vm h ⟨"java/lang/String", "length", "()I"⟩ len wd #[.ref x] 0 0 (fun v h' => v = some (.int (Int32.ofNat cs.length)) ∧ h' = h) := by
  obtain ⟨h1, h2, h3, h4, b, kb, h5, h6⟩ := F
  exact payB (Qy := fun v h' L => v = some (.int (Int32.ofNat cs.length)) ∧ L = [] ∧ h' = h) (StrChars.Road.lenW (p := X.p) (l := G.l) (e := X.e) (R := M.R) (s := X.s.setVm vm) (args := X.args) (below := X.below) (len := len) (W := wd) W.wz hwE wi h1 h5 h2 h6 (codS h3) (wide16 h3) (W.sta hS) hcz h4 hf hlo) W (fun v h' L q => by
    obtain ⟨q1, rfl, q3⟩ := q
    subst q3
    exact ⟨⟨q1, rfl⟩, Fr.nil _, W.old, CHr.refl W.ch⟩)
end Own
end Jvm.Pilot.@@N@@
namespace Jvm.Pilot.@@N@@
namespace Own
open Jvm Jvm.ClassFile Sem Op Lib Jvm.Free Jvm.Stand Jvm.LawKit Jvm.RoadKit
theorem payChr {G : Gl} {X : Rn} {M : Bo} {vm : Vm} {T : State} {h : Heap} {C S : Nat} {cs : List Int32} {x : Addr} {cz j : Int32} {i : Nat} {fm : Value} (hwE : ∀ d ∈ StrChars.Road.wordsChN, d.before G.a0 G.Z = true) {kI : Nat} (wi : (Jvm.Cond.instantiable ST kI).before G.a0 G.Z = true) (W : Here G X M vm T h C S) (F : Str G.Z h x cs)
    (hS : Sta G.Z G.Z.heap ST "COMPACT_STRINGS" "Z" (.int cz)) (hcz : ¬ cz = 0) (hF : Sta G.Z G.Z.heap "jdk/internal/util/Preconditions" "SIOOBE_FORMATTER" "Ljava/util/function/BiFunction;" fm) (rf : fm.isRef = true) (hi : i < cs.length) (hj : j = Int32.ofNat i) {len wd : Nat} (hf : 4 ≤ M.R.frames) (hlo : wd + 53 ≤ M.R.locals) :
    Pay G X M vm h ⟨"java/lang/String", "charAt", "(I)C"⟩ len wd #[.ref x, .int j] 0 0 (fun v h' => v = some (.int (cs.getD i 0)) ∧ h' = h) := by
  obtain ⟨h1, h2, h3, h4, b, kb, h5, h6⟩ := F
  exact payB (Qy := fun v h' L => v = some (.int (cs.getD i 0)) ∧ L = [] ∧ h' = h) (StrChars.Road.chN (p := X.p) (l := G.l) (e := X.e) (R := M.R) (s := X.s.setVm vm) (args := X.args) (below := X.below) (len := len) (W := wd) W.wz hwE wi h1 h5 h2 h6 (codS h3) (wide16 h3) (W.sta hS) hcz (W.sta hF) rf h4 hi hj hf hlo) W (fun v h' L q => by
    obtain ⟨q1, rfl, q3⟩ := q
    subst q3
    exact ⟨⟨q1, rfl⟩, Fr.nil _, W.old, CHr.refl W.ch⟩)
end Own
end Jvm.Pilot.@@N@@
namespace Jvm.Pilot.@@N@@
namespace Own
open Jvm Jvm.ClassFile Sem Op Lib Jvm.Free Jvm.Stand Jvm.LawKit Jvm.RoadKit
section Enum
variable {G : Gl} {X : Rn} {M : Bo} {vm : Vm} {T : State} {h : Heap} {C S : Nat} {Q : Option Value → Heap → Prop} {pc pc' : Nat} {Ls Ls' : Array Slot} {st : List Value}
theorem aaload (W : Here G X M vm T h C S) {a : Addr} {kA : ClassId} {ty : FieldType} {z j : Int32} {vs : List Value} {dv : Value} (A : Arv G.Z h a kA ty z vs dv) (hty : ty.isReference = true) (hj0 : ¬ j < 0 ∧ j < z) (v : Value) (hv : vs.getD j.toNatClampNeg dv = v) (hd : decode M.bytes pc = .ok (.aaload, 1)) (pc' : Nat) (hp : pc + 1 = pc') (k : Go G X M Q T pc' Ls (v :: st)) : Go G X M Q T pc Ls (.int j :: .ref a :: st) := by
  subst hp
  obtain ⟨F', k0, locs, cells, slots, X1, e1, hS, hk, hZ, hown, hCH, hF, O', c1, s1⟩ := id W
  obtain ⟨cl, A1, q, Sz, Nz, H, Gz⟩ := A
  exact Go.stp (fun t r => X1.aaload W.x (by rw [e1]; exact A1.1) (State.isArrayOf_alike (T := X.s.setVm vm) hZ.alike A1.2.1) hty A1.2.2 (inb_of Sz hj0) (H.at (inb_of Sz hj0) hv) (g := mkF X.m pc Ls (.int j :: .ref a :: st)) rfl rfl (W.d hd) t r) k
theorem cloneV (W : Here G X M vm T h C S) {ad : String} {idx : Nat} {a : Addr} {kA : ClassId} {ty : FieldType} {z : Int32} {vs : List Value} {dv : Value} (w1 : (Jvm.Cond.methodLink M.y.cls idx ⟨ad, "clone", "()Ljava/lang/Object;"⟩).before G.a0 G.Z = true) (w2 : (Jvm.Cond.sameMethod ad "java/lang/Object" "clone" "()Ljava/lang/Object;").before G.a0 G.Z = true) (w3 : (Jvm.Cond.native ⟨"java/lang/Object", "clone", "()Ljava/lang/Object;"⟩).before G.a0 G.Z = true)
    (w4 : (Jvm.Cond.instanceMethod ⟨"java/lang/Object", "clone", "()Ljava/lang/Object;"⟩).before G.a0 G.Z = true) (w5 : (Jvm.Cond.selects ad ⟨ad, "clone", "()Ljava/lang/Object;"⟩ ⟨"java/lang/Object", "clone", "()Ljava/lang/Object;"⟩).before G.a0 G.Z = true) (w6 : (Jvm.Cond.castable ad "java/lang/Cloneable").before G.a0 G.Z = true)
    (A : Arv G.Z h a kA ty z vs dv) (E : Exa G.Z h a ad) (hsz : Ls.size = M.maxL) (hd : decode M.bytes pc = .ok (.invokevirtual idx, 3)) (pc' : Nat) (hp : pc + 3 = pc') (hf : 1 ≤ M.R.frames) (hl : (st.map fun v => v.category).sum + 14 ≤ M.R.locals) (cap : Nat) (hcap : z.toNatClampNeg ≤ cap) (C' S' : Nat) (hc : C + 1 ≤ C') (hs : S + cap ≤ S') (hc' : C' ≤ M.R.cells) (hs' : S' ≤ M.R.slots)
    (k : ∀ (T' : State) (h' : Heap) (b : Addr), b = h.size → Here G X M vm T' h' C' S' → Ext h h' → Arv G.Z h' b kA ty z vs dv → Exa G.Z h' b ad → Go G X M Q T' pc' Ls (.ref b :: st)) : Go G X M Q T pc Ls (.ref a :: st) := by
  subst hp
  obtain ⟨F', k0, locs, cells, slots, X1, e1, hS, hk, hZ, hown, hCH, hF, O', c1, s1⟩ := id W
  obtain ⟨T', h', X', e', E', A', Ex', st'⟩ := RoadKit.cloneH X1 W.x hZ hown w1 w2 w3 w4 w5 w6 e1 A.arh E (g := mkF X.m pc Ls (.ref a :: st)) rfl (hsz.trans F'.2.2.1.symm) rfl (W.d hd) hf (W := (st.map fun v => v.category).sum) (cap := cap) (by show 2 * 0 + _ ≤ _; omega) hl hcap (by omega) (by omega)
  exact Go.stp (fun t r => st' t r) (k T' h' h.size rfl (Here.ext W hS hk hown hCH hF X' e' E' (by omega) (by omega)) E' A' Ex')
end Enum
/-! ### a case's words on its start: arrays and Strings -/
section Start
variable {s : State} {args : Array Value} {t : Term} {r : Addr}
theorem eqRef {a b : Term} {r : Addr} (m : (Jvm.Cond.eq a b).value args s none s [] = some true) (ev : b.eval args s none [] s = some (.ref r)) : a.eval args s none [] s = some (.ref r) := by
  simp only [Cond.value, ev] at m
  cases ha : a.eval args s none [] s with
  | none => simp [ha] at m
  | some x => cases x <;> simp [ha] at m ⊢ <;> exact m
theorem eqI {a : Term} {k : Int32} (m : (Jvm.Cond.eq a (.int k)).value args s none s [] = some true) : a.eval args s none [] s = some (.int k) := Cond.eq_int (Cond.before_iff.mpr m) rfl
theorem hasL_of {cl : Cell} : ∀ (vs : List Value) (i : Nat), (∀ j (hj : j < vs.length), cl.slots[i + j]? = some vs[j]) → HasL cl i vs
  | [], _, _ => trivial
  | v :: vs, i, q => ⟨q 0 (by simp), hasL_of vs (i + 1) fun j hj => by
      have z := q (j + 1) (by simp; omega)
      rw [show i + 1 + j = i + (j + 1) from by omega]
      simpa using z⟩
theorem arvStart (hf : Fit s) {ty : FieldType} {z : Int32} {vs : List Value} {dv : Value} (ev : t.eval args s none [] s = some (.ref r)) (ha : (Jvm.Cond.arrayOf t ty).value args s none s [] = some true) (hl : (Jvm.Cond.eq (.length t) (.int z)).value args s none s [] = some true) (hz : ¬ z < 0) (hn : z.toNatClampNeg = vs.length)
    (hel : ∀ i (hi : i < vs.length), (Term.elem t (.int (Int32.ofNat i))).eval args s none [] s = some vs[i]) : ∃ k, Arv s s.heap r k ty z vs dv := by
  obtain ⟨cl, A⟩ := Arr.start ev ha
  have e := eqI hl
  obtain ⟨sd, SA, hev, harrAt, -⟩ := Term.length_spec e
  have h31 := SBG.length_lt hev harrAt e
  cases ev.symm.trans hev
  have hcl : SA = cl := by
    have q := Arr.fin (U := s) (Vm.Alike.refl _) A
    exact Option.some.inj (harrAt.symm.trans q)
  subst hcl
  have e2 := len_f (o := none) (idx := []) ev harrAt h31
  have ez : SA.slots.size.toInt32 = z := by
    have q := e2.symm.trans e
    simpa using q
  refine ⟨SA.cls, Arv.start hf A h31 ez hz hn (hasL_of vs 0 fun j hj => ?_)⟩
  have q := elem_in (hel j hj) ev rfl A.1
  have z2 := q.2
  rw [show (Int32.ofNat j).toNatClampNeg = j from by
    have := Int32.toInt_ofNat_small (n := j) (by have := back32 hz; omega)
    simp [Int32.toNatClampNeg, this]] at z2
  rw [Nat.zero_add]; exact z2
end Start
end Own
end Jvm.Pilot.@@N@@
namespace Jvm.Pilot.@@N@@
namespace Own
open Jvm Jvm.ClassFile Sem Op Lib Bundle Jvm.Free Jvm.Stand Jvm.LawKit Jvm.RoadKit Jvm.Free.SB Jvm.Free.SBG
/-- no entry of EL names a text of n signs -/
def EN (Z : State) (a0 : Array Value) (EL : List (String × Nat)) (n : Nat) : Prop := ∀ p ∈ EL, ∃ text : String, (Cond.stringLink p.1 p.2 text).before a0 Z = true ∧ (∀ c ∈ text.toList, c.toNat < 256) ∧ text.toList.length ≠ n
theorem EN.nil {Z : State} {a0 : Array Value} {n : Nat} : EN Z a0 [] n := fun _ hp => by cases hp
theorem EN.cons {Z : State} {a0 : Array Value} {EL : List (String × Nat)} {n : Nat} {own text : String} {index : Nat} (w : (Cond.stringLink own index text).before a0 Z = true) (ht : ∀ c ∈ text.toList, c.toNat < 256) (hn : text.toList.length ≠ n) (E : EN Z a0 EL n) : EN Z a0 ((own, index) :: EL) n := fun p hp => by
  rcases List.mem_cons.mp hp with rfl | hp
  · exact ⟨text, w, ht, hn⟩
  · exact E p hp
/-- a byte[] as long as no constant's is none of theirs -/
theorem Safe.len {Z : State} {a0 : Array Value} {EL : List (String × Nat)} {vm : Vm} {h : Heap} {x : Addr} {k : ClassId} {z : Int32} {vs : List Value} {dv : Value} {n : Nat} (hW : Z.Warmed39 vm) (hEN : EN Z a0 EL n) (A : Arv Z h x k .byte z vs dv) (hz : z.toNatClampNeg = n) : Safe Z EL vm h x := fun B => by
  have hal : Z.vm.Alike vm := hW.alike
  obtain ⟨p, hp, u, a, hb, q, -, F, hy⟩ := B
  obtain ⟨cl, A0, -, Sz, -⟩ := A
  obtain ⟨A1, ⟨-, kA, hkA, compA, hkindA⟩, -⟩ := A0
  obtain ⟨kA', hkA', ekA⟩ := hal.2.2 _ _ hkA
  rcases hy with rfl | rfl
  · cases (show h[q.sa]? = some q.sC from F.ha).symm.trans A1
    obtain ⟨cS, ⟨-, -, e⟩, ⟨kS, g1, g2, -⟩, -⟩ := F
    subst e
    cases (show vm.classes[q.sC.cls]? = some kS from g1).symm.trans hkA'
    rw [ekA] at g2
    have := hkindA.symm.trans g2
    cases this
  · cases (show h[q.sd]? = some q.SA from F.hd).symm.trans A1
    obtain ⟨cS, -, -, -, hsl⟩ := F
    obtain ⟨text, w, ht, hn⟩ := hEN p hp
    obtain ⟨c, k1, cf, i, b1, b2, b3, b4, b5, -⟩ := hb
    have w2 : (Cond.stringLink p.1 p.2 text).before a0 (Wst Z vm h) = true := mvS (s := { Z with heap := h }) hW w
    obtain ⟨k2, cf2, i2, u2, d1, d2, d3, d4, -, d6, -⟩ := Cond.stringLink_spec (s := Wst Z vm h) b1 w2
    cases b2.symm.trans (show vm.classes[c]? = some k2 from d1)
    cases b3.symm.trans d2
    cases b4.symm.trans d3
    cases b5.symm.trans d4
    have hl := lat_of_text d6 ht
    have hu := units_of_text d6 ht
    have e1 : (stringBytes u).size = u.size := by unfold stringBytes; rw [if_pos hl]; simp
    have e2 : u.size = text.toList.length := by rw [← Array.length_toList, hu, List.length_map]
    rw [hsl, e1, e2, hz] at Sz
    exact hn Sz
end Own
end Jvm.Pilot.@@N@@
namespace Jvm.Pilot.@@N@@
namespace Own
open Jvm Jvm.ClassFile Sem Op Lib Jvm.Free Jvm.Stand Jvm.LawKit Jvm.RoadKit
/-- 0 to 65535 -/
def R16 (c : Int32) : Prop := ¬ c < 0 ∧ ¬ (65535 : Int32) < c
/-- a UTF-16 String: some char is above 255 -/
def WStr (Z : State) (h : Heap) (a : Addr) (cs : List Int32) : Prop := Exa Z h a ST ∧ Fld Z h a ST "coder" "B" (.int 1) ∧ (∀ c ∈ cs, ¬ c < 0 ∧ ¬ (65535 : Int32) < c) ∧ cs.length ≤ 2000 ∧ (∃ c ∈ cs, (255 : Int32) < c) ∧
  ∃ (b : Addr) (kb : ClassId), Fld Z h a ST "value" "[B" (.ref b) ∧ Arv Z h b kb .byte (Int32.ofNat (2 * cs.length)) (StrChars.Road.wideBytes cs) (.int 0)
theorem WStr.ext {Z : State} {h h' : Heap} {a : Addr} {cs : List Int32} (F : WStr Z h a cs) (E : Ext h h') : WStr Z h' a cs := by
  obtain ⟨h1, h2, h3, h4, h5, b, kb, h6, h7⟩ := F
  exact ⟨h1.ext E, h2.ext E, h3, h4, h5, b, kb, h6.ext E, h7.ext E⟩
def Uni (Z : State) (h : Heap) (a : Addr) (cs : List Int32) : Prop := Str Z h a cs ∨ WStr Z h a cs
theorem Uni.ext {Z : State} {h h' : Heap} {a : Addr} {cs : List Int32} (F : Uni Z h a cs) (E : Ext h h') : Uni Z h' a cs := F.imp (·.ext E) (·.ext E)
theorem Uni.exa {Z : State} {h : Heap} {a : Addr} {cs : List Int32} (F : Uni Z h a cs) : Exa Z h a ST := F.elim (·.1) (·.1)
theorem Uni.lt {Z : State} {h : Heap} {a : Addr} {cs : List Int32} (F : Uni Z h a cs) : a < h.size := F.exa.lt
theorem shrZ (x : Int32) : x >>> ((0 : Int32) &&& 31) = x := by
  rw [show ((0 : Int32) &&& 31) = 0 by decide]; exact Int32.toBitVec_inj.mp (by simp)
theorem natW {n : Nat} (h : n ≤ 100000) : (Int32.ofNat n).toInt = n := Int32.toInt_ofNat_of_lt (by omega)
theorem shr1 {n : Nat} (h : n ≤ 2000) : Int32.ofNat (2 * n) >>> ((1 : Int32) &&& 31) = Int32.ofNat n := by
  apply Int32.toInt_inj.mp
  have q := c_ishr (Int32.ofNat (2 * n)) 1 1 (by decide)
  rw [q, natW (by omega), natW (by omega)]
  omega
theorem narC {c : Int32} (h : R16 c) : narrow .char (.int c) = .int c := by
  have e := Own.chr_id (x := c) (by have := h.1; rw [Int32.lt_iff_toInt_lt] at this; have e0 : (0 : Int32).toInt = 0 := by decide
                                    omega) (by have := h.2; rw [Int32.lt_iff_toInt_lt] at this; have e0 : (65535 : Int32).toInt = 65535 := by decide
                                               omega)
  show Value.int (chr c) = .int c
  rw [e]
theorem narCh {c : Int32} (h : R16 c) : nar .char c = c := by
  have e := narC h
  exact Value.int.inj e
theorem chr_r16 (x : Int32) : R16 (x.toUInt32.toUInt16.toUInt32.toInt32) := by
  have q := c_i2c x
  unfold R16
  rw [Int32.lt_iff_toInt_lt, Int32.lt_iff_toInt_lt]
  have e0 : (0 : Int32).toInt = 0 := by decide
  have e1 : (65535 : Int32).toInt = 65535 := by decide
  omega
section W
variable {G : Gl} {X : Rn} {M : Bo} {vm : Vm} {T : State} {h : Heap} {C S : Nat}
theorem payLenU {cs : List Int32} {x : Addr} {cz : Int32} (hwE : ∀ d ∈ StrChars.Road.wordsLen, d.before G.a0 G.Z = true) {kI : Nat} (wi : (Jvm.Cond.instantiable ST kI).before G.a0 G.Z = true) (W : Here G X M vm T h C S) (F : Uni G.Z h x cs)
    (hS : Sta G.Z G.Z.heap ST "COMPACT_STRINGS" "Z" (.int cz)) (hcz : ¬ cz = 0) {len wd : Nat} (hf : 2 ≤ M.R.frames) (hlo : wd + 25 ≤ M.R.locals) :
    Pay G X M vm h ⟨"java/lang/String", "length", "()I"⟩ len wd #[.ref x] 0 0 (fun v h' => v = some (.int (Int32.ofNat cs.length)) ∧ h' = h) := by
  rcases F with F | F
  · exact payLen hwE wi W F hS hcz hf hlo
  · obtain ⟨h1, h2, h3, h4, h5, b, kb, h6, h7⟩ := F
    exact payB (Qy := fun v h' L => v = some (.int (Int32.ofNat cs.length)) ∧ L = [] ∧ h' = h) (StrChars.Road.lenW (p := X.p) (l := G.l) (e := X.e) (R := M.R) (s := X.s.setVm vm) (args := X.args) (below := X.below) (len := len) (W := wd) W.wz hwE wi h1 h6 h2 h7 (Or.inr ⟨rfl, rfl, rfl, h5⟩) h3 (W.sta hS) hcz (by omega) hf hlo) W (fun v h' L q => by
      obtain ⟨q1, rfl, q3⟩ := q
      subst q3
      exact ⟨⟨q1, rfl⟩, Fr.nil _, W.old, CHr.refl W.ch⟩)
end W
end Own
end Jvm.Pilot.@@N@@
namespace Jvm.Pilot.@@N@@
namespace Own
open Jvm Jvm.ClassFile Sem Op Lib Jvm.Free Jvm.Stand Jvm.LawKit Jvm.RoadKit
theorem lt2 {k n : Nat} (h : k < n) (hn : n ≤ 4000) : Int32.ofNat k < Int32.ofNat n := by
  rw [Int32.lt_iff_toInt_lt, natW (by omega), natW (by omega)]; omega
theorem r16At {cs : List Int32} {i : Nat} (h : ∀ c ∈ cs, ¬ c < 0 ∧ ¬ (65535 : Int32) < c) (hi : i < cs.length) : R16 (cs.getD i 0) := by
  rw [List.getD_eq_getElem?_getD, List.getElem?_eq_getElem hi]; exact h _ (List.getElem_mem hi)
end Own
end Jvm.Pilot.@@N@@
namespace Jvm.Pilot.@@N@@
namespace Own
open Jvm Jvm.ClassFile Sem Op Lib Jvm.Free Jvm.Stand Jvm.LawKit Jvm.RoadKit
theorem xs_iinc6 {tb : Tables} [Ours tb] {e : Env} {below : List Frame} {T target : State} {m : MethodId} {c : Code} {g : JFrame} (h : At T m c below) (hx : tb.exec = Jvm.exec) (hg : g.method = m) {k : Nat} {cst : Int} {x : Int32} {l' : Array Slot} (hd : decode c.code g.pc = .ok (.iinc k cst, 6)) (hl : g.locals[k]? = some (.val (.int x))) (hl' : storeLocals g.locals k (.int (x + Int32.ofInt cst)) = some l')
    (hr : Steps tb e below (T.setTop { g with pc := g.pc + 6, locals := l' }) target) : Steps tb e below (T.setTop g) target := by
  subst hg
  jvm_step h [h.top, hx, hd, hl, hl']
  exact hr
theorem iincW {G : Gl} {X : Rn} {M : Bo} {Q : Option Value → Heap → Prop} {vm : Vm} {T : State} {h : Heap} {C S pc : Nat} {Ls : Array Slot} {st : List Value} (W : Here G X M vm T h C S) {j : Nat} {cst : Int} {x : Int32} (hd : decode M.bytes pc = .ok (.iinc j cst, 6)) (pc' : Nat) (hp : pc + 6 = pc') (hl : Ls[j]? = some (.val (.int x))) (Ls' : Array Slot) (hl' : storeLocals Ls j (.int (x + Int32.ofInt cst)) = some Ls') (k : Go G X M Q T pc' Ls' st) : Go G X M Q T pc Ls st := by
  subst hp; exact Go.stp (fun t r => xs_iinc6 W.at W.x rfl (W.d hd) hl hl' r) k
end Own
end Jvm.Pilot.@@N@@
namespace Jvm.Pilot.@@N@@
open Jvm Jvm.ClassFile Sem Op Lib Jvm.Free Jvm.Stand Jvm.LawKit Jvm.RoadKit Bundle Jvm.Pilot.@@N@@.Jvm.D
theorem tw {G : Own.Gl} (hw : ∀ d ∈ tables_1, d.before G.a0 G.Z = true) (i : Nat) {d : Jvm.Cond} (h : tables_1[i]? = some d) : d.before G.a0 G.Z = true := hw d (List.mem_of_getElem? h)
theorem wS_in : ∀ d ∈ Own.wordsS, d ∈ tables_1 := by decide +kernel
theorem wS {G : Own.Gl} (hw : ∀ d ∈ tables_1, d.before G.a0 G.Z = true) : ∀ d ∈ Own.wordsS, d.before G.a0 G.Z = true := fun d hd => hw d (wS_in d hd)
theorem wC_in : ∀ d ∈ StrChars.Road.wordsChN, d ∈ tables_1 := by decide +kernel
theorem wC {G : Own.Gl} (hw : ∀ d ∈ tables_1, d.before G.a0 G.Z = true) : ∀ d ∈ StrChars.Road.wordsChN, d.before G.a0 G.Z = true := fun d hd => hw d (wC_in d hd)
theorem wL_in : ∀ d ∈ StrChars.Road.wordsLen, d ∈ tables_1 := by decide +kernel
theorem wL {G : Own.Gl} (hw : ∀ d ∈ tables_1, d.before G.a0 G.Z = true) : ∀ d ∈ StrChars.Road.wordsLen, d.before G.a0 G.Z = true := fun d hd => hw d (wL_in d hd)
theorem d1_0 : decode method_3_code 0 = .ok (.iload_n 0, 1) := by decide +kernel
theorem d1_1 : decode method_3_code 1 = .ok (.ifCond .ne 14, 3) := by decide +kernel
theorem d1_4 : decode method_3_code 4 = .ok (.new 27, 3) := by decide +kernel
theorem d1_7 : decode method_3_code 7 = .ok (.dup, 1) := by decide +kernel
theorem d1_8 : decode method_3_code 8 = .ok (.iconst 0, 1) := by decide +kernel
theorem d1_9 : decode method_3_code 9 = .ok (.newarray .char, 2) := by decide +kernel
theorem d1_11 : decode method_3_code 11 = .ok (.invokespecial 29, 3) := by decide +kernel
theorem d1_14 : decode method_3_code 14 = .ok (.areturn, 1) := by decide +kernel
theorem d1_15 : decode method_3_code 15 = .ok (.iload_n 0, 1) := by decide +kernel
theorem d1_16 : decode method_3_code 16 = .ok (.iconst 1, 1) := by decide +kernel
theorem d1_17 : decode method_3_code 17 = .ok (.if_icmp .ne 18, 3) := by decide +kernel
theorem d1_20 : decode method_3_code 20 = .ok (.new 27, 3) := by decide +kernel
theorem d1_23 : decode method_3_code 23 = .ok (.dup, 1) := by decide +kernel
theorem d1_24 : decode method_3_code 24 = .ok (.iconst 1, 1) := by decide +kernel
theorem d1_25 : decode method_3_code 25 = .ok (.newarray .char, 2) := by decide +kernel
theorem d1_27 : decode method_3_code 27 = .ok (.dup, 1) := by decide +kernel
theorem d1_28 : decode method_3_code 28 = .ok (.iconst 0, 1) := by decide +kernel
theorem d1_29 : decode method_3_code 29 = .ok (.iload_n 1, 1) := by decide +kernel
theorem d1_30 : decode method_3_code 30 = .ok (.castore, 1) := by decide +kernel
theorem d1_31 : decode method_3_code 31 = .ok (.invokespecial 29, 3) := by decide +kernel
theorem d1_34 : decode method_3_code 34 = .ok (.areturn, 1) := by decide +kernel
theorem d1_35 : decode method_3_code 35 = .ok (.iload_n 0, 1) := by decide +kernel
theorem d1_36 : decode method_3_code 36 = .ok (.iconst 2, 1) := by decide +kernel
theorem d1_37 : decode method_3_code 37 = .ok (.if_icmp .ne 22, 3) := by decide +kernel
theorem d1_40 : decode method_3_code 40 = .ok (.new 27, 3) := by decide +kernel
theorem d1_43 : decode method_3_code 43 = .ok (.dup, 1) := by decide +kernel
theorem d1_44 : decode method_3_code 44 = .ok (.iconst 2, 1) := by decide +kernel
theorem d1_45 : decode method_3_code 45 = .ok (.newarray .char, 2) := by decide +kernel
theorem d1_47 : decode method_3_code 47 = .ok (.dup, 1) := by decide +kernel
theorem d1_48 : decode method_3_code 48 = .ok (.iconst 0, 1) := by decide +kernel
theorem d1_49 : decode method_3_code 49 = .ok (.iload_n 1, 1) := by decide +kernel
theorem d1_50 : decode method_3_code 50 = .ok (.castore, 1) := by decide +kernel
theorem d1_51 : decode method_3_code 51 = .ok (.dup, 1) := by decide +kernel
theorem d1_52 : decode method_3_code 52 = .ok (.iconst 1, 1) := by decide +kernel
theorem d1_53 : decode method_3_code 53 = .ok (.iload_n 2, 1) := by decide +kernel
theorem d1_54 : decode method_3_code 54 = .ok (.castore, 1) := by decide +kernel
theorem d1_55 : decode method_3_code 55 = .ok (.invokespecial 29, 3) := by decide +kernel
theorem d1_58 : decode method_3_code 58 = .ok (.areturn, 1) := by decide +kernel
theorem d1_59 : decode method_3_code 59 = .ok (.new 27, 3) := by decide +kernel
theorem d1_62 : decode method_3_code 62 = .ok (.dup, 1) := by decide +kernel
theorem d1_63 : decode method_3_code 63 = .ok (.iconst 3, 1) := by decide +kernel
theorem d1_64 : decode method_3_code 64 = .ok (.newarray .char, 2) := by decide +kernel
theorem d1_66 : decode method_3_code 66 = .ok (.dup, 1) := by decide +kernel
theorem d1_67 : decode method_3_code 67 = .ok (.iconst 0, 1) := by decide +kernel
theorem d1_68 : decode method_3_code 68 = .ok (.iload_n 1, 1) := by decide +kernel
theorem d1_69 : decode method_3_code 69 = .ok (.castore, 1) := by decide +kernel
theorem d1_70 : decode method_3_code 70 = .ok (.dup, 1) := by decide +kernel
theorem d1_71 : decode method_3_code 71 = .ok (.iconst 1, 1) := by decide +kernel
theorem d1_72 : decode method_3_code 72 = .ok (.iload_n 2, 1) := by decide +kernel
theorem d1_73 : decode method_3_code 73 = .ok (.castore, 1) := by decide +kernel
theorem d1_74 : decode method_3_code 74 = .ok (.dup, 1) := by decide +kernel
theorem d1_75 : decode method_3_code 75 = .ok (.iconst 2, 1) := by decide +kernel
theorem d1_76 : decode method_3_code 76 = .ok (.iload_n 3, 1) := by decide +kernel
theorem d1_77 : decode method_3_code 77 = .ok (.castore, 1) := by decide +kernel
theorem d1_78 : decode method_3_code 78 = .ok (.invokespecial 29, 3) := by decide +kernel
theorem d1_81 : decode method_3_code 81 = .ok (.areturn, 1) := by decide +kernel
theorem d2_0 : decode jdk_42_method_3_code 0 = .ok (.aload_n 0, 1) := by decide +kernel
theorem d2_1 : decode jdk_42_method_3_code 1 = .ok (.aload_n 1, 1) := by decide +kernel
theorem d2_2 : decode jdk_42_method_3_code 2 = .ok (.iconst 0, 1) := by decide +kernel
theorem d2_3 : decode jdk_42_method_3_code 3 = .ok (.aload_n 1, 1) := by decide +kernel
theorem d2_4 : decode jdk_42_method_3_code 4 = .ok (.arraylength, 1) := by decide +kernel
theorem d2_5 : decode jdk_42_method_3_code 5 = .ok (.aconst_null, 1) := by decide +kernel
theorem d2_6 : decode jdk_42_method_3_code 6 = .ok (.invokespecial 27, 3) := by decide +kernel
theorem d2_9 : decode jdk_42_method_3_code 9 = .ok (.return_, 1) := by decide +kernel
theorem d3_0 : decode jdk_42_method_149_code 0 = .ok (.aload_n 0, 1) := by decide +kernel
theorem d3_1 : decode jdk_42_method_149_code 1 = .ok (.invokespecial 1, 3) := by decide +kernel
theorem d3_4 : decode jdk_42_method_149_code 4 = .ok (.iload_n 3, 1) := by decide +kernel
theorem d3_5 : decode jdk_42_method_149_code 5 = .ok (.ifCond .ne 22, 3) := by decide +kernel
theorem d3_27 : decode jdk_42_method_149_code 27 = .ok (.getstatic 38, 3) := by decide +kernel
theorem d3_30 : decode jdk_42_method_149_code 30 = .ok (.ifCond .eq 28, 3) := by decide +kernel
theorem d3_33 : decode jdk_42_method_149_code 33 = .ok (.aload_n 1, 1) := by decide +kernel
theorem d3_34 : decode jdk_42_method_149_code 34 = .ok (.iload_n 2, 1) := by decide +kernel
theorem d3_35 : decode jdk_42_method_149_code 35 = .ok (.iload_n 3, 1) := by decide +kernel
theorem d3_36 : decode jdk_42_method_149_code 36 = .ok (.invokestatic 177, 3) := by decide +kernel
theorem d3_39 : decode jdk_42_method_149_code 39 = .ok (.astore 5, 2) := by decide +kernel
theorem d3_41 : decode jdk_42_method_149_code 41 = .ok (.aload_n 0, 1) := by decide +kernel
theorem d3_42 : decode jdk_42_method_149_code 42 = .ok (.aload 5, 2) := by decide +kernel
theorem d3_44 : decode jdk_42_method_149_code 44 = .ok (.iload_n 3, 1) := by decide +kernel
theorem d3_45 : decode jdk_42_method_149_code 45 = .ok (.invokestatic 47, 3) := by decide +kernel
theorem d3_48 : decode jdk_42_method_149_code 48 = .ok (.putfield 15, 3) := by decide +kernel
theorem d3_51 : decode jdk_42_method_149_code 51 = .ok (.aload_n 0, 1) := by decide +kernel
theorem d3_52 : decode jdk_42_method_149_code 52 = .ok (.aload 5, 2) := by decide +kernel
theorem d3_54 : decode jdk_42_method_149_code 54 = .ok (.putfield 9, 3) := by decide +kernel
theorem d3_57 : decode jdk_42_method_149_code 57 = .ok (.return_, 1) := by decide +kernel
theorem d5_0 : decode method_4_code 0 = .ok (.iload_n 0, 1) := by decide +kernel
theorem d5_1 : decode method_4_code 1 = .ok (.ifCond .le 21, 3) := by decide +kernel
theorem d5_4 : decode method_4_code 4 = .ok (.iload 4, 2) := by decide +kernel
theorem d5_6 : decode method_4_code 6 = .ok (.ifCond .le 16, 3) := by decide +kernel
theorem d5_9 : decode method_4_code 9 = .ok (.iload_n 1, 1) := by decide +kernel
theorem d5_10 : decode method_4_code 10 = .ok (.iload 5, 2) := by decide +kernel
theorem d5_12 : decode method_4_code 12 = .ok (.if_icmp .eq 10, 3) := by decide +kernel
theorem d5_15 : decode method_4_code 15 = .ok (.iload_n 1, 1) := by decide +kernel
theorem d5_16 : decode method_4_code 16 = .ok (.iload 5, 2) := by decide +kernel
theorem d5_18 : decode method_4_code 18 = .ok (.invokestatic 32, 3) := by decide +kernel
theorem d5_21 : decode method_4_code 21 = .ok (.ireturn, 1) := by decide +kernel
theorem d5_22 : decode method_4_code 22 = .ok (.iload_n 0, 1) := by decide +kernel
theorem d5_23 : decode method_4_code 23 = .ok (.iconst 1, 1) := by decide +kernel
theorem d5_24 : decode method_4_code 24 = .ok (.if_icmp .le 22, 3) := by decide +kernel
theorem d5_27 : decode method_4_code 27 = .ok (.iload 4, 2) := by decide +kernel
theorem d5_29 : decode method_4_code 29 = .ok (.iconst 1, 1) := by decide +kernel
theorem d5_30 : decode method_4_code 30 = .ok (.if_icmp .le 16, 3) := by decide +kernel
theorem d5_33 : decode method_4_code 33 = .ok (.iload_n 2, 1) := by decide +kernel
theorem d5_34 : decode method_4_code 34 = .ok (.iload 6, 2) := by decide +kernel
theorem d5_36 : decode method_4_code 36 = .ok (.if_icmp .eq 10, 3) := by decide +kernel
theorem d5_39 : decode method_4_code 39 = .ok (.iload_n 2, 1) := by decide +kernel
theorem d5_40 : decode method_4_code 40 = .ok (.iload 6, 2) := by decide +kernel
theorem d5_42 : decode method_4_code 42 = .ok (.invokestatic 32, 3) := by decide +kernel
theorem d5_45 : decode method_4_code 45 = .ok (.ireturn, 1) := by decide +kernel
theorem d5_46 : decode method_4_code 46 = .ok (.iload_n 0, 1) := by decide +kernel
theorem d5_47 : decode method_4_code 47 = .ok (.iconst 2, 1) := by decide +kernel
theorem d5_48 : decode method_4_code 48 = .ok (.if_icmp .le 22, 3) := by decide +kernel
theorem d5_51 : decode method_4_code 51 = .ok (.iload 4, 2) := by decide +kernel
theorem d5_53 : decode method_4_code 53 = .ok (.iconst 2, 1) := by decide +kernel
theorem d5_54 : decode method_4_code 54 = .ok (.if_icmp .le 16, 3) := by decide +kernel
theorem d5_57 : decode method_4_code 57 = .ok (.iload_n 3, 1) := by decide +kernel
theorem d5_58 : decode method_4_code 58 = .ok (.iload 7, 2) := by decide +kernel
theorem d5_60 : decode method_4_code 60 = .ok (.if_icmp .eq 10, 3) := by decide +kernel
theorem d5_63 : decode method_4_code 63 = .ok (.iload_n 3, 1) := by decide +kernel
theorem d5_64 : decode method_4_code 64 = .ok (.iload 7, 2) := by decide +kernel
theorem d5_66 : decode method_4_code 66 = .ok (.invokestatic 32, 3) := by decide +kernel
theorem d5_69 : decode method_4_code 69 = .ok (.ireturn, 1) := by decide +kernel
theorem d5_70 : decode method_4_code 70 = .ok (.iload_n 0, 1) := by decide +kernel
theorem d5_71 : decode method_4_code 71 = .ok (.iload 4, 2) := by decide +kernel
theorem d5_73 : decode method_4_code 73 = .ok (.isub, 1) := by decide +kernel
theorem d5_74 : decode method_4_code 74 = .ok (.invokestatic 23, 3) := by decide +kernel
theorem d5_77 : decode method_4_code 77 = .ok (.ireturn, 1) := by decide +kernel
theorem d6_0 : decode method_7_code 0 = .ok (.iload_n 0, 1) := by decide +kernel
theorem d6_1 : decode method_7_code 1 = .ok (.ifCond .ge 5, 3) := by decide +kernel
theorem d6_4 : decode method_7_code 4 = .ok (.iconst (-1), 1) := by decide +kernel
theorem d6_5 : decode method_7_code 5 = .ok (.ireturn, 1) := by decide +kernel
theorem d6_6 : decode method_7_code 6 = .ok (.iload_n 0, 1) := by decide +kernel
theorem d6_7 : decode method_7_code 7 = .ok (.ifCond .le 5, 3) := by decide +kernel
theorem d6_10 : decode method_7_code 10 = .ok (.iconst 1, 1) := by decide +kernel
theorem d6_11 : decode method_7_code 11 = .ok (.ireturn, 1) := by decide +kernel
theorem d6_12 : decode method_7_code 12 = .ok (.iconst 0, 1) := by decide +kernel
theorem d6_13 : decode method_7_code 13 = .ok (.ireturn, 1) := by decide +kernel
theorem d7_0 : decode prog_28_method_2_code 0 = .ok (.aload_n 0, 1) := by decide +kernel
theorem d7_1 : decode prog_28_method_2_code 1 = .ok (.invokevirtual 7, 3) := by decide +kernel
theorem d7_4 : decode prog_28_method_2_code 4 = .ok (.aload_n 1, 1) := by decide +kernel
theorem d7_5 : decode prog_28_method_2_code 5 = .ok (.invokevirtual 7, 3) := by decide +kernel
theorem d7_8 : decode prog_28_method_2_code 8 = .ok (.invokestatic 13, 3) := by decide +kernel
theorem d7_11 : decode prog_28_method_2_code 11 = .ok (.istore_n 2, 1) := by decide +kernel
theorem d7_12 : decode prog_28_method_2_code 12 = .ok (.iconst 0, 1) := by decide +kernel
theorem d7_13 : decode prog_28_method_2_code 13 = .ok (.istore_n 3, 1) := by decide +kernel
theorem d7_14 : decode prog_28_method_2_code 14 = .ok (.iload_n 3, 1) := by decide +kernel
theorem d7_15 : decode prog_28_method_2_code 15 = .ok (.iload_n 2, 1) := by decide +kernel
theorem d7_16 : decode prog_28_method_2_code 16 = .ok (.if_icmp .ge 42, 3) := by decide +kernel
theorem d7_19 : decode prog_28_method_2_code 19 = .ok (.aload_n 0, 1) := by decide +kernel
theorem d7_20 : decode prog_28_method_2_code 20 = .ok (.iload_n 3, 1) := by decide +kernel
theorem d7_21 : decode prog_28_method_2_code 21 = .ok (.invokevirtual 19, 3) := by decide +kernel
theorem d7_24 : decode prog_28_method_2_code 24 = .ok (.istore 4, 2) := by decide +kernel
theorem d7_26 : decode prog_28_method_2_code 26 = .ok (.aload_n 1, 1) := by decide +kernel
theorem d7_27 : decode prog_28_method_2_code 27 = .ok (.iload_n 3, 1) := by decide +kernel
theorem d7_28 : decode prog_28_method_2_code 28 = .ok (.invokevirtual 19, 3) := by decide +kernel
theorem d7_31 : decode prog_28_method_2_code 31 = .ok (.istore 5, 2) := by decide +kernel
theorem d7_33 : decode prog_28_method_2_code 33 = .ok (.iload 4, 2) := by decide +kernel
theorem d7_35 : decode prog_28_method_2_code 35 = .ok (.iload 5, 2) := by decide +kernel
theorem d7_37 : decode prog_28_method_2_code 37 = .ok (.if_icmp .eq 15, 3) := by decide +kernel
theorem d7_40 : decode prog_28_method_2_code 40 = .ok (.iload 4, 2) := by decide +kernel
theorem d7_42 : decode prog_28_method_2_code 42 = .ok (.invokestatic 23, 3) := by decide +kernel
theorem d7_45 : decode prog_28_method_2_code 45 = .ok (.iload 5, 2) := by decide +kernel
theorem d7_47 : decode prog_28_method_2_code 47 = .ok (.invokestatic 23, 3) := by decide +kernel
theorem d7_50 : decode prog_28_method_2_code 50 = .ok (.isub, 1) := by decide +kernel
theorem d7_51 : decode prog_28_method_2_code 51 = .ok (.ireturn, 1) := by decide +kernel
theorem d7_52 : decode prog_28_method_2_code 52 = .ok (.iinc 3 1, 3) := by decide +kernel
theorem d7_55 : decode prog_28_method_2_code 55 = .ok (.goto (-41), 3) := by decide +kernel
theorem d7_58 : decode prog_28_method_2_code 58 = .ok (.aload_n 0, 1) := by decide +kernel
theorem d7_59 : decode prog_28_method_2_code 59 = .ok (.invokevirtual 7, 3) := by decide +kernel
theorem d7_62 : decode prog_28_method_2_code 62 = .ok (.aload_n 1, 1) := by decide +kernel
theorem d7_63 : decode prog_28_method_2_code 63 = .ok (.invokevirtual 7, 3) := by decide +kernel
theorem d7_66 : decode prog_28_method_2_code 66 = .ok (.isub, 1) := by decide +kernel
theorem d7_67 : decode prog_28_method_2_code 67 = .ok (.ireturn, 1) := by decide +kernel
theorem d10_0 : decode jdk_29_method_69_code 0 = .ok (.iload_n 0, 1) := by decide +kernel
theorem d10_1 : decode jdk_29_method_69_code 1 = .ok (.iload_n 1, 1) := by decide +kernel
theorem d10_2 : decode jdk_29_method_69_code 2 = .ok (.if_icmp .gt 7, 3) := by decide +kernel
theorem d10_5 : decode jdk_29_method_69_code 5 = .ok (.iload_n 0, 1) := by decide +kernel
theorem d10_6 : decode jdk_29_method_69_code 6 = .ok (.goto 4, 3) := by decide +kernel
theorem d10_9 : decode jdk_29_method_69_code 9 = .ok (.iload_n 1, 1) := by decide +kernel
theorem d10_10 : decode jdk_29_method_69_code 10 = .ok (.ireturn, 1) := by decide +kernel
theorem d11_0 : decode jdk_52_method_16_code 0 = .ok (.iload_n 2, 1) := by decide +kernel
theorem d11_1 : decode jdk_52_method_16_code 1 = .ok (.newarray .byte, 2) := by decide +kernel
theorem d11_3 : decode jdk_52_method_16_code 3 = .ok (.astore_n 3, 1) := by decide +kernel
theorem d11_4 : decode jdk_52_method_16_code 4 = .ok (.aload_n 0, 1) := by decide +kernel
theorem d11_5 : decode jdk_52_method_16_code 5 = .ok (.iload_n 1, 1) := by decide +kernel
theorem d11_6 : decode jdk_52_method_16_code 6 = .ok (.aload_n 3, 1) := by decide +kernel
theorem d11_7 : decode jdk_52_method_16_code 7 = .ok (.iconst 0, 1) := by decide +kernel
theorem d11_8 : decode jdk_52_method_16_code 8 = .ok (.iload_n 2, 1) := by decide +kernel
theorem d11_9 : decode jdk_52_method_16_code 9 = .ok (.invokestatic 115, 3) := by decide +kernel
theorem d11_12 : decode jdk_52_method_16_code 12 = .ok (.istore 4, 2) := by decide +kernel
theorem d11_14 : decode jdk_52_method_16_code 14 = .ok (.iload 4, 2) := by decide +kernel
theorem d11_16 : decode jdk_52_method_16_code 16 = .ok (.iload_n 2, 1) := by decide +kernel
theorem d11_17 : decode jdk_52_method_16_code 17 = .ok (.if_icmp .eq 40, 3) := by decide +kernel
theorem d11_20 : decode jdk_52_method_16_code 20 = .ok (.aload_n 0, 1) := by decide +kernel
theorem d11_21 : decode jdk_52_method_16_code 21 = .ok (.iload_n 1, 1) := by decide +kernel
theorem d11_22 : decode jdk_52_method_16_code 22 = .ok (.iload_n 2, 1) := by decide +kernel
theorem d11_23 : decode jdk_52_method_16_code 23 = .ok (.invokestatic 119, 3) := by decide +kernel
theorem d11_26 : decode jdk_52_method_16_code 26 = .ok (.astore 5, 2) := by decide +kernel
theorem d11_28 : decode jdk_52_method_16_code 28 = .ok (.aload 5, 2) := by decide +kernel
theorem d11_30 : decode jdk_52_method_16_code 30 = .ok (.iload 4, 2) := by decide +kernel
theorem d11_32 : decode jdk_52_method_16_code 32 = .ok (.invokestatic 71, 3) := by decide +kernel
theorem d11_35 : decode jdk_52_method_16_code 35 = .ok (.sipush 255, 3) := by decide +kernel
theorem d11_38 : decode jdk_52_method_16_code 38 = .ok (.if_icmp .gt 16, 3) := by decide +kernel
theorem d11_54 : decode jdk_52_method_16_code 54 = .ok (.aload 5, 2) := by decide +kernel
theorem d11_56 : decode jdk_52_method_16_code 56 = .ok (.areturn, 1) := by decide +kernel
theorem d12_0 : decode jdk_52_method_21_code 0 = .ok (.iconst 0, 1) := by decide +kernel
theorem d12_1 : decode jdk_52_method_21_code 1 = .ok (.istore 5, 2) := by decide +kernel
theorem d12_3 : decode jdk_52_method_21_code 3 = .ok (.iload 5, 2) := by decide +kernel
theorem d12_5 : decode jdk_52_method_21_code 5 = .ok (.iload 4, 2) := by decide +kernel
theorem d12_7 : decode jdk_52_method_21_code 7 = .ok (.if_icmp .ge 37, 3) := by decide +kernel
theorem d12_10 : decode jdk_52_method_21_code 10 = .ok (.aload_n 0, 1) := by decide +kernel
theorem d12_11 : decode jdk_52_method_21_code 11 = .ok (.iload_n 1, 1) := by decide +kernel
theorem d12_12 : decode jdk_52_method_21_code 12 = .ok (.caload, 1) := by decide +kernel
theorem d12_13 : decode jdk_52_method_21_code 13 = .ok (.istore 6, 2) := by decide +kernel
theorem d12_15 : decode jdk_52_method_21_code 15 = .ok (.iload 6, 2) := by decide +kernel
theorem d12_17 : decode jdk_52_method_21_code 17 = .ok (.sipush 255, 3) := by decide +kernel
theorem d12_20 : decode jdk_52_method_21_code 20 = .ok (.if_icmp .le 6, 3) := by decide +kernel
theorem d12_23 : decode jdk_52_method_21_code 23 = .ok (.iload 5, 2) := by decide +kernel
theorem d12_25 : decode jdk_52_method_21_code 25 = .ok (.ireturn, 1) := by decide +kernel
theorem d12_26 : decode jdk_52_method_21_code 26 = .ok (.aload_n 2, 1) := by decide +kernel
theorem d12_27 : decode jdk_52_method_21_code 27 = .ok (.iload_n 3, 1) := by decide +kernel
theorem d12_28 : decode jdk_52_method_21_code 28 = .ok (.iload 6, 2) := by decide +kernel
theorem d12_30 : decode jdk_52_method_21_code 30 = .ok (.i2b, 1) := by decide +kernel
theorem d12_31 : decode jdk_52_method_21_code 31 = .ok (.bastore, 1) := by decide +kernel
theorem d12_32 : decode jdk_52_method_21_code 32 = .ok (.iinc 1 1, 3) := by decide +kernel
theorem d12_35 : decode jdk_52_method_21_code 35 = .ok (.iinc 3 1, 3) := by decide +kernel
theorem d12_38 : decode jdk_52_method_21_code 38 = .ok (.iinc 5 1, 3) := by decide +kernel
theorem d12_41 : decode jdk_52_method_21_code 41 = .ok (.goto (-38), 3) := by decide +kernel
theorem d13_0 : decode jdk_52_method_15_code 0 = .ok (.iload_n 1, 1) := by decide +kernel
theorem d13_1 : decode jdk_52_method_15_code 1 = .ok (.aload_n 0, 1) := by decide +kernel
theorem d13_2 : decode jdk_52_method_15_code 2 = .ok (.arraylength, 1) := by decide +kernel
theorem d13_3 : decode jdk_52_method_15_code 3 = .ok (.isub, 1) := by decide +kernel
theorem d13_4 : decode jdk_52_method_15_code 4 = .ok (.bipush 31, 2) := by decide +kernel
theorem d13_6 : decode jdk_52_method_15_code 6 = .ok (.iushr, 1) := by decide +kernel
theorem d13_7 : decode jdk_52_method_15_code 7 = .ok (.i2b, 1) := by decide +kernel
theorem d13_8 : decode jdk_52_method_15_code 8 = .ok (.ireturn, 1) := by decide +kernel
theorem d14_0 : decode method_6_code 0 = .ok (.iload_n 0, 1) := by decide +kernel
theorem d14_1 : decode method_6_code 1 = .ok (.invokestatic 38, 3) := by decide +kernel
theorem d14_4 : decode method_6_code 4 = .ok (.istore_n 2, 1) := by decide +kernel
theorem d14_5 : decode method_6_code 5 = .ok (.iload_n 1, 1) := by decide +kernel
theorem d14_6 : decode method_6_code 6 = .ok (.invokestatic 38, 3) := by decide +kernel
theorem d14_9 : decode method_6_code 9 = .ok (.istore_n 3, 1) := by decide +kernel
theorem d14_10 : decode method_6_code 10 = .ok (.iload_n 2, 1) := by decide +kernel
theorem d14_11 : decode method_6_code 11 = .ok (.iload_n 3, 1) := by decide +kernel
theorem d14_12 : decode method_6_code 12 = .ok (.if_icmp .eq 14, 3) := by decide +kernel
theorem d14_15 : decode method_6_code 15 = .ok (.iload_n 2, 1) := by decide +kernel
theorem d14_16 : decode method_6_code 16 = .ok (.iload_n 3, 1) := by decide +kernel
theorem d14_17 : decode method_6_code 17 = .ok (.if_icmp .ge 7, 3) := by decide +kernel
theorem d14_20 : decode method_6_code 20 = .ok (.iconst (-1), 1) := by decide +kernel
theorem d14_21 : decode method_6_code 21 = .ok (.goto 4, 3) := by decide +kernel
theorem d14_24 : decode method_6_code 24 = .ok (.iconst 1, 1) := by decide +kernel
theorem d14_25 : decode method_6_code 25 = .ok (.ireturn, 1) := by decide +kernel
theorem d14_26 : decode method_6_code 26 = .ok (.iload_n 0, 1) := by decide +kernel
theorem d14_27 : decode method_6_code 27 = .ok (.iload_n 1, 1) := by decide +kernel
theorem d14_28 : decode method_6_code 28 = .ok (.if_icmp .ge 7, 3) := by decide +kernel
theorem d14_31 : decode method_6_code 31 = .ok (.iconst (-1), 1) := by decide +kernel
theorem d14_32 : decode method_6_code 32 = .ok (.goto 4, 3) := by decide +kernel
theorem d14_35 : decode method_6_code 35 = .ok (.iconst 1, 1) := by decide +kernel
theorem d14_36 : decode method_6_code 36 = .ok (.ireturn, 1) := by decide +kernel
theorem d15_0 : decode method_5_code 0 = .ok (.iload_n 0, 1) := by decide +kernel
theorem d15_1 : decode method_5_code 1 = .ok (.ldc 36, 2) := by decide +kernel
theorem d15_3 : decode method_5_code 3 = .ok (.if_icmp .ge 5, 3) := by decide +kernel
theorem d15_6 : decode method_5_code 6 = .ok (.iconst 0, 1) := by decide +kernel
theorem d15_7 : decode method_5_code 7 = .ok (.ireturn, 1) := by decide +kernel
theorem d15_8 : decode method_5_code 8 = .ok (.iload_n 0, 1) := by decide +kernel
theorem d15_9 : decode method_5_code 9 = .ok (.ldc 37, 2) := by decide +kernel
theorem d15_11 : decode method_5_code 11 = .ok (.if_icmp .lt 5, 3) := by decide +kernel
theorem d15_14 : decode method_5_code 14 = .ok (.iconst 1, 1) := by decide +kernel
theorem d15_15 : decode method_5_code 15 = .ok (.ireturn, 1) := by decide +kernel
theorem d15_16 : decode method_5_code 16 = .ok (.iconst 2, 1) := by decide +kernel
theorem d15_17 : decode method_5_code 17 = .ok (.ireturn, 1) := by decide +kernel
theorem d16_0 : decode jdk_42_method_56_code 0 = .ok (.aload_n 0, 1) := by decide +kernel
theorem d16_1 : decode jdk_42_method_56_code 1 = .ok (.invokevirtual 492, 3) := by decide +kernel
theorem d16_4 : decode jdk_42_method_56_code 4 = .ok (.ifCond .eq 12, 3) := by decide +kernel
theorem d16_16 : decode jdk_42_method_56_code 16 = .ok (.aload_n 0, 1) := by decide +kernel
theorem d16_17 : decode jdk_42_method_56_code 17 = .ok (.getfield 9, 3) := by decide +kernel
theorem d16_20 : decode jdk_42_method_56_code 20 = .ok (.iload_n 1, 1) := by decide +kernel
theorem d16_21 : decode jdk_42_method_56_code 21 = .ok (.invokestatic 498, 3) := by decide +kernel
theorem d16_24 : decode jdk_42_method_56_code 24 = .ok (.ireturn, 1) := by decide +kernel
theorem d17_0 : decode jdk_42_method_154_code 0 = .ok (.getstatic 38, 3) := by decide +kernel
theorem d17_3 : decode jdk_42_method_154_code 3 = .ok (.ifCond .eq 14, 3) := by decide +kernel
theorem d17_6 : decode jdk_42_method_154_code 6 = .ok (.aload_n 0, 1) := by decide +kernel
theorem d17_7 : decode jdk_42_method_154_code 7 = .ok (.getfield 15, 3) := by decide +kernel
theorem d17_10 : decode jdk_42_method_154_code 10 = .ok (.ifCond .ne 7, 3) := by decide +kernel
theorem d17_17 : decode jdk_42_method_154_code 17 = .ok (.iconst 0, 1) := by decide +kernel
theorem d17_18 : decode jdk_42_method_154_code 18 = .ok (.ireturn, 1) := by decide +kernel
theorem d19_0 : decode jdk_42_method_155_code 0 = .ok (.iload_n 0, 1) := by decide +kernel
theorem d19_1 : decode jdk_42_method_155_code 1 = .ok (.iload_n 1, 1) := by decide +kernel
theorem d19_2 : decode jdk_42_method_155_code 2 = .ok (.getstatic 1053, 3) := by decide +kernel
theorem d19_5 : decode jdk_42_method_155_code 5 = .ok (.invokestatic 1059, 3) := by decide +kernel
theorem d19_8 : decode jdk_42_method_155_code 8 = .ok (.pop, 1) := by decide +kernel
theorem d19_9 : decode jdk_42_method_155_code 9 = .ok (.return_, 1) := by decide +kernel
theorem d20_0 : decode jdk_41_method_11_code 0 = .ok (.iload_n 0, 1) := by decide +kernel
theorem d20_1 : decode jdk_41_method_11_code 1 = .ok (.ifCond .lt 8, 3) := by decide +kernel
theorem d20_4 : decode jdk_41_method_11_code 4 = .ok (.iload_n 0, 1) := by decide +kernel
theorem d20_5 : decode jdk_41_method_11_code 5 = .ok (.iload_n 1, 1) := by decide +kernel
theorem d20_6 : decode jdk_41_method_11_code 6 = .ok (.if_icmp .lt 10, 3) := by decide +kernel
theorem d20_16 : decode jdk_41_method_11_code 16 = .ok (.iload_n 0, 1) := by decide +kernel
theorem d20_17 : decode jdk_41_method_11_code 17 = .ok (.ireturn, 1) := by decide +kernel
theorem d21_0 : decode prog_28_method_3_code 0 = .ok (.iload_n 0, 1) := by decide +kernel
theorem d21_1 : decode prog_28_method_3_code 1 = .ok (.istore_n 1, 1) := by decide +kernel
theorem d21_2 : decode prog_28_method_3_code 2 = .ok (.iload_n 0, 1) := by decide +kernel
theorem d21_3 : decode prog_28_method_3_code 3 = .ok (.ldc 29, 2) := by decide +kernel
theorem d21_5 : decode prog_28_method_3_code 5 = .ok (.if_icmp .lt 12, 3) := by decide +kernel
theorem d21_8 : decode prog_28_method_3_code 8 = .ok (.iinc 1 (-2048), 6) := by decide +kernel
theorem d21_14 : decode prog_28_method_3_code 14 = .ok (.goto 15, 3) := by decide +kernel
theorem d21_17 : decode prog_28_method_3_code 17 = .ok (.iload_n 0, 1) := by decide +kernel
theorem d21_18 : decode prog_28_method_3_code 18 = .ok (.ldc 30, 2) := by decide +kernel
theorem d21_20 : decode prog_28_method_3_code 20 = .ok (.if_icmp .lt 9, 3) := by decide +kernel
theorem d21_23 : decode prog_28_method_3_code 23 = .ok (.iinc 1 8192, 6) := by decide +kernel
theorem d21_29 : decode prog_28_method_3_code 29 = .ok (.iload_n 1, 1) := by decide +kernel
theorem d21_30 : decode prog_28_method_3_code 30 = .ok (.ireturn, 1) := by decide +kernel
theorem d22_0 : decode jdk_52_method_14_code 0 = .ok (.iload_n 2, 1) := by decide +kernel
theorem d22_1 : decode jdk_52_method_14_code 1 = .ok (.invokestatic 107, 3) := by decide +kernel
theorem d22_4 : decode jdk_52_method_14_code 4 = .ok (.astore_n 3, 1) := by decide +kernel
theorem d22_5 : decode jdk_52_method_14_code 5 = .ok (.iconst 0, 1) := by decide +kernel
theorem d22_6 : decode jdk_52_method_14_code 6 = .ok (.istore 4, 2) := by decide +kernel
theorem d22_8 : decode jdk_52_method_14_code 8 = .ok (.iload 4, 2) := by decide +kernel
theorem d22_10 : decode jdk_52_method_14_code 10 = .ok (.iload_n 2, 1) := by decide +kernel
theorem d22_11 : decode jdk_52_method_14_code 11 = .ok (.if_icmp .ge 21, 3) := by decide +kernel
theorem d22_14 : decode jdk_52_method_14_code 14 = .ok (.aload_n 3, 1) := by decide +kernel
theorem d22_15 : decode jdk_52_method_14_code 15 = .ok (.iload 4, 2) := by decide +kernel
theorem d22_17 : decode jdk_52_method_14_code 17 = .ok (.aload_n 0, 1) := by decide +kernel
theorem d22_18 : decode jdk_52_method_14_code 18 = .ok (.iload_n 1, 1) := by decide +kernel
theorem d22_19 : decode jdk_52_method_14_code 19 = .ok (.caload, 1) := by decide +kernel
theorem d22_20 : decode jdk_52_method_14_code 20 = .ok (.invokestatic 111, 3) := by decide +kernel
theorem d22_23 : decode jdk_52_method_14_code 23 = .ok (.iinc 1 1, 3) := by decide +kernel
theorem d22_26 : decode jdk_52_method_14_code 26 = .ok (.iinc 4 1, 3) := by decide +kernel
theorem d22_29 : decode jdk_52_method_14_code 29 = .ok (.goto (-21), 3) := by decide +kernel
theorem d22_32 : decode jdk_52_method_14_code 32 = .ok (.aload_n 3, 1) := by decide +kernel
theorem d22_33 : decode jdk_52_method_14_code 33 = .ok (.areturn, 1) := by decide +kernel
theorem d23_0 : decode jdk_52_method_2_code 0 = .ok (.iload_n 0, 1) := by decide +kernel
theorem d23_1 : decode jdk_52_method_2_code 1 = .ok (.invokestatic 11, 3) := by decide +kernel
theorem d23_4 : decode jdk_52_method_2_code 4 = .ok (.newarray .byte, 2) := by decide +kernel
theorem d23_6 : decode jdk_52_method_2_code 6 = .ok (.areturn, 1) := by decide +kernel
theorem d24_0 : decode jdk_52_method_3_code 0 = .ok (.iload_n 0, 1) := by decide +kernel
theorem d24_1 : decode jdk_52_method_3_code 1 = .ok (.ifCond .ge 11, 3) := by decide +kernel
theorem d24_12 : decode jdk_52_method_3_code 12 = .ok (.iload_n 0, 1) := by decide +kernel
theorem d24_13 : decode jdk_52_method_3_code 13 = .ok (.ldc 20, 2) := by decide +kernel
theorem d24_15 : decode jdk_52_method_3_code 15 = .ok (.if_icmp .lt 40, 3) := by decide +kernel
theorem d24_55 : decode jdk_52_method_3_code 55 = .ok (.iload_n 0, 1) := by decide +kernel
theorem d24_56 : decode jdk_52_method_3_code 56 = .ok (.iconst 1, 1) := by decide +kernel
theorem d24_57 : decode jdk_52_method_3_code 57 = .ok (.ishl, 1) := by decide +kernel
theorem d24_58 : decode jdk_52_method_3_code 58 = .ok (.ireturn, 1) := by decide +kernel
theorem d25_0 : decode jdk_52_method_4_code 0 = .ok (.getstatic 44, 3) := by decide +kernel
theorem d25_3 : decode jdk_52_method_4_code 3 = .ok (.ifCond .ne 25, 3) := by decide +kernel
theorem d25_28 : decode jdk_52_method_4_code 28 = .ok (.iload_n 1, 1) := by decide +kernel
theorem d25_29 : decode jdk_52_method_4_code 29 = .ok (.iconst 1, 1) := by decide +kernel
theorem d25_30 : decode jdk_52_method_4_code 30 = .ok (.ishl, 1) := by decide +kernel
theorem d25_31 : decode jdk_52_method_4_code 31 = .ok (.istore_n 1, 1) := by decide +kernel
theorem d25_32 : decode jdk_52_method_4_code 32 = .ok (.aload_n 0, 1) := by decide +kernel
theorem d25_33 : decode jdk_52_method_4_code 33 = .ok (.iload_n 1, 1) := by decide +kernel
theorem d25_34 : decode jdk_52_method_4_code 34 = .ok (.iinc 1 1, 3) := by decide +kernel
theorem d25_37 : decode jdk_52_method_4_code 37 = .ok (.iload_n 2, 1) := by decide +kernel
theorem d25_38 : decode jdk_52_method_4_code 38 = .ok (.getstatic 59, 3) := by decide +kernel
theorem d25_41 : decode jdk_52_method_4_code 41 = .ok (.ishr, 1) := by decide +kernel
theorem d25_42 : decode jdk_52_method_4_code 42 = .ok (.i2b, 1) := by decide +kernel
theorem d25_43 : decode jdk_52_method_4_code 43 = .ok (.bastore, 1) := by decide +kernel
theorem d25_44 : decode jdk_52_method_4_code 44 = .ok (.aload_n 0, 1) := by decide +kernel
theorem d25_45 : decode jdk_52_method_4_code 45 = .ok (.iload_n 1, 1) := by decide +kernel
theorem d25_46 : decode jdk_52_method_4_code 46 = .ok (.iload_n 2, 1) := by decide +kernel
theorem d25_47 : decode jdk_52_method_4_code 47 = .ok (.getstatic 63, 3) := by decide +kernel
theorem d25_50 : decode jdk_52_method_4_code 50 = .ok (.ishr, 1) := by decide +kernel
theorem d25_51 : decode jdk_52_method_4_code 51 = .ok (.i2b, 1) := by decide +kernel
theorem d25_52 : decode jdk_52_method_4_code 52 = .ok (.bastore, 1) := by decide +kernel
theorem d25_53 : decode jdk_52_method_4_code 53 = .ok (.return_, 1) := by decide +kernel
theorem d26_0 : decode jdk_52_method_5_code 0 = .ok (.getstatic 44, 3) := by decide +kernel
theorem d26_3 : decode jdk_52_method_5_code 3 = .ok (.ifCond .ne 25, 3) := by decide +kernel
theorem d26_28 : decode jdk_52_method_5_code 28 = .ok (.iload_n 1, 1) := by decide +kernel
theorem d26_29 : decode jdk_52_method_5_code 29 = .ok (.iconst 1, 1) := by decide +kernel
theorem d26_30 : decode jdk_52_method_5_code 30 = .ok (.ishl, 1) := by decide +kernel
theorem d26_31 : decode jdk_52_method_5_code 31 = .ok (.istore_n 1, 1) := by decide +kernel
theorem d26_32 : decode jdk_52_method_5_code 32 = .ok (.aload_n 0, 1) := by decide +kernel
theorem d26_33 : decode jdk_52_method_5_code 33 = .ok (.iload_n 1, 1) := by decide +kernel
theorem d26_34 : decode jdk_52_method_5_code 34 = .ok (.iinc 1 1, 3) := by decide +kernel
theorem d26_37 : decode jdk_52_method_5_code 37 = .ok (.baload, 1) := by decide +kernel
theorem d26_38 : decode jdk_52_method_5_code 38 = .ok (.sipush 255, 3) := by decide +kernel
theorem d26_41 : decode jdk_52_method_5_code 41 = .ok (.iand, 1) := by decide +kernel
theorem d26_42 : decode jdk_52_method_5_code 42 = .ok (.getstatic 59, 3) := by decide +kernel
theorem d26_45 : decode jdk_52_method_5_code 45 = .ok (.ishl, 1) := by decide +kernel
theorem d26_46 : decode jdk_52_method_5_code 46 = .ok (.aload_n 0, 1) := by decide +kernel
theorem d26_47 : decode jdk_52_method_5_code 47 = .ok (.iload_n 1, 1) := by decide +kernel
theorem d26_48 : decode jdk_52_method_5_code 48 = .ok (.baload, 1) := by decide +kernel
theorem d26_49 : decode jdk_52_method_5_code 49 = .ok (.sipush 255, 3) := by decide +kernel
theorem d26_52 : decode jdk_52_method_5_code 52 = .ok (.iand, 1) := by decide +kernel
theorem d26_53 : decode jdk_52_method_5_code 53 = .ok (.getstatic 63, 3) := by decide +kernel
theorem d26_56 : decode jdk_52_method_5_code 56 = .ok (.ishl, 1) := by decide +kernel
theorem d26_57 : decode jdk_52_method_5_code 57 = .ok (.ior, 1) := by decide +kernel
theorem d26_58 : decode jdk_52_method_5_code 58 = .ok (.i2c, 1) := by decide +kernel
theorem d26_59 : decode jdk_52_method_5_code 59 = .ok (.ireturn, 1) := by decide +kernel
theorem d27_0 : decode jdk_52_method_83_code 0 = .ok (.iload_n 1, 1) := by decide +kernel
theorem d27_1 : decode jdk_52_method_83_code 1 = .ok (.aload_n 0, 1) := by decide +kernel
theorem d27_2 : decode jdk_52_method_83_code 2 = .ok (.invokestatic 67, 3) := by decide +kernel
theorem d27_5 : decode jdk_52_method_83_code 5 = .ok (.aload_n 0, 1) := by decide +kernel
theorem d27_6 : decode jdk_52_method_83_code 6 = .ok (.iload_n 1, 1) := by decide +kernel
theorem d27_7 : decode jdk_52_method_83_code 7 = .ok (.invokestatic 71, 3) := by decide +kernel
theorem d27_10 : decode jdk_52_method_83_code 10 = .ok (.ireturn, 1) := by decide +kernel
theorem d28_0 : decode jdk_52_method_91_code 0 = .ok (.iload_n 0, 1) := by decide +kernel
theorem d28_1 : decode jdk_52_method_91_code 1 = .ok (.aload_n 1, 1) := by decide +kernel
theorem d28_2 : decode jdk_52_method_91_code 2 = .ok (.invokestatic 48, 3) := by decide +kernel
theorem d28_5 : decode jdk_52_method_91_code 5 = .ok (.invokestatic 414, 3) := by decide +kernel
theorem d28_8 : decode jdk_52_method_91_code 8 = .ok (.return_, 1) := by decide +kernel
theorem d29_0 : decode jdk_52_method_6_code 0 = .ok (.aload_n 0, 1) := by decide +kernel
theorem d29_1 : decode jdk_52_method_6_code 1 = .ok (.arraylength, 1) := by decide +kernel
theorem d29_2 : decode jdk_52_method_6_code 2 = .ok (.iconst 1, 1) := by decide +kernel
theorem d29_3 : decode jdk_52_method_6_code 3 = .ok (.ishr, 1) := by decide +kernel
theorem d29_4 : decode jdk_52_method_6_code 4 = .ok (.ireturn, 1) := by decide +kernel
theorem pd_0 : parseMethodDescriptor "(I)I" = some ⟨[.int], some .int⟩ := by decide +kernel
theorem pd_1 : parseMethodDescriptor "(I)[B" = some ⟨[.int], some (.array .byte)⟩ := by decide +kernel
theorem pd_2 : parseMethodDescriptor "([BII)V" = some ⟨[(.array .byte), .int, .int], none⟩ := by decide +kernel
theorem pd_3 : parseMethodDescriptor "([CI[BII)I" = some ⟨[(.array .char), .int, (.array .byte), .int, .int], some .int⟩ := by decide +kernel
theorem pd_4 : parseMethodDescriptor "([CII)[B" = some ⟨[(.array .char), .int, .int], some (.array .byte)⟩ := by decide +kernel
theorem pd_5 : parseMethodDescriptor "([BI)C" = some ⟨[(.array .byte), .int], some .char⟩ := by decide +kernel
theorem pd_6 : parseMethodDescriptor "([BI)B" = some ⟨[(.array .byte), .int], some .byte⟩ := by decide +kernel
theorem pd_7 : parseMethodDescriptor "([CIILjava/lang/Void;)V" = some ⟨[(.array .char), .int, .int, (.object "java/lang/Void")], none⟩ := by decide +kernel
theorem pd_8 : parseMethodDescriptor "(IILjava/util/function/BiFunction;)I" = some ⟨[.int, .int, (.object "java/util/function/BiFunction")], some .int⟩ := by decide +kernel
theorem pd_9 : parseMethodDescriptor "([B)I" = some ⟨[(.array .byte)], some .int⟩ := by decide +kernel
theorem pd_10 : parseMethodDescriptor "(II)V" = some ⟨[.int, .int], none⟩ := by decide +kernel
theorem pd_11 : parseMethodDescriptor "(I[B)V" = some ⟨[.int, (.array .byte)], none⟩ := by decide +kernel
theorem pd_12 : parseMethodDescriptor "()Z" = some ⟨[], some .boolean⟩ := by decide +kernel
theorem pd_13 : parseMethodDescriptor "(C)I" = some ⟨[.char], some .int⟩ := by decide +kernel
theorem pd_14 : parseMethodDescriptor "()I" = some ⟨[], some .int⟩ := by decide +kernel
theorem pd_15 : parseMethodDescriptor "(II)I" = some ⟨[.int, .int], some .int⟩ := by decide +kernel
theorem pd_16 : parseMethodDescriptor "(I)C" = some ⟨[.int], some .char⟩ := by decide +kernel
theorem pd_17 : parseMethodDescriptor "(CC)I" = some ⟨[.char, .char], some .int⟩ := by decide +kernel
theorem pd_18 : parseMethodDescriptor "([C)V" = some ⟨[(.array .char)], none⟩ := by decide +kernel
theorem pd_19 : parseMethodDescriptor "(ICCC)Ljava/lang/String;" = some ⟨[.int, .char, .char, .char], some (.object "java/lang/String")⟩ := by decide +kernel
theorem pd_20 : parseMethodDescriptor "(ICCCICCC)I" = some ⟨[.int, .char, .char, .char, .int, .char, .char, .char], some .int⟩ := by decide +kernel
theorem pd_21 : parseMethodDescriptor "(Ljava/lang/String;Ljava/lang/String;)I" = some ⟨[(.object "java/lang/String"), (.object "java/lang/String")], some .int⟩ := by decide +kernel
theorem pn_0 : plainName "java/lang/StringUTF16" = true := by first | (simp [plainName, overriddenIn]; done) | decide +kernel
theorem pn_1 : plainName "java/lang/String" = true := by first | (simp [plainName, overriddenIn]; done) | decide +kernel
theorem pn_2 : plainName "jdk/internal/util/Preconditions" = true := by first | (simp [plainName, overriddenIn]; done) | decide +kernel
theorem pn_3 : plainName "com/example/lopa/lopa/trec/Utf8OrderComparePinLaw" = true := by first | (simp [plainName, overriddenIn]; done) | decide +kernel
theorem pn_4 : plainName "com/example/lopa/lopa/trec/Utf8Order" = true := by first | (simp [plainName, overriddenIn]; done) | decide +kernel
theorem ef_bPut1_0 (m : MethodId) (b : Addr) (ii : Int32) (ch : Int32) : entryFrame m #[(.ref b), (.int ii), (.int ch)] 3 = mkF m 0 #[.val (.ref b), .val (.int ii), .val (.int ch)] [] := by first | (simp [entryFrame, mkF, argsToLocals, Value.category]; done) | rfl
theorem ef_bPut2_0 (m : MethodId) (b : Addr) (ii : Int32) (ch : Int32) : entryFrame m #[(.ref b), (.int ii), (.int ch)] 3 = mkF m 0 #[.val (.ref b), .val (.int ii), .val (.int ch)] [] := by first | (simp [entryFrame, mkF, argsToLocals, Value.category]; done) | rfl
theorem ef_bPut2_1 (m : MethodId) (b : Addr) (ii : Int32) (ch : Int32) : entryFrame m #[(.ref b), (.int ii), (.int ch)] 3 = mkF m 0 #[.val (.ref b), .val (.int ii), .val (.int ch)] [] := by first | (simp [entryFrame, mkF, argsToLocals, Value.category]; done) | rfl
theorem ef_bPut3_0 (m : MethodId) (b : Addr) (ii : Int32) (ch : Int32) : entryFrame m #[(.ref b), (.int ii), (.int ch)] 3 = mkF m 0 #[.val (.ref b), .val (.int ii), .val (.int ch)] [] := by first | (simp [entryFrame, mkF, argsToLocals, Value.category]; done) | rfl
theorem ef_bPut3_1 (m : MethodId) (b : Addr) (ii : Int32) (ch : Int32) : entryFrame m #[(.ref b), (.int ii), (.int ch)] 3 = mkF m 0 #[.val (.ref b), .val (.int ii), .val (.int ch)] [] := by first | (simp [entryFrame, mkF, argsToLocals, Value.category]; done) | rfl
theorem ef_bPut3_2 (m : MethodId) (b : Addr) (ii : Int32) (ch : Int32) : entryFrame m #[(.ref b), (.int ii), (.int ch)] 3 = mkF m 0 #[.val (.ref b), .val (.int ii), .val (.int ch)] [] := by first | (simp [entryFrame, mkF, argsToLocals, Value.category]; done) | rfl
theorem ef_bNbl1 (m : MethodId) (k : Int32) : entryFrame m #[(.int k)] 1 = mkF m 0 #[.val (.int k)] [] := by first | (simp [entryFrame, mkF, argsToLocals, Value.category]; done) | rfl
theorem ef_bNbf1 (m : MethodId) (k : Int32) : entryFrame m #[(.int k)] 1 = mkF m 0 #[.val (.int k)] [] := by first | (simp [entryFrame, mkF, argsToLocals, Value.category]; done) | rfl
theorem ef_bTob1 (m : MethodId) (a : Addr) (of : Int32) (ln : Int32) : entryFrame m #[(.ref a), (.int of), (.int ln)] 5 = mkF m 0 #[.val (.ref a), .val (.int of), .val (.int ln), .unset, .unset] [] := by first | (simp [entryFrame, mkF, argsToLocals, Value.category]; done) | rfl
theorem ef_bGc1_0 (m : MethodId) (b : Addr) (ii : Int32) : entryFrame m #[(.ref b), (.int ii)] 2 = mkF m 0 #[.val (.ref b), .val (.int ii)] [] := by first | (simp [entryFrame, mkF, argsToLocals, Value.category]; done) | rfl
theorem ef_bC51 (m : MethodId) (a : Addr) (o1 : Int32) (d : Addr) (o2 : Int32) (ln : Int32) : entryFrame m #[(.ref a), (.int o1), (.ref d), (.int o2), (.int ln)] 7 = mkF m 0 #[.val (.ref a), .val (.int o1), .val (.ref d), .val (.int o2), .val (.int ln), .unset, .unset] [] := by first | (simp [entryFrame, mkF, argsToLocals, Value.category]; done) | rfl
theorem ef_bC31 (m : MethodId) (a : Addr) (of : Int32) (ln : Int32) : entryFrame m #[(.ref a), (.int of), (.int ln)] 6 = mkF m 0 #[.val (.ref a), .val (.int of), .val (.int ln), .unset, .unset, .unset] [] := by first | (simp [entryFrame, mkF, argsToLocals, Value.category]; done) | rfl
theorem ef_bCfl1 (m : MethodId) (b : Addr) (ln : Int32) : entryFrame m #[(.ref b), (.int ln)] 2 = mkF m 0 #[.val (.ref b), .val (.int ln)] [] := by first | (simp [entryFrame, mkF, argsToLocals, Value.category]; done) | rfl
theorem ef_bW41 (m : MethodId) (x : Addr) (a : Addr) (of : Int32) (ln : Int32) : entryFrame m #[(.ref x), (.ref a), (.int of), (.int ln), .null] 6 = mkF m 0 #[.val (.ref x), .val (.ref a), .val (.int of), .val (.int ln), .val .null, .unset] [] := by first | (simp [entryFrame, mkF, argsToLocals, Value.category]; done) | rfl
theorem ef_bW11 (m : MethodId) (x : Addr) (a : Addr) : entryFrame m #[(.ref x), (.ref a)] 2 = mkF m 0 #[.val (.ref x), .val (.ref a)] [] := by first | (simp [entryFrame, mkF, argsToLocals, Value.category]; done) | rfl
theorem ef_bNbl2 (m : MethodId) (k : Int32) : entryFrame m #[(.int k)] 1 = mkF m 0 #[.val (.int k)] [] := by first | (simp [entryFrame, mkF, argsToLocals, Value.category]; done) | rfl
theorem ef_bNbf2 (m : MethodId) (k : Int32) : entryFrame m #[(.int k)] 1 = mkF m 0 #[.val (.int k)] [] := by first | (simp [entryFrame, mkF, argsToLocals, Value.category]; done) | rfl
theorem ef_bTob2 (m : MethodId) (a : Addr) (of : Int32) (ln : Int32) : entryFrame m #[(.ref a), (.int of), (.int ln)] 5 = mkF m 0 #[.val (.ref a), .val (.int of), .val (.int ln), .unset, .unset] [] := by first | (simp [entryFrame, mkF, argsToLocals, Value.category]; done) | rfl
theorem ef_bGc2_0 (m : MethodId) (b : Addr) (ii : Int32) : entryFrame m #[(.ref b), (.int ii)] 2 = mkF m 0 #[.val (.ref b), .val (.int ii)] [] := by first | (simp [entryFrame, mkF, argsToLocals, Value.category]; done) | rfl
theorem ef_bGc2_1 (m : MethodId) (b : Addr) (ii : Int32) : entryFrame m #[(.ref b), (.int ii)] 2 = mkF m 0 #[.val (.ref b), .val (.int ii)] [] := by first | (simp [entryFrame, mkF, argsToLocals, Value.category]; done) | rfl
theorem ef_bC52 (m : MethodId) (a : Addr) (o1 : Int32) (d : Addr) (o2 : Int32) (ln : Int32) : entryFrame m #[(.ref a), (.int o1), (.ref d), (.int o2), (.int ln)] 7 = mkF m 0 #[.val (.ref a), .val (.int o1), .val (.ref d), .val (.int o2), .val (.int ln), .unset, .unset] [] := by first | (simp [entryFrame, mkF, argsToLocals, Value.category]; done) | rfl
theorem ef_bC32 (m : MethodId) (a : Addr) (of : Int32) (ln : Int32) : entryFrame m #[(.ref a), (.int of), (.int ln)] 6 = mkF m 0 #[.val (.ref a), .val (.int of), .val (.int ln), .unset, .unset, .unset] [] := by first | (simp [entryFrame, mkF, argsToLocals, Value.category]; done) | rfl
theorem ef_bCfl2 (m : MethodId) (b : Addr) (ln : Int32) : entryFrame m #[(.ref b), (.int ln)] 2 = mkF m 0 #[.val (.ref b), .val (.int ln)] [] := by first | (simp [entryFrame, mkF, argsToLocals, Value.category]; done) | rfl
theorem ef_bW42 (m : MethodId) (x : Addr) (a : Addr) (of : Int32) (ln : Int32) : entryFrame m #[(.ref x), (.ref a), (.int of), (.int ln), .null] 6 = mkF m 0 #[.val (.ref x), .val (.ref a), .val (.int of), .val (.int ln), .val .null, .unset] [] := by first | (simp [entryFrame, mkF, argsToLocals, Value.category]; done) | rfl
theorem ef_bW12 (m : MethodId) (x : Addr) (a : Addr) : entryFrame m #[(.ref x), (.ref a)] 2 = mkF m 0 #[.val (.ref x), .val (.ref a)] [] := by first | (simp [entryFrame, mkF, argsToLocals, Value.category]; done) | rfl
theorem ef_bNbl3 (m : MethodId) (k : Int32) : entryFrame m #[(.int k)] 1 = mkF m 0 #[.val (.int k)] [] := by first | (simp [entryFrame, mkF, argsToLocals, Value.category]; done) | rfl
theorem ef_bNbf3 (m : MethodId) (k : Int32) : entryFrame m #[(.int k)] 1 = mkF m 0 #[.val (.int k)] [] := by first | (simp [entryFrame, mkF, argsToLocals, Value.category]; done) | rfl
theorem ef_bTob3 (m : MethodId) (a : Addr) (of : Int32) (ln : Int32) : entryFrame m #[(.ref a), (.int of), (.int ln)] 5 = mkF m 0 #[.val (.ref a), .val (.int of), .val (.int ln), .unset, .unset] [] := by first | (simp [entryFrame, mkF, argsToLocals, Value.category]; done) | rfl
theorem ef_bGc3_0 (m : MethodId) (b : Addr) (ii : Int32) : entryFrame m #[(.ref b), (.int ii)] 2 = mkF m 0 #[.val (.ref b), .val (.int ii)] [] := by first | (simp [entryFrame, mkF, argsToLocals, Value.category]; done) | rfl
theorem ef_bGc3_1 (m : MethodId) (b : Addr) (ii : Int32) : entryFrame m #[(.ref b), (.int ii)] 2 = mkF m 0 #[.val (.ref b), .val (.int ii)] [] := by first | (simp [entryFrame, mkF, argsToLocals, Value.category]; done) | rfl
theorem ef_bGc3_2 (m : MethodId) (b : Addr) (ii : Int32) : entryFrame m #[(.ref b), (.int ii)] 2 = mkF m 0 #[.val (.ref b), .val (.int ii)] [] := by first | (simp [entryFrame, mkF, argsToLocals, Value.category]; done) | rfl
theorem ef_bC53 (m : MethodId) (a : Addr) (o1 : Int32) (d : Addr) (o2 : Int32) (ln : Int32) : entryFrame m #[(.ref a), (.int o1), (.ref d), (.int o2), (.int ln)] 7 = mkF m 0 #[.val (.ref a), .val (.int o1), .val (.ref d), .val (.int o2), .val (.int ln), .unset, .unset] [] := by first | (simp [entryFrame, mkF, argsToLocals, Value.category]; done) | rfl
theorem ef_bC33 (m : MethodId) (a : Addr) (of : Int32) (ln : Int32) : entryFrame m #[(.ref a), (.int of), (.int ln)] 6 = mkF m 0 #[.val (.ref a), .val (.int of), .val (.int ln), .unset, .unset, .unset] [] := by first | (simp [entryFrame, mkF, argsToLocals, Value.category]; done) | rfl
theorem ef_bCfl3 (m : MethodId) (b : Addr) (ln : Int32) : entryFrame m #[(.ref b), (.int ln)] 2 = mkF m 0 #[.val (.ref b), .val (.int ln)] [] := by first | (simp [entryFrame, mkF, argsToLocals, Value.category]; done) | rfl
theorem ef_bW43 (m : MethodId) (x : Addr) (a : Addr) (of : Int32) (ln : Int32) : entryFrame m #[(.ref x), (.ref a), (.int of), (.int ln), .null] 6 = mkF m 0 #[.val (.ref x), .val (.ref a), .val (.int of), .val (.int ln), .val .null, .unset] [] := by first | (simp [entryFrame, mkF, argsToLocals, Value.category]; done) | rfl
theorem ef_bW13 (m : MethodId) (x : Addr) (a : Addr) : entryFrame m #[(.ref x), (.ref a)] 2 = mkF m 0 #[.val (.ref x), .val (.ref a)] [] := by first | (simp [entryFrame, mkF, argsToLocals, Value.category]; done) | rfl
theorem ef_bSl0 (m : MethodId) (x : Addr) : entryFrame m #[(.ref x)] 1 = mkF m 0 #[.val (.ref x)] [] := by first | (simp [entryFrame, mkF, argsToLocals, Value.category]; done) | rfl
theorem ef_bUl (m : MethodId) (b : Addr) : entryFrame m #[(.ref b)] 1 = mkF m 0 #[.val (.ref b)] [] := by first | (simp [entryFrame, mkF, argsToLocals, Value.category]; done) | rfl
theorem ef_bPc0 (m : MethodId) (i : Int32) (n : Int32) (fr : Addr) : entryFrame m #[(.int i), (.int n), (.ref fr)] 3 = mkF m 0 #[.val (.int i), .val (.int n), .val (.ref fr)] [] := by first | (simp [entryFrame, mkF, argsToLocals, Value.category]; done) | rfl
theorem ef_bPc1 (m : MethodId) (i : Int32) (n : Int32) : entryFrame m #[(.int i), (.int n), .null] 3 = mkF m 0 #[.val (.int i), .val (.int n), .val .null] [] := by first | (simp [entryFrame, mkF, argsToLocals, Value.category]; done) | rfl
theorem ef_bSci (m : MethodId) (i : Int32) (n : Int32) : entryFrame m #[(.int i), (.int n)] 2 = mkF m 0 #[.val (.int i), .val (.int n)] [] := by first | (simp [entryFrame, mkF, argsToLocals, Value.category]; done) | rfl
theorem ef_bUci (m : MethodId) (i : Int32) (b : Addr) : entryFrame m #[(.int i), (.ref b)] 2 = mkF m 0 #[.val (.int i), .val (.ref b)] [] := by first | (simp [entryFrame, mkF, argsToLocals, Value.category]; done) | rfl
theorem ef_bGg0 (m : MethodId) (b : Addr) (ii : Int32) : entryFrame m #[(.ref b), (.int ii)] 2 = mkF m 0 #[.val (.ref b), .val (.int ii)] [] := by first | (simp [entryFrame, mkF, argsToLocals, Value.category]; done) | rfl
theorem ef_bUch0 (m : MethodId) (b : Addr) (ii : Int32) : entryFrame m #[(.ref b), (.int ii)] 2 = mkF m 0 #[.val (.ref b), .val (.int ii)] [] := by first | (simp [entryFrame, mkF, argsToLocals, Value.category]; done) | rfl
theorem ef_bWc0 (m : MethodId) (x : Addr) (ii : Int32) : entryFrame m #[(.ref x), (.int ii)] 2 = mkF m 0 #[.val (.ref x), .val (.int ii)] [] := by first | (simp [entryFrame, mkF, argsToLocals, Value.category]; done) | rfl
theorem ef_bGg1 (m : MethodId) (b : Addr) (ii : Int32) : entryFrame m #[(.ref b), (.int ii)] 2 = mkF m 0 #[.val (.ref b), .val (.int ii)] [] := by first | (simp [entryFrame, mkF, argsToLocals, Value.category]; done) | rfl
theorem ef_bUch1 (m : MethodId) (b : Addr) (ii : Int32) : entryFrame m #[(.ref b), (.int ii)] 2 = mkF m 0 #[.val (.ref b), .val (.int ii)] [] := by first | (simp [entryFrame, mkF, argsToLocals, Value.category]; done) | rfl
theorem ef_bWc1 (m : MethodId) (x : Addr) (ii : Int32) : entryFrame m #[(.ref x), (.int ii)] 2 = mkF m 0 #[.val (.ref x), .val (.int ii)] [] := by first | (simp [entryFrame, mkF, argsToLocals, Value.category]; done) | rfl
theorem ef_bGg2 (m : MethodId) (b : Addr) (ii : Int32) : entryFrame m #[(.ref b), (.int ii)] 2 = mkF m 0 #[.val (.ref b), .val (.int ii)] [] := by first | (simp [entryFrame, mkF, argsToLocals, Value.category]; done) | rfl
theorem ef_bUch2 (m : MethodId) (b : Addr) (ii : Int32) : entryFrame m #[(.ref b), (.int ii)] 2 = mkF m 0 #[.val (.ref b), .val (.int ii)] [] := by first | (simp [entryFrame, mkF, argsToLocals, Value.category]; done) | rfl
theorem ef_bWc2 (m : MethodId) (x : Addr) (ii : Int32) : entryFrame m #[(.ref x), (.int ii)] 2 = mkF m 0 #[.val (.ref x), .val (.int ii)] [] := by first | (simp [entryFrame, mkF, argsToLocals, Value.category]; done) | rfl
theorem ef_bSgn (m : MethodId) (r : Int32) : entryFrame m #[(.int r)] 1 = mkF m 0 #[.val (.int r)] [] := by first | (simp [entryFrame, mkF, argsToLocals, Value.category]; done) | rfl
theorem ef_bGrp (m : MethodId) (x : Int32) : entryFrame m #[(.int x)] 1 = mkF m 0 #[.val (.int x)] [] := by first | (simp [entryFrame, mkF, argsToLocals, Value.category]; done) | rfl
theorem ef_bUo (m : MethodId) (x : Int32) (y : Int32) : entryFrame m #[(.int x), (.int y)] 4 = mkF m 0 #[.val (.int x), .val (.int y), .unset, .unset] [] := by first | (simp [entryFrame, mkF, argsToLocals, Value.category]; done) | rfl
theorem ef_bRnk (m : MethodId) (x : Int32) : entryFrame m #[(.int x)] 2 = mkF m 0 #[.val (.int x), .unset] [] := by first | (simp [entryFrame, mkF, argsToLocals, Value.category]; done) | rfl
theorem ef_bMin (m : MethodId) (a : Int32) (b : Int32) : entryFrame m #[(.int a), (.int b)] 2 = mkF m 0 #[.val (.int a), .val (.int b)] [] := by first | (simp [entryFrame, mkF, argsToLocals, Value.category]; done) | rfl
theorem ef_bCmp00 (m : MethodId) (x : Addr) (y : Addr) : entryFrame m #[(.ref x), (.ref y)] 6 = mkF m 0 #[.val (.ref x), .val (.ref y), .unset, .unset, .unset, .unset] [] := by first | (simp [entryFrame, mkF, argsToLocals, Value.category]; done) | rfl
theorem ef_bCmp01 (m : MethodId) (x : Addr) (y : Addr) : entryFrame m #[(.ref x), (.ref y)] 6 = mkF m 0 #[.val (.ref x), .val (.ref y), .unset, .unset, .unset, .unset] [] := by first | (simp [entryFrame, mkF, argsToLocals, Value.category]; done) | rfl
theorem ef_bCmp02 (m : MethodId) (x : Addr) (y : Addr) : entryFrame m #[(.ref x), (.ref y)] 6 = mkF m 0 #[.val (.ref x), .val (.ref y), .unset, .unset, .unset, .unset] [] := by first | (simp [entryFrame, mkF, argsToLocals, Value.category]; done) | rfl
theorem ef_bCmp03 (m : MethodId) (x : Addr) (y : Addr) : entryFrame m #[(.ref x), (.ref y)] 6 = mkF m 0 #[.val (.ref x), .val (.ref y), .unset, .unset, .unset, .unset] [] := by first | (simp [entryFrame, mkF, argsToLocals, Value.category]; done) | rfl
theorem ef_bCmp10 (m : MethodId) (x : Addr) (y : Addr) : entryFrame m #[(.ref x), (.ref y)] 6 = mkF m 0 #[.val (.ref x), .val (.ref y), .unset, .unset, .unset, .unset] [] := by first | (simp [entryFrame, mkF, argsToLocals, Value.category]; done) | rfl
theorem ef_bCmp11 (m : MethodId) (x : Addr) (y : Addr) : entryFrame m #[(.ref x), (.ref y)] 6 = mkF m 0 #[.val (.ref x), .val (.ref y), .unset, .unset, .unset, .unset] [] := by first | (simp [entryFrame, mkF, argsToLocals, Value.category]; done) | rfl
theorem ef_bCmp12 (m : MethodId) (x : Addr) (y : Addr) : entryFrame m #[(.ref x), (.ref y)] 6 = mkF m 0 #[.val (.ref x), .val (.ref y), .unset, .unset, .unset, .unset] [] := by first | (simp [entryFrame, mkF, argsToLocals, Value.category]; done) | rfl
theorem ef_bCmp13 (m : MethodId) (x : Addr) (y : Addr) : entryFrame m #[(.ref x), (.ref y)] 6 = mkF m 0 #[.val (.ref x), .val (.ref y), .unset, .unset, .unset, .unset] [] := by first | (simp [entryFrame, mkF, argsToLocals, Value.category]; done) | rfl
theorem ef_bCmp20 (m : MethodId) (x : Addr) (y : Addr) : entryFrame m #[(.ref x), (.ref y)] 6 = mkF m 0 #[.val (.ref x), .val (.ref y), .unset, .unset, .unset, .unset] [] := by first | (simp [entryFrame, mkF, argsToLocals, Value.category]; done) | rfl
theorem ef_bCmp21 (m : MethodId) (x : Addr) (y : Addr) : entryFrame m #[(.ref x), (.ref y)] 6 = mkF m 0 #[.val (.ref x), .val (.ref y), .unset, .unset, .unset, .unset] [] := by first | (simp [entryFrame, mkF, argsToLocals, Value.category]; done) | rfl
theorem ef_bCmp22 (m : MethodId) (x : Addr) (y : Addr) : entryFrame m #[(.ref x), (.ref y)] 6 = mkF m 0 #[.val (.ref x), .val (.ref y), .unset, .unset, .unset, .unset] [] := by first | (simp [entryFrame, mkF, argsToLocals, Value.category]; done) | rfl
theorem ef_bCmp23 (m : MethodId) (x : Addr) (y : Addr) : entryFrame m #[(.ref x), (.ref y)] 6 = mkF m 0 #[.val (.ref x), .val (.ref y), .unset, .unset, .unset, .unset] [] := by first | (simp [entryFrame, mkF, argsToLocals, Value.category]; done) | rfl
theorem ef_bCmp30 (m : MethodId) (x : Addr) (y : Addr) : entryFrame m #[(.ref x), (.ref y)] 6 = mkF m 0 #[.val (.ref x), .val (.ref y), .unset, .unset, .unset, .unset] [] := by first | (simp [entryFrame, mkF, argsToLocals, Value.category]; done) | rfl
theorem ef_bCmp31 (m : MethodId) (x : Addr) (y : Addr) : entryFrame m #[(.ref x), (.ref y)] 6 = mkF m 0 #[.val (.ref x), .val (.ref y), .unset, .unset, .unset, .unset] [] := by first | (simp [entryFrame, mkF, argsToLocals, Value.category]; done) | rfl
theorem ef_bCmp32 (m : MethodId) (x : Addr) (y : Addr) : entryFrame m #[(.ref x), (.ref y)] 6 = mkF m 0 #[.val (.ref x), .val (.ref y), .unset, .unset, .unset, .unset] [] := by first | (simp [entryFrame, mkF, argsToLocals, Value.category]; done) | rfl
theorem ef_bCmp33 (m : MethodId) (x : Addr) (y : Addr) : entryFrame m #[(.ref x), (.ref y)] 6 = mkF m 0 #[.val (.ref x), .val (.ref y), .unset, .unset, .unset, .unset] [] := by first | (simp [entryFrame, mkF, argsToLocals, Value.category]; done) | rfl
theorem ef_bRef00 (m : MethodId) (la : Int32) (a0 : Int32) (a1 : Int32) (a2 : Int32) (lb : Int32) (b0 : Int32) (b1 : Int32) (b2 : Int32) : entryFrame m #[(.int la), (.int a0), (.int a1), (.int a2), (.int lb), (.int b0), (.int b1), (.int b2)] 8 = mkF m 0 #[.val (.int la), .val (.int a0), .val (.int a1), .val (.int a2), .val (.int lb), .val (.int b0), .val (.int b1), .val (.int b2)] [] := by first | (simp [entryFrame, mkF, argsToLocals, Value.category]; done) | rfl
theorem ef_bRef01 (m : MethodId) (la : Int32) (a0 : Int32) (a1 : Int32) (a2 : Int32) (lb : Int32) (b0 : Int32) (b1 : Int32) (b2 : Int32) : entryFrame m #[(.int la), (.int a0), (.int a1), (.int a2), (.int lb), (.int b0), (.int b1), (.int b2)] 8 = mkF m 0 #[.val (.int la), .val (.int a0), .val (.int a1), .val (.int a2), .val (.int lb), .val (.int b0), .val (.int b1), .val (.int b2)] [] := by first | (simp [entryFrame, mkF, argsToLocals, Value.category]; done) | rfl
theorem ef_bRef02 (m : MethodId) (la : Int32) (a0 : Int32) (a1 : Int32) (a2 : Int32) (lb : Int32) (b0 : Int32) (b1 : Int32) (b2 : Int32) : entryFrame m #[(.int la), (.int a0), (.int a1), (.int a2), (.int lb), (.int b0), (.int b1), (.int b2)] 8 = mkF m 0 #[.val (.int la), .val (.int a0), .val (.int a1), .val (.int a2), .val (.int lb), .val (.int b0), .val (.int b1), .val (.int b2)] [] := by first | (simp [entryFrame, mkF, argsToLocals, Value.category]; done) | rfl
theorem ef_bRef03 (m : MethodId) (la : Int32) (a0 : Int32) (a1 : Int32) (a2 : Int32) (lb : Int32) (b0 : Int32) (b1 : Int32) (b2 : Int32) : entryFrame m #[(.int la), (.int a0), (.int a1), (.int a2), (.int lb), (.int b0), (.int b1), (.int b2)] 8 = mkF m 0 #[.val (.int la), .val (.int a0), .val (.int a1), .val (.int a2), .val (.int lb), .val (.int b0), .val (.int b1), .val (.int b2)] [] := by first | (simp [entryFrame, mkF, argsToLocals, Value.category]; done) | rfl
theorem ef_bRef10 (m : MethodId) (la : Int32) (a0 : Int32) (a1 : Int32) (a2 : Int32) (lb : Int32) (b0 : Int32) (b1 : Int32) (b2 : Int32) : entryFrame m #[(.int la), (.int a0), (.int a1), (.int a2), (.int lb), (.int b0), (.int b1), (.int b2)] 8 = mkF m 0 #[.val (.int la), .val (.int a0), .val (.int a1), .val (.int a2), .val (.int lb), .val (.int b0), .val (.int b1), .val (.int b2)] [] := by first | (simp [entryFrame, mkF, argsToLocals, Value.category]; done) | rfl
theorem ef_bRef11 (m : MethodId) (la : Int32) (a0 : Int32) (a1 : Int32) (a2 : Int32) (lb : Int32) (b0 : Int32) (b1 : Int32) (b2 : Int32) : entryFrame m #[(.int la), (.int a0), (.int a1), (.int a2), (.int lb), (.int b0), (.int b1), (.int b2)] 8 = mkF m 0 #[.val (.int la), .val (.int a0), .val (.int a1), .val (.int a2), .val (.int lb), .val (.int b0), .val (.int b1), .val (.int b2)] [] := by first | (simp [entryFrame, mkF, argsToLocals, Value.category]; done) | rfl
theorem ef_bRef12 (m : MethodId) (la : Int32) (a0 : Int32) (a1 : Int32) (a2 : Int32) (lb : Int32) (b0 : Int32) (b1 : Int32) (b2 : Int32) : entryFrame m #[(.int la), (.int a0), (.int a1), (.int a2), (.int lb), (.int b0), (.int b1), (.int b2)] 8 = mkF m 0 #[.val (.int la), .val (.int a0), .val (.int a1), .val (.int a2), .val (.int lb), .val (.int b0), .val (.int b1), .val (.int b2)] [] := by first | (simp [entryFrame, mkF, argsToLocals, Value.category]; done) | rfl
theorem ef_bRef13 (m : MethodId) (la : Int32) (a0 : Int32) (a1 : Int32) (a2 : Int32) (lb : Int32) (b0 : Int32) (b1 : Int32) (b2 : Int32) : entryFrame m #[(.int la), (.int a0), (.int a1), (.int a2), (.int lb), (.int b0), (.int b1), (.int b2)] 8 = mkF m 0 #[.val (.int la), .val (.int a0), .val (.int a1), .val (.int a2), .val (.int lb), .val (.int b0), .val (.int b1), .val (.int b2)] [] := by first | (simp [entryFrame, mkF, argsToLocals, Value.category]; done) | rfl
theorem ef_bRef20 (m : MethodId) (la : Int32) (a0 : Int32) (a1 : Int32) (a2 : Int32) (lb : Int32) (b0 : Int32) (b1 : Int32) (b2 : Int32) : entryFrame m #[(.int la), (.int a0), (.int a1), (.int a2), (.int lb), (.int b0), (.int b1), (.int b2)] 8 = mkF m 0 #[.val (.int la), .val (.int a0), .val (.int a1), .val (.int a2), .val (.int lb), .val (.int b0), .val (.int b1), .val (.int b2)] [] := by first | (simp [entryFrame, mkF, argsToLocals, Value.category]; done) | rfl
theorem ef_bRef21 (m : MethodId) (la : Int32) (a0 : Int32) (a1 : Int32) (a2 : Int32) (lb : Int32) (b0 : Int32) (b1 : Int32) (b2 : Int32) : entryFrame m #[(.int la), (.int a0), (.int a1), (.int a2), (.int lb), (.int b0), (.int b1), (.int b2)] 8 = mkF m 0 #[.val (.int la), .val (.int a0), .val (.int a1), .val (.int a2), .val (.int lb), .val (.int b0), .val (.int b1), .val (.int b2)] [] := by first | (simp [entryFrame, mkF, argsToLocals, Value.category]; done) | rfl
theorem ef_bRef22 (m : MethodId) (la : Int32) (a0 : Int32) (a1 : Int32) (a2 : Int32) (lb : Int32) (b0 : Int32) (b1 : Int32) (b2 : Int32) : entryFrame m #[(.int la), (.int a0), (.int a1), (.int a2), (.int lb), (.int b0), (.int b1), (.int b2)] 8 = mkF m 0 #[.val (.int la), .val (.int a0), .val (.int a1), .val (.int a2), .val (.int lb), .val (.int b0), .val (.int b1), .val (.int b2)] [] := by first | (simp [entryFrame, mkF, argsToLocals, Value.category]; done) | rfl
theorem ef_bRef23 (m : MethodId) (la : Int32) (a0 : Int32) (a1 : Int32) (a2 : Int32) (lb : Int32) (b0 : Int32) (b1 : Int32) (b2 : Int32) : entryFrame m #[(.int la), (.int a0), (.int a1), (.int a2), (.int lb), (.int b0), (.int b1), (.int b2)] 8 = mkF m 0 #[.val (.int la), .val (.int a0), .val (.int a1), .val (.int a2), .val (.int lb), .val (.int b0), .val (.int b1), .val (.int b2)] [] := by first | (simp [entryFrame, mkF, argsToLocals, Value.category]; done) | rfl
theorem ef_bRef30 (m : MethodId) (la : Int32) (a0 : Int32) (a1 : Int32) (a2 : Int32) (lb : Int32) (b0 : Int32) (b1 : Int32) (b2 : Int32) : entryFrame m #[(.int la), (.int a0), (.int a1), (.int a2), (.int lb), (.int b0), (.int b1), (.int b2)] 8 = mkF m 0 #[.val (.int la), .val (.int a0), .val (.int a1), .val (.int a2), .val (.int lb), .val (.int b0), .val (.int b1), .val (.int b2)] [] := by first | (simp [entryFrame, mkF, argsToLocals, Value.category]; done) | rfl
theorem ef_bRef31 (m : MethodId) (la : Int32) (a0 : Int32) (a1 : Int32) (a2 : Int32) (lb : Int32) (b0 : Int32) (b1 : Int32) (b2 : Int32) : entryFrame m #[(.int la), (.int a0), (.int a1), (.int a2), (.int lb), (.int b0), (.int b1), (.int b2)] 8 = mkF m 0 #[.val (.int la), .val (.int a0), .val (.int a1), .val (.int a2), .val (.int lb), .val (.int b0), .val (.int b1), .val (.int b2)] [] := by first | (simp [entryFrame, mkF, argsToLocals, Value.category]; done) | rfl
theorem ef_bRef32 (m : MethodId) (la : Int32) (a0 : Int32) (a1 : Int32) (a2 : Int32) (lb : Int32) (b0 : Int32) (b1 : Int32) (b2 : Int32) : entryFrame m #[(.int la), (.int a0), (.int a1), (.int a2), (.int lb), (.int b0), (.int b1), (.int b2)] 8 = mkF m 0 #[.val (.int la), .val (.int a0), .val (.int a1), .val (.int a2), .val (.int lb), .val (.int b0), .val (.int b1), .val (.int b2)] [] := by first | (simp [entryFrame, mkF, argsToLocals, Value.category]; done) | rfl
theorem ef_bRef33 (m : MethodId) (la : Int32) (a0 : Int32) (a1 : Int32) (a2 : Int32) (lb : Int32) (b0 : Int32) (b1 : Int32) (b2 : Int32) : entryFrame m #[(.int la), (.int a0), (.int a1), (.int a2), (.int lb), (.int b0), (.int b1), (.int b2)] 8 = mkF m 0 #[.val (.int la), .val (.int a0), .val (.int a1), .val (.int a2), .val (.int lb), .val (.int b0), .val (.int b1), .val (.int b2)] [] := by first | (simp [entryFrame, mkF, argsToLocals, Value.category]; done) | rfl
theorem ef_bMk0 (m : MethodId) (ln : Int32) (ch0 : Int32) (ch1 : Int32) (ch2 : Int32) : entryFrame m #[(.int ln), (.int ch0), (.int ch1), (.int ch2)] 4 = mkF m 0 #[.val (.int ln), .val (.int ch0), .val (.int ch1), .val (.int ch2)] [] := by first | (simp [entryFrame, mkF, argsToLocals, Value.category]; done) | rfl
theorem ef_bMk1 (m : MethodId) (ln : Int32) (ch0 : Int32) (ch1 : Int32) (ch2 : Int32) : entryFrame m #[(.int ln), (.int ch0), (.int ch1), (.int ch2)] 4 = mkF m 0 #[.val (.int ln), .val (.int ch0), .val (.int ch1), .val (.int ch2)] [] := by first | (simp [entryFrame, mkF, argsToLocals, Value.category]; done) | rfl
theorem ef_bMk2 (m : MethodId) (ln : Int32) (ch0 : Int32) (ch1 : Int32) (ch2 : Int32) : entryFrame m #[(.int ln), (.int ch0), (.int ch1), (.int ch2)] 4 = mkF m 0 #[.val (.int ln), .val (.int ch0), .val (.int ch1), .val (.int ch2)] [] := by first | (simp [entryFrame, mkF, argsToLocals, Value.category]; done) | rfl
theorem ef_bMk3 (m : MethodId) (ln : Int32) (ch0 : Int32) (ch1 : Int32) (ch2 : Int32) : entryFrame m #[(.int ln), (.int ch0), (.int ch1), (.int ch2)] 4 = mkF m 0 #[.val (.int ln), .val (.int ch0), .val (.int ch1), .val (.int ch2)] [] := by first | (simp [entryFrame, mkF, argsToLocals, Value.category]; done) | rfl
theorem ef_law (m : MethodId) (pa : Int64) (pb : Int64) (fl : Int32) : entryFrame m #[(.long pa), (.long pb), (.int fl)] maxLocals = mkF m 0 #[.val (.long pa), .second, .val (.long pb), .second, .val (.int fl), .unset, .unset, .unset, .unset, .unset, .unset, .unset, .unset, .unset, .unset, .unset, .unset, .unset] [] := by first | (simp [entryFrame, mkF, argsToLocals, Value.category, maxLocals]; done) | rfl
def grp (c : Int32) : Int32 := if c < 55296 then 0 else if c < 57344 then 2 else 1
def uo (x y : Int32) : Int32 := if grp x = grp y then (if x < y then -1 else 1) else (if grp x < grp y then -1 else 1)
def rank (c : Int32) : Int32 := if c < 57344 then (if c < 55296 then c else c + 8192) else c + (-2048)
def sgn (r : Int32) : Int32 := if r < 0 then -1 else if 0 < r then 1 else 0
def cmpF : List Int32 → List Int32 → Int32 → Int32
  | a :: as, b :: bs, d => if a = b then cmpF as bs d else rank a - rank b
  | _, _, d => d
def refF : List Int32 → List Int32 → Int32 → Int32
  | a :: as, b :: bs, e => if a = b then refF as bs e else uo a b
  | _, _, e => e
theorem cmp_eq {a b : Int32} {as bs : List Int32} {d : Int32} (h : a = b) : cmpF (a :: as) (b :: bs) d = cmpF as bs d := by rw [cmpF, if_pos h]
theorem cmp_ne {a b : Int32} {as bs : List Int32} {d : Int32} (h : ¬ a = b) : cmpF (a :: as) (b :: bs) d = rank a - rank b := by rw [cmpF, if_neg h]
theorem ref_eq {a b : Int32} {as bs : List Int32} {d : Int32} (h : a = b) : refF (a :: as) (b :: bs) d = refF as bs d := by rw [refF, if_pos h]
theorem ref_ne {a b : Int32} {as bs : List Int32} {d : Int32} (h : ¬ a = b) : refF (a :: as) (b :: bs) d = uo a b := by rw [refF, if_neg h]
theorem cmp_end {as bs : List Int32} {d : Int32} (h : as = [] ∨ bs = []) : cmpF as bs d = d := by rcases h with rfl | rfl; cases bs <;> rfl; cases as <;> rfl
theorem ref_end {as bs : List Int32} {d : Int32} (h : as = [] ∨ bs = []) : refF as bs d = d := by rcases h with rfl | rfl; cases bs <;> rfl; cases as <;> rfl
theorem nn0 : (0 : Int32).toInt = 0 := by decide
theorem nn1 : (55296 : Int32).toInt = 55296 := by decide
theorem nn2 : (57344 : Int32).toInt = 57344 := by decide
theorem nn3 : (65535 : Int32).toInt = 65535 := by decide
theorem nn4 : (8192 : Int32).toInt = 8192 := by decide
theorem nn5 : (-2048 : Int32).toInt = -2048 := by decide
theorem gr3 (c : Int32) (h : Own.R16 c) : 0 ≤ c.toInt ∧ c.toInt ≤ 65535 ∧ ((c.toInt < 55296 ∧ (grp c).toInt = 0 ∧ (rank c).toInt = c.toInt) ∨ (55296 ≤ c.toInt ∧ c.toInt < 57344 ∧ (grp c).toInt = 2 ∧ (rank c).toInt = c.toInt + 8192) ∨ (57344 ≤ c.toInt ∧ (grp c).toInt = 1 ∧ (rank c).toInt = c.toInt - 2048)) := by
  obtain ⟨h0, h1⟩ := h
  rw [Int32.lt_iff_toInt_lt, nn0] at h0
  rw [Int32.lt_iff_toInt_lt, nn3] at h1
  refine ⟨by omega, by omega, ?_⟩
  have a1 := c_iadd c 8192
  have a2 := c_iadd c (-2048)
  have r1 := rng32 (c + 8192)
  have r2 := rng32 (c + (-2048))
  rw [nn4] at a1
  rw [nn5] at a2
  unfold grp rank
  simp only [Int32.lt_iff_toInt_lt, nn1, nn2]
  by_cases q1 : c.toInt < 55296
  · have q2 : c.toInt < 57344 := by omega
    refine Or.inl ⟨q1, ?_, ?_⟩
    · rw [if_pos q1]; decide
    · rw [if_pos q2, if_pos q1]
  · by_cases q2 : c.toInt < 57344
    · refine Or.inr (Or.inl ⟨by omega, q2, ?_, ?_⟩)
      · rw [if_neg q1, if_pos q2]; decide
      · rw [if_pos q2, if_neg q1]; omega
    · refine Or.inr (Or.inr ⟨by omega, ?_, ?_⟩)
      · rw [if_neg q1, if_neg q2]; decide
      · rw [if_neg q2]; omega
theorem sgI (x : Int32) : sgn x = if x.toInt < 0 then -1 else if 0 < x.toInt then 1 else 0 := by
  unfold sgn; simp only [Int32.lt_iff_toInt_lt, nn0]
theorem uoI (a b : Int32) : uo a b = if (grp a).toInt = (grp b).toInt then (if a.toInt < b.toInt then -1 else 1) else (if (grp a).toInt < (grp b).toInt then -1 else 1) := by
  unfold uo; simp only [Int32.lt_iff_toInt_lt, ← Int32.toInt_inj]
theorem uo_s {a b : Int32} (ha : Own.R16 a) (hb : Own.R16 b) (ne : ¬ a = b) : sgn (rank a - rank b) = uo a b ∧ sgn (rank b - rank a) = - uo a b := by
  obtain ⟨a0, a1, pa⟩ := gr3 a ha
  obtain ⟨b0, b1, pb⟩ := gr3 b hb
  have s1 := c_isub (rank a) (rank b)
  have s2 := c_isub (rank b) (rank a)
  have r1 := rng32 (rank a - rank b)
  have r2 := rng32 (rank b - rank a)
  have ne' : a.toInt ≠ b.toInt := fun q => ne (Int32.toInt_inj.mp q)
  have t1 : (rank a - rank b).toInt = (rank a).toInt - (rank b).toInt := by omega
  have t2 : (rank b - rank a).toInt = (rank b).toInt - (rank a).toInt := by omega
  clear s1 s2 r1 r2
  rw [sgI, sgI, uoI, t1, t2]
  clear t1 t2
  generalize (rank a).toInt = ra at *
  generalize (rank b).toInt = rb at *
  generalize (grp a).toInt = ga at *
  generalize (grp b).toInt = gb at *
  constructor
  · (repeat' split) <;> first | rfl | decide | (exfalso; omega)
  · (repeat' split) <;> first | rfl | decide | (exfalso; omega)
theorem pureL (as : List Int32) : ∀ (bs : List Int32) (d d' : Int32) (hd : sgn d' = - sgn d) (ha : ∀ c ∈ as, Own.R16 c) (hb : ∀ c ∈ bs, Own.R16 c), sgn (cmpF as bs d) = refF as bs (sgn d) ∧ sgn (cmpF bs as d') = - refF as bs (sgn d) := by
  induction as with
  | nil => intro bs d d' hd ha hb; rw [cmp_end (Or.inl rfl), cmp_end (Or.inr rfl), ref_end (Or.inl rfl)]; exact ⟨rfl, hd⟩
  | cons a as ih =>
    intro bs d d' hd ha hb
    cases bs with
    | nil => rw [cmp_end (Or.inr rfl), cmp_end (Or.inl rfl), ref_end (Or.inr rfl)]; exact ⟨rfl, hd⟩
    | cons b bs =>
      by_cases e : a = b
      · rw [cmp_eq e, cmp_eq e.symm, ref_eq e]
        exact ih bs d d' hd (fun c hc => ha c (List.mem_cons_of_mem _ hc)) (fun c hc => hb c (List.mem_cons_of_mem _ hc))
      · rw [cmp_ne e, cmp_ne (fun q => e q.symm), ref_ne e]
        exact uo_s (ha a List.mem_cons_self) (hb b List.mem_cons_self) e
theorem all_0 : ∀ c ∈ ([] : List Int32), Own.R16 c := by intro c hc; cases hc
theorem all_s {a : Int32} {as : List Int32} (h : Own.R16 a) (k : ∀ c ∈ as, Own.R16 c) : ∀ c ∈ a :: as, Own.R16 c := by
  intro c hc; rcases List.mem_cons.mp hc with rfl | q; exact h; exact k c q
def fA (f : Int32) : Int32 := f &&& 3
def fB (f : Int32) : Int32 := (f.toUInt32 >>> ((2 : Int32) &&& 31).toUInt32).toInt32 &&& 3
def cA (p : Int64) : Int32 := (p.toInt32).toUInt32.toUInt16.toUInt32.toInt32
def cS (p : Int64) (k : Int32) : Int32 := (((p.toUInt64 >>> (k &&& 0x3f).toInt64.toUInt64).toInt64).toInt32).toUInt32.toUInt16.toUInt32.toInt32
theorem r16A (p : Int64) : Own.R16 (cA p) := Own.chr_r16 _
theorem r16S (p : Int64) (k : Int32) : Own.R16 (cS p k) := Own.chr_r16 _
theorem four (x : Int32) : x &&& 3 = 0 ∨ x &&& 3 = 1 ∨ x &&& 3 = 2 ∨ x &&& 3 = 3 := by
  have h := c_and x 3 (by decide)
  have k : ∀ (j : Int32) (q : Int), j.toInt = q → (x &&& 3).toInt = q → x &&& 3 = j := fun j q a b => Int32.toInt_inj.mp (b.trans a.symm)
  have e3 : (3 : Int32).toInt = 3 := by decide
  rcases (by omega : (x &&& 3).toInt = 0 ∨ (x &&& 3).toInt = 1 ∨ (x &&& 3).toInt = 2 ∨ (x &&& 3).toInt = 3) with q | q | q | q
  · exact Or.inl (k 0 0 (by decide) q)
  · exact Or.inr (Or.inl (k 1 1 (by decide) q))
  · exact Or.inr (Or.inr (Or.inl (k 2 2 (by decide) q)))
  · exact Or.inr (Or.inr (Or.inr (k 3 3 (by decide) q)))
theorem fourA (f : Int32) : fA f = 0 ∨ fA f = 1 ∨ fA f = 2 ∨ fA f = 3 := four f
theorem fourB (f : Int32) : fB f = 0 ∨ fB f = 1 ∨ fB f = 2 ∨ fB f = 3 := four _
abbrev bPut1_0 : Own.Bo := (⟨"java/lang/StringUTF16", "putChar", "([BII)V"⟩, jdk_52_method_4_code, 3, none, ({ frames := 0, cells := 0, slots := 0, locals := 0 } : Room))
abbrev bPut2_0 : Own.Bo := (⟨"java/lang/StringUTF16", "putChar", "([BII)V"⟩, jdk_52_method_4_code, 3, none, ({ frames := 0, cells := 0, slots := 0, locals := 0 } : Room))
abbrev bPut2_1 : Own.Bo := (⟨"java/lang/StringUTF16", "putChar", "([BII)V"⟩, jdk_52_method_4_code, 3, none, ({ frames := 0, cells := 0, slots := 0, locals := 0 } : Room))
abbrev bPut3_0 : Own.Bo := (⟨"java/lang/StringUTF16", "putChar", "([BII)V"⟩, jdk_52_method_4_code, 3, none, ({ frames := 0, cells := 0, slots := 0, locals := 0 } : Room))
abbrev bPut3_1 : Own.Bo := (⟨"java/lang/StringUTF16", "putChar", "([BII)V"⟩, jdk_52_method_4_code, 3, none, ({ frames := 0, cells := 0, slots := 0, locals := 0 } : Room))
abbrev bPut3_2 : Own.Bo := (⟨"java/lang/StringUTF16", "putChar", "([BII)V"⟩, jdk_52_method_4_code, 3, none, ({ frames := 0, cells := 0, slots := 0, locals := 0 } : Room))
abbrev bNbl1 : Own.Bo := (⟨"java/lang/StringUTF16", "newBytesLength", "(I)I"⟩, jdk_52_method_3_code, 1, (some .int), ({ frames := 0, cells := 0, slots := 0, locals := 0 } : Room))
abbrev bNbf1 : Own.Bo := (⟨"java/lang/StringUTF16", "newBytesFor", "(I)[B"⟩, jdk_52_method_2_code, 1, (some (.array .byte)), ({ frames := 1, cells := 1, slots := 2, locals := 12 } : Room))
abbrev bTob1 : Own.Bo := (⟨"java/lang/StringUTF16", "toBytes", "([CII)[B"⟩, jdk_52_method_14_code, 5, (some (.array .byte)), ({ frames := 2, cells := 1, slots := 2, locals := 30 } : Room))
abbrev bGc1_0 : Own.Bo := (⟨"java/lang/StringUTF16", "getChar", "([BI)C"⟩, jdk_52_method_5_code, 2, (some .char), ({ frames := 0, cells := 0, slots := 0, locals := 0 } : Room))
abbrev bC51 : Own.Bo := (⟨"java/lang/StringUTF16", "compress", "([CI[BII)I"⟩, jdk_52_method_21_code, 7, (some .int), ({ frames := 0, cells := 0, slots := 0, locals := 0 } : Room))
abbrev bC31 : Own.Bo := (⟨"java/lang/StringUTF16", "compress", "([CII)[B"⟩, jdk_52_method_16_code, 6, (some (.array .byte)), ({ frames := 3, cells := 2, slots := 3, locals := 46 } : Room))
abbrev bCfl1 : Own.Bo := (⟨"java/lang/StringUTF16", "coderFromArrayLen", "([BI)B"⟩, jdk_52_method_15_code, 2, (some .byte), ({ frames := 0, cells := 0, slots := 0, locals := 0 } : Room))
abbrev bW41 : Own.Bo := (⟨"java/lang/String", "<init>", "([CIILjava/lang/Void;)V"⟩, jdk_42_method_149_code, 6, none, ({ frames := 4, cells := 2, slots := 3, locals := 66 } : Room))
abbrev bW11 : Own.Bo := (⟨"java/lang/String", "<init>", "([C)V"⟩, jdk_42_method_3_code, 2, none, ({ frames := 5, cells := 2, slots := 3, locals := 90 } : Room))
abbrev bNbl2 : Own.Bo := (⟨"java/lang/StringUTF16", "newBytesLength", "(I)I"⟩, jdk_52_method_3_code, 1, (some .int), ({ frames := 0, cells := 0, slots := 0, locals := 0 } : Room))
abbrev bNbf2 : Own.Bo := (⟨"java/lang/StringUTF16", "newBytesFor", "(I)[B"⟩, jdk_52_method_2_code, 1, (some (.array .byte)), ({ frames := 1, cells := 1, slots := 4, locals := 12 } : Room))
abbrev bTob2 : Own.Bo := (⟨"java/lang/StringUTF16", "toBytes", "([CII)[B"⟩, jdk_52_method_14_code, 5, (some (.array .byte)), ({ frames := 2, cells := 1, slots := 4, locals := 30 } : Room))
abbrev bGc2_0 : Own.Bo := (⟨"java/lang/StringUTF16", "getChar", "([BI)C"⟩, jdk_52_method_5_code, 2, (some .char), ({ frames := 0, cells := 0, slots := 0, locals := 0 } : Room))
abbrev bGc2_1 : Own.Bo := (⟨"java/lang/StringUTF16", "getChar", "([BI)C"⟩, jdk_52_method_5_code, 2, (some .char), ({ frames := 0, cells := 0, slots := 0, locals := 0 } : Room))
abbrev bC52 : Own.Bo := (⟨"java/lang/StringUTF16", "compress", "([CI[BII)I"⟩, jdk_52_method_21_code, 7, (some .int), ({ frames := 0, cells := 0, slots := 0, locals := 0 } : Room))
abbrev bC32 : Own.Bo := (⟨"java/lang/StringUTF16", "compress", "([CII)[B"⟩, jdk_52_method_16_code, 6, (some (.array .byte)), ({ frames := 3, cells := 2, slots := 6, locals := 46 } : Room))
abbrev bCfl2 : Own.Bo := (⟨"java/lang/StringUTF16", "coderFromArrayLen", "([BI)B"⟩, jdk_52_method_15_code, 2, (some .byte), ({ frames := 0, cells := 0, slots := 0, locals := 0 } : Room))
abbrev bW42 : Own.Bo := (⟨"java/lang/String", "<init>", "([CIILjava/lang/Void;)V"⟩, jdk_42_method_149_code, 6, none, ({ frames := 4, cells := 2, slots := 6, locals := 66 } : Room))
abbrev bW12 : Own.Bo := (⟨"java/lang/String", "<init>", "([C)V"⟩, jdk_42_method_3_code, 2, none, ({ frames := 5, cells := 2, slots := 6, locals := 90 } : Room))
abbrev bNbl3 : Own.Bo := (⟨"java/lang/StringUTF16", "newBytesLength", "(I)I"⟩, jdk_52_method_3_code, 1, (some .int), ({ frames := 0, cells := 0, slots := 0, locals := 0 } : Room))
abbrev bNbf3 : Own.Bo := (⟨"java/lang/StringUTF16", "newBytesFor", "(I)[B"⟩, jdk_52_method_2_code, 1, (some (.array .byte)), ({ frames := 1, cells := 1, slots := 6, locals := 12 } : Room))
abbrev bTob3 : Own.Bo := (⟨"java/lang/StringUTF16", "toBytes", "([CII)[B"⟩, jdk_52_method_14_code, 5, (some (.array .byte)), ({ frames := 2, cells := 1, slots := 6, locals := 30 } : Room))
abbrev bGc3_0 : Own.Bo := (⟨"java/lang/StringUTF16", "getChar", "([BI)C"⟩, jdk_52_method_5_code, 2, (some .char), ({ frames := 0, cells := 0, slots := 0, locals := 0 } : Room))
abbrev bGc3_1 : Own.Bo := (⟨"java/lang/StringUTF16", "getChar", "([BI)C"⟩, jdk_52_method_5_code, 2, (some .char), ({ frames := 0, cells := 0, slots := 0, locals := 0 } : Room))
abbrev bGc3_2 : Own.Bo := (⟨"java/lang/StringUTF16", "getChar", "([BI)C"⟩, jdk_52_method_5_code, 2, (some .char), ({ frames := 0, cells := 0, slots := 0, locals := 0 } : Room))
abbrev bC53 : Own.Bo := (⟨"java/lang/StringUTF16", "compress", "([CI[BII)I"⟩, jdk_52_method_21_code, 7, (some .int), ({ frames := 0, cells := 0, slots := 0, locals := 0 } : Room))
abbrev bC33 : Own.Bo := (⟨"java/lang/StringUTF16", "compress", "([CII)[B"⟩, jdk_52_method_16_code, 6, (some (.array .byte)), ({ frames := 3, cells := 2, slots := 9, locals := 46 } : Room))
abbrev bCfl3 : Own.Bo := (⟨"java/lang/StringUTF16", "coderFromArrayLen", "([BI)B"⟩, jdk_52_method_15_code, 2, (some .byte), ({ frames := 0, cells := 0, slots := 0, locals := 0 } : Room))
abbrev bW43 : Own.Bo := (⟨"java/lang/String", "<init>", "([CIILjava/lang/Void;)V"⟩, jdk_42_method_149_code, 6, none, ({ frames := 4, cells := 2, slots := 9, locals := 66 } : Room))
abbrev bW13 : Own.Bo := (⟨"java/lang/String", "<init>", "([C)V"⟩, jdk_42_method_3_code, 2, none, ({ frames := 5, cells := 2, slots := 9, locals := 90 } : Room))
abbrev bSl0 : Own.Bo := (⟨"java/lang/String", "isLatin1", "()Z"⟩, jdk_42_method_154_code, 1, (some .boolean), ({ frames := 0, cells := 0, slots := 0, locals := 0 } : Room))
abbrev bUl : Own.Bo := (⟨"java/lang/StringUTF16", "length", "([B)I"⟩, jdk_52_method_6_code, 1, (some .int), ({ frames := 0, cells := 0, slots := 0, locals := 0 } : Room))
abbrev bPc0 : Own.Bo := (⟨"jdk/internal/util/Preconditions", "checkIndex", "(IILjava/util/function/BiFunction;)I"⟩, jdk_41_method_11_code, 3, (some .int), ({ frames := 0, cells := 0, slots := 0, locals := 0 } : Room))
abbrev bPc1 : Own.Bo := (⟨"jdk/internal/util/Preconditions", "checkIndex", "(IILjava/util/function/BiFunction;)I"⟩, jdk_41_method_11_code, 3, (some .int), ({ frames := 0, cells := 0, slots := 0, locals := 0 } : Room))
abbrev bSci : Own.Bo := (⟨"java/lang/String", "checkIndex", "(II)V"⟩, jdk_42_method_155_code, 2, none, ({ frames := 1, cells := 0, slots := 0, locals := 16 } : Room))
abbrev bUci : Own.Bo := (⟨"java/lang/StringUTF16", "checkIndex", "(I[B)V"⟩, jdk_52_method_91_code, 2, none, ({ frames := 2, cells := 0, slots := 0, locals := 32 } : Room))
abbrev bGg0 : Own.Bo := (⟨"java/lang/StringUTF16", "getChar", "([BI)C"⟩, jdk_52_method_5_code, 2, (some .char), ({ frames := 0, cells := 0, slots := 0, locals := 0 } : Room))
abbrev bUch0 : Own.Bo := (⟨"java/lang/StringUTF16", "charAt", "([BI)C"⟩, jdk_52_method_83_code, 2, (some .char), ({ frames := 3, cells := 0, slots := 0, locals := 50 } : Room))
abbrev bWc0 : Own.Bo := (⟨"java/lang/String", "charAt", "(I)C"⟩, jdk_42_method_56_code, 2, (some .char), ({ frames := 4, cells := 0, slots := 0, locals := 66 } : Room))
abbrev bGg1 : Own.Bo := (⟨"java/lang/StringUTF16", "getChar", "([BI)C"⟩, jdk_52_method_5_code, 2, (some .char), ({ frames := 0, cells := 0, slots := 0, locals := 0 } : Room))
abbrev bUch1 : Own.Bo := (⟨"java/lang/StringUTF16", "charAt", "([BI)C"⟩, jdk_52_method_83_code, 2, (some .char), ({ frames := 3, cells := 0, slots := 0, locals := 50 } : Room))
abbrev bWc1 : Own.Bo := (⟨"java/lang/String", "charAt", "(I)C"⟩, jdk_42_method_56_code, 2, (some .char), ({ frames := 4, cells := 0, slots := 0, locals := 66 } : Room))
abbrev bGg2 : Own.Bo := (⟨"java/lang/StringUTF16", "getChar", "([BI)C"⟩, jdk_52_method_5_code, 2, (some .char), ({ frames := 0, cells := 0, slots := 0, locals := 0 } : Room))
abbrev bUch2 : Own.Bo := (⟨"java/lang/StringUTF16", "charAt", "([BI)C"⟩, jdk_52_method_83_code, 2, (some .char), ({ frames := 3, cells := 0, slots := 0, locals := 50 } : Room))
abbrev bWc2 : Own.Bo := (⟨"java/lang/String", "charAt", "(I)C"⟩, jdk_42_method_56_code, 2, (some .char), ({ frames := 4, cells := 0, slots := 0, locals := 66 } : Room))
abbrev bSgn : Own.Bo := (⟨"com/example/lopa/lopa/trec/Utf8OrderComparePinLaw", "sign", "(I)I"⟩, method_7_code, 1, (some .int), ({ frames := 0, cells := 0, slots := 0, locals := 0 } : Room))
abbrev bGrp : Own.Bo := (⟨"com/example/lopa/lopa/trec/Utf8OrderComparePinLaw", "group", "(C)I"⟩, method_5_code, 1, (some .int), ({ frames := 0, cells := 0, slots := 0, locals := 0 } : Room))
abbrev bUo : Own.Bo := (⟨"com/example/lopa/lopa/trec/Utf8OrderComparePinLaw", "unitOrder", "(CC)I"⟩, method_6_code, 4, (some .int), ({ frames := 1, cells := 0, slots := 0, locals := 14 } : Room))
abbrev bRnk : Own.Bo := (⟨"com/example/lopa/lopa/trec/Utf8Order", "codePointRank", "(C)I"⟩, prog_28_method_3_code, 2, (some .int), ({ frames := 0, cells := 0, slots := 0, locals := 0 } : Room))
abbrev bMin : Own.Bo := (⟨"java/lang/Math", "min", "(II)I"⟩, jdk_29_method_69_code, 2, (some .int), ({ frames := 0, cells := 0, slots := 0, locals := 0 } : Room))
abbrev bCmp00 : Own.Bo := (⟨"com/example/lopa/lopa/trec/Utf8Order", "compare", "(Ljava/lang/String;Ljava/lang/String;)I"⟩, prog_28_method_2_code, 6, (some .int), ({ frames := 5, cells := 0, slots := 0, locals := 110 } : Room))
abbrev bCmp01 : Own.Bo := (⟨"com/example/lopa/lopa/trec/Utf8Order", "compare", "(Ljava/lang/String;Ljava/lang/String;)I"⟩, prog_28_method_2_code, 6, (some .int), ({ frames := 5, cells := 0, slots := 0, locals := 110 } : Room))
abbrev bCmp02 : Own.Bo := (⟨"com/example/lopa/lopa/trec/Utf8Order", "compare", "(Ljava/lang/String;Ljava/lang/String;)I"⟩, prog_28_method_2_code, 6, (some .int), ({ frames := 5, cells := 0, slots := 0, locals := 110 } : Room))
abbrev bCmp03 : Own.Bo := (⟨"com/example/lopa/lopa/trec/Utf8Order", "compare", "(Ljava/lang/String;Ljava/lang/String;)I"⟩, prog_28_method_2_code, 6, (some .int), ({ frames := 5, cells := 0, slots := 0, locals := 110 } : Room))
abbrev bCmp10 : Own.Bo := (⟨"com/example/lopa/lopa/trec/Utf8Order", "compare", "(Ljava/lang/String;Ljava/lang/String;)I"⟩, prog_28_method_2_code, 6, (some .int), ({ frames := 5, cells := 0, slots := 0, locals := 110 } : Room))
abbrev bCmp11 : Own.Bo := (⟨"com/example/lopa/lopa/trec/Utf8Order", "compare", "(Ljava/lang/String;Ljava/lang/String;)I"⟩, prog_28_method_2_code, 6, (some .int), ({ frames := 5, cells := 0, slots := 0, locals := 110 } : Room))
abbrev bCmp12 : Own.Bo := (⟨"com/example/lopa/lopa/trec/Utf8Order", "compare", "(Ljava/lang/String;Ljava/lang/String;)I"⟩, prog_28_method_2_code, 6, (some .int), ({ frames := 5, cells := 0, slots := 0, locals := 110 } : Room))
abbrev bCmp13 : Own.Bo := (⟨"com/example/lopa/lopa/trec/Utf8Order", "compare", "(Ljava/lang/String;Ljava/lang/String;)I"⟩, prog_28_method_2_code, 6, (some .int), ({ frames := 5, cells := 0, slots := 0, locals := 110 } : Room))
abbrev bCmp20 : Own.Bo := (⟨"com/example/lopa/lopa/trec/Utf8Order", "compare", "(Ljava/lang/String;Ljava/lang/String;)I"⟩, prog_28_method_2_code, 6, (some .int), ({ frames := 5, cells := 0, slots := 0, locals := 110 } : Room))
abbrev bCmp21 : Own.Bo := (⟨"com/example/lopa/lopa/trec/Utf8Order", "compare", "(Ljava/lang/String;Ljava/lang/String;)I"⟩, prog_28_method_2_code, 6, (some .int), ({ frames := 5, cells := 0, slots := 0, locals := 110 } : Room))
abbrev bCmp22 : Own.Bo := (⟨"com/example/lopa/lopa/trec/Utf8Order", "compare", "(Ljava/lang/String;Ljava/lang/String;)I"⟩, prog_28_method_2_code, 6, (some .int), ({ frames := 5, cells := 0, slots := 0, locals := 110 } : Room))
abbrev bCmp23 : Own.Bo := (⟨"com/example/lopa/lopa/trec/Utf8Order", "compare", "(Ljava/lang/String;Ljava/lang/String;)I"⟩, prog_28_method_2_code, 6, (some .int), ({ frames := 5, cells := 0, slots := 0, locals := 110 } : Room))
abbrev bCmp30 : Own.Bo := (⟨"com/example/lopa/lopa/trec/Utf8Order", "compare", "(Ljava/lang/String;Ljava/lang/String;)I"⟩, prog_28_method_2_code, 6, (some .int), ({ frames := 5, cells := 0, slots := 0, locals := 110 } : Room))
abbrev bCmp31 : Own.Bo := (⟨"com/example/lopa/lopa/trec/Utf8Order", "compare", "(Ljava/lang/String;Ljava/lang/String;)I"⟩, prog_28_method_2_code, 6, (some .int), ({ frames := 5, cells := 0, slots := 0, locals := 110 } : Room))
abbrev bCmp32 : Own.Bo := (⟨"com/example/lopa/lopa/trec/Utf8Order", "compare", "(Ljava/lang/String;Ljava/lang/String;)I"⟩, prog_28_method_2_code, 6, (some .int), ({ frames := 5, cells := 0, slots := 0, locals := 110 } : Room))
abbrev bCmp33 : Own.Bo := (⟨"com/example/lopa/lopa/trec/Utf8Order", "compare", "(Ljava/lang/String;Ljava/lang/String;)I"⟩, prog_28_method_2_code, 6, (some .int), ({ frames := 5, cells := 0, slots := 0, locals := 110 } : Room))
abbrev bRef00 : Own.Bo := (⟨"com/example/lopa/lopa/trec/Utf8OrderComparePinLaw", "reference", "(ICCCICCC)I"⟩, method_4_code, 8, (some .int), ({ frames := 2, cells := 0, slots := 0, locals := 60 } : Room))
abbrev bRef01 : Own.Bo := (⟨"com/example/lopa/lopa/trec/Utf8OrderComparePinLaw", "reference", "(ICCCICCC)I"⟩, method_4_code, 8, (some .int), ({ frames := 2, cells := 0, slots := 0, locals := 60 } : Room))
abbrev bRef02 : Own.Bo := (⟨"com/example/lopa/lopa/trec/Utf8OrderComparePinLaw", "reference", "(ICCCICCC)I"⟩, method_4_code, 8, (some .int), ({ frames := 2, cells := 0, slots := 0, locals := 60 } : Room))
abbrev bRef03 : Own.Bo := (⟨"com/example/lopa/lopa/trec/Utf8OrderComparePinLaw", "reference", "(ICCCICCC)I"⟩, method_4_code, 8, (some .int), ({ frames := 2, cells := 0, slots := 0, locals := 60 } : Room))
abbrev bRef10 : Own.Bo := (⟨"com/example/lopa/lopa/trec/Utf8OrderComparePinLaw", "reference", "(ICCCICCC)I"⟩, method_4_code, 8, (some .int), ({ frames := 2, cells := 0, slots := 0, locals := 60 } : Room))
abbrev bRef11 : Own.Bo := (⟨"com/example/lopa/lopa/trec/Utf8OrderComparePinLaw", "reference", "(ICCCICCC)I"⟩, method_4_code, 8, (some .int), ({ frames := 2, cells := 0, slots := 0, locals := 60 } : Room))
abbrev bRef12 : Own.Bo := (⟨"com/example/lopa/lopa/trec/Utf8OrderComparePinLaw", "reference", "(ICCCICCC)I"⟩, method_4_code, 8, (some .int), ({ frames := 2, cells := 0, slots := 0, locals := 60 } : Room))
abbrev bRef13 : Own.Bo := (⟨"com/example/lopa/lopa/trec/Utf8OrderComparePinLaw", "reference", "(ICCCICCC)I"⟩, method_4_code, 8, (some .int), ({ frames := 2, cells := 0, slots := 0, locals := 60 } : Room))
abbrev bRef20 : Own.Bo := (⟨"com/example/lopa/lopa/trec/Utf8OrderComparePinLaw", "reference", "(ICCCICCC)I"⟩, method_4_code, 8, (some .int), ({ frames := 2, cells := 0, slots := 0, locals := 60 } : Room))
abbrev bRef21 : Own.Bo := (⟨"com/example/lopa/lopa/trec/Utf8OrderComparePinLaw", "reference", "(ICCCICCC)I"⟩, method_4_code, 8, (some .int), ({ frames := 2, cells := 0, slots := 0, locals := 60 } : Room))
abbrev bRef22 : Own.Bo := (⟨"com/example/lopa/lopa/trec/Utf8OrderComparePinLaw", "reference", "(ICCCICCC)I"⟩, method_4_code, 8, (some .int), ({ frames := 2, cells := 0, slots := 0, locals := 60 } : Room))
abbrev bRef23 : Own.Bo := (⟨"com/example/lopa/lopa/trec/Utf8OrderComparePinLaw", "reference", "(ICCCICCC)I"⟩, method_4_code, 8, (some .int), ({ frames := 2, cells := 0, slots := 0, locals := 60 } : Room))
abbrev bRef30 : Own.Bo := (⟨"com/example/lopa/lopa/trec/Utf8OrderComparePinLaw", "reference", "(ICCCICCC)I"⟩, method_4_code, 8, (some .int), ({ frames := 2, cells := 0, slots := 0, locals := 60 } : Room))
abbrev bRef31 : Own.Bo := (⟨"com/example/lopa/lopa/trec/Utf8OrderComparePinLaw", "reference", "(ICCCICCC)I"⟩, method_4_code, 8, (some .int), ({ frames := 2, cells := 0, slots := 0, locals := 60 } : Room))
abbrev bRef32 : Own.Bo := (⟨"com/example/lopa/lopa/trec/Utf8OrderComparePinLaw", "reference", "(ICCCICCC)I"⟩, method_4_code, 8, (some .int), ({ frames := 2, cells := 0, slots := 0, locals := 60 } : Room))
abbrev bRef33 : Own.Bo := (⟨"com/example/lopa/lopa/trec/Utf8OrderComparePinLaw", "reference", "(ICCCICCC)I"⟩, method_4_code, 8, (some .int), ({ frames := 2, cells := 0, slots := 0, locals := 60 } : Room))
abbrev bMk0 : Own.Bo := (⟨"com/example/lopa/lopa/trec/Utf8OrderComparePinLaw", "make", "(ICCC)Ljava/lang/String;"⟩, method_3_code, 4, (some (.object "java/lang/String")), ({ frames := 7, cells := 6, slots := 24, locals := 120 } : Room))
abbrev bMk1 : Own.Bo := (⟨"com/example/lopa/lopa/trec/Utf8OrderComparePinLaw", "make", "(ICCC)Ljava/lang/String;"⟩, method_3_code, 4, (some (.object "java/lang/String")), ({ frames := 7, cells := 6, slots := 24, locals := 120 } : Room))
abbrev bMk2 : Own.Bo := (⟨"com/example/lopa/lopa/trec/Utf8OrderComparePinLaw", "make", "(ICCC)Ljava/lang/String;"⟩, method_3_code, 4, (some (.object "java/lang/String")), ({ frames := 7, cells := 6, slots := 24, locals := 120 } : Room))
abbrev bMk3 : Own.Bo := (⟨"com/example/lopa/lopa/trec/Utf8OrderComparePinLaw", "make", "(ICCC)Ljava/lang/String;"⟩, method_3_code, 4, (some (.object "java/lang/String")), ({ frames := 7, cells := 6, slots := 24, locals := 120 } : Room))
abbrev bLaw : Own.Bo := (x, code, maxLocals, ret, room_1)
set_option maxRecDepth 65536 in
set_option maxHeartbeats 40000000 in
theorem con_put1_0 {G : Own.Gl} (hw : ∀ d ∈ tables_1, d.before G.a0 G.Z = true) (hEL : EW G.Z G.a0 G.EL) (TA : Sta G.Z G.Z.heap "java/lang/StringUTF16" "$assertionsDisabled" "Z" (.int 1)) (TH : Sta G.Z G.Z.heap "java/lang/StringUTF16" "HI_BYTE_SHIFT" "I" (.int 0)) (TL : Sta G.Z G.Z.heap "java/lang/StringUTF16" "LO_BYTE_SHIFT" "I" (.int 8)) {b : Addr} {kb : ClassId} {w0 w1 : Value} {ii : Int32} (hii : ii = 0) (ch : Int32) {h : Heap} (hO : Old G.Z G.n0 h) (hn_b : G.n0 ≤ b) (A : Arv G.Z h b kb .byte 2 [w0, w1] (.int 0)) :
    Own.Con G [] bPut1_0 #[.ref b, .int ii, .int ch] h [b] (fun v h' => v = none ∧ Keep h h' [b] ∧ Arv G.Z h' b kb .byte 2 [.int (StrChars.lo8 ch), .int (StrChars.hi8 ch)] (.int 0)) := by
  refine Own.Con.intro (plainFor_of_name pn_0) hO hEL _ (fun m => ef_bPut1_0 m b ii ch) ?_
  intro X T0 W0 sf
  subst hii
  have sb := sf b (List.mem_singleton.mpr rfl)
  refine Own.getS W0 (tw hw 108 rfl) Via.refl (W0.sta TA) d25_0 3 rfl ?_
  intro T1 W1
  refine Own.ifYes W1 d25_3 28 (by decide) (by decide) (by decide) ?_
  refine Own.iloadN W1 d25_28 29 rfl (0 : Int32) rfl ?_
  refine Own.iconst W1 d25_29 30 rfl (1 : Int32) rfl ?_
  refine Own.ishl W1 d25_30 31 rfl ?_
  rw [show ((0 : Int32) <<< ((1 : Int32) &&& 31)) = (0 : Int32) by decide]
  refine Own.istoreN W1 d25_31 32 rfl #[.val (.ref b), .val (.int (0 : Int32)), .val (.int ch)] rfl ?_
  refine Own.aloadN W1 d25_32 33 rfl (.ref b) rfl rfl ?_
  refine Own.iloadN W1 d25_33 34 rfl (0 : Int32) rfl ?_
  refine Own.iinc W1 d25_34 37 rfl rfl #[.val (.ref b), .val (.int (1 : Int32)), .val (.int ch)] rfl ?_
  refine Own.iloadN W1 d25_37 38 rfl ch rfl ?_
  refine Own.getS W1 (tw hw 109 rfl) Via.refl (W1.sta TH) d25_38 41 rfl ?_
  intro T2 W2
  refine Own.ishr W2 d25_41 42 rfl ?_
  rw [Own.shrZ]
  refine Own.i2b W2 d25_42 43 rfl ?_
  refine Own.bastore W2 A 0 (by decide) (by decide) (Nat.le_of_ble_eq_true rfl) hn_b sb (x' := (ch.toInt8.toInt32)) (Own.nar_b8 _) d25_43 44 rfl ?_
  intro T3 h3 W3 Q3 A3 k3
  have V3 : Arv G.Z h3 b kb .byte (2 : Int32) [(.int (ch.toInt8.toInt32)), w1] (.int 0) := A3
  refine Own.aloadN W3 d25_44 45 rfl (.ref b) rfl rfl ?_
  refine Own.iloadN W3 d25_45 46 rfl (1 : Int32) rfl ?_
  refine Own.iloadN W3 d25_46 47 rfl ch rfl ?_
  refine Own.getS W3 (tw hw 110 rfl) Via.refl (W3.sta TL) d25_47 50 rfl ?_
  intro T4 W4
  refine Own.ishr W4 d25_50 51 rfl ?_
  refine Own.i2b W4 d25_51 52 rfl ?_
  refine Own.bastore W4 V3 1 (by decide) (by decide) (Nat.le_of_ble_eq_true rfl) hn_b (k3 b sb) (x' := ((ch >>> ((8 : Int32) &&& 31)).toInt8.toInt32)) (Own.nar_b8 _) d25_52 53 rfl ?_
  intro T5 h5 W5 Q5 A5 k5
  have V5 : Arv G.Z h5 b kb .byte (2 : Int32) [(.int (ch.toInt8.toInt32)), (.int ((ch >>> ((8 : Int32) &&& 31)).toInt8.toInt32))] (.int 0) := A5
  exact Own.retV W5 (by decide) (by decide) rfl d25_53 ⟨rfl, (Keep.wr (Keep.wr (Keep.refl h [b]) Q3 (Or.inl (List.mem_singleton.mpr rfl))) Q5 (Or.inl (List.mem_singleton.mpr rfl))), V5⟩
set_option maxRecDepth 65536 in
set_option maxHeartbeats 40000000 in
theorem con_put2_0 {G : Own.Gl} (hw : ∀ d ∈ tables_1, d.before G.a0 G.Z = true) (hEL : EW G.Z G.a0 G.EL) (TA : Sta G.Z G.Z.heap "java/lang/StringUTF16" "$assertionsDisabled" "Z" (.int 1)) (TH : Sta G.Z G.Z.heap "java/lang/StringUTF16" "HI_BYTE_SHIFT" "I" (.int 0)) (TL : Sta G.Z G.Z.heap "java/lang/StringUTF16" "LO_BYTE_SHIFT" "I" (.int 8)) {b : Addr} {kb : ClassId} {w0 w1 w2 w3 : Value} {ii : Int32} (hii : ii = 0) (ch : Int32) {h : Heap} (hO : Old G.Z G.n0 h) (hn_b : G.n0 ≤ b) (A : Arv G.Z h b kb .byte 4 [w0, w1, w2, w3] (.int 0)) :
    Own.Con G [] bPut2_0 #[.ref b, .int ii, .int ch] h [b] (fun v h' => v = none ∧ Keep h h' [b] ∧ Arv G.Z h' b kb .byte 4 [.int (StrChars.lo8 ch), .int (StrChars.hi8 ch), w2, w3] (.int 0)) := by
  refine Own.Con.intro (plainFor_of_name pn_0) hO hEL _ (fun m => ef_bPut2_0 m b ii ch) ?_
  intro X T0 W0 sf
  subst hii
  have sb := sf b (List.mem_singleton.mpr rfl)
  refine Own.getS W0 (tw hw 108 rfl) Via.refl (W0.sta TA) d25_0 3 rfl ?_
  intro T1 W1
  refine Own.ifYes W1 d25_3 28 (by decide) (by decide) (by decide) ?_
  refine Own.iloadN W1 d25_28 29 rfl (0 : Int32) rfl ?_
  refine Own.iconst W1 d25_29 30 rfl (1 : Int32) rfl ?_
  refine Own.ishl W1 d25_30 31 rfl ?_
  rw [show ((0 : Int32) <<< ((1 : Int32) &&& 31)) = (0 : Int32) by decide]
  refine Own.istoreN W1 d25_31 32 rfl #[.val (.ref b), .val (.int (0 : Int32)), .val (.int ch)] rfl ?_
  refine Own.aloadN W1 d25_32 33 rfl (.ref b) rfl rfl ?_
  refine Own.iloadN W1 d25_33 34 rfl (0 : Int32) rfl ?_
  refine Own.iinc W1 d25_34 37 rfl rfl #[.val (.ref b), .val (.int (1 : Int32)), .val (.int ch)] rfl ?_
  refine Own.iloadN W1 d25_37 38 rfl ch rfl ?_
  refine Own.getS W1 (tw hw 109 rfl) Via.refl (W1.sta TH) d25_38 41 rfl ?_
  intro T2 W2
  refine Own.ishr W2 d25_41 42 rfl ?_
  rw [Own.shrZ]
  refine Own.i2b W2 d25_42 43 rfl ?_
  refine Own.bastore W2 A 0 (by decide) (by decide) (Nat.le_of_ble_eq_true rfl) hn_b sb (x' := (ch.toInt8.toInt32)) (Own.nar_b8 _) d25_43 44 rfl ?_
  intro T3 h3 W3 Q3 A3 k3
  have V3 : Arv G.Z h3 b kb .byte (4 : Int32) [(.int (ch.toInt8.toInt32)), w1, w2, w3] (.int 0) := A3
  refine Own.aloadN W3 d25_44 45 rfl (.ref b) rfl rfl ?_
  refine Own.iloadN W3 d25_45 46 rfl (1 : Int32) rfl ?_
  refine Own.iloadN W3 d25_46 47 rfl ch rfl ?_
  refine Own.getS W3 (tw hw 110 rfl) Via.refl (W3.sta TL) d25_47 50 rfl ?_
  intro T4 W4
  refine Own.ishr W4 d25_50 51 rfl ?_
  refine Own.i2b W4 d25_51 52 rfl ?_
  refine Own.bastore W4 V3 1 (by decide) (by decide) (Nat.le_of_ble_eq_true rfl) hn_b (k3 b sb) (x' := ((ch >>> ((8 : Int32) &&& 31)).toInt8.toInt32)) (Own.nar_b8 _) d25_52 53 rfl ?_
  intro T5 h5 W5 Q5 A5 k5
  have V5 : Arv G.Z h5 b kb .byte (4 : Int32) [(.int (ch.toInt8.toInt32)), (.int ((ch >>> ((8 : Int32) &&& 31)).toInt8.toInt32)), w2, w3] (.int 0) := A5
  exact Own.retV W5 (by decide) (by decide) rfl d25_53 ⟨rfl, (Keep.wr (Keep.wr (Keep.refl h [b]) Q3 (Or.inl (List.mem_singleton.mpr rfl))) Q5 (Or.inl (List.mem_singleton.mpr rfl))), V5⟩
set_option maxRecDepth 65536 in
set_option maxHeartbeats 40000000 in
theorem con_put2_1 {G : Own.Gl} (hw : ∀ d ∈ tables_1, d.before G.a0 G.Z = true) (hEL : EW G.Z G.a0 G.EL) (TA : Sta G.Z G.Z.heap "java/lang/StringUTF16" "$assertionsDisabled" "Z" (.int 1)) (TH : Sta G.Z G.Z.heap "java/lang/StringUTF16" "HI_BYTE_SHIFT" "I" (.int 0)) (TL : Sta G.Z G.Z.heap "java/lang/StringUTF16" "LO_BYTE_SHIFT" "I" (.int 8)) {b : Addr} {kb : ClassId} {w0 w1 w2 w3 : Value} {ii : Int32} (hii : ii = 1) (ch : Int32) {h : Heap} (hO : Old G.Z G.n0 h) (hn_b : G.n0 ≤ b) (A : Arv G.Z h b kb .byte 4 [w0, w1, w2, w3] (.int 0)) :
    Own.Con G [] bPut2_1 #[.ref b, .int ii, .int ch] h [b] (fun v h' => v = none ∧ Keep h h' [b] ∧ Arv G.Z h' b kb .byte 4 [w0, w1, .int (StrChars.lo8 ch), .int (StrChars.hi8 ch)] (.int 0)) := by
  refine Own.Con.intro (plainFor_of_name pn_0) hO hEL _ (fun m => ef_bPut2_1 m b ii ch) ?_
  intro X T0 W0 sf
  subst hii
  have sb := sf b (List.mem_singleton.mpr rfl)
  refine Own.getS W0 (tw hw 108 rfl) Via.refl (W0.sta TA) d25_0 3 rfl ?_
  intro T1 W1
  refine Own.ifYes W1 d25_3 28 (by decide) (by decide) (by decide) ?_
  refine Own.iloadN W1 d25_28 29 rfl (1 : Int32) rfl ?_
  refine Own.iconst W1 d25_29 30 rfl (1 : Int32) rfl ?_
  refine Own.ishl W1 d25_30 31 rfl ?_
  rw [show ((1 : Int32) <<< ((1 : Int32) &&& 31)) = (2 : Int32) by decide]
  refine Own.istoreN W1 d25_31 32 rfl #[.val (.ref b), .val (.int (2 : Int32)), .val (.int ch)] rfl ?_
  refine Own.aloadN W1 d25_32 33 rfl (.ref b) rfl rfl ?_
  refine Own.iloadN W1 d25_33 34 rfl (2 : Int32) rfl ?_
  refine Own.iinc W1 d25_34 37 rfl rfl #[.val (.ref b), .val (.int (3 : Int32)), .val (.int ch)] rfl ?_
  refine Own.iloadN W1 d25_37 38 rfl ch rfl ?_
  refine Own.getS W1 (tw hw 109 rfl) Via.refl (W1.sta TH) d25_38 41 rfl ?_
  intro T2 W2
  refine Own.ishr W2 d25_41 42 rfl ?_
  rw [Own.shrZ]
  refine Own.i2b W2 d25_42 43 rfl ?_
  refine Own.bastore W2 A 2 (by decide) (by decide) (Nat.le_of_ble_eq_true rfl) hn_b sb (x' := (ch.toInt8.toInt32)) (Own.nar_b8 _) d25_43 44 rfl ?_
  intro T3 h3 W3 Q3 A3 k3
  have V3 : Arv G.Z h3 b kb .byte (4 : Int32) [w0, w1, (.int (ch.toInt8.toInt32)), w3] (.int 0) := A3
  refine Own.aloadN W3 d25_44 45 rfl (.ref b) rfl rfl ?_
  refine Own.iloadN W3 d25_45 46 rfl (3 : Int32) rfl ?_
  refine Own.iloadN W3 d25_46 47 rfl ch rfl ?_
  refine Own.getS W3 (tw hw 110 rfl) Via.refl (W3.sta TL) d25_47 50 rfl ?_
  intro T4 W4
  refine Own.ishr W4 d25_50 51 rfl ?_
  refine Own.i2b W4 d25_51 52 rfl ?_
  refine Own.bastore W4 V3 3 (by decide) (by decide) (Nat.le_of_ble_eq_true rfl) hn_b (k3 b sb) (x' := ((ch >>> ((8 : Int32) &&& 31)).toInt8.toInt32)) (Own.nar_b8 _) d25_52 53 rfl ?_
  intro T5 h5 W5 Q5 A5 k5
  have V5 : Arv G.Z h5 b kb .byte (4 : Int32) [w0, w1, (.int (ch.toInt8.toInt32)), (.int ((ch >>> ((8 : Int32) &&& 31)).toInt8.toInt32))] (.int 0) := A5
  exact Own.retV W5 (by decide) (by decide) rfl d25_53 ⟨rfl, (Keep.wr (Keep.wr (Keep.refl h [b]) Q3 (Or.inl (List.mem_singleton.mpr rfl))) Q5 (Or.inl (List.mem_singleton.mpr rfl))), V5⟩
set_option maxRecDepth 65536 in
set_option maxHeartbeats 40000000 in
theorem con_put3_0 {G : Own.Gl} (hw : ∀ d ∈ tables_1, d.before G.a0 G.Z = true) (hEL : EW G.Z G.a0 G.EL) (TA : Sta G.Z G.Z.heap "java/lang/StringUTF16" "$assertionsDisabled" "Z" (.int 1)) (TH : Sta G.Z G.Z.heap "java/lang/StringUTF16" "HI_BYTE_SHIFT" "I" (.int 0)) (TL : Sta G.Z G.Z.heap "java/lang/StringUTF16" "LO_BYTE_SHIFT" "I" (.int 8)) {b : Addr} {kb : ClassId} {w0 w1 w2 w3 w4 w5 : Value} {ii : Int32} (hii : ii = 0) (ch : Int32) {h : Heap} (hO : Old G.Z G.n0 h) (hn_b : G.n0 ≤ b) (A : Arv G.Z h b kb .byte 6 [w0, w1, w2, w3, w4, w5] (.int 0)) :
    Own.Con G [] bPut3_0 #[.ref b, .int ii, .int ch] h [b] (fun v h' => v = none ∧ Keep h h' [b] ∧ Arv G.Z h' b kb .byte 6 [.int (StrChars.lo8 ch), .int (StrChars.hi8 ch), w2, w3, w4, w5] (.int 0)) := by
  refine Own.Con.intro (plainFor_of_name pn_0) hO hEL _ (fun m => ef_bPut3_0 m b ii ch) ?_
  intro X T0 W0 sf
  subst hii
  have sb := sf b (List.mem_singleton.mpr rfl)
  refine Own.getS W0 (tw hw 108 rfl) Via.refl (W0.sta TA) d25_0 3 rfl ?_
  intro T1 W1
  refine Own.ifYes W1 d25_3 28 (by decide) (by decide) (by decide) ?_
  refine Own.iloadN W1 d25_28 29 rfl (0 : Int32) rfl ?_
  refine Own.iconst W1 d25_29 30 rfl (1 : Int32) rfl ?_
  refine Own.ishl W1 d25_30 31 rfl ?_
  rw [show ((0 : Int32) <<< ((1 : Int32) &&& 31)) = (0 : Int32) by decide]
  refine Own.istoreN W1 d25_31 32 rfl #[.val (.ref b), .val (.int (0 : Int32)), .val (.int ch)] rfl ?_
  refine Own.aloadN W1 d25_32 33 rfl (.ref b) rfl rfl ?_
  refine Own.iloadN W1 d25_33 34 rfl (0 : Int32) rfl ?_
  refine Own.iinc W1 d25_34 37 rfl rfl #[.val (.ref b), .val (.int (1 : Int32)), .val (.int ch)] rfl ?_
  refine Own.iloadN W1 d25_37 38 rfl ch rfl ?_
  refine Own.getS W1 (tw hw 109 rfl) Via.refl (W1.sta TH) d25_38 41 rfl ?_
  intro T2 W2
  refine Own.ishr W2 d25_41 42 rfl ?_
  rw [Own.shrZ]
  refine Own.i2b W2 d25_42 43 rfl ?_
  refine Own.bastore W2 A 0 (by decide) (by decide) (Nat.le_of_ble_eq_true rfl) hn_b sb (x' := (ch.toInt8.toInt32)) (Own.nar_b8 _) d25_43 44 rfl ?_
  intro T3 h3 W3 Q3 A3 k3
  have V3 : Arv G.Z h3 b kb .byte (6 : Int32) [(.int (ch.toInt8.toInt32)), w1, w2, w3, w4, w5] (.int 0) := A3
  refine Own.aloadN W3 d25_44 45 rfl (.ref b) rfl rfl ?_
  refine Own.iloadN W3 d25_45 46 rfl (1 : Int32) rfl ?_
  refine Own.iloadN W3 d25_46 47 rfl ch rfl ?_
  refine Own.getS W3 (tw hw 110 rfl) Via.refl (W3.sta TL) d25_47 50 rfl ?_
  intro T4 W4
  refine Own.ishr W4 d25_50 51 rfl ?_
  refine Own.i2b W4 d25_51 52 rfl ?_
  refine Own.bastore W4 V3 1 (by decide) (by decide) (Nat.le_of_ble_eq_true rfl) hn_b (k3 b sb) (x' := ((ch >>> ((8 : Int32) &&& 31)).toInt8.toInt32)) (Own.nar_b8 _) d25_52 53 rfl ?_
  intro T5 h5 W5 Q5 A5 k5
  have V5 : Arv G.Z h5 b kb .byte (6 : Int32) [(.int (ch.toInt8.toInt32)), (.int ((ch >>> ((8 : Int32) &&& 31)).toInt8.toInt32)), w2, w3, w4, w5] (.int 0) := A5
  exact Own.retV W5 (by decide) (by decide) rfl d25_53 ⟨rfl, (Keep.wr (Keep.wr (Keep.refl h [b]) Q3 (Or.inl (List.mem_singleton.mpr rfl))) Q5 (Or.inl (List.mem_singleton.mpr rfl))), V5⟩
set_option maxRecDepth 65536 in
set_option maxHeartbeats 40000000 in
theorem con_put3_1 {G : Own.Gl} (hw : ∀ d ∈ tables_1, d.before G.a0 G.Z = true) (hEL : EW G.Z G.a0 G.EL) (TA : Sta G.Z G.Z.heap "java/lang/StringUTF16" "$assertionsDisabled" "Z" (.int 1)) (TH : Sta G.Z G.Z.heap "java/lang/StringUTF16" "HI_BYTE_SHIFT" "I" (.int 0)) (TL : Sta G.Z G.Z.heap "java/lang/StringUTF16" "LO_BYTE_SHIFT" "I" (.int 8)) {b : Addr} {kb : ClassId} {w0 w1 w2 w3 w4 w5 : Value} {ii : Int32} (hii : ii = 1) (ch : Int32) {h : Heap} (hO : Old G.Z G.n0 h) (hn_b : G.n0 ≤ b) (A : Arv G.Z h b kb .byte 6 [w0, w1, w2, w3, w4, w5] (.int 0)) :
    Own.Con G [] bPut3_1 #[.ref b, .int ii, .int ch] h [b] (fun v h' => v = none ∧ Keep h h' [b] ∧ Arv G.Z h' b kb .byte 6 [w0, w1, .int (StrChars.lo8 ch), .int (StrChars.hi8 ch), w4, w5] (.int 0)) := by
  refine Own.Con.intro (plainFor_of_name pn_0) hO hEL _ (fun m => ef_bPut3_1 m b ii ch) ?_
  intro X T0 W0 sf
  subst hii
  have sb := sf b (List.mem_singleton.mpr rfl)
  refine Own.getS W0 (tw hw 108 rfl) Via.refl (W0.sta TA) d25_0 3 rfl ?_
  intro T1 W1
  refine Own.ifYes W1 d25_3 28 (by decide) (by decide) (by decide) ?_
  refine Own.iloadN W1 d25_28 29 rfl (1 : Int32) rfl ?_
  refine Own.iconst W1 d25_29 30 rfl (1 : Int32) rfl ?_
  refine Own.ishl W1 d25_30 31 rfl ?_
  rw [show ((1 : Int32) <<< ((1 : Int32) &&& 31)) = (2 : Int32) by decide]
  refine Own.istoreN W1 d25_31 32 rfl #[.val (.ref b), .val (.int (2 : Int32)), .val (.int ch)] rfl ?_
  refine Own.aloadN W1 d25_32 33 rfl (.ref b) rfl rfl ?_
  refine Own.iloadN W1 d25_33 34 rfl (2 : Int32) rfl ?_
  refine Own.iinc W1 d25_34 37 rfl rfl #[.val (.ref b), .val (.int (3 : Int32)), .val (.int ch)] rfl ?_
  refine Own.iloadN W1 d25_37 38 rfl ch rfl ?_
  refine Own.getS W1 (tw hw 109 rfl) Via.refl (W1.sta TH) d25_38 41 rfl ?_
  intro T2 W2
  refine Own.ishr W2 d25_41 42 rfl ?_
  rw [Own.shrZ]
  refine Own.i2b W2 d25_42 43 rfl ?_
  refine Own.bastore W2 A 2 (by decide) (by decide) (Nat.le_of_ble_eq_true rfl) hn_b sb (x' := (ch.toInt8.toInt32)) (Own.nar_b8 _) d25_43 44 rfl ?_
  intro T3 h3 W3 Q3 A3 k3
  have V3 : Arv G.Z h3 b kb .byte (6 : Int32) [w0, w1, (.int (ch.toInt8.toInt32)), w3, w4, w5] (.int 0) := A3
  refine Own.aloadN W3 d25_44 45 rfl (.ref b) rfl rfl ?_
  refine Own.iloadN W3 d25_45 46 rfl (3 : Int32) rfl ?_
  refine Own.iloadN W3 d25_46 47 rfl ch rfl ?_
  refine Own.getS W3 (tw hw 110 rfl) Via.refl (W3.sta TL) d25_47 50 rfl ?_
  intro T4 W4
  refine Own.ishr W4 d25_50 51 rfl ?_
  refine Own.i2b W4 d25_51 52 rfl ?_
  refine Own.bastore W4 V3 3 (by decide) (by decide) (Nat.le_of_ble_eq_true rfl) hn_b (k3 b sb) (x' := ((ch >>> ((8 : Int32) &&& 31)).toInt8.toInt32)) (Own.nar_b8 _) d25_52 53 rfl ?_
  intro T5 h5 W5 Q5 A5 k5
  have V5 : Arv G.Z h5 b kb .byte (6 : Int32) [w0, w1, (.int (ch.toInt8.toInt32)), (.int ((ch >>> ((8 : Int32) &&& 31)).toInt8.toInt32)), w4, w5] (.int 0) := A5
  exact Own.retV W5 (by decide) (by decide) rfl d25_53 ⟨rfl, (Keep.wr (Keep.wr (Keep.refl h [b]) Q3 (Or.inl (List.mem_singleton.mpr rfl))) Q5 (Or.inl (List.mem_singleton.mpr rfl))), V5⟩
set_option maxRecDepth 65536 in
set_option maxHeartbeats 40000000 in
theorem con_put3_2 {G : Own.Gl} (hw : ∀ d ∈ tables_1, d.before G.a0 G.Z = true) (hEL : EW G.Z G.a0 G.EL) (TA : Sta G.Z G.Z.heap "java/lang/StringUTF16" "$assertionsDisabled" "Z" (.int 1)) (TH : Sta G.Z G.Z.heap "java/lang/StringUTF16" "HI_BYTE_SHIFT" "I" (.int 0)) (TL : Sta G.Z G.Z.heap "java/lang/StringUTF16" "LO_BYTE_SHIFT" "I" (.int 8)) {b : Addr} {kb : ClassId} {w0 w1 w2 w3 w4 w5 : Value} {ii : Int32} (hii : ii = 2) (ch : Int32) {h : Heap} (hO : Old G.Z G.n0 h) (hn_b : G.n0 ≤ b) (A : Arv G.Z h b kb .byte 6 [w0, w1, w2, w3, w4, w5] (.int 0)) :
    Own.Con G [] bPut3_2 #[.ref b, .int ii, .int ch] h [b] (fun v h' => v = none ∧ Keep h h' [b] ∧ Arv G.Z h' b kb .byte 6 [w0, w1, w2, w3, .int (StrChars.lo8 ch), .int (StrChars.hi8 ch)] (.int 0)) := by
  refine Own.Con.intro (plainFor_of_name pn_0) hO hEL _ (fun m => ef_bPut3_2 m b ii ch) ?_
  intro X T0 W0 sf
  subst hii
  have sb := sf b (List.mem_singleton.mpr rfl)
  refine Own.getS W0 (tw hw 108 rfl) Via.refl (W0.sta TA) d25_0 3 rfl ?_
  intro T1 W1
  refine Own.ifYes W1 d25_3 28 (by decide) (by decide) (by decide) ?_
  refine Own.iloadN W1 d25_28 29 rfl (2 : Int32) rfl ?_
  refine Own.iconst W1 d25_29 30 rfl (1 : Int32) rfl ?_
  refine Own.ishl W1 d25_30 31 rfl ?_
  rw [show ((2 : Int32) <<< ((1 : Int32) &&& 31)) = (4 : Int32) by decide]
  refine Own.istoreN W1 d25_31 32 rfl #[.val (.ref b), .val (.int (4 : Int32)), .val (.int ch)] rfl ?_
  refine Own.aloadN W1 d25_32 33 rfl (.ref b) rfl rfl ?_
  refine Own.iloadN W1 d25_33 34 rfl (4 : Int32) rfl ?_
  refine Own.iinc W1 d25_34 37 rfl rfl #[.val (.ref b), .val (.int (5 : Int32)), .val (.int ch)] rfl ?_
  refine Own.iloadN W1 d25_37 38 rfl ch rfl ?_
  refine Own.getS W1 (tw hw 109 rfl) Via.refl (W1.sta TH) d25_38 41 rfl ?_
  intro T2 W2
  refine Own.ishr W2 d25_41 42 rfl ?_
  rw [Own.shrZ]
  refine Own.i2b W2 d25_42 43 rfl ?_
  refine Own.bastore W2 A 4 (by decide) (by decide) (Nat.le_of_ble_eq_true rfl) hn_b sb (x' := (ch.toInt8.toInt32)) (Own.nar_b8 _) d25_43 44 rfl ?_
  intro T3 h3 W3 Q3 A3 k3
  have V3 : Arv G.Z h3 b kb .byte (6 : Int32) [w0, w1, w2, w3, (.int (ch.toInt8.toInt32)), w5] (.int 0) := A3
  refine Own.aloadN W3 d25_44 45 rfl (.ref b) rfl rfl ?_
  refine Own.iloadN W3 d25_45 46 rfl (5 : Int32) rfl ?_
  refine Own.iloadN W3 d25_46 47 rfl ch rfl ?_
  refine Own.getS W3 (tw hw 110 rfl) Via.refl (W3.sta TL) d25_47 50 rfl ?_
  intro T4 W4
  refine Own.ishr W4 d25_50 51 rfl ?_
  refine Own.i2b W4 d25_51 52 rfl ?_
  refine Own.bastore W4 V3 5 (by decide) (by decide) (Nat.le_of_ble_eq_true rfl) hn_b (k3 b sb) (x' := ((ch >>> ((8 : Int32) &&& 31)).toInt8.toInt32)) (Own.nar_b8 _) d25_52 53 rfl ?_
  intro T5 h5 W5 Q5 A5 k5
  have V5 : Arv G.Z h5 b kb .byte (6 : Int32) [w0, w1, w2, w3, (.int (ch.toInt8.toInt32)), (.int ((ch >>> ((8 : Int32) &&& 31)).toInt8.toInt32))] (.int 0) := A5
  exact Own.retV W5 (by decide) (by decide) rfl d25_53 ⟨rfl, (Keep.wr (Keep.wr (Keep.refl h [b]) Q3 (Or.inl (List.mem_singleton.mpr rfl))) Q5 (Or.inl (List.mem_singleton.mpr rfl))), V5⟩
set_option maxRecDepth 65536 in
set_option maxHeartbeats 40000000 in
theorem con_nbl1 {G : Own.Gl} (hw : ∀ d ∈ tables_1, d.before G.a0 G.Z = true) (hEL : EW G.Z G.a0 G.EL) {k : Int32} (hk : k = 1) {h : Heap} (hO : Old G.Z G.n0 h) :
    Own.Con G [] bNbl1 #[.int k] h [] (fun v h' => v = some (.int 2) ∧ h' = h) := by
  refine Own.Con.intro (plainFor_of_name pn_0) hO hEL _ (fun m => ef_bNbl1 m k) ?_
  intro X T0 W0 sf
  subst hk
  refine Own.iloadN W0 d24_0 1 rfl (1 : Int32) rfl ?_
  refine Own.ifYes W0 d24_1 12 (by decide) (by decide) (by decide) ?_
  refine Own.iloadN W0 d24_12 13 rfl (1 : Int32) rfl ?_
  refine Own.ldcI W0 (tw hw 104 rfl) d24_13 15 rfl ?_
  refine Own.icmpYes W0 d24_15 55 (by decide) (by decide) (by decide) ?_
  refine Own.iloadN W0 d24_55 56 rfl (1 : Int32) rfl ?_
  refine Own.iconst W0 d24_56 57 rfl (1 : Int32) rfl ?_
  refine Own.ishl W0 d24_57 58 rfl ?_
  exact Own.retI W0 (by decide) (by decide) rfl d24_58 ⟨by decide, rfl⟩
set_option maxRecDepth 65536 in
set_option maxHeartbeats 40000000 in
theorem con_nbf1 {G : Own.Gl} (hw : ∀ d ∈ tables_1, d.before G.a0 G.Z = true) (hEL : EW G.Z G.a0 G.EL) {k : Int32} (hk : k = 1) {h : Heap} (hO : Old G.Z G.n0 h) :
    Own.Con G [] bNbf1 #[.int k] h [] (fun v h' => ∃ (o : Addr) (ko : ClassId), v = some (.ref o) ∧ Ext h h' ∧ h.size ≤ o ∧ Arv G.Z h' o ko .byte 2 [.int 0, .int 0] (.int 0)) := by
  refine Own.Con.intro (plainFor_of_name pn_0) hO hEL _ (fun m => ef_bNbf1 m k) ?_
  intro X T0 W0 sf
  subst hk
  refine Own.iloadN W0 d23_0 1 rfl (1 : Int32) rfl ?_
  refine Own.callS W0 (tw hw 101 rfl) (tw hw 102 rfl) (tw hw 53 rfl) (tw hw 103 rfl) (by decide) (argsL := [(.int (1 : Int32))]) (rest := []) (Own.Con.pay (con_nbl1 hw hEL rfl W0.old) W0 (tw hw 103 rfl) (tw hw 53 rfl) (len := 3) (wd := 0) (by decide) (by decide) (fun _ q => nomatch q)) rfl (lenOf pd_0 rfl) rfl (Nat.le_of_ble_eq_true rfl) d23_1 4 rfl 0 0 (Nat.le_of_ble_eq_true rfl) (Nat.le_of_ble_eq_true rfl) (Nat.le_of_ble_eq_true rfl) (Nat.le_of_ble_eq_true rfl) ?_
  intro v1 T1 h1 u1 W1 R1 hq
  obtain ⟨rfl, eh1⟩ := hq
  have ei1 := eh1.symm; subst ei1
  show Own.Go _ _ _ _ _ 4 #[.val (.int (1 : Int32))] [(.int (2 : Int32))]
  refine Own.newA W1 (tw hw 19 rfl) d23_4 6 rfl (by decide) 2 (by decide) (by decide) 1 2 (by decide) (by decide) (by decide) (by decide) ?_
  intro T2 h2 o2 c2 g2 W2 E2 A2 s2 k2
  have V2 : Arv G.Z h2 o2 c2 .byte (2 : Int32) [(.int (0 : Int32)), (.int (0 : Int32))] (.int (0 : Int32)) := A2
  have X3 : Ext h h2 := E2
  exact Own.retA W2 (by decide) (by decide) rfl rfl rfl d23_6 ⟨o2, _, rfl, X3, (Nat.le_of_eq g2.symm), V2⟩
set_option maxRecDepth 65536 in
set_option maxHeartbeats 40000000 in
theorem con_tob1 {G : Own.Gl} (hw : ∀ d ∈ tables_1, d.before G.a0 G.Z = true) (hEL : EW G.Z G.a0 G.EL) (TA : Sta G.Z G.Z.heap "java/lang/StringUTF16" "$assertionsDisabled" "Z" (.int 1)) (TH : Sta G.Z G.Z.heap "java/lang/StringUTF16" "HI_BYTE_SHIFT" "I" (.int 0)) (TL : Sta G.Z G.Z.heap "java/lang/StringUTF16" "LO_BYTE_SHIFT" "I" (.int 8)) (hEN2 : Own.EN G.Z G.a0 G.EL 2) {ch0 : Int32} {of ln : Int32} (hof : of = 0) (hln : ln = 1) {h : Heap} (hO : Old G.Z G.n0 h) {a : Addr} {kC : ClassId} {dv : Value} (Ac : Arv G.Z h a kC .char 1 [.int ch0] dv) :
    Own.Con G [] bTob1 #[.ref a, .int of, .int ln] h [] (fun v h' => ∃ (o : Addr) (ko : ClassId), v = some (.ref o) ∧ Ext h h' ∧ h.size ≤ o ∧ Arv G.Z h' o ko .byte 2 [(.int (StrChars.lo8 ch0)), (.int (StrChars.hi8 ch0))] (.int 0)) := by
  refine Own.Con.intro (plainFor_of_name pn_0) hO hEL _ (fun m => ef_bTob1 m a of ln) ?_
  intro X T0 W0 sf
  subst hof; subst hln
  refine Own.iloadN W0 d22_0 1 rfl (1 : Int32) rfl ?_
  refine Own.callS W0 (tw hw 98 rfl) (tw hw 99 rfl) (tw hw 53 rfl) (tw hw 100 rfl) (by decide) (argsL := [(.int (1 : Int32))]) (rest := []) (Own.Con.pay (con_nbf1 hw hEL rfl W0.old) W0 (tw hw 100 rfl) (tw hw 53 rfl) (len := 3) (wd := 0) (by decide) (by decide) (fun _ q => nomatch q)) rfl (lenOf pd_1 rfl) rfl (Nat.le_of_ble_eq_true rfl) d22_1 4 rfl 1 2 (Nat.le_of_ble_eq_true rfl) (Nat.le_of_ble_eq_true rfl) (Nat.le_of_ble_eq_true rfl) (Nat.le_of_ble_eq_true rfl) ?_
  intro v1 T1 h1 u1 W1 R1 hq
  obtain ⟨o1, k1, rfl, E1, g1, A1⟩ := hq
  show Own.Go _ _ _ _ _ 4 #[.val (.ref a), .val (.int (0 : Int32)), .val (.int (1 : Int32)), .unset, .unset] [(.ref o1)]
  refine Own.astoreN W1 d22_4 5 rfl rfl #[.val (.ref a), .val (.int (0 : Int32)), .val (.int (1 : Int32)), .val (.ref o1), .unset] rfl ?_
  refine Own.iconst W1 d22_5 6 rfl (0 : Int32) rfl ?_
  refine Own.istore W1 d22_6 8 rfl #[.val (.ref a), .val (.int (0 : Int32)), .val (.int (1 : Int32)), .val (.ref o1), .val (.int (0 : Int32))] rfl ?_
  refine Own.iload W1 d22_8 10 rfl (0 : Int32) rfl ?_
  refine Own.iloadN W1 d22_10 11 rfl (1 : Int32) rfl ?_
  refine Own.icmpNo W1 d22_11 14 (by decide) rfl ?_
  refine Own.aloadN W1 d22_14 15 rfl (.ref o1) rfl rfl ?_
  refine Own.iload W1 d22_15 17 rfl (0 : Int32) rfl ?_
  refine Own.aloadN W1 d22_17 18 rfl (.ref a) rfl rfl ?_
  refine Own.iloadN W1 d22_18 19 rfl (0 : Int32) rfl ?_
  have X2 : Ext h h1 := E1
  refine Own.caload W1 (Ac.ext X2) (by decide) (.int ch0) rfl d22_19 20 rfl ?_
  refine Own.callS W1 (tw hw 105 rfl) (tw hw 106 rfl) (tw hw 53 rfl) (tw hw 107 rfl) (by decide) (argsL := [(.ref o1), (.int (0 : Int32)), (.int ch0)]) (rest := []) (Own.Con.pay (con_put1_0 hw hEL TA TH TL rfl ch0 W1.old (Nat.le_trans W0.n0 g1) A1) W1 (tw hw 107 rfl) (tw hw 53 rfl) (len := 3) (wd := 0) (by decide) (by decide) (fun y hy => by cases List.mem_singleton.mp hy; exact ⟨A1.lt, Own.Safe.len W1.wz hEN2 A1 (by decide)⟩)) rfl (lenOf pd_2 rfl) rfl (Nat.le_of_ble_eq_true rfl) d22_20 23 rfl 1 2 (Nat.le_of_ble_eq_true rfl) (Nat.le_of_ble_eq_true rfl) (Nat.le_of_ble_eq_true rfl) (Nat.le_of_ble_eq_true rfl) ?_
  intro v3 T3 h3 u3 W3 R3 hq
  obtain ⟨rfl, K3, A3⟩ := hq
  show Own.Go _ _ _ _ _ 23 #[.val (.ref a), .val (.int (0 : Int32)), .val (.int (1 : Int32)), .val (.ref o1), .val (.int (0 : Int32))] []
  refine Own.iinc W3 d22_23 26 rfl rfl #[.val (.ref a), .val (.int (1 : Int32)), .val (.int (1 : Int32)), .val (.ref o1), .val (.int (0 : Int32))] rfl ?_
  refine Own.iinc W3 d22_26 29 rfl rfl #[.val (.ref a), .val (.int (1 : Int32)), .val (.int (1 : Int32)), .val (.ref o1), .val (.int (1 : Int32))] rfl ?_
  refine Own.goto W3 d22_29 8 (by decide) (by decide) ?_
  refine Own.iload W3 d22_8 10 rfl (1 : Int32) rfl ?_
  refine Own.iloadN W3 d22_10 11 rfl (1 : Int32) rfl ?_
  refine Own.icmpYes W3 d22_11 32 (by decide) (by decide) (by decide) ?_
  refine Own.aloadN W3 d22_32 33 rfl (.ref o1) rfl rfl ?_
  have X4 : Ext h h3 := Own.Ext.kp X2 K3 (allS g1 all0)
  exact Own.retA W3 (by decide) (by decide) rfl rfl rfl d22_33 ⟨o1, _, rfl, X4, g1, A3⟩
set_option maxRecDepth 65536 in
set_option maxHeartbeats 40000000 in
theorem con_gc1_0 {G : Own.Gl} (hw : ∀ d ∈ tables_1, d.before G.a0 G.Z = true) (hEL : EW G.Z G.a0 G.EL) (TA : Sta G.Z G.Z.heap "java/lang/StringUTF16" "$assertionsDisabled" "Z" (.int 1)) (TH : Sta G.Z G.Z.heap "java/lang/StringUTF16" "HI_BYTE_SHIFT" "I" (.int 0)) (TL : Sta G.Z G.Z.heap "java/lang/StringUTF16" "LO_BYTE_SHIFT" "I" (.int 8)) {ch0 : Int32} (r0 : Own.R16 ch0) {b : Addr} {kb : ClassId} {ii : Int32} (hii : ii = 0) {h : Heap} (hO : Old G.Z G.n0 h) (A : Arv G.Z h b kb .byte 2 [(.int (StrChars.lo8 ch0)), (.int (StrChars.hi8 ch0))] (.int 0)) :
    Own.Con G [] bGc1_0 #[.ref b, .int ii] h [] (fun v h' => v = some (.int ch0) ∧ h' = h) := by
  refine Own.Con.intro (plainFor_of_name pn_0) hO hEL _ (fun m => ef_bGc1_0 m b ii) ?_
  intro X T0 W0 sf
  subst hii
  refine Own.getS W0 (tw hw 108 rfl) Via.refl (W0.sta TA) d26_0 3 rfl ?_
  intro T1 W1
  refine Own.ifYes W1 d26_3 28 (by decide) (by decide) (by decide) ?_
  refine Own.iloadN W1 d26_28 29 rfl (0 : Int32) rfl ?_
  refine Own.iconst W1 d26_29 30 rfl (1 : Int32) rfl ?_
  refine Own.ishl W1 d26_30 31 rfl ?_
  rw [show ((0 : Int32) <<< ((1 : Int32) &&& 31)) = (0 : Int32) by decide]
  refine Own.istoreN W1 d26_31 32 rfl #[.val (.ref b), .val (.int (0 : Int32))] rfl ?_
  refine Own.aloadN W1 d26_32 33 rfl (.ref b) rfl rfl ?_
  refine Own.iloadN W1 d26_33 34 rfl (0 : Int32) rfl ?_
  refine Own.iinc W1 d26_34 37 rfl rfl #[.val (.ref b), .val (.int (1 : Int32))] rfl ?_
  refine Own.baload W1 A (by decide) (.int (StrChars.lo8 ch0)) rfl d26_37 38 rfl ?_
  refine Own.sipush W1 d26_38 41 rfl (255 : Int32) rfl ?_
  refine Own.iand W1 d26_41 42 rfl ?_
  refine Own.getS W1 (tw hw 109 rfl) Via.refl (W1.sta TH) d26_42 45 rfl ?_
  intro T2 W2
  refine Own.ishl W2 d26_45 46 rfl ?_
  refine Own.aloadN W2 d26_46 47 rfl (.ref b) rfl rfl ?_
  refine Own.iloadN W2 d26_47 48 rfl (1 : Int32) rfl ?_
  refine Own.baload W2 A (by decide) (.int (StrChars.hi8 ch0)) rfl d26_48 49 rfl ?_
  refine Own.sipush W2 d26_49 52 rfl (255 : Int32) rfl ?_
  refine Own.iand W2 d26_52 53 rfl ?_
  refine Own.getS W2 (tw hw 110 rfl) Via.refl (W2.sta TL) d26_53 56 rfl ?_
  intro T3 W3
  refine Own.ishl W3 d26_56 57 rfl ?_
  refine Own.ior W3 d26_57 58 rfl ?_
  refine Own.i2c W3 d26_58 59 rfl ?_
  show Own.Go _ _ _ _ _ 59 #[.val (.ref b), .val (.int (1 : Int32))] [.int (StrChars.pairCh (StrChars.lo8 ch0) (StrChars.hi8 ch0))]
  rw [StrChars.pair_says r0.1 r0.2]
  exact Own.retC W3 (by decide) (by decide) rfl d26_59 (Own.narC r0) ⟨rfl, rfl⟩
set_option maxRecDepth 65536 in
set_option maxHeartbeats 40000000 in
theorem con_c51 {G : Own.Gl} (hw : ∀ d ∈ tables_1, d.before G.a0 G.Z = true) (hEL : EW G.Z G.a0 G.EL) {ch0 : Int32} (hw255 : (255 : Int32) < ch0) {o1 o2 ln : Int32} (ho1 : o1 = 0) (ho2 : o2 = 0) (hln : ln = 1) {d : Addr} {kd : ClassId} {h : Heap} (hO : Old G.Z G.n0 h) (hn_d : G.n0 ≤ d) {a : Addr} {kC : ClassId} {dv : Value} (Ac : Arv G.Z h a kC .char 1 [.int ch0] dv) (had : a ≠ d) (Ad : Arv G.Z h d kd .byte 1 [.int 0] (.int 0)) :
    Own.Con G [] bC51 #[.ref a, .int o1, .ref d, .int o2, .int ln] h [d] (fun v h' => ((v = some (.int 0) ∧ (255 : Int32) < ch0)) ∧ Keep h h' [d]) := by
  refine Own.Con.intro (plainFor_of_name pn_0) hO hEL _ (fun m => ef_bC51 m a o1 d o2 ln) ?_
  intro X T0 W0 sf
  subst ho1; subst ho2; subst hln
  have sd := sf d (List.mem_singleton.mpr rfl)
  refine Own.iconst W0 d12_0 1 rfl (0 : Int32) rfl ?_
  refine Own.istore W0 d12_1 3 rfl #[.val (.ref a), .val (.int (0 : Int32)), .val (.ref d), .val (.int (0 : Int32)), .val (.int (1 : Int32)), .val (.int (0 : Int32)), .unset] rfl ?_
  refine Own.iload W0 d12_3 5 rfl (0 : Int32) rfl ?_
  refine Own.iload W0 d12_5 7 rfl (1 : Int32) rfl ?_
  refine Own.icmpNo W0 d12_7 10 (by decide) rfl ?_
  refine Own.aloadN W0 d12_10 11 rfl (.ref a) rfl rfl ?_
  refine Own.iloadN W0 d12_11 12 rfl (0 : Int32) rfl ?_
  refine Own.caload W0 Ac (by decide) (.int ch0) rfl d12_12 13 rfl ?_
  refine Own.istore W0 d12_13 15 rfl #[.val (.ref a), .val (.int (0 : Int32)), .val (.ref d), .val (.int (0 : Int32)), .val (.int (1 : Int32)), .val (.int (0 : Int32)), .val (.int ch0)] rfl ?_
  refine Own.iload W0 d12_15 17 rfl ch0 rfl ?_
  refine Own.sipush W0 d12_17 20 rfl (255 : Int32) rfl ?_
  by_cases e0 : (255 : Int32) < ch0
  · skip
    refine Own.icmpNo W0 d12_20 23 (XT.ii_le_f e0) rfl ?_
    refine Own.iload W0 d12_23 25 rfl (0 : Int32) rfl ?_
    exact Own.retI W0 (by decide) (by decide) rfl d12_25 ⟨⟨rfl, e0⟩, (Keep.refl h [d])⟩
  · skip
    refine Own.icmpYes W0 d12_20 26 (XT.ii_le_t e0) (by decide) (by decide) ?_
    refine Own.aloadN W0 d12_26 27 rfl (.ref d) rfl rfl ?_
    refine Own.iloadN W0 d12_27 28 rfl (0 : Int32) rfl ?_
    refine Own.iload W0 d12_28 30 rfl ch0 rfl ?_
    refine Own.i2b W0 d12_30 31 rfl ?_
    refine Own.bastore W0 Ad 0 (by decide) (by decide) (Nat.le_of_ble_eq_true rfl) hn_d sd (x' := (ch0.toInt8.toInt32)) (Own.nar_b8 _) d12_31 32 rfl ?_
    intro T1 h1 W1 Q1 A1 k1
    have V1 : Arv G.Z h1 d kd .byte (1 : Int32) [(.int (ch0.toInt8.toInt32))] (.int 0) := A1
    exact absurd hw255 e0
set_option maxRecDepth 65536 in
set_option maxHeartbeats 40000000 in
theorem con_c31 {G : Own.Gl} (hw : ∀ d ∈ tables_1, d.before G.a0 G.Z = true) (hEL : EW G.Z G.a0 G.EL) (TA : Sta G.Z G.Z.heap "java/lang/StringUTF16" "$assertionsDisabled" "Z" (.int 1)) (TH : Sta G.Z G.Z.heap "java/lang/StringUTF16" "HI_BYTE_SHIFT" "I" (.int 0)) (TL : Sta G.Z G.Z.heap "java/lang/StringUTF16" "LO_BYTE_SHIFT" "I" (.int 8)) (hEN2 : Own.EN G.Z G.a0 G.EL 2) {ch0 : Int32} (hw255 : (255 : Int32) < ch0) (r0 : Own.R16 ch0) {of ln : Int32} (hof : of = 0) (hln : ln = 1) {h : Heap} (hO : Old G.Z G.n0 h) {a : Addr} {kC : ClassId} {dv : Value} (Ac : Arv G.Z h a kC .char 1 [.int ch0] dv) :
    Own.Con G [] bC31 #[.ref a, .int of, .int ln] h [] (fun v h' => ∃ (o : Addr) (ko : ClassId), v = some (.ref o) ∧ Ext h h' ∧ h.size ≤ o ∧ Arv G.Z h' o ko .byte 2 [(.int (StrChars.lo8 ch0)), (.int (StrChars.hi8 ch0))] (.int 0)) := by
  refine Own.Con.intro (plainFor_of_name pn_0) hO hEL _ (fun m => ef_bC31 m a of ln) ?_
  intro X T0 W0 sf
  subst hof; subst hln
  refine Own.iloadN W0 d11_0 1 rfl (1 : Int32) rfl ?_
  refine Own.newA W0 (tw hw 19 rfl) d11_1 3 rfl (by decide) 1 (by decide) (by decide) 1 1 (by decide) (by decide) (by decide) (by decide) ?_
  intro T1 h1 o1 c1 g1 W1 E1 A1 s1 k1
  have V1 : Arv G.Z h1 o1 c1 .byte (1 : Int32) [(.int (0 : Int32))] (.int (0 : Int32)) := A1
  refine Own.astoreN W1 d11_3 4 rfl rfl #[.val (.ref a), .val (.int (0 : Int32)), .val (.int (1 : Int32)), .val (.ref o1), .unset, .unset] rfl ?_
  refine Own.aloadN W1 d11_4 5 rfl (.ref a) rfl rfl ?_
  refine Own.iloadN W1 d11_5 6 rfl (0 : Int32) rfl ?_
  refine Own.aloadN W1 d11_6 7 rfl (.ref o1) rfl rfl ?_
  refine Own.iconst W1 d11_7 8 rfl (0 : Int32) rfl ?_
  refine Own.iloadN W1 d11_8 9 rfl (1 : Int32) rfl ?_
  have X2 : Ext h h1 := E1
  refine Own.callS W1 (tw hw 55 rfl) (tw hw 56 rfl) (tw hw 53 rfl) (tw hw 57 rfl) (by decide) (argsL := [(.ref a), (.int (0 : Int32)), (.ref o1), (.int (0 : Int32)), (.int (1 : Int32))]) (rest := []) (Own.Con.pay (con_c51 hw hEL hw255 rfl rfl rfl W1.old (Nat.le_trans W0.n0 (Nat.le_of_eq g1.symm)) (Ac.ext X2) (Nat.ne_of_lt (Nat.lt_of_lt_of_le Ac.lt (Nat.le_of_eq g1.symm))) V1) W1 (tw hw 57 rfl) (tw hw 53 rfl) (len := 3) (wd := 0) (by decide) (by decide) (fun y hy => by cases List.mem_singleton.mp hy; exact ⟨V1.lt, s1⟩)) rfl (lenOf pd_3 rfl) rfl (Nat.le_of_ble_eq_true rfl) d11_9 12 rfl 1 1 (Nat.le_of_ble_eq_true rfl) (Nat.le_of_ble_eq_true rfl) (Nat.le_of_ble_eq_true rfl) (Nat.le_of_ble_eq_true rfl) ?_
  intro v3 T3 h3 u3 W3 R3 hq
  obtain ⟨hv3, K3⟩ := hq
  rcases hv3 with ⟨rfl, e0⟩
  · skip
    show Own.Go _ _ _ _ _ 12 #[.val (.ref a), .val (.int (0 : Int32)), .val (.int (1 : Int32)), .val (.ref o1), .unset, .unset] [(.int (0 : Int32))]
    refine Own.istore W3 d11_12 14 rfl #[.val (.ref a), .val (.int (0 : Int32)), .val (.int (1 : Int32)), .val (.ref o1), .val (.int (0 : Int32)), .unset] rfl ?_
    refine Own.iload W3 d11_14 16 rfl (0 : Int32) rfl ?_
    refine Own.iloadN W3 d11_16 17 rfl (1 : Int32) rfl ?_
    refine Own.icmpNo W3 d11_17 20 (by decide) rfl ?_
    refine Own.aloadN W3 d11_20 21 rfl (.ref a) rfl rfl ?_
    refine Own.iloadN W3 d11_21 22 rfl (0 : Int32) rfl ?_
    refine Own.iloadN W3 d11_22 23 rfl (1 : Int32) rfl ?_
    have X4 : Ext h h3 := Own.Ext.kp X2 K3 (allS (Nat.le_of_eq g1.symm) all0)
    refine Own.callS W3 (tw hw 95 rfl) (tw hw 96 rfl) (tw hw 53 rfl) (tw hw 97 rfl) (by decide) (argsL := [(.ref a), (.int (0 : Int32)), (.int (1 : Int32))]) (rest := []) (Own.Con.pay (con_tob1 hw hEL TA TH TL hEN2 rfl rfl W3.old (Ac.ext X4)) W3 (tw hw 97 rfl) (tw hw 53 rfl) (len := 3) (wd := 0) (by decide) (by decide) (fun _ q => nomatch q)) rfl (lenOf pd_4 rfl) rfl (Nat.le_of_ble_eq_true rfl) d11_23 26 rfl 2 3 (Nat.le_of_ble_eq_true rfl) (Nat.le_of_ble_eq_true rfl) (Nat.le_of_ble_eq_true rfl) (Nat.le_of_ble_eq_true rfl) ?_
    intro v5 T5 h5 u5 W5 R5 hq
    obtain ⟨o5, k5, rfl, E5, g5, A5⟩ := hq
    show Own.Go _ _ _ _ _ 26 #[.val (.ref a), .val (.int (0 : Int32)), .val (.int (1 : Int32)), .val (.ref o1), .val (.int (0 : Int32)), .unset] [(.ref o5)]
    refine Own.astore W5 d11_26 28 rfl rfl #[.val (.ref a), .val (.int (0 : Int32)), .val (.int (1 : Int32)), .val (.ref o1), .val (.int (0 : Int32)), .val (.ref o5)] rfl ?_
    refine Own.aload W5 d11_28 30 rfl (.ref o5) rfl rfl ?_
    refine Own.iload W5 d11_30 32 rfl (0 : Int32) rfl ?_
    refine Own.callS W5 (tw hw 111 rfl) (tw hw 112 rfl) (tw hw 53 rfl) (tw hw 113 rfl) (by decide) (argsL := [(.ref o5), (.int (0 : Int32))]) (rest := []) (Own.Con.pay (con_gc1_0 hw hEL TA TH TL r0 rfl W5.old A5) W5 (tw hw 113 rfl) (tw hw 53 rfl) (len := 3) (wd := 0) (by decide) (by decide) (fun _ q => nomatch q)) rfl (lenOf pd_5 rfl) rfl (Nat.le_of_ble_eq_true rfl) d11_32 35 rfl 2 3 (Nat.le_of_ble_eq_true rfl) (Nat.le_of_ble_eq_true rfl) (Nat.le_of_ble_eq_true rfl) (Nat.le_of_ble_eq_true rfl) ?_
    intro v6 T6 h6 u6 W6 R6 hq
    obtain ⟨rfl, eh6⟩ := hq
    have ei6 := eh6.symm; subst ei6
    show Own.Go _ _ _ _ _ 35 #[.val (.ref a), .val (.int (0 : Int32)), .val (.int (1 : Int32)), .val (.ref o1), .val (.int (0 : Int32)), .val (.ref o5)] [(.int ch0)]
    refine Own.sipush W6 d11_35 38 rfl (255 : Int32) rfl ?_
    refine Own.icmpYes W6 d11_38 54 (XT.ii_gt_t e0) (by decide) (by decide) ?_
    refine Own.aload W6 d11_54 56 rfl (.ref o5) rfl rfl ?_
    have X7 : Ext h h5 := Own.Ext.tr X4 E5
    exact Own.retA W6 (by decide) (by decide) rfl rfl rfl d11_56 ⟨o5, _, rfl, X7, (Nat.le_trans X4.1 g5), A5⟩
set_option maxRecDepth 65536 in
set_option maxHeartbeats 40000000 in
theorem con_cfl1 {G : Own.Gl} (hw : ∀ d ∈ tables_1, d.before G.a0 G.Z = true) (hEL : EW G.Z G.a0 G.EL) {b : Addr} {kb : ClassId} {vs : List Value} {dv : Value} {ln : Int32} (hln : ln = 1) {h : Heap} (hO : Old G.Z G.n0 h) (A : Arv G.Z h b kb .byte 2 vs dv) :
    Own.Con G [] bCfl1 #[.ref b, .int ln] h [] (fun v h' => v = some (.int 1) ∧ h' = h) := by
  refine Own.Con.intro (plainFor_of_name pn_0) hO hEL _ (fun m => ef_bCfl1 m b ln) ?_
  intro X T0 W0 sf
  subst hln
  refine Own.iloadN W0 d13_0 1 rfl (1 : Int32) rfl ?_
  refine Own.aloadN W0 d13_1 2 rfl (.ref b) rfl rfl ?_
  refine Own.arrlen W0 A d13_2 3 rfl ?_
  refine Own.isub W0 d13_3 4 rfl ?_
  refine Own.bipush W0 d13_4 6 rfl (31 : Int32) rfl ?_
  refine Own.iushr W0 d13_6 7 rfl ?_
  refine Own.i2b W0 d13_7 8 rfl ?_
  rw [show (((1 : Int32) - (2 : Int32)).toUInt32 >>> ((31 : Int32) &&& 31).toUInt32).toInt32.toInt8.toInt32 = (1 : Int32) by decide]
  exact Own.retY W0 (by decide) (by decide) rfl d13_8 rfl ⟨rfl, rfl⟩
set_option maxRecDepth 65536 in
set_option maxHeartbeats 40000000 in
theorem con_w41 {G : Own.Gl} (hw : ∀ d ∈ tables_1, d.before G.a0 G.Z = true) (hEL : EW G.Z G.a0 G.EL) (hmem : (Own.ST, 7) ∈ G.EL) {cz : Int32} (hS : Sta G.Z G.Z.heap Own.ST "COMPACT_STRINGS" "Z" (.int cz)) (hcz : ¬ cz = 0) (TA : Sta G.Z G.Z.heap "java/lang/StringUTF16" "$assertionsDisabled" "Z" (.int 1)) (TH : Sta G.Z G.Z.heap "java/lang/StringUTF16" "HI_BYTE_SHIFT" "I" (.int 0)) (TL : Sta G.Z G.Z.heap "java/lang/StringUTF16" "LO_BYTE_SHIFT" "I" (.int 8)) (hEN2 : Own.EN G.Z G.a0 G.EL 2) {ch0 : Int32} (hw255 : (255 : Int32) < ch0) (r0 : Own.R16 ch0) {of ln : Int32} (hof : of = 0) (hln : ln = 1) {x : Addr} {h : Heap} (hO : Old G.Z G.n0 h) (hn_x : G.n0 ≤ x) (E : Exa G.Z h x "java/lang/String") {v0 c0_ : Value} (V : Fld G.Z h x "java/lang/String" "value" "[B" v0) (Cd : Fld G.Z h x "java/lang/String" "coder" "B" c0_) {a : Addr} {kC : ClassId} {dv : Value} (Ac : Arv G.Z h a kC .char 1 [.int ch0] dv) :
    Own.Con G [] bW41 #[.ref x, .ref a, .int of, .int ln, .null] h [x] (fun v h' => v = none ∧ Keep h h' [x] ∧ Own.WStr G.Z h' x [ch0]) := by
  refine Own.Con.intro (plainFor_of_name pn_1) hO hEL _ (fun m => ef_bW41 m x a of ln) ?_
  intro X T0 W0 sf
  subst hof; subst hln
  have sx := sf x (List.mem_singleton.mpr rfl)
  refine Own.aloadN W0 d3_0 1 rfl (.ref x) rfl rfl ?_
  refine Own.initO W0 (tw hw 15 rfl) (tw hw 16 rfl) (tw hw 17 rfl) rfl d3_1 4 rfl (by decide) (by decide) ?_
  intro T1 W1
  refine Own.iloadN W1 d3_4 5 rfl (1 : Int32) rfl ?_
  refine Own.ifYes W1 d3_5 27 (by decide) (by decide) (by decide) ?_
  refine Own.getS W1 (tw hw 46 rfl) Via.refl (W1.sta hS) d3_27 30 rfl ?_
  intro T2 W2
  refine Own.ifNo W2 d3_30 33 (XT.i0_eq_f hcz) rfl ?_
  refine Own.aloadN W2 d3_33 34 rfl (.ref a) rfl rfl ?_
  refine Own.iloadN W2 d3_34 35 rfl (0 : Int32) rfl ?_
  refine Own.iloadN W2 d3_35 36 rfl (1 : Int32) rfl ?_
  refine Own.callS W2 (tw hw 51 rfl) (tw hw 52 rfl) (tw hw 53 rfl) (tw hw 54 rfl) (by decide) (argsL := [(.ref a), (.int (0 : Int32)), (.int (1 : Int32))]) (rest := []) (Own.Con.pay (con_c31 hw hEL TA TH TL hEN2 hw255 r0 rfl rfl W2.old Ac) W2 (tw hw 54 rfl) (tw hw 53 rfl) (len := 3) (wd := 0) (by decide) (by decide) (fun _ q => nomatch q)) rfl (lenOf pd_4 rfl) rfl (Nat.le_of_ble_eq_true rfl) d3_36 39 rfl 2 3 (Nat.le_of_ble_eq_true rfl) (Nat.le_of_ble_eq_true rfl) (Nat.le_of_ble_eq_true rfl) (Nat.le_of_ble_eq_true rfl) ?_
  intro v3 T3 h3 u3 W3 R3 hq
  obtain ⟨o3, k3, rfl, E3, g3, A3⟩ := hq
  show Own.Go _ _ _ _ _ 39 #[.val (.ref x), .val (.ref a), .val (.int (0 : Int32)), .val (.int (1 : Int32)), .val .null, .unset] [(.ref o3)]
  refine Own.astore W3 d3_39 41 rfl rfl #[.val (.ref x), .val (.ref a), .val (.int (0 : Int32)), .val (.int (1 : Int32)), .val .null, .val (.ref o3)] rfl ?_
  refine Own.aloadN W3 d3_41 42 rfl (.ref x) rfl rfl ?_
  refine Own.aload W3 d3_42 44 rfl (.ref o3) rfl rfl ?_
  refine Own.iloadN W3 d3_44 45 rfl (1 : Int32) rfl ?_
  refine Own.callS W3 (tw hw 58 rfl) (tw hw 59 rfl) (tw hw 53 rfl) (tw hw 60 rfl) (by decide) (argsL := [(.ref o3), (.int (1 : Int32))]) (rest := [(.ref x)]) (Own.Con.pay (con_cfl1 hw hEL rfl W3.old A3) W3 (tw hw 60 rfl) (tw hw 53 rfl) (len := 3) (wd := 1) (by decide) (by decide) (fun _ q => nomatch q)) rfl (lenOf pd_6 rfl) rfl (Nat.le_of_ble_eq_true rfl) d3_45 48 rfl 2 3 (Nat.le_of_ble_eq_true rfl) (Nat.le_of_ble_eq_true rfl) (Nat.le_of_ble_eq_true rfl) (Nat.le_of_ble_eq_true rfl) ?_
  intro v4 T4 h4 u4 W4 R4 hq
  obtain ⟨rfl, eh4⟩ := hq
  have ei4 := eh4.symm; subst ei4
  have X5 : Ext h h3 := E3
  have sf6 := R4.safe (E.ext X5).lt (R3.safe E.lt sx)
  show Own.Go _ _ _ _ _ 48 #[.val (.ref x), .val (.ref a), .val (.int (0 : Int32)), .val (.int (1 : Int32)), .val .null, .val (.ref o3)] [(.int (1 : Int32)), (.ref x)]
  refine Own.putF W4 (tw hw 25 rfl) Via.refl (Cd.ext X5) (E.ext X5) (Or.inr ⟨(tw hw 21 rfl), rfl, rfl⟩) (tw hw 5 rfl) (ty := .byte) (v' := (.int (1 : Int32))) (by decide) rfl rfl hn_x sf6 d3_48 51 rfl ?_
  intro T7 h7 W7 Q7 k7
  have F7_coder := Fld.same Q7 (Cd.ext X5)
  refine Own.aloadN W7 d3_51 52 rfl (.ref x) rfl rfl ?_
  refine Own.aload W7 d3_52 54 rfl (.ref o3) rfl rfl ?_
  refine Own.putF W7 (tw hw 24 rfl) Via.refl ((V.ext E3).other Q7 (Or.inr (slot_ne (Or.inr (tw hw 20 rfl)) (Or.inr (tw hw 21 rfl)) (by decide) (t := (.array .byte)) (t' := .byte) (by decide) (by decide)))) ((E.ext E3).wr Q7) (Or.inr ⟨(tw hw 20 rfl), rfl, rfl⟩) (tw hw 5 rfl) (ty := (.array .byte)) (v' := (.ref o3)) (by decide) rfl rfl hn_x (k7 x sf6) d3_54 57 rfl ?_
  intro T8 h8 W8 Q8 k8
  have F8_value := Fld.same Q8 ((V.ext E3).other Q7 (Or.inr (slot_ne (Or.inr (tw hw 20 rfl)) (Or.inr (tw hw 21 rfl)) (by decide) (t := (.array .byte)) (t' := .byte) (by decide) (by decide))))
  exact Own.retV W8 (by decide) (by decide) rfl d3_57 ⟨rfl, (Keep.wr (Keep.wr (Keep.ext (Keep.refl h [x]) E3) Q7 (Or.inl (by simp))) Q8 (Or.inl (by simp))), (((E.ext E3).wr Q7).wr Q8), (F7_coder.other Q8 (Or.inr (slot_ne (Or.inr (tw hw 21 rfl)) (Or.inr (tw hw 20 rfl)) (by decide) (t := .byte) (t' := (.array .byte)) (by decide) (by decide)))), (by intro c hc; simp only [List.mem_cons, List.not_mem_nil, or_false] at hc; rcases hc with rfl; exact r0), Nat.le_of_ble_eq_true rfl, ⟨ch0, by simp, hw255⟩, o3, _, F8_value, ((A3.other Q7 (Ne.symm (Nat.ne_of_lt (Nat.lt_of_lt_of_le E.lt g3)))).other Q8 (Ne.symm (Nat.ne_of_lt (Nat.lt_of_lt_of_le E.lt g3))))⟩
set_option maxRecDepth 65536 in
set_option maxHeartbeats 40000000 in
theorem con_w11 {G : Own.Gl} (hw : ∀ d ∈ tables_1, d.before G.a0 G.Z = true) (hEL : EW G.Z G.a0 G.EL) (hmem : (Own.ST, 7) ∈ G.EL) {cz : Int32} (hS : Sta G.Z G.Z.heap Own.ST "COMPACT_STRINGS" "Z" (.int cz)) (hcz : ¬ cz = 0) (TA : Sta G.Z G.Z.heap "java/lang/StringUTF16" "$assertionsDisabled" "Z" (.int 1)) (TH : Sta G.Z G.Z.heap "java/lang/StringUTF16" "HI_BYTE_SHIFT" "I" (.int 0)) (TL : Sta G.Z G.Z.heap "java/lang/StringUTF16" "LO_BYTE_SHIFT" "I" (.int 8)) (hEN2 : Own.EN G.Z G.a0 G.EL 2) {ch0 : Int32} (hw255 : (255 : Int32) < ch0) (r0 : Own.R16 ch0) {x : Addr} {h : Heap} (hO : Old G.Z G.n0 h) (hn_x : G.n0 ≤ x) (E : Exa G.Z h x "java/lang/String") {v0 c0_ : Value} (V : Fld G.Z h x "java/lang/String" "value" "[B" v0) (Cd : Fld G.Z h x "java/lang/String" "coder" "B" c0_) {a : Addr} {kC : ClassId} {dv : Value} (Ac : Arv G.Z h a kC .char 1 [.int ch0] dv) :
    Own.Con G [] bW11 #[.ref x, .ref a] h [x] (fun v h' => v = none ∧ Keep h h' [x] ∧ Own.WStr G.Z h' x [ch0]) := by
  refine Own.Con.intro (plainFor_of_name pn_1) hO hEL _ (fun m => ef_bW11 m x a) ?_
  intro X T0 W0 sf
  have sx := sf x (List.mem_singleton.mpr rfl)
  refine Own.aloadN W0 d2_0 1 rfl (.ref x) rfl rfl ?_
  refine Own.aloadN W0 d2_1 2 rfl (.ref a) rfl rfl ?_
  refine Own.iconst W0 d2_2 3 rfl (0 : Int32) rfl ?_
  refine Own.aloadN W0 d2_3 4 rfl (.ref a) rfl rfl ?_
  refine Own.arrlen W0 Ac d2_4 5 rfl ?_
  refine Own.aconstNull W0 d2_5 6 rfl ?_
  refine Own.callX W0 rfl (tw hw 11 rfl) (tw hw 12 rfl) (tw hw 14 rfl) (by decide) (argsL := [(.ref a), (.int (0 : Int32)), (.int (1 : Int32)), .null]) (rest := []) (Own.Con.pay (con_w41 hw hEL hmem hS hcz TA TH TL hEN2 hw255 r0 rfl rfl W0.old hn_x E V Cd Ac) W0 (tw hw 14 rfl) (tw hw 6 rfl) (len := 3) (wd := 0) (by decide) (by decide) (fun y hy => by cases List.mem_singleton.mp hy; exact ⟨E.lt, sx⟩)) rfl (lenOf pd_7 rfl) rfl (Nat.le_of_ble_eq_true rfl) d2_6 9 rfl 2 3 (Nat.le_of_ble_eq_true rfl) (Nat.le_of_ble_eq_true rfl) (Nat.le_of_ble_eq_true rfl) (Nat.le_of_ble_eq_true rfl) ?_
  intro v1 T1 h1 u1 W1 R1 hq
  obtain ⟨rfl, K1, F1⟩ := hq
  show Own.Go _ _ _ _ _ 9 #[.val (.ref x), .val (.ref a)] []
  exact Own.retV W1 (by decide) (by decide) rfl d2_9 ⟨rfl, K1, F1⟩
set_option maxRecDepth 65536 in
set_option maxHeartbeats 40000000 in
theorem con_nbl2 {G : Own.Gl} (hw : ∀ d ∈ tables_1, d.before G.a0 G.Z = true) (hEL : EW G.Z G.a0 G.EL) {k : Int32} (hk : k = 2) {h : Heap} (hO : Old G.Z G.n0 h) :
    Own.Con G [] bNbl2 #[.int k] h [] (fun v h' => v = some (.int 4) ∧ h' = h) := by
  refine Own.Con.intro (plainFor_of_name pn_0) hO hEL _ (fun m => ef_bNbl2 m k) ?_
  intro X T0 W0 sf
  subst hk
  refine Own.iloadN W0 d24_0 1 rfl (2 : Int32) rfl ?_
  refine Own.ifYes W0 d24_1 12 (by decide) (by decide) (by decide) ?_
  refine Own.iloadN W0 d24_12 13 rfl (2 : Int32) rfl ?_
  refine Own.ldcI W0 (tw hw 104 rfl) d24_13 15 rfl ?_
  refine Own.icmpYes W0 d24_15 55 (by decide) (by decide) (by decide) ?_
  refine Own.iloadN W0 d24_55 56 rfl (2 : Int32) rfl ?_
  refine Own.iconst W0 d24_56 57 rfl (1 : Int32) rfl ?_
  refine Own.ishl W0 d24_57 58 rfl ?_
  exact Own.retI W0 (by decide) (by decide) rfl d24_58 ⟨by decide, rfl⟩
set_option maxRecDepth 65536 in
set_option maxHeartbeats 40000000 in
theorem con_nbf2 {G : Own.Gl} (hw : ∀ d ∈ tables_1, d.before G.a0 G.Z = true) (hEL : EW G.Z G.a0 G.EL) {k : Int32} (hk : k = 2) {h : Heap} (hO : Old G.Z G.n0 h) :
    Own.Con G [] bNbf2 #[.int k] h [] (fun v h' => ∃ (o : Addr) (ko : ClassId), v = some (.ref o) ∧ Ext h h' ∧ h.size ≤ o ∧ Arv G.Z h' o ko .byte 4 [.int 0, .int 0, .int 0, .int 0] (.int 0)) := by
  refine Own.Con.intro (plainFor_of_name pn_0) hO hEL _ (fun m => ef_bNbf2 m k) ?_
  intro X T0 W0 sf
  subst hk
  refine Own.iloadN W0 d23_0 1 rfl (2 : Int32) rfl ?_
  refine Own.callS W0 (tw hw 101 rfl) (tw hw 102 rfl) (tw hw 53 rfl) (tw hw 103 rfl) (by decide) (argsL := [(.int (2 : Int32))]) (rest := []) (Own.Con.pay (con_nbl2 hw hEL rfl W0.old) W0 (tw hw 103 rfl) (tw hw 53 rfl) (len := 3) (wd := 0) (by decide) (by decide) (fun _ q => nomatch q)) rfl (lenOf pd_0 rfl) rfl (Nat.le_of_ble_eq_true rfl) d23_1 4 rfl 0 0 (Nat.le_of_ble_eq_true rfl) (Nat.le_of_ble_eq_true rfl) (Nat.le_of_ble_eq_true rfl) (Nat.le_of_ble_eq_true rfl) ?_
  intro v1 T1 h1 u1 W1 R1 hq
  obtain ⟨rfl, eh1⟩ := hq
  have ei1 := eh1.symm; subst ei1
  show Own.Go _ _ _ _ _ 4 #[.val (.int (2 : Int32))] [(.int (4 : Int32))]
  refine Own.newA W1 (tw hw 19 rfl) d23_4 6 rfl (by decide) 4 (by decide) (by decide) 1 4 (by decide) (by decide) (by decide) (by decide) ?_
  intro T2 h2 o2 c2 g2 W2 E2 A2 s2 k2
  have V2 : Arv G.Z h2 o2 c2 .byte (4 : Int32) [(.int (0 : Int32)), (.int (0 : Int32)), (.int (0 : Int32)), (.int (0 : Int32))] (.int (0 : Int32)) := A2
  have X3 : Ext h h2 := E2
  exact Own.retA W2 (by decide) (by decide) rfl rfl rfl d23_6 ⟨o2, _, rfl, X3, (Nat.le_of_eq g2.symm), V2⟩
set_option maxRecDepth 65536 in
set_option maxHeartbeats 40000000 in
theorem con_tob2 {G : Own.Gl} (hw : ∀ d ∈ tables_1, d.before G.a0 G.Z = true) (hEL : EW G.Z G.a0 G.EL) (TA : Sta G.Z G.Z.heap "java/lang/StringUTF16" "$assertionsDisabled" "Z" (.int 1)) (TH : Sta G.Z G.Z.heap "java/lang/StringUTF16" "HI_BYTE_SHIFT" "I" (.int 0)) (TL : Sta G.Z G.Z.heap "java/lang/StringUTF16" "LO_BYTE_SHIFT" "I" (.int 8)) (hEN4 : Own.EN G.Z G.a0 G.EL 4) {ch0 ch1 : Int32} {of ln : Int32} (hof : of = 0) (hln : ln = 2) {h : Heap} (hO : Old G.Z G.n0 h) {a : Addr} {kC : ClassId} {dv : Value} (Ac : Arv G.Z h a kC .char 2 [.int ch0, .int ch1] dv) :
    Own.Con G [] bTob2 #[.ref a, .int of, .int ln] h [] (fun v h' => ∃ (o : Addr) (ko : ClassId), v = some (.ref o) ∧ Ext h h' ∧ h.size ≤ o ∧ Arv G.Z h' o ko .byte 4 [(.int (StrChars.lo8 ch0)), (.int (StrChars.hi8 ch0)), (.int (StrChars.lo8 ch1)), (.int (StrChars.hi8 ch1))] (.int 0)) := by
  refine Own.Con.intro (plainFor_of_name pn_0) hO hEL _ (fun m => ef_bTob2 m a of ln) ?_
  intro X T0 W0 sf
  subst hof; subst hln
  refine Own.iloadN W0 d22_0 1 rfl (2 : Int32) rfl ?_
  refine Own.callS W0 (tw hw 98 rfl) (tw hw 99 rfl) (tw hw 53 rfl) (tw hw 100 rfl) (by decide) (argsL := [(.int (2 : Int32))]) (rest := []) (Own.Con.pay (con_nbf2 hw hEL rfl W0.old) W0 (tw hw 100 rfl) (tw hw 53 rfl) (len := 3) (wd := 0) (by decide) (by decide) (fun _ q => nomatch q)) rfl (lenOf pd_1 rfl) rfl (Nat.le_of_ble_eq_true rfl) d22_1 4 rfl 1 4 (Nat.le_of_ble_eq_true rfl) (Nat.le_of_ble_eq_true rfl) (Nat.le_of_ble_eq_true rfl) (Nat.le_of_ble_eq_true rfl) ?_
  intro v1 T1 h1 u1 W1 R1 hq
  obtain ⟨o1, k1, rfl, E1, g1, A1⟩ := hq
  show Own.Go _ _ _ _ _ 4 #[.val (.ref a), .val (.int (0 : Int32)), .val (.int (2 : Int32)), .unset, .unset] [(.ref o1)]
  refine Own.astoreN W1 d22_4 5 rfl rfl #[.val (.ref a), .val (.int (0 : Int32)), .val (.int (2 : Int32)), .val (.ref o1), .unset] rfl ?_
  refine Own.iconst W1 d22_5 6 rfl (0 : Int32) rfl ?_
  refine Own.istore W1 d22_6 8 rfl #[.val (.ref a), .val (.int (0 : Int32)), .val (.int (2 : Int32)), .val (.ref o1), .val (.int (0 : Int32))] rfl ?_
  refine Own.iload W1 d22_8 10 rfl (0 : Int32) rfl ?_
  refine Own.iloadN W1 d22_10 11 rfl (2 : Int32) rfl ?_
  refine Own.icmpNo W1 d22_11 14 (by decide) rfl ?_
  refine Own.aloadN W1 d22_14 15 rfl (.ref o1) rfl rfl ?_
  refine Own.iload W1 d22_15 17 rfl (0 : Int32) rfl ?_
  refine Own.aloadN W1 d22_17 18 rfl (.ref a) rfl rfl ?_
  refine Own.iloadN W1 d22_18 19 rfl (0 : Int32) rfl ?_
  have X2 : Ext h h1 := E1
  refine Own.caload W1 (Ac.ext X2) (by decide) (.int ch0) rfl d22_19 20 rfl ?_
  refine Own.callS W1 (tw hw 105 rfl) (tw hw 106 rfl) (tw hw 53 rfl) (tw hw 107 rfl) (by decide) (argsL := [(.ref o1), (.int (0 : Int32)), (.int ch0)]) (rest := []) (Own.Con.pay (con_put2_0 hw hEL TA TH TL rfl ch0 W1.old (Nat.le_trans W0.n0 g1) A1) W1 (tw hw 107 rfl) (tw hw 53 rfl) (len := 3) (wd := 0) (by decide) (by decide) (fun y hy => by cases List.mem_singleton.mp hy; exact ⟨A1.lt, Own.Safe.len W1.wz hEN4 A1 (by decide)⟩)) rfl (lenOf pd_2 rfl) rfl (Nat.le_of_ble_eq_true rfl) d22_20 23 rfl 1 4 (Nat.le_of_ble_eq_true rfl) (Nat.le_of_ble_eq_true rfl) (Nat.le_of_ble_eq_true rfl) (Nat.le_of_ble_eq_true rfl) ?_
  intro v3 T3 h3 u3 W3 R3 hq
  obtain ⟨rfl, K3, A3⟩ := hq
  show Own.Go _ _ _ _ _ 23 #[.val (.ref a), .val (.int (0 : Int32)), .val (.int (2 : Int32)), .val (.ref o1), .val (.int (0 : Int32))] []
  refine Own.iinc W3 d22_23 26 rfl rfl #[.val (.ref a), .val (.int (1 : Int32)), .val (.int (2 : Int32)), .val (.ref o1), .val (.int (0 : Int32))] rfl ?_
  refine Own.iinc W3 d22_26 29 rfl rfl #[.val (.ref a), .val (.int (1 : Int32)), .val (.int (2 : Int32)), .val (.ref o1), .val (.int (1 : Int32))] rfl ?_
  refine Own.goto W3 d22_29 8 (by decide) (by decide) ?_
  refine Own.iload W3 d22_8 10 rfl (1 : Int32) rfl ?_
  refine Own.iloadN W3 d22_10 11 rfl (2 : Int32) rfl ?_
  refine Own.icmpNo W3 d22_11 14 (by decide) rfl ?_
  refine Own.aloadN W3 d22_14 15 rfl (.ref o1) rfl rfl ?_
  refine Own.iload W3 d22_15 17 rfl (1 : Int32) rfl ?_
  refine Own.aloadN W3 d22_17 18 rfl (.ref a) rfl rfl ?_
  refine Own.iloadN W3 d22_18 19 rfl (1 : Int32) rfl ?_
  have X4 : Ext h h3 := Own.Ext.kp X2 K3 (allS g1 all0)
  refine Own.caload W3 (Ac.ext X4) (by decide) (.int ch1) rfl d22_19 20 rfl ?_
  refine Own.callS W3 (tw hw 105 rfl) (tw hw 106 rfl) (tw hw 53 rfl) (tw hw 107 rfl) (by decide) (argsL := [(.ref o1), (.int (1 : Int32)), (.int ch1)]) (rest := []) (Own.Con.pay (con_put2_1 hw hEL TA TH TL rfl ch1 W3.old (Nat.le_trans W0.n0 g1) A3) W3 (tw hw 107 rfl) (tw hw 53 rfl) (len := 3) (wd := 0) (by decide) (by decide) (fun y hy => by cases List.mem_singleton.mp hy; exact ⟨A3.lt, Own.Safe.len W3.wz hEN4 A3 (by decide)⟩)) rfl (lenOf pd_2 rfl) rfl (Nat.le_of_ble_eq_true rfl) d22_20 23 rfl 1 4 (Nat.le_of_ble_eq_true rfl) (Nat.le_of_ble_eq_true rfl) (Nat.le_of_ble_eq_true rfl) (Nat.le_of_ble_eq_true rfl) ?_
  intro v5 T5 h5 u5 W5 R5 hq
  obtain ⟨rfl, K5, A5⟩ := hq
  show Own.Go _ _ _ _ _ 23 #[.val (.ref a), .val (.int (1 : Int32)), .val (.int (2 : Int32)), .val (.ref o1), .val (.int (1 : Int32))] []
  refine Own.iinc W5 d22_23 26 rfl rfl #[.val (.ref a), .val (.int (2 : Int32)), .val (.int (2 : Int32)), .val (.ref o1), .val (.int (1 : Int32))] rfl ?_
  refine Own.iinc W5 d22_26 29 rfl rfl #[.val (.ref a), .val (.int (2 : Int32)), .val (.int (2 : Int32)), .val (.ref o1), .val (.int (2 : Int32))] rfl ?_
  refine Own.goto W5 d22_29 8 (by decide) (by decide) ?_
  refine Own.iload W5 d22_8 10 rfl (2 : Int32) rfl ?_
  refine Own.iloadN W5 d22_10 11 rfl (2 : Int32) rfl ?_
  refine Own.icmpYes W5 d22_11 32 (by decide) (by decide) (by decide) ?_
  refine Own.aloadN W5 d22_32 33 rfl (.ref o1) rfl rfl ?_
  have X6 : Ext h h5 := Own.Ext.kp X4 K5 (allS g1 all0)
  exact Own.retA W5 (by decide) (by decide) rfl rfl rfl d22_33 ⟨o1, _, rfl, X6, g1, A5⟩
set_option maxRecDepth 65536 in
set_option maxHeartbeats 40000000 in
theorem con_gc2_0 {G : Own.Gl} (hw : ∀ d ∈ tables_1, d.before G.a0 G.Z = true) (hEL : EW G.Z G.a0 G.EL) (TA : Sta G.Z G.Z.heap "java/lang/StringUTF16" "$assertionsDisabled" "Z" (.int 1)) (TH : Sta G.Z G.Z.heap "java/lang/StringUTF16" "HI_BYTE_SHIFT" "I" (.int 0)) (TL : Sta G.Z G.Z.heap "java/lang/StringUTF16" "LO_BYTE_SHIFT" "I" (.int 8)) {ch0 ch1 : Int32} (r0 : Own.R16 ch0) {b : Addr} {kb : ClassId} {ii : Int32} (hii : ii = 0) {h : Heap} (hO : Old G.Z G.n0 h) (A : Arv G.Z h b kb .byte 4 [(.int (StrChars.lo8 ch0)), (.int (StrChars.hi8 ch0)), (.int (StrChars.lo8 ch1)), (.int (StrChars.hi8 ch1))] (.int 0)) :
    Own.Con G [] bGc2_0 #[.ref b, .int ii] h [] (fun v h' => v = some (.int ch0) ∧ h' = h) := by
  refine Own.Con.intro (plainFor_of_name pn_0) hO hEL _ (fun m => ef_bGc2_0 m b ii) ?_
  intro X T0 W0 sf
  subst hii
  refine Own.getS W0 (tw hw 108 rfl) Via.refl (W0.sta TA) d26_0 3 rfl ?_
  intro T1 W1
  refine Own.ifYes W1 d26_3 28 (by decide) (by decide) (by decide) ?_
  refine Own.iloadN W1 d26_28 29 rfl (0 : Int32) rfl ?_
  refine Own.iconst W1 d26_29 30 rfl (1 : Int32) rfl ?_
  refine Own.ishl W1 d26_30 31 rfl ?_
  rw [show ((0 : Int32) <<< ((1 : Int32) &&& 31)) = (0 : Int32) by decide]
  refine Own.istoreN W1 d26_31 32 rfl #[.val (.ref b), .val (.int (0 : Int32))] rfl ?_
  refine Own.aloadN W1 d26_32 33 rfl (.ref b) rfl rfl ?_
  refine Own.iloadN W1 d26_33 34 rfl (0 : Int32) rfl ?_
  refine Own.iinc W1 d26_34 37 rfl rfl #[.val (.ref b), .val (.int (1 : Int32))] rfl ?_
  refine Own.baload W1 A (by decide) (.int (StrChars.lo8 ch0)) rfl d26_37 38 rfl ?_
  refine Own.sipush W1 d26_38 41 rfl (255 : Int32) rfl ?_
  refine Own.iand W1 d26_41 42 rfl ?_
  refine Own.getS W1 (tw hw 109 rfl) Via.refl (W1.sta TH) d26_42 45 rfl ?_
  intro T2 W2
  refine Own.ishl W2 d26_45 46 rfl ?_
  refine Own.aloadN W2 d26_46 47 rfl (.ref b) rfl rfl ?_
  refine Own.iloadN W2 d26_47 48 rfl (1 : Int32) rfl ?_
  refine Own.baload W2 A (by decide) (.int (StrChars.hi8 ch0)) rfl d26_48 49 rfl ?_
  refine Own.sipush W2 d26_49 52 rfl (255 : Int32) rfl ?_
  refine Own.iand W2 d26_52 53 rfl ?_
  refine Own.getS W2 (tw hw 110 rfl) Via.refl (W2.sta TL) d26_53 56 rfl ?_
  intro T3 W3
  refine Own.ishl W3 d26_56 57 rfl ?_
  refine Own.ior W3 d26_57 58 rfl ?_
  refine Own.i2c W3 d26_58 59 rfl ?_
  show Own.Go _ _ _ _ _ 59 #[.val (.ref b), .val (.int (1 : Int32))] [.int (StrChars.pairCh (StrChars.lo8 ch0) (StrChars.hi8 ch0))]
  rw [StrChars.pair_says r0.1 r0.2]
  exact Own.retC W3 (by decide) (by decide) rfl d26_59 (Own.narC r0) ⟨rfl, rfl⟩
set_option maxRecDepth 65536 in
set_option maxHeartbeats 40000000 in
theorem con_gc2_1 {G : Own.Gl} (hw : ∀ d ∈ tables_1, d.before G.a0 G.Z = true) (hEL : EW G.Z G.a0 G.EL) (TA : Sta G.Z G.Z.heap "java/lang/StringUTF16" "$assertionsDisabled" "Z" (.int 1)) (TH : Sta G.Z G.Z.heap "java/lang/StringUTF16" "HI_BYTE_SHIFT" "I" (.int 0)) (TL : Sta G.Z G.Z.heap "java/lang/StringUTF16" "LO_BYTE_SHIFT" "I" (.int 8)) {ch0 ch1 : Int32} (r1 : Own.R16 ch1) {b : Addr} {kb : ClassId} {ii : Int32} (hii : ii = 1) {h : Heap} (hO : Old G.Z G.n0 h) (A : Arv G.Z h b kb .byte 4 [(.int (StrChars.lo8 ch0)), (.int (StrChars.hi8 ch0)), (.int (StrChars.lo8 ch1)), (.int (StrChars.hi8 ch1))] (.int 0)) :
    Own.Con G [] bGc2_1 #[.ref b, .int ii] h [] (fun v h' => v = some (.int ch1) ∧ h' = h) := by
  refine Own.Con.intro (plainFor_of_name pn_0) hO hEL _ (fun m => ef_bGc2_1 m b ii) ?_
  intro X T0 W0 sf
  subst hii
  refine Own.getS W0 (tw hw 108 rfl) Via.refl (W0.sta TA) d26_0 3 rfl ?_
  intro T1 W1
  refine Own.ifYes W1 d26_3 28 (by decide) (by decide) (by decide) ?_
  refine Own.iloadN W1 d26_28 29 rfl (1 : Int32) rfl ?_
  refine Own.iconst W1 d26_29 30 rfl (1 : Int32) rfl ?_
  refine Own.ishl W1 d26_30 31 rfl ?_
  rw [show ((1 : Int32) <<< ((1 : Int32) &&& 31)) = (2 : Int32) by decide]
  refine Own.istoreN W1 d26_31 32 rfl #[.val (.ref b), .val (.int (2 : Int32))] rfl ?_
  refine Own.aloadN W1 d26_32 33 rfl (.ref b) rfl rfl ?_
  refine Own.iloadN W1 d26_33 34 rfl (2 : Int32) rfl ?_
  refine Own.iinc W1 d26_34 37 rfl rfl #[.val (.ref b), .val (.int (3 : Int32))] rfl ?_
  refine Own.baload W1 A (by decide) (.int (StrChars.lo8 ch1)) rfl d26_37 38 rfl ?_
  refine Own.sipush W1 d26_38 41 rfl (255 : Int32) rfl ?_
  refine Own.iand W1 d26_41 42 rfl ?_
  refine Own.getS W1 (tw hw 109 rfl) Via.refl (W1.sta TH) d26_42 45 rfl ?_
  intro T2 W2
  refine Own.ishl W2 d26_45 46 rfl ?_
  refine Own.aloadN W2 d26_46 47 rfl (.ref b) rfl rfl ?_
  refine Own.iloadN W2 d26_47 48 rfl (3 : Int32) rfl ?_
  refine Own.baload W2 A (by decide) (.int (StrChars.hi8 ch1)) rfl d26_48 49 rfl ?_
  refine Own.sipush W2 d26_49 52 rfl (255 : Int32) rfl ?_
  refine Own.iand W2 d26_52 53 rfl ?_
  refine Own.getS W2 (tw hw 110 rfl) Via.refl (W2.sta TL) d26_53 56 rfl ?_
  intro T3 W3
  refine Own.ishl W3 d26_56 57 rfl ?_
  refine Own.ior W3 d26_57 58 rfl ?_
  refine Own.i2c W3 d26_58 59 rfl ?_
  show Own.Go _ _ _ _ _ 59 #[.val (.ref b), .val (.int (3 : Int32))] [.int (StrChars.pairCh (StrChars.lo8 ch1) (StrChars.hi8 ch1))]
  rw [StrChars.pair_says r1.1 r1.2]
  exact Own.retC W3 (by decide) (by decide) rfl d26_59 (Own.narC r1) ⟨rfl, rfl⟩
set_option maxRecDepth 65536 in
set_option maxHeartbeats 40000000 in
theorem con_c52 {G : Own.Gl} (hw : ∀ d ∈ tables_1, d.before G.a0 G.Z = true) (hEL : EW G.Z G.a0 G.EL) {ch0 ch1 : Int32} (hw255 : (255 : Int32) < ch0 ∨ (255 : Int32) < ch1) {o1 o2 ln : Int32} (ho1 : o1 = 0) (ho2 : o2 = 0) (hln : ln = 2) {d : Addr} {kd : ClassId} {h : Heap} (hO : Old G.Z G.n0 h) (hn_d : G.n0 ≤ d) {a : Addr} {kC : ClassId} {dv : Value} (Ac : Arv G.Z h a kC .char 2 [.int ch0, .int ch1] dv) (had : a ≠ d) (Ad : Arv G.Z h d kd .byte 2 [.int 0, .int 0] (.int 0)) :
    Own.Con G [] bC52 #[.ref a, .int o1, .ref d, .int o2, .int ln] h [d] (fun v h' => ((v = some (.int 0) ∧ (255 : Int32) < ch0) ∨ (v = some (.int 1) ∧ (255 : Int32) < ch1)) ∧ Keep h h' [d]) := by
  refine Own.Con.intro (plainFor_of_name pn_0) hO hEL _ (fun m => ef_bC52 m a o1 d o2 ln) ?_
  intro X T0 W0 sf
  subst ho1; subst ho2; subst hln
  have sd := sf d (List.mem_singleton.mpr rfl)
  refine Own.iconst W0 d12_0 1 rfl (0 : Int32) rfl ?_
  refine Own.istore W0 d12_1 3 rfl #[.val (.ref a), .val (.int (0 : Int32)), .val (.ref d), .val (.int (0 : Int32)), .val (.int (2 : Int32)), .val (.int (0 : Int32)), .unset] rfl ?_
  refine Own.iload W0 d12_3 5 rfl (0 : Int32) rfl ?_
  refine Own.iload W0 d12_5 7 rfl (2 : Int32) rfl ?_
  refine Own.icmpNo W0 d12_7 10 (by decide) rfl ?_
  refine Own.aloadN W0 d12_10 11 rfl (.ref a) rfl rfl ?_
  refine Own.iloadN W0 d12_11 12 rfl (0 : Int32) rfl ?_
  refine Own.caload W0 Ac (by decide) (.int ch0) rfl d12_12 13 rfl ?_
  refine Own.istore W0 d12_13 15 rfl #[.val (.ref a), .val (.int (0 : Int32)), .val (.ref d), .val (.int (0 : Int32)), .val (.int (2 : Int32)), .val (.int (0 : Int32)), .val (.int ch0)] rfl ?_
  refine Own.iload W0 d12_15 17 rfl ch0 rfl ?_
  refine Own.sipush W0 d12_17 20 rfl (255 : Int32) rfl ?_
  by_cases e0 : (255 : Int32) < ch0
  · skip
    refine Own.icmpNo W0 d12_20 23 (XT.ii_le_f e0) rfl ?_
    refine Own.iload W0 d12_23 25 rfl (0 : Int32) rfl ?_
    exact Own.retI W0 (by decide) (by decide) rfl d12_25 ⟨Or.inl ⟨rfl, e0⟩, (Keep.refl h [d])⟩
  · skip
    refine Own.icmpYes W0 d12_20 26 (XT.ii_le_t e0) (by decide) (by decide) ?_
    refine Own.aloadN W0 d12_26 27 rfl (.ref d) rfl rfl ?_
    refine Own.iloadN W0 d12_27 28 rfl (0 : Int32) rfl ?_
    refine Own.iload W0 d12_28 30 rfl ch0 rfl ?_
    refine Own.i2b W0 d12_30 31 rfl ?_
    refine Own.bastore W0 Ad 0 (by decide) (by decide) (Nat.le_of_ble_eq_true rfl) hn_d sd (x' := (ch0.toInt8.toInt32)) (Own.nar_b8 _) d12_31 32 rfl ?_
    intro T1 h1 W1 Q1 A1 k1
    have V1 : Arv G.Z h1 d kd .byte (2 : Int32) [(.int (ch0.toInt8.toInt32)), (.int 0)] (.int 0) := A1
    refine Own.iinc W1 d12_32 35 rfl rfl #[.val (.ref a), .val (.int (1 : Int32)), .val (.ref d), .val (.int (0 : Int32)), .val (.int (2 : Int32)), .val (.int (0 : Int32)), .val (.int ch0)] rfl ?_
    refine Own.iinc W1 d12_35 38 rfl rfl #[.val (.ref a), .val (.int (1 : Int32)), .val (.ref d), .val (.int (1 : Int32)), .val (.int (2 : Int32)), .val (.int (0 : Int32)), .val (.int ch0)] rfl ?_
    refine Own.iinc W1 d12_38 41 rfl rfl #[.val (.ref a), .val (.int (1 : Int32)), .val (.ref d), .val (.int (1 : Int32)), .val (.int (2 : Int32)), .val (.int (1 : Int32)), .val (.int ch0)] rfl ?_
    refine Own.goto W1 d12_41 3 (by decide) (by decide) ?_
    refine Own.iload W1 d12_3 5 rfl (1 : Int32) rfl ?_
    refine Own.iload W1 d12_5 7 rfl (2 : Int32) rfl ?_
    refine Own.icmpNo W1 d12_7 10 (by decide) rfl ?_
    refine Own.aloadN W1 d12_10 11 rfl (.ref a) rfl rfl ?_
    refine Own.iloadN W1 d12_11 12 rfl (1 : Int32) rfl ?_
    refine Own.caload W1 (Ac.other Q1 had) (by decide) (.int ch1) rfl d12_12 13 rfl ?_
    refine Own.istore W1 d12_13 15 rfl #[.val (.ref a), .val (.int (1 : Int32)), .val (.ref d), .val (.int (1 : Int32)), .val (.int (2 : Int32)), .val (.int (1 : Int32)), .val (.int ch1)] rfl ?_
    refine Own.iload W1 d12_15 17 rfl ch1 rfl ?_
    refine Own.sipush W1 d12_17 20 rfl (255 : Int32) rfl ?_
    by_cases e1 : (255 : Int32) < ch1
    · skip
      refine Own.icmpNo W1 d12_20 23 (XT.ii_le_f e1) rfl ?_
      refine Own.iload W1 d12_23 25 rfl (1 : Int32) rfl ?_
      exact Own.retI W1 (by decide) (by decide) rfl d12_25 ⟨Or.inr (⟨rfl, e1⟩), (Keep.wr (Keep.refl h [d]) Q1 (Or.inl (List.mem_singleton.mpr rfl)))⟩
    · skip
      refine Own.icmpYes W1 d12_20 26 (XT.ii_le_t e1) (by decide) (by decide) ?_
      refine Own.aloadN W1 d12_26 27 rfl (.ref d) rfl rfl ?_
      refine Own.iloadN W1 d12_27 28 rfl (1 : Int32) rfl ?_
      refine Own.iload W1 d12_28 30 rfl ch1 rfl ?_
      refine Own.i2b W1 d12_30 31 rfl ?_
      refine Own.bastore W1 V1 1 (by decide) (by decide) (Nat.le_of_ble_eq_true rfl) hn_d (k1 d sd) (x' := (ch1.toInt8.toInt32)) (Own.nar_b8 _) d12_31 32 rfl ?_
      intro T2 h2 W2 Q2 A2 k2
      have V2 : Arv G.Z h2 d kd .byte (2 : Int32) [(.int (ch0.toInt8.toInt32)), (.int (ch1.toInt8.toInt32))] (.int 0) := A2
      exact absurd hw255 (by simp only [not_or]; exact ⟨e0, e1⟩)
set_option maxRecDepth 65536 in
set_option maxHeartbeats 40000000 in
theorem con_c32 {G : Own.Gl} (hw : ∀ d ∈ tables_1, d.before G.a0 G.Z = true) (hEL : EW G.Z G.a0 G.EL) (TA : Sta G.Z G.Z.heap "java/lang/StringUTF16" "$assertionsDisabled" "Z" (.int 1)) (TH : Sta G.Z G.Z.heap "java/lang/StringUTF16" "HI_BYTE_SHIFT" "I" (.int 0)) (TL : Sta G.Z G.Z.heap "java/lang/StringUTF16" "LO_BYTE_SHIFT" "I" (.int 8)) (hEN4 : Own.EN G.Z G.a0 G.EL 4) {ch0 ch1 : Int32} (hw255 : (255 : Int32) < ch0 ∨ (255 : Int32) < ch1) (r0 : Own.R16 ch0) (r1 : Own.R16 ch1) {of ln : Int32} (hof : of = 0) (hln : ln = 2) {h : Heap} (hO : Old G.Z G.n0 h) {a : Addr} {kC : ClassId} {dv : Value} (Ac : Arv G.Z h a kC .char 2 [.int ch0, .int ch1] dv) :
    Own.Con G [] bC32 #[.ref a, .int of, .int ln] h [] (fun v h' => ∃ (o : Addr) (ko : ClassId), v = some (.ref o) ∧ Ext h h' ∧ h.size ≤ o ∧ Arv G.Z h' o ko .byte 4 [(.int (StrChars.lo8 ch0)), (.int (StrChars.hi8 ch0)), (.int (StrChars.lo8 ch1)), (.int (StrChars.hi8 ch1))] (.int 0)) := by
  refine Own.Con.intro (plainFor_of_name pn_0) hO hEL _ (fun m => ef_bC32 m a of ln) ?_
  intro X T0 W0 sf
  subst hof; subst hln
  refine Own.iloadN W0 d11_0 1 rfl (2 : Int32) rfl ?_
  refine Own.newA W0 (tw hw 19 rfl) d11_1 3 rfl (by decide) 2 (by decide) (by decide) 1 2 (by decide) (by decide) (by decide) (by decide) ?_
  intro T1 h1 o1 c1 g1 W1 E1 A1 s1 k1
  have V1 : Arv G.Z h1 o1 c1 .byte (2 : Int32) [(.int (0 : Int32)), (.int (0 : Int32))] (.int (0 : Int32)) := A1
  refine Own.astoreN W1 d11_3 4 rfl rfl #[.val (.ref a), .val (.int (0 : Int32)), .val (.int (2 : Int32)), .val (.ref o1), .unset, .unset] rfl ?_
  refine Own.aloadN W1 d11_4 5 rfl (.ref a) rfl rfl ?_
  refine Own.iloadN W1 d11_5 6 rfl (0 : Int32) rfl ?_
  refine Own.aloadN W1 d11_6 7 rfl (.ref o1) rfl rfl ?_
  refine Own.iconst W1 d11_7 8 rfl (0 : Int32) rfl ?_
  refine Own.iloadN W1 d11_8 9 rfl (2 : Int32) rfl ?_
  have X2 : Ext h h1 := E1
  refine Own.callS W1 (tw hw 55 rfl) (tw hw 56 rfl) (tw hw 53 rfl) (tw hw 57 rfl) (by decide) (argsL := [(.ref a), (.int (0 : Int32)), (.ref o1), (.int (0 : Int32)), (.int (2 : Int32))]) (rest := []) (Own.Con.pay (con_c52 hw hEL hw255 rfl rfl rfl W1.old (Nat.le_trans W0.n0 (Nat.le_of_eq g1.symm)) (Ac.ext X2) (Nat.ne_of_lt (Nat.lt_of_lt_of_le Ac.lt (Nat.le_of_eq g1.symm))) V1) W1 (tw hw 57 rfl) (tw hw 53 rfl) (len := 3) (wd := 0) (by decide) (by decide) (fun y hy => by cases List.mem_singleton.mp hy; exact ⟨V1.lt, s1⟩)) rfl (lenOf pd_3 rfl) rfl (Nat.le_of_ble_eq_true rfl) d11_9 12 rfl 1 2 (Nat.le_of_ble_eq_true rfl) (Nat.le_of_ble_eq_true rfl) (Nat.le_of_ble_eq_true rfl) (Nat.le_of_ble_eq_true rfl) ?_
  intro v3 T3 h3 u3 W3 R3 hq
  obtain ⟨hv3, K3⟩ := hq
  rcases hv3 with ⟨rfl, e0⟩ | ⟨rfl, e1⟩
  · skip
    show Own.Go _ _ _ _ _ 12 #[.val (.ref a), .val (.int (0 : Int32)), .val (.int (2 : Int32)), .val (.ref o1), .unset, .unset] [(.int (0 : Int32))]
    refine Own.istore W3 d11_12 14 rfl #[.val (.ref a), .val (.int (0 : Int32)), .val (.int (2 : Int32)), .val (.ref o1), .val (.int (0 : Int32)), .unset] rfl ?_
    refine Own.iload W3 d11_14 16 rfl (0 : Int32) rfl ?_
    refine Own.iloadN W3 d11_16 17 rfl (2 : Int32) rfl ?_
    refine Own.icmpNo W3 d11_17 20 (by decide) rfl ?_
    refine Own.aloadN W3 d11_20 21 rfl (.ref a) rfl rfl ?_
    refine Own.iloadN W3 d11_21 22 rfl (0 : Int32) rfl ?_
    refine Own.iloadN W3 d11_22 23 rfl (2 : Int32) rfl ?_
    have X4 : Ext h h3 := Own.Ext.kp X2 K3 (allS (Nat.le_of_eq g1.symm) all0)
    refine Own.callS W3 (tw hw 95 rfl) (tw hw 96 rfl) (tw hw 53 rfl) (tw hw 97 rfl) (by decide) (argsL := [(.ref a), (.int (0 : Int32)), (.int (2 : Int32))]) (rest := []) (Own.Con.pay (con_tob2 hw hEL TA TH TL hEN4 rfl rfl W3.old (Ac.ext X4)) W3 (tw hw 97 rfl) (tw hw 53 rfl) (len := 3) (wd := 0) (by decide) (by decide) (fun _ q => nomatch q)) rfl (lenOf pd_4 rfl) rfl (Nat.le_of_ble_eq_true rfl) d11_23 26 rfl 2 6 (Nat.le_of_ble_eq_true rfl) (Nat.le_of_ble_eq_true rfl) (Nat.le_of_ble_eq_true rfl) (Nat.le_of_ble_eq_true rfl) ?_
    intro v5 T5 h5 u5 W5 R5 hq
    obtain ⟨o5, k5, rfl, E5, g5, A5⟩ := hq
    show Own.Go _ _ _ _ _ 26 #[.val (.ref a), .val (.int (0 : Int32)), .val (.int (2 : Int32)), .val (.ref o1), .val (.int (0 : Int32)), .unset] [(.ref o5)]
    refine Own.astore W5 d11_26 28 rfl rfl #[.val (.ref a), .val (.int (0 : Int32)), .val (.int (2 : Int32)), .val (.ref o1), .val (.int (0 : Int32)), .val (.ref o5)] rfl ?_
    refine Own.aload W5 d11_28 30 rfl (.ref o5) rfl rfl ?_
    refine Own.iload W5 d11_30 32 rfl (0 : Int32) rfl ?_
    refine Own.callS W5 (tw hw 111 rfl) (tw hw 112 rfl) (tw hw 53 rfl) (tw hw 113 rfl) (by decide) (argsL := [(.ref o5), (.int (0 : Int32))]) (rest := []) (Own.Con.pay (con_gc2_0 hw hEL TA TH TL r0 rfl W5.old A5) W5 (tw hw 113 rfl) (tw hw 53 rfl) (len := 3) (wd := 0) (by decide) (by decide) (fun _ q => nomatch q)) rfl (lenOf pd_5 rfl) rfl (Nat.le_of_ble_eq_true rfl) d11_32 35 rfl 2 6 (Nat.le_of_ble_eq_true rfl) (Nat.le_of_ble_eq_true rfl) (Nat.le_of_ble_eq_true rfl) (Nat.le_of_ble_eq_true rfl) ?_
    intro v6 T6 h6 u6 W6 R6 hq
    obtain ⟨rfl, eh6⟩ := hq
    have ei6 := eh6.symm; subst ei6
    show Own.Go _ _ _ _ _ 35 #[.val (.ref a), .val (.int (0 : Int32)), .val (.int (2 : Int32)), .val (.ref o1), .val (.int (0 : Int32)), .val (.ref o5)] [(.int ch0)]
    refine Own.sipush W6 d11_35 38 rfl (255 : Int32) rfl ?_
    refine Own.icmpYes W6 d11_38 54 (XT.ii_gt_t e0) (by decide) (by decide) ?_
    refine Own.aload W6 d11_54 56 rfl (.ref o5) rfl rfl ?_
    have X7 : Ext h h5 := Own.Ext.tr X4 E5
    exact Own.retA W6 (by decide) (by decide) rfl rfl rfl d11_56 ⟨o5, _, rfl, X7, (Nat.le_trans X4.1 g5), A5⟩
  · skip
    show Own.Go _ _ _ _ _ 12 #[.val (.ref a), .val (.int (0 : Int32)), .val (.int (2 : Int32)), .val (.ref o1), .unset, .unset] [(.int (1 : Int32))]
    refine Own.istore W3 d11_12 14 rfl #[.val (.ref a), .val (.int (0 : Int32)), .val (.int (2 : Int32)), .val (.ref o1), .val (.int (1 : Int32)), .unset] rfl ?_
    refine Own.iload W3 d11_14 16 rfl (1 : Int32) rfl ?_
    refine Own.iloadN W3 d11_16 17 rfl (2 : Int32) rfl ?_
    refine Own.icmpNo W3 d11_17 20 (by decide) rfl ?_
    refine Own.aloadN W3 d11_20 21 rfl (.ref a) rfl rfl ?_
    refine Own.iloadN W3 d11_21 22 rfl (0 : Int32) rfl ?_
    refine Own.iloadN W3 d11_22 23 rfl (2 : Int32) rfl ?_
    have X8 : Ext h h3 := Own.Ext.kp X2 K3 (allS (Nat.le_of_eq g1.symm) all0)
    refine Own.callS W3 (tw hw 95 rfl) (tw hw 96 rfl) (tw hw 53 rfl) (tw hw 97 rfl) (by decide) (argsL := [(.ref a), (.int (0 : Int32)), (.int (2 : Int32))]) (rest := []) (Own.Con.pay (con_tob2 hw hEL TA TH TL hEN4 rfl rfl W3.old (Ac.ext X8)) W3 (tw hw 97 rfl) (tw hw 53 rfl) (len := 3) (wd := 0) (by decide) (by decide) (fun _ q => nomatch q)) rfl (lenOf pd_4 rfl) rfl (Nat.le_of_ble_eq_true rfl) d11_23 26 rfl 2 6 (Nat.le_of_ble_eq_true rfl) (Nat.le_of_ble_eq_true rfl) (Nat.le_of_ble_eq_true rfl) (Nat.le_of_ble_eq_true rfl) ?_
    intro v9 T9 h9 u9 W9 R9 hq
    obtain ⟨o9, k9, rfl, E9, g9, A9⟩ := hq
    show Own.Go _ _ _ _ _ 26 #[.val (.ref a), .val (.int (0 : Int32)), .val (.int (2 : Int32)), .val (.ref o1), .val (.int (1 : Int32)), .unset] [(.ref o9)]
    refine Own.astore W9 d11_26 28 rfl rfl #[.val (.ref a), .val (.int (0 : Int32)), .val (.int (2 : Int32)), .val (.ref o1), .val (.int (1 : Int32)), .val (.ref o9)] rfl ?_
    refine Own.aload W9 d11_28 30 rfl (.ref o9) rfl rfl ?_
    refine Own.iload W9 d11_30 32 rfl (1 : Int32) rfl ?_
    refine Own.callS W9 (tw hw 111 rfl) (tw hw 112 rfl) (tw hw 53 rfl) (tw hw 113 rfl) (by decide) (argsL := [(.ref o9), (.int (1 : Int32))]) (rest := []) (Own.Con.pay (con_gc2_1 hw hEL TA TH TL r1 rfl W9.old A9) W9 (tw hw 113 rfl) (tw hw 53 rfl) (len := 3) (wd := 0) (by decide) (by decide) (fun _ q => nomatch q)) rfl (lenOf pd_5 rfl) rfl (Nat.le_of_ble_eq_true rfl) d11_32 35 rfl 2 6 (Nat.le_of_ble_eq_true rfl) (Nat.le_of_ble_eq_true rfl) (Nat.le_of_ble_eq_true rfl) (Nat.le_of_ble_eq_true rfl) ?_
    intro v10 T10 h10 u10 W10 R10 hq
    obtain ⟨rfl, eh10⟩ := hq
    have ei10 := eh10.symm; subst ei10
    show Own.Go _ _ _ _ _ 35 #[.val (.ref a), .val (.int (0 : Int32)), .val (.int (2 : Int32)), .val (.ref o1), .val (.int (1 : Int32)), .val (.ref o9)] [(.int ch1)]
    refine Own.sipush W10 d11_35 38 rfl (255 : Int32) rfl ?_
    refine Own.icmpYes W10 d11_38 54 (XT.ii_gt_t e1) (by decide) (by decide) ?_
    refine Own.aload W10 d11_54 56 rfl (.ref o9) rfl rfl ?_
    have X11 : Ext h h9 := Own.Ext.tr X8 E9
    exact Own.retA W10 (by decide) (by decide) rfl rfl rfl d11_56 ⟨o9, _, rfl, X11, (Nat.le_trans X8.1 g9), A9⟩
set_option maxRecDepth 65536 in
set_option maxHeartbeats 40000000 in
theorem con_cfl2 {G : Own.Gl} (hw : ∀ d ∈ tables_1, d.before G.a0 G.Z = true) (hEL : EW G.Z G.a0 G.EL) {b : Addr} {kb : ClassId} {vs : List Value} {dv : Value} {ln : Int32} (hln : ln = 2) {h : Heap} (hO : Old G.Z G.n0 h) (A : Arv G.Z h b kb .byte 4 vs dv) :
    Own.Con G [] bCfl2 #[.ref b, .int ln] h [] (fun v h' => v = some (.int 1) ∧ h' = h) := by
  refine Own.Con.intro (plainFor_of_name pn_0) hO hEL _ (fun m => ef_bCfl2 m b ln) ?_
  intro X T0 W0 sf
  subst hln
  refine Own.iloadN W0 d13_0 1 rfl (2 : Int32) rfl ?_
  refine Own.aloadN W0 d13_1 2 rfl (.ref b) rfl rfl ?_
  refine Own.arrlen W0 A d13_2 3 rfl ?_
  refine Own.isub W0 d13_3 4 rfl ?_
  refine Own.bipush W0 d13_4 6 rfl (31 : Int32) rfl ?_
  refine Own.iushr W0 d13_6 7 rfl ?_
  refine Own.i2b W0 d13_7 8 rfl ?_
  rw [show (((2 : Int32) - (4 : Int32)).toUInt32 >>> ((31 : Int32) &&& 31).toUInt32).toInt32.toInt8.toInt32 = (1 : Int32) by decide]
  exact Own.retY W0 (by decide) (by decide) rfl d13_8 rfl ⟨rfl, rfl⟩
set_option maxRecDepth 65536 in
set_option maxHeartbeats 40000000 in
theorem con_w42 {G : Own.Gl} (hw : ∀ d ∈ tables_1, d.before G.a0 G.Z = true) (hEL : EW G.Z G.a0 G.EL) (hmem : (Own.ST, 7) ∈ G.EL) {cz : Int32} (hS : Sta G.Z G.Z.heap Own.ST "COMPACT_STRINGS" "Z" (.int cz)) (hcz : ¬ cz = 0) (TA : Sta G.Z G.Z.heap "java/lang/StringUTF16" "$assertionsDisabled" "Z" (.int 1)) (TH : Sta G.Z G.Z.heap "java/lang/StringUTF16" "HI_BYTE_SHIFT" "I" (.int 0)) (TL : Sta G.Z G.Z.heap "java/lang/StringUTF16" "LO_BYTE_SHIFT" "I" (.int 8)) (hEN4 : Own.EN G.Z G.a0 G.EL 4) {ch0 ch1 : Int32} (hw255 : (255 : Int32) < ch0 ∨ (255 : Int32) < ch1) (r0 : Own.R16 ch0) (r1 : Own.R16 ch1) {of ln : Int32} (hof : of = 0) (hln : ln = 2) {x : Addr} {h : Heap} (hO : Old G.Z G.n0 h) (hn_x : G.n0 ≤ x) (E : Exa G.Z h x "java/lang/String") {v0 c0_ : Value} (V : Fld G.Z h x "java/lang/String" "value" "[B" v0) (Cd : Fld G.Z h x "java/lang/String" "coder" "B" c0_) {a : Addr} {kC : ClassId} {dv : Value} (Ac : Arv G.Z h a kC .char 2 [.int ch0, .int ch1] dv) :
    Own.Con G [] bW42 #[.ref x, .ref a, .int of, .int ln, .null] h [x] (fun v h' => v = none ∧ Keep h h' [x] ∧ Own.WStr G.Z h' x [ch0, ch1]) := by
  refine Own.Con.intro (plainFor_of_name pn_1) hO hEL _ (fun m => ef_bW42 m x a of ln) ?_
  intro X T0 W0 sf
  subst hof; subst hln
  have sx := sf x (List.mem_singleton.mpr rfl)
  refine Own.aloadN W0 d3_0 1 rfl (.ref x) rfl rfl ?_
  refine Own.initO W0 (tw hw 15 rfl) (tw hw 16 rfl) (tw hw 17 rfl) rfl d3_1 4 rfl (by decide) (by decide) ?_
  intro T1 W1
  refine Own.iloadN W1 d3_4 5 rfl (2 : Int32) rfl ?_
  refine Own.ifYes W1 d3_5 27 (by decide) (by decide) (by decide) ?_
  refine Own.getS W1 (tw hw 46 rfl) Via.refl (W1.sta hS) d3_27 30 rfl ?_
  intro T2 W2
  refine Own.ifNo W2 d3_30 33 (XT.i0_eq_f hcz) rfl ?_
  refine Own.aloadN W2 d3_33 34 rfl (.ref a) rfl rfl ?_
  refine Own.iloadN W2 d3_34 35 rfl (0 : Int32) rfl ?_
  refine Own.iloadN W2 d3_35 36 rfl (2 : Int32) rfl ?_
  refine Own.callS W2 (tw hw 51 rfl) (tw hw 52 rfl) (tw hw 53 rfl) (tw hw 54 rfl) (by decide) (argsL := [(.ref a), (.int (0 : Int32)), (.int (2 : Int32))]) (rest := []) (Own.Con.pay (con_c32 hw hEL TA TH TL hEN4 hw255 r0 r1 rfl rfl W2.old Ac) W2 (tw hw 54 rfl) (tw hw 53 rfl) (len := 3) (wd := 0) (by decide) (by decide) (fun _ q => nomatch q)) rfl (lenOf pd_4 rfl) rfl (Nat.le_of_ble_eq_true rfl) d3_36 39 rfl 2 6 (Nat.le_of_ble_eq_true rfl) (Nat.le_of_ble_eq_true rfl) (Nat.le_of_ble_eq_true rfl) (Nat.le_of_ble_eq_true rfl) ?_
  intro v3 T3 h3 u3 W3 R3 hq
  obtain ⟨o3, k3, rfl, E3, g3, A3⟩ := hq
  show Own.Go _ _ _ _ _ 39 #[.val (.ref x), .val (.ref a), .val (.int (0 : Int32)), .val (.int (2 : Int32)), .val .null, .unset] [(.ref o3)]
  refine Own.astore W3 d3_39 41 rfl rfl #[.val (.ref x), .val (.ref a), .val (.int (0 : Int32)), .val (.int (2 : Int32)), .val .null, .val (.ref o3)] rfl ?_
  refine Own.aloadN W3 d3_41 42 rfl (.ref x) rfl rfl ?_
  refine Own.aload W3 d3_42 44 rfl (.ref o3) rfl rfl ?_
  refine Own.iloadN W3 d3_44 45 rfl (2 : Int32) rfl ?_
  refine Own.callS W3 (tw hw 58 rfl) (tw hw 59 rfl) (tw hw 53 rfl) (tw hw 60 rfl) (by decide) (argsL := [(.ref o3), (.int (2 : Int32))]) (rest := [(.ref x)]) (Own.Con.pay (con_cfl2 hw hEL rfl W3.old A3) W3 (tw hw 60 rfl) (tw hw 53 rfl) (len := 3) (wd := 1) (by decide) (by decide) (fun _ q => nomatch q)) rfl (lenOf pd_6 rfl) rfl (Nat.le_of_ble_eq_true rfl) d3_45 48 rfl 2 6 (Nat.le_of_ble_eq_true rfl) (Nat.le_of_ble_eq_true rfl) (Nat.le_of_ble_eq_true rfl) (Nat.le_of_ble_eq_true rfl) ?_
  intro v4 T4 h4 u4 W4 R4 hq
  obtain ⟨rfl, eh4⟩ := hq
  have ei4 := eh4.symm; subst ei4
  have X5 : Ext h h3 := E3
  have sf6 := R4.safe (E.ext X5).lt (R3.safe E.lt sx)
  show Own.Go _ _ _ _ _ 48 #[.val (.ref x), .val (.ref a), .val (.int (0 : Int32)), .val (.int (2 : Int32)), .val .null, .val (.ref o3)] [(.int (1 : Int32)), (.ref x)]
  refine Own.putF W4 (tw hw 25 rfl) Via.refl (Cd.ext X5) (E.ext X5) (Or.inr ⟨(tw hw 21 rfl), rfl, rfl⟩) (tw hw 5 rfl) (ty := .byte) (v' := (.int (1 : Int32))) (by decide) rfl rfl hn_x sf6 d3_48 51 rfl ?_
  intro T7 h7 W7 Q7 k7
  have F7_coder := Fld.same Q7 (Cd.ext X5)
  refine Own.aloadN W7 d3_51 52 rfl (.ref x) rfl rfl ?_
  refine Own.aload W7 d3_52 54 rfl (.ref o3) rfl rfl ?_
  refine Own.putF W7 (tw hw 24 rfl) Via.refl ((V.ext E3).other Q7 (Or.inr (slot_ne (Or.inr (tw hw 20 rfl)) (Or.inr (tw hw 21 rfl)) (by decide) (t := (.array .byte)) (t' := .byte) (by decide) (by decide)))) ((E.ext E3).wr Q7) (Or.inr ⟨(tw hw 20 rfl), rfl, rfl⟩) (tw hw 5 rfl) (ty := (.array .byte)) (v' := (.ref o3)) (by decide) rfl rfl hn_x (k7 x sf6) d3_54 57 rfl ?_
  intro T8 h8 W8 Q8 k8
  have F8_value := Fld.same Q8 ((V.ext E3).other Q7 (Or.inr (slot_ne (Or.inr (tw hw 20 rfl)) (Or.inr (tw hw 21 rfl)) (by decide) (t := (.array .byte)) (t' := .byte) (by decide) (by decide))))
  exact Own.retV W8 (by decide) (by decide) rfl d3_57 ⟨rfl, (Keep.wr (Keep.wr (Keep.ext (Keep.refl h [x]) E3) Q7 (Or.inl (by simp))) Q8 (Or.inl (by simp))), (((E.ext E3).wr Q7).wr Q8), (F7_coder.other Q8 (Or.inr (slot_ne (Or.inr (tw hw 21 rfl)) (Or.inr (tw hw 20 rfl)) (by decide) (t := .byte) (t' := (.array .byte)) (by decide) (by decide)))), (by intro c hc; simp only [List.mem_cons, List.not_mem_nil, or_false] at hc; rcases hc with rfl | rfl; exact r0; exact r1), Nat.le_of_ble_eq_true rfl, (by rcases hw255 with q | q; exact ⟨ch0, by simp, q⟩; exact ⟨ch1, by simp, q⟩), o3, _, F8_value, ((A3.other Q7 (Ne.symm (Nat.ne_of_lt (Nat.lt_of_lt_of_le E.lt g3)))).other Q8 (Ne.symm (Nat.ne_of_lt (Nat.lt_of_lt_of_le E.lt g3))))⟩
set_option maxRecDepth 65536 in
set_option maxHeartbeats 40000000 in
theorem con_w12 {G : Own.Gl} (hw : ∀ d ∈ tables_1, d.before G.a0 G.Z = true) (hEL : EW G.Z G.a0 G.EL) (hmem : (Own.ST, 7) ∈ G.EL) {cz : Int32} (hS : Sta G.Z G.Z.heap Own.ST "COMPACT_STRINGS" "Z" (.int cz)) (hcz : ¬ cz = 0) (TA : Sta G.Z G.Z.heap "java/lang/StringUTF16" "$assertionsDisabled" "Z" (.int 1)) (TH : Sta G.Z G.Z.heap "java/lang/StringUTF16" "HI_BYTE_SHIFT" "I" (.int 0)) (TL : Sta G.Z G.Z.heap "java/lang/StringUTF16" "LO_BYTE_SHIFT" "I" (.int 8)) (hEN4 : Own.EN G.Z G.a0 G.EL 4) {ch0 ch1 : Int32} (hw255 : (255 : Int32) < ch0 ∨ (255 : Int32) < ch1) (r0 : Own.R16 ch0) (r1 : Own.R16 ch1) {x : Addr} {h : Heap} (hO : Old G.Z G.n0 h) (hn_x : G.n0 ≤ x) (E : Exa G.Z h x "java/lang/String") {v0 c0_ : Value} (V : Fld G.Z h x "java/lang/String" "value" "[B" v0) (Cd : Fld G.Z h x "java/lang/String" "coder" "B" c0_) {a : Addr} {kC : ClassId} {dv : Value} (Ac : Arv G.Z h a kC .char 2 [.int ch0, .int ch1] dv) :
    Own.Con G [] bW12 #[.ref x, .ref a] h [x] (fun v h' => v = none ∧ Keep h h' [x] ∧ Own.WStr G.Z h' x [ch0, ch1]) := by
  refine Own.Con.intro (plainFor_of_name pn_1) hO hEL _ (fun m => ef_bW12 m x a) ?_
  intro X T0 W0 sf
  have sx := sf x (List.mem_singleton.mpr rfl)
  refine Own.aloadN W0 d2_0 1 rfl (.ref x) rfl rfl ?_
  refine Own.aloadN W0 d2_1 2 rfl (.ref a) rfl rfl ?_
  refine Own.iconst W0 d2_2 3 rfl (0 : Int32) rfl ?_
  refine Own.aloadN W0 d2_3 4 rfl (.ref a) rfl rfl ?_
  refine Own.arrlen W0 Ac d2_4 5 rfl ?_
  refine Own.aconstNull W0 d2_5 6 rfl ?_
  refine Own.callX W0 rfl (tw hw 11 rfl) (tw hw 12 rfl) (tw hw 14 rfl) (by decide) (argsL := [(.ref a), (.int (0 : Int32)), (.int (2 : Int32)), .null]) (rest := []) (Own.Con.pay (con_w42 hw hEL hmem hS hcz TA TH TL hEN4 hw255 r0 r1 rfl rfl W0.old hn_x E V Cd Ac) W0 (tw hw 14 rfl) (tw hw 6 rfl) (len := 3) (wd := 0) (by decide) (by decide) (fun y hy => by cases List.mem_singleton.mp hy; exact ⟨E.lt, sx⟩)) rfl (lenOf pd_7 rfl) rfl (Nat.le_of_ble_eq_true rfl) d2_6 9 rfl 2 6 (Nat.le_of_ble_eq_true rfl) (Nat.le_of_ble_eq_true rfl) (Nat.le_of_ble_eq_true rfl) (Nat.le_of_ble_eq_true rfl) ?_
  intro v1 T1 h1 u1 W1 R1 hq
  obtain ⟨rfl, K1, F1⟩ := hq
  show Own.Go _ _ _ _ _ 9 #[.val (.ref x), .val (.ref a)] []
  exact Own.retV W1 (by decide) (by decide) rfl d2_9 ⟨rfl, K1, F1⟩
set_option maxRecDepth 65536 in
set_option maxHeartbeats 40000000 in
theorem con_nbl3 {G : Own.Gl} (hw : ∀ d ∈ tables_1, d.before G.a0 G.Z = true) (hEL : EW G.Z G.a0 G.EL) {k : Int32} (hk : k = 3) {h : Heap} (hO : Old G.Z G.n0 h) :
    Own.Con G [] bNbl3 #[.int k] h [] (fun v h' => v = some (.int 6) ∧ h' = h) := by
  refine Own.Con.intro (plainFor_of_name pn_0) hO hEL _ (fun m => ef_bNbl3 m k) ?_
  intro X T0 W0 sf
  subst hk
  refine Own.iloadN W0 d24_0 1 rfl (3 : Int32) rfl ?_
  refine Own.ifYes W0 d24_1 12 (by decide) (by decide) (by decide) ?_
  refine Own.iloadN W0 d24_12 13 rfl (3 : Int32) rfl ?_
  refine Own.ldcI W0 (tw hw 104 rfl) d24_13 15 rfl ?_
  refine Own.icmpYes W0 d24_15 55 (by decide) (by decide) (by decide) ?_
  refine Own.iloadN W0 d24_55 56 rfl (3 : Int32) rfl ?_
  refine Own.iconst W0 d24_56 57 rfl (1 : Int32) rfl ?_
  refine Own.ishl W0 d24_57 58 rfl ?_
  exact Own.retI W0 (by decide) (by decide) rfl d24_58 ⟨by decide, rfl⟩
set_option maxRecDepth 65536 in
set_option maxHeartbeats 40000000 in
theorem con_nbf3 {G : Own.Gl} (hw : ∀ d ∈ tables_1, d.before G.a0 G.Z = true) (hEL : EW G.Z G.a0 G.EL) {k : Int32} (hk : k = 3) {h : Heap} (hO : Old G.Z G.n0 h) :
    Own.Con G [] bNbf3 #[.int k] h [] (fun v h' => ∃ (o : Addr) (ko : ClassId), v = some (.ref o) ∧ Ext h h' ∧ h.size ≤ o ∧ Arv G.Z h' o ko .byte 6 [.int 0, .int 0, .int 0, .int 0, .int 0, .int 0] (.int 0)) := by
  refine Own.Con.intro (plainFor_of_name pn_0) hO hEL _ (fun m => ef_bNbf3 m k) ?_
  intro X T0 W0 sf
  subst hk
  refine Own.iloadN W0 d23_0 1 rfl (3 : Int32) rfl ?_
  refine Own.callS W0 (tw hw 101 rfl) (tw hw 102 rfl) (tw hw 53 rfl) (tw hw 103 rfl) (by decide) (argsL := [(.int (3 : Int32))]) (rest := []) (Own.Con.pay (con_nbl3 hw hEL rfl W0.old) W0 (tw hw 103 rfl) (tw hw 53 rfl) (len := 3) (wd := 0) (by decide) (by decide) (fun _ q => nomatch q)) rfl (lenOf pd_0 rfl) rfl (Nat.le_of_ble_eq_true rfl) d23_1 4 rfl 0 0 (Nat.le_of_ble_eq_true rfl) (Nat.le_of_ble_eq_true rfl) (Nat.le_of_ble_eq_true rfl) (Nat.le_of_ble_eq_true rfl) ?_
  intro v1 T1 h1 u1 W1 R1 hq
  obtain ⟨rfl, eh1⟩ := hq
  have ei1 := eh1.symm; subst ei1
  show Own.Go _ _ _ _ _ 4 #[.val (.int (3 : Int32))] [(.int (6 : Int32))]
  refine Own.newA W1 (tw hw 19 rfl) d23_4 6 rfl (by decide) 6 (by decide) (by decide) 1 6 (by decide) (by decide) (by decide) (by decide) ?_
  intro T2 h2 o2 c2 g2 W2 E2 A2 s2 k2
  have V2 : Arv G.Z h2 o2 c2 .byte (6 : Int32) [(.int (0 : Int32)), (.int (0 : Int32)), (.int (0 : Int32)), (.int (0 : Int32)), (.int (0 : Int32)), (.int (0 : Int32))] (.int (0 : Int32)) := A2
  have X3 : Ext h h2 := E2
  exact Own.retA W2 (by decide) (by decide) rfl rfl rfl d23_6 ⟨o2, _, rfl, X3, (Nat.le_of_eq g2.symm), V2⟩
set_option maxRecDepth 65536 in
set_option maxHeartbeats 40000000 in
theorem con_tob3 {G : Own.Gl} (hw : ∀ d ∈ tables_1, d.before G.a0 G.Z = true) (hEL : EW G.Z G.a0 G.EL) (TA : Sta G.Z G.Z.heap "java/lang/StringUTF16" "$assertionsDisabled" "Z" (.int 1)) (TH : Sta G.Z G.Z.heap "java/lang/StringUTF16" "HI_BYTE_SHIFT" "I" (.int 0)) (TL : Sta G.Z G.Z.heap "java/lang/StringUTF16" "LO_BYTE_SHIFT" "I" (.int 8)) (hEN6 : Own.EN G.Z G.a0 G.EL 6) {ch0 ch1 ch2 : Int32} {of ln : Int32} (hof : of = 0) (hln : ln = 3) {h : Heap} (hO : Old G.Z G.n0 h) {a : Addr} {kC : ClassId} {dv : Value} (Ac : Arv G.Z h a kC .char 3 [.int ch0, .int ch1, .int ch2] dv) :
    Own.Con G [] bTob3 #[.ref a, .int of, .int ln] h [] (fun v h' => ∃ (o : Addr) (ko : ClassId), v = some (.ref o) ∧ Ext h h' ∧ h.size ≤ o ∧ Arv G.Z h' o ko .byte 6 [(.int (StrChars.lo8 ch0)), (.int (StrChars.hi8 ch0)), (.int (StrChars.lo8 ch1)), (.int (StrChars.hi8 ch1)), (.int (StrChars.lo8 ch2)), (.int (StrChars.hi8 ch2))] (.int 0)) := by
  refine Own.Con.intro (plainFor_of_name pn_0) hO hEL _ (fun m => ef_bTob3 m a of ln) ?_
  intro X T0 W0 sf
  subst hof; subst hln
  refine Own.iloadN W0 d22_0 1 rfl (3 : Int32) rfl ?_
  refine Own.callS W0 (tw hw 98 rfl) (tw hw 99 rfl) (tw hw 53 rfl) (tw hw 100 rfl) (by decide) (argsL := [(.int (3 : Int32))]) (rest := []) (Own.Con.pay (con_nbf3 hw hEL rfl W0.old) W0 (tw hw 100 rfl) (tw hw 53 rfl) (len := 3) (wd := 0) (by decide) (by decide) (fun _ q => nomatch q)) rfl (lenOf pd_1 rfl) rfl (Nat.le_of_ble_eq_true rfl) d22_1 4 rfl 1 6 (Nat.le_of_ble_eq_true rfl) (Nat.le_of_ble_eq_true rfl) (Nat.le_of_ble_eq_true rfl) (Nat.le_of_ble_eq_true rfl) ?_
  intro v1 T1 h1 u1 W1 R1 hq
  obtain ⟨o1, k1, rfl, E1, g1, A1⟩ := hq
  show Own.Go _ _ _ _ _ 4 #[.val (.ref a), .val (.int (0 : Int32)), .val (.int (3 : Int32)), .unset, .unset] [(.ref o1)]
  refine Own.astoreN W1 d22_4 5 rfl rfl #[.val (.ref a), .val (.int (0 : Int32)), .val (.int (3 : Int32)), .val (.ref o1), .unset] rfl ?_
  refine Own.iconst W1 d22_5 6 rfl (0 : Int32) rfl ?_
  refine Own.istore W1 d22_6 8 rfl #[.val (.ref a), .val (.int (0 : Int32)), .val (.int (3 : Int32)), .val (.ref o1), .val (.int (0 : Int32))] rfl ?_
  refine Own.iload W1 d22_8 10 rfl (0 : Int32) rfl ?_
  refine Own.iloadN W1 d22_10 11 rfl (3 : Int32) rfl ?_
  refine Own.icmpNo W1 d22_11 14 (by decide) rfl ?_
  refine Own.aloadN W1 d22_14 15 rfl (.ref o1) rfl rfl ?_
  refine Own.iload W1 d22_15 17 rfl (0 : Int32) rfl ?_
  refine Own.aloadN W1 d22_17 18 rfl (.ref a) rfl rfl ?_
  refine Own.iloadN W1 d22_18 19 rfl (0 : Int32) rfl ?_
  have X2 : Ext h h1 := E1
  refine Own.caload W1 (Ac.ext X2) (by decide) (.int ch0) rfl d22_19 20 rfl ?_
  refine Own.callS W1 (tw hw 105 rfl) (tw hw 106 rfl) (tw hw 53 rfl) (tw hw 107 rfl) (by decide) (argsL := [(.ref o1), (.int (0 : Int32)), (.int ch0)]) (rest := []) (Own.Con.pay (con_put3_0 hw hEL TA TH TL rfl ch0 W1.old (Nat.le_trans W0.n0 g1) A1) W1 (tw hw 107 rfl) (tw hw 53 rfl) (len := 3) (wd := 0) (by decide) (by decide) (fun y hy => by cases List.mem_singleton.mp hy; exact ⟨A1.lt, Own.Safe.len W1.wz hEN6 A1 (by decide)⟩)) rfl (lenOf pd_2 rfl) rfl (Nat.le_of_ble_eq_true rfl) d22_20 23 rfl 1 6 (Nat.le_of_ble_eq_true rfl) (Nat.le_of_ble_eq_true rfl) (Nat.le_of_ble_eq_true rfl) (Nat.le_of_ble_eq_true rfl) ?_
  intro v3 T3 h3 u3 W3 R3 hq
  obtain ⟨rfl, K3, A3⟩ := hq
  show Own.Go _ _ _ _ _ 23 #[.val (.ref a), .val (.int (0 : Int32)), .val (.int (3 : Int32)), .val (.ref o1), .val (.int (0 : Int32))] []
  refine Own.iinc W3 d22_23 26 rfl rfl #[.val (.ref a), .val (.int (1 : Int32)), .val (.int (3 : Int32)), .val (.ref o1), .val (.int (0 : Int32))] rfl ?_
  refine Own.iinc W3 d22_26 29 rfl rfl #[.val (.ref a), .val (.int (1 : Int32)), .val (.int (3 : Int32)), .val (.ref o1), .val (.int (1 : Int32))] rfl ?_
  refine Own.goto W3 d22_29 8 (by decide) (by decide) ?_
  refine Own.iload W3 d22_8 10 rfl (1 : Int32) rfl ?_
  refine Own.iloadN W3 d22_10 11 rfl (3 : Int32) rfl ?_
  refine Own.icmpNo W3 d22_11 14 (by decide) rfl ?_
  refine Own.aloadN W3 d22_14 15 rfl (.ref o1) rfl rfl ?_
  refine Own.iload W3 d22_15 17 rfl (1 : Int32) rfl ?_
  refine Own.aloadN W3 d22_17 18 rfl (.ref a) rfl rfl ?_
  refine Own.iloadN W3 d22_18 19 rfl (1 : Int32) rfl ?_
  have X4 : Ext h h3 := Own.Ext.kp X2 K3 (allS g1 all0)
  refine Own.caload W3 (Ac.ext X4) (by decide) (.int ch1) rfl d22_19 20 rfl ?_
  refine Own.callS W3 (tw hw 105 rfl) (tw hw 106 rfl) (tw hw 53 rfl) (tw hw 107 rfl) (by decide) (argsL := [(.ref o1), (.int (1 : Int32)), (.int ch1)]) (rest := []) (Own.Con.pay (con_put3_1 hw hEL TA TH TL rfl ch1 W3.old (Nat.le_trans W0.n0 g1) A3) W3 (tw hw 107 rfl) (tw hw 53 rfl) (len := 3) (wd := 0) (by decide) (by decide) (fun y hy => by cases List.mem_singleton.mp hy; exact ⟨A3.lt, Own.Safe.len W3.wz hEN6 A3 (by decide)⟩)) rfl (lenOf pd_2 rfl) rfl (Nat.le_of_ble_eq_true rfl) d22_20 23 rfl 1 6 (Nat.le_of_ble_eq_true rfl) (Nat.le_of_ble_eq_true rfl) (Nat.le_of_ble_eq_true rfl) (Nat.le_of_ble_eq_true rfl) ?_
  intro v5 T5 h5 u5 W5 R5 hq
  obtain ⟨rfl, K5, A5⟩ := hq
  show Own.Go _ _ _ _ _ 23 #[.val (.ref a), .val (.int (1 : Int32)), .val (.int (3 : Int32)), .val (.ref o1), .val (.int (1 : Int32))] []
  refine Own.iinc W5 d22_23 26 rfl rfl #[.val (.ref a), .val (.int (2 : Int32)), .val (.int (3 : Int32)), .val (.ref o1), .val (.int (1 : Int32))] rfl ?_
  refine Own.iinc W5 d22_26 29 rfl rfl #[.val (.ref a), .val (.int (2 : Int32)), .val (.int (3 : Int32)), .val (.ref o1), .val (.int (2 : Int32))] rfl ?_
  refine Own.goto W5 d22_29 8 (by decide) (by decide) ?_
  refine Own.iload W5 d22_8 10 rfl (2 : Int32) rfl ?_
  refine Own.iloadN W5 d22_10 11 rfl (3 : Int32) rfl ?_
  refine Own.icmpNo W5 d22_11 14 (by decide) rfl ?_
  refine Own.aloadN W5 d22_14 15 rfl (.ref o1) rfl rfl ?_
  refine Own.iload W5 d22_15 17 rfl (2 : Int32) rfl ?_
  refine Own.aloadN W5 d22_17 18 rfl (.ref a) rfl rfl ?_
  refine Own.iloadN W5 d22_18 19 rfl (2 : Int32) rfl ?_
  have X6 : Ext h h5 := Own.Ext.kp X4 K5 (allS g1 all0)
  refine Own.caload W5 (Ac.ext X6) (by decide) (.int ch2) rfl d22_19 20 rfl ?_
  refine Own.callS W5 (tw hw 105 rfl) (tw hw 106 rfl) (tw hw 53 rfl) (tw hw 107 rfl) (by decide) (argsL := [(.ref o1), (.int (2 : Int32)), (.int ch2)]) (rest := []) (Own.Con.pay (con_put3_2 hw hEL TA TH TL rfl ch2 W5.old (Nat.le_trans W0.n0 g1) A5) W5 (tw hw 107 rfl) (tw hw 53 rfl) (len := 3) (wd := 0) (by decide) (by decide) (fun y hy => by cases List.mem_singleton.mp hy; exact ⟨A5.lt, Own.Safe.len W5.wz hEN6 A5 (by decide)⟩)) rfl (lenOf pd_2 rfl) rfl (Nat.le_of_ble_eq_true rfl) d22_20 23 rfl 1 6 (Nat.le_of_ble_eq_true rfl) (Nat.le_of_ble_eq_true rfl) (Nat.le_of_ble_eq_true rfl) (Nat.le_of_ble_eq_true rfl) ?_
  intro v7 T7 h7 u7 W7 R7 hq
  obtain ⟨rfl, K7, A7⟩ := hq
  show Own.Go _ _ _ _ _ 23 #[.val (.ref a), .val (.int (2 : Int32)), .val (.int (3 : Int32)), .val (.ref o1), .val (.int (2 : Int32))] []
  refine Own.iinc W7 d22_23 26 rfl rfl #[.val (.ref a), .val (.int (3 : Int32)), .val (.int (3 : Int32)), .val (.ref o1), .val (.int (2 : Int32))] rfl ?_
  refine Own.iinc W7 d22_26 29 rfl rfl #[.val (.ref a), .val (.int (3 : Int32)), .val (.int (3 : Int32)), .val (.ref o1), .val (.int (3 : Int32))] rfl ?_
  refine Own.goto W7 d22_29 8 (by decide) (by decide) ?_
  refine Own.iload W7 d22_8 10 rfl (3 : Int32) rfl ?_
  refine Own.iloadN W7 d22_10 11 rfl (3 : Int32) rfl ?_
  refine Own.icmpYes W7 d22_11 32 (by decide) (by decide) (by decide) ?_
  refine Own.aloadN W7 d22_32 33 rfl (.ref o1) rfl rfl ?_
  have X8 : Ext h h7 := Own.Ext.kp X6 K7 (allS g1 all0)
  exact Own.retA W7 (by decide) (by decide) rfl rfl rfl d22_33 ⟨o1, _, rfl, X8, g1, A7⟩
set_option maxRecDepth 65536 in
set_option maxHeartbeats 40000000 in
theorem con_gc3_0 {G : Own.Gl} (hw : ∀ d ∈ tables_1, d.before G.a0 G.Z = true) (hEL : EW G.Z G.a0 G.EL) (TA : Sta G.Z G.Z.heap "java/lang/StringUTF16" "$assertionsDisabled" "Z" (.int 1)) (TH : Sta G.Z G.Z.heap "java/lang/StringUTF16" "HI_BYTE_SHIFT" "I" (.int 0)) (TL : Sta G.Z G.Z.heap "java/lang/StringUTF16" "LO_BYTE_SHIFT" "I" (.int 8)) {ch0 ch1 ch2 : Int32} (r0 : Own.R16 ch0) {b : Addr} {kb : ClassId} {ii : Int32} (hii : ii = 0) {h : Heap} (hO : Old G.Z G.n0 h) (A : Arv G.Z h b kb .byte 6 [(.int (StrChars.lo8 ch0)), (.int (StrChars.hi8 ch0)), (.int (StrChars.lo8 ch1)), (.int (StrChars.hi8 ch1)), (.int (StrChars.lo8 ch2)), (.int (StrChars.hi8 ch2))] (.int 0)) :
    Own.Con G [] bGc3_0 #[.ref b, .int ii] h [] (fun v h' => v = some (.int ch0) ∧ h' = h) := by
  refine Own.Con.intro (plainFor_of_name pn_0) hO hEL _ (fun m => ef_bGc3_0 m b ii) ?_
  intro X T0 W0 sf
  subst hii
  refine Own.getS W0 (tw hw 108 rfl) Via.refl (W0.sta TA) d26_0 3 rfl ?_
  intro T1 W1
  refine Own.ifYes W1 d26_3 28 (by decide) (by decide) (by decide) ?_
  refine Own.iloadN W1 d26_28 29 rfl (0 : Int32) rfl ?_
  refine Own.iconst W1 d26_29 30 rfl (1 : Int32) rfl ?_
  refine Own.ishl W1 d26_30 31 rfl ?_
  rw [show ((0 : Int32) <<< ((1 : Int32) &&& 31)) = (0 : Int32) by decide]
  refine Own.istoreN W1 d26_31 32 rfl #[.val (.ref b), .val (.int (0 : Int32))] rfl ?_
  refine Own.aloadN W1 d26_32 33 rfl (.ref b) rfl rfl ?_
  refine Own.iloadN W1 d26_33 34 rfl (0 : Int32) rfl ?_
  refine Own.iinc W1 d26_34 37 rfl rfl #[.val (.ref b), .val (.int (1 : Int32))] rfl ?_
  refine Own.baload W1 A (by decide) (.int (StrChars.lo8 ch0)) rfl d26_37 38 rfl ?_
  refine Own.sipush W1 d26_38 41 rfl (255 : Int32) rfl ?_
  refine Own.iand W1 d26_41 42 rfl ?_
  refine Own.getS W1 (tw hw 109 rfl) Via.refl (W1.sta TH) d26_42 45 rfl ?_
  intro T2 W2
  refine Own.ishl W2 d26_45 46 rfl ?_
  refine Own.aloadN W2 d26_46 47 rfl (.ref b) rfl rfl ?_
  refine Own.iloadN W2 d26_47 48 rfl (1 : Int32) rfl ?_
  refine Own.baload W2 A (by decide) (.int (StrChars.hi8 ch0)) rfl d26_48 49 rfl ?_
  refine Own.sipush W2 d26_49 52 rfl (255 : Int32) rfl ?_
  refine Own.iand W2 d26_52 53 rfl ?_
  refine Own.getS W2 (tw hw 110 rfl) Via.refl (W2.sta TL) d26_53 56 rfl ?_
  intro T3 W3
  refine Own.ishl W3 d26_56 57 rfl ?_
  refine Own.ior W3 d26_57 58 rfl ?_
  refine Own.i2c W3 d26_58 59 rfl ?_
  show Own.Go _ _ _ _ _ 59 #[.val (.ref b), .val (.int (1 : Int32))] [.int (StrChars.pairCh (StrChars.lo8 ch0) (StrChars.hi8 ch0))]
  rw [StrChars.pair_says r0.1 r0.2]
  exact Own.retC W3 (by decide) (by decide) rfl d26_59 (Own.narC r0) ⟨rfl, rfl⟩
set_option maxRecDepth 65536 in
set_option maxHeartbeats 40000000 in
theorem con_gc3_1 {G : Own.Gl} (hw : ∀ d ∈ tables_1, d.before G.a0 G.Z = true) (hEL : EW G.Z G.a0 G.EL) (TA : Sta G.Z G.Z.heap "java/lang/StringUTF16" "$assertionsDisabled" "Z" (.int 1)) (TH : Sta G.Z G.Z.heap "java/lang/StringUTF16" "HI_BYTE_SHIFT" "I" (.int 0)) (TL : Sta G.Z G.Z.heap "java/lang/StringUTF16" "LO_BYTE_SHIFT" "I" (.int 8)) {ch0 ch1 ch2 : Int32} (r1 : Own.R16 ch1) {b : Addr} {kb : ClassId} {ii : Int32} (hii : ii = 1) {h : Heap} (hO : Old G.Z G.n0 h) (A : Arv G.Z h b kb .byte 6 [(.int (StrChars.lo8 ch0)), (.int (StrChars.hi8 ch0)), (.int (StrChars.lo8 ch1)), (.int (StrChars.hi8 ch1)), (.int (StrChars.lo8 ch2)), (.int (StrChars.hi8 ch2))] (.int 0)) :
    Own.Con G [] bGc3_1 #[.ref b, .int ii] h [] (fun v h' => v = some (.int ch1) ∧ h' = h) := by
  refine Own.Con.intro (plainFor_of_name pn_0) hO hEL _ (fun m => ef_bGc3_1 m b ii) ?_
  intro X T0 W0 sf
  subst hii
  refine Own.getS W0 (tw hw 108 rfl) Via.refl (W0.sta TA) d26_0 3 rfl ?_
  intro T1 W1
  refine Own.ifYes W1 d26_3 28 (by decide) (by decide) (by decide) ?_
  refine Own.iloadN W1 d26_28 29 rfl (1 : Int32) rfl ?_
  refine Own.iconst W1 d26_29 30 rfl (1 : Int32) rfl ?_
  refine Own.ishl W1 d26_30 31 rfl ?_
  rw [show ((1 : Int32) <<< ((1 : Int32) &&& 31)) = (2 : Int32) by decide]
  refine Own.istoreN W1 d26_31 32 rfl #[.val (.ref b), .val (.int (2 : Int32))] rfl ?_
  refine Own.aloadN W1 d26_32 33 rfl (.ref b) rfl rfl ?_
  refine Own.iloadN W1 d26_33 34 rfl (2 : Int32) rfl ?_
  refine Own.iinc W1 d26_34 37 rfl rfl #[.val (.ref b), .val (.int (3 : Int32))] rfl ?_
  refine Own.baload W1 A (by decide) (.int (StrChars.lo8 ch1)) rfl d26_37 38 rfl ?_
  refine Own.sipush W1 d26_38 41 rfl (255 : Int32) rfl ?_
  refine Own.iand W1 d26_41 42 rfl ?_
  refine Own.getS W1 (tw hw 109 rfl) Via.refl (W1.sta TH) d26_42 45 rfl ?_
  intro T2 W2
  refine Own.ishl W2 d26_45 46 rfl ?_
  refine Own.aloadN W2 d26_46 47 rfl (.ref b) rfl rfl ?_
  refine Own.iloadN W2 d26_47 48 rfl (3 : Int32) rfl ?_
  refine Own.baload W2 A (by decide) (.int (StrChars.hi8 ch1)) rfl d26_48 49 rfl ?_
  refine Own.sipush W2 d26_49 52 rfl (255 : Int32) rfl ?_
  refine Own.iand W2 d26_52 53 rfl ?_
  refine Own.getS W2 (tw hw 110 rfl) Via.refl (W2.sta TL) d26_53 56 rfl ?_
  intro T3 W3
  refine Own.ishl W3 d26_56 57 rfl ?_
  refine Own.ior W3 d26_57 58 rfl ?_
  refine Own.i2c W3 d26_58 59 rfl ?_
  show Own.Go _ _ _ _ _ 59 #[.val (.ref b), .val (.int (3 : Int32))] [.int (StrChars.pairCh (StrChars.lo8 ch1) (StrChars.hi8 ch1))]
  rw [StrChars.pair_says r1.1 r1.2]
  exact Own.retC W3 (by decide) (by decide) rfl d26_59 (Own.narC r1) ⟨rfl, rfl⟩
set_option maxRecDepth 65536 in
set_option maxHeartbeats 40000000 in
theorem con_gc3_2 {G : Own.Gl} (hw : ∀ d ∈ tables_1, d.before G.a0 G.Z = true) (hEL : EW G.Z G.a0 G.EL) (TA : Sta G.Z G.Z.heap "java/lang/StringUTF16" "$assertionsDisabled" "Z" (.int 1)) (TH : Sta G.Z G.Z.heap "java/lang/StringUTF16" "HI_BYTE_SHIFT" "I" (.int 0)) (TL : Sta G.Z G.Z.heap "java/lang/StringUTF16" "LO_BYTE_SHIFT" "I" (.int 8)) {ch0 ch1 ch2 : Int32} (r2 : Own.R16 ch2) {b : Addr} {kb : ClassId} {ii : Int32} (hii : ii = 2) {h : Heap} (hO : Old G.Z G.n0 h) (A : Arv G.Z h b kb .byte 6 [(.int (StrChars.lo8 ch0)), (.int (StrChars.hi8 ch0)), (.int (StrChars.lo8 ch1)), (.int (StrChars.hi8 ch1)), (.int (StrChars.lo8 ch2)), (.int (StrChars.hi8 ch2))] (.int 0)) :
    Own.Con G [] bGc3_2 #[.ref b, .int ii] h [] (fun v h' => v = some (.int ch2) ∧ h' = h) := by
  refine Own.Con.intro (plainFor_of_name pn_0) hO hEL _ (fun m => ef_bGc3_2 m b ii) ?_
  intro X T0 W0 sf
  subst hii
  refine Own.getS W0 (tw hw 108 rfl) Via.refl (W0.sta TA) d26_0 3 rfl ?_
  intro T1 W1
  refine Own.ifYes W1 d26_3 28 (by decide) (by decide) (by decide) ?_
  refine Own.iloadN W1 d26_28 29 rfl (2 : Int32) rfl ?_
  refine Own.iconst W1 d26_29 30 rfl (1 : Int32) rfl ?_
  refine Own.ishl W1 d26_30 31 rfl ?_
  rw [show ((2 : Int32) <<< ((1 : Int32) &&& 31)) = (4 : Int32) by decide]
  refine Own.istoreN W1 d26_31 32 rfl #[.val (.ref b), .val (.int (4 : Int32))] rfl ?_
  refine Own.aloadN W1 d26_32 33 rfl (.ref b) rfl rfl ?_
  refine Own.iloadN W1 d26_33 34 rfl (4 : Int32) rfl ?_
  refine Own.iinc W1 d26_34 37 rfl rfl #[.val (.ref b), .val (.int (5 : Int32))] rfl ?_
  refine Own.baload W1 A (by decide) (.int (StrChars.lo8 ch2)) rfl d26_37 38 rfl ?_
  refine Own.sipush W1 d26_38 41 rfl (255 : Int32) rfl ?_
  refine Own.iand W1 d26_41 42 rfl ?_
  refine Own.getS W1 (tw hw 109 rfl) Via.refl (W1.sta TH) d26_42 45 rfl ?_
  intro T2 W2
  refine Own.ishl W2 d26_45 46 rfl ?_
  refine Own.aloadN W2 d26_46 47 rfl (.ref b) rfl rfl ?_
  refine Own.iloadN W2 d26_47 48 rfl (5 : Int32) rfl ?_
  refine Own.baload W2 A (by decide) (.int (StrChars.hi8 ch2)) rfl d26_48 49 rfl ?_
  refine Own.sipush W2 d26_49 52 rfl (255 : Int32) rfl ?_
  refine Own.iand W2 d26_52 53 rfl ?_
  refine Own.getS W2 (tw hw 110 rfl) Via.refl (W2.sta TL) d26_53 56 rfl ?_
  intro T3 W3
  refine Own.ishl W3 d26_56 57 rfl ?_
  refine Own.ior W3 d26_57 58 rfl ?_
  refine Own.i2c W3 d26_58 59 rfl ?_
  show Own.Go _ _ _ _ _ 59 #[.val (.ref b), .val (.int (5 : Int32))] [.int (StrChars.pairCh (StrChars.lo8 ch2) (StrChars.hi8 ch2))]
  rw [StrChars.pair_says r2.1 r2.2]
  exact Own.retC W3 (by decide) (by decide) rfl d26_59 (Own.narC r2) ⟨rfl, rfl⟩
set_option maxRecDepth 65536 in
set_option maxHeartbeats 40000000 in
theorem con_c53 {G : Own.Gl} (hw : ∀ d ∈ tables_1, d.before G.a0 G.Z = true) (hEL : EW G.Z G.a0 G.EL) {ch0 ch1 ch2 : Int32} (hw255 : (255 : Int32) < ch0 ∨ (255 : Int32) < ch1 ∨ (255 : Int32) < ch2) {o1 o2 ln : Int32} (ho1 : o1 = 0) (ho2 : o2 = 0) (hln : ln = 3) {d : Addr} {kd : ClassId} {h : Heap} (hO : Old G.Z G.n0 h) (hn_d : G.n0 ≤ d) {a : Addr} {kC : ClassId} {dv : Value} (Ac : Arv G.Z h a kC .char 3 [.int ch0, .int ch1, .int ch2] dv) (had : a ≠ d) (Ad : Arv G.Z h d kd .byte 3 [.int 0, .int 0, .int 0] (.int 0)) :
    Own.Con G [] bC53 #[.ref a, .int o1, .ref d, .int o2, .int ln] h [d] (fun v h' => ((v = some (.int 0) ∧ (255 : Int32) < ch0) ∨ (v = some (.int 1) ∧ (255 : Int32) < ch1) ∨ (v = some (.int 2) ∧ (255 : Int32) < ch2)) ∧ Keep h h' [d]) := by
  refine Own.Con.intro (plainFor_of_name pn_0) hO hEL _ (fun m => ef_bC53 m a o1 d o2 ln) ?_
  intro X T0 W0 sf
  subst ho1; subst ho2; subst hln
  have sd := sf d (List.mem_singleton.mpr rfl)
  refine Own.iconst W0 d12_0 1 rfl (0 : Int32) rfl ?_
  refine Own.istore W0 d12_1 3 rfl #[.val (.ref a), .val (.int (0 : Int32)), .val (.ref d), .val (.int (0 : Int32)), .val (.int (3 : Int32)), .val (.int (0 : Int32)), .unset] rfl ?_
  refine Own.iload W0 d12_3 5 rfl (0 : Int32) rfl ?_
  refine Own.iload W0 d12_5 7 rfl (3 : Int32) rfl ?_
  refine Own.icmpNo W0 d12_7 10 (by decide) rfl ?_
  refine Own.aloadN W0 d12_10 11 rfl (.ref a) rfl rfl ?_
  refine Own.iloadN W0 d12_11 12 rfl (0 : Int32) rfl ?_
  refine Own.caload W0 Ac (by decide) (.int ch0) rfl d12_12 13 rfl ?_
  refine Own.istore W0 d12_13 15 rfl #[.val (.ref a), .val (.int (0 : Int32)), .val (.ref d), .val (.int (0 : Int32)), .val (.int (3 : Int32)), .val (.int (0 : Int32)), .val (.int ch0)] rfl ?_
  refine Own.iload W0 d12_15 17 rfl ch0 rfl ?_
  refine Own.sipush W0 d12_17 20 rfl (255 : Int32) rfl ?_
  by_cases e0 : (255 : Int32) < ch0
  · skip
    refine Own.icmpNo W0 d12_20 23 (XT.ii_le_f e0) rfl ?_
    refine Own.iload W0 d12_23 25 rfl (0 : Int32) rfl ?_
    exact Own.retI W0 (by decide) (by decide) rfl d12_25 ⟨Or.inl ⟨rfl, e0⟩, (Keep.refl h [d])⟩
  · skip
    refine Own.icmpYes W0 d12_20 26 (XT.ii_le_t e0) (by decide) (by decide) ?_
    refine Own.aloadN W0 d12_26 27 rfl (.ref d) rfl rfl ?_
    refine Own.iloadN W0 d12_27 28 rfl (0 : Int32) rfl ?_
    refine Own.iload W0 d12_28 30 rfl ch0 rfl ?_
    refine Own.i2b W0 d12_30 31 rfl ?_
    refine Own.bastore W0 Ad 0 (by decide) (by decide) (Nat.le_of_ble_eq_true rfl) hn_d sd (x' := (ch0.toInt8.toInt32)) (Own.nar_b8 _) d12_31 32 rfl ?_
    intro T1 h1 W1 Q1 A1 k1
    have V1 : Arv G.Z h1 d kd .byte (3 : Int32) [(.int (ch0.toInt8.toInt32)), (.int 0), (.int 0)] (.int 0) := A1
    refine Own.iinc W1 d12_32 35 rfl rfl #[.val (.ref a), .val (.int (1 : Int32)), .val (.ref d), .val (.int (0 : Int32)), .val (.int (3 : Int32)), .val (.int (0 : Int32)), .val (.int ch0)] rfl ?_
    refine Own.iinc W1 d12_35 38 rfl rfl #[.val (.ref a), .val (.int (1 : Int32)), .val (.ref d), .val (.int (1 : Int32)), .val (.int (3 : Int32)), .val (.int (0 : Int32)), .val (.int ch0)] rfl ?_
    refine Own.iinc W1 d12_38 41 rfl rfl #[.val (.ref a), .val (.int (1 : Int32)), .val (.ref d), .val (.int (1 : Int32)), .val (.int (3 : Int32)), .val (.int (1 : Int32)), .val (.int ch0)] rfl ?_
    refine Own.goto W1 d12_41 3 (by decide) (by decide) ?_
    refine Own.iload W1 d12_3 5 rfl (1 : Int32) rfl ?_
    refine Own.iload W1 d12_5 7 rfl (3 : Int32) rfl ?_
    refine Own.icmpNo W1 d12_7 10 (by decide) rfl ?_
    refine Own.aloadN W1 d12_10 11 rfl (.ref a) rfl rfl ?_
    refine Own.iloadN W1 d12_11 12 rfl (1 : Int32) rfl ?_
    refine Own.caload W1 (Ac.other Q1 had) (by decide) (.int ch1) rfl d12_12 13 rfl ?_
    refine Own.istore W1 d12_13 15 rfl #[.val (.ref a), .val (.int (1 : Int32)), .val (.ref d), .val (.int (1 : Int32)), .val (.int (3 : Int32)), .val (.int (1 : Int32)), .val (.int ch1)] rfl ?_
    refine Own.iload W1 d12_15 17 rfl ch1 rfl ?_
    refine Own.sipush W1 d12_17 20 rfl (255 : Int32) rfl ?_
    by_cases e1 : (255 : Int32) < ch1
    · skip
      refine Own.icmpNo W1 d12_20 23 (XT.ii_le_f e1) rfl ?_
      refine Own.iload W1 d12_23 25 rfl (1 : Int32) rfl ?_
      exact Own.retI W1 (by decide) (by decide) rfl d12_25 ⟨Or.inr (Or.inl ⟨rfl, e1⟩), (Keep.wr (Keep.refl h [d]) Q1 (Or.inl (List.mem_singleton.mpr rfl)))⟩
    · skip
      refine Own.icmpYes W1 d12_20 26 (XT.ii_le_t e1) (by decide) (by decide) ?_
      refine Own.aloadN W1 d12_26 27 rfl (.ref d) rfl rfl ?_
      refine Own.iloadN W1 d12_27 28 rfl (1 : Int32) rfl ?_
      refine Own.iload W1 d12_28 30 rfl ch1 rfl ?_
      refine Own.i2b W1 d12_30 31 rfl ?_
      refine Own.bastore W1 V1 1 (by decide) (by decide) (Nat.le_of_ble_eq_true rfl) hn_d (k1 d sd) (x' := (ch1.toInt8.toInt32)) (Own.nar_b8 _) d12_31 32 rfl ?_
      intro T2 h2 W2 Q2 A2 k2
      have V2 : Arv G.Z h2 d kd .byte (3 : Int32) [(.int (ch0.toInt8.toInt32)), (.int (ch1.toInt8.toInt32)), (.int 0)] (.int 0) := A2
      refine Own.iinc W2 d12_32 35 rfl rfl #[.val (.ref a), .val (.int (2 : Int32)), .val (.ref d), .val (.int (1 : Int32)), .val (.int (3 : Int32)), .val (.int (1 : Int32)), .val (.int ch1)] rfl ?_
      refine Own.iinc W2 d12_35 38 rfl rfl #[.val (.ref a), .val (.int (2 : Int32)), .val (.ref d), .val (.int (2 : Int32)), .val (.int (3 : Int32)), .val (.int (1 : Int32)), .val (.int ch1)] rfl ?_
      refine Own.iinc W2 d12_38 41 rfl rfl #[.val (.ref a), .val (.int (2 : Int32)), .val (.ref d), .val (.int (2 : Int32)), .val (.int (3 : Int32)), .val (.int (2 : Int32)), .val (.int ch1)] rfl ?_
      refine Own.goto W2 d12_41 3 (by decide) (by decide) ?_
      refine Own.iload W2 d12_3 5 rfl (2 : Int32) rfl ?_
      refine Own.iload W2 d12_5 7 rfl (3 : Int32) rfl ?_
      refine Own.icmpNo W2 d12_7 10 (by decide) rfl ?_
      refine Own.aloadN W2 d12_10 11 rfl (.ref a) rfl rfl ?_
      refine Own.iloadN W2 d12_11 12 rfl (2 : Int32) rfl ?_
      refine Own.caload W2 ((Ac.other Q1 had).other Q2 had) (by decide) (.int ch2) rfl d12_12 13 rfl ?_
      refine Own.istore W2 d12_13 15 rfl #[.val (.ref a), .val (.int (2 : Int32)), .val (.ref d), .val (.int (2 : Int32)), .val (.int (3 : Int32)), .val (.int (2 : Int32)), .val (.int ch2)] rfl ?_
      refine Own.iload W2 d12_15 17 rfl ch2 rfl ?_
      refine Own.sipush W2 d12_17 20 rfl (255 : Int32) rfl ?_
      by_cases e2 : (255 : Int32) < ch2
      · skip
        refine Own.icmpNo W2 d12_20 23 (XT.ii_le_f e2) rfl ?_
        refine Own.iload W2 d12_23 25 rfl (2 : Int32) rfl ?_
        exact Own.retI W2 (by decide) (by decide) rfl d12_25 ⟨Or.inr (Or.inr (⟨rfl, e2⟩)), (Keep.wr (Keep.wr (Keep.refl h [d]) Q1 (Or.inl (List.mem_singleton.mpr rfl))) Q2 (Or.inl (List.mem_singleton.mpr rfl)))⟩
      · skip
        refine Own.icmpYes W2 d12_20 26 (XT.ii_le_t e2) (by decide) (by decide) ?_
        refine Own.aloadN W2 d12_26 27 rfl (.ref d) rfl rfl ?_
        refine Own.iloadN W2 d12_27 28 rfl (2 : Int32) rfl ?_
        refine Own.iload W2 d12_28 30 rfl ch2 rfl ?_
        refine Own.i2b W2 d12_30 31 rfl ?_
        refine Own.bastore W2 V2 2 (by decide) (by decide) (Nat.le_of_ble_eq_true rfl) hn_d (k2 d (k1 d sd)) (x' := (ch2.toInt8.toInt32)) (Own.nar_b8 _) d12_31 32 rfl ?_
        intro T3 h3 W3 Q3 A3 k3
        have V3 : Arv G.Z h3 d kd .byte (3 : Int32) [(.int (ch0.toInt8.toInt32)), (.int (ch1.toInt8.toInt32)), (.int (ch2.toInt8.toInt32))] (.int 0) := A3
        exact absurd hw255 (by simp only [not_or]; exact ⟨e0, e1, e2⟩)
set_option maxRecDepth 65536 in
set_option maxHeartbeats 40000000 in
theorem con_c33 {G : Own.Gl} (hw : ∀ d ∈ tables_1, d.before G.a0 G.Z = true) (hEL : EW G.Z G.a0 G.EL) (TA : Sta G.Z G.Z.heap "java/lang/StringUTF16" "$assertionsDisabled" "Z" (.int 1)) (TH : Sta G.Z G.Z.heap "java/lang/StringUTF16" "HI_BYTE_SHIFT" "I" (.int 0)) (TL : Sta G.Z G.Z.heap "java/lang/StringUTF16" "LO_BYTE_SHIFT" "I" (.int 8)) (hEN6 : Own.EN G.Z G.a0 G.EL 6) {ch0 ch1 ch2 : Int32} (hw255 : (255 : Int32) < ch0 ∨ (255 : Int32) < ch1 ∨ (255 : Int32) < ch2) (r0 : Own.R16 ch0) (r1 : Own.R16 ch1) (r2 : Own.R16 ch2) {of ln : Int32} (hof : of = 0) (hln : ln = 3) {h : Heap} (hO : Old G.Z G.n0 h) {a : Addr} {kC : ClassId} {dv : Value} (Ac : Arv G.Z h a kC .char 3 [.int ch0, .int ch1, .int ch2] dv) :
    Own.Con G [] bC33 #[.ref a, .int of, .int ln] h [] (fun v h' => ∃ (o : Addr) (ko : ClassId), v = some (.ref o) ∧ Ext h h' ∧ h.size ≤ o ∧ Arv G.Z h' o ko .byte 6 [(.int (StrChars.lo8 ch0)), (.int (StrChars.hi8 ch0)), (.int (StrChars.lo8 ch1)), (.int (StrChars.hi8 ch1)), (.int (StrChars.lo8 ch2)), (.int (StrChars.hi8 ch2))] (.int 0)) := by
  refine Own.Con.intro (plainFor_of_name pn_0) hO hEL _ (fun m => ef_bC33 m a of ln) ?_
  intro X T0 W0 sf
  subst hof; subst hln
  refine Own.iloadN W0 d11_0 1 rfl (3 : Int32) rfl ?_
  refine Own.newA W0 (tw hw 19 rfl) d11_1 3 rfl (by decide) 3 (by decide) (by decide) 1 3 (by decide) (by decide) (by decide) (by decide) ?_
  intro T1 h1 o1 c1 g1 W1 E1 A1 s1 k1
  have V1 : Arv G.Z h1 o1 c1 .byte (3 : Int32) [(.int (0 : Int32)), (.int (0 : Int32)), (.int (0 : Int32))] (.int (0 : Int32)) := A1
  refine Own.astoreN W1 d11_3 4 rfl rfl #[.val (.ref a), .val (.int (0 : Int32)), .val (.int (3 : Int32)), .val (.ref o1), .unset, .unset] rfl ?_
  refine Own.aloadN W1 d11_4 5 rfl (.ref a) rfl rfl ?_
  refine Own.iloadN W1 d11_5 6 rfl (0 : Int32) rfl ?_
  refine Own.aloadN W1 d11_6 7 rfl (.ref o1) rfl rfl ?_
  refine Own.iconst W1 d11_7 8 rfl (0 : Int32) rfl ?_
  refine Own.iloadN W1 d11_8 9 rfl (3 : Int32) rfl ?_
  have X2 : Ext h h1 := E1
  refine Own.callS W1 (tw hw 55 rfl) (tw hw 56 rfl) (tw hw 53 rfl) (tw hw 57 rfl) (by decide) (argsL := [(.ref a), (.int (0 : Int32)), (.ref o1), (.int (0 : Int32)), (.int (3 : Int32))]) (rest := []) (Own.Con.pay (con_c53 hw hEL hw255 rfl rfl rfl W1.old (Nat.le_trans W0.n0 (Nat.le_of_eq g1.symm)) (Ac.ext X2) (Nat.ne_of_lt (Nat.lt_of_lt_of_le Ac.lt (Nat.le_of_eq g1.symm))) V1) W1 (tw hw 57 rfl) (tw hw 53 rfl) (len := 3) (wd := 0) (by decide) (by decide) (fun y hy => by cases List.mem_singleton.mp hy; exact ⟨V1.lt, s1⟩)) rfl (lenOf pd_3 rfl) rfl (Nat.le_of_ble_eq_true rfl) d11_9 12 rfl 1 3 (Nat.le_of_ble_eq_true rfl) (Nat.le_of_ble_eq_true rfl) (Nat.le_of_ble_eq_true rfl) (Nat.le_of_ble_eq_true rfl) ?_
  intro v3 T3 h3 u3 W3 R3 hq
  obtain ⟨hv3, K3⟩ := hq
  rcases hv3 with ⟨rfl, e0⟩ | ⟨rfl, e1⟩ | ⟨rfl, e2⟩
  · skip
    show Own.Go _ _ _ _ _ 12 #[.val (.ref a), .val (.int (0 : Int32)), .val (.int (3 : Int32)), .val (.ref o1), .unset, .unset] [(.int (0 : Int32))]
    refine Own.istore W3 d11_12 14 rfl #[.val (.ref a), .val (.int (0 : Int32)), .val (.int (3 : Int32)), .val (.ref o1), .val (.int (0 : Int32)), .unset] rfl ?_
    refine Own.iload W3 d11_14 16 rfl (0 : Int32) rfl ?_
    refine Own.iloadN W3 d11_16 17 rfl (3 : Int32) rfl ?_
    refine Own.icmpNo W3 d11_17 20 (by decide) rfl ?_
    refine Own.aloadN W3 d11_20 21 rfl (.ref a) rfl rfl ?_
    refine Own.iloadN W3 d11_21 22 rfl (0 : Int32) rfl ?_
    refine Own.iloadN W3 d11_22 23 rfl (3 : Int32) rfl ?_
    have X4 : Ext h h3 := Own.Ext.kp X2 K3 (allS (Nat.le_of_eq g1.symm) all0)
    refine Own.callS W3 (tw hw 95 rfl) (tw hw 96 rfl) (tw hw 53 rfl) (tw hw 97 rfl) (by decide) (argsL := [(.ref a), (.int (0 : Int32)), (.int (3 : Int32))]) (rest := []) (Own.Con.pay (con_tob3 hw hEL TA TH TL hEN6 rfl rfl W3.old (Ac.ext X4)) W3 (tw hw 97 rfl) (tw hw 53 rfl) (len := 3) (wd := 0) (by decide) (by decide) (fun _ q => nomatch q)) rfl (lenOf pd_4 rfl) rfl (Nat.le_of_ble_eq_true rfl) d11_23 26 rfl 2 9 (Nat.le_of_ble_eq_true rfl) (Nat.le_of_ble_eq_true rfl) (Nat.le_of_ble_eq_true rfl) (Nat.le_of_ble_eq_true rfl) ?_
    intro v5 T5 h5 u5 W5 R5 hq
    obtain ⟨o5, k5, rfl, E5, g5, A5⟩ := hq
    show Own.Go _ _ _ _ _ 26 #[.val (.ref a), .val (.int (0 : Int32)), .val (.int (3 : Int32)), .val (.ref o1), .val (.int (0 : Int32)), .unset] [(.ref o5)]
    refine Own.astore W5 d11_26 28 rfl rfl #[.val (.ref a), .val (.int (0 : Int32)), .val (.int (3 : Int32)), .val (.ref o1), .val (.int (0 : Int32)), .val (.ref o5)] rfl ?_
    refine Own.aload W5 d11_28 30 rfl (.ref o5) rfl rfl ?_
    refine Own.iload W5 d11_30 32 rfl (0 : Int32) rfl ?_
    refine Own.callS W5 (tw hw 111 rfl) (tw hw 112 rfl) (tw hw 53 rfl) (tw hw 113 rfl) (by decide) (argsL := [(.ref o5), (.int (0 : Int32))]) (rest := []) (Own.Con.pay (con_gc3_0 hw hEL TA TH TL r0 rfl W5.old A5) W5 (tw hw 113 rfl) (tw hw 53 rfl) (len := 3) (wd := 0) (by decide) (by decide) (fun _ q => nomatch q)) rfl (lenOf pd_5 rfl) rfl (Nat.le_of_ble_eq_true rfl) d11_32 35 rfl 2 9 (Nat.le_of_ble_eq_true rfl) (Nat.le_of_ble_eq_true rfl) (Nat.le_of_ble_eq_true rfl) (Nat.le_of_ble_eq_true rfl) ?_
    intro v6 T6 h6 u6 W6 R6 hq
    obtain ⟨rfl, eh6⟩ := hq
    have ei6 := eh6.symm; subst ei6
    show Own.Go _ _ _ _ _ 35 #[.val (.ref a), .val (.int (0 : Int32)), .val (.int (3 : Int32)), .val (.ref o1), .val (.int (0 : Int32)), .val (.ref o5)] [(.int ch0)]
    refine Own.sipush W6 d11_35 38 rfl (255 : Int32) rfl ?_
    refine Own.icmpYes W6 d11_38 54 (XT.ii_gt_t e0) (by decide) (by decide) ?_
    refine Own.aload W6 d11_54 56 rfl (.ref o5) rfl rfl ?_
    have X7 : Ext h h5 := Own.Ext.tr X4 E5
    exact Own.retA W6 (by decide) (by decide) rfl rfl rfl d11_56 ⟨o5, _, rfl, X7, (Nat.le_trans X4.1 g5), A5⟩
  · skip
    show Own.Go _ _ _ _ _ 12 #[.val (.ref a), .val (.int (0 : Int32)), .val (.int (3 : Int32)), .val (.ref o1), .unset, .unset] [(.int (1 : Int32))]
    refine Own.istore W3 d11_12 14 rfl #[.val (.ref a), .val (.int (0 : Int32)), .val (.int (3 : Int32)), .val (.ref o1), .val (.int (1 : Int32)), .unset] rfl ?_
    refine Own.iload W3 d11_14 16 rfl (1 : Int32) rfl ?_
    refine Own.iloadN W3 d11_16 17 rfl (3 : Int32) rfl ?_
    refine Own.icmpNo W3 d11_17 20 (by decide) rfl ?_
    refine Own.aloadN W3 d11_20 21 rfl (.ref a) rfl rfl ?_
    refine Own.iloadN W3 d11_21 22 rfl (0 : Int32) rfl ?_
    refine Own.iloadN W3 d11_22 23 rfl (3 : Int32) rfl ?_
    have X8 : Ext h h3 := Own.Ext.kp X2 K3 (allS (Nat.le_of_eq g1.symm) all0)
    refine Own.callS W3 (tw hw 95 rfl) (tw hw 96 rfl) (tw hw 53 rfl) (tw hw 97 rfl) (by decide) (argsL := [(.ref a), (.int (0 : Int32)), (.int (3 : Int32))]) (rest := []) (Own.Con.pay (con_tob3 hw hEL TA TH TL hEN6 rfl rfl W3.old (Ac.ext X8)) W3 (tw hw 97 rfl) (tw hw 53 rfl) (len := 3) (wd := 0) (by decide) (by decide) (fun _ q => nomatch q)) rfl (lenOf pd_4 rfl) rfl (Nat.le_of_ble_eq_true rfl) d11_23 26 rfl 2 9 (Nat.le_of_ble_eq_true rfl) (Nat.le_of_ble_eq_true rfl) (Nat.le_of_ble_eq_true rfl) (Nat.le_of_ble_eq_true rfl) ?_
    intro v9 T9 h9 u9 W9 R9 hq
    obtain ⟨o9, k9, rfl, E9, g9, A9⟩ := hq
    show Own.Go _ _ _ _ _ 26 #[.val (.ref a), .val (.int (0 : Int32)), .val (.int (3 : Int32)), .val (.ref o1), .val (.int (1 : Int32)), .unset] [(.ref o9)]
    refine Own.astore W9 d11_26 28 rfl rfl #[.val (.ref a), .val (.int (0 : Int32)), .val (.int (3 : Int32)), .val (.ref o1), .val (.int (1 : Int32)), .val (.ref o9)] rfl ?_
    refine Own.aload W9 d11_28 30 rfl (.ref o9) rfl rfl ?_
    refine Own.iload W9 d11_30 32 rfl (1 : Int32) rfl ?_
    refine Own.callS W9 (tw hw 111 rfl) (tw hw 112 rfl) (tw hw 53 rfl) (tw hw 113 rfl) (by decide) (argsL := [(.ref o9), (.int (1 : Int32))]) (rest := []) (Own.Con.pay (con_gc3_1 hw hEL TA TH TL r1 rfl W9.old A9) W9 (tw hw 113 rfl) (tw hw 53 rfl) (len := 3) (wd := 0) (by decide) (by decide) (fun _ q => nomatch q)) rfl (lenOf pd_5 rfl) rfl (Nat.le_of_ble_eq_true rfl) d11_32 35 rfl 2 9 (Nat.le_of_ble_eq_true rfl) (Nat.le_of_ble_eq_true rfl) (Nat.le_of_ble_eq_true rfl) (Nat.le_of_ble_eq_true rfl) ?_
    intro v10 T10 h10 u10 W10 R10 hq
    obtain ⟨rfl, eh10⟩ := hq
    have ei10 := eh10.symm; subst ei10
    show Own.Go _ _ _ _ _ 35 #[.val (.ref a), .val (.int (0 : Int32)), .val (.int (3 : Int32)), .val (.ref o1), .val (.int (1 : Int32)), .val (.ref o9)] [(.int ch1)]
    refine Own.sipush W10 d11_35 38 rfl (255 : Int32) rfl ?_
    refine Own.icmpYes W10 d11_38 54 (XT.ii_gt_t e1) (by decide) (by decide) ?_
    refine Own.aload W10 d11_54 56 rfl (.ref o9) rfl rfl ?_
    have X11 : Ext h h9 := Own.Ext.tr X8 E9
    exact Own.retA W10 (by decide) (by decide) rfl rfl rfl d11_56 ⟨o9, _, rfl, X11, (Nat.le_trans X8.1 g9), A9⟩
  · skip
    show Own.Go _ _ _ _ _ 12 #[.val (.ref a), .val (.int (0 : Int32)), .val (.int (3 : Int32)), .val (.ref o1), .unset, .unset] [(.int (2 : Int32))]
    refine Own.istore W3 d11_12 14 rfl #[.val (.ref a), .val (.int (0 : Int32)), .val (.int (3 : Int32)), .val (.ref o1), .val (.int (2 : Int32)), .unset] rfl ?_
    refine Own.iload W3 d11_14 16 rfl (2 : Int32) rfl ?_
    refine Own.iloadN W3 d11_16 17 rfl (3 : Int32) rfl ?_
    refine Own.icmpNo W3 d11_17 20 (by decide) rfl ?_
    refine Own.aloadN W3 d11_20 21 rfl (.ref a) rfl rfl ?_
    refine Own.iloadN W3 d11_21 22 rfl (0 : Int32) rfl ?_
    refine Own.iloadN W3 d11_22 23 rfl (3 : Int32) rfl ?_
    have X12 : Ext h h3 := Own.Ext.kp X2 K3 (allS (Nat.le_of_eq g1.symm) all0)
    refine Own.callS W3 (tw hw 95 rfl) (tw hw 96 rfl) (tw hw 53 rfl) (tw hw 97 rfl) (by decide) (argsL := [(.ref a), (.int (0 : Int32)), (.int (3 : Int32))]) (rest := []) (Own.Con.pay (con_tob3 hw hEL TA TH TL hEN6 rfl rfl W3.old (Ac.ext X12)) W3 (tw hw 97 rfl) (tw hw 53 rfl) (len := 3) (wd := 0) (by decide) (by decide) (fun _ q => nomatch q)) rfl (lenOf pd_4 rfl) rfl (Nat.le_of_ble_eq_true rfl) d11_23 26 rfl 2 9 (Nat.le_of_ble_eq_true rfl) (Nat.le_of_ble_eq_true rfl) (Nat.le_of_ble_eq_true rfl) (Nat.le_of_ble_eq_true rfl) ?_
    intro v13 T13 h13 u13 W13 R13 hq
    obtain ⟨o13, k13, rfl, E13, g13, A13⟩ := hq
    show Own.Go _ _ _ _ _ 26 #[.val (.ref a), .val (.int (0 : Int32)), .val (.int (3 : Int32)), .val (.ref o1), .val (.int (2 : Int32)), .unset] [(.ref o13)]
    refine Own.astore W13 d11_26 28 rfl rfl #[.val (.ref a), .val (.int (0 : Int32)), .val (.int (3 : Int32)), .val (.ref o1), .val (.int (2 : Int32)), .val (.ref o13)] rfl ?_
    refine Own.aload W13 d11_28 30 rfl (.ref o13) rfl rfl ?_
    refine Own.iload W13 d11_30 32 rfl (2 : Int32) rfl ?_
    refine Own.callS W13 (tw hw 111 rfl) (tw hw 112 rfl) (tw hw 53 rfl) (tw hw 113 rfl) (by decide) (argsL := [(.ref o13), (.int (2 : Int32))]) (rest := []) (Own.Con.pay (con_gc3_2 hw hEL TA TH TL r2 rfl W13.old A13) W13 (tw hw 113 rfl) (tw hw 53 rfl) (len := 3) (wd := 0) (by decide) (by decide) (fun _ q => nomatch q)) rfl (lenOf pd_5 rfl) rfl (Nat.le_of_ble_eq_true rfl) d11_32 35 rfl 2 9 (Nat.le_of_ble_eq_true rfl) (Nat.le_of_ble_eq_true rfl) (Nat.le_of_ble_eq_true rfl) (Nat.le_of_ble_eq_true rfl) ?_
    intro v14 T14 h14 u14 W14 R14 hq
    obtain ⟨rfl, eh14⟩ := hq
    have ei14 := eh14.symm; subst ei14
    show Own.Go _ _ _ _ _ 35 #[.val (.ref a), .val (.int (0 : Int32)), .val (.int (3 : Int32)), .val (.ref o1), .val (.int (2 : Int32)), .val (.ref o13)] [(.int ch2)]
    refine Own.sipush W14 d11_35 38 rfl (255 : Int32) rfl ?_
    refine Own.icmpYes W14 d11_38 54 (XT.ii_gt_t e2) (by decide) (by decide) ?_
    refine Own.aload W14 d11_54 56 rfl (.ref o13) rfl rfl ?_
    have X15 : Ext h h13 := Own.Ext.tr X12 E13
    exact Own.retA W14 (by decide) (by decide) rfl rfl rfl d11_56 ⟨o13, _, rfl, X15, (Nat.le_trans X12.1 g13), A13⟩
set_option maxRecDepth 65536 in
set_option maxHeartbeats 40000000 in
theorem con_cfl3 {G : Own.Gl} (hw : ∀ d ∈ tables_1, d.before G.a0 G.Z = true) (hEL : EW G.Z G.a0 G.EL) {b : Addr} {kb : ClassId} {vs : List Value} {dv : Value} {ln : Int32} (hln : ln = 3) {h : Heap} (hO : Old G.Z G.n0 h) (A : Arv G.Z h b kb .byte 6 vs dv) :
    Own.Con G [] bCfl3 #[.ref b, .int ln] h [] (fun v h' => v = some (.int 1) ∧ h' = h) := by
  refine Own.Con.intro (plainFor_of_name pn_0) hO hEL _ (fun m => ef_bCfl3 m b ln) ?_
  intro X T0 W0 sf
  subst hln
  refine Own.iloadN W0 d13_0 1 rfl (3 : Int32) rfl ?_
  refine Own.aloadN W0 d13_1 2 rfl (.ref b) rfl rfl ?_
  refine Own.arrlen W0 A d13_2 3 rfl ?_
  refine Own.isub W0 d13_3 4 rfl ?_
  refine Own.bipush W0 d13_4 6 rfl (31 : Int32) rfl ?_
  refine Own.iushr W0 d13_6 7 rfl ?_
  refine Own.i2b W0 d13_7 8 rfl ?_
  rw [show (((3 : Int32) - (6 : Int32)).toUInt32 >>> ((31 : Int32) &&& 31).toUInt32).toInt32.toInt8.toInt32 = (1 : Int32) by decide]
  exact Own.retY W0 (by decide) (by decide) rfl d13_8 rfl ⟨rfl, rfl⟩
set_option maxRecDepth 65536 in
set_option maxHeartbeats 40000000 in
theorem con_w43 {G : Own.Gl} (hw : ∀ d ∈ tables_1, d.before G.a0 G.Z = true) (hEL : EW G.Z G.a0 G.EL) (hmem : (Own.ST, 7) ∈ G.EL) {cz : Int32} (hS : Sta G.Z G.Z.heap Own.ST "COMPACT_STRINGS" "Z" (.int cz)) (hcz : ¬ cz = 0) (TA : Sta G.Z G.Z.heap "java/lang/StringUTF16" "$assertionsDisabled" "Z" (.int 1)) (TH : Sta G.Z G.Z.heap "java/lang/StringUTF16" "HI_BYTE_SHIFT" "I" (.int 0)) (TL : Sta G.Z G.Z.heap "java/lang/StringUTF16" "LO_BYTE_SHIFT" "I" (.int 8)) (hEN6 : Own.EN G.Z G.a0 G.EL 6) {ch0 ch1 ch2 : Int32} (hw255 : (255 : Int32) < ch0 ∨ (255 : Int32) < ch1 ∨ (255 : Int32) < ch2) (r0 : Own.R16 ch0) (r1 : Own.R16 ch1) (r2 : Own.R16 ch2) {of ln : Int32} (hof : of = 0) (hln : ln = 3) {x : Addr} {h : Heap} (hO : Old G.Z G.n0 h) (hn_x : G.n0 ≤ x) (E : Exa G.Z h x "java/lang/String") {v0 c0_ : Value} (V : Fld G.Z h x "java/lang/String" "value" "[B" v0) (Cd : Fld G.Z h x "java/lang/String" "coder" "B" c0_) {a : Addr} {kC : ClassId} {dv : Value} (Ac : Arv G.Z h a kC .char 3 [.int ch0, .int ch1, .int ch2] dv) :
    Own.Con G [] bW43 #[.ref x, .ref a, .int of, .int ln, .null] h [x] (fun v h' => v = none ∧ Keep h h' [x] ∧ Own.WStr G.Z h' x [ch0, ch1, ch2]) := by
  refine Own.Con.intro (plainFor_of_name pn_1) hO hEL _ (fun m => ef_bW43 m x a of ln) ?_
  intro X T0 W0 sf
  subst hof; subst hln
  have sx := sf x (List.mem_singleton.mpr rfl)
  refine Own.aloadN W0 d3_0 1 rfl (.ref x) rfl rfl ?_
  refine Own.initO W0 (tw hw 15 rfl) (tw hw 16 rfl) (tw hw 17 rfl) rfl d3_1 4 rfl (by decide) (by decide) ?_
  intro T1 W1
  refine Own.iloadN W1 d3_4 5 rfl (3 : Int32) rfl ?_
  refine Own.ifYes W1 d3_5 27 (by decide) (by decide) (by decide) ?_
  refine Own.getS W1 (tw hw 46 rfl) Via.refl (W1.sta hS) d3_27 30 rfl ?_
  intro T2 W2
  refine Own.ifNo W2 d3_30 33 (XT.i0_eq_f hcz) rfl ?_
  refine Own.aloadN W2 d3_33 34 rfl (.ref a) rfl rfl ?_
  refine Own.iloadN W2 d3_34 35 rfl (0 : Int32) rfl ?_
  refine Own.iloadN W2 d3_35 36 rfl (3 : Int32) rfl ?_
  refine Own.callS W2 (tw hw 51 rfl) (tw hw 52 rfl) (tw hw 53 rfl) (tw hw 54 rfl) (by decide) (argsL := [(.ref a), (.int (0 : Int32)), (.int (3 : Int32))]) (rest := []) (Own.Con.pay (con_c33 hw hEL TA TH TL hEN6 hw255 r0 r1 r2 rfl rfl W2.old Ac) W2 (tw hw 54 rfl) (tw hw 53 rfl) (len := 3) (wd := 0) (by decide) (by decide) (fun _ q => nomatch q)) rfl (lenOf pd_4 rfl) rfl (Nat.le_of_ble_eq_true rfl) d3_36 39 rfl 2 9 (Nat.le_of_ble_eq_true rfl) (Nat.le_of_ble_eq_true rfl) (Nat.le_of_ble_eq_true rfl) (Nat.le_of_ble_eq_true rfl) ?_
  intro v3 T3 h3 u3 W3 R3 hq
  obtain ⟨o3, k3, rfl, E3, g3, A3⟩ := hq
  show Own.Go _ _ _ _ _ 39 #[.val (.ref x), .val (.ref a), .val (.int (0 : Int32)), .val (.int (3 : Int32)), .val .null, .unset] [(.ref o3)]
  refine Own.astore W3 d3_39 41 rfl rfl #[.val (.ref x), .val (.ref a), .val (.int (0 : Int32)), .val (.int (3 : Int32)), .val .null, .val (.ref o3)] rfl ?_
  refine Own.aloadN W3 d3_41 42 rfl (.ref x) rfl rfl ?_
  refine Own.aload W3 d3_42 44 rfl (.ref o3) rfl rfl ?_
  refine Own.iloadN W3 d3_44 45 rfl (3 : Int32) rfl ?_
  refine Own.callS W3 (tw hw 58 rfl) (tw hw 59 rfl) (tw hw 53 rfl) (tw hw 60 rfl) (by decide) (argsL := [(.ref o3), (.int (3 : Int32))]) (rest := [(.ref x)]) (Own.Con.pay (con_cfl3 hw hEL rfl W3.old A3) W3 (tw hw 60 rfl) (tw hw 53 rfl) (len := 3) (wd := 1) (by decide) (by decide) (fun _ q => nomatch q)) rfl (lenOf pd_6 rfl) rfl (Nat.le_of_ble_eq_true rfl) d3_45 48 rfl 2 9 (Nat.le_of_ble_eq_true rfl) (Nat.le_of_ble_eq_true rfl) (Nat.le_of_ble_eq_true rfl) (Nat.le_of_ble_eq_true rfl) ?_
  intro v4 T4 h4 u4 W4 R4 hq
  obtain ⟨rfl, eh4⟩ := hq
  have ei4 := eh4.symm; subst ei4
  have X5 : Ext h h3 := E3
  have sf6 := R4.safe (E.ext X5).lt (R3.safe E.lt sx)
  show Own.Go _ _ _ _ _ 48 #[.val (.ref x), .val (.ref a), .val (.int (0 : Int32)), .val (.int (3 : Int32)), .val .null, .val (.ref o3)] [(.int (1 : Int32)), (.ref x)]
  refine Own.putF W4 (tw hw 25 rfl) Via.refl (Cd.ext X5) (E.ext X5) (Or.inr ⟨(tw hw 21 rfl), rfl, rfl⟩) (tw hw 5 rfl) (ty := .byte) (v' := (.int (1 : Int32))) (by decide) rfl rfl hn_x sf6 d3_48 51 rfl ?_
  intro T7 h7 W7 Q7 k7
  have F7_coder := Fld.same Q7 (Cd.ext X5)
  refine Own.aloadN W7 d3_51 52 rfl (.ref x) rfl rfl ?_
  refine Own.aload W7 d3_52 54 rfl (.ref o3) rfl rfl ?_
  refine Own.putF W7 (tw hw 24 rfl) Via.refl ((V.ext E3).other Q7 (Or.inr (slot_ne (Or.inr (tw hw 20 rfl)) (Or.inr (tw hw 21 rfl)) (by decide) (t := (.array .byte)) (t' := .byte) (by decide) (by decide)))) ((E.ext E3).wr Q7) (Or.inr ⟨(tw hw 20 rfl), rfl, rfl⟩) (tw hw 5 rfl) (ty := (.array .byte)) (v' := (.ref o3)) (by decide) rfl rfl hn_x (k7 x sf6) d3_54 57 rfl ?_
  intro T8 h8 W8 Q8 k8
  have F8_value := Fld.same Q8 ((V.ext E3).other Q7 (Or.inr (slot_ne (Or.inr (tw hw 20 rfl)) (Or.inr (tw hw 21 rfl)) (by decide) (t := (.array .byte)) (t' := .byte) (by decide) (by decide))))
  exact Own.retV W8 (by decide) (by decide) rfl d3_57 ⟨rfl, (Keep.wr (Keep.wr (Keep.ext (Keep.refl h [x]) E3) Q7 (Or.inl (by simp))) Q8 (Or.inl (by simp))), (((E.ext E3).wr Q7).wr Q8), (F7_coder.other Q8 (Or.inr (slot_ne (Or.inr (tw hw 21 rfl)) (Or.inr (tw hw 20 rfl)) (by decide) (t := .byte) (t' := (.array .byte)) (by decide) (by decide)))), (by intro c hc; simp only [List.mem_cons, List.not_mem_nil, or_false] at hc; rcases hc with rfl | rfl | rfl; exact r0; exact r1; exact r2), Nat.le_of_ble_eq_true rfl, (by rcases hw255 with q | q | q; exact ⟨ch0, by simp, q⟩; exact ⟨ch1, by simp, q⟩; exact ⟨ch2, by simp, q⟩), o3, _, F8_value, ((A3.other Q7 (Ne.symm (Nat.ne_of_lt (Nat.lt_of_lt_of_le E.lt g3)))).other Q8 (Ne.symm (Nat.ne_of_lt (Nat.lt_of_lt_of_le E.lt g3))))⟩
set_option maxRecDepth 65536 in
set_option maxHeartbeats 40000000 in
theorem con_w13 {G : Own.Gl} (hw : ∀ d ∈ tables_1, d.before G.a0 G.Z = true) (hEL : EW G.Z G.a0 G.EL) (hmem : (Own.ST, 7) ∈ G.EL) {cz : Int32} (hS : Sta G.Z G.Z.heap Own.ST "COMPACT_STRINGS" "Z" (.int cz)) (hcz : ¬ cz = 0) (TA : Sta G.Z G.Z.heap "java/lang/StringUTF16" "$assertionsDisabled" "Z" (.int 1)) (TH : Sta G.Z G.Z.heap "java/lang/StringUTF16" "HI_BYTE_SHIFT" "I" (.int 0)) (TL : Sta G.Z G.Z.heap "java/lang/StringUTF16" "LO_BYTE_SHIFT" "I" (.int 8)) (hEN6 : Own.EN G.Z G.a0 G.EL 6) {ch0 ch1 ch2 : Int32} (hw255 : (255 : Int32) < ch0 ∨ (255 : Int32) < ch1 ∨ (255 : Int32) < ch2) (r0 : Own.R16 ch0) (r1 : Own.R16 ch1) (r2 : Own.R16 ch2) {x : Addr} {h : Heap} (hO : Old G.Z G.n0 h) (hn_x : G.n0 ≤ x) (E : Exa G.Z h x "java/lang/String") {v0 c0_ : Value} (V : Fld G.Z h x "java/lang/String" "value" "[B" v0) (Cd : Fld G.Z h x "java/lang/String" "coder" "B" c0_) {a : Addr} {kC : ClassId} {dv : Value} (Ac : Arv G.Z h a kC .char 3 [.int ch0, .int ch1, .int ch2] dv) :
    Own.Con G [] bW13 #[.ref x, .ref a] h [x] (fun v h' => v = none ∧ Keep h h' [x] ∧ Own.WStr G.Z h' x [ch0, ch1, ch2]) := by
  refine Own.Con.intro (plainFor_of_name pn_1) hO hEL _ (fun m => ef_bW13 m x a) ?_
  intro X T0 W0 sf
  have sx := sf x (List.mem_singleton.mpr rfl)
  refine Own.aloadN W0 d2_0 1 rfl (.ref x) rfl rfl ?_
  refine Own.aloadN W0 d2_1 2 rfl (.ref a) rfl rfl ?_
  refine Own.iconst W0 d2_2 3 rfl (0 : Int32) rfl ?_
  refine Own.aloadN W0 d2_3 4 rfl (.ref a) rfl rfl ?_
  refine Own.arrlen W0 Ac d2_4 5 rfl ?_
  refine Own.aconstNull W0 d2_5 6 rfl ?_
  refine Own.callX W0 rfl (tw hw 11 rfl) (tw hw 12 rfl) (tw hw 14 rfl) (by decide) (argsL := [(.ref a), (.int (0 : Int32)), (.int (3 : Int32)), .null]) (rest := []) (Own.Con.pay (con_w43 hw hEL hmem hS hcz TA TH TL hEN6 hw255 r0 r1 r2 rfl rfl W0.old hn_x E V Cd Ac) W0 (tw hw 14 rfl) (tw hw 6 rfl) (len := 3) (wd := 0) (by decide) (by decide) (fun y hy => by cases List.mem_singleton.mp hy; exact ⟨E.lt, sx⟩)) rfl (lenOf pd_7 rfl) rfl (Nat.le_of_ble_eq_true rfl) d2_6 9 rfl 2 9 (Nat.le_of_ble_eq_true rfl) (Nat.le_of_ble_eq_true rfl) (Nat.le_of_ble_eq_true rfl) (Nat.le_of_ble_eq_true rfl) ?_
  intro v1 T1 h1 u1 W1 R1 hq
  obtain ⟨rfl, K1, F1⟩ := hq
  show Own.Go _ _ _ _ _ 9 #[.val (.ref x), .val (.ref a)] []
  exact Own.retV W1 (by decide) (by decide) rfl d2_9 ⟨rfl, K1, F1⟩
set_option maxRecDepth 65536 in
set_option maxHeartbeats 40000000 in
theorem con_sl0 {G : Own.Gl} (hw : ∀ d ∈ tables_1, d.before G.a0 G.Z = true) (hEL : EW G.Z G.a0 G.EL) (hmem : (Own.ST, 7) ∈ G.EL) {cz : Int32} (hS : Sta G.Z G.Z.heap Own.ST "COMPACT_STRINGS" "Z" (.int cz)) (hcz : ¬ cz = 0) {x : Addr} {h : Heap} (hO : Old G.Z G.n0 h) (F : Fld G.Z h x "java/lang/String" "coder" "B" (.int 1)) :
    Own.Con G [] bSl0 #[.ref x] h [] (fun v h' => v = some (.int 0) ∧ h' = h) := by
  refine Own.Con.intro (plainFor_of_name pn_1) hO hEL _ (fun m => ef_bSl0 m x) ?_
  intro X T0 W0 sf
  refine Own.getS W0 (tw hw 46 rfl) Via.refl (W0.sta hS) d17_0 3 rfl ?_
  intro T1 W1
  refine Own.ifNo W1 d17_3 6 (XT.i0_eq_f hcz) rfl ?_
  refine Own.aloadN W1 d17_6 7 rfl (.ref x) rfl rfl ?_
  refine Own.getF W1 (tw hw 25 rfl) Via.refl F d17_7 10 rfl ?_
  intro T2 W2
  refine Own.ifYes W2 d17_10 17 (by decide) (by decide) (by decide) ?_
  refine Own.iconst W2 d17_17 18 rfl (0 : Int32) rfl ?_
  exact Own.retB W2 (by decide) (by decide) rfl d17_18 rfl ⟨rfl, rfl⟩
set_option maxRecDepth 65536 in
set_option maxHeartbeats 40000000 in
theorem con_ul {G : Own.Gl} (hw : ∀ d ∈ tables_1, d.before G.a0 G.Z = true) (hEL : EW G.Z G.a0 G.EL) {b : Addr} {kb : ClassId} {cs : List Int32} (hl : cs.length ≤ 2000) {h : Heap} (hO : Old G.Z G.n0 h) (A : Arv G.Z h b kb .byte (Int32.ofNat (2 * cs.length)) (StrChars.Road.wideBytes cs) (.int 0)) :
    Own.Con G [] bUl #[.ref b] h [] (fun v h' => v = some (.int (Int32.ofNat cs.length)) ∧ h' = h) := by
  refine Own.Con.intro (plainFor_of_name pn_0) hO hEL _ (fun m => ef_bUl m b) ?_
  intro X T0 W0 sf
  refine Own.aloadN W0 d29_0 1 rfl (.ref b) rfl rfl ?_
  refine Own.arrlen W0 A d29_1 2 rfl ?_
  refine Own.iconst W0 d29_2 3 rfl (1 : Int32) rfl ?_
  refine Own.ishr W0 d29_3 4 rfl ?_
  rw [Own.shr1 hl]
  exact Own.retI W0 (by decide) (by decide) rfl d29_4 ⟨rfl, rfl⟩
set_option maxRecDepth 65536 in
set_option maxHeartbeats 40000000 in
theorem con_pc0 {G : Own.Gl} (hw : ∀ d ∈ tables_1, d.before G.a0 G.Z = true) (hEL : EW G.Z G.a0 G.EL) (fr : Addr) (i n : Int32) (h0 : ¬ i < 0) (h1 : i < n) {h : Heap} (hO : Old G.Z G.n0 h) :
    Own.Con G [] bPc0 #[.int i, .int n, .ref fr] h [] (fun v h' => v = some (.int i) ∧ h' = h) := by
  refine Own.Con.intro (plainFor_of_name pn_2) hO hEL _ (fun m => ef_bPc0 m i n fr) ?_
  intro X T0 W0 sf
  refine Own.iloadN W0 d20_0 1 rfl i rfl ?_
  refine Own.ifNo W0 d20_1 4 (XT.i0_lt_f h0) rfl ?_
  refine Own.iloadN W0 d20_4 5 rfl i rfl ?_
  refine Own.iloadN W0 d20_5 6 rfl n rfl ?_
  refine Own.icmpYes W0 d20_6 16 (XT.ii_lt_t h1) (by decide) (by decide) ?_
  refine Own.iloadN W0 d20_16 17 rfl i rfl ?_
  exact Own.retI W0 (by decide) (by decide) rfl d20_17 ⟨rfl, rfl⟩
set_option maxRecDepth 65536 in
set_option maxHeartbeats 40000000 in
theorem con_pc1 {G : Own.Gl} (hw : ∀ d ∈ tables_1, d.before G.a0 G.Z = true) (hEL : EW G.Z G.a0 G.EL) (i n : Int32) (h0 : ¬ i < 0) (h1 : i < n) {h : Heap} (hO : Old G.Z G.n0 h) :
    Own.Con G [] bPc1 #[.int i, .int n, .null] h [] (fun v h' => v = some (.int i) ∧ h' = h) := by
  refine Own.Con.intro (plainFor_of_name pn_2) hO hEL _ (fun m => ef_bPc1 m i n) ?_
  intro X T0 W0 sf
  refine Own.iloadN W0 d20_0 1 rfl i rfl ?_
  refine Own.ifNo W0 d20_1 4 (XT.i0_lt_f h0) rfl ?_
  refine Own.iloadN W0 d20_4 5 rfl i rfl ?_
  refine Own.iloadN W0 d20_5 6 rfl n rfl ?_
  refine Own.icmpYes W0 d20_6 16 (XT.ii_lt_t h1) (by decide) (by decide) ?_
  refine Own.iloadN W0 d20_16 17 rfl i rfl ?_
  exact Own.retI W0 (by decide) (by decide) rfl d20_17 ⟨rfl, rfl⟩
set_option maxRecDepth 65536 in
set_option maxHeartbeats 40000000 in
theorem con_sci {G : Own.Gl} (hw : ∀ d ∈ tables_1, d.before G.a0 G.Z = true) (hEL : EW G.Z G.a0 G.EL) {fm : Value} (SF : Sta G.Z G.Z.heap "jdk/internal/util/Preconditions" "SIOOBE_FORMATTER" "Ljava/util/function/BiFunction;" fm) (rfm : fm.isRef = true) (i n : Int32) (h0 : ¬ i < 0) (h1 : i < n) {h : Heap} (hO : Old G.Z G.n0 h) :
    Own.Con G [] bSci #[.int i, .int n] h [] (fun v h' => v = none ∧ h' = h) := by
  refine Own.Con.intro (plainFor_of_name pn_1) hO hEL _ (fun m => ef_bSci m i n) ?_
  intro X T0 W0 sf
  have hfm : (∃ r, fm = .ref r) ∨ fm = .null := by cases fm <;> simp_all [Value.isRef]
  rcases hfm with ⟨fr, rfl⟩ | rfl
  · skip
    refine Own.iloadN W0 d19_0 1 rfl i rfl ?_
    refine Own.iloadN W0 d19_1 2 rfl n rfl ?_
    refine Own.getS W0 (tw hw 85 rfl) Via.refl (W0.sta SF) d19_2 5 rfl ?_
    intro T1 W1
    refine Own.callS W1 (tw hw 87 rfl) (tw hw 88 rfl) (tw hw 86 rfl) (tw hw 89 rfl) (by decide) (argsL := [(.int i), (.int n), (.ref fr)]) (rest := []) (Own.Con.pay (con_pc0 hw hEL fr i n h0 h1 W1.old) W1 (tw hw 89 rfl) (tw hw 86 rfl) (len := 3) (wd := 0) (by decide) (by decide) (fun _ q => nomatch q)) rfl (lenOf pd_8 rfl) rfl (Nat.le_of_ble_eq_true rfl) d19_5 8 rfl 0 0 (Nat.le_of_ble_eq_true rfl) (Nat.le_of_ble_eq_true rfl) (Nat.le_of_ble_eq_true rfl) (Nat.le_of_ble_eq_true rfl) ?_
    intro v2 T2 h2 u2 W2 R2 hq
    obtain ⟨rfl, eh2⟩ := hq
    have ei2 := eh2.symm; subst ei2
    show Own.Go _ _ _ _ _ 8 #[.val (.int i), .val (.int n)] [(.int i)]
    refine Own.pop W2 d19_8 9 rfl rfl ?_
    exact Own.retV W2 (by decide) (by decide) rfl d19_9 ⟨rfl, rfl⟩
  · skip
    refine Own.iloadN W0 d19_0 1 rfl i rfl ?_
    refine Own.iloadN W0 d19_1 2 rfl n rfl ?_
    refine Own.getS W0 (tw hw 85 rfl) Via.refl (W0.sta SF) d19_2 5 rfl ?_
    intro T3 W3
    refine Own.callS W3 (tw hw 87 rfl) (tw hw 88 rfl) (tw hw 86 rfl) (tw hw 89 rfl) (by decide) (argsL := [(.int i), (.int n), .null]) (rest := []) (Own.Con.pay (con_pc1 hw hEL i n h0 h1 W3.old) W3 (tw hw 89 rfl) (tw hw 86 rfl) (len := 3) (wd := 0) (by decide) (by decide) (fun _ q => nomatch q)) rfl (lenOf pd_8 rfl) rfl (Nat.le_of_ble_eq_true rfl) d19_5 8 rfl 0 0 (Nat.le_of_ble_eq_true rfl) (Nat.le_of_ble_eq_true rfl) (Nat.le_of_ble_eq_true rfl) (Nat.le_of_ble_eq_true rfl) ?_
    intro v4 T4 h4 u4 W4 R4 hq
    obtain ⟨rfl, eh4⟩ := hq
    have ei4 := eh4.symm; subst ei4
    show Own.Go _ _ _ _ _ 8 #[.val (.int i), .val (.int n)] [(.int i)]
    refine Own.pop W4 d19_8 9 rfl rfl ?_
    exact Own.retV W4 (by decide) (by decide) rfl d19_9 ⟨rfl, rfl⟩
set_option maxRecDepth 65536 in
set_option maxHeartbeats 40000000 in
theorem con_uci {G : Own.Gl} (hw : ∀ d ∈ tables_1, d.before G.a0 G.Z = true) (hEL : EW G.Z G.a0 G.EL) {fm : Value} (SF : Sta G.Z G.Z.heap "jdk/internal/util/Preconditions" "SIOOBE_FORMATTER" "Ljava/util/function/BiFunction;" fm) (rfm : fm.isRef = true) {b : Addr} {kb : ClassId} {cs : List Int32} (hl : cs.length ≤ 2000) {h : Heap} (hO : Old G.Z G.n0 h) (A : Arv G.Z h b kb .byte (Int32.ofNat (2 * cs.length)) (StrChars.Road.wideBytes cs) (.int 0)) (i : Int32) (h0 : ¬ i < 0) (h1 : i < (Int32.ofNat cs.length)) :
    Own.Con G [] bUci #[.int i, .ref b] h [] (fun v h' => v = none ∧ h' = h) := by
  refine Own.Con.intro (plainFor_of_name pn_0) hO hEL _ (fun m => ef_bUci m i b) ?_
  intro X T0 W0 sf
  refine Own.iloadN W0 d28_0 1 rfl i rfl ?_
  refine Own.aloadN W0 d28_1 2 rfl (.ref b) rfl rfl ?_
  refine Own.callS W0 (tw hw 120 rfl) (tw hw 121 rfl) (tw hw 53 rfl) (tw hw 122 rfl) (by decide) (argsL := [(.ref b)]) (rest := [(.int i)]) (Own.Con.pay (con_ul hw hEL hl W0.old A) W0 (tw hw 122 rfl) (tw hw 53 rfl) (len := 3) (wd := 1) (by decide) (by decide) (fun _ q => nomatch q)) rfl (lenOf pd_9 rfl) rfl (Nat.le_of_ble_eq_true rfl) d28_2 5 rfl 0 0 (Nat.le_of_ble_eq_true rfl) (Nat.le_of_ble_eq_true rfl) (Nat.le_of_ble_eq_true rfl) (Nat.le_of_ble_eq_true rfl) ?_
  intro v1 T1 h1 u1 W1 R1 hq
  obtain ⟨rfl, eh1⟩ := hq
  have ei1 := eh1.symm; subst ei1
  show Own.Go _ _ _ _ _ 5 #[.val (.int i), .val (.ref b)] [(.int (Int32.ofNat cs.length)), (.int i)]
  refine Own.callS W1 (tw hw 123 rfl) (tw hw 83 rfl) (tw hw 6 rfl) (tw hw 84 rfl) (by decide) (argsL := [(.int i), (.int (Int32.ofNat cs.length))]) (rest := []) (Own.Con.pay (con_sci hw hEL SF rfm i _ h0 h1 W1.old) W1 (tw hw 84 rfl) (tw hw 6 rfl) (len := 3) (wd := 0) (by decide) (by decide) (fun _ q => nomatch q)) rfl (lenOf pd_10 rfl) rfl (Nat.le_of_ble_eq_true rfl) d28_5 8 rfl 0 0 (Nat.le_of_ble_eq_true rfl) (Nat.le_of_ble_eq_true rfl) (Nat.le_of_ble_eq_true rfl) (Nat.le_of_ble_eq_true rfl) ?_
  intro v2 T2 h2 u2 W2 R2 hq
  obtain ⟨rfl, eh2⟩ := hq
  have ei2 := eh2.symm; subst ei2
  show Own.Go _ _ _ _ _ 8 #[.val (.int i), .val (.ref b)] []
  exact Own.retV W2 (by decide) (by decide) rfl d28_8 ⟨rfl, rfl⟩
set_option maxRecDepth 65536 in
set_option maxHeartbeats 40000000 in
theorem con_gg0 {G : Own.Gl} (hw : ∀ d ∈ tables_1, d.before G.a0 G.Z = true) (hEL : EW G.Z G.a0 G.EL) (TA : Sta G.Z G.Z.heap "java/lang/StringUTF16" "$assertionsDisabled" "Z" (.int 1)) (TH : Sta G.Z G.Z.heap "java/lang/StringUTF16" "HI_BYTE_SHIFT" "I" (.int 0)) (TL : Sta G.Z G.Z.heap "java/lang/StringUTF16" "LO_BYTE_SHIFT" "I" (.int 8)) {b : Addr} {kb : ClassId} {cs : List Int32} (hl : cs.length ≤ 2000) {h : Heap} (hO : Old G.Z G.n0 h) (A : Arv G.Z h b kb .byte (Int32.ofNat (2 * cs.length)) (StrChars.Road.wideBytes cs) (.int 0)) (hr : ∀ c ∈ cs, ¬ c < 0 ∧ ¬ (65535 : Int32) < c) (hi : 0 < cs.length) {ii : Int32} (hii : ii = 0) :
    Own.Con G [] bGg0 #[.ref b, .int ii] h [] (fun v h' => v = some (.int (cs.getD 0 0)) ∧ h' = h) := by
  refine Own.Con.intro (plainFor_of_name pn_0) hO hEL _ (fun m => ef_bGg0 m b ii) ?_
  intro X T0 W0 sf
  subst hii
  refine Own.getS W0 (tw hw 108 rfl) Via.refl (W0.sta TA) d26_0 3 rfl ?_
  intro T1 W1
  refine Own.ifYes W1 d26_3 28 (by decide) (by decide) (by decide) ?_
  refine Own.iloadN W1 d26_28 29 rfl (0 : Int32) rfl ?_
  refine Own.iconst W1 d26_29 30 rfl (1 : Int32) rfl ?_
  refine Own.ishl W1 d26_30 31 rfl ?_
  rw [show ((0 : Int32) <<< ((1 : Int32) &&& 31)) = (0 : Int32) by decide]
  refine Own.istoreN W1 d26_31 32 rfl #[.val (.ref b), .val (.int (0 : Int32))] rfl ?_
  refine Own.aloadN W1 d26_32 33 rfl (.ref b) rfl rfl ?_
  refine Own.iloadN W1 d26_33 34 rfl (0 : Int32) rfl ?_
  refine Own.iinc W1 d26_34 37 rfl rfl #[.val (.ref b), .val (.int (1 : Int32))] rfl ?_
  refine Own.baload W1 A ⟨by decide, Own.lt2 (k := 0) (by omega) (by omega)⟩ (.int (StrChars.lo8 (cs.getD 0 0))) (by rw [show (0 : Int32).toNatClampNeg = 2 * 0 by decide]; exact StrChars.Road.wide_lo (.int 0) cs 0 hi) d26_37 38 rfl ?_
  refine Own.sipush W1 d26_38 41 rfl (255 : Int32) rfl ?_
  refine Own.iand W1 d26_41 42 rfl ?_
  refine Own.getS W1 (tw hw 109 rfl) Via.refl (W1.sta TH) d26_42 45 rfl ?_
  intro T2 W2
  refine Own.ishl W2 d26_45 46 rfl ?_
  refine Own.aloadN W2 d26_46 47 rfl (.ref b) rfl rfl ?_
  refine Own.iloadN W2 d26_47 48 rfl (1 : Int32) rfl ?_
  refine Own.baload W2 A ⟨by decide, Own.lt2 (k := 1) (by omega) (by omega)⟩ (.int (StrChars.hi8 (cs.getD 0 0))) (by rw [show (1 : Int32).toNatClampNeg = 2 * 0 + 1 by decide]; exact StrChars.Road.wide_hi (.int 0) cs 0 hi) d26_48 49 rfl ?_
  refine Own.sipush W2 d26_49 52 rfl (255 : Int32) rfl ?_
  refine Own.iand W2 d26_52 53 rfl ?_
  refine Own.getS W2 (tw hw 110 rfl) Via.refl (W2.sta TL) d26_53 56 rfl ?_
  intro T3 W3
  refine Own.ishl W3 d26_56 57 rfl ?_
  refine Own.ior W3 d26_57 58 rfl ?_
  refine Own.i2c W3 d26_58 59 rfl ?_
  show Own.Go _ _ _ _ _ 59 #[.val (.ref b), .val (.int (1 : Int32))] [.int (StrChars.pairCh (StrChars.lo8 (cs.getD 0 0)) (StrChars.hi8 (cs.getD 0 0)))]
  rw [StrChars.pair_says (Own.r16At hr hi).1 (Own.r16At hr hi).2]
  exact Own.retC W3 (by decide) (by decide) rfl d26_59 (Own.narC (Own.r16At hr hi)) ⟨rfl, rfl⟩
set_option maxRecDepth 65536 in
set_option maxHeartbeats 40000000 in
theorem con_uch0 {G : Own.Gl} (hw : ∀ d ∈ tables_1, d.before G.a0 G.Z = true) (hEL : EW G.Z G.a0 G.EL) {fm : Value} (SF : Sta G.Z G.Z.heap "jdk/internal/util/Preconditions" "SIOOBE_FORMATTER" "Ljava/util/function/BiFunction;" fm) (rfm : fm.isRef = true) (TA : Sta G.Z G.Z.heap "java/lang/StringUTF16" "$assertionsDisabled" "Z" (.int 1)) (TH : Sta G.Z G.Z.heap "java/lang/StringUTF16" "HI_BYTE_SHIFT" "I" (.int 0)) (TL : Sta G.Z G.Z.heap "java/lang/StringUTF16" "LO_BYTE_SHIFT" "I" (.int 8)) {b : Addr} {kb : ClassId} {cs : List Int32} (hl : cs.length ≤ 2000) {h : Heap} (hO : Old G.Z G.n0 h) (A : Arv G.Z h b kb .byte (Int32.ofNat (2 * cs.length)) (StrChars.Road.wideBytes cs) (.int 0)) (hr : ∀ c ∈ cs, ¬ c < 0 ∧ ¬ (65535 : Int32) < c) (hi : 0 < cs.length) {ii : Int32} (hii : ii = 0) :
    Own.Con G [] bUch0 #[.ref b, .int ii] h [] (fun v h' => v = some (.int (cs.getD 0 0)) ∧ h' = h) := by
  refine Own.Con.intro (plainFor_of_name pn_0) hO hEL _ (fun m => ef_bUch0 m b ii) ?_
  intro X T0 W0 sf
  subst hii
  refine Own.iloadN W0 d27_0 1 rfl (0 : Int32) rfl ?_
  refine Own.aloadN W0 d27_1 2 rfl (.ref b) rfl rfl ?_
  refine Own.callS W0 (tw hw 117 rfl) (tw hw 118 rfl) (tw hw 53 rfl) (tw hw 119 rfl) (by decide) (argsL := [(.int (0 : Int32)), (.ref b)]) (rest := []) (Own.Con.pay (con_uci hw hEL SF rfm hl W0.old A (0 : Int32) (by decide) (Own.lt2 (k := 0) hi (by omega))) W0 (tw hw 119 rfl) (tw hw 53 rfl) (len := 3) (wd := 0) (by decide) (by decide) (fun _ q => nomatch q)) rfl (lenOf pd_11 rfl) rfl (Nat.le_of_ble_eq_true rfl) d27_2 5 rfl 0 0 (Nat.le_of_ble_eq_true rfl) (Nat.le_of_ble_eq_true rfl) (Nat.le_of_ble_eq_true rfl) (Nat.le_of_ble_eq_true rfl) ?_
  intro v1 T1 h1 u1 W1 R1 hq
  obtain ⟨rfl, eh1⟩ := hq
  have ei1 := eh1.symm; subst ei1
  show Own.Go _ _ _ _ _ 5 #[.val (.ref b), .val (.int (0 : Int32))] []
  refine Own.aloadN W1 d27_5 6 rfl (.ref b) rfl rfl ?_
  refine Own.iloadN W1 d27_6 7 rfl (0 : Int32) rfl ?_
  refine Own.callS W1 (tw hw 111 rfl) (tw hw 112 rfl) (tw hw 53 rfl) (tw hw 113 rfl) (by decide) (argsL := [(.ref b), (.int (0 : Int32))]) (rest := []) (Own.Con.pay (con_gg0 hw hEL TA TH TL hl W1.old A hr hi rfl) W1 (tw hw 113 rfl) (tw hw 53 rfl) (len := 3) (wd := 0) (by decide) (by decide) (fun _ q => nomatch q)) rfl (lenOf pd_5 rfl) rfl (Nat.le_of_ble_eq_true rfl) d27_7 10 rfl 0 0 (Nat.le_of_ble_eq_true rfl) (Nat.le_of_ble_eq_true rfl) (Nat.le_of_ble_eq_true rfl) (Nat.le_of_ble_eq_true rfl) ?_
  intro v2 T2 h2 u2 W2 R2 hq
  obtain ⟨rfl, eh2⟩ := hq
  have ei2 := eh2.symm; subst ei2
  show Own.Go _ _ _ _ _ 10 #[.val (.ref b), .val (.int (0 : Int32))] [(.int (cs.getD 0 0))]
  exact Own.retC W2 (by decide) (by decide) rfl d27_10 (Own.narC (Own.r16At hr hi)) ⟨rfl, rfl⟩
set_option maxRecDepth 65536 in
set_option maxHeartbeats 40000000 in
theorem con_wc0 {G : Own.Gl} (hw : ∀ d ∈ tables_1, d.before G.a0 G.Z = true) (hEL : EW G.Z G.a0 G.EL) (hmem : (Own.ST, 7) ∈ G.EL) {cz : Int32} (hS : Sta G.Z G.Z.heap Own.ST "COMPACT_STRINGS" "Z" (.int cz)) (hcz : ¬ cz = 0) {fm : Value} (SF : Sta G.Z G.Z.heap "jdk/internal/util/Preconditions" "SIOOBE_FORMATTER" "Ljava/util/function/BiFunction;" fm) (rfm : fm.isRef = true) (TA : Sta G.Z G.Z.heap "java/lang/StringUTF16" "$assertionsDisabled" "Z" (.int 1)) (TH : Sta G.Z G.Z.heap "java/lang/StringUTF16" "HI_BYTE_SHIFT" "I" (.int 0)) (TL : Sta G.Z G.Z.heap "java/lang/StringUTF16" "LO_BYTE_SHIFT" "I" (.int 8)) {x : Addr} {cs : List Int32} {h : Heap} (hO : Old G.Z G.n0 h) (Sx : Own.WStr G.Z h x cs) (hi : 0 < cs.length) {ii : Int32} (hii : ii = 0) :
    Own.Con G [] bWc0 #[.ref x, .int ii] h [] (fun v h' => v = some (.int (cs.getD 0 0)) ∧ h' = h) := by
  refine Own.Con.intro (plainFor_of_name pn_1) hO hEL _ (fun m => ef_bWc0 m x ii) ?_
  intro X T0 W0 sf
  subst hii
  obtain ⟨Ex, Xc, hr, hl, -, b, kb, Xv, A⟩ := id Sx
  refine Own.aloadN W0 d16_0 1 rfl (.ref x) rfl rfl ?_
  refine Own.callV W0 (tw hw 73 rfl) (tw hw 74 rfl) (fun s q => notFace_of_selects (args := #[]) (mvT (s := s) q (tw hw 76 rfl))) (tw hw 76 rfl) (tw hw 75 rfl) (by decide) (argsL := []) (rest := []) (Own.Con.pay (con_sl0 hw hEL hmem hS hcz W0.old Xc) W0 (tw hw 77 rfl) (tw hw 6 rfl) (len := 3) (wd := 0) (by decide) (by decide) (fun _ q => nomatch q)) Ex rfl (lenOf pd_12 rfl) rfl (Nat.le_of_ble_eq_true rfl) d16_1 4 rfl 0 0 (Nat.le_of_ble_eq_true rfl) (Nat.le_of_ble_eq_true rfl) (Nat.le_of_ble_eq_true rfl) (Nat.le_of_ble_eq_true rfl) ?_
  intro v1 T1 h1 u1 W1 R1 hq
  obtain ⟨rfl, eh1⟩ := hq
  have ei1 := eh1.symm; subst ei1
  show Own.Go _ _ _ _ _ 4 #[.val (.ref x), .val (.int (0 : Int32))] [(.int (0 : Int32))]
  refine Own.ifYes W1 d16_4 16 (by decide) (by decide) (by decide) ?_
  refine Own.aloadN W1 d16_16 17 rfl (.ref x) rfl rfl ?_
  refine Own.getF W1 (tw hw 24 rfl) Via.refl Xv d16_17 20 rfl ?_
  intro T2 W2
  refine Own.iloadN W2 d16_20 21 rfl (0 : Int32) rfl ?_
  refine Own.callS W2 (tw hw 114 rfl) (tw hw 115 rfl) (tw hw 53 rfl) (tw hw 116 rfl) (by decide) (argsL := [(.ref b), (.int (0 : Int32))]) (rest := []) (Own.Con.pay (con_uch0 hw hEL SF rfm TA TH TL hl W2.old A hr hi rfl) W2 (tw hw 116 rfl) (tw hw 53 rfl) (len := 3) (wd := 0) (by decide) (by decide) (fun _ q => nomatch q)) rfl (lenOf pd_5 rfl) rfl (Nat.le_of_ble_eq_true rfl) d16_21 24 rfl 0 0 (Nat.le_of_ble_eq_true rfl) (Nat.le_of_ble_eq_true rfl) (Nat.le_of_ble_eq_true rfl) (Nat.le_of_ble_eq_true rfl) ?_
  intro v3 T3 h3 u3 W3 R3 hq
  obtain ⟨rfl, eh3⟩ := hq
  have ei3 := eh3.symm; subst ei3
  show Own.Go _ _ _ _ _ 24 #[.val (.ref x), .val (.int (0 : Int32))] [(.int (cs.getD 0 0))]
  exact Own.retC W3 (by decide) (by decide) rfl d16_24 (Own.narC (Own.r16At hr hi)) ⟨rfl, rfl⟩
theorem payChU0 {G : Own.Gl} (hw : ∀ d ∈ tables_1, d.before G.a0 G.Z = true) (hEL : EW G.Z G.a0 G.EL) (hmem : (Own.ST, 7) ∈ G.EL) {cz : Int32} (hS : Sta G.Z G.Z.heap Own.ST "COMPACT_STRINGS" "Z" (.int cz)) (hcz : ¬ cz = 0) {fm : Value} (SF : Sta G.Z G.Z.heap "jdk/internal/util/Preconditions" "SIOOBE_FORMATTER" "Ljava/util/function/BiFunction;" fm) (rfm : fm.isRef = true) (TA : Sta G.Z G.Z.heap "java/lang/StringUTF16" "$assertionsDisabled" "Z" (.int 1)) (TH : Sta G.Z G.Z.heap "java/lang/StringUTF16" "HI_BYTE_SHIFT" "I" (.int 0)) (TL : Sta G.Z G.Z.heap "java/lang/StringUTF16" "LO_BYTE_SHIFT" "I" (.int 8)) {X : Own.Rn} {M : Own.Bo} {vm : Vm} {T : State} {h : Heap} {C S : Nat} (W : Own.Here G X M vm T h C S) {x : Addr} {cs : List Int32} (F : Own.Uni G.Z h x cs) (hi : 0 < cs.length) {len wd : Nat} (hf : 5 ≤ M.R.frames) (hlo : wd + 79 ≤ M.R.locals) :
    Own.Pay G X M vm h ⟨"java/lang/String", "charAt", "(I)C"⟩ len wd #[.ref x, .int 0] 0 0 (fun v h' => v = some (.int (cs.getD 0 0)) ∧ h' = h) := by
  rcases F with F | F
  · exact Own.payChr (wC hw) (kI := 4) (tw hw 5 rfl) W F hS hcz SF rfm hi rfl (by omega) (by omega)
  · exact Own.Con.pay (con_wc0 hw hEL hmem hS hcz SF rfm TA TH TL W.old F hi rfl) W (tw hw 72 rfl) (tw hw 6 rfl) hf (by show wd + (2 + 11) + 66 ≤ _; omega) (fun _ q => nomatch q)
set_option maxRecDepth 65536 in
set_option maxHeartbeats 40000000 in
theorem con_gg1 {G : Own.Gl} (hw : ∀ d ∈ tables_1, d.before G.a0 G.Z = true) (hEL : EW G.Z G.a0 G.EL) (TA : Sta G.Z G.Z.heap "java/lang/StringUTF16" "$assertionsDisabled" "Z" (.int 1)) (TH : Sta G.Z G.Z.heap "java/lang/StringUTF16" "HI_BYTE_SHIFT" "I" (.int 0)) (TL : Sta G.Z G.Z.heap "java/lang/StringUTF16" "LO_BYTE_SHIFT" "I" (.int 8)) {b : Addr} {kb : ClassId} {cs : List Int32} (hl : cs.length ≤ 2000) {h : Heap} (hO : Old G.Z G.n0 h) (A : Arv G.Z h b kb .byte (Int32.ofNat (2 * cs.length)) (StrChars.Road.wideBytes cs) (.int 0)) (hr : ∀ c ∈ cs, ¬ c < 0 ∧ ¬ (65535 : Int32) < c) (hi : 1 < cs.length) {ii : Int32} (hii : ii = 1) :
    Own.Con G [] bGg1 #[.ref b, .int ii] h [] (fun v h' => v = some (.int (cs.getD 1 0)) ∧ h' = h) := by
  refine Own.Con.intro (plainFor_of_name pn_0) hO hEL _ (fun m => ef_bGg1 m b ii) ?_
  intro X T0 W0 sf
  subst hii
  refine Own.getS W0 (tw hw 108 rfl) Via.refl (W0.sta TA) d26_0 3 rfl ?_
  intro T1 W1
  refine Own.ifYes W1 d26_3 28 (by decide) (by decide) (by decide) ?_
  refine Own.iloadN W1 d26_28 29 rfl (1 : Int32) rfl ?_
  refine Own.iconst W1 d26_29 30 rfl (1 : Int32) rfl ?_
  refine Own.ishl W1 d26_30 31 rfl ?_
  rw [show ((1 : Int32) <<< ((1 : Int32) &&& 31)) = (2 : Int32) by decide]
  refine Own.istoreN W1 d26_31 32 rfl #[.val (.ref b), .val (.int (2 : Int32))] rfl ?_
  refine Own.aloadN W1 d26_32 33 rfl (.ref b) rfl rfl ?_
  refine Own.iloadN W1 d26_33 34 rfl (2 : Int32) rfl ?_
  refine Own.iinc W1 d26_34 37 rfl rfl #[.val (.ref b), .val (.int (3 : Int32))] rfl ?_
  refine Own.baload W1 A ⟨by decide, Own.lt2 (k := 2) (by omega) (by omega)⟩ (.int (StrChars.lo8 (cs.getD 1 0))) (by rw [show (2 : Int32).toNatClampNeg = 2 * 1 by decide]; exact StrChars.Road.wide_lo (.int 0) cs 1 hi) d26_37 38 rfl ?_
  refine Own.sipush W1 d26_38 41 rfl (255 : Int32) rfl ?_
  refine Own.iand W1 d26_41 42 rfl ?_
  refine Own.getS W1 (tw hw 109 rfl) Via.refl (W1.sta TH) d26_42 45 rfl ?_
  intro T2 W2
  refine Own.ishl W2 d26_45 46 rfl ?_
  refine Own.aloadN W2 d26_46 47 rfl (.ref b) rfl rfl ?_
  refine Own.iloadN W2 d26_47 48 rfl (3 : Int32) rfl ?_
  refine Own.baload W2 A ⟨by decide, Own.lt2 (k := 3) (by omega) (by omega)⟩ (.int (StrChars.hi8 (cs.getD 1 0))) (by rw [show (3 : Int32).toNatClampNeg = 2 * 1 + 1 by decide]; exact StrChars.Road.wide_hi (.int 0) cs 1 hi) d26_48 49 rfl ?_
  refine Own.sipush W2 d26_49 52 rfl (255 : Int32) rfl ?_
  refine Own.iand W2 d26_52 53 rfl ?_
  refine Own.getS W2 (tw hw 110 rfl) Via.refl (W2.sta TL) d26_53 56 rfl ?_
  intro T3 W3
  refine Own.ishl W3 d26_56 57 rfl ?_
  refine Own.ior W3 d26_57 58 rfl ?_
  refine Own.i2c W3 d26_58 59 rfl ?_
  show Own.Go _ _ _ _ _ 59 #[.val (.ref b), .val (.int (3 : Int32))] [.int (StrChars.pairCh (StrChars.lo8 (cs.getD 1 0)) (StrChars.hi8 (cs.getD 1 0)))]
  rw [StrChars.pair_says (Own.r16At hr hi).1 (Own.r16At hr hi).2]
  exact Own.retC W3 (by decide) (by decide) rfl d26_59 (Own.narC (Own.r16At hr hi)) ⟨rfl, rfl⟩
set_option maxRecDepth 65536 in
set_option maxHeartbeats 40000000 in
theorem con_uch1 {G : Own.Gl} (hw : ∀ d ∈ tables_1, d.before G.a0 G.Z = true) (hEL : EW G.Z G.a0 G.EL) {fm : Value} (SF : Sta G.Z G.Z.heap "jdk/internal/util/Preconditions" "SIOOBE_FORMATTER" "Ljava/util/function/BiFunction;" fm) (rfm : fm.isRef = true) (TA : Sta G.Z G.Z.heap "java/lang/StringUTF16" "$assertionsDisabled" "Z" (.int 1)) (TH : Sta G.Z G.Z.heap "java/lang/StringUTF16" "HI_BYTE_SHIFT" "I" (.int 0)) (TL : Sta G.Z G.Z.heap "java/lang/StringUTF16" "LO_BYTE_SHIFT" "I" (.int 8)) {b : Addr} {kb : ClassId} {cs : List Int32} (hl : cs.length ≤ 2000) {h : Heap} (hO : Old G.Z G.n0 h) (A : Arv G.Z h b kb .byte (Int32.ofNat (2 * cs.length)) (StrChars.Road.wideBytes cs) (.int 0)) (hr : ∀ c ∈ cs, ¬ c < 0 ∧ ¬ (65535 : Int32) < c) (hi : 1 < cs.length) {ii : Int32} (hii : ii = 1) :
    Own.Con G [] bUch1 #[.ref b, .int ii] h [] (fun v h' => v = some (.int (cs.getD 1 0)) ∧ h' = h) := by
  refine Own.Con.intro (plainFor_of_name pn_0) hO hEL _ (fun m => ef_bUch1 m b ii) ?_
  intro X T0 W0 sf
  subst hii
  refine Own.iloadN W0 d27_0 1 rfl (1 : Int32) rfl ?_
  refine Own.aloadN W0 d27_1 2 rfl (.ref b) rfl rfl ?_
  refine Own.callS W0 (tw hw 117 rfl) (tw hw 118 rfl) (tw hw 53 rfl) (tw hw 119 rfl) (by decide) (argsL := [(.int (1 : Int32)), (.ref b)]) (rest := []) (Own.Con.pay (con_uci hw hEL SF rfm hl W0.old A (1 : Int32) (by decide) (Own.lt2 (k := 1) hi (by omega))) W0 (tw hw 119 rfl) (tw hw 53 rfl) (len := 3) (wd := 0) (by decide) (by decide) (fun _ q => nomatch q)) rfl (lenOf pd_11 rfl) rfl (Nat.le_of_ble_eq_true rfl) d27_2 5 rfl 0 0 (Nat.le_of_ble_eq_true rfl) (Nat.le_of_ble_eq_true rfl) (Nat.le_of_ble_eq_true rfl) (Nat.le_of_ble_eq_true rfl) ?_
  intro v1 T1 h1 u1 W1 R1 hq
  obtain ⟨rfl, eh1⟩ := hq
  have ei1 := eh1.symm; subst ei1
  show Own.Go _ _ _ _ _ 5 #[.val (.ref b), .val (.int (1 : Int32))] []
  refine Own.aloadN W1 d27_5 6 rfl (.ref b) rfl rfl ?_
  refine Own.iloadN W1 d27_6 7 rfl (1 : Int32) rfl ?_
  refine Own.callS W1 (tw hw 111 rfl) (tw hw 112 rfl) (tw hw 53 rfl) (tw hw 113 rfl) (by decide) (argsL := [(.ref b), (.int (1 : Int32))]) (rest := []) (Own.Con.pay (con_gg1 hw hEL TA TH TL hl W1.old A hr hi rfl) W1 (tw hw 113 rfl) (tw hw 53 rfl) (len := 3) (wd := 0) (by decide) (by decide) (fun _ q => nomatch q)) rfl (lenOf pd_5 rfl) rfl (Nat.le_of_ble_eq_true rfl) d27_7 10 rfl 0 0 (Nat.le_of_ble_eq_true rfl) (Nat.le_of_ble_eq_true rfl) (Nat.le_of_ble_eq_true rfl) (Nat.le_of_ble_eq_true rfl) ?_
  intro v2 T2 h2 u2 W2 R2 hq
  obtain ⟨rfl, eh2⟩ := hq
  have ei2 := eh2.symm; subst ei2
  show Own.Go _ _ _ _ _ 10 #[.val (.ref b), .val (.int (1 : Int32))] [(.int (cs.getD 1 0))]
  exact Own.retC W2 (by decide) (by decide) rfl d27_10 (Own.narC (Own.r16At hr hi)) ⟨rfl, rfl⟩
set_option maxRecDepth 65536 in
set_option maxHeartbeats 40000000 in
theorem con_wc1 {G : Own.Gl} (hw : ∀ d ∈ tables_1, d.before G.a0 G.Z = true) (hEL : EW G.Z G.a0 G.EL) (hmem : (Own.ST, 7) ∈ G.EL) {cz : Int32} (hS : Sta G.Z G.Z.heap Own.ST "COMPACT_STRINGS" "Z" (.int cz)) (hcz : ¬ cz = 0) {fm : Value} (SF : Sta G.Z G.Z.heap "jdk/internal/util/Preconditions" "SIOOBE_FORMATTER" "Ljava/util/function/BiFunction;" fm) (rfm : fm.isRef = true) (TA : Sta G.Z G.Z.heap "java/lang/StringUTF16" "$assertionsDisabled" "Z" (.int 1)) (TH : Sta G.Z G.Z.heap "java/lang/StringUTF16" "HI_BYTE_SHIFT" "I" (.int 0)) (TL : Sta G.Z G.Z.heap "java/lang/StringUTF16" "LO_BYTE_SHIFT" "I" (.int 8)) {x : Addr} {cs : List Int32} {h : Heap} (hO : Old G.Z G.n0 h) (Sx : Own.WStr G.Z h x cs) (hi : 1 < cs.length) {ii : Int32} (hii : ii = 1) :
    Own.Con G [] bWc1 #[.ref x, .int ii] h [] (fun v h' => v = some (.int (cs.getD 1 0)) ∧ h' = h) := by
  refine Own.Con.intro (plainFor_of_name pn_1) hO hEL _ (fun m => ef_bWc1 m x ii) ?_
  intro X T0 W0 sf
  subst hii
  obtain ⟨Ex, Xc, hr, hl, -, b, kb, Xv, A⟩ := id Sx
  refine Own.aloadN W0 d16_0 1 rfl (.ref x) rfl rfl ?_
  refine Own.callV W0 (tw hw 73 rfl) (tw hw 74 rfl) (fun s q => notFace_of_selects (args := #[]) (mvT (s := s) q (tw hw 76 rfl))) (tw hw 76 rfl) (tw hw 75 rfl) (by decide) (argsL := []) (rest := []) (Own.Con.pay (con_sl0 hw hEL hmem hS hcz W0.old Xc) W0 (tw hw 77 rfl) (tw hw 6 rfl) (len := 3) (wd := 0) (by decide) (by decide) (fun _ q => nomatch q)) Ex rfl (lenOf pd_12 rfl) rfl (Nat.le_of_ble_eq_true rfl) d16_1 4 rfl 0 0 (Nat.le_of_ble_eq_true rfl) (Nat.le_of_ble_eq_true rfl) (Nat.le_of_ble_eq_true rfl) (Nat.le_of_ble_eq_true rfl) ?_
  intro v1 T1 h1 u1 W1 R1 hq
  obtain ⟨rfl, eh1⟩ := hq
  have ei1 := eh1.symm; subst ei1
  show Own.Go _ _ _ _ _ 4 #[.val (.ref x), .val (.int (1 : Int32))] [(.int (0 : Int32))]
  refine Own.ifYes W1 d16_4 16 (by decide) (by decide) (by decide) ?_
  refine Own.aloadN W1 d16_16 17 rfl (.ref x) rfl rfl ?_
  refine Own.getF W1 (tw hw 24 rfl) Via.refl Xv d16_17 20 rfl ?_
  intro T2 W2
  refine Own.iloadN W2 d16_20 21 rfl (1 : Int32) rfl ?_
  refine Own.callS W2 (tw hw 114 rfl) (tw hw 115 rfl) (tw hw 53 rfl) (tw hw 116 rfl) (by decide) (argsL := [(.ref b), (.int (1 : Int32))]) (rest := []) (Own.Con.pay (con_uch1 hw hEL SF rfm TA TH TL hl W2.old A hr hi rfl) W2 (tw hw 116 rfl) (tw hw 53 rfl) (len := 3) (wd := 0) (by decide) (by decide) (fun _ q => nomatch q)) rfl (lenOf pd_5 rfl) rfl (Nat.le_of_ble_eq_true rfl) d16_21 24 rfl 0 0 (Nat.le_of_ble_eq_true rfl) (Nat.le_of_ble_eq_true rfl) (Nat.le_of_ble_eq_true rfl) (Nat.le_of_ble_eq_true rfl) ?_
  intro v3 T3 h3 u3 W3 R3 hq
  obtain ⟨rfl, eh3⟩ := hq
  have ei3 := eh3.symm; subst ei3
  show Own.Go _ _ _ _ _ 24 #[.val (.ref x), .val (.int (1 : Int32))] [(.int (cs.getD 1 0))]
  exact Own.retC W3 (by decide) (by decide) rfl d16_24 (Own.narC (Own.r16At hr hi)) ⟨rfl, rfl⟩
theorem payChU1 {G : Own.Gl} (hw : ∀ d ∈ tables_1, d.before G.a0 G.Z = true) (hEL : EW G.Z G.a0 G.EL) (hmem : (Own.ST, 7) ∈ G.EL) {cz : Int32} (hS : Sta G.Z G.Z.heap Own.ST "COMPACT_STRINGS" "Z" (.int cz)) (hcz : ¬ cz = 0) {fm : Value} (SF : Sta G.Z G.Z.heap "jdk/internal/util/Preconditions" "SIOOBE_FORMATTER" "Ljava/util/function/BiFunction;" fm) (rfm : fm.isRef = true) (TA : Sta G.Z G.Z.heap "java/lang/StringUTF16" "$assertionsDisabled" "Z" (.int 1)) (TH : Sta G.Z G.Z.heap "java/lang/StringUTF16" "HI_BYTE_SHIFT" "I" (.int 0)) (TL : Sta G.Z G.Z.heap "java/lang/StringUTF16" "LO_BYTE_SHIFT" "I" (.int 8)) {X : Own.Rn} {M : Own.Bo} {vm : Vm} {T : State} {h : Heap} {C S : Nat} (W : Own.Here G X M vm T h C S) {x : Addr} {cs : List Int32} (F : Own.Uni G.Z h x cs) (hi : 1 < cs.length) {len wd : Nat} (hf : 5 ≤ M.R.frames) (hlo : wd + 79 ≤ M.R.locals) :
    Own.Pay G X M vm h ⟨"java/lang/String", "charAt", "(I)C"⟩ len wd #[.ref x, .int 1] 0 0 (fun v h' => v = some (.int (cs.getD 1 0)) ∧ h' = h) := by
  rcases F with F | F
  · exact Own.payChr (wC hw) (kI := 4) (tw hw 5 rfl) W F hS hcz SF rfm hi rfl (by omega) (by omega)
  · exact Own.Con.pay (con_wc1 hw hEL hmem hS hcz SF rfm TA TH TL W.old F hi rfl) W (tw hw 72 rfl) (tw hw 6 rfl) hf (by show wd + (2 + 11) + 66 ≤ _; omega) (fun _ q => nomatch q)
set_option maxRecDepth 65536 in
set_option maxHeartbeats 40000000 in
theorem con_gg2 {G : Own.Gl} (hw : ∀ d ∈ tables_1, d.before G.a0 G.Z = true) (hEL : EW G.Z G.a0 G.EL) (TA : Sta G.Z G.Z.heap "java/lang/StringUTF16" "$assertionsDisabled" "Z" (.int 1)) (TH : Sta G.Z G.Z.heap "java/lang/StringUTF16" "HI_BYTE_SHIFT" "I" (.int 0)) (TL : Sta G.Z G.Z.heap "java/lang/StringUTF16" "LO_BYTE_SHIFT" "I" (.int 8)) {b : Addr} {kb : ClassId} {cs : List Int32} (hl : cs.length ≤ 2000) {h : Heap} (hO : Old G.Z G.n0 h) (A : Arv G.Z h b kb .byte (Int32.ofNat (2 * cs.length)) (StrChars.Road.wideBytes cs) (.int 0)) (hr : ∀ c ∈ cs, ¬ c < 0 ∧ ¬ (65535 : Int32) < c) (hi : 2 < cs.length) {ii : Int32} (hii : ii = 2) :
    Own.Con G [] bGg2 #[.ref b, .int ii] h [] (fun v h' => v = some (.int (cs.getD 2 0)) ∧ h' = h) := by
  refine Own.Con.intro (plainFor_of_name pn_0) hO hEL _ (fun m => ef_bGg2 m b ii) ?_
  intro X T0 W0 sf
  subst hii
  refine Own.getS W0 (tw hw 108 rfl) Via.refl (W0.sta TA) d26_0 3 rfl ?_
  intro T1 W1
  refine Own.ifYes W1 d26_3 28 (by decide) (by decide) (by decide) ?_
  refine Own.iloadN W1 d26_28 29 rfl (2 : Int32) rfl ?_
  refine Own.iconst W1 d26_29 30 rfl (1 : Int32) rfl ?_
  refine Own.ishl W1 d26_30 31 rfl ?_
  rw [show ((2 : Int32) <<< ((1 : Int32) &&& 31)) = (4 : Int32) by decide]
  refine Own.istoreN W1 d26_31 32 rfl #[.val (.ref b), .val (.int (4 : Int32))] rfl ?_
  refine Own.aloadN W1 d26_32 33 rfl (.ref b) rfl rfl ?_
  refine Own.iloadN W1 d26_33 34 rfl (4 : Int32) rfl ?_
  refine Own.iinc W1 d26_34 37 rfl rfl #[.val (.ref b), .val (.int (5 : Int32))] rfl ?_
  refine Own.baload W1 A ⟨by decide, Own.lt2 (k := 4) (by omega) (by omega)⟩ (.int (StrChars.lo8 (cs.getD 2 0))) (by rw [show (4 : Int32).toNatClampNeg = 2 * 2 by decide]; exact StrChars.Road.wide_lo (.int 0) cs 2 hi) d26_37 38 rfl ?_
  refine Own.sipush W1 d26_38 41 rfl (255 : Int32) rfl ?_
  refine Own.iand W1 d26_41 42 rfl ?_
  refine Own.getS W1 (tw hw 109 rfl) Via.refl (W1.sta TH) d26_42 45 rfl ?_
  intro T2 W2
  refine Own.ishl W2 d26_45 46 rfl ?_
  refine Own.aloadN W2 d26_46 47 rfl (.ref b) rfl rfl ?_
  refine Own.iloadN W2 d26_47 48 rfl (5 : Int32) rfl ?_
  refine Own.baload W2 A ⟨by decide, Own.lt2 (k := 5) (by omega) (by omega)⟩ (.int (StrChars.hi8 (cs.getD 2 0))) (by rw [show (5 : Int32).toNatClampNeg = 2 * 2 + 1 by decide]; exact StrChars.Road.wide_hi (.int 0) cs 2 hi) d26_48 49 rfl ?_
  refine Own.sipush W2 d26_49 52 rfl (255 : Int32) rfl ?_
  refine Own.iand W2 d26_52 53 rfl ?_
  refine Own.getS W2 (tw hw 110 rfl) Via.refl (W2.sta TL) d26_53 56 rfl ?_
  intro T3 W3
  refine Own.ishl W3 d26_56 57 rfl ?_
  refine Own.ior W3 d26_57 58 rfl ?_
  refine Own.i2c W3 d26_58 59 rfl ?_
  show Own.Go _ _ _ _ _ 59 #[.val (.ref b), .val (.int (5 : Int32))] [.int (StrChars.pairCh (StrChars.lo8 (cs.getD 2 0)) (StrChars.hi8 (cs.getD 2 0)))]
  rw [StrChars.pair_says (Own.r16At hr hi).1 (Own.r16At hr hi).2]
  exact Own.retC W3 (by decide) (by decide) rfl d26_59 (Own.narC (Own.r16At hr hi)) ⟨rfl, rfl⟩
set_option maxRecDepth 65536 in
set_option maxHeartbeats 40000000 in
theorem con_uch2 {G : Own.Gl} (hw : ∀ d ∈ tables_1, d.before G.a0 G.Z = true) (hEL : EW G.Z G.a0 G.EL) {fm : Value} (SF : Sta G.Z G.Z.heap "jdk/internal/util/Preconditions" "SIOOBE_FORMATTER" "Ljava/util/function/BiFunction;" fm) (rfm : fm.isRef = true) (TA : Sta G.Z G.Z.heap "java/lang/StringUTF16" "$assertionsDisabled" "Z" (.int 1)) (TH : Sta G.Z G.Z.heap "java/lang/StringUTF16" "HI_BYTE_SHIFT" "I" (.int 0)) (TL : Sta G.Z G.Z.heap "java/lang/StringUTF16" "LO_BYTE_SHIFT" "I" (.int 8)) {b : Addr} {kb : ClassId} {cs : List Int32} (hl : cs.length ≤ 2000) {h : Heap} (hO : Old G.Z G.n0 h) (A : Arv G.Z h b kb .byte (Int32.ofNat (2 * cs.length)) (StrChars.Road.wideBytes cs) (.int 0)) (hr : ∀ c ∈ cs, ¬ c < 0 ∧ ¬ (65535 : Int32) < c) (hi : 2 < cs.length) {ii : Int32} (hii : ii = 2) :
    Own.Con G [] bUch2 #[.ref b, .int ii] h [] (fun v h' => v = some (.int (cs.getD 2 0)) ∧ h' = h) := by
  refine Own.Con.intro (plainFor_of_name pn_0) hO hEL _ (fun m => ef_bUch2 m b ii) ?_
  intro X T0 W0 sf
  subst hii
  refine Own.iloadN W0 d27_0 1 rfl (2 : Int32) rfl ?_
  refine Own.aloadN W0 d27_1 2 rfl (.ref b) rfl rfl ?_
  refine Own.callS W0 (tw hw 117 rfl) (tw hw 118 rfl) (tw hw 53 rfl) (tw hw 119 rfl) (by decide) (argsL := [(.int (2 : Int32)), (.ref b)]) (rest := []) (Own.Con.pay (con_uci hw hEL SF rfm hl W0.old A (2 : Int32) (by decide) (Own.lt2 (k := 2) hi (by omega))) W0 (tw hw 119 rfl) (tw hw 53 rfl) (len := 3) (wd := 0) (by decide) (by decide) (fun _ q => nomatch q)) rfl (lenOf pd_11 rfl) rfl (Nat.le_of_ble_eq_true rfl) d27_2 5 rfl 0 0 (Nat.le_of_ble_eq_true rfl) (Nat.le_of_ble_eq_true rfl) (Nat.le_of_ble_eq_true rfl) (Nat.le_of_ble_eq_true rfl) ?_
  intro v1 T1 h1 u1 W1 R1 hq
  obtain ⟨rfl, eh1⟩ := hq
  have ei1 := eh1.symm; subst ei1
  show Own.Go _ _ _ _ _ 5 #[.val (.ref b), .val (.int (2 : Int32))] []
  refine Own.aloadN W1 d27_5 6 rfl (.ref b) rfl rfl ?_
  refine Own.iloadN W1 d27_6 7 rfl (2 : Int32) rfl ?_
  refine Own.callS W1 (tw hw 111 rfl) (tw hw 112 rfl) (tw hw 53 rfl) (tw hw 113 rfl) (by decide) (argsL := [(.ref b), (.int (2 : Int32))]) (rest := []) (Own.Con.pay (con_gg2 hw hEL TA TH TL hl W1.old A hr hi rfl) W1 (tw hw 113 rfl) (tw hw 53 rfl) (len := 3) (wd := 0) (by decide) (by decide) (fun _ q => nomatch q)) rfl (lenOf pd_5 rfl) rfl (Nat.le_of_ble_eq_true rfl) d27_7 10 rfl 0 0 (Nat.le_of_ble_eq_true rfl) (Nat.le_of_ble_eq_true rfl) (Nat.le_of_ble_eq_true rfl) (Nat.le_of_ble_eq_true rfl) ?_
  intro v2 T2 h2 u2 W2 R2 hq
  obtain ⟨rfl, eh2⟩ := hq
  have ei2 := eh2.symm; subst ei2
  show Own.Go _ _ _ _ _ 10 #[.val (.ref b), .val (.int (2 : Int32))] [(.int (cs.getD 2 0))]
  exact Own.retC W2 (by decide) (by decide) rfl d27_10 (Own.narC (Own.r16At hr hi)) ⟨rfl, rfl⟩
set_option maxRecDepth 65536 in
set_option maxHeartbeats 40000000 in
theorem con_wc2 {G : Own.Gl} (hw : ∀ d ∈ tables_1, d.before G.a0 G.Z = true) (hEL : EW G.Z G.a0 G.EL) (hmem : (Own.ST, 7) ∈ G.EL) {cz : Int32} (hS : Sta G.Z G.Z.heap Own.ST "COMPACT_STRINGS" "Z" (.int cz)) (hcz : ¬ cz = 0) {fm : Value} (SF : Sta G.Z G.Z.heap "jdk/internal/util/Preconditions" "SIOOBE_FORMATTER" "Ljava/util/function/BiFunction;" fm) (rfm : fm.isRef = true) (TA : Sta G.Z G.Z.heap "java/lang/StringUTF16" "$assertionsDisabled" "Z" (.int 1)) (TH : Sta G.Z G.Z.heap "java/lang/StringUTF16" "HI_BYTE_SHIFT" "I" (.int 0)) (TL : Sta G.Z G.Z.heap "java/lang/StringUTF16" "LO_BYTE_SHIFT" "I" (.int 8)) {x : Addr} {cs : List Int32} {h : Heap} (hO : Old G.Z G.n0 h) (Sx : Own.WStr G.Z h x cs) (hi : 2 < cs.length) {ii : Int32} (hii : ii = 2) :
    Own.Con G [] bWc2 #[.ref x, .int ii] h [] (fun v h' => v = some (.int (cs.getD 2 0)) ∧ h' = h) := by
  refine Own.Con.intro (plainFor_of_name pn_1) hO hEL _ (fun m => ef_bWc2 m x ii) ?_
  intro X T0 W0 sf
  subst hii
  obtain ⟨Ex, Xc, hr, hl, -, b, kb, Xv, A⟩ := id Sx
  refine Own.aloadN W0 d16_0 1 rfl (.ref x) rfl rfl ?_
  refine Own.callV W0 (tw hw 73 rfl) (tw hw 74 rfl) (fun s q => notFace_of_selects (args := #[]) (mvT (s := s) q (tw hw 76 rfl))) (tw hw 76 rfl) (tw hw 75 rfl) (by decide) (argsL := []) (rest := []) (Own.Con.pay (con_sl0 hw hEL hmem hS hcz W0.old Xc) W0 (tw hw 77 rfl) (tw hw 6 rfl) (len := 3) (wd := 0) (by decide) (by decide) (fun _ q => nomatch q)) Ex rfl (lenOf pd_12 rfl) rfl (Nat.le_of_ble_eq_true rfl) d16_1 4 rfl 0 0 (Nat.le_of_ble_eq_true rfl) (Nat.le_of_ble_eq_true rfl) (Nat.le_of_ble_eq_true rfl) (Nat.le_of_ble_eq_true rfl) ?_
  intro v1 T1 h1 u1 W1 R1 hq
  obtain ⟨rfl, eh1⟩ := hq
  have ei1 := eh1.symm; subst ei1
  show Own.Go _ _ _ _ _ 4 #[.val (.ref x), .val (.int (2 : Int32))] [(.int (0 : Int32))]
  refine Own.ifYes W1 d16_4 16 (by decide) (by decide) (by decide) ?_
  refine Own.aloadN W1 d16_16 17 rfl (.ref x) rfl rfl ?_
  refine Own.getF W1 (tw hw 24 rfl) Via.refl Xv d16_17 20 rfl ?_
  intro T2 W2
  refine Own.iloadN W2 d16_20 21 rfl (2 : Int32) rfl ?_
  refine Own.callS W2 (tw hw 114 rfl) (tw hw 115 rfl) (tw hw 53 rfl) (tw hw 116 rfl) (by decide) (argsL := [(.ref b), (.int (2 : Int32))]) (rest := []) (Own.Con.pay (con_uch2 hw hEL SF rfm TA TH TL hl W2.old A hr hi rfl) W2 (tw hw 116 rfl) (tw hw 53 rfl) (len := 3) (wd := 0) (by decide) (by decide) (fun _ q => nomatch q)) rfl (lenOf pd_5 rfl) rfl (Nat.le_of_ble_eq_true rfl) d16_21 24 rfl 0 0 (Nat.le_of_ble_eq_true rfl) (Nat.le_of_ble_eq_true rfl) (Nat.le_of_ble_eq_true rfl) (Nat.le_of_ble_eq_true rfl) ?_
  intro v3 T3 h3 u3 W3 R3 hq
  obtain ⟨rfl, eh3⟩ := hq
  have ei3 := eh3.symm; subst ei3
  show Own.Go _ _ _ _ _ 24 #[.val (.ref x), .val (.int (2 : Int32))] [(.int (cs.getD 2 0))]
  exact Own.retC W3 (by decide) (by decide) rfl d16_24 (Own.narC (Own.r16At hr hi)) ⟨rfl, rfl⟩
theorem payChU2 {G : Own.Gl} (hw : ∀ d ∈ tables_1, d.before G.a0 G.Z = true) (hEL : EW G.Z G.a0 G.EL) (hmem : (Own.ST, 7) ∈ G.EL) {cz : Int32} (hS : Sta G.Z G.Z.heap Own.ST "COMPACT_STRINGS" "Z" (.int cz)) (hcz : ¬ cz = 0) {fm : Value} (SF : Sta G.Z G.Z.heap "jdk/internal/util/Preconditions" "SIOOBE_FORMATTER" "Ljava/util/function/BiFunction;" fm) (rfm : fm.isRef = true) (TA : Sta G.Z G.Z.heap "java/lang/StringUTF16" "$assertionsDisabled" "Z" (.int 1)) (TH : Sta G.Z G.Z.heap "java/lang/StringUTF16" "HI_BYTE_SHIFT" "I" (.int 0)) (TL : Sta G.Z G.Z.heap "java/lang/StringUTF16" "LO_BYTE_SHIFT" "I" (.int 8)) {X : Own.Rn} {M : Own.Bo} {vm : Vm} {T : State} {h : Heap} {C S : Nat} (W : Own.Here G X M vm T h C S) {x : Addr} {cs : List Int32} (F : Own.Uni G.Z h x cs) (hi : 2 < cs.length) {len wd : Nat} (hf : 5 ≤ M.R.frames) (hlo : wd + 79 ≤ M.R.locals) :
    Own.Pay G X M vm h ⟨"java/lang/String", "charAt", "(I)C"⟩ len wd #[.ref x, .int 2] 0 0 (fun v h' => v = some (.int (cs.getD 2 0)) ∧ h' = h) := by
  rcases F with F | F
  · exact Own.payChr (wC hw) (kI := 4) (tw hw 5 rfl) W F hS hcz SF rfm hi rfl (by omega) (by omega)
  · exact Own.Con.pay (con_wc2 hw hEL hmem hS hcz SF rfm TA TH TL W.old F hi rfl) W (tw hw 72 rfl) (tw hw 6 rfl) hf (by show wd + (2 + 11) + 66 ≤ _; omega) (fun _ q => nomatch q)
set_option maxRecDepth 65536 in
set_option maxHeartbeats 40000000 in
theorem con_sgn {G : Own.Gl} (hw : ∀ d ∈ tables_1, d.before G.a0 G.Z = true) (hEL : EW G.Z G.a0 G.EL) (r : Int32) {h : Heap} (hO : Old G.Z G.n0 h) :
    Own.Con G [] bSgn #[.int r] h [] (fun v h' => v = some (.int (sgn r)) ∧ h' = h) := by
  refine Own.Con.intro (plainFor_of_name pn_3) hO hEL _ (fun m => ef_bSgn m r) ?_
  intro X T0 W0 sf
  refine Own.iloadN W0 d6_0 1 rfl r rfl ?_
  by_cases e0 : r < (0 : Int32)
  · skip
    refine Own.ifNo W0 d6_1 4 (XT.i0_ge_f e0) rfl ?_
    refine Own.iconst W0 d6_4 5 rfl (-1 : Int32) rfl ?_
    exact Own.retI W0 (by decide) (by decide) rfl d6_5 ⟨by rw [sgn, if_pos e0], rfl⟩
  · skip
    refine Own.ifYes W0 d6_1 6 (XT.i0_ge_t e0) (by decide) (by decide) ?_
    refine Own.iloadN W0 d6_6 7 rfl r rfl ?_
    by_cases e1 : (0 : Int32) < r
    · skip
      refine Own.ifNo W0 d6_7 10 (XT.i0_le_f e1) rfl ?_
      refine Own.iconst W0 d6_10 11 rfl (1 : Int32) rfl ?_
      exact Own.retI W0 (by decide) (by decide) rfl d6_11 ⟨by rw [sgn, if_neg e0, if_pos e1], rfl⟩
    · skip
      refine Own.ifYes W0 d6_7 12 (XT.i0_le_t e1) (by decide) (by decide) ?_
      refine Own.iconst W0 d6_12 13 rfl (0 : Int32) rfl ?_
      exact Own.retI W0 (by decide) (by decide) rfl d6_13 ⟨by rw [sgn, if_neg e0, if_neg e1], rfl⟩
set_option maxRecDepth 65536 in
set_option maxHeartbeats 40000000 in
theorem con_grp {G : Own.Gl} (hw : ∀ d ∈ tables_1, d.before G.a0 G.Z = true) (hEL : EW G.Z G.a0 G.EL) (x : Int32) {h : Heap} (hO : Old G.Z G.n0 h) :
    Own.Con G [] bGrp #[.int x] h [] (fun v h' => v = some (.int (grp x)) ∧ h' = h) := by
  refine Own.Con.intro (plainFor_of_name pn_3) hO hEL _ (fun m => ef_bGrp m x) ?_
  intro X T0 W0 sf
  refine Own.iloadN W0 d15_0 1 rfl x rfl ?_
  refine Own.ldcI W0 (tw hw 67 rfl) d15_1 3 rfl ?_
  by_cases e0 : x < (55296 : Int32)
  · skip
    refine Own.icmpNo W0 d15_3 6 (XT.ii_ge_f e0) rfl ?_
    refine Own.iconst W0 d15_6 7 rfl (0 : Int32) rfl ?_
    exact Own.retI W0 (by decide) (by decide) rfl d15_7 ⟨by rw [grp, if_pos e0], rfl⟩
  · skip
    refine Own.icmpYes W0 d15_3 8 (XT.ii_ge_t e0) (by decide) (by decide) ?_
    refine Own.iloadN W0 d15_8 9 rfl x rfl ?_
    refine Own.ldcI W0 (tw hw 124 rfl) d15_9 11 rfl ?_
    by_cases e1 : x < (57344 : Int32)
    · skip
      refine Own.icmpYes W0 d15_11 16 (XT.ii_lt_t e1) (by decide) (by decide) ?_
      refine Own.iconst W0 d15_16 17 rfl (2 : Int32) rfl ?_
      exact Own.retI W0 (by decide) (by decide) rfl d15_17 ⟨by rw [grp, if_neg e0, if_pos e1], rfl⟩
    · skip
      refine Own.icmpNo W0 d15_11 14 (XT.ii_lt_f e1) rfl ?_
      refine Own.iconst W0 d15_14 15 rfl (1 : Int32) rfl ?_
      exact Own.retI W0 (by decide) (by decide) rfl d15_15 ⟨by rw [grp, if_neg e0, if_neg e1], rfl⟩
set_option maxRecDepth 65536 in
set_option maxHeartbeats 40000000 in
theorem con_uo {G : Own.Gl} (hw : ∀ d ∈ tables_1, d.before G.a0 G.Z = true) (hEL : EW G.Z G.a0 G.EL) (x y : Int32) {h : Heap} (hO : Old G.Z G.n0 h) :
    Own.Con G [] bUo #[.int x, .int y] h [] (fun v h' => v = some (.int (uo x y)) ∧ h' = h) := by
  refine Own.Con.intro (plainFor_of_name pn_3) hO hEL _ (fun m => ef_bUo m x y) ?_
  intro X T0 W0 sf
  refine Own.iloadN W0 d14_0 1 rfl x rfl ?_
  refine Own.callS W0 (tw hw 64 rfl) (tw hw 65 rfl) (tw hw 2 rfl) (tw hw 66 rfl) (by decide) (argsL := [(.int x)]) (rest := []) (Own.Con.pay (con_grp hw hEL x W0.old) W0 (tw hw 66 rfl) (tw hw 2 rfl) (len := 3) (wd := 0) (by decide) (by decide) (fun _ q => nomatch q)) rfl (lenOf pd_13 rfl) rfl (Nat.le_of_ble_eq_true rfl) d14_1 4 rfl 0 0 (Nat.le_of_ble_eq_true rfl) (Nat.le_of_ble_eq_true rfl) (Nat.le_of_ble_eq_true rfl) (Nat.le_of_ble_eq_true rfl) ?_
  intro v1 T1 h1 u1 W1 R1 hq
  obtain ⟨rfl, eh1⟩ := hq
  have ei1 := eh1.symm; subst ei1
  show Own.Go _ _ _ _ _ 4 #[.val (.int x), .val (.int y), .unset, .unset] [(.int (grp x))]
  refine Own.istoreN W1 d14_4 5 rfl #[.val (.int x), .val (.int y), .val (.int (grp x)), .unset] rfl ?_
  refine Own.iloadN W1 d14_5 6 rfl y rfl ?_
  refine Own.callS W1 (tw hw 64 rfl) (tw hw 65 rfl) (tw hw 2 rfl) (tw hw 66 rfl) (by decide) (argsL := [(.int y)]) (rest := []) (Own.Con.pay (con_grp hw hEL y W1.old) W1 (tw hw 66 rfl) (tw hw 2 rfl) (len := 3) (wd := 0) (by decide) (by decide) (fun _ q => nomatch q)) rfl (lenOf pd_13 rfl) rfl (Nat.le_of_ble_eq_true rfl) d14_6 9 rfl 0 0 (Nat.le_of_ble_eq_true rfl) (Nat.le_of_ble_eq_true rfl) (Nat.le_of_ble_eq_true rfl) (Nat.le_of_ble_eq_true rfl) ?_
  intro v2 T2 h2 u2 W2 R2 hq
  obtain ⟨rfl, eh2⟩ := hq
  have ei2 := eh2.symm; subst ei2
  show Own.Go _ _ _ _ _ 9 #[.val (.int x), .val (.int y), .val (.int (grp x)), .unset] [(.int (grp y))]
  refine Own.istoreN W2 d14_9 10 rfl #[.val (.int x), .val (.int y), .val (.int (grp x)), .val (.int (grp y))] rfl ?_
  refine Own.iloadN W2 d14_10 11 rfl (grp x) rfl ?_
  refine Own.iloadN W2 d14_11 12 rfl (grp y) rfl ?_
  by_cases e0 : (grp x) = (grp y)
  · skip
    refine Own.icmpYes W2 d14_12 26 (XT.ii_eq_t e0) (by decide) (by decide) ?_
    refine Own.iloadN W2 d14_26 27 rfl x rfl ?_
    refine Own.iloadN W2 d14_27 28 rfl y rfl ?_
    by_cases e1 : x < y
    · skip
      refine Own.icmpNo W2 d14_28 31 (XT.ii_ge_f e1) rfl ?_
      refine Own.iconst W2 d14_31 32 rfl (-1 : Int32) rfl ?_
      refine Own.goto W2 d14_32 36 (by decide) (by decide) ?_
      exact Own.retI W2 (by decide) (by decide) rfl d14_36 ⟨by rw [uo, if_pos e0, if_pos e1], rfl⟩
    · skip
      refine Own.icmpYes W2 d14_28 35 (XT.ii_ge_t e1) (by decide) (by decide) ?_
      refine Own.iconst W2 d14_35 36 rfl (1 : Int32) rfl ?_
      exact Own.retI W2 (by decide) (by decide) rfl d14_36 ⟨by rw [uo, if_pos e0, if_neg e1], rfl⟩
  · skip
    refine Own.icmpNo W2 d14_12 15 (XT.ii_eq_f e0) rfl ?_
    refine Own.iloadN W2 d14_15 16 rfl (grp x) rfl ?_
    refine Own.iloadN W2 d14_16 17 rfl (grp y) rfl ?_
    by_cases e1 : (grp x) < (grp y)
    · skip
      refine Own.icmpNo W2 d14_17 20 (XT.ii_ge_f e1) rfl ?_
      refine Own.iconst W2 d14_20 21 rfl (-1 : Int32) rfl ?_
      refine Own.goto W2 d14_21 25 (by decide) (by decide) ?_
      exact Own.retI W2 (by decide) (by decide) rfl d14_25 ⟨by rw [uo, if_neg e0, if_pos e1], rfl⟩
    · skip
      refine Own.icmpYes W2 d14_17 24 (XT.ii_ge_t e1) (by decide) (by decide) ?_
      refine Own.iconst W2 d14_24 25 rfl (1 : Int32) rfl ?_
      exact Own.retI W2 (by decide) (by decide) rfl d14_25 ⟨by rw [uo, if_neg e0, if_neg e1], rfl⟩
set_option maxRecDepth 65536 in
set_option maxHeartbeats 40000000 in
theorem con_rnk {G : Own.Gl} (hw : ∀ d ∈ tables_1, d.before G.a0 G.Z = true) (hEL : EW G.Z G.a0 G.EL) (x : Int32) {h : Heap} (hO : Old G.Z G.n0 h) :
    Own.Con G [] bRnk #[.int x] h [] (fun v h' => v = some (.int (rank x)) ∧ h' = h) := by
  refine Own.Con.intro (plainFor_of_name pn_4) hO hEL _ (fun m => ef_bRnk m x) ?_
  intro X T0 W0 sf
  refine Own.iloadN W0 d21_0 1 rfl x rfl ?_
  refine Own.istoreN W0 d21_1 2 rfl #[.val (.int x), .val (.int x)] rfl ?_
  refine Own.iloadN W0 d21_2 3 rfl x rfl ?_
  refine Own.ldcI W0 (tw hw 93 rfl) d21_3 5 rfl ?_
  by_cases e0 : x < (57344 : Int32)
  · skip
    refine Own.icmpYes W0 d21_5 17 (XT.ii_lt_t e0) (by decide) (by decide) ?_
    refine Own.iloadN W0 d21_17 18 rfl x rfl ?_
    refine Own.ldcI W0 (tw hw 94 rfl) d21_18 20 rfl ?_
    by_cases e1 : x < (55296 : Int32)
    · skip
      refine Own.icmpYes W0 d21_20 29 (XT.ii_lt_t e1) (by decide) (by decide) ?_
      refine Own.iloadN W0 d21_29 30 rfl x rfl ?_
      exact Own.retI W0 (by decide) (by decide) rfl d21_30 ⟨by rw [rank, if_pos e0, if_pos e1], rfl⟩
    · skip
      refine Own.icmpNo W0 d21_20 23 (XT.ii_lt_f e1) rfl ?_
      refine Own.iincW W0 d21_23 29 rfl rfl #[.val (.int x), .val (.int (x + (8192 : Int32)))] rfl ?_
      refine Own.iloadN W0 d21_29 30 rfl (x + (8192 : Int32)) rfl ?_
      exact Own.retI W0 (by decide) (by decide) rfl d21_30 ⟨by rw [rank, if_pos e0, if_neg e1], rfl⟩
  · skip
    refine Own.icmpNo W0 d21_5 8 (XT.ii_lt_f e0) rfl ?_
    refine Own.iincW W0 d21_8 14 rfl rfl #[.val (.int x), .val (.int (x + (-2048 : Int32)))] rfl ?_
    refine Own.goto W0 d21_14 29 (by decide) (by decide) ?_
    refine Own.iloadN W0 d21_29 30 rfl (x + (-2048 : Int32)) rfl ?_
    exact Own.retI W0 (by decide) (by decide) rfl d21_30 ⟨by rw [rank, if_neg e0], rfl⟩
set_option maxRecDepth 65536 in
set_option maxHeartbeats 40000000 in
theorem con_min {G : Own.Gl} (hw : ∀ d ∈ tables_1, d.before G.a0 G.Z = true) (hEL : EW G.Z G.a0 G.EL) (a b : Int32) {h : Heap} (hO : Old G.Z G.n0 h) :
    Own.Con G [] bMin #[.int a, .int b] h [] (fun v h' => v = some (.int (if b < a then b else a)) ∧ h' = h) := by
  refine Own.Con.intro (by decide +kernel) hO hEL _ (fun m => ef_bMin m a b) ?_
  intro X T0 W0 sf
  refine Own.iloadN W0 d10_0 1 rfl a rfl ?_
  refine Own.iloadN W0 d10_1 2 rfl b rfl ?_
  by_cases e0 : b < a
  · skip
    refine Own.icmpYes W0 d10_2 9 (XT.ii_gt_t e0) (by decide) (by decide) ?_
    refine Own.iloadN W0 d10_9 10 rfl b rfl ?_
    exact Own.retI W0 (by decide) (by decide) rfl d10_10 ⟨by rw [if_pos e0], rfl⟩
  · skip
    refine Own.icmpNo W0 d10_2 5 (XT.ii_gt_f e0) rfl ?_
    refine Own.iloadN W0 d10_5 6 rfl a rfl ?_
    refine Own.goto W0 d10_6 10 (by decide) (by decide) ?_
    exact Own.retI W0 (by decide) (by decide) rfl d10_10 ⟨by rw [if_neg e0], rfl⟩
set_option maxRecDepth 65536 in
set_option maxHeartbeats 40000000 in
theorem con_cmp00 {G : Own.Gl} (hw : ∀ d ∈ tables_1, d.before G.a0 G.Z = true) (hEL : EW G.Z G.a0 G.EL) (hmem : (Own.ST, 7) ∈ G.EL) {cz : Int32} (hS : Sta G.Z G.Z.heap Own.ST "COMPACT_STRINGS" "Z" (.int cz)) (hcz : ¬ cz = 0) {fm : Value} (SF : Sta G.Z G.Z.heap "jdk/internal/util/Preconditions" "SIOOBE_FORMATTER" "Ljava/util/function/BiFunction;" fm) (rfm : fm.isRef = true) (TA : Sta G.Z G.Z.heap "java/lang/StringUTF16" "$assertionsDisabled" "Z" (.int 1)) (TH : Sta G.Z G.Z.heap "java/lang/StringUTF16" "HI_BYTE_SHIFT" "I" (.int 0)) (TL : Sta G.Z G.Z.heap "java/lang/StringUTF16" "LO_BYTE_SHIFT" "I" (.int 8)) {x y : Addr} {h : Heap} (hO : Old G.Z G.n0 h) (Sx : Own.Uni G.Z h x []) (Sy : Own.Uni G.Z h y []) :
    Own.Con G [] bCmp00 #[.ref x, .ref y] h [] (fun v h' => v = some (.int (cmpF [] [] (0 : Int32))) ∧ h' = h) := by
  refine Own.Con.intro (plainFor_of_name pn_4) hO hEL _ (fun m => ef_bCmp00 m x y) ?_
  intro X T0 W0 sf
  have Ex := Sx.exa
  have Ey := Sy.exa
  refine Own.aloadN W0 d7_0 1 rfl (.ref x) rfl rfl ?_
  refine Own.callV W0 (tw hw 36 rfl) (tw hw 37 rfl) (fun s q => notFace_of_selects (args := #[]) (mvT (s := s) q (tw hw 39 rfl))) (tw hw 39 rfl) (tw hw 38 rfl) (by decide) (argsL := []) (rest := []) (Own.payLenU (wL hw) (kI := 4) (tw hw 5 rfl) W0 Sx hS hcz (len := 3) (wd := 0) (by decide) (by decide)) Ex rfl (lenOf pd_14 rfl) rfl (Nat.le_of_ble_eq_true rfl) d7_1 4 rfl 0 0 (Nat.le_of_ble_eq_true rfl) (Nat.le_of_ble_eq_true rfl) (Nat.le_of_ble_eq_true rfl) (Nat.le_of_ble_eq_true rfl) ?_
  intro v1 T1 h1 u1 W1 R1 hq
  obtain ⟨rfl, eh1⟩ := hq
  have ei1 := eh1.symm; subst ei1
  show Own.Go _ _ _ _ _ 4 #[.val (.ref x), .val (.ref y), .unset, .unset, .unset, .unset] [(.int (0 : Int32))]
  refine Own.aloadN W1 d7_4 5 rfl (.ref y) rfl rfl ?_
  refine Own.callV W1 (tw hw 36 rfl) (tw hw 37 rfl) (fun s q => notFace_of_selects (args := #[]) (mvT (s := s) q (tw hw 39 rfl))) (tw hw 39 rfl) (tw hw 38 rfl) (by decide) (argsL := []) (rest := [(.int (0 : Int32))]) (Own.payLenU (wL hw) (kI := 4) (tw hw 5 rfl) W1 Sy hS hcz (len := 3) (wd := 1) (by decide) (by decide)) Ey rfl (lenOf pd_14 rfl) rfl (Nat.le_of_ble_eq_true rfl) d7_5 8 rfl 0 0 (Nat.le_of_ble_eq_true rfl) (Nat.le_of_ble_eq_true rfl) (Nat.le_of_ble_eq_true rfl) (Nat.le_of_ble_eq_true rfl) ?_
  intro v2 T2 h2 u2 W2 R2 hq
  obtain ⟨rfl, eh2⟩ := hq
  have ei2 := eh2.symm; subst ei2
  show Own.Go _ _ _ _ _ 8 #[.val (.ref x), .val (.ref y), .unset, .unset, .unset, .unset] [(.int (0 : Int32)), (.int (0 : Int32))]
  refine Own.callS W2 (tw hw 47 rfl) (tw hw 48 rfl) (tw hw 49 rfl) (tw hw 50 rfl) (by decide) (argsL := [(.int (0 : Int32)), (.int (0 : Int32))]) (rest := []) (Own.Con.pay (con_min hw hEL _ _ W2.old) W2 (tw hw 50 rfl) (tw hw 49 rfl) (len := 3) (wd := 0) (by decide) (by decide) (fun _ q => nomatch q)) rfl (lenOf pd_15 rfl) rfl (Nat.le_of_ble_eq_true rfl) d7_8 11 rfl 0 0 (Nat.le_of_ble_eq_true rfl) (Nat.le_of_ble_eq_true rfl) (Nat.le_of_ble_eq_true rfl) (Nat.le_of_ble_eq_true rfl) ?_
  intro v3 T3 h3 u3 W3 R3 hq
  obtain ⟨rfl, eh3⟩ := hq
  have ei3 := eh3.symm; subst ei3
  rw [show (if (0 : Int32) < (0 : Int32) then (0 : Int32) else (0 : Int32)) = (0 : Int32) from by decide]
  show Own.Go _ _ _ _ _ 11 #[.val (.ref x), .val (.ref y), .unset, .unset, .unset, .unset] [(.int (0 : Int32))]
  refine Own.istoreN W3 d7_11 12 rfl #[.val (.ref x), .val (.ref y), .val (.int (0 : Int32)), .unset, .unset, .unset] rfl ?_
  refine Own.iconst W3 d7_12 13 rfl (0 : Int32) rfl ?_
  refine Own.istoreN W3 d7_13 14 rfl #[.val (.ref x), .val (.ref y), .val (.int (0 : Int32)), .val (.int (0 : Int32)), .unset, .unset] rfl ?_
  refine Own.iloadN W3 d7_14 15 rfl (0 : Int32) rfl ?_
  refine Own.iloadN W3 d7_15 16 rfl (0 : Int32) rfl ?_
  refine Own.icmpYes W3 d7_16 58 (by decide) (by decide) (by decide) ?_
  refine Own.aloadN W3 d7_58 59 rfl (.ref x) rfl rfl ?_
  refine Own.callV W3 (tw hw 36 rfl) (tw hw 37 rfl) (fun s q => notFace_of_selects (args := #[]) (mvT (s := s) q (tw hw 39 rfl))) (tw hw 39 rfl) (tw hw 38 rfl) (by decide) (argsL := []) (rest := []) (Own.payLenU (wL hw) (kI := 4) (tw hw 5 rfl) W3 Sx hS hcz (len := 3) (wd := 0) (by decide) (by decide)) Ex rfl (lenOf pd_14 rfl) rfl (Nat.le_of_ble_eq_true rfl) d7_59 62 rfl 0 0 (Nat.le_of_ble_eq_true rfl) (Nat.le_of_ble_eq_true rfl) (Nat.le_of_ble_eq_true rfl) (Nat.le_of_ble_eq_true rfl) ?_
  intro v4 T4 h4 u4 W4 R4 hq
  obtain ⟨rfl, eh4⟩ := hq
  have ei4 := eh4.symm; subst ei4
  show Own.Go _ _ _ _ _ 62 #[.val (.ref x), .val (.ref y), .val (.int (0 : Int32)), .val (.int (0 : Int32)), .unset, .unset] [(.int (0 : Int32))]
  refine Own.aloadN W4 d7_62 63 rfl (.ref y) rfl rfl ?_
  refine Own.callV W4 (tw hw 36 rfl) (tw hw 37 rfl) (fun s q => notFace_of_selects (args := #[]) (mvT (s := s) q (tw hw 39 rfl))) (tw hw 39 rfl) (tw hw 38 rfl) (by decide) (argsL := []) (rest := [(.int (0 : Int32))]) (Own.payLenU (wL hw) (kI := 4) (tw hw 5 rfl) W4 Sy hS hcz (len := 3) (wd := 1) (by decide) (by decide)) Ey rfl (lenOf pd_14 rfl) rfl (Nat.le_of_ble_eq_true rfl) d7_63 66 rfl 0 0 (Nat.le_of_ble_eq_true rfl) (Nat.le_of_ble_eq_true rfl) (Nat.le_of_ble_eq_true rfl) (Nat.le_of_ble_eq_true rfl) ?_
  intro v5 T5 h5 u5 W5 R5 hq
  obtain ⟨rfl, eh5⟩ := hq
  have ei5 := eh5.symm; subst ei5
  show Own.Go _ _ _ _ _ 66 #[.val (.ref x), .val (.ref y), .val (.int (0 : Int32)), .val (.int (0 : Int32)), .unset, .unset] [(.int (0 : Int32)), (.int (0 : Int32))]
  refine Own.isub W5 d7_66 67 rfl ?_
  show Own.Go _ _ _ _ _ 67 #[.val (.ref x), .val (.ref y), .val (.int (0 : Int32)), .val (.int (0 : Int32)), .unset, .unset] [(.int (0 : Int32))]
  exact Own.retI W5 (by decide) (by decide) rfl d7_67 ⟨by rw [cmp_end (Or.inl rfl)], rfl⟩
set_option maxRecDepth 65536 in
set_option maxHeartbeats 40000000 in
theorem con_cmp01 {G : Own.Gl} (hw : ∀ d ∈ tables_1, d.before G.a0 G.Z = true) (hEL : EW G.Z G.a0 G.EL) (hmem : (Own.ST, 7) ∈ G.EL) {cz : Int32} (hS : Sta G.Z G.Z.heap Own.ST "COMPACT_STRINGS" "Z" (.int cz)) (hcz : ¬ cz = 0) {fm : Value} (SF : Sta G.Z G.Z.heap "jdk/internal/util/Preconditions" "SIOOBE_FORMATTER" "Ljava/util/function/BiFunction;" fm) (rfm : fm.isRef = true) (TA : Sta G.Z G.Z.heap "java/lang/StringUTF16" "$assertionsDisabled" "Z" (.int 1)) (TH : Sta G.Z G.Z.heap "java/lang/StringUTF16" "HI_BYTE_SHIFT" "I" (.int 0)) (TL : Sta G.Z G.Z.heap "java/lang/StringUTF16" "LO_BYTE_SHIFT" "I" (.int 8)) {b0 : Int32} {x y : Addr} {h : Heap} (hO : Old G.Z G.n0 h) (Sx : Own.Uni G.Z h x []) (Sy : Own.Uni G.Z h y [b0]) :
    Own.Con G [] bCmp01 #[.ref x, .ref y] h [] (fun v h' => v = some (.int (cmpF [] [b0] (-1 : Int32))) ∧ h' = h) := by
  refine Own.Con.intro (plainFor_of_name pn_4) hO hEL _ (fun m => ef_bCmp01 m x y) ?_
  intro X T0 W0 sf
  have Ex := Sx.exa
  have Ey := Sy.exa
  refine Own.aloadN W0 d7_0 1 rfl (.ref x) rfl rfl ?_
  refine Own.callV W0 (tw hw 36 rfl) (tw hw 37 rfl) (fun s q => notFace_of_selects (args := #[]) (mvT (s := s) q (tw hw 39 rfl))) (tw hw 39 rfl) (tw hw 38 rfl) (by decide) (argsL := []) (rest := []) (Own.payLenU (wL hw) (kI := 4) (tw hw 5 rfl) W0 Sx hS hcz (len := 3) (wd := 0) (by decide) (by decide)) Ex rfl (lenOf pd_14 rfl) rfl (Nat.le_of_ble_eq_true rfl) d7_1 4 rfl 0 0 (Nat.le_of_ble_eq_true rfl) (Nat.le_of_ble_eq_true rfl) (Nat.le_of_ble_eq_true rfl) (Nat.le_of_ble_eq_true rfl) ?_
  intro v1 T1 h1 u1 W1 R1 hq
  obtain ⟨rfl, eh1⟩ := hq
  have ei1 := eh1.symm; subst ei1
  show Own.Go _ _ _ _ _ 4 #[.val (.ref x), .val (.ref y), .unset, .unset, .unset, .unset] [(.int (0 : Int32))]
  refine Own.aloadN W1 d7_4 5 rfl (.ref y) rfl rfl ?_
  refine Own.callV W1 (tw hw 36 rfl) (tw hw 37 rfl) (fun s q => notFace_of_selects (args := #[]) (mvT (s := s) q (tw hw 39 rfl))) (tw hw 39 rfl) (tw hw 38 rfl) (by decide) (argsL := []) (rest := [(.int (0 : Int32))]) (Own.payLenU (wL hw) (kI := 4) (tw hw 5 rfl) W1 Sy hS hcz (len := 3) (wd := 1) (by decide) (by decide)) Ey rfl (lenOf pd_14 rfl) rfl (Nat.le_of_ble_eq_true rfl) d7_5 8 rfl 0 0 (Nat.le_of_ble_eq_true rfl) (Nat.le_of_ble_eq_true rfl) (Nat.le_of_ble_eq_true rfl) (Nat.le_of_ble_eq_true rfl) ?_
  intro v2 T2 h2 u2 W2 R2 hq
  obtain ⟨rfl, eh2⟩ := hq
  have ei2 := eh2.symm; subst ei2
  show Own.Go _ _ _ _ _ 8 #[.val (.ref x), .val (.ref y), .unset, .unset, .unset, .unset] [(.int (1 : Int32)), (.int (0 : Int32))]
  refine Own.callS W2 (tw hw 47 rfl) (tw hw 48 rfl) (tw hw 49 rfl) (tw hw 50 rfl) (by decide) (argsL := [(.int (0 : Int32)), (.int (1 : Int32))]) (rest := []) (Own.Con.pay (con_min hw hEL _ _ W2.old) W2 (tw hw 50 rfl) (tw hw 49 rfl) (len := 3) (wd := 0) (by decide) (by decide) (fun _ q => nomatch q)) rfl (lenOf pd_15 rfl) rfl (Nat.le_of_ble_eq_true rfl) d7_8 11 rfl 0 0 (Nat.le_of_ble_eq_true rfl) (Nat.le_of_ble_eq_true rfl) (Nat.le_of_ble_eq_true rfl) (Nat.le_of_ble_eq_true rfl) ?_
  intro v3 T3 h3 u3 W3 R3 hq
  obtain ⟨rfl, eh3⟩ := hq
  have ei3 := eh3.symm; subst ei3
  rw [show (if (1 : Int32) < (0 : Int32) then (1 : Int32) else (0 : Int32)) = (0 : Int32) from by decide]
  show Own.Go _ _ _ _ _ 11 #[.val (.ref x), .val (.ref y), .unset, .unset, .unset, .unset] [(.int (0 : Int32))]
  refine Own.istoreN W3 d7_11 12 rfl #[.val (.ref x), .val (.ref y), .val (.int (0 : Int32)), .unset, .unset, .unset] rfl ?_
  refine Own.iconst W3 d7_12 13 rfl (0 : Int32) rfl ?_
  refine Own.istoreN W3 d7_13 14 rfl #[.val (.ref x), .val (.ref y), .val (.int (0 : Int32)), .val (.int (0 : Int32)), .unset, .unset] rfl ?_
  refine Own.iloadN W3 d7_14 15 rfl (0 : Int32) rfl ?_
  refine Own.iloadN W3 d7_15 16 rfl (0 : Int32) rfl ?_
  refine Own.icmpYes W3 d7_16 58 (by decide) (by decide) (by decide) ?_
  refine Own.aloadN W3 d7_58 59 rfl (.ref x) rfl rfl ?_
  refine Own.callV W3 (tw hw 36 rfl) (tw hw 37 rfl) (fun s q => notFace_of_selects (args := #[]) (mvT (s := s) q (tw hw 39 rfl))) (tw hw 39 rfl) (tw hw 38 rfl) (by decide) (argsL := []) (rest := []) (Own.payLenU (wL hw) (kI := 4) (tw hw 5 rfl) W3 Sx hS hcz (len := 3) (wd := 0) (by decide) (by decide)) Ex rfl (lenOf pd_14 rfl) rfl (Nat.le_of_ble_eq_true rfl) d7_59 62 rfl 0 0 (Nat.le_of_ble_eq_true rfl) (Nat.le_of_ble_eq_true rfl) (Nat.le_of_ble_eq_true rfl) (Nat.le_of_ble_eq_true rfl) ?_
  intro v4 T4 h4 u4 W4 R4 hq
  obtain ⟨rfl, eh4⟩ := hq
  have ei4 := eh4.symm; subst ei4
  show Own.Go _ _ _ _ _ 62 #[.val (.ref x), .val (.ref y), .val (.int (0 : Int32)), .val (.int (0 : Int32)), .unset, .unset] [(.int (0 : Int32))]
  refine Own.aloadN W4 d7_62 63 rfl (.ref y) rfl rfl ?_
  refine Own.callV W4 (tw hw 36 rfl) (tw hw 37 rfl) (fun s q => notFace_of_selects (args := #[]) (mvT (s := s) q (tw hw 39 rfl))) (tw hw 39 rfl) (tw hw 38 rfl) (by decide) (argsL := []) (rest := [(.int (0 : Int32))]) (Own.payLenU (wL hw) (kI := 4) (tw hw 5 rfl) W4 Sy hS hcz (len := 3) (wd := 1) (by decide) (by decide)) Ey rfl (lenOf pd_14 rfl) rfl (Nat.le_of_ble_eq_true rfl) d7_63 66 rfl 0 0 (Nat.le_of_ble_eq_true rfl) (Nat.le_of_ble_eq_true rfl) (Nat.le_of_ble_eq_true rfl) (Nat.le_of_ble_eq_true rfl) ?_
  intro v5 T5 h5 u5 W5 R5 hq
  obtain ⟨rfl, eh5⟩ := hq
  have ei5 := eh5.symm; subst ei5
  show Own.Go _ _ _ _ _ 66 #[.val (.ref x), .val (.ref y), .val (.int (0 : Int32)), .val (.int (0 : Int32)), .unset, .unset] [(.int (1 : Int32)), (.int (0 : Int32))]
  refine Own.isub W5 d7_66 67 rfl ?_
  show Own.Go _ _ _ _ _ 67 #[.val (.ref x), .val (.ref y), .val (.int (0 : Int32)), .val (.int (0 : Int32)), .unset, .unset] [(.int (-1 : Int32))]
  exact Own.retI W5 (by decide) (by decide) rfl d7_67 ⟨by rw [cmp_end (Or.inl rfl)], rfl⟩
set_option maxRecDepth 65536 in
set_option maxHeartbeats 40000000 in
theorem con_cmp02 {G : Own.Gl} (hw : ∀ d ∈ tables_1, d.before G.a0 G.Z = true) (hEL : EW G.Z G.a0 G.EL) (hmem : (Own.ST, 7) ∈ G.EL) {cz : Int32} (hS : Sta G.Z G.Z.heap Own.ST "COMPACT_STRINGS" "Z" (.int cz)) (hcz : ¬ cz = 0) {fm : Value} (SF : Sta G.Z G.Z.heap "jdk/internal/util/Preconditions" "SIOOBE_FORMATTER" "Ljava/util/function/BiFunction;" fm) (rfm : fm.isRef = true) (TA : Sta G.Z G.Z.heap "java/lang/StringUTF16" "$assertionsDisabled" "Z" (.int 1)) (TH : Sta G.Z G.Z.heap "java/lang/StringUTF16" "HI_BYTE_SHIFT" "I" (.int 0)) (TL : Sta G.Z G.Z.heap "java/lang/StringUTF16" "LO_BYTE_SHIFT" "I" (.int 8)) {b0 b1 : Int32} {x y : Addr} {h : Heap} (hO : Old G.Z G.n0 h) (Sx : Own.Uni G.Z h x []) (Sy : Own.Uni G.Z h y [b0, b1]) :
    Own.Con G [] bCmp02 #[.ref x, .ref y] h [] (fun v h' => v = some (.int (cmpF [] [b0, b1] (-2 : Int32))) ∧ h' = h) := by
  refine Own.Con.intro (plainFor_of_name pn_4) hO hEL _ (fun m => ef_bCmp02 m x y) ?_
  intro X T0 W0 sf
  have Ex := Sx.exa
  have Ey := Sy.exa
  refine Own.aloadN W0 d7_0 1 rfl (.ref x) rfl rfl ?_
  refine Own.callV W0 (tw hw 36 rfl) (tw hw 37 rfl) (fun s q => notFace_of_selects (args := #[]) (mvT (s := s) q (tw hw 39 rfl))) (tw hw 39 rfl) (tw hw 38 rfl) (by decide) (argsL := []) (rest := []) (Own.payLenU (wL hw) (kI := 4) (tw hw 5 rfl) W0 Sx hS hcz (len := 3) (wd := 0) (by decide) (by decide)) Ex rfl (lenOf pd_14 rfl) rfl (Nat.le_of_ble_eq_true rfl) d7_1 4 rfl 0 0 (Nat.le_of_ble_eq_true rfl) (Nat.le_of_ble_eq_true rfl) (Nat.le_of_ble_eq_true rfl) (Nat.le_of_ble_eq_true rfl) ?_
  intro v1 T1 h1 u1 W1 R1 hq
  obtain ⟨rfl, eh1⟩ := hq
  have ei1 := eh1.symm; subst ei1
  show Own.Go _ _ _ _ _ 4 #[.val (.ref x), .val (.ref y), .unset, .unset, .unset, .unset] [(.int (0 : Int32))]
  refine Own.aloadN W1 d7_4 5 rfl (.ref y) rfl rfl ?_
  refine Own.callV W1 (tw hw 36 rfl) (tw hw 37 rfl) (fun s q => notFace_of_selects (args := #[]) (mvT (s := s) q (tw hw 39 rfl))) (tw hw 39 rfl) (tw hw 38 rfl) (by decide) (argsL := []) (rest := [(.int (0 : Int32))]) (Own.payLenU (wL hw) (kI := 4) (tw hw 5 rfl) W1 Sy hS hcz (len := 3) (wd := 1) (by decide) (by decide)) Ey rfl (lenOf pd_14 rfl) rfl (Nat.le_of_ble_eq_true rfl) d7_5 8 rfl 0 0 (Nat.le_of_ble_eq_true rfl) (Nat.le_of_ble_eq_true rfl) (Nat.le_of_ble_eq_true rfl) (Nat.le_of_ble_eq_true rfl) ?_
  intro v2 T2 h2 u2 W2 R2 hq
  obtain ⟨rfl, eh2⟩ := hq
  have ei2 := eh2.symm; subst ei2
  show Own.Go _ _ _ _ _ 8 #[.val (.ref x), .val (.ref y), .unset, .unset, .unset, .unset] [(.int (2 : Int32)), (.int (0 : Int32))]
  refine Own.callS W2 (tw hw 47 rfl) (tw hw 48 rfl) (tw hw 49 rfl) (tw hw 50 rfl) (by decide) (argsL := [(.int (0 : Int32)), (.int (2 : Int32))]) (rest := []) (Own.Con.pay (con_min hw hEL _ _ W2.old) W2 (tw hw 50 rfl) (tw hw 49 rfl) (len := 3) (wd := 0) (by decide) (by decide) (fun _ q => nomatch q)) rfl (lenOf pd_15 rfl) rfl (Nat.le_of_ble_eq_true rfl) d7_8 11 rfl 0 0 (Nat.le_of_ble_eq_true rfl) (Nat.le_of_ble_eq_true rfl) (Nat.le_of_ble_eq_true rfl) (Nat.le_of_ble_eq_true rfl) ?_
  intro v3 T3 h3 u3 W3 R3 hq
  obtain ⟨rfl, eh3⟩ := hq
  have ei3 := eh3.symm; subst ei3
  rw [show (if (2 : Int32) < (0 : Int32) then (2 : Int32) else (0 : Int32)) = (0 : Int32) from by decide]
  show Own.Go _ _ _ _ _ 11 #[.val (.ref x), .val (.ref y), .unset, .unset, .unset, .unset] [(.int (0 : Int32))]
  refine Own.istoreN W3 d7_11 12 rfl #[.val (.ref x), .val (.ref y), .val (.int (0 : Int32)), .unset, .unset, .unset] rfl ?_
  refine Own.iconst W3 d7_12 13 rfl (0 : Int32) rfl ?_
  refine Own.istoreN W3 d7_13 14 rfl #[.val (.ref x), .val (.ref y), .val (.int (0 : Int32)), .val (.int (0 : Int32)), .unset, .unset] rfl ?_
  refine Own.iloadN W3 d7_14 15 rfl (0 : Int32) rfl ?_
  refine Own.iloadN W3 d7_15 16 rfl (0 : Int32) rfl ?_
  refine Own.icmpYes W3 d7_16 58 (by decide) (by decide) (by decide) ?_
  refine Own.aloadN W3 d7_58 59 rfl (.ref x) rfl rfl ?_
  refine Own.callV W3 (tw hw 36 rfl) (tw hw 37 rfl) (fun s q => notFace_of_selects (args := #[]) (mvT (s := s) q (tw hw 39 rfl))) (tw hw 39 rfl) (tw hw 38 rfl) (by decide) (argsL := []) (rest := []) (Own.payLenU (wL hw) (kI := 4) (tw hw 5 rfl) W3 Sx hS hcz (len := 3) (wd := 0) (by decide) (by decide)) Ex rfl (lenOf pd_14 rfl) rfl (Nat.le_of_ble_eq_true rfl) d7_59 62 rfl 0 0 (Nat.le_of_ble_eq_true rfl) (Nat.le_of_ble_eq_true rfl) (Nat.le_of_ble_eq_true rfl) (Nat.le_of_ble_eq_true rfl) ?_
  intro v4 T4 h4 u4 W4 R4 hq
  obtain ⟨rfl, eh4⟩ := hq
  have ei4 := eh4.symm; subst ei4
  show Own.Go _ _ _ _ _ 62 #[.val (.ref x), .val (.ref y), .val (.int (0 : Int32)), .val (.int (0 : Int32)), .unset, .unset] [(.int (0 : Int32))]
  refine Own.aloadN W4 d7_62 63 rfl (.ref y) rfl rfl ?_
  refine Own.callV W4 (tw hw 36 rfl) (tw hw 37 rfl) (fun s q => notFace_of_selects (args := #[]) (mvT (s := s) q (tw hw 39 rfl))) (tw hw 39 rfl) (tw hw 38 rfl) (by decide) (argsL := []) (rest := [(.int (0 : Int32))]) (Own.payLenU (wL hw) (kI := 4) (tw hw 5 rfl) W4 Sy hS hcz (len := 3) (wd := 1) (by decide) (by decide)) Ey rfl (lenOf pd_14 rfl) rfl (Nat.le_of_ble_eq_true rfl) d7_63 66 rfl 0 0 (Nat.le_of_ble_eq_true rfl) (Nat.le_of_ble_eq_true rfl) (Nat.le_of_ble_eq_true rfl) (Nat.le_of_ble_eq_true rfl) ?_
  intro v5 T5 h5 u5 W5 R5 hq
  obtain ⟨rfl, eh5⟩ := hq
  have ei5 := eh5.symm; subst ei5
  show Own.Go _ _ _ _ _ 66 #[.val (.ref x), .val (.ref y), .val (.int (0 : Int32)), .val (.int (0 : Int32)), .unset, .unset] [(.int (2 : Int32)), (.int (0 : Int32))]
  refine Own.isub W5 d7_66 67 rfl ?_
  show Own.Go _ _ _ _ _ 67 #[.val (.ref x), .val (.ref y), .val (.int (0 : Int32)), .val (.int (0 : Int32)), .unset, .unset] [(.int (-2 : Int32))]
  exact Own.retI W5 (by decide) (by decide) rfl d7_67 ⟨by rw [cmp_end (Or.inl rfl)], rfl⟩
set_option maxRecDepth 65536 in
set_option maxHeartbeats 40000000 in
theorem con_cmp03 {G : Own.Gl} (hw : ∀ d ∈ tables_1, d.before G.a0 G.Z = true) (hEL : EW G.Z G.a0 G.EL) (hmem : (Own.ST, 7) ∈ G.EL) {cz : Int32} (hS : Sta G.Z G.Z.heap Own.ST "COMPACT_STRINGS" "Z" (.int cz)) (hcz : ¬ cz = 0) {fm : Value} (SF : Sta G.Z G.Z.heap "jdk/internal/util/Preconditions" "SIOOBE_FORMATTER" "Ljava/util/function/BiFunction;" fm) (rfm : fm.isRef = true) (TA : Sta G.Z G.Z.heap "java/lang/StringUTF16" "$assertionsDisabled" "Z" (.int 1)) (TH : Sta G.Z G.Z.heap "java/lang/StringUTF16" "HI_BYTE_SHIFT" "I" (.int 0)) (TL : Sta G.Z G.Z.heap "java/lang/StringUTF16" "LO_BYTE_SHIFT" "I" (.int 8)) {b0 b1 b2 : Int32} {x y : Addr} {h : Heap} (hO : Old G.Z G.n0 h) (Sx : Own.Uni G.Z h x []) (Sy : Own.Uni G.Z h y [b0, b1, b2]) :
    Own.Con G [] bCmp03 #[.ref x, .ref y] h [] (fun v h' => v = some (.int (cmpF [] [b0, b1, b2] (-3 : Int32))) ∧ h' = h) := by
  refine Own.Con.intro (plainFor_of_name pn_4) hO hEL _ (fun m => ef_bCmp03 m x y) ?_
  intro X T0 W0 sf
  have Ex := Sx.exa
  have Ey := Sy.exa
  refine Own.aloadN W0 d7_0 1 rfl (.ref x) rfl rfl ?_
  refine Own.callV W0 (tw hw 36 rfl) (tw hw 37 rfl) (fun s q => notFace_of_selects (args := #[]) (mvT (s := s) q (tw hw 39 rfl))) (tw hw 39 rfl) (tw hw 38 rfl) (by decide) (argsL := []) (rest := []) (Own.payLenU (wL hw) (kI := 4) (tw hw 5 rfl) W0 Sx hS hcz (len := 3) (wd := 0) (by decide) (by decide)) Ex rfl (lenOf pd_14 rfl) rfl (Nat.le_of_ble_eq_true rfl) d7_1 4 rfl 0 0 (Nat.le_of_ble_eq_true rfl) (Nat.le_of_ble_eq_true rfl) (Nat.le_of_ble_eq_true rfl) (Nat.le_of_ble_eq_true rfl) ?_
  intro v1 T1 h1 u1 W1 R1 hq
  obtain ⟨rfl, eh1⟩ := hq
  have ei1 := eh1.symm; subst ei1
  show Own.Go _ _ _ _ _ 4 #[.val (.ref x), .val (.ref y), .unset, .unset, .unset, .unset] [(.int (0 : Int32))]
  refine Own.aloadN W1 d7_4 5 rfl (.ref y) rfl rfl ?_
  refine Own.callV W1 (tw hw 36 rfl) (tw hw 37 rfl) (fun s q => notFace_of_selects (args := #[]) (mvT (s := s) q (tw hw 39 rfl))) (tw hw 39 rfl) (tw hw 38 rfl) (by decide) (argsL := []) (rest := [(.int (0 : Int32))]) (Own.payLenU (wL hw) (kI := 4) (tw hw 5 rfl) W1 Sy hS hcz (len := 3) (wd := 1) (by decide) (by decide)) Ey rfl (lenOf pd_14 rfl) rfl (Nat.le_of_ble_eq_true rfl) d7_5 8 rfl 0 0 (Nat.le_of_ble_eq_true rfl) (Nat.le_of_ble_eq_true rfl) (Nat.le_of_ble_eq_true rfl) (Nat.le_of_ble_eq_true rfl) ?_
  intro v2 T2 h2 u2 W2 R2 hq
  obtain ⟨rfl, eh2⟩ := hq
  have ei2 := eh2.symm; subst ei2
  show Own.Go _ _ _ _ _ 8 #[.val (.ref x), .val (.ref y), .unset, .unset, .unset, .unset] [(.int (3 : Int32)), (.int (0 : Int32))]
  refine Own.callS W2 (tw hw 47 rfl) (tw hw 48 rfl) (tw hw 49 rfl) (tw hw 50 rfl) (by decide) (argsL := [(.int (0 : Int32)), (.int (3 : Int32))]) (rest := []) (Own.Con.pay (con_min hw hEL _ _ W2.old) W2 (tw hw 50 rfl) (tw hw 49 rfl) (len := 3) (wd := 0) (by decide) (by decide) (fun _ q => nomatch q)) rfl (lenOf pd_15 rfl) rfl (Nat.le_of_ble_eq_true rfl) d7_8 11 rfl 0 0 (Nat.le_of_ble_eq_true rfl) (Nat.le_of_ble_eq_true rfl) (Nat.le_of_ble_eq_true rfl) (Nat.le_of_ble_eq_true rfl) ?_
  intro v3 T3 h3 u3 W3 R3 hq
  obtain ⟨rfl, eh3⟩ := hq
  have ei3 := eh3.symm; subst ei3
  rw [show (if (3 : Int32) < (0 : Int32) then (3 : Int32) else (0 : Int32)) = (0 : Int32) from by decide]
  show Own.Go _ _ _ _ _ 11 #[.val (.ref x), .val (.ref y), .unset, .unset, .unset, .unset] [(.int (0 : Int32))]
  refine Own.istoreN W3 d7_11 12 rfl #[.val (.ref x), .val (.ref y), .val (.int (0 : Int32)), .unset, .unset, .unset] rfl ?_
  refine Own.iconst W3 d7_12 13 rfl (0 : Int32) rfl ?_
  refine Own.istoreN W3 d7_13 14 rfl #[.val (.ref x), .val (.ref y), .val (.int (0 : Int32)), .val (.int (0 : Int32)), .unset, .unset] rfl ?_
  refine Own.iloadN W3 d7_14 15 rfl (0 : Int32) rfl ?_
  refine Own.iloadN W3 d7_15 16 rfl (0 : Int32) rfl ?_
  refine Own.icmpYes W3 d7_16 58 (by decide) (by decide) (by decide) ?_
  refine Own.aloadN W3 d7_58 59 rfl (.ref x) rfl rfl ?_
  refine Own.callV W3 (tw hw 36 rfl) (tw hw 37 rfl) (fun s q => notFace_of_selects (args := #[]) (mvT (s := s) q (tw hw 39 rfl))) (tw hw 39 rfl) (tw hw 38 rfl) (by decide) (argsL := []) (rest := []) (Own.payLenU (wL hw) (kI := 4) (tw hw 5 rfl) W3 Sx hS hcz (len := 3) (wd := 0) (by decide) (by decide)) Ex rfl (lenOf pd_14 rfl) rfl (Nat.le_of_ble_eq_true rfl) d7_59 62 rfl 0 0 (Nat.le_of_ble_eq_true rfl) (Nat.le_of_ble_eq_true rfl) (Nat.le_of_ble_eq_true rfl) (Nat.le_of_ble_eq_true rfl) ?_
  intro v4 T4 h4 u4 W4 R4 hq
  obtain ⟨rfl, eh4⟩ := hq
  have ei4 := eh4.symm; subst ei4
  show Own.Go _ _ _ _ _ 62 #[.val (.ref x), .val (.ref y), .val (.int (0 : Int32)), .val (.int (0 : Int32)), .unset, .unset] [(.int (0 : Int32))]
  refine Own.aloadN W4 d7_62 63 rfl (.ref y) rfl rfl ?_
  refine Own.callV W4 (tw hw 36 rfl) (tw hw 37 rfl) (fun s q => notFace_of_selects (args := #[]) (mvT (s := s) q (tw hw 39 rfl))) (tw hw 39 rfl) (tw hw 38 rfl) (by decide) (argsL := []) (rest := [(.int (0 : Int32))]) (Own.payLenU (wL hw) (kI := 4) (tw hw 5 rfl) W4 Sy hS hcz (len := 3) (wd := 1) (by decide) (by decide)) Ey rfl (lenOf pd_14 rfl) rfl (Nat.le_of_ble_eq_true rfl) d7_63 66 rfl 0 0 (Nat.le_of_ble_eq_true rfl) (Nat.le_of_ble_eq_true rfl) (Nat.le_of_ble_eq_true rfl) (Nat.le_of_ble_eq_true rfl) ?_
  intro v5 T5 h5 u5 W5 R5 hq
  obtain ⟨rfl, eh5⟩ := hq
  have ei5 := eh5.symm; subst ei5
  show Own.Go _ _ _ _ _ 66 #[.val (.ref x), .val (.ref y), .val (.int (0 : Int32)), .val (.int (0 : Int32)), .unset, .unset] [(.int (3 : Int32)), (.int (0 : Int32))]
  refine Own.isub W5 d7_66 67 rfl ?_
  show Own.Go _ _ _ _ _ 67 #[.val (.ref x), .val (.ref y), .val (.int (0 : Int32)), .val (.int (0 : Int32)), .unset, .unset] [(.int (-3 : Int32))]
  exact Own.retI W5 (by decide) (by decide) rfl d7_67 ⟨by rw [cmp_end (Or.inl rfl)], rfl⟩
set_option maxRecDepth 65536 in
set_option maxHeartbeats 40000000 in
theorem con_cmp10 {G : Own.Gl} (hw : ∀ d ∈ tables_1, d.before G.a0 G.Z = true) (hEL : EW G.Z G.a0 G.EL) (hmem : (Own.ST, 7) ∈ G.EL) {cz : Int32} (hS : Sta G.Z G.Z.heap Own.ST "COMPACT_STRINGS" "Z" (.int cz)) (hcz : ¬ cz = 0) {fm : Value} (SF : Sta G.Z G.Z.heap "jdk/internal/util/Preconditions" "SIOOBE_FORMATTER" "Ljava/util/function/BiFunction;" fm) (rfm : fm.isRef = true) (TA : Sta G.Z G.Z.heap "java/lang/StringUTF16" "$assertionsDisabled" "Z" (.int 1)) (TH : Sta G.Z G.Z.heap "java/lang/StringUTF16" "HI_BYTE_SHIFT" "I" (.int 0)) (TL : Sta G.Z G.Z.heap "java/lang/StringUTF16" "LO_BYTE_SHIFT" "I" (.int 8)) {a0 : Int32} {x y : Addr} {h : Heap} (hO : Old G.Z G.n0 h) (Sx : Own.Uni G.Z h x [a0]) (Sy : Own.Uni G.Z h y []) :
    Own.Con G [] bCmp10 #[.ref x, .ref y] h [] (fun v h' => v = some (.int (cmpF [a0] [] (1 : Int32))) ∧ h' = h) := by
  refine Own.Con.intro (plainFor_of_name pn_4) hO hEL _ (fun m => ef_bCmp10 m x y) ?_
  intro X T0 W0 sf
  have Ex := Sx.exa
  have Ey := Sy.exa
  refine Own.aloadN W0 d7_0 1 rfl (.ref x) rfl rfl ?_
  refine Own.callV W0 (tw hw 36 rfl) (tw hw 37 rfl) (fun s q => notFace_of_selects (args := #[]) (mvT (s := s) q (tw hw 39 rfl))) (tw hw 39 rfl) (tw hw 38 rfl) (by decide) (argsL := []) (rest := []) (Own.payLenU (wL hw) (kI := 4) (tw hw 5 rfl) W0 Sx hS hcz (len := 3) (wd := 0) (by decide) (by decide)) Ex rfl (lenOf pd_14 rfl) rfl (Nat.le_of_ble_eq_true rfl) d7_1 4 rfl 0 0 (Nat.le_of_ble_eq_true rfl) (Nat.le_of_ble_eq_true rfl) (Nat.le_of_ble_eq_true rfl) (Nat.le_of_ble_eq_true rfl) ?_
  intro v1 T1 h1 u1 W1 R1 hq
  obtain ⟨rfl, eh1⟩ := hq
  have ei1 := eh1.symm; subst ei1
  show Own.Go _ _ _ _ _ 4 #[.val (.ref x), .val (.ref y), .unset, .unset, .unset, .unset] [(.int (1 : Int32))]
  refine Own.aloadN W1 d7_4 5 rfl (.ref y) rfl rfl ?_
  refine Own.callV W1 (tw hw 36 rfl) (tw hw 37 rfl) (fun s q => notFace_of_selects (args := #[]) (mvT (s := s) q (tw hw 39 rfl))) (tw hw 39 rfl) (tw hw 38 rfl) (by decide) (argsL := []) (rest := [(.int (1 : Int32))]) (Own.payLenU (wL hw) (kI := 4) (tw hw 5 rfl) W1 Sy hS hcz (len := 3) (wd := 1) (by decide) (by decide)) Ey rfl (lenOf pd_14 rfl) rfl (Nat.le_of_ble_eq_true rfl) d7_5 8 rfl 0 0 (Nat.le_of_ble_eq_true rfl) (Nat.le_of_ble_eq_true rfl) (Nat.le_of_ble_eq_true rfl) (Nat.le_of_ble_eq_true rfl) ?_
  intro v2 T2 h2 u2 W2 R2 hq
  obtain ⟨rfl, eh2⟩ := hq
  have ei2 := eh2.symm; subst ei2
  show Own.Go _ _ _ _ _ 8 #[.val (.ref x), .val (.ref y), .unset, .unset, .unset, .unset] [(.int (0 : Int32)), (.int (1 : Int32))]
  refine Own.callS W2 (tw hw 47 rfl) (tw hw 48 rfl) (tw hw 49 rfl) (tw hw 50 rfl) (by decide) (argsL := [(.int (1 : Int32)), (.int (0 : Int32))]) (rest := []) (Own.Con.pay (con_min hw hEL _ _ W2.old) W2 (tw hw 50 rfl) (tw hw 49 rfl) (len := 3) (wd := 0) (by decide) (by decide) (fun _ q => nomatch q)) rfl (lenOf pd_15 rfl) rfl (Nat.le_of_ble_eq_true rfl) d7_8 11 rfl 0 0 (Nat.le_of_ble_eq_true rfl) (Nat.le_of_ble_eq_true rfl) (Nat.le_of_ble_eq_true rfl) (Nat.le_of_ble_eq_true rfl) ?_
  intro v3 T3 h3 u3 W3 R3 hq
  obtain ⟨rfl, eh3⟩ := hq
  have ei3 := eh3.symm; subst ei3
  rw [show (if (0 : Int32) < (1 : Int32) then (0 : Int32) else (1 : Int32)) = (0 : Int32) from by decide]
  show Own.Go _ _ _ _ _ 11 #[.val (.ref x), .val (.ref y), .unset, .unset, .unset, .unset] [(.int (0 : Int32))]
  refine Own.istoreN W3 d7_11 12 rfl #[.val (.ref x), .val (.ref y), .val (.int (0 : Int32)), .unset, .unset, .unset] rfl ?_
  refine Own.iconst W3 d7_12 13 rfl (0 : Int32) rfl ?_
  refine Own.istoreN W3 d7_13 14 rfl #[.val (.ref x), .val (.ref y), .val (.int (0 : Int32)), .val (.int (0 : Int32)), .unset, .unset] rfl ?_
  refine Own.iloadN W3 d7_14 15 rfl (0 : Int32) rfl ?_
  refine Own.iloadN W3 d7_15 16 rfl (0 : Int32) rfl ?_
  refine Own.icmpYes W3 d7_16 58 (by decide) (by decide) (by decide) ?_
  refine Own.aloadN W3 d7_58 59 rfl (.ref x) rfl rfl ?_
  refine Own.callV W3 (tw hw 36 rfl) (tw hw 37 rfl) (fun s q => notFace_of_selects (args := #[]) (mvT (s := s) q (tw hw 39 rfl))) (tw hw 39 rfl) (tw hw 38 rfl) (by decide) (argsL := []) (rest := []) (Own.payLenU (wL hw) (kI := 4) (tw hw 5 rfl) W3 Sx hS hcz (len := 3) (wd := 0) (by decide) (by decide)) Ex rfl (lenOf pd_14 rfl) rfl (Nat.le_of_ble_eq_true rfl) d7_59 62 rfl 0 0 (Nat.le_of_ble_eq_true rfl) (Nat.le_of_ble_eq_true rfl) (Nat.le_of_ble_eq_true rfl) (Nat.le_of_ble_eq_true rfl) ?_
  intro v4 T4 h4 u4 W4 R4 hq
  obtain ⟨rfl, eh4⟩ := hq
  have ei4 := eh4.symm; subst ei4
  show Own.Go _ _ _ _ _ 62 #[.val (.ref x), .val (.ref y), .val (.int (0 : Int32)), .val (.int (0 : Int32)), .unset, .unset] [(.int (1 : Int32))]
  refine Own.aloadN W4 d7_62 63 rfl (.ref y) rfl rfl ?_
  refine Own.callV W4 (tw hw 36 rfl) (tw hw 37 rfl) (fun s q => notFace_of_selects (args := #[]) (mvT (s := s) q (tw hw 39 rfl))) (tw hw 39 rfl) (tw hw 38 rfl) (by decide) (argsL := []) (rest := [(.int (1 : Int32))]) (Own.payLenU (wL hw) (kI := 4) (tw hw 5 rfl) W4 Sy hS hcz (len := 3) (wd := 1) (by decide) (by decide)) Ey rfl (lenOf pd_14 rfl) rfl (Nat.le_of_ble_eq_true rfl) d7_63 66 rfl 0 0 (Nat.le_of_ble_eq_true rfl) (Nat.le_of_ble_eq_true rfl) (Nat.le_of_ble_eq_true rfl) (Nat.le_of_ble_eq_true rfl) ?_
  intro v5 T5 h5 u5 W5 R5 hq
  obtain ⟨rfl, eh5⟩ := hq
  have ei5 := eh5.symm; subst ei5
  show Own.Go _ _ _ _ _ 66 #[.val (.ref x), .val (.ref y), .val (.int (0 : Int32)), .val (.int (0 : Int32)), .unset, .unset] [(.int (0 : Int32)), (.int (1 : Int32))]
  refine Own.isub W5 d7_66 67 rfl ?_
  show Own.Go _ _ _ _ _ 67 #[.val (.ref x), .val (.ref y), .val (.int (0 : Int32)), .val (.int (0 : Int32)), .unset, .unset] [(.int (1 : Int32))]
  exact Own.retI W5 (by decide) (by decide) rfl d7_67 ⟨by rw [cmp_end (Or.inr rfl)], rfl⟩
set_option maxRecDepth 65536 in
set_option maxHeartbeats 40000000 in
theorem con_cmp11 {G : Own.Gl} (hw : ∀ d ∈ tables_1, d.before G.a0 G.Z = true) (hEL : EW G.Z G.a0 G.EL) (hmem : (Own.ST, 7) ∈ G.EL) {cz : Int32} (hS : Sta G.Z G.Z.heap Own.ST "COMPACT_STRINGS" "Z" (.int cz)) (hcz : ¬ cz = 0) {fm : Value} (SF : Sta G.Z G.Z.heap "jdk/internal/util/Preconditions" "SIOOBE_FORMATTER" "Ljava/util/function/BiFunction;" fm) (rfm : fm.isRef = true) (TA : Sta G.Z G.Z.heap "java/lang/StringUTF16" "$assertionsDisabled" "Z" (.int 1)) (TH : Sta G.Z G.Z.heap "java/lang/StringUTF16" "HI_BYTE_SHIFT" "I" (.int 0)) (TL : Sta G.Z G.Z.heap "java/lang/StringUTF16" "LO_BYTE_SHIFT" "I" (.int 8)) {a0 : Int32} {b0 : Int32} {x y : Addr} {h : Heap} (hO : Old G.Z G.n0 h) (Sx : Own.Uni G.Z h x [a0]) (Sy : Own.Uni G.Z h y [b0]) :
    Own.Con G [] bCmp11 #[.ref x, .ref y] h [] (fun v h' => v = some (.int (cmpF [a0] [b0] (0 : Int32))) ∧ h' = h) := by
  refine Own.Con.intro (plainFor_of_name pn_4) hO hEL _ (fun m => ef_bCmp11 m x y) ?_
  intro X T0 W0 sf
  have Ex := Sx.exa
  have Ey := Sy.exa
  refine Own.aloadN W0 d7_0 1 rfl (.ref x) rfl rfl ?_
  refine Own.callV W0 (tw hw 36 rfl) (tw hw 37 rfl) (fun s q => notFace_of_selects (args := #[]) (mvT (s := s) q (tw hw 39 rfl))) (tw hw 39 rfl) (tw hw 38 rfl) (by decide) (argsL := []) (rest := []) (Own.payLenU (wL hw) (kI := 4) (tw hw 5 rfl) W0 Sx hS hcz (len := 3) (wd := 0) (by decide) (by decide)) Ex rfl (lenOf pd_14 rfl) rfl (Nat.le_of_ble_eq_true rfl) d7_1 4 rfl 0 0 (Nat.le_of_ble_eq_true rfl) (Nat.le_of_ble_eq_true rfl) (Nat.le_of_ble_eq_true rfl) (Nat.le_of_ble_eq_true rfl) ?_
  intro v1 T1 h1 u1 W1 R1 hq
  obtain ⟨rfl, eh1⟩ := hq
  have ei1 := eh1.symm; subst ei1
  show Own.Go _ _ _ _ _ 4 #[.val (.ref x), .val (.ref y), .unset, .unset, .unset, .unset] [(.int (1 : Int32))]
  refine Own.aloadN W1 d7_4 5 rfl (.ref y) rfl rfl ?_
  refine Own.callV W1 (tw hw 36 rfl) (tw hw 37 rfl) (fun s q => notFace_of_selects (args := #[]) (mvT (s := s) q (tw hw 39 rfl))) (tw hw 39 rfl) (tw hw 38 rfl) (by decide) (argsL := []) (rest := [(.int (1 : Int32))]) (Own.payLenU (wL hw) (kI := 4) (tw hw 5 rfl) W1 Sy hS hcz (len := 3) (wd := 1) (by decide) (by decide)) Ey rfl (lenOf pd_14 rfl) rfl (Nat.le_of_ble_eq_true rfl) d7_5 8 rfl 0 0 (Nat.le_of_ble_eq_true rfl) (Nat.le_of_ble_eq_true rfl) (Nat.le_of_ble_eq_true rfl) (Nat.le_of_ble_eq_true rfl) ?_
  intro v2 T2 h2 u2 W2 R2 hq
  obtain ⟨rfl, eh2⟩ := hq
  have ei2 := eh2.symm; subst ei2
  show Own.Go _ _ _ _ _ 8 #[.val (.ref x), .val (.ref y), .unset, .unset, .unset, .unset] [(.int (1 : Int32)), (.int (1 : Int32))]
  refine Own.callS W2 (tw hw 47 rfl) (tw hw 48 rfl) (tw hw 49 rfl) (tw hw 50 rfl) (by decide) (argsL := [(.int (1 : Int32)), (.int (1 : Int32))]) (rest := []) (Own.Con.pay (con_min hw hEL _ _ W2.old) W2 (tw hw 50 rfl) (tw hw 49 rfl) (len := 3) (wd := 0) (by decide) (by decide) (fun _ q => nomatch q)) rfl (lenOf pd_15 rfl) rfl (Nat.le_of_ble_eq_true rfl) d7_8 11 rfl 0 0 (Nat.le_of_ble_eq_true rfl) (Nat.le_of_ble_eq_true rfl) (Nat.le_of_ble_eq_true rfl) (Nat.le_of_ble_eq_true rfl) ?_
  intro v3 T3 h3 u3 W3 R3 hq
  obtain ⟨rfl, eh3⟩ := hq
  have ei3 := eh3.symm; subst ei3
  rw [show (if (1 : Int32) < (1 : Int32) then (1 : Int32) else (1 : Int32)) = (1 : Int32) from by decide]
  show Own.Go _ _ _ _ _ 11 #[.val (.ref x), .val (.ref y), .unset, .unset, .unset, .unset] [(.int (1 : Int32))]
  refine Own.istoreN W3 d7_11 12 rfl #[.val (.ref x), .val (.ref y), .val (.int (1 : Int32)), .unset, .unset, .unset] rfl ?_
  refine Own.iconst W3 d7_12 13 rfl (0 : Int32) rfl ?_
  refine Own.istoreN W3 d7_13 14 rfl #[.val (.ref x), .val (.ref y), .val (.int (1 : Int32)), .val (.int (0 : Int32)), .unset, .unset] rfl ?_
  refine Own.iloadN W3 d7_14 15 rfl (0 : Int32) rfl ?_
  refine Own.iloadN W3 d7_15 16 rfl (1 : Int32) rfl ?_
  refine Own.icmpNo W3 d7_16 19 (by decide) rfl ?_
  refine Own.aloadN W3 d7_19 20 rfl (.ref x) rfl rfl ?_
  refine Own.iloadN W3 d7_20 21 rfl (0 : Int32) rfl ?_
  refine Own.callV W3 (tw hw 68 rfl) (tw hw 69 rfl) (fun s q => notFace_of_selects (args := #[]) (mvT (s := s) q (tw hw 71 rfl))) (tw hw 71 rfl) (tw hw 70 rfl) (by decide) (argsL := [(.int (0 : Int32))]) (rest := []) (payChU0 hw hEL hmem hS hcz SF rfm TA TH TL W3 Sx (Nat.le_of_ble_eq_true rfl) (len := 3) (wd := 0) (by decide) (by decide)) Ex rfl (lenOf pd_16 rfl) rfl (Nat.le_of_ble_eq_true rfl) d7_21 24 rfl 0 0 (Nat.le_of_ble_eq_true rfl) (Nat.le_of_ble_eq_true rfl) (Nat.le_of_ble_eq_true rfl) (Nat.le_of_ble_eq_true rfl) ?_
  intro v4 T4 h4 u4 W4 R4 hq
  obtain ⟨rfl, eh4⟩ := hq
  have ei4 := eh4.symm; subst ei4
  show Own.Go _ _ _ _ _ 24 #[.val (.ref x), .val (.ref y), .val (.int (1 : Int32)), .val (.int (0 : Int32)), .unset, .unset] [(.int a0)]
  refine Own.istore W4 d7_24 26 rfl #[.val (.ref x), .val (.ref y), .val (.int (1 : Int32)), .val (.int (0 : Int32)), .val (.int a0), .unset] rfl ?_
  refine Own.aloadN W4 d7_26 27 rfl (.ref y) rfl rfl ?_
  refine Own.iloadN W4 d7_27 28 rfl (0 : Int32) rfl ?_
  refine Own.callV W4 (tw hw 68 rfl) (tw hw 69 rfl) (fun s q => notFace_of_selects (args := #[]) (mvT (s := s) q (tw hw 71 rfl))) (tw hw 71 rfl) (tw hw 70 rfl) (by decide) (argsL := [(.int (0 : Int32))]) (rest := []) (payChU0 hw hEL hmem hS hcz SF rfm TA TH TL W4 Sy (Nat.le_of_ble_eq_true rfl) (len := 3) (wd := 0) (by decide) (by decide)) Ey rfl (lenOf pd_16 rfl) rfl (Nat.le_of_ble_eq_true rfl) d7_28 31 rfl 0 0 (Nat.le_of_ble_eq_true rfl) (Nat.le_of_ble_eq_true rfl) (Nat.le_of_ble_eq_true rfl) (Nat.le_of_ble_eq_true rfl) ?_
  intro v5 T5 h5 u5 W5 R5 hq
  obtain ⟨rfl, eh5⟩ := hq
  have ei5 := eh5.symm; subst ei5
  show Own.Go _ _ _ _ _ 31 #[.val (.ref x), .val (.ref y), .val (.int (1 : Int32)), .val (.int (0 : Int32)), .val (.int a0), .unset] [(.int b0)]
  refine Own.istore W5 d7_31 33 rfl #[.val (.ref x), .val (.ref y), .val (.int (1 : Int32)), .val (.int (0 : Int32)), .val (.int a0), .val (.int b0)] rfl ?_
  refine Own.iload W5 d7_33 35 rfl a0 rfl ?_
  refine Own.iload W5 d7_35 37 rfl b0 rfl ?_
  by_cases e0 : a0 = b0
  · skip
    refine Own.icmpYes W5 d7_37 52 (XT.ii_eq_t e0) (by decide) (by decide) ?_
    refine Own.iinc W5 d7_52 55 rfl rfl #[.val (.ref x), .val (.ref y), .val (.int (1 : Int32)), .val (.int (1 : Int32)), .val (.int a0), .val (.int b0)] rfl ?_
    refine Own.goto W5 d7_55 14 (by decide) (by decide) ?_
    refine Own.iloadN W5 d7_14 15 rfl (1 : Int32) rfl ?_
    refine Own.iloadN W5 d7_15 16 rfl (1 : Int32) rfl ?_
    refine Own.icmpYes W5 d7_16 58 (by decide) (by decide) (by decide) ?_
    refine Own.aloadN W5 d7_58 59 rfl (.ref x) rfl rfl ?_
    refine Own.callV W5 (tw hw 36 rfl) (tw hw 37 rfl) (fun s q => notFace_of_selects (args := #[]) (mvT (s := s) q (tw hw 39 rfl))) (tw hw 39 rfl) (tw hw 38 rfl) (by decide) (argsL := []) (rest := []) (Own.payLenU (wL hw) (kI := 4) (tw hw 5 rfl) W5 Sx hS hcz (len := 3) (wd := 0) (by decide) (by decide)) Ex rfl (lenOf pd_14 rfl) rfl (Nat.le_of_ble_eq_true rfl) d7_59 62 rfl 0 0 (Nat.le_of_ble_eq_true rfl) (Nat.le_of_ble_eq_true rfl) (Nat.le_of_ble_eq_true rfl) (Nat.le_of_ble_eq_true rfl) ?_
    intro v6 T6 h6 u6 W6 R6 hq
    obtain ⟨rfl, eh6⟩ := hq
    have ei6 := eh6.symm; subst ei6
    show Own.Go _ _ _ _ _ 62 #[.val (.ref x), .val (.ref y), .val (.int (1 : Int32)), .val (.int (1 : Int32)), .val (.int a0), .val (.int b0)] [(.int (1 : Int32))]
    refine Own.aloadN W6 d7_62 63 rfl (.ref y) rfl rfl ?_
    refine Own.callV W6 (tw hw 36 rfl) (tw hw 37 rfl) (fun s q => notFace_of_selects (args := #[]) (mvT (s := s) q (tw hw 39 rfl))) (tw hw 39 rfl) (tw hw 38 rfl) (by decide) (argsL := []) (rest := [(.int (1 : Int32))]) (Own.payLenU (wL hw) (kI := 4) (tw hw 5 rfl) W6 Sy hS hcz (len := 3) (wd := 1) (by decide) (by decide)) Ey rfl (lenOf pd_14 rfl) rfl (Nat.le_of_ble_eq_true rfl) d7_63 66 rfl 0 0 (Nat.le_of_ble_eq_true rfl) (Nat.le_of_ble_eq_true rfl) (Nat.le_of_ble_eq_true rfl) (Nat.le_of_ble_eq_true rfl) ?_
    intro v7 T7 h7 u7 W7 R7 hq
    obtain ⟨rfl, eh7⟩ := hq
    have ei7 := eh7.symm; subst ei7
    show Own.Go _ _ _ _ _ 66 #[.val (.ref x), .val (.ref y), .val (.int (1 : Int32)), .val (.int (1 : Int32)), .val (.int a0), .val (.int b0)] [(.int (1 : Int32)), (.int (1 : Int32))]
    refine Own.isub W7 d7_66 67 rfl ?_
    show Own.Go _ _ _ _ _ 67 #[.val (.ref x), .val (.ref y), .val (.int (1 : Int32)), .val (.int (1 : Int32)), .val (.int a0), .val (.int b0)] [(.int (0 : Int32))]
    exact Own.retI W7 (by decide) (by decide) rfl d7_67 ⟨by rw [cmp_eq e0, cmp_end (Or.inl rfl)], rfl⟩
  · skip
    refine Own.icmpNo W5 d7_37 40 (XT.ii_eq_f e0) rfl ?_
    refine Own.iload W5 d7_40 42 rfl a0 rfl ?_
    refine Own.callS W5 (tw hw 90 rfl) (tw hw 91 rfl) (tw hw 34 rfl) (tw hw 92 rfl) (by decide) (argsL := [(.int a0)]) (rest := []) (Own.Con.pay (con_rnk hw hEL a0 W5.old) W5 (tw hw 92 rfl) (tw hw 34 rfl) (len := 3) (wd := 0) (by decide) (by decide) (fun _ q => nomatch q)) rfl (lenOf pd_13 rfl) rfl (Nat.le_of_ble_eq_true rfl) d7_42 45 rfl 0 0 (Nat.le_of_ble_eq_true rfl) (Nat.le_of_ble_eq_true rfl) (Nat.le_of_ble_eq_true rfl) (Nat.le_of_ble_eq_true rfl) ?_
    intro v8 T8 h8 u8 W8 R8 hq
    obtain ⟨rfl, eh8⟩ := hq
    have ei8 := eh8.symm; subst ei8
    show Own.Go _ _ _ _ _ 45 #[.val (.ref x), .val (.ref y), .val (.int (1 : Int32)), .val (.int (0 : Int32)), .val (.int a0), .val (.int b0)] [(.int (rank a0))]
    refine Own.iload W8 d7_45 47 rfl b0 rfl ?_
    refine Own.callS W8 (tw hw 90 rfl) (tw hw 91 rfl) (tw hw 34 rfl) (tw hw 92 rfl) (by decide) (argsL := [(.int b0)]) (rest := [(.int (rank a0))]) (Own.Con.pay (con_rnk hw hEL b0 W8.old) W8 (tw hw 92 rfl) (tw hw 34 rfl) (len := 3) (wd := 1) (by decide) (by decide) (fun _ q => nomatch q)) rfl (lenOf pd_13 rfl) rfl (Nat.le_of_ble_eq_true rfl) d7_47 50 rfl 0 0 (Nat.le_of_ble_eq_true rfl) (Nat.le_of_ble_eq_true rfl) (Nat.le_of_ble_eq_true rfl) (Nat.le_of_ble_eq_true rfl) ?_
    intro v9 T9 h9 u9 W9 R9 hq
    obtain ⟨rfl, eh9⟩ := hq
    have ei9 := eh9.symm; subst ei9
    show Own.Go _ _ _ _ _ 50 #[.val (.ref x), .val (.ref y), .val (.int (1 : Int32)), .val (.int (0 : Int32)), .val (.int a0), .val (.int b0)] [(.int (rank b0)), (.int (rank a0))]
    refine Own.isub W9 d7_50 51 rfl ?_
    exact Own.retI W9 (by decide) (by decide) rfl d7_51 ⟨by rw [cmp_ne e0], rfl⟩
set_option maxRecDepth 65536 in
set_option maxHeartbeats 40000000 in
theorem con_cmp12 {G : Own.Gl} (hw : ∀ d ∈ tables_1, d.before G.a0 G.Z = true) (hEL : EW G.Z G.a0 G.EL) (hmem : (Own.ST, 7) ∈ G.EL) {cz : Int32} (hS : Sta G.Z G.Z.heap Own.ST "COMPACT_STRINGS" "Z" (.int cz)) (hcz : ¬ cz = 0) {fm : Value} (SF : Sta G.Z G.Z.heap "jdk/internal/util/Preconditions" "SIOOBE_FORMATTER" "Ljava/util/function/BiFunction;" fm) (rfm : fm.isRef = true) (TA : Sta G.Z G.Z.heap "java/lang/StringUTF16" "$assertionsDisabled" "Z" (.int 1)) (TH : Sta G.Z G.Z.heap "java/lang/StringUTF16" "HI_BYTE_SHIFT" "I" (.int 0)) (TL : Sta G.Z G.Z.heap "java/lang/StringUTF16" "LO_BYTE_SHIFT" "I" (.int 8)) {a0 : Int32} {b0 b1 : Int32} {x y : Addr} {h : Heap} (hO : Old G.Z G.n0 h) (Sx : Own.Uni G.Z h x [a0]) (Sy : Own.Uni G.Z h y [b0, b1]) :
    Own.Con G [] bCmp12 #[.ref x, .ref y] h [] (fun v h' => v = some (.int (cmpF [a0] [b0, b1] (-1 : Int32))) ∧ h' = h) := by
  refine Own.Con.intro (plainFor_of_name pn_4) hO hEL _ (fun m => ef_bCmp12 m x y) ?_
  intro X T0 W0 sf
  have Ex := Sx.exa
  have Ey := Sy.exa
  refine Own.aloadN W0 d7_0 1 rfl (.ref x) rfl rfl ?_
  refine Own.callV W0 (tw hw 36 rfl) (tw hw 37 rfl) (fun s q => notFace_of_selects (args := #[]) (mvT (s := s) q (tw hw 39 rfl))) (tw hw 39 rfl) (tw hw 38 rfl) (by decide) (argsL := []) (rest := []) (Own.payLenU (wL hw) (kI := 4) (tw hw 5 rfl) W0 Sx hS hcz (len := 3) (wd := 0) (by decide) (by decide)) Ex rfl (lenOf pd_14 rfl) rfl (Nat.le_of_ble_eq_true rfl) d7_1 4 rfl 0 0 (Nat.le_of_ble_eq_true rfl) (Nat.le_of_ble_eq_true rfl) (Nat.le_of_ble_eq_true rfl) (Nat.le_of_ble_eq_true rfl) ?_
  intro v1 T1 h1 u1 W1 R1 hq
  obtain ⟨rfl, eh1⟩ := hq
  have ei1 := eh1.symm; subst ei1
  show Own.Go _ _ _ _ _ 4 #[.val (.ref x), .val (.ref y), .unset, .unset, .unset, .unset] [(.int (1 : Int32))]
  refine Own.aloadN W1 d7_4 5 rfl (.ref y) rfl rfl ?_
  refine Own.callV W1 (tw hw 36 rfl) (tw hw 37 rfl) (fun s q => notFace_of_selects (args := #[]) (mvT (s := s) q (tw hw 39 rfl))) (tw hw 39 rfl) (tw hw 38 rfl) (by decide) (argsL := []) (rest := [(.int (1 : Int32))]) (Own.payLenU (wL hw) (kI := 4) (tw hw 5 rfl) W1 Sy hS hcz (len := 3) (wd := 1) (by decide) (by decide)) Ey rfl (lenOf pd_14 rfl) rfl (Nat.le_of_ble_eq_true rfl) d7_5 8 rfl 0 0 (Nat.le_of_ble_eq_true rfl) (Nat.le_of_ble_eq_true rfl) (Nat.le_of_ble_eq_true rfl) (Nat.le_of_ble_eq_true rfl) ?_
  intro v2 T2 h2 u2 W2 R2 hq
  obtain ⟨rfl, eh2⟩ := hq
  have ei2 := eh2.symm; subst ei2
  show Own.Go _ _ _ _ _ 8 #[.val (.ref x), .val (.ref y), .unset, .unset, .unset, .unset] [(.int (2 : Int32)), (.int (1 : Int32))]
  refine Own.callS W2 (tw hw 47 rfl) (tw hw 48 rfl) (tw hw 49 rfl) (tw hw 50 rfl) (by decide) (argsL := [(.int (1 : Int32)), (.int (2 : Int32))]) (rest := []) (Own.Con.pay (con_min hw hEL _ _ W2.old) W2 (tw hw 50 rfl) (tw hw 49 rfl) (len := 3) (wd := 0) (by decide) (by decide) (fun _ q => nomatch q)) rfl (lenOf pd_15 rfl) rfl (Nat.le_of_ble_eq_true rfl) d7_8 11 rfl 0 0 (Nat.le_of_ble_eq_true rfl) (Nat.le_of_ble_eq_true rfl) (Nat.le_of_ble_eq_true rfl) (Nat.le_of_ble_eq_true rfl) ?_
  intro v3 T3 h3 u3 W3 R3 hq
  obtain ⟨rfl, eh3⟩ := hq
  have ei3 := eh3.symm; subst ei3
  rw [show (if (2 : Int32) < (1 : Int32) then (2 : Int32) else (1 : Int32)) = (1 : Int32) from by decide]
  show Own.Go _ _ _ _ _ 11 #[.val (.ref x), .val (.ref y), .unset, .unset, .unset, .unset] [(.int (1 : Int32))]
  refine Own.istoreN W3 d7_11 12 rfl #[.val (.ref x), .val (.ref y), .val (.int (1 : Int32)), .unset, .unset, .unset] rfl ?_
  refine Own.iconst W3 d7_12 13 rfl (0 : Int32) rfl ?_
  refine Own.istoreN W3 d7_13 14 rfl #[.val (.ref x), .val (.ref y), .val (.int (1 : Int32)), .val (.int (0 : Int32)), .unset, .unset] rfl ?_
  refine Own.iloadN W3 d7_14 15 rfl (0 : Int32) rfl ?_
  refine Own.iloadN W3 d7_15 16 rfl (1 : Int32) rfl ?_
  refine Own.icmpNo W3 d7_16 19 (by decide) rfl ?_
  refine Own.aloadN W3 d7_19 20 rfl (.ref x) rfl rfl ?_
  refine Own.iloadN W3 d7_20 21 rfl (0 : Int32) rfl ?_
  refine Own.callV W3 (tw hw 68 rfl) (tw hw 69 rfl) (fun s q => notFace_of_selects (args := #[]) (mvT (s := s) q (tw hw 71 rfl))) (tw hw 71 rfl) (tw hw 70 rfl) (by decide) (argsL := [(.int (0 : Int32))]) (rest := []) (payChU0 hw hEL hmem hS hcz SF rfm TA TH TL W3 Sx (Nat.le_of_ble_eq_true rfl) (len := 3) (wd := 0) (by decide) (by decide)) Ex rfl (lenOf pd_16 rfl) rfl (Nat.le_of_ble_eq_true rfl) d7_21 24 rfl 0 0 (Nat.le_of_ble_eq_true rfl) (Nat.le_of_ble_eq_true rfl) (Nat.le_of_ble_eq_true rfl) (Nat.le_of_ble_eq_true rfl) ?_
  intro v4 T4 h4 u4 W4 R4 hq
  obtain ⟨rfl, eh4⟩ := hq
  have ei4 := eh4.symm; subst ei4
  show Own.Go _ _ _ _ _ 24 #[.val (.ref x), .val (.ref y), .val (.int (1 : Int32)), .val (.int (0 : Int32)), .unset, .unset] [(.int a0)]
  refine Own.istore W4 d7_24 26 rfl #[.val (.ref x), .val (.ref y), .val (.int (1 : Int32)), .val (.int (0 : Int32)), .val (.int a0), .unset] rfl ?_
  refine Own.aloadN W4 d7_26 27 rfl (.ref y) rfl rfl ?_
  refine Own.iloadN W4 d7_27 28 rfl (0 : Int32) rfl ?_
  refine Own.callV W4 (tw hw 68 rfl) (tw hw 69 rfl) (fun s q => notFace_of_selects (args := #[]) (mvT (s := s) q (tw hw 71 rfl))) (tw hw 71 rfl) (tw hw 70 rfl) (by decide) (argsL := [(.int (0 : Int32))]) (rest := []) (payChU0 hw hEL hmem hS hcz SF rfm TA TH TL W4 Sy (Nat.le_of_ble_eq_true rfl) (len := 3) (wd := 0) (by decide) (by decide)) Ey rfl (lenOf pd_16 rfl) rfl (Nat.le_of_ble_eq_true rfl) d7_28 31 rfl 0 0 (Nat.le_of_ble_eq_true rfl) (Nat.le_of_ble_eq_true rfl) (Nat.le_of_ble_eq_true rfl) (Nat.le_of_ble_eq_true rfl) ?_
  intro v5 T5 h5 u5 W5 R5 hq
  obtain ⟨rfl, eh5⟩ := hq
  have ei5 := eh5.symm; subst ei5
  show Own.Go _ _ _ _ _ 31 #[.val (.ref x), .val (.ref y), .val (.int (1 : Int32)), .val (.int (0 : Int32)), .val (.int a0), .unset] [(.int b0)]
  refine Own.istore W5 d7_31 33 rfl #[.val (.ref x), .val (.ref y), .val (.int (1 : Int32)), .val (.int (0 : Int32)), .val (.int a0), .val (.int b0)] rfl ?_
  refine Own.iload W5 d7_33 35 rfl a0 rfl ?_
  refine Own.iload W5 d7_35 37 rfl b0 rfl ?_
  by_cases e0 : a0 = b0
  · skip
    refine Own.icmpYes W5 d7_37 52 (XT.ii_eq_t e0) (by decide) (by decide) ?_
    refine Own.iinc W5 d7_52 55 rfl rfl #[.val (.ref x), .val (.ref y), .val (.int (1 : Int32)), .val (.int (1 : Int32)), .val (.int a0), .val (.int b0)] rfl ?_
    refine Own.goto W5 d7_55 14 (by decide) (by decide) ?_
    refine Own.iloadN W5 d7_14 15 rfl (1 : Int32) rfl ?_
    refine Own.iloadN W5 d7_15 16 rfl (1 : Int32) rfl ?_
    refine Own.icmpYes W5 d7_16 58 (by decide) (by decide) (by decide) ?_
    refine Own.aloadN W5 d7_58 59 rfl (.ref x) rfl rfl ?_
    refine Own.callV W5 (tw hw 36 rfl) (tw hw 37 rfl) (fun s q => notFace_of_selects (args := #[]) (mvT (s := s) q (tw hw 39 rfl))) (tw hw 39 rfl) (tw hw 38 rfl) (by decide) (argsL := []) (rest := []) (Own.payLenU (wL hw) (kI := 4) (tw hw 5 rfl) W5 Sx hS hcz (len := 3) (wd := 0) (by decide) (by decide)) Ex rfl (lenOf pd_14 rfl) rfl (Nat.le_of_ble_eq_true rfl) d7_59 62 rfl 0 0 (Nat.le_of_ble_eq_true rfl) (Nat.le_of_ble_eq_true rfl) (Nat.le_of_ble_eq_true rfl) (Nat.le_of_ble_eq_true rfl) ?_
    intro v6 T6 h6 u6 W6 R6 hq
    obtain ⟨rfl, eh6⟩ := hq
    have ei6 := eh6.symm; subst ei6
    show Own.Go _ _ _ _ _ 62 #[.val (.ref x), .val (.ref y), .val (.int (1 : Int32)), .val (.int (1 : Int32)), .val (.int a0), .val (.int b0)] [(.int (1 : Int32))]
    refine Own.aloadN W6 d7_62 63 rfl (.ref y) rfl rfl ?_
    refine Own.callV W6 (tw hw 36 rfl) (tw hw 37 rfl) (fun s q => notFace_of_selects (args := #[]) (mvT (s := s) q (tw hw 39 rfl))) (tw hw 39 rfl) (tw hw 38 rfl) (by decide) (argsL := []) (rest := [(.int (1 : Int32))]) (Own.payLenU (wL hw) (kI := 4) (tw hw 5 rfl) W6 Sy hS hcz (len := 3) (wd := 1) (by decide) (by decide)) Ey rfl (lenOf pd_14 rfl) rfl (Nat.le_of_ble_eq_true rfl) d7_63 66 rfl 0 0 (Nat.le_of_ble_eq_true rfl) (Nat.le_of_ble_eq_true rfl) (Nat.le_of_ble_eq_true rfl) (Nat.le_of_ble_eq_true rfl) ?_
    intro v7 T7 h7 u7 W7 R7 hq
    obtain ⟨rfl, eh7⟩ := hq
    have ei7 := eh7.symm; subst ei7
    show Own.Go _ _ _ _ _ 66 #[.val (.ref x), .val (.ref y), .val (.int (1 : Int32)), .val (.int (1 : Int32)), .val (.int a0), .val (.int b0)] [(.int (2 : Int32)), (.int (1 : Int32))]
    refine Own.isub W7 d7_66 67 rfl ?_
    show Own.Go _ _ _ _ _ 67 #[.val (.ref x), .val (.ref y), .val (.int (1 : Int32)), .val (.int (1 : Int32)), .val (.int a0), .val (.int b0)] [(.int (-1 : Int32))]
    exact Own.retI W7 (by decide) (by decide) rfl d7_67 ⟨by rw [cmp_eq e0, cmp_end (Or.inl rfl)], rfl⟩
  · skip
    refine Own.icmpNo W5 d7_37 40 (XT.ii_eq_f e0) rfl ?_
    refine Own.iload W5 d7_40 42 rfl a0 rfl ?_
    refine Own.callS W5 (tw hw 90 rfl) (tw hw 91 rfl) (tw hw 34 rfl) (tw hw 92 rfl) (by decide) (argsL := [(.int a0)]) (rest := []) (Own.Con.pay (con_rnk hw hEL a0 W5.old) W5 (tw hw 92 rfl) (tw hw 34 rfl) (len := 3) (wd := 0) (by decide) (by decide) (fun _ q => nomatch q)) rfl (lenOf pd_13 rfl) rfl (Nat.le_of_ble_eq_true rfl) d7_42 45 rfl 0 0 (Nat.le_of_ble_eq_true rfl) (Nat.le_of_ble_eq_true rfl) (Nat.le_of_ble_eq_true rfl) (Nat.le_of_ble_eq_true rfl) ?_
    intro v8 T8 h8 u8 W8 R8 hq
    obtain ⟨rfl, eh8⟩ := hq
    have ei8 := eh8.symm; subst ei8
    show Own.Go _ _ _ _ _ 45 #[.val (.ref x), .val (.ref y), .val (.int (1 : Int32)), .val (.int (0 : Int32)), .val (.int a0), .val (.int b0)] [(.int (rank a0))]
    refine Own.iload W8 d7_45 47 rfl b0 rfl ?_
    refine Own.callS W8 (tw hw 90 rfl) (tw hw 91 rfl) (tw hw 34 rfl) (tw hw 92 rfl) (by decide) (argsL := [(.int b0)]) (rest := [(.int (rank a0))]) (Own.Con.pay (con_rnk hw hEL b0 W8.old) W8 (tw hw 92 rfl) (tw hw 34 rfl) (len := 3) (wd := 1) (by decide) (by decide) (fun _ q => nomatch q)) rfl (lenOf pd_13 rfl) rfl (Nat.le_of_ble_eq_true rfl) d7_47 50 rfl 0 0 (Nat.le_of_ble_eq_true rfl) (Nat.le_of_ble_eq_true rfl) (Nat.le_of_ble_eq_true rfl) (Nat.le_of_ble_eq_true rfl) ?_
    intro v9 T9 h9 u9 W9 R9 hq
    obtain ⟨rfl, eh9⟩ := hq
    have ei9 := eh9.symm; subst ei9
    show Own.Go _ _ _ _ _ 50 #[.val (.ref x), .val (.ref y), .val (.int (1 : Int32)), .val (.int (0 : Int32)), .val (.int a0), .val (.int b0)] [(.int (rank b0)), (.int (rank a0))]
    refine Own.isub W9 d7_50 51 rfl ?_
    exact Own.retI W9 (by decide) (by decide) rfl d7_51 ⟨by rw [cmp_ne e0], rfl⟩
set_option maxRecDepth 65536 in
set_option maxHeartbeats 40000000 in
theorem con_cmp13 {G : Own.Gl} (hw : ∀ d ∈ tables_1, d.before G.a0 G.Z = true) (hEL : EW G.Z G.a0 G.EL) (hmem : (Own.ST, 7) ∈ G.EL) {cz : Int32} (hS : Sta G.Z G.Z.heap Own.ST "COMPACT_STRINGS" "Z" (.int cz)) (hcz : ¬ cz = 0) {fm : Value} (SF : Sta G.Z G.Z.heap "jdk/internal/util/Preconditions" "SIOOBE_FORMATTER" "Ljava/util/function/BiFunction;" fm) (rfm : fm.isRef = true) (TA : Sta G.Z G.Z.heap "java/lang/StringUTF16" "$assertionsDisabled" "Z" (.int 1)) (TH : Sta G.Z G.Z.heap "java/lang/StringUTF16" "HI_BYTE_SHIFT" "I" (.int 0)) (TL : Sta G.Z G.Z.heap "java/lang/StringUTF16" "LO_BYTE_SHIFT" "I" (.int 8)) {a0 : Int32} {b0 b1 b2 : Int32} {x y : Addr} {h : Heap} (hO : Old G.Z G.n0 h) (Sx : Own.Uni G.Z h x [a0]) (Sy : Own.Uni G.Z h y [b0, b1, b2]) :
    Own.Con G [] bCmp13 #[.ref x, .ref y] h [] (fun v h' => v = some (.int (cmpF [a0] [b0, b1, b2] (-2 : Int32))) ∧ h' = h) := by
  refine Own.Con.intro (plainFor_of_name pn_4) hO hEL _ (fun m => ef_bCmp13 m x y) ?_
  intro X T0 W0 sf
  have Ex := Sx.exa
  have Ey := Sy.exa
  refine Own.aloadN W0 d7_0 1 rfl (.ref x) rfl rfl ?_
  refine Own.callV W0 (tw hw 36 rfl) (tw hw 37 rfl) (fun s q => notFace_of_selects (args := #[]) (mvT (s := s) q (tw hw 39 rfl))) (tw hw 39 rfl) (tw hw 38 rfl) (by decide) (argsL := []) (rest := []) (Own.payLenU (wL hw) (kI := 4) (tw hw 5 rfl) W0 Sx hS hcz (len := 3) (wd := 0) (by decide) (by decide)) Ex rfl (lenOf pd_14 rfl) rfl (Nat.le_of_ble_eq_true rfl) d7_1 4 rfl 0 0 (Nat.le_of_ble_eq_true rfl) (Nat.le_of_ble_eq_true rfl) (Nat.le_of_ble_eq_true rfl) (Nat.le_of_ble_eq_true rfl) ?_
  intro v1 T1 h1 u1 W1 R1 hq
  obtain ⟨rfl, eh1⟩ := hq
  have ei1 := eh1.symm; subst ei1
  show Own.Go _ _ _ _ _ 4 #[.val (.ref x), .val (.ref y), .unset, .unset, .unset, .unset] [(.int (1 : Int32))]
  refine Own.aloadN W1 d7_4 5 rfl (.ref y) rfl rfl ?_
  refine Own.callV W1 (tw hw 36 rfl) (tw hw 37 rfl) (fun s q => notFace_of_selects (args := #[]) (mvT (s := s) q (tw hw 39 rfl))) (tw hw 39 rfl) (tw hw 38 rfl) (by decide) (argsL := []) (rest := [(.int (1 : Int32))]) (Own.payLenU (wL hw) (kI := 4) (tw hw 5 rfl) W1 Sy hS hcz (len := 3) (wd := 1) (by decide) (by decide)) Ey rfl (lenOf pd_14 rfl) rfl (Nat.le_of_ble_eq_true rfl) d7_5 8 rfl 0 0 (Nat.le_of_ble_eq_true rfl) (Nat.le_of_ble_eq_true rfl) (Nat.le_of_ble_eq_true rfl) (Nat.le_of_ble_eq_true rfl) ?_
  intro v2 T2 h2 u2 W2 R2 hq
  obtain ⟨rfl, eh2⟩ := hq
  have ei2 := eh2.symm; subst ei2
  show Own.Go _ _ _ _ _ 8 #[.val (.ref x), .val (.ref y), .unset, .unset, .unset, .unset] [(.int (3 : Int32)), (.int (1 : Int32))]
  refine Own.callS W2 (tw hw 47 rfl) (tw hw 48 rfl) (tw hw 49 rfl) (tw hw 50 rfl) (by decide) (argsL := [(.int (1 : Int32)), (.int (3 : Int32))]) (rest := []) (Own.Con.pay (con_min hw hEL _ _ W2.old) W2 (tw hw 50 rfl) (tw hw 49 rfl) (len := 3) (wd := 0) (by decide) (by decide) (fun _ q => nomatch q)) rfl (lenOf pd_15 rfl) rfl (Nat.le_of_ble_eq_true rfl) d7_8 11 rfl 0 0 (Nat.le_of_ble_eq_true rfl) (Nat.le_of_ble_eq_true rfl) (Nat.le_of_ble_eq_true rfl) (Nat.le_of_ble_eq_true rfl) ?_
  intro v3 T3 h3 u3 W3 R3 hq
  obtain ⟨rfl, eh3⟩ := hq
  have ei3 := eh3.symm; subst ei3
  rw [show (if (3 : Int32) < (1 : Int32) then (3 : Int32) else (1 : Int32)) = (1 : Int32) from by decide]
  show Own.Go _ _ _ _ _ 11 #[.val (.ref x), .val (.ref y), .unset, .unset, .unset, .unset] [(.int (1 : Int32))]
  refine Own.istoreN W3 d7_11 12 rfl #[.val (.ref x), .val (.ref y), .val (.int (1 : Int32)), .unset, .unset, .unset] rfl ?_
  refine Own.iconst W3 d7_12 13 rfl (0 : Int32) rfl ?_
  refine Own.istoreN W3 d7_13 14 rfl #[.val (.ref x), .val (.ref y), .val (.int (1 : Int32)), .val (.int (0 : Int32)), .unset, .unset] rfl ?_
  refine Own.iloadN W3 d7_14 15 rfl (0 : Int32) rfl ?_
  refine Own.iloadN W3 d7_15 16 rfl (1 : Int32) rfl ?_
  refine Own.icmpNo W3 d7_16 19 (by decide) rfl ?_
  refine Own.aloadN W3 d7_19 20 rfl (.ref x) rfl rfl ?_
  refine Own.iloadN W3 d7_20 21 rfl (0 : Int32) rfl ?_
  refine Own.callV W3 (tw hw 68 rfl) (tw hw 69 rfl) (fun s q => notFace_of_selects (args := #[]) (mvT (s := s) q (tw hw 71 rfl))) (tw hw 71 rfl) (tw hw 70 rfl) (by decide) (argsL := [(.int (0 : Int32))]) (rest := []) (payChU0 hw hEL hmem hS hcz SF rfm TA TH TL W3 Sx (Nat.le_of_ble_eq_true rfl) (len := 3) (wd := 0) (by decide) (by decide)) Ex rfl (lenOf pd_16 rfl) rfl (Nat.le_of_ble_eq_true rfl) d7_21 24 rfl 0 0 (Nat.le_of_ble_eq_true rfl) (Nat.le_of_ble_eq_true rfl) (Nat.le_of_ble_eq_true rfl) (Nat.le_of_ble_eq_true rfl) ?_
  intro v4 T4 h4 u4 W4 R4 hq
  obtain ⟨rfl, eh4⟩ := hq
  have ei4 := eh4.symm; subst ei4
  show Own.Go _ _ _ _ _ 24 #[.val (.ref x), .val (.ref y), .val (.int (1 : Int32)), .val (.int (0 : Int32)), .unset, .unset] [(.int a0)]
  refine Own.istore W4 d7_24 26 rfl #[.val (.ref x), .val (.ref y), .val (.int (1 : Int32)), .val (.int (0 : Int32)), .val (.int a0), .unset] rfl ?_
  refine Own.aloadN W4 d7_26 27 rfl (.ref y) rfl rfl ?_
  refine Own.iloadN W4 d7_27 28 rfl (0 : Int32) rfl ?_
  refine Own.callV W4 (tw hw 68 rfl) (tw hw 69 rfl) (fun s q => notFace_of_selects (args := #[]) (mvT (s := s) q (tw hw 71 rfl))) (tw hw 71 rfl) (tw hw 70 rfl) (by decide) (argsL := [(.int (0 : Int32))]) (rest := []) (payChU0 hw hEL hmem hS hcz SF rfm TA TH TL W4 Sy (Nat.le_of_ble_eq_true rfl) (len := 3) (wd := 0) (by decide) (by decide)) Ey rfl (lenOf pd_16 rfl) rfl (Nat.le_of_ble_eq_true rfl) d7_28 31 rfl 0 0 (Nat.le_of_ble_eq_true rfl) (Nat.le_of_ble_eq_true rfl) (Nat.le_of_ble_eq_true rfl) (Nat.le_of_ble_eq_true rfl) ?_
  intro v5 T5 h5 u5 W5 R5 hq
  obtain ⟨rfl, eh5⟩ := hq
  have ei5 := eh5.symm; subst ei5
  show Own.Go _ _ _ _ _ 31 #[.val (.ref x), .val (.ref y), .val (.int (1 : Int32)), .val (.int (0 : Int32)), .val (.int a0), .unset] [(.int b0)]
  refine Own.istore W5 d7_31 33 rfl #[.val (.ref x), .val (.ref y), .val (.int (1 : Int32)), .val (.int (0 : Int32)), .val (.int a0), .val (.int b0)] rfl ?_
  refine Own.iload W5 d7_33 35 rfl a0 rfl ?_
  refine Own.iload W5 d7_35 37 rfl b0 rfl ?_
  by_cases e0 : a0 = b0
  · skip
    refine Own.icmpYes W5 d7_37 52 (XT.ii_eq_t e0) (by decide) (by decide) ?_
    refine Own.iinc W5 d7_52 55 rfl rfl #[.val (.ref x), .val (.ref y), .val (.int (1 : Int32)), .val (.int (1 : Int32)), .val (.int a0), .val (.int b0)] rfl ?_
    refine Own.goto W5 d7_55 14 (by decide) (by decide) ?_
    refine Own.iloadN W5 d7_14 15 rfl (1 : Int32) rfl ?_
    refine Own.iloadN W5 d7_15 16 rfl (1 : Int32) rfl ?_
    refine Own.icmpYes W5 d7_16 58 (by decide) (by decide) (by decide) ?_
    refine Own.aloadN W5 d7_58 59 rfl (.ref x) rfl rfl ?_
    refine Own.callV W5 (tw hw 36 rfl) (tw hw 37 rfl) (fun s q => notFace_of_selects (args := #[]) (mvT (s := s) q (tw hw 39 rfl))) (tw hw 39 rfl) (tw hw 38 rfl) (by decide) (argsL := []) (rest := []) (Own.payLenU (wL hw) (kI := 4) (tw hw 5 rfl) W5 Sx hS hcz (len := 3) (wd := 0) (by decide) (by decide)) Ex rfl (lenOf pd_14 rfl) rfl (Nat.le_of_ble_eq_true rfl) d7_59 62 rfl 0 0 (Nat.le_of_ble_eq_true rfl) (Nat.le_of_ble_eq_true rfl) (Nat.le_of_ble_eq_true rfl) (Nat.le_of_ble_eq_true rfl) ?_
    intro v6 T6 h6 u6 W6 R6 hq
    obtain ⟨rfl, eh6⟩ := hq
    have ei6 := eh6.symm; subst ei6
    show Own.Go _ _ _ _ _ 62 #[.val (.ref x), .val (.ref y), .val (.int (1 : Int32)), .val (.int (1 : Int32)), .val (.int a0), .val (.int b0)] [(.int (1 : Int32))]
    refine Own.aloadN W6 d7_62 63 rfl (.ref y) rfl rfl ?_
    refine Own.callV W6 (tw hw 36 rfl) (tw hw 37 rfl) (fun s q => notFace_of_selects (args := #[]) (mvT (s := s) q (tw hw 39 rfl))) (tw hw 39 rfl) (tw hw 38 rfl) (by decide) (argsL := []) (rest := [(.int (1 : Int32))]) (Own.payLenU (wL hw) (kI := 4) (tw hw 5 rfl) W6 Sy hS hcz (len := 3) (wd := 1) (by decide) (by decide)) Ey rfl (lenOf pd_14 rfl) rfl (Nat.le_of_ble_eq_true rfl) d7_63 66 rfl 0 0 (Nat.le_of_ble_eq_true rfl) (Nat.le_of_ble_eq_true rfl) (Nat.le_of_ble_eq_true rfl) (Nat.le_of_ble_eq_true rfl) ?_
    intro v7 T7 h7 u7 W7 R7 hq
    obtain ⟨rfl, eh7⟩ := hq
    have ei7 := eh7.symm; subst ei7
    show Own.Go _ _ _ _ _ 66 #[.val (.ref x), .val (.ref y), .val (.int (1 : Int32)), .val (.int (1 : Int32)), .val (.int a0), .val (.int b0)] [(.int (3 : Int32)), (.int (1 : Int32))]
    refine Own.isub W7 d7_66 67 rfl ?_
    show Own.Go _ _ _ _ _ 67 #[.val (.ref x), .val (.ref y), .val (.int (1 : Int32)), .val (.int (1 : Int32)), .val (.int a0), .val (.int b0)] [(.int (-2 : Int32))]
    exact Own.retI W7 (by decide) (by decide) rfl d7_67 ⟨by rw [cmp_eq e0, cmp_end (Or.inl rfl)], rfl⟩
  · skip
    refine Own.icmpNo W5 d7_37 40 (XT.ii_eq_f e0) rfl ?_
    refine Own.iload W5 d7_40 42 rfl a0 rfl ?_
    refine Own.callS W5 (tw hw 90 rfl) (tw hw 91 rfl) (tw hw 34 rfl) (tw hw 92 rfl) (by decide) (argsL := [(.int a0)]) (rest := []) (Own.Con.pay (con_rnk hw hEL a0 W5.old) W5 (tw hw 92 rfl) (tw hw 34 rfl) (len := 3) (wd := 0) (by decide) (by decide) (fun _ q => nomatch q)) rfl (lenOf pd_13 rfl) rfl (Nat.le_of_ble_eq_true rfl) d7_42 45 rfl 0 0 (Nat.le_of_ble_eq_true rfl) (Nat.le_of_ble_eq_true rfl) (Nat.le_of_ble_eq_true rfl) (Nat.le_of_ble_eq_true rfl) ?_
    intro v8 T8 h8 u8 W8 R8 hq
    obtain ⟨rfl, eh8⟩ := hq
    have ei8 := eh8.symm; subst ei8
    show Own.Go _ _ _ _ _ 45 #[.val (.ref x), .val (.ref y), .val (.int (1 : Int32)), .val (.int (0 : Int32)), .val (.int a0), .val (.int b0)] [(.int (rank a0))]
    refine Own.iload W8 d7_45 47 rfl b0 rfl ?_
    refine Own.callS W8 (tw hw 90 rfl) (tw hw 91 rfl) (tw hw 34 rfl) (tw hw 92 rfl) (by decide) (argsL := [(.int b0)]) (rest := [(.int (rank a0))]) (Own.Con.pay (con_rnk hw hEL b0 W8.old) W8 (tw hw 92 rfl) (tw hw 34 rfl) (len := 3) (wd := 1) (by decide) (by decide) (fun _ q => nomatch q)) rfl (lenOf pd_13 rfl) rfl (Nat.le_of_ble_eq_true rfl) d7_47 50 rfl 0 0 (Nat.le_of_ble_eq_true rfl) (Nat.le_of_ble_eq_true rfl) (Nat.le_of_ble_eq_true rfl) (Nat.le_of_ble_eq_true rfl) ?_
    intro v9 T9 h9 u9 W9 R9 hq
    obtain ⟨rfl, eh9⟩ := hq
    have ei9 := eh9.symm; subst ei9
    show Own.Go _ _ _ _ _ 50 #[.val (.ref x), .val (.ref y), .val (.int (1 : Int32)), .val (.int (0 : Int32)), .val (.int a0), .val (.int b0)] [(.int (rank b0)), (.int (rank a0))]
    refine Own.isub W9 d7_50 51 rfl ?_
    exact Own.retI W9 (by decide) (by decide) rfl d7_51 ⟨by rw [cmp_ne e0], rfl⟩
set_option maxRecDepth 65536 in
set_option maxHeartbeats 40000000 in
theorem con_cmp20 {G : Own.Gl} (hw : ∀ d ∈ tables_1, d.before G.a0 G.Z = true) (hEL : EW G.Z G.a0 G.EL) (hmem : (Own.ST, 7) ∈ G.EL) {cz : Int32} (hS : Sta G.Z G.Z.heap Own.ST "COMPACT_STRINGS" "Z" (.int cz)) (hcz : ¬ cz = 0) {fm : Value} (SF : Sta G.Z G.Z.heap "jdk/internal/util/Preconditions" "SIOOBE_FORMATTER" "Ljava/util/function/BiFunction;" fm) (rfm : fm.isRef = true) (TA : Sta G.Z G.Z.heap "java/lang/StringUTF16" "$assertionsDisabled" "Z" (.int 1)) (TH : Sta G.Z G.Z.heap "java/lang/StringUTF16" "HI_BYTE_SHIFT" "I" (.int 0)) (TL : Sta G.Z G.Z.heap "java/lang/StringUTF16" "LO_BYTE_SHIFT" "I" (.int 8)) {a0 a1 : Int32} {x y : Addr} {h : Heap} (hO : Old G.Z G.n0 h) (Sx : Own.Uni G.Z h x [a0, a1]) (Sy : Own.Uni G.Z h y []) :
    Own.Con G [] bCmp20 #[.ref x, .ref y] h [] (fun v h' => v = some (.int (cmpF [a0, a1] [] (2 : Int32))) ∧ h' = h) := by
  refine Own.Con.intro (plainFor_of_name pn_4) hO hEL _ (fun m => ef_bCmp20 m x y) ?_
  intro X T0 W0 sf
  have Ex := Sx.exa
  have Ey := Sy.exa
  refine Own.aloadN W0 d7_0 1 rfl (.ref x) rfl rfl ?_
  refine Own.callV W0 (tw hw 36 rfl) (tw hw 37 rfl) (fun s q => notFace_of_selects (args := #[]) (mvT (s := s) q (tw hw 39 rfl))) (tw hw 39 rfl) (tw hw 38 rfl) (by decide) (argsL := []) (rest := []) (Own.payLenU (wL hw) (kI := 4) (tw hw 5 rfl) W0 Sx hS hcz (len := 3) (wd := 0) (by decide) (by decide)) Ex rfl (lenOf pd_14 rfl) rfl (Nat.le_of_ble_eq_true rfl) d7_1 4 rfl 0 0 (Nat.le_of_ble_eq_true rfl) (Nat.le_of_ble_eq_true rfl) (Nat.le_of_ble_eq_true rfl) (Nat.le_of_ble_eq_true rfl) ?_
  intro v1 T1 h1 u1 W1 R1 hq
  obtain ⟨rfl, eh1⟩ := hq
  have ei1 := eh1.symm; subst ei1
  show Own.Go _ _ _ _ _ 4 #[.val (.ref x), .val (.ref y), .unset, .unset, .unset, .unset] [(.int (2 : Int32))]
  refine Own.aloadN W1 d7_4 5 rfl (.ref y) rfl rfl ?_
  refine Own.callV W1 (tw hw 36 rfl) (tw hw 37 rfl) (fun s q => notFace_of_selects (args := #[]) (mvT (s := s) q (tw hw 39 rfl))) (tw hw 39 rfl) (tw hw 38 rfl) (by decide) (argsL := []) (rest := [(.int (2 : Int32))]) (Own.payLenU (wL hw) (kI := 4) (tw hw 5 rfl) W1 Sy hS hcz (len := 3) (wd := 1) (by decide) (by decide)) Ey rfl (lenOf pd_14 rfl) rfl (Nat.le_of_ble_eq_true rfl) d7_5 8 rfl 0 0 (Nat.le_of_ble_eq_true rfl) (Nat.le_of_ble_eq_true rfl) (Nat.le_of_ble_eq_true rfl) (Nat.le_of_ble_eq_true rfl) ?_
  intro v2 T2 h2 u2 W2 R2 hq
  obtain ⟨rfl, eh2⟩ := hq
  have ei2 := eh2.symm; subst ei2
  show Own.Go _ _ _ _ _ 8 #[.val (.ref x), .val (.ref y), .unset, .unset, .unset, .unset] [(.int (0 : Int32)), (.int (2 : Int32))]
  refine Own.callS W2 (tw hw 47 rfl) (tw hw 48 rfl) (tw hw 49 rfl) (tw hw 50 rfl) (by decide) (argsL := [(.int (2 : Int32)), (.int (0 : Int32))]) (rest := []) (Own.Con.pay (con_min hw hEL _ _ W2.old) W2 (tw hw 50 rfl) (tw hw 49 rfl) (len := 3) (wd := 0) (by decide) (by decide) (fun _ q => nomatch q)) rfl (lenOf pd_15 rfl) rfl (Nat.le_of_ble_eq_true rfl) d7_8 11 rfl 0 0 (Nat.le_of_ble_eq_true rfl) (Nat.le_of_ble_eq_true rfl) (Nat.le_of_ble_eq_true rfl) (Nat.le_of_ble_eq_true rfl) ?_
  intro v3 T3 h3 u3 W3 R3 hq
  obtain ⟨rfl, eh3⟩ := hq
  have ei3 := eh3.symm; subst ei3
  rw [show (if (0 : Int32) < (2 : Int32) then (0 : Int32) else (2 : Int32)) = (0 : Int32) from by decide]
  show Own.Go _ _ _ _ _ 11 #[.val (.ref x), .val (.ref y), .unset, .unset, .unset, .unset] [(.int (0 : Int32))]
  refine Own.istoreN W3 d7_11 12 rfl #[.val (.ref x), .val (.ref y), .val (.int (0 : Int32)), .unset, .unset, .unset] rfl ?_
  refine Own.iconst W3 d7_12 13 rfl (0 : Int32) rfl ?_
  refine Own.istoreN W3 d7_13 14 rfl #[.val (.ref x), .val (.ref y), .val (.int (0 : Int32)), .val (.int (0 : Int32)), .unset, .unset] rfl ?_
  refine Own.iloadN W3 d7_14 15 rfl (0 : Int32) rfl ?_
  refine Own.iloadN W3 d7_15 16 rfl (0 : Int32) rfl ?_
  refine Own.icmpYes W3 d7_16 58 (by decide) (by decide) (by decide) ?_
  refine Own.aloadN W3 d7_58 59 rfl (.ref x) rfl rfl ?_
  refine Own.callV W3 (tw hw 36 rfl) (tw hw 37 rfl) (fun s q => notFace_of_selects (args := #[]) (mvT (s := s) q (tw hw 39 rfl))) (tw hw 39 rfl) (tw hw 38 rfl) (by decide) (argsL := []) (rest := []) (Own.payLenU (wL hw) (kI := 4) (tw hw 5 rfl) W3 Sx hS hcz (len := 3) (wd := 0) (by decide) (by decide)) Ex rfl (lenOf pd_14 rfl) rfl (Nat.le_of_ble_eq_true rfl) d7_59 62 rfl 0 0 (Nat.le_of_ble_eq_true rfl) (Nat.le_of_ble_eq_true rfl) (Nat.le_of_ble_eq_true rfl) (Nat.le_of_ble_eq_true rfl) ?_
  intro v4 T4 h4 u4 W4 R4 hq
  obtain ⟨rfl, eh4⟩ := hq
  have ei4 := eh4.symm; subst ei4
  show Own.Go _ _ _ _ _ 62 #[.val (.ref x), .val (.ref y), .val (.int (0 : Int32)), .val (.int (0 : Int32)), .unset, .unset] [(.int (2 : Int32))]
  refine Own.aloadN W4 d7_62 63 rfl (.ref y) rfl rfl ?_
  refine Own.callV W4 (tw hw 36 rfl) (tw hw 37 rfl) (fun s q => notFace_of_selects (args := #[]) (mvT (s := s) q (tw hw 39 rfl))) (tw hw 39 rfl) (tw hw 38 rfl) (by decide) (argsL := []) (rest := [(.int (2 : Int32))]) (Own.payLenU (wL hw) (kI := 4) (tw hw 5 rfl) W4 Sy hS hcz (len := 3) (wd := 1) (by decide) (by decide)) Ey rfl (lenOf pd_14 rfl) rfl (Nat.le_of_ble_eq_true rfl) d7_63 66 rfl 0 0 (Nat.le_of_ble_eq_true rfl) (Nat.le_of_ble_eq_true rfl) (Nat.le_of_ble_eq_true rfl) (Nat.le_of_ble_eq_true rfl) ?_
  intro v5 T5 h5 u5 W5 R5 hq
  obtain ⟨rfl, eh5⟩ := hq
  have ei5 := eh5.symm; subst ei5
  show Own.Go _ _ _ _ _ 66 #[.val (.ref x), .val (.ref y), .val (.int (0 : Int32)), .val (.int (0 : Int32)), .unset, .unset] [(.int (0 : Int32)), (.int (2 : Int32))]
  refine Own.isub W5 d7_66 67 rfl ?_
  show Own.Go _ _ _ _ _ 67 #[.val (.ref x), .val (.ref y), .val (.int (0 : Int32)), .val (.int (0 : Int32)), .unset, .unset] [(.int (2 : Int32))]
  exact Own.retI W5 (by decide) (by decide) rfl d7_67 ⟨by rw [cmp_end (Or.inr rfl)], rfl⟩
set_option maxRecDepth 65536 in
set_option maxHeartbeats 40000000 in
theorem con_cmp21 {G : Own.Gl} (hw : ∀ d ∈ tables_1, d.before G.a0 G.Z = true) (hEL : EW G.Z G.a0 G.EL) (hmem : (Own.ST, 7) ∈ G.EL) {cz : Int32} (hS : Sta G.Z G.Z.heap Own.ST "COMPACT_STRINGS" "Z" (.int cz)) (hcz : ¬ cz = 0) {fm : Value} (SF : Sta G.Z G.Z.heap "jdk/internal/util/Preconditions" "SIOOBE_FORMATTER" "Ljava/util/function/BiFunction;" fm) (rfm : fm.isRef = true) (TA : Sta G.Z G.Z.heap "java/lang/StringUTF16" "$assertionsDisabled" "Z" (.int 1)) (TH : Sta G.Z G.Z.heap "java/lang/StringUTF16" "HI_BYTE_SHIFT" "I" (.int 0)) (TL : Sta G.Z G.Z.heap "java/lang/StringUTF16" "LO_BYTE_SHIFT" "I" (.int 8)) {a0 a1 : Int32} {b0 : Int32} {x y : Addr} {h : Heap} (hO : Old G.Z G.n0 h) (Sx : Own.Uni G.Z h x [a0, a1]) (Sy : Own.Uni G.Z h y [b0]) :
    Own.Con G [] bCmp21 #[.ref x, .ref y] h [] (fun v h' => v = some (.int (cmpF [a0, a1] [b0] (1 : Int32))) ∧ h' = h) := by
  refine Own.Con.intro (plainFor_of_name pn_4) hO hEL _ (fun m => ef_bCmp21 m x y) ?_
  intro X T0 W0 sf
  have Ex := Sx.exa
  have Ey := Sy.exa
  refine Own.aloadN W0 d7_0 1 rfl (.ref x) rfl rfl ?_
  refine Own.callV W0 (tw hw 36 rfl) (tw hw 37 rfl) (fun s q => notFace_of_selects (args := #[]) (mvT (s := s) q (tw hw 39 rfl))) (tw hw 39 rfl) (tw hw 38 rfl) (by decide) (argsL := []) (rest := []) (Own.payLenU (wL hw) (kI := 4) (tw hw 5 rfl) W0 Sx hS hcz (len := 3) (wd := 0) (by decide) (by decide)) Ex rfl (lenOf pd_14 rfl) rfl (Nat.le_of_ble_eq_true rfl) d7_1 4 rfl 0 0 (Nat.le_of_ble_eq_true rfl) (Nat.le_of_ble_eq_true rfl) (Nat.le_of_ble_eq_true rfl) (Nat.le_of_ble_eq_true rfl) ?_
  intro v1 T1 h1 u1 W1 R1 hq
  obtain ⟨rfl, eh1⟩ := hq
  have ei1 := eh1.symm; subst ei1
  show Own.Go _ _ _ _ _ 4 #[.val (.ref x), .val (.ref y), .unset, .unset, .unset, .unset] [(.int (2 : Int32))]
  refine Own.aloadN W1 d7_4 5 rfl (.ref y) rfl rfl ?_
  refine Own.callV W1 (tw hw 36 rfl) (tw hw 37 rfl) (fun s q => notFace_of_selects (args := #[]) (mvT (s := s) q (tw hw 39 rfl))) (tw hw 39 rfl) (tw hw 38 rfl) (by decide) (argsL := []) (rest := [(.int (2 : Int32))]) (Own.payLenU (wL hw) (kI := 4) (tw hw 5 rfl) W1 Sy hS hcz (len := 3) (wd := 1) (by decide) (by decide)) Ey rfl (lenOf pd_14 rfl) rfl (Nat.le_of_ble_eq_true rfl) d7_5 8 rfl 0 0 (Nat.le_of_ble_eq_true rfl) (Nat.le_of_ble_eq_true rfl) (Nat.le_of_ble_eq_true rfl) (Nat.le_of_ble_eq_true rfl) ?_
  intro v2 T2 h2 u2 W2 R2 hq
  obtain ⟨rfl, eh2⟩ := hq
  have ei2 := eh2.symm; subst ei2
  show Own.Go _ _ _ _ _ 8 #[.val (.ref x), .val (.ref y), .unset, .unset, .unset, .unset] [(.int (1 : Int32)), (.int (2 : Int32))]
  refine Own.callS W2 (tw hw 47 rfl) (tw hw 48 rfl) (tw hw 49 rfl) (tw hw 50 rfl) (by decide) (argsL := [(.int (2 : Int32)), (.int (1 : Int32))]) (rest := []) (Own.Con.pay (con_min hw hEL _ _ W2.old) W2 (tw hw 50 rfl) (tw hw 49 rfl) (len := 3) (wd := 0) (by decide) (by decide) (fun _ q => nomatch q)) rfl (lenOf pd_15 rfl) rfl (Nat.le_of_ble_eq_true rfl) d7_8 11 rfl 0 0 (Nat.le_of_ble_eq_true rfl) (Nat.le_of_ble_eq_true rfl) (Nat.le_of_ble_eq_true rfl) (Nat.le_of_ble_eq_true rfl) ?_
  intro v3 T3 h3 u3 W3 R3 hq
  obtain ⟨rfl, eh3⟩ := hq
  have ei3 := eh3.symm; subst ei3
  rw [show (if (1 : Int32) < (2 : Int32) then (1 : Int32) else (2 : Int32)) = (1 : Int32) from by decide]
  show Own.Go _ _ _ _ _ 11 #[.val (.ref x), .val (.ref y), .unset, .unset, .unset, .unset] [(.int (1 : Int32))]
  refine Own.istoreN W3 d7_11 12 rfl #[.val (.ref x), .val (.ref y), .val (.int (1 : Int32)), .unset, .unset, .unset] rfl ?_
  refine Own.iconst W3 d7_12 13 rfl (0 : Int32) rfl ?_
  refine Own.istoreN W3 d7_13 14 rfl #[.val (.ref x), .val (.ref y), .val (.int (1 : Int32)), .val (.int (0 : Int32)), .unset, .unset] rfl ?_
  refine Own.iloadN W3 d7_14 15 rfl (0 : Int32) rfl ?_
  refine Own.iloadN W3 d7_15 16 rfl (1 : Int32) rfl ?_
  refine Own.icmpNo W3 d7_16 19 (by decide) rfl ?_
  refine Own.aloadN W3 d7_19 20 rfl (.ref x) rfl rfl ?_
  refine Own.iloadN W3 d7_20 21 rfl (0 : Int32) rfl ?_
  refine Own.callV W3 (tw hw 68 rfl) (tw hw 69 rfl) (fun s q => notFace_of_selects (args := #[]) (mvT (s := s) q (tw hw 71 rfl))) (tw hw 71 rfl) (tw hw 70 rfl) (by decide) (argsL := [(.int (0 : Int32))]) (rest := []) (payChU0 hw hEL hmem hS hcz SF rfm TA TH TL W3 Sx (Nat.le_of_ble_eq_true rfl) (len := 3) (wd := 0) (by decide) (by decide)) Ex rfl (lenOf pd_16 rfl) rfl (Nat.le_of_ble_eq_true rfl) d7_21 24 rfl 0 0 (Nat.le_of_ble_eq_true rfl) (Nat.le_of_ble_eq_true rfl) (Nat.le_of_ble_eq_true rfl) (Nat.le_of_ble_eq_true rfl) ?_
  intro v4 T4 h4 u4 W4 R4 hq
  obtain ⟨rfl, eh4⟩ := hq
  have ei4 := eh4.symm; subst ei4
  show Own.Go _ _ _ _ _ 24 #[.val (.ref x), .val (.ref y), .val (.int (1 : Int32)), .val (.int (0 : Int32)), .unset, .unset] [(.int a0)]
  refine Own.istore W4 d7_24 26 rfl #[.val (.ref x), .val (.ref y), .val (.int (1 : Int32)), .val (.int (0 : Int32)), .val (.int a0), .unset] rfl ?_
  refine Own.aloadN W4 d7_26 27 rfl (.ref y) rfl rfl ?_
  refine Own.iloadN W4 d7_27 28 rfl (0 : Int32) rfl ?_
  refine Own.callV W4 (tw hw 68 rfl) (tw hw 69 rfl) (fun s q => notFace_of_selects (args := #[]) (mvT (s := s) q (tw hw 71 rfl))) (tw hw 71 rfl) (tw hw 70 rfl) (by decide) (argsL := [(.int (0 : Int32))]) (rest := []) (payChU0 hw hEL hmem hS hcz SF rfm TA TH TL W4 Sy (Nat.le_of_ble_eq_true rfl) (len := 3) (wd := 0) (by decide) (by decide)) Ey rfl (lenOf pd_16 rfl) rfl (Nat.le_of_ble_eq_true rfl) d7_28 31 rfl 0 0 (Nat.le_of_ble_eq_true rfl) (Nat.le_of_ble_eq_true rfl) (Nat.le_of_ble_eq_true rfl) (Nat.le_of_ble_eq_true rfl) ?_
  intro v5 T5 h5 u5 W5 R5 hq
  obtain ⟨rfl, eh5⟩ := hq
  have ei5 := eh5.symm; subst ei5
  show Own.Go _ _ _ _ _ 31 #[.val (.ref x), .val (.ref y), .val (.int (1 : Int32)), .val (.int (0 : Int32)), .val (.int a0), .unset] [(.int b0)]
  refine Own.istore W5 d7_31 33 rfl #[.val (.ref x), .val (.ref y), .val (.int (1 : Int32)), .val (.int (0 : Int32)), .val (.int a0), .val (.int b0)] rfl ?_
  refine Own.iload W5 d7_33 35 rfl a0 rfl ?_
  refine Own.iload W5 d7_35 37 rfl b0 rfl ?_
  by_cases e0 : a0 = b0
  · skip
    refine Own.icmpYes W5 d7_37 52 (XT.ii_eq_t e0) (by decide) (by decide) ?_
    refine Own.iinc W5 d7_52 55 rfl rfl #[.val (.ref x), .val (.ref y), .val (.int (1 : Int32)), .val (.int (1 : Int32)), .val (.int a0), .val (.int b0)] rfl ?_
    refine Own.goto W5 d7_55 14 (by decide) (by decide) ?_
    refine Own.iloadN W5 d7_14 15 rfl (1 : Int32) rfl ?_
    refine Own.iloadN W5 d7_15 16 rfl (1 : Int32) rfl ?_
    refine Own.icmpYes W5 d7_16 58 (by decide) (by decide) (by decide) ?_
    refine Own.aloadN W5 d7_58 59 rfl (.ref x) rfl rfl ?_
    refine Own.callV W5 (tw hw 36 rfl) (tw hw 37 rfl) (fun s q => notFace_of_selects (args := #[]) (mvT (s := s) q (tw hw 39 rfl))) (tw hw 39 rfl) (tw hw 38 rfl) (by decide) (argsL := []) (rest := []) (Own.payLenU (wL hw) (kI := 4) (tw hw 5 rfl) W5 Sx hS hcz (len := 3) (wd := 0) (by decide) (by decide)) Ex rfl (lenOf pd_14 rfl) rfl (Nat.le_of_ble_eq_true rfl) d7_59 62 rfl 0 0 (Nat.le_of_ble_eq_true rfl) (Nat.le_of_ble_eq_true rfl) (Nat.le_of_ble_eq_true rfl) (Nat.le_of_ble_eq_true rfl) ?_
    intro v6 T6 h6 u6 W6 R6 hq
    obtain ⟨rfl, eh6⟩ := hq
    have ei6 := eh6.symm; subst ei6
    show Own.Go _ _ _ _ _ 62 #[.val (.ref x), .val (.ref y), .val (.int (1 : Int32)), .val (.int (1 : Int32)), .val (.int a0), .val (.int b0)] [(.int (2 : Int32))]
    refine Own.aloadN W6 d7_62 63 rfl (.ref y) rfl rfl ?_
    refine Own.callV W6 (tw hw 36 rfl) (tw hw 37 rfl) (fun s q => notFace_of_selects (args := #[]) (mvT (s := s) q (tw hw 39 rfl))) (tw hw 39 rfl) (tw hw 38 rfl) (by decide) (argsL := []) (rest := [(.int (2 : Int32))]) (Own.payLenU (wL hw) (kI := 4) (tw hw 5 rfl) W6 Sy hS hcz (len := 3) (wd := 1) (by decide) (by decide)) Ey rfl (lenOf pd_14 rfl) rfl (Nat.le_of_ble_eq_true rfl) d7_63 66 rfl 0 0 (Nat.le_of_ble_eq_true rfl) (Nat.le_of_ble_eq_true rfl) (Nat.le_of_ble_eq_true rfl) (Nat.le_of_ble_eq_true rfl) ?_
    intro v7 T7 h7 u7 W7 R7 hq
    obtain ⟨rfl, eh7⟩ := hq
    have ei7 := eh7.symm; subst ei7
    show Own.Go _ _ _ _ _ 66 #[.val (.ref x), .val (.ref y), .val (.int (1 : Int32)), .val (.int (1 : Int32)), .val (.int a0), .val (.int b0)] [(.int (1 : Int32)), (.int (2 : Int32))]
    refine Own.isub W7 d7_66 67 rfl ?_
    show Own.Go _ _ _ _ _ 67 #[.val (.ref x), .val (.ref y), .val (.int (1 : Int32)), .val (.int (1 : Int32)), .val (.int a0), .val (.int b0)] [(.int (1 : Int32))]
    exact Own.retI W7 (by decide) (by decide) rfl d7_67 ⟨by rw [cmp_eq e0, cmp_end (Or.inr rfl)], rfl⟩
  · skip
    refine Own.icmpNo W5 d7_37 40 (XT.ii_eq_f e0) rfl ?_
    refine Own.iload W5 d7_40 42 rfl a0 rfl ?_
    refine Own.callS W5 (tw hw 90 rfl) (tw hw 91 rfl) (tw hw 34 rfl) (tw hw 92 rfl) (by decide) (argsL := [(.int a0)]) (rest := []) (Own.Con.pay (con_rnk hw hEL a0 W5.old) W5 (tw hw 92 rfl) (tw hw 34 rfl) (len := 3) (wd := 0) (by decide) (by decide) (fun _ q => nomatch q)) rfl (lenOf pd_13 rfl) rfl (Nat.le_of_ble_eq_true rfl) d7_42 45 rfl 0 0 (Nat.le_of_ble_eq_true rfl) (Nat.le_of_ble_eq_true rfl) (Nat.le_of_ble_eq_true rfl) (Nat.le_of_ble_eq_true rfl) ?_
    intro v8 T8 h8 u8 W8 R8 hq
    obtain ⟨rfl, eh8⟩ := hq
    have ei8 := eh8.symm; subst ei8
    show Own.Go _ _ _ _ _ 45 #[.val (.ref x), .val (.ref y), .val (.int (1 : Int32)), .val (.int (0 : Int32)), .val (.int a0), .val (.int b0)] [(.int (rank a0))]
    refine Own.iload W8 d7_45 47 rfl b0 rfl ?_
    refine Own.callS W8 (tw hw 90 rfl) (tw hw 91 rfl) (tw hw 34 rfl) (tw hw 92 rfl) (by decide) (argsL := [(.int b0)]) (rest := [(.int (rank a0))]) (Own.Con.pay (con_rnk hw hEL b0 W8.old) W8 (tw hw 92 rfl) (tw hw 34 rfl) (len := 3) (wd := 1) (by decide) (by decide) (fun _ q => nomatch q)) rfl (lenOf pd_13 rfl) rfl (Nat.le_of_ble_eq_true rfl) d7_47 50 rfl 0 0 (Nat.le_of_ble_eq_true rfl) (Nat.le_of_ble_eq_true rfl) (Nat.le_of_ble_eq_true rfl) (Nat.le_of_ble_eq_true rfl) ?_
    intro v9 T9 h9 u9 W9 R9 hq
    obtain ⟨rfl, eh9⟩ := hq
    have ei9 := eh9.symm; subst ei9
    show Own.Go _ _ _ _ _ 50 #[.val (.ref x), .val (.ref y), .val (.int (1 : Int32)), .val (.int (0 : Int32)), .val (.int a0), .val (.int b0)] [(.int (rank b0)), (.int (rank a0))]
    refine Own.isub W9 d7_50 51 rfl ?_
    exact Own.retI W9 (by decide) (by decide) rfl d7_51 ⟨by rw [cmp_ne e0], rfl⟩
set_option maxRecDepth 65536 in
set_option maxHeartbeats 40000000 in
theorem con_cmp22 {G : Own.Gl} (hw : ∀ d ∈ tables_1, d.before G.a0 G.Z = true) (hEL : EW G.Z G.a0 G.EL) (hmem : (Own.ST, 7) ∈ G.EL) {cz : Int32} (hS : Sta G.Z G.Z.heap Own.ST "COMPACT_STRINGS" "Z" (.int cz)) (hcz : ¬ cz = 0) {fm : Value} (SF : Sta G.Z G.Z.heap "jdk/internal/util/Preconditions" "SIOOBE_FORMATTER" "Ljava/util/function/BiFunction;" fm) (rfm : fm.isRef = true) (TA : Sta G.Z G.Z.heap "java/lang/StringUTF16" "$assertionsDisabled" "Z" (.int 1)) (TH : Sta G.Z G.Z.heap "java/lang/StringUTF16" "HI_BYTE_SHIFT" "I" (.int 0)) (TL : Sta G.Z G.Z.heap "java/lang/StringUTF16" "LO_BYTE_SHIFT" "I" (.int 8)) {a0 a1 : Int32} {b0 b1 : Int32} {x y : Addr} {h : Heap} (hO : Old G.Z G.n0 h) (Sx : Own.Uni G.Z h x [a0, a1]) (Sy : Own.Uni G.Z h y [b0, b1]) :
    Own.Con G [] bCmp22 #[.ref x, .ref y] h [] (fun v h' => v = some (.int (cmpF [a0, a1] [b0, b1] (0 : Int32))) ∧ h' = h) := by
  refine Own.Con.intro (plainFor_of_name pn_4) hO hEL _ (fun m => ef_bCmp22 m x y) ?_
  intro X T0 W0 sf
  have Ex := Sx.exa
  have Ey := Sy.exa
  refine Own.aloadN W0 d7_0 1 rfl (.ref x) rfl rfl ?_
  refine Own.callV W0 (tw hw 36 rfl) (tw hw 37 rfl) (fun s q => notFace_of_selects (args := #[]) (mvT (s := s) q (tw hw 39 rfl))) (tw hw 39 rfl) (tw hw 38 rfl) (by decide) (argsL := []) (rest := []) (Own.payLenU (wL hw) (kI := 4) (tw hw 5 rfl) W0 Sx hS hcz (len := 3) (wd := 0) (by decide) (by decide)) Ex rfl (lenOf pd_14 rfl) rfl (Nat.le_of_ble_eq_true rfl) d7_1 4 rfl 0 0 (Nat.le_of_ble_eq_true rfl) (Nat.le_of_ble_eq_true rfl) (Nat.le_of_ble_eq_true rfl) (Nat.le_of_ble_eq_true rfl) ?_
  intro v1 T1 h1 u1 W1 R1 hq
  obtain ⟨rfl, eh1⟩ := hq
  have ei1 := eh1.symm; subst ei1
  show Own.Go _ _ _ _ _ 4 #[.val (.ref x), .val (.ref y), .unset, .unset, .unset, .unset] [(.int (2 : Int32))]
  refine Own.aloadN W1 d7_4 5 rfl (.ref y) rfl rfl ?_
  refine Own.callV W1 (tw hw 36 rfl) (tw hw 37 rfl) (fun s q => notFace_of_selects (args := #[]) (mvT (s := s) q (tw hw 39 rfl))) (tw hw 39 rfl) (tw hw 38 rfl) (by decide) (argsL := []) (rest := [(.int (2 : Int32))]) (Own.payLenU (wL hw) (kI := 4) (tw hw 5 rfl) W1 Sy hS hcz (len := 3) (wd := 1) (by decide) (by decide)) Ey rfl (lenOf pd_14 rfl) rfl (Nat.le_of_ble_eq_true rfl) d7_5 8 rfl 0 0 (Nat.le_of_ble_eq_true rfl) (Nat.le_of_ble_eq_true rfl) (Nat.le_of_ble_eq_true rfl) (Nat.le_of_ble_eq_true rfl) ?_
  intro v2 T2 h2 u2 W2 R2 hq
  obtain ⟨rfl, eh2⟩ := hq
  have ei2 := eh2.symm; subst ei2
  show Own.Go _ _ _ _ _ 8 #[.val (.ref x), .val (.ref y), .unset, .unset, .unset, .unset] [(.int (2 : Int32)), (.int (2 : Int32))]
  refine Own.callS W2 (tw hw 47 rfl) (tw hw 48 rfl) (tw hw 49 rfl) (tw hw 50 rfl) (by decide) (argsL := [(.int (2 : Int32)), (.int (2 : Int32))]) (rest := []) (Own.Con.pay (con_min hw hEL _ _ W2.old) W2 (tw hw 50 rfl) (tw hw 49 rfl) (len := 3) (wd := 0) (by decide) (by decide) (fun _ q => nomatch q)) rfl (lenOf pd_15 rfl) rfl (Nat.le_of_ble_eq_true rfl) d7_8 11 rfl 0 0 (Nat.le_of_ble_eq_true rfl) (Nat.le_of_ble_eq_true rfl) (Nat.le_of_ble_eq_true rfl) (Nat.le_of_ble_eq_true rfl) ?_
  intro v3 T3 h3 u3 W3 R3 hq
  obtain ⟨rfl, eh3⟩ := hq
  have ei3 := eh3.symm; subst ei3
  rw [show (if (2 : Int32) < (2 : Int32) then (2 : Int32) else (2 : Int32)) = (2 : Int32) from by decide]
  show Own.Go _ _ _ _ _ 11 #[.val (.ref x), .val (.ref y), .unset, .unset, .unset, .unset] [(.int (2 : Int32))]
  refine Own.istoreN W3 d7_11 12 rfl #[.val (.ref x), .val (.ref y), .val (.int (2 : Int32)), .unset, .unset, .unset] rfl ?_
  refine Own.iconst W3 d7_12 13 rfl (0 : Int32) rfl ?_
  refine Own.istoreN W3 d7_13 14 rfl #[.val (.ref x), .val (.ref y), .val (.int (2 : Int32)), .val (.int (0 : Int32)), .unset, .unset] rfl ?_
  refine Own.iloadN W3 d7_14 15 rfl (0 : Int32) rfl ?_
  refine Own.iloadN W3 d7_15 16 rfl (2 : Int32) rfl ?_
  refine Own.icmpNo W3 d7_16 19 (by decide) rfl ?_
  refine Own.aloadN W3 d7_19 20 rfl (.ref x) rfl rfl ?_
  refine Own.iloadN W3 d7_20 21 rfl (0 : Int32) rfl ?_
  refine Own.callV W3 (tw hw 68 rfl) (tw hw 69 rfl) (fun s q => notFace_of_selects (args := #[]) (mvT (s := s) q (tw hw 71 rfl))) (tw hw 71 rfl) (tw hw 70 rfl) (by decide) (argsL := [(.int (0 : Int32))]) (rest := []) (payChU0 hw hEL hmem hS hcz SF rfm TA TH TL W3 Sx (Nat.le_of_ble_eq_true rfl) (len := 3) (wd := 0) (by decide) (by decide)) Ex rfl (lenOf pd_16 rfl) rfl (Nat.le_of_ble_eq_true rfl) d7_21 24 rfl 0 0 (Nat.le_of_ble_eq_true rfl) (Nat.le_of_ble_eq_true rfl) (Nat.le_of_ble_eq_true rfl) (Nat.le_of_ble_eq_true rfl) ?_
  intro v4 T4 h4 u4 W4 R4 hq
  obtain ⟨rfl, eh4⟩ := hq
  have ei4 := eh4.symm; subst ei4
  show Own.Go _ _ _ _ _ 24 #[.val (.ref x), .val (.ref y), .val (.int (2 : Int32)), .val (.int (0 : Int32)), .unset, .unset] [(.int a0)]
  refine Own.istore W4 d7_24 26 rfl #[.val (.ref x), .val (.ref y), .val (.int (2 : Int32)), .val (.int (0 : Int32)), .val (.int a0), .unset] rfl ?_
  refine Own.aloadN W4 d7_26 27 rfl (.ref y) rfl rfl ?_
  refine Own.iloadN W4 d7_27 28 rfl (0 : Int32) rfl ?_
  refine Own.callV W4 (tw hw 68 rfl) (tw hw 69 rfl) (fun s q => notFace_of_selects (args := #[]) (mvT (s := s) q (tw hw 71 rfl))) (tw hw 71 rfl) (tw hw 70 rfl) (by decide) (argsL := [(.int (0 : Int32))]) (rest := []) (payChU0 hw hEL hmem hS hcz SF rfm TA TH TL W4 Sy (Nat.le_of_ble_eq_true rfl) (len := 3) (wd := 0) (by decide) (by decide)) Ey rfl (lenOf pd_16 rfl) rfl (Nat.le_of_ble_eq_true rfl) d7_28 31 rfl 0 0 (Nat.le_of_ble_eq_true rfl) (Nat.le_of_ble_eq_true rfl) (Nat.le_of_ble_eq_true rfl) (Nat.le_of_ble_eq_true rfl) ?_
  intro v5 T5 h5 u5 W5 R5 hq
  obtain ⟨rfl, eh5⟩ := hq
  have ei5 := eh5.symm; subst ei5
  show Own.Go _ _ _ _ _ 31 #[.val (.ref x), .val (.ref y), .val (.int (2 : Int32)), .val (.int (0 : Int32)), .val (.int a0), .unset] [(.int b0)]
  refine Own.istore W5 d7_31 33 rfl #[.val (.ref x), .val (.ref y), .val (.int (2 : Int32)), .val (.int (0 : Int32)), .val (.int a0), .val (.int b0)] rfl ?_
  refine Own.iload W5 d7_33 35 rfl a0 rfl ?_
  refine Own.iload W5 d7_35 37 rfl b0 rfl ?_
  by_cases e0 : a0 = b0
  · skip
    refine Own.icmpYes W5 d7_37 52 (XT.ii_eq_t e0) (by decide) (by decide) ?_
    refine Own.iinc W5 d7_52 55 rfl rfl #[.val (.ref x), .val (.ref y), .val (.int (2 : Int32)), .val (.int (1 : Int32)), .val (.int a0), .val (.int b0)] rfl ?_
    refine Own.goto W5 d7_55 14 (by decide) (by decide) ?_
    refine Own.iloadN W5 d7_14 15 rfl (1 : Int32) rfl ?_
    refine Own.iloadN W5 d7_15 16 rfl (2 : Int32) rfl ?_
    refine Own.icmpNo W5 d7_16 19 (by decide) rfl ?_
    refine Own.aloadN W5 d7_19 20 rfl (.ref x) rfl rfl ?_
    refine Own.iloadN W5 d7_20 21 rfl (1 : Int32) rfl ?_
    refine Own.callV W5 (tw hw 68 rfl) (tw hw 69 rfl) (fun s q => notFace_of_selects (args := #[]) (mvT (s := s) q (tw hw 71 rfl))) (tw hw 71 rfl) (tw hw 70 rfl) (by decide) (argsL := [(.int (1 : Int32))]) (rest := []) (payChU1 hw hEL hmem hS hcz SF rfm TA TH TL W5 Sx (Nat.le_of_ble_eq_true rfl) (len := 3) (wd := 0) (by decide) (by decide)) Ex rfl (lenOf pd_16 rfl) rfl (Nat.le_of_ble_eq_true rfl) d7_21 24 rfl 0 0 (Nat.le_of_ble_eq_true rfl) (Nat.le_of_ble_eq_true rfl) (Nat.le_of_ble_eq_true rfl) (Nat.le_of_ble_eq_true rfl) ?_
    intro v6 T6 h6 u6 W6 R6 hq
    obtain ⟨rfl, eh6⟩ := hq
    have ei6 := eh6.symm; subst ei6
    show Own.Go _ _ _ _ _ 24 #[.val (.ref x), .val (.ref y), .val (.int (2 : Int32)), .val (.int (1 : Int32)), .val (.int a0), .val (.int b0)] [(.int a1)]
    refine Own.istore W6 d7_24 26 rfl #[.val (.ref x), .val (.ref y), .val (.int (2 : Int32)), .val (.int (1 : Int32)), .val (.int a1), .val (.int b0)] rfl ?_
    refine Own.aloadN W6 d7_26 27 rfl (.ref y) rfl rfl ?_
    refine Own.iloadN W6 d7_27 28 rfl (1 : Int32) rfl ?_
    refine Own.callV W6 (tw hw 68 rfl) (tw hw 69 rfl) (fun s q => notFace_of_selects (args := #[]) (mvT (s := s) q (tw hw 71 rfl))) (tw hw 71 rfl) (tw hw 70 rfl) (by decide) (argsL := [(.int (1 : Int32))]) (rest := []) (payChU1 hw hEL hmem hS hcz SF rfm TA TH TL W6 Sy (Nat.le_of_ble_eq_true rfl) (len := 3) (wd := 0) (by decide) (by decide)) Ey rfl (lenOf pd_16 rfl) rfl (Nat.le_of_ble_eq_true rfl) d7_28 31 rfl 0 0 (Nat.le_of_ble_eq_true rfl) (Nat.le_of_ble_eq_true rfl) (Nat.le_of_ble_eq_true rfl) (Nat.le_of_ble_eq_true rfl) ?_
    intro v7 T7 h7 u7 W7 R7 hq
    obtain ⟨rfl, eh7⟩ := hq
    have ei7 := eh7.symm; subst ei7
    show Own.Go _ _ _ _ _ 31 #[.val (.ref x), .val (.ref y), .val (.int (2 : Int32)), .val (.int (1 : Int32)), .val (.int a1), .val (.int b0)] [(.int b1)]
    refine Own.istore W7 d7_31 33 rfl #[.val (.ref x), .val (.ref y), .val (.int (2 : Int32)), .val (.int (1 : Int32)), .val (.int a1), .val (.int b1)] rfl ?_
    refine Own.iload W7 d7_33 35 rfl a1 rfl ?_
    refine Own.iload W7 d7_35 37 rfl b1 rfl ?_
    by_cases e1 : a1 = b1
    · skip
      refine Own.icmpYes W7 d7_37 52 (XT.ii_eq_t e1) (by decide) (by decide) ?_
      refine Own.iinc W7 d7_52 55 rfl rfl #[.val (.ref x), .val (.ref y), .val (.int (2 : Int32)), .val (.int (2 : Int32)), .val (.int a1), .val (.int b1)] rfl ?_
      refine Own.goto W7 d7_55 14 (by decide) (by decide) ?_
      refine Own.iloadN W7 d7_14 15 rfl (2 : Int32) rfl ?_
      refine Own.iloadN W7 d7_15 16 rfl (2 : Int32) rfl ?_
      refine Own.icmpYes W7 d7_16 58 (by decide) (by decide) (by decide) ?_
      refine Own.aloadN W7 d7_58 59 rfl (.ref x) rfl rfl ?_
      refine Own.callV W7 (tw hw 36 rfl) (tw hw 37 rfl) (fun s q => notFace_of_selects (args := #[]) (mvT (s := s) q (tw hw 39 rfl))) (tw hw 39 rfl) (tw hw 38 rfl) (by decide) (argsL := []) (rest := []) (Own.payLenU (wL hw) (kI := 4) (tw hw 5 rfl) W7 Sx hS hcz (len := 3) (wd := 0) (by decide) (by decide)) Ex rfl (lenOf pd_14 rfl) rfl (Nat.le_of_ble_eq_true rfl) d7_59 62 rfl 0 0 (Nat.le_of_ble_eq_true rfl) (Nat.le_of_ble_eq_true rfl) (Nat.le_of_ble_eq_true rfl) (Nat.le_of_ble_eq_true rfl) ?_
      intro v8 T8 h8 u8 W8 R8 hq
      obtain ⟨rfl, eh8⟩ := hq
      have ei8 := eh8.symm; subst ei8
      show Own.Go _ _ _ _ _ 62 #[.val (.ref x), .val (.ref y), .val (.int (2 : Int32)), .val (.int (2 : Int32)), .val (.int a1), .val (.int b1)] [(.int (2 : Int32))]
      refine Own.aloadN W8 d7_62 63 rfl (.ref y) rfl rfl ?_
      refine Own.callV W8 (tw hw 36 rfl) (tw hw 37 rfl) (fun s q => notFace_of_selects (args := #[]) (mvT (s := s) q (tw hw 39 rfl))) (tw hw 39 rfl) (tw hw 38 rfl) (by decide) (argsL := []) (rest := [(.int (2 : Int32))]) (Own.payLenU (wL hw) (kI := 4) (tw hw 5 rfl) W8 Sy hS hcz (len := 3) (wd := 1) (by decide) (by decide)) Ey rfl (lenOf pd_14 rfl) rfl (Nat.le_of_ble_eq_true rfl) d7_63 66 rfl 0 0 (Nat.le_of_ble_eq_true rfl) (Nat.le_of_ble_eq_true rfl) (Nat.le_of_ble_eq_true rfl) (Nat.le_of_ble_eq_true rfl) ?_
      intro v9 T9 h9 u9 W9 R9 hq
      obtain ⟨rfl, eh9⟩ := hq
      have ei9 := eh9.symm; subst ei9
      show Own.Go _ _ _ _ _ 66 #[.val (.ref x), .val (.ref y), .val (.int (2 : Int32)), .val (.int (2 : Int32)), .val (.int a1), .val (.int b1)] [(.int (2 : Int32)), (.int (2 : Int32))]
      refine Own.isub W9 d7_66 67 rfl ?_
      show Own.Go _ _ _ _ _ 67 #[.val (.ref x), .val (.ref y), .val (.int (2 : Int32)), .val (.int (2 : Int32)), .val (.int a1), .val (.int b1)] [(.int (0 : Int32))]
      exact Own.retI W9 (by decide) (by decide) rfl d7_67 ⟨by rw [cmp_eq e0, cmp_eq e1, cmp_end (Or.inl rfl)], rfl⟩
    · skip
      refine Own.icmpNo W7 d7_37 40 (XT.ii_eq_f e1) rfl ?_
      refine Own.iload W7 d7_40 42 rfl a1 rfl ?_
      refine Own.callS W7 (tw hw 90 rfl) (tw hw 91 rfl) (tw hw 34 rfl) (tw hw 92 rfl) (by decide) (argsL := [(.int a1)]) (rest := []) (Own.Con.pay (con_rnk hw hEL a1 W7.old) W7 (tw hw 92 rfl) (tw hw 34 rfl) (len := 3) (wd := 0) (by decide) (by decide) (fun _ q => nomatch q)) rfl (lenOf pd_13 rfl) rfl (Nat.le_of_ble_eq_true rfl) d7_42 45 rfl 0 0 (Nat.le_of_ble_eq_true rfl) (Nat.le_of_ble_eq_true rfl) (Nat.le_of_ble_eq_true rfl) (Nat.le_of_ble_eq_true rfl) ?_
      intro v10 T10 h10 u10 W10 R10 hq
      obtain ⟨rfl, eh10⟩ := hq
      have ei10 := eh10.symm; subst ei10
      show Own.Go _ _ _ _ _ 45 #[.val (.ref x), .val (.ref y), .val (.int (2 : Int32)), .val (.int (1 : Int32)), .val (.int a1), .val (.int b1)] [(.int (rank a1))]
      refine Own.iload W10 d7_45 47 rfl b1 rfl ?_
      refine Own.callS W10 (tw hw 90 rfl) (tw hw 91 rfl) (tw hw 34 rfl) (tw hw 92 rfl) (by decide) (argsL := [(.int b1)]) (rest := [(.int (rank a1))]) (Own.Con.pay (con_rnk hw hEL b1 W10.old) W10 (tw hw 92 rfl) (tw hw 34 rfl) (len := 3) (wd := 1) (by decide) (by decide) (fun _ q => nomatch q)) rfl (lenOf pd_13 rfl) rfl (Nat.le_of_ble_eq_true rfl) d7_47 50 rfl 0 0 (Nat.le_of_ble_eq_true rfl) (Nat.le_of_ble_eq_true rfl) (Nat.le_of_ble_eq_true rfl) (Nat.le_of_ble_eq_true rfl) ?_
      intro v11 T11 h11 u11 W11 R11 hq
      obtain ⟨rfl, eh11⟩ := hq
      have ei11 := eh11.symm; subst ei11
      show Own.Go _ _ _ _ _ 50 #[.val (.ref x), .val (.ref y), .val (.int (2 : Int32)), .val (.int (1 : Int32)), .val (.int a1), .val (.int b1)] [(.int (rank b1)), (.int (rank a1))]
      refine Own.isub W11 d7_50 51 rfl ?_
      exact Own.retI W11 (by decide) (by decide) rfl d7_51 ⟨by rw [cmp_eq e0, cmp_ne e1], rfl⟩
  · skip
    refine Own.icmpNo W5 d7_37 40 (XT.ii_eq_f e0) rfl ?_
    refine Own.iload W5 d7_40 42 rfl a0 rfl ?_
    refine Own.callS W5 (tw hw 90 rfl) (tw hw 91 rfl) (tw hw 34 rfl) (tw hw 92 rfl) (by decide) (argsL := [(.int a0)]) (rest := []) (Own.Con.pay (con_rnk hw hEL a0 W5.old) W5 (tw hw 92 rfl) (tw hw 34 rfl) (len := 3) (wd := 0) (by decide) (by decide) (fun _ q => nomatch q)) rfl (lenOf pd_13 rfl) rfl (Nat.le_of_ble_eq_true rfl) d7_42 45 rfl 0 0 (Nat.le_of_ble_eq_true rfl) (Nat.le_of_ble_eq_true rfl) (Nat.le_of_ble_eq_true rfl) (Nat.le_of_ble_eq_true rfl) ?_
    intro v12 T12 h12 u12 W12 R12 hq
    obtain ⟨rfl, eh12⟩ := hq
    have ei12 := eh12.symm; subst ei12
    show Own.Go _ _ _ _ _ 45 #[.val (.ref x), .val (.ref y), .val (.int (2 : Int32)), .val (.int (0 : Int32)), .val (.int a0), .val (.int b0)] [(.int (rank a0))]
    refine Own.iload W12 d7_45 47 rfl b0 rfl ?_
    refine Own.callS W12 (tw hw 90 rfl) (tw hw 91 rfl) (tw hw 34 rfl) (tw hw 92 rfl) (by decide) (argsL := [(.int b0)]) (rest := [(.int (rank a0))]) (Own.Con.pay (con_rnk hw hEL b0 W12.old) W12 (tw hw 92 rfl) (tw hw 34 rfl) (len := 3) (wd := 1) (by decide) (by decide) (fun _ q => nomatch q)) rfl (lenOf pd_13 rfl) rfl (Nat.le_of_ble_eq_true rfl) d7_47 50 rfl 0 0 (Nat.le_of_ble_eq_true rfl) (Nat.le_of_ble_eq_true rfl) (Nat.le_of_ble_eq_true rfl) (Nat.le_of_ble_eq_true rfl) ?_
    intro v13 T13 h13 u13 W13 R13 hq
    obtain ⟨rfl, eh13⟩ := hq
    have ei13 := eh13.symm; subst ei13
    show Own.Go _ _ _ _ _ 50 #[.val (.ref x), .val (.ref y), .val (.int (2 : Int32)), .val (.int (0 : Int32)), .val (.int a0), .val (.int b0)] [(.int (rank b0)), (.int (rank a0))]
    refine Own.isub W13 d7_50 51 rfl ?_
    exact Own.retI W13 (by decide) (by decide) rfl d7_51 ⟨by rw [cmp_ne e0], rfl⟩
set_option maxRecDepth 65536 in
set_option maxHeartbeats 40000000 in
theorem con_cmp23 {G : Own.Gl} (hw : ∀ d ∈ tables_1, d.before G.a0 G.Z = true) (hEL : EW G.Z G.a0 G.EL) (hmem : (Own.ST, 7) ∈ G.EL) {cz : Int32} (hS : Sta G.Z G.Z.heap Own.ST "COMPACT_STRINGS" "Z" (.int cz)) (hcz : ¬ cz = 0) {fm : Value} (SF : Sta G.Z G.Z.heap "jdk/internal/util/Preconditions" "SIOOBE_FORMATTER" "Ljava/util/function/BiFunction;" fm) (rfm : fm.isRef = true) (TA : Sta G.Z G.Z.heap "java/lang/StringUTF16" "$assertionsDisabled" "Z" (.int 1)) (TH : Sta G.Z G.Z.heap "java/lang/StringUTF16" "HI_BYTE_SHIFT" "I" (.int 0)) (TL : Sta G.Z G.Z.heap "java/lang/StringUTF16" "LO_BYTE_SHIFT" "I" (.int 8)) {a0 a1 : Int32} {b0 b1 b2 : Int32} {x y : Addr} {h : Heap} (hO : Old G.Z G.n0 h) (Sx : Own.Uni G.Z h x [a0, a1]) (Sy : Own.Uni G.Z h y [b0, b1, b2]) :
    Own.Con G [] bCmp23 #[.ref x, .ref y] h [] (fun v h' => v = some (.int (cmpF [a0, a1] [b0, b1, b2] (-1 : Int32))) ∧ h' = h) := by
  refine Own.Con.intro (plainFor_of_name pn_4) hO hEL _ (fun m => ef_bCmp23 m x y) ?_
  intro X T0 W0 sf
  have Ex := Sx.exa
  have Ey := Sy.exa
  refine Own.aloadN W0 d7_0 1 rfl (.ref x) rfl rfl ?_
  refine Own.callV W0 (tw hw 36 rfl) (tw hw 37 rfl) (fun s q => notFace_of_selects (args := #[]) (mvT (s := s) q (tw hw 39 rfl))) (tw hw 39 rfl) (tw hw 38 rfl) (by decide) (argsL := []) (rest := []) (Own.payLenU (wL hw) (kI := 4) (tw hw 5 rfl) W0 Sx hS hcz (len := 3) (wd := 0) (by decide) (by decide)) Ex rfl (lenOf pd_14 rfl) rfl (Nat.le_of_ble_eq_true rfl) d7_1 4 rfl 0 0 (Nat.le_of_ble_eq_true rfl) (Nat.le_of_ble_eq_true rfl) (Nat.le_of_ble_eq_true rfl) (Nat.le_of_ble_eq_true rfl) ?_
  intro v1 T1 h1 u1 W1 R1 hq
  obtain ⟨rfl, eh1⟩ := hq
  have ei1 := eh1.symm; subst ei1
  show Own.Go _ _ _ _ _ 4 #[.val (.ref x), .val (.ref y), .unset, .unset, .unset, .unset] [(.int (2 : Int32))]
  refine Own.aloadN W1 d7_4 5 rfl (.ref y) rfl rfl ?_
  refine Own.callV W1 (tw hw 36 rfl) (tw hw 37 rfl) (fun s q => notFace_of_selects (args := #[]) (mvT (s := s) q (tw hw 39 rfl))) (tw hw 39 rfl) (tw hw 38 rfl) (by decide) (argsL := []) (rest := [(.int (2 : Int32))]) (Own.payLenU (wL hw) (kI := 4) (tw hw 5 rfl) W1 Sy hS hcz (len := 3) (wd := 1) (by decide) (by decide)) Ey rfl (lenOf pd_14 rfl) rfl (Nat.le_of_ble_eq_true rfl) d7_5 8 rfl 0 0 (Nat.le_of_ble_eq_true rfl) (Nat.le_of_ble_eq_true rfl) (Nat.le_of_ble_eq_true rfl) (Nat.le_of_ble_eq_true rfl) ?_
  intro v2 T2 h2 u2 W2 R2 hq
  obtain ⟨rfl, eh2⟩ := hq
  have ei2 := eh2.symm; subst ei2
  show Own.Go _ _ _ _ _ 8 #[.val (.ref x), .val (.ref y), .unset, .unset, .unset, .unset] [(.int (3 : Int32)), (.int (2 : Int32))]
  refine Own.callS W2 (tw hw 47 rfl) (tw hw 48 rfl) (tw hw 49 rfl) (tw hw 50 rfl) (by decide) (argsL := [(.int (2 : Int32)), (.int (3 : Int32))]) (rest := []) (Own.Con.pay (con_min hw hEL _ _ W2.old) W2 (tw hw 50 rfl) (tw hw 49 rfl) (len := 3) (wd := 0) (by decide) (by decide) (fun _ q => nomatch q)) rfl (lenOf pd_15 rfl) rfl (Nat.le_of_ble_eq_true rfl) d7_8 11 rfl 0 0 (Nat.le_of_ble_eq_true rfl) (Nat.le_of_ble_eq_true rfl) (Nat.le_of_ble_eq_true rfl) (Nat.le_of_ble_eq_true rfl) ?_
  intro v3 T3 h3 u3 W3 R3 hq
  obtain ⟨rfl, eh3⟩ := hq
  have ei3 := eh3.symm; subst ei3
  rw [show (if (3 : Int32) < (2 : Int32) then (3 : Int32) else (2 : Int32)) = (2 : Int32) from by decide]
  show Own.Go _ _ _ _ _ 11 #[.val (.ref x), .val (.ref y), .unset, .unset, .unset, .unset] [(.int (2 : Int32))]
  refine Own.istoreN W3 d7_11 12 rfl #[.val (.ref x), .val (.ref y), .val (.int (2 : Int32)), .unset, .unset, .unset] rfl ?_
  refine Own.iconst W3 d7_12 13 rfl (0 : Int32) rfl ?_
  refine Own.istoreN W3 d7_13 14 rfl #[.val (.ref x), .val (.ref y), .val (.int (2 : Int32)), .val (.int (0 : Int32)), .unset, .unset] rfl ?_
  refine Own.iloadN W3 d7_14 15 rfl (0 : Int32) rfl ?_
  refine Own.iloadN W3 d7_15 16 rfl (2 : Int32) rfl ?_
  refine Own.icmpNo W3 d7_16 19 (by decide) rfl ?_
  refine Own.aloadN W3 d7_19 20 rfl (.ref x) rfl rfl ?_
  refine Own.iloadN W3 d7_20 21 rfl (0 : Int32) rfl ?_
  refine Own.callV W3 (tw hw 68 rfl) (tw hw 69 rfl) (fun s q => notFace_of_selects (args := #[]) (mvT (s := s) q (tw hw 71 rfl))) (tw hw 71 rfl) (tw hw 70 rfl) (by decide) (argsL := [(.int (0 : Int32))]) (rest := []) (payChU0 hw hEL hmem hS hcz SF rfm TA TH TL W3 Sx (Nat.le_of_ble_eq_true rfl) (len := 3) (wd := 0) (by decide) (by decide)) Ex rfl (lenOf pd_16 rfl) rfl (Nat.le_of_ble_eq_true rfl) d7_21 24 rfl 0 0 (Nat.le_of_ble_eq_true rfl) (Nat.le_of_ble_eq_true rfl) (Nat.le_of_ble_eq_true rfl) (Nat.le_of_ble_eq_true rfl) ?_
  intro v4 T4 h4 u4 W4 R4 hq
  obtain ⟨rfl, eh4⟩ := hq
  have ei4 := eh4.symm; subst ei4
  show Own.Go _ _ _ _ _ 24 #[.val (.ref x), .val (.ref y), .val (.int (2 : Int32)), .val (.int (0 : Int32)), .unset, .unset] [(.int a0)]
  refine Own.istore W4 d7_24 26 rfl #[.val (.ref x), .val (.ref y), .val (.int (2 : Int32)), .val (.int (0 : Int32)), .val (.int a0), .unset] rfl ?_
  refine Own.aloadN W4 d7_26 27 rfl (.ref y) rfl rfl ?_
  refine Own.iloadN W4 d7_27 28 rfl (0 : Int32) rfl ?_
  refine Own.callV W4 (tw hw 68 rfl) (tw hw 69 rfl) (fun s q => notFace_of_selects (args := #[]) (mvT (s := s) q (tw hw 71 rfl))) (tw hw 71 rfl) (tw hw 70 rfl) (by decide) (argsL := [(.int (0 : Int32))]) (rest := []) (payChU0 hw hEL hmem hS hcz SF rfm TA TH TL W4 Sy (Nat.le_of_ble_eq_true rfl) (len := 3) (wd := 0) (by decide) (by decide)) Ey rfl (lenOf pd_16 rfl) rfl (Nat.le_of_ble_eq_true rfl) d7_28 31 rfl 0 0 (Nat.le_of_ble_eq_true rfl) (Nat.le_of_ble_eq_true rfl) (Nat.le_of_ble_eq_true rfl) (Nat.le_of_ble_eq_true rfl) ?_
  intro v5 T5 h5 u5 W5 R5 hq
  obtain ⟨rfl, eh5⟩ := hq
  have ei5 := eh5.symm; subst ei5
  show Own.Go _ _ _ _ _ 31 #[.val (.ref x), .val (.ref y), .val (.int (2 : Int32)), .val (.int (0 : Int32)), .val (.int a0), .unset] [(.int b0)]
  refine Own.istore W5 d7_31 33 rfl #[.val (.ref x), .val (.ref y), .val (.int (2 : Int32)), .val (.int (0 : Int32)), .val (.int a0), .val (.int b0)] rfl ?_
  refine Own.iload W5 d7_33 35 rfl a0 rfl ?_
  refine Own.iload W5 d7_35 37 rfl b0 rfl ?_
  by_cases e0 : a0 = b0
  · skip
    refine Own.icmpYes W5 d7_37 52 (XT.ii_eq_t e0) (by decide) (by decide) ?_
    refine Own.iinc W5 d7_52 55 rfl rfl #[.val (.ref x), .val (.ref y), .val (.int (2 : Int32)), .val (.int (1 : Int32)), .val (.int a0), .val (.int b0)] rfl ?_
    refine Own.goto W5 d7_55 14 (by decide) (by decide) ?_
    refine Own.iloadN W5 d7_14 15 rfl (1 : Int32) rfl ?_
    refine Own.iloadN W5 d7_15 16 rfl (2 : Int32) rfl ?_
    refine Own.icmpNo W5 d7_16 19 (by decide) rfl ?_
    refine Own.aloadN W5 d7_19 20 rfl (.ref x) rfl rfl ?_
    refine Own.iloadN W5 d7_20 21 rfl (1 : Int32) rfl ?_
    refine Own.callV W5 (tw hw 68 rfl) (tw hw 69 rfl) (fun s q => notFace_of_selects (args := #[]) (mvT (s := s) q (tw hw 71 rfl))) (tw hw 71 rfl) (tw hw 70 rfl) (by decide) (argsL := [(.int (1 : Int32))]) (rest := []) (payChU1 hw hEL hmem hS hcz SF rfm TA TH TL W5 Sx (Nat.le_of_ble_eq_true rfl) (len := 3) (wd := 0) (by decide) (by decide)) Ex rfl (lenOf pd_16 rfl) rfl (Nat.le_of_ble_eq_true rfl) d7_21 24 rfl 0 0 (Nat.le_of_ble_eq_true rfl) (Nat.le_of_ble_eq_true rfl) (Nat.le_of_ble_eq_true rfl) (Nat.le_of_ble_eq_true rfl) ?_
    intro v6 T6 h6 u6 W6 R6 hq
    obtain ⟨rfl, eh6⟩ := hq
    have ei6 := eh6.symm; subst ei6
    show Own.Go _ _ _ _ _ 24 #[.val (.ref x), .val (.ref y), .val (.int (2 : Int32)), .val (.int (1 : Int32)), .val (.int a0), .val (.int b0)] [(.int a1)]
    refine Own.istore W6 d7_24 26 rfl #[.val (.ref x), .val (.ref y), .val (.int (2 : Int32)), .val (.int (1 : Int32)), .val (.int a1), .val (.int b0)] rfl ?_
    refine Own.aloadN W6 d7_26 27 rfl (.ref y) rfl rfl ?_
    refine Own.iloadN W6 d7_27 28 rfl (1 : Int32) rfl ?_
    refine Own.callV W6 (tw hw 68 rfl) (tw hw 69 rfl) (fun s q => notFace_of_selects (args := #[]) (mvT (s := s) q (tw hw 71 rfl))) (tw hw 71 rfl) (tw hw 70 rfl) (by decide) (argsL := [(.int (1 : Int32))]) (rest := []) (payChU1 hw hEL hmem hS hcz SF rfm TA TH TL W6 Sy (Nat.le_of_ble_eq_true rfl) (len := 3) (wd := 0) (by decide) (by decide)) Ey rfl (lenOf pd_16 rfl) rfl (Nat.le_of_ble_eq_true rfl) d7_28 31 rfl 0 0 (Nat.le_of_ble_eq_true rfl) (Nat.le_of_ble_eq_true rfl) (Nat.le_of_ble_eq_true rfl) (Nat.le_of_ble_eq_true rfl) ?_
    intro v7 T7 h7 u7 W7 R7 hq
    obtain ⟨rfl, eh7⟩ := hq
    have ei7 := eh7.symm; subst ei7
    show Own.Go _ _ _ _ _ 31 #[.val (.ref x), .val (.ref y), .val (.int (2 : Int32)), .val (.int (1 : Int32)), .val (.int a1), .val (.int b0)] [(.int b1)]
    refine Own.istore W7 d7_31 33 rfl #[.val (.ref x), .val (.ref y), .val (.int (2 : Int32)), .val (.int (1 : Int32)), .val (.int a1), .val (.int b1)] rfl ?_
    refine Own.iload W7 d7_33 35 rfl a1 rfl ?_
    refine Own.iload W7 d7_35 37 rfl b1 rfl ?_
    by_cases e1 : a1 = b1
    · skip
      refine Own.icmpYes W7 d7_37 52 (XT.ii_eq_t e1) (by decide) (by decide) ?_
      refine Own.iinc W7 d7_52 55 rfl rfl #[.val (.ref x), .val (.ref y), .val (.int (2 : Int32)), .val (.int (2 : Int32)), .val (.int a1), .val (.int b1)] rfl ?_
      refine Own.goto W7 d7_55 14 (by decide) (by decide) ?_
      refine Own.iloadN W7 d7_14 15 rfl (2 : Int32) rfl ?_
      refine Own.iloadN W7 d7_15 16 rfl (2 : Int32) rfl ?_
      refine Own.icmpYes W7 d7_16 58 (by decide) (by decide) (by decide) ?_
      refine Own.aloadN W7 d7_58 59 rfl (.ref x) rfl rfl ?_
      refine Own.callV W7 (tw hw 36 rfl) (tw hw 37 rfl) (fun s q => notFace_of_selects (args := #[]) (mvT (s := s) q (tw hw 39 rfl))) (tw hw 39 rfl) (tw hw 38 rfl) (by decide) (argsL := []) (rest := []) (Own.payLenU (wL hw) (kI := 4) (tw hw 5 rfl) W7 Sx hS hcz (len := 3) (wd := 0) (by decide) (by decide)) Ex rfl (lenOf pd_14 rfl) rfl (Nat.le_of_ble_eq_true rfl) d7_59 62 rfl 0 0 (Nat.le_of_ble_eq_true rfl) (Nat.le_of_ble_eq_true rfl) (Nat.le_of_ble_eq_true rfl) (Nat.le_of_ble_eq_true rfl) ?_
      intro v8 T8 h8 u8 W8 R8 hq
      obtain ⟨rfl, eh8⟩ := hq
      have ei8 := eh8.symm; subst ei8
      show Own.Go _ _ _ _ _ 62 #[.val (.ref x), .val (.ref y), .val (.int (2 : Int32)), .val (.int (2 : Int32)), .val (.int a1), .val (.int b1)] [(.int (2 : Int32))]
      refine Own.aloadN W8 d7_62 63 rfl (.ref y) rfl rfl ?_
      refine Own.callV W8 (tw hw 36 rfl) (tw hw 37 rfl) (fun s q => notFace_of_selects (args := #[]) (mvT (s := s) q (tw hw 39 rfl))) (tw hw 39 rfl) (tw hw 38 rfl) (by decide) (argsL := []) (rest := [(.int (2 : Int32))]) (Own.payLenU (wL hw) (kI := 4) (tw hw 5 rfl) W8 Sy hS hcz (len := 3) (wd := 1) (by decide) (by decide)) Ey rfl (lenOf pd_14 rfl) rfl (Nat.le_of_ble_eq_true rfl) d7_63 66 rfl 0 0 (Nat.le_of_ble_eq_true rfl) (Nat.le_of_ble_eq_true rfl) (Nat.le_of_ble_eq_true rfl) (Nat.le_of_ble_eq_true rfl) ?_
      intro v9 T9 h9 u9 W9 R9 hq
      obtain ⟨rfl, eh9⟩ := hq
      have ei9 := eh9.symm; subst ei9
      show Own.Go _ _ _ _ _ 66 #[.val (.ref x), .val (.ref y), .val (.int (2 : Int32)), .val (.int (2 : Int32)), .val (.int a1), .val (.int b1)] [(.int (3 : Int32)), (.int (2 : Int32))]
      refine Own.isub W9 d7_66 67 rfl ?_
      show Own.Go _ _ _ _ _ 67 #[.val (.ref x), .val (.ref y), .val (.int (2 : Int32)), .val (.int (2 : Int32)), .val (.int a1), .val (.int b1)] [(.int (-1 : Int32))]
      exact Own.retI W9 (by decide) (by decide) rfl d7_67 ⟨by rw [cmp_eq e0, cmp_eq e1, cmp_end (Or.inl rfl)], rfl⟩
    · skip
      refine Own.icmpNo W7 d7_37 40 (XT.ii_eq_f e1) rfl ?_
      refine Own.iload W7 d7_40 42 rfl a1 rfl ?_
      refine Own.callS W7 (tw hw 90 rfl) (tw hw 91 rfl) (tw hw 34 rfl) (tw hw 92 rfl) (by decide) (argsL := [(.int a1)]) (rest := []) (Own.Con.pay (con_rnk hw hEL a1 W7.old) W7 (tw hw 92 rfl) (tw hw 34 rfl) (len := 3) (wd := 0) (by decide) (by decide) (fun _ q => nomatch q)) rfl (lenOf pd_13 rfl) rfl (Nat.le_of_ble_eq_true rfl) d7_42 45 rfl 0 0 (Nat.le_of_ble_eq_true rfl) (Nat.le_of_ble_eq_true rfl) (Nat.le_of_ble_eq_true rfl) (Nat.le_of_ble_eq_true rfl) ?_
      intro v10 T10 h10 u10 W10 R10 hq
      obtain ⟨rfl, eh10⟩ := hq
      have ei10 := eh10.symm; subst ei10
      show Own.Go _ _ _ _ _ 45 #[.val (.ref x), .val (.ref y), .val (.int (2 : Int32)), .val (.int (1 : Int32)), .val (.int a1), .val (.int b1)] [(.int (rank a1))]
      refine Own.iload W10 d7_45 47 rfl b1 rfl ?_
      refine Own.callS W10 (tw hw 90 rfl) (tw hw 91 rfl) (tw hw 34 rfl) (tw hw 92 rfl) (by decide) (argsL := [(.int b1)]) (rest := [(.int (rank a1))]) (Own.Con.pay (con_rnk hw hEL b1 W10.old) W10 (tw hw 92 rfl) (tw hw 34 rfl) (len := 3) (wd := 1) (by decide) (by decide) (fun _ q => nomatch q)) rfl (lenOf pd_13 rfl) rfl (Nat.le_of_ble_eq_true rfl) d7_47 50 rfl 0 0 (Nat.le_of_ble_eq_true rfl) (Nat.le_of_ble_eq_true rfl) (Nat.le_of_ble_eq_true rfl) (Nat.le_of_ble_eq_true rfl) ?_
      intro v11 T11 h11 u11 W11 R11 hq
      obtain ⟨rfl, eh11⟩ := hq
      have ei11 := eh11.symm; subst ei11
      show Own.Go _ _ _ _ _ 50 #[.val (.ref x), .val (.ref y), .val (.int (2 : Int32)), .val (.int (1 : Int32)), .val (.int a1), .val (.int b1)] [(.int (rank b1)), (.int (rank a1))]
      refine Own.isub W11 d7_50 51 rfl ?_
      exact Own.retI W11 (by decide) (by decide) rfl d7_51 ⟨by rw [cmp_eq e0, cmp_ne e1], rfl⟩
  · skip
    refine Own.icmpNo W5 d7_37 40 (XT.ii_eq_f e0) rfl ?_
    refine Own.iload W5 d7_40 42 rfl a0 rfl ?_
    refine Own.callS W5 (tw hw 90 rfl) (tw hw 91 rfl) (tw hw 34 rfl) (tw hw 92 rfl) (by decide) (argsL := [(.int a0)]) (rest := []) (Own.Con.pay (con_rnk hw hEL a0 W5.old) W5 (tw hw 92 rfl) (tw hw 34 rfl) (len := 3) (wd := 0) (by decide) (by decide) (fun _ q => nomatch q)) rfl (lenOf pd_13 rfl) rfl (Nat.le_of_ble_eq_true rfl) d7_42 45 rfl 0 0 (Nat.le_of_ble_eq_true rfl) (Nat.le_of_ble_eq_true rfl) (Nat.le_of_ble_eq_true rfl) (Nat.le_of_ble_eq_true rfl) ?_
    intro v12 T12 h12 u12 W12 R12 hq
    obtain ⟨rfl, eh12⟩ := hq
    have ei12 := eh12.symm; subst ei12
    show Own.Go _ _ _ _ _ 45 #[.val (.ref x), .val (.ref y), .val (.int (2 : Int32)), .val (.int (0 : Int32)), .val (.int a0), .val (.int b0)] [(.int (rank a0))]
    refine Own.iload W12 d7_45 47 rfl b0 rfl ?_
    refine Own.callS W12 (tw hw 90 rfl) (tw hw 91 rfl) (tw hw 34 rfl) (tw hw 92 rfl) (by decide) (argsL := [(.int b0)]) (rest := [(.int (rank a0))]) (Own.Con.pay (con_rnk hw hEL b0 W12.old) W12 (tw hw 92 rfl) (tw hw 34 rfl) (len := 3) (wd := 1) (by decide) (by decide) (fun _ q => nomatch q)) rfl (lenOf pd_13 rfl) rfl (Nat.le_of_ble_eq_true rfl) d7_47 50 rfl 0 0 (Nat.le_of_ble_eq_true rfl) (Nat.le_of_ble_eq_true rfl) (Nat.le_of_ble_eq_true rfl) (Nat.le_of_ble_eq_true rfl) ?_
    intro v13 T13 h13 u13 W13 R13 hq
    obtain ⟨rfl, eh13⟩ := hq
    have ei13 := eh13.symm; subst ei13
    show Own.Go _ _ _ _ _ 50 #[.val (.ref x), .val (.ref y), .val (.int (2 : Int32)), .val (.int (0 : Int32)), .val (.int a0), .val (.int b0)] [(.int (rank b0)), (.int (rank a0))]
    refine Own.isub W13 d7_50 51 rfl ?_
    exact Own.retI W13 (by decide) (by decide) rfl d7_51 ⟨by rw [cmp_ne e0], rfl⟩
set_option maxRecDepth 65536 in
set_option maxHeartbeats 40000000 in
theorem con_cmp30 {G : Own.Gl} (hw : ∀ d ∈ tables_1, d.before G.a0 G.Z = true) (hEL : EW G.Z G.a0 G.EL) (hmem : (Own.ST, 7) ∈ G.EL) {cz : Int32} (hS : Sta G.Z G.Z.heap Own.ST "COMPACT_STRINGS" "Z" (.int cz)) (hcz : ¬ cz = 0) {fm : Value} (SF : Sta G.Z G.Z.heap "jdk/internal/util/Preconditions" "SIOOBE_FORMATTER" "Ljava/util/function/BiFunction;" fm) (rfm : fm.isRef = true) (TA : Sta G.Z G.Z.heap "java/lang/StringUTF16" "$assertionsDisabled" "Z" (.int 1)) (TH : Sta G.Z G.Z.heap "java/lang/StringUTF16" "HI_BYTE_SHIFT" "I" (.int 0)) (TL : Sta G.Z G.Z.heap "java/lang/StringUTF16" "LO_BYTE_SHIFT" "I" (.int 8)) {a0 a1 a2 : Int32} {x y : Addr} {h : Heap} (hO : Old G.Z G.n0 h) (Sx : Own.Uni G.Z h x [a0, a1, a2]) (Sy : Own.Uni G.Z h y []) :
    Own.Con G [] bCmp30 #[.ref x, .ref y] h [] (fun v h' => v = some (.int (cmpF [a0, a1, a2] [] (3 : Int32))) ∧ h' = h) := by
  refine Own.Con.intro (plainFor_of_name pn_4) hO hEL _ (fun m => ef_bCmp30 m x y) ?_
  intro X T0 W0 sf
  have Ex := Sx.exa
  have Ey := Sy.exa
  refine Own.aloadN W0 d7_0 1 rfl (.ref x) rfl rfl ?_
  refine Own.callV W0 (tw hw 36 rfl) (tw hw 37 rfl) (fun s q => notFace_of_selects (args := #[]) (mvT (s := s) q (tw hw 39 rfl))) (tw hw 39 rfl) (tw hw 38 rfl) (by decide) (argsL := []) (rest := []) (Own.payLenU (wL hw) (kI := 4) (tw hw 5 rfl) W0 Sx hS hcz (len := 3) (wd := 0) (by decide) (by decide)) Ex rfl (lenOf pd_14 rfl) rfl (Nat.le_of_ble_eq_true rfl) d7_1 4 rfl 0 0 (Nat.le_of_ble_eq_true rfl) (Nat.le_of_ble_eq_true rfl) (Nat.le_of_ble_eq_true rfl) (Nat.le_of_ble_eq_true rfl) ?_
  intro v1 T1 h1 u1 W1 R1 hq
  obtain ⟨rfl, eh1⟩ := hq
  have ei1 := eh1.symm; subst ei1
  show Own.Go _ _ _ _ _ 4 #[.val (.ref x), .val (.ref y), .unset, .unset, .unset, .unset] [(.int (3 : Int32))]
  refine Own.aloadN W1 d7_4 5 rfl (.ref y) rfl rfl ?_
  refine Own.callV W1 (tw hw 36 rfl) (tw hw 37 rfl) (fun s q => notFace_of_selects (args := #[]) (mvT (s := s) q (tw hw 39 rfl))) (tw hw 39 rfl) (tw hw 38 rfl) (by decide) (argsL := []) (rest := [(.int (3 : Int32))]) (Own.payLenU (wL hw) (kI := 4) (tw hw 5 rfl) W1 Sy hS hcz (len := 3) (wd := 1) (by decide) (by decide)) Ey rfl (lenOf pd_14 rfl) rfl (Nat.le_of_ble_eq_true rfl) d7_5 8 rfl 0 0 (Nat.le_of_ble_eq_true rfl) (Nat.le_of_ble_eq_true rfl) (Nat.le_of_ble_eq_true rfl) (Nat.le_of_ble_eq_true rfl) ?_
  intro v2 T2 h2 u2 W2 R2 hq
  obtain ⟨rfl, eh2⟩ := hq
  have ei2 := eh2.symm; subst ei2
  show Own.Go _ _ _ _ _ 8 #[.val (.ref x), .val (.ref y), .unset, .unset, .unset, .unset] [(.int (0 : Int32)), (.int (3 : Int32))]
  refine Own.callS W2 (tw hw 47 rfl) (tw hw 48 rfl) (tw hw 49 rfl) (tw hw 50 rfl) (by decide) (argsL := [(.int (3 : Int32)), (.int (0 : Int32))]) (rest := []) (Own.Con.pay (con_min hw hEL _ _ W2.old) W2 (tw hw 50 rfl) (tw hw 49 rfl) (len := 3) (wd := 0) (by decide) (by decide) (fun _ q => nomatch q)) rfl (lenOf pd_15 rfl) rfl (Nat.le_of_ble_eq_true rfl) d7_8 11 rfl 0 0 (Nat.le_of_ble_eq_true rfl) (Nat.le_of_ble_eq_true rfl) (Nat.le_of_ble_eq_true rfl) (Nat.le_of_ble_eq_true rfl) ?_
  intro v3 T3 h3 u3 W3 R3 hq
  obtain ⟨rfl, eh3⟩ := hq
  have ei3 := eh3.symm; subst ei3
  rw [show (if (0 : Int32) < (3 : Int32) then (0 : Int32) else (3 : Int32)) = (0 : Int32) from by decide]
  show Own.Go _ _ _ _ _ 11 #[.val (.ref x), .val (.ref y), .unset, .unset, .unset, .unset] [(.int (0 : Int32))]
  refine Own.istoreN W3 d7_11 12 rfl #[.val (.ref x), .val (.ref y), .val (.int (0 : Int32)), .unset, .unset, .unset] rfl ?_
  refine Own.iconst W3 d7_12 13 rfl (0 : Int32) rfl ?_
  refine Own.istoreN W3 d7_13 14 rfl #[.val (.ref x), .val (.ref y), .val (.int (0 : Int32)), .val (.int (0 : Int32)), .unset, .unset] rfl ?_
  refine Own.iloadN W3 d7_14 15 rfl (0 : Int32) rfl ?_
  refine Own.iloadN W3 d7_15 16 rfl (0 : Int32) rfl ?_
  refine Own.icmpYes W3 d7_16 58 (by decide) (by decide) (by decide) ?_
  refine Own.aloadN W3 d7_58 59 rfl (.ref x) rfl rfl ?_
  refine Own.callV W3 (tw hw 36 rfl) (tw hw 37 rfl) (fun s q => notFace_of_selects (args := #[]) (mvT (s := s) q (tw hw 39 rfl))) (tw hw 39 rfl) (tw hw 38 rfl) (by decide) (argsL := []) (rest := []) (Own.payLenU (wL hw) (kI := 4) (tw hw 5 rfl) W3 Sx hS hcz (len := 3) (wd := 0) (by decide) (by decide)) Ex rfl (lenOf pd_14 rfl) rfl (Nat.le_of_ble_eq_true rfl) d7_59 62 rfl 0 0 (Nat.le_of_ble_eq_true rfl) (Nat.le_of_ble_eq_true rfl) (Nat.le_of_ble_eq_true rfl) (Nat.le_of_ble_eq_true rfl) ?_
  intro v4 T4 h4 u4 W4 R4 hq
  obtain ⟨rfl, eh4⟩ := hq
  have ei4 := eh4.symm; subst ei4
  show Own.Go _ _ _ _ _ 62 #[.val (.ref x), .val (.ref y), .val (.int (0 : Int32)), .val (.int (0 : Int32)), .unset, .unset] [(.int (3 : Int32))]
  refine Own.aloadN W4 d7_62 63 rfl (.ref y) rfl rfl ?_
  refine Own.callV W4 (tw hw 36 rfl) (tw hw 37 rfl) (fun s q => notFace_of_selects (args := #[]) (mvT (s := s) q (tw hw 39 rfl))) (tw hw 39 rfl) (tw hw 38 rfl) (by decide) (argsL := []) (rest := [(.int (3 : Int32))]) (Own.payLenU (wL hw) (kI := 4) (tw hw 5 rfl) W4 Sy hS hcz (len := 3) (wd := 1) (by decide) (by decide)) Ey rfl (lenOf pd_14 rfl) rfl (Nat.le_of_ble_eq_true rfl) d7_63 66 rfl 0 0 (Nat.le_of_ble_eq_true rfl) (Nat.le_of_ble_eq_true rfl) (Nat.le_of_ble_eq_true rfl) (Nat.le_of_ble_eq_true rfl) ?_
  intro v5 T5 h5 u5 W5 R5 hq
  obtain ⟨rfl, eh5⟩ := hq
  have ei5 := eh5.symm; subst ei5
  show Own.Go _ _ _ _ _ 66 #[.val (.ref x), .val (.ref y), .val (.int (0 : Int32)), .val (.int (0 : Int32)), .unset, .unset] [(.int (0 : Int32)), (.int (3 : Int32))]
  refine Own.isub W5 d7_66 67 rfl ?_
  show Own.Go _ _ _ _ _ 67 #[.val (.ref x), .val (.ref y), .val (.int (0 : Int32)), .val (.int (0 : Int32)), .unset, .unset] [(.int (3 : Int32))]
  exact Own.retI W5 (by decide) (by decide) rfl d7_67 ⟨by rw [cmp_end (Or.inr rfl)], rfl⟩
set_option maxRecDepth 65536 in
set_option maxHeartbeats 40000000 in
theorem con_cmp31 {G : Own.Gl} (hw : ∀ d ∈ tables_1, d.before G.a0 G.Z = true) (hEL : EW G.Z G.a0 G.EL) (hmem : (Own.ST, 7) ∈ G.EL) {cz : Int32} (hS : Sta G.Z G.Z.heap Own.ST "COMPACT_STRINGS" "Z" (.int cz)) (hcz : ¬ cz = 0) {fm : Value} (SF : Sta G.Z G.Z.heap "jdk/internal/util/Preconditions" "SIOOBE_FORMATTER" "Ljava/util/function/BiFunction;" fm) (rfm : fm.isRef = true) (TA : Sta G.Z G.Z.heap "java/lang/StringUTF16" "$assertionsDisabled" "Z" (.int 1)) (TH : Sta G.Z G.Z.heap "java/lang/StringUTF16" "HI_BYTE_SHIFT" "I" (.int 0)) (TL : Sta G.Z G.Z.heap "java/lang/StringUTF16" "LO_BYTE_SHIFT" "I" (.int 8)) {a0 a1 a2 : Int32} {b0 : Int32} {x y : Addr} {h : Heap} (hO : Old G.Z G.n0 h) (Sx : Own.Uni G.Z h x [a0, a1, a2]) (Sy : Own.Uni G.Z h y [b0]) :
    Own.Con G [] bCmp31 #[.ref x, .ref y] h [] (fun v h' => v = some (.int (cmpF [a0, a1, a2] [b0] (2 : Int32))) ∧ h' = h) := by
  refine Own.Con.intro (plainFor_of_name pn_4) hO hEL _ (fun m => ef_bCmp31 m x y) ?_
  intro X T0 W0 sf
  have Ex := Sx.exa
  have Ey := Sy.exa
  refine Own.aloadN W0 d7_0 1 rfl (.ref x) rfl rfl ?_
  refine Own.callV W0 (tw hw 36 rfl) (tw hw 37 rfl) (fun s q => notFace_of_selects (args := #[]) (mvT (s := s) q (tw hw 39 rfl))) (tw hw 39 rfl) (tw hw 38 rfl) (by decide) (argsL := []) (rest := []) (Own.payLenU (wL hw) (kI := 4) (tw hw 5 rfl) W0 Sx hS hcz (len := 3) (wd := 0) (by decide) (by decide)) Ex rfl (lenOf pd_14 rfl) rfl (Nat.le_of_ble_eq_true rfl) d7_1 4 rfl 0 0 (Nat.le_of_ble_eq_true rfl) (Nat.le_of_ble_eq_true rfl) (Nat.le_of_ble_eq_true rfl) (Nat.le_of_ble_eq_true rfl) ?_
  intro v1 T1 h1 u1 W1 R1 hq
  obtain ⟨rfl, eh1⟩ := hq
  have ei1 := eh1.symm; subst ei1
  show Own.Go _ _ _ _ _ 4 #[.val (.ref x), .val (.ref y), .unset, .unset, .unset, .unset] [(.int (3 : Int32))]
  refine Own.aloadN W1 d7_4 5 rfl (.ref y) rfl rfl ?_
  refine Own.callV W1 (tw hw 36 rfl) (tw hw 37 rfl) (fun s q => notFace_of_selects (args := #[]) (mvT (s := s) q (tw hw 39 rfl))) (tw hw 39 rfl) (tw hw 38 rfl) (by decide) (argsL := []) (rest := [(.int (3 : Int32))]) (Own.payLenU (wL hw) (kI := 4) (tw hw 5 rfl) W1 Sy hS hcz (len := 3) (wd := 1) (by decide) (by decide)) Ey rfl (lenOf pd_14 rfl) rfl (Nat.le_of_ble_eq_true rfl) d7_5 8 rfl 0 0 (Nat.le_of_ble_eq_true rfl) (Nat.le_of_ble_eq_true rfl) (Nat.le_of_ble_eq_true rfl) (Nat.le_of_ble_eq_true rfl) ?_
  intro v2 T2 h2 u2 W2 R2 hq
  obtain ⟨rfl, eh2⟩ := hq
  have ei2 := eh2.symm; subst ei2
  show Own.Go _ _ _ _ _ 8 #[.val (.ref x), .val (.ref y), .unset, .unset, .unset, .unset] [(.int (1 : Int32)), (.int (3 : Int32))]
  refine Own.callS W2 (tw hw 47 rfl) (tw hw 48 rfl) (tw hw 49 rfl) (tw hw 50 rfl) (by decide) (argsL := [(.int (3 : Int32)), (.int (1 : Int32))]) (rest := []) (Own.Con.pay (con_min hw hEL _ _ W2.old) W2 (tw hw 50 rfl) (tw hw 49 rfl) (len := 3) (wd := 0) (by decide) (by decide) (fun _ q => nomatch q)) rfl (lenOf pd_15 rfl) rfl (Nat.le_of_ble_eq_true rfl) d7_8 11 rfl 0 0 (Nat.le_of_ble_eq_true rfl) (Nat.le_of_ble_eq_true rfl) (Nat.le_of_ble_eq_true rfl) (Nat.le_of_ble_eq_true rfl) ?_
  intro v3 T3 h3 u3 W3 R3 hq
  obtain ⟨rfl, eh3⟩ := hq
  have ei3 := eh3.symm; subst ei3
  rw [show (if (1 : Int32) < (3 : Int32) then (1 : Int32) else (3 : Int32)) = (1 : Int32) from by decide]
  show Own.Go _ _ _ _ _ 11 #[.val (.ref x), .val (.ref y), .unset, .unset, .unset, .unset] [(.int (1 : Int32))]
  refine Own.istoreN W3 d7_11 12 rfl #[.val (.ref x), .val (.ref y), .val (.int (1 : Int32)), .unset, .unset, .unset] rfl ?_
  refine Own.iconst W3 d7_12 13 rfl (0 : Int32) rfl ?_
  refine Own.istoreN W3 d7_13 14 rfl #[.val (.ref x), .val (.ref y), .val (.int (1 : Int32)), .val (.int (0 : Int32)), .unset, .unset] rfl ?_
  refine Own.iloadN W3 d7_14 15 rfl (0 : Int32) rfl ?_
  refine Own.iloadN W3 d7_15 16 rfl (1 : Int32) rfl ?_
  refine Own.icmpNo W3 d7_16 19 (by decide) rfl ?_
  refine Own.aloadN W3 d7_19 20 rfl (.ref x) rfl rfl ?_
  refine Own.iloadN W3 d7_20 21 rfl (0 : Int32) rfl ?_
  refine Own.callV W3 (tw hw 68 rfl) (tw hw 69 rfl) (fun s q => notFace_of_selects (args := #[]) (mvT (s := s) q (tw hw 71 rfl))) (tw hw 71 rfl) (tw hw 70 rfl) (by decide) (argsL := [(.int (0 : Int32))]) (rest := []) (payChU0 hw hEL hmem hS hcz SF rfm TA TH TL W3 Sx (Nat.le_of_ble_eq_true rfl) (len := 3) (wd := 0) (by decide) (by decide)) Ex rfl (lenOf pd_16 rfl) rfl (Nat.le_of_ble_eq_true rfl) d7_21 24 rfl 0 0 (Nat.le_of_ble_eq_true rfl) (Nat.le_of_ble_eq_true rfl) (Nat.le_of_ble_eq_true rfl) (Nat.le_of_ble_eq_true rfl) ?_
  intro v4 T4 h4 u4 W4 R4 hq
  obtain ⟨rfl, eh4⟩ := hq
  have ei4 := eh4.symm; subst ei4
  show Own.Go _ _ _ _ _ 24 #[.val (.ref x), .val (.ref y), .val (.int (1 : Int32)), .val (.int (0 : Int32)), .unset, .unset] [(.int a0)]
  refine Own.istore W4 d7_24 26 rfl #[.val (.ref x), .val (.ref y), .val (.int (1 : Int32)), .val (.int (0 : Int32)), .val (.int a0), .unset] rfl ?_
  refine Own.aloadN W4 d7_26 27 rfl (.ref y) rfl rfl ?_
  refine Own.iloadN W4 d7_27 28 rfl (0 : Int32) rfl ?_
  refine Own.callV W4 (tw hw 68 rfl) (tw hw 69 rfl) (fun s q => notFace_of_selects (args := #[]) (mvT (s := s) q (tw hw 71 rfl))) (tw hw 71 rfl) (tw hw 70 rfl) (by decide) (argsL := [(.int (0 : Int32))]) (rest := []) (payChU0 hw hEL hmem hS hcz SF rfm TA TH TL W4 Sy (Nat.le_of_ble_eq_true rfl) (len := 3) (wd := 0) (by decide) (by decide)) Ey rfl (lenOf pd_16 rfl) rfl (Nat.le_of_ble_eq_true rfl) d7_28 31 rfl 0 0 (Nat.le_of_ble_eq_true rfl) (Nat.le_of_ble_eq_true rfl) (Nat.le_of_ble_eq_true rfl) (Nat.le_of_ble_eq_true rfl) ?_
  intro v5 T5 h5 u5 W5 R5 hq
  obtain ⟨rfl, eh5⟩ := hq
  have ei5 := eh5.symm; subst ei5
  show Own.Go _ _ _ _ _ 31 #[.val (.ref x), .val (.ref y), .val (.int (1 : Int32)), .val (.int (0 : Int32)), .val (.int a0), .unset] [(.int b0)]
  refine Own.istore W5 d7_31 33 rfl #[.val (.ref x), .val (.ref y), .val (.int (1 : Int32)), .val (.int (0 : Int32)), .val (.int a0), .val (.int b0)] rfl ?_
  refine Own.iload W5 d7_33 35 rfl a0 rfl ?_
  refine Own.iload W5 d7_35 37 rfl b0 rfl ?_
  by_cases e0 : a0 = b0
  · skip
    refine Own.icmpYes W5 d7_37 52 (XT.ii_eq_t e0) (by decide) (by decide) ?_
    refine Own.iinc W5 d7_52 55 rfl rfl #[.val (.ref x), .val (.ref y), .val (.int (1 : Int32)), .val (.int (1 : Int32)), .val (.int a0), .val (.int b0)] rfl ?_
    refine Own.goto W5 d7_55 14 (by decide) (by decide) ?_
    refine Own.iloadN W5 d7_14 15 rfl (1 : Int32) rfl ?_
    refine Own.iloadN W5 d7_15 16 rfl (1 : Int32) rfl ?_
    refine Own.icmpYes W5 d7_16 58 (by decide) (by decide) (by decide) ?_
    refine Own.aloadN W5 d7_58 59 rfl (.ref x) rfl rfl ?_
    refine Own.callV W5 (tw hw 36 rfl) (tw hw 37 rfl) (fun s q => notFace_of_selects (args := #[]) (mvT (s := s) q (tw hw 39 rfl))) (tw hw 39 rfl) (tw hw 38 rfl) (by decide) (argsL := []) (rest := []) (Own.payLenU (wL hw) (kI := 4) (tw hw 5 rfl) W5 Sx hS hcz (len := 3) (wd := 0) (by decide) (by decide)) Ex rfl (lenOf pd_14 rfl) rfl (Nat.le_of_ble_eq_true rfl) d7_59 62 rfl 0 0 (Nat.le_of_ble_eq_true rfl) (Nat.le_of_ble_eq_true rfl) (Nat.le_of_ble_eq_true rfl) (Nat.le_of_ble_eq_true rfl) ?_
    intro v6 T6 h6 u6 W6 R6 hq
    obtain ⟨rfl, eh6⟩ := hq
    have ei6 := eh6.symm; subst ei6
    show Own.Go _ _ _ _ _ 62 #[.val (.ref x), .val (.ref y), .val (.int (1 : Int32)), .val (.int (1 : Int32)), .val (.int a0), .val (.int b0)] [(.int (3 : Int32))]
    refine Own.aloadN W6 d7_62 63 rfl (.ref y) rfl rfl ?_
    refine Own.callV W6 (tw hw 36 rfl) (tw hw 37 rfl) (fun s q => notFace_of_selects (args := #[]) (mvT (s := s) q (tw hw 39 rfl))) (tw hw 39 rfl) (tw hw 38 rfl) (by decide) (argsL := []) (rest := [(.int (3 : Int32))]) (Own.payLenU (wL hw) (kI := 4) (tw hw 5 rfl) W6 Sy hS hcz (len := 3) (wd := 1) (by decide) (by decide)) Ey rfl (lenOf pd_14 rfl) rfl (Nat.le_of_ble_eq_true rfl) d7_63 66 rfl 0 0 (Nat.le_of_ble_eq_true rfl) (Nat.le_of_ble_eq_true rfl) (Nat.le_of_ble_eq_true rfl) (Nat.le_of_ble_eq_true rfl) ?_
    intro v7 T7 h7 u7 W7 R7 hq
    obtain ⟨rfl, eh7⟩ := hq
    have ei7 := eh7.symm; subst ei7
    show Own.Go _ _ _ _ _ 66 #[.val (.ref x), .val (.ref y), .val (.int (1 : Int32)), .val (.int (1 : Int32)), .val (.int a0), .val (.int b0)] [(.int (1 : Int32)), (.int (3 : Int32))]
    refine Own.isub W7 d7_66 67 rfl ?_
    show Own.Go _ _ _ _ _ 67 #[.val (.ref x), .val (.ref y), .val (.int (1 : Int32)), .val (.int (1 : Int32)), .val (.int a0), .val (.int b0)] [(.int (2 : Int32))]
    exact Own.retI W7 (by decide) (by decide) rfl d7_67 ⟨by rw [cmp_eq e0, cmp_end (Or.inr rfl)], rfl⟩
  · skip
    refine Own.icmpNo W5 d7_37 40 (XT.ii_eq_f e0) rfl ?_
    refine Own.iload W5 d7_40 42 rfl a0 rfl ?_
    refine Own.callS W5 (tw hw 90 rfl) (tw hw 91 rfl) (tw hw 34 rfl) (tw hw 92 rfl) (by decide) (argsL := [(.int a0)]) (rest := []) (Own.Con.pay (con_rnk hw hEL a0 W5.old) W5 (tw hw 92 rfl) (tw hw 34 rfl) (len := 3) (wd := 0) (by decide) (by decide) (fun _ q => nomatch q)) rfl (lenOf pd_13 rfl) rfl (Nat.le_of_ble_eq_true rfl) d7_42 45 rfl 0 0 (Nat.le_of_ble_eq_true rfl) (Nat.le_of_ble_eq_true rfl) (Nat.le_of_ble_eq_true rfl) (Nat.le_of_ble_eq_true rfl) ?_
    intro v8 T8 h8 u8 W8 R8 hq
    obtain ⟨rfl, eh8⟩ := hq
    have ei8 := eh8.symm; subst ei8
    show Own.Go _ _ _ _ _ 45 #[.val (.ref x), .val (.ref y), .val (.int (1 : Int32)), .val (.int (0 : Int32)), .val (.int a0), .val (.int b0)] [(.int (rank a0))]
    refine Own.iload W8 d7_45 47 rfl b0 rfl ?_
    refine Own.callS W8 (tw hw 90 rfl) (tw hw 91 rfl) (tw hw 34 rfl) (tw hw 92 rfl) (by decide) (argsL := [(.int b0)]) (rest := [(.int (rank a0))]) (Own.Con.pay (con_rnk hw hEL b0 W8.old) W8 (tw hw 92 rfl) (tw hw 34 rfl) (len := 3) (wd := 1) (by decide) (by decide) (fun _ q => nomatch q)) rfl (lenOf pd_13 rfl) rfl (Nat.le_of_ble_eq_true rfl) d7_47 50 rfl 0 0 (Nat.le_of_ble_eq_true rfl) (Nat.le_of_ble_eq_true rfl) (Nat.le_of_ble_eq_true rfl) (Nat.le_of_ble_eq_true rfl) ?_
    intro v9 T9 h9 u9 W9 R9 hq
    obtain ⟨rfl, eh9⟩ := hq
    have ei9 := eh9.symm; subst ei9
    show Own.Go _ _ _ _ _ 50 #[.val (.ref x), .val (.ref y), .val (.int (1 : Int32)), .val (.int (0 : Int32)), .val (.int a0), .val (.int b0)] [(.int (rank b0)), (.int (rank a0))]
    refine Own.isub W9 d7_50 51 rfl ?_
    exact Own.retI W9 (by decide) (by decide) rfl d7_51 ⟨by rw [cmp_ne e0], rfl⟩
set_option maxRecDepth 65536 in
set_option maxHeartbeats 40000000 in
theorem con_cmp32 {G : Own.Gl} (hw : ∀ d ∈ tables_1, d.before G.a0 G.Z = true) (hEL : EW G.Z G.a0 G.EL) (hmem : (Own.ST, 7) ∈ G.EL) {cz : Int32} (hS : Sta G.Z G.Z.heap Own.ST "COMPACT_STRINGS" "Z" (.int cz)) (hcz : ¬ cz = 0) {fm : Value} (SF : Sta G.Z G.Z.heap "jdk/internal/util/Preconditions" "SIOOBE_FORMATTER" "Ljava/util/function/BiFunction;" fm) (rfm : fm.isRef = true) (TA : Sta G.Z G.Z.heap "java/lang/StringUTF16" "$assertionsDisabled" "Z" (.int 1)) (TH : Sta G.Z G.Z.heap "java/lang/StringUTF16" "HI_BYTE_SHIFT" "I" (.int 0)) (TL : Sta G.Z G.Z.heap "java/lang/StringUTF16" "LO_BYTE_SHIFT" "I" (.int 8)) {a0 a1 a2 : Int32} {b0 b1 : Int32} {x y : Addr} {h : Heap} (hO : Old G.Z G.n0 h) (Sx : Own.Uni G.Z h x [a0, a1, a2]) (Sy : Own.Uni G.Z h y [b0, b1]) :
    Own.Con G [] bCmp32 #[.ref x, .ref y] h [] (fun v h' => v = some (.int (cmpF [a0, a1, a2] [b0, b1] (1 : Int32))) ∧ h' = h) := by
  refine Own.Con.intro (plainFor_of_name pn_4) hO hEL _ (fun m => ef_bCmp32 m x y) ?_
  intro X T0 W0 sf
  have Ex := Sx.exa
  have Ey := Sy.exa
  refine Own.aloadN W0 d7_0 1 rfl (.ref x) rfl rfl ?_
  refine Own.callV W0 (tw hw 36 rfl) (tw hw 37 rfl) (fun s q => notFace_of_selects (args := #[]) (mvT (s := s) q (tw hw 39 rfl))) (tw hw 39 rfl) (tw hw 38 rfl) (by decide) (argsL := []) (rest := []) (Own.payLenU (wL hw) (kI := 4) (tw hw 5 rfl) W0 Sx hS hcz (len := 3) (wd := 0) (by decide) (by decide)) Ex rfl (lenOf pd_14 rfl) rfl (Nat.le_of_ble_eq_true rfl) d7_1 4 rfl 0 0 (Nat.le_of_ble_eq_true rfl) (Nat.le_of_ble_eq_true rfl) (Nat.le_of_ble_eq_true rfl) (Nat.le_of_ble_eq_true rfl) ?_
  intro v1 T1 h1 u1 W1 R1 hq
  obtain ⟨rfl, eh1⟩ := hq
  have ei1 := eh1.symm; subst ei1
  show Own.Go _ _ _ _ _ 4 #[.val (.ref x), .val (.ref y), .unset, .unset, .unset, .unset] [(.int (3 : Int32))]
  refine Own.aloadN W1 d7_4 5 rfl (.ref y) rfl rfl ?_
  refine Own.callV W1 (tw hw 36 rfl) (tw hw 37 rfl) (fun s q => notFace_of_selects (args := #[]) (mvT (s := s) q (tw hw 39 rfl))) (tw hw 39 rfl) (tw hw 38 rfl) (by decide) (argsL := []) (rest := [(.int (3 : Int32))]) (Own.payLenU (wL hw) (kI := 4) (tw hw 5 rfl) W1 Sy hS hcz (len := 3) (wd := 1) (by decide) (by decide)) Ey rfl (lenOf pd_14 rfl) rfl (Nat.le_of_ble_eq_true rfl) d7_5 8 rfl 0 0 (Nat.le_of_ble_eq_true rfl) (Nat.le_of_ble_eq_true rfl) (Nat.le_of_ble_eq_true rfl) (Nat.le_of_ble_eq_true rfl) ?_
  intro v2 T2 h2 u2 W2 R2 hq
  obtain ⟨rfl, eh2⟩ := hq
  have ei2 := eh2.symm; subst ei2
  show Own.Go _ _ _ _ _ 8 #[.val (.ref x), .val (.ref y), .unset, .unset, .unset, .unset] [(.int (2 : Int32)), (.int (3 : Int32))]
  refine Own.callS W2 (tw hw 47 rfl) (tw hw 48 rfl) (tw hw 49 rfl) (tw hw 50 rfl) (by decide) (argsL := [(.int (3 : Int32)), (.int (2 : Int32))]) (rest := []) (Own.Con.pay (con_min hw hEL _ _ W2.old) W2 (tw hw 50 rfl) (tw hw 49 rfl) (len := 3) (wd := 0) (by decide) (by decide) (fun _ q => nomatch q)) rfl (lenOf pd_15 rfl) rfl (Nat.le_of_ble_eq_true rfl) d7_8 11 rfl 0 0 (Nat.le_of_ble_eq_true rfl) (Nat.le_of_ble_eq_true rfl) (Nat.le_of_ble_eq_true rfl) (Nat.le_of_ble_eq_true rfl) ?_
  intro v3 T3 h3 u3 W3 R3 hq
  obtain ⟨rfl, eh3⟩ := hq
  have ei3 := eh3.symm; subst ei3
  rw [show (if (2 : Int32) < (3 : Int32) then (2 : Int32) else (3 : Int32)) = (2 : Int32) from by decide]
  show Own.Go _ _ _ _ _ 11 #[.val (.ref x), .val (.ref y), .unset, .unset, .unset, .unset] [(.int (2 : Int32))]
  refine Own.istoreN W3 d7_11 12 rfl #[.val (.ref x), .val (.ref y), .val (.int (2 : Int32)), .unset, .unset, .unset] rfl ?_
  refine Own.iconst W3 d7_12 13 rfl (0 : Int32) rfl ?_
  refine Own.istoreN W3 d7_13 14 rfl #[.val (.ref x), .val (.ref y), .val (.int (2 : Int32)), .val (.int (0 : Int32)), .unset, .unset] rfl ?_
  refine Own.iloadN W3 d7_14 15 rfl (0 : Int32) rfl ?_
  refine Own.iloadN W3 d7_15 16 rfl (2 : Int32) rfl ?_
  refine Own.icmpNo W3 d7_16 19 (by decide) rfl ?_
  refine Own.aloadN W3 d7_19 20 rfl (.ref x) rfl rfl ?_
  refine Own.iloadN W3 d7_20 21 rfl (0 : Int32) rfl ?_
  refine Own.callV W3 (tw hw 68 rfl) (tw hw 69 rfl) (fun s q => notFace_of_selects (args := #[]) (mvT (s := s) q (tw hw 71 rfl))) (tw hw 71 rfl) (tw hw 70 rfl) (by decide) (argsL := [(.int (0 : Int32))]) (rest := []) (payChU0 hw hEL hmem hS hcz SF rfm TA TH TL W3 Sx (Nat.le_of_ble_eq_true rfl) (len := 3) (wd := 0) (by decide) (by decide)) Ex rfl (lenOf pd_16 rfl) rfl (Nat.le_of_ble_eq_true rfl) d7_21 24 rfl 0 0 (Nat.le_of_ble_eq_true rfl) (Nat.le_of_ble_eq_true rfl) (Nat.le_of_ble_eq_true rfl) (Nat.le_of_ble_eq_true rfl) ?_
  intro v4 T4 h4 u4 W4 R4 hq
  obtain ⟨rfl, eh4⟩ := hq
  have ei4 := eh4.symm; subst ei4
  show Own.Go _ _ _ _ _ 24 #[.val (.ref x), .val (.ref y), .val (.int (2 : Int32)), .val (.int (0 : Int32)), .unset, .unset] [(.int a0)]
  refine Own.istore W4 d7_24 26 rfl #[.val (.ref x), .val (.ref y), .val (.int (2 : Int32)), .val (.int (0 : Int32)), .val (.int a0), .unset] rfl ?_
  refine Own.aloadN W4 d7_26 27 rfl (.ref y) rfl rfl ?_
  refine Own.iloadN W4 d7_27 28 rfl (0 : Int32) rfl ?_
  refine Own.callV W4 (tw hw 68 rfl) (tw hw 69 rfl) (fun s q => notFace_of_selects (args := #[]) (mvT (s := s) q (tw hw 71 rfl))) (tw hw 71 rfl) (tw hw 70 rfl) (by decide) (argsL := [(.int (0 : Int32))]) (rest := []) (payChU0 hw hEL hmem hS hcz SF rfm TA TH TL W4 Sy (Nat.le_of_ble_eq_true rfl) (len := 3) (wd := 0) (by decide) (by decide)) Ey rfl (lenOf pd_16 rfl) rfl (Nat.le_of_ble_eq_true rfl) d7_28 31 rfl 0 0 (Nat.le_of_ble_eq_true rfl) (Nat.le_of_ble_eq_true rfl) (Nat.le_of_ble_eq_true rfl) (Nat.le_of_ble_eq_true rfl) ?_
  intro v5 T5 h5 u5 W5 R5 hq
  obtain ⟨rfl, eh5⟩ := hq
  have ei5 := eh5.symm; subst ei5
  show Own.Go _ _ _ _ _ 31 #[.val (.ref x), .val (.ref y), .val (.int (2 : Int32)), .val (.int (0 : Int32)), .val (.int a0), .unset] [(.int b0)]
  refine Own.istore W5 d7_31 33 rfl #[.val (.ref x), .val (.ref y), .val (.int (2 : Int32)), .val (.int (0 : Int32)), .val (.int a0), .val (.int b0)] rfl ?_
  refine Own.iload W5 d7_33 35 rfl a0 rfl ?_
  refine Own.iload W5 d7_35 37 rfl b0 rfl ?_
  by_cases e0 : a0 = b0
  · skip
    refine Own.icmpYes W5 d7_37 52 (XT.ii_eq_t e0) (by decide) (by decide) ?_
    refine Own.iinc W5 d7_52 55 rfl rfl #[.val (.ref x), .val (.ref y), .val (.int (2 : Int32)), .val (.int (1 : Int32)), .val (.int a0), .val (.int b0)] rfl ?_
    refine Own.goto W5 d7_55 14 (by decide) (by decide) ?_
    refine Own.iloadN W5 d7_14 15 rfl (1 : Int32) rfl ?_
    refine Own.iloadN W5 d7_15 16 rfl (2 : Int32) rfl ?_
    refine Own.icmpNo W5 d7_16 19 (by decide) rfl ?_
    refine Own.aloadN W5 d7_19 20 rfl (.ref x) rfl rfl ?_
    refine Own.iloadN W5 d7_20 21 rfl (1 : Int32) rfl ?_
    refine Own.callV W5 (tw hw 68 rfl) (tw hw 69 rfl) (fun s q => notFace_of_selects (args := #[]) (mvT (s := s) q (tw hw 71 rfl))) (tw hw 71 rfl) (tw hw 70 rfl) (by decide) (argsL := [(.int (1 : Int32))]) (rest := []) (payChU1 hw hEL hmem hS hcz SF rfm TA TH TL W5 Sx (Nat.le_of_ble_eq_true rfl) (len := 3) (wd := 0) (by decide) (by decide)) Ex rfl (lenOf pd_16 rfl) rfl (Nat.le_of_ble_eq_true rfl) d7_21 24 rfl 0 0 (Nat.le_of_ble_eq_true rfl) (Nat.le_of_ble_eq_true rfl) (Nat.le_of_ble_eq_true rfl) (Nat.le_of_ble_eq_true rfl) ?_
    intro v6 T6 h6 u6 W6 R6 hq
    obtain ⟨rfl, eh6⟩ := hq
    have ei6 := eh6.symm; subst ei6
    show Own.Go _ _ _ _ _ 24 #[.val (.ref x), .val (.ref y), .val (.int (2 : Int32)), .val (.int (1 : Int32)), .val (.int a0), .val (.int b0)] [(.int a1)]
    refine Own.istore W6 d7_24 26 rfl #[.val (.ref x), .val (.ref y), .val (.int (2 : Int32)), .val (.int (1 : Int32)), .val (.int a1), .val (.int b0)] rfl ?_
    refine Own.aloadN W6 d7_26 27 rfl (.ref y) rfl rfl ?_
    refine Own.iloadN W6 d7_27 28 rfl (1 : Int32) rfl ?_
    refine Own.callV W6 (tw hw 68 rfl) (tw hw 69 rfl) (fun s q => notFace_of_selects (args := #[]) (mvT (s := s) q (tw hw 71 rfl))) (tw hw 71 rfl) (tw hw 70 rfl) (by decide) (argsL := [(.int (1 : Int32))]) (rest := []) (payChU1 hw hEL hmem hS hcz SF rfm TA TH TL W6 Sy (Nat.le_of_ble_eq_true rfl) (len := 3) (wd := 0) (by decide) (by decide)) Ey rfl (lenOf pd_16 rfl) rfl (Nat.le_of_ble_eq_true rfl) d7_28 31 rfl 0 0 (Nat.le_of_ble_eq_true rfl) (Nat.le_of_ble_eq_true rfl) (Nat.le_of_ble_eq_true rfl) (Nat.le_of_ble_eq_true rfl) ?_
    intro v7 T7 h7 u7 W7 R7 hq
    obtain ⟨rfl, eh7⟩ := hq
    have ei7 := eh7.symm; subst ei7
    show Own.Go _ _ _ _ _ 31 #[.val (.ref x), .val (.ref y), .val (.int (2 : Int32)), .val (.int (1 : Int32)), .val (.int a1), .val (.int b0)] [(.int b1)]
    refine Own.istore W7 d7_31 33 rfl #[.val (.ref x), .val (.ref y), .val (.int (2 : Int32)), .val (.int (1 : Int32)), .val (.int a1), .val (.int b1)] rfl ?_
    refine Own.iload W7 d7_33 35 rfl a1 rfl ?_
    refine Own.iload W7 d7_35 37 rfl b1 rfl ?_
    by_cases e1 : a1 = b1
    · skip
      refine Own.icmpYes W7 d7_37 52 (XT.ii_eq_t e1) (by decide) (by decide) ?_
      refine Own.iinc W7 d7_52 55 rfl rfl #[.val (.ref x), .val (.ref y), .val (.int (2 : Int32)), .val (.int (2 : Int32)), .val (.int a1), .val (.int b1)] rfl ?_
      refine Own.goto W7 d7_55 14 (by decide) (by decide) ?_
      refine Own.iloadN W7 d7_14 15 rfl (2 : Int32) rfl ?_
      refine Own.iloadN W7 d7_15 16 rfl (2 : Int32) rfl ?_
      refine Own.icmpYes W7 d7_16 58 (by decide) (by decide) (by decide) ?_
      refine Own.aloadN W7 d7_58 59 rfl (.ref x) rfl rfl ?_
      refine Own.callV W7 (tw hw 36 rfl) (tw hw 37 rfl) (fun s q => notFace_of_selects (args := #[]) (mvT (s := s) q (tw hw 39 rfl))) (tw hw 39 rfl) (tw hw 38 rfl) (by decide) (argsL := []) (rest := []) (Own.payLenU (wL hw) (kI := 4) (tw hw 5 rfl) W7 Sx hS hcz (len := 3) (wd := 0) (by decide) (by decide)) Ex rfl (lenOf pd_14 rfl) rfl (Nat.le_of_ble_eq_true rfl) d7_59 62 rfl 0 0 (Nat.le_of_ble_eq_true rfl) (Nat.le_of_ble_eq_true rfl) (Nat.le_of_ble_eq_true rfl) (Nat.le_of_ble_eq_true rfl) ?_
      intro v8 T8 h8 u8 W8 R8 hq
      obtain ⟨rfl, eh8⟩ := hq
      have ei8 := eh8.symm; subst ei8
      show Own.Go _ _ _ _ _ 62 #[.val (.ref x), .val (.ref y), .val (.int (2 : Int32)), .val (.int (2 : Int32)), .val (.int a1), .val (.int b1)] [(.int (3 : Int32))]
      refine Own.aloadN W8 d7_62 63 rfl (.ref y) rfl rfl ?_
      refine Own.callV W8 (tw hw 36 rfl) (tw hw 37 rfl) (fun s q => notFace_of_selects (args := #[]) (mvT (s := s) q (tw hw 39 rfl))) (tw hw 39 rfl) (tw hw 38 rfl) (by decide) (argsL := []) (rest := [(.int (3 : Int32))]) (Own.payLenU (wL hw) (kI := 4) (tw hw 5 rfl) W8 Sy hS hcz (len := 3) (wd := 1) (by decide) (by decide)) Ey rfl (lenOf pd_14 rfl) rfl (Nat.le_of_ble_eq_true rfl) d7_63 66 rfl 0 0 (Nat.le_of_ble_eq_true rfl) (Nat.le_of_ble_eq_true rfl) (Nat.le_of_ble_eq_true rfl) (Nat.le_of_ble_eq_true rfl) ?_
      intro v9 T9 h9 u9 W9 R9 hq
      obtain ⟨rfl, eh9⟩ := hq
      have ei9 := eh9.symm; subst ei9
      show Own.Go _ _ _ _ _ 66 #[.val (.ref x), .val (.ref y), .val (.int (2 : Int32)), .val (.int (2 : Int32)), .val (.int a1), .val (.int b1)] [(.int (2 : Int32)), (.int (3 : Int32))]
      refine Own.isub W9 d7_66 67 rfl ?_
      show Own.Go _ _ _ _ _ 67 #[.val (.ref x), .val (.ref y), .val (.int (2 : Int32)), .val (.int (2 : Int32)), .val (.int a1), .val (.int b1)] [(.int (1 : Int32))]
      exact Own.retI W9 (by decide) (by decide) rfl d7_67 ⟨by rw [cmp_eq e0, cmp_eq e1, cmp_end (Or.inr rfl)], rfl⟩
    · skip
      refine Own.icmpNo W7 d7_37 40 (XT.ii_eq_f e1) rfl ?_
      refine Own.iload W7 d7_40 42 rfl a1 rfl ?_
      refine Own.callS W7 (tw hw 90 rfl) (tw hw 91 rfl) (tw hw 34 rfl) (tw hw 92 rfl) (by decide) (argsL := [(.int a1)]) (rest := []) (Own.Con.pay (con_rnk hw hEL a1 W7.old) W7 (tw hw 92 rfl) (tw hw 34 rfl) (len := 3) (wd := 0) (by decide) (by decide) (fun _ q => nomatch q)) rfl (lenOf pd_13 rfl) rfl (Nat.le_of_ble_eq_true rfl) d7_42 45 rfl 0 0 (Nat.le_of_ble_eq_true rfl) (Nat.le_of_ble_eq_true rfl) (Nat.le_of_ble_eq_true rfl) (Nat.le_of_ble_eq_true rfl) ?_
      intro v10 T10 h10 u10 W10 R10 hq
      obtain ⟨rfl, eh10⟩ := hq
      have ei10 := eh10.symm; subst ei10
      show Own.Go _ _ _ _ _ 45 #[.val (.ref x), .val (.ref y), .val (.int (2 : Int32)), .val (.int (1 : Int32)), .val (.int a1), .val (.int b1)] [(.int (rank a1))]
      refine Own.iload W10 d7_45 47 rfl b1 rfl ?_
      refine Own.callS W10 (tw hw 90 rfl) (tw hw 91 rfl) (tw hw 34 rfl) (tw hw 92 rfl) (by decide) (argsL := [(.int b1)]) (rest := [(.int (rank a1))]) (Own.Con.pay (con_rnk hw hEL b1 W10.old) W10 (tw hw 92 rfl) (tw hw 34 rfl) (len := 3) (wd := 1) (by decide) (by decide) (fun _ q => nomatch q)) rfl (lenOf pd_13 rfl) rfl (Nat.le_of_ble_eq_true rfl) d7_47 50 rfl 0 0 (Nat.le_of_ble_eq_true rfl) (Nat.le_of_ble_eq_true rfl) (Nat.le_of_ble_eq_true rfl) (Nat.le_of_ble_eq_true rfl) ?_
      intro v11 T11 h11 u11 W11 R11 hq
      obtain ⟨rfl, eh11⟩ := hq
      have ei11 := eh11.symm; subst ei11
      show Own.Go _ _ _ _ _ 50 #[.val (.ref x), .val (.ref y), .val (.int (2 : Int32)), .val (.int (1 : Int32)), .val (.int a1), .val (.int b1)] [(.int (rank b1)), (.int (rank a1))]
      refine Own.isub W11 d7_50 51 rfl ?_
      exact Own.retI W11 (by decide) (by decide) rfl d7_51 ⟨by rw [cmp_eq e0, cmp_ne e1], rfl⟩
  · skip
    refine Own.icmpNo W5 d7_37 40 (XT.ii_eq_f e0) rfl ?_
    refine Own.iload W5 d7_40 42 rfl a0 rfl ?_
    refine Own.callS W5 (tw hw 90 rfl) (tw hw 91 rfl) (tw hw 34 rfl) (tw hw 92 rfl) (by decide) (argsL := [(.int a0)]) (rest := []) (Own.Con.pay (con_rnk hw hEL a0 W5.old) W5 (tw hw 92 rfl) (tw hw 34 rfl) (len := 3) (wd := 0) (by decide) (by decide) (fun _ q => nomatch q)) rfl (lenOf pd_13 rfl) rfl (Nat.le_of_ble_eq_true rfl) d7_42 45 rfl 0 0 (Nat.le_of_ble_eq_true rfl) (Nat.le_of_ble_eq_true rfl) (Nat.le_of_ble_eq_true rfl) (Nat.le_of_ble_eq_true rfl) ?_
    intro v12 T12 h12 u12 W12 R12 hq
    obtain ⟨rfl, eh12⟩ := hq
    have ei12 := eh12.symm; subst ei12
    show Own.Go _ _ _ _ _ 45 #[.val (.ref x), .val (.ref y), .val (.int (2 : Int32)), .val (.int (0 : Int32)), .val (.int a0), .val (.int b0)] [(.int (rank a0))]
    refine Own.iload W12 d7_45 47 rfl b0 rfl ?_
    refine Own.callS W12 (tw hw 90 rfl) (tw hw 91 rfl) (tw hw 34 rfl) (tw hw 92 rfl) (by decide) (argsL := [(.int b0)]) (rest := [(.int (rank a0))]) (Own.Con.pay (con_rnk hw hEL b0 W12.old) W12 (tw hw 92 rfl) (tw hw 34 rfl) (len := 3) (wd := 1) (by decide) (by decide) (fun _ q => nomatch q)) rfl (lenOf pd_13 rfl) rfl (Nat.le_of_ble_eq_true rfl) d7_47 50 rfl 0 0 (Nat.le_of_ble_eq_true rfl) (Nat.le_of_ble_eq_true rfl) (Nat.le_of_ble_eq_true rfl) (Nat.le_of_ble_eq_true rfl) ?_
    intro v13 T13 h13 u13 W13 R13 hq
    obtain ⟨rfl, eh13⟩ := hq
    have ei13 := eh13.symm; subst ei13
    show Own.Go _ _ _ _ _ 50 #[.val (.ref x), .val (.ref y), .val (.int (2 : Int32)), .val (.int (0 : Int32)), .val (.int a0), .val (.int b0)] [(.int (rank b0)), (.int (rank a0))]
    refine Own.isub W13 d7_50 51 rfl ?_
    exact Own.retI W13 (by decide) (by decide) rfl d7_51 ⟨by rw [cmp_ne e0], rfl⟩
set_option maxRecDepth 65536 in
set_option maxHeartbeats 40000000 in
theorem con_cmp33 {G : Own.Gl} (hw : ∀ d ∈ tables_1, d.before G.a0 G.Z = true) (hEL : EW G.Z G.a0 G.EL) (hmem : (Own.ST, 7) ∈ G.EL) {cz : Int32} (hS : Sta G.Z G.Z.heap Own.ST "COMPACT_STRINGS" "Z" (.int cz)) (hcz : ¬ cz = 0) {fm : Value} (SF : Sta G.Z G.Z.heap "jdk/internal/util/Preconditions" "SIOOBE_FORMATTER" "Ljava/util/function/BiFunction;" fm) (rfm : fm.isRef = true) (TA : Sta G.Z G.Z.heap "java/lang/StringUTF16" "$assertionsDisabled" "Z" (.int 1)) (TH : Sta G.Z G.Z.heap "java/lang/StringUTF16" "HI_BYTE_SHIFT" "I" (.int 0)) (TL : Sta G.Z G.Z.heap "java/lang/StringUTF16" "LO_BYTE_SHIFT" "I" (.int 8)) {a0 a1 a2 : Int32} {b0 b1 b2 : Int32} {x y : Addr} {h : Heap} (hO : Old G.Z G.n0 h) (Sx : Own.Uni G.Z h x [a0, a1, a2]) (Sy : Own.Uni G.Z h y [b0, b1, b2]) :
    Own.Con G [] bCmp33 #[.ref x, .ref y] h [] (fun v h' => v = some (.int (cmpF [a0, a1, a2] [b0, b1, b2] (0 : Int32))) ∧ h' = h) := by
  refine Own.Con.intro (plainFor_of_name pn_4) hO hEL _ (fun m => ef_bCmp33 m x y) ?_
  intro X T0 W0 sf
  have Ex := Sx.exa
  have Ey := Sy.exa
  refine Own.aloadN W0 d7_0 1 rfl (.ref x) rfl rfl ?_
  refine Own.callV W0 (tw hw 36 rfl) (tw hw 37 rfl) (fun s q => notFace_of_selects (args := #[]) (mvT (s := s) q (tw hw 39 rfl))) (tw hw 39 rfl) (tw hw 38 rfl) (by decide) (argsL := []) (rest := []) (Own.payLenU (wL hw) (kI := 4) (tw hw 5 rfl) W0 Sx hS hcz (len := 3) (wd := 0) (by decide) (by decide)) Ex rfl (lenOf pd_14 rfl) rfl (Nat.le_of_ble_eq_true rfl) d7_1 4 rfl 0 0 (Nat.le_of_ble_eq_true rfl) (Nat.le_of_ble_eq_true rfl) (Nat.le_of_ble_eq_true rfl) (Nat.le_of_ble_eq_true rfl) ?_
  intro v1 T1 h1 u1 W1 R1 hq
  obtain ⟨rfl, eh1⟩ := hq
  have ei1 := eh1.symm; subst ei1
  show Own.Go _ _ _ _ _ 4 #[.val (.ref x), .val (.ref y), .unset, .unset, .unset, .unset] [(.int (3 : Int32))]
  refine Own.aloadN W1 d7_4 5 rfl (.ref y) rfl rfl ?_
  refine Own.callV W1 (tw hw 36 rfl) (tw hw 37 rfl) (fun s q => notFace_of_selects (args := #[]) (mvT (s := s) q (tw hw 39 rfl))) (tw hw 39 rfl) (tw hw 38 rfl) (by decide) (argsL := []) (rest := [(.int (3 : Int32))]) (Own.payLenU (wL hw) (kI := 4) (tw hw 5 rfl) W1 Sy hS hcz (len := 3) (wd := 1) (by decide) (by decide)) Ey rfl (lenOf pd_14 rfl) rfl (Nat.le_of_ble_eq_true rfl) d7_5 8 rfl 0 0 (Nat.le_of_ble_eq_true rfl) (Nat.le_of_ble_eq_true rfl) (Nat.le_of_ble_eq_true rfl) (Nat.le_of_ble_eq_true rfl) ?_
  intro v2 T2 h2 u2 W2 R2 hq
  obtain ⟨rfl, eh2⟩ := hq
  have ei2 := eh2.symm; subst ei2
  show Own.Go _ _ _ _ _ 8 #[.val (.ref x), .val (.ref y), .unset, .unset, .unset, .unset] [(.int (3 : Int32)), (.int (3 : Int32))]
  refine Own.callS W2 (tw hw 47 rfl) (tw hw 48 rfl) (tw hw 49 rfl) (tw hw 50 rfl) (by decide) (argsL := [(.int (3 : Int32)), (.int (3 : Int32))]) (rest := []) (Own.Con.pay (con_min hw hEL _ _ W2.old) W2 (tw hw 50 rfl) (tw hw 49 rfl) (len := 3) (wd := 0) (by decide) (by decide) (fun _ q => nomatch q)) rfl (lenOf pd_15 rfl) rfl (Nat.le_of_ble_eq_true rfl) d7_8 11 rfl 0 0 (Nat.le_of_ble_eq_true rfl) (Nat.le_of_ble_eq_true rfl) (Nat.le_of_ble_eq_true rfl) (Nat.le_of_ble_eq_true rfl) ?_
  intro v3 T3 h3 u3 W3 R3 hq
  obtain ⟨rfl, eh3⟩ := hq
  have ei3 := eh3.symm; subst ei3
  rw [show (if (3 : Int32) < (3 : Int32) then (3 : Int32) else (3 : Int32)) = (3 : Int32) from by decide]
  show Own.Go _ _ _ _ _ 11 #[.val (.ref x), .val (.ref y), .unset, .unset, .unset, .unset] [(.int (3 : Int32))]
  refine Own.istoreN W3 d7_11 12 rfl #[.val (.ref x), .val (.ref y), .val (.int (3 : Int32)), .unset, .unset, .unset] rfl ?_
  refine Own.iconst W3 d7_12 13 rfl (0 : Int32) rfl ?_
  refine Own.istoreN W3 d7_13 14 rfl #[.val (.ref x), .val (.ref y), .val (.int (3 : Int32)), .val (.int (0 : Int32)), .unset, .unset] rfl ?_
  refine Own.iloadN W3 d7_14 15 rfl (0 : Int32) rfl ?_
  refine Own.iloadN W3 d7_15 16 rfl (3 : Int32) rfl ?_
  refine Own.icmpNo W3 d7_16 19 (by decide) rfl ?_
  refine Own.aloadN W3 d7_19 20 rfl (.ref x) rfl rfl ?_
  refine Own.iloadN W3 d7_20 21 rfl (0 : Int32) rfl ?_
  refine Own.callV W3 (tw hw 68 rfl) (tw hw 69 rfl) (fun s q => notFace_of_selects (args := #[]) (mvT (s := s) q (tw hw 71 rfl))) (tw hw 71 rfl) (tw hw 70 rfl) (by decide) (argsL := [(.int (0 : Int32))]) (rest := []) (payChU0 hw hEL hmem hS hcz SF rfm TA TH TL W3 Sx (Nat.le_of_ble_eq_true rfl) (len := 3) (wd := 0) (by decide) (by decide)) Ex rfl (lenOf pd_16 rfl) rfl (Nat.le_of_ble_eq_true rfl) d7_21 24 rfl 0 0 (Nat.le_of_ble_eq_true rfl) (Nat.le_of_ble_eq_true rfl) (Nat.le_of_ble_eq_true rfl) (Nat.le_of_ble_eq_true rfl) ?_
  intro v4 T4 h4 u4 W4 R4 hq
  obtain ⟨rfl, eh4⟩ := hq
  have ei4 := eh4.symm; subst ei4
  show Own.Go _ _ _ _ _ 24 #[.val (.ref x), .val (.ref y), .val (.int (3 : Int32)), .val (.int (0 : Int32)), .unset, .unset] [(.int a0)]
  refine Own.istore W4 d7_24 26 rfl #[.val (.ref x), .val (.ref y), .val (.int (3 : Int32)), .val (.int (0 : Int32)), .val (.int a0), .unset] rfl ?_
  refine Own.aloadN W4 d7_26 27 rfl (.ref y) rfl rfl ?_
  refine Own.iloadN W4 d7_27 28 rfl (0 : Int32) rfl ?_
  refine Own.callV W4 (tw hw 68 rfl) (tw hw 69 rfl) (fun s q => notFace_of_selects (args := #[]) (mvT (s := s) q (tw hw 71 rfl))) (tw hw 71 rfl) (tw hw 70 rfl) (by decide) (argsL := [(.int (0 : Int32))]) (rest := []) (payChU0 hw hEL hmem hS hcz SF rfm TA TH TL W4 Sy (Nat.le_of_ble_eq_true rfl) (len := 3) (wd := 0) (by decide) (by decide)) Ey rfl (lenOf pd_16 rfl) rfl (Nat.le_of_ble_eq_true rfl) d7_28 31 rfl 0 0 (Nat.le_of_ble_eq_true rfl) (Nat.le_of_ble_eq_true rfl) (Nat.le_of_ble_eq_true rfl) (Nat.le_of_ble_eq_true rfl) ?_
  intro v5 T5 h5 u5 W5 R5 hq
  obtain ⟨rfl, eh5⟩ := hq
  have ei5 := eh5.symm; subst ei5
  show Own.Go _ _ _ _ _ 31 #[.val (.ref x), .val (.ref y), .val (.int (3 : Int32)), .val (.int (0 : Int32)), .val (.int a0), .unset] [(.int b0)]
  refine Own.istore W5 d7_31 33 rfl #[.val (.ref x), .val (.ref y), .val (.int (3 : Int32)), .val (.int (0 : Int32)), .val (.int a0), .val (.int b0)] rfl ?_
  refine Own.iload W5 d7_33 35 rfl a0 rfl ?_
  refine Own.iload W5 d7_35 37 rfl b0 rfl ?_
  by_cases e0 : a0 = b0
  · skip
    refine Own.icmpYes W5 d7_37 52 (XT.ii_eq_t e0) (by decide) (by decide) ?_
    refine Own.iinc W5 d7_52 55 rfl rfl #[.val (.ref x), .val (.ref y), .val (.int (3 : Int32)), .val (.int (1 : Int32)), .val (.int a0), .val (.int b0)] rfl ?_
    refine Own.goto W5 d7_55 14 (by decide) (by decide) ?_
    refine Own.iloadN W5 d7_14 15 rfl (1 : Int32) rfl ?_
    refine Own.iloadN W5 d7_15 16 rfl (3 : Int32) rfl ?_
    refine Own.icmpNo W5 d7_16 19 (by decide) rfl ?_
    refine Own.aloadN W5 d7_19 20 rfl (.ref x) rfl rfl ?_
    refine Own.iloadN W5 d7_20 21 rfl (1 : Int32) rfl ?_
    refine Own.callV W5 (tw hw 68 rfl) (tw hw 69 rfl) (fun s q => notFace_of_selects (args := #[]) (mvT (s := s) q (tw hw 71 rfl))) (tw hw 71 rfl) (tw hw 70 rfl) (by decide) (argsL := [(.int (1 : Int32))]) (rest := []) (payChU1 hw hEL hmem hS hcz SF rfm TA TH TL W5 Sx (Nat.le_of_ble_eq_true rfl) (len := 3) (wd := 0) (by decide) (by decide)) Ex rfl (lenOf pd_16 rfl) rfl (Nat.le_of_ble_eq_true rfl) d7_21 24 rfl 0 0 (Nat.le_of_ble_eq_true rfl) (Nat.le_of_ble_eq_true rfl) (Nat.le_of_ble_eq_true rfl) (Nat.le_of_ble_eq_true rfl) ?_
    intro v6 T6 h6 u6 W6 R6 hq
    obtain ⟨rfl, eh6⟩ := hq
    have ei6 := eh6.symm; subst ei6
    show Own.Go _ _ _ _ _ 24 #[.val (.ref x), .val (.ref y), .val (.int (3 : Int32)), .val (.int (1 : Int32)), .val (.int a0), .val (.int b0)] [(.int a1)]
    refine Own.istore W6 d7_24 26 rfl #[.val (.ref x), .val (.ref y), .val (.int (3 : Int32)), .val (.int (1 : Int32)), .val (.int a1), .val (.int b0)] rfl ?_
    refine Own.aloadN W6 d7_26 27 rfl (.ref y) rfl rfl ?_
    refine Own.iloadN W6 d7_27 28 rfl (1 : Int32) rfl ?_
    refine Own.callV W6 (tw hw 68 rfl) (tw hw 69 rfl) (fun s q => notFace_of_selects (args := #[]) (mvT (s := s) q (tw hw 71 rfl))) (tw hw 71 rfl) (tw hw 70 rfl) (by decide) (argsL := [(.int (1 : Int32))]) (rest := []) (payChU1 hw hEL hmem hS hcz SF rfm TA TH TL W6 Sy (Nat.le_of_ble_eq_true rfl) (len := 3) (wd := 0) (by decide) (by decide)) Ey rfl (lenOf pd_16 rfl) rfl (Nat.le_of_ble_eq_true rfl) d7_28 31 rfl 0 0 (Nat.le_of_ble_eq_true rfl) (Nat.le_of_ble_eq_true rfl) (Nat.le_of_ble_eq_true rfl) (Nat.le_of_ble_eq_true rfl) ?_
    intro v7 T7 h7 u7 W7 R7 hq
    obtain ⟨rfl, eh7⟩ := hq
    have ei7 := eh7.symm; subst ei7
    show Own.Go _ _ _ _ _ 31 #[.val (.ref x), .val (.ref y), .val (.int (3 : Int32)), .val (.int (1 : Int32)), .val (.int a1), .val (.int b0)] [(.int b1)]
    refine Own.istore W7 d7_31 33 rfl #[.val (.ref x), .val (.ref y), .val (.int (3 : Int32)), .val (.int (1 : Int32)), .val (.int a1), .val (.int b1)] rfl ?_
    refine Own.iload W7 d7_33 35 rfl a1 rfl ?_
    refine Own.iload W7 d7_35 37 rfl b1 rfl ?_
    by_cases e1 : a1 = b1
    · skip
      refine Own.icmpYes W7 d7_37 52 (XT.ii_eq_t e1) (by decide) (by decide) ?_
      refine Own.iinc W7 d7_52 55 rfl rfl #[.val (.ref x), .val (.ref y), .val (.int (3 : Int32)), .val (.int (2 : Int32)), .val (.int a1), .val (.int b1)] rfl ?_
      refine Own.goto W7 d7_55 14 (by decide) (by decide) ?_
      refine Own.iloadN W7 d7_14 15 rfl (2 : Int32) rfl ?_
      refine Own.iloadN W7 d7_15 16 rfl (3 : Int32) rfl ?_
      refine Own.icmpNo W7 d7_16 19 (by decide) rfl ?_
      refine Own.aloadN W7 d7_19 20 rfl (.ref x) rfl rfl ?_
      refine Own.iloadN W7 d7_20 21 rfl (2 : Int32) rfl ?_
      refine Own.callV W7 (tw hw 68 rfl) (tw hw 69 rfl) (fun s q => notFace_of_selects (args := #[]) (mvT (s := s) q (tw hw 71 rfl))) (tw hw 71 rfl) (tw hw 70 rfl) (by decide) (argsL := [(.int (2 : Int32))]) (rest := []) (payChU2 hw hEL hmem hS hcz SF rfm TA TH TL W7 Sx (Nat.le_of_ble_eq_true rfl) (len := 3) (wd := 0) (by decide) (by decide)) Ex rfl (lenOf pd_16 rfl) rfl (Nat.le_of_ble_eq_true rfl) d7_21 24 rfl 0 0 (Nat.le_of_ble_eq_true rfl) (Nat.le_of_ble_eq_true rfl) (Nat.le_of_ble_eq_true rfl) (Nat.le_of_ble_eq_true rfl) ?_
      intro v8 T8 h8 u8 W8 R8 hq
      obtain ⟨rfl, eh8⟩ := hq
      have ei8 := eh8.symm; subst ei8
      show Own.Go _ _ _ _ _ 24 #[.val (.ref x), .val (.ref y), .val (.int (3 : Int32)), .val (.int (2 : Int32)), .val (.int a1), .val (.int b1)] [(.int a2)]
      refine Own.istore W8 d7_24 26 rfl #[.val (.ref x), .val (.ref y), .val (.int (3 : Int32)), .val (.int (2 : Int32)), .val (.int a2), .val (.int b1)] rfl ?_
      refine Own.aloadN W8 d7_26 27 rfl (.ref y) rfl rfl ?_
      refine Own.iloadN W8 d7_27 28 rfl (2 : Int32) rfl ?_
      refine Own.callV W8 (tw hw 68 rfl) (tw hw 69 rfl) (fun s q => notFace_of_selects (args := #[]) (mvT (s := s) q (tw hw 71 rfl))) (tw hw 71 rfl) (tw hw 70 rfl) (by decide) (argsL := [(.int (2 : Int32))]) (rest := []) (payChU2 hw hEL hmem hS hcz SF rfm TA TH TL W8 Sy (Nat.le_of_ble_eq_true rfl) (len := 3) (wd := 0) (by decide) (by decide)) Ey rfl (lenOf pd_16 rfl) rfl (Nat.le_of_ble_eq_true rfl) d7_28 31 rfl 0 0 (Nat.le_of_ble_eq_true rfl) (Nat.le_of_ble_eq_true rfl) (Nat.le_of_ble_eq_true rfl) (Nat.le_of_ble_eq_true rfl) ?_
      intro v9 T9 h9 u9 W9 R9 hq
      obtain ⟨rfl, eh9⟩ := hq
      have ei9 := eh9.symm; subst ei9
      show Own.Go _ _ _ _ _ 31 #[.val (.ref x), .val (.ref y), .val (.int (3 : Int32)), .val (.int (2 : Int32)), .val (.int a2), .val (.int b1)] [(.int b2)]
      refine Own.istore W9 d7_31 33 rfl #[.val (.ref x), .val (.ref y), .val (.int (3 : Int32)), .val (.int (2 : Int32)), .val (.int a2), .val (.int b2)] rfl ?_
      refine Own.iload W9 d7_33 35 rfl a2 rfl ?_
      refine Own.iload W9 d7_35 37 rfl b2 rfl ?_
      by_cases e2 : a2 = b2
      · skip
        refine Own.icmpYes W9 d7_37 52 (XT.ii_eq_t e2) (by decide) (by decide) ?_
        refine Own.iinc W9 d7_52 55 rfl rfl #[.val (.ref x), .val (.ref y), .val (.int (3 : Int32)), .val (.int (3 : Int32)), .val (.int a2), .val (.int b2)] rfl ?_
        refine Own.goto W9 d7_55 14 (by decide) (by decide) ?_
        refine Own.iloadN W9 d7_14 15 rfl (3 : Int32) rfl ?_
        refine Own.iloadN W9 d7_15 16 rfl (3 : Int32) rfl ?_
        refine Own.icmpYes W9 d7_16 58 (by decide) (by decide) (by decide) ?_
        refine Own.aloadN W9 d7_58 59 rfl (.ref x) rfl rfl ?_
        refine Own.callV W9 (tw hw 36 rfl) (tw hw 37 rfl) (fun s q => notFace_of_selects (args := #[]) (mvT (s := s) q (tw hw 39 rfl))) (tw hw 39 rfl) (tw hw 38 rfl) (by decide) (argsL := []) (rest := []) (Own.payLenU (wL hw) (kI := 4) (tw hw 5 rfl) W9 Sx hS hcz (len := 3) (wd := 0) (by decide) (by decide)) Ex rfl (lenOf pd_14 rfl) rfl (Nat.le_of_ble_eq_true rfl) d7_59 62 rfl 0 0 (Nat.le_of_ble_eq_true rfl) (Nat.le_of_ble_eq_true rfl) (Nat.le_of_ble_eq_true rfl) (Nat.le_of_ble_eq_true rfl) ?_
        intro v10 T10 h10 u10 W10 R10 hq
        obtain ⟨rfl, eh10⟩ := hq
        have ei10 := eh10.symm; subst ei10
        show Own.Go _ _ _ _ _ 62 #[.val (.ref x), .val (.ref y), .val (.int (3 : Int32)), .val (.int (3 : Int32)), .val (.int a2), .val (.int b2)] [(.int (3 : Int32))]
        refine Own.aloadN W10 d7_62 63 rfl (.ref y) rfl rfl ?_
        refine Own.callV W10 (tw hw 36 rfl) (tw hw 37 rfl) (fun s q => notFace_of_selects (args := #[]) (mvT (s := s) q (tw hw 39 rfl))) (tw hw 39 rfl) (tw hw 38 rfl) (by decide) (argsL := []) (rest := [(.int (3 : Int32))]) (Own.payLenU (wL hw) (kI := 4) (tw hw 5 rfl) W10 Sy hS hcz (len := 3) (wd := 1) (by decide) (by decide)) Ey rfl (lenOf pd_14 rfl) rfl (Nat.le_of_ble_eq_true rfl) d7_63 66 rfl 0 0 (Nat.le_of_ble_eq_true rfl) (Nat.le_of_ble_eq_true rfl) (Nat.le_of_ble_eq_true rfl) (Nat.le_of_ble_eq_true rfl) ?_
        intro v11 T11 h11 u11 W11 R11 hq
        obtain ⟨rfl, eh11⟩ := hq
        have ei11 := eh11.symm; subst ei11
        show Own.Go _ _ _ _ _ 66 #[.val (.ref x), .val (.ref y), .val (.int (3 : Int32)), .val (.int (3 : Int32)), .val (.int a2), .val (.int b2)] [(.int (3 : Int32)), (.int (3 : Int32))]
        refine Own.isub W11 d7_66 67 rfl ?_
        show Own.Go _ _ _ _ _ 67 #[.val (.ref x), .val (.ref y), .val (.int (3 : Int32)), .val (.int (3 : Int32)), .val (.int a2), .val (.int b2)] [(.int (0 : Int32))]
        exact Own.retI W11 (by decide) (by decide) rfl d7_67 ⟨by rw [cmp_eq e0, cmp_eq e1, cmp_eq e2, cmp_end (Or.inl rfl)], rfl⟩
      · skip
        refine Own.icmpNo W9 d7_37 40 (XT.ii_eq_f e2) rfl ?_
        refine Own.iload W9 d7_40 42 rfl a2 rfl ?_
        refine Own.callS W9 (tw hw 90 rfl) (tw hw 91 rfl) (tw hw 34 rfl) (tw hw 92 rfl) (by decide) (argsL := [(.int a2)]) (rest := []) (Own.Con.pay (con_rnk hw hEL a2 W9.old) W9 (tw hw 92 rfl) (tw hw 34 rfl) (len := 3) (wd := 0) (by decide) (by decide) (fun _ q => nomatch q)) rfl (lenOf pd_13 rfl) rfl (Nat.le_of_ble_eq_true rfl) d7_42 45 rfl 0 0 (Nat.le_of_ble_eq_true rfl) (Nat.le_of_ble_eq_true rfl) (Nat.le_of_ble_eq_true rfl) (Nat.le_of_ble_eq_true rfl) ?_
        intro v12 T12 h12 u12 W12 R12 hq
        obtain ⟨rfl, eh12⟩ := hq
        have ei12 := eh12.symm; subst ei12
        show Own.Go _ _ _ _ _ 45 #[.val (.ref x), .val (.ref y), .val (.int (3 : Int32)), .val (.int (2 : Int32)), .val (.int a2), .val (.int b2)] [(.int (rank a2))]
        refine Own.iload W12 d7_45 47 rfl b2 rfl ?_
        refine Own.callS W12 (tw hw 90 rfl) (tw hw 91 rfl) (tw hw 34 rfl) (tw hw 92 rfl) (by decide) (argsL := [(.int b2)]) (rest := [(.int (rank a2))]) (Own.Con.pay (con_rnk hw hEL b2 W12.old) W12 (tw hw 92 rfl) (tw hw 34 rfl) (len := 3) (wd := 1) (by decide) (by decide) (fun _ q => nomatch q)) rfl (lenOf pd_13 rfl) rfl (Nat.le_of_ble_eq_true rfl) d7_47 50 rfl 0 0 (Nat.le_of_ble_eq_true rfl) (Nat.le_of_ble_eq_true rfl) (Nat.le_of_ble_eq_true rfl) (Nat.le_of_ble_eq_true rfl) ?_
        intro v13 T13 h13 u13 W13 R13 hq
        obtain ⟨rfl, eh13⟩ := hq
        have ei13 := eh13.symm; subst ei13
        show Own.Go _ _ _ _ _ 50 #[.val (.ref x), .val (.ref y), .val (.int (3 : Int32)), .val (.int (2 : Int32)), .val (.int a2), .val (.int b2)] [(.int (rank b2)), (.int (rank a2))]
        refine Own.isub W13 d7_50 51 rfl ?_
        exact Own.retI W13 (by decide) (by decide) rfl d7_51 ⟨by rw [cmp_eq e0, cmp_eq e1, cmp_ne e2], rfl⟩
    · skip
      refine Own.icmpNo W7 d7_37 40 (XT.ii_eq_f e1) rfl ?_
      refine Own.iload W7 d7_40 42 rfl a1 rfl ?_
      refine Own.callS W7 (tw hw 90 rfl) (tw hw 91 rfl) (tw hw 34 rfl) (tw hw 92 rfl) (by decide) (argsL := [(.int a1)]) (rest := []) (Own.Con.pay (con_rnk hw hEL a1 W7.old) W7 (tw hw 92 rfl) (tw hw 34 rfl) (len := 3) (wd := 0) (by decide) (by decide) (fun _ q => nomatch q)) rfl (lenOf pd_13 rfl) rfl (Nat.le_of_ble_eq_true rfl) d7_42 45 rfl 0 0 (Nat.le_of_ble_eq_true rfl) (Nat.le_of_ble_eq_true rfl) (Nat.le_of_ble_eq_true rfl) (Nat.le_of_ble_eq_true rfl) ?_
      intro v14 T14 h14 u14 W14 R14 hq
      obtain ⟨rfl, eh14⟩ := hq
      have ei14 := eh14.symm; subst ei14
      show Own.Go _ _ _ _ _ 45 #[.val (.ref x), .val (.ref y), .val (.int (3 : Int32)), .val (.int (1 : Int32)), .val (.int a1), .val (.int b1)] [(.int (rank a1))]
      refine Own.iload W14 d7_45 47 rfl b1 rfl ?_
      refine Own.callS W14 (tw hw 90 rfl) (tw hw 91 rfl) (tw hw 34 rfl) (tw hw 92 rfl) (by decide) (argsL := [(.int b1)]) (rest := [(.int (rank a1))]) (Own.Con.pay (con_rnk hw hEL b1 W14.old) W14 (tw hw 92 rfl) (tw hw 34 rfl) (len := 3) (wd := 1) (by decide) (by decide) (fun _ q => nomatch q)) rfl (lenOf pd_13 rfl) rfl (Nat.le_of_ble_eq_true rfl) d7_47 50 rfl 0 0 (Nat.le_of_ble_eq_true rfl) (Nat.le_of_ble_eq_true rfl) (Nat.le_of_ble_eq_true rfl) (Nat.le_of_ble_eq_true rfl) ?_
      intro v15 T15 h15 u15 W15 R15 hq
      obtain ⟨rfl, eh15⟩ := hq
      have ei15 := eh15.symm; subst ei15
      show Own.Go _ _ _ _ _ 50 #[.val (.ref x), .val (.ref y), .val (.int (3 : Int32)), .val (.int (1 : Int32)), .val (.int a1), .val (.int b1)] [(.int (rank b1)), (.int (rank a1))]
      refine Own.isub W15 d7_50 51 rfl ?_
      exact Own.retI W15 (by decide) (by decide) rfl d7_51 ⟨by rw [cmp_eq e0, cmp_ne e1], rfl⟩
  · skip
    refine Own.icmpNo W5 d7_37 40 (XT.ii_eq_f e0) rfl ?_
    refine Own.iload W5 d7_40 42 rfl a0 rfl ?_
    refine Own.callS W5 (tw hw 90 rfl) (tw hw 91 rfl) (tw hw 34 rfl) (tw hw 92 rfl) (by decide) (argsL := [(.int a0)]) (rest := []) (Own.Con.pay (con_rnk hw hEL a0 W5.old) W5 (tw hw 92 rfl) (tw hw 34 rfl) (len := 3) (wd := 0) (by decide) (by decide) (fun _ q => nomatch q)) rfl (lenOf pd_13 rfl) rfl (Nat.le_of_ble_eq_true rfl) d7_42 45 rfl 0 0 (Nat.le_of_ble_eq_true rfl) (Nat.le_of_ble_eq_true rfl) (Nat.le_of_ble_eq_true rfl) (Nat.le_of_ble_eq_true rfl) ?_
    intro v16 T16 h16 u16 W16 R16 hq
    obtain ⟨rfl, eh16⟩ := hq
    have ei16 := eh16.symm; subst ei16
    show Own.Go _ _ _ _ _ 45 #[.val (.ref x), .val (.ref y), .val (.int (3 : Int32)), .val (.int (0 : Int32)), .val (.int a0), .val (.int b0)] [(.int (rank a0))]
    refine Own.iload W16 d7_45 47 rfl b0 rfl ?_
    refine Own.callS W16 (tw hw 90 rfl) (tw hw 91 rfl) (tw hw 34 rfl) (tw hw 92 rfl) (by decide) (argsL := [(.int b0)]) (rest := [(.int (rank a0))]) (Own.Con.pay (con_rnk hw hEL b0 W16.old) W16 (tw hw 92 rfl) (tw hw 34 rfl) (len := 3) (wd := 1) (by decide) (by decide) (fun _ q => nomatch q)) rfl (lenOf pd_13 rfl) rfl (Nat.le_of_ble_eq_true rfl) d7_47 50 rfl 0 0 (Nat.le_of_ble_eq_true rfl) (Nat.le_of_ble_eq_true rfl) (Nat.le_of_ble_eq_true rfl) (Nat.le_of_ble_eq_true rfl) ?_
    intro v17 T17 h17 u17 W17 R17 hq
    obtain ⟨rfl, eh17⟩ := hq
    have ei17 := eh17.symm; subst ei17
    show Own.Go _ _ _ _ _ 50 #[.val (.ref x), .val (.ref y), .val (.int (3 : Int32)), .val (.int (0 : Int32)), .val (.int a0), .val (.int b0)] [(.int (rank b0)), (.int (rank a0))]
    refine Own.isub W17 d7_50 51 rfl ?_
    exact Own.retI W17 (by decide) (by decide) rfl d7_51 ⟨by rw [cmp_ne e0], rfl⟩
set_option maxRecDepth 65536 in
set_option maxHeartbeats 40000000 in
theorem con_ref00 {G : Own.Gl} (hw : ∀ d ∈ tables_1, d.before G.a0 G.Z = true) (hEL : EW G.Z G.a0 G.EL) {la lb : Int32} (hla : la = 0) (hlb : lb = 0) (a0 a1 a2 b0 b1 b2 : Int32) {h : Heap} (hO : Old G.Z G.n0 h) :
    Own.Con G [] bRef00 #[.int la, .int a0, .int a1, .int a2, .int lb, .int b0, .int b1, .int b2] h [] (fun v h' => v = some (.int (refF [] [] (sgn (0 : Int32)))) ∧ h' = h) := by
  refine Own.Con.intro (plainFor_of_name pn_3) hO hEL _ (fun m => ef_bRef00 m la a0 a1 a2 lb b0 b1 b2) ?_
  intro X T0 W0 sf
  subst hla; subst hlb
  refine Own.iloadN W0 d5_0 1 rfl (0 : Int32) rfl ?_
  refine Own.ifYes W0 d5_1 22 (by decide) (by decide) (by decide) ?_
  refine Own.iloadN W0 d5_22 23 rfl (0 : Int32) rfl ?_
  refine Own.iconst W0 d5_23 24 rfl (1 : Int32) rfl ?_
  refine Own.icmpYes W0 d5_24 46 (by decide) (by decide) (by decide) ?_
  refine Own.iloadN W0 d5_46 47 rfl (0 : Int32) rfl ?_
  refine Own.iconst W0 d5_47 48 rfl (2 : Int32) rfl ?_
  refine Own.icmpYes W0 d5_48 70 (by decide) (by decide) (by decide) ?_
  refine Own.iloadN W0 d5_70 71 rfl (0 : Int32) rfl ?_
  refine Own.iload W0 d5_71 73 rfl (0 : Int32) rfl ?_
  refine Own.isub W0 d5_73 74 rfl ?_
  show Own.Go _ _ _ _ _ 74 #[.val (.int (0 : Int32)), .val (.int a0), .val (.int a1), .val (.int a2), .val (.int (0 : Int32)), .val (.int b0), .val (.int b1), .val (.int b2)] [(.int (0 : Int32))]
  refine Own.callS W0 (tw hw 29 rfl) (tw hw 30 rfl) (tw hw 2 rfl) (tw hw 31 rfl) (by decide) (argsL := [(.int (0 : Int32))]) (rest := []) (Own.Con.pay (con_sgn hw hEL (0 : Int32) W0.old) W0 (tw hw 31 rfl) (tw hw 2 rfl) (len := 3) (wd := 0) (by decide) (by decide) (fun _ q => nomatch q)) rfl (lenOf pd_0 rfl) rfl (Nat.le_of_ble_eq_true rfl) d5_74 77 rfl 0 0 (Nat.le_of_ble_eq_true rfl) (Nat.le_of_ble_eq_true rfl) (Nat.le_of_ble_eq_true rfl) (Nat.le_of_ble_eq_true rfl) ?_
  intro v1 T1 h1 u1 W1 R1 hq
  obtain ⟨rfl, eh1⟩ := hq
  have ei1 := eh1.symm; subst ei1
  show Own.Go _ _ _ _ _ 77 #[.val (.int (0 : Int32)), .val (.int a0), .val (.int a1), .val (.int a2), .val (.int (0 : Int32)), .val (.int b0), .val (.int b1), .val (.int b2)] [(.int (sgn (0 : Int32)))]
  exact Own.retI W1 (by decide) (by decide) rfl d5_77 ⟨by rw [ref_end (Or.inl rfl)], rfl⟩
set_option maxRecDepth 65536 in
set_option maxHeartbeats 40000000 in
theorem con_ref01 {G : Own.Gl} (hw : ∀ d ∈ tables_1, d.before G.a0 G.Z = true) (hEL : EW G.Z G.a0 G.EL) {la lb : Int32} (hla : la = 0) (hlb : lb = 1) (a0 a1 a2 b0 b1 b2 : Int32) {h : Heap} (hO : Old G.Z G.n0 h) :
    Own.Con G [] bRef01 #[.int la, .int a0, .int a1, .int a2, .int lb, .int b0, .int b1, .int b2] h [] (fun v h' => v = some (.int (refF [] [b0] (sgn (-1 : Int32)))) ∧ h' = h) := by
  refine Own.Con.intro (plainFor_of_name pn_3) hO hEL _ (fun m => ef_bRef01 m la a0 a1 a2 lb b0 b1 b2) ?_
  intro X T0 W0 sf
  subst hla; subst hlb
  refine Own.iloadN W0 d5_0 1 rfl (0 : Int32) rfl ?_
  refine Own.ifYes W0 d5_1 22 (by decide) (by decide) (by decide) ?_
  refine Own.iloadN W0 d5_22 23 rfl (0 : Int32) rfl ?_
  refine Own.iconst W0 d5_23 24 rfl (1 : Int32) rfl ?_
  refine Own.icmpYes W0 d5_24 46 (by decide) (by decide) (by decide) ?_
  refine Own.iloadN W0 d5_46 47 rfl (0 : Int32) rfl ?_
  refine Own.iconst W0 d5_47 48 rfl (2 : Int32) rfl ?_
  refine Own.icmpYes W0 d5_48 70 (by decide) (by decide) (by decide) ?_
  refine Own.iloadN W0 d5_70 71 rfl (0 : Int32) rfl ?_
  refine Own.iload W0 d5_71 73 rfl (1 : Int32) rfl ?_
  refine Own.isub W0 d5_73 74 rfl ?_
  show Own.Go _ _ _ _ _ 74 #[.val (.int (0 : Int32)), .val (.int a0), .val (.int a1), .val (.int a2), .val (.int (1 : Int32)), .val (.int b0), .val (.int b1), .val (.int b2)] [(.int (-1 : Int32))]
  refine Own.callS W0 (tw hw 29 rfl) (tw hw 30 rfl) (tw hw 2 rfl) (tw hw 31 rfl) (by decide) (argsL := [(.int (-1 : Int32))]) (rest := []) (Own.Con.pay (con_sgn hw hEL (-1 : Int32) W0.old) W0 (tw hw 31 rfl) (tw hw 2 rfl) (len := 3) (wd := 0) (by decide) (by decide) (fun _ q => nomatch q)) rfl (lenOf pd_0 rfl) rfl (Nat.le_of_ble_eq_true rfl) d5_74 77 rfl 0 0 (Nat.le_of_ble_eq_true rfl) (Nat.le_of_ble_eq_true rfl) (Nat.le_of_ble_eq_true rfl) (Nat.le_of_ble_eq_true rfl) ?_
  intro v1 T1 h1 u1 W1 R1 hq
  obtain ⟨rfl, eh1⟩ := hq
  have ei1 := eh1.symm; subst ei1
  show Own.Go _ _ _ _ _ 77 #[.val (.int (0 : Int32)), .val (.int a0), .val (.int a1), .val (.int a2), .val (.int (1 : Int32)), .val (.int b0), .val (.int b1), .val (.int b2)] [(.int (sgn (-1 : Int32)))]
  exact Own.retI W1 (by decide) (by decide) rfl d5_77 ⟨by rw [ref_end (Or.inl rfl)], rfl⟩
set_option maxRecDepth 65536 in
set_option maxHeartbeats 40000000 in
theorem con_ref02 {G : Own.Gl} (hw : ∀ d ∈ tables_1, d.before G.a0 G.Z = true) (hEL : EW G.Z G.a0 G.EL) {la lb : Int32} (hla : la = 0) (hlb : lb = 2) (a0 a1 a2 b0 b1 b2 : Int32) {h : Heap} (hO : Old G.Z G.n0 h) :
    Own.Con G [] bRef02 #[.int la, .int a0, .int a1, .int a2, .int lb, .int b0, .int b1, .int b2] h [] (fun v h' => v = some (.int (refF [] [b0, b1] (sgn (-2 : Int32)))) ∧ h' = h) := by
  refine Own.Con.intro (plainFor_of_name pn_3) hO hEL _ (fun m => ef_bRef02 m la a0 a1 a2 lb b0 b1 b2) ?_
  intro X T0 W0 sf
  subst hla; subst hlb
  refine Own.iloadN W0 d5_0 1 rfl (0 : Int32) rfl ?_
  refine Own.ifYes W0 d5_1 22 (by decide) (by decide) (by decide) ?_
  refine Own.iloadN W0 d5_22 23 rfl (0 : Int32) rfl ?_
  refine Own.iconst W0 d5_23 24 rfl (1 : Int32) rfl ?_
  refine Own.icmpYes W0 d5_24 46 (by decide) (by decide) (by decide) ?_
  refine Own.iloadN W0 d5_46 47 rfl (0 : Int32) rfl ?_
  refine Own.iconst W0 d5_47 48 rfl (2 : Int32) rfl ?_
  refine Own.icmpYes W0 d5_48 70 (by decide) (by decide) (by decide) ?_
  refine Own.iloadN W0 d5_70 71 rfl (0 : Int32) rfl ?_
  refine Own.iload W0 d5_71 73 rfl (2 : Int32) rfl ?_
  refine Own.isub W0 d5_73 74 rfl ?_
  show Own.Go _ _ _ _ _ 74 #[.val (.int (0 : Int32)), .val (.int a0), .val (.int a1), .val (.int a2), .val (.int (2 : Int32)), .val (.int b0), .val (.int b1), .val (.int b2)] [(.int (-2 : Int32))]
  refine Own.callS W0 (tw hw 29 rfl) (tw hw 30 rfl) (tw hw 2 rfl) (tw hw 31 rfl) (by decide) (argsL := [(.int (-2 : Int32))]) (rest := []) (Own.Con.pay (con_sgn hw hEL (-2 : Int32) W0.old) W0 (tw hw 31 rfl) (tw hw 2 rfl) (len := 3) (wd := 0) (by decide) (by decide) (fun _ q => nomatch q)) rfl (lenOf pd_0 rfl) rfl (Nat.le_of_ble_eq_true rfl) d5_74 77 rfl 0 0 (Nat.le_of_ble_eq_true rfl) (Nat.le_of_ble_eq_true rfl) (Nat.le_of_ble_eq_true rfl) (Nat.le_of_ble_eq_true rfl) ?_
  intro v1 T1 h1 u1 W1 R1 hq
  obtain ⟨rfl, eh1⟩ := hq
  have ei1 := eh1.symm; subst ei1
  show Own.Go _ _ _ _ _ 77 #[.val (.int (0 : Int32)), .val (.int a0), .val (.int a1), .val (.int a2), .val (.int (2 : Int32)), .val (.int b0), .val (.int b1), .val (.int b2)] [(.int (sgn (-2 : Int32)))]
  exact Own.retI W1 (by decide) (by decide) rfl d5_77 ⟨by rw [ref_end (Or.inl rfl)], rfl⟩
set_option maxRecDepth 65536 in
set_option maxHeartbeats 40000000 in
theorem con_ref03 {G : Own.Gl} (hw : ∀ d ∈ tables_1, d.before G.a0 G.Z = true) (hEL : EW G.Z G.a0 G.EL) {la lb : Int32} (hla : la = 0) (hlb : lb = 3) (a0 a1 a2 b0 b1 b2 : Int32) {h : Heap} (hO : Old G.Z G.n0 h) :
    Own.Con G [] bRef03 #[.int la, .int a0, .int a1, .int a2, .int lb, .int b0, .int b1, .int b2] h [] (fun v h' => v = some (.int (refF [] [b0, b1, b2] (sgn (-3 : Int32)))) ∧ h' = h) := by
  refine Own.Con.intro (plainFor_of_name pn_3) hO hEL _ (fun m => ef_bRef03 m la a0 a1 a2 lb b0 b1 b2) ?_
  intro X T0 W0 sf
  subst hla; subst hlb
  refine Own.iloadN W0 d5_0 1 rfl (0 : Int32) rfl ?_
  refine Own.ifYes W0 d5_1 22 (by decide) (by decide) (by decide) ?_
  refine Own.iloadN W0 d5_22 23 rfl (0 : Int32) rfl ?_
  refine Own.iconst W0 d5_23 24 rfl (1 : Int32) rfl ?_
  refine Own.icmpYes W0 d5_24 46 (by decide) (by decide) (by decide) ?_
  refine Own.iloadN W0 d5_46 47 rfl (0 : Int32) rfl ?_
  refine Own.iconst W0 d5_47 48 rfl (2 : Int32) rfl ?_
  refine Own.icmpYes W0 d5_48 70 (by decide) (by decide) (by decide) ?_
  refine Own.iloadN W0 d5_70 71 rfl (0 : Int32) rfl ?_
  refine Own.iload W0 d5_71 73 rfl (3 : Int32) rfl ?_
  refine Own.isub W0 d5_73 74 rfl ?_
  show Own.Go _ _ _ _ _ 74 #[.val (.int (0 : Int32)), .val (.int a0), .val (.int a1), .val (.int a2), .val (.int (3 : Int32)), .val (.int b0), .val (.int b1), .val (.int b2)] [(.int (-3 : Int32))]
  refine Own.callS W0 (tw hw 29 rfl) (tw hw 30 rfl) (tw hw 2 rfl) (tw hw 31 rfl) (by decide) (argsL := [(.int (-3 : Int32))]) (rest := []) (Own.Con.pay (con_sgn hw hEL (-3 : Int32) W0.old) W0 (tw hw 31 rfl) (tw hw 2 rfl) (len := 3) (wd := 0) (by decide) (by decide) (fun _ q => nomatch q)) rfl (lenOf pd_0 rfl) rfl (Nat.le_of_ble_eq_true rfl) d5_74 77 rfl 0 0 (Nat.le_of_ble_eq_true rfl) (Nat.le_of_ble_eq_true rfl) (Nat.le_of_ble_eq_true rfl) (Nat.le_of_ble_eq_true rfl) ?_
  intro v1 T1 h1 u1 W1 R1 hq
  obtain ⟨rfl, eh1⟩ := hq
  have ei1 := eh1.symm; subst ei1
  show Own.Go _ _ _ _ _ 77 #[.val (.int (0 : Int32)), .val (.int a0), .val (.int a1), .val (.int a2), .val (.int (3 : Int32)), .val (.int b0), .val (.int b1), .val (.int b2)] [(.int (sgn (-3 : Int32)))]
  exact Own.retI W1 (by decide) (by decide) rfl d5_77 ⟨by rw [ref_end (Or.inl rfl)], rfl⟩
set_option maxRecDepth 65536 in
set_option maxHeartbeats 40000000 in
theorem con_ref10 {G : Own.Gl} (hw : ∀ d ∈ tables_1, d.before G.a0 G.Z = true) (hEL : EW G.Z G.a0 G.EL) {la lb : Int32} (hla : la = 1) (hlb : lb = 0) (a0 a1 a2 b0 b1 b2 : Int32) {h : Heap} (hO : Old G.Z G.n0 h) :
    Own.Con G [] bRef10 #[.int la, .int a0, .int a1, .int a2, .int lb, .int b0, .int b1, .int b2] h [] (fun v h' => v = some (.int (refF [a0] [] (sgn (1 : Int32)))) ∧ h' = h) := by
  refine Own.Con.intro (plainFor_of_name pn_3) hO hEL _ (fun m => ef_bRef10 m la a0 a1 a2 lb b0 b1 b2) ?_
  intro X T0 W0 sf
  subst hla; subst hlb
  refine Own.iloadN W0 d5_0 1 rfl (1 : Int32) rfl ?_
  refine Own.ifNo W0 d5_1 4 (by decide) rfl ?_
  refine Own.iload W0 d5_4 6 rfl (0 : Int32) rfl ?_
  refine Own.ifYes W0 d5_6 22 (by decide) (by decide) (by decide) ?_
  refine Own.iloadN W0 d5_22 23 rfl (1 : Int32) rfl ?_
  refine Own.iconst W0 d5_23 24 rfl (1 : Int32) rfl ?_
  refine Own.icmpYes W0 d5_24 46 (by decide) (by decide) (by decide) ?_
  refine Own.iloadN W0 d5_46 47 rfl (1 : Int32) rfl ?_
  refine Own.iconst W0 d5_47 48 rfl (2 : Int32) rfl ?_
  refine Own.icmpYes W0 d5_48 70 (by decide) (by decide) (by decide) ?_
  refine Own.iloadN W0 d5_70 71 rfl (1 : Int32) rfl ?_
  refine Own.iload W0 d5_71 73 rfl (0 : Int32) rfl ?_
  refine Own.isub W0 d5_73 74 rfl ?_
  show Own.Go _ _ _ _ _ 74 #[.val (.int (1 : Int32)), .val (.int a0), .val (.int a1), .val (.int a2), .val (.int (0 : Int32)), .val (.int b0), .val (.int b1), .val (.int b2)] [(.int (1 : Int32))]
  refine Own.callS W0 (tw hw 29 rfl) (tw hw 30 rfl) (tw hw 2 rfl) (tw hw 31 rfl) (by decide) (argsL := [(.int (1 : Int32))]) (rest := []) (Own.Con.pay (con_sgn hw hEL (1 : Int32) W0.old) W0 (tw hw 31 rfl) (tw hw 2 rfl) (len := 3) (wd := 0) (by decide) (by decide) (fun _ q => nomatch q)) rfl (lenOf pd_0 rfl) rfl (Nat.le_of_ble_eq_true rfl) d5_74 77 rfl 0 0 (Nat.le_of_ble_eq_true rfl) (Nat.le_of_ble_eq_true rfl) (Nat.le_of_ble_eq_true rfl) (Nat.le_of_ble_eq_true rfl) ?_
  intro v1 T1 h1 u1 W1 R1 hq
  obtain ⟨rfl, eh1⟩ := hq
  have ei1 := eh1.symm; subst ei1
  show Own.Go _ _ _ _ _ 77 #[.val (.int (1 : Int32)), .val (.int a0), .val (.int a1), .val (.int a2), .val (.int (0 : Int32)), .val (.int b0), .val (.int b1), .val (.int b2)] [(.int (sgn (1 : Int32)))]
  exact Own.retI W1 (by decide) (by decide) rfl d5_77 ⟨by rw [ref_end (Or.inr rfl)], rfl⟩
set_option maxRecDepth 65536 in
set_option maxHeartbeats 40000000 in
theorem con_ref11 {G : Own.Gl} (hw : ∀ d ∈ tables_1, d.before G.a0 G.Z = true) (hEL : EW G.Z G.a0 G.EL) {la lb : Int32} (hla : la = 1) (hlb : lb = 1) (a0 a1 a2 b0 b1 b2 : Int32) {h : Heap} (hO : Old G.Z G.n0 h) :
    Own.Con G [] bRef11 #[.int la, .int a0, .int a1, .int a2, .int lb, .int b0, .int b1, .int b2] h [] (fun v h' => v = some (.int (refF [a0] [b0] (sgn (0 : Int32)))) ∧ h' = h) := by
  refine Own.Con.intro (plainFor_of_name pn_3) hO hEL _ (fun m => ef_bRef11 m la a0 a1 a2 lb b0 b1 b2) ?_
  intro X T0 W0 sf
  subst hla; subst hlb
  refine Own.iloadN W0 d5_0 1 rfl (1 : Int32) rfl ?_
  refine Own.ifNo W0 d5_1 4 (by decide) rfl ?_
  refine Own.iload W0 d5_4 6 rfl (1 : Int32) rfl ?_
  refine Own.ifNo W0 d5_6 9 (by decide) rfl ?_
  refine Own.iloadN W0 d5_9 10 rfl a0 rfl ?_
  refine Own.iload W0 d5_10 12 rfl b0 rfl ?_
  by_cases e0 : a0 = b0
  · skip
    refine Own.icmpYes W0 d5_12 22 (XT.ii_eq_t e0) (by decide) (by decide) ?_
    refine Own.iloadN W0 d5_22 23 rfl (1 : Int32) rfl ?_
    refine Own.iconst W0 d5_23 24 rfl (1 : Int32) rfl ?_
    refine Own.icmpYes W0 d5_24 46 (by decide) (by decide) (by decide) ?_
    refine Own.iloadN W0 d5_46 47 rfl (1 : Int32) rfl ?_
    refine Own.iconst W0 d5_47 48 rfl (2 : Int32) rfl ?_
    refine Own.icmpYes W0 d5_48 70 (by decide) (by decide) (by decide) ?_
    refine Own.iloadN W0 d5_70 71 rfl (1 : Int32) rfl ?_
    refine Own.iload W0 d5_71 73 rfl (1 : Int32) rfl ?_
    refine Own.isub W0 d5_73 74 rfl ?_
    show Own.Go _ _ _ _ _ 74 #[.val (.int (1 : Int32)), .val (.int a0), .val (.int a1), .val (.int a2), .val (.int (1 : Int32)), .val (.int b0), .val (.int b1), .val (.int b2)] [(.int (0 : Int32))]
    refine Own.callS W0 (tw hw 29 rfl) (tw hw 30 rfl) (tw hw 2 rfl) (tw hw 31 rfl) (by decide) (argsL := [(.int (0 : Int32))]) (rest := []) (Own.Con.pay (con_sgn hw hEL (0 : Int32) W0.old) W0 (tw hw 31 rfl) (tw hw 2 rfl) (len := 3) (wd := 0) (by decide) (by decide) (fun _ q => nomatch q)) rfl (lenOf pd_0 rfl) rfl (Nat.le_of_ble_eq_true rfl) d5_74 77 rfl 0 0 (Nat.le_of_ble_eq_true rfl) (Nat.le_of_ble_eq_true rfl) (Nat.le_of_ble_eq_true rfl) (Nat.le_of_ble_eq_true rfl) ?_
    intro v1 T1 h1 u1 W1 R1 hq
    obtain ⟨rfl, eh1⟩ := hq
    have ei1 := eh1.symm; subst ei1
    show Own.Go _ _ _ _ _ 77 #[.val (.int (1 : Int32)), .val (.int a0), .val (.int a1), .val (.int a2), .val (.int (1 : Int32)), .val (.int b0), .val (.int b1), .val (.int b2)] [(.int (sgn (0 : Int32)))]
    exact Own.retI W1 (by decide) (by decide) rfl d5_77 ⟨by rw [ref_eq e0, ref_end (Or.inl rfl)], rfl⟩
  · skip
    refine Own.icmpNo W0 d5_12 15 (XT.ii_eq_f e0) rfl ?_
    refine Own.iloadN W0 d5_15 16 rfl a0 rfl ?_
    refine Own.iload W0 d5_16 18 rfl b0 rfl ?_
    refine Own.callS W0 (tw hw 61 rfl) (tw hw 62 rfl) (tw hw 2 rfl) (tw hw 63 rfl) (by decide) (argsL := [(.int a0), (.int b0)]) (rest := []) (Own.Con.pay (con_uo hw hEL a0 b0 W0.old) W0 (tw hw 63 rfl) (tw hw 2 rfl) (len := 3) (wd := 0) (by decide) (by decide) (fun _ q => nomatch q)) rfl (lenOf pd_17 rfl) rfl (Nat.le_of_ble_eq_true rfl) d5_18 21 rfl 0 0 (Nat.le_of_ble_eq_true rfl) (Nat.le_of_ble_eq_true rfl) (Nat.le_of_ble_eq_true rfl) (Nat.le_of_ble_eq_true rfl) ?_
    intro v2 T2 h2 u2 W2 R2 hq
    obtain ⟨rfl, eh2⟩ := hq
    have ei2 := eh2.symm; subst ei2
    show Own.Go _ _ _ _ _ 21 #[.val (.int (1 : Int32)), .val (.int a0), .val (.int a1), .val (.int a2), .val (.int (1 : Int32)), .val (.int b0), .val (.int b1), .val (.int b2)] [(.int (uo a0 b0))]
    exact Own.retI W2 (by decide) (by decide) rfl d5_21 ⟨by rw [ref_ne e0], rfl⟩
set_option maxRecDepth 65536 in
set_option maxHeartbeats 40000000 in
theorem con_ref12 {G : Own.Gl} (hw : ∀ d ∈ tables_1, d.before G.a0 G.Z = true) (hEL : EW G.Z G.a0 G.EL) {la lb : Int32} (hla : la = 1) (hlb : lb = 2) (a0 a1 a2 b0 b1 b2 : Int32) {h : Heap} (hO : Old G.Z G.n0 h) :
    Own.Con G [] bRef12 #[.int la, .int a0, .int a1, .int a2, .int lb, .int b0, .int b1, .int b2] h [] (fun v h' => v = some (.int (refF [a0] [b0, b1] (sgn (-1 : Int32)))) ∧ h' = h) := by
  refine Own.Con.intro (plainFor_of_name pn_3) hO hEL _ (fun m => ef_bRef12 m la a0 a1 a2 lb b0 b1 b2) ?_
  intro X T0 W0 sf
  subst hla; subst hlb
  refine Own.iloadN W0 d5_0 1 rfl (1 : Int32) rfl ?_
  refine Own.ifNo W0 d5_1 4 (by decide) rfl ?_
  refine Own.iload W0 d5_4 6 rfl (2 : Int32) rfl ?_
  refine Own.ifNo W0 d5_6 9 (by decide) rfl ?_
  refine Own.iloadN W0 d5_9 10 rfl a0 rfl ?_
  refine Own.iload W0 d5_10 12 rfl b0 rfl ?_
  by_cases e0 : a0 = b0
  · skip
    refine Own.icmpYes W0 d5_12 22 (XT.ii_eq_t e0) (by decide) (by decide) ?_
    refine Own.iloadN W0 d5_22 23 rfl (1 : Int32) rfl ?_
    refine Own.iconst W0 d5_23 24 rfl (1 : Int32) rfl ?_
    refine Own.icmpYes W0 d5_24 46 (by decide) (by decide) (by decide) ?_
    refine Own.iloadN W0 d5_46 47 rfl (1 : Int32) rfl ?_
    refine Own.iconst W0 d5_47 48 rfl (2 : Int32) rfl ?_
    refine Own.icmpYes W0 d5_48 70 (by decide) (by decide) (by decide) ?_
    refine Own.iloadN W0 d5_70 71 rfl (1 : Int32) rfl ?_
    refine Own.iload W0 d5_71 73 rfl (2 : Int32) rfl ?_
    refine Own.isub W0 d5_73 74 rfl ?_
    show Own.Go _ _ _ _ _ 74 #[.val (.int (1 : Int32)), .val (.int a0), .val (.int a1), .val (.int a2), .val (.int (2 : Int32)), .val (.int b0), .val (.int b1), .val (.int b2)] [(.int (-1 : Int32))]
    refine Own.callS W0 (tw hw 29 rfl) (tw hw 30 rfl) (tw hw 2 rfl) (tw hw 31 rfl) (by decide) (argsL := [(.int (-1 : Int32))]) (rest := []) (Own.Con.pay (con_sgn hw hEL (-1 : Int32) W0.old) W0 (tw hw 31 rfl) (tw hw 2 rfl) (len := 3) (wd := 0) (by decide) (by decide) (fun _ q => nomatch q)) rfl (lenOf pd_0 rfl) rfl (Nat.le_of_ble_eq_true rfl) d5_74 77 rfl 0 0 (Nat.le_of_ble_eq_true rfl) (Nat.le_of_ble_eq_true rfl) (Nat.le_of_ble_eq_true rfl) (Nat.le_of_ble_eq_true rfl) ?_
    intro v1 T1 h1 u1 W1 R1 hq
    obtain ⟨rfl, eh1⟩ := hq
    have ei1 := eh1.symm; subst ei1
    show Own.Go _ _ _ _ _ 77 #[.val (.int (1 : Int32)), .val (.int a0), .val (.int a1), .val (.int a2), .val (.int (2 : Int32)), .val (.int b0), .val (.int b1), .val (.int b2)] [(.int (sgn (-1 : Int32)))]
    exact Own.retI W1 (by decide) (by decide) rfl d5_77 ⟨by rw [ref_eq e0, ref_end (Or.inl rfl)], rfl⟩
  · skip
    refine Own.icmpNo W0 d5_12 15 (XT.ii_eq_f e0) rfl ?_
    refine Own.iloadN W0 d5_15 16 rfl a0 rfl ?_
    refine Own.iload W0 d5_16 18 rfl b0 rfl ?_
    refine Own.callS W0 (tw hw 61 rfl) (tw hw 62 rfl) (tw hw 2 rfl) (tw hw 63 rfl) (by decide) (argsL := [(.int a0), (.int b0)]) (rest := []) (Own.Con.pay (con_uo hw hEL a0 b0 W0.old) W0 (tw hw 63 rfl) (tw hw 2 rfl) (len := 3) (wd := 0) (by decide) (by decide) (fun _ q => nomatch q)) rfl (lenOf pd_17 rfl) rfl (Nat.le_of_ble_eq_true rfl) d5_18 21 rfl 0 0 (Nat.le_of_ble_eq_true rfl) (Nat.le_of_ble_eq_true rfl) (Nat.le_of_ble_eq_true rfl) (Nat.le_of_ble_eq_true rfl) ?_
    intro v2 T2 h2 u2 W2 R2 hq
    obtain ⟨rfl, eh2⟩ := hq
    have ei2 := eh2.symm; subst ei2
    show Own.Go _ _ _ _ _ 21 #[.val (.int (1 : Int32)), .val (.int a0), .val (.int a1), .val (.int a2), .val (.int (2 : Int32)), .val (.int b0), .val (.int b1), .val (.int b2)] [(.int (uo a0 b0))]
    exact Own.retI W2 (by decide) (by decide) rfl d5_21 ⟨by rw [ref_ne e0], rfl⟩
set_option maxRecDepth 65536 in
set_option maxHeartbeats 40000000 in
theorem con_ref13 {G : Own.Gl} (hw : ∀ d ∈ tables_1, d.before G.a0 G.Z = true) (hEL : EW G.Z G.a0 G.EL) {la lb : Int32} (hla : la = 1) (hlb : lb = 3) (a0 a1 a2 b0 b1 b2 : Int32) {h : Heap} (hO : Old G.Z G.n0 h) :
    Own.Con G [] bRef13 #[.int la, .int a0, .int a1, .int a2, .int lb, .int b0, .int b1, .int b2] h [] (fun v h' => v = some (.int (refF [a0] [b0, b1, b2] (sgn (-2 : Int32)))) ∧ h' = h) := by
  refine Own.Con.intro (plainFor_of_name pn_3) hO hEL _ (fun m => ef_bRef13 m la a0 a1 a2 lb b0 b1 b2) ?_
  intro X T0 W0 sf
  subst hla; subst hlb
  refine Own.iloadN W0 d5_0 1 rfl (1 : Int32) rfl ?_
  refine Own.ifNo W0 d5_1 4 (by decide) rfl ?_
  refine Own.iload W0 d5_4 6 rfl (3 : Int32) rfl ?_
  refine Own.ifNo W0 d5_6 9 (by decide) rfl ?_
  refine Own.iloadN W0 d5_9 10 rfl a0 rfl ?_
  refine Own.iload W0 d5_10 12 rfl b0 rfl ?_
  by_cases e0 : a0 = b0
  · skip
    refine Own.icmpYes W0 d5_12 22 (XT.ii_eq_t e0) (by decide) (by decide) ?_
    refine Own.iloadN W0 d5_22 23 rfl (1 : Int32) rfl ?_
    refine Own.iconst W0 d5_23 24 rfl (1 : Int32) rfl ?_
    refine Own.icmpYes W0 d5_24 46 (by decide) (by decide) (by decide) ?_
    refine Own.iloadN W0 d5_46 47 rfl (1 : Int32) rfl ?_
    refine Own.iconst W0 d5_47 48 rfl (2 : Int32) rfl ?_
    refine Own.icmpYes W0 d5_48 70 (by decide) (by decide) (by decide) ?_
    refine Own.iloadN W0 d5_70 71 rfl (1 : Int32) rfl ?_
    refine Own.iload W0 d5_71 73 rfl (3 : Int32) rfl ?_
    refine Own.isub W0 d5_73 74 rfl ?_
    show Own.Go _ _ _ _ _ 74 #[.val (.int (1 : Int32)), .val (.int a0), .val (.int a1), .val (.int a2), .val (.int (3 : Int32)), .val (.int b0), .val (.int b1), .val (.int b2)] [(.int (-2 : Int32))]
    refine Own.callS W0 (tw hw 29 rfl) (tw hw 30 rfl) (tw hw 2 rfl) (tw hw 31 rfl) (by decide) (argsL := [(.int (-2 : Int32))]) (rest := []) (Own.Con.pay (con_sgn hw hEL (-2 : Int32) W0.old) W0 (tw hw 31 rfl) (tw hw 2 rfl) (len := 3) (wd := 0) (by decide) (by decide) (fun _ q => nomatch q)) rfl (lenOf pd_0 rfl) rfl (Nat.le_of_ble_eq_true rfl) d5_74 77 rfl 0 0 (Nat.le_of_ble_eq_true rfl) (Nat.le_of_ble_eq_true rfl) (Nat.le_of_ble_eq_true rfl) (Nat.le_of_ble_eq_true rfl) ?_
    intro v1 T1 h1 u1 W1 R1 hq
    obtain ⟨rfl, eh1⟩ := hq
    have ei1 := eh1.symm; subst ei1
    show Own.Go _ _ _ _ _ 77 #[.val (.int (1 : Int32)), .val (.int a0), .val (.int a1), .val (.int a2), .val (.int (3 : Int32)), .val (.int b0), .val (.int b1), .val (.int b2)] [(.int (sgn (-2 : Int32)))]
    exact Own.retI W1 (by decide) (by decide) rfl d5_77 ⟨by rw [ref_eq e0, ref_end (Or.inl rfl)], rfl⟩
  · skip
    refine Own.icmpNo W0 d5_12 15 (XT.ii_eq_f e0) rfl ?_
    refine Own.iloadN W0 d5_15 16 rfl a0 rfl ?_
    refine Own.iload W0 d5_16 18 rfl b0 rfl ?_
    refine Own.callS W0 (tw hw 61 rfl) (tw hw 62 rfl) (tw hw 2 rfl) (tw hw 63 rfl) (by decide) (argsL := [(.int a0), (.int b0)]) (rest := []) (Own.Con.pay (con_uo hw hEL a0 b0 W0.old) W0 (tw hw 63 rfl) (tw hw 2 rfl) (len := 3) (wd := 0) (by decide) (by decide) (fun _ q => nomatch q)) rfl (lenOf pd_17 rfl) rfl (Nat.le_of_ble_eq_true rfl) d5_18 21 rfl 0 0 (Nat.le_of_ble_eq_true rfl) (Nat.le_of_ble_eq_true rfl) (Nat.le_of_ble_eq_true rfl) (Nat.le_of_ble_eq_true rfl) ?_
    intro v2 T2 h2 u2 W2 R2 hq
    obtain ⟨rfl, eh2⟩ := hq
    have ei2 := eh2.symm; subst ei2
    show Own.Go _ _ _ _ _ 21 #[.val (.int (1 : Int32)), .val (.int a0), .val (.int a1), .val (.int a2), .val (.int (3 : Int32)), .val (.int b0), .val (.int b1), .val (.int b2)] [(.int (uo a0 b0))]
    exact Own.retI W2 (by decide) (by decide) rfl d5_21 ⟨by rw [ref_ne e0], rfl⟩
set_option maxRecDepth 65536 in
set_option maxHeartbeats 40000000 in
theorem con_ref20 {G : Own.Gl} (hw : ∀ d ∈ tables_1, d.before G.a0 G.Z = true) (hEL : EW G.Z G.a0 G.EL) {la lb : Int32} (hla : la = 2) (hlb : lb = 0) (a0 a1 a2 b0 b1 b2 : Int32) {h : Heap} (hO : Old G.Z G.n0 h) :
    Own.Con G [] bRef20 #[.int la, .int a0, .int a1, .int a2, .int lb, .int b0, .int b1, .int b2] h [] (fun v h' => v = some (.int (refF [a0, a1] [] (sgn (2 : Int32)))) ∧ h' = h) := by
  refine Own.Con.intro (plainFor_of_name pn_3) hO hEL _ (fun m => ef_bRef20 m la a0 a1 a2 lb b0 b1 b2) ?_
  intro X T0 W0 sf
  subst hla; subst hlb
  refine Own.iloadN W0 d5_0 1 rfl (2 : Int32) rfl ?_
  refine Own.ifNo W0 d5_1 4 (by decide) rfl ?_
  refine Own.iload W0 d5_4 6 rfl (0 : Int32) rfl ?_
  refine Own.ifYes W0 d5_6 22 (by decide) (by decide) (by decide) ?_
  refine Own.iloadN W0 d5_22 23 rfl (2 : Int32) rfl ?_
  refine Own.iconst W0 d5_23 24 rfl (1 : Int32) rfl ?_
  refine Own.icmpNo W0 d5_24 27 (by decide) rfl ?_
  refine Own.iload W0 d5_27 29 rfl (0 : Int32) rfl ?_
  refine Own.iconst W0 d5_29 30 rfl (1 : Int32) rfl ?_
  refine Own.icmpYes W0 d5_30 46 (by decide) (by decide) (by decide) ?_
  refine Own.iloadN W0 d5_46 47 rfl (2 : Int32) rfl ?_
  refine Own.iconst W0 d5_47 48 rfl (2 : Int32) rfl ?_
  refine Own.icmpYes W0 d5_48 70 (by decide) (by decide) (by decide) ?_
  refine Own.iloadN W0 d5_70 71 rfl (2 : Int32) rfl ?_
  refine Own.iload W0 d5_71 73 rfl (0 : Int32) rfl ?_
  refine Own.isub W0 d5_73 74 rfl ?_
  show Own.Go _ _ _ _ _ 74 #[.val (.int (2 : Int32)), .val (.int a0), .val (.int a1), .val (.int a2), .val (.int (0 : Int32)), .val (.int b0), .val (.int b1), .val (.int b2)] [(.int (2 : Int32))]
  refine Own.callS W0 (tw hw 29 rfl) (tw hw 30 rfl) (tw hw 2 rfl) (tw hw 31 rfl) (by decide) (argsL := [(.int (2 : Int32))]) (rest := []) (Own.Con.pay (con_sgn hw hEL (2 : Int32) W0.old) W0 (tw hw 31 rfl) (tw hw 2 rfl) (len := 3) (wd := 0) (by decide) (by decide) (fun _ q => nomatch q)) rfl (lenOf pd_0 rfl) rfl (Nat.le_of_ble_eq_true rfl) d5_74 77 rfl 0 0 (Nat.le_of_ble_eq_true rfl) (Nat.le_of_ble_eq_true rfl) (Nat.le_of_ble_eq_true rfl) (Nat.le_of_ble_eq_true rfl) ?_
  intro v1 T1 h1 u1 W1 R1 hq
  obtain ⟨rfl, eh1⟩ := hq
  have ei1 := eh1.symm; subst ei1
  show Own.Go _ _ _ _ _ 77 #[.val (.int (2 : Int32)), .val (.int a0), .val (.int a1), .val (.int a2), .val (.int (0 : Int32)), .val (.int b0), .val (.int b1), .val (.int b2)] [(.int (sgn (2 : Int32)))]
  exact Own.retI W1 (by decide) (by decide) rfl d5_77 ⟨by rw [ref_end (Or.inr rfl)], rfl⟩
set_option maxRecDepth 65536 in
set_option maxHeartbeats 40000000 in
theorem con_ref21 {G : Own.Gl} (hw : ∀ d ∈ tables_1, d.before G.a0 G.Z = true) (hEL : EW G.Z G.a0 G.EL) {la lb : Int32} (hla : la = 2) (hlb : lb = 1) (a0 a1 a2 b0 b1 b2 : Int32) {h : Heap} (hO : Old G.Z G.n0 h) :
    Own.Con G [] bRef21 #[.int la, .int a0, .int a1, .int a2, .int lb, .int b0, .int b1, .int b2] h [] (fun v h' => v = some (.int (refF [a0, a1] [b0] (sgn (1 : Int32)))) ∧ h' = h) := by
  refine Own.Con.intro (plainFor_of_name pn_3) hO hEL _ (fun m => ef_bRef21 m la a0 a1 a2 lb b0 b1 b2) ?_
  intro X T0 W0 sf
  subst hla; subst hlb
  refine Own.iloadN W0 d5_0 1 rfl (2 : Int32) rfl ?_
  refine Own.ifNo W0 d5_1 4 (by decide) rfl ?_
  refine Own.iload W0 d5_4 6 rfl (1 : Int32) rfl ?_
  refine Own.ifNo W0 d5_6 9 (by decide) rfl ?_
  refine Own.iloadN W0 d5_9 10 rfl a0 rfl ?_
  refine Own.iload W0 d5_10 12 rfl b0 rfl ?_
  by_cases e0 : a0 = b0
  · skip
    refine Own.icmpYes W0 d5_12 22 (XT.ii_eq_t e0) (by decide) (by decide) ?_
    refine Own.iloadN W0 d5_22 23 rfl (2 : Int32) rfl ?_
    refine Own.iconst W0 d5_23 24 rfl (1 : Int32) rfl ?_
    refine Own.icmpNo W0 d5_24 27 (by decide) rfl ?_
    refine Own.iload W0 d5_27 29 rfl (1 : Int32) rfl ?_
    refine Own.iconst W0 d5_29 30 rfl (1 : Int32) rfl ?_
    refine Own.icmpYes W0 d5_30 46 (by decide) (by decide) (by decide) ?_
    refine Own.iloadN W0 d5_46 47 rfl (2 : Int32) rfl ?_
    refine Own.iconst W0 d5_47 48 rfl (2 : Int32) rfl ?_
    refine Own.icmpYes W0 d5_48 70 (by decide) (by decide) (by decide) ?_
    refine Own.iloadN W0 d5_70 71 rfl (2 : Int32) rfl ?_
    refine Own.iload W0 d5_71 73 rfl (1 : Int32) rfl ?_
    refine Own.isub W0 d5_73 74 rfl ?_
    show Own.Go _ _ _ _ _ 74 #[.val (.int (2 : Int32)), .val (.int a0), .val (.int a1), .val (.int a2), .val (.int (1 : Int32)), .val (.int b0), .val (.int b1), .val (.int b2)] [(.int (1 : Int32))]
    refine Own.callS W0 (tw hw 29 rfl) (tw hw 30 rfl) (tw hw 2 rfl) (tw hw 31 rfl) (by decide) (argsL := [(.int (1 : Int32))]) (rest := []) (Own.Con.pay (con_sgn hw hEL (1 : Int32) W0.old) W0 (tw hw 31 rfl) (tw hw 2 rfl) (len := 3) (wd := 0) (by decide) (by decide) (fun _ q => nomatch q)) rfl (lenOf pd_0 rfl) rfl (Nat.le_of_ble_eq_true rfl) d5_74 77 rfl 0 0 (Nat.le_of_ble_eq_true rfl) (Nat.le_of_ble_eq_true rfl) (Nat.le_of_ble_eq_true rfl) (Nat.le_of_ble_eq_true rfl) ?_
    intro v1 T1 h1 u1 W1 R1 hq
    obtain ⟨rfl, eh1⟩ := hq
    have ei1 := eh1.symm; subst ei1
    show Own.Go _ _ _ _ _ 77 #[.val (.int (2 : Int32)), .val (.int a0), .val (.int a1), .val (.int a2), .val (.int (1 : Int32)), .val (.int b0), .val (.int b1), .val (.int b2)] [(.int (sgn (1 : Int32)))]
    exact Own.retI W1 (by decide) (by decide) rfl d5_77 ⟨by rw [ref_eq e0, ref_end (Or.inr rfl)], rfl⟩
  · skip
    refine Own.icmpNo W0 d5_12 15 (XT.ii_eq_f e0) rfl ?_
    refine Own.iloadN W0 d5_15 16 rfl a0 rfl ?_
    refine Own.iload W0 d5_16 18 rfl b0 rfl ?_
    refine Own.callS W0 (tw hw 61 rfl) (tw hw 62 rfl) (tw hw 2 rfl) (tw hw 63 rfl) (by decide) (argsL := [(.int a0), (.int b0)]) (rest := []) (Own.Con.pay (con_uo hw hEL a0 b0 W0.old) W0 (tw hw 63 rfl) (tw hw 2 rfl) (len := 3) (wd := 0) (by decide) (by decide) (fun _ q => nomatch q)) rfl (lenOf pd_17 rfl) rfl (Nat.le_of_ble_eq_true rfl) d5_18 21 rfl 0 0 (Nat.le_of_ble_eq_true rfl) (Nat.le_of_ble_eq_true rfl) (Nat.le_of_ble_eq_true rfl) (Nat.le_of_ble_eq_true rfl) ?_
    intro v2 T2 h2 u2 W2 R2 hq
    obtain ⟨rfl, eh2⟩ := hq
    have ei2 := eh2.symm; subst ei2
    show Own.Go _ _ _ _ _ 21 #[.val (.int (2 : Int32)), .val (.int a0), .val (.int a1), .val (.int a2), .val (.int (1 : Int32)), .val (.int b0), .val (.int b1), .val (.int b2)] [(.int (uo a0 b0))]
    exact Own.retI W2 (by decide) (by decide) rfl d5_21 ⟨by rw [ref_ne e0], rfl⟩
set_option maxRecDepth 65536 in
set_option maxHeartbeats 40000000 in
theorem con_ref22 {G : Own.Gl} (hw : ∀ d ∈ tables_1, d.before G.a0 G.Z = true) (hEL : EW G.Z G.a0 G.EL) {la lb : Int32} (hla : la = 2) (hlb : lb = 2) (a0 a1 a2 b0 b1 b2 : Int32) {h : Heap} (hO : Old G.Z G.n0 h) :
    Own.Con G [] bRef22 #[.int la, .int a0, .int a1, .int a2, .int lb, .int b0, .int b1, .int b2] h [] (fun v h' => v = some (.int (refF [a0, a1] [b0, b1] (sgn (0 : Int32)))) ∧ h' = h) := by
  refine Own.Con.intro (plainFor_of_name pn_3) hO hEL _ (fun m => ef_bRef22 m la a0 a1 a2 lb b0 b1 b2) ?_
  intro X T0 W0 sf
  subst hla; subst hlb
  refine Own.iloadN W0 d5_0 1 rfl (2 : Int32) rfl ?_
  refine Own.ifNo W0 d5_1 4 (by decide) rfl ?_
  refine Own.iload W0 d5_4 6 rfl (2 : Int32) rfl ?_
  refine Own.ifNo W0 d5_6 9 (by decide) rfl ?_
  refine Own.iloadN W0 d5_9 10 rfl a0 rfl ?_
  refine Own.iload W0 d5_10 12 rfl b0 rfl ?_
  by_cases e0 : a0 = b0
  · skip
    refine Own.icmpYes W0 d5_12 22 (XT.ii_eq_t e0) (by decide) (by decide) ?_
    refine Own.iloadN W0 d5_22 23 rfl (2 : Int32) rfl ?_
    refine Own.iconst W0 d5_23 24 rfl (1 : Int32) rfl ?_
    refine Own.icmpNo W0 d5_24 27 (by decide) rfl ?_
    refine Own.iload W0 d5_27 29 rfl (2 : Int32) rfl ?_
    refine Own.iconst W0 d5_29 30 rfl (1 : Int32) rfl ?_
    refine Own.icmpNo W0 d5_30 33 (by decide) rfl ?_
    refine Own.iloadN W0 d5_33 34 rfl a1 rfl ?_
    refine Own.iload W0 d5_34 36 rfl b1 rfl ?_
    by_cases e1 : a1 = b1
    · skip
      refine Own.icmpYes W0 d5_36 46 (XT.ii_eq_t e1) (by decide) (by decide) ?_
      refine Own.iloadN W0 d5_46 47 rfl (2 : Int32) rfl ?_
      refine Own.iconst W0 d5_47 48 rfl (2 : Int32) rfl ?_
      refine Own.icmpYes W0 d5_48 70 (by decide) (by decide) (by decide) ?_
      refine Own.iloadN W0 d5_70 71 rfl (2 : Int32) rfl ?_
      refine Own.iload W0 d5_71 73 rfl (2 : Int32) rfl ?_
      refine Own.isub W0 d5_73 74 rfl ?_
      show Own.Go _ _ _ _ _ 74 #[.val (.int (2 : Int32)), .val (.int a0), .val (.int a1), .val (.int a2), .val (.int (2 : Int32)), .val (.int b0), .val (.int b1), .val (.int b2)] [(.int (0 : Int32))]
      refine Own.callS W0 (tw hw 29 rfl) (tw hw 30 rfl) (tw hw 2 rfl) (tw hw 31 rfl) (by decide) (argsL := [(.int (0 : Int32))]) (rest := []) (Own.Con.pay (con_sgn hw hEL (0 : Int32) W0.old) W0 (tw hw 31 rfl) (tw hw 2 rfl) (len := 3) (wd := 0) (by decide) (by decide) (fun _ q => nomatch q)) rfl (lenOf pd_0 rfl) rfl (Nat.le_of_ble_eq_true rfl) d5_74 77 rfl 0 0 (Nat.le_of_ble_eq_true rfl) (Nat.le_of_ble_eq_true rfl) (Nat.le_of_ble_eq_true rfl) (Nat.le_of_ble_eq_true rfl) ?_
      intro v1 T1 h1 u1 W1 R1 hq
      obtain ⟨rfl, eh1⟩ := hq
      have ei1 := eh1.symm; subst ei1
      show Own.Go _ _ _ _ _ 77 #[.val (.int (2 : Int32)), .val (.int a0), .val (.int a1), .val (.int a2), .val (.int (2 : Int32)), .val (.int b0), .val (.int b1), .val (.int b2)] [(.int (sgn (0 : Int32)))]
      exact Own.retI W1 (by decide) (by decide) rfl d5_77 ⟨by rw [ref_eq e0, ref_eq e1, ref_end (Or.inl rfl)], rfl⟩
    · skip
      refine Own.icmpNo W0 d5_36 39 (XT.ii_eq_f e1) rfl ?_
      refine Own.iloadN W0 d5_39 40 rfl a1 rfl ?_
      refine Own.iload W0 d5_40 42 rfl b1 rfl ?_
      refine Own.callS W0 (tw hw 61 rfl) (tw hw 62 rfl) (tw hw 2 rfl) (tw hw 63 rfl) (by decide) (argsL := [(.int a1), (.int b1)]) (rest := []) (Own.Con.pay (con_uo hw hEL a1 b1 W0.old) W0 (tw hw 63 rfl) (tw hw 2 rfl) (len := 3) (wd := 0) (by decide) (by decide) (fun _ q => nomatch q)) rfl (lenOf pd_17 rfl) rfl (Nat.le_of_ble_eq_true rfl) d5_42 45 rfl 0 0 (Nat.le_of_ble_eq_true rfl) (Nat.le_of_ble_eq_true rfl) (Nat.le_of_ble_eq_true rfl) (Nat.le_of_ble_eq_true rfl) ?_
      intro v2 T2 h2 u2 W2 R2 hq
      obtain ⟨rfl, eh2⟩ := hq
      have ei2 := eh2.symm; subst ei2
      show Own.Go _ _ _ _ _ 45 #[.val (.int (2 : Int32)), .val (.int a0), .val (.int a1), .val (.int a2), .val (.int (2 : Int32)), .val (.int b0), .val (.int b1), .val (.int b2)] [(.int (uo a1 b1))]
      exact Own.retI W2 (by decide) (by decide) rfl d5_45 ⟨by rw [ref_eq e0, ref_ne e1], rfl⟩
  · skip
    refine Own.icmpNo W0 d5_12 15 (XT.ii_eq_f e0) rfl ?_
    refine Own.iloadN W0 d5_15 16 rfl a0 rfl ?_
    refine Own.iload W0 d5_16 18 rfl b0 rfl ?_
    refine Own.callS W0 (tw hw 61 rfl) (tw hw 62 rfl) (tw hw 2 rfl) (tw hw 63 rfl) (by decide) (argsL := [(.int a0), (.int b0)]) (rest := []) (Own.Con.pay (con_uo hw hEL a0 b0 W0.old) W0 (tw hw 63 rfl) (tw hw 2 rfl) (len := 3) (wd := 0) (by decide) (by decide) (fun _ q => nomatch q)) rfl (lenOf pd_17 rfl) rfl (Nat.le_of_ble_eq_true rfl) d5_18 21 rfl 0 0 (Nat.le_of_ble_eq_true rfl) (Nat.le_of_ble_eq_true rfl) (Nat.le_of_ble_eq_true rfl) (Nat.le_of_ble_eq_true rfl) ?_
    intro v3 T3 h3 u3 W3 R3 hq
    obtain ⟨rfl, eh3⟩ := hq
    have ei3 := eh3.symm; subst ei3
    show Own.Go _ _ _ _ _ 21 #[.val (.int (2 : Int32)), .val (.int a0), .val (.int a1), .val (.int a2), .val (.int (2 : Int32)), .val (.int b0), .val (.int b1), .val (.int b2)] [(.int (uo a0 b0))]
    exact Own.retI W3 (by decide) (by decide) rfl d5_21 ⟨by rw [ref_ne e0], rfl⟩
set_option maxRecDepth 65536 in
set_option maxHeartbeats 40000000 in
theorem con_ref23 {G : Own.Gl} (hw : ∀ d ∈ tables_1, d.before G.a0 G.Z = true) (hEL : EW G.Z G.a0 G.EL) {la lb : Int32} (hla : la = 2) (hlb : lb = 3) (a0 a1 a2 b0 b1 b2 : Int32) {h : Heap} (hO : Old G.Z G.n0 h) :
    Own.Con G [] bRef23 #[.int la, .int a0, .int a1, .int a2, .int lb, .int b0, .int b1, .int b2] h [] (fun v h' => v = some (.int (refF [a0, a1] [b0, b1, b2] (sgn (-1 : Int32)))) ∧ h' = h) := by
  refine Own.Con.intro (plainFor_of_name pn_3) hO hEL _ (fun m => ef_bRef23 m la a0 a1 a2 lb b0 b1 b2) ?_
  intro X T0 W0 sf
  subst hla; subst hlb
  refine Own.iloadN W0 d5_0 1 rfl (2 : Int32) rfl ?_
  refine Own.ifNo W0 d5_1 4 (by decide) rfl ?_
  refine Own.iload W0 d5_4 6 rfl (3 : Int32) rfl ?_
  refine Own.ifNo W0 d5_6 9 (by decide) rfl ?_
  refine Own.iloadN W0 d5_9 10 rfl a0 rfl ?_
  refine Own.iload W0 d5_10 12 rfl b0 rfl ?_
  by_cases e0 : a0 = b0
  · skip
    refine Own.icmpYes W0 d5_12 22 (XT.ii_eq_t e0) (by decide) (by decide) ?_
    refine Own.iloadN W0 d5_22 23 rfl (2 : Int32) rfl ?_
    refine Own.iconst W0 d5_23 24 rfl (1 : Int32) rfl ?_
    refine Own.icmpNo W0 d5_24 27 (by decide) rfl ?_
    refine Own.iload W0 d5_27 29 rfl (3 : Int32) rfl ?_
    refine Own.iconst W0 d5_29 30 rfl (1 : Int32) rfl ?_
    refine Own.icmpNo W0 d5_30 33 (by decide) rfl ?_
    refine Own.iloadN W0 d5_33 34 rfl a1 rfl ?_
    refine Own.iload W0 d5_34 36 rfl b1 rfl ?_
    by_cases e1 : a1 = b1
    · skip
      refine Own.icmpYes W0 d5_36 46 (XT.ii_eq_t e1) (by decide) (by decide) ?_
      refine Own.iloadN W0 d5_46 47 rfl (2 : Int32) rfl ?_
      refine Own.iconst W0 d5_47 48 rfl (2 : Int32) rfl ?_
      refine Own.icmpYes W0 d5_48 70 (by decide) (by decide) (by decide) ?_
      refine Own.iloadN W0 d5_70 71 rfl (2 : Int32) rfl ?_
      refine Own.iload W0 d5_71 73 rfl (3 : Int32) rfl ?_
      refine Own.isub W0 d5_73 74 rfl ?_
      show Own.Go _ _ _ _ _ 74 #[.val (.int (2 : Int32)), .val (.int a0), .val (.int a1), .val (.int a2), .val (.int (3 : Int32)), .val (.int b0), .val (.int b1), .val (.int b2)] [(.int (-1 : Int32))]
      refine Own.callS W0 (tw hw 29 rfl) (tw hw 30 rfl) (tw hw 2 rfl) (tw hw 31 rfl) (by decide) (argsL := [(.int (-1 : Int32))]) (rest := []) (Own.Con.pay (con_sgn hw hEL (-1 : Int32) W0.old) W0 (tw hw 31 rfl) (tw hw 2 rfl) (len := 3) (wd := 0) (by decide) (by decide) (fun _ q => nomatch q)) rfl (lenOf pd_0 rfl) rfl (Nat.le_of_ble_eq_true rfl) d5_74 77 rfl 0 0 (Nat.le_of_ble_eq_true rfl) (Nat.le_of_ble_eq_true rfl) (Nat.le_of_ble_eq_true rfl) (Nat.le_of_ble_eq_true rfl) ?_
      intro v1 T1 h1 u1 W1 R1 hq
      obtain ⟨rfl, eh1⟩ := hq
      have ei1 := eh1.symm; subst ei1
      show Own.Go _ _ _ _ _ 77 #[.val (.int (2 : Int32)), .val (.int a0), .val (.int a1), .val (.int a2), .val (.int (3 : Int32)), .val (.int b0), .val (.int b1), .val (.int b2)] [(.int (sgn (-1 : Int32)))]
      exact Own.retI W1 (by decide) (by decide) rfl d5_77 ⟨by rw [ref_eq e0, ref_eq e1, ref_end (Or.inl rfl)], rfl⟩
    · skip
      refine Own.icmpNo W0 d5_36 39 (XT.ii_eq_f e1) rfl ?_
      refine Own.iloadN W0 d5_39 40 rfl a1 rfl ?_
      refine Own.iload W0 d5_40 42 rfl b1 rfl ?_
      refine Own.callS W0 (tw hw 61 rfl) (tw hw 62 rfl) (tw hw 2 rfl) (tw hw 63 rfl) (by decide) (argsL := [(.int a1), (.int b1)]) (rest := []) (Own.Con.pay (con_uo hw hEL a1 b1 W0.old) W0 (tw hw 63 rfl) (tw hw 2 rfl) (len := 3) (wd := 0) (by decide) (by decide) (fun _ q => nomatch q)) rfl (lenOf pd_17 rfl) rfl (Nat.le_of_ble_eq_true rfl) d5_42 45 rfl 0 0 (Nat.le_of_ble_eq_true rfl) (Nat.le_of_ble_eq_true rfl) (Nat.le_of_ble_eq_true rfl) (Nat.le_of_ble_eq_true rfl) ?_
      intro v2 T2 h2 u2 W2 R2 hq
      obtain ⟨rfl, eh2⟩ := hq
      have ei2 := eh2.symm; subst ei2
      show Own.Go _ _ _ _ _ 45 #[.val (.int (2 : Int32)), .val (.int a0), .val (.int a1), .val (.int a2), .val (.int (3 : Int32)), .val (.int b0), .val (.int b1), .val (.int b2)] [(.int (uo a1 b1))]
      exact Own.retI W2 (by decide) (by decide) rfl d5_45 ⟨by rw [ref_eq e0, ref_ne e1], rfl⟩
  · skip
    refine Own.icmpNo W0 d5_12 15 (XT.ii_eq_f e0) rfl ?_
    refine Own.iloadN W0 d5_15 16 rfl a0 rfl ?_
    refine Own.iload W0 d5_16 18 rfl b0 rfl ?_
    refine Own.callS W0 (tw hw 61 rfl) (tw hw 62 rfl) (tw hw 2 rfl) (tw hw 63 rfl) (by decide) (argsL := [(.int a0), (.int b0)]) (rest := []) (Own.Con.pay (con_uo hw hEL a0 b0 W0.old) W0 (tw hw 63 rfl) (tw hw 2 rfl) (len := 3) (wd := 0) (by decide) (by decide) (fun _ q => nomatch q)) rfl (lenOf pd_17 rfl) rfl (Nat.le_of_ble_eq_true rfl) d5_18 21 rfl 0 0 (Nat.le_of_ble_eq_true rfl) (Nat.le_of_ble_eq_true rfl) (Nat.le_of_ble_eq_true rfl) (Nat.le_of_ble_eq_true rfl) ?_
    intro v3 T3 h3 u3 W3 R3 hq
    obtain ⟨rfl, eh3⟩ := hq
    have ei3 := eh3.symm; subst ei3
    show Own.Go _ _ _ _ _ 21 #[.val (.int (2 : Int32)), .val (.int a0), .val (.int a1), .val (.int a2), .val (.int (3 : Int32)), .val (.int b0), .val (.int b1), .val (.int b2)] [(.int (uo a0 b0))]
    exact Own.retI W3 (by decide) (by decide) rfl d5_21 ⟨by rw [ref_ne e0], rfl⟩
set_option maxRecDepth 65536 in
set_option maxHeartbeats 40000000 in
theorem con_ref30 {G : Own.Gl} (hw : ∀ d ∈ tables_1, d.before G.a0 G.Z = true) (hEL : EW G.Z G.a0 G.EL) {la lb : Int32} (hla : la = 3) (hlb : lb = 0) (a0 a1 a2 b0 b1 b2 : Int32) {h : Heap} (hO : Old G.Z G.n0 h) :
    Own.Con G [] bRef30 #[.int la, .int a0, .int a1, .int a2, .int lb, .int b0, .int b1, .int b2] h [] (fun v h' => v = some (.int (refF [a0, a1, a2] [] (sgn (3 : Int32)))) ∧ h' = h) := by
  refine Own.Con.intro (plainFor_of_name pn_3) hO hEL _ (fun m => ef_bRef30 m la a0 a1 a2 lb b0 b1 b2) ?_
  intro X T0 W0 sf
  subst hla; subst hlb
  refine Own.iloadN W0 d5_0 1 rfl (3 : Int32) rfl ?_
  refine Own.ifNo W0 d5_1 4 (by decide) rfl ?_
  refine Own.iload W0 d5_4 6 rfl (0 : Int32) rfl ?_
  refine Own.ifYes W0 d5_6 22 (by decide) (by decide) (by decide) ?_
  refine Own.iloadN W0 d5_22 23 rfl (3 : Int32) rfl ?_
  refine Own.iconst W0 d5_23 24 rfl (1 : Int32) rfl ?_
  refine Own.icmpNo W0 d5_24 27 (by decide) rfl ?_
  refine Own.iload W0 d5_27 29 rfl (0 : Int32) rfl ?_
  refine Own.iconst W0 d5_29 30 rfl (1 : Int32) rfl ?_
  refine Own.icmpYes W0 d5_30 46 (by decide) (by decide) (by decide) ?_
  refine Own.iloadN W0 d5_46 47 rfl (3 : Int32) rfl ?_
  refine Own.iconst W0 d5_47 48 rfl (2 : Int32) rfl ?_
  refine Own.icmpNo W0 d5_48 51 (by decide) rfl ?_
  refine Own.iload W0 d5_51 53 rfl (0 : Int32) rfl ?_
  refine Own.iconst W0 d5_53 54 rfl (2 : Int32) rfl ?_
  refine Own.icmpYes W0 d5_54 70 (by decide) (by decide) (by decide) ?_
  refine Own.iloadN W0 d5_70 71 rfl (3 : Int32) rfl ?_
  refine Own.iload W0 d5_71 73 rfl (0 : Int32) rfl ?_
  refine Own.isub W0 d5_73 74 rfl ?_
  show Own.Go _ _ _ _ _ 74 #[.val (.int (3 : Int32)), .val (.int a0), .val (.int a1), .val (.int a2), .val (.int (0 : Int32)), .val (.int b0), .val (.int b1), .val (.int b2)] [(.int (3 : Int32))]
  refine Own.callS W0 (tw hw 29 rfl) (tw hw 30 rfl) (tw hw 2 rfl) (tw hw 31 rfl) (by decide) (argsL := [(.int (3 : Int32))]) (rest := []) (Own.Con.pay (con_sgn hw hEL (3 : Int32) W0.old) W0 (tw hw 31 rfl) (tw hw 2 rfl) (len := 3) (wd := 0) (by decide) (by decide) (fun _ q => nomatch q)) rfl (lenOf pd_0 rfl) rfl (Nat.le_of_ble_eq_true rfl) d5_74 77 rfl 0 0 (Nat.le_of_ble_eq_true rfl) (Nat.le_of_ble_eq_true rfl) (Nat.le_of_ble_eq_true rfl) (Nat.le_of_ble_eq_true rfl) ?_
  intro v1 T1 h1 u1 W1 R1 hq
  obtain ⟨rfl, eh1⟩ := hq
  have ei1 := eh1.symm; subst ei1
  show Own.Go _ _ _ _ _ 77 #[.val (.int (3 : Int32)), .val (.int a0), .val (.int a1), .val (.int a2), .val (.int (0 : Int32)), .val (.int b0), .val (.int b1), .val (.int b2)] [(.int (sgn (3 : Int32)))]
  exact Own.retI W1 (by decide) (by decide) rfl d5_77 ⟨by rw [ref_end (Or.inr rfl)], rfl⟩
set_option maxRecDepth 65536 in
set_option maxHeartbeats 40000000 in
theorem con_ref31 {G : Own.Gl} (hw : ∀ d ∈ tables_1, d.before G.a0 G.Z = true) (hEL : EW G.Z G.a0 G.EL) {la lb : Int32} (hla : la = 3) (hlb : lb = 1) (a0 a1 a2 b0 b1 b2 : Int32) {h : Heap} (hO : Old G.Z G.n0 h) :
    Own.Con G [] bRef31 #[.int la, .int a0, .int a1, .int a2, .int lb, .int b0, .int b1, .int b2] h [] (fun v h' => v = some (.int (refF [a0, a1, a2] [b0] (sgn (2 : Int32)))) ∧ h' = h) := by
  refine Own.Con.intro (plainFor_of_name pn_3) hO hEL _ (fun m => ef_bRef31 m la a0 a1 a2 lb b0 b1 b2) ?_
  intro X T0 W0 sf
  subst hla; subst hlb
  refine Own.iloadN W0 d5_0 1 rfl (3 : Int32) rfl ?_
  refine Own.ifNo W0 d5_1 4 (by decide) rfl ?_
  refine Own.iload W0 d5_4 6 rfl (1 : Int32) rfl ?_
  refine Own.ifNo W0 d5_6 9 (by decide) rfl ?_
  refine Own.iloadN W0 d5_9 10 rfl a0 rfl ?_
  refine Own.iload W0 d5_10 12 rfl b0 rfl ?_
  by_cases e0 : a0 = b0
  · skip
    refine Own.icmpYes W0 d5_12 22 (XT.ii_eq_t e0) (by decide) (by decide) ?_
    refine Own.iloadN W0 d5_22 23 rfl (3 : Int32) rfl ?_
    refine Own.iconst W0 d5_23 24 rfl (1 : Int32) rfl ?_
    refine Own.icmpNo W0 d5_24 27 (by decide) rfl ?_
    refine Own.iload W0 d5_27 29 rfl (1 : Int32) rfl ?_
    refine Own.iconst W0 d5_29 30 rfl (1 : Int32) rfl ?_
    refine Own.icmpYes W0 d5_30 46 (by decide) (by decide) (by decide) ?_
    refine Own.iloadN W0 d5_46 47 rfl (3 : Int32) rfl ?_
    refine Own.iconst W0 d5_47 48 rfl (2 : Int32) rfl ?_
    refine Own.icmpNo W0 d5_48 51 (by decide) rfl ?_
    refine Own.iload W0 d5_51 53 rfl (1 : Int32) rfl ?_
    refine Own.iconst W0 d5_53 54 rfl (2 : Int32) rfl ?_
    refine Own.icmpYes W0 d5_54 70 (by decide) (by decide) (by decide) ?_
    refine Own.iloadN W0 d5_70 71 rfl (3 : Int32) rfl ?_
    refine Own.iload W0 d5_71 73 rfl (1 : Int32) rfl ?_
    refine Own.isub W0 d5_73 74 rfl ?_
    show Own.Go _ _ _ _ _ 74 #[.val (.int (3 : Int32)), .val (.int a0), .val (.int a1), .val (.int a2), .val (.int (1 : Int32)), .val (.int b0), .val (.int b1), .val (.int b2)] [(.int (2 : Int32))]
    refine Own.callS W0 (tw hw 29 rfl) (tw hw 30 rfl) (tw hw 2 rfl) (tw hw 31 rfl) (by decide) (argsL := [(.int (2 : Int32))]) (rest := []) (Own.Con.pay (con_sgn hw hEL (2 : Int32) W0.old) W0 (tw hw 31 rfl) (tw hw 2 rfl) (len := 3) (wd := 0) (by decide) (by decide) (fun _ q => nomatch q)) rfl (lenOf pd_0 rfl) rfl (Nat.le_of_ble_eq_true rfl) d5_74 77 rfl 0 0 (Nat.le_of_ble_eq_true rfl) (Nat.le_of_ble_eq_true rfl) (Nat.le_of_ble_eq_true rfl) (Nat.le_of_ble_eq_true rfl) ?_
    intro v1 T1 h1 u1 W1 R1 hq
    obtain ⟨rfl, eh1⟩ := hq
    have ei1 := eh1.symm; subst ei1
    show Own.Go _ _ _ _ _ 77 #[.val (.int (3 : Int32)), .val (.int a0), .val (.int a1), .val (.int a2), .val (.int (1 : Int32)), .val (.int b0), .val (.int b1), .val (.int b2)] [(.int (sgn (2 : Int32)))]
    exact Own.retI W1 (by decide) (by decide) rfl d5_77 ⟨by rw [ref_eq e0, ref_end (Or.inr rfl)], rfl⟩
  · skip
    refine Own.icmpNo W0 d5_12 15 (XT.ii_eq_f e0) rfl ?_
    refine Own.iloadN W0 d5_15 16 rfl a0 rfl ?_
    refine Own.iload W0 d5_16 18 rfl b0 rfl ?_
    refine Own.callS W0 (tw hw 61 rfl) (tw hw 62 rfl) (tw hw 2 rfl) (tw hw 63 rfl) (by decide) (argsL := [(.int a0), (.int b0)]) (rest := []) (Own.Con.pay (con_uo hw hEL a0 b0 W0.old) W0 (tw hw 63 rfl) (tw hw 2 rfl) (len := 3) (wd := 0) (by decide) (by decide) (fun _ q => nomatch q)) rfl (lenOf pd_17 rfl) rfl (Nat.le_of_ble_eq_true rfl) d5_18 21 rfl 0 0 (Nat.le_of_ble_eq_true rfl) (Nat.le_of_ble_eq_true rfl) (Nat.le_of_ble_eq_true rfl) (Nat.le_of_ble_eq_true rfl) ?_
    intro v2 T2 h2 u2 W2 R2 hq
    obtain ⟨rfl, eh2⟩ := hq
    have ei2 := eh2.symm; subst ei2
    show Own.Go _ _ _ _ _ 21 #[.val (.int (3 : Int32)), .val (.int a0), .val (.int a1), .val (.int a2), .val (.int (1 : Int32)), .val (.int b0), .val (.int b1), .val (.int b2)] [(.int (uo a0 b0))]
    exact Own.retI W2 (by decide) (by decide) rfl d5_21 ⟨by rw [ref_ne e0], rfl⟩
set_option maxRecDepth 65536 in
set_option maxHeartbeats 40000000 in
theorem con_ref32 {G : Own.Gl} (hw : ∀ d ∈ tables_1, d.before G.a0 G.Z = true) (hEL : EW G.Z G.a0 G.EL) {la lb : Int32} (hla : la = 3) (hlb : lb = 2) (a0 a1 a2 b0 b1 b2 : Int32) {h : Heap} (hO : Old G.Z G.n0 h) :
    Own.Con G [] bRef32 #[.int la, .int a0, .int a1, .int a2, .int lb, .int b0, .int b1, .int b2] h [] (fun v h' => v = some (.int (refF [a0, a1, a2] [b0, b1] (sgn (1 : Int32)))) ∧ h' = h) := by
  refine Own.Con.intro (plainFor_of_name pn_3) hO hEL _ (fun m => ef_bRef32 m la a0 a1 a2 lb b0 b1 b2) ?_
  intro X T0 W0 sf
  subst hla; subst hlb
  refine Own.iloadN W0 d5_0 1 rfl (3 : Int32) rfl ?_
  refine Own.ifNo W0 d5_1 4 (by decide) rfl ?_
  refine Own.iload W0 d5_4 6 rfl (2 : Int32) rfl ?_
  refine Own.ifNo W0 d5_6 9 (by decide) rfl ?_
  refine Own.iloadN W0 d5_9 10 rfl a0 rfl ?_
  refine Own.iload W0 d5_10 12 rfl b0 rfl ?_
  by_cases e0 : a0 = b0
  · skip
    refine Own.icmpYes W0 d5_12 22 (XT.ii_eq_t e0) (by decide) (by decide) ?_
    refine Own.iloadN W0 d5_22 23 rfl (3 : Int32) rfl ?_
    refine Own.iconst W0 d5_23 24 rfl (1 : Int32) rfl ?_
    refine Own.icmpNo W0 d5_24 27 (by decide) rfl ?_
    refine Own.iload W0 d5_27 29 rfl (2 : Int32) rfl ?_
    refine Own.iconst W0 d5_29 30 rfl (1 : Int32) rfl ?_
    refine Own.icmpNo W0 d5_30 33 (by decide) rfl ?_
    refine Own.iloadN W0 d5_33 34 rfl a1 rfl ?_
    refine Own.iload W0 d5_34 36 rfl b1 rfl ?_
    by_cases e1 : a1 = b1
    · skip
      refine Own.icmpYes W0 d5_36 46 (XT.ii_eq_t e1) (by decide) (by decide) ?_
      refine Own.iloadN W0 d5_46 47 rfl (3 : Int32) rfl ?_
      refine Own.iconst W0 d5_47 48 rfl (2 : Int32) rfl ?_
      refine Own.icmpNo W0 d5_48 51 (by decide) rfl ?_
      refine Own.iload W0 d5_51 53 rfl (2 : Int32) rfl ?_
      refine Own.iconst W0 d5_53 54 rfl (2 : Int32) rfl ?_
      refine Own.icmpYes W0 d5_54 70 (by decide) (by decide) (by decide) ?_
      refine Own.iloadN W0 d5_70 71 rfl (3 : Int32) rfl ?_
      refine Own.iload W0 d5_71 73 rfl (2 : Int32) rfl ?_
      refine Own.isub W0 d5_73 74 rfl ?_
      show Own.Go _ _ _ _ _ 74 #[.val (.int (3 : Int32)), .val (.int a0), .val (.int a1), .val (.int a2), .val (.int (2 : Int32)), .val (.int b0), .val (.int b1), .val (.int b2)] [(.int (1 : Int32))]
      refine Own.callS W0 (tw hw 29 rfl) (tw hw 30 rfl) (tw hw 2 rfl) (tw hw 31 rfl) (by decide) (argsL := [(.int (1 : Int32))]) (rest := []) (Own.Con.pay (con_sgn hw hEL (1 : Int32) W0.old) W0 (tw hw 31 rfl) (tw hw 2 rfl) (len := 3) (wd := 0) (by decide) (by decide) (fun _ q => nomatch q)) rfl (lenOf pd_0 rfl) rfl (Nat.le_of_ble_eq_true rfl) d5_74 77 rfl 0 0 (Nat.le_of_ble_eq_true rfl) (Nat.le_of_ble_eq_true rfl) (Nat.le_of_ble_eq_true rfl) (Nat.le_of_ble_eq_true rfl) ?_
      intro v1 T1 h1 u1 W1 R1 hq
      obtain ⟨rfl, eh1⟩ := hq
      have ei1 := eh1.symm; subst ei1
      show Own.Go _ _ _ _ _ 77 #[.val (.int (3 : Int32)), .val (.int a0), .val (.int a1), .val (.int a2), .val (.int (2 : Int32)), .val (.int b0), .val (.int b1), .val (.int b2)] [(.int (sgn (1 : Int32)))]
      exact Own.retI W1 (by decide) (by decide) rfl d5_77 ⟨by rw [ref_eq e0, ref_eq e1, ref_end (Or.inr rfl)], rfl⟩
    · skip
      refine Own.icmpNo W0 d5_36 39 (XT.ii_eq_f e1) rfl ?_
      refine Own.iloadN W0 d5_39 40 rfl a1 rfl ?_
      refine Own.iload W0 d5_40 42 rfl b1 rfl ?_
      refine Own.callS W0 (tw hw 61 rfl) (tw hw 62 rfl) (tw hw 2 rfl) (tw hw 63 rfl) (by decide) (argsL := [(.int a1), (.int b1)]) (rest := []) (Own.Con.pay (con_uo hw hEL a1 b1 W0.old) W0 (tw hw 63 rfl) (tw hw 2 rfl) (len := 3) (wd := 0) (by decide) (by decide) (fun _ q => nomatch q)) rfl (lenOf pd_17 rfl) rfl (Nat.le_of_ble_eq_true rfl) d5_42 45 rfl 0 0 (Nat.le_of_ble_eq_true rfl) (Nat.le_of_ble_eq_true rfl) (Nat.le_of_ble_eq_true rfl) (Nat.le_of_ble_eq_true rfl) ?_
      intro v2 T2 h2 u2 W2 R2 hq
      obtain ⟨rfl, eh2⟩ := hq
      have ei2 := eh2.symm; subst ei2
      show Own.Go _ _ _ _ _ 45 #[.val (.int (3 : Int32)), .val (.int a0), .val (.int a1), .val (.int a2), .val (.int (2 : Int32)), .val (.int b0), .val (.int b1), .val (.int b2)] [(.int (uo a1 b1))]
      exact Own.retI W2 (by decide) (by decide) rfl d5_45 ⟨by rw [ref_eq e0, ref_ne e1], rfl⟩
  · skip
    refine Own.icmpNo W0 d5_12 15 (XT.ii_eq_f e0) rfl ?_
    refine Own.iloadN W0 d5_15 16 rfl a0 rfl ?_
    refine Own.iload W0 d5_16 18 rfl b0 rfl ?_
    refine Own.callS W0 (tw hw 61 rfl) (tw hw 62 rfl) (tw hw 2 rfl) (tw hw 63 rfl) (by decide) (argsL := [(.int a0), (.int b0)]) (rest := []) (Own.Con.pay (con_uo hw hEL a0 b0 W0.old) W0 (tw hw 63 rfl) (tw hw 2 rfl) (len := 3) (wd := 0) (by decide) (by decide) (fun _ q => nomatch q)) rfl (lenOf pd_17 rfl) rfl (Nat.le_of_ble_eq_true rfl) d5_18 21 rfl 0 0 (Nat.le_of_ble_eq_true rfl) (Nat.le_of_ble_eq_true rfl) (Nat.le_of_ble_eq_true rfl) (Nat.le_of_ble_eq_true rfl) ?_
    intro v3 T3 h3 u3 W3 R3 hq
    obtain ⟨rfl, eh3⟩ := hq
    have ei3 := eh3.symm; subst ei3
    show Own.Go _ _ _ _ _ 21 #[.val (.int (3 : Int32)), .val (.int a0), .val (.int a1), .val (.int a2), .val (.int (2 : Int32)), .val (.int b0), .val (.int b1), .val (.int b2)] [(.int (uo a0 b0))]
    exact Own.retI W3 (by decide) (by decide) rfl d5_21 ⟨by rw [ref_ne e0], rfl⟩
set_option maxRecDepth 65536 in
set_option maxHeartbeats 40000000 in
theorem con_ref33 {G : Own.Gl} (hw : ∀ d ∈ tables_1, d.before G.a0 G.Z = true) (hEL : EW G.Z G.a0 G.EL) {la lb : Int32} (hla : la = 3) (hlb : lb = 3) (a0 a1 a2 b0 b1 b2 : Int32) {h : Heap} (hO : Old G.Z G.n0 h) :
    Own.Con G [] bRef33 #[.int la, .int a0, .int a1, .int a2, .int lb, .int b0, .int b1, .int b2] h [] (fun v h' => v = some (.int (refF [a0, a1, a2] [b0, b1, b2] (sgn (0 : Int32)))) ∧ h' = h) := by
  refine Own.Con.intro (plainFor_of_name pn_3) hO hEL _ (fun m => ef_bRef33 m la a0 a1 a2 lb b0 b1 b2) ?_
  intro X T0 W0 sf
  subst hla; subst hlb
  refine Own.iloadN W0 d5_0 1 rfl (3 : Int32) rfl ?_
  refine Own.ifNo W0 d5_1 4 (by decide) rfl ?_
  refine Own.iload W0 d5_4 6 rfl (3 : Int32) rfl ?_
  refine Own.ifNo W0 d5_6 9 (by decide) rfl ?_
  refine Own.iloadN W0 d5_9 10 rfl a0 rfl ?_
  refine Own.iload W0 d5_10 12 rfl b0 rfl ?_
  by_cases e0 : a0 = b0
  · skip
    refine Own.icmpYes W0 d5_12 22 (XT.ii_eq_t e0) (by decide) (by decide) ?_
    refine Own.iloadN W0 d5_22 23 rfl (3 : Int32) rfl ?_
    refine Own.iconst W0 d5_23 24 rfl (1 : Int32) rfl ?_
    refine Own.icmpNo W0 d5_24 27 (by decide) rfl ?_
    refine Own.iload W0 d5_27 29 rfl (3 : Int32) rfl ?_
    refine Own.iconst W0 d5_29 30 rfl (1 : Int32) rfl ?_
    refine Own.icmpNo W0 d5_30 33 (by decide) rfl ?_
    refine Own.iloadN W0 d5_33 34 rfl a1 rfl ?_
    refine Own.iload W0 d5_34 36 rfl b1 rfl ?_
    by_cases e1 : a1 = b1
    · skip
      refine Own.icmpYes W0 d5_36 46 (XT.ii_eq_t e1) (by decide) (by decide) ?_
      refine Own.iloadN W0 d5_46 47 rfl (3 : Int32) rfl ?_
      refine Own.iconst W0 d5_47 48 rfl (2 : Int32) rfl ?_
      refine Own.icmpNo W0 d5_48 51 (by decide) rfl ?_
      refine Own.iload W0 d5_51 53 rfl (3 : Int32) rfl ?_
      refine Own.iconst W0 d5_53 54 rfl (2 : Int32) rfl ?_
      refine Own.icmpNo W0 d5_54 57 (by decide) rfl ?_
      refine Own.iloadN W0 d5_57 58 rfl a2 rfl ?_
      refine Own.iload W0 d5_58 60 rfl b2 rfl ?_
      by_cases e2 : a2 = b2
      · skip
        refine Own.icmpYes W0 d5_60 70 (XT.ii_eq_t e2) (by decide) (by decide) ?_
        refine Own.iloadN W0 d5_70 71 rfl (3 : Int32) rfl ?_
        refine Own.iload W0 d5_71 73 rfl (3 : Int32) rfl ?_
        refine Own.isub W0 d5_73 74 rfl ?_
        show Own.Go _ _ _ _ _ 74 #[.val (.int (3 : Int32)), .val (.int a0), .val (.int a1), .val (.int a2), .val (.int (3 : Int32)), .val (.int b0), .val (.int b1), .val (.int b2)] [(.int (0 : Int32))]
        refine Own.callS W0 (tw hw 29 rfl) (tw hw 30 rfl) (tw hw 2 rfl) (tw hw 31 rfl) (by decide) (argsL := [(.int (0 : Int32))]) (rest := []) (Own.Con.pay (con_sgn hw hEL (0 : Int32) W0.old) W0 (tw hw 31 rfl) (tw hw 2 rfl) (len := 3) (wd := 0) (by decide) (by decide) (fun _ q => nomatch q)) rfl (lenOf pd_0 rfl) rfl (Nat.le_of_ble_eq_true rfl) d5_74 77 rfl 0 0 (Nat.le_of_ble_eq_true rfl) (Nat.le_of_ble_eq_true rfl) (Nat.le_of_ble_eq_true rfl) (Nat.le_of_ble_eq_true rfl) ?_
        intro v1 T1 h1 u1 W1 R1 hq
        obtain ⟨rfl, eh1⟩ := hq
        have ei1 := eh1.symm; subst ei1
        show Own.Go _ _ _ _ _ 77 #[.val (.int (3 : Int32)), .val (.int a0), .val (.int a1), .val (.int a2), .val (.int (3 : Int32)), .val (.int b0), .val (.int b1), .val (.int b2)] [(.int (sgn (0 : Int32)))]
        exact Own.retI W1 (by decide) (by decide) rfl d5_77 ⟨by rw [ref_eq e0, ref_eq e1, ref_eq e2, ref_end (Or.inl rfl)], rfl⟩
      · skip
        refine Own.icmpNo W0 d5_60 63 (XT.ii_eq_f e2) rfl ?_
        refine Own.iloadN W0 d5_63 64 rfl a2 rfl ?_
        refine Own.iload W0 d5_64 66 rfl b2 rfl ?_
        refine Own.callS W0 (tw hw 61 rfl) (tw hw 62 rfl) (tw hw 2 rfl) (tw hw 63 rfl) (by decide) (argsL := [(.int a2), (.int b2)]) (rest := []) (Own.Con.pay (con_uo hw hEL a2 b2 W0.old) W0 (tw hw 63 rfl) (tw hw 2 rfl) (len := 3) (wd := 0) (by decide) (by decide) (fun _ q => nomatch q)) rfl (lenOf pd_17 rfl) rfl (Nat.le_of_ble_eq_true rfl) d5_66 69 rfl 0 0 (Nat.le_of_ble_eq_true rfl) (Nat.le_of_ble_eq_true rfl) (Nat.le_of_ble_eq_true rfl) (Nat.le_of_ble_eq_true rfl) ?_
        intro v2 T2 h2 u2 W2 R2 hq
        obtain ⟨rfl, eh2⟩ := hq
        have ei2 := eh2.symm; subst ei2
        show Own.Go _ _ _ _ _ 69 #[.val (.int (3 : Int32)), .val (.int a0), .val (.int a1), .val (.int a2), .val (.int (3 : Int32)), .val (.int b0), .val (.int b1), .val (.int b2)] [(.int (uo a2 b2))]
        exact Own.retI W2 (by decide) (by decide) rfl d5_69 ⟨by rw [ref_eq e0, ref_eq e1, ref_ne e2], rfl⟩
    · skip
      refine Own.icmpNo W0 d5_36 39 (XT.ii_eq_f e1) rfl ?_
      refine Own.iloadN W0 d5_39 40 rfl a1 rfl ?_
      refine Own.iload W0 d5_40 42 rfl b1 rfl ?_
      refine Own.callS W0 (tw hw 61 rfl) (tw hw 62 rfl) (tw hw 2 rfl) (tw hw 63 rfl) (by decide) (argsL := [(.int a1), (.int b1)]) (rest := []) (Own.Con.pay (con_uo hw hEL a1 b1 W0.old) W0 (tw hw 63 rfl) (tw hw 2 rfl) (len := 3) (wd := 0) (by decide) (by decide) (fun _ q => nomatch q)) rfl (lenOf pd_17 rfl) rfl (Nat.le_of_ble_eq_true rfl) d5_42 45 rfl 0 0 (Nat.le_of_ble_eq_true rfl) (Nat.le_of_ble_eq_true rfl) (Nat.le_of_ble_eq_true rfl) (Nat.le_of_ble_eq_true rfl) ?_
      intro v3 T3 h3 u3 W3 R3 hq
      obtain ⟨rfl, eh3⟩ := hq
      have ei3 := eh3.symm; subst ei3
      show Own.Go _ _ _ _ _ 45 #[.val (.int (3 : Int32)), .val (.int a0), .val (.int a1), .val (.int a2), .val (.int (3 : Int32)), .val (.int b0), .val (.int b1), .val (.int b2)] [(.int (uo a1 b1))]
      exact Own.retI W3 (by decide) (by decide) rfl d5_45 ⟨by rw [ref_eq e0, ref_ne e1], rfl⟩
  · skip
    refine Own.icmpNo W0 d5_12 15 (XT.ii_eq_f e0) rfl ?_
    refine Own.iloadN W0 d5_15 16 rfl a0 rfl ?_
    refine Own.iload W0 d5_16 18 rfl b0 rfl ?_
    refine Own.callS W0 (tw hw 61 rfl) (tw hw 62 rfl) (tw hw 2 rfl) (tw hw 63 rfl) (by decide) (argsL := [(.int a0), (.int b0)]) (rest := []) (Own.Con.pay (con_uo hw hEL a0 b0 W0.old) W0 (tw hw 63 rfl) (tw hw 2 rfl) (len := 3) (wd := 0) (by decide) (by decide) (fun _ q => nomatch q)) rfl (lenOf pd_17 rfl) rfl (Nat.le_of_ble_eq_true rfl) d5_18 21 rfl 0 0 (Nat.le_of_ble_eq_true rfl) (Nat.le_of_ble_eq_true rfl) (Nat.le_of_ble_eq_true rfl) (Nat.le_of_ble_eq_true rfl) ?_
    intro v4 T4 h4 u4 W4 R4 hq
    obtain ⟨rfl, eh4⟩ := hq
    have ei4 := eh4.symm; subst ei4
    show Own.Go _ _ _ _ _ 21 #[.val (.int (3 : Int32)), .val (.int a0), .val (.int a1), .val (.int a2), .val (.int (3 : Int32)), .val (.int b0), .val (.int b1), .val (.int b2)] [(.int (uo a0 b0))]
    exact Own.retI W4 (by decide) (by decide) rfl d5_21 ⟨by rw [ref_ne e0], rfl⟩
set_option maxRecDepth 65536 in
set_option maxHeartbeats 40000000 in
theorem con_mk0 {G : Own.Gl} (hw : ∀ d ∈ tables_1, d.before G.a0 G.Z = true) (hEL : EW G.Z G.a0 G.EL) (hmem : (Own.ST, 7) ∈ G.EL) {cz : Int32} (hS : Sta G.Z G.Z.heap Own.ST "COMPACT_STRINGS" "Z" (.int cz)) (hcz : ¬ cz = 0) (TA : Sta G.Z G.Z.heap "java/lang/StringUTF16" "$assertionsDisabled" "Z" (.int 1)) (TH : Sta G.Z G.Z.heap "java/lang/StringUTF16" "HI_BYTE_SHIFT" "I" (.int 0)) (TL : Sta G.Z G.Z.heap "java/lang/StringUTF16" "LO_BYTE_SHIFT" "I" (.int 8)) {ln : Int32} (hln : ln = 0) {ch0 ch1 ch2 : Int32} (r0 : Own.R16 ch0) (r1 : Own.R16 ch1) (r2 : Own.R16 ch2) {h : Heap} (hO : Old G.Z G.n0 h) :
    Own.Con G [] bMk0 #[.int ln, .int ch0, .int ch1, .int ch2] h [] (fun v h' => ∃ a : Addr, v = some (.ref a) ∧ Ext h h' ∧ h.size ≤ a ∧ Own.Uni G.Z h' a []) := by
  refine Own.Con.intro (plainFor_of_name pn_3) hO hEL _ (fun m => ef_bMk0 m ln ch0 ch1 ch2) ?_
  intro X T0 W0 sf
  subst hln
  refine Own.iloadN W0 d1_0 1 rfl (0 : Int32) rfl ?_
  refine Own.ifNo W0 d1_1 4 (by decide) rfl ?_
  refine Own.newO W0 (tw hw 4 rfl) (tw hw 5 rfl) (tw hw 6 rfl) d1_4 7 rfl 1 4 (by decide) (by decide) (by decide) (by decide) ?_
  intro T1 h1 o1 g1 W1 E1 A1 D1 s1 k1
  have F1_value : Fld G.Z h1 o1 "java/lang/String" "value" "[B" .null := D1 (Or.inr (tw hw 20 rfl)) (ty := (.array .byte)) (by decide)
  have F1_coder : Fld G.Z h1 o1 "java/lang/String" "coder" "B" (.int (0 : Int32)) := D1 (Or.inr (tw hw 21 rfl)) (ty := .byte) (by decide)
  refine Own.dup W1 d1_7 8 rfl rfl ?_
  refine Own.iconst W1 d1_8 9 rfl (0 : Int32) rfl ?_
  refine Own.newA W1 (tw hw 7 rfl) d1_9 11 rfl (by decide) 0 (by decide) (by decide) 2 4 (by decide) (by decide) (by decide) (by decide) ?_
  intro T2 h2 o2 c2 g2 W2 E2 A2 s2 k2
  have V2 : Arv G.Z h2 o2 c2 .char (0 : Int32) [] (.int (0 : Int32)) := A2
  have X3 : Ext h1 h2 := E2
  refine Own.callX W2 rfl (tw hw 8 rfl) (tw hw 9 rfl) (tw hw 10 rfl) (by decide) (argsL := [(.ref o2)]) (rest := [(.ref o1)]) (Own.payStr (wS hw) hEL hmem W2 (cs := []) (z := (0 : Int32)) (cz := cz) (Nat.le_trans W0.n0 (Nat.le_of_eq g1.symm)) (k2 o1 s1) (A1.ext X3) (F1_value.ext X3) (F1_coder.ext X3) (V2) rfl (by intro c hc; cases hc) (Nat.le_of_ble_eq_true rfl) hS hcz (len := 3) (wd := 1) (by decide) (by decide)) rfl (lenOf pd_18 rfl) rfl (Nat.le_of_ble_eq_true rfl) d1_11 14 rfl 6 12 (Nat.le_of_ble_eq_true rfl) (Nat.le_of_ble_eq_true rfl) (Nat.le_of_ble_eq_true rfl) (Nat.le_of_ble_eq_true rfl) ?_
  intro v4 T4 h4 u4 W4 R4 hq
  obtain ⟨rfl, K4, F4⟩ := hq
  show Own.Go _ _ _ _ _ 14 #[.val (.int (0 : Int32)), .val (.int ch0), .val (.int ch1), .val (.int ch2)] [(.ref o1)]
  have UU : Own.Uni G.Z h4 o1 [] := Or.inl F4
  show Own.Go _ _ _ _ _ 14 #[.val (.int (0 : Int32)), .val (.int ch0), .val (.int ch1), .val (.int ch2)] [(.ref o1)]
  have X5 : Ext h h1 := E1
  have X6 : Ext h h2 := Own.Ext.tr X5 E2
  have X7 : Ext h h4 := Own.Ext.kp X6 K4 (allS (Nat.le_of_eq g1.symm) all0)
  exact Own.retA W4 (by decide) (by decide) rfl rfl rfl d1_14 ⟨o1, rfl, X7, (Nat.le_of_eq g1.symm), UU⟩
set_option maxRecDepth 65536 in
set_option maxHeartbeats 40000000 in
theorem con_mk1 {G : Own.Gl} (hw : ∀ d ∈ tables_1, d.before G.a0 G.Z = true) (hEL : EW G.Z G.a0 G.EL) (hmem : (Own.ST, 7) ∈ G.EL) {cz : Int32} (hS : Sta G.Z G.Z.heap Own.ST "COMPACT_STRINGS" "Z" (.int cz)) (hcz : ¬ cz = 0) (TA : Sta G.Z G.Z.heap "java/lang/StringUTF16" "$assertionsDisabled" "Z" (.int 1)) (TH : Sta G.Z G.Z.heap "java/lang/StringUTF16" "HI_BYTE_SHIFT" "I" (.int 0)) (TL : Sta G.Z G.Z.heap "java/lang/StringUTF16" "LO_BYTE_SHIFT" "I" (.int 8)) (hEN : Own.EN G.Z G.a0 G.EL 2) {ln : Int32} (hln : ln = 1) {ch0 ch1 ch2 : Int32} (r0 : Own.R16 ch0) (r1 : Own.R16 ch1) (r2 : Own.R16 ch2) {h : Heap} (hO : Old G.Z G.n0 h) :
    Own.Con G [] bMk1 #[.int ln, .int ch0, .int ch1, .int ch2] h [] (fun v h' => ∃ a : Addr, v = some (.ref a) ∧ Ext h h' ∧ h.size ≤ a ∧ Own.Uni G.Z h' a [ch0]) := by
  refine Own.Con.intro (plainFor_of_name pn_3) hO hEL _ (fun m => ef_bMk1 m ln ch0 ch1 ch2) ?_
  intro X T0 W0 sf
  subst hln
  refine Own.iloadN W0 d1_0 1 rfl (1 : Int32) rfl ?_
  refine Own.ifYes W0 d1_1 15 (by decide) (by decide) (by decide) ?_
  refine Own.iloadN W0 d1_15 16 rfl (1 : Int32) rfl ?_
  refine Own.iconst W0 d1_16 17 rfl (1 : Int32) rfl ?_
  refine Own.icmpNo W0 d1_17 20 (by decide) rfl ?_
  refine Own.newO W0 (tw hw 4 rfl) (tw hw 5 rfl) (tw hw 6 rfl) d1_20 23 rfl 1 4 (by decide) (by decide) (by decide) (by decide) ?_
  intro T1 h1 o1 g1 W1 E1 A1 D1 s1 k1
  have F1_value : Fld G.Z h1 o1 "java/lang/String" "value" "[B" .null := D1 (Or.inr (tw hw 20 rfl)) (ty := (.array .byte)) (by decide)
  have F1_coder : Fld G.Z h1 o1 "java/lang/String" "coder" "B" (.int (0 : Int32)) := D1 (Or.inr (tw hw 21 rfl)) (ty := .byte) (by decide)
  refine Own.dup W1 d1_23 24 rfl rfl ?_
  refine Own.iconst W1 d1_24 25 rfl (1 : Int32) rfl ?_
  refine Own.newA W1 (tw hw 7 rfl) d1_25 27 rfl (by decide) 1 (by decide) (by decide) 2 5 (by decide) (by decide) (by decide) (by decide) ?_
  intro T2 h2 o2 c2 g2 W2 E2 A2 s2 k2
  have V2 : Arv G.Z h2 o2 c2 .char (1 : Int32) [(.int (0 : Int32))] (.int (0 : Int32)) := A2
  refine Own.dup W2 d1_27 28 rfl rfl ?_
  refine Own.iconst W2 d1_28 29 rfl (0 : Int32) rfl ?_
  refine Own.iloadN W2 d1_29 30 rfl ch0 rfl ?_
  have X4 : Ext h h1 := E1
  refine Own.castore W2 V2 0 (by decide) (by decide) (Nat.le_of_ble_eq_true rfl) (Nat.le_trans W0.n0 (Nat.le_trans X4.1 (Nat.le_of_eq g2.symm))) (x' := ch0) (Own.narCh r0) d1_30 31 rfl ?_
  intro T3 h3 W3 Q3 A3 k3
  have V3 : Arv G.Z h3 o2 c2 .char (1 : Int32) [(.int ch0)] (.int (0 : Int32)) := A3
  have X5 : Ext h1 h2 := E2
  have X6 : Ext h1 h3 := Own.Ext.wr' X5 Q3 (Nat.le_of_eq g2.symm)
  by_cases hw255 : (255 : Int32) < ch0
  · skip
    refine Own.callX W3 rfl (tw hw 8 rfl) (tw hw 9 rfl) (tw hw 10 rfl) (by decide) (argsL := [(.ref o2)]) (rest := [(.ref o1)]) (Own.Con.pay (con_w11 hw hEL hmem hS hcz TA TH TL hEN hw255 r0 W3.old (Nat.le_trans W0.n0 (Nat.le_of_eq g1.symm)) (A1.ext X6) (F1_value.ext X6) (F1_coder.ext X6) V3) W3 (tw hw 10 rfl) (tw hw 6 rfl) (len := 3) (wd := 1) (by decide) (by decide) (fun y hy => by cases List.mem_singleton.mp hy; exact ⟨(A1.ext X6).lt, (k3 o1 (k2 o1 s1))⟩)) rfl (lenOf pd_18 rfl) rfl (Nat.le_of_ble_eq_true rfl) d1_31 34 rfl 4 8 (Nat.le_of_ble_eq_true rfl) (Nat.le_of_ble_eq_true rfl) (Nat.le_of_ble_eq_true rfl) (Nat.le_of_ble_eq_true rfl) ?_
    intro v7 T7 h7 u7 W7 R7 hq
    obtain ⟨rfl, K7, F7⟩ := hq
    have UU : Own.Uni G.Z h7 o1 [ch0] := Or.inr F7
    show Own.Go _ _ _ _ _ 34 #[.val (.int (1 : Int32)), .val (.int ch0), .val (.int ch1), .val (.int ch2)] [(.ref o1)]
    have X8 : Ext h h2 := Own.Ext.tr X4 E2
    have X9 : Ext h h3 := Own.Ext.wr' X8 Q3 (Nat.le_trans X4.1 (Nat.le_of_eq g2.symm))
    have X10 : Ext h h7 := Own.Ext.kp X9 K7 (allS (Nat.le_of_eq g1.symm) all0)
    exact Own.retA W7 (by decide) (by decide) rfl rfl rfl d1_34 ⟨o1, rfl, X10, (Nat.le_of_eq g1.symm), UU⟩
  · skip
    refine Own.callX W3 rfl (tw hw 8 rfl) (tw hw 9 rfl) (tw hw 10 rfl) (by decide) (argsL := [(.ref o2)]) (rest := [(.ref o1)]) (Own.payStr (wS hw) hEL hmem W3 (cs := [ch0]) (z := (1 : Int32)) (cz := cz) (Nat.le_trans W0.n0 (Nat.le_of_eq g1.symm)) (k3 o1 (k2 o1 s1)) (A1.ext X6) (F1_value.ext X6) (F1_coder.ext X6) (V3) rfl (by intro c hc; simp only [List.mem_cons, List.not_mem_nil, or_false] at hc; rcases hc with rfl; exact ⟨r0.1, fun q => hw255 (q)⟩) (Nat.le_of_ble_eq_true rfl) hS hcz (len := 3) (wd := 1) (by decide) (by decide)) rfl (lenOf pd_18 rfl) rfl (Nat.le_of_ble_eq_true rfl) d1_31 34 rfl 6 14 (Nat.le_of_ble_eq_true rfl) (Nat.le_of_ble_eq_true rfl) (Nat.le_of_ble_eq_true rfl) (Nat.le_of_ble_eq_true rfl) ?_
    intro v11 T11 h11 u11 W11 R11 hq
    obtain ⟨rfl, K11, F11⟩ := hq
    show Own.Go _ _ _ _ _ 34 #[.val (.int (1 : Int32)), .val (.int ch0), .val (.int ch1), .val (.int ch2)] [(.ref o1)]
    have UU : Own.Uni G.Z h11 o1 [ch0] := Or.inl F11
    show Own.Go _ _ _ _ _ 34 #[.val (.int (1 : Int32)), .val (.int ch0), .val (.int ch1), .val (.int ch2)] [(.ref o1)]
    have X12 : Ext h h2 := Own.Ext.tr X4 E2
    have X13 : Ext h h3 := Own.Ext.wr' X12 Q3 (Nat.le_trans X4.1 (Nat.le_of_eq g2.symm))
    have X14 : Ext h h11 := Own.Ext.kp X13 K11 (allS (Nat.le_of_eq g1.symm) all0)
    exact Own.retA W11 (by decide) (by decide) rfl rfl rfl d1_34 ⟨o1, rfl, X14, (Nat.le_of_eq g1.symm), UU⟩
set_option maxRecDepth 65536 in
set_option maxHeartbeats 40000000 in
theorem con_mk2 {G : Own.Gl} (hw : ∀ d ∈ tables_1, d.before G.a0 G.Z = true) (hEL : EW G.Z G.a0 G.EL) (hmem : (Own.ST, 7) ∈ G.EL) {cz : Int32} (hS : Sta G.Z G.Z.heap Own.ST "COMPACT_STRINGS" "Z" (.int cz)) (hcz : ¬ cz = 0) (TA : Sta G.Z G.Z.heap "java/lang/StringUTF16" "$assertionsDisabled" "Z" (.int 1)) (TH : Sta G.Z G.Z.heap "java/lang/StringUTF16" "HI_BYTE_SHIFT" "I" (.int 0)) (TL : Sta G.Z G.Z.heap "java/lang/StringUTF16" "LO_BYTE_SHIFT" "I" (.int 8)) (hEN : Own.EN G.Z G.a0 G.EL 4) {ln : Int32} (hln : ln = 2) {ch0 ch1 ch2 : Int32} (r0 : Own.R16 ch0) (r1 : Own.R16 ch1) (r2 : Own.R16 ch2) {h : Heap} (hO : Old G.Z G.n0 h) :
    Own.Con G [] bMk2 #[.int ln, .int ch0, .int ch1, .int ch2] h [] (fun v h' => ∃ a : Addr, v = some (.ref a) ∧ Ext h h' ∧ h.size ≤ a ∧ Own.Uni G.Z h' a [ch0, ch1]) := by
  refine Own.Con.intro (plainFor_of_name pn_3) hO hEL _ (fun m => ef_bMk2 m ln ch0 ch1 ch2) ?_
  intro X T0 W0 sf
  subst hln
  refine Own.iloadN W0 d1_0 1 rfl (2 : Int32) rfl ?_
  refine Own.ifYes W0 d1_1 15 (by decide) (by decide) (by decide) ?_
  refine Own.iloadN W0 d1_15 16 rfl (2 : Int32) rfl ?_
  refine Own.iconst W0 d1_16 17 rfl (1 : Int32) rfl ?_
  refine Own.icmpYes W0 d1_17 35 (by decide) (by decide) (by decide) ?_
  refine Own.iloadN W0 d1_35 36 rfl (2 : Int32) rfl ?_
  refine Own.iconst W0 d1_36 37 rfl (2 : Int32) rfl ?_
  refine Own.icmpNo W0 d1_37 40 (by decide) rfl ?_
  refine Own.newO W0 (tw hw 4 rfl) (tw hw 5 rfl) (tw hw 6 rfl) d1_40 43 rfl 1 4 (by decide) (by decide) (by decide) (by decide) ?_
  intro T1 h1 o1 g1 W1 E1 A1 D1 s1 k1
  have F1_value : Fld G.Z h1 o1 "java/lang/String" "value" "[B" .null := D1 (Or.inr (tw hw 20 rfl)) (ty := (.array .byte)) (by decide)
  have F1_coder : Fld G.Z h1 o1 "java/lang/String" "coder" "B" (.int (0 : Int32)) := D1 (Or.inr (tw hw 21 rfl)) (ty := .byte) (by decide)
  refine Own.dup W1 d1_43 44 rfl rfl ?_
  refine Own.iconst W1 d1_44 45 rfl (2 : Int32) rfl ?_
  refine Own.newA W1 (tw hw 7 rfl) d1_45 47 rfl (by decide) 2 (by decide) (by decide) 2 6 (by decide) (by decide) (by decide) (by decide) ?_
  intro T2 h2 o2 c2 g2 W2 E2 A2 s2 k2
  have V2 : Arv G.Z h2 o2 c2 .char (2 : Int32) [(.int (0 : Int32)), (.int (0 : Int32))] (.int (0 : Int32)) := A2
  refine Own.dup W2 d1_47 48 rfl rfl ?_
  refine Own.iconst W2 d1_48 49 rfl (0 : Int32) rfl ?_
  refine Own.iloadN W2 d1_49 50 rfl ch0 rfl ?_
  have X4 : Ext h h1 := E1
  refine Own.castore W2 V2 0 (by decide) (by decide) (Nat.le_of_ble_eq_true rfl) (Nat.le_trans W0.n0 (Nat.le_trans X4.1 (Nat.le_of_eq g2.symm))) (x' := ch0) (Own.narCh r0) d1_50 51 rfl ?_
  intro T3 h3 W3 Q3 A3 k3
  have V3 : Arv G.Z h3 o2 c2 .char (2 : Int32) [(.int ch0), (.int (0 : Int32))] (.int (0 : Int32)) := A3
  refine Own.dup W3 d1_51 52 rfl rfl ?_
  refine Own.iconst W3 d1_52 53 rfl (1 : Int32) rfl ?_
  refine Own.iloadN W3 d1_53 54 rfl ch1 rfl ?_
  refine Own.castore W3 V3 1 (by decide) (by decide) (Nat.le_of_ble_eq_true rfl) (Nat.le_trans W0.n0 (Nat.le_trans X4.1 (Nat.le_of_eq g2.symm))) (x' := ch1) (Own.narCh r1) d1_54 55 rfl ?_
  intro T5 h5 W5 Q5 A5 k5
  have V5 : Arv G.Z h5 o2 c2 .char (2 : Int32) [(.int ch0), (.int ch1)] (.int (0 : Int32)) := A5
  have X6 : Ext h1 h2 := E2
  have X7 : Ext h1 h3 := Own.Ext.wr' X6 Q3 (Nat.le_of_eq g2.symm)
  have X8 : Ext h1 h5 := Own.Ext.wr' X7 Q5 (Nat.le_of_eq g2.symm)
  by_cases hw255 : (255 : Int32) < ch0 ∨ (255 : Int32) < ch1
  · skip
    refine Own.callX W5 rfl (tw hw 8 rfl) (tw hw 9 rfl) (tw hw 10 rfl) (by decide) (argsL := [(.ref o2)]) (rest := [(.ref o1)]) (Own.Con.pay (con_w12 hw hEL hmem hS hcz TA TH TL hEN hw255 r0 r1 W5.old (Nat.le_trans W0.n0 (Nat.le_of_eq g1.symm)) (A1.ext X8) (F1_value.ext X8) (F1_coder.ext X8) V5) W5 (tw hw 10 rfl) (tw hw 6 rfl) (len := 3) (wd := 1) (by decide) (by decide) (fun y hy => by cases List.mem_singleton.mp hy; exact ⟨(A1.ext X8).lt, (k5 o1 (k3 o1 (k2 o1 s1)))⟩)) rfl (lenOf pd_18 rfl) rfl (Nat.le_of_ble_eq_true rfl) d1_55 58 rfl 4 12 (Nat.le_of_ble_eq_true rfl) (Nat.le_of_ble_eq_true rfl) (Nat.le_of_ble_eq_true rfl) (Nat.le_of_ble_eq_true rfl) ?_
    intro v9 T9 h9 u9 W9 R9 hq
    obtain ⟨rfl, K9, F9⟩ := hq
    have UU : Own.Uni G.Z h9 o1 [ch0, ch1] := Or.inr F9
    show Own.Go _ _ _ _ _ 58 #[.val (.int (2 : Int32)), .val (.int ch0), .val (.int ch1), .val (.int ch2)] [(.ref o1)]
    have X10 : Ext h h2 := Own.Ext.tr X4 E2
    have X11 : Ext h h3 := Own.Ext.wr' X10 Q3 (Nat.le_trans X4.1 (Nat.le_of_eq g2.symm))
    have X12 : Ext h h5 := Own.Ext.wr' X11 Q5 (Nat.le_trans X4.1 (Nat.le_of_eq g2.symm))
    have X13 : Ext h h9 := Own.Ext.kp X12 K9 (allS (Nat.le_of_eq g1.symm) all0)
    exact Own.retA W9 (by decide) (by decide) rfl rfl rfl d1_58 ⟨o1, rfl, X13, (Nat.le_of_eq g1.symm), UU⟩
  · skip
    refine Own.callX W5 rfl (tw hw 8 rfl) (tw hw 9 rfl) (tw hw 10 rfl) (by decide) (argsL := [(.ref o2)]) (rest := [(.ref o1)]) (Own.payStr (wS hw) hEL hmem W5 (cs := [ch0, ch1]) (z := (2 : Int32)) (cz := cz) (Nat.le_trans W0.n0 (Nat.le_of_eq g1.symm)) (k5 o1 (k3 o1 (k2 o1 s1))) (A1.ext X8) (F1_value.ext X8) (F1_coder.ext X8) (V5) rfl (by intro c hc; simp only [List.mem_cons, List.not_mem_nil, or_false] at hc; rcases hc with rfl | rfl; exact ⟨r0.1, fun q => hw255 (Or.inl q)⟩; exact ⟨r1.1, fun q => hw255 (Or.inr (q))⟩) (Nat.le_of_ble_eq_true rfl) hS hcz (len := 3) (wd := 1) (by decide) (by decide)) rfl (lenOf pd_18 rfl) rfl (Nat.le_of_ble_eq_true rfl) d1_55 58 rfl 6 16 (Nat.le_of_ble_eq_true rfl) (Nat.le_of_ble_eq_true rfl) (Nat.le_of_ble_eq_true rfl) (Nat.le_of_ble_eq_true rfl) ?_
    intro v14 T14 h14 u14 W14 R14 hq
    obtain ⟨rfl, K14, F14⟩ := hq
    show Own.Go _ _ _ _ _ 58 #[.val (.int (2 : Int32)), .val (.int ch0), .val (.int ch1), .val (.int ch2)] [(.ref o1)]
    have UU : Own.Uni G.Z h14 o1 [ch0, ch1] := Or.inl F14
    show Own.Go _ _ _ _ _ 58 #[.val (.int (2 : Int32)), .val (.int ch0), .val (.int ch1), .val (.int ch2)] [(.ref o1)]
    have X15 : Ext h h2 := Own.Ext.tr X4 E2
    have X16 : Ext h h3 := Own.Ext.wr' X15 Q3 (Nat.le_trans X4.1 (Nat.le_of_eq g2.symm))
    have X17 : Ext h h5 := Own.Ext.wr' X16 Q5 (Nat.le_trans X4.1 (Nat.le_of_eq g2.symm))
    have X18 : Ext h h14 := Own.Ext.kp X17 K14 (allS (Nat.le_of_eq g1.symm) all0)
    exact Own.retA W14 (by decide) (by decide) rfl rfl rfl d1_58 ⟨o1, rfl, X18, (Nat.le_of_eq g1.symm), UU⟩
set_option maxRecDepth 65536 in
set_option maxHeartbeats 40000000 in
theorem con_mk3 {G : Own.Gl} (hw : ∀ d ∈ tables_1, d.before G.a0 G.Z = true) (hEL : EW G.Z G.a0 G.EL) (hmem : (Own.ST, 7) ∈ G.EL) {cz : Int32} (hS : Sta G.Z G.Z.heap Own.ST "COMPACT_STRINGS" "Z" (.int cz)) (hcz : ¬ cz = 0) (TA : Sta G.Z G.Z.heap "java/lang/StringUTF16" "$assertionsDisabled" "Z" (.int 1)) (TH : Sta G.Z G.Z.heap "java/lang/StringUTF16" "HI_BYTE_SHIFT" "I" (.int 0)) (TL : Sta G.Z G.Z.heap "java/lang/StringUTF16" "LO_BYTE_SHIFT" "I" (.int 8)) (hEN : Own.EN G.Z G.a0 G.EL 6) {ln : Int32} (hln : ln = 3) {ch0 ch1 ch2 : Int32} (r0 : Own.R16 ch0) (r1 : Own.R16 ch1) (r2 : Own.R16 ch2) {h : Heap} (hO : Old G.Z G.n0 h) :
    Own.Con G [] bMk3 #[.int ln, .int ch0, .int ch1, .int ch2] h [] (fun v h' => ∃ a : Addr, v = some (.ref a) ∧ Ext h h' ∧ h.size ≤ a ∧ Own.Uni G.Z h' a [ch0, ch1, ch2]) := by
  refine Own.Con.intro (plainFor_of_name pn_3) hO hEL _ (fun m => ef_bMk3 m ln ch0 ch1 ch2) ?_
  intro X T0 W0 sf
  subst hln
  refine Own.iloadN W0 d1_0 1 rfl (3 : Int32) rfl ?_
  refine Own.ifYes W0 d1_1 15 (by decide) (by decide) (by decide) ?_
  refine Own.iloadN W0 d1_15 16 rfl (3 : Int32) rfl ?_
  refine Own.iconst W0 d1_16 17 rfl (1 : Int32) rfl ?_
  refine Own.icmpYes W0 d1_17 35 (by decide) (by decide) (by decide) ?_
  refine Own.iloadN W0 d1_35 36 rfl (3 : Int32) rfl ?_
  refine Own.iconst W0 d1_36 37 rfl (2 : Int32) rfl ?_
  refine Own.icmpYes W0 d1_37 59 (by decide) (by decide) (by decide) ?_
  refine Own.newO W0 (tw hw 4 rfl) (tw hw 5 rfl) (tw hw 6 rfl) d1_59 62 rfl 1 4 (by decide) (by decide) (by decide) (by decide) ?_
  intro T1 h1 o1 g1 W1 E1 A1 D1 s1 k1
  have F1_value : Fld G.Z h1 o1 "java/lang/String" "value" "[B" .null := D1 (Or.inr (tw hw 20 rfl)) (ty := (.array .byte)) (by decide)
  have F1_coder : Fld G.Z h1 o1 "java/lang/String" "coder" "B" (.int (0 : Int32)) := D1 (Or.inr (tw hw 21 rfl)) (ty := .byte) (by decide)
  refine Own.dup W1 d1_62 63 rfl rfl ?_
  refine Own.iconst W1 d1_63 64 rfl (3 : Int32) rfl ?_
  refine Own.newA W1 (tw hw 7 rfl) d1_64 66 rfl (by decide) 3 (by decide) (by decide) 2 7 (by decide) (by decide) (by decide) (by decide) ?_
  intro T2 h2 o2 c2 g2 W2 E2 A2 s2 k2
  have V2 : Arv G.Z h2 o2 c2 .char (3 : Int32) [(.int (0 : Int32)), (.int (0 : Int32)), (.int (0 : Int32))] (.int (0 : Int32)) := A2
  refine Own.dup W2 d1_66 67 rfl rfl ?_
  refine Own.iconst W2 d1_67 68 rfl (0 : Int32) rfl ?_
  refine Own.iloadN W2 d1_68 69 rfl ch0 rfl ?_
  have X4 : Ext h h1 := E1
  refine Own.castore W2 V2 0 (by decide) (by decide) (Nat.le_of_ble_eq_true rfl) (Nat.le_trans W0.n0 (Nat.le_trans X4.1 (Nat.le_of_eq g2.symm))) (x' := ch0) (Own.narCh r0) d1_69 70 rfl ?_
  intro T3 h3 W3 Q3 A3 k3
  have V3 : Arv G.Z h3 o2 c2 .char (3 : Int32) [(.int ch0), (.int (0 : Int32)), (.int (0 : Int32))] (.int (0 : Int32)) := A3
  refine Own.dup W3 d1_70 71 rfl rfl ?_
  refine Own.iconst W3 d1_71 72 rfl (1 : Int32) rfl ?_
  refine Own.iloadN W3 d1_72 73 rfl ch1 rfl ?_
  refine Own.castore W3 V3 1 (by decide) (by decide) (Nat.le_of_ble_eq_true rfl) (Nat.le_trans W0.n0 (Nat.le_trans X4.1 (Nat.le_of_eq g2.symm))) (x' := ch1) (Own.narCh r1) d1_73 74 rfl ?_
  intro T5 h5 W5 Q5 A5 k5
  have V5 : Arv G.Z h5 o2 c2 .char (3 : Int32) [(.int ch0), (.int ch1), (.int (0 : Int32))] (.int (0 : Int32)) := A5
  refine Own.dup W5 d1_74 75 rfl rfl ?_
  refine Own.iconst W5 d1_75 76 rfl (2 : Int32) rfl ?_
  refine Own.iloadN W5 d1_76 77 rfl ch2 rfl ?_
  refine Own.castore W5 V5 2 (by decide) (by decide) (Nat.le_of_ble_eq_true rfl) (Nat.le_trans W0.n0 (Nat.le_trans X4.1 (Nat.le_of_eq g2.symm))) (x' := ch2) (Own.narCh r2) d1_77 78 rfl ?_
  intro T6 h6 W6 Q6 A6 k6
  have V6 : Arv G.Z h6 o2 c2 .char (3 : Int32) [(.int ch0), (.int ch1), (.int ch2)] (.int (0 : Int32)) := A6
  have X7 : Ext h1 h2 := E2
  have X8 : Ext h1 h3 := Own.Ext.wr' X7 Q3 (Nat.le_of_eq g2.symm)
  have X9 : Ext h1 h5 := Own.Ext.wr' X8 Q5 (Nat.le_of_eq g2.symm)
  have X10 : Ext h1 h6 := Own.Ext.wr' X9 Q6 (Nat.le_of_eq g2.symm)
  by_cases hw255 : (255 : Int32) < ch0 ∨ (255 : Int32) < ch1 ∨ (255 : Int32) < ch2
  · skip
    refine Own.callX W6 rfl (tw hw 8 rfl) (tw hw 9 rfl) (tw hw 10 rfl) (by decide) (argsL := [(.ref o2)]) (rest := [(.ref o1)]) (Own.Con.pay (con_w13 hw hEL hmem hS hcz TA TH TL hEN hw255 r0 r1 r2 W6.old (Nat.le_trans W0.n0 (Nat.le_of_eq g1.symm)) (A1.ext X10) (F1_value.ext X10) (F1_coder.ext X10) V6) W6 (tw hw 10 rfl) (tw hw 6 rfl) (len := 3) (wd := 1) (by decide) (by decide) (fun y hy => by cases List.mem_singleton.mp hy; exact ⟨(A1.ext X10).lt, (k6 o1 (k5 o1 (k3 o1 (k2 o1 s1))))⟩)) rfl (lenOf pd_18 rfl) rfl (Nat.le_of_ble_eq_true rfl) d1_78 81 rfl 4 16 (Nat.le_of_ble_eq_true rfl) (Nat.le_of_ble_eq_true rfl) (Nat.le_of_ble_eq_true rfl) (Nat.le_of_ble_eq_true rfl) ?_
    intro v11 T11 h11 u11 W11 R11 hq
    obtain ⟨rfl, K11, F11⟩ := hq
    have UU : Own.Uni G.Z h11 o1 [ch0, ch1, ch2] := Or.inr F11
    show Own.Go _ _ _ _ _ 81 #[.val (.int (3 : Int32)), .val (.int ch0), .val (.int ch1), .val (.int ch2)] [(.ref o1)]
    have X12 : Ext h h2 := Own.Ext.tr X4 E2
    have X13 : Ext h h3 := Own.Ext.wr' X12 Q3 (Nat.le_trans X4.1 (Nat.le_of_eq g2.symm))
    have X14 : Ext h h5 := Own.Ext.wr' X13 Q5 (Nat.le_trans X4.1 (Nat.le_of_eq g2.symm))
    have X15 : Ext h h6 := Own.Ext.wr' X14 Q6 (Nat.le_trans X4.1 (Nat.le_of_eq g2.symm))
    have X16 : Ext h h11 := Own.Ext.kp X15 K11 (allS (Nat.le_of_eq g1.symm) all0)
    exact Own.retA W11 (by decide) (by decide) rfl rfl rfl d1_81 ⟨o1, rfl, X16, (Nat.le_of_eq g1.symm), UU⟩
  · skip
    refine Own.callX W6 rfl (tw hw 8 rfl) (tw hw 9 rfl) (tw hw 10 rfl) (by decide) (argsL := [(.ref o2)]) (rest := [(.ref o1)]) (Own.payStr (wS hw) hEL hmem W6 (cs := [ch0, ch1, ch2]) (z := (3 : Int32)) (cz := cz) (Nat.le_trans W0.n0 (Nat.le_of_eq g1.symm)) (k6 o1 (k5 o1 (k3 o1 (k2 o1 s1)))) (A1.ext X10) (F1_value.ext X10) (F1_coder.ext X10) (V6) rfl (by intro c hc; simp only [List.mem_cons, List.not_mem_nil, or_false] at hc; rcases hc with rfl | rfl | rfl; exact ⟨r0.1, fun q => hw255 (Or.inl q)⟩; exact ⟨r1.1, fun q => hw255 (Or.inr (Or.inl q))⟩; exact ⟨r2.1, fun q => hw255 (Or.inr (Or.inr (q)))⟩) (Nat.le_of_ble_eq_true rfl) hS hcz (len := 3) (wd := 1) (by decide) (by decide)) rfl (lenOf pd_18 rfl) rfl (Nat.le_of_ble_eq_true rfl) d1_78 81 rfl 6 18 (Nat.le_of_ble_eq_true rfl) (Nat.le_of_ble_eq_true rfl) (Nat.le_of_ble_eq_true rfl) (Nat.le_of_ble_eq_true rfl) ?_
    intro v17 T17 h17 u17 W17 R17 hq
    obtain ⟨rfl, K17, F17⟩ := hq
    show Own.Go _ _ _ _ _ 81 #[.val (.int (3 : Int32)), .val (.int ch0), .val (.int ch1), .val (.int ch2)] [(.ref o1)]
    have UU : Own.Uni G.Z h17 o1 [ch0, ch1, ch2] := Or.inl F17
    show Own.Go _ _ _ _ _ 81 #[.val (.int (3 : Int32)), .val (.int ch0), .val (.int ch1), .val (.int ch2)] [(.ref o1)]
    have X18 : Ext h h2 := Own.Ext.tr X4 E2
    have X19 : Ext h h3 := Own.Ext.wr' X18 Q3 (Nat.le_trans X4.1 (Nat.le_of_eq g2.symm))
    have X20 : Ext h h5 := Own.Ext.wr' X19 Q5 (Nat.le_trans X4.1 (Nat.le_of_eq g2.symm))
    have X21 : Ext h h6 := Own.Ext.wr' X20 Q6 (Nat.le_trans X4.1 (Nat.le_of_eq g2.symm))
    have X22 : Ext h h17 := Own.Ext.kp X21 K17 (allS (Nat.le_of_eq g1.symm) all0)
    exact Own.retA W17 (by decide) (by decide) rfl rfl rfl d1_81 ⟨o1, rfl, X22, (Nat.le_of_eq g1.symm), UU⟩
set_option maxRecDepth 65536 in
set_option maxHeartbeats 40000000 in
theorem con_law {G : Own.Gl} (hw : ∀ d ∈ tables_1, d.before G.a0 G.Z = true) (hEL : EW G.Z G.a0 G.EL) (hmem : (Own.ST, 7) ∈ G.EL) {cz : Int32} (hS : Sta G.Z G.Z.heap Own.ST "COMPACT_STRINGS" "Z" (.int cz)) (hcz : ¬ cz = 0) {fm : Value} (SF : Sta G.Z G.Z.heap "jdk/internal/util/Preconditions" "SIOOBE_FORMATTER" "Ljava/util/function/BiFunction;" fm) (rfm : fm.isRef = true) (TA : Sta G.Z G.Z.heap "java/lang/StringUTF16" "$assertionsDisabled" "Z" (.int 1)) (TH : Sta G.Z G.Z.heap "java/lang/StringUTF16" "HI_BYTE_SHIFT" "I" (.int 0)) (TL : Sta G.Z G.Z.heap "java/lang/StringUTF16" "LO_BYTE_SHIFT" "I" (.int 8)) (hEN2 : Own.EN G.Z G.a0 G.EL 2) (hEN4 : Own.EN G.Z G.a0 G.EL 4) (hEN6 : Own.EN G.Z G.a0 G.EL 6) (pa : Int64) (pb : Int64) (fl : Int32) {h : Heap} (hO : Old G.Z G.n0 h) :
    Own.Con G tables_1 bLaw #[.long pa, .long pb, .int fl] h [] (fun v h' => v = some (.int 1)) := by
  refine Own.Con.intro (plainFor_of_name pn_3) hO hEL _ (fun m => ef_law m pa pb fl) ?_
  intro X T0 W0 sf
  refine Own.iload W0 at_0 2 rfl fl rfl ?_
  refine Own.iconst W0 at_2 3 rfl (3 : Int32) rfl ?_
  refine Own.iand W0 at_3 4 rfl ?_
  refine Own.istore W0 at_4 6 rfl #[.val (.long pa), .second, .val (.long pb), .second, .val (.int fl), .val (.int (fA fl)), .unset, .unset, .unset, .unset, .unset, .unset, .unset, .unset, .unset, .unset, .unset, .unset] rfl ?_
  refine Own.iload W0 at_6 8 rfl fl rfl ?_
  refine Own.iconst W0 at_8 9 rfl (2 : Int32) rfl ?_
  refine Own.iushr W0 at_9 10 rfl ?_
  refine Own.iconst W0 at_10 11 rfl (3 : Int32) rfl ?_
  refine Own.iand W0 at_11 12 rfl ?_
  refine Own.istore W0 at_12 14 rfl #[.val (.long pa), .second, .val (.long pb), .second, .val (.int fl), .val (.int (fA fl)), .val (.int (fB fl)), .unset, .unset, .unset, .unset, .unset, .unset, .unset, .unset, .unset, .unset, .unset] rfl ?_
  refine Own.lloadN W0 at_14 15 rfl pa rfl ?_
  refine Own.l2i W0 at_15 16 rfl ?_
  refine Own.i2c W0 at_16 17 rfl ?_
  refine Own.istore W0 at_17 19 rfl #[.val (.long pa), .second, .val (.long pb), .second, .val (.int fl), .val (.int (fA fl)), .val (.int (fB fl)), .val (.int (cA pa)), .unset, .unset, .unset, .unset, .unset, .unset, .unset, .unset, .unset, .unset] rfl ?_
  refine Own.lloadN W0 at_19 20 rfl pa rfl ?_
  refine Own.bipush W0 at_20 22 rfl (16 : Int32) rfl ?_
  refine Own.lushr W0 at_22 23 rfl ?_
  refine Own.l2i W0 at_23 24 rfl ?_
  refine Own.i2c W0 at_24 25 rfl ?_
  refine Own.istore W0 at_25 27 rfl #[.val (.long pa), .second, .val (.long pb), .second, .val (.int fl), .val (.int (fA fl)), .val (.int (fB fl)), .val (.int (cA pa)), .val (.int (cS pa 16)), .unset, .unset, .unset, .unset, .unset, .unset, .unset, .unset, .unset] rfl ?_
  refine Own.lloadN W0 at_27 28 rfl pa rfl ?_
  refine Own.bipush W0 at_28 30 rfl (32 : Int32) rfl ?_
  refine Own.lushr W0 at_30 31 rfl ?_
  refine Own.l2i W0 at_31 32 rfl ?_
  refine Own.i2c W0 at_32 33 rfl ?_
  refine Own.istore W0 at_33 35 rfl #[.val (.long pa), .second, .val (.long pb), .second, .val (.int fl), .val (.int (fA fl)), .val (.int (fB fl)), .val (.int (cA pa)), .val (.int (cS pa 16)), .val (.int (cS pa 32)), .unset, .unset, .unset, .unset, .unset, .unset, .unset, .unset] rfl ?_
  refine Own.lloadN W0 at_35 36 rfl pb rfl ?_
  refine Own.l2i W0 at_36 37 rfl ?_
  refine Own.i2c W0 at_37 38 rfl ?_
  refine Own.istore W0 at_38 40 rfl #[.val (.long pa), .second, .val (.long pb), .second, .val (.int fl), .val (.int (fA fl)), .val (.int (fB fl)), .val (.int (cA pa)), .val (.int (cS pa 16)), .val (.int (cS pa 32)), .val (.int (cA pb)), .unset, .unset, .unset, .unset, .unset, .unset, .unset] rfl ?_
  refine Own.lloadN W0 at_40 41 rfl pb rfl ?_
  refine Own.bipush W0 at_41 43 rfl (16 : Int32) rfl ?_
  refine Own.lushr W0 at_43 44 rfl ?_
  refine Own.l2i W0 at_44 45 rfl ?_
  refine Own.i2c W0 at_45 46 rfl ?_
  refine Own.istore W0 at_46 48 rfl #[.val (.long pa), .second, .val (.long pb), .second, .val (.int fl), .val (.int (fA fl)), .val (.int (fB fl)), .val (.int (cA pa)), .val (.int (cS pa 16)), .val (.int (cS pa 32)), .val (.int (cA pb)), .val (.int (cS pb 16)), .unset, .unset, .unset, .unset, .unset, .unset] rfl ?_
  refine Own.lloadN W0 at_48 49 rfl pb rfl ?_
  refine Own.bipush W0 at_49 51 rfl (32 : Int32) rfl ?_
  refine Own.lushr W0 at_51 52 rfl ?_
  refine Own.l2i W0 at_52 53 rfl ?_
  refine Own.i2c W0 at_53 54 rfl ?_
  refine Own.istore W0 at_54 56 rfl #[.val (.long pa), .second, .val (.long pb), .second, .val (.int fl), .val (.int (fA fl)), .val (.int (fB fl)), .val (.int (cA pa)), .val (.int (cS pa 16)), .val (.int (cS pa 32)), .val (.int (cA pb)), .val (.int (cS pb 16)), .val (.int (cS pb 32)), .unset, .unset, .unset, .unset, .unset] rfl ?_
  have J : ∀ (b0 : Int32) (b1 : Int32) (b2 : Int32), Own.R16 b0 → Own.R16 b1 → Own.R16 b2 → Own.Go G X bLaw (fun v h' => v = some (.int 1)) T0 92 #[.val (.long pa), .second, .val (.long pb), .second, .val (.int fl), .val (.int (fA fl)), .val (.int (fB fl)), .val (.int (cA pa)), .val (.int (cS pa 16)), .val (.int (cS pa 32)), .val (.int b0), .val (.int b1), .val (.int b2), .unset, .unset, .unset, .unset, .unset] [] := by
    intro b0 b1 b2 q0 q1 q2
    rcases fourA fl with ea | ea | ea | ea
    · skip
      rw [ea]
      show Own.Go _ _ _ _ _ 92 #[.val (.long pa), .second, .val (.long pb), .second, .val (.int fl), .val (.int (0 : Int32)), .val (.int (fB fl)), .val (.int (cA pa)), .val (.int (cS pa 16)), .val (.int (cS pa 32)), .val (.int b0), .val (.int b1), .val (.int b2), .unset, .unset, .unset, .unset, .unset] []
      rcases fourB fl with eb | eb | eb | eb
      · skip
        rw [eb]
        show Own.Go _ _ _ _ _ 92 #[.val (.long pa), .second, .val (.long pb), .second, .val (.int fl), .val (.int (0 : Int32)), .val (.int (0 : Int32)), .val (.int (cA pa)), .val (.int (cS pa 16)), .val (.int (cS pa 32)), .val (.int b0), .val (.int b1), .val (.int b2), .unset, .unset, .unset, .unset, .unset] []
        refine Own.iload W0 at_92 94 rfl (0 : Int32) rfl ?_
        refine Own.iload W0 at_94 96 rfl (cA pa) rfl ?_
        refine Own.iload W0 at_96 98 rfl (cS pa 16) rfl ?_
        refine Own.iload W0 at_98 100 rfl (cS pa 32) rfl ?_
        refine Own.callS W0 (tw hw 0 rfl) (tw hw 1 rfl) (tw hw 2 rfl) (tw hw 3 rfl) (by decide) (argsL := [(.int (0 : Int32)), (.int (cA pa)), (.int (cS pa 16)), (.int (cS pa 32))]) (rest := []) (Own.Con.pay (con_mk0 hw hEL hmem hS hcz TA TH TL rfl (r16A pa) (r16S pa 16) (r16S pa 32) W0.old) W0 (tw hw 3 rfl) (tw hw 2 rfl) (len := 3) (wd := 0) (by decide) (by decide) (fun _ q => nomatch q)) rfl (lenOf pd_19 rfl) rfl (Nat.le_of_ble_eq_true rfl) at_100 103 rfl 6 24 (Nat.le_of_ble_eq_true rfl) (Nat.le_of_ble_eq_true rfl) (Nat.le_of_ble_eq_true rfl) (Nat.le_of_ble_eq_true rfl) ?_
        intro v1 T1 h1 u1 W1 R1 hq
        obtain ⟨o1, rfl, E1, g1, U1⟩ := hq
        show Own.Go _ _ _ _ _ 103 #[.val (.long pa), .second, .val (.long pb), .second, .val (.int fl), .val (.int (0 : Int32)), .val (.int (0 : Int32)), .val (.int (cA pa)), .val (.int (cS pa 16)), .val (.int (cS pa 32)), .val (.int b0), .val (.int b1), .val (.int b2), .unset, .unset, .unset, .unset, .unset] [(.ref o1)]
        refine Own.astore W1 at_103 105 rfl rfl #[.val (.long pa), .second, .val (.long pb), .second, .val (.int fl), .val (.int (0 : Int32)), .val (.int (0 : Int32)), .val (.int (cA pa)), .val (.int (cS pa 16)), .val (.int (cS pa 32)), .val (.int b0), .val (.int b1), .val (.int b2), .val (.ref o1), .unset, .unset, .unset, .unset] rfl ?_
        refine Own.iload W1 at_105 107 rfl (0 : Int32) rfl ?_
        refine Own.iload W1 at_107 109 rfl b0 rfl ?_
        refine Own.iload W1 at_109 111 rfl b1 rfl ?_
        refine Own.iload W1 at_111 113 rfl b2 rfl ?_
        refine Own.callS W1 (tw hw 0 rfl) (tw hw 1 rfl) (tw hw 2 rfl) (tw hw 3 rfl) (by decide) (argsL := [(.int (0 : Int32)), (.int b0), (.int b1), (.int b2)]) (rest := []) (Own.Con.pay (con_mk0 hw hEL hmem hS hcz TA TH TL rfl q0 q1 q2 W1.old) W1 (tw hw 3 rfl) (tw hw 2 rfl) (len := 3) (wd := 0) (by decide) (by decide) (fun _ q => nomatch q)) rfl (lenOf pd_19 rfl) rfl (Nat.le_of_ble_eq_true rfl) at_113 116 rfl 12 48 (Nat.le_of_ble_eq_true rfl) (Nat.le_of_ble_eq_true rfl) (Nat.le_of_ble_eq_true rfl) (Nat.le_of_ble_eq_true rfl) ?_
        intro v2 T2 h2 u2 W2 R2 hq
        obtain ⟨o2, rfl, E2, g2, U2⟩ := hq
        show Own.Go _ _ _ _ _ 116 #[.val (.long pa), .second, .val (.long pb), .second, .val (.int fl), .val (.int (0 : Int32)), .val (.int (0 : Int32)), .val (.int (cA pa)), .val (.int (cS pa 16)), .val (.int (cS pa 32)), .val (.int b0), .val (.int b1), .val (.int b2), .val (.ref o1), .unset, .unset, .unset, .unset] [(.ref o2)]
        refine Own.astore W2 at_116 118 rfl rfl #[.val (.long pa), .second, .val (.long pb), .second, .val (.int fl), .val (.int (0 : Int32)), .val (.int (0 : Int32)), .val (.int (cA pa)), .val (.int (cS pa 16)), .val (.int (cS pa 32)), .val (.int b0), .val (.int b1), .val (.int b2), .val (.ref o1), .val (.ref o2), .unset, .unset, .unset] rfl ?_
        refine Own.iload W2 at_118 120 rfl (0 : Int32) rfl ?_
        refine Own.iload W2 at_120 122 rfl (cA pa) rfl ?_
        refine Own.iload W2 at_122 124 rfl (cS pa 16) rfl ?_
        refine Own.iload W2 at_124 126 rfl (cS pa 32) rfl ?_
        refine Own.iload W2 at_126 128 rfl (0 : Int32) rfl ?_
        refine Own.iload W2 at_128 130 rfl b0 rfl ?_
        refine Own.iload W2 at_130 132 rfl b1 rfl ?_
        refine Own.iload W2 at_132 134 rfl b2 rfl ?_
        refine Own.callS W2 (tw hw 26 rfl) (tw hw 27 rfl) (tw hw 2 rfl) (tw hw 28 rfl) (by decide) (argsL := [(.int (0 : Int32)), (.int (cA pa)), (.int (cS pa 16)), (.int (cS pa 32)), (.int (0 : Int32)), (.int b0), (.int b1), (.int b2)]) (rest := []) (Own.Con.pay (con_ref00 hw hEL rfl rfl _ _ _ _ _ _ W2.old) W2 (tw hw 28 rfl) (tw hw 2 rfl) (len := 3) (wd := 0) (by decide) (by decide) (fun _ q => nomatch q)) rfl (lenOf pd_20 rfl) rfl (Nat.le_of_ble_eq_true rfl) at_134 137 rfl 12 48 (Nat.le_of_ble_eq_true rfl) (Nat.le_of_ble_eq_true rfl) (Nat.le_of_ble_eq_true rfl) (Nat.le_of_ble_eq_true rfl) ?_
        intro v3 T3 h3 u3 W3 R3 hq
        obtain ⟨rfl, eh3⟩ := hq
        have ei3 := eh3.symm; subst ei3
        show Own.Go _ _ _ _ _ 137 #[.val (.long pa), .second, .val (.long pb), .second, .val (.int fl), .val (.int (0 : Int32)), .val (.int (0 : Int32)), .val (.int (cA pa)), .val (.int (cS pa 16)), .val (.int (cS pa 32)), .val (.int b0), .val (.int b1), .val (.int b2), .val (.ref o1), .val (.ref o2), .unset, .unset, .unset] [(.int (refF [] [] (sgn (0 : Int32))))]
        refine Own.istore W3 at_137 139 rfl #[.val (.long pa), .second, .val (.long pb), .second, .val (.int fl), .val (.int (0 : Int32)), .val (.int (0 : Int32)), .val (.int (cA pa)), .val (.int (cS pa 16)), .val (.int (cS pa 32)), .val (.int b0), .val (.int b1), .val (.int b2), .val (.ref o1), .val (.ref o2), .val (.int (refF [] [] (sgn (0 : Int32)))), .unset, .unset] rfl ?_
        refine Own.aload W3 at_139 141 rfl (.ref o1) rfl rfl ?_
        refine Own.aload W3 at_141 143 rfl (.ref o2) rfl rfl ?_
        have X4 : Ext h1 h2 := E2
        refine Own.callS W3 (tw hw 32 rfl) (tw hw 33 rfl) (tw hw 34 rfl) (tw hw 35 rfl) (by decide) (argsL := [(.ref o1), (.ref o2)]) (rest := []) (Own.Con.pay (con_cmp00 hw hEL hmem hS hcz SF rfm TA TH TL W3.old (U1.ext X4) U2) W3 (tw hw 35 rfl) (tw hw 34 rfl) (len := 3) (wd := 0) (by decide) (by decide) (fun _ q => nomatch q)) rfl (lenOf pd_21 rfl) rfl (Nat.le_of_ble_eq_true rfl) at_143 146 rfl 12 48 (Nat.le_of_ble_eq_true rfl) (Nat.le_of_ble_eq_true rfl) (Nat.le_of_ble_eq_true rfl) (Nat.le_of_ble_eq_true rfl) ?_
        intro v5 T5 h5 u5 W5 R5 hq
        obtain ⟨rfl, eh5⟩ := hq
        have ei5 := eh5.symm; subst ei5
        show Own.Go _ _ _ _ _ 146 #[.val (.long pa), .second, .val (.long pb), .second, .val (.int fl), .val (.int (0 : Int32)), .val (.int (0 : Int32)), .val (.int (cA pa)), .val (.int (cS pa 16)), .val (.int (cS pa 32)), .val (.int b0), .val (.int b1), .val (.int b2), .val (.ref o1), .val (.ref o2), .val (.int (refF [] [] (sgn (0 : Int32)))), .unset, .unset] [(.int (cmpF [] [] (0 : Int32)))]
        refine Own.callS W5 (tw hw 29 rfl) (tw hw 30 rfl) (tw hw 2 rfl) (tw hw 31 rfl) (by decide) (argsL := [(.int (cmpF [] [] (0 : Int32)))]) (rest := []) (Own.Con.pay (con_sgn hw hEL _ W5.old) W5 (tw hw 31 rfl) (tw hw 2 rfl) (len := 3) (wd := 0) (by decide) (by decide) (fun _ q => nomatch q)) rfl (lenOf pd_0 rfl) rfl (Nat.le_of_ble_eq_true rfl) at_146 149 rfl 12 48 (Nat.le_of_ble_eq_true rfl) (Nat.le_of_ble_eq_true rfl) (Nat.le_of_ble_eq_true rfl) (Nat.le_of_ble_eq_true rfl) ?_
        intro v6 T6 h6 u6 W6 R6 hq
        obtain ⟨rfl, eh6⟩ := hq
        have ei6 := eh6.symm; subst ei6
        show Own.Go _ _ _ _ _ 149 #[.val (.long pa), .second, .val (.long pb), .second, .val (.int fl), .val (.int (0 : Int32)), .val (.int (0 : Int32)), .val (.int (cA pa)), .val (.int (cS pa 16)), .val (.int (cS pa 32)), .val (.int b0), .val (.int b1), .val (.int b2), .val (.ref o1), .val (.ref o2), .val (.int (refF [] [] (sgn (0 : Int32)))), .unset, .unset] [(.int (sgn (cmpF [] [] (0 : Int32))))]
        refine Own.istore W6 at_149 151 rfl #[.val (.long pa), .second, .val (.long pb), .second, .val (.int fl), .val (.int (0 : Int32)), .val (.int (0 : Int32)), .val (.int (cA pa)), .val (.int (cS pa 16)), .val (.int (cS pa 32)), .val (.int b0), .val (.int b1), .val (.int b2), .val (.ref o1), .val (.ref o2), .val (.int (refF [] [] (sgn (0 : Int32)))), .val (.int (sgn (cmpF [] [] (0 : Int32)))), .unset] rfl ?_
        refine Own.aload W6 at_151 153 rfl (.ref o2) rfl rfl ?_
        refine Own.aload W6 at_153 155 rfl (.ref o1) rfl rfl ?_
        refine Own.callS W6 (tw hw 32 rfl) (tw hw 33 rfl) (tw hw 34 rfl) (tw hw 35 rfl) (by decide) (argsL := [(.ref o2), (.ref o1)]) (rest := []) (Own.Con.pay (con_cmp00 hw hEL hmem hS hcz SF rfm TA TH TL W6.old U2 (U1.ext X4)) W6 (tw hw 35 rfl) (tw hw 34 rfl) (len := 3) (wd := 0) (by decide) (by decide) (fun _ q => nomatch q)) rfl (lenOf pd_21 rfl) rfl (Nat.le_of_ble_eq_true rfl) at_155 158 rfl 12 48 (Nat.le_of_ble_eq_true rfl) (Nat.le_of_ble_eq_true rfl) (Nat.le_of_ble_eq_true rfl) (Nat.le_of_ble_eq_true rfl) ?_
        intro v7 T7 h7 u7 W7 R7 hq
        obtain ⟨rfl, eh7⟩ := hq
        have ei7 := eh7.symm; subst ei7
        show Own.Go _ _ _ _ _ 158 #[.val (.long pa), .second, .val (.long pb), .second, .val (.int fl), .val (.int (0 : Int32)), .val (.int (0 : Int32)), .val (.int (cA pa)), .val (.int (cS pa 16)), .val (.int (cS pa 32)), .val (.int b0), .val (.int b1), .val (.int b2), .val (.ref o1), .val (.ref o2), .val (.int (refF [] [] (sgn (0 : Int32)))), .val (.int (sgn (cmpF [] [] (0 : Int32)))), .unset] [(.int (cmpF [] [] (0 : Int32)))]
        refine Own.callS W7 (tw hw 29 rfl) (tw hw 30 rfl) (tw hw 2 rfl) (tw hw 31 rfl) (by decide) (argsL := [(.int (cmpF [] [] (0 : Int32)))]) (rest := []) (Own.Con.pay (con_sgn hw hEL _ W7.old) W7 (tw hw 31 rfl) (tw hw 2 rfl) (len := 3) (wd := 0) (by decide) (by decide) (fun _ q => nomatch q)) rfl (lenOf pd_0 rfl) rfl (Nat.le_of_ble_eq_true rfl) at_158 161 rfl 12 48 (Nat.le_of_ble_eq_true rfl) (Nat.le_of_ble_eq_true rfl) (Nat.le_of_ble_eq_true rfl) (Nat.le_of_ble_eq_true rfl) ?_
        intro v8 T8 h8 u8 W8 R8 hq
        obtain ⟨rfl, eh8⟩ := hq
        have ei8 := eh8.symm; subst ei8
        show Own.Go _ _ _ _ _ 161 #[.val (.long pa), .second, .val (.long pb), .second, .val (.int fl), .val (.int (0 : Int32)), .val (.int (0 : Int32)), .val (.int (cA pa)), .val (.int (cS pa 16)), .val (.int (cS pa 32)), .val (.int b0), .val (.int b1), .val (.int b2), .val (.ref o1), .val (.ref o2), .val (.int (refF [] [] (sgn (0 : Int32)))), .val (.int (sgn (cmpF [] [] (0 : Int32)))), .unset] [(.int (sgn (cmpF [] [] (0 : Int32))))]
        refine Own.istore W8 at_161 163 rfl #[.val (.long pa), .second, .val (.long pb), .second, .val (.int fl), .val (.int (0 : Int32)), .val (.int (0 : Int32)), .val (.int (cA pa)), .val (.int (cS pa 16)), .val (.int (cS pa 32)), .val (.int b0), .val (.int b1), .val (.int b2), .val (.ref o1), .val (.ref o2), .val (.int (refF [] [] (sgn (0 : Int32)))), .val (.int (sgn (cmpF [] [] (0 : Int32)))), .val (.int (sgn (cmpF [] [] (0 : Int32))))] rfl ?_
        refine Own.iload W8 at_163 165 rfl (sgn (cmpF [] [] (0 : Int32))) rfl ?_
        refine Own.iload W8 at_165 167 rfl (refF [] [] (sgn (0 : Int32))) rfl ?_
        have P := pureL [] [] (0 : Int32) (0 : Int32) (by decide) all_0 all_0
        refine Own.icmpNo W8 at_167 170 (XT.ii_ne_f P.1) rfl ?_
        refine Own.iload W8 at_170 172 rfl (sgn (cmpF [] [] (0 : Int32))) rfl ?_
        refine Own.iload W8 at_172 174 rfl (refF [] [] (sgn (0 : Int32))) rfl ?_
        refine Own.ineg W8 at_174 175 rfl ?_
        refine Own.icmpNo W8 at_175 178 (XT.ii_ne_f P.2) rfl ?_
        refine Own.iconst W8 at_178 179 rfl (1 : Int32) rfl ?_
        refine Own.goto W8 at_179 183 (by decide) (by decide) ?_
        exact Own.retB W8 (by decide) (by decide) rfl at_183 rfl rfl
      · skip
        rw [eb]
        show Own.Go _ _ _ _ _ 92 #[.val (.long pa), .second, .val (.long pb), .second, .val (.int fl), .val (.int (0 : Int32)), .val (.int (1 : Int32)), .val (.int (cA pa)), .val (.int (cS pa 16)), .val (.int (cS pa 32)), .val (.int b0), .val (.int b1), .val (.int b2), .unset, .unset, .unset, .unset, .unset] []
        refine Own.iload W0 at_92 94 rfl (0 : Int32) rfl ?_
        refine Own.iload W0 at_94 96 rfl (cA pa) rfl ?_
        refine Own.iload W0 at_96 98 rfl (cS pa 16) rfl ?_
        refine Own.iload W0 at_98 100 rfl (cS pa 32) rfl ?_
        refine Own.callS W0 (tw hw 0 rfl) (tw hw 1 rfl) (tw hw 2 rfl) (tw hw 3 rfl) (by decide) (argsL := [(.int (0 : Int32)), (.int (cA pa)), (.int (cS pa 16)), (.int (cS pa 32))]) (rest := []) (Own.Con.pay (con_mk0 hw hEL hmem hS hcz TA TH TL rfl (r16A pa) (r16S pa 16) (r16S pa 32) W0.old) W0 (tw hw 3 rfl) (tw hw 2 rfl) (len := 3) (wd := 0) (by decide) (by decide) (fun _ q => nomatch q)) rfl (lenOf pd_19 rfl) rfl (Nat.le_of_ble_eq_true rfl) at_100 103 rfl 6 24 (Nat.le_of_ble_eq_true rfl) (Nat.le_of_ble_eq_true rfl) (Nat.le_of_ble_eq_true rfl) (Nat.le_of_ble_eq_true rfl) ?_
        intro v9 T9 h9 u9 W9 R9 hq
        obtain ⟨o9, rfl, E9, g9, U9⟩ := hq
        show Own.Go _ _ _ _ _ 103 #[.val (.long pa), .second, .val (.long pb), .second, .val (.int fl), .val (.int (0 : Int32)), .val (.int (1 : Int32)), .val (.int (cA pa)), .val (.int (cS pa 16)), .val (.int (cS pa 32)), .val (.int b0), .val (.int b1), .val (.int b2), .unset, .unset, .unset, .unset, .unset] [(.ref o9)]
        refine Own.astore W9 at_103 105 rfl rfl #[.val (.long pa), .second, .val (.long pb), .second, .val (.int fl), .val (.int (0 : Int32)), .val (.int (1 : Int32)), .val (.int (cA pa)), .val (.int (cS pa 16)), .val (.int (cS pa 32)), .val (.int b0), .val (.int b1), .val (.int b2), .val (.ref o9), .unset, .unset, .unset, .unset] rfl ?_
        refine Own.iload W9 at_105 107 rfl (1 : Int32) rfl ?_
        refine Own.iload W9 at_107 109 rfl b0 rfl ?_
        refine Own.iload W9 at_109 111 rfl b1 rfl ?_
        refine Own.iload W9 at_111 113 rfl b2 rfl ?_
        refine Own.callS W9 (tw hw 0 rfl) (tw hw 1 rfl) (tw hw 2 rfl) (tw hw 3 rfl) (by decide) (argsL := [(.int (1 : Int32)), (.int b0), (.int b1), (.int b2)]) (rest := []) (Own.Con.pay (con_mk1 hw hEL hmem hS hcz TA TH TL hEN2 rfl q0 q1 q2 W9.old) W9 (tw hw 3 rfl) (tw hw 2 rfl) (len := 3) (wd := 0) (by decide) (by decide) (fun _ q => nomatch q)) rfl (lenOf pd_19 rfl) rfl (Nat.le_of_ble_eq_true rfl) at_113 116 rfl 12 48 (Nat.le_of_ble_eq_true rfl) (Nat.le_of_ble_eq_true rfl) (Nat.le_of_ble_eq_true rfl) (Nat.le_of_ble_eq_true rfl) ?_
        intro v10 T10 h10 u10 W10 R10 hq
        obtain ⟨o10, rfl, E10, g10, U10⟩ := hq
        show Own.Go _ _ _ _ _ 116 #[.val (.long pa), .second, .val (.long pb), .second, .val (.int fl), .val (.int (0 : Int32)), .val (.int (1 : Int32)), .val (.int (cA pa)), .val (.int (cS pa 16)), .val (.int (cS pa 32)), .val (.int b0), .val (.int b1), .val (.int b2), .val (.ref o9), .unset, .unset, .unset, .unset] [(.ref o10)]
        refine Own.astore W10 at_116 118 rfl rfl #[.val (.long pa), .second, .val (.long pb), .second, .val (.int fl), .val (.int (0 : Int32)), .val (.int (1 : Int32)), .val (.int (cA pa)), .val (.int (cS pa 16)), .val (.int (cS pa 32)), .val (.int b0), .val (.int b1), .val (.int b2), .val (.ref o9), .val (.ref o10), .unset, .unset, .unset] rfl ?_
        refine Own.iload W10 at_118 120 rfl (0 : Int32) rfl ?_
        refine Own.iload W10 at_120 122 rfl (cA pa) rfl ?_
        refine Own.iload W10 at_122 124 rfl (cS pa 16) rfl ?_
        refine Own.iload W10 at_124 126 rfl (cS pa 32) rfl ?_
        refine Own.iload W10 at_126 128 rfl (1 : Int32) rfl ?_
        refine Own.iload W10 at_128 130 rfl b0 rfl ?_
        refine Own.iload W10 at_130 132 rfl b1 rfl ?_
        refine Own.iload W10 at_132 134 rfl b2 rfl ?_
        refine Own.callS W10 (tw hw 26 rfl) (tw hw 27 rfl) (tw hw 2 rfl) (tw hw 28 rfl) (by decide) (argsL := [(.int (0 : Int32)), (.int (cA pa)), (.int (cS pa 16)), (.int (cS pa 32)), (.int (1 : Int32)), (.int b0), (.int b1), (.int b2)]) (rest := []) (Own.Con.pay (con_ref01 hw hEL rfl rfl _ _ _ _ _ _ W10.old) W10 (tw hw 28 rfl) (tw hw 2 rfl) (len := 3) (wd := 0) (by decide) (by decide) (fun _ q => nomatch q)) rfl (lenOf pd_20 rfl) rfl (Nat.le_of_ble_eq_true rfl) at_134 137 rfl 12 48 (Nat.le_of_ble_eq_true rfl) (Nat.le_of_ble_eq_true rfl) (Nat.le_of_ble_eq_true rfl) (Nat.le_of_ble_eq_true rfl) ?_
        intro v11 T11 h11 u11 W11 R11 hq
        obtain ⟨rfl, eh11⟩ := hq
        have ei11 := eh11.symm; subst ei11
        show Own.Go _ _ _ _ _ 137 #[.val (.long pa), .second, .val (.long pb), .second, .val (.int fl), .val (.int (0 : Int32)), .val (.int (1 : Int32)), .val (.int (cA pa)), .val (.int (cS pa 16)), .val (.int (cS pa 32)), .val (.int b0), .val (.int b1), .val (.int b2), .val (.ref o9), .val (.ref o10), .unset, .unset, .unset] [(.int (refF [] [b0] (sgn (-1 : Int32))))]
        refine Own.istore W11 at_137 139 rfl #[.val (.long pa), .second, .val (.long pb), .second, .val (.int fl), .val (.int (0 : Int32)), .val (.int (1 : Int32)), .val (.int (cA pa)), .val (.int (cS pa 16)), .val (.int (cS pa 32)), .val (.int b0), .val (.int b1), .val (.int b2), .val (.ref o9), .val (.ref o10), .val (.int (refF [] [b0] (sgn (-1 : Int32)))), .unset, .unset] rfl ?_
        refine Own.aload W11 at_139 141 rfl (.ref o9) rfl rfl ?_
        refine Own.aload W11 at_141 143 rfl (.ref o10) rfl rfl ?_
        have X12 : Ext h9 h10 := E10
        refine Own.callS W11 (tw hw 32 rfl) (tw hw 33 rfl) (tw hw 34 rfl) (tw hw 35 rfl) (by decide) (argsL := [(.ref o9), (.ref o10)]) (rest := []) (Own.Con.pay (con_cmp01 hw hEL hmem hS hcz SF rfm TA TH TL W11.old (U9.ext X12) U10) W11 (tw hw 35 rfl) (tw hw 34 rfl) (len := 3) (wd := 0) (by decide) (by decide) (fun _ q => nomatch q)) rfl (lenOf pd_21 rfl) rfl (Nat.le_of_ble_eq_true rfl) at_143 146 rfl 12 48 (Nat.le_of_ble_eq_true rfl) (Nat.le_of_ble_eq_true rfl) (Nat.le_of_ble_eq_true rfl) (Nat.le_of_ble_eq_true rfl) ?_
        intro v13 T13 h13 u13 W13 R13 hq
        obtain ⟨rfl, eh13⟩ := hq
        have ei13 := eh13.symm; subst ei13
        show Own.Go _ _ _ _ _ 146 #[.val (.long pa), .second, .val (.long pb), .second, .val (.int fl), .val (.int (0 : Int32)), .val (.int (1 : Int32)), .val (.int (cA pa)), .val (.int (cS pa 16)), .val (.int (cS pa 32)), .val (.int b0), .val (.int b1), .val (.int b2), .val (.ref o9), .val (.ref o10), .val (.int (refF [] [b0] (sgn (-1 : Int32)))), .unset, .unset] [(.int (cmpF [] [b0] (-1 : Int32)))]
        refine Own.callS W13 (tw hw 29 rfl) (tw hw 30 rfl) (tw hw 2 rfl) (tw hw 31 rfl) (by decide) (argsL := [(.int (cmpF [] [b0] (-1 : Int32)))]) (rest := []) (Own.Con.pay (con_sgn hw hEL _ W13.old) W13 (tw hw 31 rfl) (tw hw 2 rfl) (len := 3) (wd := 0) (by decide) (by decide) (fun _ q => nomatch q)) rfl (lenOf pd_0 rfl) rfl (Nat.le_of_ble_eq_true rfl) at_146 149 rfl 12 48 (Nat.le_of_ble_eq_true rfl) (Nat.le_of_ble_eq_true rfl) (Nat.le_of_ble_eq_true rfl) (Nat.le_of_ble_eq_true rfl) ?_
        intro v14 T14 h14 u14 W14 R14 hq
        obtain ⟨rfl, eh14⟩ := hq
        have ei14 := eh14.symm; subst ei14
        show Own.Go _ _ _ _ _ 149 #[.val (.long pa), .second, .val (.long pb), .second, .val (.int fl), .val (.int (0 : Int32)), .val (.int (1 : Int32)), .val (.int (cA pa)), .val (.int (cS pa 16)), .val (.int (cS pa 32)), .val (.int b0), .val (.int b1), .val (.int b2), .val (.ref o9), .val (.ref o10), .val (.int (refF [] [b0] (sgn (-1 : Int32)))), .unset, .unset] [(.int (sgn (cmpF [] [b0] (-1 : Int32))))]
        refine Own.istore W14 at_149 151 rfl #[.val (.long pa), .second, .val (.long pb), .second, .val (.int fl), .val (.int (0 : Int32)), .val (.int (1 : Int32)), .val (.int (cA pa)), .val (.int (cS pa 16)), .val (.int (cS pa 32)), .val (.int b0), .val (.int b1), .val (.int b2), .val (.ref o9), .val (.ref o10), .val (.int (refF [] [b0] (sgn (-1 : Int32)))), .val (.int (sgn (cmpF [] [b0] (-1 : Int32)))), .unset] rfl ?_
        refine Own.aload W14 at_151 153 rfl (.ref o10) rfl rfl ?_
        refine Own.aload W14 at_153 155 rfl (.ref o9) rfl rfl ?_
        refine Own.callS W14 (tw hw 32 rfl) (tw hw 33 rfl) (tw hw 34 rfl) (tw hw 35 rfl) (by decide) (argsL := [(.ref o10), (.ref o9)]) (rest := []) (Own.Con.pay (con_cmp10 hw hEL hmem hS hcz SF rfm TA TH TL W14.old U10 (U9.ext X12)) W14 (tw hw 35 rfl) (tw hw 34 rfl) (len := 3) (wd := 0) (by decide) (by decide) (fun _ q => nomatch q)) rfl (lenOf pd_21 rfl) rfl (Nat.le_of_ble_eq_true rfl) at_155 158 rfl 12 48 (Nat.le_of_ble_eq_true rfl) (Nat.le_of_ble_eq_true rfl) (Nat.le_of_ble_eq_true rfl) (Nat.le_of_ble_eq_true rfl) ?_
        intro v15 T15 h15 u15 W15 R15 hq
        obtain ⟨rfl, eh15⟩ := hq
        have ei15 := eh15.symm; subst ei15
        show Own.Go _ _ _ _ _ 158 #[.val (.long pa), .second, .val (.long pb), .second, .val (.int fl), .val (.int (0 : Int32)), .val (.int (1 : Int32)), .val (.int (cA pa)), .val (.int (cS pa 16)), .val (.int (cS pa 32)), .val (.int b0), .val (.int b1), .val (.int b2), .val (.ref o9), .val (.ref o10), .val (.int (refF [] [b0] (sgn (-1 : Int32)))), .val (.int (sgn (cmpF [] [b0] (-1 : Int32)))), .unset] [(.int (cmpF [b0] [] (1 : Int32)))]
        refine Own.callS W15 (tw hw 29 rfl) (tw hw 30 rfl) (tw hw 2 rfl) (tw hw 31 rfl) (by decide) (argsL := [(.int (cmpF [b0] [] (1 : Int32)))]) (rest := []) (Own.Con.pay (con_sgn hw hEL _ W15.old) W15 (tw hw 31 rfl) (tw hw 2 rfl) (len := 3) (wd := 0) (by decide) (by decide) (fun _ q => nomatch q)) rfl (lenOf pd_0 rfl) rfl (Nat.le_of_ble_eq_true rfl) at_158 161 rfl 12 48 (Nat.le_of_ble_eq_true rfl) (Nat.le_of_ble_eq_true rfl) (Nat.le_of_ble_eq_true rfl) (Nat.le_of_ble_eq_true rfl) ?_
        intro v16 T16 h16 u16 W16 R16 hq
        obtain ⟨rfl, eh16⟩ := hq
        have ei16 := eh16.symm; subst ei16
        show Own.Go _ _ _ _ _ 161 #[.val (.long pa), .second, .val (.long pb), .second, .val (.int fl), .val (.int (0 : Int32)), .val (.int (1 : Int32)), .val (.int (cA pa)), .val (.int (cS pa 16)), .val (.int (cS pa 32)), .val (.int b0), .val (.int b1), .val (.int b2), .val (.ref o9), .val (.ref o10), .val (.int (refF [] [b0] (sgn (-1 : Int32)))), .val (.int (sgn (cmpF [] [b0] (-1 : Int32)))), .unset] [(.int (sgn (cmpF [b0] [] (1 : Int32))))]
        refine Own.istore W16 at_161 163 rfl #[.val (.long pa), .second, .val (.long pb), .second, .val (.int fl), .val (.int (0 : Int32)), .val (.int (1 : Int32)), .val (.int (cA pa)), .val (.int (cS pa 16)), .val (.int (cS pa 32)), .val (.int b0), .val (.int b1), .val (.int b2), .val (.ref o9), .val (.ref o10), .val (.int (refF [] [b0] (sgn (-1 : Int32)))), .val (.int (sgn (cmpF [] [b0] (-1 : Int32)))), .val (.int (sgn (cmpF [b0] [] (1 : Int32))))] rfl ?_
        refine Own.iload W16 at_163 165 rfl (sgn (cmpF [] [b0] (-1 : Int32))) rfl ?_
        refine Own.iload W16 at_165 167 rfl (refF [] [b0] (sgn (-1 : Int32))) rfl ?_
        have P := pureL [] [b0] (-1 : Int32) (1 : Int32) (by decide) all_0 (all_s q0 all_0)
        refine Own.icmpNo W16 at_167 170 (XT.ii_ne_f P.1) rfl ?_
        refine Own.iload W16 at_170 172 rfl (sgn (cmpF [b0] [] (1 : Int32))) rfl ?_
        refine Own.iload W16 at_172 174 rfl (refF [] [b0] (sgn (-1 : Int32))) rfl ?_
        refine Own.ineg W16 at_174 175 rfl ?_
        refine Own.icmpNo W16 at_175 178 (XT.ii_ne_f P.2) rfl ?_
        refine Own.iconst W16 at_178 179 rfl (1 : Int32) rfl ?_
        refine Own.goto W16 at_179 183 (by decide) (by decide) ?_
        exact Own.retB W16 (by decide) (by decide) rfl at_183 rfl rfl
      · skip
        rw [eb]
        show Own.Go _ _ _ _ _ 92 #[.val (.long pa), .second, .val (.long pb), .second, .val (.int fl), .val (.int (0 : Int32)), .val (.int (2 : Int32)), .val (.int (cA pa)), .val (.int (cS pa 16)), .val (.int (cS pa 32)), .val (.int b0), .val (.int b1), .val (.int b2), .unset, .unset, .unset, .unset, .unset] []
        refine Own.iload W0 at_92 94 rfl (0 : Int32) rfl ?_
        refine Own.iload W0 at_94 96 rfl (cA pa) rfl ?_
        refine Own.iload W0 at_96 98 rfl (cS pa 16) rfl ?_
        refine Own.iload W0 at_98 100 rfl (cS pa 32) rfl ?_
        refine Own.callS W0 (tw hw 0 rfl) (tw hw 1 rfl) (tw hw 2 rfl) (tw hw 3 rfl) (by decide) (argsL := [(.int (0 : Int32)), (.int (cA pa)), (.int (cS pa 16)), (.int (cS pa 32))]) (rest := []) (Own.Con.pay (con_mk0 hw hEL hmem hS hcz TA TH TL rfl (r16A pa) (r16S pa 16) (r16S pa 32) W0.old) W0 (tw hw 3 rfl) (tw hw 2 rfl) (len := 3) (wd := 0) (by decide) (by decide) (fun _ q => nomatch q)) rfl (lenOf pd_19 rfl) rfl (Nat.le_of_ble_eq_true rfl) at_100 103 rfl 6 24 (Nat.le_of_ble_eq_true rfl) (Nat.le_of_ble_eq_true rfl) (Nat.le_of_ble_eq_true rfl) (Nat.le_of_ble_eq_true rfl) ?_
        intro v17 T17 h17 u17 W17 R17 hq
        obtain ⟨o17, rfl, E17, g17, U17⟩ := hq
        show Own.Go _ _ _ _ _ 103 #[.val (.long pa), .second, .val (.long pb), .second, .val (.int fl), .val (.int (0 : Int32)), .val (.int (2 : Int32)), .val (.int (cA pa)), .val (.int (cS pa 16)), .val (.int (cS pa 32)), .val (.int b0), .val (.int b1), .val (.int b2), .unset, .unset, .unset, .unset, .unset] [(.ref o17)]
        refine Own.astore W17 at_103 105 rfl rfl #[.val (.long pa), .second, .val (.long pb), .second, .val (.int fl), .val (.int (0 : Int32)), .val (.int (2 : Int32)), .val (.int (cA pa)), .val (.int (cS pa 16)), .val (.int (cS pa 32)), .val (.int b0), .val (.int b1), .val (.int b2), .val (.ref o17), .unset, .unset, .unset, .unset] rfl ?_
        refine Own.iload W17 at_105 107 rfl (2 : Int32) rfl ?_
        refine Own.iload W17 at_107 109 rfl b0 rfl ?_
        refine Own.iload W17 at_109 111 rfl b1 rfl ?_
        refine Own.iload W17 at_111 113 rfl b2 rfl ?_
        refine Own.callS W17 (tw hw 0 rfl) (tw hw 1 rfl) (tw hw 2 rfl) (tw hw 3 rfl) (by decide) (argsL := [(.int (2 : Int32)), (.int b0), (.int b1), (.int b2)]) (rest := []) (Own.Con.pay (con_mk2 hw hEL hmem hS hcz TA TH TL hEN4 rfl q0 q1 q2 W17.old) W17 (tw hw 3 rfl) (tw hw 2 rfl) (len := 3) (wd := 0) (by decide) (by decide) (fun _ q => nomatch q)) rfl (lenOf pd_19 rfl) rfl (Nat.le_of_ble_eq_true rfl) at_113 116 rfl 12 48 (Nat.le_of_ble_eq_true rfl) (Nat.le_of_ble_eq_true rfl) (Nat.le_of_ble_eq_true rfl) (Nat.le_of_ble_eq_true rfl) ?_
        intro v18 T18 h18 u18 W18 R18 hq
        obtain ⟨o18, rfl, E18, g18, U18⟩ := hq
        show Own.Go _ _ _ _ _ 116 #[.val (.long pa), .second, .val (.long pb), .second, .val (.int fl), .val (.int (0 : Int32)), .val (.int (2 : Int32)), .val (.int (cA pa)), .val (.int (cS pa 16)), .val (.int (cS pa 32)), .val (.int b0), .val (.int b1), .val (.int b2), .val (.ref o17), .unset, .unset, .unset, .unset] [(.ref o18)]
        refine Own.astore W18 at_116 118 rfl rfl #[.val (.long pa), .second, .val (.long pb), .second, .val (.int fl), .val (.int (0 : Int32)), .val (.int (2 : Int32)), .val (.int (cA pa)), .val (.int (cS pa 16)), .val (.int (cS pa 32)), .val (.int b0), .val (.int b1), .val (.int b2), .val (.ref o17), .val (.ref o18), .unset, .unset, .unset] rfl ?_
        refine Own.iload W18 at_118 120 rfl (0 : Int32) rfl ?_
        refine Own.iload W18 at_120 122 rfl (cA pa) rfl ?_
        refine Own.iload W18 at_122 124 rfl (cS pa 16) rfl ?_
        refine Own.iload W18 at_124 126 rfl (cS pa 32) rfl ?_
        refine Own.iload W18 at_126 128 rfl (2 : Int32) rfl ?_
        refine Own.iload W18 at_128 130 rfl b0 rfl ?_
        refine Own.iload W18 at_130 132 rfl b1 rfl ?_
        refine Own.iload W18 at_132 134 rfl b2 rfl ?_
        refine Own.callS W18 (tw hw 26 rfl) (tw hw 27 rfl) (tw hw 2 rfl) (tw hw 28 rfl) (by decide) (argsL := [(.int (0 : Int32)), (.int (cA pa)), (.int (cS pa 16)), (.int (cS pa 32)), (.int (2 : Int32)), (.int b0), (.int b1), (.int b2)]) (rest := []) (Own.Con.pay (con_ref02 hw hEL rfl rfl _ _ _ _ _ _ W18.old) W18 (tw hw 28 rfl) (tw hw 2 rfl) (len := 3) (wd := 0) (by decide) (by decide) (fun _ q => nomatch q)) rfl (lenOf pd_20 rfl) rfl (Nat.le_of_ble_eq_true rfl) at_134 137 rfl 12 48 (Nat.le_of_ble_eq_true rfl) (Nat.le_of_ble_eq_true rfl) (Nat.le_of_ble_eq_true rfl) (Nat.le_of_ble_eq_true rfl) ?_
        intro v19 T19 h19 u19 W19 R19 hq
        obtain ⟨rfl, eh19⟩ := hq
        have ei19 := eh19.symm; subst ei19
        show Own.Go _ _ _ _ _ 137 #[.val (.long pa), .second, .val (.long pb), .second, .val (.int fl), .val (.int (0 : Int32)), .val (.int (2 : Int32)), .val (.int (cA pa)), .val (.int (cS pa 16)), .val (.int (cS pa 32)), .val (.int b0), .val (.int b1), .val (.int b2), .val (.ref o17), .val (.ref o18), .unset, .unset, .unset] [(.int (refF [] [b0, b1] (sgn (-2 : Int32))))]
        refine Own.istore W19 at_137 139 rfl #[.val (.long pa), .second, .val (.long pb), .second, .val (.int fl), .val (.int (0 : Int32)), .val (.int (2 : Int32)), .val (.int (cA pa)), .val (.int (cS pa 16)), .val (.int (cS pa 32)), .val (.int b0), .val (.int b1), .val (.int b2), .val (.ref o17), .val (.ref o18), .val (.int (refF [] [b0, b1] (sgn (-2 : Int32)))), .unset, .unset] rfl ?_
        refine Own.aload W19 at_139 141 rfl (.ref o17) rfl rfl ?_
        refine Own.aload W19 at_141 143 rfl (.ref o18) rfl rfl ?_
        have X20 : Ext h17 h18 := E18
        refine Own.callS W19 (tw hw 32 rfl) (tw hw 33 rfl) (tw hw 34 rfl) (tw hw 35 rfl) (by decide) (argsL := [(.ref o17), (.ref o18)]) (rest := []) (Own.Con.pay (con_cmp02 hw hEL hmem hS hcz SF rfm TA TH TL W19.old (U17.ext X20) U18) W19 (tw hw 35 rfl) (tw hw 34 rfl) (len := 3) (wd := 0) (by decide) (by decide) (fun _ q => nomatch q)) rfl (lenOf pd_21 rfl) rfl (Nat.le_of_ble_eq_true rfl) at_143 146 rfl 12 48 (Nat.le_of_ble_eq_true rfl) (Nat.le_of_ble_eq_true rfl) (Nat.le_of_ble_eq_true rfl) (Nat.le_of_ble_eq_true rfl) ?_
        intro v21 T21 h21 u21 W21 R21 hq
        obtain ⟨rfl, eh21⟩ := hq
        have ei21 := eh21.symm; subst ei21
        show Own.Go _ _ _ _ _ 146 #[.val (.long pa), .second, .val (.long pb), .second, .val (.int fl), .val (.int (0 : Int32)), .val (.int (2 : Int32)), .val (.int (cA pa)), .val (.int (cS pa 16)), .val (.int (cS pa 32)), .val (.int b0), .val (.int b1), .val (.int b2), .val (.ref o17), .val (.ref o18), .val (.int (refF [] [b0, b1] (sgn (-2 : Int32)))), .unset, .unset] [(.int (cmpF [] [b0, b1] (-2 : Int32)))]
        refine Own.callS W21 (tw hw 29 rfl) (tw hw 30 rfl) (tw hw 2 rfl) (tw hw 31 rfl) (by decide) (argsL := [(.int (cmpF [] [b0, b1] (-2 : Int32)))]) (rest := []) (Own.Con.pay (con_sgn hw hEL _ W21.old) W21 (tw hw 31 rfl) (tw hw 2 rfl) (len := 3) (wd := 0) (by decide) (by decide) (fun _ q => nomatch q)) rfl (lenOf pd_0 rfl) rfl (Nat.le_of_ble_eq_true rfl) at_146 149 rfl 12 48 (Nat.le_of_ble_eq_true rfl) (Nat.le_of_ble_eq_true rfl) (Nat.le_of_ble_eq_true rfl) (Nat.le_of_ble_eq_true rfl) ?_
        intro v22 T22 h22 u22 W22 R22 hq
        obtain ⟨rfl, eh22⟩ := hq
        have ei22 := eh22.symm; subst ei22
        show Own.Go _ _ _ _ _ 149 #[.val (.long pa), .second, .val (.long pb), .second, .val (.int fl), .val (.int (0 : Int32)), .val (.int (2 : Int32)), .val (.int (cA pa)), .val (.int (cS pa 16)), .val (.int (cS pa 32)), .val (.int b0), .val (.int b1), .val (.int b2), .val (.ref o17), .val (.ref o18), .val (.int (refF [] [b0, b1] (sgn (-2 : Int32)))), .unset, .unset] [(.int (sgn (cmpF [] [b0, b1] (-2 : Int32))))]
        refine Own.istore W22 at_149 151 rfl #[.val (.long pa), .second, .val (.long pb), .second, .val (.int fl), .val (.int (0 : Int32)), .val (.int (2 : Int32)), .val (.int (cA pa)), .val (.int (cS pa 16)), .val (.int (cS pa 32)), .val (.int b0), .val (.int b1), .val (.int b2), .val (.ref o17), .val (.ref o18), .val (.int (refF [] [b0, b1] (sgn (-2 : Int32)))), .val (.int (sgn (cmpF [] [b0, b1] (-2 : Int32)))), .unset] rfl ?_
        refine Own.aload W22 at_151 153 rfl (.ref o18) rfl rfl ?_
        refine Own.aload W22 at_153 155 rfl (.ref o17) rfl rfl ?_
        refine Own.callS W22 (tw hw 32 rfl) (tw hw 33 rfl) (tw hw 34 rfl) (tw hw 35 rfl) (by decide) (argsL := [(.ref o18), (.ref o17)]) (rest := []) (Own.Con.pay (con_cmp20 hw hEL hmem hS hcz SF rfm TA TH TL W22.old U18 (U17.ext X20)) W22 (tw hw 35 rfl) (tw hw 34 rfl) (len := 3) (wd := 0) (by decide) (by decide) (fun _ q => nomatch q)) rfl (lenOf pd_21 rfl) rfl (Nat.le_of_ble_eq_true rfl) at_155 158 rfl 12 48 (Nat.le_of_ble_eq_true rfl) (Nat.le_of_ble_eq_true rfl) (Nat.le_of_ble_eq_true rfl) (Nat.le_of_ble_eq_true rfl) ?_
        intro v23 T23 h23 u23 W23 R23 hq
        obtain ⟨rfl, eh23⟩ := hq
        have ei23 := eh23.symm; subst ei23
        show Own.Go _ _ _ _ _ 158 #[.val (.long pa), .second, .val (.long pb), .second, .val (.int fl), .val (.int (0 : Int32)), .val (.int (2 : Int32)), .val (.int (cA pa)), .val (.int (cS pa 16)), .val (.int (cS pa 32)), .val (.int b0), .val (.int b1), .val (.int b2), .val (.ref o17), .val (.ref o18), .val (.int (refF [] [b0, b1] (sgn (-2 : Int32)))), .val (.int (sgn (cmpF [] [b0, b1] (-2 : Int32)))), .unset] [(.int (cmpF [b0, b1] [] (2 : Int32)))]
        refine Own.callS W23 (tw hw 29 rfl) (tw hw 30 rfl) (tw hw 2 rfl) (tw hw 31 rfl) (by decide) (argsL := [(.int (cmpF [b0, b1] [] (2 : Int32)))]) (rest := []) (Own.Con.pay (con_sgn hw hEL _ W23.old) W23 (tw hw 31 rfl) (tw hw 2 rfl) (len := 3) (wd := 0) (by decide) (by decide) (fun _ q => nomatch q)) rfl (lenOf pd_0 rfl) rfl (Nat.le_of_ble_eq_true rfl) at_158 161 rfl 12 48 (Nat.le_of_ble_eq_true rfl) (Nat.le_of_ble_eq_true rfl) (Nat.le_of_ble_eq_true rfl) (Nat.le_of_ble_eq_true rfl) ?_
        intro v24 T24 h24 u24 W24 R24 hq
        obtain ⟨rfl, eh24⟩ := hq
        have ei24 := eh24.symm; subst ei24
        show Own.Go _ _ _ _ _ 161 #[.val (.long pa), .second, .val (.long pb), .second, .val (.int fl), .val (.int (0 : Int32)), .val (.int (2 : Int32)), .val (.int (cA pa)), .val (.int (cS pa 16)), .val (.int (cS pa 32)), .val (.int b0), .val (.int b1), .val (.int b2), .val (.ref o17), .val (.ref o18), .val (.int (refF [] [b0, b1] (sgn (-2 : Int32)))), .val (.int (sgn (cmpF [] [b0, b1] (-2 : Int32)))), .unset] [(.int (sgn (cmpF [b0, b1] [] (2 : Int32))))]
        refine Own.istore W24 at_161 163 rfl #[.val (.long pa), .second, .val (.long pb), .second, .val (.int fl), .val (.int (0 : Int32)), .val (.int (2 : Int32)), .val (.int (cA pa)), .val (.int (cS pa 16)), .val (.int (cS pa 32)), .val (.int b0), .val (.int b1), .val (.int b2), .val (.ref o17), .val (.ref o18), .val (.int (refF [] [b0, b1] (sgn (-2 : Int32)))), .val (.int (sgn (cmpF [] [b0, b1] (-2 : Int32)))), .val (.int (sgn (cmpF [b0, b1] [] (2 : Int32))))] rfl ?_
        refine Own.iload W24 at_163 165 rfl (sgn (cmpF [] [b0, b1] (-2 : Int32))) rfl ?_
        refine Own.iload W24 at_165 167 rfl (refF [] [b0, b1] (sgn (-2 : Int32))) rfl ?_
        have P := pureL [] [b0, b1] (-2 : Int32) (2 : Int32) (by decide) all_0 (all_s q0 (all_s q1 all_0))
        refine Own.icmpNo W24 at_167 170 (XT.ii_ne_f P.1) rfl ?_
        refine Own.iload W24 at_170 172 rfl (sgn (cmpF [b0, b1] [] (2 : Int32))) rfl ?_
        refine Own.iload W24 at_172 174 rfl (refF [] [b0, b1] (sgn (-2 : Int32))) rfl ?_
        refine Own.ineg W24 at_174 175 rfl ?_
        refine Own.icmpNo W24 at_175 178 (XT.ii_ne_f P.2) rfl ?_
        refine Own.iconst W24 at_178 179 rfl (1 : Int32) rfl ?_
        refine Own.goto W24 at_179 183 (by decide) (by decide) ?_
        exact Own.retB W24 (by decide) (by decide) rfl at_183 rfl rfl
      · skip
        rw [eb]
        show Own.Go _ _ _ _ _ 92 #[.val (.long pa), .second, .val (.long pb), .second, .val (.int fl), .val (.int (0 : Int32)), .val (.int (3 : Int32)), .val (.int (cA pa)), .val (.int (cS pa 16)), .val (.int (cS pa 32)), .val (.int b0), .val (.int b1), .val (.int b2), .unset, .unset, .unset, .unset, .unset] []
        refine Own.iload W0 at_92 94 rfl (0 : Int32) rfl ?_
        refine Own.iload W0 at_94 96 rfl (cA pa) rfl ?_
        refine Own.iload W0 at_96 98 rfl (cS pa 16) rfl ?_
        refine Own.iload W0 at_98 100 rfl (cS pa 32) rfl ?_
        refine Own.callS W0 (tw hw 0 rfl) (tw hw 1 rfl) (tw hw 2 rfl) (tw hw 3 rfl) (by decide) (argsL := [(.int (0 : Int32)), (.int (cA pa)), (.int (cS pa 16)), (.int (cS pa 32))]) (rest := []) (Own.Con.pay (con_mk0 hw hEL hmem hS hcz TA TH TL rfl (r16A pa) (r16S pa 16) (r16S pa 32) W0.old) W0 (tw hw 3 rfl) (tw hw 2 rfl) (len := 3) (wd := 0) (by decide) (by decide) (fun _ q => nomatch q)) rfl (lenOf pd_19 rfl) rfl (Nat.le_of_ble_eq_true rfl) at_100 103 rfl 6 24 (Nat.le_of_ble_eq_true rfl) (Nat.le_of_ble_eq_true rfl) (Nat.le_of_ble_eq_true rfl) (Nat.le_of_ble_eq_true rfl) ?_
        intro v25 T25 h25 u25 W25 R25 hq
        obtain ⟨o25, rfl, E25, g25, U25⟩ := hq
        show Own.Go _ _ _ _ _ 103 #[.val (.long pa), .second, .val (.long pb), .second, .val (.int fl), .val (.int (0 : Int32)), .val (.int (3 : Int32)), .val (.int (cA pa)), .val (.int (cS pa 16)), .val (.int (cS pa 32)), .val (.int b0), .val (.int b1), .val (.int b2), .unset, .unset, .unset, .unset, .unset] [(.ref o25)]
        refine Own.astore W25 at_103 105 rfl rfl #[.val (.long pa), .second, .val (.long pb), .second, .val (.int fl), .val (.int (0 : Int32)), .val (.int (3 : Int32)), .val (.int (cA pa)), .val (.int (cS pa 16)), .val (.int (cS pa 32)), .val (.int b0), .val (.int b1), .val (.int b2), .val (.ref o25), .unset, .unset, .unset, .unset] rfl ?_
        refine Own.iload W25 at_105 107 rfl (3 : Int32) rfl ?_
        refine Own.iload W25 at_107 109 rfl b0 rfl ?_
        refine Own.iload W25 at_109 111 rfl b1 rfl ?_
        refine Own.iload W25 at_111 113 rfl b2 rfl ?_
        refine Own.callS W25 (tw hw 0 rfl) (tw hw 1 rfl) (tw hw 2 rfl) (tw hw 3 rfl) (by decide) (argsL := [(.int (3 : Int32)), (.int b0), (.int b1), (.int b2)]) (rest := []) (Own.Con.pay (con_mk3 hw hEL hmem hS hcz TA TH TL hEN6 rfl q0 q1 q2 W25.old) W25 (tw hw 3 rfl) (tw hw 2 rfl) (len := 3) (wd := 0) (by decide) (by decide) (fun _ q => nomatch q)) rfl (lenOf pd_19 rfl) rfl (Nat.le_of_ble_eq_true rfl) at_113 116 rfl 12 48 (Nat.le_of_ble_eq_true rfl) (Nat.le_of_ble_eq_true rfl) (Nat.le_of_ble_eq_true rfl) (Nat.le_of_ble_eq_true rfl) ?_
        intro v26 T26 h26 u26 W26 R26 hq
        obtain ⟨o26, rfl, E26, g26, U26⟩ := hq
        show Own.Go _ _ _ _ _ 116 #[.val (.long pa), .second, .val (.long pb), .second, .val (.int fl), .val (.int (0 : Int32)), .val (.int (3 : Int32)), .val (.int (cA pa)), .val (.int (cS pa 16)), .val (.int (cS pa 32)), .val (.int b0), .val (.int b1), .val (.int b2), .val (.ref o25), .unset, .unset, .unset, .unset] [(.ref o26)]
        refine Own.astore W26 at_116 118 rfl rfl #[.val (.long pa), .second, .val (.long pb), .second, .val (.int fl), .val (.int (0 : Int32)), .val (.int (3 : Int32)), .val (.int (cA pa)), .val (.int (cS pa 16)), .val (.int (cS pa 32)), .val (.int b0), .val (.int b1), .val (.int b2), .val (.ref o25), .val (.ref o26), .unset, .unset, .unset] rfl ?_
        refine Own.iload W26 at_118 120 rfl (0 : Int32) rfl ?_
        refine Own.iload W26 at_120 122 rfl (cA pa) rfl ?_
        refine Own.iload W26 at_122 124 rfl (cS pa 16) rfl ?_
        refine Own.iload W26 at_124 126 rfl (cS pa 32) rfl ?_
        refine Own.iload W26 at_126 128 rfl (3 : Int32) rfl ?_
        refine Own.iload W26 at_128 130 rfl b0 rfl ?_
        refine Own.iload W26 at_130 132 rfl b1 rfl ?_
        refine Own.iload W26 at_132 134 rfl b2 rfl ?_
        refine Own.callS W26 (tw hw 26 rfl) (tw hw 27 rfl) (tw hw 2 rfl) (tw hw 28 rfl) (by decide) (argsL := [(.int (0 : Int32)), (.int (cA pa)), (.int (cS pa 16)), (.int (cS pa 32)), (.int (3 : Int32)), (.int b0), (.int b1), (.int b2)]) (rest := []) (Own.Con.pay (con_ref03 hw hEL rfl rfl _ _ _ _ _ _ W26.old) W26 (tw hw 28 rfl) (tw hw 2 rfl) (len := 3) (wd := 0) (by decide) (by decide) (fun _ q => nomatch q)) rfl (lenOf pd_20 rfl) rfl (Nat.le_of_ble_eq_true rfl) at_134 137 rfl 12 48 (Nat.le_of_ble_eq_true rfl) (Nat.le_of_ble_eq_true rfl) (Nat.le_of_ble_eq_true rfl) (Nat.le_of_ble_eq_true rfl) ?_
        intro v27 T27 h27 u27 W27 R27 hq
        obtain ⟨rfl, eh27⟩ := hq
        have ei27 := eh27.symm; subst ei27
        show Own.Go _ _ _ _ _ 137 #[.val (.long pa), .second, .val (.long pb), .second, .val (.int fl), .val (.int (0 : Int32)), .val (.int (3 : Int32)), .val (.int (cA pa)), .val (.int (cS pa 16)), .val (.int (cS pa 32)), .val (.int b0), .val (.int b1), .val (.int b2), .val (.ref o25), .val (.ref o26), .unset, .unset, .unset] [(.int (refF [] [b0, b1, b2] (sgn (-3 : Int32))))]
        refine Own.istore W27 at_137 139 rfl #[.val (.long pa), .second, .val (.long pb), .second, .val (.int fl), .val (.int (0 : Int32)), .val (.int (3 : Int32)), .val (.int (cA pa)), .val (.int (cS pa 16)), .val (.int (cS pa 32)), .val (.int b0), .val (.int b1), .val (.int b2), .val (.ref o25), .val (.ref o26), .val (.int (refF [] [b0, b1, b2] (sgn (-3 : Int32)))), .unset, .unset] rfl ?_
        refine Own.aload W27 at_139 141 rfl (.ref o25) rfl rfl ?_
        refine Own.aload W27 at_141 143 rfl (.ref o26) rfl rfl ?_
        have X28 : Ext h25 h26 := E26
        refine Own.callS W27 (tw hw 32 rfl) (tw hw 33 rfl) (tw hw 34 rfl) (tw hw 35 rfl) (by decide) (argsL := [(.ref o25), (.ref o26)]) (rest := []) (Own.Con.pay (con_cmp03 hw hEL hmem hS hcz SF rfm TA TH TL W27.old (U25.ext X28) U26) W27 (tw hw 35 rfl) (tw hw 34 rfl) (len := 3) (wd := 0) (by decide) (by decide) (fun _ q => nomatch q)) rfl (lenOf pd_21 rfl) rfl (Nat.le_of_ble_eq_true rfl) at_143 146 rfl 12 48 (Nat.le_of_ble_eq_true rfl) (Nat.le_of_ble_eq_true rfl) (Nat.le_of_ble_eq_true rfl) (Nat.le_of_ble_eq_true rfl) ?_
        intro v29 T29 h29 u29 W29 R29 hq
        obtain ⟨rfl, eh29⟩ := hq
        have ei29 := eh29.symm; subst ei29
        show Own.Go _ _ _ _ _ 146 #[.val (.long pa), .second, .val (.long pb), .second, .val (.int fl), .val (.int (0 : Int32)), .val (.int (3 : Int32)), .val (.int (cA pa)), .val (.int (cS pa 16)), .val (.int (cS pa 32)), .val (.int b0), .val (.int b1), .val (.int b2), .val (.ref o25), .val (.ref o26), .val (.int (refF [] [b0, b1, b2] (sgn (-3 : Int32)))), .unset, .unset] [(.int (cmpF [] [b0, b1, b2] (-3 : Int32)))]
        refine Own.callS W29 (tw hw 29 rfl) (tw hw 30 rfl) (tw hw 2 rfl) (tw hw 31 rfl) (by decide) (argsL := [(.int (cmpF [] [b0, b1, b2] (-3 : Int32)))]) (rest := []) (Own.Con.pay (con_sgn hw hEL _ W29.old) W29 (tw hw 31 rfl) (tw hw 2 rfl) (len := 3) (wd := 0) (by decide) (by decide) (fun _ q => nomatch q)) rfl (lenOf pd_0 rfl) rfl (Nat.le_of_ble_eq_true rfl) at_146 149 rfl 12 48 (Nat.le_of_ble_eq_true rfl) (Nat.le_of_ble_eq_true rfl) (Nat.le_of_ble_eq_true rfl) (Nat.le_of_ble_eq_true rfl) ?_
        intro v30 T30 h30 u30 W30 R30 hq
        obtain ⟨rfl, eh30⟩ := hq
        have ei30 := eh30.symm; subst ei30
        show Own.Go _ _ _ _ _ 149 #[.val (.long pa), .second, .val (.long pb), .second, .val (.int fl), .val (.int (0 : Int32)), .val (.int (3 : Int32)), .val (.int (cA pa)), .val (.int (cS pa 16)), .val (.int (cS pa 32)), .val (.int b0), .val (.int b1), .val (.int b2), .val (.ref o25), .val (.ref o26), .val (.int (refF [] [b0, b1, b2] (sgn (-3 : Int32)))), .unset, .unset] [(.int (sgn (cmpF [] [b0, b1, b2] (-3 : Int32))))]
        refine Own.istore W30 at_149 151 rfl #[.val (.long pa), .second, .val (.long pb), .second, .val (.int fl), .val (.int (0 : Int32)), .val (.int (3 : Int32)), .val (.int (cA pa)), .val (.int (cS pa 16)), .val (.int (cS pa 32)), .val (.int b0), .val (.int b1), .val (.int b2), .val (.ref o25), .val (.ref o26), .val (.int (refF [] [b0, b1, b2] (sgn (-3 : Int32)))), .val (.int (sgn (cmpF [] [b0, b1, b2] (-3 : Int32)))), .unset] rfl ?_
        refine Own.aload W30 at_151 153 rfl (.ref o26) rfl rfl ?_
        refine Own.aload W30 at_153 155 rfl (.ref o25) rfl rfl ?_
        refine Own.callS W30 (tw hw 32 rfl) (tw hw 33 rfl) (tw hw 34 rfl) (tw hw 35 rfl) (by decide) (argsL := [(.ref o26), (.ref o25)]) (rest := []) (Own.Con.pay (con_cmp30 hw hEL hmem hS hcz SF rfm TA TH TL W30.old U26 (U25.ext X28)) W30 (tw hw 35 rfl) (tw hw 34 rfl) (len := 3) (wd := 0) (by decide) (by decide) (fun _ q => nomatch q)) rfl (lenOf pd_21 rfl) rfl (Nat.le_of_ble_eq_true rfl) at_155 158 rfl 12 48 (Nat.le_of_ble_eq_true rfl) (Nat.le_of_ble_eq_true rfl) (Nat.le_of_ble_eq_true rfl) (Nat.le_of_ble_eq_true rfl) ?_
        intro v31 T31 h31 u31 W31 R31 hq
        obtain ⟨rfl, eh31⟩ := hq
        have ei31 := eh31.symm; subst ei31
        show Own.Go _ _ _ _ _ 158 #[.val (.long pa), .second, .val (.long pb), .second, .val (.int fl), .val (.int (0 : Int32)), .val (.int (3 : Int32)), .val (.int (cA pa)), .val (.int (cS pa 16)), .val (.int (cS pa 32)), .val (.int b0), .val (.int b1), .val (.int b2), .val (.ref o25), .val (.ref o26), .val (.int (refF [] [b0, b1, b2] (sgn (-3 : Int32)))), .val (.int (sgn (cmpF [] [b0, b1, b2] (-3 : Int32)))), .unset] [(.int (cmpF [b0, b1, b2] [] (3 : Int32)))]
        refine Own.callS W31 (tw hw 29 rfl) (tw hw 30 rfl) (tw hw 2 rfl) (tw hw 31 rfl) (by decide) (argsL := [(.int (cmpF [b0, b1, b2] [] (3 : Int32)))]) (rest := []) (Own.Con.pay (con_sgn hw hEL _ W31.old) W31 (tw hw 31 rfl) (tw hw 2 rfl) (len := 3) (wd := 0) (by decide) (by decide) (fun _ q => nomatch q)) rfl (lenOf pd_0 rfl) rfl (Nat.le_of_ble_eq_true rfl) at_158 161 rfl 12 48 (Nat.le_of_ble_eq_true rfl) (Nat.le_of_ble_eq_true rfl) (Nat.le_of_ble_eq_true rfl) (Nat.le_of_ble_eq_true rfl) ?_
        intro v32 T32 h32 u32 W32 R32 hq
        obtain ⟨rfl, eh32⟩ := hq
        have ei32 := eh32.symm; subst ei32
        show Own.Go _ _ _ _ _ 161 #[.val (.long pa), .second, .val (.long pb), .second, .val (.int fl), .val (.int (0 : Int32)), .val (.int (3 : Int32)), .val (.int (cA pa)), .val (.int (cS pa 16)), .val (.int (cS pa 32)), .val (.int b0), .val (.int b1), .val (.int b2), .val (.ref o25), .val (.ref o26), .val (.int (refF [] [b0, b1, b2] (sgn (-3 : Int32)))), .val (.int (sgn (cmpF [] [b0, b1, b2] (-3 : Int32)))), .unset] [(.int (sgn (cmpF [b0, b1, b2] [] (3 : Int32))))]
        refine Own.istore W32 at_161 163 rfl #[.val (.long pa), .second, .val (.long pb), .second, .val (.int fl), .val (.int (0 : Int32)), .val (.int (3 : Int32)), .val (.int (cA pa)), .val (.int (cS pa 16)), .val (.int (cS pa 32)), .val (.int b0), .val (.int b1), .val (.int b2), .val (.ref o25), .val (.ref o26), .val (.int (refF [] [b0, b1, b2] (sgn (-3 : Int32)))), .val (.int (sgn (cmpF [] [b0, b1, b2] (-3 : Int32)))), .val (.int (sgn (cmpF [b0, b1, b2] [] (3 : Int32))))] rfl ?_
        refine Own.iload W32 at_163 165 rfl (sgn (cmpF [] [b0, b1, b2] (-3 : Int32))) rfl ?_
        refine Own.iload W32 at_165 167 rfl (refF [] [b0, b1, b2] (sgn (-3 : Int32))) rfl ?_
        have P := pureL [] [b0, b1, b2] (-3 : Int32) (3 : Int32) (by decide) all_0 (all_s q0 (all_s q1 (all_s q2 all_0)))
        refine Own.icmpNo W32 at_167 170 (XT.ii_ne_f P.1) rfl ?_
        refine Own.iload W32 at_170 172 rfl (sgn (cmpF [b0, b1, b2] [] (3 : Int32))) rfl ?_
        refine Own.iload W32 at_172 174 rfl (refF [] [b0, b1, b2] (sgn (-3 : Int32))) rfl ?_
        refine Own.ineg W32 at_174 175 rfl ?_
        refine Own.icmpNo W32 at_175 178 (XT.ii_ne_f P.2) rfl ?_
        refine Own.iconst W32 at_178 179 rfl (1 : Int32) rfl ?_
        refine Own.goto W32 at_179 183 (by decide) (by decide) ?_
        exact Own.retB W32 (by decide) (by decide) rfl at_183 rfl rfl
    · skip
      rw [ea]
      show Own.Go _ _ _ _ _ 92 #[.val (.long pa), .second, .val (.long pb), .second, .val (.int fl), .val (.int (1 : Int32)), .val (.int (fB fl)), .val (.int (cA pa)), .val (.int (cS pa 16)), .val (.int (cS pa 32)), .val (.int b0), .val (.int b1), .val (.int b2), .unset, .unset, .unset, .unset, .unset] []
      rcases fourB fl with eb | eb | eb | eb
      · skip
        rw [eb]
        show Own.Go _ _ _ _ _ 92 #[.val (.long pa), .second, .val (.long pb), .second, .val (.int fl), .val (.int (1 : Int32)), .val (.int (0 : Int32)), .val (.int (cA pa)), .val (.int (cS pa 16)), .val (.int (cS pa 32)), .val (.int b0), .val (.int b1), .val (.int b2), .unset, .unset, .unset, .unset, .unset] []
        refine Own.iload W0 at_92 94 rfl (1 : Int32) rfl ?_
        refine Own.iload W0 at_94 96 rfl (cA pa) rfl ?_
        refine Own.iload W0 at_96 98 rfl (cS pa 16) rfl ?_
        refine Own.iload W0 at_98 100 rfl (cS pa 32) rfl ?_
        refine Own.callS W0 (tw hw 0 rfl) (tw hw 1 rfl) (tw hw 2 rfl) (tw hw 3 rfl) (by decide) (argsL := [(.int (1 : Int32)), (.int (cA pa)), (.int (cS pa 16)), (.int (cS pa 32))]) (rest := []) (Own.Con.pay (con_mk1 hw hEL hmem hS hcz TA TH TL hEN2 rfl (r16A pa) (r16S pa 16) (r16S pa 32) W0.old) W0 (tw hw 3 rfl) (tw hw 2 rfl) (len := 3) (wd := 0) (by decide) (by decide) (fun _ q => nomatch q)) rfl (lenOf pd_19 rfl) rfl (Nat.le_of_ble_eq_true rfl) at_100 103 rfl 6 24 (Nat.le_of_ble_eq_true rfl) (Nat.le_of_ble_eq_true rfl) (Nat.le_of_ble_eq_true rfl) (Nat.le_of_ble_eq_true rfl) ?_
        intro v33 T33 h33 u33 W33 R33 hq
        obtain ⟨o33, rfl, E33, g33, U33⟩ := hq
        show Own.Go _ _ _ _ _ 103 #[.val (.long pa), .second, .val (.long pb), .second, .val (.int fl), .val (.int (1 : Int32)), .val (.int (0 : Int32)), .val (.int (cA pa)), .val (.int (cS pa 16)), .val (.int (cS pa 32)), .val (.int b0), .val (.int b1), .val (.int b2), .unset, .unset, .unset, .unset, .unset] [(.ref o33)]
        refine Own.astore W33 at_103 105 rfl rfl #[.val (.long pa), .second, .val (.long pb), .second, .val (.int fl), .val (.int (1 : Int32)), .val (.int (0 : Int32)), .val (.int (cA pa)), .val (.int (cS pa 16)), .val (.int (cS pa 32)), .val (.int b0), .val (.int b1), .val (.int b2), .val (.ref o33), .unset, .unset, .unset, .unset] rfl ?_
        refine Own.iload W33 at_105 107 rfl (0 : Int32) rfl ?_
        refine Own.iload W33 at_107 109 rfl b0 rfl ?_
        refine Own.iload W33 at_109 111 rfl b1 rfl ?_
        refine Own.iload W33 at_111 113 rfl b2 rfl ?_
        refine Own.callS W33 (tw hw 0 rfl) (tw hw 1 rfl) (tw hw 2 rfl) (tw hw 3 rfl) (by decide) (argsL := [(.int (0 : Int32)), (.int b0), (.int b1), (.int b2)]) (rest := []) (Own.Con.pay (con_mk0 hw hEL hmem hS hcz TA TH TL rfl q0 q1 q2 W33.old) W33 (tw hw 3 rfl) (tw hw 2 rfl) (len := 3) (wd := 0) (by decide) (by decide) (fun _ q => nomatch q)) rfl (lenOf pd_19 rfl) rfl (Nat.le_of_ble_eq_true rfl) at_113 116 rfl 12 48 (Nat.le_of_ble_eq_true rfl) (Nat.le_of_ble_eq_true rfl) (Nat.le_of_ble_eq_true rfl) (Nat.le_of_ble_eq_true rfl) ?_
        intro v34 T34 h34 u34 W34 R34 hq
        obtain ⟨o34, rfl, E34, g34, U34⟩ := hq
        show Own.Go _ _ _ _ _ 116 #[.val (.long pa), .second, .val (.long pb), .second, .val (.int fl), .val (.int (1 : Int32)), .val (.int (0 : Int32)), .val (.int (cA pa)), .val (.int (cS pa 16)), .val (.int (cS pa 32)), .val (.int b0), .val (.int b1), .val (.int b2), .val (.ref o33), .unset, .unset, .unset, .unset] [(.ref o34)]
        refine Own.astore W34 at_116 118 rfl rfl #[.val (.long pa), .second, .val (.long pb), .second, .val (.int fl), .val (.int (1 : Int32)), .val (.int (0 : Int32)), .val (.int (cA pa)), .val (.int (cS pa 16)), .val (.int (cS pa 32)), .val (.int b0), .val (.int b1), .val (.int b2), .val (.ref o33), .val (.ref o34), .unset, .unset, .unset] rfl ?_
        refine Own.iload W34 at_118 120 rfl (1 : Int32) rfl ?_
        refine Own.iload W34 at_120 122 rfl (cA pa) rfl ?_
        refine Own.iload W34 at_122 124 rfl (cS pa 16) rfl ?_
        refine Own.iload W34 at_124 126 rfl (cS pa 32) rfl ?_
        refine Own.iload W34 at_126 128 rfl (0 : Int32) rfl ?_
        refine Own.iload W34 at_128 130 rfl b0 rfl ?_
        refine Own.iload W34 at_130 132 rfl b1 rfl ?_
        refine Own.iload W34 at_132 134 rfl b2 rfl ?_
        refine Own.callS W34 (tw hw 26 rfl) (tw hw 27 rfl) (tw hw 2 rfl) (tw hw 28 rfl) (by decide) (argsL := [(.int (1 : Int32)), (.int (cA pa)), (.int (cS pa 16)), (.int (cS pa 32)), (.int (0 : Int32)), (.int b0), (.int b1), (.int b2)]) (rest := []) (Own.Con.pay (con_ref10 hw hEL rfl rfl _ _ _ _ _ _ W34.old) W34 (tw hw 28 rfl) (tw hw 2 rfl) (len := 3) (wd := 0) (by decide) (by decide) (fun _ q => nomatch q)) rfl (lenOf pd_20 rfl) rfl (Nat.le_of_ble_eq_true rfl) at_134 137 rfl 12 48 (Nat.le_of_ble_eq_true rfl) (Nat.le_of_ble_eq_true rfl) (Nat.le_of_ble_eq_true rfl) (Nat.le_of_ble_eq_true rfl) ?_
        intro v35 T35 h35 u35 W35 R35 hq
        obtain ⟨rfl, eh35⟩ := hq
        have ei35 := eh35.symm; subst ei35
        show Own.Go _ _ _ _ _ 137 #[.val (.long pa), .second, .val (.long pb), .second, .val (.int fl), .val (.int (1 : Int32)), .val (.int (0 : Int32)), .val (.int (cA pa)), .val (.int (cS pa 16)), .val (.int (cS pa 32)), .val (.int b0), .val (.int b1), .val (.int b2), .val (.ref o33), .val (.ref o34), .unset, .unset, .unset] [(.int (refF [(cA pa)] [] (sgn (1 : Int32))))]
        refine Own.istore W35 at_137 139 rfl #[.val (.long pa), .second, .val (.long pb), .second, .val (.int fl), .val (.int (1 : Int32)), .val (.int (0 : Int32)), .val (.int (cA pa)), .val (.int (cS pa 16)), .val (.int (cS pa 32)), .val (.int b0), .val (.int b1), .val (.int b2), .val (.ref o33), .val (.ref o34), .val (.int (refF [(cA pa)] [] (sgn (1 : Int32)))), .unset, .unset] rfl ?_
        refine Own.aload W35 at_139 141 rfl (.ref o33) rfl rfl ?_
        refine Own.aload W35 at_141 143 rfl (.ref o34) rfl rfl ?_
        have X36 : Ext h33 h34 := E34
        refine Own.callS W35 (tw hw 32 rfl) (tw hw 33 rfl) (tw hw 34 rfl) (tw hw 35 rfl) (by decide) (argsL := [(.ref o33), (.ref o34)]) (rest := []) (Own.Con.pay (con_cmp10 hw hEL hmem hS hcz SF rfm TA TH TL W35.old (U33.ext X36) U34) W35 (tw hw 35 rfl) (tw hw 34 rfl) (len := 3) (wd := 0) (by decide) (by decide) (fun _ q => nomatch q)) rfl (lenOf pd_21 rfl) rfl (Nat.le_of_ble_eq_true rfl) at_143 146 rfl 12 48 (Nat.le_of_ble_eq_true rfl) (Nat.le_of_ble_eq_true rfl) (Nat.le_of_ble_eq_true rfl) (Nat.le_of_ble_eq_true rfl) ?_
        intro v37 T37 h37 u37 W37 R37 hq
        obtain ⟨rfl, eh37⟩ := hq
        have ei37 := eh37.symm; subst ei37
        show Own.Go _ _ _ _ _ 146 #[.val (.long pa), .second, .val (.long pb), .second, .val (.int fl), .val (.int (1 : Int32)), .val (.int (0 : Int32)), .val (.int (cA pa)), .val (.int (cS pa 16)), .val (.int (cS pa 32)), .val (.int b0), .val (.int b1), .val (.int b2), .val (.ref o33), .val (.ref o34), .val (.int (refF [(cA pa)] [] (sgn (1 : Int32)))), .unset, .unset] [(.int (cmpF [(cA pa)] [] (1 : Int32)))]
        refine Own.callS W37 (tw hw 29 rfl) (tw hw 30 rfl) (tw hw 2 rfl) (tw hw 31 rfl) (by decide) (argsL := [(.int (cmpF [(cA pa)] [] (1 : Int32)))]) (rest := []) (Own.Con.pay (con_sgn hw hEL _ W37.old) W37 (tw hw 31 rfl) (tw hw 2 rfl) (len := 3) (wd := 0) (by decide) (by decide) (fun _ q => nomatch q)) rfl (lenOf pd_0 rfl) rfl (Nat.le_of_ble_eq_true rfl) at_146 149 rfl 12 48 (Nat.le_of_ble_eq_true rfl) (Nat.le_of_ble_eq_true rfl) (Nat.le_of_ble_eq_true rfl) (Nat.le_of_ble_eq_true rfl) ?_
        intro v38 T38 h38 u38 W38 R38 hq
        obtain ⟨rfl, eh38⟩ := hq
        have ei38 := eh38.symm; subst ei38
        show Own.Go _ _ _ _ _ 149 #[.val (.long pa), .second, .val (.long pb), .second, .val (.int fl), .val (.int (1 : Int32)), .val (.int (0 : Int32)), .val (.int (cA pa)), .val (.int (cS pa 16)), .val (.int (cS pa 32)), .val (.int b0), .val (.int b1), .val (.int b2), .val (.ref o33), .val (.ref o34), .val (.int (refF [(cA pa)] [] (sgn (1 : Int32)))), .unset, .unset] [(.int (sgn (cmpF [(cA pa)] [] (1 : Int32))))]
        refine Own.istore W38 at_149 151 rfl #[.val (.long pa), .second, .val (.long pb), .second, .val (.int fl), .val (.int (1 : Int32)), .val (.int (0 : Int32)), .val (.int (cA pa)), .val (.int (cS pa 16)), .val (.int (cS pa 32)), .val (.int b0), .val (.int b1), .val (.int b2), .val (.ref o33), .val (.ref o34), .val (.int (refF [(cA pa)] [] (sgn (1 : Int32)))), .val (.int (sgn (cmpF [(cA pa)] [] (1 : Int32)))), .unset] rfl ?_
        refine Own.aload W38 at_151 153 rfl (.ref o34) rfl rfl ?_
        refine Own.aload W38 at_153 155 rfl (.ref o33) rfl rfl ?_
        refine Own.callS W38 (tw hw 32 rfl) (tw hw 33 rfl) (tw hw 34 rfl) (tw hw 35 rfl) (by decide) (argsL := [(.ref o34), (.ref o33)]) (rest := []) (Own.Con.pay (con_cmp01 hw hEL hmem hS hcz SF rfm TA TH TL W38.old U34 (U33.ext X36)) W38 (tw hw 35 rfl) (tw hw 34 rfl) (len := 3) (wd := 0) (by decide) (by decide) (fun _ q => nomatch q)) rfl (lenOf pd_21 rfl) rfl (Nat.le_of_ble_eq_true rfl) at_155 158 rfl 12 48 (Nat.le_of_ble_eq_true rfl) (Nat.le_of_ble_eq_true rfl) (Nat.le_of_ble_eq_true rfl) (Nat.le_of_ble_eq_true rfl) ?_
        intro v39 T39 h39 u39 W39 R39 hq
        obtain ⟨rfl, eh39⟩ := hq
        have ei39 := eh39.symm; subst ei39
        show Own.Go _ _ _ _ _ 158 #[.val (.long pa), .second, .val (.long pb), .second, .val (.int fl), .val (.int (1 : Int32)), .val (.int (0 : Int32)), .val (.int (cA pa)), .val (.int (cS pa 16)), .val (.int (cS pa 32)), .val (.int b0), .val (.int b1), .val (.int b2), .val (.ref o33), .val (.ref o34), .val (.int (refF [(cA pa)] [] (sgn (1 : Int32)))), .val (.int (sgn (cmpF [(cA pa)] [] (1 : Int32)))), .unset] [(.int (cmpF [] [(cA pa)] (-1 : Int32)))]
        refine Own.callS W39 (tw hw 29 rfl) (tw hw 30 rfl) (tw hw 2 rfl) (tw hw 31 rfl) (by decide) (argsL := [(.int (cmpF [] [(cA pa)] (-1 : Int32)))]) (rest := []) (Own.Con.pay (con_sgn hw hEL _ W39.old) W39 (tw hw 31 rfl) (tw hw 2 rfl) (len := 3) (wd := 0) (by decide) (by decide) (fun _ q => nomatch q)) rfl (lenOf pd_0 rfl) rfl (Nat.le_of_ble_eq_true rfl) at_158 161 rfl 12 48 (Nat.le_of_ble_eq_true rfl) (Nat.le_of_ble_eq_true rfl) (Nat.le_of_ble_eq_true rfl) (Nat.le_of_ble_eq_true rfl) ?_
        intro v40 T40 h40 u40 W40 R40 hq
        obtain ⟨rfl, eh40⟩ := hq
        have ei40 := eh40.symm; subst ei40
        show Own.Go _ _ _ _ _ 161 #[.val (.long pa), .second, .val (.long pb), .second, .val (.int fl), .val (.int (1 : Int32)), .val (.int (0 : Int32)), .val (.int (cA pa)), .val (.int (cS pa 16)), .val (.int (cS pa 32)), .val (.int b0), .val (.int b1), .val (.int b2), .val (.ref o33), .val (.ref o34), .val (.int (refF [(cA pa)] [] (sgn (1 : Int32)))), .val (.int (sgn (cmpF [(cA pa)] [] (1 : Int32)))), .unset] [(.int (sgn (cmpF [] [(cA pa)] (-1 : Int32))))]
        refine Own.istore W40 at_161 163 rfl #[.val (.long pa), .second, .val (.long pb), .second, .val (.int fl), .val (.int (1 : Int32)), .val (.int (0 : Int32)), .val (.int (cA pa)), .val (.int (cS pa 16)), .val (.int (cS pa 32)), .val (.int b0), .val (.int b1), .val (.int b2), .val (.ref o33), .val (.ref o34), .val (.int (refF [(cA pa)] [] (sgn (1 : Int32)))), .val (.int (sgn (cmpF [(cA pa)] [] (1 : Int32)))), .val (.int (sgn (cmpF [] [(cA pa)] (-1 : Int32))))] rfl ?_
        refine Own.iload W40 at_163 165 rfl (sgn (cmpF [(cA pa)] [] (1 : Int32))) rfl ?_
        refine Own.iload W40 at_165 167 rfl (refF [(cA pa)] [] (sgn (1 : Int32))) rfl ?_
        have P := pureL [(cA pa)] [] (1 : Int32) (-1 : Int32) (by decide) (all_s (r16A pa) all_0) all_0
        refine Own.icmpNo W40 at_167 170 (XT.ii_ne_f P.1) rfl ?_
        refine Own.iload W40 at_170 172 rfl (sgn (cmpF [] [(cA pa)] (-1 : Int32))) rfl ?_
        refine Own.iload W40 at_172 174 rfl (refF [(cA pa)] [] (sgn (1 : Int32))) rfl ?_
        refine Own.ineg W40 at_174 175 rfl ?_
        refine Own.icmpNo W40 at_175 178 (XT.ii_ne_f P.2) rfl ?_
        refine Own.iconst W40 at_178 179 rfl (1 : Int32) rfl ?_
        refine Own.goto W40 at_179 183 (by decide) (by decide) ?_
        exact Own.retB W40 (by decide) (by decide) rfl at_183 rfl rfl
      · skip
        rw [eb]
        show Own.Go _ _ _ _ _ 92 #[.val (.long pa), .second, .val (.long pb), .second, .val (.int fl), .val (.int (1 : Int32)), .val (.int (1 : Int32)), .val (.int (cA pa)), .val (.int (cS pa 16)), .val (.int (cS pa 32)), .val (.int b0), .val (.int b1), .val (.int b2), .unset, .unset, .unset, .unset, .unset] []
        refine Own.iload W0 at_92 94 rfl (1 : Int32) rfl ?_
        refine Own.iload W0 at_94 96 rfl (cA pa) rfl ?_
        refine Own.iload W0 at_96 98 rfl (cS pa 16) rfl ?_
        refine Own.iload W0 at_98 100 rfl (cS pa 32) rfl ?_
        refine Own.callS W0 (tw hw 0 rfl) (tw hw 1 rfl) (tw hw 2 rfl) (tw hw 3 rfl) (by decide) (argsL := [(.int (1 : Int32)), (.int (cA pa)), (.int (cS pa 16)), (.int (cS pa 32))]) (rest := []) (Own.Con.pay (con_mk1 hw hEL hmem hS hcz TA TH TL hEN2 rfl (r16A pa) (r16S pa 16) (r16S pa 32) W0.old) W0 (tw hw 3 rfl) (tw hw 2 rfl) (len := 3) (wd := 0) (by decide) (by decide) (fun _ q => nomatch q)) rfl (lenOf pd_19 rfl) rfl (Nat.le_of_ble_eq_true rfl) at_100 103 rfl 6 24 (Nat.le_of_ble_eq_true rfl) (Nat.le_of_ble_eq_true rfl) (Nat.le_of_ble_eq_true rfl) (Nat.le_of_ble_eq_true rfl) ?_
        intro v41 T41 h41 u41 W41 R41 hq
        obtain ⟨o41, rfl, E41, g41, U41⟩ := hq
        show Own.Go _ _ _ _ _ 103 #[.val (.long pa), .second, .val (.long pb), .second, .val (.int fl), .val (.int (1 : Int32)), .val (.int (1 : Int32)), .val (.int (cA pa)), .val (.int (cS pa 16)), .val (.int (cS pa 32)), .val (.int b0), .val (.int b1), .val (.int b2), .unset, .unset, .unset, .unset, .unset] [(.ref o41)]
        refine Own.astore W41 at_103 105 rfl rfl #[.val (.long pa), .second, .val (.long pb), .second, .val (.int fl), .val (.int (1 : Int32)), .val (.int (1 : Int32)), .val (.int (cA pa)), .val (.int (cS pa 16)), .val (.int (cS pa 32)), .val (.int b0), .val (.int b1), .val (.int b2), .val (.ref o41), .unset, .unset, .unset, .unset] rfl ?_
        refine Own.iload W41 at_105 107 rfl (1 : Int32) rfl ?_
        refine Own.iload W41 at_107 109 rfl b0 rfl ?_
        refine Own.iload W41 at_109 111 rfl b1 rfl ?_
        refine Own.iload W41 at_111 113 rfl b2 rfl ?_
        refine Own.callS W41 (tw hw 0 rfl) (tw hw 1 rfl) (tw hw 2 rfl) (tw hw 3 rfl) (by decide) (argsL := [(.int (1 : Int32)), (.int b0), (.int b1), (.int b2)]) (rest := []) (Own.Con.pay (con_mk1 hw hEL hmem hS hcz TA TH TL hEN2 rfl q0 q1 q2 W41.old) W41 (tw hw 3 rfl) (tw hw 2 rfl) (len := 3) (wd := 0) (by decide) (by decide) (fun _ q => nomatch q)) rfl (lenOf pd_19 rfl) rfl (Nat.le_of_ble_eq_true rfl) at_113 116 rfl 12 48 (Nat.le_of_ble_eq_true rfl) (Nat.le_of_ble_eq_true rfl) (Nat.le_of_ble_eq_true rfl) (Nat.le_of_ble_eq_true rfl) ?_
        intro v42 T42 h42 u42 W42 R42 hq
        obtain ⟨o42, rfl, E42, g42, U42⟩ := hq
        show Own.Go _ _ _ _ _ 116 #[.val (.long pa), .second, .val (.long pb), .second, .val (.int fl), .val (.int (1 : Int32)), .val (.int (1 : Int32)), .val (.int (cA pa)), .val (.int (cS pa 16)), .val (.int (cS pa 32)), .val (.int b0), .val (.int b1), .val (.int b2), .val (.ref o41), .unset, .unset, .unset, .unset] [(.ref o42)]
        refine Own.astore W42 at_116 118 rfl rfl #[.val (.long pa), .second, .val (.long pb), .second, .val (.int fl), .val (.int (1 : Int32)), .val (.int (1 : Int32)), .val (.int (cA pa)), .val (.int (cS pa 16)), .val (.int (cS pa 32)), .val (.int b0), .val (.int b1), .val (.int b2), .val (.ref o41), .val (.ref o42), .unset, .unset, .unset] rfl ?_
        refine Own.iload W42 at_118 120 rfl (1 : Int32) rfl ?_
        refine Own.iload W42 at_120 122 rfl (cA pa) rfl ?_
        refine Own.iload W42 at_122 124 rfl (cS pa 16) rfl ?_
        refine Own.iload W42 at_124 126 rfl (cS pa 32) rfl ?_
        refine Own.iload W42 at_126 128 rfl (1 : Int32) rfl ?_
        refine Own.iload W42 at_128 130 rfl b0 rfl ?_
        refine Own.iload W42 at_130 132 rfl b1 rfl ?_
        refine Own.iload W42 at_132 134 rfl b2 rfl ?_
        refine Own.callS W42 (tw hw 26 rfl) (tw hw 27 rfl) (tw hw 2 rfl) (tw hw 28 rfl) (by decide) (argsL := [(.int (1 : Int32)), (.int (cA pa)), (.int (cS pa 16)), (.int (cS pa 32)), (.int (1 : Int32)), (.int b0), (.int b1), (.int b2)]) (rest := []) (Own.Con.pay (con_ref11 hw hEL rfl rfl _ _ _ _ _ _ W42.old) W42 (tw hw 28 rfl) (tw hw 2 rfl) (len := 3) (wd := 0) (by decide) (by decide) (fun _ q => nomatch q)) rfl (lenOf pd_20 rfl) rfl (Nat.le_of_ble_eq_true rfl) at_134 137 rfl 12 48 (Nat.le_of_ble_eq_true rfl) (Nat.le_of_ble_eq_true rfl) (Nat.le_of_ble_eq_true rfl) (Nat.le_of_ble_eq_true rfl) ?_
        intro v43 T43 h43 u43 W43 R43 hq
        obtain ⟨rfl, eh43⟩ := hq
        have ei43 := eh43.symm; subst ei43
        show Own.Go _ _ _ _ _ 137 #[.val (.long pa), .second, .val (.long pb), .second, .val (.int fl), .val (.int (1 : Int32)), .val (.int (1 : Int32)), .val (.int (cA pa)), .val (.int (cS pa 16)), .val (.int (cS pa 32)), .val (.int b0), .val (.int b1), .val (.int b2), .val (.ref o41), .val (.ref o42), .unset, .unset, .unset] [(.int (refF [(cA pa)] [b0] (sgn (0 : Int32))))]
        refine Own.istore W43 at_137 139 rfl #[.val (.long pa), .second, .val (.long pb), .second, .val (.int fl), .val (.int (1 : Int32)), .val (.int (1 : Int32)), .val (.int (cA pa)), .val (.int (cS pa 16)), .val (.int (cS pa 32)), .val (.int b0), .val (.int b1), .val (.int b2), .val (.ref o41), .val (.ref o42), .val (.int (refF [(cA pa)] [b0] (sgn (0 : Int32)))), .unset, .unset] rfl ?_
        refine Own.aload W43 at_139 141 rfl (.ref o41) rfl rfl ?_
        refine Own.aload W43 at_141 143 rfl (.ref o42) rfl rfl ?_
        have X44 : Ext h41 h42 := E42
        refine Own.callS W43 (tw hw 32 rfl) (tw hw 33 rfl) (tw hw 34 rfl) (tw hw 35 rfl) (by decide) (argsL := [(.ref o41), (.ref o42)]) (rest := []) (Own.Con.pay (con_cmp11 hw hEL hmem hS hcz SF rfm TA TH TL W43.old (U41.ext X44) U42) W43 (tw hw 35 rfl) (tw hw 34 rfl) (len := 3) (wd := 0) (by decide) (by decide) (fun _ q => nomatch q)) rfl (lenOf pd_21 rfl) rfl (Nat.le_of_ble_eq_true rfl) at_143 146 rfl 12 48 (Nat.le_of_ble_eq_true rfl) (Nat.le_of_ble_eq_true rfl) (Nat.le_of_ble_eq_true rfl) (Nat.le_of_ble_eq_true rfl) ?_
        intro v45 T45 h45 u45 W45 R45 hq
        obtain ⟨rfl, eh45⟩ := hq
        have ei45 := eh45.symm; subst ei45
        show Own.Go _ _ _ _ _ 146 #[.val (.long pa), .second, .val (.long pb), .second, .val (.int fl), .val (.int (1 : Int32)), .val (.int (1 : Int32)), .val (.int (cA pa)), .val (.int (cS pa 16)), .val (.int (cS pa 32)), .val (.int b0), .val (.int b1), .val (.int b2), .val (.ref o41), .val (.ref o42), .val (.int (refF [(cA pa)] [b0] (sgn (0 : Int32)))), .unset, .unset] [(.int (cmpF [(cA pa)] [b0] (0 : Int32)))]
        refine Own.callS W45 (tw hw 29 rfl) (tw hw 30 rfl) (tw hw 2 rfl) (tw hw 31 rfl) (by decide) (argsL := [(.int (cmpF [(cA pa)] [b0] (0 : Int32)))]) (rest := []) (Own.Con.pay (con_sgn hw hEL _ W45.old) W45 (tw hw 31 rfl) (tw hw 2 rfl) (len := 3) (wd := 0) (by decide) (by decide) (fun _ q => nomatch q)) rfl (lenOf pd_0 rfl) rfl (Nat.le_of_ble_eq_true rfl) at_146 149 rfl 12 48 (Nat.le_of_ble_eq_true rfl) (Nat.le_of_ble_eq_true rfl) (Nat.le_of_ble_eq_true rfl) (Nat.le_of_ble_eq_true rfl) ?_
        intro v46 T46 h46 u46 W46 R46 hq
        obtain ⟨rfl, eh46⟩ := hq
        have ei46 := eh46.symm; subst ei46
        show Own.Go _ _ _ _ _ 149 #[.val (.long pa), .second, .val (.long pb), .second, .val (.int fl), .val (.int (1 : Int32)), .val (.int (1 : Int32)), .val (.int (cA pa)), .val (.int (cS pa 16)), .val (.int (cS pa 32)), .val (.int b0), .val (.int b1), .val (.int b2), .val (.ref o41), .val (.ref o42), .val (.int (refF [(cA pa)] [b0] (sgn (0 : Int32)))), .unset, .unset] [(.int (sgn (cmpF [(cA pa)] [b0] (0 : Int32))))]
        refine Own.istore W46 at_149 151 rfl #[.val (.long pa), .second, .val (.long pb), .second, .val (.int fl), .val (.int (1 : Int32)), .val (.int (1 : Int32)), .val (.int (cA pa)), .val (.int (cS pa 16)), .val (.int (cS pa 32)), .val (.int b0), .val (.int b1), .val (.int b2), .val (.ref o41), .val (.ref o42), .val (.int (refF [(cA pa)] [b0] (sgn (0 : Int32)))), .val (.int (sgn (cmpF [(cA pa)] [b0] (0 : Int32)))), .unset] rfl ?_
        refine Own.aload W46 at_151 153 rfl (.ref o42) rfl rfl ?_
        refine Own.aload W46 at_153 155 rfl (.ref o41) rfl rfl ?_
        refine Own.callS W46 (tw hw 32 rfl) (tw hw 33 rfl) (tw hw 34 rfl) (tw hw 35 rfl) (by decide) (argsL := [(.ref o42), (.ref o41)]) (rest := []) (Own.Con.pay (con_cmp11 hw hEL hmem hS hcz SF rfm TA TH TL W46.old U42 (U41.ext X44)) W46 (tw hw 35 rfl) (tw hw 34 rfl) (len := 3) (wd := 0) (by decide) (by decide) (fun _ q => nomatch q)) rfl (lenOf pd_21 rfl) rfl (Nat.le_of_ble_eq_true rfl) at_155 158 rfl 12 48 (Nat.le_of_ble_eq_true rfl) (Nat.le_of_ble_eq_true rfl) (Nat.le_of_ble_eq_true rfl) (Nat.le_of_ble_eq_true rfl) ?_
        intro v47 T47 h47 u47 W47 R47 hq
        obtain ⟨rfl, eh47⟩ := hq
        have ei47 := eh47.symm; subst ei47
        show Own.Go _ _ _ _ _ 158 #[.val (.long pa), .second, .val (.long pb), .second, .val (.int fl), .val (.int (1 : Int32)), .val (.int (1 : Int32)), .val (.int (cA pa)), .val (.int (cS pa 16)), .val (.int (cS pa 32)), .val (.int b0), .val (.int b1), .val (.int b2), .val (.ref o41), .val (.ref o42), .val (.int (refF [(cA pa)] [b0] (sgn (0 : Int32)))), .val (.int (sgn (cmpF [(cA pa)] [b0] (0 : Int32)))), .unset] [(.int (cmpF [b0] [(cA pa)] (0 : Int32)))]
        refine Own.callS W47 (tw hw 29 rfl) (tw hw 30 rfl) (tw hw 2 rfl) (tw hw 31 rfl) (by decide) (argsL := [(.int (cmpF [b0] [(cA pa)] (0 : Int32)))]) (rest := []) (Own.Con.pay (con_sgn hw hEL _ W47.old) W47 (tw hw 31 rfl) (tw hw 2 rfl) (len := 3) (wd := 0) (by decide) (by decide) (fun _ q => nomatch q)) rfl (lenOf pd_0 rfl) rfl (Nat.le_of_ble_eq_true rfl) at_158 161 rfl 12 48 (Nat.le_of_ble_eq_true rfl) (Nat.le_of_ble_eq_true rfl) (Nat.le_of_ble_eq_true rfl) (Nat.le_of_ble_eq_true rfl) ?_
        intro v48 T48 h48 u48 W48 R48 hq
        obtain ⟨rfl, eh48⟩ := hq
        have ei48 := eh48.symm; subst ei48
        show Own.Go _ _ _ _ _ 161 #[.val (.long pa), .second, .val (.long pb), .second, .val (.int fl), .val (.int (1 : Int32)), .val (.int (1 : Int32)), .val (.int (cA pa)), .val (.int (cS pa 16)), .val (.int (cS pa 32)), .val (.int b0), .val (.int b1), .val (.int b2), .val (.ref o41), .val (.ref o42), .val (.int (refF [(cA pa)] [b0] (sgn (0 : Int32)))), .val (.int (sgn (cmpF [(cA pa)] [b0] (0 : Int32)))), .unset] [(.int (sgn (cmpF [b0] [(cA pa)] (0 : Int32))))]
        refine Own.istore W48 at_161 163 rfl #[.val (.long pa), .second, .val (.long pb), .second, .val (.int fl), .val (.int (1 : Int32)), .val (.int (1 : Int32)), .val (.int (cA pa)), .val (.int (cS pa 16)), .val (.int (cS pa 32)), .val (.int b0), .val (.int b1), .val (.int b2), .val (.ref o41), .val (.ref o42), .val (.int (refF [(cA pa)] [b0] (sgn (0 : Int32)))), .val (.int (sgn (cmpF [(cA pa)] [b0] (0 : Int32)))), .val (.int (sgn (cmpF [b0] [(cA pa)] (0 : Int32))))] rfl ?_
        refine Own.iload W48 at_163 165 rfl (sgn (cmpF [(cA pa)] [b0] (0 : Int32))) rfl ?_
        refine Own.iload W48 at_165 167 rfl (refF [(cA pa)] [b0] (sgn (0 : Int32))) rfl ?_
        have P := pureL [(cA pa)] [b0] (0 : Int32) (0 : Int32) (by decide) (all_s (r16A pa) all_0) (all_s q0 all_0)
        refine Own.icmpNo W48 at_167 170 (XT.ii_ne_f P.1) rfl ?_
        refine Own.iload W48 at_170 172 rfl (sgn (cmpF [b0] [(cA pa)] (0 : Int32))) rfl ?_
        refine Own.iload W48 at_172 174 rfl (refF [(cA pa)] [b0] (sgn (0 : Int32))) rfl ?_
        refine Own.ineg W48 at_174 175 rfl ?_
        refine Own.icmpNo W48 at_175 178 (XT.ii_ne_f P.2) rfl ?_
        refine Own.iconst W48 at_178 179 rfl (1 : Int32) rfl ?_
        refine Own.goto W48 at_179 183 (by decide) (by decide) ?_
        exact Own.retB W48 (by decide) (by decide) rfl at_183 rfl rfl
      · skip
        rw [eb]
        show Own.Go _ _ _ _ _ 92 #[.val (.long pa), .second, .val (.long pb), .second, .val (.int fl), .val (.int (1 : Int32)), .val (.int (2 : Int32)), .val (.int (cA pa)), .val (.int (cS pa 16)), .val (.int (cS pa 32)), .val (.int b0), .val (.int b1), .val (.int b2), .unset, .unset, .unset, .unset, .unset] []
        refine Own.iload W0 at_92 94 rfl (1 : Int32) rfl ?_
        refine Own.iload W0 at_94 96 rfl (cA pa) rfl ?_
        refine Own.iload W0 at_96 98 rfl (cS pa 16) rfl ?_
        refine Own.iload W0 at_98 100 rfl (cS pa 32) rfl ?_
        refine Own.callS W0 (tw hw 0 rfl) (tw hw 1 rfl) (tw hw 2 rfl) (tw hw 3 rfl) (by decide) (argsL := [(.int (1 : Int32)), (.int (cA pa)), (.int (cS pa 16)), (.int (cS pa 32))]) (rest := []) (Own.Con.pay (con_mk1 hw hEL hmem hS hcz TA TH TL hEN2 rfl (r16A pa) (r16S pa 16) (r16S pa 32) W0.old) W0 (tw hw 3 rfl) (tw hw 2 rfl) (len := 3) (wd := 0) (by decide) (by decide) (fun _ q => nomatch q)) rfl (lenOf pd_19 rfl) rfl (Nat.le_of_ble_eq_true rfl) at_100 103 rfl 6 24 (Nat.le_of_ble_eq_true rfl) (Nat.le_of_ble_eq_true rfl) (Nat.le_of_ble_eq_true rfl) (Nat.le_of_ble_eq_true rfl) ?_
        intro v49 T49 h49 u49 W49 R49 hq
        obtain ⟨o49, rfl, E49, g49, U49⟩ := hq
        show Own.Go _ _ _ _ _ 103 #[.val (.long pa), .second, .val (.long pb), .second, .val (.int fl), .val (.int (1 : Int32)), .val (.int (2 : Int32)), .val (.int (cA pa)), .val (.int (cS pa 16)), .val (.int (cS pa 32)), .val (.int b0), .val (.int b1), .val (.int b2), .unset, .unset, .unset, .unset, .unset] [(.ref o49)]
        refine Own.astore W49 at_103 105 rfl rfl #[.val (.long pa), .second, .val (.long pb), .second, .val (.int fl), .val (.int (1 : Int32)), .val (.int (2 : Int32)), .val (.int (cA pa)), .val (.int (cS pa 16)), .val (.int (cS pa 32)), .val (.int b0), .val (.int b1), .val (.int b2), .val (.ref o49), .unset, .unset, .unset, .unset] rfl ?_
        refine Own.iload W49 at_105 107 rfl (2 : Int32) rfl ?_
        refine Own.iload W49 at_107 109 rfl b0 rfl ?_
        refine Own.iload W49 at_109 111 rfl b1 rfl ?_
        refine Own.iload W49 at_111 113 rfl b2 rfl ?_
        refine Own.callS W49 (tw hw 0 rfl) (tw hw 1 rfl) (tw hw 2 rfl) (tw hw 3 rfl) (by decide) (argsL := [(.int (2 : Int32)), (.int b0), (.int b1), (.int b2)]) (rest := []) (Own.Con.pay (con_mk2 hw hEL hmem hS hcz TA TH TL hEN4 rfl q0 q1 q2 W49.old) W49 (tw hw 3 rfl) (tw hw 2 rfl) (len := 3) (wd := 0) (by decide) (by decide) (fun _ q => nomatch q)) rfl (lenOf pd_19 rfl) rfl (Nat.le_of_ble_eq_true rfl) at_113 116 rfl 12 48 (Nat.le_of_ble_eq_true rfl) (Nat.le_of_ble_eq_true rfl) (Nat.le_of_ble_eq_true rfl) (Nat.le_of_ble_eq_true rfl) ?_
        intro v50 T50 h50 u50 W50 R50 hq
        obtain ⟨o50, rfl, E50, g50, U50⟩ := hq
        show Own.Go _ _ _ _ _ 116 #[.val (.long pa), .second, .val (.long pb), .second, .val (.int fl), .val (.int (1 : Int32)), .val (.int (2 : Int32)), .val (.int (cA pa)), .val (.int (cS pa 16)), .val (.int (cS pa 32)), .val (.int b0), .val (.int b1), .val (.int b2), .val (.ref o49), .unset, .unset, .unset, .unset] [(.ref o50)]
        refine Own.astore W50 at_116 118 rfl rfl #[.val (.long pa), .second, .val (.long pb), .second, .val (.int fl), .val (.int (1 : Int32)), .val (.int (2 : Int32)), .val (.int (cA pa)), .val (.int (cS pa 16)), .val (.int (cS pa 32)), .val (.int b0), .val (.int b1), .val (.int b2), .val (.ref o49), .val (.ref o50), .unset, .unset, .unset] rfl ?_
        refine Own.iload W50 at_118 120 rfl (1 : Int32) rfl ?_
        refine Own.iload W50 at_120 122 rfl (cA pa) rfl ?_
        refine Own.iload W50 at_122 124 rfl (cS pa 16) rfl ?_
        refine Own.iload W50 at_124 126 rfl (cS pa 32) rfl ?_
        refine Own.iload W50 at_126 128 rfl (2 : Int32) rfl ?_
        refine Own.iload W50 at_128 130 rfl b0 rfl ?_
        refine Own.iload W50 at_130 132 rfl b1 rfl ?_
        refine Own.iload W50 at_132 134 rfl b2 rfl ?_
        refine Own.callS W50 (tw hw 26 rfl) (tw hw 27 rfl) (tw hw 2 rfl) (tw hw 28 rfl) (by decide) (argsL := [(.int (1 : Int32)), (.int (cA pa)), (.int (cS pa 16)), (.int (cS pa 32)), (.int (2 : Int32)), (.int b0), (.int b1), (.int b2)]) (rest := []) (Own.Con.pay (con_ref12 hw hEL rfl rfl _ _ _ _ _ _ W50.old) W50 (tw hw 28 rfl) (tw hw 2 rfl) (len := 3) (wd := 0) (by decide) (by decide) (fun _ q => nomatch q)) rfl (lenOf pd_20 rfl) rfl (Nat.le_of_ble_eq_true rfl) at_134 137 rfl 12 48 (Nat.le_of_ble_eq_true rfl) (Nat.le_of_ble_eq_true rfl) (Nat.le_of_ble_eq_true rfl) (Nat.le_of_ble_eq_true rfl) ?_
        intro v51 T51 h51 u51 W51 R51 hq
        obtain ⟨rfl, eh51⟩ := hq
        have ei51 := eh51.symm; subst ei51
        show Own.Go _ _ _ _ _ 137 #[.val (.long pa), .second, .val (.long pb), .second, .val (.int fl), .val (.int (1 : Int32)), .val (.int (2 : Int32)), .val (.int (cA pa)), .val (.int (cS pa 16)), .val (.int (cS pa 32)), .val (.int b0), .val (.int b1), .val (.int b2), .val (.ref o49), .val (.ref o50), .unset, .unset, .unset] [(.int (refF [(cA pa)] [b0, b1] (sgn (-1 : Int32))))]
        refine Own.istore W51 at_137 139 rfl #[.val (.long pa), .second, .val (.long pb), .second, .val (.int fl), .val (.int (1 : Int32)), .val (.int (2 : Int32)), .val (.int (cA pa)), .val (.int (cS pa 16)), .val (.int (cS pa 32)), .val (.int b0), .val (.int b1), .val (.int b2), .val (.ref o49), .val (.ref o50), .val (.int (refF [(cA pa)] [b0, b1] (sgn (-1 : Int32)))), .unset, .unset] rfl ?_
        refine Own.aload W51 at_139 141 rfl (.ref o49) rfl rfl ?_
        refine Own.aload W51 at_141 143 rfl (.ref o50) rfl rfl ?_
        have X52 : Ext h49 h50 := E50
        refine Own.callS W51 (tw hw 32 rfl) (tw hw 33 rfl) (tw hw 34 rfl) (tw hw 35 rfl) (by decide) (argsL := [(.ref o49), (.ref o50)]) (rest := []) (Own.Con.pay (con_cmp12 hw hEL hmem hS hcz SF rfm TA TH TL W51.old (U49.ext X52) U50) W51 (tw hw 35 rfl) (tw hw 34 rfl) (len := 3) (wd := 0) (by decide) (by decide) (fun _ q => nomatch q)) rfl (lenOf pd_21 rfl) rfl (Nat.le_of_ble_eq_true rfl) at_143 146 rfl 12 48 (Nat.le_of_ble_eq_true rfl) (Nat.le_of_ble_eq_true rfl) (Nat.le_of_ble_eq_true rfl) (Nat.le_of_ble_eq_true rfl) ?_
        intro v53 T53 h53 u53 W53 R53 hq
        obtain ⟨rfl, eh53⟩ := hq
        have ei53 := eh53.symm; subst ei53
        show Own.Go _ _ _ _ _ 146 #[.val (.long pa), .second, .val (.long pb), .second, .val (.int fl), .val (.int (1 : Int32)), .val (.int (2 : Int32)), .val (.int (cA pa)), .val (.int (cS pa 16)), .val (.int (cS pa 32)), .val (.int b0), .val (.int b1), .val (.int b2), .val (.ref o49), .val (.ref o50), .val (.int (refF [(cA pa)] [b0, b1] (sgn (-1 : Int32)))), .unset, .unset] [(.int (cmpF [(cA pa)] [b0, b1] (-1 : Int32)))]
        refine Own.callS W53 (tw hw 29 rfl) (tw hw 30 rfl) (tw hw 2 rfl) (tw hw 31 rfl) (by decide) (argsL := [(.int (cmpF [(cA pa)] [b0, b1] (-1 : Int32)))]) (rest := []) (Own.Con.pay (con_sgn hw hEL _ W53.old) W53 (tw hw 31 rfl) (tw hw 2 rfl) (len := 3) (wd := 0) (by decide) (by decide) (fun _ q => nomatch q)) rfl (lenOf pd_0 rfl) rfl (Nat.le_of_ble_eq_true rfl) at_146 149 rfl 12 48 (Nat.le_of_ble_eq_true rfl) (Nat.le_of_ble_eq_true rfl) (Nat.le_of_ble_eq_true rfl) (Nat.le_of_ble_eq_true rfl) ?_
        intro v54 T54 h54 u54 W54 R54 hq
        obtain ⟨rfl, eh54⟩ := hq
        have ei54 := eh54.symm; subst ei54
        show Own.Go _ _ _ _ _ 149 #[.val (.long pa), .second, .val (.long pb), .second, .val (.int fl), .val (.int (1 : Int32)), .val (.int (2 : Int32)), .val (.int (cA pa)), .val (.int (cS pa 16)), .val (.int (cS pa 32)), .val (.int b0), .val (.int b1), .val (.int b2), .val (.ref o49), .val (.ref o50), .val (.int (refF [(cA pa)] [b0, b1] (sgn (-1 : Int32)))), .unset, .unset] [(.int (sgn (cmpF [(cA pa)] [b0, b1] (-1 : Int32))))]
        refine Own.istore W54 at_149 151 rfl #[.val (.long pa), .second, .val (.long pb), .second, .val (.int fl), .val (.int (1 : Int32)), .val (.int (2 : Int32)), .val (.int (cA pa)), .val (.int (cS pa 16)), .val (.int (cS pa 32)), .val (.int b0), .val (.int b1), .val (.int b2), .val (.ref o49), .val (.ref o50), .val (.int (refF [(cA pa)] [b0, b1] (sgn (-1 : Int32)))), .val (.int (sgn (cmpF [(cA pa)] [b0, b1] (-1 : Int32)))), .unset] rfl ?_
        refine Own.aload W54 at_151 153 rfl (.ref o50) rfl rfl ?_
        refine Own.aload W54 at_153 155 rfl (.ref o49) rfl rfl ?_
        refine Own.callS W54 (tw hw 32 rfl) (tw hw 33 rfl) (tw hw 34 rfl) (tw hw 35 rfl) (by decide) (argsL := [(.ref o50), (.ref o49)]) (rest := []) (Own.Con.pay (con_cmp21 hw hEL hmem hS hcz SF rfm TA TH TL W54.old U50 (U49.ext X52)) W54 (tw hw 35 rfl) (tw hw 34 rfl) (len := 3) (wd := 0) (by decide) (by decide) (fun _ q => nomatch q)) rfl (lenOf pd_21 rfl) rfl (Nat.le_of_ble_eq_true rfl) at_155 158 rfl 12 48 (Nat.le_of_ble_eq_true rfl) (Nat.le_of_ble_eq_true rfl) (Nat.le_of_ble_eq_true rfl) (Nat.le_of_ble_eq_true rfl) ?_
        intro v55 T55 h55 u55 W55 R55 hq
        obtain ⟨rfl, eh55⟩ := hq
        have ei55 := eh55.symm; subst ei55
        show Own.Go _ _ _ _ _ 158 #[.val (.long pa), .second, .val (.long pb), .second, .val (.int fl), .val (.int (1 : Int32)), .val (.int (2 : Int32)), .val (.int (cA pa)), .val (.int (cS pa 16)), .val (.int (cS pa 32)), .val (.int b0), .val (.int b1), .val (.int b2), .val (.ref o49), .val (.ref o50), .val (.int (refF [(cA pa)] [b0, b1] (sgn (-1 : Int32)))), .val (.int (sgn (cmpF [(cA pa)] [b0, b1] (-1 : Int32)))), .unset] [(.int (cmpF [b0, b1] [(cA pa)] (1 : Int32)))]
        refine Own.callS W55 (tw hw 29 rfl) (tw hw 30 rfl) (tw hw 2 rfl) (tw hw 31 rfl) (by decide) (argsL := [(.int (cmpF [b0, b1] [(cA pa)] (1 : Int32)))]) (rest := []) (Own.Con.pay (con_sgn hw hEL _ W55.old) W55 (tw hw 31 rfl) (tw hw 2 rfl) (len := 3) (wd := 0) (by decide) (by decide) (fun _ q => nomatch q)) rfl (lenOf pd_0 rfl) rfl (Nat.le_of_ble_eq_true rfl) at_158 161 rfl 12 48 (Nat.le_of_ble_eq_true rfl) (Nat.le_of_ble_eq_true rfl) (Nat.le_of_ble_eq_true rfl) (Nat.le_of_ble_eq_true rfl) ?_
        intro v56 T56 h56 u56 W56 R56 hq
        obtain ⟨rfl, eh56⟩ := hq
        have ei56 := eh56.symm; subst ei56
        show Own.Go _ _ _ _ _ 161 #[.val (.long pa), .second, .val (.long pb), .second, .val (.int fl), .val (.int (1 : Int32)), .val (.int (2 : Int32)), .val (.int (cA pa)), .val (.int (cS pa 16)), .val (.int (cS pa 32)), .val (.int b0), .val (.int b1), .val (.int b2), .val (.ref o49), .val (.ref o50), .val (.int (refF [(cA pa)] [b0, b1] (sgn (-1 : Int32)))), .val (.int (sgn (cmpF [(cA pa)] [b0, b1] (-1 : Int32)))), .unset] [(.int (sgn (cmpF [b0, b1] [(cA pa)] (1 : Int32))))]
        refine Own.istore W56 at_161 163 rfl #[.val (.long pa), .second, .val (.long pb), .second, .val (.int fl), .val (.int (1 : Int32)), .val (.int (2 : Int32)), .val (.int (cA pa)), .val (.int (cS pa 16)), .val (.int (cS pa 32)), .val (.int b0), .val (.int b1), .val (.int b2), .val (.ref o49), .val (.ref o50), .val (.int (refF [(cA pa)] [b0, b1] (sgn (-1 : Int32)))), .val (.int (sgn (cmpF [(cA pa)] [b0, b1] (-1 : Int32)))), .val (.int (sgn (cmpF [b0, b1] [(cA pa)] (1 : Int32))))] rfl ?_
        refine Own.iload W56 at_163 165 rfl (sgn (cmpF [(cA pa)] [b0, b1] (-1 : Int32))) rfl ?_
        refine Own.iload W56 at_165 167 rfl (refF [(cA pa)] [b0, b1] (sgn (-1 : Int32))) rfl ?_
        have P := pureL [(cA pa)] [b0, b1] (-1 : Int32) (1 : Int32) (by decide) (all_s (r16A pa) all_0) (all_s q0 (all_s q1 all_0))
        refine Own.icmpNo W56 at_167 170 (XT.ii_ne_f P.1) rfl ?_
        refine Own.iload W56 at_170 172 rfl (sgn (cmpF [b0, b1] [(cA pa)] (1 : Int32))) rfl ?_
        refine Own.iload W56 at_172 174 rfl (refF [(cA pa)] [b0, b1] (sgn (-1 : Int32))) rfl ?_
        refine Own.ineg W56 at_174 175 rfl ?_
        refine Own.icmpNo W56 at_175 178 (XT.ii_ne_f P.2) rfl ?_
        refine Own.iconst W56 at_178 179 rfl (1 : Int32) rfl ?_
        refine Own.goto W56 at_179 183 (by decide) (by decide) ?_
        exact Own.retB W56 (by decide) (by decide) rfl at_183 rfl rfl
      · skip
        rw [eb]
        show Own.Go _ _ _ _ _ 92 #[.val (.long pa), .second, .val (.long pb), .second, .val (.int fl), .val (.int (1 : Int32)), .val (.int (3 : Int32)), .val (.int (cA pa)), .val (.int (cS pa 16)), .val (.int (cS pa 32)), .val (.int b0), .val (.int b1), .val (.int b2), .unset, .unset, .unset, .unset, .unset] []
        refine Own.iload W0 at_92 94 rfl (1 : Int32) rfl ?_
        refine Own.iload W0 at_94 96 rfl (cA pa) rfl ?_
        refine Own.iload W0 at_96 98 rfl (cS pa 16) rfl ?_
        refine Own.iload W0 at_98 100 rfl (cS pa 32) rfl ?_
        refine Own.callS W0 (tw hw 0 rfl) (tw hw 1 rfl) (tw hw 2 rfl) (tw hw 3 rfl) (by decide) (argsL := [(.int (1 : Int32)), (.int (cA pa)), (.int (cS pa 16)), (.int (cS pa 32))]) (rest := []) (Own.Con.pay (con_mk1 hw hEL hmem hS hcz TA TH TL hEN2 rfl (r16A pa) (r16S pa 16) (r16S pa 32) W0.old) W0 (tw hw 3 rfl) (tw hw 2 rfl) (len := 3) (wd := 0) (by decide) (by decide) (fun _ q => nomatch q)) rfl (lenOf pd_19 rfl) rfl (Nat.le_of_ble_eq_true rfl) at_100 103 rfl 6 24 (Nat.le_of_ble_eq_true rfl) (Nat.le_of_ble_eq_true rfl) (Nat.le_of_ble_eq_true rfl) (Nat.le_of_ble_eq_true rfl) ?_
        intro v57 T57 h57 u57 W57 R57 hq
        obtain ⟨o57, rfl, E57, g57, U57⟩ := hq
        show Own.Go _ _ _ _ _ 103 #[.val (.long pa), .second, .val (.long pb), .second, .val (.int fl), .val (.int (1 : Int32)), .val (.int (3 : Int32)), .val (.int (cA pa)), .val (.int (cS pa 16)), .val (.int (cS pa 32)), .val (.int b0), .val (.int b1), .val (.int b2), .unset, .unset, .unset, .unset, .unset] [(.ref o57)]
        refine Own.astore W57 at_103 105 rfl rfl #[.val (.long pa), .second, .val (.long pb), .second, .val (.int fl), .val (.int (1 : Int32)), .val (.int (3 : Int32)), .val (.int (cA pa)), .val (.int (cS pa 16)), .val (.int (cS pa 32)), .val (.int b0), .val (.int b1), .val (.int b2), .val (.ref o57), .unset, .unset, .unset, .unset] rfl ?_
        refine Own.iload W57 at_105 107 rfl (3 : Int32) rfl ?_
        refine Own.iload W57 at_107 109 rfl b0 rfl ?_
        refine Own.iload W57 at_109 111 rfl b1 rfl ?_
        refine Own.iload W57 at_111 113 rfl b2 rfl ?_
        refine Own.callS W57 (tw hw 0 rfl) (tw hw 1 rfl) (tw hw 2 rfl) (tw hw 3 rfl) (by decide) (argsL := [(.int (3 : Int32)), (.int b0), (.int b1), (.int b2)]) (rest := []) (Own.Con.pay (con_mk3 hw hEL hmem hS hcz TA TH TL hEN6 rfl q0 q1 q2 W57.old) W57 (tw hw 3 rfl) (tw hw 2 rfl) (len := 3) (wd := 0) (by decide) (by decide) (fun _ q => nomatch q)) rfl (lenOf pd_19 rfl) rfl (Nat.le_of_ble_eq_true rfl) at_113 116 rfl 12 48 (Nat.le_of_ble_eq_true rfl) (Nat.le_of_ble_eq_true rfl) (Nat.le_of_ble_eq_true rfl) (Nat.le_of_ble_eq_true rfl) ?_
        intro v58 T58 h58 u58 W58 R58 hq
        obtain ⟨o58, rfl, E58, g58, U58⟩ := hq
        show Own.Go _ _ _ _ _ 116 #[.val (.long pa), .second, .val (.long pb), .second, .val (.int fl), .val (.int (1 : Int32)), .val (.int (3 : Int32)), .val (.int (cA pa)), .val (.int (cS pa 16)), .val (.int (cS pa 32)), .val (.int b0), .val (.int b1), .val (.int b2), .val (.ref o57), .unset, .unset, .unset, .unset] [(.ref o58)]
        refine Own.astore W58 at_116 118 rfl rfl #[.val (.long pa), .second, .val (.long pb), .second, .val (.int fl), .val (.int (1 : Int32)), .val (.int (3 : Int32)), .val (.int (cA pa)), .val (.int (cS pa 16)), .val (.int (cS pa 32)), .val (.int b0), .val (.int b1), .val (.int b2), .val (.ref o57), .val (.ref o58), .unset, .unset, .unset] rfl ?_
        refine Own.iload W58 at_118 120 rfl (1 : Int32) rfl ?_
        refine Own.iload W58 at_120 122 rfl (cA pa) rfl ?_
        refine Own.iload W58 at_122 124 rfl (cS pa 16) rfl ?_
        refine Own.iload W58 at_124 126 rfl (cS pa 32) rfl ?_
        refine Own.iload W58 at_126 128 rfl (3 : Int32) rfl ?_
        refine Own.iload W58 at_128 130 rfl b0 rfl ?_
        refine Own.iload W58 at_130 132 rfl b1 rfl ?_
        refine Own.iload W58 at_132 134 rfl b2 rfl ?_
        refine Own.callS W58 (tw hw 26 rfl) (tw hw 27 rfl) (tw hw 2 rfl) (tw hw 28 rfl) (by decide) (argsL := [(.int (1 : Int32)), (.int (cA pa)), (.int (cS pa 16)), (.int (cS pa 32)), (.int (3 : Int32)), (.int b0), (.int b1), (.int b2)]) (rest := []) (Own.Con.pay (con_ref13 hw hEL rfl rfl _ _ _ _ _ _ W58.old) W58 (tw hw 28 rfl) (tw hw 2 rfl) (len := 3) (wd := 0) (by decide) (by decide) (fun _ q => nomatch q)) rfl (lenOf pd_20 rfl) rfl (Nat.le_of_ble_eq_true rfl) at_134 137 rfl 12 48 (Nat.le_of_ble_eq_true rfl) (Nat.le_of_ble_eq_true rfl) (Nat.le_of_ble_eq_true rfl) (Nat.le_of_ble_eq_true rfl) ?_
        intro v59 T59 h59 u59 W59 R59 hq
        obtain ⟨rfl, eh59⟩ := hq
        have ei59 := eh59.symm; subst ei59
        show Own.Go _ _ _ _ _ 137 #[.val (.long pa), .second, .val (.long pb), .second, .val (.int fl), .val (.int (1 : Int32)), .val (.int (3 : Int32)), .val (.int (cA pa)), .val (.int (cS pa 16)), .val (.int (cS pa 32)), .val (.int b0), .val (.int b1), .val (.int b2), .val (.ref o57), .val (.ref o58), .unset, .unset, .unset] [(.int (refF [(cA pa)] [b0, b1, b2] (sgn (-2 : Int32))))]
        refine Own.istore W59 at_137 139 rfl #[.val (.long pa), .second, .val (.long pb), .second, .val (.int fl), .val (.int (1 : Int32)), .val (.int (3 : Int32)), .val (.int (cA pa)), .val (.int (cS pa 16)), .val (.int (cS pa 32)), .val (.int b0), .val (.int b1), .val (.int b2), .val (.ref o57), .val (.ref o58), .val (.int (refF [(cA pa)] [b0, b1, b2] (sgn (-2 : Int32)))), .unset, .unset] rfl ?_
        refine Own.aload W59 at_139 141 rfl (.ref o57) rfl rfl ?_
        refine Own.aload W59 at_141 143 rfl (.ref o58) rfl rfl ?_
        have X60 : Ext h57 h58 := E58
        refine Own.callS W59 (tw hw 32 rfl) (tw hw 33 rfl) (tw hw 34 rfl) (tw hw 35 rfl) (by decide) (argsL := [(.ref o57), (.ref o58)]) (rest := []) (Own.Con.pay (con_cmp13 hw hEL hmem hS hcz SF rfm TA TH TL W59.old (U57.ext X60) U58) W59 (tw hw 35 rfl) (tw hw 34 rfl) (len := 3) (wd := 0) (by decide) (by decide) (fun _ q => nomatch q)) rfl (lenOf pd_21 rfl) rfl (Nat.le_of_ble_eq_true rfl) at_143 146 rfl 12 48 (Nat.le_of_ble_eq_true rfl) (Nat.le_of_ble_eq_true rfl) (Nat.le_of_ble_eq_true rfl) (Nat.le_of_ble_eq_true rfl) ?_
        intro v61 T61 h61 u61 W61 R61 hq
        obtain ⟨rfl, eh61⟩ := hq
        have ei61 := eh61.symm; subst ei61
        show Own.Go _ _ _ _ _ 146 #[.val (.long pa), .second, .val (.long pb), .second, .val (.int fl), .val (.int (1 : Int32)), .val (.int (3 : Int32)), .val (.int (cA pa)), .val (.int (cS pa 16)), .val (.int (cS pa 32)), .val (.int b0), .val (.int b1), .val (.int b2), .val (.ref o57), .val (.ref o58), .val (.int (refF [(cA pa)] [b0, b1, b2] (sgn (-2 : Int32)))), .unset, .unset] [(.int (cmpF [(cA pa)] [b0, b1, b2] (-2 : Int32)))]
        refine Own.callS W61 (tw hw 29 rfl) (tw hw 30 rfl) (tw hw 2 rfl) (tw hw 31 rfl) (by decide) (argsL := [(.int (cmpF [(cA pa)] [b0, b1, b2] (-2 : Int32)))]) (rest := []) (Own.Con.pay (con_sgn hw hEL _ W61.old) W61 (tw hw 31 rfl) (tw hw 2 rfl) (len := 3) (wd := 0) (by decide) (by decide) (fun _ q => nomatch q)) rfl (lenOf pd_0 rfl) rfl (Nat.le_of_ble_eq_true rfl) at_146 149 rfl 12 48 (Nat.le_of_ble_eq_true rfl) (Nat.le_of_ble_eq_true rfl) (Nat.le_of_ble_eq_true rfl) (Nat.le_of_ble_eq_true rfl) ?_
        intro v62 T62 h62 u62 W62 R62 hq
        obtain ⟨rfl, eh62⟩ := hq
        have ei62 := eh62.symm; subst ei62
        show Own.Go _ _ _ _ _ 149 #[.val (.long pa), .second, .val (.long pb), .second, .val (.int fl), .val (.int (1 : Int32)), .val (.int (3 : Int32)), .val (.int (cA pa)), .val (.int (cS pa 16)), .val (.int (cS pa 32)), .val (.int b0), .val (.int b1), .val (.int b2), .val (.ref o57), .val (.ref o58), .val (.int (refF [(cA pa)] [b0, b1, b2] (sgn (-2 : Int32)))), .unset, .unset] [(.int (sgn (cmpF [(cA pa)] [b0, b1, b2] (-2 : Int32))))]
        refine Own.istore W62 at_149 151 rfl #[.val (.long pa), .second, .val (.long pb), .second, .val (.int fl), .val (.int (1 : Int32)), .val (.int (3 : Int32)), .val (.int (cA pa)), .val (.int (cS pa 16)), .val (.int (cS pa 32)), .val (.int b0), .val (.int b1), .val (.int b2), .val (.ref o57), .val (.ref o58), .val (.int (refF [(cA pa)] [b0, b1, b2] (sgn (-2 : Int32)))), .val (.int (sgn (cmpF [(cA pa)] [b0, b1, b2] (-2 : Int32)))), .unset] rfl ?_
        refine Own.aload W62 at_151 153 rfl (.ref o58) rfl rfl ?_
        refine Own.aload W62 at_153 155 rfl (.ref o57) rfl rfl ?_
        refine Own.callS W62 (tw hw 32 rfl) (tw hw 33 rfl) (tw hw 34 rfl) (tw hw 35 rfl) (by decide) (argsL := [(.ref o58), (.ref o57)]) (rest := []) (Own.Con.pay (con_cmp31 hw hEL hmem hS hcz SF rfm TA TH TL W62.old U58 (U57.ext X60)) W62 (tw hw 35 rfl) (tw hw 34 rfl) (len := 3) (wd := 0) (by decide) (by decide) (fun _ q => nomatch q)) rfl (lenOf pd_21 rfl) rfl (Nat.le_of_ble_eq_true rfl) at_155 158 rfl 12 48 (Nat.le_of_ble_eq_true rfl) (Nat.le_of_ble_eq_true rfl) (Nat.le_of_ble_eq_true rfl) (Nat.le_of_ble_eq_true rfl) ?_
        intro v63 T63 h63 u63 W63 R63 hq
        obtain ⟨rfl, eh63⟩ := hq
        have ei63 := eh63.symm; subst ei63
        show Own.Go _ _ _ _ _ 158 #[.val (.long pa), .second, .val (.long pb), .second, .val (.int fl), .val (.int (1 : Int32)), .val (.int (3 : Int32)), .val (.int (cA pa)), .val (.int (cS pa 16)), .val (.int (cS pa 32)), .val (.int b0), .val (.int b1), .val (.int b2), .val (.ref o57), .val (.ref o58), .val (.int (refF [(cA pa)] [b0, b1, b2] (sgn (-2 : Int32)))), .val (.int (sgn (cmpF [(cA pa)] [b0, b1, b2] (-2 : Int32)))), .unset] [(.int (cmpF [b0, b1, b2] [(cA pa)] (2 : Int32)))]
        refine Own.callS W63 (tw hw 29 rfl) (tw hw 30 rfl) (tw hw 2 rfl) (tw hw 31 rfl) (by decide) (argsL := [(.int (cmpF [b0, b1, b2] [(cA pa)] (2 : Int32)))]) (rest := []) (Own.Con.pay (con_sgn hw hEL _ W63.old) W63 (tw hw 31 rfl) (tw hw 2 rfl) (len := 3) (wd := 0) (by decide) (by decide) (fun _ q => nomatch q)) rfl (lenOf pd_0 rfl) rfl (Nat.le_of_ble_eq_true rfl) at_158 161 rfl 12 48 (Nat.le_of_ble_eq_true rfl) (Nat.le_of_ble_eq_true rfl) (Nat.le_of_ble_eq_true rfl) (Nat.le_of_ble_eq_true rfl) ?_
        intro v64 T64 h64 u64 W64 R64 hq
        obtain ⟨rfl, eh64⟩ := hq
        have ei64 := eh64.symm; subst ei64
        show Own.Go _ _ _ _ _ 161 #[.val (.long pa), .second, .val (.long pb), .second, .val (.int fl), .val (.int (1 : Int32)), .val (.int (3 : Int32)), .val (.int (cA pa)), .val (.int (cS pa 16)), .val (.int (cS pa 32)), .val (.int b0), .val (.int b1), .val (.int b2), .val (.ref o57), .val (.ref o58), .val (.int (refF [(cA pa)] [b0, b1, b2] (sgn (-2 : Int32)))), .val (.int (sgn (cmpF [(cA pa)] [b0, b1, b2] (-2 : Int32)))), .unset] [(.int (sgn (cmpF [b0, b1, b2] [(cA pa)] (2 : Int32))))]
        refine Own.istore W64 at_161 163 rfl #[.val (.long pa), .second, .val (.long pb), .second, .val (.int fl), .val (.int (1 : Int32)), .val (.int (3 : Int32)), .val (.int (cA pa)), .val (.int (cS pa 16)), .val (.int (cS pa 32)), .val (.int b0), .val (.int b1), .val (.int b2), .val (.ref o57), .val (.ref o58), .val (.int (refF [(cA pa)] [b0, b1, b2] (sgn (-2 : Int32)))), .val (.int (sgn (cmpF [(cA pa)] [b0, b1, b2] (-2 : Int32)))), .val (.int (sgn (cmpF [b0, b1, b2] [(cA pa)] (2 : Int32))))] rfl ?_
        refine Own.iload W64 at_163 165 rfl (sgn (cmpF [(cA pa)] [b0, b1, b2] (-2 : Int32))) rfl ?_
        refine Own.iload W64 at_165 167 rfl (refF [(cA pa)] [b0, b1, b2] (sgn (-2 : Int32))) rfl ?_
        have P := pureL [(cA pa)] [b0, b1, b2] (-2 : Int32) (2 : Int32) (by decide) (all_s (r16A pa) all_0) (all_s q0 (all_s q1 (all_s q2 all_0)))
        refine Own.icmpNo W64 at_167 170 (XT.ii_ne_f P.1) rfl ?_
        refine Own.iload W64 at_170 172 rfl (sgn (cmpF [b0, b1, b2] [(cA pa)] (2 : Int32))) rfl ?_
        refine Own.iload W64 at_172 174 rfl (refF [(cA pa)] [b0, b1, b2] (sgn (-2 : Int32))) rfl ?_
        refine Own.ineg W64 at_174 175 rfl ?_
        refine Own.icmpNo W64 at_175 178 (XT.ii_ne_f P.2) rfl ?_
        refine Own.iconst W64 at_178 179 rfl (1 : Int32) rfl ?_
        refine Own.goto W64 at_179 183 (by decide) (by decide) ?_
        exact Own.retB W64 (by decide) (by decide) rfl at_183 rfl rfl
    · skip
      rw [ea]
      show Own.Go _ _ _ _ _ 92 #[.val (.long pa), .second, .val (.long pb), .second, .val (.int fl), .val (.int (2 : Int32)), .val (.int (fB fl)), .val (.int (cA pa)), .val (.int (cS pa 16)), .val (.int (cS pa 32)), .val (.int b0), .val (.int b1), .val (.int b2), .unset, .unset, .unset, .unset, .unset] []
      rcases fourB fl with eb | eb | eb | eb
      · skip
        rw [eb]
        show Own.Go _ _ _ _ _ 92 #[.val (.long pa), .second, .val (.long pb), .second, .val (.int fl), .val (.int (2 : Int32)), .val (.int (0 : Int32)), .val (.int (cA pa)), .val (.int (cS pa 16)), .val (.int (cS pa 32)), .val (.int b0), .val (.int b1), .val (.int b2), .unset, .unset, .unset, .unset, .unset] []
        refine Own.iload W0 at_92 94 rfl (2 : Int32) rfl ?_
        refine Own.iload W0 at_94 96 rfl (cA pa) rfl ?_
        refine Own.iload W0 at_96 98 rfl (cS pa 16) rfl ?_
        refine Own.iload W0 at_98 100 rfl (cS pa 32) rfl ?_
        refine Own.callS W0 (tw hw 0 rfl) (tw hw 1 rfl) (tw hw 2 rfl) (tw hw 3 rfl) (by decide) (argsL := [(.int (2 : Int32)), (.int (cA pa)), (.int (cS pa 16)), (.int (cS pa 32))]) (rest := []) (Own.Con.pay (con_mk2 hw hEL hmem hS hcz TA TH TL hEN4 rfl (r16A pa) (r16S pa 16) (r16S pa 32) W0.old) W0 (tw hw 3 rfl) (tw hw 2 rfl) (len := 3) (wd := 0) (by decide) (by decide) (fun _ q => nomatch q)) rfl (lenOf pd_19 rfl) rfl (Nat.le_of_ble_eq_true rfl) at_100 103 rfl 6 24 (Nat.le_of_ble_eq_true rfl) (Nat.le_of_ble_eq_true rfl) (Nat.le_of_ble_eq_true rfl) (Nat.le_of_ble_eq_true rfl) ?_
        intro v65 T65 h65 u65 W65 R65 hq
        obtain ⟨o65, rfl, E65, g65, U65⟩ := hq
        show Own.Go _ _ _ _ _ 103 #[.val (.long pa), .second, .val (.long pb), .second, .val (.int fl), .val (.int (2 : Int32)), .val (.int (0 : Int32)), .val (.int (cA pa)), .val (.int (cS pa 16)), .val (.int (cS pa 32)), .val (.int b0), .val (.int b1), .val (.int b2), .unset, .unset, .unset, .unset, .unset] [(.ref o65)]
        refine Own.astore W65 at_103 105 rfl rfl #[.val (.long pa), .second, .val (.long pb), .second, .val (.int fl), .val (.int (2 : Int32)), .val (.int (0 : Int32)), .val (.int (cA pa)), .val (.int (cS pa 16)), .val (.int (cS pa 32)), .val (.int b0), .val (.int b1), .val (.int b2), .val (.ref o65), .unset, .unset, .unset, .unset] rfl ?_
        refine Own.iload W65 at_105 107 rfl (0 : Int32) rfl ?_
        refine Own.iload W65 at_107 109 rfl b0 rfl ?_
        refine Own.iload W65 at_109 111 rfl b1 rfl ?_
        refine Own.iload W65 at_111 113 rfl b2 rfl ?_
        refine Own.callS W65 (tw hw 0 rfl) (tw hw 1 rfl) (tw hw 2 rfl) (tw hw 3 rfl) (by decide) (argsL := [(.int (0 : Int32)), (.int b0), (.int b1), (.int b2)]) (rest := []) (Own.Con.pay (con_mk0 hw hEL hmem hS hcz TA TH TL rfl q0 q1 q2 W65.old) W65 (tw hw 3 rfl) (tw hw 2 rfl) (len := 3) (wd := 0) (by decide) (by decide) (fun _ q => nomatch q)) rfl (lenOf pd_19 rfl) rfl (Nat.le_of_ble_eq_true rfl) at_113 116 rfl 12 48 (Nat.le_of_ble_eq_true rfl) (Nat.le_of_ble_eq_true rfl) (Nat.le_of_ble_eq_true rfl) (Nat.le_of_ble_eq_true rfl) ?_
        intro v66 T66 h66 u66 W66 R66 hq
        obtain ⟨o66, rfl, E66, g66, U66⟩ := hq
        show Own.Go _ _ _ _ _ 116 #[.val (.long pa), .second, .val (.long pb), .second, .val (.int fl), .val (.int (2 : Int32)), .val (.int (0 : Int32)), .val (.int (cA pa)), .val (.int (cS pa 16)), .val (.int (cS pa 32)), .val (.int b0), .val (.int b1), .val (.int b2), .val (.ref o65), .unset, .unset, .unset, .unset] [(.ref o66)]
        refine Own.astore W66 at_116 118 rfl rfl #[.val (.long pa), .second, .val (.long pb), .second, .val (.int fl), .val (.int (2 : Int32)), .val (.int (0 : Int32)), .val (.int (cA pa)), .val (.int (cS pa 16)), .val (.int (cS pa 32)), .val (.int b0), .val (.int b1), .val (.int b2), .val (.ref o65), .val (.ref o66), .unset, .unset, .unset] rfl ?_
        refine Own.iload W66 at_118 120 rfl (2 : Int32) rfl ?_
        refine Own.iload W66 at_120 122 rfl (cA pa) rfl ?_
        refine Own.iload W66 at_122 124 rfl (cS pa 16) rfl ?_
        refine Own.iload W66 at_124 126 rfl (cS pa 32) rfl ?_
        refine Own.iload W66 at_126 128 rfl (0 : Int32) rfl ?_
        refine Own.iload W66 at_128 130 rfl b0 rfl ?_
        refine Own.iload W66 at_130 132 rfl b1 rfl ?_
        refine Own.iload W66 at_132 134 rfl b2 rfl ?_
        refine Own.callS W66 (tw hw 26 rfl) (tw hw 27 rfl) (tw hw 2 rfl) (tw hw 28 rfl) (by decide) (argsL := [(.int (2 : Int32)), (.int (cA pa)), (.int (cS pa 16)), (.int (cS pa 32)), (.int (0 : Int32)), (.int b0), (.int b1), (.int b2)]) (rest := []) (Own.Con.pay (con_ref20 hw hEL rfl rfl _ _ _ _ _ _ W66.old) W66 (tw hw 28 rfl) (tw hw 2 rfl) (len := 3) (wd := 0) (by decide) (by decide) (fun _ q => nomatch q)) rfl (lenOf pd_20 rfl) rfl (Nat.le_of_ble_eq_true rfl) at_134 137 rfl 12 48 (Nat.le_of_ble_eq_true rfl) (Nat.le_of_ble_eq_true rfl) (Nat.le_of_ble_eq_true rfl) (Nat.le_of_ble_eq_true rfl) ?_
        intro v67 T67 h67 u67 W67 R67 hq
        obtain ⟨rfl, eh67⟩ := hq
        have ei67 := eh67.symm; subst ei67
        show Own.Go _ _ _ _ _ 137 #[.val (.long pa), .second, .val (.long pb), .second, .val (.int fl), .val (.int (2 : Int32)), .val (.int (0 : Int32)), .val (.int (cA pa)), .val (.int (cS pa 16)), .val (.int (cS pa 32)), .val (.int b0), .val (.int b1), .val (.int b2), .val (.ref o65), .val (.ref o66), .unset, .unset, .unset] [(.int (refF [(cA pa), (cS pa 16)] [] (sgn (2 : Int32))))]
        refine Own.istore W67 at_137 139 rfl #[.val (.long pa), .second, .val (.long pb), .second, .val (.int fl), .val (.int (2 : Int32)), .val (.int (0 : Int32)), .val (.int (cA pa)), .val (.int (cS pa 16)), .val (.int (cS pa 32)), .val (.int b0), .val (.int b1), .val (.int b2), .val (.ref o65), .val (.ref o66), .val (.int (refF [(cA pa), (cS pa 16)] [] (sgn (2 : Int32)))), .unset, .unset] rfl ?_
        refine Own.aload W67 at_139 141 rfl (.ref o65) rfl rfl ?_
        refine Own.aload W67 at_141 143 rfl (.ref o66) rfl rfl ?_
        have X68 : Ext h65 h66 := E66
        refine Own.callS W67 (tw hw 32 rfl) (tw hw 33 rfl) (tw hw 34 rfl) (tw hw 35 rfl) (by decide) (argsL := [(.ref o65), (.ref o66)]) (rest := []) (Own.Con.pay (con_cmp20 hw hEL hmem hS hcz SF rfm TA TH TL W67.old (U65.ext X68) U66) W67 (tw hw 35 rfl) (tw hw 34 rfl) (len := 3) (wd := 0) (by decide) (by decide) (fun _ q => nomatch q)) rfl (lenOf pd_21 rfl) rfl (Nat.le_of_ble_eq_true rfl) at_143 146 rfl 12 48 (Nat.le_of_ble_eq_true rfl) (Nat.le_of_ble_eq_true rfl) (Nat.le_of_ble_eq_true rfl) (Nat.le_of_ble_eq_true rfl) ?_
        intro v69 T69 h69 u69 W69 R69 hq
        obtain ⟨rfl, eh69⟩ := hq
        have ei69 := eh69.symm; subst ei69
        show Own.Go _ _ _ _ _ 146 #[.val (.long pa), .second, .val (.long pb), .second, .val (.int fl), .val (.int (2 : Int32)), .val (.int (0 : Int32)), .val (.int (cA pa)), .val (.int (cS pa 16)), .val (.int (cS pa 32)), .val (.int b0), .val (.int b1), .val (.int b2), .val (.ref o65), .val (.ref o66), .val (.int (refF [(cA pa), (cS pa 16)] [] (sgn (2 : Int32)))), .unset, .unset] [(.int (cmpF [(cA pa), (cS pa 16)] [] (2 : Int32)))]
        refine Own.callS W69 (tw hw 29 rfl) (tw hw 30 rfl) (tw hw 2 rfl) (tw hw 31 rfl) (by decide) (argsL := [(.int (cmpF [(cA pa), (cS pa 16)] [] (2 : Int32)))]) (rest := []) (Own.Con.pay (con_sgn hw hEL _ W69.old) W69 (tw hw 31 rfl) (tw hw 2 rfl) (len := 3) (wd := 0) (by decide) (by decide) (fun _ q => nomatch q)) rfl (lenOf pd_0 rfl) rfl (Nat.le_of_ble_eq_true rfl) at_146 149 rfl 12 48 (Nat.le_of_ble_eq_true rfl) (Nat.le_of_ble_eq_true rfl) (Nat.le_of_ble_eq_true rfl) (Nat.le_of_ble_eq_true rfl) ?_
        intro v70 T70 h70 u70 W70 R70 hq
        obtain ⟨rfl, eh70⟩ := hq
        have ei70 := eh70.symm; subst ei70
        show Own.Go _ _ _ _ _ 149 #[.val (.long pa), .second, .val (.long pb), .second, .val (.int fl), .val (.int (2 : Int32)), .val (.int (0 : Int32)), .val (.int (cA pa)), .val (.int (cS pa 16)), .val (.int (cS pa 32)), .val (.int b0), .val (.int b1), .val (.int b2), .val (.ref o65), .val (.ref o66), .val (.int (refF [(cA pa), (cS pa 16)] [] (sgn (2 : Int32)))), .unset, .unset] [(.int (sgn (cmpF [(cA pa), (cS pa 16)] [] (2 : Int32))))]
        refine Own.istore W70 at_149 151 rfl #[.val (.long pa), .second, .val (.long pb), .second, .val (.int fl), .val (.int (2 : Int32)), .val (.int (0 : Int32)), .val (.int (cA pa)), .val (.int (cS pa 16)), .val (.int (cS pa 32)), .val (.int b0), .val (.int b1), .val (.int b2), .val (.ref o65), .val (.ref o66), .val (.int (refF [(cA pa), (cS pa 16)] [] (sgn (2 : Int32)))), .val (.int (sgn (cmpF [(cA pa), (cS pa 16)] [] (2 : Int32)))), .unset] rfl ?_
        refine Own.aload W70 at_151 153 rfl (.ref o66) rfl rfl ?_
        refine Own.aload W70 at_153 155 rfl (.ref o65) rfl rfl ?_
        refine Own.callS W70 (tw hw 32 rfl) (tw hw 33 rfl) (tw hw 34 rfl) (tw hw 35 rfl) (by decide) (argsL := [(.ref o66), (.ref o65)]) (rest := []) (Own.Con.pay (con_cmp02 hw hEL hmem hS hcz SF rfm TA TH TL W70.old U66 (U65.ext X68)) W70 (tw hw 35 rfl) (tw hw 34 rfl) (len := 3) (wd := 0) (by decide) (by decide) (fun _ q => nomatch q)) rfl (lenOf pd_21 rfl) rfl (Nat.le_of_ble_eq_true rfl) at_155 158 rfl 12 48 (Nat.le_of_ble_eq_true rfl) (Nat.le_of_ble_eq_true rfl) (Nat.le_of_ble_eq_true rfl) (Nat.le_of_ble_eq_true rfl) ?_
        intro v71 T71 h71 u71 W71 R71 hq
        obtain ⟨rfl, eh71⟩ := hq
        have ei71 := eh71.symm; subst ei71
        show Own.Go _ _ _ _ _ 158 #[.val (.long pa), .second, .val (.long pb), .second, .val (.int fl), .val (.int (2 : Int32)), .val (.int (0 : Int32)), .val (.int (cA pa)), .val (.int (cS pa 16)), .val (.int (cS pa 32)), .val (.int b0), .val (.int b1), .val (.int b2), .val (.ref o65), .val (.ref o66), .val (.int (refF [(cA pa), (cS pa 16)] [] (sgn (2 : Int32)))), .val (.int (sgn (cmpF [(cA pa), (cS pa 16)] [] (2 : Int32)))), .unset] [(.int (cmpF [] [(cA pa), (cS pa 16)] (-2 : Int32)))]
        refine Own.callS W71 (tw hw 29 rfl) (tw hw 30 rfl) (tw hw 2 rfl) (tw hw 31 rfl) (by decide) (argsL := [(.int (cmpF [] [(cA pa), (cS pa 16)] (-2 : Int32)))]) (rest := []) (Own.Con.pay (con_sgn hw hEL _ W71.old) W71 (tw hw 31 rfl) (tw hw 2 rfl) (len := 3) (wd := 0) (by decide) (by decide) (fun _ q => nomatch q)) rfl (lenOf pd_0 rfl) rfl (Nat.le_of_ble_eq_true rfl) at_158 161 rfl 12 48 (Nat.le_of_ble_eq_true rfl) (Nat.le_of_ble_eq_true rfl) (Nat.le_of_ble_eq_true rfl) (Nat.le_of_ble_eq_true rfl) ?_
        intro v72 T72 h72 u72 W72 R72 hq
        obtain ⟨rfl, eh72⟩ := hq
        have ei72 := eh72.symm; subst ei72
        show Own.Go _ _ _ _ _ 161 #[.val (.long pa), .second, .val (.long pb), .second, .val (.int fl), .val (.int (2 : Int32)), .val (.int (0 : Int32)), .val (.int (cA pa)), .val (.int (cS pa 16)), .val (.int (cS pa 32)), .val (.int b0), .val (.int b1), .val (.int b2), .val (.ref o65), .val (.ref o66), .val (.int (refF [(cA pa), (cS pa 16)] [] (sgn (2 : Int32)))), .val (.int (sgn (cmpF [(cA pa), (cS pa 16)] [] (2 : Int32)))), .unset] [(.int (sgn (cmpF [] [(cA pa), (cS pa 16)] (-2 : Int32))))]
        refine Own.istore W72 at_161 163 rfl #[.val (.long pa), .second, .val (.long pb), .second, .val (.int fl), .val (.int (2 : Int32)), .val (.int (0 : Int32)), .val (.int (cA pa)), .val (.int (cS pa 16)), .val (.int (cS pa 32)), .val (.int b0), .val (.int b1), .val (.int b2), .val (.ref o65), .val (.ref o66), .val (.int (refF [(cA pa), (cS pa 16)] [] (sgn (2 : Int32)))), .val (.int (sgn (cmpF [(cA pa), (cS pa 16)] [] (2 : Int32)))), .val (.int (sgn (cmpF [] [(cA pa), (cS pa 16)] (-2 : Int32))))] rfl ?_
        refine Own.iload W72 at_163 165 rfl (sgn (cmpF [(cA pa), (cS pa 16)] [] (2 : Int32))) rfl ?_
        refine Own.iload W72 at_165 167 rfl (refF [(cA pa), (cS pa 16)] [] (sgn (2 : Int32))) rfl ?_
        have P := pureL [(cA pa), (cS pa 16)] [] (2 : Int32) (-2 : Int32) (by decide) (all_s (r16A pa) (all_s (r16S pa 16) all_0)) all_0
        refine Own.icmpNo W72 at_167 170 (XT.ii_ne_f P.1) rfl ?_
        refine Own.iload W72 at_170 172 rfl (sgn (cmpF [] [(cA pa), (cS pa 16)] (-2 : Int32))) rfl ?_
        refine Own.iload W72 at_172 174 rfl (refF [(cA pa), (cS pa 16)] [] (sgn (2 : Int32))) rfl ?_
        refine Own.ineg W72 at_174 175 rfl ?_
        refine Own.icmpNo W72 at_175 178 (XT.ii_ne_f P.2) rfl ?_
        refine Own.iconst W72 at_178 179 rfl (1 : Int32) rfl ?_
        refine Own.goto W72 at_179 183 (by decide) (by decide) ?_
        exact Own.retB W72 (by decide) (by decide) rfl at_183 rfl rfl
      · skip
        rw [eb]
        show Own.Go _ _ _ _ _ 92 #[.val (.long pa), .second, .val (.long pb), .second, .val (.int fl), .val (.int (2 : Int32)), .val (.int (1 : Int32)), .val (.int (cA pa)), .val (.int (cS pa 16)), .val (.int (cS pa 32)), .val (.int b0), .val (.int b1), .val (.int b2), .unset, .unset, .unset, .unset, .unset] []
        refine Own.iload W0 at_92 94 rfl (2 : Int32) rfl ?_
        refine Own.iload W0 at_94 96 rfl (cA pa) rfl ?_
        refine Own.iload W0 at_96 98 rfl (cS pa 16) rfl ?_
        refine Own.iload W0 at_98 100 rfl (cS pa 32) rfl ?_
        refine Own.callS W0 (tw hw 0 rfl) (tw hw 1 rfl) (tw hw 2 rfl) (tw hw 3 rfl) (by decide) (argsL := [(.int (2 : Int32)), (.int (cA pa)), (.int (cS pa 16)), (.int (cS pa 32))]) (rest := []) (Own.Con.pay (con_mk2 hw hEL hmem hS hcz TA TH TL hEN4 rfl (r16A pa) (r16S pa 16) (r16S pa 32) W0.old) W0 (tw hw 3 rfl) (tw hw 2 rfl) (len := 3) (wd := 0) (by decide) (by decide) (fun _ q => nomatch q)) rfl (lenOf pd_19 rfl) rfl (Nat.le_of_ble_eq_true rfl) at_100 103 rfl 6 24 (Nat.le_of_ble_eq_true rfl) (Nat.le_of_ble_eq_true rfl) (Nat.le_of_ble_eq_true rfl) (Nat.le_of_ble_eq_true rfl) ?_
        intro v73 T73 h73 u73 W73 R73 hq
        obtain ⟨o73, rfl, E73, g73, U73⟩ := hq
        show Own.Go _ _ _ _ _ 103 #[.val (.long pa), .second, .val (.long pb), .second, .val (.int fl), .val (.int (2 : Int32)), .val (.int (1 : Int32)), .val (.int (cA pa)), .val (.int (cS pa 16)), .val (.int (cS pa 32)), .val (.int b0), .val (.int b1), .val (.int b2), .unset, .unset, .unset, .unset, .unset] [(.ref o73)]
        refine Own.astore W73 at_103 105 rfl rfl #[.val (.long pa), .second, .val (.long pb), .second, .val (.int fl), .val (.int (2 : Int32)), .val (.int (1 : Int32)), .val (.int (cA pa)), .val (.int (cS pa 16)), .val (.int (cS pa 32)), .val (.int b0), .val (.int b1), .val (.int b2), .val (.ref o73), .unset, .unset, .unset, .unset] rfl ?_
        refine Own.iload W73 at_105 107 rfl (1 : Int32) rfl ?_
        refine Own.iload W73 at_107 109 rfl b0 rfl ?_
        refine Own.iload W73 at_109 111 rfl b1 rfl ?_
        refine Own.iload W73 at_111 113 rfl b2 rfl ?_
        refine Own.callS W73 (tw hw 0 rfl) (tw hw 1 rfl) (tw hw 2 rfl) (tw hw 3 rfl) (by decide) (argsL := [(.int (1 : Int32)), (.int b0), (.int b1), (.int b2)]) (rest := []) (Own.Con.pay (con_mk1 hw hEL hmem hS hcz TA TH TL hEN2 rfl q0 q1 q2 W73.old) W73 (tw hw 3 rfl) (tw hw 2 rfl) (len := 3) (wd := 0) (by decide) (by decide) (fun _ q => nomatch q)) rfl (lenOf pd_19 rfl) rfl (Nat.le_of_ble_eq_true rfl) at_113 116 rfl 12 48 (Nat.le_of_ble_eq_true rfl) (Nat.le_of_ble_eq_true rfl) (Nat.le_of_ble_eq_true rfl) (Nat.le_of_ble_eq_true rfl) ?_
        intro v74 T74 h74 u74 W74 R74 hq
        obtain ⟨o74, rfl, E74, g74, U74⟩ := hq
        show Own.Go _ _ _ _ _ 116 #[.val (.long pa), .second, .val (.long pb), .second, .val (.int fl), .val (.int (2 : Int32)), .val (.int (1 : Int32)), .val (.int (cA pa)), .val (.int (cS pa 16)), .val (.int (cS pa 32)), .val (.int b0), .val (.int b1), .val (.int b2), .val (.ref o73), .unset, .unset, .unset, .unset] [(.ref o74)]
        refine Own.astore W74 at_116 118 rfl rfl #[.val (.long pa), .second, .val (.long pb), .second, .val (.int fl), .val (.int (2 : Int32)), .val (.int (1 : Int32)), .val (.int (cA pa)), .val (.int (cS pa 16)), .val (.int (cS pa 32)), .val (.int b0), .val (.int b1), .val (.int b2), .val (.ref o73), .val (.ref o74), .unset, .unset, .unset] rfl ?_
        refine Own.iload W74 at_118 120 rfl (2 : Int32) rfl ?_
        refine Own.iload W74 at_120 122 rfl (cA pa) rfl ?_
        refine Own.iload W74 at_122 124 rfl (cS pa 16) rfl ?_
        refine Own.iload W74 at_124 126 rfl (cS pa 32) rfl ?_
        refine Own.iload W74 at_126 128 rfl (1 : Int32) rfl ?_
        refine Own.iload W74 at_128 130 rfl b0 rfl ?_
        refine Own.iload W74 at_130 132 rfl b1 rfl ?_
        refine Own.iload W74 at_132 134 rfl b2 rfl ?_
        refine Own.callS W74 (tw hw 26 rfl) (tw hw 27 rfl) (tw hw 2 rfl) (tw hw 28 rfl) (by decide) (argsL := [(.int (2 : Int32)), (.int (cA pa)), (.int (cS pa 16)), (.int (cS pa 32)), (.int (1 : Int32)), (.int b0), (.int b1), (.int b2)]) (rest := []) (Own.Con.pay (con_ref21 hw hEL rfl rfl _ _ _ _ _ _ W74.old) W74 (tw hw 28 rfl) (tw hw 2 rfl) (len := 3) (wd := 0) (by decide) (by decide) (fun _ q => nomatch q)) rfl (lenOf pd_20 rfl) rfl (Nat.le_of_ble_eq_true rfl) at_134 137 rfl 12 48 (Nat.le_of_ble_eq_true rfl) (Nat.le_of_ble_eq_true rfl) (Nat.le_of_ble_eq_true rfl) (Nat.le_of_ble_eq_true rfl) ?_
        intro v75 T75 h75 u75 W75 R75 hq
        obtain ⟨rfl, eh75⟩ := hq
        have ei75 := eh75.symm; subst ei75
        show Own.Go _ _ _ _ _ 137 #[.val (.long pa), .second, .val (.long pb), .second, .val (.int fl), .val (.int (2 : Int32)), .val (.int (1 : Int32)), .val (.int (cA pa)), .val (.int (cS pa 16)), .val (.int (cS pa 32)), .val (.int b0), .val (.int b1), .val (.int b2), .val (.ref o73), .val (.ref o74), .unset, .unset, .unset] [(.int (refF [(cA pa), (cS pa 16)] [b0] (sgn (1 : Int32))))]
        refine Own.istore W75 at_137 139 rfl #[.val (.long pa), .second, .val (.long pb), .second, .val (.int fl), .val (.int (2 : Int32)), .val (.int (1 : Int32)), .val (.int (cA pa)), .val (.int (cS pa 16)), .val (.int (cS pa 32)), .val (.int b0), .val (.int b1), .val (.int b2), .val (.ref o73), .val (.ref o74), .val (.int (refF [(cA pa), (cS pa 16)] [b0] (sgn (1 : Int32)))), .unset, .unset] rfl ?_
        refine Own.aload W75 at_139 141 rfl (.ref o73) rfl rfl ?_
        refine Own.aload W75 at_141 143 rfl (.ref o74) rfl rfl ?_
        have X76 : Ext h73 h74 := E74
        refine Own.callS W75 (tw hw 32 rfl) (tw hw 33 rfl) (tw hw 34 rfl) (tw hw 35 rfl) (by decide) (argsL := [(.ref o73), (.ref o74)]) (rest := []) (Own.Con.pay (con_cmp21 hw hEL hmem hS hcz SF rfm TA TH TL W75.old (U73.ext X76) U74) W75 (tw hw 35 rfl) (tw hw 34 rfl) (len := 3) (wd := 0) (by decide) (by decide) (fun _ q => nomatch q)) rfl (lenOf pd_21 rfl) rfl (Nat.le_of_ble_eq_true rfl) at_143 146 rfl 12 48 (Nat.le_of_ble_eq_true rfl) (Nat.le_of_ble_eq_true rfl) (Nat.le_of_ble_eq_true rfl) (Nat.le_of_ble_eq_true rfl) ?_
        intro v77 T77 h77 u77 W77 R77 hq
        obtain ⟨rfl, eh77⟩ := hq
        have ei77 := eh77.symm; subst ei77
        show Own.Go _ _ _ _ _ 146 #[.val (.long pa), .second, .val (.long pb), .second, .val (.int fl), .val (.int (2 : Int32)), .val (.int (1 : Int32)), .val (.int (cA pa)), .val (.int (cS pa 16)), .val (.int (cS pa 32)), .val (.int b0), .val (.int b1), .val (.int b2), .val (.ref o73), .val (.ref o74), .val (.int (refF [(cA pa), (cS pa 16)] [b0] (sgn (1 : Int32)))), .unset, .unset] [(.int (cmpF [(cA pa), (cS pa 16)] [b0] (1 : Int32)))]
        refine Own.callS W77 (tw hw 29 rfl) (tw hw 30 rfl) (tw hw 2 rfl) (tw hw 31 rfl) (by decide) (argsL := [(.int (cmpF [(cA pa), (cS pa 16)] [b0] (1 : Int32)))]) (rest := []) (Own.Con.pay (con_sgn hw hEL _ W77.old) W77 (tw hw 31 rfl) (tw hw 2 rfl) (len := 3) (wd := 0) (by decide) (by decide) (fun _ q => nomatch q)) rfl (lenOf pd_0 rfl) rfl (Nat.le_of_ble_eq_true rfl) at_146 149 rfl 12 48 (Nat.le_of_ble_eq_true rfl) (Nat.le_of_ble_eq_true rfl) (Nat.le_of_ble_eq_true rfl) (Nat.le_of_ble_eq_true rfl) ?_
        intro v78 T78 h78 u78 W78 R78 hq
        obtain ⟨rfl, eh78⟩ := hq
        have ei78 := eh78.symm; subst ei78
        show Own.Go _ _ _ _ _ 149 #[.val (.long pa), .second, .val (.long pb), .second, .val (.int fl), .val (.int (2 : Int32)), .val (.int (1 : Int32)), .val (.int (cA pa)), .val (.int (cS pa 16)), .val (.int (cS pa 32)), .val (.int b0), .val (.int b1), .val (.int b2), .val (.ref o73), .val (.ref o74), .val (.int (refF [(cA pa), (cS pa 16)] [b0] (sgn (1 : Int32)))), .unset, .unset] [(.int (sgn (cmpF [(cA pa), (cS pa 16)] [b0] (1 : Int32))))]
        refine Own.istore W78 at_149 151 rfl #[.val (.long pa), .second, .val (.long pb), .second, .val (.int fl), .val (.int (2 : Int32)), .val (.int (1 : Int32)), .val (.int (cA pa)), .val (.int (cS pa 16)), .val (.int (cS pa 32)), .val (.int b0), .val (.int b1), .val (.int b2), .val (.ref o73), .val (.ref o74), .val (.int (refF [(cA pa), (cS pa 16)] [b0] (sgn (1 : Int32)))), .val (.int (sgn (cmpF [(cA pa), (cS pa 16)] [b0] (1 : Int32)))), .unset] rfl ?_
        refine Own.aload W78 at_151 153 rfl (.ref o74) rfl rfl ?_
        refine Own.aload W78 at_153 155 rfl (.ref o73) rfl rfl ?_
        refine Own.callS W78 (tw hw 32 rfl) (tw hw 33 rfl) (tw hw 34 rfl) (tw hw 35 rfl) (by decide) (argsL := [(.ref o74), (.ref o73)]) (rest := []) (Own.Con.pay (con_cmp12 hw hEL hmem hS hcz SF rfm TA TH TL W78.old U74 (U73.ext X76)) W78 (tw hw 35 rfl) (tw hw 34 rfl) (len := 3) (wd := 0) (by decide) (by decide) (fun _ q => nomatch q)) rfl (lenOf pd_21 rfl) rfl (Nat.le_of_ble_eq_true rfl) at_155 158 rfl 12 48 (Nat.le_of_ble_eq_true rfl) (Nat.le_of_ble_eq_true rfl) (Nat.le_of_ble_eq_true rfl) (Nat.le_of_ble_eq_true rfl) ?_
        intro v79 T79 h79 u79 W79 R79 hq
        obtain ⟨rfl, eh79⟩ := hq
        have ei79 := eh79.symm; subst ei79
        show Own.Go _ _ _ _ _ 158 #[.val (.long pa), .second, .val (.long pb), .second, .val (.int fl), .val (.int (2 : Int32)), .val (.int (1 : Int32)), .val (.int (cA pa)), .val (.int (cS pa 16)), .val (.int (cS pa 32)), .val (.int b0), .val (.int b1), .val (.int b2), .val (.ref o73), .val (.ref o74), .val (.int (refF [(cA pa), (cS pa 16)] [b0] (sgn (1 : Int32)))), .val (.int (sgn (cmpF [(cA pa), (cS pa 16)] [b0] (1 : Int32)))), .unset] [(.int (cmpF [b0] [(cA pa), (cS pa 16)] (-1 : Int32)))]
        refine Own.callS W79 (tw hw 29 rfl) (tw hw 30 rfl) (tw hw 2 rfl) (tw hw 31 rfl) (by decide) (argsL := [(.int (cmpF [b0] [(cA pa), (cS pa 16)] (-1 : Int32)))]) (rest := []) (Own.Con.pay (con_sgn hw hEL _ W79.old) W79 (tw hw 31 rfl) (tw hw 2 rfl) (len := 3) (wd := 0) (by decide) (by decide) (fun _ q => nomatch q)) rfl (lenOf pd_0 rfl) rfl (Nat.le_of_ble_eq_true rfl) at_158 161 rfl 12 48 (Nat.le_of_ble_eq_true rfl) (Nat.le_of_ble_eq_true rfl) (Nat.le_of_ble_eq_true rfl) (Nat.le_of_ble_eq_true rfl) ?_
        intro v80 T80 h80 u80 W80 R80 hq
        obtain ⟨rfl, eh80⟩ := hq
        have ei80 := eh80.symm; subst ei80
        show Own.Go _ _ _ _ _ 161 #[.val (.long pa), .second, .val (.long pb), .second, .val (.int fl), .val (.int (2 : Int32)), .val (.int (1 : Int32)), .val (.int (cA pa)), .val (.int (cS pa 16)), .val (.int (cS pa 32)), .val (.int b0), .val (.int b1), .val (.int b2), .val (.ref o73), .val (.ref o74), .val (.int (refF [(cA pa), (cS pa 16)] [b0] (sgn (1 : Int32)))), .val (.int (sgn (cmpF [(cA pa), (cS pa 16)] [b0] (1 : Int32)))), .unset] [(.int (sgn (cmpF [b0] [(cA pa), (cS pa 16)] (-1 : Int32))))]
        refine Own.istore W80 at_161 163 rfl #[.val (.long pa), .second, .val (.long pb), .second, .val (.int fl), .val (.int (2 : Int32)), .val (.int (1 : Int32)), .val (.int (cA pa)), .val (.int (cS pa 16)), .val (.int (cS pa 32)), .val (.int b0), .val (.int b1), .val (.int b2), .val (.ref o73), .val (.ref o74), .val (.int (refF [(cA pa), (cS pa 16)] [b0] (sgn (1 : Int32)))), .val (.int (sgn (cmpF [(cA pa), (cS pa 16)] [b0] (1 : Int32)))), .val (.int (sgn (cmpF [b0] [(cA pa), (cS pa 16)] (-1 : Int32))))] rfl ?_
        refine Own.iload W80 at_163 165 rfl (sgn (cmpF [(cA pa), (cS pa 16)] [b0] (1 : Int32))) rfl ?_
        refine Own.iload W80 at_165 167 rfl (refF [(cA pa), (cS pa 16)] [b0] (sgn (1 : Int32))) rfl ?_
        have P := pureL [(cA pa), (cS pa 16)] [b0] (1 : Int32) (-1 : Int32) (by decide) (all_s (r16A pa) (all_s (r16S pa 16) all_0)) (all_s q0 all_0)
        refine Own.icmpNo W80 at_167 170 (XT.ii_ne_f P.1) rfl ?_
        refine Own.iload W80 at_170 172 rfl (sgn (cmpF [b0] [(cA pa), (cS pa 16)] (-1 : Int32))) rfl ?_
        refine Own.iload W80 at_172 174 rfl (refF [(cA pa), (cS pa 16)] [b0] (sgn (1 : Int32))) rfl ?_
        refine Own.ineg W80 at_174 175 rfl ?_
        refine Own.icmpNo W80 at_175 178 (XT.ii_ne_f P.2) rfl ?_
        refine Own.iconst W80 at_178 179 rfl (1 : Int32) rfl ?_
        refine Own.goto W80 at_179 183 (by decide) (by decide) ?_
        exact Own.retB W80 (by decide) (by decide) rfl at_183 rfl rfl
      · skip
        rw [eb]
        show Own.Go _ _ _ _ _ 92 #[.val (.long pa), .second, .val (.long pb), .second, .val (.int fl), .val (.int (2 : Int32)), .val (.int (2 : Int32)), .val (.int (cA pa)), .val (.int (cS pa 16)), .val (.int (cS pa 32)), .val (.int b0), .val (.int b1), .val (.int b2), .unset, .unset, .unset, .unset, .unset] []
        refine Own.iload W0 at_92 94 rfl (2 : Int32) rfl ?_
        refine Own.iload W0 at_94 96 rfl (cA pa) rfl ?_
        refine Own.iload W0 at_96 98 rfl (cS pa 16) rfl ?_
        refine Own.iload W0 at_98 100 rfl (cS pa 32) rfl ?_
        refine Own.callS W0 (tw hw 0 rfl) (tw hw 1 rfl) (tw hw 2 rfl) (tw hw 3 rfl) (by decide) (argsL := [(.int (2 : Int32)), (.int (cA pa)), (.int (cS pa 16)), (.int (cS pa 32))]) (rest := []) (Own.Con.pay (con_mk2 hw hEL hmem hS hcz TA TH TL hEN4 rfl (r16A pa) (r16S pa 16) (r16S pa 32) W0.old) W0 (tw hw 3 rfl) (tw hw 2 rfl) (len := 3) (wd := 0) (by decide) (by decide) (fun _ q => nomatch q)) rfl (lenOf pd_19 rfl) rfl (Nat.le_of_ble_eq_true rfl) at_100 103 rfl 6 24 (Nat.le_of_ble_eq_true rfl) (Nat.le_of_ble_eq_true rfl) (Nat.le_of_ble_eq_true rfl) (Nat.le_of_ble_eq_true rfl) ?_
        intro v81 T81 h81 u81 W81 R81 hq
        obtain ⟨o81, rfl, E81, g81, U81⟩ := hq
        show Own.Go _ _ _ _ _ 103 #[.val (.long pa), .second, .val (.long pb), .second, .val (.int fl), .val (.int (2 : Int32)), .val (.int (2 : Int32)), .val (.int (cA pa)), .val (.int (cS pa 16)), .val (.int (cS pa 32)), .val (.int b0), .val (.int b1), .val (.int b2), .unset, .unset, .unset, .unset, .unset] [(.ref o81)]
        refine Own.astore W81 at_103 105 rfl rfl #[.val (.long pa), .second, .val (.long pb), .second, .val (.int fl), .val (.int (2 : Int32)), .val (.int (2 : Int32)), .val (.int (cA pa)), .val (.int (cS pa 16)), .val (.int (cS pa 32)), .val (.int b0), .val (.int b1), .val (.int b2), .val (.ref o81), .unset, .unset, .unset, .unset] rfl ?_
        refine Own.iload W81 at_105 107 rfl (2 : Int32) rfl ?_
        refine Own.iload W81 at_107 109 rfl b0 rfl ?_
        refine Own.iload W81 at_109 111 rfl b1 rfl ?_
        refine Own.iload W81 at_111 113 rfl b2 rfl ?_
        refine Own.callS W81 (tw hw 0 rfl) (tw hw 1 rfl) (tw hw 2 rfl) (tw hw 3 rfl) (by decide) (argsL := [(.int (2 : Int32)), (.int b0), (.int b1), (.int b2)]) (rest := []) (Own.Con.pay (con_mk2 hw hEL hmem hS hcz TA TH TL hEN4 rfl q0 q1 q2 W81.old) W81 (tw hw 3 rfl) (tw hw 2 rfl) (len := 3) (wd := 0) (by decide) (by decide) (fun _ q => nomatch q)) rfl (lenOf pd_19 rfl) rfl (Nat.le_of_ble_eq_true rfl) at_113 116 rfl 12 48 (Nat.le_of_ble_eq_true rfl) (Nat.le_of_ble_eq_true rfl) (Nat.le_of_ble_eq_true rfl) (Nat.le_of_ble_eq_true rfl) ?_
        intro v82 T82 h82 u82 W82 R82 hq
        obtain ⟨o82, rfl, E82, g82, U82⟩ := hq
        show Own.Go _ _ _ _ _ 116 #[.val (.long pa), .second, .val (.long pb), .second, .val (.int fl), .val (.int (2 : Int32)), .val (.int (2 : Int32)), .val (.int (cA pa)), .val (.int (cS pa 16)), .val (.int (cS pa 32)), .val (.int b0), .val (.int b1), .val (.int b2), .val (.ref o81), .unset, .unset, .unset, .unset] [(.ref o82)]
        refine Own.astore W82 at_116 118 rfl rfl #[.val (.long pa), .second, .val (.long pb), .second, .val (.int fl), .val (.int (2 : Int32)), .val (.int (2 : Int32)), .val (.int (cA pa)), .val (.int (cS pa 16)), .val (.int (cS pa 32)), .val (.int b0), .val (.int b1), .val (.int b2), .val (.ref o81), .val (.ref o82), .unset, .unset, .unset] rfl ?_
        refine Own.iload W82 at_118 120 rfl (2 : Int32) rfl ?_
        refine Own.iload W82 at_120 122 rfl (cA pa) rfl ?_
        refine Own.iload W82 at_122 124 rfl (cS pa 16) rfl ?_
        refine Own.iload W82 at_124 126 rfl (cS pa 32) rfl ?_
        refine Own.iload W82 at_126 128 rfl (2 : Int32) rfl ?_
        refine Own.iload W82 at_128 130 rfl b0 rfl ?_
        refine Own.iload W82 at_130 132 rfl b1 rfl ?_
        refine Own.iload W82 at_132 134 rfl b2 rfl ?_
        refine Own.callS W82 (tw hw 26 rfl) (tw hw 27 rfl) (tw hw 2 rfl) (tw hw 28 rfl) (by decide) (argsL := [(.int (2 : Int32)), (.int (cA pa)), (.int (cS pa 16)), (.int (cS pa 32)), (.int (2 : Int32)), (.int b0), (.int b1), (.int b2)]) (rest := []) (Own.Con.pay (con_ref22 hw hEL rfl rfl _ _ _ _ _ _ W82.old) W82 (tw hw 28 rfl) (tw hw 2 rfl) (len := 3) (wd := 0) (by decide) (by decide) (fun _ q => nomatch q)) rfl (lenOf pd_20 rfl) rfl (Nat.le_of_ble_eq_true rfl) at_134 137 rfl 12 48 (Nat.le_of_ble_eq_true rfl) (Nat.le_of_ble_eq_true rfl) (Nat.le_of_ble_eq_true rfl) (Nat.le_of_ble_eq_true rfl) ?_
        intro v83 T83 h83 u83 W83 R83 hq
        obtain ⟨rfl, eh83⟩ := hq
        have ei83 := eh83.symm; subst ei83
        show Own.Go _ _ _ _ _ 137 #[.val (.long pa), .second, .val (.long pb), .second, .val (.int fl), .val (.int (2 : Int32)), .val (.int (2 : Int32)), .val (.int (cA pa)), .val (.int (cS pa 16)), .val (.int (cS pa 32)), .val (.int b0), .val (.int b1), .val (.int b2), .val (.ref o81), .val (.ref o82), .unset, .unset, .unset] [(.int (refF [(cA pa), (cS pa 16)] [b0, b1] (sgn (0 : Int32))))]
        refine Own.istore W83 at_137 139 rfl #[.val (.long pa), .second, .val (.long pb), .second, .val (.int fl), .val (.int (2 : Int32)), .val (.int (2 : Int32)), .val (.int (cA pa)), .val (.int (cS pa 16)), .val (.int (cS pa 32)), .val (.int b0), .val (.int b1), .val (.int b2), .val (.ref o81), .val (.ref o82), .val (.int (refF [(cA pa), (cS pa 16)] [b0, b1] (sgn (0 : Int32)))), .unset, .unset] rfl ?_
        refine Own.aload W83 at_139 141 rfl (.ref o81) rfl rfl ?_
        refine Own.aload W83 at_141 143 rfl (.ref o82) rfl rfl ?_
        have X84 : Ext h81 h82 := E82
        refine Own.callS W83 (tw hw 32 rfl) (tw hw 33 rfl) (tw hw 34 rfl) (tw hw 35 rfl) (by decide) (argsL := [(.ref o81), (.ref o82)]) (rest := []) (Own.Con.pay (con_cmp22 hw hEL hmem hS hcz SF rfm TA TH TL W83.old (U81.ext X84) U82) W83 (tw hw 35 rfl) (tw hw 34 rfl) (len := 3) (wd := 0) (by decide) (by decide) (fun _ q => nomatch q)) rfl (lenOf pd_21 rfl) rfl (Nat.le_of_ble_eq_true rfl) at_143 146 rfl 12 48 (Nat.le_of_ble_eq_true rfl) (Nat.le_of_ble_eq_true rfl) (Nat.le_of_ble_eq_true rfl) (Nat.le_of_ble_eq_true rfl) ?_
        intro v85 T85 h85 u85 W85 R85 hq
        obtain ⟨rfl, eh85⟩ := hq
        have ei85 := eh85.symm; subst ei85
        show Own.Go _ _ _ _ _ 146 #[.val (.long pa), .second, .val (.long pb), .second, .val (.int fl), .val (.int (2 : Int32)), .val (.int (2 : Int32)), .val (.int (cA pa)), .val (.int (cS pa 16)), .val (.int (cS pa 32)), .val (.int b0), .val (.int b1), .val (.int b2), .val (.ref o81), .val (.ref o82), .val (.int (refF [(cA pa), (cS pa 16)] [b0, b1] (sgn (0 : Int32)))), .unset, .unset] [(.int (cmpF [(cA pa), (cS pa 16)] [b0, b1] (0 : Int32)))]
        refine Own.callS W85 (tw hw 29 rfl) (tw hw 30 rfl) (tw hw 2 rfl) (tw hw 31 rfl) (by decide) (argsL := [(.int (cmpF [(cA pa), (cS pa 16)] [b0, b1] (0 : Int32)))]) (rest := []) (Own.Con.pay (con_sgn hw hEL _ W85.old) W85 (tw hw 31 rfl) (tw hw 2 rfl) (len := 3) (wd := 0) (by decide) (by decide) (fun _ q => nomatch q)) rfl (lenOf pd_0 rfl) rfl (Nat.le_of_ble_eq_true rfl) at_146 149 rfl 12 48 (Nat.le_of_ble_eq_true rfl) (Nat.le_of_ble_eq_true rfl) (Nat.le_of_ble_eq_true rfl) (Nat.le_of_ble_eq_true rfl) ?_
        intro v86 T86 h86 u86 W86 R86 hq
        obtain ⟨rfl, eh86⟩ := hq
        have ei86 := eh86.symm; subst ei86
        show Own.Go _ _ _ _ _ 149 #[.val (.long pa), .second, .val (.long pb), .second, .val (.int fl), .val (.int (2 : Int32)), .val (.int (2 : Int32)), .val (.int (cA pa)), .val (.int (cS pa 16)), .val (.int (cS pa 32)), .val (.int b0), .val (.int b1), .val (.int b2), .val (.ref o81), .val (.ref o82), .val (.int (refF [(cA pa), (cS pa 16)] [b0, b1] (sgn (0 : Int32)))), .unset, .unset] [(.int (sgn (cmpF [(cA pa), (cS pa 16)] [b0, b1] (0 : Int32))))]
        refine Own.istore W86 at_149 151 rfl #[.val (.long pa), .second, .val (.long pb), .second, .val (.int fl), .val (.int (2 : Int32)), .val (.int (2 : Int32)), .val (.int (cA pa)), .val (.int (cS pa 16)), .val (.int (cS pa 32)), .val (.int b0), .val (.int b1), .val (.int b2), .val (.ref o81), .val (.ref o82), .val (.int (refF [(cA pa), (cS pa 16)] [b0, b1] (sgn (0 : Int32)))), .val (.int (sgn (cmpF [(cA pa), (cS pa 16)] [b0, b1] (0 : Int32)))), .unset] rfl ?_
        refine Own.aload W86 at_151 153 rfl (.ref o82) rfl rfl ?_
        refine Own.aload W86 at_153 155 rfl (.ref o81) rfl rfl ?_
        refine Own.callS W86 (tw hw 32 rfl) (tw hw 33 rfl) (tw hw 34 rfl) (tw hw 35 rfl) (by decide) (argsL := [(.ref o82), (.ref o81)]) (rest := []) (Own.Con.pay (con_cmp22 hw hEL hmem hS hcz SF rfm TA TH TL W86.old U82 (U81.ext X84)) W86 (tw hw 35 rfl) (tw hw 34 rfl) (len := 3) (wd := 0) (by decide) (by decide) (fun _ q => nomatch q)) rfl (lenOf pd_21 rfl) rfl (Nat.le_of_ble_eq_true rfl) at_155 158 rfl 12 48 (Nat.le_of_ble_eq_true rfl) (Nat.le_of_ble_eq_true rfl) (Nat.le_of_ble_eq_true rfl) (Nat.le_of_ble_eq_true rfl) ?_
        intro v87 T87 h87 u87 W87 R87 hq
        obtain ⟨rfl, eh87⟩ := hq
        have ei87 := eh87.symm; subst ei87
        show Own.Go _ _ _ _ _ 158 #[.val (.long pa), .second, .val (.long pb), .second, .val (.int fl), .val (.int (2 : Int32)), .val (.int (2 : Int32)), .val (.int (cA pa)), .val (.int (cS pa 16)), .val (.int (cS pa 32)), .val (.int b0), .val (.int b1), .val (.int b2), .val (.ref o81), .val (.ref o82), .val (.int (refF [(cA pa), (cS pa 16)] [b0, b1] (sgn (0 : Int32)))), .val (.int (sgn (cmpF [(cA pa), (cS pa 16)] [b0, b1] (0 : Int32)))), .unset] [(.int (cmpF [b0, b1] [(cA pa), (cS pa 16)] (0 : Int32)))]
        refine Own.callS W87 (tw hw 29 rfl) (tw hw 30 rfl) (tw hw 2 rfl) (tw hw 31 rfl) (by decide) (argsL := [(.int (cmpF [b0, b1] [(cA pa), (cS pa 16)] (0 : Int32)))]) (rest := []) (Own.Con.pay (con_sgn hw hEL _ W87.old) W87 (tw hw 31 rfl) (tw hw 2 rfl) (len := 3) (wd := 0) (by decide) (by decide) (fun _ q => nomatch q)) rfl (lenOf pd_0 rfl) rfl (Nat.le_of_ble_eq_true rfl) at_158 161 rfl 12 48 (Nat.le_of_ble_eq_true rfl) (Nat.le_of_ble_eq_true rfl) (Nat.le_of_ble_eq_true rfl) (Nat.le_of_ble_eq_true rfl) ?_
        intro v88 T88 h88 u88 W88 R88 hq
        obtain ⟨rfl, eh88⟩ := hq
        have ei88 := eh88.symm; subst ei88
        show Own.Go _ _ _ _ _ 161 #[.val (.long pa), .second, .val (.long pb), .second, .val (.int fl), .val (.int (2 : Int32)), .val (.int (2 : Int32)), .val (.int (cA pa)), .val (.int (cS pa 16)), .val (.int (cS pa 32)), .val (.int b0), .val (.int b1), .val (.int b2), .val (.ref o81), .val (.ref o82), .val (.int (refF [(cA pa), (cS pa 16)] [b0, b1] (sgn (0 : Int32)))), .val (.int (sgn (cmpF [(cA pa), (cS pa 16)] [b0, b1] (0 : Int32)))), .unset] [(.int (sgn (cmpF [b0, b1] [(cA pa), (cS pa 16)] (0 : Int32))))]
        refine Own.istore W88 at_161 163 rfl #[.val (.long pa), .second, .val (.long pb), .second, .val (.int fl), .val (.int (2 : Int32)), .val (.int (2 : Int32)), .val (.int (cA pa)), .val (.int (cS pa 16)), .val (.int (cS pa 32)), .val (.int b0), .val (.int b1), .val (.int b2), .val (.ref o81), .val (.ref o82), .val (.int (refF [(cA pa), (cS pa 16)] [b0, b1] (sgn (0 : Int32)))), .val (.int (sgn (cmpF [(cA pa), (cS pa 16)] [b0, b1] (0 : Int32)))), .val (.int (sgn (cmpF [b0, b1] [(cA pa), (cS pa 16)] (0 : Int32))))] rfl ?_
        refine Own.iload W88 at_163 165 rfl (sgn (cmpF [(cA pa), (cS pa 16)] [b0, b1] (0 : Int32))) rfl ?_
        refine Own.iload W88 at_165 167 rfl (refF [(cA pa), (cS pa 16)] [b0, b1] (sgn (0 : Int32))) rfl ?_
        have P := pureL [(cA pa), (cS pa 16)] [b0, b1] (0 : Int32) (0 : Int32) (by decide) (all_s (r16A pa) (all_s (r16S pa 16) all_0)) (all_s q0 (all_s q1 all_0))
        refine Own.icmpNo W88 at_167 170 (XT.ii_ne_f P.1) rfl ?_
        refine Own.iload W88 at_170 172 rfl (sgn (cmpF [b0, b1] [(cA pa), (cS pa 16)] (0 : Int32))) rfl ?_
        refine Own.iload W88 at_172 174 rfl (refF [(cA pa), (cS pa 16)] [b0, b1] (sgn (0 : Int32))) rfl ?_
        refine Own.ineg W88 at_174 175 rfl ?_
        refine Own.icmpNo W88 at_175 178 (XT.ii_ne_f P.2) rfl ?_
        refine Own.iconst W88 at_178 179 rfl (1 : Int32) rfl ?_
        refine Own.goto W88 at_179 183 (by decide) (by decide) ?_
        exact Own.retB W88 (by decide) (by decide) rfl at_183 rfl rfl
      · skip
        rw [eb]
        show Own.Go _ _ _ _ _ 92 #[.val (.long pa), .second, .val (.long pb), .second, .val (.int fl), .val (.int (2 : Int32)), .val (.int (3 : Int32)), .val (.int (cA pa)), .val (.int (cS pa 16)), .val (.int (cS pa 32)), .val (.int b0), .val (.int b1), .val (.int b2), .unset, .unset, .unset, .unset, .unset] []
        refine Own.iload W0 at_92 94 rfl (2 : Int32) rfl ?_
        refine Own.iload W0 at_94 96 rfl (cA pa) rfl ?_
        refine Own.iload W0 at_96 98 rfl (cS pa 16) rfl ?_
        refine Own.iload W0 at_98 100 rfl (cS pa 32) rfl ?_
        refine Own.callS W0 (tw hw 0 rfl) (tw hw 1 rfl) (tw hw 2 rfl) (tw hw 3 rfl) (by decide) (argsL := [(.int (2 : Int32)), (.int (cA pa)), (.int (cS pa 16)), (.int (cS pa 32))]) (rest := []) (Own.Con.pay (con_mk2 hw hEL hmem hS hcz TA TH TL hEN4 rfl (r16A pa) (r16S pa 16) (r16S pa 32) W0.old) W0 (tw hw 3 rfl) (tw hw 2 rfl) (len := 3) (wd := 0) (by decide) (by decide) (fun _ q => nomatch q)) rfl (lenOf pd_19 rfl) rfl (Nat.le_of_ble_eq_true rfl) at_100 103 rfl 6 24 (Nat.le_of_ble_eq_true rfl) (Nat.le_of_ble_eq_true rfl) (Nat.le_of_ble_eq_true rfl) (Nat.le_of_ble_eq_true rfl) ?_
        intro v89 T89 h89 u89 W89 R89 hq
        obtain ⟨o89, rfl, E89, g89, U89⟩ := hq
        show Own.Go _ _ _ _ _ 103 #[.val (.long pa), .second, .val (.long pb), .second, .val (.int fl), .val (.int (2 : Int32)), .val (.int (3 : Int32)), .val (.int (cA pa)), .val (.int (cS pa 16)), .val (.int (cS pa 32)), .val (.int b0), .val (.int b1), .val (.int b2), .unset, .unset, .unset, .unset, .unset] [(.ref o89)]
        refine Own.astore W89 at_103 105 rfl rfl #[.val (.long pa), .second, .val (.long pb), .second, .val (.int fl), .val (.int (2 : Int32)), .val (.int (3 : Int32)), .val (.int (cA pa)), .val (.int (cS pa 16)), .val (.int (cS pa 32)), .val (.int b0), .val (.int b1), .val (.int b2), .val (.ref o89), .unset, .unset, .unset, .unset] rfl ?_
        refine Own.iload W89 at_105 107 rfl (3 : Int32) rfl ?_
        refine Own.iload W89 at_107 109 rfl b0 rfl ?_
        refine Own.iload W89 at_109 111 rfl b1 rfl ?_
        refine Own.iload W89 at_111 113 rfl b2 rfl ?_
        refine Own.callS W89 (tw hw 0 rfl) (tw hw 1 rfl) (tw hw 2 rfl) (tw hw 3 rfl) (by decide) (argsL := [(.int (3 : Int32)), (.int b0), (.int b1), (.int b2)]) (rest := []) (Own.Con.pay (con_mk3 hw hEL hmem hS hcz TA TH TL hEN6 rfl q0 q1 q2 W89.old) W89 (tw hw 3 rfl) (tw hw 2 rfl) (len := 3) (wd := 0) (by decide) (by decide) (fun _ q => nomatch q)) rfl (lenOf pd_19 rfl) rfl (Nat.le_of_ble_eq_true rfl) at_113 116 rfl 12 48 (Nat.le_of_ble_eq_true rfl) (Nat.le_of_ble_eq_true rfl) (Nat.le_of_ble_eq_true rfl) (Nat.le_of_ble_eq_true rfl) ?_
        intro v90 T90 h90 u90 W90 R90 hq
        obtain ⟨o90, rfl, E90, g90, U90⟩ := hq
        show Own.Go _ _ _ _ _ 116 #[.val (.long pa), .second, .val (.long pb), .second, .val (.int fl), .val (.int (2 : Int32)), .val (.int (3 : Int32)), .val (.int (cA pa)), .val (.int (cS pa 16)), .val (.int (cS pa 32)), .val (.int b0), .val (.int b1), .val (.int b2), .val (.ref o89), .unset, .unset, .unset, .unset] [(.ref o90)]
        refine Own.astore W90 at_116 118 rfl rfl #[.val (.long pa), .second, .val (.long pb), .second, .val (.int fl), .val (.int (2 : Int32)), .val (.int (3 : Int32)), .val (.int (cA pa)), .val (.int (cS pa 16)), .val (.int (cS pa 32)), .val (.int b0), .val (.int b1), .val (.int b2), .val (.ref o89), .val (.ref o90), .unset, .unset, .unset] rfl ?_
        refine Own.iload W90 at_118 120 rfl (2 : Int32) rfl ?_
        refine Own.iload W90 at_120 122 rfl (cA pa) rfl ?_
        refine Own.iload W90 at_122 124 rfl (cS pa 16) rfl ?_
        refine Own.iload W90 at_124 126 rfl (cS pa 32) rfl ?_
        refine Own.iload W90 at_126 128 rfl (3 : Int32) rfl ?_
        refine Own.iload W90 at_128 130 rfl b0 rfl ?_
        refine Own.iload W90 at_130 132 rfl b1 rfl ?_
        refine Own.iload W90 at_132 134 rfl b2 rfl ?_
        refine Own.callS W90 (tw hw 26 rfl) (tw hw 27 rfl) (tw hw 2 rfl) (tw hw 28 rfl) (by decide) (argsL := [(.int (2 : Int32)), (.int (cA pa)), (.int (cS pa 16)), (.int (cS pa 32)), (.int (3 : Int32)), (.int b0), (.int b1), (.int b2)]) (rest := []) (Own.Con.pay (con_ref23 hw hEL rfl rfl _ _ _ _ _ _ W90.old) W90 (tw hw 28 rfl) (tw hw 2 rfl) (len := 3) (wd := 0) (by decide) (by decide) (fun _ q => nomatch q)) rfl (lenOf pd_20 rfl) rfl (Nat.le_of_ble_eq_true rfl) at_134 137 rfl 12 48 (Nat.le_of_ble_eq_true rfl) (Nat.le_of_ble_eq_true rfl) (Nat.le_of_ble_eq_true rfl) (Nat.le_of_ble_eq_true rfl) ?_
        intro v91 T91 h91 u91 W91 R91 hq
        obtain ⟨rfl, eh91⟩ := hq
        have ei91 := eh91.symm; subst ei91
        show Own.Go _ _ _ _ _ 137 #[.val (.long pa), .second, .val (.long pb), .second, .val (.int fl), .val (.int (2 : Int32)), .val (.int (3 : Int32)), .val (.int (cA pa)), .val (.int (cS pa 16)), .val (.int (cS pa 32)), .val (.int b0), .val (.int b1), .val (.int b2), .val (.ref o89), .val (.ref o90), .unset, .unset, .unset] [(.int (refF [(cA pa), (cS pa 16)] [b0, b1, b2] (sgn (-1 : Int32))))]
        refine Own.istore W91 at_137 139 rfl #[.val (.long pa), .second, .val (.long pb), .second, .val (.int fl), .val (.int (2 : Int32)), .val (.int (3 : Int32)), .val (.int (cA pa)), .val (.int (cS pa 16)), .val (.int (cS pa 32)), .val (.int b0), .val (.int b1), .val (.int b2), .val (.ref o89), .val (.ref o90), .val (.int (refF [(cA pa), (cS pa 16)] [b0, b1, b2] (sgn (-1 : Int32)))), .unset, .unset] rfl ?_
        refine Own.aload W91 at_139 141 rfl (.ref o89) rfl rfl ?_
        refine Own.aload W91 at_141 143 rfl (.ref o90) rfl rfl ?_
        have X92 : Ext h89 h90 := E90
        refine Own.callS W91 (tw hw 32 rfl) (tw hw 33 rfl) (tw hw 34 rfl) (tw hw 35 rfl) (by decide) (argsL := [(.ref o89), (.ref o90)]) (rest := []) (Own.Con.pay (con_cmp23 hw hEL hmem hS hcz SF rfm TA TH TL W91.old (U89.ext X92) U90) W91 (tw hw 35 rfl) (tw hw 34 rfl) (len := 3) (wd := 0) (by decide) (by decide) (fun _ q => nomatch q)) rfl (lenOf pd_21 rfl) rfl (Nat.le_of_ble_eq_true rfl) at_143 146 rfl 12 48 (Nat.le_of_ble_eq_true rfl) (Nat.le_of_ble_eq_true rfl) (Nat.le_of_ble_eq_true rfl) (Nat.le_of_ble_eq_true rfl) ?_
        intro v93 T93 h93 u93 W93 R93 hq
        obtain ⟨rfl, eh93⟩ := hq
        have ei93 := eh93.symm; subst ei93
        show Own.Go _ _ _ _ _ 146 #[.val (.long pa), .second, .val (.long pb), .second, .val (.int fl), .val (.int (2 : Int32)), .val (.int (3 : Int32)), .val (.int (cA pa)), .val (.int (cS pa 16)), .val (.int (cS pa 32)), .val (.int b0), .val (.int b1), .val (.int b2), .val (.ref o89), .val (.ref o90), .val (.int (refF [(cA pa), (cS pa 16)] [b0, b1, b2] (sgn (-1 : Int32)))), .unset, .unset] [(.int (cmpF [(cA pa), (cS pa 16)] [b0, b1, b2] (-1 : Int32)))]
        refine Own.callS W93 (tw hw 29 rfl) (tw hw 30 rfl) (tw hw 2 rfl) (tw hw 31 rfl) (by decide) (argsL := [(.int (cmpF [(cA pa), (cS pa 16)] [b0, b1, b2] (-1 : Int32)))]) (rest := []) (Own.Con.pay (con_sgn hw hEL _ W93.old) W93 (tw hw 31 rfl) (tw hw 2 rfl) (len := 3) (wd := 0) (by decide) (by decide) (fun _ q => nomatch q)) rfl (lenOf pd_0 rfl) rfl (Nat.le_of_ble_eq_true rfl) at_146 149 rfl 12 48 (Nat.le_of_ble_eq_true rfl) (Nat.le_of_ble_eq_true rfl) (Nat.le_of_ble_eq_true rfl) (Nat.le_of_ble_eq_true rfl) ?_
        intro v94 T94 h94 u94 W94 R94 hq
        obtain ⟨rfl, eh94⟩ := hq
        have ei94 := eh94.symm; subst ei94
        show Own.Go _ _ _ _ _ 149 #[.val (.long pa), .second, .val (.long pb), .second, .val (.int fl), .val (.int (2 : Int32)), .val (.int (3 : Int32)), .val (.int (cA pa)), .val (.int (cS pa 16)), .val (.int (cS pa 32)), .val (.int b0), .val (.int b1), .val (.int b2), .val (.ref o89), .val (.ref o90), .val (.int (refF [(cA pa), (cS pa 16)] [b0, b1, b2] (sgn (-1 : Int32)))), .unset, .unset] [(.int (sgn (cmpF [(cA pa), (cS pa 16)] [b0, b1, b2] (-1 : Int32))))]
        refine Own.istore W94 at_149 151 rfl #[.val (.long pa), .second, .val (.long pb), .second, .val (.int fl), .val (.int (2 : Int32)), .val (.int (3 : Int32)), .val (.int (cA pa)), .val (.int (cS pa 16)), .val (.int (cS pa 32)), .val (.int b0), .val (.int b1), .val (.int b2), .val (.ref o89), .val (.ref o90), .val (.int (refF [(cA pa), (cS pa 16)] [b0, b1, b2] (sgn (-1 : Int32)))), .val (.int (sgn (cmpF [(cA pa), (cS pa 16)] [b0, b1, b2] (-1 : Int32)))), .unset] rfl ?_
        refine Own.aload W94 at_151 153 rfl (.ref o90) rfl rfl ?_
        refine Own.aload W94 at_153 155 rfl (.ref o89) rfl rfl ?_
        refine Own.callS W94 (tw hw 32 rfl) (tw hw 33 rfl) (tw hw 34 rfl) (tw hw 35 rfl) (by decide) (argsL := [(.ref o90), (.ref o89)]) (rest := []) (Own.Con.pay (con_cmp32 hw hEL hmem hS hcz SF rfm TA TH TL W94.old U90 (U89.ext X92)) W94 (tw hw 35 rfl) (tw hw 34 rfl) (len := 3) (wd := 0) (by decide) (by decide) (fun _ q => nomatch q)) rfl (lenOf pd_21 rfl) rfl (Nat.le_of_ble_eq_true rfl) at_155 158 rfl 12 48 (Nat.le_of_ble_eq_true rfl) (Nat.le_of_ble_eq_true rfl) (Nat.le_of_ble_eq_true rfl) (Nat.le_of_ble_eq_true rfl) ?_
        intro v95 T95 h95 u95 W95 R95 hq
        obtain ⟨rfl, eh95⟩ := hq
        have ei95 := eh95.symm; subst ei95
        show Own.Go _ _ _ _ _ 158 #[.val (.long pa), .second, .val (.long pb), .second, .val (.int fl), .val (.int (2 : Int32)), .val (.int (3 : Int32)), .val (.int (cA pa)), .val (.int (cS pa 16)), .val (.int (cS pa 32)), .val (.int b0), .val (.int b1), .val (.int b2), .val (.ref o89), .val (.ref o90), .val (.int (refF [(cA pa), (cS pa 16)] [b0, b1, b2] (sgn (-1 : Int32)))), .val (.int (sgn (cmpF [(cA pa), (cS pa 16)] [b0, b1, b2] (-1 : Int32)))), .unset] [(.int (cmpF [b0, b1, b2] [(cA pa), (cS pa 16)] (1 : Int32)))]
        refine Own.callS W95 (tw hw 29 rfl) (tw hw 30 rfl) (tw hw 2 rfl) (tw hw 31 rfl) (by decide) (argsL := [(.int (cmpF [b0, b1, b2] [(cA pa), (cS pa 16)] (1 : Int32)))]) (rest := []) (Own.Con.pay (con_sgn hw hEL _ W95.old) W95 (tw hw 31 rfl) (tw hw 2 rfl) (len := 3) (wd := 0) (by decide) (by decide) (fun _ q => nomatch q)) rfl (lenOf pd_0 rfl) rfl (Nat.le_of_ble_eq_true rfl) at_158 161 rfl 12 48 (Nat.le_of_ble_eq_true rfl) (Nat.le_of_ble_eq_true rfl) (Nat.le_of_ble_eq_true rfl) (Nat.le_of_ble_eq_true rfl) ?_
        intro v96 T96 h96 u96 W96 R96 hq
        obtain ⟨rfl, eh96⟩ := hq
        have ei96 := eh96.symm; subst ei96
        show Own.Go _ _ _ _ _ 161 #[.val (.long pa), .second, .val (.long pb), .second, .val (.int fl), .val (.int (2 : Int32)), .val (.int (3 : Int32)), .val (.int (cA pa)), .val (.int (cS pa 16)), .val (.int (cS pa 32)), .val (.int b0), .val (.int b1), .val (.int b2), .val (.ref o89), .val (.ref o90), .val (.int (refF [(cA pa), (cS pa 16)] [b0, b1, b2] (sgn (-1 : Int32)))), .val (.int (sgn (cmpF [(cA pa), (cS pa 16)] [b0, b1, b2] (-1 : Int32)))), .unset] [(.int (sgn (cmpF [b0, b1, b2] [(cA pa), (cS pa 16)] (1 : Int32))))]
        refine Own.istore W96 at_161 163 rfl #[.val (.long pa), .second, .val (.long pb), .second, .val (.int fl), .val (.int (2 : Int32)), .val (.int (3 : Int32)), .val (.int (cA pa)), .val (.int (cS pa 16)), .val (.int (cS pa 32)), .val (.int b0), .val (.int b1), .val (.int b2), .val (.ref o89), .val (.ref o90), .val (.int (refF [(cA pa), (cS pa 16)] [b0, b1, b2] (sgn (-1 : Int32)))), .val (.int (sgn (cmpF [(cA pa), (cS pa 16)] [b0, b1, b2] (-1 : Int32)))), .val (.int (sgn (cmpF [b0, b1, b2] [(cA pa), (cS pa 16)] (1 : Int32))))] rfl ?_
        refine Own.iload W96 at_163 165 rfl (sgn (cmpF [(cA pa), (cS pa 16)] [b0, b1, b2] (-1 : Int32))) rfl ?_
        refine Own.iload W96 at_165 167 rfl (refF [(cA pa), (cS pa 16)] [b0, b1, b2] (sgn (-1 : Int32))) rfl ?_
        have P := pureL [(cA pa), (cS pa 16)] [b0, b1, b2] (-1 : Int32) (1 : Int32) (by decide) (all_s (r16A pa) (all_s (r16S pa 16) all_0)) (all_s q0 (all_s q1 (all_s q2 all_0)))
        refine Own.icmpNo W96 at_167 170 (XT.ii_ne_f P.1) rfl ?_
        refine Own.iload W96 at_170 172 rfl (sgn (cmpF [b0, b1, b2] [(cA pa), (cS pa 16)] (1 : Int32))) rfl ?_
        refine Own.iload W96 at_172 174 rfl (refF [(cA pa), (cS pa 16)] [b0, b1, b2] (sgn (-1 : Int32))) rfl ?_
        refine Own.ineg W96 at_174 175 rfl ?_
        refine Own.icmpNo W96 at_175 178 (XT.ii_ne_f P.2) rfl ?_
        refine Own.iconst W96 at_178 179 rfl (1 : Int32) rfl ?_
        refine Own.goto W96 at_179 183 (by decide) (by decide) ?_
        exact Own.retB W96 (by decide) (by decide) rfl at_183 rfl rfl
    · skip
      rw [ea]
      show Own.Go _ _ _ _ _ 92 #[.val (.long pa), .second, .val (.long pb), .second, .val (.int fl), .val (.int (3 : Int32)), .val (.int (fB fl)), .val (.int (cA pa)), .val (.int (cS pa 16)), .val (.int (cS pa 32)), .val (.int b0), .val (.int b1), .val (.int b2), .unset, .unset, .unset, .unset, .unset] []
      rcases fourB fl with eb | eb | eb | eb
      · skip
        rw [eb]
        show Own.Go _ _ _ _ _ 92 #[.val (.long pa), .second, .val (.long pb), .second, .val (.int fl), .val (.int (3 : Int32)), .val (.int (0 : Int32)), .val (.int (cA pa)), .val (.int (cS pa 16)), .val (.int (cS pa 32)), .val (.int b0), .val (.int b1), .val (.int b2), .unset, .unset, .unset, .unset, .unset] []
        refine Own.iload W0 at_92 94 rfl (3 : Int32) rfl ?_
        refine Own.iload W0 at_94 96 rfl (cA pa) rfl ?_
        refine Own.iload W0 at_96 98 rfl (cS pa 16) rfl ?_
        refine Own.iload W0 at_98 100 rfl (cS pa 32) rfl ?_
        refine Own.callS W0 (tw hw 0 rfl) (tw hw 1 rfl) (tw hw 2 rfl) (tw hw 3 rfl) (by decide) (argsL := [(.int (3 : Int32)), (.int (cA pa)), (.int (cS pa 16)), (.int (cS pa 32))]) (rest := []) (Own.Con.pay (con_mk3 hw hEL hmem hS hcz TA TH TL hEN6 rfl (r16A pa) (r16S pa 16) (r16S pa 32) W0.old) W0 (tw hw 3 rfl) (tw hw 2 rfl) (len := 3) (wd := 0) (by decide) (by decide) (fun _ q => nomatch q)) rfl (lenOf pd_19 rfl) rfl (Nat.le_of_ble_eq_true rfl) at_100 103 rfl 6 24 (Nat.le_of_ble_eq_true rfl) (Nat.le_of_ble_eq_true rfl) (Nat.le_of_ble_eq_true rfl) (Nat.le_of_ble_eq_true rfl) ?_
        intro v97 T97 h97 u97 W97 R97 hq
        obtain ⟨o97, rfl, E97, g97, U97⟩ := hq
        show Own.Go _ _ _ _ _ 103 #[.val (.long pa), .second, .val (.long pb), .second, .val (.int fl), .val (.int (3 : Int32)), .val (.int (0 : Int32)), .val (.int (cA pa)), .val (.int (cS pa 16)), .val (.int (cS pa 32)), .val (.int b0), .val (.int b1), .val (.int b2), .unset, .unset, .unset, .unset, .unset] [(.ref o97)]
        refine Own.astore W97 at_103 105 rfl rfl #[.val (.long pa), .second, .val (.long pb), .second, .val (.int fl), .val (.int (3 : Int32)), .val (.int (0 : Int32)), .val (.int (cA pa)), .val (.int (cS pa 16)), .val (.int (cS pa 32)), .val (.int b0), .val (.int b1), .val (.int b2), .val (.ref o97), .unset, .unset, .unset, .unset] rfl ?_
        refine Own.iload W97 at_105 107 rfl (0 : Int32) rfl ?_
        refine Own.iload W97 at_107 109 rfl b0 rfl ?_
        refine Own.iload W97 at_109 111 rfl b1 rfl ?_
        refine Own.iload W97 at_111 113 rfl b2 rfl ?_
        refine Own.callS W97 (tw hw 0 rfl) (tw hw 1 rfl) (tw hw 2 rfl) (tw hw 3 rfl) (by decide) (argsL := [(.int (0 : Int32)), (.int b0), (.int b1), (.int b2)]) (rest := []) (Own.Con.pay (con_mk0 hw hEL hmem hS hcz TA TH TL rfl q0 q1 q2 W97.old) W97 (tw hw 3 rfl) (tw hw 2 rfl) (len := 3) (wd := 0) (by decide) (by decide) (fun _ q => nomatch q)) rfl (lenOf pd_19 rfl) rfl (Nat.le_of_ble_eq_true rfl) at_113 116 rfl 12 48 (Nat.le_of_ble_eq_true rfl) (Nat.le_of_ble_eq_true rfl) (Nat.le_of_ble_eq_true rfl) (Nat.le_of_ble_eq_true rfl) ?_
        intro v98 T98 h98 u98 W98 R98 hq
        obtain ⟨o98, rfl, E98, g98, U98⟩ := hq
        show Own.Go _ _ _ _ _ 116 #[.val (.long pa), .second, .val (.long pb), .second, .val (.int fl), .val (.int (3 : Int32)), .val (.int (0 : Int32)), .val (.int (cA pa)), .val (.int (cS pa 16)), .val (.int (cS pa 32)), .val (.int b0), .val (.int b1), .val (.int b2), .val (.ref o97), .unset, .unset, .unset, .unset] [(.ref o98)]
        refine Own.astore W98 at_116 118 rfl rfl #[.val (.long pa), .second, .val (.long pb), .second, .val (.int fl), .val (.int (3 : Int32)), .val (.int (0 : Int32)), .val (.int (cA pa)), .val (.int (cS pa 16)), .val (.int (cS pa 32)), .val (.int b0), .val (.int b1), .val (.int b2), .val (.ref o97), .val (.ref o98), .unset, .unset, .unset] rfl ?_
        refine Own.iload W98 at_118 120 rfl (3 : Int32) rfl ?_
        refine Own.iload W98 at_120 122 rfl (cA pa) rfl ?_
        refine Own.iload W98 at_122 124 rfl (cS pa 16) rfl ?_
        refine Own.iload W98 at_124 126 rfl (cS pa 32) rfl ?_
        refine Own.iload W98 at_126 128 rfl (0 : Int32) rfl ?_
        refine Own.iload W98 at_128 130 rfl b0 rfl ?_
        refine Own.iload W98 at_130 132 rfl b1 rfl ?_
        refine Own.iload W98 at_132 134 rfl b2 rfl ?_
        refine Own.callS W98 (tw hw 26 rfl) (tw hw 27 rfl) (tw hw 2 rfl) (tw hw 28 rfl) (by decide) (argsL := [(.int (3 : Int32)), (.int (cA pa)), (.int (cS pa 16)), (.int (cS pa 32)), (.int (0 : Int32)), (.int b0), (.int b1), (.int b2)]) (rest := []) (Own.Con.pay (con_ref30 hw hEL rfl rfl _ _ _ _ _ _ W98.old) W98 (tw hw 28 rfl) (tw hw 2 rfl) (len := 3) (wd := 0) (by decide) (by decide) (fun _ q => nomatch q)) rfl (lenOf pd_20 rfl) rfl (Nat.le_of_ble_eq_true rfl) at_134 137 rfl 12 48 (Nat.le_of_ble_eq_true rfl) (Nat.le_of_ble_eq_true rfl) (Nat.le_of_ble_eq_true rfl) (Nat.le_of_ble_eq_true rfl) ?_
        intro v99 T99 h99 u99 W99 R99 hq
        obtain ⟨rfl, eh99⟩ := hq
        have ei99 := eh99.symm; subst ei99
        show Own.Go _ _ _ _ _ 137 #[.val (.long pa), .second, .val (.long pb), .second, .val (.int fl), .val (.int (3 : Int32)), .val (.int (0 : Int32)), .val (.int (cA pa)), .val (.int (cS pa 16)), .val (.int (cS pa 32)), .val (.int b0), .val (.int b1), .val (.int b2), .val (.ref o97), .val (.ref o98), .unset, .unset, .unset] [(.int (refF [(cA pa), (cS pa 16), (cS pa 32)] [] (sgn (3 : Int32))))]
        refine Own.istore W99 at_137 139 rfl #[.val (.long pa), .second, .val (.long pb), .second, .val (.int fl), .val (.int (3 : Int32)), .val (.int (0 : Int32)), .val (.int (cA pa)), .val (.int (cS pa 16)), .val (.int (cS pa 32)), .val (.int b0), .val (.int b1), .val (.int b2), .val (.ref o97), .val (.ref o98), .val (.int (refF [(cA pa), (cS pa 16), (cS pa 32)] [] (sgn (3 : Int32)))), .unset, .unset] rfl ?_
        refine Own.aload W99 at_139 141 rfl (.ref o97) rfl rfl ?_
        refine Own.aload W99 at_141 143 rfl (.ref o98) rfl rfl ?_
        have X100 : Ext h97 h98 := E98
        refine Own.callS W99 (tw hw 32 rfl) (tw hw 33 rfl) (tw hw 34 rfl) (tw hw 35 rfl) (by decide) (argsL := [(.ref o97), (.ref o98)]) (rest := []) (Own.Con.pay (con_cmp30 hw hEL hmem hS hcz SF rfm TA TH TL W99.old (U97.ext X100) U98) W99 (tw hw 35 rfl) (tw hw 34 rfl) (len := 3) (wd := 0) (by decide) (by decide) (fun _ q => nomatch q)) rfl (lenOf pd_21 rfl) rfl (Nat.le_of_ble_eq_true rfl) at_143 146 rfl 12 48 (Nat.le_of_ble_eq_true rfl) (Nat.le_of_ble_eq_true rfl) (Nat.le_of_ble_eq_true rfl) (Nat.le_of_ble_eq_true rfl) ?_
        intro v101 T101 h101 u101 W101 R101 hq
        obtain ⟨rfl, eh101⟩ := hq
        have ei101 := eh101.symm; subst ei101
        show Own.Go _ _ _ _ _ 146 #[.val (.long pa), .second, .val (.long pb), .second, .val (.int fl), .val (.int (3 : Int32)), .val (.int (0 : Int32)), .val (.int (cA pa)), .val (.int (cS pa 16)), .val (.int (cS pa 32)), .val (.int b0), .val (.int b1), .val (.int b2), .val (.ref o97), .val (.ref o98), .val (.int (refF [(cA pa), (cS pa 16), (cS pa 32)] [] (sgn (3 : Int32)))), .unset, .unset] [(.int (cmpF [(cA pa), (cS pa 16), (cS pa 32)] [] (3 : Int32)))]
        refine Own.callS W101 (tw hw 29 rfl) (tw hw 30 rfl) (tw hw 2 rfl) (tw hw 31 rfl) (by decide) (argsL := [(.int (cmpF [(cA pa), (cS pa 16), (cS pa 32)] [] (3 : Int32)))]) (rest := []) (Own.Con.pay (con_sgn hw hEL _ W101.old) W101 (tw hw 31 rfl) (tw hw 2 rfl) (len := 3) (wd := 0) (by decide) (by decide) (fun _ q => nomatch q)) rfl (lenOf pd_0 rfl) rfl (Nat.le_of_ble_eq_true rfl) at_146 149 rfl 12 48 (Nat.le_of_ble_eq_true rfl) (Nat.le_of_ble_eq_true rfl) (Nat.le_of_ble_eq_true rfl) (Nat.le_of_ble_eq_true rfl) ?_
        intro v102 T102 h102 u102 W102 R102 hq
        obtain ⟨rfl, eh102⟩ := hq
        have ei102 := eh102.symm; subst ei102
        show Own.Go _ _ _ _ _ 149 #[.val (.long pa), .second, .val (.long pb), .second, .val (.int fl), .val (.int (3 : Int32)), .val (.int (0 : Int32)), .val (.int (cA pa)), .val (.int (cS pa 16)), .val (.int (cS pa 32)), .val (.int b0), .val (.int b1), .val (.int b2), .val (.ref o97), .val (.ref o98), .val (.int (refF [(cA pa), (cS pa 16), (cS pa 32)] [] (sgn (3 : Int32)))), .unset, .unset] [(.int (sgn (cmpF [(cA pa), (cS pa 16), (cS pa 32)] [] (3 : Int32))))]
        refine Own.istore W102 at_149 151 rfl #[.val (.long pa), .second, .val (.long pb), .second, .val (.int fl), .val (.int (3 : Int32)), .val (.int (0 : Int32)), .val (.int (cA pa)), .val (.int (cS pa 16)), .val (.int (cS pa 32)), .val (.int b0), .val (.int b1), .val (.int b2), .val (.ref o97), .val (.ref o98), .val (.int (refF [(cA pa), (cS pa 16), (cS pa 32)] [] (sgn (3 : Int32)))), .val (.int (sgn (cmpF [(cA pa), (cS pa 16), (cS pa 32)] [] (3 : Int32)))), .unset] rfl ?_
        refine Own.aload W102 at_151 153 rfl (.ref o98) rfl rfl ?_
        refine Own.aload W102 at_153 155 rfl (.ref o97) rfl rfl ?_
        refine Own.callS W102 (tw hw 32 rfl) (tw hw 33 rfl) (tw hw 34 rfl) (tw hw 35 rfl) (by decide) (argsL := [(.ref o98), (.ref o97)]) (rest := []) (Own.Con.pay (con_cmp03 hw hEL hmem hS hcz SF rfm TA TH TL W102.old U98 (U97.ext X100)) W102 (tw hw 35 rfl) (tw hw 34 rfl) (len := 3) (wd := 0) (by decide) (by decide) (fun _ q => nomatch q)) rfl (lenOf pd_21 rfl) rfl (Nat.le_of_ble_eq_true rfl) at_155 158 rfl 12 48 (Nat.le_of_ble_eq_true rfl) (Nat.le_of_ble_eq_true rfl) (Nat.le_of_ble_eq_true rfl) (Nat.le_of_ble_eq_true rfl) ?_
        intro v103 T103 h103 u103 W103 R103 hq
        obtain ⟨rfl, eh103⟩ := hq
        have ei103 := eh103.symm; subst ei103
        show Own.Go _ _ _ _ _ 158 #[.val (.long pa), .second, .val (.long pb), .second, .val (.int fl), .val (.int (3 : Int32)), .val (.int (0 : Int32)), .val (.int (cA pa)), .val (.int (cS pa 16)), .val (.int (cS pa 32)), .val (.int b0), .val (.int b1), .val (.int b2), .val (.ref o97), .val (.ref o98), .val (.int (refF [(cA pa), (cS pa 16), (cS pa 32)] [] (sgn (3 : Int32)))), .val (.int (sgn (cmpF [(cA pa), (cS pa 16), (cS pa 32)] [] (3 : Int32)))), .unset] [(.int (cmpF [] [(cA pa), (cS pa 16), (cS pa 32)] (-3 : Int32)))]
        refine Own.callS W103 (tw hw 29 rfl) (tw hw 30 rfl) (tw hw 2 rfl) (tw hw 31 rfl) (by decide) (argsL := [(.int (cmpF [] [(cA pa), (cS pa 16), (cS pa 32)] (-3 : Int32)))]) (rest := []) (Own.Con.pay (con_sgn hw hEL _ W103.old) W103 (tw hw 31 rfl) (tw hw 2 rfl) (len := 3) (wd := 0) (by decide) (by decide) (fun _ q => nomatch q)) rfl (lenOf pd_0 rfl) rfl (Nat.le_of_ble_eq_true rfl) at_158 161 rfl 12 48 (Nat.le_of_ble_eq_true rfl) (Nat.le_of_ble_eq_true rfl) (Nat.le_of_ble_eq_true rfl) (Nat.le_of_ble_eq_true rfl) ?_
        intro v104 T104 h104 u104 W104 R104 hq
        obtain ⟨rfl, eh104⟩ := hq
        have ei104 := eh104.symm; subst ei104
        show Own.Go _ _ _ _ _ 161 #[.val (.long pa), .second, .val (.long pb), .second, .val (.int fl), .val (.int (3 : Int32)), .val (.int (0 : Int32)), .val (.int (cA pa)), .val (.int (cS pa 16)), .val (.int (cS pa 32)), .val (.int b0), .val (.int b1), .val (.int b2), .val (.ref o97), .val (.ref o98), .val (.int (refF [(cA pa), (cS pa 16), (cS pa 32)] [] (sgn (3 : Int32)))), .val (.int (sgn (cmpF [(cA pa), (cS pa 16), (cS pa 32)] [] (3 : Int32)))), .unset] [(.int (sgn (cmpF [] [(cA pa), (cS pa 16), (cS pa 32)] (-3 : Int32))))]
        refine Own.istore W104 at_161 163 rfl #[.val (.long pa), .second, .val (.long pb), .second, .val (.int fl), .val (.int (3 : Int32)), .val (.int (0 : Int32)), .val (.int (cA pa)), .val (.int (cS pa 16)), .val (.int (cS pa 32)), .val (.int b0), .val (.int b1), .val (.int b2), .val (.ref o97), .val (.ref o98), .val (.int (refF [(cA pa), (cS pa 16), (cS pa 32)] [] (sgn (3 : Int32)))), .val (.int (sgn (cmpF [(cA pa), (cS pa 16), (cS pa 32)] [] (3 : Int32)))), .val (.int (sgn (cmpF [] [(cA pa), (cS pa 16), (cS pa 32)] (-3 : Int32))))] rfl ?_
        refine Own.iload W104 at_163 165 rfl (sgn (cmpF [(cA pa), (cS pa 16), (cS pa 32)] [] (3 : Int32))) rfl ?_
        refine Own.iload W104 at_165 167 rfl (refF [(cA pa), (cS pa 16), (cS pa 32)] [] (sgn (3 : Int32))) rfl ?_
        have P := pureL [(cA pa), (cS pa 16), (cS pa 32)] [] (3 : Int32) (-3 : Int32) (by decide) (all_s (r16A pa) (all_s (r16S pa 16) (all_s (r16S pa 32) all_0))) all_0
        refine Own.icmpNo W104 at_167 170 (XT.ii_ne_f P.1) rfl ?_
        refine Own.iload W104 at_170 172 rfl (sgn (cmpF [] [(cA pa), (cS pa 16), (cS pa 32)] (-3 : Int32))) rfl ?_
        refine Own.iload W104 at_172 174 rfl (refF [(cA pa), (cS pa 16), (cS pa 32)] [] (sgn (3 : Int32))) rfl ?_
        refine Own.ineg W104 at_174 175 rfl ?_
        refine Own.icmpNo W104 at_175 178 (XT.ii_ne_f P.2) rfl ?_
        refine Own.iconst W104 at_178 179 rfl (1 : Int32) rfl ?_
        refine Own.goto W104 at_179 183 (by decide) (by decide) ?_
        exact Own.retB W104 (by decide) (by decide) rfl at_183 rfl rfl
      · skip
        rw [eb]
        show Own.Go _ _ _ _ _ 92 #[.val (.long pa), .second, .val (.long pb), .second, .val (.int fl), .val (.int (3 : Int32)), .val (.int (1 : Int32)), .val (.int (cA pa)), .val (.int (cS pa 16)), .val (.int (cS pa 32)), .val (.int b0), .val (.int b1), .val (.int b2), .unset, .unset, .unset, .unset, .unset] []
        refine Own.iload W0 at_92 94 rfl (3 : Int32) rfl ?_
        refine Own.iload W0 at_94 96 rfl (cA pa) rfl ?_
        refine Own.iload W0 at_96 98 rfl (cS pa 16) rfl ?_
        refine Own.iload W0 at_98 100 rfl (cS pa 32) rfl ?_
        refine Own.callS W0 (tw hw 0 rfl) (tw hw 1 rfl) (tw hw 2 rfl) (tw hw 3 rfl) (by decide) (argsL := [(.int (3 : Int32)), (.int (cA pa)), (.int (cS pa 16)), (.int (cS pa 32))]) (rest := []) (Own.Con.pay (con_mk3 hw hEL hmem hS hcz TA TH TL hEN6 rfl (r16A pa) (r16S pa 16) (r16S pa 32) W0.old) W0 (tw hw 3 rfl) (tw hw 2 rfl) (len := 3) (wd := 0) (by decide) (by decide) (fun _ q => nomatch q)) rfl (lenOf pd_19 rfl) rfl (Nat.le_of_ble_eq_true rfl) at_100 103 rfl 6 24 (Nat.le_of_ble_eq_true rfl) (Nat.le_of_ble_eq_true rfl) (Nat.le_of_ble_eq_true rfl) (Nat.le_of_ble_eq_true rfl) ?_
        intro v105 T105 h105 u105 W105 R105 hq
        obtain ⟨o105, rfl, E105, g105, U105⟩ := hq
        show Own.Go _ _ _ _ _ 103 #[.val (.long pa), .second, .val (.long pb), .second, .val (.int fl), .val (.int (3 : Int32)), .val (.int (1 : Int32)), .val (.int (cA pa)), .val (.int (cS pa 16)), .val (.int (cS pa 32)), .val (.int b0), .val (.int b1), .val (.int b2), .unset, .unset, .unset, .unset, .unset] [(.ref o105)]
        refine Own.astore W105 at_103 105 rfl rfl #[.val (.long pa), .second, .val (.long pb), .second, .val (.int fl), .val (.int (3 : Int32)), .val (.int (1 : Int32)), .val (.int (cA pa)), .val (.int (cS pa 16)), .val (.int (cS pa 32)), .val (.int b0), .val (.int b1), .val (.int b2), .val (.ref o105), .unset, .unset, .unset, .unset] rfl ?_
        refine Own.iload W105 at_105 107 rfl (1 : Int32) rfl ?_
        refine Own.iload W105 at_107 109 rfl b0 rfl ?_
        refine Own.iload W105 at_109 111 rfl b1 rfl ?_
        refine Own.iload W105 at_111 113 rfl b2 rfl ?_
        refine Own.callS W105 (tw hw 0 rfl) (tw hw 1 rfl) (tw hw 2 rfl) (tw hw 3 rfl) (by decide) (argsL := [(.int (1 : Int32)), (.int b0), (.int b1), (.int b2)]) (rest := []) (Own.Con.pay (con_mk1 hw hEL hmem hS hcz TA TH TL hEN2 rfl q0 q1 q2 W105.old) W105 (tw hw 3 rfl) (tw hw 2 rfl) (len := 3) (wd := 0) (by decide) (by decide) (fun _ q => nomatch q)) rfl (lenOf pd_19 rfl) rfl (Nat.le_of_ble_eq_true rfl) at_113 116 rfl 12 48 (Nat.le_of_ble_eq_true rfl) (Nat.le_of_ble_eq_true rfl) (Nat.le_of_ble_eq_true rfl) (Nat.le_of_ble_eq_true rfl) ?_
        intro v106 T106 h106 u106 W106 R106 hq
        obtain ⟨o106, rfl, E106, g106, U106⟩ := hq
        show Own.Go _ _ _ _ _ 116 #[.val (.long pa), .second, .val (.long pb), .second, .val (.int fl), .val (.int (3 : Int32)), .val (.int (1 : Int32)), .val (.int (cA pa)), .val (.int (cS pa 16)), .val (.int (cS pa 32)), .val (.int b0), .val (.int b1), .val (.int b2), .val (.ref o105), .unset, .unset, .unset, .unset] [(.ref o106)]
        refine Own.astore W106 at_116 118 rfl rfl #[.val (.long pa), .second, .val (.long pb), .second, .val (.int fl), .val (.int (3 : Int32)), .val (.int (1 : Int32)), .val (.int (cA pa)), .val (.int (cS pa 16)), .val (.int (cS pa 32)), .val (.int b0), .val (.int b1), .val (.int b2), .val (.ref o105), .val (.ref o106), .unset, .unset, .unset] rfl ?_
        refine Own.iload W106 at_118 120 rfl (3 : Int32) rfl ?_
        refine Own.iload W106 at_120 122 rfl (cA pa) rfl ?_
        refine Own.iload W106 at_122 124 rfl (cS pa 16) rfl ?_
        refine Own.iload W106 at_124 126 rfl (cS pa 32) rfl ?_
        refine Own.iload W106 at_126 128 rfl (1 : Int32) rfl ?_
        refine Own.iload W106 at_128 130 rfl b0 rfl ?_
        refine Own.iload W106 at_130 132 rfl b1 rfl ?_
        refine Own.iload W106 at_132 134 rfl b2 rfl ?_
        refine Own.callS W106 (tw hw 26 rfl) (tw hw 27 rfl) (tw hw 2 rfl) (tw hw 28 rfl) (by decide) (argsL := [(.int (3 : Int32)), (.int (cA pa)), (.int (cS pa 16)), (.int (cS pa 32)), (.int (1 : Int32)), (.int b0), (.int b1), (.int b2)]) (rest := []) (Own.Con.pay (con_ref31 hw hEL rfl rfl _ _ _ _ _ _ W106.old) W106 (tw hw 28 rfl) (tw hw 2 rfl) (len := 3) (wd := 0) (by decide) (by decide) (fun _ q => nomatch q)) rfl (lenOf pd_20 rfl) rfl (Nat.le_of_ble_eq_true rfl) at_134 137 rfl 12 48 (Nat.le_of_ble_eq_true rfl) (Nat.le_of_ble_eq_true rfl) (Nat.le_of_ble_eq_true rfl) (Nat.le_of_ble_eq_true rfl) ?_
        intro v107 T107 h107 u107 W107 R107 hq
        obtain ⟨rfl, eh107⟩ := hq
        have ei107 := eh107.symm; subst ei107
        show Own.Go _ _ _ _ _ 137 #[.val (.long pa), .second, .val (.long pb), .second, .val (.int fl), .val (.int (3 : Int32)), .val (.int (1 : Int32)), .val (.int (cA pa)), .val (.int (cS pa 16)), .val (.int (cS pa 32)), .val (.int b0), .val (.int b1), .val (.int b2), .val (.ref o105), .val (.ref o106), .unset, .unset, .unset] [(.int (refF [(cA pa), (cS pa 16), (cS pa 32)] [b0] (sgn (2 : Int32))))]
        refine Own.istore W107 at_137 139 rfl #[.val (.long pa), .second, .val (.long pb), .second, .val (.int fl), .val (.int (3 : Int32)), .val (.int (1 : Int32)), .val (.int (cA pa)), .val (.int (cS pa 16)), .val (.int (cS pa 32)), .val (.int b0), .val (.int b1), .val (.int b2), .val (.ref o105), .val (.ref o106), .val (.int (refF [(cA pa), (cS pa 16), (cS pa 32)] [b0] (sgn (2 : Int32)))), .unset, .unset] rfl ?_
        refine Own.aload W107 at_139 141 rfl (.ref o105) rfl rfl ?_
        refine Own.aload W107 at_141 143 rfl (.ref o106) rfl rfl ?_
        have X108 : Ext h105 h106 := E106
        refine Own.callS W107 (tw hw 32 rfl) (tw hw 33 rfl) (tw hw 34 rfl) (tw hw 35 rfl) (by decide) (argsL := [(.ref o105), (.ref o106)]) (rest := []) (Own.Con.pay (con_cmp31 hw hEL hmem hS hcz SF rfm TA TH TL W107.old (U105.ext X108) U106) W107 (tw hw 35 rfl) (tw hw 34 rfl) (len := 3) (wd := 0) (by decide) (by decide) (fun _ q => nomatch q)) rfl (lenOf pd_21 rfl) rfl (Nat.le_of_ble_eq_true rfl) at_143 146 rfl 12 48 (Nat.le_of_ble_eq_true rfl) (Nat.le_of_ble_eq_true rfl) (Nat.le_of_ble_eq_true rfl) (Nat.le_of_ble_eq_true rfl) ?_
        intro v109 T109 h109 u109 W109 R109 hq
        obtain ⟨rfl, eh109⟩ := hq
        have ei109 := eh109.symm; subst ei109
        show Own.Go _ _ _ _ _ 146 #[.val (.long pa), .second, .val (.long pb), .second, .val (.int fl), .val (.int (3 : Int32)), .val (.int (1 : Int32)), .val (.int (cA pa)), .val (.int (cS pa 16)), .val (.int (cS pa 32)), .val (.int b0), .val (.int b1), .val (.int b2), .val (.ref o105), .val (.ref o106), .val (.int (refF [(cA pa), (cS pa 16), (cS pa 32)] [b0] (sgn (2 : Int32)))), .unset, .unset] [(.int (cmpF [(cA pa), (cS pa 16), (cS pa 32)] [b0] (2 : Int32)))]
        refine Own.callS W109 (tw hw 29 rfl) (tw hw 30 rfl) (tw hw 2 rfl) (tw hw 31 rfl) (by decide) (argsL := [(.int (cmpF [(cA pa), (cS pa 16), (cS pa 32)] [b0] (2 : Int32)))]) (rest := []) (Own.Con.pay (con_sgn hw hEL _ W109.old) W109 (tw hw 31 rfl) (tw hw 2 rfl) (len := 3) (wd := 0) (by decide) (by decide) (fun _ q => nomatch q)) rfl (lenOf pd_0 rfl) rfl (Nat.le_of_ble_eq_true rfl) at_146 149 rfl 12 48 (Nat.le_of_ble_eq_true rfl) (Nat.le_of_ble_eq_true rfl) (Nat.le_of_ble_eq_true rfl) (Nat.le_of_ble_eq_true rfl) ?_
        intro v110 T110 h110 u110 W110 R110 hq
        obtain ⟨rfl, eh110⟩ := hq
        have ei110 := eh110.symm; subst ei110
        show Own.Go _ _ _ _ _ 149 #[.val (.long pa), .second, .val (.long pb), .second, .val (.int fl), .val (.int (3 : Int32)), .val (.int (1 : Int32)), .val (.int (cA pa)), .val (.int (cS pa 16)), .val (.int (cS pa 32)), .val (.int b0), .val (.int b1), .val (.int b2), .val (.ref o105), .val (.ref o106), .val (.int (refF [(cA pa), (cS pa 16), (cS pa 32)] [b0] (sgn (2 : Int32)))), .unset, .unset] [(.int (sgn (cmpF [(cA pa), (cS pa 16), (cS pa 32)] [b0] (2 : Int32))))]
        refine Own.istore W110 at_149 151 rfl #[.val (.long pa), .second, .val (.long pb), .second, .val (.int fl), .val (.int (3 : Int32)), .val (.int (1 : Int32)), .val (.int (cA pa)), .val (.int (cS pa 16)), .val (.int (cS pa 32)), .val (.int b0), .val (.int b1), .val (.int b2), .val (.ref o105), .val (.ref o106), .val (.int (refF [(cA pa), (cS pa 16), (cS pa 32)] [b0] (sgn (2 : Int32)))), .val (.int (sgn (cmpF [(cA pa), (cS pa 16), (cS pa 32)] [b0] (2 : Int32)))), .unset] rfl ?_
        refine Own.aload W110 at_151 153 rfl (.ref o106) rfl rfl ?_
        refine Own.aload W110 at_153 155 rfl (.ref o105) rfl rfl ?_
        refine Own.callS W110 (tw hw 32 rfl) (tw hw 33 rfl) (tw hw 34 rfl) (tw hw 35 rfl) (by decide) (argsL := [(.ref o106), (.ref o105)]) (rest := []) (Own.Con.pay (con_cmp13 hw hEL hmem hS hcz SF rfm TA TH TL W110.old U106 (U105.ext X108)) W110 (tw hw 35 rfl) (tw hw 34 rfl) (len := 3) (wd := 0) (by decide) (by decide) (fun _ q => nomatch q)) rfl (lenOf pd_21 rfl) rfl (Nat.le_of_ble_eq_true rfl) at_155 158 rfl 12 48 (Nat.le_of_ble_eq_true rfl) (Nat.le_of_ble_eq_true rfl) (Nat.le_of_ble_eq_true rfl) (Nat.le_of_ble_eq_true rfl) ?_
        intro v111 T111 h111 u111 W111 R111 hq
        obtain ⟨rfl, eh111⟩ := hq
        have ei111 := eh111.symm; subst ei111
        show Own.Go _ _ _ _ _ 158 #[.val (.long pa), .second, .val (.long pb), .second, .val (.int fl), .val (.int (3 : Int32)), .val (.int (1 : Int32)), .val (.int (cA pa)), .val (.int (cS pa 16)), .val (.int (cS pa 32)), .val (.int b0), .val (.int b1), .val (.int b2), .val (.ref o105), .val (.ref o106), .val (.int (refF [(cA pa), (cS pa 16), (cS pa 32)] [b0] (sgn (2 : Int32)))), .val (.int (sgn (cmpF [(cA pa), (cS pa 16), (cS pa 32)] [b0] (2 : Int32)))), .unset] [(.int (cmpF [b0] [(cA pa), (cS pa 16), (cS pa 32)] (-2 : Int32)))]
        refine Own.callS W111 (tw hw 29 rfl) (tw hw 30 rfl) (tw hw 2 rfl) (tw hw 31 rfl) (by decide) (argsL := [(.int (cmpF [b0] [(cA pa), (cS pa 16), (cS pa 32)] (-2 : Int32)))]) (rest := []) (Own.Con.pay (con_sgn hw hEL _ W111.old) W111 (tw hw 31 rfl) (tw hw 2 rfl) (len := 3) (wd := 0) (by decide) (by decide) (fun _ q => nomatch q)) rfl (lenOf pd_0 rfl) rfl (Nat.le_of_ble_eq_true rfl) at_158 161 rfl 12 48 (Nat.le_of_ble_eq_true rfl) (Nat.le_of_ble_eq_true rfl) (Nat.le_of_ble_eq_true rfl) (Nat.le_of_ble_eq_true rfl) ?_
        intro v112 T112 h112 u112 W112 R112 hq
        obtain ⟨rfl, eh112⟩ := hq
        have ei112 := eh112.symm; subst ei112
        show Own.Go _ _ _ _ _ 161 #[.val (.long pa), .second, .val (.long pb), .second, .val (.int fl), .val (.int (3 : Int32)), .val (.int (1 : Int32)), .val (.int (cA pa)), .val (.int (cS pa 16)), .val (.int (cS pa 32)), .val (.int b0), .val (.int b1), .val (.int b2), .val (.ref o105), .val (.ref o106), .val (.int (refF [(cA pa), (cS pa 16), (cS pa 32)] [b0] (sgn (2 : Int32)))), .val (.int (sgn (cmpF [(cA pa), (cS pa 16), (cS pa 32)] [b0] (2 : Int32)))), .unset] [(.int (sgn (cmpF [b0] [(cA pa), (cS pa 16), (cS pa 32)] (-2 : Int32))))]
        refine Own.istore W112 at_161 163 rfl #[.val (.long pa), .second, .val (.long pb), .second, .val (.int fl), .val (.int (3 : Int32)), .val (.int (1 : Int32)), .val (.int (cA pa)), .val (.int (cS pa 16)), .val (.int (cS pa 32)), .val (.int b0), .val (.int b1), .val (.int b2), .val (.ref o105), .val (.ref o106), .val (.int (refF [(cA pa), (cS pa 16), (cS pa 32)] [b0] (sgn (2 : Int32)))), .val (.int (sgn (cmpF [(cA pa), (cS pa 16), (cS pa 32)] [b0] (2 : Int32)))), .val (.int (sgn (cmpF [b0] [(cA pa), (cS pa 16), (cS pa 32)] (-2 : Int32))))] rfl ?_
        refine Own.iload W112 at_163 165 rfl (sgn (cmpF [(cA pa), (cS pa 16), (cS pa 32)] [b0] (2 : Int32))) rfl ?_
        refine Own.iload W112 at_165 167 rfl (refF [(cA pa), (cS pa 16), (cS pa 32)] [b0] (sgn (2 : Int32))) rfl ?_
        have P := pureL [(cA pa), (cS pa 16), (cS pa 32)] [b0] (2 : Int32) (-2 : Int32) (by decide) (all_s (r16A pa) (all_s (r16S pa 16) (all_s (r16S pa 32) all_0))) (all_s q0 all_0)
        refine Own.icmpNo W112 at_167 170 (XT.ii_ne_f P.1) rfl ?_
        refine Own.iload W112 at_170 172 rfl (sgn (cmpF [b0] [(cA pa), (cS pa 16), (cS pa 32)] (-2 : Int32))) rfl ?_
        refine Own.iload W112 at_172 174 rfl (refF [(cA pa), (cS pa 16), (cS pa 32)] [b0] (sgn (2 : Int32))) rfl ?_
        refine Own.ineg W112 at_174 175 rfl ?_
        refine Own.icmpNo W112 at_175 178 (XT.ii_ne_f P.2) rfl ?_
        refine Own.iconst W112 at_178 179 rfl (1 : Int32) rfl ?_
        refine Own.goto W112 at_179 183 (by decide) (by decide) ?_
        exact Own.retB W112 (by decide) (by decide) rfl at_183 rfl rfl
      · skip
        rw [eb]
        show Own.Go _ _ _ _ _ 92 #[.val (.long pa), .second, .val (.long pb), .second, .val (.int fl), .val (.int (3 : Int32)), .val (.int (2 : Int32)), .val (.int (cA pa)), .val (.int (cS pa 16)), .val (.int (cS pa 32)), .val (.int b0), .val (.int b1), .val (.int b2), .unset, .unset, .unset, .unset, .unset] []
        refine Own.iload W0 at_92 94 rfl (3 : Int32) rfl ?_
        refine Own.iload W0 at_94 96 rfl (cA pa) rfl ?_
        refine Own.iload W0 at_96 98 rfl (cS pa 16) rfl ?_
        refine Own.iload W0 at_98 100 rfl (cS pa 32) rfl ?_
        refine Own.callS W0 (tw hw 0 rfl) (tw hw 1 rfl) (tw hw 2 rfl) (tw hw 3 rfl) (by decide) (argsL := [(.int (3 : Int32)), (.int (cA pa)), (.int (cS pa 16)), (.int (cS pa 32))]) (rest := []) (Own.Con.pay (con_mk3 hw hEL hmem hS hcz TA TH TL hEN6 rfl (r16A pa) (r16S pa 16) (r16S pa 32) W0.old) W0 (tw hw 3 rfl) (tw hw 2 rfl) (len := 3) (wd := 0) (by decide) (by decide) (fun _ q => nomatch q)) rfl (lenOf pd_19 rfl) rfl (Nat.le_of_ble_eq_true rfl) at_100 103 rfl 6 24 (Nat.le_of_ble_eq_true rfl) (Nat.le_of_ble_eq_true rfl) (Nat.le_of_ble_eq_true rfl) (Nat.le_of_ble_eq_true rfl) ?_
        intro v113 T113 h113 u113 W113 R113 hq
        obtain ⟨o113, rfl, E113, g113, U113⟩ := hq
        show Own.Go _ _ _ _ _ 103 #[.val (.long pa), .second, .val (.long pb), .second, .val (.int fl), .val (.int (3 : Int32)), .val (.int (2 : Int32)), .val (.int (cA pa)), .val (.int (cS pa 16)), .val (.int (cS pa 32)), .val (.int b0), .val (.int b1), .val (.int b2), .unset, .unset, .unset, .unset, .unset] [(.ref o113)]
        refine Own.astore W113 at_103 105 rfl rfl #[.val (.long pa), .second, .val (.long pb), .second, .val (.int fl), .val (.int (3 : Int32)), .val (.int (2 : Int32)), .val (.int (cA pa)), .val (.int (cS pa 16)), .val (.int (cS pa 32)), .val (.int b0), .val (.int b1), .val (.int b2), .val (.ref o113), .unset, .unset, .unset, .unset] rfl ?_
        refine Own.iload W113 at_105 107 rfl (2 : Int32) rfl ?_
        refine Own.iload W113 at_107 109 rfl b0 rfl ?_
        refine Own.iload W113 at_109 111 rfl b1 rfl ?_
        refine Own.iload W113 at_111 113 rfl b2 rfl ?_
        refine Own.callS W113 (tw hw 0 rfl) (tw hw 1 rfl) (tw hw 2 rfl) (tw hw 3 rfl) (by decide) (argsL := [(.int (2 : Int32)), (.int b0), (.int b1), (.int b2)]) (rest := []) (Own.Con.pay (con_mk2 hw hEL hmem hS hcz TA TH TL hEN4 rfl q0 q1 q2 W113.old) W113 (tw hw 3 rfl) (tw hw 2 rfl) (len := 3) (wd := 0) (by decide) (by decide) (fun _ q => nomatch q)) rfl (lenOf pd_19 rfl) rfl (Nat.le_of_ble_eq_true rfl) at_113 116 rfl 12 48 (Nat.le_of_ble_eq_true rfl) (Nat.le_of_ble_eq_true rfl) (Nat.le_of_ble_eq_true rfl) (Nat.le_of_ble_eq_true rfl) ?_
        intro v114 T114 h114 u114 W114 R114 hq
        obtain ⟨o114, rfl, E114, g114, U114⟩ := hq
        show Own.Go _ _ _ _ _ 116 #[.val (.long pa), .second, .val (.long pb), .second, .val (.int fl), .val (.int (3 : Int32)), .val (.int (2 : Int32)), .val (.int (cA pa)), .val (.int (cS pa 16)), .val (.int (cS pa 32)), .val (.int b0), .val (.int b1), .val (.int b2), .val (.ref o113), .unset, .unset, .unset, .unset] [(.ref o114)]
        refine Own.astore W114 at_116 118 rfl rfl #[.val (.long pa), .second, .val (.long pb), .second, .val (.int fl), .val (.int (3 : Int32)), .val (.int (2 : Int32)), .val (.int (cA pa)), .val (.int (cS pa 16)), .val (.int (cS pa 32)), .val (.int b0), .val (.int b1), .val (.int b2), .val (.ref o113), .val (.ref o114), .unset, .unset, .unset] rfl ?_
        refine Own.iload W114 at_118 120 rfl (3 : Int32) rfl ?_
        refine Own.iload W114 at_120 122 rfl (cA pa) rfl ?_
        refine Own.iload W114 at_122 124 rfl (cS pa 16) rfl ?_
        refine Own.iload W114 at_124 126 rfl (cS pa 32) rfl ?_
        refine Own.iload W114 at_126 128 rfl (2 : Int32) rfl ?_
        refine Own.iload W114 at_128 130 rfl b0 rfl ?_
        refine Own.iload W114 at_130 132 rfl b1 rfl ?_
        refine Own.iload W114 at_132 134 rfl b2 rfl ?_
        refine Own.callS W114 (tw hw 26 rfl) (tw hw 27 rfl) (tw hw 2 rfl) (tw hw 28 rfl) (by decide) (argsL := [(.int (3 : Int32)), (.int (cA pa)), (.int (cS pa 16)), (.int (cS pa 32)), (.int (2 : Int32)), (.int b0), (.int b1), (.int b2)]) (rest := []) (Own.Con.pay (con_ref32 hw hEL rfl rfl _ _ _ _ _ _ W114.old) W114 (tw hw 28 rfl) (tw hw 2 rfl) (len := 3) (wd := 0) (by decide) (by decide) (fun _ q => nomatch q)) rfl (lenOf pd_20 rfl) rfl (Nat.le_of_ble_eq_true rfl) at_134 137 rfl 12 48 (Nat.le_of_ble_eq_true rfl) (Nat.le_of_ble_eq_true rfl) (Nat.le_of_ble_eq_true rfl) (Nat.le_of_ble_eq_true rfl) ?_
        intro v115 T115 h115 u115 W115 R115 hq
        obtain ⟨rfl, eh115⟩ := hq
        have ei115 := eh115.symm; subst ei115
        show Own.Go _ _ _ _ _ 137 #[.val (.long pa), .second, .val (.long pb), .second, .val (.int fl), .val (.int (3 : Int32)), .val (.int (2 : Int32)), .val (.int (cA pa)), .val (.int (cS pa 16)), .val (.int (cS pa 32)), .val (.int b0), .val (.int b1), .val (.int b2), .val (.ref o113), .val (.ref o114), .unset, .unset, .unset] [(.int (refF [(cA pa), (cS pa 16), (cS pa 32)] [b0, b1] (sgn (1 : Int32))))]
        refine Own.istore W115 at_137 139 rfl #[.val (.long pa), .second, .val (.long pb), .second, .val (.int fl), .val (.int (3 : Int32)), .val (.int (2 : Int32)), .val (.int (cA pa)), .val (.int (cS pa 16)), .val (.int (cS pa 32)), .val (.int b0), .val (.int b1), .val (.int b2), .val (.ref o113), .val (.ref o114), .val (.int (refF [(cA pa), (cS pa 16), (cS pa 32)] [b0, b1] (sgn (1 : Int32)))), .unset, .unset] rfl ?_
        refine Own.aload W115 at_139 141 rfl (.ref o113) rfl rfl ?_
        refine Own.aload W115 at_141 143 rfl (.ref o114) rfl rfl ?_
        have X116 : Ext h113 h114 := E114
        refine Own.callS W115 (tw hw 32 rfl) (tw hw 33 rfl) (tw hw 34 rfl) (tw hw 35 rfl) (by decide) (argsL := [(.ref o113), (.ref o114)]) (rest := []) (Own.Con.pay (con_cmp32 hw hEL hmem hS hcz SF rfm TA TH TL W115.old (U113.ext X116) U114) W115 (tw hw 35 rfl) (tw hw 34 rfl) (len := 3) (wd := 0) (by decide) (by decide) (fun _ q => nomatch q)) rfl (lenOf pd_21 rfl) rfl (Nat.le_of_ble_eq_true rfl) at_143 146 rfl 12 48 (Nat.le_of_ble_eq_true rfl) (Nat.le_of_ble_eq_true rfl) (Nat.le_of_ble_eq_true rfl) (Nat.le_of_ble_eq_true rfl) ?_
        intro v117 T117 h117 u117 W117 R117 hq
        obtain ⟨rfl, eh117⟩ := hq
        have ei117 := eh117.symm; subst ei117
        show Own.Go _ _ _ _ _ 146 #[.val (.long pa), .second, .val (.long pb), .second, .val (.int fl), .val (.int (3 : Int32)), .val (.int (2 : Int32)), .val (.int (cA pa)), .val (.int (cS pa 16)), .val (.int (cS pa 32)), .val (.int b0), .val (.int b1), .val (.int b2), .val (.ref o113), .val (.ref o114), .val (.int (refF [(cA pa), (cS pa 16), (cS pa 32)] [b0, b1] (sgn (1 : Int32)))), .unset, .unset] [(.int (cmpF [(cA pa), (cS pa 16), (cS pa 32)] [b0, b1] (1 : Int32)))]
        refine Own.callS W117 (tw hw 29 rfl) (tw hw 30 rfl) (tw hw 2 rfl) (tw hw 31 rfl) (by decide) (argsL := [(.int (cmpF [(cA pa), (cS pa 16), (cS pa 32)] [b0, b1] (1 : Int32)))]) (rest := []) (Own.Con.pay (con_sgn hw hEL _ W117.old) W117 (tw hw 31 rfl) (tw hw 2 rfl) (len := 3) (wd := 0) (by decide) (by decide) (fun _ q => nomatch q)) rfl (lenOf pd_0 rfl) rfl (Nat.le_of_ble_eq_true rfl) at_146 149 rfl 12 48 (Nat.le_of_ble_eq_true rfl) (Nat.le_of_ble_eq_true rfl) (Nat.le_of_ble_eq_true rfl) (Nat.le_of_ble_eq_true rfl) ?_
        intro v118 T118 h118 u118 W118 R118 hq
        obtain ⟨rfl, eh118⟩ := hq
        have ei118 := eh118.symm; subst ei118
        show Own.Go _ _ _ _ _ 149 #[.val (.long pa), .second, .val (.long pb), .second, .val (.int fl), .val (.int (3 : Int32)), .val (.int (2 : Int32)), .val (.int (cA pa)), .val (.int (cS pa 16)), .val (.int (cS pa 32)), .val (.int b0), .val (.int b1), .val (.int b2), .val (.ref o113), .val (.ref o114), .val (.int (refF [(cA pa), (cS pa 16), (cS pa 32)] [b0, b1] (sgn (1 : Int32)))), .unset, .unset] [(.int (sgn (cmpF [(cA pa), (cS pa 16), (cS pa 32)] [b0, b1] (1 : Int32))))]
        refine Own.istore W118 at_149 151 rfl #[.val (.long pa), .second, .val (.long pb), .second, .val (.int fl), .val (.int (3 : Int32)), .val (.int (2 : Int32)), .val (.int (cA pa)), .val (.int (cS pa 16)), .val (.int (cS pa 32)), .val (.int b0), .val (.int b1), .val (.int b2), .val (.ref o113), .val (.ref o114), .val (.int (refF [(cA pa), (cS pa 16), (cS pa 32)] [b0, b1] (sgn (1 : Int32)))), .val (.int (sgn (cmpF [(cA pa), (cS pa 16), (cS pa 32)] [b0, b1] (1 : Int32)))), .unset] rfl ?_
        refine Own.aload W118 at_151 153 rfl (.ref o114) rfl rfl ?_
        refine Own.aload W118 at_153 155 rfl (.ref o113) rfl rfl ?_
        refine Own.callS W118 (tw hw 32 rfl) (tw hw 33 rfl) (tw hw 34 rfl) (tw hw 35 rfl) (by decide) (argsL := [(.ref o114), (.ref o113)]) (rest := []) (Own.Con.pay (con_cmp23 hw hEL hmem hS hcz SF rfm TA TH TL W118.old U114 (U113.ext X116)) W118 (tw hw 35 rfl) (tw hw 34 rfl) (len := 3) (wd := 0) (by decide) (by decide) (fun _ q => nomatch q)) rfl (lenOf pd_21 rfl) rfl (Nat.le_of_ble_eq_true rfl) at_155 158 rfl 12 48 (Nat.le_of_ble_eq_true rfl) (Nat.le_of_ble_eq_true rfl) (Nat.le_of_ble_eq_true rfl) (Nat.le_of_ble_eq_true rfl) ?_
        intro v119 T119 h119 u119 W119 R119 hq
        obtain ⟨rfl, eh119⟩ := hq
        have ei119 := eh119.symm; subst ei119
        show Own.Go _ _ _ _ _ 158 #[.val (.long pa), .second, .val (.long pb), .second, .val (.int fl), .val (.int (3 : Int32)), .val (.int (2 : Int32)), .val (.int (cA pa)), .val (.int (cS pa 16)), .val (.int (cS pa 32)), .val (.int b0), .val (.int b1), .val (.int b2), .val (.ref o113), .val (.ref o114), .val (.int (refF [(cA pa), (cS pa 16), (cS pa 32)] [b0, b1] (sgn (1 : Int32)))), .val (.int (sgn (cmpF [(cA pa), (cS pa 16), (cS pa 32)] [b0, b1] (1 : Int32)))), .unset] [(.int (cmpF [b0, b1] [(cA pa), (cS pa 16), (cS pa 32)] (-1 : Int32)))]
        refine Own.callS W119 (tw hw 29 rfl) (tw hw 30 rfl) (tw hw 2 rfl) (tw hw 31 rfl) (by decide) (argsL := [(.int (cmpF [b0, b1] [(cA pa), (cS pa 16), (cS pa 32)] (-1 : Int32)))]) (rest := []) (Own.Con.pay (con_sgn hw hEL _ W119.old) W119 (tw hw 31 rfl) (tw hw 2 rfl) (len := 3) (wd := 0) (by decide) (by decide) (fun _ q => nomatch q)) rfl (lenOf pd_0 rfl) rfl (Nat.le_of_ble_eq_true rfl) at_158 161 rfl 12 48 (Nat.le_of_ble_eq_true rfl) (Nat.le_of_ble_eq_true rfl) (Nat.le_of_ble_eq_true rfl) (Nat.le_of_ble_eq_true rfl) ?_
        intro v120 T120 h120 u120 W120 R120 hq
        obtain ⟨rfl, eh120⟩ := hq
        have ei120 := eh120.symm; subst ei120
        show Own.Go _ _ _ _ _ 161 #[.val (.long pa), .second, .val (.long pb), .second, .val (.int fl), .val (.int (3 : Int32)), .val (.int (2 : Int32)), .val (.int (cA pa)), .val (.int (cS pa 16)), .val (.int (cS pa 32)), .val (.int b0), .val (.int b1), .val (.int b2), .val (.ref o113), .val (.ref o114), .val (.int (refF [(cA pa), (cS pa 16), (cS pa 32)] [b0, b1] (sgn (1 : Int32)))), .val (.int (sgn (cmpF [(cA pa), (cS pa 16), (cS pa 32)] [b0, b1] (1 : Int32)))), .unset] [(.int (sgn (cmpF [b0, b1] [(cA pa), (cS pa 16), (cS pa 32)] (-1 : Int32))))]
        refine Own.istore W120 at_161 163 rfl #[.val (.long pa), .second, .val (.long pb), .second, .val (.int fl), .val (.int (3 : Int32)), .val (.int (2 : Int32)), .val (.int (cA pa)), .val (.int (cS pa 16)), .val (.int (cS pa 32)), .val (.int b0), .val (.int b1), .val (.int b2), .val (.ref o113), .val (.ref o114), .val (.int (refF [(cA pa), (cS pa 16), (cS pa 32)] [b0, b1] (sgn (1 : Int32)))), .val (.int (sgn (cmpF [(cA pa), (cS pa 16), (cS pa 32)] [b0, b1] (1 : Int32)))), .val (.int (sgn (cmpF [b0, b1] [(cA pa), (cS pa 16), (cS pa 32)] (-1 : Int32))))] rfl ?_
        refine Own.iload W120 at_163 165 rfl (sgn (cmpF [(cA pa), (cS pa 16), (cS pa 32)] [b0, b1] (1 : Int32))) rfl ?_
        refine Own.iload W120 at_165 167 rfl (refF [(cA pa), (cS pa 16), (cS pa 32)] [b0, b1] (sgn (1 : Int32))) rfl ?_
        have P := pureL [(cA pa), (cS pa 16), (cS pa 32)] [b0, b1] (1 : Int32) (-1 : Int32) (by decide) (all_s (r16A pa) (all_s (r16S pa 16) (all_s (r16S pa 32) all_0))) (all_s q0 (all_s q1 all_0))
        refine Own.icmpNo W120 at_167 170 (XT.ii_ne_f P.1) rfl ?_
        refine Own.iload W120 at_170 172 rfl (sgn (cmpF [b0, b1] [(cA pa), (cS pa 16), (cS pa 32)] (-1 : Int32))) rfl ?_
        refine Own.iload W120 at_172 174 rfl (refF [(cA pa), (cS pa 16), (cS pa 32)] [b0, b1] (sgn (1 : Int32))) rfl ?_
        refine Own.ineg W120 at_174 175 rfl ?_
        refine Own.icmpNo W120 at_175 178 (XT.ii_ne_f P.2) rfl ?_
        refine Own.iconst W120 at_178 179 rfl (1 : Int32) rfl ?_
        refine Own.goto W120 at_179 183 (by decide) (by decide) ?_
        exact Own.retB W120 (by decide) (by decide) rfl at_183 rfl rfl
      · skip
        rw [eb]
        show Own.Go _ _ _ _ _ 92 #[.val (.long pa), .second, .val (.long pb), .second, .val (.int fl), .val (.int (3 : Int32)), .val (.int (3 : Int32)), .val (.int (cA pa)), .val (.int (cS pa 16)), .val (.int (cS pa 32)), .val (.int b0), .val (.int b1), .val (.int b2), .unset, .unset, .unset, .unset, .unset] []
        refine Own.iload W0 at_92 94 rfl (3 : Int32) rfl ?_
        refine Own.iload W0 at_94 96 rfl (cA pa) rfl ?_
        refine Own.iload W0 at_96 98 rfl (cS pa 16) rfl ?_
        refine Own.iload W0 at_98 100 rfl (cS pa 32) rfl ?_
        refine Own.callS W0 (tw hw 0 rfl) (tw hw 1 rfl) (tw hw 2 rfl) (tw hw 3 rfl) (by decide) (argsL := [(.int (3 : Int32)), (.int (cA pa)), (.int (cS pa 16)), (.int (cS pa 32))]) (rest := []) (Own.Con.pay (con_mk3 hw hEL hmem hS hcz TA TH TL hEN6 rfl (r16A pa) (r16S pa 16) (r16S pa 32) W0.old) W0 (tw hw 3 rfl) (tw hw 2 rfl) (len := 3) (wd := 0) (by decide) (by decide) (fun _ q => nomatch q)) rfl (lenOf pd_19 rfl) rfl (Nat.le_of_ble_eq_true rfl) at_100 103 rfl 6 24 (Nat.le_of_ble_eq_true rfl) (Nat.le_of_ble_eq_true rfl) (Nat.le_of_ble_eq_true rfl) (Nat.le_of_ble_eq_true rfl) ?_
        intro v121 T121 h121 u121 W121 R121 hq
        obtain ⟨o121, rfl, E121, g121, U121⟩ := hq
        show Own.Go _ _ _ _ _ 103 #[.val (.long pa), .second, .val (.long pb), .second, .val (.int fl), .val (.int (3 : Int32)), .val (.int (3 : Int32)), .val (.int (cA pa)), .val (.int (cS pa 16)), .val (.int (cS pa 32)), .val (.int b0), .val (.int b1), .val (.int b2), .unset, .unset, .unset, .unset, .unset] [(.ref o121)]
        refine Own.astore W121 at_103 105 rfl rfl #[.val (.long pa), .second, .val (.long pb), .second, .val (.int fl), .val (.int (3 : Int32)), .val (.int (3 : Int32)), .val (.int (cA pa)), .val (.int (cS pa 16)), .val (.int (cS pa 32)), .val (.int b0), .val (.int b1), .val (.int b2), .val (.ref o121), .unset, .unset, .unset, .unset] rfl ?_
        refine Own.iload W121 at_105 107 rfl (3 : Int32) rfl ?_
        refine Own.iload W121 at_107 109 rfl b0 rfl ?_
        refine Own.iload W121 at_109 111 rfl b1 rfl ?_
        refine Own.iload W121 at_111 113 rfl b2 rfl ?_
        refine Own.callS W121 (tw hw 0 rfl) (tw hw 1 rfl) (tw hw 2 rfl) (tw hw 3 rfl) (by decide) (argsL := [(.int (3 : Int32)), (.int b0), (.int b1), (.int b2)]) (rest := []) (Own.Con.pay (con_mk3 hw hEL hmem hS hcz TA TH TL hEN6 rfl q0 q1 q2 W121.old) W121 (tw hw 3 rfl) (tw hw 2 rfl) (len := 3) (wd := 0) (by decide) (by decide) (fun _ q => nomatch q)) rfl (lenOf pd_19 rfl) rfl (Nat.le_of_ble_eq_true rfl) at_113 116 rfl 12 48 (Nat.le_of_ble_eq_true rfl) (Nat.le_of_ble_eq_true rfl) (Nat.le_of_ble_eq_true rfl) (Nat.le_of_ble_eq_true rfl) ?_
        intro v122 T122 h122 u122 W122 R122 hq
        obtain ⟨o122, rfl, E122, g122, U122⟩ := hq
        show Own.Go _ _ _ _ _ 116 #[.val (.long pa), .second, .val (.long pb), .second, .val (.int fl), .val (.int (3 : Int32)), .val (.int (3 : Int32)), .val (.int (cA pa)), .val (.int (cS pa 16)), .val (.int (cS pa 32)), .val (.int b0), .val (.int b1), .val (.int b2), .val (.ref o121), .unset, .unset, .unset, .unset] [(.ref o122)]
        refine Own.astore W122 at_116 118 rfl rfl #[.val (.long pa), .second, .val (.long pb), .second, .val (.int fl), .val (.int (3 : Int32)), .val (.int (3 : Int32)), .val (.int (cA pa)), .val (.int (cS pa 16)), .val (.int (cS pa 32)), .val (.int b0), .val (.int b1), .val (.int b2), .val (.ref o121), .val (.ref o122), .unset, .unset, .unset] rfl ?_
        refine Own.iload W122 at_118 120 rfl (3 : Int32) rfl ?_
        refine Own.iload W122 at_120 122 rfl (cA pa) rfl ?_
        refine Own.iload W122 at_122 124 rfl (cS pa 16) rfl ?_
        refine Own.iload W122 at_124 126 rfl (cS pa 32) rfl ?_
        refine Own.iload W122 at_126 128 rfl (3 : Int32) rfl ?_
        refine Own.iload W122 at_128 130 rfl b0 rfl ?_
        refine Own.iload W122 at_130 132 rfl b1 rfl ?_
        refine Own.iload W122 at_132 134 rfl b2 rfl ?_
        refine Own.callS W122 (tw hw 26 rfl) (tw hw 27 rfl) (tw hw 2 rfl) (tw hw 28 rfl) (by decide) (argsL := [(.int (3 : Int32)), (.int (cA pa)), (.int (cS pa 16)), (.int (cS pa 32)), (.int (3 : Int32)), (.int b0), (.int b1), (.int b2)]) (rest := []) (Own.Con.pay (con_ref33 hw hEL rfl rfl _ _ _ _ _ _ W122.old) W122 (tw hw 28 rfl) (tw hw 2 rfl) (len := 3) (wd := 0) (by decide) (by decide) (fun _ q => nomatch q)) rfl (lenOf pd_20 rfl) rfl (Nat.le_of_ble_eq_true rfl) at_134 137 rfl 12 48 (Nat.le_of_ble_eq_true rfl) (Nat.le_of_ble_eq_true rfl) (Nat.le_of_ble_eq_true rfl) (Nat.le_of_ble_eq_true rfl) ?_
        intro v123 T123 h123 u123 W123 R123 hq
        obtain ⟨rfl, eh123⟩ := hq
        have ei123 := eh123.symm; subst ei123
        show Own.Go _ _ _ _ _ 137 #[.val (.long pa), .second, .val (.long pb), .second, .val (.int fl), .val (.int (3 : Int32)), .val (.int (3 : Int32)), .val (.int (cA pa)), .val (.int (cS pa 16)), .val (.int (cS pa 32)), .val (.int b0), .val (.int b1), .val (.int b2), .val (.ref o121), .val (.ref o122), .unset, .unset, .unset] [(.int (refF [(cA pa), (cS pa 16), (cS pa 32)] [b0, b1, b2] (sgn (0 : Int32))))]
        refine Own.istore W123 at_137 139 rfl #[.val (.long pa), .second, .val (.long pb), .second, .val (.int fl), .val (.int (3 : Int32)), .val (.int (3 : Int32)), .val (.int (cA pa)), .val (.int (cS pa 16)), .val (.int (cS pa 32)), .val (.int b0), .val (.int b1), .val (.int b2), .val (.ref o121), .val (.ref o122), .val (.int (refF [(cA pa), (cS pa 16), (cS pa 32)] [b0, b1, b2] (sgn (0 : Int32)))), .unset, .unset] rfl ?_
        refine Own.aload W123 at_139 141 rfl (.ref o121) rfl rfl ?_
        refine Own.aload W123 at_141 143 rfl (.ref o122) rfl rfl ?_
        have X124 : Ext h121 h122 := E122
        refine Own.callS W123 (tw hw 32 rfl) (tw hw 33 rfl) (tw hw 34 rfl) (tw hw 35 rfl) (by decide) (argsL := [(.ref o121), (.ref o122)]) (rest := []) (Own.Con.pay (con_cmp33 hw hEL hmem hS hcz SF rfm TA TH TL W123.old (U121.ext X124) U122) W123 (tw hw 35 rfl) (tw hw 34 rfl) (len := 3) (wd := 0) (by decide) (by decide) (fun _ q => nomatch q)) rfl (lenOf pd_21 rfl) rfl (Nat.le_of_ble_eq_true rfl) at_143 146 rfl 12 48 (Nat.le_of_ble_eq_true rfl) (Nat.le_of_ble_eq_true rfl) (Nat.le_of_ble_eq_true rfl) (Nat.le_of_ble_eq_true rfl) ?_
        intro v125 T125 h125 u125 W125 R125 hq
        obtain ⟨rfl, eh125⟩ := hq
        have ei125 := eh125.symm; subst ei125
        show Own.Go _ _ _ _ _ 146 #[.val (.long pa), .second, .val (.long pb), .second, .val (.int fl), .val (.int (3 : Int32)), .val (.int (3 : Int32)), .val (.int (cA pa)), .val (.int (cS pa 16)), .val (.int (cS pa 32)), .val (.int b0), .val (.int b1), .val (.int b2), .val (.ref o121), .val (.ref o122), .val (.int (refF [(cA pa), (cS pa 16), (cS pa 32)] [b0, b1, b2] (sgn (0 : Int32)))), .unset, .unset] [(.int (cmpF [(cA pa), (cS pa 16), (cS pa 32)] [b0, b1, b2] (0 : Int32)))]
        refine Own.callS W125 (tw hw 29 rfl) (tw hw 30 rfl) (tw hw 2 rfl) (tw hw 31 rfl) (by decide) (argsL := [(.int (cmpF [(cA pa), (cS pa 16), (cS pa 32)] [b0, b1, b2] (0 : Int32)))]) (rest := []) (Own.Con.pay (con_sgn hw hEL _ W125.old) W125 (tw hw 31 rfl) (tw hw 2 rfl) (len := 3) (wd := 0) (by decide) (by decide) (fun _ q => nomatch q)) rfl (lenOf pd_0 rfl) rfl (Nat.le_of_ble_eq_true rfl) at_146 149 rfl 12 48 (Nat.le_of_ble_eq_true rfl) (Nat.le_of_ble_eq_true rfl) (Nat.le_of_ble_eq_true rfl) (Nat.le_of_ble_eq_true rfl) ?_
        intro v126 T126 h126 u126 W126 R126 hq
        obtain ⟨rfl, eh126⟩ := hq
        have ei126 := eh126.symm; subst ei126
        show Own.Go _ _ _ _ _ 149 #[.val (.long pa), .second, .val (.long pb), .second, .val (.int fl), .val (.int (3 : Int32)), .val (.int (3 : Int32)), .val (.int (cA pa)), .val (.int (cS pa 16)), .val (.int (cS pa 32)), .val (.int b0), .val (.int b1), .val (.int b2), .val (.ref o121), .val (.ref o122), .val (.int (refF [(cA pa), (cS pa 16), (cS pa 32)] [b0, b1, b2] (sgn (0 : Int32)))), .unset, .unset] [(.int (sgn (cmpF [(cA pa), (cS pa 16), (cS pa 32)] [b0, b1, b2] (0 : Int32))))]
        refine Own.istore W126 at_149 151 rfl #[.val (.long pa), .second, .val (.long pb), .second, .val (.int fl), .val (.int (3 : Int32)), .val (.int (3 : Int32)), .val (.int (cA pa)), .val (.int (cS pa 16)), .val (.int (cS pa 32)), .val (.int b0), .val (.int b1), .val (.int b2), .val (.ref o121), .val (.ref o122), .val (.int (refF [(cA pa), (cS pa 16), (cS pa 32)] [b0, b1, b2] (sgn (0 : Int32)))), .val (.int (sgn (cmpF [(cA pa), (cS pa 16), (cS pa 32)] [b0, b1, b2] (0 : Int32)))), .unset] rfl ?_
        refine Own.aload W126 at_151 153 rfl (.ref o122) rfl rfl ?_
        refine Own.aload W126 at_153 155 rfl (.ref o121) rfl rfl ?_
        refine Own.callS W126 (tw hw 32 rfl) (tw hw 33 rfl) (tw hw 34 rfl) (tw hw 35 rfl) (by decide) (argsL := [(.ref o122), (.ref o121)]) (rest := []) (Own.Con.pay (con_cmp33 hw hEL hmem hS hcz SF rfm TA TH TL W126.old U122 (U121.ext X124)) W126 (tw hw 35 rfl) (tw hw 34 rfl) (len := 3) (wd := 0) (by decide) (by decide) (fun _ q => nomatch q)) rfl (lenOf pd_21 rfl) rfl (Nat.le_of_ble_eq_true rfl) at_155 158 rfl 12 48 (Nat.le_of_ble_eq_true rfl) (Nat.le_of_ble_eq_true rfl) (Nat.le_of_ble_eq_true rfl) (Nat.le_of_ble_eq_true rfl) ?_
        intro v127 T127 h127 u127 W127 R127 hq
        obtain ⟨rfl, eh127⟩ := hq
        have ei127 := eh127.symm; subst ei127
        show Own.Go _ _ _ _ _ 158 #[.val (.long pa), .second, .val (.long pb), .second, .val (.int fl), .val (.int (3 : Int32)), .val (.int (3 : Int32)), .val (.int (cA pa)), .val (.int (cS pa 16)), .val (.int (cS pa 32)), .val (.int b0), .val (.int b1), .val (.int b2), .val (.ref o121), .val (.ref o122), .val (.int (refF [(cA pa), (cS pa 16), (cS pa 32)] [b0, b1, b2] (sgn (0 : Int32)))), .val (.int (sgn (cmpF [(cA pa), (cS pa 16), (cS pa 32)] [b0, b1, b2] (0 : Int32)))), .unset] [(.int (cmpF [b0, b1, b2] [(cA pa), (cS pa 16), (cS pa 32)] (0 : Int32)))]
        refine Own.callS W127 (tw hw 29 rfl) (tw hw 30 rfl) (tw hw 2 rfl) (tw hw 31 rfl) (by decide) (argsL := [(.int (cmpF [b0, b1, b2] [(cA pa), (cS pa 16), (cS pa 32)] (0 : Int32)))]) (rest := []) (Own.Con.pay (con_sgn hw hEL _ W127.old) W127 (tw hw 31 rfl) (tw hw 2 rfl) (len := 3) (wd := 0) (by decide) (by decide) (fun _ q => nomatch q)) rfl (lenOf pd_0 rfl) rfl (Nat.le_of_ble_eq_true rfl) at_158 161 rfl 12 48 (Nat.le_of_ble_eq_true rfl) (Nat.le_of_ble_eq_true rfl) (Nat.le_of_ble_eq_true rfl) (Nat.le_of_ble_eq_true rfl) ?_
        intro v128 T128 h128 u128 W128 R128 hq
        obtain ⟨rfl, eh128⟩ := hq
        have ei128 := eh128.symm; subst ei128
        show Own.Go _ _ _ _ _ 161 #[.val (.long pa), .second, .val (.long pb), .second, .val (.int fl), .val (.int (3 : Int32)), .val (.int (3 : Int32)), .val (.int (cA pa)), .val (.int (cS pa 16)), .val (.int (cS pa 32)), .val (.int b0), .val (.int b1), .val (.int b2), .val (.ref o121), .val (.ref o122), .val (.int (refF [(cA pa), (cS pa 16), (cS pa 32)] [b0, b1, b2] (sgn (0 : Int32)))), .val (.int (sgn (cmpF [(cA pa), (cS pa 16), (cS pa 32)] [b0, b1, b2] (0 : Int32)))), .unset] [(.int (sgn (cmpF [b0, b1, b2] [(cA pa), (cS pa 16), (cS pa 32)] (0 : Int32))))]
        refine Own.istore W128 at_161 163 rfl #[.val (.long pa), .second, .val (.long pb), .second, .val (.int fl), .val (.int (3 : Int32)), .val (.int (3 : Int32)), .val (.int (cA pa)), .val (.int (cS pa 16)), .val (.int (cS pa 32)), .val (.int b0), .val (.int b1), .val (.int b2), .val (.ref o121), .val (.ref o122), .val (.int (refF [(cA pa), (cS pa 16), (cS pa 32)] [b0, b1, b2] (sgn (0 : Int32)))), .val (.int (sgn (cmpF [(cA pa), (cS pa 16), (cS pa 32)] [b0, b1, b2] (0 : Int32)))), .val (.int (sgn (cmpF [b0, b1, b2] [(cA pa), (cS pa 16), (cS pa 32)] (0 : Int32))))] rfl ?_
        refine Own.iload W128 at_163 165 rfl (sgn (cmpF [(cA pa), (cS pa 16), (cS pa 32)] [b0, b1, b2] (0 : Int32))) rfl ?_
        refine Own.iload W128 at_165 167 rfl (refF [(cA pa), (cS pa 16), (cS pa 32)] [b0, b1, b2] (sgn (0 : Int32))) rfl ?_
        have P := pureL [(cA pa), (cS pa 16), (cS pa 32)] [b0, b1, b2] (0 : Int32) (0 : Int32) (by decide) (all_s (r16A pa) (all_s (r16S pa 16) (all_s (r16S pa 32) all_0))) (all_s q0 (all_s q1 (all_s q2 all_0)))
        refine Own.icmpNo W128 at_167 170 (XT.ii_ne_f P.1) rfl ?_
        refine Own.iload W128 at_170 172 rfl (sgn (cmpF [b0, b1, b2] [(cA pa), (cS pa 16), (cS pa 32)] (0 : Int32))) rfl ?_
        refine Own.iload W128 at_172 174 rfl (refF [(cA pa), (cS pa 16), (cS pa 32)] [b0, b1, b2] (sgn (0 : Int32))) rfl ?_
        refine Own.ineg W128 at_174 175 rfl ?_
        refine Own.icmpNo W128 at_175 178 (XT.ii_ne_f P.2) rfl ?_
        refine Own.iconst W128 at_178 179 rfl (1 : Int32) rfl ?_
        refine Own.goto W128 at_179 183 (by decide) (by decide) ?_
        exact Own.retB W128 (by decide) (by decide) rfl at_183 rfl rfl
  refine Own.iload W0 at_56 58 rfl fl rfl ?_
  refine Own.bipush W0 at_58 60 rfl (16 : Int32) rfl ?_
  refine Own.iand W0 at_60 61 rfl ?_
  by_cases f0 : (fl &&& (16 : Int32)) = (0 : Int32)
  · skip
    refine Own.ifYes W0 at_61 68 (XT.i0_eq_t f0) (by decide) (by decide) ?_
    refine Own.iload W0 at_68 70 rfl fl rfl ?_
    refine Own.bipush W0 at_70 72 rfl (32 : Int32) rfl ?_
    refine Own.iand W0 at_72 73 rfl ?_
    by_cases f1 : (fl &&& (32 : Int32)) = (0 : Int32)
    · skip
      refine Own.ifYes W0 at_73 80 (XT.i0_eq_t f1) (by decide) (by decide) ?_
      refine Own.iload W0 at_80 82 rfl fl rfl ?_
      refine Own.bipush W0 at_82 84 rfl (64 : Int32) rfl ?_
      refine Own.iand W0 at_84 85 rfl ?_
      by_cases f2 : (fl &&& (64 : Int32)) = (0 : Int32)
      · skip
        refine Own.ifYes W0 at_85 92 (XT.i0_eq_t f2) (by decide) (by decide) ?_
        exact J (cA pb) (cS pb 16) (cS pb 32) (r16A pb) (r16S pb 16) (r16S pb 32)
      · skip
        refine Own.ifNo W0 at_85 88 (XT.i0_eq_f f2) rfl ?_
        refine Own.iload W0 at_88 90 rfl (cS pa 32) rfl ?_
        refine Own.istore W0 at_90 92 rfl #[.val (.long pa), .second, .val (.long pb), .second, .val (.int fl), .val (.int (fA fl)), .val (.int (fB fl)), .val (.int (cA pa)), .val (.int (cS pa 16)), .val (.int (cS pa 32)), .val (.int (cA pb)), .val (.int (cS pb 16)), .val (.int (cS pa 32)), .unset, .unset, .unset, .unset, .unset] rfl ?_
        exact J (cA pb) (cS pb 16) (cS pa 32) (r16A pb) (r16S pb 16) (r16S pa 32)
    · skip
      refine Own.ifNo W0 at_73 76 (XT.i0_eq_f f1) rfl ?_
      refine Own.iload W0 at_76 78 rfl (cS pa 16) rfl ?_
      refine Own.istore W0 at_78 80 rfl #[.val (.long pa), .second, .val (.long pb), .second, .val (.int fl), .val (.int (fA fl)), .val (.int (fB fl)), .val (.int (cA pa)), .val (.int (cS pa 16)), .val (.int (cS pa 32)), .val (.int (cA pb)), .val (.int (cS pa 16)), .val (.int (cS pb 32)), .unset, .unset, .unset, .unset, .unset] rfl ?_
      refine Own.iload W0 at_80 82 rfl fl rfl ?_
      refine Own.bipush W0 at_82 84 rfl (64 : Int32) rfl ?_
      refine Own.iand W0 at_84 85 rfl ?_
      by_cases f2 : (fl &&& (64 : Int32)) = (0 : Int32)
      · skip
        refine Own.ifYes W0 at_85 92 (XT.i0_eq_t f2) (by decide) (by decide) ?_
        exact J (cA pb) (cS pa 16) (cS pb 32) (r16A pb) (r16S pa 16) (r16S pb 32)
      · skip
        refine Own.ifNo W0 at_85 88 (XT.i0_eq_f f2) rfl ?_
        refine Own.iload W0 at_88 90 rfl (cS pa 32) rfl ?_
        refine Own.istore W0 at_90 92 rfl #[.val (.long pa), .second, .val (.long pb), .second, .val (.int fl), .val (.int (fA fl)), .val (.int (fB fl)), .val (.int (cA pa)), .val (.int (cS pa 16)), .val (.int (cS pa 32)), .val (.int (cA pb)), .val (.int (cS pa 16)), .val (.int (cS pa 32)), .unset, .unset, .unset, .unset, .unset] rfl ?_
        exact J (cA pb) (cS pa 16) (cS pa 32) (r16A pb) (r16S pa 16) (r16S pa 32)
  · skip
    refine Own.ifNo W0 at_61 64 (XT.i0_eq_f f0) rfl ?_
    refine Own.iload W0 at_64 66 rfl (cA pa) rfl ?_
    refine Own.istore W0 at_66 68 rfl #[.val (.long pa), .second, .val (.long pb), .second, .val (.int fl), .val (.int (fA fl)), .val (.int (fB fl)), .val (.int (cA pa)), .val (.int (cS pa 16)), .val (.int (cS pa 32)), .val (.int (cA pa)), .val (.int (cS pb 16)), .val (.int (cS pb 32)), .unset, .unset, .unset, .unset, .unset] rfl ?_
    refine Own.iload W0 at_68 70 rfl fl rfl ?_
    refine Own.bipush W0 at_70 72 rfl (32 : Int32) rfl ?_
    refine Own.iand W0 at_72 73 rfl ?_
    by_cases f1 : (fl &&& (32 : Int32)) = (0 : Int32)
    · skip
      refine Own.ifYes W0 at_73 80 (XT.i0_eq_t f1) (by decide) (by decide) ?_
      refine Own.iload W0 at_80 82 rfl fl rfl ?_
      refine Own.bipush W0 at_82 84 rfl (64 : Int32) rfl ?_
      refine Own.iand W0 at_84 85 rfl ?_
      by_cases f2 : (fl &&& (64 : Int32)) = (0 : Int32)
      · skip
        refine Own.ifYes W0 at_85 92 (XT.i0_eq_t f2) (by decide) (by decide) ?_
        exact J (cA pa) (cS pb 16) (cS pb 32) (r16A pa) (r16S pb 16) (r16S pb 32)
      · skip
        refine Own.ifNo W0 at_85 88 (XT.i0_eq_f f2) rfl ?_
        refine Own.iload W0 at_88 90 rfl (cS pa 32) rfl ?_
        refine Own.istore W0 at_90 92 rfl #[.val (.long pa), .second, .val (.long pb), .second, .val (.int fl), .val (.int (fA fl)), .val (.int (fB fl)), .val (.int (cA pa)), .val (.int (cS pa 16)), .val (.int (cS pa 32)), .val (.int (cA pa)), .val (.int (cS pb 16)), .val (.int (cS pa 32)), .unset, .unset, .unset, .unset, .unset] rfl ?_
        exact J (cA pa) (cS pb 16) (cS pa 32) (r16A pa) (r16S pb 16) (r16S pa 32)
    · skip
      refine Own.ifNo W0 at_73 76 (XT.i0_eq_f f1) rfl ?_
      refine Own.iload W0 at_76 78 rfl (cS pa 16) rfl ?_
      refine Own.istore W0 at_78 80 rfl #[.val (.long pa), .second, .val (.long pb), .second, .val (.int fl), .val (.int (fA fl)), .val (.int (fB fl)), .val (.int (cA pa)), .val (.int (cS pa 16)), .val (.int (cS pa 32)), .val (.int (cA pa)), .val (.int (cS pa 16)), .val (.int (cS pb 32)), .unset, .unset, .unset, .unset, .unset] rfl ?_
      refine Own.iload W0 at_80 82 rfl fl rfl ?_
      refine Own.bipush W0 at_82 84 rfl (64 : Int32) rfl ?_
      refine Own.iand W0 at_84 85 rfl ?_
      by_cases f2 : (fl &&& (64 : Int32)) = (0 : Int32)
      · skip
        refine Own.ifYes W0 at_85 92 (XT.i0_eq_t f2) (by decide) (by decide) ?_
        exact J (cA pa) (cS pa 16) (cS pb 32) (r16A pa) (r16S pa 16) (r16S pb 32)
      · skip
        refine Own.ifNo W0 at_85 88 (XT.i0_eq_f f2) rfl ?_
        refine Own.iload W0 at_88 90 rfl (cS pa 32) rfl ?_
        refine Own.istore W0 at_90 92 rfl #[.val (.long pa), .second, .val (.long pb), .second, .val (.int fl), .val (.int (fA fl)), .val (.int (fB fl)), .val (.int (cA pa)), .val (.int (cS pa 16)), .val (.int (cS pa 32)), .val (.int (cA pa)), .val (.int (cS pa 16)), .val (.int (cS pa 32)), .unset, .unset, .unset, .unset, .unset] rfl ?_
        exact J (cA pa) (cS pa 16) (cS pa 32) (r16A pa) (r16S pa 16) (r16S pa 32)
theorem elW {G : Own.Gl} (hw : ∀ d ∈ tables_1, d.before G.a0 G.Z = true) : EW G.Z G.a0 consts_1 := (EW.cons (tw hw 18 rfl) (by decide +kernel) EW.nil)
theorem enW2 {G : Own.Gl} (hw : ∀ d ∈ tables_1, d.before G.a0 G.Z = true) : Own.EN G.Z G.a0 consts_1 2 := (Own.EN.cons (tw hw 18 rfl) (by decide +kernel) (by decide +kernel) Own.EN.nil)
theorem enW4 {G : Own.Gl} (hw : ∀ d ∈ tables_1, d.before G.a0 G.Z = true) : Own.EN G.Z G.a0 consts_1 4 := (Own.EN.cons (tw hw 18 rfl) (by decide +kernel) (by decide +kernel) Own.EN.nil)
theorem enW6 {G : Own.Gl} (hw : ∀ d ∈ tables_1, d.before G.a0 G.Z = true) : Own.EN G.Z G.a0 consts_1 6 := (Own.EN.cons (tw hw 18 rfl) (by decide +kernel) (by decide +kernel) Own.EN.nil)
set_option maxRecDepth 65536 in
set_option maxHeartbeats 40000000 in
theorem comes_1 {Post : Tables → Env → Array Value → State → Outcome → State → Prop} (hpost : ∀ tb e args s v u, (limb_1_1.after args s (.returned v) u = true ∧ limb_1_2.after args s (.returned v) u = true ∧ True) → ReturnedEndW s (.returned v) u (Jvm.fieldLocs frame_1_writes args s ++ Jvm.arrayLocs frame_1_arrays args s ++ Jvm.staticLocs frame_1_statics s) 32 1216 → Post tb e args s (.returned v) u) :
    ArmFor flags0 classFile x code maxLocals ret World_1 tables_1 room_1 Calls_1 rest_1 Pre_1 Post := by
  intro l hfl _ _ p e ha hc hk s m args below hf hA hF happ hP
  obtain ⟨hcalls, hrest, hpre⟩ := hP
  obtain ⟨-, -, -, hnamed, -, -, -, hat⟩ := (Spec.applies_iff hf).mp happ
  obtain ⟨hg, hn⟩ := and_e (Cond.before_iff.mp (show (Jvm.Cond.and given_1 narrow_1).before args s = true from hpre))
  obtain ⟨hcnt, g1⟩ := and_e hg
  obtain ⟨a0, g2⟩ := and_e g1
  obtain ⟨a1, g3⟩ := and_e g2
  have a2 := g3
  obtain ⟨w0, w1, w2, rfl⟩ : ∃ w0 w1 w2 : Value, args = #[w0, w1, w2] := by
    have hs : args.size = 3 := by simpa [Cond.value, given_1] using hcnt
    obtain ⟨L⟩ := args
    match L, hs with
    | [w0, w1, w2], _ => exact ⟨w0, w1, w2, rfl⟩
  have hw := fun d (hd : d ∈ tables_1) => atoms_spec (ws := Jvm.Cond.code x code maxLocals ret :: tables_1) hat d (List.mem_cons_of_mem _ hd)
  have hfit : Fit s := fun {y c} hc i hi => by
    obtain ⟨ha, rfl⟩ := Array.getElem?_eq_some_iff.mp hc
    have q := List.all_eq_true.mp ((Array.all_eq_true_iff_forall_mem.mp hF) _ (Array.getElem_mem ha)) i (List.mem_range.mpr hi)
    simpa [Array.getElem?_eq_getElem hi] using q
  obtain ⟨hsets, hown0⟩ := atoms_of _ (rest_1_c_eq ▸ (show rest_1_c.before _ s = true from hrest))
  obtain ⟨i0, ei0⟩ := isL_v a0
  obtain rfl : w0 = (.long i0) := Option.some.inj ei0
  obtain ⟨i1, ei1⟩ := isL_v a1
  obtain rfl : w1 = (.long i1) := Option.some.inj ei1
  obtain ⟨i2, ei2⟩ := is_v a2
  obtain rfl : w2 = (.int i2) := Option.some.inj ei2
  have n3 := not_v (Cond.before_iff.mp (hsets _ (List.mem_of_getElem? (i := 2) rfl)))
  obtain ⟨cz, ecz⟩ := is_v (Cond.before_iff.mp (hsets _ (List.mem_of_getElem? (i := 1) rfl)))
  have S8 : Sta s s.heap "java/lang/String" "COMPACT_STRINGS" "Z" (.int cz) := Sta.start ecz (Or.inl (hsets _ (List.mem_of_getElem? (i := 0) rfl)))
  have hcz : ¬ (cz = (0 : Int32)) := gotF (Cond.eq_ints ecz (Term.int_eval (0))) n3
  obtain ⟨fm, efm, rfm⟩ := isR_v (Cond.before_iff.mp (hsets _ (List.mem_of_getElem? (i := 8) rfl)))
  have SF : Sta s s.heap "jdk/internal/util/Preconditions" "SIOOBE_FORMATTER" "Ljava/util/function/BiFunction;" fm := Sta.start efm (Or.inl (hsets _ (List.mem_of_getElem? (i := 7) rfl)))
  let G : Own.Gl := (l, s, #[(.long i0), (.long i1), (.int i2)], consts_1, s.heap.size)
  have hw' : ∀ d ∈ tables_1, d.before G.a0 G.Z = true := hw
  have hEL : EW G.Z G.a0 G.EL := elW hw'
  have hcw : Jvm.Lit.compactW.before G.a0 G.Z = true := hsets _ (List.mem_of_getElem? (i := 2) rfl)
  have hCH : CHv G.Z G.EL G.Z.vm G.Z.heap := CHv.start hEL (fun q hq => hcalls.1 q hq) hcw (tw hw' 19 rfl) (tw hw' 5 rfl)
  have TA : Sta s s.heap "java/lang/StringUTF16" "$assertionsDisabled" "Z" (.int 1) := Sta.start (Own.eqI (Cond.before_iff.mp (hsets _ (List.mem_of_getElem? (i := 12) rfl)))) (Or.inl (hsets _ (List.mem_of_getElem? (i := 11) rfl)))
  have TH : Sta s s.heap "java/lang/StringUTF16" "HI_BYTE_SHIFT" "I" (.int 0) := Sta.start (Own.eqI (Cond.before_iff.mp (hsets _ (List.mem_of_getElem? (i := 15) rfl)))) (Or.inl (hsets _ (List.mem_of_getElem? (i := 14) rfl)))
  have TL : Sta s s.heap "java/lang/StringUTF16" "LO_BYTE_SHIFT" "I" (.int 8) := Sta.start (Own.eqI (Cond.before_iff.mp (hsets _ (List.mem_of_getElem? (i := 18) rfl)))) (Or.inl (hsets _ (List.mem_of_getElem? (i := 17) rfl)))
  obtain ⟨n, o, h1, h2, h3, v, L, rfl, ⟨hv, N, -⟩, -, hq⟩ := con_law (G := G) hw' hEL (by show (Own.ST, 7) ∈ consts_1; decide) S8 hcz SF rfm TA TH TL (enW2 hw') (enW4 hw') (enW6 hw') i0 i1 i2 (Old.start s) p e ha hc hk s m _ below hf ((Spec.applies_iff_loose hf).mp happ).1 ⟨rfl, State.Warmed39.refl s, rfl, hCH, fun _ q => nomatch q⟩ trivial
  subst hv
  exact ⟨n, _, h1, h2, h3, hpost _ _ _ _ _ _ ⟨Cond.after_iff.mpr rfl, Cond.after_iff.mpr (eq_i res_at (Term.int_eval (1)) rfl), trivial⟩ ⟨hq.1, hq.2.1, hq.2.2.1, (hq.2.2.2.sift fun y hy => Or.inr (N y hy)).mono (by decide) (by decide)⟩⟩
theorem main_1_1 : Claimed_1_1 := comes_1 fun _ _ _ _ _ _ h hF => ⟨h.1, hF⟩
theorem main_1_2 : Claimed_1_2 := comes_1 fun _ _ _ _ _ _ h hF => ⟨h.2.1, hF⟩
end Jvm.Pilot.@@N@@
namespace Jvm.Pilot.@@N@@
open Jvm Jvm.ClassFile Sem Op Lib Jvm.Free Jvm.Stand Jvm.Pilot.@@N@@.Jvm.D
/-! MADE BY PROGRAM (witnessworld.py) out of the Statement's table words and the real class files: 21 classes; the members and pool entries that the words name. The judged class is class 1, her method 1. -/
namespace start1
open Jvm.ClassFile
def u (s : String) : CpInfo := .utf8 (stringToUtf16 s)
/-- a pool by its gaps: so many unusable entries, then the entry; so many at the end -/
def gap : Nat → List CpInfo → List CpInfo
  | 0, r => r
  | n + 1, r => .unusable :: gap n r
def poolList (es : List (Nat × CpInfo)) (last : Nat) : List CpInfo := es.foldr (fun e r => gap e.1 (e.2 :: r)) (gap last [])
def pool (es : List (Nat × CpInfo)) (last : Nat) : Array CpInfo := ⟨poolList es last⟩
def fileOf (pool : Array CpInfo) (this : Nat) (attrs : Array Attribute := #[]) (ms : Array MethodInfo := #[]) (fl : Nat := 33) (sup : Nat := 0) (ifs : Array Nat := #[]) (fds : Array FieldInfo := #[]) : ClassFile where
  minorVersion := 0
  majorVersion := 65
  constantPool := pool
  accessFlags := fl
  thisClass := this
  superClass := sup
  interfaces := ifs
  fields := fds
  methods := ms
  attributes := attrs
def plain (name : String) (sup : Option ClassId) : Class where
  name := name
  kind := .ordinary
  loader := none
  accessFlags := 33
  super := sup
  interfaces := #[]
  cf := none
  fields := #[]
  methods := #[]
  instanceTypes := #[]
  staticTypes := #[]
  resolved := #[]
  callSites := []
  init := .initialized
  statics := none
  mirror := none

def pool0 : Array CpInfo := pool [(5, u "<init>"), (0, u "()V"), (1, .class_ 10), (1, u "java/lang/Object")] 113

def k0c0 : Code := { maxStack := 0, maxLocals := 1, code := object_method_1_code, exceptionTable := #[], attributes := #[] }
def k0m0 : Method := { name := "<init>", desc := "()V", sig := { parameters := [], returnType := none }, accessFlags := 1, code := some k0c0 }
/-- java/lang/Object -/
def k0 : Class := { plain "java/lang/Object" none with
  accessFlags := 33
  interfaces := #[]
  cf := some (fileOf pool0 8 #[] #[{ accessFlags := 1, nameIndex := 5, descriptorIndex := 6, attributes := #[] }] 33 0 #[] #[])
  fields := #[]
  methods := #[k0m0]
  instanceTypes := #[]
  staticTypes := #[]
  resolved := Array.replicate 124 none
  statics := none }

def pool1 : Array CpInfo := pool [(2, .class_ 4), (1, u "java/lang/Object"), (0, u "<init>"), (0, u "()V"), (0, .methodref 8 9), (0, .class_ 10), (0, .nameAndType 11 12), (0, u "com/example/lopa/lopa/trec/Utf8OrderComparePinLaw"), (0, u "make"), (0, u "(ICCC)Ljava/lang/String;"), (0, .methodref 8 14), (0, .nameAndType 15 16), (0, u "reference"), (0, u "(ICCCICCC)I"), (0, .methodref 18 19), (0, .class_ 20), (0, .nameAndType 21 22), (0, u "com/example/lopa/lopa/trec/Utf8Order"), (0, u "compare"), (0, u "(Ljava/lang/String;Ljava/lang/String;)I"), (0, .methodref 8 24), (0, .nameAndType 25 26), (0, u "sign"), (0, u "(I)I"), (0, .class_ 28), (0, u "java/lang/String"), (0, .methodref 27 30), (0, .nameAndType 5 31), (0, u "([C)V"), (0, .methodref 8 33), (0, .nameAndType 34 35), (0, u "unitOrder"), (0, u "(CC)I"), (0, .integer 55296), (0, .integer 57344), (0, .methodref 8 39), (0, .nameAndType 40 41), (0, u "group"), (0, u "(C)I"), (2, u "law"), (0, u "(JJI)Z")] 3

def k1m0 : Method := { name := "<init>", desc := "()V", sig := { parameters := [], returnType := none }, accessFlags := 1, code := none }
def k1c1 : Code := { maxStack := 8, maxLocals := 18, code := code, exceptionTable := #[], attributes := #[] }
def k1m1 : Method := { name := "law", desc := "(JJI)Z", sig := { parameters := [.long, .long, .int], returnType := some .boolean }, accessFlags := 9, code := some k1c1 }
def k1c2 : Code := { maxStack := 6, maxLocals := 4, code := method_3_code, exceptionTable := #[], attributes := #[] }
def k1m2 : Method := { name := "make", desc := "(ICCC)Ljava/lang/String;", sig := { parameters := [.int, .char, .char, .char], returnType := some (.object "java/lang/String") }, accessFlags := 10, code := some k1c2 }
def k1c3 : Code := { maxStack := 2, maxLocals := 8, code := method_4_code, exceptionTable := #[], attributes := #[] }
def k1m3 : Method := { name := "reference", desc := "(ICCCICCC)I", sig := { parameters := [.int, .char, .char, .char, .int, .char, .char, .char], returnType := some .int }, accessFlags := 10, code := some k1c3 }
def k1c4 : Code := { maxStack := 2, maxLocals := 1, code := method_5_code, exceptionTable := #[], attributes := #[] }
def k1m4 : Method := { name := "group", desc := "(C)I", sig := { parameters := [.char], returnType := some .int }, accessFlags := 10, code := some k1c4 }
def k1c5 : Code := { maxStack := 2, maxLocals := 4, code := method_6_code, exceptionTable := #[], attributes := #[] }
def k1m5 : Method := { name := "unitOrder", desc := "(CC)I", sig := { parameters := [.char, .char], returnType := some .int }, accessFlags := 10, code := some k1c5 }
def k1c6 : Code := { maxStack := 1, maxLocals := 1, code := method_7_code, exceptionTable := #[], attributes := #[] }
def k1m6 : Method := { name := "sign", desc := "(I)I", sig := { parameters := [.int], returnType := some .int }, accessFlags := 10, code := some k1c6 }
/-- com/example/lopa/lopa/trec/Utf8OrderComparePinLaw -/
def k1 : Class := { plain "com/example/lopa/lopa/trec/Utf8OrderComparePinLaw" (some 0) with
  accessFlags := 49
  interfaces := #[]
  cf := some (fileOf pool1 8 #[] #[{ accessFlags := 1, nameIndex := 5, descriptorIndex := 6, attributes := #[] }, { accessFlags := 9, nameIndex := 44, descriptorIndex := 45, attributes := #[] }, { accessFlags := 10, nameIndex := 11, descriptorIndex := 12, attributes := #[] }, { accessFlags := 10, nameIndex := 15, descriptorIndex := 16, attributes := #[] }, { accessFlags := 10, nameIndex := 40, descriptorIndex := 41, attributes := #[] }, { accessFlags := 10, nameIndex := 34, descriptorIndex := 35, attributes := #[] }, { accessFlags := 10, nameIndex := 25, descriptorIndex := 26, attributes := #[] }] 49 2 #[] #[])
  fields := #[]
  methods := #[k1m0, k1m1, k1m2, k1m3, k1m4, k1m5, k1m6]
  instanceTypes := #[]
  staticTypes := #[]
  resolved := Array.replicate 49 none
  statics := none }

def pool2 : Array CpInfo := pool [(1, .class_ 2), (0, u "java/io/Serializable"), (0, .class_ 4), (0, u "java/lang/Object")] 2

/-- java/io/Serializable -/
def k2 : Class := { plain "java/io/Serializable" (some 0) with
  accessFlags := 1537
  interfaces := #[]
  cf := some (fileOf pool2 1 #[] #[] 1537 3 #[] #[])
  fields := #[]
  methods := #[]
  instanceTypes := #[]
  staticTypes := #[]
  resolved := Array.replicate 7 none
  statics := none }

def pool3 : Array CpInfo := pool [(1, .class_ 2), (0, u "java/lang/Comparable"), (0, .class_ 4), (0, u "java/lang/Object")] 7

/-- java/lang/Comparable -/
def k3 : Class := { plain "java/lang/Comparable" (some 0) with
  accessFlags := 1537
  interfaces := #[]
  cf := some (fileOf pool3 1 #[] #[] 1537 3 #[] #[])
  fields := #[]
  methods := #[]
  instanceTypes := #[]
  staticTypes := #[]
  resolved := Array.replicate 12 none
  statics := none }

def pool4 : Array CpInfo := pool [(2, .class_ 4), (1, u "java/lang/CharSequence"), (42, .class_ 48), (0, u "java/lang/CharSequence$1CodePointIterator"), (10, .class_ 60), (0, u "java/lang/CharSequence$1CharIterator"), (5, .class_ 67), (0, u "java/lang/Object")] 63

/-- java/lang/CharSequence -/
def k4 : Class := { plain "java/lang/CharSequence" (some 0) with
  accessFlags := 1537
  interfaces := #[]
  cf := some (fileOf pool4 2 #[.nestMembers #[47, 59]] #[] 1537 66 #[] #[])
  fields := #[]
  methods := #[]
  instanceTypes := #[]
  staticTypes := #[]
  resolved := Array.replicate 131 none
  statics := none }

def pool5 : Array CpInfo := pool [(1, .class_ 2), (0, u "java/lang/constant/Constable"), (0, .class_ 4), (0, u "java/lang/Object")] 6

/-- java/lang/constant/Constable -/
def k5 : Class := { plain "java/lang/constant/Constable" (some 0) with
  accessFlags := 1537
  interfaces := #[]
  cf := some (fileOf pool5 1 #[] #[] 1537 3 #[] #[])
  fields := #[]
  methods := #[]
  instanceTypes := #[]
  staticTypes := #[]
  resolved := Array.replicate 11 none
  statics := none }

def pool6 : Array CpInfo := pool [(1, .class_ 2), (0, u "java/lang/constant/ConstantDesc"), (0, .class_ 4), (0, u "java/lang/Object")] 32

/-- java/lang/constant/ConstantDesc -/
def k6 : Class := { plain "java/lang/constant/ConstantDesc" (some 0) with
  accessFlags := 1537
  interfaces := #[]
  cf := some (fileOf pool6 1 #[] #[] 1537 3 #[] #[])
  fields := #[]
  methods := #[]
  instanceTypes := #[]
  staticTypes := #[]
  resolved := Array.replicate 37 none
  statics := none }

def pool7 : Array CpInfo := pool [(1, .methodref 2 3), (0, .class_ 4), (0, .nameAndType 5 6), (0, u "java/lang/Object"), (0, u "<init>"), (0, u "()V"), (0, .string 8), (0, u ""), (0, .fieldref 10 11), (0, .class_ 12), (0, .nameAndType 13 14), (0, u "java/lang/String"), (0, u "value"), (0, u "[B"), (0, .fieldref 10 16), (0, .nameAndType 17 18), (0, u "coder"), (0, u "B"), (2, u "hash"), (0, u "I"), (2, u "hashIsZero"), (0, u "Z"), (0, .methodref 10 28), (0, .nameAndType 5 29), (0, u "([CIILjava/lang/Void;)V"), (8, .fieldref 10 39), (0, .nameAndType 40 26), (0, u "COMPACT_STRINGS"), (1, .class_ 44), (1, u "java/lang/StringUTF16"), (0, u "compress"), (1, .methodref 42 48), (0, .nameAndType 49 50), (0, u "coderFromArrayLen"), (0, u "([BI)B"), (56, .class_ 109), (1, u "java/lang/StringLatin1"), (32, u "()Z"), (34, .methodref 42 178), (0, .nameAndType 45 179), (0, u "([CII)[B"), (154, u "()I"), (0, .methodref 10 336), (0, .nameAndType 17 337), (0, u "()B"), (25, u "([BI)C"), (27, u "(II)V"), (35, u "(I)C"), (64, .methodref 10 493), (0, .nameAndType 494 142), (0, u "isLatin1"), (0, .methodref 107 496), (0, .nameAndType 497 363), (0, u "charAt"), (0, .methodref 42 496), (2, u "checkIndex"), (5, u "length"), (67, .class_ 576), (0, u "java/lang/CharSequence"), (22, u "CASE_INSENSITIVE_ORDER"), (0, u "Ljava/util/Comparator;"), (409, u "([C)V"), (42, .fieldref 1054 1055), (0, .class_ 1056), (0, .nameAndType 1057 1058), (0, u "jdk/internal/util/Preconditions"), (0, u "SIOOBE_FORMATTER"), (0, u "Ljava/util/function/BiFunction;"), (0, .methodref 1054 1060), (0, .nameAndType 501 1061), (0, u "(IILjava/util/function/BiFunction;)I"), (39, u "serialPersistentFields"), (0, u "[Ljava/io/ObjectStreamField;"), (0, .class_ 1104), (0, u "java/lang/String$CaseInsensitiveComparator"), (1, .class_ 1107), (0, u "java/io/Serializable"), (0, .class_ 1109), (0, u "java/lang/Comparable"), (0, .class_ 1111), (0, u "java/lang/constant/Constable"), (0, .class_ 1113), (0, u "java/lang/constant/ConstantDesc"), (2, u "serialVersionUID"), (0, u "J"), (3, u "REPL"), (0, u "C"), (2, u "LATIN1"), (1, u "UTF16")] 323

def k7m0 : Method := { name := "<init>", desc := "()V", sig := { parameters := [], returnType := none }, accessFlags := 1, code := none }
def k7c1 : Code := { maxStack := 5, maxLocals := 2, code := jdk_42_method_3_code, exceptionTable := #[], attributes := #[] }
def k7m1 : Method := { name := "<init>", desc := "([C)V", sig := { parameters := [(.array .char)], returnType := none }, accessFlags := 1, code := some k7c1 }
def k7c2 : Code := { maxStack := 2, maxLocals := 1, code := jdk_42_method_54_code, exceptionTable := #[], attributes := #[] }
def k7m2 : Method := { name := "length", desc := "()I", sig := { parameters := [], returnType := some .int }, accessFlags := 1, code := some k7c2 }
def k7c3 : Code := { maxStack := 2, maxLocals := 2, code := jdk_42_method_56_code, exceptionTable := #[], attributes := #[] }
def k7m3 : Method := { name := "charAt", desc := "(I)C", sig := { parameters := [.int], returnType := some .char }, accessFlags := 1, code := some k7c3 }
def k7c4 : Code := { maxStack := 4, maxLocals := 6, code := jdk_42_method_149_code, exceptionTable := #[], attributes := #[] }
def k7m4 : Method := { name := "<init>", desc := "([CIILjava/lang/Void;)V", sig := { parameters := [(.array .char), .int, .int, (.object "java/lang/Void")], returnType := none }, accessFlags := 2, code := some k7c4 }
def k7c5 : Code := { maxStack := 1, maxLocals := 1, code := jdk_42_method_152_code, exceptionTable := #[], attributes := #[] }
def k7m5 : Method := { name := "coder", desc := "()B", sig := { parameters := [], returnType := some .byte }, accessFlags := 0, code := some k7c5 }
def k7c6 : Code := { maxStack := 1, maxLocals := 1, code := jdk_42_method_154_code, exceptionTable := #[], attributes := #[] }
def k7m6 : Method := { name := "isLatin1", desc := "()Z", sig := { parameters := [], returnType := some .boolean }, accessFlags := 0, code := some k7c6 }
def k7c7 : Code := { maxStack := 3, maxLocals := 2, code := jdk_42_method_155_code, exceptionTable := #[], attributes := #[] }
def k7m7 : Method := { name := "checkIndex", desc := "(II)V", sig := { parameters := [.int, .int], returnType := none }, accessFlags := 8, code := some k7c7 }
/-- java/lang/String -/
def k7 : Class := { plain "java/lang/String" (some 0) with
  accessFlags := 49
  interfaces := #[2, 3, 4, 5, 6]
  cf := some (fileOf pool7 10 #[.nestMembers #[1103]] #[{ accessFlags := 1, nameIndex := 5, descriptorIndex := 6, attributes := #[] }, { accessFlags := 1, nameIndex := 5, descriptorIndex := 1010, attributes := #[] }, { accessFlags := 1, nameIndex := 507, descriptorIndex := 334, attributes := #[] }, { accessFlags := 1, nameIndex := 497, descriptorIndex := 427, attributes := #[] }, { accessFlags := 2, nameIndex := 5, descriptorIndex := 29, attributes := #[] }, { accessFlags := 0, nameIndex := 17, descriptorIndex := 337, attributes := #[] }, { accessFlags := 0, nameIndex := 494, descriptorIndex := 142, attributes := #[] }, { accessFlags := 8, nameIndex := 501, descriptorIndex := 391, attributes := #[] }] 49 2 #[1106, 1108, 575, 1110, 1112] #[{ accessFlags := 18, nameIndex := 13, descriptorIndex := 14, attributes := #[] }, { accessFlags := 18, nameIndex := 17, descriptorIndex := 18, attributes := #[] }, { accessFlags := 2, nameIndex := 21, descriptorIndex := 22, attributes := #[] }, { accessFlags := 2, nameIndex := 25, descriptorIndex := 26, attributes := #[] }, { accessFlags := 26, nameIndex := 1116, descriptorIndex := 1117, attributes := #[] }, { accessFlags := 24, nameIndex := 40, descriptorIndex := 26, attributes := #[] }, { accessFlags := 26, nameIndex := 1101, descriptorIndex := 1102, attributes := #[] }, { accessFlags := 26, nameIndex := 1121, descriptorIndex := 1122, attributes := #[] }, { accessFlags := 25, nameIndex := 599, descriptorIndex := 600, attributes := #[] }, { accessFlags := 24, nameIndex := 1125, descriptorIndex := 18, attributes := #[] }, { accessFlags := 24, nameIndex := 1127, descriptorIndex := 18, attributes := #[] }])
  fields := #[{ name := "value", type := (.array .byte), accessFlags := 18, slot := 0, constantValue := 0 }, { name := "coder", type := .byte, accessFlags := 18, slot := 1, constantValue := 0 }, { name := "hash", type := .int, accessFlags := 2, slot := 2, constantValue := 0 }, { name := "hashIsZero", type := .boolean, accessFlags := 2, slot := 3, constantValue := 0 }, { name := "serialVersionUID", type := .long, accessFlags := 26, slot := 0, constantValue := 0 }, { name := "COMPACT_STRINGS", type := .boolean, accessFlags := 24, slot := 1, constantValue := 0 }, { name := "serialPersistentFields", type := (.array (.object "java/io/ObjectStreamField")), accessFlags := 26, slot := 2, constantValue := 0 }, { name := "REPL", type := .char, accessFlags := 26, slot := 3, constantValue := 0 }, { name := "CASE_INSENSITIVE_ORDER", type := (.object "java/util/Comparator"), accessFlags := 25, slot := 4, constantValue := 0 }, { name := "LATIN1", type := .byte, accessFlags := 24, slot := 5, constantValue := 0 }, { name := "UTF16", type := .byte, accessFlags := 24, slot := 6, constantValue := 0 }]
  methods := #[k7m0, k7m1, k7m2, k7m3, k7m4, k7m5, k7m6, k7m7]
  instanceTypes := #[(.array .byte), .byte, .int, .boolean]
  staticTypes := #[.long, .boolean, (.array (.object "java/io/ObjectStreamField")), .char, (.object "java/util/Comparator"), .byte, .byte]
  resolved := Array.replicate 1451 none
  statics := some 0 }

def pool8 : Array CpInfo := pool [(2, .class_ 4), (1, u "java/lang/Object"), (0, u "<init>"), (0, u "()V"), (0, .methodref 8 9), (0, .class_ 10), (0, .nameAndType 11 12), (0, u "java/lang/String"), (0, u "length"), (0, u "()I"), (0, .methodref 14 15), (0, .class_ 16), (0, .nameAndType 17 18), (0, u "java/lang/Math"), (0, u "min"), (0, u "(II)I"), (0, .methodref 8 20), (0, .nameAndType 21 22), (0, u "charAt"), (0, u "(I)C"), (0, .methodref 24 25), (0, .class_ 26), (0, .nameAndType 27 28), (0, u "com/example/lopa/lopa/trec/Utf8Order"), (0, u "codePointRank"), (0, u "(C)I"), (0, .integer 57344), (0, .integer 55296), (0, u "SURROGATE_FIRST"), (0, u "C"), (1, u "SURROGATE_END"), (2, u "compare"), (0, u "(Ljava/lang/String;Ljava/lang/String;)I")] 3

def k8m0 : Method := { name := "<init>", desc := "()V", sig := { parameters := [], returnType := none }, accessFlags := 2, code := none }
def k8c1 : Code := { maxStack := 2, maxLocals := 6, code := prog_28_method_2_code, exceptionTable := #[], attributes := #[] }
def k8m1 : Method := { name := "compare", desc := "(Ljava/lang/String;Ljava/lang/String;)I", sig := { parameters := [(.object "java/lang/String"), (.object "java/lang/String")], returnType := some .int }, accessFlags := 9, code := some k8c1 }
def k8c2 : Code := { maxStack := 2, maxLocals := 2, code := prog_28_method_3_code, exceptionTable := #[], attributes := #[] }
def k8m2 : Method := { name := "codePointRank", desc := "(C)I", sig := { parameters := [.char], returnType := some .int }, accessFlags := 10, code := some k8c2 }
/-- com/example/lopa/lopa/trec/Utf8Order -/
def k8 : Class := { plain "com/example/lopa/lopa/trec/Utf8Order" (some 0) with
  accessFlags := 49
  interfaces := #[]
  cf := some (fileOf pool8 24 #[] #[{ accessFlags := 2, nameIndex := 5, descriptorIndex := 6, attributes := #[] }, { accessFlags := 9, nameIndex := 37, descriptorIndex := 38, attributes := #[] }, { accessFlags := 10, nameIndex := 27, descriptorIndex := 28, attributes := #[] }] 49 2 #[] #[{ accessFlags := 26, nameIndex := 31, descriptorIndex := 32, attributes := #[] }, { accessFlags := 26, nameIndex := 34, descriptorIndex := 32, attributes := #[] }])
  fields := #[{ name := "SURROGATE_FIRST", type := .char, accessFlags := 26, slot := 0, constantValue := 0 }, { name := "SURROGATE_END", type := .char, accessFlags := 26, slot := 1, constantValue := 0 }]
  methods := #[k8m0, k8m1, k8m2]
  instanceTypes := #[]
  staticTypes := #[.char, .char]
  resolved := Array.replicate 42 none
  statics := none }

def pool9 : Array CpInfo := pool [(1, .class_ 2), (0, u "java/lang/Math"), (1, .class_ 6), (1, u "java/lang/Object"), (0, u "<init>"), (0, u "()V"), (89, .class_ 100), (1, u "java/lang/Math$RandomNumberGeneratorHolder"), (71, u "negativeZeroFloatBits"), (0, u "J"), (2, u "negativeZeroDoubleBits"), (24, u "min"), (43, u "$assertionsDisabled"), (0, u "Z"), (88, u "(II)I"), (2, u "twoToTheDoubleScaleDown"), (0, u "D"), (4, u "twoToTheDoubleScaleUp"), (9, u "E"), (3, u "PI"), (2, u "TAU"), (2, u "DEGREES_TO_RADIANS"), (0, u "RADIANS_TO_DEGREES")] 94

def k9m0 : Method := { name := "<init>", desc := "()V", sig := { parameters := [], returnType := none }, accessFlags := 2, code := none }
def k9c1 : Code := { maxStack := 2, maxLocals := 2, code := jdk_29_method_69_code, exceptionTable := #[], attributes := #[] }
def k9m1 : Method := { name := "min", desc := "(II)I", sig := { parameters := [.int, .int], returnType := some .int }, accessFlags := 9, code := some k9c1 }
/-- java/lang/Math -/
def k9 : Class := { plain "java/lang/Math" (some 0) with
  accessFlags := 49
  interfaces := #[]
  cf := some (fileOf pool9 1 #[.nestMembers #[98]] #[{ accessFlags := 2, nameIndex := 7, descriptorIndex := 8, attributes := #[] }, { accessFlags := 9, nameIndex := 201, descriptorIndex := 335, attributes := #[] }] 49 4 #[] #[{ accessFlags := 25, nameIndex := 354, descriptorIndex := 339, attributes := #[] }, { accessFlags := 25, nameIndex := 358, descriptorIndex := 339, attributes := #[] }, { accessFlags := 25, nameIndex := 361, descriptorIndex := 339, attributes := #[] }, { accessFlags := 26, nameIndex := 364, descriptorIndex := 339, attributes := #[] }, { accessFlags := 26, nameIndex := 365, descriptorIndex := 339, attributes := #[] }, { accessFlags := 26, nameIndex := 172, descriptorIndex := 173, attributes := #[] }, { accessFlags := 26, nameIndex := 176, descriptorIndex := 173, attributes := #[] }, { accessFlags := 8, nameIndex := 344, descriptorIndex := 339, attributes := #[] }, { accessFlags := 8, nameIndex := 338, descriptorIndex := 339, attributes := #[] }, { accessFlags := 4120, nameIndex := 245, descriptorIndex := 246, attributes := #[] }])
  fields := #[{ name := "E", type := .double, accessFlags := 25, slot := 0, constantValue := 0 }, { name := "PI", type := .double, accessFlags := 25, slot := 1, constantValue := 0 }, { name := "TAU", type := .double, accessFlags := 25, slot := 2, constantValue := 0 }, { name := "DEGREES_TO_RADIANS", type := .double, accessFlags := 26, slot := 3, constantValue := 0 }, { name := "RADIANS_TO_DEGREES", type := .double, accessFlags := 26, slot := 4, constantValue := 0 }, { name := "negativeZeroFloatBits", type := .long, accessFlags := 26, slot := 5, constantValue := 0 }, { name := "negativeZeroDoubleBits", type := .long, accessFlags := 26, slot := 6, constantValue := 0 }, { name := "twoToTheDoubleScaleUp", type := .double, accessFlags := 8, slot := 7, constantValue := 0 }, { name := "twoToTheDoubleScaleDown", type := .double, accessFlags := 8, slot := 8, constantValue := 0 }, { name := "$assertionsDisabled", type := .boolean, accessFlags := 4120, slot := 9, constantValue := 0 }]
  methods := #[k9m0, k9m1]
  instanceTypes := #[]
  staticTypes := #[.double, .double, .double, .double, .double, .long, .long, .double, .double, .boolean]
  resolved := Array.replicate 460 none
  statics := none }

def pool10 : Array CpInfo := pool [(3, .class_ 4), (0, u "java/lang/String"), (1, .class_ 8), (1, u "java/lang/Object"), (0, u "<init>"), (0, u "()V"), (0, .methodref 12 13), (0, .class_ 14), (0, .nameAndType 15 16), (0, u "java/lang/StringUTF16"), (0, u "newBytesLength"), (0, u "(I)I"), (3, .integer 1073741823), (23, .fieldref 12 45), (0, .nameAndType 46 47), (0, u "$assertionsDisabled"), (0, u "Z"), (0, .methodref 12 49), (0, .nameAndType 50 51), (0, u "length"), (0, u "([B)I"), (7, .fieldref 12 60), (0, .nameAndType 61 62), (0, u "HI_BYTE_SHIFT"), (0, u "I"), (0, .fieldref 12 64), (0, .nameAndType 65 62), (0, u "LO_BYTE_SHIFT"), (1, .methodref 12 68), (0, .nameAndType 69 70), (0, u "checkIndex"), (0, u "(I[B)V"), (0, .methodref 12 72), (0, .nameAndType 73 74), (0, u "getChar"), (0, u "([BI)C"), (32, .methodref 12 108), (0, .nameAndType 109 110), (0, u "newBytesFor"), (0, u "(I)[B"), (0, .methodref 12 112), (0, .nameAndType 113 114), (0, u "putChar"), (0, u "([BII)V"), (0, .methodref 12 116), (0, .nameAndType 117 118), (0, u "compress"), (0, u "([CI[BII)I"), (0, .methodref 12 120), (0, .nameAndType 121 122), (0, u "toBytes"), (0, u "([CII)[B"), (138, u "coderFromArrayLen"), (0, u "([BI)B"), (106, .class_ 371), (1, u "java/lang/StringUTF16$LinesSpliterator"), (20, u "charAt"), (21, .methodref 3 415), (0, .nameAndType 69 416), (0, u "(II)V"), (13, u "MAX_LENGTH"), (196, .class_ 628), (0, u "java/lang/StringUTF16$CodePointsSpliterator"), (0, .class_ 630), (0, u "java/lang/StringUTF16$CharsSpliterator")] 4

def k10m0 : Method := { name := "<init>", desc := "()V", sig := { parameters := [], returnType := none }, accessFlags := 0, code := none }
def k10c1 : Code := { maxStack := 1, maxLocals := 1, code := jdk_52_method_2_code, exceptionTable := #[], attributes := #[] }
def k10m1 : Method := { name := "newBytesFor", desc := "(I)[B", sig := { parameters := [.int], returnType := some (.array .byte) }, accessFlags := 9, code := some k10c1 }
def k10c2 : Code := { maxStack := 4, maxLocals := 1, code := jdk_52_method_3_code, exceptionTable := #[], attributes := #[] }
def k10m2 : Method := { name := "newBytesLength", desc := "(I)I", sig := { parameters := [.int], returnType := some .int }, accessFlags := 9, code := some k10c2 }
def k10c3 : Code := { maxStack := 4, maxLocals := 3, code := jdk_52_method_4_code, exceptionTable := #[], attributes := #[] }
def k10m3 : Method := { name := "putChar", desc := "([BII)V", sig := { parameters := [(.array .byte), .int, .int], returnType := none }, accessFlags := 8, code := some k10c3 }
def k10c4 : Code := { maxStack := 3, maxLocals := 2, code := jdk_52_method_5_code, exceptionTable := #[], attributes := #[] }
def k10m4 : Method := { name := "getChar", desc := "([BI)C", sig := { parameters := [(.array .byte), .int], returnType := some .char }, accessFlags := 8, code := some k10c4 }
def k10c5 : Code := { maxStack := 2, maxLocals := 1, code := jdk_52_method_6_code, exceptionTable := #[], attributes := #[] }
def k10m5 : Method := { name := "length", desc := "([B)I", sig := { parameters := [(.array .byte)], returnType := some .int }, accessFlags := 9, code := some k10c5 }
def k10c6 : Code := { maxStack := 4, maxLocals := 5, code := jdk_52_method_14_code, exceptionTable := #[], attributes := #[] }
def k10m6 : Method := { name := "toBytes", desc := "([CII)[B", sig := { parameters := [(.array .char), .int, .int], returnType := some (.array .byte) }, accessFlags := 9, code := some k10c6 }
def k10c7 : Code := { maxStack := 2, maxLocals := 2, code := jdk_52_method_15_code, exceptionTable := #[], attributes := #[] }
def k10m7 : Method := { name := "coderFromArrayLen", desc := "([BI)B", sig := { parameters := [(.array .byte), .int], returnType := some .byte }, accessFlags := 8, code := some k10c7 }
def k10c8 : Code := { maxStack := 5, maxLocals := 6, code := jdk_52_method_16_code, exceptionTable := #[], attributes := #[] }
def k10m8 : Method := { name := "compress", desc := "([CII)[B", sig := { parameters := [(.array .char), .int, .int], returnType := some (.array .byte) }, accessFlags := 9, code := some k10c8 }
def k10c9 : Code := { maxStack := 3, maxLocals := 7, code := jdk_52_method_21_code, exceptionTable := #[], attributes := #[] }
def k10m9 : Method := { name := "compress", desc := "([CI[BII)I", sig := { parameters := [(.array .char), .int, (.array .byte), .int, .int], returnType := some .int }, accessFlags := 9, code := some k10c9 }
def k10c10 : Code := { maxStack := 2, maxLocals := 2, code := jdk_52_method_83_code, exceptionTable := #[], attributes := #[] }
def k10m10 : Method := { name := "charAt", desc := "([BI)C", sig := { parameters := [(.array .byte), .int], returnType := some .char }, accessFlags := 9, code := some k10c10 }
def k10c11 : Code := { maxStack := 2, maxLocals := 2, code := jdk_52_method_91_code, exceptionTable := #[], attributes := #[] }
def k10m11 : Method := { name := "checkIndex", desc := "(I[B)V", sig := { parameters := [.int, (.array .byte)], returnType := none }, accessFlags := 9, code := some k10c11 }
/-- java/lang/StringUTF16 -/
def k10 : Class := { plain "java/lang/StringUTF16" (some 0) with
  accessFlags := 48
  interfaces := #[]
  cf := some (fileOf pool10 12 #[.nestMembers #[627, 629, 369]] #[{ accessFlags := 0, nameIndex := 9, descriptorIndex := 10, attributes := #[] }, { accessFlags := 9, nameIndex := 109, descriptorIndex := 110, attributes := #[] }, { accessFlags := 9, nameIndex := 15, descriptorIndex := 16, attributes := #[] }, { accessFlags := 8, nameIndex := 113, descriptorIndex := 114, attributes := #[] }, { accessFlags := 8, nameIndex := 73, descriptorIndex := 74, attributes := #[] }, { accessFlags := 9, nameIndex := 50, descriptorIndex := 51, attributes := #[] }, { accessFlags := 9, nameIndex := 121, descriptorIndex := 122, attributes := #[] }, { accessFlags := 8, nameIndex := 261, descriptorIndex := 262, attributes := #[] }, { accessFlags := 9, nameIndex := 117, descriptorIndex := 122, attributes := #[] }, { accessFlags := 9, nameIndex := 117, descriptorIndex := 118, attributes := #[] }, { accessFlags := 9, nameIndex := 392, descriptorIndex := 74, attributes := #[] }, { accessFlags := 9, nameIndex := 69, descriptorIndex := 70, attributes := #[] }] 48 6 #[] #[{ accessFlags := 26, nameIndex := 61, descriptorIndex := 62, attributes := #[] }, { accessFlags := 26, nameIndex := 65, descriptorIndex := 62, attributes := #[] }, { accessFlags := 24, nameIndex := 430, descriptorIndex := 62, attributes := #[] }, { accessFlags := 4120, nameIndex := 46, descriptorIndex := 47, attributes := #[] }])
  fields := #[{ name := "HI_BYTE_SHIFT", type := .int, accessFlags := 26, slot := 0, constantValue := 0 }, { name := "LO_BYTE_SHIFT", type := .int, accessFlags := 26, slot := 1, constantValue := 0 }, { name := "MAX_LENGTH", type := .int, accessFlags := 24, slot := 2, constantValue := 0 }, { name := "$assertionsDisabled", type := .boolean, accessFlags := 4120, slot := 3, constantValue := 0 }]
  methods := #[k10m0, k10m1, k10m2, k10m3, k10m4, k10m5, k10m6, k10m7, k10m8, k10m9, k10m10, k10m11]
  instanceTypes := #[]
  staticTypes := #[.int, .int, .int, .boolean]
  resolved := Array.replicate 635 none
  statics := some 1 }

def pool11 : Array CpInfo := pool [(1, .class_ 2), (0, u "java/lang/String"), (1, .class_ 6), (1, u "java/lang/Object"), (0, u "<init>"), (0, u "()V"), (0, .methodref 1 10), (0, .nameAndType 11 12), (0, u "checkIndex"), (0, u "(II)V"), (1, .class_ 16), (1, u "java/lang/StringLatin1"), (36, u "([BI)C"), (67, u "$assertionsDisabled"), (0, u "Z"), (98, .class_ 223), (1, u "java/lang/StringLatin1$LinesSpliterator"), (28, u "charAt"), (137, .class_ 391), (0, u "java/lang/StringLatin1$CharsSpliterator")] 3

def k11m0 : Method := { name := "<init>", desc := "()V", sig := { parameters := [], returnType := none }, accessFlags := 0, code := none }
def k11c1 : Code := { maxStack := 2, maxLocals := 2, code := jdk_43_method_2_code, exceptionTable := #[], attributes := #[] }
def k11m1 : Method := { name := "charAt", desc := "([BI)C", sig := { parameters := [(.array .byte), .int], returnType := some .char }, accessFlags := 9, code := some k11c1 }
/-- java/lang/StringLatin1 -/
def k11 : Class := { plain "java/lang/StringLatin1" (some 0) with
  accessFlags := 48
  interfaces := #[]
  cf := some (fileOf pool11 14 #[.nestMembers #[390, 221]] #[{ accessFlags := 0, nameIndex := 7, descriptorIndex := 8, attributes := #[] }, { accessFlags := 9, nameIndex := 252, descriptorIndex := 53, attributes := #[] }] 48 4 #[] #[{ accessFlags := 4120, nameIndex := 121, descriptorIndex := 122, attributes := #[] }])
  fields := #[{ name := "$assertionsDisabled", type := .boolean, accessFlags := 4120, slot := 0, constantValue := 0 }]
  methods := #[k11m0, k11m1]
  instanceTypes := #[]
  staticTypes := #[.boolean]
  resolved := Array.replicate 395 none
  statics := none }

def pool12 : Array CpInfo := pool [(2, .class_ 4), (1, u "java/lang/Object"), (0, u "<init>"), (0, u "()V"), (17, .class_ 26), (1, u "jdk/internal/util/Preconditions"), (6, u "checkIndex"), (21, .class_ 56), (0, u "jdk/internal/util/Preconditions$4"), (57, .class_ 115), (0, u "jdk/internal/util/Preconditions$1"), (7, u "SIOOBE_FORMATTER"), (0, u "Ljava/util/function/BiFunction;"), (0, .class_ 126), (0, u "jdk/internal/util/Preconditions$2"), (3, u "AIOOBE_FORMATTER"), (0, .class_ 132), (0, u "jdk/internal/util/Preconditions$3"), (3, u "IOOBE_FORMATTER"), (41, u "(IILjava/util/function/BiFunction;)I")] 15

def k12m0 : Method := { name := "<init>", desc := "()V", sig := { parameters := [], returnType := none }, accessFlags := 1, code := none }
def k12c1 : Code := { maxStack := 3, maxLocals := 3, code := jdk_41_method_11_code, exceptionTable := #[], attributes := #[] }
def k12m1 : Method := { name := "checkIndex", desc := "(IILjava/util/function/BiFunction;)I", sig := { parameters := [.int, .int, (.object "java/util/function/BiFunction")], returnType := some .int }, accessFlags := 9, code := some k12c1 }
/-- jdk/internal/util/Preconditions -/
def k12 : Class := { plain "jdk/internal/util/Preconditions" (some 0) with
  accessFlags := 33
  interfaces := #[]
  cf := some (fileOf pool12 24 #[.nestMembers #[55, 131, 125, 114]] #[{ accessFlags := 1, nameIndex := 5, descriptorIndex := 6, attributes := #[] }, { accessFlags := 9, nameIndex := 33, descriptorIndex := 178, attributes := #[] }] 33 2 #[] #[{ accessFlags := 25, nameIndex := 123, descriptorIndex := 124, attributes := #[] }, { accessFlags := 25, nameIndex := 130, descriptorIndex := 124, attributes := #[] }, { accessFlags := 25, nameIndex := 136, descriptorIndex := 124, attributes := #[] }])
  fields := #[{ name := "SIOOBE_FORMATTER", type := (.object "java/util/function/BiFunction"), accessFlags := 25, slot := 0, constantValue := 0 }, { name := "AIOOBE_FORMATTER", type := (.object "java/util/function/BiFunction"), accessFlags := 25, slot := 1, constantValue := 0 }, { name := "IOOBE_FORMATTER", type := (.object "java/util/function/BiFunction"), accessFlags := 25, slot := 2, constantValue := 0 }]
  methods := #[k12m0, k12m1]
  instanceTypes := #[]
  staticTypes := #[(.object "java/util/function/BiFunction"), (.object "java/util/function/BiFunction"), (.object "java/util/function/BiFunction")]
  resolved := Array.replicate 194 none
  statics := some 2 }

def pool13 : Array CpInfo := pool [(9, u "<init>"), (6, .class_ 18), (1, u "java/lang/Object"), (0, u "()V"), (1, .class_ 23), (1, u "jdk/internal/util/ArraysSupport"), (0, u "LOG2_ARRAY_LONG_INDEX_SCALE"), (0, u "I"), (2, u "U"), (0, u "Ljdk/internal/misc/Unsafe;"), (8, u "BIG_ENDIAN"), (0, u "Z"), (8, u "LOG2_BYTE_BIT_SIZE"), (4, u "LOG2_ARRAY_INT_INDEX_SCALE"), (54, u "JLA"), (0, u "Ljdk/internal/access/JavaLangAccess;"), (11, u "LOG2_ARRAY_BOOLEAN_INDEX_SCALE"), (9, u "LOG2_ARRAY_BYTE_INDEX_SCALE"), (5, u "LOG2_ARRAY_CHAR_INDEX_SCALE"), (5, u "LOG2_ARRAY_SHORT_INDEX_SCALE"), (18, u "LOG2_ARRAY_FLOAT_INDEX_SCALE"), (24, u "LOG2_ARRAY_DOUBLE_INDEX_SCALE"), (89, u "T_BOOLEAN"), (2, u "T_CHAR"), (1, u "T_FLOAT"), (1, u "T_DOUBLE"), (1, u "T_BYTE"), (1, u "T_SHORT"), (1, u "T_INT"), (1, u "T_LONG"), (1, u "SOFT_MAX_ARRAY_LENGTH")] 83

def k13m0 : Method := { name := "<init>", desc := "()V", sig := { parameters := [], returnType := none }, accessFlags := 2, code := none }
/-- jdk/internal/util/ArraysSupport -/
def k13 : Class := { plain "jdk/internal/util/ArraysSupport" (some 0) with
  accessFlags := 33
  interfaces := #[]
  cf := some (fileOf pool13 21 #[] #[{ accessFlags := 2, nameIndex := 9, descriptorIndex := 19, attributes := #[] }] 33 16 #[] #[{ accessFlags := 24, nameIndex := 28, descriptorIndex := 29, attributes := #[] }, { accessFlags := 26, nameIndex := 38, descriptorIndex := 39, attributes := #[] }, { accessFlags := 25, nameIndex := 121, descriptorIndex := 25, attributes := #[] }, { accessFlags := 25, nameIndex := 131, descriptorIndex := 25, attributes := #[] }, { accessFlags := 25, nameIndex := 137, descriptorIndex := 25, attributes := #[] }, { accessFlags := 25, nameIndex := 143, descriptorIndex := 25, attributes := #[] }, { accessFlags := 25, nameIndex := 53, descriptorIndex := 25, attributes := #[] }, { accessFlags := 25, nameIndex := 24, descriptorIndex := 25, attributes := #[] }, { accessFlags := 25, nameIndex := 162, descriptorIndex := 25, attributes := #[] }, { accessFlags := 25, nameIndex := 187, descriptorIndex := 25, attributes := #[] }, { accessFlags := 26, nameIndex := 48, descriptorIndex := 25, attributes := #[] }, { accessFlags := 25, nameIndex := 277, descriptorIndex := 25, attributes := #[] }, { accessFlags := 25, nameIndex := 280, descriptorIndex := 25, attributes := #[] }, { accessFlags := 25, nameIndex := 282, descriptorIndex := 25, attributes := #[] }, { accessFlags := 25, nameIndex := 284, descriptorIndex := 25, attributes := #[] }, { accessFlags := 25, nameIndex := 286, descriptorIndex := 25, attributes := #[] }, { accessFlags := 25, nameIndex := 288, descriptorIndex := 25, attributes := #[] }, { accessFlags := 25, nameIndex := 290, descriptorIndex := 25, attributes := #[] }, { accessFlags := 25, nameIndex := 292, descriptorIndex := 25, attributes := #[] }, { accessFlags := 26, nameIndex := 108, descriptorIndex := 109, attributes := #[] }, { accessFlags := 25, nameIndex := 294, descriptorIndex := 25, attributes := #[] }])
  fields := #[{ name := "U", type := (.object "jdk/internal/misc/Unsafe"), accessFlags := 24, slot := 0, constantValue := 0 }, { name := "BIG_ENDIAN", type := .boolean, accessFlags := 26, slot := 1, constantValue := 0 }, { name := "LOG2_ARRAY_BOOLEAN_INDEX_SCALE", type := .int, accessFlags := 25, slot := 2, constantValue := 0 }, { name := "LOG2_ARRAY_BYTE_INDEX_SCALE", type := .int, accessFlags := 25, slot := 3, constantValue := 0 }, { name := "LOG2_ARRAY_CHAR_INDEX_SCALE", type := .int, accessFlags := 25, slot := 4, constantValue := 0 }, { name := "LOG2_ARRAY_SHORT_INDEX_SCALE", type := .int, accessFlags := 25, slot := 5, constantValue := 0 }, { name := "LOG2_ARRAY_INT_INDEX_SCALE", type := .int, accessFlags := 25, slot := 6, constantValue := 0 }, { name := "LOG2_ARRAY_LONG_INDEX_SCALE", type := .int, accessFlags := 25, slot := 7, constantValue := 0 }, { name := "LOG2_ARRAY_FLOAT_INDEX_SCALE", type := .int, accessFlags := 25, slot := 8, constantValue := 0 }, { name := "LOG2_ARRAY_DOUBLE_INDEX_SCALE", type := .int, accessFlags := 25, slot := 9, constantValue := 0 }, { name := "LOG2_BYTE_BIT_SIZE", type := .int, accessFlags := 26, slot := 10, constantValue := 0 }, { name := "T_BOOLEAN", type := .int, accessFlags := 25, slot := 11, constantValue := 0 }, { name := "T_CHAR", type := .int, accessFlags := 25, slot := 12, constantValue := 0 }, { name := "T_FLOAT", type := .int, accessFlags := 25, slot := 13, constantValue := 0 }, { name := "T_DOUBLE", type := .int, accessFlags := 25, slot := 14, constantValue := 0 }, { name := "T_BYTE", type := .int, accessFlags := 25, slot := 15, constantValue := 0 }, { name := "T_SHORT", type := .int, accessFlags := 25, slot := 16, constantValue := 0 }, { name := "T_INT", type := .int, accessFlags := 25, slot := 17, constantValue := 0 }, { name := "T_LONG", type := .int, accessFlags := 25, slot := 18, constantValue := 0 }, { name := "JLA", type := (.object "jdk/internal/access/JavaLangAccess"), accessFlags := 26, slot := 19, constantValue := 0 }, { name := "SOFT_MAX_ARRAY_LENGTH", type := .int, accessFlags := 25, slot := 20, constantValue := 0 }]
  methods := #[k13m0]
  instanceTypes := #[]
  staticTypes := #[(.object "jdk/internal/misc/Unsafe"), .boolean, .int, .int, .int, .int, .int, .int, .int, .int, .int, .int, .int, .int, .int, .int, .int, .int, .int, (.object "jdk/internal/access/JavaLangAccess"), .int]
  resolved := Array.replicate 378 none
  statics := none }

def pool14 : Array CpInfo := pool [(1, u "java/lang/Cloneable"), (0, .class_ 1), (0, u "java/lang/Object"), (0, .class_ 3)] 3

/-- java/lang/Cloneable -/
def k14 : Class := { plain "java/lang/Cloneable" (some 0) with
  accessFlags := 1537
  interfaces := #[]
  cf := some (fileOf pool14 2 #[] #[] 1537 4 #[] #[])
  fields := #[]
  methods := #[]
  instanceTypes := #[]
  staticTypes := #[]
  resolved := Array.replicate 8 none
  statics := none }

/-- the primitive byte -/
def k15 : Class := { plain "byte" none with kind := .primitive 'B', accessFlags := 0x411 }
/-- [B -/
def k16 : Class := { plain "[B" (some 0) with kind := .array 15 .byte, interfaces := #[14, 2], accessFlags := 1041 }

/-- the primitive char -/
def k17 : Class := { plain "char" none with kind := .primitive 'C', accessFlags := 0x411 }
/-- [C -/
def k18 : Class := { plain "[C" (some 0) with kind := .array 17 .char, interfaces := #[14, 2], accessFlags := 1041 }

/-- the primitive int -/
def k19 : Class := { plain "int" none with kind := .primitive 'I', accessFlags := 0x411 }
/-- [I -/
def k20 : Class := { plain "[I" (some 0) with kind := .array 19 .int, interfaces := #[14, 2], accessFlags := 1041 }

def heap : Heap := #[{ cls := 7, slots := #[.long 0, .int 1, .null, .int 0, .null, .int 0, .int 0], vm := .statics 7 },
  { cls := 10, slots := #[.int 0, .int 8, .int 0, .int 1], vm := .statics 10 },
  { cls := 12, slots := #[.null, .null, .null], vm := .statics 12 }]
def classes : Array Class := #[k0, k1, k2, k3, k4, k5, k6, k7, k8, k9, k10, k11, k12, k13, k14, k15, k16, k17, k18, k19, k20]
def interned : List (Array UInt16 × Addr) := []
def slotsUsed : Nat := 14
def theMethod : MethodId := ⟨1, 1⟩
def args0 : Array Value := #[.long 5, .long 6, .int 7]
def aboutOver (below : List Frame) : State where
  vm := { classes := classes, interned := interned.toArray }
  heap := heap
  slotsUsed := slotsUsed
  threads := #[{ frames := .invoking theMethod args0 :: below }]
def below0 : List Frame := [.native { method := ⟨0, 0⟩, args := #[] }]
def about1 : State := aboutOver below0
def p0 : Program := .bare "" "" ""
def e0 : Env := launch0.env 0 0 0
theorem w_frames : about1.frames = Frame.invoking theMethod args0 :: below0 := rfl
set_option maxRecDepth 65536 in
theorem w_args : argsFit about1.vm theMethod args0 = true := by decide +kernel
set_option maxRecDepth 65536 in
theorem w_heap : heapFits about1 = true := by decide +kernel
set_option maxRecDepth 65536 in
theorem w_runnable : about1.curStatus? = some .runnable := by decide +kernel
set_option maxRecDepth 65536 in
theorem w_alone : about1.alone = true := by decide +kernel
set_option maxRecDepth 65536 in
theorem w_named : about1.methodNamed? x = some theMethod := by decide +kernel
set_option maxRecDepth 65536 in
theorem w_hears : about1.hears theMethod below0 = true := by decide +kernel
set_option maxRecDepth 65536 in
theorem w_ripe : about1.ripe theMethod args0 below0 = true := by decide +kernel
theorem w_running : about1.status = .running := rfl
set_option maxRecDepth 65536 in
theorem w_room : about1.hasRoom e0.platform room_1 = true :=
  launch0.hasRoom_least _ room_1 (by decide +kernel) (by decide +kernel) (by decide +kernel) (by decide +kernel) (by decide +kernel) (by decide +kernel)
theorem allAtoms_all (ts : List Jvm.Cond) (a : Array Jvm.Value) (st : Jvm.State) : (allAtoms ts).before a st = ts.all (fun c => c.before a st) := by
  induction ts with
  | nil => rfl
  | cons c t ih =>
    show (Jvm.Cond.and c (allAtoms t)).before a st = _
    rw [Jvm.Cond.before_and, ih, List.all_cons]
def words1 : List Jvm.Cond := Jvm.Cond.code x code maxLocals ret :: tables_1
/-- a 'code' word, met by the world's own term for the bytes: nothing is compared byte by byte -/
theorem code_word {y : MethodName} {bytes : ByteArray} {mx : Nat} {rt : Option FieldType} {a : Array Value} {s : State} {m : MethodId} {meth : Method} {c : Code} (h1 : s.methodNamed? y = some m) (h2 : s.vm.method? m = some meth) (h3 : meth.code = some c) (h4 : c.code = bytes)
    (h5 : (c.maxLocals == mx && c.exceptionTable.isEmpty && decide (c.maxStack ≤ mostOperands) && decide (meth.sig.returnType = rt) && !meth.locks && decide (parseMethodDescriptor y.desc = some meth.sig)) = true) : (Jvm.Cond.code y bytes mx rt).before a s = true := by
  simp only [Bool.and_eq_true, beq_iff_eq, Bool.not_eq_true', decide_eq_true_eq] at h5
  obtain ⟨⟨⟨⟨⟨g1, g2⟩, g3⟩, g4⟩, g5⟩, g6⟩ := h5
  simp [Cond.before, Cond.holds, Cond.value, h1, h2, h3, h4, g1, g2, g3, g4, g5, g6]
def isCode : Jvm.Cond → Bool
  | .code _ _ _ _ => true
  | _ => false
theorem all_split {L : List Jvm.Cond} {P : Jvm.Cond → Bool} (h1 : L.all (fun c => isCode c || P c) = true) (h2 : ∀ c ∈ L.filter isCode, P c = true) : L.all P = true := by
  refine List.all_eq_true.mpr fun c hc => ?_
  have h := List.all_eq_true.mp h1 c hc
  rcases Bool.eq_false_or_eq_true (isCode c) with hi | hi
  · exact h2 c (List.mem_filter.mpr ⟨hc, hi⟩)
  · simpa [hi] using h
set_option maxRecDepth 65536 in
theorem w_c0 : (Jvm.Cond.code x code maxLocals ret).before args0 about1 = true := code_word (m := ⟨1, 1⟩) (meth := k1m1) (c := k1c1) (by decide +kernel) rfl rfl rfl (by decide +kernel)
set_option maxRecDepth 65536 in
theorem w_c1 : (Jvm.Cond.code ({ cls := "com/example/lopa/lopa/trec/Utf8OrderComparePinLaw", name := "make", desc := "(ICCC)Ljava/lang/String;" } : Jvm.MethodName) method_3_code (4 : Nat) (Option.some (Jvm.ClassFile.FieldType.object "java/lang/String"))).before args0 about1 = true := code_word (m := ⟨1, 2⟩) (meth := k1m2) (c := k1c2) (by decide +kernel) rfl rfl rfl (by decide +kernel)
set_option maxRecDepth 65536 in
theorem w_c2 : (Jvm.Cond.code ({ cls := "java/lang/String", name := "<init>", desc := "([C)V" } : Jvm.MethodName) jdk_42_method_3_code (2 : Nat) (Option.none : Option Jvm.ClassFile.FieldType)).before args0 about1 = true := code_word (m := ⟨7, 1⟩) (meth := k7m1) (c := k7c1) (by decide +kernel) rfl rfl rfl (by decide +kernel)
set_option maxRecDepth 65536 in
theorem w_c3 : (Jvm.Cond.code ({ cls := "java/lang/String", name := "<init>", desc := "([CIILjava/lang/Void;)V" } : Jvm.MethodName) jdk_42_method_149_code (6 : Nat) (Option.none : Option Jvm.ClassFile.FieldType)).before args0 about1 = true := code_word (m := ⟨7, 4⟩) (meth := k7m4) (c := k7c4) (by decide +kernel) rfl rfl rfl (by decide +kernel)
set_option maxRecDepth 65536 in
theorem w_c4 : (Jvm.Cond.code ({ cls := "java/lang/Object", name := "<init>", desc := "()V" } : Jvm.MethodName) object_method_1_code (1 : Nat) (Option.none : Option Jvm.ClassFile.FieldType)).before args0 about1 = true := code_word (m := ⟨0, 0⟩) (meth := k0m0) (c := k0c0) (by decide +kernel) rfl rfl rfl (by decide +kernel)
set_option maxRecDepth 65536 in
theorem w_c5 : (Jvm.Cond.code ({ cls := "com/example/lopa/lopa/trec/Utf8OrderComparePinLaw", name := "reference", desc := "(ICCCICCC)I" } : Jvm.MethodName) method_4_code (8 : Nat) (Option.some Jvm.ClassFile.FieldType.int)).before args0 about1 = true := code_word (m := ⟨1, 3⟩) (meth := k1m3) (c := k1c3) (by decide +kernel) rfl rfl rfl (by decide +kernel)
set_option maxRecDepth 65536 in
theorem w_c6 : (Jvm.Cond.code ({ cls := "com/example/lopa/lopa/trec/Utf8OrderComparePinLaw", name := "sign", desc := "(I)I" } : Jvm.MethodName) method_7_code (1 : Nat) (Option.some Jvm.ClassFile.FieldType.int)).before args0 about1 = true := code_word (m := ⟨1, 6⟩) (meth := k1m6) (c := k1c6) (by decide +kernel) rfl rfl rfl (by decide +kernel)
set_option maxRecDepth 65536 in
theorem w_c7 : (Jvm.Cond.code ({ cls := "com/example/lopa/lopa/trec/Utf8Order", name := "compare", desc := "(Ljava/lang/String;Ljava/lang/String;)I" } : Jvm.MethodName) prog_28_method_2_code (6 : Nat) (Option.some Jvm.ClassFile.FieldType.int)).before args0 about1 = true := code_word (m := ⟨8, 1⟩) (meth := k8m1) (c := k8c1) (by decide +kernel) rfl rfl rfl (by decide +kernel)
set_option maxRecDepth 65536 in
theorem w_c8 : (Jvm.Cond.code ({ cls := "java/lang/String", name := "length", desc := "()I" } : Jvm.MethodName) jdk_42_method_54_code (1 : Nat) (Option.some Jvm.ClassFile.FieldType.int)).before args0 about1 = true := code_word (m := ⟨7, 2⟩) (meth := k7m2) (c := k7c2) (by decide +kernel) rfl rfl rfl (by decide +kernel)
set_option maxRecDepth 65536 in
theorem w_c9 : (Jvm.Cond.code ({ cls := "java/lang/String", name := "coder", desc := "()B" } : Jvm.MethodName) jdk_42_method_152_code (1 : Nat) (Option.some Jvm.ClassFile.FieldType.byte)).before args0 about1 = true := code_word (m := ⟨7, 5⟩) (meth := k7m5) (c := k7c5) (by decide +kernel) rfl rfl rfl (by decide +kernel)
set_option maxRecDepth 65536 in
theorem w_c10 : (Jvm.Cond.code ({ cls := "java/lang/Math", name := "min", desc := "(II)I" } : Jvm.MethodName) jdk_29_method_69_code (2 : Nat) (Option.some Jvm.ClassFile.FieldType.int)).before args0 about1 = true := code_word (m := ⟨9, 1⟩) (meth := k9m1) (c := k9c1) (by decide +kernel) rfl rfl rfl (by decide +kernel)
set_option maxRecDepth 65536 in
theorem w_c11 : (Jvm.Cond.code ({ cls := "java/lang/StringUTF16", name := "compress", desc := "([CII)[B" } : Jvm.MethodName) jdk_52_method_16_code (6 : Nat) (Option.some (Jvm.ClassFile.FieldType.array Jvm.ClassFile.FieldType.byte))).before args0 about1 = true := code_word (m := ⟨10, 8⟩) (meth := k10m8) (c := k10c8) (by decide +kernel) rfl rfl rfl (by decide +kernel)
set_option maxRecDepth 65536 in
theorem w_c12 : (Jvm.Cond.code ({ cls := "java/lang/StringUTF16", name := "compress", desc := "([CI[BII)I" } : Jvm.MethodName) jdk_52_method_21_code (7 : Nat) (Option.some Jvm.ClassFile.FieldType.int)).before args0 about1 = true := code_word (m := ⟨10, 9⟩) (meth := k10m9) (c := k10c9) (by decide +kernel) rfl rfl rfl (by decide +kernel)
set_option maxRecDepth 65536 in
theorem w_c13 : (Jvm.Cond.code ({ cls := "java/lang/StringUTF16", name := "coderFromArrayLen", desc := "([BI)B" } : Jvm.MethodName) jdk_52_method_15_code (2 : Nat) (Option.some Jvm.ClassFile.FieldType.byte)).before args0 about1 = true := code_word (m := ⟨10, 7⟩) (meth := k10m7) (c := k10c7) (by decide +kernel) rfl rfl rfl (by decide +kernel)
set_option maxRecDepth 65536 in
theorem w_c14 : (Jvm.Cond.code ({ cls := "com/example/lopa/lopa/trec/Utf8OrderComparePinLaw", name := "unitOrder", desc := "(CC)I" } : Jvm.MethodName) method_6_code (4 : Nat) (Option.some Jvm.ClassFile.FieldType.int)).before args0 about1 = true := code_word (m := ⟨1, 5⟩) (meth := k1m5) (c := k1c5) (by decide +kernel) rfl rfl rfl (by decide +kernel)
set_option maxRecDepth 65536 in
theorem w_c15 : (Jvm.Cond.code ({ cls := "com/example/lopa/lopa/trec/Utf8OrderComparePinLaw", name := "group", desc := "(C)I" } : Jvm.MethodName) method_5_code (1 : Nat) (Option.some Jvm.ClassFile.FieldType.int)).before args0 about1 = true := code_word (m := ⟨1, 4⟩) (meth := k1m4) (c := k1c4) (by decide +kernel) rfl rfl rfl (by decide +kernel)
set_option maxRecDepth 65536 in
theorem w_c16 : (Jvm.Cond.code ({ cls := "java/lang/String", name := "charAt", desc := "(I)C" } : Jvm.MethodName) jdk_42_method_56_code (2 : Nat) (Option.some Jvm.ClassFile.FieldType.char)).before args0 about1 = true := code_word (m := ⟨7, 3⟩) (meth := k7m3) (c := k7c3) (by decide +kernel) rfl rfl rfl (by decide +kernel)
set_option maxRecDepth 65536 in
theorem w_c17 : (Jvm.Cond.code ({ cls := "java/lang/String", name := "isLatin1", desc := "()Z" } : Jvm.MethodName) jdk_42_method_154_code (1 : Nat) (Option.some Jvm.ClassFile.FieldType.boolean)).before args0 about1 = true := code_word (m := ⟨7, 6⟩) (meth := k7m6) (c := k7c6) (by decide +kernel) rfl rfl rfl (by decide +kernel)
set_option maxRecDepth 65536 in
theorem w_c18 : (Jvm.Cond.code ({ cls := "java/lang/StringLatin1", name := "charAt", desc := "([BI)C" } : Jvm.MethodName) jdk_43_method_2_code (2 : Nat) (Option.some Jvm.ClassFile.FieldType.char)).before args0 about1 = true := code_word (m := ⟨11, 1⟩) (meth := k11m1) (c := k11c1) (by decide +kernel) rfl rfl rfl (by decide +kernel)
set_option maxRecDepth 65536 in
theorem w_c19 : (Jvm.Cond.code ({ cls := "java/lang/String", name := "checkIndex", desc := "(II)V" } : Jvm.MethodName) jdk_42_method_155_code (2 : Nat) (Option.none : Option Jvm.ClassFile.FieldType)).before args0 about1 = true := code_word (m := ⟨7, 7⟩) (meth := k7m7) (c := k7c7) (by decide +kernel) rfl rfl rfl (by decide +kernel)
set_option maxRecDepth 65536 in
theorem w_c20 : (Jvm.Cond.code ({ cls := "jdk/internal/util/Preconditions", name := "checkIndex", desc := "(IILjava/util/function/BiFunction;)I" } : Jvm.MethodName) jdk_41_method_11_code (3 : Nat) (Option.some Jvm.ClassFile.FieldType.int)).before args0 about1 = true := code_word (m := ⟨12, 1⟩) (meth := k12m1) (c := k12c1) (by decide +kernel) rfl rfl rfl (by decide +kernel)
set_option maxRecDepth 65536 in
theorem w_c21 : (Jvm.Cond.code ({ cls := "com/example/lopa/lopa/trec/Utf8Order", name := "codePointRank", desc := "(C)I" } : Jvm.MethodName) prog_28_method_3_code (2 : Nat) (Option.some Jvm.ClassFile.FieldType.int)).before args0 about1 = true := code_word (m := ⟨8, 2⟩) (meth := k8m2) (c := k8c2) (by decide +kernel) rfl rfl rfl (by decide +kernel)
set_option maxRecDepth 65536 in
theorem w_c22 : (Jvm.Cond.code ({ cls := "java/lang/StringUTF16", name := "toBytes", desc := "([CII)[B" } : Jvm.MethodName) jdk_52_method_14_code (5 : Nat) (Option.some (Jvm.ClassFile.FieldType.array Jvm.ClassFile.FieldType.byte))).before args0 about1 = true := code_word (m := ⟨10, 6⟩) (meth := k10m6) (c := k10c6) (by decide +kernel) rfl rfl rfl (by decide +kernel)
set_option maxRecDepth 65536 in
theorem w_c23 : (Jvm.Cond.code ({ cls := "java/lang/StringUTF16", name := "newBytesFor", desc := "(I)[B" } : Jvm.MethodName) jdk_52_method_2_code (1 : Nat) (Option.some (Jvm.ClassFile.FieldType.array Jvm.ClassFile.FieldType.byte))).before args0 about1 = true := code_word (m := ⟨10, 1⟩) (meth := k10m1) (c := k10c1) (by decide +kernel) rfl rfl rfl (by decide +kernel)
set_option maxRecDepth 65536 in
theorem w_c24 : (Jvm.Cond.code ({ cls := "java/lang/StringUTF16", name := "newBytesLength", desc := "(I)I" } : Jvm.MethodName) jdk_52_method_3_code (1 : Nat) (Option.some Jvm.ClassFile.FieldType.int)).before args0 about1 = true := code_word (m := ⟨10, 2⟩) (meth := k10m2) (c := k10c2) (by decide +kernel) rfl rfl rfl (by decide +kernel)
set_option maxRecDepth 65536 in
theorem w_c25 : (Jvm.Cond.code ({ cls := "java/lang/StringUTF16", name := "putChar", desc := "([BII)V" } : Jvm.MethodName) jdk_52_method_4_code (3 : Nat) (Option.none : Option Jvm.ClassFile.FieldType)).before args0 about1 = true := code_word (m := ⟨10, 3⟩) (meth := k10m3) (c := k10c3) (by decide +kernel) rfl rfl rfl (by decide +kernel)
set_option maxRecDepth 65536 in
theorem w_c26 : (Jvm.Cond.code ({ cls := "java/lang/StringUTF16", name := "getChar", desc := "([BI)C" } : Jvm.MethodName) jdk_52_method_5_code (2 : Nat) (Option.some Jvm.ClassFile.FieldType.char)).before args0 about1 = true := code_word (m := ⟨10, 4⟩) (meth := k10m4) (c := k10c4) (by decide +kernel) rfl rfl rfl (by decide +kernel)
set_option maxRecDepth 65536 in
theorem w_c27 : (Jvm.Cond.code ({ cls := "java/lang/StringUTF16", name := "charAt", desc := "([BI)C" } : Jvm.MethodName) jdk_52_method_83_code (2 : Nat) (Option.some Jvm.ClassFile.FieldType.char)).before args0 about1 = true := code_word (m := ⟨10, 10⟩) (meth := k10m10) (c := k10c10) (by decide +kernel) rfl rfl rfl (by decide +kernel)
set_option maxRecDepth 65536 in
theorem w_c28 : (Jvm.Cond.code ({ cls := "java/lang/StringUTF16", name := "checkIndex", desc := "(I[B)V" } : Jvm.MethodName) jdk_52_method_91_code (2 : Nat) (Option.none : Option Jvm.ClassFile.FieldType)).before args0 about1 = true := code_word (m := ⟨10, 11⟩) (meth := k10m11) (c := k10c11) (by decide +kernel) rfl rfl rfl (by decide +kernel)
set_option maxRecDepth 65536 in
theorem w_c29 : (Jvm.Cond.code ({ cls := "java/lang/StringUTF16", name := "length", desc := "([B)I" } : Jvm.MethodName) jdk_52_method_6_code (1 : Nat) (Option.some Jvm.ClassFile.FieldType.int)).before args0 about1 = true := code_word (m := ⟨10, 5⟩) (meth := k10m5) (c := k10c5) (by decide +kernel) rfl rfl rfl (by decide +kernel)
def codes1 : List Jvm.Cond := [Jvm.Cond.code x code maxLocals ret, Jvm.Cond.code ({ cls := "com/example/lopa/lopa/trec/Utf8OrderComparePinLaw", name := "make", desc := "(ICCC)Ljava/lang/String;" } : Jvm.MethodName) method_3_code (4 : Nat) (Option.some (Jvm.ClassFile.FieldType.object "java/lang/String")), Jvm.Cond.code ({ cls := "java/lang/String", name := "<init>", desc := "([C)V" } : Jvm.MethodName) jdk_42_method_3_code (2 : Nat) (Option.none : Option Jvm.ClassFile.FieldType), Jvm.Cond.code ({ cls := "java/lang/String", name := "<init>", desc := "([CIILjava/lang/Void;)V" } : Jvm.MethodName) jdk_42_method_149_code (6 : Nat) (Option.none : Option Jvm.ClassFile.FieldType), Jvm.Cond.code ({ cls := "java/lang/Object", name := "<init>", desc := "()V" } : Jvm.MethodName) object_method_1_code (1 : Nat) (Option.none : Option Jvm.ClassFile.FieldType), Jvm.Cond.code ({ cls := "com/example/lopa/lopa/trec/Utf8OrderComparePinLaw", name := "reference", desc := "(ICCCICCC)I" } : Jvm.MethodName) method_4_code (8 : Nat) (Option.some Jvm.ClassFile.FieldType.int), Jvm.Cond.code ({ cls := "com/example/lopa/lopa/trec/Utf8OrderComparePinLaw", name := "sign", desc := "(I)I" } : Jvm.MethodName) method_7_code (1 : Nat) (Option.some Jvm.ClassFile.FieldType.int), Jvm.Cond.code ({ cls := "com/example/lopa/lopa/trec/Utf8Order", name := "compare", desc := "(Ljava/lang/String;Ljava/lang/String;)I" } : Jvm.MethodName) prog_28_method_2_code (6 : Nat) (Option.some Jvm.ClassFile.FieldType.int), Jvm.Cond.code ({ cls := "java/lang/String", name := "length", desc := "()I" } : Jvm.MethodName) jdk_42_method_54_code (1 : Nat) (Option.some Jvm.ClassFile.FieldType.int), Jvm.Cond.code ({ cls := "java/lang/String", name := "coder", desc := "()B" } : Jvm.MethodName) jdk_42_method_152_code (1 : Nat) (Option.some Jvm.ClassFile.FieldType.byte), Jvm.Cond.code ({ cls := "java/lang/Math", name := "min", desc := "(II)I" } : Jvm.MethodName) jdk_29_method_69_code (2 : Nat) (Option.some Jvm.ClassFile.FieldType.int), Jvm.Cond.code ({ cls := "java/lang/StringUTF16", name := "compress", desc := "([CII)[B" } : Jvm.MethodName) jdk_52_method_16_code (6 : Nat) (Option.some (Jvm.ClassFile.FieldType.array Jvm.ClassFile.FieldType.byte)), Jvm.Cond.code ({ cls := "java/lang/StringUTF16", name := "compress", desc := "([CI[BII)I" } : Jvm.MethodName) jdk_52_method_21_code (7 : Nat) (Option.some Jvm.ClassFile.FieldType.int), Jvm.Cond.code ({ cls := "java/lang/StringUTF16", name := "coderFromArrayLen", desc := "([BI)B" } : Jvm.MethodName) jdk_52_method_15_code (2 : Nat) (Option.some Jvm.ClassFile.FieldType.byte), Jvm.Cond.code ({ cls := "com/example/lopa/lopa/trec/Utf8OrderComparePinLaw", name := "unitOrder", desc := "(CC)I" } : Jvm.MethodName) method_6_code (4 : Nat) (Option.some Jvm.ClassFile.FieldType.int), Jvm.Cond.code ({ cls := "com/example/lopa/lopa/trec/Utf8OrderComparePinLaw", name := "group", desc := "(C)I" } : Jvm.MethodName) method_5_code (1 : Nat) (Option.some Jvm.ClassFile.FieldType.int), Jvm.Cond.code ({ cls := "java/lang/String", name := "charAt", desc := "(I)C" } : Jvm.MethodName) jdk_42_method_56_code (2 : Nat) (Option.some Jvm.ClassFile.FieldType.char), Jvm.Cond.code ({ cls := "java/lang/String", name := "isLatin1", desc := "()Z" } : Jvm.MethodName) jdk_42_method_154_code (1 : Nat) (Option.some Jvm.ClassFile.FieldType.boolean), Jvm.Cond.code ({ cls := "java/lang/StringLatin1", name := "charAt", desc := "([BI)C" } : Jvm.MethodName) jdk_43_method_2_code (2 : Nat) (Option.some Jvm.ClassFile.FieldType.char), Jvm.Cond.code ({ cls := "java/lang/String", name := "checkIndex", desc := "(II)V" } : Jvm.MethodName) jdk_42_method_155_code (2 : Nat) (Option.none : Option Jvm.ClassFile.FieldType), Jvm.Cond.code ({ cls := "jdk/internal/util/Preconditions", name := "checkIndex", desc := "(IILjava/util/function/BiFunction;)I" } : Jvm.MethodName) jdk_41_method_11_code (3 : Nat) (Option.some Jvm.ClassFile.FieldType.int), Jvm.Cond.code ({ cls := "com/example/lopa/lopa/trec/Utf8Order", name := "codePointRank", desc := "(C)I" } : Jvm.MethodName) prog_28_method_3_code (2 : Nat) (Option.some Jvm.ClassFile.FieldType.int), Jvm.Cond.code ({ cls := "java/lang/StringUTF16", name := "toBytes", desc := "([CII)[B" } : Jvm.MethodName) jdk_52_method_14_code (5 : Nat) (Option.some (Jvm.ClassFile.FieldType.array Jvm.ClassFile.FieldType.byte)), Jvm.Cond.code ({ cls := "java/lang/StringUTF16", name := "newBytesFor", desc := "(I)[B" } : Jvm.MethodName) jdk_52_method_2_code (1 : Nat) (Option.some (Jvm.ClassFile.FieldType.array Jvm.ClassFile.FieldType.byte)), Jvm.Cond.code ({ cls := "java/lang/StringUTF16", name := "newBytesLength", desc := "(I)I" } : Jvm.MethodName) jdk_52_method_3_code (1 : Nat) (Option.some Jvm.ClassFile.FieldType.int), Jvm.Cond.code ({ cls := "java/lang/StringUTF16", name := "putChar", desc := "([BII)V" } : Jvm.MethodName) jdk_52_method_4_code (3 : Nat) (Option.none : Option Jvm.ClassFile.FieldType), Jvm.Cond.code ({ cls := "java/lang/StringUTF16", name := "getChar", desc := "([BI)C" } : Jvm.MethodName) jdk_52_method_5_code (2 : Nat) (Option.some Jvm.ClassFile.FieldType.char), Jvm.Cond.code ({ cls := "java/lang/StringUTF16", name := "charAt", desc := "([BI)C" } : Jvm.MethodName) jdk_52_method_83_code (2 : Nat) (Option.some Jvm.ClassFile.FieldType.char), Jvm.Cond.code ({ cls := "java/lang/StringUTF16", name := "checkIndex", desc := "(I[B)V" } : Jvm.MethodName) jdk_52_method_91_code (2 : Nat) (Option.none : Option Jvm.ClassFile.FieldType), Jvm.Cond.code ({ cls := "java/lang/StringUTF16", name := "length", desc := "([B)I" } : Jvm.MethodName) jdk_52_method_6_code (1 : Nat) (Option.some Jvm.ClassFile.FieldType.int)]
set_option maxRecDepth 65536 in
theorem codes_eq : words1.filter isCode = codes1 := rfl
theorem w_codes : ∀ c ∈ words1.filter isCode, c.before args0 about1 = true := by
  rw [codes_eq]
  intro c hc
  simp only [codes1, List.mem_cons, List.not_mem_nil, or_false] at hc
  rcases hc with rfl | rfl | rfl | rfl | rfl | rfl | rfl | rfl | rfl | rfl | rfl | rfl | rfl | rfl | rfl | rfl | rfl | rfl | rfl | rfl | rfl | rfl | rfl | rfl | rfl | rfl | rfl | rfl | rfl | rfl
  · exact w_c0
  · exact w_c1
  · exact w_c2
  · exact w_c3
  · exact w_c4
  · exact w_c5
  · exact w_c6
  · exact w_c7
  · exact w_c8
  · exact w_c9
  · exact w_c10
  · exact w_c11
  · exact w_c12
  · exact w_c13
  · exact w_c14
  · exact w_c15
  · exact w_c16
  · exact w_c17
  · exact w_c18
  · exact w_c19
  · exact w_c20
  · exact w_c21
  · exact w_c22
  · exact w_c23
  · exact w_c24
  · exact w_c25
  · exact w_c26
  · exact w_c27
  · exact w_c28
  · exact w_c29
set_option maxRecDepth 65536 in
theorem w_t1 : (words1.take 24).all (fun c => isCode c || c.before args0 about1) = true := by decide +kernel
set_option maxRecDepth 65536 in
theorem w_t2 : ((words1.drop 24).take 24).all (fun c => isCode c || c.before args0 about1) = true := by decide +kernel
set_option maxRecDepth 65536 in
theorem w_t3 : (((words1.drop 24).drop 24).take 24).all (fun c => isCode c || c.before args0 about1) = true := by decide +kernel
set_option maxRecDepth 65536 in
theorem w_t4 : ((((words1.drop 24).drop 24).drop 24).take 24).all (fun c => isCode c || c.before args0 about1) = true := by decide +kernel
set_option maxRecDepth 65536 in
theorem w_t5 : (((((words1.drop 24).drop 24).drop 24).drop 24).take 24).all (fun c => isCode c || c.before args0 about1) = true := by decide +kernel
set_option maxRecDepth 65536 in
theorem w_t6 : (((((words1.drop 24).drop 24).drop 24).drop 24).drop 24).all (fun c => isCode c || c.before args0 about1) = true := by decide +kernel
theorem w_tables : (allAtoms (Jvm.Cond.code x code maxLocals ret :: tables_1)).before args0 about1 = true := by
  rw [allAtoms_all]
  show words1.all (fun c => c.before args0 about1) = true
  refine all_split ?_ w_codes
  rw [← List.take_append_drop 24 words1, List.all_append, w_t1, ← List.take_append_drop 24 (words1.drop 24), List.all_append, w_t2, ← List.take_append_drop 24 ((words1.drop 24).drop 24), List.all_append, w_t3, ← List.take_append_drop 24 (((words1.drop 24).drop 24).drop 24), List.all_append, w_t4, ← List.take_append_drop 24 ((((words1.drop 24).drop 24).drop 24).drop 24), List.all_append, w_t5, w_t6]
  rfl
set_option maxRecDepth 65536 in
theorem w_rest : rest_1_c.before args0 about1 = true := by decide +kernel
set_option maxRecDepth 65536 in
theorem w_case : (Jvm.Cond.and given_1 narrow_1).before args0 about1 = true := by decide +kernel
set_option maxRecDepth 65536 in
theorem w_consts : constsHeld consts_1 about1 := Jvm.Lit.constsHeldB_iff.mp (by decide +kernel)
theorem w_applies : (headSpec (Jvm.Cond.code x code maxLocals ret :: tables_1) room_1).applies x e0.platform about1 = true :=
  (Spec.applies_iff w_frames).mpr ⟨w_running, w_runnable, w_alone, w_named, w_hears, w_ripe, w_room, w_tables⟩
theorem atStart : AtStart classFile x code maxLocals ret World_1 tables_1 room_1 Calls_1 rest_1 Pre_1 launch0 p0 e0 about1 theMethod args0 below0 :=
  ⟨lists_1, trivial, launch0.admits_env _ _ _, launch0.least_env, fairChoices_fair.cas, fairChoices_fair.clock, w_frames, w_args, w_heap, w_applies, ⟨w_consts, trivial⟩, w_rest, w_case⟩
end start1
theorem witness_1 : WitnessClaimed_1 := ⟨start1.p0, start1.e0, start1.about1, start1.theMethod, start1.args0, start1.below0, start1.atStart⟩
end Jvm.Pilot.@@N@@
