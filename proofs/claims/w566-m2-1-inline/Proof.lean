import JvmDerived
import JvmDerived.Pilot.@@N@@Statement
import JvmDerived.Pilot.@@N@@Code
set_option linter.unusedVariables false
set_option linter.unusedSimpArgs false
/- laws to paste: Road.backV, Road.lenW, Road.chN (cut by pick.py; bodies as the Statement names them) -/
namespace Jvm.Pilot.@@N@@
namespace StrChars
open Jvm Sem ClassFile Op Lib Jvm.Stand Jvm.Free.XT Jvm.Free.ALB Jvm.Free.JM Jvm.Free
open Jvm.Lib.Cold (StaticIs)
/-- a char array whose places are chars -/
def Ch (a : Addr) (A : Cell) (U : State) : Prop := Arr .char a A U ∧ Typed .char A
theorem Ch.mv {a : Addr} {A : Cell} {U U' : State} (h : Ch a A U) (hal : U.vm.Alike U'.vm) (hh : U'.heap = U.heap) : Ch a A U' := ⟨h.1.mv hal hh, h.2⟩
theorem Ch.keep {a : Addr} {A : Cell} {U U' : State} (h : Ch a A U) (hal : U.vm.Alike U'.vm) (hk : U'.heap[a]? = some A) : Ch a A U' := ⟨h.1.keep hal hk, h.2⟩
/-- what place i of a char[]'s cell holds -/
def cv (A : Cell) (i : Nat) : Int32 := match A.slots[i]? with | some (.int x) => x | _ => 0
theorem Ch.get {a : Addr} {A : Cell} {U : State} (h : Ch a A U) {i : Nat} (hi : i < A.slots.size) : A.slots[i]? = some (.int (cv A i)) := by
  have e := Array.getElem?_eq_getElem hi
  have f := h.2 i _ e
  unfold cv; rw [e]
  generalize A.slots[i] = v at f
  cases v <;> simp [fits] at f ⊢
/-- the byte that i2b leaves of a char -/
def lo8 (x : Int32) : Int32 := x.toInt8.toInt32
theorem fits_lo8 (y : Int32) : fits .byte (.int (lo8 y)) = true := by
  have h1 := y.toInt8.le_toInt
  have h2 := y.toInt8.toInt_lt
  simp only [lo8, fits, Bool.and_eq_true, decide_eq_true_eq, Int32.le_iff_toInt_le, Int8.toInt_toInt32, show (-128 : Int32).toInt = -128 from by decide, show (127 : Int32).toInt = 127 from by decide]
  omega
/-- A' is A but that each place j of lo .. hi - 1 holds f j -/
def Laid (A A' : Cell) (lo hi : Nat) (f : Nat → Value) : Prop := A'.cls = A.cls ∧ A'.vm = A.vm ∧ A'.slots.size = A.slots.size ∧ ∀ i, A'.slots[i]? = if lo ≤ i ∧ i < hi then some (f i) else A.slots[i]?
theorem Laid.zero (A : Cell) (lo : Nat) (f : Nat → Value) : Laid A A lo (lo + 0) f := ⟨rfl, rfl, rfl, fun i => by rw [if_neg (by omega)]⟩
theorem Laid.step {A Ak : Cell} {lo k : Nat} {f : Nat → Value} {v : Value} (h : Laid A Ak lo k f) (hlo : lo ≤ k) (hk : k < Ak.slots.size) (hv : v = f k) : Laid A (Ak.setSlot k v) lo (k + 1) f := by
  refine ⟨h.1, h.2.1, by simpa [Cell.setSlot] using h.2.2.1, fun i => ?_⟩
  by_cases e : k = i
  · subst e; rw [Cell.slots_setSlot_self v hk, if_pos (by omega), hv]
  · rw [Cell.slots_setSlot_ne v e, h.2.2.2 i]
    by_cases q : lo ≤ i ∧ i < k
    · rw [if_pos q, if_pos (by omega)]
    · rw [if_neg q, if_neg (by omega)]
def U16 : String := "java/lang/StringUTF16"
namespace Cmp5
def yN : MethodName := ⟨"java/lang/StringUTF16", "compress", "([CI[BII)I"⟩
abbrev yB : ByteArray := jdk_52_method_21_code
theorem d0 : decode yB 0 = .ok (.iconst 0, 1) := by decide +kernel
theorem d1 : decode yB 1 = .ok (.istore 5, 2) := by decide +kernel
theorem d3 : decode yB 3 = .ok (.iload 5, 2) := by decide +kernel
theorem d5 : decode yB 5 = .ok (.iload 4, 2) := by decide +kernel
theorem d7 : decode yB 7 = .ok (.if_icmp (.ge) 37, 3) := by decide +kernel
theorem d10 : decode yB 10 = .ok (.aload_n 0, 1) := by decide +kernel
theorem d11 : decode yB 11 = .ok (.iload_n 1, 1) := by decide +kernel
theorem d12 : decode yB 12 = .ok (.caload, 1) := by decide +kernel
theorem d13 : decode yB 13 = .ok (.istore 6, 2) := by decide +kernel
theorem d15 : decode yB 15 = .ok (.iload 6, 2) := by decide +kernel
theorem d17 : decode yB 17 = .ok (.sipush 255, 3) := by decide +kernel
theorem d20 : decode yB 20 = .ok (.if_icmp (.le) 6, 3) := by decide +kernel
theorem d26 : decode yB 26 = .ok (.aload_n 2, 1) := by decide +kernel
theorem d27 : decode yB 27 = .ok (.iload_n 3, 1) := by decide +kernel
theorem d28 : decode yB 28 = .ok (.iload 6, 2) := by decide +kernel
theorem d30 : decode yB 30 = .ok (.i2b, 1) := by decide +kernel
theorem d31 : decode yB 31 = .ok (.bastore, 1) := by decide +kernel
theorem d32 : decode yB 32 = .ok (.iinc 1 1, 3) := by decide +kernel
theorem d35 : decode yB 35 = .ok (.iinc 3 1, 3) := by decide +kernel
theorem d38 : decode yB 38 = .ok (.iinc 5 1, 3) := by decide +kernel
theorem d41 : decode yB 41 = .ok (.goto (-38), 3) := by decide +kernel
theorem d44 : decode yB 44 = .ok (.iload 4, 2) := by decide +kernel
theorem d46 : decode yB 46 = .ok (.ireturn, 1) := by decide +kernel
def site : List Cond := []
def tab : Cond := tabOf yN yB 7 (some .int) site
def P (b : Addr) (A : Cell) (d : Addr) (B : Cell) (o q len : Nat) (args : Array Value) (s : State) : Prop := args = #[.ref b, .int (Int32.ofNat o), .ref d, .int (Int32.ofNat q), .int (Int32.ofNat len)] ∧ Ch b A s ∧ Arr .byte d B s ∧ b ≠ d ∧ o + len ≤ A.slots.size ∧ q + len ≤ B.slots.size ∧ ∀ i, i < len → ¬ 255 < cv A (o + i)
def E (b : Addr) (A : Cell) (d : Addr) (B : Cell) (o q len : Nat) (r : Option Value) (s u : State) : Prop := r = some (.int (Int32.ofNat len)) ∧ ∃ B', Put d B' s u ∧ Laid B B' q (q + len) (fun j => Value.int (lo8 (cv A (o + (j - q)))))
/-- no char of the range above 255: len; the places written hold each char's low byte -/
theorem law (l : Launch) (b : Addr) (A : Cell) (d : Addr) (B : Cell) (o q len : Nat) : Law l yN 5 5 0 0 yB 7 (some .int) site (P b A d B o q len) (E b A d B o q len) (copyLocs d q len) 0 0 := by
  refine Law.of_walk (plainFor_of_name (by decide +kernel)) (by decide +kernel) (by decide +kernel) (by decide) (fun _ _ h => by rw [h.1]; rfl) (fun _ U U' hal hh h => ⟨h.1, h.2.1.mv hal hh, h.2.2.1.mv hal hh, h.2.2.2⟩) (fun r U U' V V' h1 hal h2 h => ⟨h.1, h.2.elim fun B' q => ⟨B', q.1.mv h1 h2, q.2⟩⟩) ?_
  intro p e s m args below meth c s₁ X0 hexec hbytes hml hret hlk hnm hown hh0 W hP
  obtain ⟨rfl, hA, hB, hne, l1, l2, hp⟩ := hP
  have c1 : Steps p.tables e below (s₁.setTop (entryFrame m #[.ref b, .int (Int32.ofNat o), .ref d, .int (Int32.ofNat q), .int (Int32.ofNat len)] 7)) (s₁.setTop (mkF m 0 #[.val (.ref b), .val (.int (Int32.ofNat o)), .val (.ref d), .val (.int (Int32.ofNat q)), .val (.int (Int32.ofNat len)), .unset, .unset] [])) := entry rfl
  have hA0 := hA.1.mv X0.warmed.alike hh0
  have hB0 := hB.mv X0.warmed.alike hh0
  have a31 := hA.1.2.2.2
  have c2 : Steps p.tables e below (s₁.setTop (entryFrame m #[.ref b, .int (Int32.ofNat o), .ref d, .int (Int32.ofNat q), .int (Int32.ofNat len)] 7)) (s₁.setTop (mkF m 3 #[.val (.ref b), .val (.int (Int32.ofNat o)), .val (.ref d), .val (.int (Int32.ofNat q)), .val (.int (Int32.ofNat len)), .val (.int 0), .unset] [])) := c1.trans (by
    refine iconstV X0.here hexec rfl 0 (hb hbytes d0) (by decide) ?_
    refine XS.istore X0.here hexec rfl (hb hbytes d1) rfl rfl ?_
    exact Steps.refl _)
  have loop : ∀ (r i : Nat), i + r = len → ∀ (z : Slot), (z = .unset ∨ ∃ w, z = .val w ∧ w.category = 1) → ∀ (Tl : State) (Bk : Cell), Stand p l e { frames := 0, locals := 0, cells := 0, slots := 0 } s m #[.ref b, .int (Int32.ofNat o), .ref d, .int (Int32.ofNat q), .int (Int32.ofNat len)] below meth c Tl ([] ++ copyLocs d q i) 0 0 → Put d Bk s₁ Tl → Laid B Bk q (q + i) (fun j => Value.int (lo8 (cv A (o + (j - q))))) →
      Steps p.tables e below (s₁.setTop (entryFrame m #[.ref b, .int (Int32.ofNat o), .ref d, .int (Int32.ofNat q), .int (Int32.ofNat len)] 7)) (Tl.setTop (mkF m 3 #[.val (.ref b), .val (.int (Int32.ofNat (o + i))), .val (.ref d), .val (.int (Int32.ofNat (q + i))), .val (.int (Int32.ofNat len)), .val (.int (Int32.ofNat i)), z] [])) → ∃ (T' : State) (B' : Cell) (z' : Slot), Stand p l e { frames := 0, locals := 0, cells := 0, slots := 0 } s m #[.ref b, .int (Int32.ofNat o), .ref d, .int (Int32.ofNat q), .int (Int32.ofNat len)] below meth c T' ([] ++ copyLocs d q len) 0 0 ∧ Put d B' s₁ T' ∧ Laid B B' q (q + len) (fun j => Value.int (lo8 (cv A (o + (j - q))))) ∧
      Steps p.tables e below (s₁.setTop (entryFrame m #[.ref b, .int (Int32.ofNat o), .ref d, .int (Int32.ofNat q), .int (Int32.ofNat len)] 7)) (T'.setTop (mkF m 3 #[.val (.ref b), .val (.int (Int32.ofNat (o + len))), .val (.ref d), .val (.int (Int32.ofNat (q + len))), .val (.int (Int32.ofNat len)), .val (.int (Int32.ofNat len)), z'] [])) := by
    intro r
    induction r with
    | zero =>
      intro i hi z hz Tl Bk Xl pl fl cl
      have hil : i = len := by omega
      rw [hil] at Xl fl cl
      exact ⟨Tl, Bk, z, Xl, pl, fl, cl⟩
    | succ r ih =>
      intro i hi z hz Tl Bk Xl pl fl cl
      have all := X0.warmed.alike.symm.trans Xl.warmed.alike
      have hAl := hA0.keep all (pl.other hne hA0.1)
      have hBk := hB0.like all pl.1 fl.1 fl.2.1 fl.2.2.1
      have hlt : q + i < Bk.slots.size := by rw [fl.2.2.1]; omega
      have c3 : Steps p.tables e below (s₁.setTop (entryFrame m #[.ref b, .int (Int32.ofNat o), .ref d, .int (Int32.ofNat q), .int (Int32.ofNat len)] 7)) (Tl.setTop (mkF m 12 #[.val (.ref b), .val (.int (Int32.ofNat (o + i))), .val (.ref d), .val (.int (Int32.ofNat (q + i))), .val (.int (Int32.ofNat len)), .val (.int (Int32.ofNat i)), z] [.int (Int32.ofNat (o + i)), .ref b])) := cl.trans (by
        refine XS.iload Xl.here hexec rfl (hb hbytes d3) rfl ?_
        refine XS.iload Xl.here hexec rfl (hb hbytes d5) rfl ?_
        refine XS.icmpNo Xl.here hexec rfl (hb hbytes d7) rfl (ii_ge_f (lt32 (by omega) (by omega))) ?_
        refine XS.aloadN Xl.here hexec rfl (hb hbytes d10) rfl rfl ?_
        refine XS.iloadN Xl.here hexec rfl (hb hbytes d11) rfl ?_
        exact Steps.refl _)
      have c4 : Steps p.tables e below (s₁.setTop (entryFrame m #[.ref b, .int (Int32.ofNat o), .ref d, .int (Int32.ofNat q), .int (Int32.ofNat len)] 7)) (Tl.setTop (mkF m 13 #[.val (.ref b), .val (.int (Int32.ofNat (o + i))), .val (.ref d), .val (.int (Int32.ofNat (q + i))), .val (.int (Int32.ofNat len)), .val (.int (Int32.ofNat i)), z] [.int (cv A (o + i))])) := c3.trans (by
        refine Xl.aget hexec hAl rfl (hA.get (i := o + i) (by omega)) rfl rfl (hb hbytes d12) ?_
        exact Steps.refl _)
      have c5 : Steps p.tables e below (s₁.setTop (entryFrame m #[.ref b, .int (Int32.ofNat o), .ref d, .int (Int32.ofNat q), .int (Int32.ofNat len)] 7)) (Tl.setTop (mkF m 15 #[.val (.ref b), .val (.int (Int32.ofNat (o + i))), .val (.ref d), .val (.int (Int32.ofNat (q + i))), .val (.int (Int32.ofNat len)), .val (.int (Int32.ofNat i)), .val (.int (cv A (o + i)))] [])) := c4.trans (by
        refine XS.istoreS Xl.here hexec rfl (hb hbytes d13) rfl rfl hz ?_
        exact Steps.refl _)
      have c6 : Steps p.tables e below (s₁.setTop (entryFrame m #[.ref b, .int (Int32.ofNat o), .ref d, .int (Int32.ofNat q), .int (Int32.ofNat len)] 7)) (Tl.setTop (mkF m 31 #[.val (.ref b), .val (.int (Int32.ofNat (o + i))), .val (.ref d), .val (.int (Int32.ofNat (q + i))), .val (.int (Int32.ofNat len)), .val (.int (Int32.ofNat i)), .val (.int (cv A (o + i)))] [.int (lo8 (cv A (o + i))), .int (Int32.ofNat (q + i)), .ref d])) := c5.trans (by
        refine XS.iload Xl.here hexec rfl (hb hbytes d15) rfl ?_
        refine sipushV Xl.here hexec rfl 255 (hb hbytes d17) (by decide) ?_
        refine XS.icmpYes Xl.here hexec rfl (pc0 := 20) rfl (hb hbytes d20) rfl (ii_le_t (hp i (by omega))) (by decide) rfl ?_
        refine XS.aloadN Xl.here hexec rfl (hb hbytes d26) rfl rfl ?_
        refine XS.iloadN Xl.here hexec rfl (hb hbytes d27) rfl ?_
        refine XS.iload Xl.here hexec rfl (hb hbytes d28) rfl ?_
        refine i2b Xl.here hexec rfl (hb hbytes d30) rfl ?_
        exact Steps.refl _)
      obtain ⟨T7, X7, p7, st7⟩ := Xl.aput hexec hBk rfl hlt rfl (fits_lo8 (cv A (o + i))) (g := (mkF m 31 #[.val (.ref b), .val (.int (Int32.ofNat (o + i))), .val (.ref d), .val (.int (Int32.ofNat (q + i))), .val (.int (Int32.ofNat len)), .val (.int (Int32.ofNat i)), .val (.int (cv A (o + i)))] [.int (lo8 (cv A (o + i))), .int (Int32.ofNat (q + i)), .ref d])) rfl (rest := []) rfl (hb hbytes d31)
      have c8 : Steps p.tables e below (s₁.setTop (entryFrame m #[.ref b, .int (Int32.ofNat o), .ref d, .int (Int32.ofNat q), .int (Int32.ofNat len)] 7)) (T7.setTop (mkF m 32 #[.val (.ref b), .val (.int (Int32.ofNat (o + i))), .val (.ref d), .val (.int (Int32.ofNat (q + i))), .val (.int (Int32.ofNat len)), .val (.int (Int32.ofNat i)), .val (.int (cv A (o + i)))] [])) := c6.trans (st7 _ (Steps.refl _))
      have c9 : Steps p.tables e below (s₁.setTop (entryFrame m #[.ref b, .int (Int32.ofNat o), .ref d, .int (Int32.ofNat q), .int (Int32.ofNat len)] 7)) (T7.setTop (mkF m 3 #[.val (.ref b), .val (.int (Int32.ofNat (o + i) + 1)), .val (.ref d), .val (.int (Int32.ofNat (q + i) + 1)), .val (.int (Int32.ofNat len)), .val (.int (Int32.ofNat i + 1)), .val (.int (cv A (o + i)))] [])) := c8.trans (by
        refine iincV X7.here hexec rfl 1 (hb hbytes d32) (by decide) rfl rfl ?_
        refine iincV X7.here hexec rfl 1 (hb hbytes d35) (by decide) rfl rfl ?_
        refine iincV X7.here hexec rfl 1 (hb hbytes d38) (by decide) rfl rfl ?_
        refine XS.goto X7.here hexec rfl (pc0 := 41) rfl (hb hbytes d41) (by decide) rfl ?_
        exact Steps.refl _)
      have c10 : Steps p.tables e below (s₁.setTop (entryFrame m #[.ref b, .int (Int32.ofNat o), .ref d, .int (Int32.ofNat q), .int (Int32.ofNat len)] 7)) (T7.setTop (mkF m 3 #[.val (.ref b), .val (.int (Int32.ofNat (o + (i + 1)))), .val (.ref d), .val (.int (Int32.ofNat (q + (i + 1)))), .val (.int (Int32.ofNat len)), .val (.int (Int32.ofNat (i + 1))), .val (.int (cv A (o + i)))] [])) := by
        have := c9
        rw [succ32, succ32, succ32] at this
        exact this
      exact ih (i + 1) (by omega) _ (Or.inr ⟨_, rfl, rfl⟩) T7 _ (by rw [copyLocs_step, ← List.append_assoc]; exact X7) (pl.trans p7) (fl.step (by omega) hlt (by simp)) c10
  obtain ⟨T9, B9, z9, X9, p9, f9, g9⟩ := loop len 0 (by omega) .unset (Or.inl rfl) s₁ B (by simpa [copyLocs] using X0) ⟨hB0.1, fun _ _ => rfl, rfl⟩ (Laid.zero _ _ _) c2
  have c11 : Steps p.tables e below (s₁.setTop (entryFrame m #[.ref b, .int (Int32.ofNat o), .ref d, .int (Int32.ofNat q), .int (Int32.ofNat len)] 7)) (T9.setTop (mkF m 46 #[.val (.ref b), .val (.int (Int32.ofNat (o + len))), .val (.ref d), .val (.int (Int32.ofNat (q + len))), .val (.int (Int32.ofNat len)), .val (.int (Int32.ofNat len)), z9] [.int (Int32.ofNat len)])) := g9.trans (by
    refine XS.iload X9.here hexec rfl (hb hbytes d3) rfl ?_
    refine XS.iload X9.here hexec rfl (hb hbytes d5) rfl ?_
    refine XS.icmpYes X9.here hexec rfl (pc0 := 7) rfl (hb hbytes d7) rfl (ii_ge_t (nlt32 (by omega) (Nat.le_refl _))) (by decide) rfl ?_
    refine XS.iload X9.here hexec rfl (hb hbytes d44) rfl ?_
    exact Steps.refl _)
  exact ⟨T9, some (.int (Int32.ofNat len)), _, _, _, X9, by simp, rfl, rfl, (fun h => by cases h), ⟨rfl, B9, p9.from hh0, f9⟩, fun fs hl => c11.trans (X9.ireturnOut hexec hret rfl (Or.inl rfl) (hb hbytes d46) hl)⟩
end Cmp5
namespace Cmp3
def yN : MethodName := ⟨"java/lang/StringUTF16", "compress", "([CII)[B"⟩
abbrev yB : ByteArray := jdk_52_method_16_code
theorem d0 : decode yB 0 = .ok (.iload_n 2, 1) := by decide +kernel
theorem d1 : decode yB 1 = .ok (.newarray .byte, 2) := by decide +kernel
theorem d3 : decode yB 3 = .ok (.astore_n 3, 1) := by decide +kernel
theorem d4 : decode yB 4 = .ok (.aload_n 0, 1) := by decide +kernel
theorem d5 : decode yB 5 = .ok (.iload_n 1, 1) := by decide +kernel
theorem d6 : decode yB 6 = .ok (.aload_n 3, 1) := by decide +kernel
theorem d7 : decode yB 7 = .ok (.iconst 0, 1) := by decide +kernel
theorem d8 : decode yB 8 = .ok (.iload_n 2, 1) := by decide +kernel
theorem d9 : decode yB 9 = .ok (.invokestatic 115, 3) := by decide +kernel
theorem d12 : decode yB 12 = .ok (.istore 4, 2) := by decide +kernel
theorem d14 : decode yB 14 = .ok (.iload 4, 2) := by decide +kernel
theorem d16 : decode yB 16 = .ok (.iload_n 2, 1) := by decide +kernel
theorem d17 : decode yB 17 = .ok (.if_icmp (.eq) 40, 3) := by decide +kernel
theorem d57 : decode yB 57 = .ok (.aload_n 3, 1) := by decide +kernel
theorem d58 : decode yB 58 = .ok (.areturn, 1) := by decide +kernel
def site : List Cond := [.arrayClass .byte, Cmp5.tab] ++ staticW U16 115 Cmp5.yN
def tab : Cond := tabOf yN yB 6 (some (.array .byte)) site
def P (b : Addr) (A : Cell) (o len : Nat) (args : Array Value) (s : State) : Prop := args = #[.ref b, .int (Int32.ofNat o), .int (Int32.ofNat len)] ∧ Ch b A s ∧ o + len ≤ A.slots.size ∧ len ≤ 536870912 ∧ ∀ i, i < len → ¬ 255 < cv A (o + i)
def E (b : Addr) (A : Cell) (o len : Nat) (r : Option Value) (s u : State) : Prop := NewArr .byte "[B" len (fun j => .int (lo8 (cv A (o + j)))) r s u ∧ u.heap.size = s.heap.size + 1
/-- no char of the range above 255: a new byte[] of their low bytes -/
theorem law (l : Launch) (b : Addr) (A : Cell) (o len : Nat) : Law l yN 3 3 1 18 yB 6 (some (.array .byte)) site (P b A o len) (E b A o len) [] 1 len := by
  refine Law.of_walk (plainFor_of_name (by decide +kernel)) (by decide +kernel) (by decide +kernel) (by decide) (fun _ _ h => by rw [h.1]; rfl) (fun _ U U' hal hh h => ⟨h.1, h.2.1.mv hal hh, h.2.2⟩) (fun r U U' V V' h1 hal h2 h => ⟨NewArr.mv r U U' V V' h1 hal h2 h.1, by rw [h1, h2]; exact h.2⟩) ?_
  intro p e s m args below meth c s₁ X0 hexec hbytes hml hret hlk hnm hown hh0 W hP
  obtain ⟨rfl, hA, l1, l2, hp⟩ := hP
  have a31 := hA.1.2.2.2
  have c1 : Steps p.tables e below (s₁.setTop (entryFrame m #[.ref b, .int (Int32.ofNat o), .int (Int32.ofNat len)] 6)) (s₁.setTop (mkF m 0 #[.val (.ref b), .val (.int (Int32.ofNat o)), .val (.int (Int32.ofNat len)), .unset, .unset, .unset] [])) := entry rfl
  have c2 : Steps p.tables e below (s₁.setTop (entryFrame m #[.ref b, .int (Int32.ofNat o), .int (Int32.ofNat len)] 6)) (s₁.setTop (mkF m 1 #[.val (.ref b), .val (.int (Int32.ofNat o)), .val (.int (Int32.ofNat len)), .unset, .unset, .unset] [.int (Int32.ofNat len)])) := c1.trans (by
    refine XS.iloadN X0.here hexec rfl (hb hbytes d0) rfl ?_
    exact Steps.refl _)
  obtain ⟨T3, B3, X3, ba3, bs3, bv3, bh3, bf3, st3⟩ := X0.anew hexec (atype := .byte) (wk W (.arrayClass .byte)) rfl (by show len * 1 ≤ _; omega) (by omega) (g := (mkF m 1 #[.val (.ref b), .val (.int (Int32.ofNat o)), .val (.int (Int32.ofNat len)), .unset, .unset, .unset] [.int (Int32.ofNat len)])) rfl (hb hbytes d1) (rest := []) rfl (Nat.le_refl _) (by show 0 + len ≤ len; omega)
  rw [hh0] at ba3 st3
  have kp3 : XT.Kept s T3 := (XT.Kept.of_eq hh0).push bh3
  have hA3 := hA.keep X3.warmed.alike (kp3 _ _ hA.1.1)
  have hne : b ≠ s.heap.size := hA.1.ne
  have c4 : Steps p.tables e below (s₁.setTop (entryFrame m #[.ref b, .int (Int32.ofNat o), .int (Int32.ofNat len)] 6)) (T3.setTop (mkF m 3 #[.val (.ref b), .val (.int (Int32.ofNat o)), .val (.int (Int32.ofNat len)), .unset, .unset, .unset] [.ref s.heap.size])) := c2.trans (st3 _ (Steps.refl _))
  have c5 : Steps p.tables e below (s₁.setTop (entryFrame m #[.ref b, .int (Int32.ofNat o), .int (Int32.ofNat len)] 6)) (T3.setTop (mkF m 9 #[.val (.ref b), .val (.int (Int32.ofNat o)), .val (.int (Int32.ofNat len)), .val (.ref s.heap.size), .unset, .unset] [.int (Int32.ofNat len), .int 0, .ref s.heap.size, .int (Int32.ofNat o), .ref b])) := c4.trans (by
    refine XS.astoreN X3.here hexec rfl (hb hbytes d3) rfl rfl rfl ?_
    refine XS.aloadN X3.here hexec rfl (hb hbytes d4) rfl rfl ?_
    refine XS.iloadN X3.here hexec rfl (hb hbytes d5) rfl ?_
    refine XS.aloadN X3.here hexec rfl (hb hbytes d6) rfl rfl ?_
    refine iconstV X3.here hexec rfl 0 (hb hbytes d7) (by decide) ?_
    refine XS.iloadN X3.here hexec rfl (hb hbytes d8) rfl ?_
    exact Steps.refl _)
  obtain ⟨v6, T6, X6, E6, g6⟩ := X3.callS hexec (Cmp5.law l b A s.heap.size B3 o 0 len) hown (wks W (staticW U16 115 Cmp5.yN)) (wk W Cmp5.tab) (W := 0) (Nat.le_of_ble_eq_true rfl) (Nat.le_of_ble_eq_true rfl) (Nat.le_refl _) (by show 0 + len + 0 ≤ len; omega) (g := (mkF m 9 #[.val (.ref b), .val (.int (Int32.ofNat o)), .val (.int (Int32.ofNat len)), .val (.ref s.heap.size), .unset, .unset] [.int (Int32.ofNat len), .int (Int32.ofNat 0), .ref s.heap.size, .int (Int32.ofNat o), .ref b])) rfl (by rw [hml]; rfl) c5 (argsL := [.ref b, .int (Int32.ofNat o), .ref s.heap.size, .int (Int32.ofNat 0), .int (Int32.ofNat len)]) (rest := []) rfl rfl (by show 2 * 0 + 0 ≤ _; decide) (hb hbytes d9) (⟨rfl, hA3, ba3, hne, l1, by rw [bs3]; simp, hp⟩)
  obtain ⟨rfl, B6, p6, f6⟩ := E6
  have c7 : Steps p.tables e below (s₁.setTop (entryFrame m #[.ref b, .int (Int32.ofNat o), .int (Int32.ofNat len)] 6)) (T6.setTop (mkF m 12 #[.val (.ref b), .val (.int (Int32.ofNat o)), .val (.int (Int32.ofNat len)), .val (.ref s.heap.size), .unset, .unset] [.int (Int32.ofNat len)])) := g6
  have c8 : Steps p.tables e below (s₁.setTop (entryFrame m #[.ref b, .int (Int32.ofNat o), .int (Int32.ofNat len)] 6)) (T6.setTop (mkF m 58 #[.val (.ref b), .val (.int (Int32.ofNat o)), .val (.int (Int32.ofNat len)), .val (.ref s.heap.size), .val (.int (Int32.ofNat len)), .unset] [.ref s.heap.size])) := c7.trans (by
    refine XS.istore X6.here hexec rfl (hb hbytes d12) rfl rfl ?_
    refine XS.iload X6.here hexec rfl (hb hbytes d14) rfl ?_
    refine XS.iloadN X6.here hexec rfl (hb hbytes d16) rfl ?_
    refine XS.icmpYes X6.here hexec rfl (pc0 := 17) rfl (hb hbytes d17) rfl (ii_eq_t rfl) (by decide) rfl ?_
    refine XS.aloadN X6.here hexec rfl (hb hbytes d57) rfl rfl ?_
    exact Steps.refl _)
  have X8 := X6.wide (L' := []) (cells' := 1) (slots' := len) (fun x hx hlt => by
    simp only [List.nil_append, copyLocs, List.mem_map, List.mem_range] at hx
    obtain ⟨i, -, rfl⟩ := hx
    exact absurd hlt (Nat.lt_irrefl _)) (Nat.le_refl _) (by omega)
  exact ⟨T6, some (.ref s.heap.size), _, _, _, X8, rfl, rfl, rfl, (fun h => by cases h), ⟨⟨rfl, B6, ba3.like (X3.warmed.alike.symm.trans X6.warmed.alike) p6.1 f6.1 f6.2.1 f6.2.2.1, f6.2.1.trans bv3, by rw [X6.warmed.alike.findClass, f6.1]; exact bf3, by rw [f6.2.2.1, bs3]; simp, fun j hj => by rw [f6.2.2.2 j, if_pos (by omega)]; rfl, kp3.put p6 (Nat.le_refl _)⟩, by rw [p6.2.2, bh3, hh0]; simp⟩, fun fs hl => c8.trans (X8.areturnOut hexec rfl hret rfl (hb hbytes d58) hl)⟩
end Cmp3
namespace CodL
def yN : MethodName := ⟨"java/lang/StringUTF16", "coderFromArrayLen", "([BI)B"⟩
abbrev yB : ByteArray := jdk_52_method_15_code
theorem d0 : decode yB 0 = .ok (.iload_n 1, 1) := by decide +kernel
theorem d1 : decode yB 1 = .ok (.aload_n 0, 1) := by decide +kernel
theorem d2 : decode yB 2 = .ok (.arraylength, 1) := by decide +kernel
theorem d3 : decode yB 3 = .ok (.isub, 1) := by decide +kernel
theorem d4 : decode yB 4 = .ok (.bipush 31, 2) := by decide +kernel
theorem d6 : decode yB 6 = .ok (.iushr, 1) := by decide +kernel
theorem d7 : decode yB 7 = .ok (.i2b, 1) := by decide +kernel
theorem d8 : decode yB 8 = .ok (.ireturn, 1) := by decide +kernel
def site : List Cond := []
def tab : Cond := tabOf yN yB 2 (some .byte) site
def P (d : Addr) (B : Cell) (args : Array Value) (s : State) : Prop := args = #[.ref d, .int (Int32.ofNat B.slots.size)] ∧ Arr .byte d B s
def E (r : Option Value) (s u : State) : Prop := XT.PureE (some (.int 0)) r s u
/-- an array as long as the number of chars: LATIN1 -/
theorem law (l : Launch) (d : Addr) (B : Cell) : Law l yN 2 2 0 0 yB 2 (some .byte) site (P d B) E [] 0 0 := by
  refine Law.of_walk (plainFor_of_name (by decide +kernel)) (by decide +kernel) (by decide +kernel) (by decide) (fun _ _ h => by rw [h.1]; rfl) (fun _ U U' hal hh h => ⟨h.1, h.2.mv hal hh⟩) (fun r U U' V V' h1 hal h2 h => XT.PureE.mv r U U' V V' h1 hal h2 h) ?_
  intro p e s m args below meth c s₁ X0 hexec hbytes hml hret hlk hnm hown hh0 W hP
  obtain ⟨rfl, hB⟩ := hP
  have hB0 := hB.mv X0.warmed.alike hh0
  have c1 : Steps p.tables e below (s₁.setTop (entryFrame m #[.ref d, .int (Int32.ofNat B.slots.size)] 2)) (s₁.setTop (mkF m 0 #[.val (.ref d), .val (.int (Int32.ofNat B.slots.size))] [])) := entry rfl
  have c2 : Steps p.tables e below (s₁.setTop (entryFrame m #[.ref d, .int (Int32.ofNat B.slots.size)] 2)) (s₁.setTop (mkF m 2 #[.val (.ref d), .val (.int (Int32.ofNat B.slots.size))] [.ref d, .int (Int32.ofNat B.slots.size)])) := c1.trans (by
    refine XS.iloadN X0.here hexec rfl (hb hbytes d0) rfl ?_
    refine XS.aloadN X0.here hexec rfl (hb hbytes d1) rfl rfl ?_
    exact Steps.refl _)
  have c3 : Steps p.tables e below (s₁.setTop (entryFrame m #[.ref d, .int (Int32.ofNat B.slots.size)] 2)) (s₁.setTop (mkF m 8 #[.val (.ref d), .val (.int (Int32.ofNat B.slots.size))] [.int (lo8 (ushr (Int32.ofNat B.slots.size - Int32.ofNat B.slots.size) 31))])) := c2.trans (by
    refine X0.alen hexec hB0 rfl rfl (hb hbytes d2) ?_
    refine XS.isub X0.here hexec rfl (hb hbytes d3) rfl ?_
    refine bipushV X0.here hexec rfl 31 (hb hbytes d4) (by decide) ?_
    refine iushr X0.here hexec rfl (hb hbytes d6) rfl ?_
    refine i2b X0.here hexec rfl (hb hbytes d7) rfl ?_
    exact Steps.refl _)
  have e0 : lo8 (ushr (Int32.ofNat B.slots.size - Int32.ofNat B.slots.size) 31) = 0 := by rw [Int32.sub_self]; decide
  rw [e0] at c3
  exact ⟨s₁, some (.int 0), _, _, _, X0, rfl, rfl, rfl, (fun h => by cases h), ⟨rfl, hh0⟩, fun fs hl => c3.trans (X0.ireturnOut hexec hret rfl (Or.inr (Or.inr (Or.inl rfl))) (hb hbytes d8) hl)⟩
end CodL
/-- the String at a is Latin-1 over a new byte[] (the heap's one new cell): the low bytes of the len chars of A from o on; every cell but a is kept -/
def Got (a : Addr) (D : Cell) (fV fC : Field) (A : Cell) (o len : Nat) (r : Option Value) (s u : State) : Prop := r = none ∧ ∃ D' V : Cell, Blank "java/lang/String" a D' u ∧ Same D D' [fV.slot, fC.slot] ∧ D'.slots[fV.slot]? = some (.ref s.heap.size) ∧ D'.slots[fC.slot]? = some (.int 0) ∧ Arr .byte s.heap.size V u ∧ V.vm = .none ∧ u.vm.findClass "[B" = some V.cls ∧ V.slots.size = len ∧ (∀ j, j < len → V.slots[j]? = some (.int (lo8 (cv A (o + j))))) ∧ (∀ (y : Addr) (c : Cell), y ≠ a → s.heap[y]? = some c → u.heap[y]? = some c) ∧ u.heap.size = s.heap.size + 1
theorem Got.mv {a : Addr} {D A : Cell} {fV fC : Field} {o len : Nat} : ∀ r (U U' V V' : State), U'.heap = U.heap → V.vm.Alike V'.vm → V'.heap = V.heap → Got a D fV fC A o len r U V → Got a D fV fC A o len r U' V' :=
  fun r U U' V V' h1 hal h2 ⟨e0, D', X, a1, a2, a3, a4, a5, a6, a7, a8, a9, a10, a11⟩ => ⟨e0, D', X, a1.mv hal h2, a2, by rw [h1]; exact a3, a4, by rw [h1]; exact a5.mv hal h2, a6, by rw [hal.findClass]; exact a7, a8, a9, by rw [h1, h2]; exact a10, by rw [h1, h2]; exact a11⟩
namespace New4
def yN : MethodName := ⟨"java/lang/String", "<init>", "([CIILjava/lang/Void;)V"⟩
abbrev yB : ByteArray := jdk_42_method_149_code
theorem d0 : decode yB 0 = .ok (.aload_n 0, 1) := by decide +kernel
theorem d1 : decode yB 1 = .ok (.invokespecial 1, 3) := by decide +kernel
theorem d4 : decode yB 4 = .ok (.iload_n 3, 1) := by decide +kernel
theorem d5 : decode yB 5 = .ok (.ifCond (.ne) 22, 3) := by decide +kernel
theorem d27 : decode yB 27 = .ok (.getstatic 38, 3) := by decide +kernel
theorem d30 : decode yB 30 = .ok (.ifCond (.eq) 28, 3) := by decide +kernel
theorem d33 : decode yB 33 = .ok (.aload_n 1, 1) := by decide +kernel
theorem d34 : decode yB 34 = .ok (.iload_n 2, 1) := by decide +kernel
theorem d35 : decode yB 35 = .ok (.iload_n 3, 1) := by decide +kernel
theorem d36 : decode yB 36 = .ok (.invokestatic 177, 3) := by decide +kernel
theorem d39 : decode yB 39 = .ok (.astore 5, 2) := by decide +kernel
theorem d41 : decode yB 41 = .ok (.aload_n 0, 1) := by decide +kernel
theorem d42 : decode yB 42 = .ok (.aload 5, 2) := by decide +kernel
theorem d44 : decode yB 44 = .ok (.iload_n 3, 1) := by decide +kernel
theorem d45 : decode yB 45 = .ok (.invokestatic 47, 3) := by decide +kernel
theorem d48 : decode yB 48 = .ok (.putfield 15, 3) := by decide +kernel
theorem d51 : decode yB 51 = .ok (.aload_n 0, 1) := by decide +kernel
theorem d52 : decode yB 52 = .ok (.aload 5, 2) := by decide +kernel
theorem d54 : decode yB 54 = .ok (.putfield 9, 3) := by decide +kernel
theorem d57 : decode yB 57 = .ok (.return_, 1) := by decide +kernel
def site : List Cond := [.fieldLink "java/lang/String" 38 "java/lang/String" "COMPACT_STRINGS" "Z", Cmp3.tab, CodL.tab, .laysFinal "java/lang/String" "java/lang/String" "value" "[B", .fieldLink "java/lang/String" 9 "java/lang/String" "value" "[B", .laysFinal "java/lang/String" "java/lang/String" "coder" "B", .fieldLink "java/lang/String" 15 "java/lang/String" "coder" "B"] ++ objW "java/lang/String" 1 ++ staticW "java/lang/String" 177 Cmp3.yN ++ staticW "java/lang/String" 47 CodL.yN
def tab : Cond := tabOf yN yB 6 none site
def P (a : Addr) (D : Cell) (fV fC : Field) (b : Addr) (A : Cell) (z : Int32) (o len : Nat) (args : Array Value) (s : State) : Prop := args = #[.ref a, .ref b, .int (Int32.ofNat o), .int (Int32.ofNat len), .null] ∧ Blank "java/lang/String" a D s ∧ Found "java/lang/String" "value" "[B" fV s ∧ Found "java/lang/String" "coder" "B" fC s ∧ Ch b A s ∧ StaticIs s "java/lang/String" "COMPACT_STRINGS" "Z" (.int z) ∧ ¬ z = 0 ∧ 0 < len ∧ o + len ≤ A.slots.size ∧ len ≤ 536870912 ∧ ∀ i, i < len → ¬ 255 < cv A (o + i)
def E (a : Addr) (D : Cell) (fV fC : Field) (A : Cell) (o len : Nat) (r : Option Value) (s u : State) : Prop := Got a D fV fC A o len r s u
/-- len > 0, no char of the range above 255: a Latin-1 String of their low bytes -/
theorem law (l : Launch) (a : Addr) (D : Cell) (fV fC : Field) (b : Addr) (A : Cell) (z : Int32) (o len : Nat) : Law l yN 5 4 2 35 yB 6 none site (P a D fV fC b A z o len) (E a D fV fC A o len) [⟨a, fC.slot⟩, ⟨a, fV.slot⟩] 1 len := by
  refine Law.of_walk (plainFor_of_name (by decide +kernel)) (by decide +kernel) (by decide +kernel) (by decide) (fun _ _ h => by rw [h.1]; rfl) (fun _ U U' hal hh h => ⟨h.1, h.2.1.mv hal hh, h.2.2.1.al hal, h.2.2.2.1.al hal, h.2.2.2.2.1.mv hal hh, h.2.2.2.2.2.1.there hal hh, h.2.2.2.2.2.2⟩) (fun r U U' V V' h1 hal h2 h => Got.mv r U U' V V' h1 hal h2 h) ?_
  intro p e s m args below meth c s₁ X0 hexec hbytes hml hret hlk hnm hown hh0 W hP
  obtain ⟨rfl, hB, f1, f2, hA, s1, hz, l0, l1, l2, hp⟩ := hP
  have a31 := hA.1.2.2.2
  have c1 : Steps p.tables e below (s₁.setTop (entryFrame m #[.ref a, .ref b, .int (Int32.ofNat o), .int (Int32.ofNat len), .null] 6)) (s₁.setTop (mkF m 0 #[.val (.ref a), .val (.ref b), .val (.int (Int32.ofNat o)), .val (.int (Int32.ofNat len)), .val .null, .unset] [])) := entry rfl
  have c2 : Steps p.tables e below (s₁.setTop (entryFrame m #[.ref a, .ref b, .int (Int32.ofNat o), .int (Int32.ofNat len), .null] 6)) (s₁.setTop (mkF m 1 #[.val (.ref a), .val (.ref b), .val (.int (Int32.ofNat o)), .val (.int (Int32.ofNat len)), .val .null, .unset] [.ref a])) := c1.trans (by
    refine XS.aloadN X0.here hexec rfl (hb hbytes d0) rfl rfl ?_
    exact Steps.refl _)
  obtain ⟨T3, X3, q3, st3⟩ := X0.oinit hexec hown (wks W (objW "java/lang/String" 1)) (g := (mkF m 1 #[.val (.ref a), .val (.ref b), .val (.int (Int32.ofNat o)), .val (.int (Int32.ofNat len)), .val .null, .unset] [.ref a])) rfl (by rw [hml]; rfl) (rest := []) rfl (hb hbytes d1) (W := 0) (by show 2 * 0 + 0 ≤ _; decide) (Nat.le_of_ble_eq_true rfl) (Nat.le_of_ble_eq_true rfl)
  have hh3 := q3.trans hh0
  have c4 : Steps p.tables e below (s₁.setTop (entryFrame m #[.ref a, .ref b, .int (Int32.ofNat o), .int (Int32.ofNat len), .null] 6)) (T3.setTop (mkF m 27 #[.val (.ref a), .val (.ref b), .val (.int (Int32.ofNat o)), .val (.int (Int32.ofNat len)), .val .null, .unset] [])) := (c2.trans (st3 _ (Steps.refl _))).trans (by
    refine XS.iloadN X3.here hexec rfl (hb hbytes d4) rfl ?_
    refine XS.ifYes X3.here hexec rfl (pc0 := 5) rfl (hb hbytes d5) rfl (i0_ne_t (nz32 (by omega) l0)) (by decide) rfl ?_
    exact Steps.refl _)
  obtain ⟨T5, X5, q5, st5⟩ := X3.sget hexec hown (wk W (.fieldLink "java/lang/String" 38 "java/lang/String" "COMPACT_STRINGS" "Z")) s1 (fun _ _ h => by rw [hh3]; exact h) (g := (mkF m 27 #[.val (.ref a), .val (.ref b), .val (.int (Int32.ofNat o)), .val (.int (Int32.ofNat len)), .val .null, .unset] [])) rfl (hb hbytes d27)
  have hh5 := q5.trans hh3
  have c6 : Steps p.tables e below (s₁.setTop (entryFrame m #[.ref a, .ref b, .int (Int32.ofNat o), .int (Int32.ofNat len), .null] 6)) (T5.setTop (mkF m 30 #[.val (.ref a), .val (.ref b), .val (.int (Int32.ofNat o)), .val (.int (Int32.ofNat len)), .val .null, .unset] [.int z])) := c4.trans (st5 _ (Steps.refl _))
  have c7 : Steps p.tables e below (s₁.setTop (entryFrame m #[.ref a, .ref b, .int (Int32.ofNat o), .int (Int32.ofNat len), .null] 6)) (T5.setTop (mkF m 36 #[.val (.ref a), .val (.ref b), .val (.int (Int32.ofNat o)), .val (.int (Int32.ofNat len)), .val .null, .unset] [.int (Int32.ofNat len), .int (Int32.ofNat o), .ref b])) := c6.trans (by
    refine XS.ifNo X5.here hexec rfl (hb hbytes d30) rfl (i0_eq_f hz) ?_
    refine XS.aloadN X5.here hexec rfl (hb hbytes d33) rfl rfl ?_
    refine XS.iloadN X5.here hexec rfl (hb hbytes d34) rfl ?_
    refine XS.iloadN X5.here hexec rfl (hb hbytes d35) rfl ?_
    exact Steps.refl _)
  obtain ⟨v8, T8, X8, E8, g8⟩ := X5.callS hexec (Cmp3.law l b A o len) hown (wks W (staticW "java/lang/String" 177 Cmp3.yN)) (wk W Cmp3.tab) (W := 0) (Nat.le_of_ble_eq_true rfl) (Nat.le_of_ble_eq_true rfl) (Nat.le_refl _) (by show 0 + len ≤ len; omega) (g := (mkF m 36 #[.val (.ref a), .val (.ref b), .val (.int (Int32.ofNat o)), .val (.int (Int32.ofNat len)), .val .null, .unset] [.int (Int32.ofNat len), .int (Int32.ofNat o), .ref b])) rfl (by rw [hml]; rfl) c7 (argsL := [.ref b, .int (Int32.ofNat o), .int (Int32.ofNat len)]) (rest := []) rfl rfl (by show 2 * 0 + 0 ≤ _; decide) (hb hbytes d36) (⟨rfl, hA.mv X5.warmed.alike hh5, l1, l2, hp⟩)
  obtain ⟨e8, z8⟩ := E8
  obtain ⟨rfl, N, n1, n2, n3, n4, n5, n6⟩ := NewArr.mv _ T5 s _ _ hh5.symm (Vm.Alike.refl _) rfl e8
  rw [hh5] at z8
  have hB1 := hB.keep X8.warmed.alike (n6 _ _ hB.1)
  have hne : s.heap.size ≠ a := (Nat.ne_of_lt (Array.getElem?_eq_some_iff.mp hB.1).1).symm
  have c9 : Steps p.tables e below (s₁.setTop (entryFrame m #[.ref a, .ref b, .int (Int32.ofNat o), .int (Int32.ofNat len), .null] 6)) (T8.setTop (mkF m 39 #[.val (.ref a), .val (.ref b), .val (.int (Int32.ofNat o)), .val (.int (Int32.ofNat len)), .val .null, .unset] [.ref s.heap.size])) := g8
  have c10 : Steps p.tables e below (s₁.setTop (entryFrame m #[.ref a, .ref b, .int (Int32.ofNat o), .int (Int32.ofNat len), .null] 6)) (T8.setTop (mkF m 45 #[.val (.ref a), .val (.ref b), .val (.int (Int32.ofNat o)), .val (.int (Int32.ofNat len)), .val .null, .val (.ref s.heap.size)] [.int (Int32.ofNat N.slots.size), .ref s.heap.size, .ref a])) := by
    have hc : Steps p.tables e below (s₁.setTop (entryFrame m #[.ref a, .ref b, .int (Int32.ofNat o), .int (Int32.ofNat len), .null] 6)) (T8.setTop (mkF m 45 #[.val (.ref a), .val (.ref b), .val (.int (Int32.ofNat o)), .val (.int (Int32.ofNat len)), .val .null, .val (.ref s.heap.size)] [.int (Int32.ofNat len), .ref s.heap.size, .ref a])) := c9.trans (by
      refine XS.astore X8.here hexec rfl (hb hbytes d39) rfl rfl rfl ?_
      refine XS.aloadN X8.here hexec rfl (hb hbytes d41) rfl rfl ?_
      refine XS.aload X8.here hexec rfl (hb hbytes d42) rfl rfl ?_
      refine XS.iloadN X8.here hexec rfl (hb hbytes d44) rfl ?_
      exact Steps.refl _)
    rw [n4]; exact hc
  obtain ⟨v11, T11, X11, E11, g11⟩ := X8.callS hexec (CodL.law l s.heap.size N) hown (wks W (staticW "java/lang/String" 47 CodL.yN)) (wk W CodL.tab) (W := 1) (Nat.le_of_ble_eq_true rfl) (Nat.le_of_ble_eq_true rfl) (Nat.le_refl _) (by show 0 + len + 0 ≤ len; omega) (g := (mkF m 45 #[.val (.ref a), .val (.ref b), .val (.int (Int32.ofNat o)), .val (.int (Int32.ofNat len)), .val .null, .val (.ref s.heap.size)] [.int (Int32.ofNat N.slots.size), .ref s.heap.size, .ref a])) rfl (by rw [hml]; rfl) c10 (argsL := [.ref s.heap.size, .int (Int32.ofNat N.slots.size)]) (rest := [.ref a]) rfl rfl (by show 2 * 0 + (1 + 0) ≤ _; decide) (hb hbytes d45) (⟨rfl, n1⟩)
  obtain ⟨rfl, q11⟩ := E11
  have hB11 := hB1.mv (X8.warmed.alike.symm.trans X11.warmed.alike) q11
  have c12 : Steps p.tables e below (s₁.setTop (entryFrame m #[.ref a, .ref b, .int (Int32.ofNat o), .int (Int32.ofNat len), .null] 6)) (T11.setTop (mkF m 48 #[.val (.ref a), .val (.ref b), .val (.int (Int32.ofNat o)), .val (.int (Int32.ofNat len)), .val .null, .val (.ref s.heap.size)] [.int 0, .ref a])) := g11
  obtain ⟨T13, X13, p13, bl13, sl13, st13⟩ := X11.finit hexec hown (wk W (.fieldLink "java/lang/String" 15 "java/lang/String" "coder" "B")) (Or.inr ⟨_, (wk W (.laysFinal "java/lang/String" "java/lang/String" "coder" "B"))⟩) (Or.inl ⟨rfl, hnm⟩) f2 (Or.inl rfl) hB11 (t := .byte) (by decide +kernel) rfl (g := (mkF m 48 #[.val (.ref a), .val (.ref b), .val (.int (Int32.ofNat o)), .val (.int (Int32.ofNat len)), .val .null, .val (.ref s.heap.size)] [.int 0, .ref a])) rfl (rest := []) rfl (hb hbytes d48)
  have c14 : Steps p.tables e below (s₁.setTop (entryFrame m #[.ref a, .ref b, .int (Int32.ofNat o), .int (Int32.ofNat len), .null] 6)) (T13.setTop (mkF m 54 #[.val (.ref a), .val (.ref b), .val (.int (Int32.ofNat o)), .val (.int (Int32.ofNat len)), .val .null, .val (.ref s.heap.size)] [.ref s.heap.size, .ref a])) := (c12.trans (st13 _ (Steps.refl _))).trans (by
    refine XS.aloadN X13.here hexec rfl (hb hbytes d51) rfl rfl ?_
    refine XS.aload X13.here hexec rfl (hb hbytes d52) rfl rfl ?_
    exact Steps.refl _)
  obtain ⟨T15, X15, p15, bl15, sl15, st15⟩ := X13.finit hexec hown (wk W (.fieldLink "java/lang/String" 9 "java/lang/String" "value" "[B")) (Or.inr ⟨_, (wk W (.laysFinal "java/lang/String" "java/lang/String" "value" "[B"))⟩) (Or.inl ⟨rfl, hnm⟩) f1 (Or.inl rfl) bl13 (t := (.array .byte)) (by decide +kernel) rfl (g := (mkF m 54 #[.val (.ref a), .val (.ref b), .val (.int (Int32.ofNat o)), .val (.int (Int32.ofNat len)), .val .null, .val (.ref s.heap.size)] [.ref s.heap.size, .ref a])) rfl (rest := []) rfl (hb hbytes d54)
  have c16 : Steps p.tables e below (s₁.setTop (entryFrame m #[.ref a, .ref b, .int (Int32.ofNat o), .int (Int32.ofNat len), .null] 6)) (T15.setTop (mkF m 57 #[.val (.ref a), .val (.ref b), .val (.int (Int32.ofNat o)), .val (.int (Int32.ofNat len)), .val .null, .val (.ref s.heap.size)] [])) := c14.trans (st15 _ (Steps.refl _))
  have ap := apart (Or.inr ⟨_, (wk W (.laysFinal "java/lang/String" "java/lang/String" "value" "[B"))⟩) (Or.inr ⟨_, (wk W (.laysFinal "java/lang/String" "java/lang/String" "coder" "B"))⟩) f1 f2 (t₁ := .array .byte) (t₂ := .byte) (by decide +kernel) (by decide +kernel) (by decide)
  have al := X8.warmed.alike.symm.trans X15.warmed.alike
  have n7 : T11.heap[s.heap.size]? = some N := by rw [q11]; exact n1.1
  exact ⟨T15, none, _, _, _, X15, by simp, rfl, by omega, (fun _ => rfl), ⟨rfl, _, N, bl15, ((Same.refl D _).set _ (by simp)).set _ (by simp), sl15, (Cell.slots_setSlot_ne _ ap).trans sl13, n1.keep al (p15.other hne (p13.other hne n7)), n2, by rw [al.findClass]; exact n3, n4, n5, fun y c h1 h2 => p15.other h1 (p13.other h1 (by rw [q11]; exact n6 y c h2)), by rw [p15.2.2, p13.2.2, q11]; exact z8⟩, fun fs hl => c16.trans (X15.returnOut hexec hret (hb hbytes d57) hl)⟩
end New4
namespace New1
def yN : MethodName := ⟨"java/lang/String", "<init>", "([C)V"⟩
abbrev yB : ByteArray := jdk_42_method_3_code
theorem d0 : decode yB 0 = .ok (.aload_n 0, 1) := by decide +kernel
theorem d1 : decode yB 1 = .ok (.aload_n 1, 1) := by decide +kernel
theorem d2 : decode yB 2 = .ok (.iconst 0, 1) := by decide +kernel
theorem d3 : decode yB 3 = .ok (.aload_n 1, 1) := by decide +kernel
theorem d4 : decode yB 4 = .ok (.arraylength, 1) := by decide +kernel
theorem d5 : decode yB 5 = .ok (.aconst_null, 1) := by decide +kernel
theorem d6 : decode yB 6 = .ok (.invokespecial 27, 3) := by decide +kernel
theorem d9 : decode yB 9 = .ok (.return_, 1) := by decide +kernel
def site : List Cond := [New4.tab] ++ initW "java/lang/String" 27 New4.yN
def tab : Cond := tabOf yN yB 2 none site
def P (a : Addr) (D : Cell) (fV fC : Field) (b : Addr) (A : Cell) (z : Int32) (args : Array Value) (s : State) : Prop := args = #[.ref a, .ref b] ∧ Blank "java/lang/String" a D s ∧ Found "java/lang/String" "value" "[B" fV s ∧ Found "java/lang/String" "coder" "B" fC s ∧ Ch b A s ∧ StaticIs s "java/lang/String" "COMPACT_STRINGS" "Z" (.int z) ∧ ¬ z = 0 ∧ 0 < A.slots.size ∧ A.slots.size ≤ 536870912 ∧ ∀ i, i < A.slots.size → ¬ 255 < cv A i
def E (a : Addr) (D : Cell) (fV fC : Field) (A : Cell) (r : Option Value) (s u : State) : Prop := Got a D fV fC A 0 A.slots.size r s u
/-- new String(chars), not empty, no char above 255: a Latin-1 String of their low bytes -/
theorem law (l : Launch) (a : Addr) (D : Cell) (fV fC : Field) (b : Addr) (A : Cell) (z : Int32) : Law l yN 2 1 3 52 yB 2 none site (P a D fV fC b A z) (E a D fV fC A) [⟨a, fC.slot⟩, ⟨a, fV.slot⟩] 1 A.slots.size := by
  refine Law.of_walk (plainFor_of_name (by decide +kernel)) (by decide +kernel) (by decide +kernel) (by decide) (fun _ _ h => by rw [h.1]; rfl) (fun _ U U' hal hh h => ⟨h.1, h.2.1.mv hal hh, h.2.2.1.al hal, h.2.2.2.1.al hal, h.2.2.2.2.1.mv hal hh, h.2.2.2.2.2.1.there hal hh, h.2.2.2.2.2.2⟩) (fun r U U' V V' h1 hal h2 h => Got.mv r U U' V V' h1 hal h2 h) ?_
  intro p e s m args below meth c s₁ X0 hexec hbytes hml hret hlk hnm hown hh0 W hP
  obtain ⟨rfl, hB, f1, f2, hA, s1, hz, l0, l2, hp⟩ := hP
  have c1 : Steps p.tables e below (s₁.setTop (entryFrame m #[.ref a, .ref b] 2)) (s₁.setTop (mkF m 0 #[.val (.ref a), .val (.ref b)] [])) := entry rfl
  have c2 : Steps p.tables e below (s₁.setTop (entryFrame m #[.ref a, .ref b] 2)) (s₁.setTop (mkF m 6 #[.val (.ref a), .val (.ref b)] [.null, .int (Int32.ofNat A.slots.size), .int 0, .ref b, .ref a])) := c1.trans (by
    refine XS.aloadN X0.here hexec rfl (hb hbytes d0) rfl rfl ?_
    refine XS.aloadN X0.here hexec rfl (hb hbytes d1) rfl rfl ?_
    refine iconstV X0.here hexec rfl 0 (hb hbytes d2) (by decide) ?_
    refine XS.aloadN X0.here hexec rfl (hb hbytes d3) rfl rfl ?_
    refine X0.alen hexec (hA.1.mv X0.warmed.alike hh0) rfl rfl (hb hbytes d4) ?_
    refine XS.aconstNull X0.here hexec rfl (hb hbytes d5) ?_
    exact Steps.refl _)
  obtain ⟨v3, T3, X3, E3, g3⟩ := X0.callN hexec (New4.law l a D fV fC b A z 0 A.slots.size) rfl hown (wks W (initW "java/lang/String" 27 New4.yN)) (W New4.tab (by simp only [site, List.mem_cons, List.mem_append, true_or, or_true])) (W := 0) (Nat.le_of_ble_eq_true rfl) (Nat.le_of_ble_eq_true rfl) (Nat.le_refl _) (by show 0 + A.slots.size ≤ A.slots.size; omega) (g := (mkF m 6 #[.val (.ref a), .val (.ref b)] [.null, .int (Int32.ofNat A.slots.size), .int (Int32.ofNat 0), .ref b, .ref a])) rfl (by rw [hml]; rfl) c2 (argsL := [.ref b, .int (Int32.ofNat 0), .int (Int32.ofNat A.slots.size), .null]) (rest := []) rfl rfl (by show 2 * 0 + 0 ≤ _; decide) (hb hbytes d6) (⟨rfl, hB.mv X0.warmed.alike hh0, f1.al X0.warmed.alike, f2.al X0.warmed.alike, hA.mv X0.warmed.alike hh0, s1.there X0.warmed.alike hh0, hz, l0, by omega, l2, fun i hi => by rw [Nat.zero_add]; exact hp i hi⟩)
  have e0 := Got.mv _ s₁ s _ _ hh0.symm (Vm.Alike.refl _) rfl E3
  obtain rfl := e0.1
  have c4 : Steps p.tables e below (s₁.setTop (entryFrame m #[.ref a, .ref b] 2)) (T3.setTop (mkF m 9 #[.val (.ref a), .val (.ref b)] [])) := g3
  exact ⟨T3, none, _, _, _, X3, by simp, rfl, by omega, (fun _ => rfl), e0, fun fs hl => c4.trans (X3.returnOut hexec hret (hb hbytes d9) hl)⟩
theorem pays {l : Launch} {R : Room} {p : Program} {e : Env} {below : List Frame} {s : State} {sargs : Array Value} {len W : Nat} (a : Addr) (D : Cell) (fV fC : Field) (b : Addr) (A : Cell) (z : Int32) (htab : tab.before sargs s = true) (hfr : 4 ≤ R.frames) (hlo : W + 65 ≤ R.locals) :
    Back l R p e below s sargs yN len W (fun A₁ a₁ => A₁.cells + 1 ≤ R.cells ∧ A₁.slots + A.slots.size ≤ R.slots ∧ P a D fV fC b A z a₁ A₁.U) (fun A₁ _ v₁ B₁ => E a D fV fC A v₁ A₁.U B₁.U ∧ B₁.locs = A₁.locs ++ [⟨a, fC.slot⟩, ⟨a, fV.slot⟩] ∧ B₁.cells = A₁.cells + 1 ∧ B₁.slots = A₁.slots + A.slots.size) :=
  (law l a D fV fC b A z).pays htab hfr (by omega)
end New1
/-- the byte, read back as charAt reads it, is the char -/
theorem lo8_mask {x : Int32} (h0 : ¬ x < 0) (h1 : ¬ 255 < x) : lo8 x &&& 255 = x := by
  have t : ∀ k : Fin 256, lo8 (Int32.ofNat k.val) &&& 255 = Int32.ofNat k.val := by decide +kernel
  rw [Int32.lt_iff_toInt_lt] at h0 h1
  have e0 : (0 : Int32).toInt = 0 := rfl
  have e1 : (255 : Int32).toInt = 255 := rfl
  obtain ⟨k, hk⟩ : ∃ k : Nat, x.toInt = k := ⟨x.toInt.toNat, by omega⟩
  have hx : x = Int32.ofNat k := Int32.toInt_inj.mp (by rw [hk, Int32.toInt_ofNat_small (by omega)])
  rw [hx]
  exact t ⟨k, by omega⟩
end StrChars
namespace StrChars.Road
open Jvm Sem ClassFile Op Lib Jvm.Stand Jvm.Free Jvm.Free.XT
open Jvm.Lib.Cold (StaticIs)
abbrev ST : String := "java/lang/String"
/-- every table word that New1's law asks, flat -/
abbrev words : List Jvm.Cond := [.code New1.yN New1.yB 2 none, .initialized ST, .methodLink ST 27 New4.yN, .instanceMethod New4.yN,
  .code New4.yN New4.yB 6 none, .fieldLink ST 38 ST "COMPACT_STRINGS" "Z", .laysFinal ST ST "value" "[B", .fieldLink ST 9 ST "value" "[B", .laysFinal ST ST "coder" "B", .fieldLink ST 15 ST "coder" "B",
  .methodLink ST 1 Lib.objectInit, .instanceMethod Lib.objectInit, .code Lib.objectInit ⟨#[0xb1]⟩ 1 none, .methodLink ST 177 Cmp3.yN, .static Cmp3.yN, .methodLink ST 47 CodL.yN, .static CodL.yN,
  .code Cmp3.yN Cmp3.yB 6 (some (.array .byte)), .initialized U16, .arrayClass .byte, .methodLink U16 115 Cmp5.yN, .static Cmp5.yN, .code Cmp5.yN Cmp5.yB 7 (some .int), .code CodL.yN CodL.yB 2 (some .byte)]
theorem tab_of {a : Array Value} {s : State} (h : ∀ w ∈ words, w.before a s = true) : New1.tab.before a s = true := by
  have h5 : Cmp5.tab.before a s = true := unparts (wk h (.code Cmp5.yN Cmp5.yB 7 (some .int))) (wks h (.initialized Cmp5.yN.cls :: Cmp5.site))
  have hc : CodL.tab.before a s = true := unparts (wk h (.code CodL.yN CodL.yB 2 (some .byte))) (wks h (.initialized CodL.yN.cls :: CodL.site))
  have q5 : ∀ w ∈ Cmp5.tab :: words, w.before a s = true := fun w hw => (List.mem_cons.mp hw).elim (fun e => e ▸ h5) (h w)
  have h3 : Cmp3.tab.before a s = true := unparts (wk q5 (.code Cmp3.yN Cmp3.yB 6 (some (.array .byte)))) (wks q5 (.initialized Cmp3.yN.cls :: Cmp3.site))
  have q3 : ∀ w ∈ Cmp3.tab :: CodL.tab :: words, w.before a s = true := fun w hw => (List.mem_cons.mp hw).elim (fun e => e ▸ h3) fun hw => (List.mem_cons.mp hw).elim (fun e => e ▸ hc) (h w)
  have h4 : New4.tab.before a s = true := unparts (wk q3 (.code New4.yN New4.yB 6 none)) (wks q3 (.initialized New4.yN.cls :: New4.site))
  have q4 : ∀ w ∈ New4.tab :: words, w.before a s = true := fun w hw => (List.mem_cons.mp hw).elim (fun e => e ▸ h4) (h w)
  exact unparts (wk q4 (.code New1.yN New1.yB 2 none)) (wks q4 (.initialized New1.yN.cls :: New1.site))
/-- the words ride from the start Z to the walk's own state -/
theorem moved {Z s : State} {a0 args : Array Value} (hZ : Z.Warmed39 s.vm) (hw : ∀ d ∈ words, d.before a0 Z = true) : ∀ d ∈ words, d.before args s = true := fun d hd => by
  have q := hw d hd
  have t : ∀ d ∈ words, d = .arrayClass .byte ∨ (d.onTables && d.keepsFace) = true := by decide +kernel
  rcases t d hd with rfl | t
  · exact RoadKit.mvA hZ q
  · exact RoadKit.mv hZ q t
/-- WHAT COMES BACK, over the tables of the start Z: h the heap at the call, h' behind it -/
def Q (Z : State) (x : Addr) (A : Cell) (h : Heap) (v : Option Value) (h' : Heap) (L : List Loc) : Prop := v = none ∧ (∀ y ∈ L, y.base = x) ∧ RoadKit.Keep h h' [x] ∧ h'.size = h.size + 1 ∧ RoadKit.Exa Z h' x ST ∧ RoadKit.Fld Z h' x ST "value" "[B" (.ref h.size) ∧ RoadKit.Fld Z h' x ST "coder" "B" (.int 0) ∧
  (∃ V : Cell, RoadKit.Arr Z h' h.size V .byte ∧ V.vm = .none ∧ Z.vm.findClass "[B" = some V.cls ∧ V.slots.size = A.slots.size ∧ ∀ j, j < A.slots.size → V.slots[j]? = some (.int (lo8 (cv A j)))) ∧
  ∀ (O n d : String) (w : Value), RoadKit.Fld Z h x O n d w → RoadKit.slotOf Z O n d ≠ RoadKit.slotOf Z ST "value" "[B" → RoadKit.slotOf Z O n d ≠ RoadKit.slotOf Z ST "coder" "B" → RoadKit.Fld Z h' x O n d w
/-- **new String(chars) AT A CALL, IN THE ROAD'S FORM**: for specialBack behind newO: x the fresh String, b the char[] with the cell A -/
theorem back {p : Program} {l : Launch} {e : Env} {R : Room} {s : State} {args : Array Value} {below : List Frame} {len W : Nat} {Z : State} {a0 : Array Value} {h : Heap} (hZ : Z.Warmed39 s.vm) (hw : ∀ d ∈ words, d.before a0 Z = true) {kI : Nat} (wi : (Jvm.Cond.instantiable ST kI).before a0 Z = true)
    {x b : Addr} {A : Cell} {z : Int32} {v0 c0 : Value} (E : RoadKit.Exa Z h x ST) (V : RoadKit.Fld Z h x ST "value" "[B" v0) (C : RoadKit.Fld Z h x ST "coder" "B" c0) (K : RoadKit.Arr Z h b A .char) (hty : Typed .char A) (S : RoadKit.Sta Z h ST "COMPACT_STRINGS" "Z" (.int z)) (hz : ¬ z = 0)
    (l0 : 0 < A.slots.size) (l2 : A.slots.size ≤ 536870912) (hp : ∀ i, i < A.slots.size → ¬ 255 < cv A i) (hfr : 4 ≤ R.frames) (hlo : W + 65 ≤ R.locals) :
    Back l R p e below s args New1.yN len W (fun P a => a = #[.ref x, .ref b] ∧ P.U.heap = h ∧ P.cells + 1 ≤ R.cells ∧ P.slots + A.slots.size ≤ R.slots)
      (fun P _ v B => ∃ L, Q Z x A h v B.U.heap L ∧ B.locs = P.locs ++ L ∧ B.cells = P.cells + 1 ∧ B.slots = P.slots + A.slots.size) := by
  intro m meth c P g ig mk a X hg hsize hdg hW hn hp'
  obtain ⟨rfl, rfl, r1, r2⟩ := hp'
  have al : Z.vm.Alike P.U.vm := hZ.alike.trans X.warmed.alike
  obtain ⟨D, cfV, kV, iV, fV, hD, gV, stV, knV, obV, asV, slV⟩ := id V
  obtain ⟨D', cfC, kC, iC, fC, hD', gC, stC, -, -, asC, slC⟩ := id C
  cases hD.symm.trans hD'
  obtain ⟨D2, kD, e1, e2, e3, e4, e5⟩ := id E
  cases hD.symm.trans e1
  obtain ⟨c2, k2, i1, i2, i3, -⟩ := Cond.instantiable_spec wi
  cases e2.symm.trans i1
  cases e3.symm.trans i2
  obtain ⟨kU, u1, u2⟩ := al.2.2 _ _ e3
  have hB : Blank ST x D P.U := ⟨hD, ⟨knV, fun q hq => by rw [hq] at obV; cases obV⟩, by rw [al.findClass]; exact e2, kU, u1, by rw [u2]; exact i3, by rw [u2]; exact e5 i3⟩
  have F1 : Found ST "value" "[B" fV P.U := ⟨SBG.found_only al ⟨cfV, kV, iV, gV⟩, stV⟩
  have F2 : Found ST "coder" "B" fC P.U := ⟨SBG.found_only al ⟨cfC, kC, iC, gC⟩, stC⟩
  have hA : Ch b A P.U := ⟨⟨K.1, State.isArrayOf_alike al K.2.1, K.2.2, by omega⟩, hty⟩
  have hS : StaticIs P.U ST "COMPACT_STRINGS" "Z" (.int z) := by
    obtain ⟨cfS, iS, kS, fS, st, cS, t1, t2, t3, t4, t5, t6, t7⟩ := S
    exact StaticIs.there (s := { Z with heap := P.U.heap }) ⟨cfS, iS, kS, fS, st, cS, t1, t2, t3, t4, t5, (fun q => by rw [q] at t6; cases t6), t7⟩ al rfl
  obtain ⟨v, B, X', ⟨⟨hv, E', V', q1, q2, q3, q4, q5, q6, q7, q8, q9, q10, q11⟩, hl, hc, hs⟩, st⟩ := New1.pays x D fV fC b A z (tab_of (moved hZ hw)) hfr hlo m meth c P g ig mk _ X hg hsize hdg hW hn ⟨r1, r2, rfl, hB, F1, F2, hA, hS, hz, l0, l2, hp⟩
  have al' : Z.vm.Alike B.U.vm := hZ.alike.trans X'.warmed.alike
  have hsz : E'.slots.size = D.slots.size := by
    obtain ⟨-, -, -, kB, w1, w2, w3⟩ := q1
    obtain ⟨kB', y1, y2⟩ := al'.2.2 _ _ e3
    rw [q2.2.1] at w1
    cases w1.symm.trans y1
    rw [w3, e5 i3, y2]
  refine ⟨v, B, X', ⟨_, ⟨hv, ?_, ⟨by omega, fun y cy hy hn' => q10 y cy (by simpa using hn') hy, fun y cy hy => ?_⟩, q11, ⟨E', _, q1.1, by rw [q2.2.1]; exact e2, by rw [q2.2.1]; exact e3, by rw [q2.1]; exact obV, fun _ => by rw [hsz]; exact e5 i3⟩,
    ⟨E', cfV, kV, iV, fV, q1.1, gV, stV, by rw [q2.1]; exact knV, by rw [q2.1]; exact obV, by rw [q2.2.1]; exact asV, q3⟩, ⟨E', cfC, kC, iC, fC, q1.1, gC, stC, by rw [q2.1]; exact knV, by rw [q2.1]; exact obV, by rw [q2.2.1]; exact asC, q4⟩,
    ⟨V', ⟨q5.1, State.isArrayOf_alike al'.symm q5.2.1, q5.2.2.1⟩, q6, by rw [← al'.findClass]; exact q7, q8, fun j hj => by have := q9 j hj; rwa [Nat.zero_add] at this⟩, fun O n d w F n1 n2 => ?_⟩, hl, hc, hs⟩, st⟩
  · intro y hy
    simp only [List.mem_cons, List.not_mem_nil, or_false] at hy
    rcases hy with rfl | rfl <;> rfl
  · by_cases q : y = x
    · subst q
      cases hD.symm.trans hy
      exact ⟨E', q1.1, q2.2.1, q2.1, hsz⟩
    · exact ⟨cy, q10 y cy q hy, rfl, rfl, rfl⟩
  · obtain ⟨D3, cf, k, i, f, g1, g2, g3, g4, g5, g6, g7⟩ := F
    cases hD.symm.trans g1
    simp only [RoadKit.slotOf, g2, gV, gC, Option.map_some, Option.getD_some] at n1 n2
    exact ⟨E', cf, k, i, f, q1.1, g2, g3, by rw [q2.1]; exact g4, by rw [q2.1]; exact g5, by rw [q2.2.1]; exact g6, by rw [q2.2.2 f.slot (by simp [n1, n2])]; exact g7⟩
end StrChars.Road
namespace StrChars.Road
open Jvm Sem ClassFile Op Lib Jvm.Stand Jvm.Free Jvm.Free.XT
/-- WHAT COMES BACK, the byte[] as a list of values -/
def QA (Z : State) (x : Addr) (zn : Int32) (cs : List Int32) (h : Heap) (v : Option Value) (h' : Heap) (L : List Loc) : Prop := v = none ∧ (∀ y ∈ L, y.base = x) ∧ RoadKit.Keep h h' [x] ∧ h'.size = h.size + 1 ∧ RoadKit.Exa Z h' x ST ∧ RoadKit.Fld Z h' x ST "value" "[B" (.ref h.size) ∧ RoadKit.Fld Z h' x ST "coder" "B" (.int 0) ∧
  (∃ kb, Z.vm.findClass "[B" = some kb ∧ RoadKit.Arv Z h' h.size kb .byte zn (cs.map fun c => .int (lo8 c)) (.int 0)) ∧
  ∀ (O n d : String) (w : Value), RoadKit.Fld Z h x O n d w → RoadKit.slotOf Z O n d ≠ RoadKit.slotOf Z ST "value" "[B" → RoadKit.slotOf Z O n d ≠ RoadKit.slotOf Z ST "coder" "B" → RoadKit.Fld Z h' x O n d w
/-- **new String(chars) AT A CALL, THE ARRAYS AS LISTS**: the char[] at b holds cs, not empty, no char above 255 -/
theorem backArv {p : Program} {l : Launch} {e : Env} {R : Room} {s : State} {args : Array Value} {below : List Frame} {len W : Nat} {Z : State} {a0 : Array Value} {h : Heap} (hZ : Z.Warmed39 s.vm) (hw : ∀ d ∈ words, d.before a0 Z = true) {kI : Nat} (wi : (Jvm.Cond.instantiable ST kI).before a0 Z = true)
    {x b : Addr} {k : ClassId} {zn z : Int32} {cs : List Int32} {dv v0 c0 : Value} (E : RoadKit.Exa Z h x ST) (V : RoadKit.Fld Z h x ST "value" "[B" v0) (C : RoadKit.Fld Z h x ST "coder" "B" c0) (K : RoadKit.Arv Z h b k .char zn (cs.map Value.int) dv) (S : RoadKit.Sta Z h ST "COMPACT_STRINGS" "Z" (.int z)) (hz : ¬ z = 0)
    (hlen : zn.toNatClampNeg = cs.length) (h0 : 0 < cs.length) (hbig : cs.length ≤ 536870912) (hall : ∀ c ∈ cs, ¬ 255 < c) (hfr : 4 ≤ R.frames) (hlo : W + 65 ≤ R.locals) :
    Back l R p e below s args New1.yN len W (fun P a => a = #[.ref x, .ref b] ∧ P.U.heap = h ∧ P.cells + 1 ≤ R.cells ∧ P.slots + cs.length ≤ R.slots)
      (fun P _ v B => ∃ L, QA Z x zn cs h v B.U.heap L ∧ B.locs = P.locs ++ L ∧ B.cells = P.cells + 1 ∧ B.slots = P.slots + cs.length) := by
  obtain ⟨A, K1, K2, K3, K4, K5, K6⟩ := K
  have e : A.slots.size = cs.length := K3.trans hlen
  have hat : ∀ (i : Nat) (hi : i < cs.length), A.slots[i]? = some (.int cs[i]) := fun i hi => by rw [K5 i (by omega)]; simp [List.getD_eq_getElem?_getD, hi]
  have hcv : ∀ (i : Nat) (hi : i < cs.length), cv A i = cs[i] := fun i hi => by unfold cv; rw [hat i hi]
  have hty : Typed .char A := fun i v hv => by
    have hi : i < A.slots.size := (Array.getElem?_eq_some_iff.mp hv).1
    have q := K5 i hi
    rw [hv] at q
    rw [Option.some.inj q]
    exact K6 i hi
  refine Back.mono (back hZ hw wi E V C K1 hty S hz (by omega) (by omega) (fun i hi => by rw [hcv i (by omega)]; exact hall _ (List.getElem_mem _)) hfr hlo) (fun P a hp => ⟨hp.1, hp.2.1, hp.2.2.1, by rw [e]; exact hp.2.2.2⟩) (fun P a v B hp hq => ?_)
  obtain ⟨L, ⟨q1, q2, q3, q4, q5, q6, q7, ⟨V', v1, v2, v3, v4, v5⟩, q9⟩, hl, hc, hs⟩ := hq
  refine ⟨L, ⟨q1, q2, q3, q4, q5, q6, q7, ⟨V'.cls, v3, V', v1, rfl, by rw [v4, e, hlen], K4, fun i hi => ?_, fun i hi => ?_⟩, q9⟩, hl, hc, by rw [hs, e]⟩
  · have hi' : i < cs.length := by omega
    rw [v5 i (by omega), hcv i hi']; simp [List.getD_eq_getElem?_getD, hi']
  · have hi' : i < cs.length := by omega
    simp only [List.getD_eq_getElem?_getD, List.getElem?_map, List.getElem?_eq_getElem hi', Option.map_some, Option.getD_some]
    exact fits_lo8 _
end StrChars.Road
namespace StrChars.Road
open Jvm Sem ClassFile Op Lib Jvm.Stand Jvm.Free Jvm.Free.XT
/-- WHAT COMES BACK, in the writer's own shape -/
def QV (Z : State) (x : Addr) (N : Int32) (bs : List Int32) (h : Heap) (n0 : Nat) (v : Option Value) (h' : Heap) (L : List Loc) : Prop := v = none ∧ RoadKit.Fr n0 L ∧ RoadKit.Keep h h' [x] ∧ RoadKit.Exa Z h' x ST ∧ RoadKit.Fld Z h' x ST "coder" "B" (.int 0) ∧
  ∃ (t : Addr) (kb : ClassId), n0 ≤ t ∧ h.size ≤ t ∧ ¬ t = x ∧ RoadKit.Fld Z h' x ST "value" "[B" (.ref t) ∧ RoadKit.Arv Z h' t kb .byte N (bs.map Value.int) (.int 0)
/-- **new String(chars) AT A CALL, FOR THE WRITER**: a char[] of n known ints, each 0 to 255 -/
theorem backV {p : Program} {l : Launch} {e : Env} {R : Room} {s : State} {args : Array Value} {below : List Frame} {len W : Nat} {Z : State} {a0 : Array Value} {h : Heap} (hZ : Z.Warmed39 s.vm) (hw : ∀ d ∈ words, d.before a0 Z = true) {kI : Nat} (wi : (Jvm.Cond.instantiable ST kI).before a0 Z = true)
    {x b : Addr} {kC : ClassId} {cs bs : List Int32} {d v0 c0 : Value} {z N : Int32} {n n0 : Nat} (hx0 : n0 ≤ x) (hh0 : n0 ≤ h.size) (E : RoadKit.Exa Z h x ST) (V : RoadKit.Fld Z h x ST "value" "[B" v0) (C : RoadKit.Fld Z h x ST "coder" "B" c0) (K : RoadKit.Arv Z h b kC .char N (cs.map Value.int) d) (S : RoadKit.Sta Z h ST "COMPACT_STRINGS" "Z" (.int z)) (hz : ¬ z = 0)
    (hn : cs.length = n) (hN : N = Int32.ofNat n) (l0 : 0 < n) (l2 : n ≤ 4000) (hp : ∀ c ∈ cs, ¬ c < 0 ∧ ¬ (255 : Int32) < c) (hb : bs = cs.map (fun c => c.toInt8.toInt32)) (hfr : 4 ≤ R.frames) (hlo : W + 65 ≤ R.locals) :
    Back l R p e below s args (⟨"java/lang/String", "<init>", "([C)V"⟩ : MethodName) len W (fun P a => a = #[.ref x, .ref b] ∧ P.U.heap = h ∧ P.cells + 1 ≤ R.cells ∧ P.slots + n ≤ R.slots)
      (fun P _ v B => ∃ L, QV Z x N bs h n0 v B.U.heap L ∧ B.locs = P.locs ++ L ∧ B.cells = P.cells + 1 ∧ B.slots = P.slots + n) := by
  subst hn hN hb
  refine Back.mono (backArv hZ hw wi E V C K S hz (n32 (by omega)) l0 (by omega) (fun c hc => (hp c hc).2) hfr hlo) (fun P a hp => hp) (fun P a v B hp hq => ?_)
  obtain ⟨L, ⟨q1, q2, q3, q4, q5, q6, q7, ⟨kb, v1, v2⟩, q9⟩, hl, hc, hs⟩ := hq
  exact ⟨L, ⟨q1, fun y hy => by rw [q2 y hy]; exact hx0, q3, q5, q7, h.size, kb, hh0, Nat.le_refl _, Nat.ne_of_gt E.lt, q6, by rw [List.map_map]; exact v2⟩, hl, hc, hs⟩
end StrChars.Road
namespace StrChars
open Jvm Sem ClassFile Op Lib Jvm.Stand Jvm.Free.XT Jvm.Free.ALB Jvm.Free.JM Jvm.Free
open Jvm.Lib.Cold (StaticIs)
def hi8 (x : Int32) : Int32 := lo8 (x >>> ((8 : Int32) &&& 31))
/-- what StringUTF16.getChar makes of two bytes -/
def pairCh (u v : Int32) : Int32 := (((u &&& 255) <<< ((0 : Int32) &&& 31)) ||| ((v &&& 255) <<< ((8 : Int32) &&& 31))).toUInt32.toUInt16.toUInt32.toInt32
theorem shr0 (c : Int32) : c >>> ((0 : Int32) &&& 31) = c := by
  have e : ((0 : Int32) &&& 31) = 0 := by decide
  rw [e]
  apply Int32.toBitVec_inj.mp
  rw [Int32.toBitVec_shiftRight]
  have e1 : ((0 : Int32).toBitVec.smod 32) = 0#32 := by decide
  rw [e1, BitVec.sshiftRight_eq']
  exact BitVec.sshiftRight_zero
theorem lo8_and (x : Int32) : (lo8 x &&& 255).toBitVec.toNat = x.toBitVec.toNat % 256 := by
  have h : (lo8 x).toBitVec = (x.toBitVec.signExtend 8).signExtend 32 := by rw [lo8, Int8.toBitVec_toInt32, Int32.toBitVec_toInt8]
  rw [Int32.toBitVec_and, BitVec.toNat_and, h]
  have e : ((x.toBitVec.signExtend 8).signExtend 32).toNat % 256 = x.toBitVec.toNat % 256 := by
    rw [BitVec.toNat_signExtend]
    have hlt := x.toBitVec.isLt
    simp only [BitVec.toNat_setWidth, BitVec.toNat_signExtend]
    split <;> split <;> omega
  rw [← e]
  exact Nat.and_two_pow_sub_one_eq_mod _ 8
theorem pair_says {c : Int32} (h0 : ¬ c < 0) (h1 : ¬ 65535 < c) : pairCh (lo8 c) (hi8 c) = c := by
  rw [Int32.lt_iff_toInt_lt] at h0 h1
  have e0 : (0 : Int32).toInt = 0 := rfl
  have e1 : (65535 : Int32).toInt = 65535 := rfl
  have hc : c.toInt = c.toBitVec.toNat := by
    have := c.toBitVec.isLt
    have e : c.toInt = c.toBitVec.toInt := rfl
    rw [e] at h0 h1
    rw [e]
    rw [BitVec.toInt_eq_toNat_cond] at h0 h1 ⊢
    split at h0 <;> split <;> omega
  have hn : c.toBitVec.toNat < 65536 := by omega
  have a1 := lo8_and c
  have a2 : (hi8 c &&& 255).toBitVec.toNat = c.toBitVec.toNat / 256 := by
    rw [hi8, lo8_and]
    have e : ((8 : Int32) &&& 31) = 8 := by decide
    rw [e, Int32.toBitVec_shiftRight]
    have e2 : ((8 : Int32).toBitVec.smod 32) = 8#32 := by decide
    rw [e2, BitVec.sshiftRight_eq', BitVec.toNat_sshiftRight_of_msb_false (by rw [BitVec.msb_eq_false_iff_two_mul_lt]; omega)]
    show c.toBitVec.toNat >>> 8 % 256 = _
    rw [Nat.shiftRight_eq_div_pow]
    omega
  unfold pairCh
  apply Int32.toBitVec_inj.mp
  apply BitVec.eq_of_toNat_eq
  have f0 : ((0 : Int32) &&& 31) = 0 := by decide
  have f8 : ((8 : Int32) &&& 31) = 8 := by decide
  rw [f0, f8]
  have g : (((lo8 c &&& 255) <<< (0 : Int32)) ||| ((hi8 c &&& 255) <<< (8 : Int32))).toBitVec.toNat = c.toBitVec.toNat := by
    rw [Int32.toBitVec_or, Int32.toBitVec_shiftLeft, Int32.toBitVec_shiftLeft]
    have s0 : ((0 : Int32).toBitVec.smod 32) = 0#32 := by decide
    have s8 : ((8 : Int32).toBitVec.smod 32) = 8#32 := by decide
    rw [s0, s8, BitVec.toNat_or]
    simp only [BitVec.shiftLeft_eq', BitVec.toNat_shiftLeft, a1, a2]
    show (c.toBitVec.toNat % 256) <<< 0 % 2 ^ 32 ||| (c.toBitVec.toNat / 256) <<< 8 % 2 ^ 32 = _
    rw [Nat.shiftLeft_zero, Nat.mod_eq_of_lt (show c.toBitVec.toNat % 256 < 2 ^ 32 by omega), Nat.mod_eq_of_lt (show (c.toBitVec.toNat / 256) <<< 8 < 2 ^ 32 by rw [Nat.shiftLeft_eq]; omega), Nat.or_comm, ← Nat.shiftLeft_add_eq_or_of_lt (by omega), Nat.shiftLeft_eq]
    omega
  show BitVec.toNat (((((lo8 c &&& 255) <<< (0 : Int32)) ||| ((hi8 c &&& 255) <<< (8 : Int32))).toBitVec.setWidth 16).setWidth 32) = _
  rw [BitVec.toNat_setWidth, BitVec.toNat_setWidth, g]
  omega
end StrChars
namespace StrChars
open Jvm Sem ClassFile Op Lib Jvm.Stand Jvm.Free.XT Jvm.Free.ALB Jvm.Free.JM Jvm.Free
open Jvm.Lib.Cold (StaticIs)
theorem shr1 {n : Nat} (h : 2 * n < 2 ^ 31) : Int32.ofNat (2 * n) >>> ((1 : Int32) &&& 31) = Int32.ofNat n := by
  have e : ((1 : Int32) &&& 31) = 1 := by decide
  rw [e]
  apply Int32.toBitVec_inj.mp
  rw [Int32.toBitVec_shiftRight]
  have e1 : ((1 : Int32).toBitVec.smod 32) = 1#32 := by decide
  have hm : (BitVec.ofNat 32 (2 * n)).toNat = 2 * n := by rw [BitVec.toNat_ofNat, Nat.mod_eq_of_lt (by omega)]
  rw [e1, BitVec.sshiftRight_eq']
  apply BitVec.eq_of_toNat_eq
  show ((BitVec.ofNat 32 (2 * n)).sshiftRight 1).toNat = (BitVec.ofNat 32 n).toNat
  rw [BitVec.toNat_sshiftRight_of_msb_false (by rw [BitVec.msb_eq_false_iff_two_mul_lt, hm]; omega), hm, BitVec.toNat_ofNat, Nat.shiftRight_eq_div_pow]
  omega
/-- charAt's cast of a byte read back -/
def chr8 (u : Int32) : Int32 := (u &&& 255).toUInt32.toUInt16.toUInt32.toInt32
theorem chr8_lo8 {c : Int32} (h0 : ¬ c < 0) (h1 : ¬ 255 < c) : chr8 (lo8 c) = c := by
  have t : ∀ k : Fin 256, (Int32.ofNat k.val).toUInt32.toUInt16.toUInt32.toInt32 = Int32.ofNat k.val := by decide +kernel
  unfold chr8
  rw [lo8_mask h0 h1]
  rw [Int32.lt_iff_toInt_lt] at h0 h1
  have e0 : (0 : Int32).toInt = 0 := rfl
  have e1 : (255 : Int32).toInt = 255 := rfl
  obtain ⟨k, hk⟩ : ∃ k : Nat, c.toInt = k := ⟨c.toInt.toNat, by omega⟩
  have hx : c = Int32.ofNat k := Int32.toInt_inj.mp (by rw [hk, Int32.toInt_ofNat_small (by omega)])
  rw [hx]
  exact t ⟨k, by omega⟩
theorem narrow_ch {c : Int32} (h0 : ¬ c < 0) (h1 : ¬ 65535 < c) : narrow .char (.int c) = .int c := by
  have q : narrow .char (.int (pairCh (lo8 c) (hi8 c))) = .int (pairCh (lo8 c) (hi8 c)) := narrow_c _
  rwa [pair_says h0 h1] at q
/-- the array's cell V codes the n chars f 0 .. f (n - 1) by the coder cd, as the JDK does: coder 1 just where some char is above 255 -/
def Cod (cd : Int32) (n : Nat) (f : Nat → Int32) (V : Cell) : Prop := (cd = 0 ∧ V.slots.size = n ∧ ∀ j, j < n → V.slots[j]? = some (.int (lo8 (f j))) ∧ ¬ 255 < f j) ∨ (cd = 1 ∧ V.slots.size = 2 * n ∧ (∀ j, j < n → V.slots[2 * j]? = some (.int (lo8 (f j))) ∧ V.slots[2 * j + 1]? = some (.int (hi8 (f j)))) ∧ ∃ j, j < n ∧ 255 < f j)
theorem Cod.cd {cd : Int32} {n : Nat} {f : Nat → Int32} {V : Cell} (h : Cod cd n f V) : cd = 0 ∨ cd = 1 := h.imp (fun q => q.1) fun q => q.1
theorem Cod.len {cd : Int32} {n : Nat} {f : Nat → Int32} {V : Cell} (h : Cod cd n f V) (hs : V.slots.size < 2 ^ 31) : Int32.ofNat V.slots.size >>> (cd &&& 31) = Int32.ofNat n := by
  rcases h with ⟨rfl, h, -⟩ | ⟨rfl, h, -⟩
  · rw [shr0, h]
  · rw [h, shr1 (by omega)]
/-- **x is a String of the n chars f 0 .. f (n - 1)**, Latin-1 or UTF-16; its array at t has the cell V -/
def Txt (x t : Addr) (V : Cell) (cd : Int32) (n : Nat) (f : Nat → Int32) (U : State) : Prop := Exact "java/lang/String" x U ∧ Has x "java/lang/String" "value" "[B" (.ref t) U ∧ Has x "java/lang/String" "coder" "B" (.int cd) U ∧ XT.Arr .byte t V U ∧ Cod cd n f V ∧ ∀ j, j < n → ¬ f j < 0 ∧ ¬ 65535 < f j
theorem Txt.mv {x t : Addr} {V : Cell} {cd : Int32} {n : Nat} {f : Nat → Int32} {U U' : State} (h : Txt x t V cd n f U) (hal : U.vm.Alike U'.vm) (hh : U'.heap = U.heap) : Txt x t V cd n f U' := ⟨h.1.mv hal hh, h.2.1.mv hal hh, h.2.2.1.mv hal hh, h.2.2.2.1.mv hal hh, h.2.2.2.2⟩
namespace Cdr
def yN : MethodName := ⟨"java/lang/String", "coder", "()B"⟩
abbrev yB : ByteArray := jdk_42_method_152_code
theorem d0 : decode yB 0 = .ok (.getstatic 38, 3) := by decide +kernel
theorem d3 : decode yB 3 = .ok (.ifCond (.eq) 10, 3) := by decide +kernel
theorem d6 : decode yB 6 = .ok (.aload_n 0, 1) := by decide +kernel
theorem d7 : decode yB 7 = .ok (.getfield 15, 3) := by decide +kernel
theorem d10 : decode yB 10 = .ok (.goto 4, 3) := by decide +kernel
theorem d14 : decode yB 14 = .ok (.ireturn, 1) := by decide +kernel
def site : List Cond := [.fieldLink "java/lang/String" 38 "java/lang/String" "COMPACT_STRINGS" "Z", .fieldLink "java/lang/String" 15 "java/lang/String" "coder" "B"]
def tab : Cond := tabOf yN yB 1 (some .byte) site
def P (x : Addr) (cd z : Int32) (args : Array Value) (s : State) : Prop := args = #[.ref x] ∧ Has x "java/lang/String" "coder" "B" (.int cd) s ∧ (cd = 0 ∨ cd = 1) ∧ StaticIs s "java/lang/String" "COMPACT_STRINGS" "Z" (.int z) ∧ ¬ z = 0
def E (cd : Int32) (r : Option Value) (s u : State) : Prop := XT.PureE (some (.int cd)) r s u
theorem law (l : Launch) (x : Addr) (cd z : Int32) : Law l yN 1 0 0 0 yB 1 (some .byte) site (P x cd z) (E cd) [] 0 0 := by
  refine Law.of_walk (plainFor_of_name (by decide +kernel)) (by decide +kernel) (by decide +kernel) (by decide) (fun _ _ h => by rw [h.1]; rfl) (fun _ U U' hal hh h => ⟨h.1, h.2.1.mv hal hh, h.2.2.1, h.2.2.2.1.there hal hh, h.2.2.2.2⟩) (fun r U U' V V' h1 hal h2 h => XT.PureE.mv r U U' V V' h1 hal h2 h) ?_
  intro p e s m args below meth c s₁ X0 hexec hbytes hml hret hlk hnm hown hh0 W hP
  obtain ⟨rfl, hx, hc, s1, hz⟩ := hP
  have c1 : Steps p.tables e below (s₁.setTop (entryFrame m #[.ref x] 1)) (s₁.setTop (mkF m 0 #[.val (.ref x)] [])) := entry rfl
  obtain ⟨T2, X2, q2, st2⟩ := X0.sget hexec hown (wk W (.fieldLink "java/lang/String" 38 "java/lang/String" "COMPACT_STRINGS" "Z")) s1 (fun _ _ h => by rw [hh0]; exact h) (g := (mkF m 0 #[.val (.ref x)] [])) rfl (hb hbytes d0)
  have hh2 := q2.trans hh0
  have c3 : Steps p.tables e below (s₁.setTop (entryFrame m #[.ref x] 1)) (T2.setTop (mkF m 7 #[.val (.ref x)] [.ref x])) := (c1.trans (st2 _ (Steps.refl _))).trans (by
    refine XS.ifNo X2.here hexec rfl (hb hbytes d3) rfl (i0_eq_f hz) ?_
    refine XS.aloadN X2.here hexec rfl (hb hbytes d6) rfl rfl ?_
    exact Steps.refl _)
  obtain ⟨T4, X4, q4, st4⟩ := X2.hget hexec hown (wk W (.fieldLink "java/lang/String" 15 "java/lang/String" "coder" "B")) (hx.mv X2.warmed.alike hh2) (g := (mkF m 7 #[.val (.ref x)] [.ref x])) rfl (rest := []) rfl (hb hbytes d7)
  have c5 : Steps p.tables e below (s₁.setTop (entryFrame m #[.ref x] 1)) (T4.setTop (mkF m 14 #[.val (.ref x)] [.int cd])) := (c3.trans (st4 _ (Steps.refl _))).trans (by
    refine XS.goto X4.here hexec rfl (pc0 := 10) rfl (hb hbytes d10) (by decide) rfl ?_
    exact Steps.refl _)
  exact ⟨T4, some (.int cd), _, _, _, X4, rfl, rfl, rfl, (fun h => by cases h), ⟨rfl, q4.trans hh2⟩, fun fs hl => c5.trans (X4.ireturnOut hexec hret (by rcases hc with rfl | rfl <;> rfl) (Or.inr (Or.inr (Or.inl rfl))) (hb hbytes d14) hl)⟩
end Cdr
namespace Len
def yN : MethodName := ⟨"java/lang/String", "length", "()I"⟩
abbrev yB : ByteArray := jdk_42_method_54_code
theorem d0 : decode yB 0 = .ok (.aload_n 0, 1) := by decide +kernel
theorem d1 : decode yB 1 = .ok (.getfield 9, 3) := by decide +kernel
theorem d4 : decode yB 4 = .ok (.arraylength, 1) := by decide +kernel
theorem d5 : decode yB 5 = .ok (.aload_n 0, 1) := by decide +kernel
theorem d6 : decode yB 6 = .ok (.invokevirtual 335, 3) := by decide +kernel
theorem d9 : decode yB 9 = .ok (.ishr, 1) := by decide +kernel
theorem d10 : decode yB 10 = .ok (.ireturn, 1) := by decide +kernel
def site : List Cond := [.fieldLink "java/lang/String" 9 "java/lang/String" "value" "[B", Cdr.tab] ++ virtW "java/lang/String" 335 "java/lang/String" Cdr.yN Cdr.yN
def tab : Cond := tabOf yN yB 1 (some .int) site
def P (x t : Addr) (V : Cell) (cd : Int32) (n : Nat) (f : Nat → Int32) (z : Int32) (args : Array Value) (s : State) : Prop := args = #[.ref x] ∧ Txt x t V cd n f s ∧ StaticIs s "java/lang/String" "COMPACT_STRINGS" "Z" (.int z) ∧ ¬ z = 0
def E (n : Nat) (r : Option Value) (s u : State) : Prop := XT.PureE (some (.int (Int32.ofNat n))) r s u
/-- length() of a String of n chars, in either coding -/
theorem law (l : Launch) (x t : Addr) (V : Cell) (cd : Int32) (n : Nat) (f : Nat → Int32) (z : Int32) : Law l yN 1 0 1 13 yB 1 (some .int) site (P x t V cd n f z) (E n) [] 0 0 := by
  refine Law.of_walk (plainFor_of_name (by decide +kernel)) (by decide +kernel) (by decide +kernel) (by decide) (fun _ _ h => by rw [h.1]; rfl) (fun _ U U' hal hh h => ⟨h.1, h.2.1.mv hal hh, h.2.2.1.there hal hh, h.2.2.2⟩) (fun r U U' V V' h1 hal h2 h => XT.PureE.mv r U U' V V' h1 hal h2 h) ?_
  intro p e s m args below meth c s₁ X0 hexec hbytes hml hret hlk hnm hown hh0 W hP
  obtain ⟨rfl, hx, s1, hz⟩ := hP
  have v31 := hx.2.2.2.1.2.2.2
  have c1 : Steps p.tables e below (s₁.setTop (entryFrame m #[.ref x] 1)) (s₁.setTop (mkF m 1 #[.val (.ref x)] [.ref x])) := Steps.trans (entry rfl) (by
    show Steps p.tables e below (s₁.setTop (mkF m 0 #[.val (.ref x)] [])) _
    refine XS.aloadN X0.here hexec rfl (hb hbytes d0) rfl rfl ?_
    exact Steps.refl _)
  obtain ⟨T2, X2, q2, st2⟩ := X0.hget hexec hown (wk W (.fieldLink "java/lang/String" 9 "java/lang/String" "value" "[B")) (hx.mv X0.warmed.alike hh0).2.1 (g := (mkF m 1 #[.val (.ref x)] [.ref x])) rfl (rest := []) rfl (hb hbytes d1)
  have hh2 := q2.trans hh0
  have hx2 := hx.mv X2.warmed.alike hh2
  have c3 : Steps p.tables e below (s₁.setTop (entryFrame m #[.ref x] 1)) (T2.setTop (mkF m 6 #[.val (.ref x)] [.ref x, .int (Int32.ofNat V.slots.size)])) := (c1.trans (st2 _ (Steps.refl _))).trans (by
    refine X2.alen hexec hx2.2.2.2.1 rfl rfl (hb hbytes d4) ?_
    refine XS.aloadN X2.here hexec rfl (hb hbytes d5) rfl rfl ?_
    exact Steps.refl _)
  obtain ⟨v4, T4, X4, E4, g4⟩ := X2.callV hexec (Cdr.law l x cd z) hown (wks W (virtW "java/lang/String" 335 "java/lang/String" Cdr.yN Cdr.yN)) rfl (by decide) (wk W Cdr.tab) (W := 1) (Nat.le_of_ble_eq_true rfl) (Nat.le_of_ble_eq_true rfl) (Nat.le_refl _) (Nat.le_refl _) (hx2.1.fc X2.warmed.alike) hx2.1.is (g := (mkF m 6 #[.val (.ref x)] [.ref x, .int (Int32.ofNat V.slots.size)])) rfl (by rw [hml]; rfl) c3 (argsL := []) (rest := [.int (Int32.ofNat V.slots.size)]) rfl rfl (by show 2 * 0 + (1 + 0) ≤ _; decide) (hb hbytes d6) (⟨rfl, hx2.2.2.1, hx.2.2.2.2.1.cd, s1.there X2.warmed.alike hh2, hz⟩)
  obtain ⟨rfl, q4⟩ := E4
  have c5 : Steps p.tables e below (s₁.setTop (entryFrame m #[.ref x] 1)) (T4.setTop (mkF m 10 #[.val (.ref x)] [.int (Int32.ofNat V.slots.size >>> (cd &&& 31))])) := Steps.trans g4 (by
    refine ishr X4.here hexec rfl (hb hbytes d9) rfl ?_
    exact Steps.refl _)
  rw [hx.2.2.2.2.1.len v31] at c5
  exact ⟨T4, some (.int (Int32.ofNat n)), _, _, _, X4, rfl, rfl, rfl, (fun h => by cases h), ⟨rfl, q4.trans hh2⟩, fun fs hl => c5.trans (X4.ireturnOut hexec hret rfl (Or.inl rfl) (hb hbytes d10) hl)⟩
theorem pays {l : Launch} {R : Room} {p : Program} {e : Env} {below : List Frame} {s : State} {sargs : Array Value} {len W : Nat} (x t : Addr) (V : Cell) (cd : Int32) (n : Nat) (f : Nat → Int32) (z : Int32) (htab : tab.before sargs s = true) (hfr : 2 ≤ R.frames) (hlo : W + 25 ≤ R.locals) :
    Back l R p e below s sargs yN len W (fun A₁ a₁ => A₁.cells + 0 ≤ R.cells ∧ A₁.slots + 0 ≤ R.slots ∧ P x t V cd n f z a₁ A₁.U) (fun A₁ _ v₁ B₁ => E n v₁ A₁.U B₁.U ∧ B₁.locs = A₁.locs ++ [] ∧ B₁.cells = A₁.cells + 0 ∧ B₁.slots = A₁.slots + 0) :=
  (law l x t V cd n f z).pays htab hfr (by omega)
end Len
namespace IsL
def yN : MethodName := ⟨"java/lang/String", "isLatin1", "()Z"⟩
abbrev yB : ByteArray := jdk_42_method_154_code
theorem d0 : decode yB 0 = .ok (.getstatic 38, 3) := by decide +kernel
theorem d3 : decode yB 3 = .ok (.ifCond (.eq) 14, 3) := by decide +kernel
theorem d6 : decode yB 6 = .ok (.aload_n 0, 1) := by decide +kernel
theorem d7 : decode yB 7 = .ok (.getfield 15, 3) := by decide +kernel
theorem d10 : decode yB 10 = .ok (.ifCond (.ne) 7, 3) := by decide +kernel
theorem d13 : decode yB 13 = .ok (.iconst 1, 1) := by decide +kernel
theorem d14 : decode yB 14 = .ok (.goto 4, 3) := by decide +kernel
theorem d17 : decode yB 17 = .ok (.iconst 0, 1) := by decide +kernel
theorem d18 : decode yB 18 = .ok (.ireturn, 1) := by decide +kernel
def site : List Cond := [.fieldLink "java/lang/String" 38 "java/lang/String" "COMPACT_STRINGS" "Z", .fieldLink "java/lang/String" 15 "java/lang/String" "coder" "B"]
def tab : Cond := tabOf yN yB 1 (some .boolean) site
def P (x : Addr) (cd z : Int32) (args : Array Value) (s : State) : Prop := args = #[.ref x] ∧ Has x "java/lang/String" "coder" "B" (.int cd) s ∧ (cd = 0 ∨ cd = 1) ∧ StaticIs s "java/lang/String" "COMPACT_STRINGS" "Z" (.int z) ∧ ¬ z = 0
def E (cd : Int32) (r : Option Value) (s u : State) : Prop := XT.PureE (some (.int (1 - cd))) r s u
theorem law (l : Launch) (x : Addr) (cd z : Int32) : Law l yN 1 0 0 0 yB 1 (some .boolean) site (P x cd z) (E cd) [] 0 0 := by
  refine Law.of_walk (plainFor_of_name (by decide +kernel)) (by decide +kernel) (by decide +kernel) (by decide) (fun _ _ h => by rw [h.1]; rfl) (fun _ U U' hal hh h => ⟨h.1, h.2.1.mv hal hh, h.2.2.1, h.2.2.2.1.there hal hh, h.2.2.2.2⟩) (fun r U U' V V' h1 hal h2 h => XT.PureE.mv r U U' V V' h1 hal h2 h) ?_
  intro p e s m args below meth c s₁ X0 hexec hbytes hml hret hlk hnm hown hh0 W hP
  obtain ⟨rfl, hx, hc, s1, hz⟩ := hP
  have c1 : Steps p.tables e below (s₁.setTop (entryFrame m #[.ref x] 1)) (s₁.setTop (mkF m 0 #[.val (.ref x)] [])) := entry rfl
  obtain ⟨T2, X2, q2, st2⟩ := X0.sget hexec hown (wk W (.fieldLink "java/lang/String" 38 "java/lang/String" "COMPACT_STRINGS" "Z")) s1 (fun _ _ h => by rw [hh0]; exact h) (g := (mkF m 0 #[.val (.ref x)] [])) rfl (hb hbytes d0)
  have hh2 := q2.trans hh0
  have c3 : Steps p.tables e below (s₁.setTop (entryFrame m #[.ref x] 1)) (T2.setTop (mkF m 7 #[.val (.ref x)] [.ref x])) := (c1.trans (st2 _ (Steps.refl _))).trans (by
    refine XS.ifNo X2.here hexec rfl (hb hbytes d3) rfl (i0_eq_f hz) ?_
    refine XS.aloadN X2.here hexec rfl (hb hbytes d6) rfl rfl ?_
    exact Steps.refl _)
  obtain ⟨T4, X4, q4, st4⟩ := X2.hget hexec hown (wk W (.fieldLink "java/lang/String" 15 "java/lang/String" "coder" "B")) (hx.mv X2.warmed.alike hh2) (g := (mkF m 7 #[.val (.ref x)] [.ref x])) rfl (rest := []) rfl (hb hbytes d7)
  have c5 : Steps p.tables e below (s₁.setTop (entryFrame m #[.ref x] 1)) (T4.setTop (mkF m 10 #[.val (.ref x)] [.int cd])) := c3.trans (st4 _ (Steps.refl _))
  have c6 : Steps p.tables e below (s₁.setTop (entryFrame m #[.ref x] 1)) (T4.setTop (mkF m 18 #[.val (.ref x)] [.int (1 - cd)])) := by
    rcases hc with rfl | rfl
    · exact c5.trans (by
        refine XS.ifNo X4.here hexec rfl (hb hbytes d10) rfl (i0_ne_f rfl) ?_
        refine iconstV X4.here hexec rfl 1 (hb hbytes d13) (by decide) ?_
        refine XS.goto X4.here hexec rfl (pc0 := 14) rfl (hb hbytes d14) (by decide) rfl ?_
        exact Steps.refl _)
    · exact c5.trans (by
        refine XS.ifYes X4.here hexec rfl (pc0 := 10) rfl (hb hbytes d10) rfl (i0_ne_t (by decide)) (by decide) rfl ?_
        refine iconstV X4.here hexec rfl 0 (hb hbytes d17) (by decide) ?_
        exact Steps.refl _)
  exact ⟨T4, some (.int (1 - cd)), _, _, _, X4, rfl, rfl, rfl, (fun h => by cases h), ⟨rfl, q4.trans hh2⟩, fun fs hl => c6.trans (X4.ireturnOut hexec hret (by rcases hc with rfl | rfl <;> rfl) (Or.inr (Or.inl rfl)) (hb hbytes d18) hl)⟩
end IsL
namespace LChA
def yN : MethodName := ⟨"java/lang/StringLatin1", "charAt", "([BI)C"⟩
abbrev yB : ByteArray := jdk_43_method_2_code
theorem d0 : decode yB 0 = .ok (.iload_n 1, 1) := by decide +kernel
theorem d1 : decode yB 1 = .ok (.aload_n 0, 1) := by decide +kernel
theorem d2 : decode yB 2 = .ok (.arraylength, 1) := by decide +kernel
theorem d3 : decode yB 3 = .ok (.invokestatic 9, 3) := by decide +kernel
theorem d6 : decode yB 6 = .ok (.aload_n 0, 1) := by decide +kernel
theorem d7 : decode yB 7 = .ok (.iload_n 1, 1) := by decide +kernel
theorem d8 : decode yB 8 = .ok (.baload, 1) := by decide +kernel
theorem d9 : decode yB 9 = .ok (.sipush 255, 3) := by decide +kernel
theorem d12 : decode yB 12 = .ok (.iand, 1) := by decide +kernel
theorem d13 : decode yB 13 = .ok (.i2c, 1) := by decide +kernel
theorem d14 : decode yB 14 = .ok (.ireturn, 1) := by decide +kernel
def site : List Cond := [JO.Str_checkIndex.tab] ++ staticW "java/lang/StringLatin1" 9 JO.Str_checkIndex.yN
def tab : Cond := tabOf yN yB 2 (some .char) site
def P (t : Addr) (V : Cell) (i : Nat) (u : Int32) (fm : Value) (args : Array Value) (s : State) : Prop := args = #[.ref t, .int (Int32.ofNat i)] ∧ XT.Arr .byte t V s ∧ V.slots[i]? = some (.int u) ∧ (StaticIs s "jdk/internal/util/Preconditions" "SIOOBE_FORMATTER" "Ljava/util/function/BiFunction;" fm ∧ fm.isRef = true)
def E (u : Int32) (r : Option Value) (s w : State) : Prop := XT.PureE (some (.int (chr8 u))) r s w
theorem law (l : Launch) (t : Addr) (V : Cell) (i : Nat) (u : Int32) (fm : Value) : Law l yN 2 2 2 27 yB 2 (some .char) site (P t V i u fm) (E u) [] 0 0 := by
  refine Law.of_walk (plainFor_of_name (by decide +kernel)) (by decide +kernel) (by decide +kernel) (by decide) (fun _ _ h => by rw [h.1]; rfl) (fun _ U U' hal hh h => ⟨h.1, h.2.1.mv hal hh, h.2.2.1, h.2.2.2.1.there hal hh, h.2.2.2.2⟩) (fun r U U' V V' h1 hal h2 h => XT.PureE.mv r U U' V V' h1 hal h2 h) ?_
  intro p e s m args below meth c s₁ X0 hexec hbytes hml hret hlk hnm hown hh0 W hP
  obtain ⟨rfl, hV, hu, s1, rf⟩ := hP
  have v31 := hV.2.2.2
  have hi : i < V.slots.size := (Array.getElem?_eq_some_iff.mp hu).1
  have c1 : Steps p.tables e below (s₁.setTop (entryFrame m #[.ref t, .int (Int32.ofNat i)] 2)) (s₁.setTop (mkF m 0 #[.val (.ref t), .val (.int (Int32.ofNat i))] [])) := entry rfl
  have c2 : Steps p.tables e below (s₁.setTop (entryFrame m #[.ref t, .int (Int32.ofNat i)] 2)) (s₁.setTop (mkF m 3 #[.val (.ref t), .val (.int (Int32.ofNat i))] [.int (Int32.ofNat V.slots.size), .int (Int32.ofNat i)])) := c1.trans (by
    refine XS.iloadN X0.here hexec rfl (hb hbytes d0) rfl ?_
    refine XS.aloadN X0.here hexec rfl (hb hbytes d1) rfl rfl ?_
    refine X0.alen hexec (hV.mv X0.warmed.alike hh0) rfl rfl (hb hbytes d2) ?_
    exact Steps.refl _)
  obtain ⟨v3, T3, X3, E3, g3⟩ := X0.callS hexec (JO.Str_checkIndex.law l (Int32.ofNat i) (Int32.ofNat V.slots.size) fm) hown (wks W (staticW "java/lang/StringLatin1" 9 JO.Str_checkIndex.yN)) (wk W JO.Str_checkIndex.tab) (W := 0) (Nat.le_of_ble_eq_true rfl) (Nat.le_of_ble_eq_true rfl) (Nat.le_refl _) (Nat.le_refl _) (g := (mkF m 3 #[.val (.ref t), .val (.int (Int32.ofNat i))] [.int (Int32.ofNat V.slots.size), .int (Int32.ofNat i)])) rfl (by rw [hml]; rfl) c2 (argsL := [.int (Int32.ofNat i), .int (Int32.ofNat V.slots.size)]) (rest := []) rfl rfl (by show 2 * 0 + 0 ≤ _; decide) (hb hbytes d3) (⟨rfl, rf, s1.there X0.warmed.alike hh0, Int32.ofNat_not_neg (by omega), lt32 v31 hi⟩)
  obtain ⟨rfl, q3⟩ := E3
  have hh3 := q3.trans hh0
  have c4 : Steps p.tables e below (s₁.setTop (entryFrame m #[.ref t, .int (Int32.ofNat i)] 2)) (T3.setTop (mkF m 14 #[.val (.ref t), .val (.int (Int32.ofNat i))] [.int (chr8 u)])) := Steps.trans g3 (by
    refine XS.aloadN X3.here hexec rfl (hb hbytes d6) rfl rfl ?_
    refine XS.iloadN X3.here hexec rfl (hb hbytes d7) rfl ?_
    refine X3.aget hexec (hV.mv X3.warmed.alike hh3) rfl hu rfl rfl (hb hbytes d8) ?_
    refine sipushV X3.here hexec rfl 255 (hb hbytes d9) (by decide) ?_
    refine XS.iand X3.here hexec rfl (hb hbytes d12) rfl ?_
    refine i2c X3.here hexec rfl (hb hbytes d13) rfl ?_
    exact Steps.refl _)
  exact ⟨T3, some (.int (chr8 u)), _, _, _, X3, rfl, rfl, rfl, (fun h => by cases h), ⟨rfl, hh3⟩, fun fs hl => c4.trans (X3.ireturnOut hexec hret (narrow_c _) (Or.inr (Or.inr (Or.inr (Or.inl rfl)))) (hb hbytes d14) hl)⟩
end LChA
end StrChars
namespace StrChars.Road
open Jvm Sem ClassFile Op Lib Jvm.Stand Jvm.Free Jvm.Free.XT
open Jvm.Lib.Cold (StaticIs)
theorem consq {a : Array Value} {s : State} {c : Jvm.Cond} {L : List Jvm.Cond} (h0 : c.before a s = true) (h : ∀ w ∈ L, w.before a s = true) : ∀ w ∈ c :: L, w.before a s = true := fun w hw => (List.mem_cons.mp hw).elim (fun e => e ▸ h0) (h w)
/-- the words of String.length(), either coding -/
abbrev wordsLen : List Jvm.Cond := [.code Len.yN Len.yB 1 (some .int), .initialized ST, .fieldLink ST 9 ST "value" "[B", .fieldLink ST 38 ST "COMPACT_STRINGS" "Z", .fieldLink ST 15 ST "coder" "B", .code Cdr.yN Cdr.yB 1 (some .byte), .methodLink ST 335 Cdr.yN, .declares Cdr.yN, .selects ST Cdr.yN Cdr.yN, .instanceMethod Cdr.yN]
theorem tabLen_of {a : Array Value} {s : State} (h : ∀ w ∈ wordsLen, w.before a s = true) : Len.tab.before a s = true := by
  have hc : Cdr.tab.before a s = true := unparts (wk h (.code Cdr.yN Cdr.yB 1 (some .byte))) (wks h (.initialized Cdr.yN.cls :: Cdr.site))
  have q := consq hc h
  exact unparts (wk q (.code Len.yN Len.yB 1 (some .int))) (wks q (.initialized Len.yN.cls :: Len.site))
theorem movedLen {Z s : State} {a0 args : Array Value} (hZ : Z.Warmed39 s.vm) (hw : ∀ d ∈ wordsLen, d.before a0 Z = true) : ∀ d ∈ wordsLen, d.before args s = true := fun d hd => by
  have q := hw d hd
  have t : ∀ d ∈ wordsLen, d = .arrayClass .byte ∨ (d.onTables && d.keepsFace) = true := by decide +kernel
  rcases t d hd with rfl | t
  · exact RoadKit.mvA hZ q
  · exact RoadKit.mv hZ q t
/-- the bytes of the chars cs, low before high -/
def wideBytes : List Int32 → List Value
  | [] => []
  | c :: cs => .int (lo8 c) :: .int (hi8 c) :: wideBytes cs
theorem wide_lo (d : Value) : ∀ (cs : List Int32) (j : Nat), j < cs.length → (wideBytes cs).getD (2 * j) d = .int (lo8 (cs.getD j 0))
  | [], j, h => absurd h (Nat.not_lt_zero j)
  | c :: cs, 0, _ => rfl
  | c :: cs, j + 1, h => by
    have q := wide_lo d cs j (by simpa using h)
    rw [show 2 * (j + 1) = 2 * j + 1 + 1 from by omega]
    simpa [wideBytes] using q
theorem wide_hi (d : Value) : ∀ (cs : List Int32) (j : Nat), j < cs.length → (wideBytes cs).getD (2 * j + 1) d = .int (hi8 (cs.getD j 0))
  | [], j, h => absurd h (Nat.not_lt_zero j)
  | c :: cs, 0, _ => rfl
  | c :: cs, j + 1, h => by
    have q := wide_hi d cs j (by simpa using h)
    rw [show 2 * (j + 1) + 1 = 2 * j + 1 + 1 + 1 from by omega]
    simpa [wideBytes] using q
theorem low_at (d : Value) (cs : List Int32) (j : Nat) (h : j < cs.length) : (cs.map fun c => Value.int (lo8 c)).getD j d = .int (lo8 (cs.getD j 0)) := by
  simp [List.getD_eq_getElem?_getD, h]
/-- an array of N2 bytes vs codes the chars cs by the coder cd -/
def CodA (cs : List Int32) (cd N2 : Int32) (vs : List Value) : Prop := (cd = 0 ∧ N2 = Int32.ofNat cs.length ∧ vs = (cs.map fun c => Value.int (lo8 c)) ∧ ∀ c ∈ cs, ¬ 255 < c) ∨ (cd = 1 ∧ N2 = Int32.ofNat (2 * cs.length) ∧ vs = wideBytes cs ∧ ∃ c ∈ cs, 255 < c)
theorem CodA.cod {cs : List Int32} {cd N2 : Int32} {vs : List Value} {V : Cell} (h : CodA cs cd N2 vs) (hn : 2 * cs.length < 2 ^ 31) (hs : V.slots.size = N2.toNatClampNeg) (hv : RoadKit.Has V vs (.int 0)) : Cod cd cs.length (fun j => cs.getD j 0) V := by
  rcases h with ⟨rfl, rfl, rfl, h⟩ | ⟨rfl, rfl, rfl, c, hc, hw⟩
  · rw [n32 (by omega)] at hs
    exact Or.inl ⟨rfl, hs, fun j hj => ⟨by rw [hv j (by omega), low_at _ _ _ hj], by
      have e : cs.getD j 0 = cs[j] := by simp [List.getD_eq_getElem?_getD, hj]
      show ¬ 255 < cs.getD j 0
      rw [e]; exact h _ (List.getElem_mem _)⟩⟩
  · rw [n32 (by omega)] at hs
    obtain ⟨j, hj, rfl⟩ := List.getElem_of_mem hc
    exact Or.inr ⟨rfl, hs, fun j hj => ⟨by rw [hv _ (by omega), wide_lo _ _ _ hj], by rw [hv _ (by omega), wide_hi _ _ _ hj]⟩, j, hj, by
      have e : cs.getD j 0 = cs[j] := by simp [List.getD_eq_getElem?_getD, hj]
      show 255 < cs.getD j 0
      rw [e]; exact hw⟩
/-- an object of exactly java/lang/String, its two fields found: as the laws ask it -/
theorem strObj {Z U : State} {a0 : Array Value} {kI : Nat} (wi : (Jvm.Cond.instantiable ST kI).before a0 Z = true) (al : Z.vm.Alike U.vm) {x : Addr} {v0 c0 : Value} (E : RoadKit.Exa Z U.heap x ST) (V : RoadKit.Fld Z U.heap x ST "value" "[B" v0) (C : RoadKit.Fld Z U.heap x ST "coder" "B" c0) :
    ∃ (D : Cell) (fV fC : Field), Blank ST x D U ∧ Found ST "value" "[B" fV U ∧ Found ST "coder" "B" fC U ∧ D.slots[fV.slot]? = some v0 ∧ D.slots[fC.slot]? = some c0 ∧ RoadKit.slotOf Z ST "value" "[B" = fV.slot ∧ RoadKit.slotOf Z ST "coder" "B" = fC.slot := by
  obtain ⟨D, cfV, kV, iV, fV, hD, gV, stV, knV, obV, asV, slV⟩ := V
  obtain ⟨D', cfC, kC, iC, fC, hD', gC, stC, -, -, asC, slC⟩ := C
  cases hD.symm.trans hD'
  obtain ⟨D2, kD, e1, e2, e3, e4, e5⟩ := E
  cases hD.symm.trans e1
  obtain ⟨c2, k2, i1, i2, i3, -⟩ := Cond.instantiable_spec wi
  cases e2.symm.trans i1
  cases e3.symm.trans i2
  obtain ⟨kU, u1, u2⟩ := al.2.2 _ _ e3
  exact ⟨D, fV, fC, ⟨hD, ⟨knV, fun q hq => by rw [hq] at obV; cases obV⟩, by rw [al.findClass]; exact e2, kU, u1, by rw [u2]; exact i3, by rw [u2]; exact e5 i3⟩, ⟨SBG.found_only al ⟨cfV, kV, iV, gV⟩, stV⟩, ⟨SBG.found_only al ⟨cfC, kC, iC, gC⟩, stC⟩, slV, slC, by simp [RoadKit.slotOf, gV], by simp [RoadKit.slotOf, gC]⟩
theorem sta_is {Z U : State} (al : Z.vm.Alike U.vm) {C n d : String} {v : Value} (S : RoadKit.Sta Z U.heap C n d v) : StaticIs U C n d v := by
  obtain ⟨cfS, iS, kS, fS, st, cS, t1, t2, t3, t4, t5, t6, t7⟩ := S
  exact StaticIs.there (s := { Z with heap := U.heap }) ⟨cfS, iS, kS, fS, st, cS, t1, t2, t3, t4, t5, (fun q => by rw [q] at t6; cases t6), t7⟩ al rfl
/-- **length() OF SUCH A STRING** -/
theorem lenW {p : Program} {l : Launch} {e : Env} {R : Room} {s : State} {args : Array Value} {below : List Frame} {len W : Nat} {Z : State} {a0 : Array Value} {h : Heap} (hZ : Z.Warmed39 s.vm) (hw : ∀ d ∈ wordsLen, d.before a0 Z = true) {kI : Nat} (wi : (Jvm.Cond.instantiable ST kI).before a0 Z = true)
    {x t : Addr} {kb : ClassId} {cs : List Int32} {cd N2 z : Int32} {vs : List Value} (E : RoadKit.Exa Z h x ST) (V : RoadKit.Fld Z h x ST "value" "[B" (.ref t)) (C : RoadKit.Fld Z h x ST "coder" "B" (.int cd)) (K : RoadKit.Arv Z h t kb .byte N2 vs (.int 0)) (hc : CodA cs cd N2 vs) (hb : ∀ c ∈ cs, ¬ c < 0 ∧ ¬ (65535 : Int32) < c)
    (S : RoadKit.Sta Z h ST "COMPACT_STRINGS" "Z" (.int z)) (hz : ¬ z = 0) (l2 : cs.length ≤ 4000) (hfr : 2 ≤ R.frames) (hlo : W + 25 ≤ R.locals) :
    Back l R p e below s args (⟨"java/lang/String", "length", "()I"⟩ : MethodName) len W (fun P a => a = #[.ref x] ∧ P.U.heap = h ∧ P.cells + 0 ≤ R.cells ∧ P.slots + 0 ≤ R.slots)
      (fun P _ v B => ∃ L, (v = some (.int (Int32.ofNat cs.length)) ∧ L = [] ∧ B.U.heap = h) ∧ B.locs = P.locs ++ L ∧ B.cells = P.cells + 0 ∧ B.slots = P.slots + 0) := by
  obtain ⟨A, K1, K2, K3, K4, K5, K6⟩ := K
  have hcod := hc.cod (by omega) K3 K5
  intro m meth c P g ig mk a X hg hsize hdg hW hn hp'
  obtain ⟨rfl, rfl, r1, r2⟩ := hp'
  have al : Z.vm.Alike P.U.vm := hZ.alike.trans X.warmed.alike
  obtain ⟨D, fV, fC, hB, F1, F2, g1, g2, -, -⟩ := strObj wi al E V C
  have hx : Txt x t A cd cs.length (fun j => cs.getD j 0) P.U := ⟨⟨_, hB.2.2.1, D, hB.1, rfl, by cases q : D.vm <;> first | rfl | exact absurd q (hB.2.1.2 _)⟩, Has.of hB F1 g1, Has.of hB F2 g2, ⟨K1.1, State.isArrayOf_alike al K1.2.1, K1.2.2, by rcases hcod with ⟨-, q, -⟩ | ⟨-, q, -⟩ <;> omega⟩, hcod, fun j hj => by
    have e : cs.getD j 0 = cs[j] := by simp [List.getD_eq_getElem?_getD, hj]
    show ¬ cs.getD j 0 < 0 ∧ ¬ 65535 < cs.getD j 0
    rw [e]; exact hb _ (List.getElem_mem _)⟩
  obtain ⟨v, B, X', ⟨⟨hv, hh⟩, hl, hk, hs⟩, st⟩ := Len.pays x t A cd cs.length (fun j => cs.getD j 0) z (tabLen_of (movedLen hZ hw)) hfr hlo m meth c P g ig mk _ X hg hsize hdg hW hn ⟨r1, r2, rfl, hx, sta_is al S, hz⟩
  exact ⟨v, B, X', ⟨[], ⟨hv, rfl, hh⟩, hl, hk, hs⟩, st⟩
end StrChars.Road
namespace StrChars.Road
open Jvm Sem ClassFile Op Lib Jvm.Stand Jvm.Free Jvm.Free.XT
open Jvm.Lib.Cold (StaticIs)
/-- the road's facts of a String, as the laws ask it -/
theorem txt_of {Z U : State} {a0 : Array Value} {kI : Nat} (wi : (Jvm.Cond.instantiable ST kI).before a0 Z = true) (al : Z.vm.Alike U.vm) {x t : Addr} {kb : ClassId} {cs : List Int32} {cd N2 : Int32} {vs : List Value} (E : RoadKit.Exa Z U.heap x ST) (V : RoadKit.Fld Z U.heap x ST "value" "[B" (.ref t)) (C : RoadKit.Fld Z U.heap x ST "coder" "B" (.int cd)) (K : RoadKit.Arv Z U.heap t kb .byte N2 vs (.int 0)) (hc : CodA cs cd N2 vs) (hb : ∀ c ∈ cs, ¬ c < 0 ∧ ¬ (65535 : Int32) < c) (l2 : cs.length ≤ 4000) :
    ∃ A, Txt x t A cd cs.length (fun j => cs.getD j 0) U := by
  obtain ⟨A, K1, K2, K3, K4, K5, K6⟩ := K
  have hcod := hc.cod (by omega) K3 K5
  obtain ⟨D, fV, fC, hB, F1, F2, g1, g2, -, -⟩ := strObj wi al E V C
  exact ⟨A, ⟨_, hB.2.2.1, D, hB.1, rfl, by cases q : D.vm <;> first | rfl | exact absurd q (hB.2.1.2 _)⟩, Has.of hB F1 g1, Has.of hB F2 g2, ⟨K1.1, State.isArrayOf_alike al K1.2.1, K1.2.2, by rcases hcod with ⟨-, q, -⟩ | ⟨-, q, -⟩ <;> omega⟩, hcod, fun j hj => by
    have e : cs.getD j 0 = cs[j] := by simp [List.getD_eq_getElem?_getD, hj]
    show ¬ cs.getD j 0 < 0 ∧ ¬ 65535 < cs.getD j 0
    rw [e]; exact hb _ (List.getElem_mem _)⟩
end StrChars.Road
namespace StrChars
open Jvm Sem ClassFile Op Lib Jvm.Stand Jvm.Free.XT Jvm.Free.ALB Jvm.Free.JM Jvm.Free
open Jvm.Lib.Cold (StaticIs)
namespace ChN
def yN : MethodName := ⟨"java/lang/String", "charAt", "(I)C"⟩
abbrev yB : ByteArray := jdk_42_method_56_code
theorem d0 : decode yB 0 = .ok (.aload_n 0, 1) := by decide +kernel
theorem d1 : decode yB 1 = .ok (.invokevirtual 492, 3) := by decide +kernel
theorem d4 : decode yB 4 = .ok (.ifCond (.eq) 12, 3) := by decide +kernel
theorem d7 : decode yB 7 = .ok (.aload_n 0, 1) := by decide +kernel
theorem d8 : decode yB 8 = .ok (.getfield 9, 3) := by decide +kernel
theorem d11 : decode yB 11 = .ok (.iload_n 1, 1) := by decide +kernel
theorem d12 : decode yB 12 = .ok (.invokestatic 495, 3) := by decide +kernel
theorem d15 : decode yB 15 = .ok (.ireturn, 1) := by decide +kernel
def site : List Cond := [.fieldLink "java/lang/String" 9 "java/lang/String" "value" "[B", IsL.tab, LChA.tab] ++ virtW "java/lang/String" 492 "java/lang/String" IsL.yN IsL.yN ++ staticW "java/lang/String" 495 LChA.yN
def tab : Cond := tabOf yN yB 2 (some .char) site
def P (x t : Addr) (V : Cell) (n : Nat) (f : Nat → Int32) (z : Int32) (fm : Value) (i : Nat) (args : Array Value) (s : State) : Prop := args = #[.ref x, .int (Int32.ofNat i)] ∧ Txt x t V 0 n f s ∧ i < n ∧ StaticIs s "java/lang/String" "COMPACT_STRINGS" "Z" (.int z) ∧ ¬ z = 0 ∧ StaticIs s "jdk/internal/util/Preconditions" "SIOOBE_FORMATTER" "Ljava/util/function/BiFunction;" fm ∧ fm.isRef = true
def E (f : Nat → Int32) (i : Nat) (r : Option Value) (s u : State) : Prop := XT.PureE (some (.int (f i))) r s u
/-- charAt(i) of a Latin-1 String of n chars, i < n: f i -/
theorem law (l : Launch) (x t : Addr) (V : Cell) (n : Nat) (f : Nat → Int32) (z : Int32) (fm : Value) (i : Nat) : Law l yN 2 1 3 40 yB 2 (some .char) site (P x t V n f z fm i) (E f i) [] 0 0 := by
  refine Law.of_walk (plainFor_of_name (by decide +kernel)) (by decide +kernel) (by decide +kernel) (by decide) (fun _ _ h => by rw [h.1]; rfl) (fun _ U U' hal hh h => ⟨h.1, h.2.1.mv hal hh, h.2.2.1, h.2.2.2.1.there hal hh, h.2.2.2.2.1, h.2.2.2.2.2.1.there hal hh, h.2.2.2.2.2.2⟩) (fun r U U' V V' h1 hal h2 h => XT.PureE.mv r U U' V V' h1 hal h2 h) ?_
  intro p e s m args below meth c s₁ X0 hexec hbytes hml hret hlk hnm hown hh0 W hP
  obtain ⟨rfl, hx, hi, s1, hz, s3, rf⟩ := hP
  have v31 := hx.2.2.2.1.2.2.2
  have hr := hx.2.2.2.2.2 i hi
  have hx0 := hx.mv X0.warmed.alike hh0
  have c1 : Steps p.tables e below (s₁.setTop (entryFrame m #[.ref x, .int (Int32.ofNat i)] 2)) (s₁.setTop (mkF m 1 #[.val (.ref x), .val (.int (Int32.ofNat i))] [.ref x])) := Steps.trans (entry rfl) (by
    show Steps p.tables e below (s₁.setTop (mkF m 0 #[.val (.ref x), .val (.int (Int32.ofNat i))] [])) _
    refine XS.aloadN X0.here hexec rfl (hb hbytes d0) rfl rfl ?_
    exact Steps.refl _)
  obtain ⟨v2, T2, X2, E2, g2⟩ := X0.callV hexec (IsL.law l x 0 z) hown (wks W (virtW "java/lang/String" 492 "java/lang/String" IsL.yN IsL.yN)) rfl (by decide) (wk W IsL.tab) (W := 0) (Nat.le_of_ble_eq_true rfl) (Nat.le_of_ble_eq_true rfl) (Nat.le_refl _) (Nat.le_refl _) (hx0.1.fc X0.warmed.alike) hx0.1.is (g := (mkF m 1 #[.val (.ref x), .val (.int (Int32.ofNat i))] [.ref x])) rfl (by rw [hml]; rfl) c1 (argsL := []) (rest := []) rfl rfl (by show 2 * 0 + 0 ≤ _; decide) (hb hbytes d1) (⟨rfl, hx0.2.2.1, hx.2.2.2.2.1.cd, s1.there X0.warmed.alike hh0, hz⟩)
  obtain ⟨rfl, q2⟩ := E2
  have hh2 := q2.trans hh0
  have hx2 := hx.mv X2.warmed.alike hh2
  obtain ⟨-, k1, k2⟩ | ⟨k0, -⟩ := hx.2.2.2.2.1
  · have c3 : Steps p.tables e below (s₁.setTop (entryFrame m #[.ref x, .int (Int32.ofNat i)] 2)) (T2.setTop (mkF m 8 #[.val (.ref x), .val (.int (Int32.ofNat i))] [.ref x])) := Steps.trans g2 (by
      refine XS.ifNo X2.here hexec rfl (hb hbytes d4) rfl (i0_eq_f (by decide)) ?_
      refine XS.aloadN X2.here hexec rfl (hb hbytes d7) rfl rfl ?_
      exact Steps.refl _)
    obtain ⟨T4, X4, q4, st4⟩ := X2.hget hexec hown (wk W (.fieldLink "java/lang/String" 9 "java/lang/String" "value" "[B")) hx2.2.1 (g := (mkF m 8 #[.val (.ref x), .val (.int (Int32.ofNat i))] [.ref x])) rfl (rest := []) rfl (hb hbytes d8)
    have hh4 := q4.trans hh2
    have c5 : Steps p.tables e below (s₁.setTop (entryFrame m #[.ref x, .int (Int32.ofNat i)] 2)) (T4.setTop (mkF m 12 #[.val (.ref x), .val (.int (Int32.ofNat i))] [.int (Int32.ofNat i), .ref t])) := (c3.trans (st4 _ (Steps.refl _))).trans (by
      refine XS.iloadN X4.here hexec rfl (hb hbytes d11) rfl ?_
      exact Steps.refl _)
    obtain ⟨v6, T6, X6, E6, g6⟩ := X4.callS hexec (LChA.law l t V i (lo8 (f i)) fm) hown (wks W (staticW "java/lang/String" 495 LChA.yN)) (wk W LChA.tab) (W := 0) (Nat.le_of_ble_eq_true rfl) (Nat.le_of_ble_eq_true rfl) (Nat.le_refl _) (Nat.le_refl _) (g := (mkF m 12 #[.val (.ref x), .val (.int (Int32.ofNat i))] [.int (Int32.ofNat i), .ref t])) rfl (by rw [hml]; rfl) c5 (argsL := [.ref t, .int (Int32.ofNat i)]) (rest := []) rfl rfl (by show 2 * 0 + 0 ≤ _; decide) (hb hbytes d12) (⟨rfl, hx.2.2.2.1.mv X4.warmed.alike hh4, (k2 i hi).1, s3.there X4.warmed.alike hh4, rf⟩)
    obtain ⟨rfl, q6⟩ := E6
    rw [chr8_lo8 hr.1 (k2 i hi).2] at g6
    exact ⟨T6, some (.int (f i)), _, _, _, X6, rfl, rfl, rfl, (fun h => by cases h), ⟨rfl, q6.trans hh4⟩, fun fs hl => Steps.trans g6 (X6.ireturnOut hexec hret (narrow_ch hr.1 hr.2) (Or.inr (Or.inr (Or.inr (Or.inl rfl)))) (hb hbytes d15) hl)⟩
  · exact absurd k0 (by decide)
theorem pays {l : Launch} {R : Room} {p : Program} {e : Env} {below : List Frame} {s : State} {sargs : Array Value} {len W : Nat} (x t : Addr) (V : Cell) (n : Nat) (f : Nat → Int32) (z : Int32) (fm : Value) (i : Nat) (htab : tab.before sargs s = true) (hfr : 4 ≤ R.frames) (hlo : W + 53 ≤ R.locals) :
    Back l R p e below s sargs yN len W (fun A₁ a₁ => A₁.cells + 0 ≤ R.cells ∧ A₁.slots + 0 ≤ R.slots ∧ P x t V n f z fm i a₁ A₁.U) (fun A₁ _ v₁ B₁ => E f i v₁ A₁.U B₁.U ∧ B₁.locs = A₁.locs ++ [] ∧ B₁.cells = A₁.cells + 0 ∧ B₁.slots = A₁.slots + 0) :=
  (law l x t V n f z fm i).pays htab hfr (by omega)
end ChN
end StrChars
namespace StrChars.Road
open Jvm Sem ClassFile Op Lib Jvm.Stand Jvm.Free Jvm.Free.XT
open Jvm.Lib.Cold (StaticIs)
/-- the words of String.charAt(int), the Latin-1 road alone -/
abbrev wordsChN : List Jvm.Cond := [.code ChN.yN ChN.yB 2 (some .char), .initialized ST, .fieldLink ST 9 ST "value" "[B", .fieldLink ST 38 ST "COMPACT_STRINGS" "Z", .fieldLink ST 15 ST "coder" "B", .code IsL.yN IsL.yB 1 (some .boolean), .methodLink ST 492 IsL.yN, .declares IsL.yN, .selects ST IsL.yN IsL.yN, .instanceMethod IsL.yN,
  .methodLink ST 495 LChA.yN, .static LChA.yN, .code LChA.yN LChA.yB 2 (some .char), .initialized "java/lang/StringLatin1", .methodLink "java/lang/StringLatin1" 9 JO.Str_checkIndex.yN, .static JO.Str_checkIndex.yN, .code JO.Str_checkIndex.yN JO.Str_checkIndex.yB 2 none,
  .fieldLink ST 1053 "jdk/internal/util/Preconditions" "SIOOBE_FORMATTER" "Ljava/util/function/BiFunction;", .methodLink ST 1059 JC.PreCheck.yN, .static JC.PreCheck.yN, .code JC.PreCheck.yN JC.PreCheck.yB 3 (some .int), .initialized "jdk/internal/util/Preconditions"]
theorem tabChN_of {a : Array Value} {s : State} (h : ∀ w ∈ wordsChN, w.before a s = true) : ChN.tab.before a s = true := by
  have hp : JC.PreCheck.tab.before a s = true := unparts (wk h (.code JC.PreCheck.yN JC.PreCheck.yB 3 (some .int))) (wks h (.initialized JC.PreCheck.yN.cls :: JC.PreCheck.site))
  have qk := consq hp h
  have hk : JO.Str_checkIndex.tab.before a s = true := unparts (wk qk (.code JO.Str_checkIndex.yN JO.Str_checkIndex.yB 2 none)) (wks qk (.initialized JO.Str_checkIndex.yN.cls :: JO.Str_checkIndex.site))
  have ql := consq hk h
  have hl : LChA.tab.before a s = true := unparts (wk ql (.code LChA.yN LChA.yB 2 (some .char))) (wks ql (.initialized LChA.yN.cls :: LChA.site))
  have hi : IsL.tab.before a s = true := unparts (wk h (.code IsL.yN IsL.yB 1 (some .boolean))) (wks h (.initialized IsL.yN.cls :: IsL.site))
  have q := consq hi (consq hl h)
  exact unparts (wk q (.code ChN.yN ChN.yB 2 (some .char))) (wks q (.initialized ChN.yN.cls :: ChN.site))
theorem movedChN {Z s : State} {a0 args : Array Value} (hZ : Z.Warmed39 s.vm) (hw : ∀ d ∈ wordsChN, d.before a0 Z = true) : ∀ d ∈ wordsChN, d.before args s = true := fun d hd => by
  have t : ∀ d ∈ wordsChN, (d.onTables && d.keepsFace) = true := by decide +kernel
  exact RoadKit.mv hZ (hw d hd) (t d hd)
/-- **charAt(i) OF A LATIN-1 STRING**, i < n: the char -/
theorem chN {p : Program} {l : Launch} {e : Env} {R : Room} {s : State} {args : Array Value} {below : List Frame} {len W : Nat} {Z : State} {a0 : Array Value} {h : Heap} (hZ : Z.Warmed39 s.vm) (hw : ∀ d ∈ wordsChN, d.before a0 Z = true) {kI : Nat} (wi : (Jvm.Cond.instantiable ST kI).before a0 Z = true)
    {x t : Addr} {kb : ClassId} {cs : List Int32} {N2 z : Int32} {vs : List Value} {fm : Value} {i : Nat} {j : Int32} (E : RoadKit.Exa Z h x ST) (V : RoadKit.Fld Z h x ST "value" "[B" (.ref t)) (C : RoadKit.Fld Z h x ST "coder" "B" (.int 0)) (K : RoadKit.Arv Z h t kb .byte N2 vs (.int 0)) (hc : CodA cs 0 N2 vs) (hb : ∀ c ∈ cs, ¬ c < 0 ∧ ¬ (65535 : Int32) < c)
    (S : RoadKit.Sta Z h ST "COMPACT_STRINGS" "Z" (.int z)) (hz : ¬ z = 0) (F : RoadKit.Sta Z h "jdk/internal/util/Preconditions" "SIOOBE_FORMATTER" "Ljava/util/function/BiFunction;" fm) (rf : fm.isRef = true) (l2 : cs.length ≤ 4000) (hi : i < cs.length) (hj : j = Int32.ofNat i) (hfr : 4 ≤ R.frames) (hlo : W + 53 ≤ R.locals) :
    Back l R p e below s args (⟨"java/lang/String", "charAt", "(I)C"⟩ : MethodName) len W (fun P a => a = #[.ref x, .int j] ∧ P.U.heap = h ∧ P.cells + 0 ≤ R.cells ∧ P.slots + 0 ≤ R.slots)
      (fun P _ v B => ∃ L, (v = some (.int (cs.getD i 0)) ∧ L = [] ∧ B.U.heap = h) ∧ B.locs = P.locs ++ L ∧ B.cells = P.cells + 0 ∧ B.slots = P.slots + 0) := by
  subst hj
  intro m meth c P g ig mk a X hg hsize hdg hW hn hp'
  obtain ⟨rfl, rfl, r1, r2⟩ := hp'
  have al : Z.vm.Alike P.U.vm := hZ.alike.trans X.warmed.alike
  obtain ⟨A, hx⟩ := txt_of wi al E V C K hc hb l2
  obtain ⟨v, B, X', ⟨⟨hv, hh⟩, hl, hk, hs⟩, st⟩ := ChN.pays x t A cs.length (fun j => cs.getD j 0) z fm i (tabChN_of (movedChN hZ hw)) hfr hlo m meth c P g ig mk _ X hg hsize hdg hW hn ⟨r1, r2, rfl, hx, hi, sta_is al S, hz, sta_is al F, rf⟩
  exact ⟨v, B, X', ⟨[], ⟨hv, rfl, hh⟩, hl, hk, hs⟩, st⟩
end StrChars.Road
end Jvm.Pilot.@@N@@
namespace Jvm.Pilot.@@N@@
namespace Own
open Jvm Jvm.ClassFile Sem Op Lib Jvm.Free Jvm.Stand Jvm.LawKit Jvm.RoadKit
/-- what stays through a whole case: the launch, the start, its arguments, the assumed constants, the start heap's size -/
def Gl : Type := Launch × State × Array Value × List (String × Nat) × Nat
def Gl.l (G : Gl) : Launch := G.1
def Gl.Z (G : Gl) : State := G.2.1
def Gl.a0 (G : Gl) : Array Value := G.2.2.1
def Gl.EL (G : Gl) : List (String × Nat) := G.2.2.2.1
def Gl.n0 (G : Gl) : Nat := G.2.2.2.2
/-- one run of one body -/
def Rn : Type := Program × Env × State × MethodId × Array Value × List Frame × Method × Code
def Rn.p (X : Rn) : Program := X.1
def Rn.e (X : Rn) : Env := X.2.1
def Rn.s (X : Rn) : State := X.2.2.1
def Rn.m (X : Rn) : MethodId := X.2.2.2.1
def Rn.args (X : Rn) : Array Value := X.2.2.2.2.1
def Rn.below (X : Rn) : List Frame := X.2.2.2.2.2.1
def Rn.meth (X : Rn) : Method := X.2.2.2.2.2.2.1
def Rn.c (X : Rn) : Code := X.2.2.2.2.2.2.2
/-- one body: its name, bytes, locals, what it returns, its room -/
def Bo : Type := MethodName × ByteArray × Nat × Option FieldType × Room
abbrev Bo.y (M : Bo) : MethodName := M.1
abbrev Bo.bytes (M : Bo) : ByteArray := M.2.1
abbrev Bo.maxL (M : Bo) : Nat := M.2.2.1
abbrev Bo.ret (M : Bo) : Option FieldType := M.2.2.2.1
abbrev Bo.R (M : Bo) : Room := M.2.2.2.2
/-- what is known of a run's body throughout -/
def Fixd (G : Gl) (X : Rn) (M : Bo) : Prop := X.p.tables.exec = Jvm.exec ∧ X.c.code = M.bytes ∧ X.c.maxLocals = M.maxL ∧ X.meth.sig.returnType = M.ret ∧ X.meth.locks = false ∧ X.meth.name = M.y.name ∧ EW G.Z G.a0 G.EL
/-- WHERE A WALK STANDS: the tables of its base vm, the state T, its heap h, at most C new cells of S slots -/
def Here (G : Gl) (X : Rn) (M : Bo) (vm : Vm) (T : State) (h : Heap) (C S : Nat) : Prop :=
  Fixd G X M ∧ ∃ (k0 : Nat) (locs : List Loc) (cells slots : Nat), Stand X.p G.l X.e M.R (X.s.setVm vm) X.m X.args X.below X.meth X.c T locs cells slots ∧ T.heap = h ∧ X.s.Since vm k0 ∧ k0 ≤ h.size ∧ G.Z.Warmed39 vm ∧ vm.findClass M.y.cls = some X.m.cls ∧
    CHr G.Z G.EL X.s.vm X.s.heap vm h ∧ Fr G.n0 locs ∧ Old G.Z G.n0 h ∧ cells ≤ C ∧ slots ≤ S
/-- THE GOAL: from this frame the body comes to its end, and there Q holds -/
def Go (G : Gl) (X : Rn) (M : Bo) (Q : Option Value → Heap → Prop) (T : State) (pc : Nat) (Ls : Array Slot) (st : List Value) : Prop :=
  ∃ s₂ o, Steps X.p.tables X.e X.below (T.setTop (mkF X.m pc Ls st)) s₂ ∧ s₂.status = .running ∧ Ended s₂ X.below o ∧ ∃ v L, o = .returned v ∧ (Q v s₂.heap ∧ Fr G.n0 L ∧ Old G.Z G.n0 s₂.heap) ∧ CHr G.Z G.EL X.s.vm X.s.heap s₂.vm s₂.heap ∧ ReturnedEndW X.s o s₂ L M.R.cells M.R.slots
/-- A BODY's CONTRACT: called with as' in the heap h (the places sf not booked by a constant), it returns and Q holds -/
def Con (G : Gl) (ws : List Jvm.Cond) (M : Bo) (as' : Array Value) (h : Heap) (sf : List Addr) (Q : Option Value → Heap → Prop) : Prop :=
  MetFree G.l M.y (head1 (Jvm.Cond.code M.y M.bytes M.maxL M.ret :: ws) M.R) (fun a U => a = as' ∧ G.Z.Warmed39 U.vm ∧ U.heap = h ∧ CHv G.Z G.EL U.vm h ∧ ∀ x ∈ sf, Safe G.Z G.EL U.vm h x) (fun _ _ _ _ _ => True)
    (fun _ U o U' => ∃ v L, o = .returned v ∧ (Q v U'.heap ∧ Fr G.n0 L ∧ Old G.Z G.n0 U'.heap) ∧ CHr G.Z G.EL U.vm U.heap U'.vm U'.heap ∧ ReturnedEndW U o U' L M.R.cells M.R.slots)
/-- A CALL THAT IS PAID -/
def Pay (G : Gl) (X : Rn) (M : Bo) (vm : Vm) (h : Heap) (y : MethodName) (len W : Nat) (as' : Array Value) (kc ks : Nat) (Q : Option Value → Heap → Prop) : Prop :=
  BackS G.l M.R X.p X.e X.below (X.s.setVm vm) X.args y len W (fun A a => a = as' ∧ A.U.heap = h ∧ A.cells + kc ≤ M.R.cells ∧ A.slots + ks ≤ M.R.slots)
    (fun A _ v B => ∃ L, (Q v B.U.heap ∧ Fr G.n0 L ∧ Old G.Z G.n0 B.U.heap) ∧ B.locs = A.locs ++ L ∧ B.cells ≤ A.cells + kc ∧ B.slots ≤ A.slots + ks ∧ CHr G.Z G.EL vm h B.U.vm B.U.heap)
section Kit
variable {G : Gl} {X : Rn} {M : Bo} {vm : Vm} {T : State} {h : Heap} {C S : Nat} {Q : Option Value → Heap → Prop} {pc pc' : Nat} {Ls Ls' : Array Slot} {st : List Value}
theorem Go.stp {T' : State} {st' : List Value} (hs : ∀ t, Steps X.p.tables X.e X.below (T'.setTop (mkF X.m pc' Ls' st')) t → Steps X.p.tables X.e X.below (T.setTop (mkF X.m pc Ls st)) t) (k : Go G X M Q T' pc' Ls' st') : Go G X M Q T pc Ls st := by
  obtain ⟨s₂, o, h1, r⟩ := k
  exact ⟨s₂, o, hs _ h1, r⟩
theorem Here.x (W : Here G X M vm T h C S) : X.p.tables.exec = Jvm.exec := W.1.1
theorem Here.d (W : Here G X M vm T h C S) {pc : Nat} {r : Except ClassFile.DecodeError (ClassFile.Instr × Nat)} (h2 : ClassFile.decode M.bytes pc = r) : ClassFile.decode X.c.code pc = r := hb W.1.2.1 h2
theorem Here.at (W : Here G X M vm T h C S) : Jvm.At T X.m X.c X.below := by obtain ⟨-, _, _, _, _, X1, -⟩ := W; exact X1.here
theorem Here.old (W : Here G X M vm T h C S) : Old G.Z G.n0 h := by obtain ⟨-, _, _, _, _, -, -, -, -, -, -, -, -, o, -⟩ := W; exact o
theorem Here.ch (W : Here G X M vm T h C S) : CHv G.Z G.EL vm h := by obtain ⟨-, _, _, _, _, -, -, -, -, -, -, q, -⟩ := W; exact q.1
theorem Here.wz (W : Here G X M vm T h C S) : G.Z.Warmed39 vm := by obtain ⟨-, _, _, _, _, -, -, -, -, q, -⟩ := W; exact q
theorem Here.le (W : Here G X M vm T h C S) {C' S' : Nat} (hc : C ≤ C') (hs : S ≤ S') : Here G X M vm T h C' S' := by
  obtain ⟨F, k0, L, c, s, h1, h2, h3, h4, h5, h6, h7, h8, h9, h10, h11⟩ := W
  exact ⟨F, k0, L, c, s, h1, h2, h3, h4, h5, h6, h7, h8, h9, Nat.le_trans h10 hc, Nat.le_trans h11 hs⟩
theorem Here.n0 (W : Here G X M vm T h C S) : G.n0 ≤ h.size := W.old.1 ▸ W.old.2.1
/-- the start heap's fact, now -/
theorem Here.sta (W : Here G X M vm T h C S) {c n d : String} {v : Value} (F : Sta G.Z G.Z.heap c n d v) : Sta G.Z h c n d v := F.ext W.old.2
/-! ### plain steps -/
theorem iconst (W : Here G X M vm T h C S) {i : Int} (hd : decode M.bytes pc = .ok (.iconst i, 1)) (pc' : Nat) (hp : pc + 1 = pc') (v : Int32) (hv : Int32.ofInt i = v) (k : Go G X M Q T pc' Ls (.int v :: st)) : Go G X M Q T pc Ls st := by
  subst hp hv; exact Go.stp (fun t r => XS.iconst W.at W.x rfl (W.d hd) r) k
theorem bipush (W : Here G X M vm T h C S) {i : Int} (hd : decode M.bytes pc = .ok (.bipush i, 2)) (pc' : Nat) (hp : pc + 2 = pc') (v : Int32) (hv : (Int8.ofInt i).toInt32 = v) (k : Go G X M Q T pc' Ls (.int v :: st)) : Go G X M Q T pc Ls st := by
  subst hp hv; exact Go.stp (fun t r => XS.bipush W.at W.x rfl (W.d hd) r) k
theorem sipush (W : Here G X M vm T h C S) {i : Int} (hd : decode M.bytes pc = .ok (.sipush i, 3)) (pc' : Nat) (hp : pc + 3 = pc') (v : Int32) (hv : (Int16.ofInt i).toInt32 = v) (k : Go G X M Q T pc' Ls (.int v :: st)) : Go G X M Q T pc Ls st := by
  subst hp hv; exact Go.stp (fun t r => XS.sipush W.at W.x rfl (W.d hd) r) k
theorem aconstNull (W : Here G X M vm T h C S) (hd : decode M.bytes pc = .ok (.aconst_null, 1)) (pc' : Nat) (hp : pc + 1 = pc') (k : Go G X M Q T pc' Ls (.null :: st)) : Go G X M Q T pc Ls st := by
  subst hp; exact Go.stp (fun t r => XS.aconstNull W.at W.x rfl (W.d hd) r) k
theorem iloadN (W : Here G X M vm T h C S) {j : Fin 4} (hd : decode M.bytes pc = .ok (.iload_n j, 1)) (pc' : Nat) (hp : pc + 1 = pc') (v : Int32) (hl : Ls[j.val]? = some (.val (.int v))) (k : Go G X M Q T pc' Ls (.int v :: st)) : Go G X M Q T pc Ls st := by
  subst hp; exact Go.stp (fun t r => XS.iloadN W.at W.x rfl (W.d hd) hl r) k
theorem iload (W : Here G X M vm T h C S) {j : Nat} (hd : decode M.bytes pc = .ok (.iload j, 2)) (pc' : Nat) (hp : pc + 2 = pc') (v : Int32) (hl : Ls[j]? = some (.val (.int v))) (k : Go G X M Q T pc' Ls (.int v :: st)) : Go G X M Q T pc Ls st := by
  subst hp; exact Go.stp (fun t r => XS.iload W.at W.x rfl (W.d hd) hl r) k
theorem aloadN (W : Here G X M vm T h C S) {j : Fin 4} (hd : decode M.bytes pc = .ok (.aload_n j, 1)) (pc' : Nat) (hp : pc + 1 = pc') (v : Value) (hl : Ls[j.val]? = some (.val v)) (hv : v.isRef = true) (k : Go G X M Q T pc' Ls (v :: st)) : Go G X M Q T pc Ls st := by
  subst hp; exact Go.stp (fun t r => XS.aloadN W.at W.x rfl (W.d hd) hl hv r) k
theorem aload (W : Here G X M vm T h C S) {j : Nat} (hd : decode M.bytes pc = .ok (.aload j, 2)) (pc' : Nat) (hp : pc + 2 = pc') (v : Value) (hl : Ls[j]? = some (.val v)) (hv : v.isRef = true) (k : Go G X M Q T pc' Ls (v :: st)) : Go G X M Q T pc Ls st := by
  subst hp; exact Go.stp (fun t r => XS.aload W.at W.x rfl (W.d hd) hl hv r) k
theorem istoreN (W : Here G X M vm T h C S) {j : Fin 4} {x : Int32} (hd : decode M.bytes pc = .ok (.istore_n j, 1)) (pc' : Nat) (hp : pc + 1 = pc') (Ls' : Array Slot) (hl : storeLocals Ls j.val (.int x) = some Ls') (k : Go G X M Q T pc' Ls' st) : Go G X M Q T pc Ls (.int x :: st) := by
  subst hp; exact Go.stp (fun t r => XS.istoreN W.at W.x rfl (W.d hd) rfl hl r) k
theorem istore (W : Here G X M vm T h C S) {j : Nat} {x : Int32} (hd : decode M.bytes pc = .ok (.istore j, 2)) (pc' : Nat) (hp : pc + 2 = pc') (Ls' : Array Slot) (hl : storeLocals Ls j (.int x) = some Ls') (k : Go G X M Q T pc' Ls' st) : Go G X M Q T pc Ls (.int x :: st) := by
  subst hp; exact Go.stp (fun t r => XS.istore W.at W.x rfl (W.d hd) rfl hl r) k
theorem astoreN (W : Here G X M vm T h C S) {j : Fin 4} {x : Value} (hd : decode M.bytes pc = .ok (.astore_n j, 1)) (pc' : Nat) (hp : pc + 1 = pc') (hv : x.isRef = true) (Ls' : Array Slot) (hl : storeLocals Ls j.val x = some Ls') (k : Go G X M Q T pc' Ls' st) : Go G X M Q T pc Ls (x :: st) := by
  subst hp; exact Go.stp (fun t r => XS.astoreN W.at W.x rfl (W.d hd) rfl hv hl r) k
theorem astore (W : Here G X M vm T h C S) {j : Nat} {x : Value} (hd : decode M.bytes pc = .ok (.astore j, 2)) (pc' : Nat) (hp : pc + 2 = pc') (hv : x.isRef = true) (Ls' : Array Slot) (hl : storeLocals Ls j x = some Ls') (k : Go G X M Q T pc' Ls' st) : Go G X M Q T pc Ls (x :: st) := by
  subst hp; exact Go.stp (fun t r => XS.astore W.at W.x rfl (W.d hd) rfl hv hl r) k
theorem iinc (W : Here G X M vm T h C S) {j : Nat} {cst : Int} {x : Int32} (hd : decode M.bytes pc = .ok (.iinc j cst, 3)) (pc' : Nat) (hp : pc + 3 = pc') (hl : Ls[j]? = some (.val (.int x))) (Ls' : Array Slot) (hl' : storeLocals Ls j (.int (x + Int32.ofInt cst)) = some Ls') (k : Go G X M Q T pc' Ls' st) : Go G X M Q T pc Ls st := by
  subst hp; exact Go.stp (fun t r => XS.iinc W.at W.x rfl (W.d hd) hl hl' r) k
theorem iadd (W : Here G X M vm T h C S) {x y : Int32} (hd : decode M.bytes pc = .ok (.iadd, 1)) (pc' : Nat) (hp : pc + 1 = pc') (k : Go G X M Q T pc' Ls (.int (x + y) :: st)) : Go G X M Q T pc Ls (.int y :: .int x :: st) := by
  subst hp; exact Go.stp (fun t r => XS.iadd W.at W.x rfl (W.d hd) rfl r) k
theorem isub (W : Here G X M vm T h C S) {x y : Int32} (hd : decode M.bytes pc = .ok (.isub, 1)) (pc' : Nat) (hp : pc + 1 = pc') (k : Go G X M Q T pc' Ls (.int (x - y) :: st)) : Go G X M Q T pc Ls (.int y :: .int x :: st) := by
  subst hp; exact Go.stp (fun t r => XS.isub W.at W.x rfl (W.d hd) rfl r) k
theorem iand (W : Here G X M vm T h C S) {x y : Int32} (hd : decode M.bytes pc = .ok (.iand, 1)) (pc' : Nat) (hp : pc + 1 = pc') (k : Go G X M Q T pc' Ls (.int (x &&& y) :: st)) : Go G X M Q T pc Ls (.int y :: .int x :: st) := by
  subst hp; exact Go.stp (fun t r => XS.iand W.at W.x rfl (W.d hd) rfl r) k
theorem ixor (W : Here G X M vm T h C S) {x y : Int32} (hd : decode M.bytes pc = .ok (.ixor, 1)) (pc' : Nat) (hp : pc + 1 = pc') (k : Go G X M Q T pc' Ls (.int (x ^^^ y) :: st)) : Go G X M Q T pc Ls (.int y :: .int x :: st) := by
  subst hp; exact Go.stp (fun t r => XS.ixor W.at W.x rfl (W.d hd) rfl r) k
theorem iushr (W : Here G X M vm T h C S) {x y : Int32} (hd : decode M.bytes pc = .ok (.iushr, 1)) (pc' : Nat) (hp : pc + 1 = pc') (k : Go G X M Q T pc' Ls (.int ((x.toUInt32 >>> (y &&& 31).toUInt32).toInt32) :: st)) : Go G X M Q T pc Ls (.int y :: .int x :: st) := by
  subst hp; exact Go.stp (fun t r => XS.iushr W.at W.x rfl (W.d hd) rfl r) k
theorem ineg (W : Here G X M vm T h C S) {x : Int32} (hd : decode M.bytes pc = .ok (.ineg, 1)) (pc' : Nat) (hp : pc + 1 = pc') (k : Go G X M Q T pc' Ls (.int (-x) :: st)) : Go G X M Q T pc Ls (.int x :: st) := by
  subst hp; exact Go.stp (fun t r => XS.ineg W.at W.x rfl (W.d hd) rfl r) k
theorem i2c (W : Here G X M vm T h C S) {x : Int32} (hd : decode M.bytes pc = .ok (.i2c, 1)) (pc' : Nat) (hp : pc + 1 = pc') (k : Go G X M Q T pc' Ls (.int x.toUInt32.toUInt16.toUInt32.toInt32 :: st)) : Go G X M Q T pc Ls (.int x :: st) := by
  subst hp; exact Go.stp (fun t r => XS.i2c W.at W.x rfl (W.d hd) rfl r) k
theorem i2b (W : Here G X M vm T h C S) {x : Int32} (hd : decode M.bytes pc = .ok (.i2b, 1)) (pc' : Nat) (hp : pc + 1 = pc') (k : Go G X M Q T pc' Ls (.int x.toInt8.toInt32 :: st)) : Go G X M Q T pc Ls (.int x :: st) := by
  subst hp; exact Go.stp (fun t r => XS.i2b W.at W.x rfl (W.d hd) rfl r) k
theorem irem (W : Here G X M vm T h C S) {x y : Int32} (hd : decode M.bytes pc = .ok (.irem, 1)) (pc' : Nat) (hp : pc + 1 = pc') (hy : y ≠ 0) (k : Go G X M Q T pc' Ls (.int (x % y) :: st)) : Go G X M Q T pc Ls (.int y :: .int x :: st) := by
  subst hp
  obtain ⟨F, k0, L, c, s, X1, -⟩ := id W
  exact Go.stp (fun t r => iremM X1 W.x rfl (W.d hd) rfl hy r) k
theorem dup (W : Here G X M vm T h C S) {x : Value} (hd : decode M.bytes pc = .ok (.dup, 1)) (pc' : Nat) (hp : pc + 1 = pc') (hc : x.category = 1) (k : Go G X M Q T pc' Ls (x :: x :: st)) : Go G X M Q T pc Ls (x :: st) := by
  subst hp; exact Go.stp (fun t r => XS.dup W.at W.x rfl (W.d hd) rfl hc r) k
theorem pop (W : Here G X M vm T h C S) {x : Value} (hd : decode M.bytes pc = .ok (.pop, 1)) (pc' : Nat) (hp : pc + 1 = pc') (hc : x.category = 1) (k : Go G X M Q T pc' Ls st) : Go G X M Q T pc Ls (x :: st) := by
  subst hp; exact Go.stp (fun t r => XS.pop W.at W.x rfl (W.d hd) rfl hc r) k
theorem goto (W : Here G X M vm T h C S) {o : Int} (hd : decode M.bytes pc = .ok (.goto o, 3)) (pc' : Nat) (ho : 0 ≤ (pc : Int) + o) (hp : ((pc : Int) + o).toNat = pc') (k : Go G X M Q T pc' Ls st) : Go G X M Q T pc Ls st :=
  Go.stp (fun t r => XS.goto W.at W.x rfl (pc0 := pc) (pc' := pc') rfl (W.d hd) ho hp r) k
theorem ifYes (W : Here G X M vm T h C S) {cd : ClassFile.Cond} {x : Int32} {o : Int} (hd : decode M.bytes pc = .ok (.ifCond cd o, 3)) (pc' : Nat) (hc : ifCond.holds cd x = true) (ho : 0 ≤ (pc : Int) + o) (hp : ((pc : Int) + o).toNat = pc') (k : Go G X M Q T pc' Ls st) : Go G X M Q T pc Ls (.int x :: st) :=
  Go.stp (fun t r => XS.ifYes W.at W.x rfl (pc0 := pc) (pc' := pc') rfl (W.d hd) rfl hc ho hp r) k
theorem ifNo (W : Here G X M vm T h C S) {cd : ClassFile.Cond} {x : Int32} {o : Int} (hd : decode M.bytes pc = .ok (.ifCond cd o, 3)) (pc' : Nat) (hc : ifCond.holds cd x = false) (hp : pc + 3 = pc') (k : Go G X M Q T pc' Ls st) : Go G X M Q T pc Ls (.int x :: st) := by
  subst hp; exact Go.stp (fun t r => XS.ifNo W.at W.x rfl (W.d hd) rfl hc r) k
theorem icmpYes (W : Here G X M vm T h C S) {cd : ClassFile.Cond} {x y : Int32} {o : Int} (hd : decode M.bytes pc = .ok (.if_icmp cd o, 3)) (pc' : Nat) (hc : if_icmp.holds cd x y = true) (ho : 0 ≤ (pc : Int) + o) (hp : ((pc : Int) + o).toNat = pc') (k : Go G X M Q T pc' Ls st) : Go G X M Q T pc Ls (.int y :: .int x :: st) :=
  Go.stp (fun t r => XS.icmpYes W.at W.x rfl (pc0 := pc) (pc' := pc') rfl (W.d hd) rfl hc ho hp r) k
theorem icmpNo (W : Here G X M vm T h C S) {cd : ClassFile.Cond} {x y : Int32} {o : Int} (hd : decode M.bytes pc = .ok (.if_icmp cd o, 3)) (pc' : Nat) (hc : if_icmp.holds cd x y = false) (hp : pc + 3 = pc') (k : Go G X M Q T pc' Ls st) : Go G X M Q T pc Ls (.int y :: .int x :: st) := by
  subst hp; exact Go.stp (fun t r => XS.icmpNo W.at W.x rfl (W.d hd) rfl hc r) k
theorem ifnullYes (W : Here G X M vm T h C S) {o : Int} (hd : decode M.bytes pc = .ok (.ifnull o, 3)) (pc' : Nat) (ho : 0 ≤ (pc : Int) + o) (hp : ((pc : Int) + o).toNat = pc') (k : Go G X M Q T pc' Ls st) : Go G X M Q T pc Ls (.null :: st) :=
  Go.stp (fun t r => XS.ifnullYes W.at W.x rfl (pc0 := pc) (pc' := pc') rfl (W.d hd) rfl ho hp r) k
theorem ifnullNo (W : Here G X M vm T h C S) {o : Int} {b : Addr} (hd : decode M.bytes pc = .ok (.ifnull o, 3)) (pc' : Nat) (hp : pc + 3 = pc') (k : Go G X M Q T pc' Ls st) : Go G X M Q T pc Ls (.ref b :: st) := by
  subst hp; exact Go.stp (fun t r => XS.ifnullNo W.at W.x rfl (W.d hd) rfl r) k
theorem ifnonnullYes (W : Here G X M vm T h C S) {o : Int} {b : Addr} (hd : decode M.bytes pc = .ok (.ifnonnull o, 3)) (pc' : Nat) (ho : 0 ≤ (pc : Int) + o) (hp : ((pc : Int) + o).toNat = pc') (k : Go G X M Q T pc' Ls st) : Go G X M Q T pc Ls (.ref b :: st) :=
  Go.stp (fun t r => XT.nonnullYes W.at W.x rfl (pc0 := pc) (pc' := pc') rfl (W.d hd) rfl rfl (fun q => nomatch q) ho hp r) k
theorem ifnonnullNo (W : Here G X M vm T h C S) {o : Int} (hd : decode M.bytes pc = .ok (.ifnonnull o, 3)) (pc' : Nat) (hp : pc + 3 = pc') (k : Go G X M Q T pc' Ls st) : Go G X M Q T pc Ls (.null :: st) := by
  subst hp; exact Go.stp (fun t r => XT.nonnullNo W.at W.x rfl (W.d hd) rfl rfl r) k
theorem acmp (W : Here G X M vm T h C S) {cd : ACond} {x y : Value} {o : Int} (hd : decode M.bytes pc = .ok (.if_acmp cd o, 3)) (pc' : Nat) (h1 : x.isRef = true) (h2 : y.isRef = true) (same : Bool) (hs : decide (x = y) = same) (ho : 0 ≤ (pc : Int) + o) (hp : pc' = if acV cd same = true then ((pc : Int) + o).toNat else pc + 3) (k : Go G X M Q T pc' Ls st) : Go G X M Q T pc Ls (y :: x :: st) := by
  obtain ⟨F, k0, L, c, s, X1, -⟩ := id W
  exact Go.stp (fun t r => Jvm.RoadKit.acmp (g := mkF X.m pc Ls (y :: x :: st)) X1 W.x rfl h1 h2 (pc0 := pc) (pc' := pc') (same := same) rfl (W.d hd) rfl hs ho hp r) k
end Kit
end Own
end Jvm.Pilot.@@N@@
namespace Jvm.Pilot.@@N@@
namespace Own
open Jvm Jvm.ClassFile Sem Op Lib Jvm.Free Jvm.Stand Jvm.LawKit Jvm.RoadKit
section Kit2
variable {G : Gl} {X : Rn} {M : Bo} {vm : Vm} {T : State} {h : Heap} {C S : Nat} {Q : Option Value → Heap → Prop} {pc pc' : Nat} {Ls Ls' : Array Slot} {st : List Value}
theorem Ext.rfl' (h : Heap) : Ext h h := ⟨Nat.le_refl _, fun _ _ q => q⟩
theorem Ext.tr {h1 h2 h3 : Heap} (a : Ext h1 h2) (b : Ext h2 h3) : Ext h1 h3 := ⟨Nat.le_trans a.1 b.1, fun x c q => b.2 x c (a.2 x c q)⟩
theorem Ext.wr' {h1 h2 h3 : Heap} {a : Addr} {sl : Nat} {v : Value} (e : Ext h1 h2) (w : Wr h2 h3 a sl v) (ha : h1.size ≤ a) : Ext h1 h3 := ⟨Nat.le_trans e.1 (Keep.of_wr w).1, fun x c q => (Keep.of_wr w).2.1 x c (e.2 x c q) fun z => by
  cases List.mem_singleton.mp z; exact absurd (Array.getElem?_eq_some_iff.mp q).1 (Nat.not_lt.mpr ha)⟩
theorem Ext.kp {h1 h2 h3 : Heap} {ws : List Addr} (e : Ext h1 h2) (k : Keep h2 h3 ws) (ha : ∀ x ∈ ws, h1.size ≤ x) : Ext h1 h3 := ⟨Nat.le_trans e.1 k.1, fun x c q => k.2.1 x c (e.2 x c q) fun z => absurd (Array.getElem?_eq_some_iff.mp q).1 (Nat.not_lt.mpr (ha x z))⟩
theorem Ext.keep {h1 h2 : Heap} (e : Ext h1 h2) : Keep h1 h2 [] := ⟨e.1, fun x c q _ => e.2 x c q, fun x c q => ⟨c, e.2 x c q, rfl, rfl, rfl⟩⟩
/-! ### the end -/
theorem Go.retW (W : Here G X M vm T h C S) (hC : C ≤ M.R.cells) (hS : S ≤ M.R.slots) {v : Option Value} (hv : M.ret = none → v = none)
    (hst : ∀ fs, (∀ (f : JFrame) (acts : List Action), f.method = X.m → f.locked = none → f.entered = [] → (doReturn X.e (T.setTop f) acts v).1 = T.setFrames fs) → Steps X.p.tables X.e X.below (T.setTop (mkF X.m pc Ls st)) (T.setFrames fs)) (hQ : Q v h) : Go G X M Q T pc Ls st := by
  obtain ⟨⟨hx, hby, hml, hret, hlk, hnm, hEL⟩, k0, L, c, s, X1, e1, S1, hk, hZ, hown, hCH, N, O, c1, s1⟩ := W
  obtain ⟨fs, hr, hrun, hended, h1, h2, h3, h4⟩ := X1.leaveW S1 (by rw [e1]; exact hk) (v := v) (fun q => hv (hret.symm.trans q)) hlk
  refine ⟨_, _, hst fs hr, hrun, hended, v, L, rfl, ⟨?_, N, ?_⟩, ?_, h1, h2, h3, h4.mono (Nat.le_trans c1 hC) (Nat.le_trans s1 hS)⟩
  · show Q v T.heap
    rw [e1]; exact hQ
  · show Old G.Z G.n0 T.heap
    rw [e1]; exact O
  · show CHr G.Z G.EL X.s.vm X.s.heap T.vm T.heap
    rw [e1]; exact hCH.trans (CHv.at X1 hZ hEL hCH.1)
theorem retI (W : Here G X M vm T h C S) (hC : C ≤ M.R.cells) (hS : S ≤ M.R.slots) (hr : M.ret = some .int) (hd : decode M.bytes pc = .ok (.ireturn, 1)) {z : Int32} (hQ : Q (some (.int z)) h) : Go G X M Q T pc Ls (.int z :: st) := by
  obtain ⟨F, k0, L, c, s, X1, -⟩ := id W
  exact Go.retW W hC hS (fun q => by rw [hr] at q; cases q) (fun fs q => retOut X1 W.x (F.2.2.2.1.trans hr) rfl (Or.inl ⟨rfl, Or.inl rfl, z, rfl⟩) (W.d hd) q) hQ
theorem retB (W : Here G X M vm T h C S) (hC : C ≤ M.R.cells) (hS : S ≤ M.R.slots) (hr : M.ret = some .boolean) (hd : decode M.bytes pc = .ok (.ireturn, 1)) {z : Int32} (hz : narrow .boolean (.int z) = .int z) (hQ : Q (some (.int z)) h) : Go G X M Q T pc Ls (.int z :: st) := by
  obtain ⟨F, k0, L, c, s, X1, -⟩ := id W
  exact Go.retW W hC hS (fun q => by rw [hr] at q; cases q) (fun fs q => retOut X1 W.x (F.2.2.2.1.trans hr) hz (Or.inl ⟨rfl, Or.inr (Or.inl rfl), z, rfl⟩) (W.d hd) q) hQ
theorem retC (W : Here G X M vm T h C S) (hC : C ≤ M.R.cells) (hS : S ≤ M.R.slots) (hr : M.ret = some .char) (hd : decode M.bytes pc = .ok (.ireturn, 1)) {z : Int32} (hz : narrow .char (.int z) = .int z) (hQ : Q (some (.int z)) h) : Go G X M Q T pc Ls (.int z :: st) := by
  obtain ⟨F, k0, L, c, s, X1, -⟩ := id W
  exact Go.retW W hC hS (fun q => by rw [hr] at q; cases q) (fun fs q => retOut X1 W.x (F.2.2.2.1.trans hr) hz (Or.inl ⟨rfl, Or.inr (Or.inr (Or.inr (Or.inl rfl))), z, rfl⟩) (W.d hd) q) hQ
theorem retY (W : Here G X M vm T h C S) (hC : C ≤ M.R.cells) (hS : S ≤ M.R.slots) (hr : M.ret = some .byte) (hd : decode M.bytes pc = .ok (.ireturn, 1)) {z : Int32} (hz : narrow .byte (.int z) = .int z) (hQ : Q (some (.int z)) h) : Go G X M Q T pc Ls (.int z :: st) := by
  obtain ⟨F, k0, L, c, s, X1, -⟩ := id W
  exact Go.retW W hC hS (fun q => by rw [hr] at q; cases q) (fun fs q => retOut X1 W.x (F.2.2.2.1.trans hr) hz (Or.inl ⟨rfl, Or.inr (Or.inr (Or.inl rfl)), z, rfl⟩) (W.d hd) q) hQ
theorem retA (W : Here G X M vm T h C S) (hC : C ≤ M.R.cells) (hS : S ≤ M.R.slots) {t : FieldType} (hr : M.ret = some t) (ht : t.isReference = true) {w : Value} (hw : w.isRef = true) (hd : decode M.bytes pc = .ok (.areturn, 1)) (hQ : Q (some w) h) : Go G X M Q T pc Ls (w :: st) := by
  obtain ⟨F, k0, L, c, s, X1, -⟩ := id W
  refine Go.retW W hC hS (fun q => by rw [hr] at q; cases q) (fun fs q => retOut X1 W.x (F.2.2.2.1.trans hr) ?_ (Or.inr (Or.inr (Or.inr (Or.inr ⟨rfl, ht, hw⟩)))) (W.d hd) q) hQ
  rcases ref_cases hw with rfl | ⟨b, rfl⟩ <;> cases t <;> first | rfl | cases ht
theorem retL (W : Here G X M vm T h C S) (hC : C ≤ M.R.cells) (hS : S ≤ M.R.slots) (hr : M.ret = some .long) (hd : decode M.bytes pc = .ok (.lreturn, 1)) {z : Int64} (hQ : Q (some (.long z)) h) : Go G X M Q T pc Ls (.long z :: st) := by
  obtain ⟨F, k0, L, c, s, X1, -⟩ := id W
  exact Go.retW W hC hS (fun q => by rw [hr] at q; cases q) (fun fs q => retOut X1 W.x (F.2.2.2.1.trans hr) rfl (Or.inr (Or.inl ⟨rfl, rfl, z, rfl⟩)) (W.d hd) q) hQ
theorem retV (W : Here G X M vm T h C S) (hC : C ≤ M.R.cells) (hS : S ≤ M.R.slots) (hr : M.ret = none) (hd : decode M.bytes pc = .ok (.return_, 1)) (hQ : Q none h) : Go G X M Q T pc Ls [] := by
  obtain ⟨F, k0, L, c, s, X1, -⟩ := id W
  exact Go.retW W hC hS (fun _ => rfl) (fun fs q => X1.returnOut W.x (F.2.2.2.1.trans hr) (W.d hd) q) hQ
/-! ### the entry -/
theorem Con.intro {ws : List Jvm.Cond} {as' : Array Value} {sf : List Addr} (hpn : plainFor M.y = true) (hO : Old G.Z G.n0 h) (hEL : EW G.Z G.a0 G.EL) (Ls0 : Array Slot) (hef : ∀ m, entryFrame m as' M.maxL = mkF m 0 Ls0 [])
    (body : ∀ (X : Rn) (T : State), Here G X M X.s.vm T h 0 0 → (∀ x ∈ sf, Safe G.Z G.EL X.s.vm h x) → Go G X M Q T 0 Ls0 []) : Con G ws M as' h sf Q := by
  refine MetFree.of_bodySF hpn hisR ?_
  intro p e s m args below meth c s₁ Bd hml0 hP hK
  obtain ⟨rfl, hZ, rfl, hCH, hsf⟩ := hP
  have hown : s.vm.findClass M.y.cls = some m.cls := findClass_of_methodNamed Bd.named
  have hnm := (name_of_methodNamed Bd.named Bd.method).1
  have X0 : Stand p G.l e M.R s m args below meth c s₁ [] 0 0 := Stand.of_body Bd
  have e0 : s₁.heap = s.heap := by rw [Bd.state]; rfl
  have q := body (p, e, s, m, args, below, meth, c) s₁ ⟨⟨Bd.exec, Bd.bytes, hml0, Bd.returns, Bd.notSynchronized, hnm, hEL⟩, s.heap.size, [], 0, 0, X0, e0, (State.WarmedH.refl s).since _, Nat.le_refl _, hZ, hown, CHr.refl hCH, Fr.nil _, hO, Nat.le_refl 0, Nat.le_refl 0⟩ hsf
  rw [hef m]
  exact q
/-! ### calls -/
theorem Con.pay {N : Bo} {as' : Array Value} {sf : List Addr} {Qy : Option Value → Heap → Prop} (K : Con G [] N as' h sf Qy) (W : Here G X M vm T h C S) (wc : (Jvm.Cond.code N.y N.bytes N.maxL N.ret).before G.a0 G.Z = true) (wz : (Jvm.Cond.initialized N.y.cls).before G.a0 G.Z = true) {len wd : Nat}
    (hf : N.R.frames + 1 ≤ M.R.frames) (hl : wd + (N.maxL + 11) + N.R.locals ≤ M.R.locals) (hsf : ∀ x ∈ sf, x < h.size ∧ Safe G.Z G.EL vm h x) : Pay G X M vm h N.y len wd as' N.R.cells N.R.slots Qy := by
  have hZ := W.wz
  have hEL := W.1.2.2.2.2.2.2
  have H := W.ch
  exact BackS.of_freeW (bytes := N.bytes) (maxL := N.maxL) (ret := N.ret) (E := fun _ first o t L k n => k = N.R.cells ∧ n = N.R.slots ∧ (∃ v, o = .returned v ∧ Qy v t.heap ∧ Fr G.n0 L ∧ Old G.Z G.n0 t.heap) ∧ CHr G.Z G.EL first.vm first.heap t.vm t.heap) K hf hl
    (fun m meth c A a Y hp => have hU : G.Z.Warmed39 A.U.vm := wtrans (s := X.s.setVm vm) hZ Y.warmed
      ⟨by show (Cond.and _ .tt).before a A.U = true; rw [Cond.before_and, mv hU wc]; rfl, mv hU wc, mv hU wz, hp.2.2.1, hp.2.2.2⟩)
    (fun m meth c A a g mk Y hp => ⟨hp.1, wtrans (s := X.s.setVm vm) hZ Y.warmed, hp.2.1, (CHv.at Y hZ hEL H).1, fun x hx => (CHv.at Y hZ hEL H).safe (hsf x hx).1 (hsf x hx).2⟩) (fun _ _ _ _ _ _ _ _ _ => trivial)
    (fun _ _ _ _ ⟨v, L, h1, h2, h3, h4⟩ => ⟨L, _, _, h4, rfl, rfl, ⟨v, h1, h2⟩, h3⟩)
    (fun m meth c A a g mk v t L k n Y hp _ _ ⟨e1, e2, ⟨v', e3, e4⟩, e5⟩ => by
      cases e3; subst e1 e2
      refine ⟨L, e4, rfl, Nat.le_refl _, Nat.le_refl _, (CHv.at Y hZ hEL H).trans ?_⟩
      rw [← hp.2.1]; exact e5)
/-- a law of the other shape pays too: its callee interns nothing -/
theorem payB {y : MethodName} {len wd kc ks : Nat} {as' : Array Value} {Qy : Option Value → Heap → List Loc → Prop} {Q' : Option Value → Heap → Prop}
    (B : Back G.l M.R X.p X.e X.below (X.s.setVm vm) X.args y len wd (fun P a => a = as' ∧ P.U.heap = h ∧ P.cells + kc ≤ M.R.cells ∧ P.slots + ks ≤ M.R.slots) (fun P _ v B => ∃ L, Qy v B.U.heap L ∧ B.locs = P.locs ++ L ∧ B.cells = P.cells + kc ∧ B.slots = P.slots + ks))
    (W : Here G X M vm T h C S) (hq : ∀ v h' L, Qy v h' L → Q' v h' ∧ Fr G.n0 L ∧ Old G.Z G.n0 h' ∧ CHr G.Z G.EL vm h vm h') : Pay G X M vm h y len wd as' kc ks Q' := by
  intro m meth c A g ig mk a X1 hg hsize hdg hW hn hp
  obtain ⟨v, B', X', ⟨L, q, e1, e2, e3⟩, st⟩ := B m meth c A g ig mk a X1 hg hsize hdg hW hn hp
  obtain ⟨q1, q2, q3, q4⟩ := hq _ _ _ q
  refine ⟨v, B', X'.retabled X'.warmed.wide, X'.warmed.since _, ?_, ⟨L, ⟨q1, q2, q3⟩, e1, Nat.le_of_eq e2, Nat.le_of_eq e3, q4.trans (CHv.at X' W.wz W.1.2.2.2.2.2.2 q4.1)⟩, st⟩
  rw [hp.2.1]; exact q4.2.1
theorem Here.call (W : Here G X M vm T h C S) {kc ks C' S' : Nat} {v : Option Value} {Qy : Option Value → Heap → Prop} (hc : C + kc ≤ C') (hs : S + ks ≤ S')
    {k0 : Nat} {locs : List Loc} {cells slots : Nat} (hS : X.s.Since vm k0) (hk : k0 ≤ h.size) (hown : vm.findClass M.y.cls = some X.m.cls) (hCH : CHr G.Z G.EL X.s.vm X.s.heap vm h) (hF : Fr G.n0 locs) (c1 : cells ≤ C) (s1 : slots ≤ S) {B : Pt}
    (X' : Stand X.p G.l X.e M.R ((X.s.setVm vm).setVm B.U.vm) X.m X.args X.below X.meth X.c B.U B.locs B.cells B.slots) (h2 : (X.s.setVm vm).Since B.U.vm B.U.heap.size) (hg : h.size ≤ B.U.heap.size) {L : List Loc}
    (hq : (Qy v B.U.heap ∧ Fr G.n0 L ∧ Old G.Z G.n0 B.U.heap) ∧ B.locs = locs ++ L ∧ B.cells ≤ cells + kc ∧ B.slots ≤ slots + ks ∧ CHr G.Z G.EL vm h B.U.vm B.U.heap) : Here G X M B.U.vm B.U B.U.heap C' S' := by
  obtain ⟨X2, S2, Z2, o2⟩ := rebS hS hk X' h2 hg W.wz hown
  obtain ⟨⟨-, q2, q3⟩, e1, e2, e3, q4⟩ := hq
  refine ⟨W.1, _, _, _, _, X2, rfl, S2, Nat.le_refl _, Z2, o2, hCH.trans q4, ?_, q3, ?_, ?_⟩
  · rw [e1]; exact hF.app q2
  · omega
  · omega
theorem callS (W : Here G X M vm T h C S) {y : MethodName} {idx : Nat} {bytes : ByteArray} {maxL : Nat} {ret : Option FieldType} (w1 : (Jvm.Cond.methodLink M.y.cls idx y).before G.a0 G.Z = true) (w2 : (Jvm.Cond.static y).before G.a0 G.Z = true) (w3 : (Jvm.Cond.initialized y.cls).before G.a0 G.Z = true) (w4 : (Jvm.Cond.code y bytes maxL ret).before G.a0 G.Z = true)
    (hy : y.cls ≠ "java/lang/invoke/MethodHandle" ∧ y.cls ≠ "java/lang/invoke/VarHandle") {wd kc ks : Nat} {argsL rest : List Value} {Qy : Option Value → Heap → Prop} (P : Pay G X M vm h y 3 wd argsL.toArray kc ks Qy) (hsz : Ls.size = M.maxL) (hlen : ∀ sig, parseMethodDescriptor y.desc = some sig → argsL.length = sig.parameters.length)
    (hstk : st = argsL.reverse ++ rest) (hwd : (rest.map fun v => v.category).sum ≤ wd) (hd : decode M.bytes pc = .ok (.invokestatic idx, 3)) (pc' : Nat) (hp : pc + 3 = pc') (C' S' : Nat) (hc : C + kc ≤ C') (hs : S + ks ≤ S') (hc' : C' ≤ M.R.cells) (hs' : S' ≤ M.R.slots)
    (k : ∀ (vm' : Vm) (T' : State) (h' : Heap) (v : Option Value), Here G X M vm' T' h' C' S' → CHr G.Z G.EL vm h vm' h' → Qy v h' → Go G X M Q T' pc' Ls (v.toList ++ rest)) : Go G X M Q T pc Ls st := by
  subst hp hstk
  obtain ⟨F, k0, locs, cells, slots, X1, e1, hS, hk, hZ, hown, hCH, hF, O, c1, s1⟩ := id W
  subst e1
  obtain ⟨v, vm₁, B, -, X', h2, hg, ⟨L, hq⟩, st'⟩ := callSS X1 W.x (y := y) hown (mv (s := X.s.setVm vm) hZ w1) (mv (s := X.s.setVm vm) hZ w2) (mv (s := X.s.setVm vm) hZ w3) (mv (s := X.s.setVm vm) hZ w4) hy P (g := mkF X.m pc Ls (argsL.reverse ++ rest)) rfl (hsz.trans F.2.2.1.symm) (argsL := argsL) (rest := rest) hlen rfl (by show 2 * 0 + _ ≤ _; omega) (W.d hd) (fun _ _ => ⟨rfl, rfl, by show cells + kc ≤ _; omega, by show slots + ks ≤ _; omega⟩)
  exact Go.stp (fun t r => st'.trans r) (k B.U.vm B.U B.U.heap v (Here.call W hc hs hS hk hown hCH hF c1 s1 X' h2 hg hq) hq.2.2.2.2 hq.1.1)
theorem callX (W : Here G X M vm T h C S) {y : MethodName} {idx : Nat} {bytes : ByteArray} {maxL : Nat} (hy1 : y.name = "<init>") (w1 : (Jvm.Cond.methodLink M.y.cls idx y).before G.a0 G.Z = true) (w2 : (Jvm.Cond.instanceMethod y).before G.a0 G.Z = true) (w4 : (Jvm.Cond.code y bytes maxL none).before G.a0 G.Z = true)
    (hy : y.cls ≠ "java/lang/invoke/MethodHandle" ∧ y.cls ≠ "java/lang/invoke/VarHandle") {wd kc ks : Nat} {a : Addr} {argsL rest : List Value} {Qy : Option Value → Heap → Prop} (P : Pay G X M vm h y 3 wd (.ref a :: argsL).toArray kc ks Qy) (hsz : Ls.size = M.maxL) (hlen : ∀ sig, parseMethodDescriptor y.desc = some sig → argsL.length = sig.parameters.length)
    (hstk : st = argsL.reverse ++ .ref a :: rest) (hwd : (rest.map fun v => v.category).sum ≤ wd) (hd : decode M.bytes pc = .ok (.invokespecial idx, 3)) (pc' : Nat) (hp : pc + 3 = pc') (C' S' : Nat) (hc : C + kc ≤ C') (hs : S + ks ≤ S') (hc' : C' ≤ M.R.cells) (hs' : S' ≤ M.R.slots)
    (k : ∀ (vm' : Vm) (T' : State) (h' : Heap) (v : Option Value), Here G X M vm' T' h' C' S' → CHr G.Z G.EL vm h vm' h' → Qy v h' → Go G X M Q T' pc' Ls (v.toList ++ rest)) : Go G X M Q T pc Ls st := by
  subst hp hstk
  obtain ⟨F, k0, locs, cells, slots, X1, e1, hS, hk, hZ, hown, hCH, hF, O, c1, s1⟩ := id W
  subst e1
  obtain ⟨v, vm₁, B, -, X', h2, hg, ⟨L, hq⟩, st'⟩ := X1.specialBackS W.x (y := y) hy1 hown (mv (s := X.s.setVm vm) hZ w1) (mv (s := X.s.setVm vm) hZ w2) (mv (s := X.s.setVm vm) hZ w4) hy P (g := mkF X.m pc Ls (argsL.reverse ++ .ref a :: rest)) rfl (hsz.trans F.2.2.1.symm) (Steps.refl _) (a := a) (argsL := argsL) (rest := rest) hlen rfl (by show 2 * 0 + _ ≤ _; omega) (W.d hd) (fun _ _ => ⟨rfl, rfl, by show cells + kc ≤ _; omega, by show slots + ks ≤ _; omega⟩)
  exact Go.stp (fun t r => st'.trans r) (k B.U.vm B.U B.U.heap v (Here.call W hc hs hS hk hown hCH hF c1 s1 X' h2 hg hq) hq.2.2.2.2 hq.1.1)
theorem callV (W : Here G X M vm T h C S) {y z : MethodName} {idx : Nat} {cl : String} (w1 : (Jvm.Cond.methodLink M.y.cls idx y).before G.a0 G.Z = true) (w2 : (Jvm.Cond.declares y).before G.a0 G.Z = true) (nf : ∀ s : State, G.Z.Warmed39 s.vm → NotFace s y) (w3 : (Jvm.Cond.selects cl y z).before G.a0 G.Z = true) (w4 : (Jvm.Cond.instanceMethod z).before G.a0 G.Z = true)
    (hy : y.cls ≠ "java/lang/invoke/MethodHandle" ∧ y.cls ≠ "java/lang/invoke/VarHandle") {wd kc ks : Nat} {a : Addr} {argsL rest : List Value} {Qy : Option Value → Heap → Prop} (P : Pay G X M vm h z 3 wd (.ref a :: argsL).toArray kc ks Qy) (E : Exa G.Z h a cl) (hsz : Ls.size = M.maxL) (hlen : ∀ sig, parseMethodDescriptor y.desc = some sig → argsL.length = sig.parameters.length)
    (hstk : st = argsL.reverse ++ .ref a :: rest) (hwd : (rest.map fun v => v.category).sum ≤ wd) (hd : decode M.bytes pc = .ok (.invokevirtual idx, 3)) (pc' : Nat) (hp : pc + 3 = pc') (C' S' : Nat) (hc : C + kc ≤ C') (hs : S + ks ≤ S') (hc' : C' ≤ M.R.cells) (hs' : S' ≤ M.R.slots)
    (k : ∀ (vm' : Vm) (T' : State) (h' : Heap) (v : Option Value), Here G X M vm' T' h' C' S' → CHr G.Z G.EL vm h vm' h' → Qy v h' → Go G X M Q T' pc' Ls (v.toList ++ rest)) : Go G X M Q T pc Ls st := by
  subst hp hstk
  obtain ⟨F, k0, locs, cells, slots, X1, e1, hS, hk, hZ, hown, hCH, hF, O, c1, s1⟩ := id W
  obtain ⟨cq, kq, qa, qb, qc⟩ := isOf (s := X.s.setVm vm) hZ e1 E
  subst e1
  obtain ⟨v, vm₁, B, -, X', h2, hg, ⟨L, hq⟩, st'⟩ := X1.virtualBackS W.x (y := y) (z := z) hown (mv (s := X.s.setVm vm) hZ w1) (mv (s := X.s.setVm vm) hZ w2) (nf _ hZ) (mv (s := X.s.setVm vm) hZ w3) (mv (s := X.s.setVm vm) hZ w4) hy P qa qc (g := mkF X.m pc Ls (argsL.reverse ++ .ref a :: rest)) rfl (hsz.trans F.2.2.1.symm) (Steps.refl _) (argsL := argsL) (rest := rest) hlen rfl (by show 2 * 0 + _ ≤ _; omega) (W.d hd) (fun _ _ => ⟨rfl, rfl, by show cells + kc ≤ _; omega, by show slots + ks ≤ _; omega⟩)
  exact Go.stp (fun t r => st'.trans r) (k B.U.vm B.U B.U.heap v (Here.call W hc hs hS hk hown hCH hF c1 s1 X' h2 hg hq) hq.2.2.2.2 hq.1.1)
theorem callI (W : Here G X M vm T h C S) {y z : MethodName} {idx count : Nat} {cl : String} (w1 : (Jvm.Cond.methodLink M.y.cls idx y).before G.a0 G.Z = true) (w2 : (Jvm.Cond.declares y).before G.a0 G.Z = true) (wf : (Jvm.Cond.interfaceMethod y.cls y.cls y.name y.desc).before G.a0 G.Z = true) (hfa : ((Jvm.Cond.interfaceMethod y.cls y.cls y.name y.desc).onTables && (Jvm.Cond.interfaceMethod y.cls y.cls y.name y.desc).keepsFace) = true) (w3 : (Jvm.Cond.selects cl y z).before G.a0 G.Z = true) (w4 : (Jvm.Cond.instanceMethod z).before G.a0 G.Z = true)
    (w5 : (Jvm.Cond.publicMethod z).before G.a0 G.Z = true) (w6 : (Jvm.Cond.unhidden cl y.name y.desc).before G.a0 G.Z = true) (w7 : (Jvm.Cond.castable cl y.cls).before G.a0 G.Z = true)
    (hy : y.cls ≠ "java/lang/invoke/MethodHandle" ∧ y.cls ≠ "java/lang/invoke/VarHandle") {wd kc ks : Nat} {a : Addr} {argsL rest : List Value} {Qy : Option Value → Heap → Prop} (P : Pay G X M vm h z 5 wd (.ref a :: argsL).toArray kc ks Qy) (E : Exa G.Z h a cl) (hsz : Ls.size = M.maxL) (hlen : ∀ sig, parseMethodDescriptor y.desc = some sig → argsL.length = sig.parameters.length)
    (hstk : st = argsL.reverse ++ .ref a :: rest) (hwd : (rest.map fun v => v.category).sum ≤ wd) (hd : decode M.bytes pc = .ok (.invokeinterface idx count, 5)) (pc' : Nat) (hp : pc + 5 = pc') (C' S' : Nat) (hc : C + kc ≤ C') (hs : S + ks ≤ S') (hc' : C' ≤ M.R.cells) (hs' : S' ≤ M.R.slots)
    (k : ∀ (vm' : Vm) (T' : State) (h' : Heap) (v : Option Value), Here G X M vm' T' h' C' S' → CHr G.Z G.EL vm h vm' h' → Qy v h' → Go G X M Q T' pc' Ls (v.toList ++ rest)) : Go G X M Q T pc Ls st := by
  subst hp hstk
  obtain ⟨F, k0, locs, cells, slots, X1, e1, hS, hk, hZ, hown, hCH, hF, O, c1, s1⟩ := id W
  obtain ⟨cq, kq, qa, qb, qc⟩ := isOf (s := X.s.setVm vm) hZ e1 E
  subst e1
  obtain ⟨v, vm₁, B, -, X', h2, hg, ⟨L, hq⟩, st'⟩ := X1.interfaceBackS W.x (xi := y) (y := z) hown (mv (s := X.s.setVm vm) hZ w1) (mv (s := X.s.setVm vm) hZ w2) (mv (s := X.s.setVm vm) hZ wf hfa) (mv (s := X.s.setVm vm) hZ w3) (mv (s := X.s.setVm vm) hZ w4) (mv (s := X.s.setVm vm) hZ w5) (mv (s := X.s.setVm vm) hZ w6) (mv (s := X.s.setVm vm) hZ w7) hy P qa qb qc (g := mkF X.m pc Ls (argsL.reverse ++ .ref a :: rest)) rfl (hsz.trans F.2.2.1.symm) (Steps.refl _) (argsL := argsL) (rest := rest) hlen rfl (by show 2 * 0 + _ ≤ _; omega) (W.d hd) (fun _ _ => ⟨rfl, rfl, by show cells + kc ≤ _; omega, by show slots + ks ≤ _; omega⟩)
  exact Go.stp (fun t r => st'.trans r) (k B.U.vm B.U B.U.heap v (Here.call W hc hs hS hk hown hCH hF c1 s1 X' h2 hg hq) hq.2.2.2.2 hq.1.1)
/-! ### steps on the heap -/
theorem Here.ext (W : Here G X M vm T h C S) {T' : State} {h' : Heap} {k0 : Nat} {locs : List Loc} {cells slots C' S' : Nat} (hS : X.s.Since vm k0) (hk : k0 ≤ h.size) (hown : vm.findClass M.y.cls = some X.m.cls) (hCH : CHr G.Z G.EL X.s.vm X.s.heap vm h) (hF : Fr G.n0 locs)
    (X' : Stand X.p G.l X.e M.R (X.s.setVm vm) X.m X.args X.below X.meth X.c T' locs cells slots) (e' : T'.heap = h') (E : Ext h h') (hc : cells ≤ C') (hs : slots ≤ S') : Here G X M vm T' h' C' S' :=
  ⟨W.1, k0, locs, cells, slots, X', e', hS, Nat.le_trans hk E.1, W.wz, hown, hCH.trans (CHr.ext E hCH.1), hF, W.old.ext E, hc, hs⟩
theorem newO (W : Here G X M vm T h C S) {cl : String} {idx n : Nat} (w : (Jvm.Cond.classLink M.y.cls idx cl).before G.a0 G.Z = true) (wi : (Jvm.Cond.instantiable cl n).before G.a0 G.Z = true) (wz : (Jvm.Cond.initialized cl).before G.a0 G.Z = true) (hd : decode M.bytes pc = .ok (.new idx, 3)) (pc' : Nat) (hp : pc + 3 = pc') (C' S' : Nat) (hc : C + 1 ≤ C') (hs : S + n ≤ S') (hc' : C' ≤ M.R.cells) (hs' : S' ≤ M.R.slots)
    (k : ∀ (T' : State) (h' : Heap) (a : Addr), a = h.size → Here G X M vm T' h' C' S' → Ext h h' → Exa G.Z h' a cl → (∀ {O nm d : String} {ty : FieldType}, Laid G.Z G.a0 cl O nm d → parseFieldDescriptor d = some ty → Fld G.Z h' a O nm d (defaultValue ty)) → Safe G.Z G.EL vm h' a → (∀ y, Safe G.Z G.EL vm h y → Safe G.Z G.EL vm h' y) → Go G X M Q T' pc' Ls (.ref a :: st)) : Go G X M Q T pc Ls st := by
  subst hp
  obtain ⟨F, k0, locs, cells, slots, X1, e1, hS, hk, hZ, hown, hCH, hF, O, c1, s1⟩ := id W
  obtain ⟨T', h', X', e', E, A, D, -, st'⟩ := RoadKit.newO X1 W.x hZ hown w wi wz e1 (g := mkF X.m pc Ls st) rfl (W.d hd) (by omega) (by omega)
  exact Go.stp (fun t r => st' t r) (k T' h' h.size rfl (Here.ext W hS hk hown hCH hF X' e' E (by omega) (by omega)) E A D (Safe.ext E hCH.1 (Safe.new (Nat.le_refl _))) (fun y q => Safe.ext E hCH.1 q))
theorem newA (W : Here G X M vm T h C S) {aty : ArrayType} {n : Int32} (w : (Jvm.Cond.arrayClass (newarray.typeOf aty)).before G.a0 G.Z = true) (hd : decode M.bytes pc = .ok (.newarray aty, 2)) (pc' : Nat) (hp : pc + 2 = pc') (hn : ¬ n < 0) (cap : Nat) (hcap : n.toNatClampNeg ≤ cap) (hb : cap * 8 ≤ 536870912) (C' S' : Nat) (hc : C + 1 ≤ C') (hs : S + cap ≤ S') (hc' : C' ≤ M.R.cells) (hs' : S' ≤ M.R.slots)
    (k : ∀ (T' : State) (h' : Heap) (a : Addr) (kA : ClassId), a = h.size → Here G X M vm T' h' C' S' → Ext h h' → Arv G.Z h' a kA (newarray.typeOf aty) n (List.replicate cap (defaultValue (newarray.typeOf aty))) (defaultValue (newarray.typeOf aty)) → Safe G.Z G.EL vm h' a → (∀ y, Safe G.Z G.EL vm h y → Safe G.Z G.EL vm h' y) → Go G X M Q T' pc' Ls (.ref a :: st)) : Go G X M Q T pc Ls (.int n :: st) := by
  subst hp
  obtain ⟨F, k0, locs, cells, slots, X1, e1, hS, hk, hZ, hown, hCH, hF, O, c1, s1⟩ := id W
  obtain ⟨T', h', kA, X', e', E, A, st'⟩ := RoadKit.newP X1 W.x hZ w e1 (g := mkF X.m pc Ls (.int n :: st)) rfl (W.d hd) rfl hn hcap hb (by omega) (by omega)
  exact Go.stp (fun t r => st' t r) (k T' h' h.size kA rfl (Here.ext W hS hk hown hCH hF X' e' E (by omega) (by omega)) E ((Arv.new A hn).pad (pad_rep [] _ cap)) (Safe.ext E hCH.1 (Safe.new (Nat.le_refl _))) (fun y q => Safe.ext E hCH.1 q))
theorem getF (W : Here G X M vm T h C S) {R0 O n d : String} {idx : Nat} {a : Addr} {v : Value} (w : (Jvm.Cond.fieldLink M.y.cls idx R0 n d).before G.a0 G.Z = true) (via : Via G.Z R0 O n d) (F : Fld G.Z h a O n d v) (hd : decode M.bytes pc = .ok (.getfield idx, 3)) (pc' : Nat) (hp : pc + 3 = pc')
    (k : ∀ T' : State, Here G X M vm T' h C S → Go G X M Q T' pc' Ls (v :: st)) : Go G X M Q T pc Ls (.ref a :: st) := by
  subst hp
  obtain ⟨F', k0, locs, cells, slots, X1, e1, hS, hk, hZ, hown, hCH, hF, O', c1, s1⟩ := id W
  obtain ⟨T', X', e', st'⟩ := RoadKit.getF X1 W.x hZ hown (host := "") (Or.inl w) via e1 F (g := mkF X.m pc Ls (.ref a :: st)) rfl rfl (W.d hd)
  exact Go.stp (fun t r => st' t r) (k T' (Here.ext W hS hk hown hCH hF X' e' (Ext.rfl' h) c1 s1))
theorem getS (W : Here G X M vm T h C S) {R0 O n d : String} {idx : Nat} {v : Value} (w : (Jvm.Cond.fieldLink M.y.cls idx R0 n d).before G.a0 G.Z = true) (via : Via G.Z R0 O n d) (F : Sta G.Z h O n d v) (hd : decode M.bytes pc = .ok (.getstatic idx, 3)) (pc' : Nat) (hp : pc + 3 = pc')
    (k : ∀ T' : State, Here G X M vm T' h C S → Go G X M Q T' pc' Ls (v :: st)) : Go G X M Q T pc Ls st := by
  subst hp
  obtain ⟨F', k0, locs, cells, slots, X1, e1, hS, hk, hZ, hown, hCH, hF, O', c1, s1⟩ := id W
  obtain ⟨T', X', e', st'⟩ := RoadKit.getS X1 W.x hZ (host := "") hown w via e1 F (g := mkF X.m pc Ls st) rfl (W.d hd)
  exact Go.stp (fun t r => st' t r) (k T' (Here.ext W hS hk hown hCH hF X' e' (Ext.rfl' h) c1 s1))
theorem castY (W : Here G X M vm T h C S) {K : String} {idx : Nat} {a : Addr} (w : (Jvm.Cond.classLink M.y.cls idx K).before G.a0 G.Z = true) (F : Ins G.Z h a K true) (hd : decode M.bytes pc = .ok (.checkcast idx, 3)) (pc' : Nat) (hp : pc + 3 = pc')
    (k : ∀ T' : State, Here G X M vm T' h C S → Go G X M Q T' pc' Ls (.ref a :: st)) : Go G X M Q T pc Ls (.ref a :: st) := by
  subst hp
  obtain ⟨F', k0, locs, cells, slots, X1, e1, hS, hk, hZ, hown, hCH, hF, O', c1, s1⟩ := id W
  obtain ⟨T', X', e', st'⟩ := RoadKit.castY X1 W.x hZ hown w e1 F (g := mkF X.m pc Ls (.ref a :: st)) rfl rfl (W.d hd)
  exact Go.stp (fun t r => st' t r) (k T' (Here.ext W hS hk hown hCH hF X' e' (Ext.rfl' h) c1 s1))
theorem instY (W : Here G X M vm T h C S) {K : String} {idx : Nat} {a : Addr} (w : (Jvm.Cond.classLink M.y.cls idx K).before G.a0 G.Z = true) (F : Ins G.Z h a K true) (hd : decode M.bytes pc = .ok (.instanceof idx, 3)) (pc' : Nat) (hp : pc + 3 = pc')
    (k : ∀ T' : State, Here G X M vm T' h C S → Go G X M Q T' pc' Ls (.int 1 :: st)) : Go G X M Q T pc Ls (.ref a :: st) := by
  subst hp
  obtain ⟨F', k0, locs, cells, slots, X1, e1, hS, hk, hZ, hown, hCH, hF, O', c1, s1⟩ := id W
  obtain ⟨T', X', e', st'⟩ := RoadKit.instY X1 W.x hZ hown w e1 F (g := mkF X.m pc Ls (.ref a :: st)) rfl rfl (W.d hd)
  exact Go.stp (fun t r => st' t r) (k T' (Here.ext W hS hk hown hCH hF X' e' (Ext.rfl' h) c1 s1))
theorem instNo (W : Here G X M vm T h C S) {K c0 : String} {idx : Nat} {a : Addr} (w : (Jvm.Cond.classLink M.y.cls idx K).before G.a0 G.Z = true) (E : Exa G.Z h a c0) (F : ∃ c t, G.Z.vm.findClass c0 = some c ∧ G.Z.vm.findClass K = some t ∧ G.Z.vm.assignable c t = false) (hd : decode M.bytes pc = .ok (.instanceof idx, 3)) (pc' : Nat) (hp : pc + 3 = pc')
    (k : ∀ T' : State, Here G X M vm T' h C S → Go G X M Q T' pc' Ls (.int 0 :: st)) : Go G X M Q T pc Ls (.ref a :: st) := by
  subst hp
  obtain ⟨F', k0, locs, cells, slots, X1, e1, hS, hk, hZ, hown, hCH, hF, O', c1, s1⟩ := id W
  obtain ⟨T', X', e', st'⟩ := RoadKit.instNo X1 W.x hZ hown w e1 E F (g := mkF X.m pc Ls (.ref a :: st)) rfl rfl (W.d hd)
  exact Go.stp (fun t r => st' t r) (k T' (Here.ext W hS hk hown hCH hF X' e' (Ext.rfl' h) c1 s1))
theorem instNull (W : Here G X M vm T h C S) {idx : Nat} (hd : decode M.bytes pc = .ok (.instanceof idx, 3)) (pc' : Nat) (hp : pc + 3 = pc') (k : Go G X M Q T pc' Ls (.int 0 :: st)) : Go G X M Q T pc Ls (.null :: st) := by
  subst hp
  obtain ⟨F', k0, locs, cells, slots, X1, -⟩ := id W
  exact Go.stp (fun t r => X1.instanceofNull W.x (g := mkF X.m pc Ls (.null :: st)) rfl rfl (W.d hd) t r) k
theorem castNull (W : Here G X M vm T h C S) {idx : Nat} (hd : decode M.bytes pc = .ok (.checkcast idx, 3)) (pc' : Nat) (hp : pc + 3 = pc') (k : Go G X M Q T pc' Ls (.null :: st)) : Go G X M Q T pc Ls (.null :: st) := by
  subst hp
  obtain ⟨F', k0, locs, cells, slots, X1, -⟩ := id W
  exact Go.stp (fun t r => X1.checkcastNull W.x (g := mkF X.m pc Ls (.null :: st)) rfl rfl (W.d hd) t r) k
theorem Here.wr (W : Here G X M vm T h C S) {T' : State} {h' : Heap} {k0 : Nat} {locs : List Loc} {cells slots : Nat} {a : Addr} {sl : Nat} {v : Value} (hS : X.s.Since vm k0) (hk : k0 ≤ h.size) (hown : vm.findClass M.y.cls = some X.m.cls) (hCH : CHr G.Z G.EL X.s.vm X.s.heap vm h) (hF : Fr G.n0 locs) (ha : G.n0 ≤ a) (sf : Safe G.Z G.EL vm h a)
    (X' : Stand X.p G.l X.e M.R (X.s.setVm vm) X.m X.args X.below X.meth X.c T' (locs ++ [⟨a, sl⟩]) cells slots) (e' : T'.heap = h') (E : Wr h h' a sl v) (hc : cells ≤ C) (hs : slots ≤ S) : Here G X M vm T' h' C S :=
  ⟨W.1, k0, _, cells, slots, X', e', hS, by rw [E.size]; exact hk, W.wz, hown, hCH.trans (CHr.wr E sf hCH.1), Fr.snoc X' hF ha, W.old.wr E ha, hc, hs⟩
theorem putF (W : Here G X M vm T h C S) {R0 O n d cl : String} {idx kk : Nat} {ty : FieldType} {a : Addr} {v v' old : Value} (w : (Jvm.Cond.fieldLink M.y.cls idx R0 n d).before G.a0 G.Z = true) (via : Via G.Z R0 O n d) (F : Fld G.Z h a O n d old) (E : Exa G.Z h a cl)
    (L : (Jvm.Cond.lays cl O n d).before G.a0 G.Z = true ∨ ((Jvm.Cond.laysFinal cl O n d).before G.a0 G.Z = true ∧ M.y.cls = O ∧ M.y.name = "<init>")) (wi : (Jvm.Cond.instantiable cl kk).before G.a0 G.Z = true) (hty : parseFieldDescriptor d = some ty) (hn : narrow ty v = v') (hf : fits ty v' = true) (ha : G.n0 ≤ a) (sf : Safe G.Z G.EL vm h a)
    (hd : decode M.bytes pc = .ok (.putfield idx, 3)) (pc' : Nat) (hp : pc + 3 = pc') (k : ∀ (T' : State) (h' : Heap), Here G X M vm T' h' C S → Wr h h' a (RoadKit.slotOf G.Z O n d) v' → (∀ y, Safe G.Z G.EL vm h y → Safe G.Z G.EL vm h' y) → Go G X M Q T' pc' Ls st) : Go G X M Q T pc Ls (v :: .ref a :: st) := by
  subst hp
  obtain ⟨F', k0, locs, cells, slots, X1, e1, hS, hk, hZ, hown, hCH, hF, O', c1, s1⟩ := id W
  obtain ⟨T', h', X', e', Wq, st'⟩ := RoadKit.putFN X1 W.x hZ hown w via e1 F E (L.imp id fun q => ⟨q.1, q.2.1, F'.2.2.2.2.2.1.trans q.2.2⟩) wi hty hn hf (g := mkF X.m pc Ls (v :: .ref a :: st)) rfl rfl (W.d hd)
  exact Go.stp (fun t r => st' t r) (k T' h' (Here.wr W hS hk hown hCH hF ha sf X' e' Wq c1 s1) Wq (fun y q => Safe.wr Wq sf hCH.1 q))
theorem castore (W : Here G X M vm T h C S) {a : Addr} {kA : ClassId} {z j x : Int32} {vs : List Value} {dv : Value} (A : Arv G.Z h a kA .char z vs dv) (i : Nat) (hj : j.toNatClampNeg = i) (hj0 : ¬ j < 0 ∧ j < z) (hi : i < vs.length) (ha : G.n0 ≤ a) {x' : Int32} (hx' : nar .char x = x') (hd : decode M.bytes pc = .ok (.castore, 1)) (pc' : Nat) (hp : pc + 1 = pc')
    (k : ∀ (T' : State) (h' : Heap), Here G X M vm T' h' C S → Wr h h' a i (.int x') → Arv G.Z h' a kA .char z (vs.set i (.int x')) dv → (∀ y, Safe G.Z G.EL vm h y → Safe G.Z G.EL vm h' y) → Go G X M Q T' pc' Ls st) : Go G X M Q T pc Ls (.int x :: .int j :: .ref a :: st) := by
  subst hp hj hx'
  obtain ⟨F', k0, locs, cells, slots, X1, e1, hS, hk, hZ, hown, hCH, hF, O', c1, s1⟩ := id W
  have sf : Safe G.Z G.EL vm h a := Safe.arv hZ.alike A (by decide)
  obtain ⟨cl, A1, q, Sz, Nz, H, Gz⟩ := A
  obtain ⟨T', h', X', e', Wq, st'⟩ := RoadKit.stC X1 W.x hZ e1 A1 (j := j) (inb_of Sz hj0) (g := mkF X.m pc Ls (.int x :: .int j :: .ref a :: st)) rfl rfl (W.d hd)
  exact Go.stp (fun t r => st' t r) (k T' h' (Here.wr W hS hk hown hCH hF ha sf X' e' Wq c1 s1) Wq (Arv.set A1 q Sz Nz H Gz (fits_nar_char _) Wq _ rfl hi) (fun y q => Safe.wr Wq sf hCH.1 q))
theorem arrlen (W : Here G X M vm T h C S) {a : Addr} {kA : ClassId} {ty : FieldType} {z : Int32} {vs : List Value} {dv : Value} (A : Arv G.Z h a kA ty z vs dv) (hd : decode M.bytes pc = .ok (.arraylength, 1)) (pc' : Nat) (hp : pc + 1 = pc') (k : Go G X M Q T pc' Ls (.int z :: st)) : Go G X M Q T pc Ls (.ref a :: st) := by
  subst hp
  obtain ⟨F', k0, locs, cells, slots, X1, e1, hS, hk, hZ, hown, hCH, hF, O', c1, s1⟩ := id W
  obtain ⟨cl, A1, q, Sz, Nz, H, Gz⟩ := A
  rw [← len_of Sz Nz] at k
  exact Go.stp (fun t r => X1.arraylength W.x (by rw [e1]; exact A1.1) (State.isArrayOf_alike (T := X.s.setVm vm) hZ.alike A1.2.1) (g := mkF X.m pc Ls (.ref a :: st)) rfl rfl (W.d hd) t r) k
theorem caload (W : Here G X M vm T h C S) {a : Addr} {kA : ClassId} {z j : Int32} {vs : List Value} {dv : Value} (A : Arv G.Z h a kA .char z vs dv) (hj0 : ¬ j < 0 ∧ j < z) (v : Value) (hv : vs.getD j.toNatClampNeg dv = v) (hd : decode M.bytes pc = .ok (.caload, 1)) (pc' : Nat) (hp : pc + 1 = pc') (k : Go G X M Q T pc' Ls (v :: st)) : Go G X M Q T pc Ls (.int j :: .ref a :: st) := by
  subst hp
  obtain ⟨F', k0, locs, cells, slots, X1, e1, hS, hk, hZ, hown, hCH, hF, O', c1, s1⟩ := id W
  obtain ⟨cl, A1, q, Sz, Nz, H, Gz⟩ := A
  exact Go.stp (fun t r => X1.caload W.x (by rw [e1]; exact A1.1) (State.isArrayOf_alike (T := X.s.setVm vm) hZ.alike A1.2.1) A1.2.2 (inb_of Sz hj0) (H.at (inb_of Sz hj0) hv) (g := mkF X.m pc Ls (.int j :: .ref a :: st)) rfl rfl (W.d hd) t r) k
theorem bastore (W : Here G X M vm T h C S) {a : Addr} {kA : ClassId} {z j x : Int32} {vs : List Value} {dv : Value} (A : Arv G.Z h a kA .byte z vs dv) (i : Nat) (hj : j.toNatClampNeg = i) (hj0 : ¬ j < 0 ∧ j < z) (hi : i < vs.length) (ha : G.n0 ≤ a) (sf : Safe G.Z G.EL vm h a) {x' : Int32} (hx' : nar .byte x = x') (hd : decode M.bytes pc = .ok (.bastore, 1)) (pc' : Nat) (hp : pc + 1 = pc')
    (k : ∀ (T' : State) (h' : Heap), Here G X M vm T' h' C S → Wr h h' a i (.int x') → Arv G.Z h' a kA .byte z (vs.set i (.int x')) dv → (∀ y, Safe G.Z G.EL vm h y → Safe G.Z G.EL vm h' y) → Go G X M Q T' pc' Ls st) : Go G X M Q T pc Ls (.int x :: .int j :: .ref a :: st) := by
  subst hp hj hx'
  obtain ⟨F', k0, locs, cells, slots, X1, e1, hS, hk, hZ, hown, hCH, hF, O', c1, s1⟩ := id W
  obtain ⟨cl, A1, q, Sz, Nz, H, Gz⟩ := A
  obtain ⟨T', h', X', e', Wq, st'⟩ := RoadKit.stB X1 W.x hZ e1 A1 (j := j) (inb_of Sz hj0) (g := mkF X.m pc Ls (.int x :: .int j :: .ref a :: st)) rfl rfl (W.d hd)
  exact Go.stp (fun t r => st' t r) (k T' h' (Here.wr W hS hk hown hCH hF ha sf X' e' Wq c1 s1) Wq (Arv.set A1 q Sz Nz H Gz (fits_nar_byte _) Wq _ rfl hi) (fun y q => Safe.wr Wq sf hCH.1 q))
theorem baload (W : Here G X M vm T h C S) {a : Addr} {kA : ClassId} {z j : Int32} {vs : List Value} {dv : Value} (A : Arv G.Z h a kA .byte z vs dv) (hj0 : ¬ j < 0 ∧ j < z) (v : Value) (hv : vs.getD j.toNatClampNeg dv = v) (hd : decode M.bytes pc = .ok (.baload, 1)) (pc' : Nat) (hp : pc + 1 = pc') (k : Go G X M Q T pc' Ls (v :: st)) : Go G X M Q T pc Ls (.int j :: .ref a :: st) := by
  subst hp
  obtain ⟨F', k0, locs, cells, slots, X1, e1, hS, hk, hZ, hown, hCH, hF, O', c1, s1⟩ := id W
  obtain ⟨cl, A1, q, Sz, Nz, H, Gz⟩ := A
  exact Go.stp (fun t r => X1.baloadBytes W.x (by rw [e1]; exact A1.1) (State.isArrayOf_alike (T := X.s.setVm vm) hZ.alike A1.2.1) A1.2.2 (inb_of Sz hj0) (H.at (inb_of Sz hj0) hv) (g := mkF X.m pc Ls (.int j :: .ref a :: st)) rfl rfl (W.d hd) t r) k
theorem initO (W : Here G X M vm T h C S) {idx : Nat} {a : Addr} (w1 : (Jvm.Cond.methodLink M.y.cls idx Lib.objectInit).before G.a0 G.Z = true) (w2 : (Jvm.Cond.instanceMethod Lib.objectInit).before G.a0 G.Z = true) (w3 : (Jvm.Cond.code Lib.objectInit ⟨#[0xb1]⟩ 1 none).before G.a0 G.Z = true) (hsz : Ls.size = M.maxL)
    (hd : decode M.bytes pc = .ok (.invokespecial idx, 3)) (pc' : Nat) (hp : pc + 3 = pc') (hf : 1 ≤ M.R.frames) (hl : (st.map fun v => v.category).sum + 12 ≤ M.R.locals) (k : ∀ T' : State, Here G X M vm T' h C S → Go G X M Q T' pc' Ls st) : Go G X M Q T pc Ls (.ref a :: st) := by
  subst hp
  obtain ⟨F', k0, locs, cells, slots, X1, e1, hS, hk, hZ, hown, hCH, hF, O', c1, s1⟩ := id W
  obtain ⟨T', X', e', st'⟩ := RoadKit.initO X1 W.x hZ hown w1 w2 w3 e1 (g := mkF X.m pc Ls (.ref a :: st)) rfl (hsz.trans F'.2.2.1.symm) rfl (W.d hd) hf (W := (st.map fun v => v.category).sum) (by show 2 * 0 + _ ≤ _; omega) hl
  exact Go.stp (fun t r => st' t r) (k T' (Here.ext W hS hk hown hCH hF X' e' (Ext.rfl' h) c1 s1))
/-! ### more plain steps -/
theorem imul (W : Here G X M vm T h C S) {x y : Int32} (hd : decode M.bytes pc = .ok (.imul, 1)) (pc' : Nat) (hp : pc + 1 = pc') (k : Go G X M Q T pc' Ls (.int (x * y) :: st)) : Go G X M Q T pc Ls (.int y :: .int x :: st) := by
  subst hp; exact Go.stp (fun t r => XS.imul W.at W.x rfl (W.d hd) rfl r) k
theorem ior (W : Here G X M vm T h C S) {x y : Int32} (hd : decode M.bytes pc = .ok (.ior, 1)) (pc' : Nat) (hp : pc + 1 = pc') (k : Go G X M Q T pc' Ls (.int (x ||| y) :: st)) : Go G X M Q T pc Ls (.int y :: .int x :: st) := by
  subst hp; exact Go.stp (fun t r => XS.ior W.at W.x rfl (W.d hd) rfl r) k
theorem ishr (W : Here G X M vm T h C S) {x y : Int32} (hd : decode M.bytes pc = .ok (.ishr, 1)) (pc' : Nat) (hp : pc + 1 = pc') (k : Go G X M Q T pc' Ls (.int (x >>> (y &&& 31)) :: st)) : Go G X M Q T pc Ls (.int y :: .int x :: st) := by
  subst hp; exact Go.stp (fun t r => XS.ishr W.at W.x rfl (W.d hd) rfl r) k
theorem ishl (W : Here G X M vm T h C S) {x y : Int32} (hd : decode M.bytes pc = .ok (.ishl, 1)) (pc' : Nat) (hp : pc + 1 = pc') (k : Go G X M Q T pc' Ls (.int (x <<< (y &&& 31)) :: st)) : Go G X M Q T pc Ls (.int y :: .int x :: st) := by
  subst hp; exact Go.stp (fun t r => XS.ishl W.at W.x rfl (W.d hd) rfl r) k
theorem ladd (W : Here G X M vm T h C S) {x y : Int64} (hd : decode M.bytes pc = .ok (.ladd, 1)) (pc' : Nat) (hp : pc + 1 = pc') (k : Go G X M Q T pc' Ls (.long (x + y) :: st)) : Go G X M Q T pc Ls (.long y :: .long x :: st) := by
  subst hp; exact Go.stp (fun t r => XS.ladd W.at W.x rfl (W.d hd) rfl r) k
theorem lsub (W : Here G X M vm T h C S) {x y : Int64} (hd : decode M.bytes pc = .ok (.lsub, 1)) (pc' : Nat) (hp : pc + 1 = pc') (k : Go G X M Q T pc' Ls (.long (x - y) :: st)) : Go G X M Q T pc Ls (.long y :: .long x :: st) := by
  subst hp; exact Go.stp (fun t r => XS.lsub W.at W.x rfl (W.d hd) rfl r) k
theorem lcmp (W : Here G X M vm T h C S) {x y : Int64} (hd : decode M.bytes pc = .ok (.lcmp, 1)) (pc' : Nat) (hp : pc + 1 = pc') (k : Go G X M Q T pc' Ls (.int (XT.cmpL x y) :: st)) : Go G X M Q T pc Ls (.long y :: .long x :: st) := by
  subst hp; exact Go.stp (fun t r => XS.lcmp W.at W.x rfl (W.d hd) rfl r) k
theorem lneg (W : Here G X M vm T h C S) {x : Int64} (hd : decode M.bytes pc = .ok (.lneg, 1)) (pc' : Nat) (hp : pc + 1 = pc') (k : Go G X M Q T pc' Ls (.long (-x) :: st)) : Go G X M Q T pc Ls (.long x :: st) := by
  subst hp; exact Go.stp (fun t r => XS.lneg W.at W.x rfl (W.d hd) rfl r) k
theorem i2l (W : Here G X M vm T h C S) {x : Int32} (hd : decode M.bytes pc = .ok (.i2l, 1)) (pc' : Nat) (hp : pc + 1 = pc') (k : Go G X M Q T pc' Ls (.long x.toInt64 :: st)) : Go G X M Q T pc Ls (.int x :: st) := by
  subst hp; exact Go.stp (fun t r => XS.i2l W.at W.x rfl (W.d hd) rfl r) k
theorem l2i (W : Here G X M vm T h C S) {x : Int64} (hd : decode M.bytes pc = .ok (.l2i, 1)) (pc' : Nat) (hp : pc + 1 = pc') (k : Go G X M Q T pc' Ls (.int x.toInt32 :: st)) : Go G X M Q T pc Ls (.long x :: st) := by
  subst hp; exact Go.stp (fun t r => XS.l2i W.at W.x rfl (W.d hd) rfl r) k
theorem lushr (W : Here G X M vm T h C S) {x : Int64} {y : Int32} (hd : decode M.bytes pc = .ok (.lushr, 1)) (pc' : Nat) (hp : pc + 1 = pc') (k : Go G X M Q T pc' Ls (.long ((x.toUInt64 >>> (y &&& 0x3f).toInt64.toUInt64).toInt64) :: st)) : Go G X M Q T pc Ls (.int y :: .long x :: st) := by
  subst hp; exact Go.stp (fun t r => XS.lushr W.at W.x rfl (W.d hd) rfl r) k
theorem idiv (W : Here G X M vm T h C S) {x y : Int32} (hd : decode M.bytes pc = .ok (.idiv, 1)) (pc' : Nat) (hp : pc + 1 = pc') (hy : y ≠ 0) (k : Go G X M Q T pc' Ls (.int (x / y) :: st)) : Go G X M Q T pc Ls (.int y :: .int x :: st) := by
  subst hp; exact Go.stp (fun t r => XS.idiv W.at W.x rfl (W.d hd) rfl hy r) k
theorem lconst (W : Here G X M vm T h C S) {j : Fin 2} (hd : decode M.bytes pc = .ok (.lconst j, 1)) (pc' : Nat) (hp : pc + 1 = pc') (v : Int64) (hv : Int64.ofNat j = v) (k : Go G X M Q T pc' Ls (.long v :: st)) : Go G X M Q T pc Ls st := by
  subst hp hv; exact Go.stp (fun t r => XS.lconst W.at W.x rfl (W.d hd) r) k
theorem lloadN (W : Here G X M vm T h C S) {j : Fin 4} (hd : decode M.bytes pc = .ok (.lload_n j, 1)) (pc' : Nat) (hp : pc + 1 = pc') (v : Int64) (hl : Ls[j.val]? = some (.val (.long v))) (k : Go G X M Q T pc' Ls (.long v :: st)) : Go G X M Q T pc Ls st := by
  subst hp; exact Go.stp (fun t r => XS.lloadN W.at W.x rfl (W.d hd) hl r) k
theorem lload (W : Here G X M vm T h C S) {j : Nat} (hd : decode M.bytes pc = .ok (.lload j, 2)) (pc' : Nat) (hp : pc + 2 = pc') (v : Int64) (hl : Ls[j]? = some (.val (.long v))) (k : Go G X M Q T pc' Ls (.long v :: st)) : Go G X M Q T pc Ls st := by
  subst hp; exact Go.stp (fun t r => XS.lload W.at W.x rfl (W.d hd) hl r) k
theorem lstoreN (W : Here G X M vm T h C S) {j : Fin 4} {x : Int64} (hd : decode M.bytes pc = .ok (.lstore_n j, 1)) (pc' : Nat) (hp : pc + 1 = pc') (Ls' : Array Slot) (hl : storeLocals Ls j.val (.long x) = some Ls') (k : Go G X M Q T pc' Ls' st) : Go G X M Q T pc Ls (.long x :: st) := by
  subst hp; exact Go.stp (fun t r => XS.lstoreN W.at W.x rfl (W.d hd) rfl hl r) k
theorem lstore (W : Here G X M vm T h C S) {j : Nat} {x : Int64} (hd : decode M.bytes pc = .ok (.lstore j, 2)) (pc' : Nat) (hp : pc + 2 = pc') (Ls' : Array Slot) (hl : storeLocals Ls j (.long x) = some Ls') (k : Go G X M Q T pc' Ls' st) : Go G X M Q T pc Ls (.long x :: st) := by
  subst hp; exact Go.stp (fun t r => XS.lstore W.at W.x rfl (W.d hd) rfl hl r) k
theorem ldcI (W : Here G X M vm T h C S) {idx : Nat} {v : Int32} (w : (Jvm.Cond.constant M.y.cls idx v).before G.a0 G.Z = true) (hd : decode M.bytes pc = .ok (.ldc idx, 2)) (pc' : Nat) (hp : pc + 2 = pc') (k : Go G X M Q T pc' Ls (.int v :: st)) : Go G X M Q T pc Ls st := by
  subst hp
  obtain ⟨F', k0, locs, cells, slots, X1, e1, hS, hk, hZ, hown, -⟩ := id W
  exact Go.stp (fun t r => X1.ldcInt W.x hown (mv (s := X.s.setVm vm) hZ w) (g := mkF X.m pc Ls st) rfl (W.d hd) t r) k
theorem ldc2 (W : Here G X M vm T h C S) {idx : Nat} {v : Int64} (w : (Jvm.Cond.constantLong M.y.cls idx v).before G.a0 G.Z = true) (hd : decode M.bytes pc = .ok (.ldc2_w idx, 3)) (pc' : Nat) (hp : pc + 3 = pc') (k : Go G X M Q T pc' Ls (.long v :: st)) : Go G X M Q T pc Ls st := by
  subst hp
  obtain ⟨F', k0, locs, cells, slots, X1, e1, hS, hk, hZ, hown, -⟩ := id W
  exact Go.stp (fun t r => X1.ldc2Long W.x hown (mv (s := X.s.setVm vm) hZ w) (g := mkF X.m pc Ls st) rfl (W.d hd) t r) k
/-! ### String constants -/
theorem ldcR (W : Here G X M vm T h C S) {idx : Nat} {text : String} (w : (Jvm.Cond.stringLink M.y.cls idx text).before G.a0 G.Z = true) (wS : ∀ a ∈ Bundle.stringAtoms, a.before G.a0 G.Z = true) (hmem : (M.y.cls, idx) ∈ G.EL) {vs : List Value} {z : Int32} (ht : (∀ c ∈ text.toList, c.toNat < 256) ∧ text.toList.map (fun c => Value.int (Jvm.Lit.byteI c.toNat.toUInt16)) = vs) (hz : ¬ z < 0) (hl : z.toNatClampNeg = vs.length)
    (hd : decode M.bytes pc = .ok (.ldc idx, 2)) (pc' : Nat) (hp : pc + 2 = pc') (n : Nat) (hn : 4 * text.toList.length ≤ n) (hbig : n ≤ 536870912) (C' S' : Nat) (hc : C + 2 ≤ C') (hs : S + (n + 4) ≤ S') (hc' : C' ≤ M.R.cells) (hs' : S' ≤ M.R.slots)
    (k : ∀ (vm' : Vm) (T' : State) (h' : Heap) (a b : Addr) (kb : ClassId), Here G X M vm' T' h' C' S' → CHr G.Z G.EL vm h vm' h' → Ext h h' → Exa G.Z h' a "java/lang/String" → Fld G.Z h' a "java/lang/String" "coder" "B" (.int 0) → Fld G.Z h' a "java/lang/String" "value" "[B" (.ref b) → Arv G.Z h' b kb .byte z vs (.int 0) → (∀ x, Safe G.Z G.EL vm' h' x → x ≠ a ∧ x ≠ b) → Go G X M Q T' pc' Ls (.ref a :: st)) : Go G X M Q T pc Ls st := by
  subst hp
  obtain ⟨F', k0, locs, cells, slots, X1, e1, hS, hk, hZ, hown, hCH, hF, O', c1, s1⟩ := id W
  obtain ⟨a, T', h', k1, b, kb, X', e', E, hS', hk', hZ', ho', f1, f2, f3, f4, -, -, r1, -, r2, st'⟩ := ldcCH X1 W.x hZ hown w wS e1 hS hk F'.2.2.2.2.2.2 hmem hCH.1 ht hz hl (g := mkF X.m pc Ls st) rfl (W.d hd) hn hbig (by omega) (by omega)
  exact Go.stp (fun t r => st' t r) (k T'.vm T' h' a b kb ⟨F', k1, locs, _, _, X', e', hS', hk', hZ', ho', hCH.trans r1, hF, O'.ext E, by omega, by omega⟩ r1 E f1 f2 f3 f4 r2)
theorem ldcO (W : Here G X M vm T h C S) {idx : Nat} {text : String} (w : (Jvm.Cond.stringLink M.y.cls idx text).before G.a0 G.Z = true) (wS : ∀ a ∈ Bundle.stringAtoms, a.before G.a0 G.Z = true)
    (hd : decode M.bytes pc = .ok (.ldc idx, 2)) (pc' : Nat) (hp : pc + 2 = pc') (n : Nat) (hn : 4 * text.toList.length ≤ n) (hbig : n ≤ 536870912) (C' S' : Nat) (hc : C + 2 ≤ C') (hs : S + (n + 4) ≤ S') (hc' : C' ≤ M.R.cells) (hs' : S' ≤ M.R.slots)
    (k : ∀ (vm' : Vm) (T' : State) (h' : Heap) (a : Addr), Here G X M vm' T' h' C' S' → CHr G.Z G.EL vm h vm' h' → Ext h h' → Go G X M Q T' pc' Ls (.ref a :: st)) : Go G X M Q T pc Ls st := by
  subst hp
  obtain ⟨F', k0, locs, cells, slots, X1, e1, hS, hk, hZ, hown, hCH, hF, O', c1, s1⟩ := id W
  obtain ⟨a, T', h', k1, X', e', E, hS', hk', hZ', ho', r1, -, st'⟩ := ldcOH X1 W.x hZ hown w wS e1 hS hk F'.2.2.2.2.2.2 hCH.1 (g := mkF X.m pc Ls st) rfl (W.d hd) hn hbig (by omega) (by omega)
  exact Go.stp (fun t r => st' t r) (k T'.vm T' h' a ⟨F', k1, locs, _, _, X', e', hS', hk', hZ', ho', hCH.trans r1, hF, O'.ext E, by omega, by omega⟩ r1 E)
end Kit2
end Own
end Jvm.Pilot.@@N@@
namespace Jvm.Pilot.@@N@@
namespace Own
open Jvm Jvm.ClassFile Sem Op Lib Jvm.Free Jvm.Stand Jvm.LawKit Jvm.RoadKit
abbrev ST : String := "java/lang/String"
/-- a String that spells the chars cs, each 0 to 255 -/
def Str (Z : State) (h : Heap) (a : Addr) (cs : List Int32) : Prop := Exa Z h a ST ∧ Fld Z h a ST "coder" "B" (.int 0) ∧ (∀ c ∈ cs, ¬ c < 0 ∧ ¬ (255 : Int32) < c) ∧ cs.length ≤ 4000 ∧
  ∃ (b : Addr) (kb : ClassId), Fld Z h a ST "value" "[B" (.ref b) ∧ Arv Z h b kb .byte (Int32.ofNat cs.length) ((cs.map fun c => c.toInt8.toInt32).map Value.int) (.int 0)
theorem Str.ext {Z : State} {h h' : Heap} {a : Addr} {cs : List Int32} (F : Str Z h a cs) (E : Ext h h') : Str Z h' a cs := by
  obtain ⟨h1, h2, h3, h4, b, kb, h5, h6⟩ := F
  exact ⟨h1.ext E, h2.ext E, h3, h4, b, kb, h5.ext E, h6.ext E⟩
theorem Str.lt {Z : State} {h : Heap} {a : Addr} {cs : List Int32} (F : Str Z h a cs) : a < h.size := F.1.lt
theorem Str.exa {Z : State} {h : Heap} {a : Addr} {cs : List Int32} (F : Str Z h a cs) : Exa Z h a ST := F.1
/-- over a change of other objects, none of them a String or a byte[] -/
theorem Str.keep {Z : State} {h h' : Heap} {a : Addr} {cs : List Int32} {ws : List Addr} (F : Str Z h a cs) (K : Keep h h' ws) (ha : a ∉ ws) (hb : ∀ x ∈ ws, ∀ (cl : Cell), ¬ Arr Z h x cl .byte) : Str Z h' a cs := by
  obtain ⟨h1, h2, h3, h4, b, kb, h5, h6⟩ := F
  refine ⟨h1.keep K, h2.keep K ha, h3, h4, b, kb, h5.keep K ha, h6.keep K fun q => ?_⟩
  obtain ⟨cl, A, -⟩ := h6
  exact hb b q cl A
theorem codS {cs : List Int32} (hb : ∀ c ∈ cs, ¬ c < 0 ∧ ¬ (255 : Int32) < c) : StrChars.Road.CodA cs 0 (Int32.ofNat cs.length) ((cs.map fun c => c.toInt8.toInt32).map Value.int) :=
  Or.inl ⟨rfl, rfl, by rw [List.map_map]; rfl, fun c hc => (hb c hc).2⟩
theorem wide16 {cs : List Int32} (hb : ∀ c ∈ cs, ¬ c < 0 ∧ ¬ (255 : Int32) < c) : ∀ c ∈ cs, ¬ c < 0 ∧ ¬ (65535 : Int32) < c := fun c hc => ⟨(hb c hc).1, fun q => (hb c hc).2 (Int32.lt_trans (by decide) q)⟩
/-- the words of a String constant's load, and of the empty road of new String(char[]) -/
abbrev wordsS : List Jvm.Cond := StrChars.Road.words ++ [.initialized ST, .instantiable ST 4, .soleField ST "value", .soleField ST "coder", .stringLink ST 7 ""]
section Kit3
variable {G : Gl} {X : Rn} {M : Bo} {vm : Vm} {T : State} {h : Heap} {C S : Nat} {Q : Option Value → Heap → Prop} {pc pc' : Nat} {Ls Ls' : Array Slot} {st : List Value}
theorem sAtoms (hw : ∀ d ∈ wordsS, d.before G.a0 G.Z = true) : ∀ a ∈ Bundle.stringAtoms, a.before G.a0 G.Z = true := fun d hd => hw d ((by decide +kernel : ∀ d ∈ Bundle.stringAtoms, d ∈ wordsS) d hd)
theorem w1 (hw : ∀ d ∈ wordsS, d.before G.a0 G.Z = true) (d : Jvm.Cond) (hd : d ∈ wordsS := by decide +kernel) : d.before G.a0 G.Z = true := hw d hd
abbrev bNew4 : Bo := (StrChars.New4.yN, StrChars.New4.yB, 6, none, ({ frames := 1, cells := 4, slots := 8, locals := 12 } : Room))
abbrev bNew1 : Bo := (StrChars.New1.yN, StrChars.New1.yB, 2, none, ({ frames := 2, cells := 4, slots := 8, locals := 29 } : Room))
theorem e4_8 : decode StrChars.New4.yB 8 = .ok (.aload_n 0, 1) := by decide +kernel
theorem e4_9 : decode StrChars.New4.yB 9 = .ok (.ldc 7, 2) := by decide +kernel
theorem e4_11 : decode StrChars.New4.yB 11 = .ok (.getfield 9, 3) := by decide +kernel
theorem e4_14 : decode StrChars.New4.yB 14 = .ok (.putfield 9, 3) := by decide +kernel
theorem e4_17 : decode StrChars.New4.yB 17 = .ok (.aload_n 0, 1) := by decide +kernel
theorem e4_18 : decode StrChars.New4.yB 18 = .ok (.ldc 7, 2) := by decide +kernel
theorem e4_20 : decode StrChars.New4.yB 20 = .ok (.getfield 15, 3) := by decide +kernel
theorem e4_23 : decode StrChars.New4.yB 23 = .ok (.putfield 15, 3) := by decide +kernel
theorem e4_26 : decode StrChars.New4.yB 26 = .ok (.return_, 1) := by decide +kernel
theorem pnST : plainName "java/lang/String" = true := by first | (simp [plainName, overriddenIn]; done) | decide +kernel
theorem pd4 : parseMethodDescriptor "([CIILjava/lang/Void;)V" = some ⟨[.array .char, .int, .int, .object "java/lang/Void"], none⟩ := by decide +kernel
theorem pd1 : parseMethodDescriptor "([C)V" = some ⟨[.array .char], none⟩ := by decide +kernel
theorem ef4 (m : MethodId) (x b : Addr) : entryFrame m #[.ref x, .ref b, .int 0, .int 0, .null] 6 = mkF m 0 #[.val (.ref x), .val (.ref b), .val (.int 0), .val (.int 0), .val .null, .unset] [] := by first | (simp [entryFrame, mkF, argsToLocals, Value.category]; done) | rfl
theorem ef1 (m : MethodId) (x b : Addr) : entryFrame m #[.ref x, .ref b] 2 = mkF m 0 #[.val (.ref x), .val (.ref b)] [] := by first | (simp [entryFrame, mkF, argsToLocals, Value.category]; done) | rfl
set_option maxRecDepth 65536 in
set_option maxHeartbeats 4000000 in
theorem con_new4e (hw : ∀ d ∈ wordsS, d.before G.a0 G.Z = true) (hEL : EW G.Z G.a0 G.EL) (hmem : (ST, 7) ∈ G.EL) {x b : Addr} {v0 c0 : Value} (hO : Old G.Z G.n0 h) (hx0 : G.n0 ≤ x) (E : Exa G.Z h x ST) (V : Fld G.Z h x ST "value" "[B" v0) (Cd : Fld G.Z h x ST "coder" "B" c0) :
    Con G [] bNew4 #[.ref x, .ref b, .int 0, .int 0, .null] h [x] (fun v h' => v = none ∧ Keep h h' [x] ∧ Str G.Z h' x []) := by
  refine Con.intro (plainFor_of_name pnST) hO hEL _ (fun m => ef4 m x b) ?_
  intro X T W sf
  have sx := sf x (List.mem_singleton.mpr rfl)
  have wS := sAtoms hw
  refine aloadN W StrChars.New4.d0 1 rfl _ rfl rfl ?_
  refine initO W (w1 hw (.methodLink ST 1 Lib.objectInit)) (w1 hw (.instanceMethod Lib.objectInit)) (w1 hw (.code Lib.objectInit ⟨#[0xb1]⟩ 1 none)) rfl StrChars.New4.d1 4 rfl (by decide) (by decide) ?_
  intro T1 W1
  refine iloadN W1 StrChars.New4.d4 5 rfl _ rfl ?_
  refine ifNo W1 StrChars.New4.d5 8 (by decide) rfl ?_
  refine aloadN W1 e4_8 9 rfl _ rfl rfl ?_
  refine ldcR W1 (w1 hw (.stringLink ST 7 "")) wS hmem (vs := []) (z := 0) ⟨by decide, by decide⟩ (by decide) (by decide) e4_9 11 rfl 0 (by decide) (by decide) 2 4 (by decide) (by decide) (by decide) (by decide) ?_
  intro vm2 T2 h2 a2 b2 kb2 W2 R2 E2 fa fc fv fb hne
  have sx2 : Safe G.Z G.EL vm2 h2 x := R2.safe E.lt sx
  have ne2 := hne x sx2
  refine getF W2 (w1 hw (.fieldLink ST 9 ST "value" "[B")) Via.refl fv e4_11 14 rfl ?_
  intro T3 W3
  refine putF W3 (w1 hw (.fieldLink ST 9 ST "value" "[B")) Via.refl (V.ext E2) (E.ext E2) (Or.inr ⟨w1 hw (.laysFinal ST ST "value" "[B"), rfl, rfl⟩) (w1 hw (.instantiable ST 4)) (ty := .array .byte) (by decide) rfl rfl hx0 sx2 e4_14 17 rfl ?_
  intro T4 h4 W4 Wr4 k4
  refine aloadN W4 e4_17 18 rfl _ rfl rfl ?_
  refine ldcR W4 (w1 hw (.stringLink ST 7 "")) wS hmem (vs := []) (z := 0) ⟨by decide, by decide⟩ (by decide) (by decide) e4_18 20 rfl 0 (by decide) (by decide) 4 8 (by decide) (by decide) (by decide) (by decide) ?_
  intro vm5 T5 h5 a5 b5 kb5 W5 R5 E5 ga gc gv gb hne5
  have x4 : x < h4.size := by rw [Wr4.size]; exact (E.ext E2).lt
  have sx4 : Safe G.Z G.EL vm2 h4 x := k4 x sx2
  have sx5 : Safe G.Z G.EL vm5 h5 x := R5.safe x4 sx4
  refine getF W5 (w1 hw (.fieldLink ST 15 ST "coder" "B")) Via.refl gc e4_20 23 rfl ?_
  intro T6 W6
  have Ex5 : Exa G.Z h5 x ST := ((E.ext E2).wr Wr4).ext E5
  have sne : RoadKit.slotOf G.Z ST "coder" "B" ≠ RoadKit.slotOf G.Z ST "value" "[B" := slot_ne (Or.inr (w1 hw (.laysFinal ST ST "coder" "B"))) (Or.inr (w1 hw (.laysFinal ST ST "value" "[B"))) (by decide) (t := .byte) (t' := .array .byte) (by decide) (by decide)
  have Cd5 : Fld G.Z h5 x ST "coder" "B" c0 := ((Cd.ext E2).other Wr4 (Or.inr sne)).ext E5
  have V5 : Fld G.Z h5 x ST "value" "[B" (.ref b2) := ((V.ext E2).same Wr4).ext E5
  have B5 : Arv G.Z h5 b2 kb2 .byte 0 [] (.int 0) := (fb.other Wr4 (Ne.symm ne2.2)).ext E5
  refine putF W6 (w1 hw (.fieldLink ST 15 ST "coder" "B")) Via.refl Cd5 Ex5 (Or.inr ⟨w1 hw (.laysFinal ST ST "coder" "B"), rfl, rfl⟩) (w1 hw (.instantiable ST 4)) (ty := .byte) (v' := .int 0) (by decide) rfl rfl hx0 sx5 e4_23 26 rfl ?_
  intro T7 h7 W7 Wr7 _
  refine retV W7 (by decide) (by decide) rfl e4_26 ⟨rfl, ?_, ?_⟩
  · exact ((((Keep.refl h [x]).ext E2).wr Wr4 (Or.inl (List.mem_singleton.mpr rfl))).ext E5).wr Wr7 (Or.inl (List.mem_singleton.mpr rfl))
  · have nb : b2 ≠ x := Ne.symm ne2.2
    exact ⟨Ex5.wr Wr7, Cd5.same Wr7, by simp, by simp, b2, kb2, V5.other Wr7 (Or.inr (Ne.symm sne)), B5.other Wr7 nb⟩
set_option maxRecDepth 65536 in
set_option maxHeartbeats 4000000 in
theorem con_new1e (hw : ∀ d ∈ wordsS, d.before G.a0 G.Z = true) (hEL : EW G.Z G.a0 G.EL) (hmem : (ST, 7) ∈ G.EL) {x b : Addr} {kC : ClassId} {v0 c0 dv : Value} {vs : List Value} (hO : Old G.Z G.n0 h) (hx0 : G.n0 ≤ x) (E : Exa G.Z h x ST) (V : Fld G.Z h x ST "value" "[B" v0) (Cd : Fld G.Z h x ST "coder" "B" c0) (A : Arv G.Z h b kC .char 0 vs dv) :
    Con G [] bNew1 #[.ref x, .ref b] h [x] (fun v h' => v = none ∧ Keep h h' [x] ∧ Str G.Z h' x []) := by
  refine Con.intro (plainFor_of_name pnST) hO hEL _ (fun m => ef1 m x b) ?_
  intro X T W sf
  have sx := sf x (List.mem_singleton.mpr rfl)
  refine aloadN W StrChars.New1.d0 1 rfl _ rfl rfl ?_
  refine aloadN W StrChars.New1.d1 2 rfl _ rfl rfl ?_
  refine iconst W StrChars.New1.d2 3 rfl 0 rfl ?_
  refine aloadN W StrChars.New1.d3 4 rfl _ rfl rfl ?_
  refine arrlen W A StrChars.New1.d4 5 rfl ?_
  refine aconstNull W StrChars.New1.d5 6 rfl ?_
  refine callX W (y := StrChars.New4.yN) rfl (w1 hw (.methodLink ST 27 StrChars.New4.yN)) (w1 hw (.instanceMethod StrChars.New4.yN)) (w1 hw (.code StrChars.New4.yN StrChars.New4.yB 6 none)) (by decide) (argsL := [.ref b, .int 0, .int 0, .null]) (rest := [])
    (Con.pay (con_new4e hw hEL hmem hO hx0 E V Cd) W (w1 hw (.code StrChars.New4.yN StrChars.New4.yB 6 none)) (w1 hw (.initialized ST)) (len := 3) (wd := 0) (by decide) (by decide) (fun y hy => by cases List.mem_singleton.mp hy; exact ⟨E.lt, sx⟩)) rfl (lenOf pd4 rfl) rfl (by decide) StrChars.New1.d6 9 rfl 4 8 (by decide) (by decide) (by decide) (by decide) ?_
  intro vm1 T1 h1 v W1 R1 hq
  obtain ⟨rfl, K, F⟩ := hq
  exact retV W1 (by decide) (by decide) rfl StrChars.New1.d9 ⟨rfl, K, F⟩
/-- **new String(char[]) AT ITS CALL**: x the fresh String, b the char[] that holds cs -/
theorem payStr (hw : ∀ d ∈ wordsS, d.before G.a0 G.Z = true) (hEL : EW G.Z G.a0 G.EL) (hmem : (ST, 7) ∈ G.EL) (W : Here G X M vm T h C S) {x b : Addr} {kC : ClassId} {v0 c0 dv : Value} {cs : List Int32} {z cz : Int32} (hx0 : G.n0 ≤ x) (sx : Safe G.Z G.EL vm h x) (E : Exa G.Z h x ST) (V : Fld G.Z h x ST "value" "[B" v0) (Cd : Fld G.Z h x ST "coder" "B" c0)
    (A : Arv G.Z h b kC .char z (cs.map Value.int) dv) (hz : z = Int32.ofNat cs.length) (hcs : ∀ c ∈ cs, ¬ c < 0 ∧ ¬ (255 : Int32) < c) (hl : cs.length ≤ 4000) (hS : Sta G.Z G.Z.heap ST "COMPACT_STRINGS" "Z" (.int cz)) (hcz : ¬ cz = 0) {len wd : Nat} (hf : 4 ≤ M.R.frames) (hlo : wd + 65 ≤ M.R.locals) :
    Pay G X M vm h StrChars.New1.yN len wd #[.ref x, .ref b] 4 (8 + cs.length) (fun v h' => v = none ∧ Keep h h' [x] ∧ Str G.Z h' x cs) := by
  have hO := W.old
  subst hz
  match cs, A, hcs, hl with
  | [], A, _, _ =>
    exact Con.pay (con_new1e hw hEL hmem hO hx0 E V Cd A) W (w1 hw (.code StrChars.New1.yN StrChars.New1.yB 2 none)) (w1 hw (.initialized ST)) (by show 2 + 1 ≤ _; omega) (by show wd + (2 + 11) + 29 ≤ _; omega) (fun y hy => by cases List.mem_singleton.mp hy; exact ⟨E.lt, sx⟩)
  | c :: cs, A, hcs, hl =>
    have B := StrChars.Road.backV (p := X.p) (l := G.l) (e := X.e) (R := M.R) (s := X.s.setVm vm) (args := X.args) (below := X.below) (len := len) (W := wd) (Z := G.Z) (a0 := G.a0) W.wz (fun d hd => hw d (List.mem_append_left _ hd)) (kI := 4) (w1 hw (.instantiable ST 4)) hx0 W.n0 E V Cd A (W.sta hS) hcz (n := (c :: cs).length) rfl rfl (by simp) hl hcs rfl hf hlo
    have P := payB (Q' := fun v h' => v = none ∧ Keep h h' [x] ∧ Str G.Z h' x (c :: cs)) B W (fun v h' L q => by
      obtain ⟨q1, q2, q3, q4, q5, t, kb, q6, q7, q8, q9, q10⟩ := q
      have ks : ∀ y ∈ [x], Safe G.Z G.EL vm h y := fun y hy => by cases List.mem_singleton.mp hy; exact sx
      exact ⟨⟨q1, q3, q4, q5, hcs, hl, t, kb, q9, q10⟩, q2, hO.keep q3 (fun y hy => by cases List.mem_singleton.mp hy; exact hx0), CHr.keep q3 ks W.ch⟩)
    intro m meth c' A' g ig mk a X1 hg hsize hdg hW hn hp
    obtain ⟨v, B', r1, r2, r3, ⟨L, r4, r5, r6, r7, r8⟩, r9⟩ := P m meth c' A' g ig mk a X1 hg hsize hdg hW hn ⟨hp.1, hp.2.1, by have := hp.2.2.1; omega, by have := hp.2.2.2; omega⟩
    exact ⟨v, B', r1, r2, r3, ⟨L, r4, r5, by omega, by omega, r8⟩, r9⟩
end Kit3
/-! ### chars -/
def chr (x : Int32) : Int32 := x.toUInt32.toUInt16.toUInt32.toInt32
def us (x k : Int32) : Int32 := (x.toUInt32 >>> (k &&& 31).toUInt32).toInt32
/-- the low eight bits, as a char -/
def lo (x : Int32) : Int32 := chr (x &&& 255)
theorem chr_id {x : Int32} (h0 : 0 ≤ x.toInt) (h1 : x.toInt < 65536) : chr x = x := Int32.toInt_inj.mp (by
  have q := c_i2c x
  unfold chr
  omega)
theorem and255 (x : Int32) : 0 ≤ (x &&& 255).toInt ∧ (x &&& 255).toInt ≤ 255 := c_and x 255 (by decide)
theorem lo_eq (x : Int32) : lo x = x &&& 255 := chr_id (and255 x).1 (by have := (and255 x).2; omega)
theorem lo_rng (x : Int32) : ¬ lo x < 0 ∧ ¬ (255 : Int32) < lo x := by
  rw [lo_eq, Int32.lt_iff_toInt_lt, Int32.lt_iff_toInt_lt]
  have q := and255 x
  have e1 : (0 : Int32).toInt = 0 := by decide
  have e2 : (255 : Int32).toInt = 255 := by decide
  rw [e1, e2]; omega
theorem nar_of {c : Int32} (q : ¬ c < 0 ∧ ¬ (255 : Int32) < c) : nar .char c = c := by
  rw [Int32.lt_iff_toInt_lt, Int32.lt_iff_toInt_lt] at q
  have e1 : (0 : Int32).toInt = 0 := by decide
  have e2 : (255 : Int32).toInt = 255 := by decide
  rw [e1, e2] at q
  show chr c = c
  exact chr_id (by omega) (by omega)
theorem nar_b8 (x : Int32) : nar .byte x.toInt8.toInt32 = x.toInt8.toInt32 := by
  show (x.toInt8.toInt32).toInt8.toInt32 = x.toInt8.toInt32
  simp
theorem nar_lo (x : Int32) : nar .char (lo x) = lo x := by
  show chr (lo x) = lo x
  rw [lo_eq]; exact chr_id (and255 x).1 (by have := (and255 x).2; omega)
end Own
end Jvm.Pilot.@@N@@
namespace Jvm.Pilot.@@N@@
namespace Own
open Jvm Jvm.ClassFile Sem Op Lib Jvm.Free Jvm.Stand Jvm.LawKit Jvm.RoadKit
theorem payLen {G : Gl} {X : Rn} {M : Bo} {vm : Vm} {T : State} {h : Heap} {C S : Nat} {cs : List Int32} {x : Addr} {cz : Int32} (hwE : ∀ d ∈ StrChars.Road.wordsLen, d.before G.a0 G.Z = true) {kI : Nat} (wi : (Jvm.Cond.instantiable ST kI).before G.a0 G.Z = true) (W : Here G X M vm T h C S) (F : Str G.Z h x cs)
    (hS : Sta G.Z G.Z.heap ST "COMPACT_STRINGS" "Z" (.int cz)) (hcz : ¬ cz = 0) {len wd : Nat} (hf : 2 ≤ M.R.frames) (hlo : wd + 25 ≤ M.R.locals) :
    Pay G X M vm h ⟨"java/lang/String", "length", "()I"⟩ len wd #[.ref x] 0 0 (fun v h' => v = some (.int (Int32.ofNat cs.length)) ∧ h' = h) := by
  obtain ⟨h1, h2, h3, h4, b, kb, h5, h6⟩ := F
  exact payB (Qy := fun v h' L => v = some (.int (Int32.ofNat cs.length)) ∧ L = [] ∧ h' = h) (StrChars.Road.lenW (p := X.p) (l := G.l) (e := X.e) (R := M.R) (s := X.s.setVm vm) (args := X.args) (below := X.below) (len := len) (W := wd) W.wz hwE wi h1 h5 h2 h6 (codS h3) (wide16 h3) (W.sta hS) hcz h4 hf hlo) W (fun v h' L q => by
    obtain ⟨q1, rfl, q3⟩ := q
    subst q3
    exact ⟨⟨q1, rfl⟩, Fr.nil _, W.old, CHr.refl W.ch⟩)
end Own
end Jvm.Pilot.@@N@@
namespace Jvm.Pilot.@@N@@
namespace Own
open Jvm Jvm.ClassFile Sem Op Lib Jvm.Free Jvm.Stand Jvm.LawKit Jvm.RoadKit
theorem payChr {G : Gl} {X : Rn} {M : Bo} {vm : Vm} {T : State} {h : Heap} {C S : Nat} {cs : List Int32} {x : Addr} {cz j : Int32} {i : Nat} {fm : Value} (hwE : ∀ d ∈ StrChars.Road.wordsChN, d.before G.a0 G.Z = true) {kI : Nat} (wi : (Jvm.Cond.instantiable ST kI).before G.a0 G.Z = true) (W : Here G X M vm T h C S) (F : Str G.Z h x cs)
    (hS : Sta G.Z G.Z.heap ST "COMPACT_STRINGS" "Z" (.int cz)) (hcz : ¬ cz = 0) (hF : Sta G.Z G.Z.heap "jdk/internal/util/Preconditions" "SIOOBE_FORMATTER" "Ljava/util/function/BiFunction;" fm) (rf : fm.isRef = true) (hi : i < cs.length) (hj : j = Int32.ofNat i) {len wd : Nat} (hf : 4 ≤ M.R.frames) (hlo : wd + 53 ≤ M.R.locals) :
    Pay G X M vm h ⟨"java/lang/String", "charAt", "(I)C"⟩ len wd #[.ref x, .int j] 0 0 (fun v h' => v = some (.int (cs.getD i 0)) ∧ h' = h) := by
  obtain ⟨h1, h2, h3, h4, b, kb, h5, h6⟩ := F
  exact payB (Qy := fun v h' L => v = some (.int (cs.getD i 0)) ∧ L = [] ∧ h' = h) (StrChars.Road.chN (p := X.p) (l := G.l) (e := X.e) (R := M.R) (s := X.s.setVm vm) (args := X.args) (below := X.below) (len := len) (W := wd) W.wz hwE wi h1 h5 h2 h6 (codS h3) (wide16 h3) (W.sta hS) hcz (W.sta hF) rf h4 hi hj hf hlo) W (fun v h' L q => by
    obtain ⟨q1, rfl, q3⟩ := q
    subst q3
    exact ⟨⟨q1, rfl⟩, Fr.nil _, W.old, CHr.refl W.ch⟩)
end Own
end Jvm.Pilot.@@N@@
namespace Jvm.Pilot.@@N@@
namespace Own
open Jvm Jvm.ClassFile Sem Op Lib Jvm.Free Jvm.Stand Jvm.LawKit Jvm.RoadKit
section Enum
variable {G : Gl} {X : Rn} {M : Bo} {vm : Vm} {T : State} {h : Heap} {C S : Nat} {Q : Option Value → Heap → Prop} {pc pc' : Nat} {Ls Ls' : Array Slot} {st : List Value}
theorem aaload (W : Here G X M vm T h C S) {a : Addr} {kA : ClassId} {ty : FieldType} {z j : Int32} {vs : List Value} {dv : Value} (A : Arv G.Z h a kA ty z vs dv) (hty : ty.isReference = true) (hj0 : ¬ j < 0 ∧ j < z) (v : Value) (hv : vs.getD j.toNatClampNeg dv = v) (hd : decode M.bytes pc = .ok (.aaload, 1)) (pc' : Nat) (hp : pc + 1 = pc') (k : Go G X M Q T pc' Ls (v :: st)) : Go G X M Q T pc Ls (.int j :: .ref a :: st) := by
  subst hp
  obtain ⟨F', k0, locs, cells, slots, X1, e1, hS, hk, hZ, hown, hCH, hF, O', c1, s1⟩ := id W
  obtain ⟨cl, A1, q, Sz, Nz, H, Gz⟩ := A
  exact Go.stp (fun t r => X1.aaload W.x (by rw [e1]; exact A1.1) (State.isArrayOf_alike (T := X.s.setVm vm) hZ.alike A1.2.1) hty A1.2.2 (inb_of Sz hj0) (H.at (inb_of Sz hj0) hv) (g := mkF X.m pc Ls (.int j :: .ref a :: st)) rfl rfl (W.d hd) t r) k
theorem cloneV (W : Here G X M vm T h C S) {ad : String} {idx : Nat} {a : Addr} {kA : ClassId} {ty : FieldType} {z : Int32} {vs : List Value} {dv : Value} (w1 : (Jvm.Cond.methodLink M.y.cls idx ⟨ad, "clone", "()Ljava/lang/Object;"⟩).before G.a0 G.Z = true) (w2 : (Jvm.Cond.sameMethod ad "java/lang/Object" "clone" "()Ljava/lang/Object;").before G.a0 G.Z = true) (w3 : (Jvm.Cond.native ⟨"java/lang/Object", "clone", "()Ljava/lang/Object;"⟩).before G.a0 G.Z = true)
    (w4 : (Jvm.Cond.instanceMethod ⟨"java/lang/Object", "clone", "()Ljava/lang/Object;"⟩).before G.a0 G.Z = true) (w5 : (Jvm.Cond.selects ad ⟨ad, "clone", "()Ljava/lang/Object;"⟩ ⟨"java/lang/Object", "clone", "()Ljava/lang/Object;"⟩).before G.a0 G.Z = true) (w6 : (Jvm.Cond.castable ad "java/lang/Cloneable").before G.a0 G.Z = true)
    (A : Arv G.Z h a kA ty z vs dv) (E : Exa G.Z h a ad) (hsz : Ls.size = M.maxL) (hd : decode M.bytes pc = .ok (.invokevirtual idx, 3)) (pc' : Nat) (hp : pc + 3 = pc') (hf : 1 ≤ M.R.frames) (hl : (st.map fun v => v.category).sum + 14 ≤ M.R.locals) (cap : Nat) (hcap : z.toNatClampNeg ≤ cap) (C' S' : Nat) (hc : C + 1 ≤ C') (hs : S + cap ≤ S') (hc' : C' ≤ M.R.cells) (hs' : S' ≤ M.R.slots)
    (k : ∀ (T' : State) (h' : Heap) (b : Addr), b = h.size → Here G X M vm T' h' C' S' → Ext h h' → Arv G.Z h' b kA ty z vs dv → Exa G.Z h' b ad → Go G X M Q T' pc' Ls (.ref b :: st)) : Go G X M Q T pc Ls (.ref a :: st) := by
  subst hp
  obtain ⟨F', k0, locs, cells, slots, X1, e1, hS, hk, hZ, hown, hCH, hF, O', c1, s1⟩ := id W
  obtain ⟨T', h', X', e', E', A', Ex', st'⟩ := RoadKit.cloneH X1 W.x hZ hown w1 w2 w3 w4 w5 w6 e1 A.arh E (g := mkF X.m pc Ls (.ref a :: st)) rfl (hsz.trans F'.2.2.1.symm) rfl (W.d hd) hf (W := (st.map fun v => v.category).sum) (cap := cap) (by show 2 * 0 + _ ≤ _; omega) hl hcap (by omega) (by omega)
  exact Go.stp (fun t r => st' t r) (k T' h' h.size rfl (Here.ext W hS hk hown hCH hF X' e' E' (by omega) (by omega)) E' A' Ex')
end Enum
/-! ### a case's words on its start: arrays and Strings -/
section Start
variable {s : State} {args : Array Value} {t : Term} {r : Addr}
theorem eqRef {a b : Term} {r : Addr} (m : (Jvm.Cond.eq a b).value args s none s [] = some true) (ev : b.eval args s none [] s = some (.ref r)) : a.eval args s none [] s = some (.ref r) := by
  simp only [Cond.value, ev] at m
  cases ha : a.eval args s none [] s with
  | none => simp [ha] at m
  | some x => cases x <;> simp [ha] at m ⊢ <;> exact m
theorem eqI {a : Term} {k : Int32} (m : (Jvm.Cond.eq a (.int k)).value args s none s [] = some true) : a.eval args s none [] s = some (.int k) := Cond.eq_int (Cond.before_iff.mpr m) rfl
theorem hasL_of {cl : Cell} : ∀ (vs : List Value) (i : Nat), (∀ j (hj : j < vs.length), cl.slots[i + j]? = some vs[j]) → HasL cl i vs
  | [], _, _ => trivial
  | v :: vs, i, q => ⟨q 0 (by simp), hasL_of vs (i + 1) fun j hj => by
      have z := q (j + 1) (by simp; omega)
      rw [show i + 1 + j = i + (j + 1) from by omega]
      simpa using z⟩
theorem arvStart (hf : Fit s) {ty : FieldType} {z : Int32} {vs : List Value} {dv : Value} (ev : t.eval args s none [] s = some (.ref r)) (ha : (Jvm.Cond.arrayOf t ty).value args s none s [] = some true) (hl : (Jvm.Cond.eq (.length t) (.int z)).value args s none s [] = some true) (hz : ¬ z < 0) (hn : z.toNatClampNeg = vs.length)
    (hel : ∀ i (hi : i < vs.length), (Term.elem t (.int (Int32.ofNat i))).eval args s none [] s = some vs[i]) : ∃ k, Arv s s.heap r k ty z vs dv := by
  obtain ⟨cl, A⟩ := Arr.start ev ha
  have e := eqI hl
  obtain ⟨sd, SA, hev, harrAt, -⟩ := Term.length_spec e
  have h31 := SBG.length_lt hev harrAt e
  cases ev.symm.trans hev
  have hcl : SA = cl := by
    have q := Arr.fin (U := s) (Vm.Alike.refl _) A
    exact Option.some.inj (harrAt.symm.trans q)
  subst hcl
  have e2 := len_f (o := none) (idx := []) ev harrAt h31
  have ez : SA.slots.size.toInt32 = z := by
    have q := e2.symm.trans e
    simpa using q
  refine ⟨SA.cls, Arv.start hf A h31 ez hz hn (hasL_of vs 0 fun j hj => ?_)⟩
  have q := elem_in (hel j hj) ev rfl A.1
  have z2 := q.2
  rw [show (Int32.ofNat j).toNatClampNeg = j from by
    have := Int32.toInt_ofNat_small (n := j) (by have := back32 hz; omega)
    simp [Int32.toNatClampNeg, this]] at z2
  rw [Nat.zero_add]; exact z2
end Start
end Own
end Jvm.Pilot.@@N@@
namespace Jvm.Pilot.@@N@@
namespace Own
open Jvm Jvm.ClassFile Sem Op Lib Bundle Jvm.Free Jvm.Stand Jvm.LawKit Jvm.RoadKit Jvm.Free.SB Jvm.Free.SBG
/-- no entry of EL names a text of n signs -/
def EN (Z : State) (a0 : Array Value) (EL : List (String × Nat)) (n : Nat) : Prop := ∀ p ∈ EL, ∃ text : String, (Cond.stringLink p.1 p.2 text).before a0 Z = true ∧ (∀ c ∈ text.toList, c.toNat < 256) ∧ text.toList.length ≠ n
theorem EN.nil {Z : State} {a0 : Array Value} {n : Nat} : EN Z a0 [] n := fun _ hp => by cases hp
theorem EN.cons {Z : State} {a0 : Array Value} {EL : List (String × Nat)} {n : Nat} {own text : String} {index : Nat} (w : (Cond.stringLink own index text).before a0 Z = true) (ht : ∀ c ∈ text.toList, c.toNat < 256) (hn : text.toList.length ≠ n) (E : EN Z a0 EL n) : EN Z a0 ((own, index) :: EL) n := fun p hp => by
  rcases List.mem_cons.mp hp with rfl | hp
  · exact ⟨text, w, ht, hn⟩
  · exact E p hp
/-- a byte[] as long as no constant's is none of theirs -/
theorem Safe.len {Z : State} {a0 : Array Value} {EL : List (String × Nat)} {vm : Vm} {h : Heap} {x : Addr} {k : ClassId} {z : Int32} {vs : List Value} {dv : Value} {n : Nat} (hW : Z.Warmed39 vm) (hEN : EN Z a0 EL n) (A : Arv Z h x k .byte z vs dv) (hz : z.toNatClampNeg = n) : Safe Z EL vm h x := fun B => by
  have hal : Z.vm.Alike vm := hW.alike
  obtain ⟨p, hp, u, a, hb, q, -, F, hy⟩ := B
  obtain ⟨cl, A0, -, Sz, -⟩ := A
  obtain ⟨A1, ⟨-, kA, hkA, compA, hkindA⟩, -⟩ := A0
  obtain ⟨kA', hkA', ekA⟩ := hal.2.2 _ _ hkA
  rcases hy with rfl | rfl
  · cases (show h[q.sa]? = some q.sC from F.ha).symm.trans A1
    obtain ⟨cS, ⟨-, -, e⟩, ⟨kS, g1, g2, -⟩, -⟩ := F
    subst e
    cases (show vm.classes[q.sC.cls]? = some kS from g1).symm.trans hkA'
    rw [ekA] at g2
    have := hkindA.symm.trans g2
    cases this
  · cases (show h[q.sd]? = some q.SA from F.hd).symm.trans A1
    obtain ⟨cS, -, -, -, hsl⟩ := F
    obtain ⟨text, w, ht, hn⟩ := hEN p hp
    obtain ⟨c, k1, cf, i, b1, b2, b3, b4, b5, -⟩ := hb
    have w2 : (Cond.stringLink p.1 p.2 text).before a0 (Wst Z vm h) = true := mvS (s := { Z with heap := h }) hW w
    obtain ⟨k2, cf2, i2, u2, d1, d2, d3, d4, -, d6, -⟩ := Cond.stringLink_spec (s := Wst Z vm h) b1 w2
    cases b2.symm.trans (show vm.classes[c]? = some k2 from d1)
    cases b3.symm.trans d2
    cases b4.symm.trans d3
    cases b5.symm.trans d4
    have hl := lat_of_text d6 ht
    have hu := units_of_text d6 ht
    have e1 : (stringBytes u).size = u.size := by unfold stringBytes; rw [if_pos hl]; simp
    have e2 : u.size = text.toList.length := by rw [← Array.length_toList, hu, List.length_map]
    rw [hsl, e1, e2, hz] at Sz
    exact hn Sz
end Own
end Jvm.Pilot.@@N@@
namespace Jvm.Pilot.@@N@@
namespace Own
open Jvm Jvm.ClassFile Sem Op Lib Jvm.Free Jvm.Stand Jvm.LawKit Jvm.RoadKit
abbrev SBN : String := "java/lang/StringBuilder"
abbrev ASB : String := "java/lang/AbstractStringBuilder"
/-- the bytes of chars -/
abbrev bs (cs : List Int32) : List Value := (cs.map fun c => c.toInt8.toInt32).map Value.int
theorem bs_len (cs : List Int32) : (bs cs).length = cs.length := by simp [bs]
theorem bs_app (cs ds : List Int32) : bs (cs ++ ds) = bs cs ++ bs ds := by simp [bs]
theorem shr0 (x : Int32) : x >>> ((0 : Int32) &&& 31) = x := by
  rw [show ((0 : Int32) &&& 31) = 0 by decide]; exact Int32.toBitVec_inj.mp (by simp)
theorem shl0 (x : Int32) : x <<< ((0 : Int32) &&& 31) = x := by
  rw [show ((0 : Int32) &&& 31) = 0 by decide]; exact Int32.toBitVec_inj.mp (by simp)
theorem clampN {n : Nat} (h : n ≤ 4000) : (Int32.ofNat n).toNatClampNeg = n := by
  have e : (Int32.ofNat n).toNatClampNeg = (Int32.ofNat n).toInt.toNat := rfl
  rw [e, Int32.toInt_ofNat_of_lt (by omega)]; omega
theorem natI {n : Nat} (h : n ≤ 100000) : (Int32.ofNat n).toInt = n := Int32.toInt_ofNat_of_lt (by omega)
theorem nonneg {n : Nat} (h : n ≤ 4000) : ¬ Int32.ofNat n < 0 := by
  rw [Int32.lt_iff_toInt_lt, natI (by omega), show (0 : Int32).toInt = 0 by decide]; omega
theorem capOK {a b c : Nat} (h : a + b ≤ c) (hc : c ≤ 4000) : ¬ (0 : Int32) < Int32.ofNat a + Int32.ofNat b - Int32.ofNat c := by
  rw [Int32.lt_iff_toInt_lt, ← Int32.ofNat_add]
  have h1 := c_isub (Int32.ofNat (a + b)) (Int32.ofNat c)
  have h2 := Int32.toInt_lt (Int32.ofNat (a + b) - Int32.ofNat c)
  have h3 := Int32.le_toInt (Int32.ofNat (a + b) - Int32.ofNat c)
  rw [natI (by omega), natI (by omega)] at h1
  rw [show (0 : Int32).toInt = 0 by decide]
  omega
theorem rangeGet {vs : List Value} {n : Nat} (dv : Value) (hn : n = vs.length) (k : Nat) (hk : k = 0) : vs = (List.range n).map fun i => vs.getD (k + i) dv := by
  subst hn hk
  apply List.ext_getElem (by simp)
  intro i h1 h2
  simp [List.getD_eq_getElem?_getD, h1]
theorem Arv.cong {Z : State} {h : Heap} {a : Addr} {k : ClassId} {ty : FieldType} {z : Int32} {vs vs' : List Value} {dv : Value} (F : Arv Z h a k ty z vs dv) (q : ∀ i, i < z.toNatClampNeg → vs'.getD i dv = vs.getD i dv) : Arv Z h a k ty z vs' dv := by
  obtain ⟨c, A, r1, r2, r3, H, G⟩ := F
  exact ⟨c, A, r1, r2, r3, fun i hi => by rw [q i (by omega)]; exact H i hi, fun i hi => by rw [q i (by omega)]; exact G i hi⟩
/-- a StringBuilder of Latin-1 chars ts in the array b of cap bytes -/
def SBd (Z : State) (h : Heap) (sb b : Addr) (cap : Nat) (ts : List Int32) : Prop := Exa Z h sb SBN ∧ Fld Z h sb ASB "value" "[B" (.ref b) ∧ Fld Z h sb ASB "coder" "B" (.int 0) ∧ Fld Z h sb ASB "count" "I" (.int (Int32.ofNat ts.length)) ∧ (∀ c ∈ ts, ¬ c < 0 ∧ ¬ (255 : Int32) < c) ∧ ts.length ≤ cap ∧ cap ≤ 4000 ∧
  ∃ (kb : ClassId) (junk : List Value), Arv Z h b kb .byte (Int32.ofNat cap) (bs ts ++ junk) (.int 0) ∧ (bs ts ++ junk).length = cap
theorem SBd.ext {Z : State} {h h' : Heap} {sb b : Addr} {cap : Nat} {ts : List Int32} (F : SBd Z h sb b cap ts) (E : Ext h h') : SBd Z h' sb b cap ts := by
  obtain ⟨h1, h2, h3, h4, h5, h6, h7, kb, j, h8, h9⟩ := F
  exact ⟨h1.ext E, h2.ext E, h3.ext E, h4.ext E, h5, h6, h7, kb, j, h8.ext E, h9⟩
theorem SBd.lt {Z : State} {h : Heap} {sb b : Addr} {cap : Nat} {ts : List Int32} (F : SBd Z h sb b cap ts) : sb < h.size := F.1.lt
theorem SBd.exa {Z : State} {h : Heap} {sb b : Addr} {cap : Nat} {ts : List Int32} (F : SBd Z h sb b cap ts) : Exa Z h sb SBN := F.1
theorem SBd.ltb {Z : State} {h : Heap} {sb b : Addr} {cap : Nat} {ts : List Int32} (F : SBd Z h sb b cap ts) : b < h.size := by
  obtain ⟨h1, h2, h3, h4, h5, h6, h7, kb, j, h8, h9⟩ := F; exact h8.lt
section SB
variable {G : Gl} {X : Rn} {M : Bo} {vm : Vm} {T : State} {h : Heap} {C S : Nat} {Q : Option Value → Heap → Prop} {pc pc' : Nat} {Ls Ls' : Array Slot} {st : List Value}
theorem acopy (W : Here G X M vm T h C S) {idx : Nat} {a b : Addr} {k k' : ClassId} {z z' sp dp nn : Int32} {vs vd us : List Value} {dv dd : Value} (w1 : (Jvm.Cond.methodLink M.y.cls idx Jvm.Stand.acN).before G.a0 G.Z = true) (w2 : (Jvm.Cond.native Jvm.Stand.acN).before G.a0 G.Z = true) (w3 : (Jvm.Cond.static Jvm.Stand.acN).before G.a0 G.Z = true) (w4 : (Jvm.Cond.initialized "java/lang/System").before G.a0 G.Z = true)
    (A : Arv G.Z h a k .byte z vs dv) (B : Arv G.Z h b k' .byte z' vd dd) (h1 : ¬ sp < 0) (h2 : ¬ dp < 0) (h3 : ¬ nn < 0) (h4 : sp.toNatClampNeg + nn.toNatClampNeg ≤ z.toNatClampNeg) (h5 : dp.toNatClampNeg + nn.toNatClampNeg ≤ z'.toNatClampNeg)
    (hus : us = (List.range nn.toNatClampNeg).map fun i => vs.getD (sp.toNatClampNeg + i) dv) (hl : dp.toNatClampNeg + nn.toNatClampNeg ≤ vd.length) (ge : G.n0 ≤ b) (sf : Safe G.Z G.EL vm h b) (hsz : Ls.size = M.maxL)
    (hd : decode M.bytes pc = .ok (.invokestatic idx, 3)) (pc' : Nat) (hp : pc + 3 = pc') (hf : 1 ≤ M.R.frames) (hlo : (st.map fun v => v.category).sum + 18 ≤ M.R.locals)
    (kk : ∀ (T' : State) (h' : Heap), Here G X M vm T' h' C S → CHr G.Z G.EL vm h vm h' → Keep h h' [b] → Arv G.Z h' b k' .byte z' (vd.take dp.toNatClampNeg ++ us ++ vd.drop (dp.toNatClampNeg + nn.toNatClampNeg)) dd → Go G X M Q T' pc' Ls st) : Go G X M Q T pc Ls (.int nn :: .int dp :: .ref b :: .int sp :: .ref a :: st) := by
  subst hp
  obtain ⟨F, k0, locs, cells, slots, X1, e1, hS, hk, hZ, hown, hCH, hF, O, c1, s1⟩ := id W
  obtain ⟨T', h', L, X', e', N', K, A', st'⟩ := RoadKit.cpA X1 W.x hZ hown w1 w2 w3 w4 e1 A B (Or.inl ⟨rfl, rfl⟩) h1 h2 h3 h4 h5 hus hl hF ge (g := mkF X.m pc Ls (.int nn :: .int dp :: .ref b :: .int sp :: .ref a :: st)) rfl (hsz.trans F.2.2.1.symm) rfl (W.d hd) hf (W := (st.map fun v => v.category).sum) (by show 2 * 0 + _ ≤ _; omega) (by
    rw [show nativeFrameWords "java/lang/System" "arraycopy" 5 + 11 = 18 by decide]; exact hlo)
  have ks : ∀ y ∈ [b], Safe G.Z G.EL vm h y := fun y hy => by cases List.mem_singleton.mp hy; exact sf
  have R := CHr.keep K ks hCH.1
  exact Go.stp (fun t r => st' t r) (kk T' h' ⟨W.1, k0, L, cells, slots, X', e', hS, Nat.le_trans hk K.1, W.wz, hown, hCH.trans R, N', O.keep K (fun y hy => by cases List.mem_singleton.mp hy; exact ge), c1, s1⟩ R K A')
theorem declares_of {Z : State} {a0 : Array Value} {y : MethodName} {bytes : ByteArray} {maxL : Nat} {ret : Option FieldType} (w1 : (Jvm.Cond.instanceMethod y).before a0 Z = true) (w2 : (Jvm.Cond.code y bytes maxL ret).before a0 Z = true) : (Jvm.Cond.declares y).before a0 Z = true := by
  obtain ⟨m, meth, h1, h2, h3, h4⟩ := Cond.instanceMethod_spec w1
  obtain ⟨meth', c, g1, -, -, -, -, -, -, g2⟩ := Cond.code_spec h1 w2
  cases h2.symm.trans g1
  simp [Cond.before, Cond.holds, Cond.value, h1, h2, h3, g2]
theorem same_of {Z : State} {a0 : Array Value} {y y' : MethodName} {K : String} (w1 : (Jvm.Cond.declares y).before a0 Z = true) (w2 : (Jvm.Cond.selects K y' y').before a0 Z = true) (hc : y'.cls = y.cls) (hy : y.cls ≠ "java/lang/invoke/MethodHandle" ∧ y.cls ≠ "java/lang/invoke/VarHandle") : (Jvm.Cond.sameMethod y.cls y.cls y.name y.desc).before a0 Z = true := by
  obtain ⟨m, meth, h1, h2, h3, h4⟩ := Cond.declares_spec w1
  obtain ⟨c2, r2, m2, q1, q2, q3, q4, kP, hkP, hkPi⟩ := Cond.selects_spec w2
  have f1 := findClass_of_methodNamed h1
  have f2 := findClass_of_methodNamed q3
  rw [hc] at f2
  have e := Option.some.inj (f1.symm.trans f2)
  have hf := State.methodFound?_of_named h1 hy
  have h1' : Z.methodNamed? ⟨y.cls, y.name, y.desc⟩ = some m := h1
  simp [Cond.before, Cond.holds, Cond.value, f1, hf, h1', e, hkP, hkPi]
/-- super.m(..): y is declared by the superclass -/
theorem callU (W : Here G X M vm T h C S) {y y' : MethodName} {K' : String} {idx : Nat} {cl : String} {bytes : ByteArray} {maxL : Nat} {ret : Option FieldType} (w1 : (Jvm.Cond.methodLink M.y.cls idx y).before G.a0 G.Z = true) (w2 : (Jvm.Cond.declares y).before G.a0 G.Z = true) (w3 : (Jvm.Cond.selects K' y' y').before G.a0 G.Z = true) (hc0 : y'.cls = y.cls) (w4 : (Jvm.Cond.instanceMethod y).before G.a0 G.Z = true) (w5 : (Jvm.Cond.superclass M.y.cls y.cls).before G.a0 G.Z = true) (w6 : (Jvm.Cond.code y bytes maxL ret).before G.a0 G.Z = true) (hn : y.name ≠ "<init>")
    (hy : y.cls ≠ "java/lang/invoke/MethodHandle" ∧ y.cls ≠ "java/lang/invoke/VarHandle") {wd kc ks : Nat} {a : Addr} {argsL rest : List Value} {Qy : Option Value → Heap → Prop} (P : Pay G X M vm h y 3 wd (.ref a :: argsL).toArray kc ks Qy) (E : Exa G.Z h a cl) (hsz : Ls.size = M.maxL) (hlen : ∀ sig, parseMethodDescriptor y.desc = some sig → argsL.length = sig.parameters.length)
    (hstk : st = argsL.reverse ++ .ref a :: rest) (hwd : (rest.map fun v => v.category).sum ≤ wd) (hd : decode M.bytes pc = .ok (.invokespecial idx, 3)) (pc' : Nat) (hp : pc + 3 = pc') (C' S' : Nat) (hc : C + kc ≤ C') (hs : S + ks ≤ S') (hc' : C' ≤ M.R.cells) (hs' : S' ≤ M.R.slots)
    (k : ∀ (vm' : Vm) (T' : State) (h' : Heap) (v : Option Value), Here G X M vm' T' h' C' S' → CHr G.Z G.EL vm h vm' h' → Qy v h' → Go G X M Q T' pc' Ls (v.toList ++ rest)) : Go G X M Q T pc Ls st := by
  subst hp hstk
  obtain ⟨F, k0, locs, cells, slots, X1, e1, hS, hk, hZ, hown, hCH, hF, O, c1, s1⟩ := id W
  subst e1
  obtain ⟨v, vm₁, B, -, X', h2, hg, ⟨L, hq⟩, st'⟩ := RoadKit.superBackS X1 W.x (Z := G.Z) (a0 := G.a0) hZ (y := y) hown w1 (same_of w2 w3 hc0 hy) w4 w5 hn P rfl (Ins.self E) (g := mkF X.m pc Ls (argsL.reverse ++ .ref a :: rest)) rfl (hsz.trans F.2.2.1.symm) w6 (argsL := argsL) (rest := rest) hlen rfl (by show 2 * 0 + _ ≤ _; omega) (W.d hd) (fun _ _ => ⟨rfl, rfl, by show cells + kc ≤ _; omega, by show slots + ks ≤ _; omega⟩)
  exact Go.stp (fun t r => st'.trans r) (k B.U.vm B.U B.U.heap v (Here.call W hc hs hS hk hown hCH hF c1 s1 X' h2 hg hq) hq.2.2.2.2 hq.1.1)
end SB
theorem notFace_via {args : Array Value} {s : State} {K : String} {y y' : MethodName} (hsel : (Jvm.Cond.selects K y' y').before args s = true) (hc : y'.cls = y.cls) : NotFace s y := fun r0 h0 => by
  obtain ⟨c2, r2, m2, q1, q2, q3, q4, kP, hkP, hkPi⟩ := Cond.selects_spec hsel
  have f1 := findClass_of_methodNamed h0
  have f2 := findClass_of_methodNamed q3
  rw [hc] at f2
  have e := Option.some.inj (f1.symm.trans f2)
  exact ⟨kP, by rw [e]; exact hkP, hkPi⟩
theorem rangePre {ts : List Int32} {junk : List Value} (dv : Value) {n : Nat} (hn : n = ts.length) (k : Nat) (hk : k = 0) : bs ts = (List.range n).map fun i => (bs ts ++ junk).getD (k + i) dv := by
  subst hn hk
  apply List.ext_getElem (by simp [bs])
  intro i h1 h2
  rw [bs_len] at h1
  simp [List.getD_eq_getElem?_getD, List.getElem?_append, h1]
theorem cp_new {ts : List Int32} {vd : List Value} {n : Nat} (hn : n = ts.length) (d : Nat) (hd : d = 0) : ∀ i, i < n → (bs ts).getD i (Value.int 0) = (vd.take d ++ bs ts ++ vd.drop (d + n)).getD i (Value.int 0) := by
  subst hn hd
  intro i hi
  simp [List.getD_eq_getElem?_getD, List.getElem?_append, hi]
theorem ne_cap {a b : Nat} (h : a < b) (hb : b ≤ 4000) : ¬ Int32.ofNat a = Int32.ofNat b := fun q => by
  have := congrArg Int32.toInt q
  rw [natI (by omega), natI (by omega)] at this
  omega
theorem lt_cap {a b : Nat} (h : a < b) (hb : b ≤ 4000) : Int32.ofNat a < Int32.ofNat b := by
  rw [Int32.lt_iff_toInt_lt, natI (by omega), natI (by omega)]; omega
theorem cp_app {ts cs : List Int32} {junk : List Value} (hc : ts.length ≤ 4000) (hd : cs.length ≤ 4000) : (bs ts ++ junk).take (Int32.ofNat ts.length).toNatClampNeg ++ bs cs ++ (bs ts ++ junk).drop ((Int32.ofNat ts.length).toNatClampNeg + (Int32.ofNat cs.length).toNatClampNeg) = bs (ts ++ cs) ++ junk.drop cs.length := by
  rw [clampN hc, clampN hd, bs_app, List.take_left' (bs_len ts), List.drop_append, bs_len, List.drop_eq_nil_of_le (by rw [bs_len]; omega)]
  simp
end Own
end Jvm.Pilot.@@N@@
namespace Jvm.Pilot.@@N@@
open Jvm Jvm.ClassFile Sem Op Lib Jvm.Free Jvm.Stand Jvm.LawKit Jvm.RoadKit Bundle Jvm.Pilot.@@N@@.Jvm.D
theorem tw {G : Own.Gl} (hw : ∀ d ∈ tables_1, d.before G.a0 G.Z = true) (i : Nat) {d : Jvm.Cond} (h : tables_1[i]? = some d) : d.before G.a0 G.Z = true := hw d (List.mem_of_getElem? h)
theorem wS_in : ∀ d ∈ Own.wordsS, d ∈ tables_1 := by decide +kernel
theorem wS {G : Own.Gl} (hw : ∀ d ∈ tables_1, d.before G.a0 G.Z = true) : ∀ d ∈ Own.wordsS, d.before G.a0 G.Z = true := fun d hd => hw d (wS_in d hd)
theorem wL_in : ∀ d ∈ StrChars.Road.wordsLen, d ∈ tables_1 := by decide +kernel
theorem wL {G : Own.Gl} (hw : ∀ d ∈ tables_1, d.before G.a0 G.Z = true) : ∀ d ∈ StrChars.Road.wordsLen, d.before G.a0 G.Z = true := fun d hd => hw d (wL_in d hd)
theorem wC_in : ∀ d ∈ StrChars.Road.wordsChN, d ∈ tables_1 := by decide +kernel
theorem wC {G : Own.Gl} (hw : ∀ d ∈ tables_1, d.before G.a0 G.Z = true) : ∀ d ∈ StrChars.Road.wordsChN, d.before G.a0 G.Z = true := fun d hd => hw d (wC_in d hd)
theorem d7_0 : decode prog_19_method_1_code 0 = .ok (.aload_n 0, 1) := by decide +kernel
theorem d7_1 : decode prog_19_method_1_code 1 = .ok (.invokespecial 1, 3) := by decide +kernel
theorem d7_4 : decode prog_19_method_1_code 4 = .ok (.aload_n 0, 1) := by decide +kernel
theorem d7_5 : decode prog_19_method_1_code 5 = .ok (.aload_n 1, 1) := by decide +kernel
theorem d7_6 : decode prog_19_method_1_code 6 = .ok (.putfield 7, 3) := by decide +kernel
theorem d7_9 : decode prog_19_method_1_code 9 = .ok (.aload_n 0, 1) := by decide +kernel
theorem d7_10 : decode prog_19_method_1_code 10 = .ok (.iload_n 2, 1) := by decide +kernel
theorem d7_11 : decode prog_19_method_1_code 11 = .ok (.putfield 13, 3) := by decide +kernel
theorem d7_14 : decode prog_19_method_1_code 14 = .ok (.aload_n 0, 1) := by decide +kernel
theorem d7_15 : decode prog_19_method_1_code 15 = .ok (.lload_n 3, 1) := by decide +kernel
theorem d7_16 : decode prog_19_method_1_code 16 = .ok (.putfield 17, 3) := by decide +kernel
theorem d7_19 : decode prog_19_method_1_code 19 = .ok (.return_, 1) := by decide +kernel
theorem d8_0 : decode jdk_30_method_1_code 0 = .ok (.aload_n 0, 1) := by decide +kernel
theorem d8_1 : decode jdk_30_method_1_code 1 = .ok (.invokespecial 1, 3) := by decide +kernel
theorem d8_4 : decode jdk_30_method_1_code 4 = .ok (.return_, 1) := by decide +kernel
theorem d9_0 : decode prog_19_method_4_code 0 = .ok (.new 27, 3) := by decide +kernel
theorem d9_3 : decode prog_19_method_4_code 3 = .ok (.dup, 1) := by decide +kernel
theorem d9_4 : decode prog_19_method_4_code 4 = .ok (.invokespecial 29, 3) := by decide +kernel
theorem d9_7 : decode prog_19_method_4_code 7 = .ok (.aload_n 0, 1) := by decide +kernel
theorem d9_8 : decode prog_19_method_4_code 8 = .ok (.getfield 13, 3) := by decide +kernel
theorem d9_11 : decode prog_19_method_4_code 11 = .ok (.ifCond .eq 8, 3) := by decide +kernel
theorem d9_14 : decode prog_19_method_4_code 14 = .ok (.ldc 30, 2) := by decide +kernel
theorem d9_16 : decode prog_19_method_4_code 16 = .ok (.goto 5, 3) := by decide +kernel
theorem d9_19 : decode prog_19_method_4_code 19 = .ok (.ldc 32, 2) := by decide +kernel
theorem d9_21 : decode prog_19_method_4_code 21 = .ok (.invokevirtual 34, 3) := by decide +kernel
theorem d9_24 : decode prog_19_method_4_code 24 = .ok (.aload_n 0, 1) := by decide +kernel
theorem d9_25 : decode prog_19_method_4_code 25 = .ok (.getfield 7, 3) := by decide +kernel
theorem d9_28 : decode prog_19_method_4_code 28 = .ok (.invokevirtual 34, 3) := by decide +kernel
theorem d9_31 : decode prog_19_method_4_code 31 = .ok (.ldc 38, 2) := by decide +kernel
theorem d9_33 : decode prog_19_method_4_code 33 = .ok (.invokevirtual 34, 3) := by decide +kernel
theorem d9_36 : decode prog_19_method_4_code 36 = .ok (.invokevirtual 40, 3) := by decide +kernel
theorem d9_39 : decode prog_19_method_4_code 39 = .ok (.areturn, 1) := by decide +kernel
theorem d10_0 : decode jdk_67_method_1_code 0 = .ok (.aload_n 0, 1) := by decide +kernel
theorem d10_1 : decode jdk_67_method_1_code 1 = .ok (.bipush 16, 2) := by decide +kernel
theorem d10_3 : decode jdk_67_method_1_code 3 = .ok (.invokespecial 1, 3) := by decide +kernel
theorem d10_6 : decode jdk_67_method_1_code 6 = .ok (.return_, 1) := by decide +kernel
theorem d11_0 : decode jdk_68_method_2_code 0 = .ok (.aload_n 0, 1) := by decide +kernel
theorem d11_1 : decode jdk_68_method_2_code 1 = .ok (.invokespecial 3, 3) := by decide +kernel
theorem d11_4 : decode jdk_68_method_2_code 4 = .ok (.getstatic 18, 3) := by decide +kernel
theorem d11_7 : decode jdk_68_method_2_code 7 = .ok (.ifCond .eq 18, 3) := by decide +kernel
theorem d11_10 : decode jdk_68_method_2_code 10 = .ok (.aload_n 0, 1) := by decide +kernel
theorem d11_11 : decode jdk_68_method_2_code 11 = .ok (.iload_n 1, 1) := by decide +kernel
theorem d11_12 : decode jdk_68_method_2_code 12 = .ok (.newarray .byte, 2) := by decide +kernel
theorem d11_14 : decode jdk_68_method_2_code 14 = .ok (.putfield 15, 3) := by decide +kernel
theorem d11_17 : decode jdk_68_method_2_code 17 = .ok (.aload_n 0, 1) := by decide +kernel
theorem d11_18 : decode jdk_68_method_2_code 18 = .ok (.iconst 0, 1) := by decide +kernel
theorem d11_19 : decode jdk_68_method_2_code 19 = .ok (.putfield 22, 3) := by decide +kernel
theorem d11_22 : decode jdk_68_method_2_code 22 = .ok (.goto 16, 3) := by decide +kernel
theorem d11_38 : decode jdk_68_method_2_code 38 = .ok (.return_, 1) := by decide +kernel
theorem d12_0 : decode jdk_67_method_7_code 0 = .ok (.aload_n 0, 1) := by decide +kernel
theorem d12_1 : decode jdk_67_method_7_code 1 = .ok (.aload_n 1, 1) := by decide +kernel
theorem d12_2 : decode jdk_67_method_7_code 2 = .ok (.invokespecial 29, 3) := by decide +kernel
theorem d12_5 : decode jdk_67_method_7_code 5 = .ok (.pop, 1) := by decide +kernel
theorem d12_6 : decode jdk_67_method_7_code 6 = .ok (.aload_n 0, 1) := by decide +kernel
theorem d12_7 : decode jdk_67_method_7_code 7 = .ok (.areturn, 1) := by decide +kernel
theorem d13_0 : decode jdk_68_method_22_code 0 = .ok (.aload_n 1, 1) := by decide +kernel
theorem d13_1 : decode jdk_68_method_22_code 1 = .ok (.ifnonnull 8, 3) := by decide +kernel
theorem d13_9 : decode jdk_68_method_22_code 9 = .ok (.aload_n 1, 1) := by decide +kernel
theorem d13_10 : decode jdk_68_method_22_code 10 = .ok (.invokevirtual 32, 3) := by decide +kernel
theorem d13_13 : decode jdk_68_method_22_code 13 = .ok (.istore_n 2, 1) := by decide +kernel
theorem d13_14 : decode jdk_68_method_22_code 14 = .ok (.aload_n 0, 1) := by decide +kernel
theorem d13_15 : decode jdk_68_method_22_code 15 = .ok (.aload_n 0, 1) := by decide +kernel
theorem d13_16 : decode jdk_68_method_22_code 16 = .ok (.getfield 79, 3) := by decide +kernel
theorem d13_19 : decode jdk_68_method_22_code 19 = .ok (.iload_n 2, 1) := by decide +kernel
theorem d13_20 : decode jdk_68_method_22_code 20 = .ok (.iadd, 1) := by decide +kernel
theorem d13_21 : decode jdk_68_method_22_code 21 = .ok (.invokevirtual 100, 3) := by decide +kernel
theorem d13_24 : decode jdk_68_method_22_code 24 = .ok (.aload_n 0, 1) := by decide +kernel
theorem d13_25 : decode jdk_68_method_22_code 25 = .ok (.aload_n 0, 1) := by decide +kernel
theorem d13_26 : decode jdk_68_method_22_code 26 = .ok (.getfield 79, 3) := by decide +kernel
theorem d13_29 : decode jdk_68_method_22_code 29 = .ok (.aload_n 1, 1) := by decide +kernel
theorem d13_30 : decode jdk_68_method_22_code 30 = .ok (.invokevirtual 208, 3) := by decide +kernel
theorem d13_33 : decode jdk_68_method_22_code 33 = .ok (.aload_n 0, 1) := by decide +kernel
theorem d13_34 : decode jdk_68_method_22_code 34 = .ok (.dup, 1) := by decide +kernel
theorem d13_35 : decode jdk_68_method_22_code 35 = .ok (.getfield 79, 3) := by decide +kernel
theorem d13_38 : decode jdk_68_method_22_code 38 = .ok (.iload_n 2, 1) := by decide +kernel
theorem d13_39 : decode jdk_68_method_22_code 39 = .ok (.iadd, 1) := by decide +kernel
theorem d13_40 : decode jdk_68_method_22_code 40 = .ok (.putfield 79, 3) := by decide +kernel
theorem d13_43 : decode jdk_68_method_22_code 43 = .ok (.aload_n 0, 1) := by decide +kernel
theorem d13_44 : decode jdk_68_method_22_code 44 = .ok (.areturn, 1) := by decide +kernel
theorem d15_0 : decode jdk_42_method_152_code 0 = .ok (.getstatic 38, 3) := by decide +kernel
theorem d15_3 : decode jdk_42_method_152_code 3 = .ok (.ifCond .eq 10, 3) := by decide +kernel
theorem d15_6 : decode jdk_42_method_152_code 6 = .ok (.aload_n 0, 1) := by decide +kernel
theorem d15_7 : decode jdk_42_method_152_code 7 = .ok (.getfield 15, 3) := by decide +kernel
theorem d15_10 : decode jdk_42_method_152_code 10 = .ok (.goto 4, 3) := by decide +kernel
theorem d15_14 : decode jdk_42_method_152_code 14 = .ok (.ireturn, 1) := by decide +kernel
theorem d16_0 : decode jdk_68_method_9_code 0 = .ok (.aload_n 0, 1) := by decide +kernel
theorem d16_1 : decode jdk_68_method_9_code 1 = .ok (.getfield 15, 3) := by decide +kernel
theorem d16_4 : decode jdk_68_method_9_code 4 = .ok (.arraylength, 1) := by decide +kernel
theorem d16_5 : decode jdk_68_method_9_code 5 = .ok (.aload_n 0, 1) := by decide +kernel
theorem d16_6 : decode jdk_68_method_9_code 6 = .ok (.getfield 22, 3) := by decide +kernel
theorem d16_9 : decode jdk_68_method_9_code 9 = .ok (.ishr, 1) := by decide +kernel
theorem d16_10 : decode jdk_68_method_9_code 10 = .ok (.istore_n 2, 1) := by decide +kernel
theorem d16_11 : decode jdk_68_method_9_code 11 = .ok (.iload_n 1, 1) := by decide +kernel
theorem d16_12 : decode jdk_68_method_9_code 12 = .ok (.iload_n 2, 1) := by decide +kernel
theorem d16_13 : decode jdk_68_method_9_code 13 = .ok (.isub, 1) := by decide +kernel
theorem d16_14 : decode jdk_68_method_9_code 14 = .ok (.ifCond .le 24, 3) := by decide +kernel
theorem d16_38 : decode jdk_68_method_9_code 38 = .ok (.return_, 1) := by decide +kernel
theorem d17_0 : decode jdk_68_method_73_code 0 = .ok (.aload_n 0, 1) := by decide +kernel
theorem d17_1 : decode jdk_68_method_73_code 1 = .ok (.aload_n 2, 1) := by decide +kernel
theorem d17_2 : decode jdk_68_method_73_code 2 = .ok (.invokevirtual 397, 3) := by decide +kernel
theorem d17_5 : decode jdk_68_method_73_code 5 = .ok (.aload_n 2, 1) := by decide +kernel
theorem d17_6 : decode jdk_68_method_73_code 6 = .ok (.aload_n 0, 1) := by decide +kernel
theorem d17_7 : decode jdk_68_method_73_code 7 = .ok (.getfield 15, 3) := by decide +kernel
theorem d17_10 : decode jdk_68_method_73_code 10 = .ok (.iload_n 1, 1) := by decide +kernel
theorem d17_11 : decode jdk_68_method_73_code 11 = .ok (.aload_n 0, 1) := by decide +kernel
theorem d17_12 : decode jdk_68_method_73_code 12 = .ok (.getfield 22, 3) := by decide +kernel
theorem d17_15 : decode jdk_68_method_73_code 15 = .ok (.invokevirtual 399, 3) := by decide +kernel
theorem d17_18 : decode jdk_68_method_73_code 18 = .ok (.return_, 1) := by decide +kernel
theorem d18_0 : decode jdk_68_method_71_code 0 = .ok (.getstatic 18, 3) := by decide +kernel
theorem d18_3 : decode jdk_68_method_71_code 3 = .ok (.ifCond .eq 18, 3) := by decide +kernel
theorem d18_6 : decode jdk_68_method_71_code 6 = .ok (.aload_n 0, 1) := by decide +kernel
theorem d18_7 : decode jdk_68_method_71_code 7 = .ok (.getfield 22, 3) := by decide +kernel
theorem d18_10 : decode jdk_68_method_71_code 10 = .ok (.aload_n 1, 1) := by decide +kernel
theorem d18_11 : decode jdk_68_method_71_code 11 = .ok (.invokevirtual 40, 3) := by decide +kernel
theorem d18_14 : decode jdk_68_method_71_code 14 = .ok (.if_icmp .eq 7, 3) := by decide +kernel
theorem d18_21 : decode jdk_68_method_71_code 21 = .ok (.return_, 1) := by decide +kernel
theorem d19_0 : decode jdk_42_method_147_code 0 = .ok (.aload_n 0, 1) := by decide +kernel
theorem d19_1 : decode jdk_42_method_147_code 1 = .ok (.invokevirtual 335, 3) := by decide +kernel
theorem d19_4 : decode jdk_42_method_147_code 4 = .ok (.iload_n 3, 1) := by decide +kernel
theorem d19_5 : decode jdk_42_method_147_code 5 = .ok (.if_icmp .ne 23, 3) := by decide +kernel
theorem d19_8 : decode jdk_42_method_147_code 8 = .ok (.aload_n 0, 1) := by decide +kernel
theorem d19_9 : decode jdk_42_method_147_code 9 = .ok (.getfield 9, 3) := by decide +kernel
theorem d19_12 : decode jdk_42_method_147_code 12 = .ok (.iconst 0, 1) := by decide +kernel
theorem d19_13 : decode jdk_42_method_147_code 13 = .ok (.aload_n 1, 1) := by decide +kernel
theorem d19_14 : decode jdk_42_method_147_code 14 = .ok (.iload_n 2, 1) := by decide +kernel
theorem d19_15 : decode jdk_42_method_147_code 15 = .ok (.iload_n 3, 1) := by decide +kernel
theorem d19_16 : decode jdk_42_method_147_code 16 = .ok (.ishl, 1) := by decide +kernel
theorem d19_17 : decode jdk_42_method_147_code 17 = .ok (.aload_n 0, 1) := by decide +kernel
theorem d19_18 : decode jdk_42_method_147_code 18 = .ok (.getfield 9, 3) := by decide +kernel
theorem d19_21 : decode jdk_42_method_147_code 21 = .ok (.arraylength, 1) := by decide +kernel
theorem d19_22 : decode jdk_42_method_147_code 22 = .ok (.invokestatic 212, 3) := by decide +kernel
theorem d19_25 : decode jdk_42_method_147_code 25 = .ok (.goto 18, 3) := by decide +kernel
theorem d19_43 : decode jdk_42_method_147_code 43 = .ok (.return_, 1) := by decide +kernel
theorem d20_0 : decode jdk_67_method_42_code 0 = .ok (.new 18, 3) := by decide +kernel
theorem d20_3 : decode jdk_67_method_42_code 3 = .ok (.dup, 1) := by decide +kernel
theorem d20_4 : decode jdk_67_method_42_code 4 = .ok (.aload_n 0, 1) := by decide +kernel
theorem d20_5 : decode jdk_67_method_42_code 5 = .ok (.invokespecial 137, 3) := by decide +kernel
theorem d20_8 : decode jdk_67_method_42_code 8 = .ok (.areturn, 1) := by decide +kernel
theorem d21_0 : decode jdk_42_method_53_code 0 = .ok (.aload_n 0, 1) := by decide +kernel
theorem d21_1 : decode jdk_42_method_53_code 1 = .ok (.aload_n 1, 1) := by decide +kernel
theorem d21_2 : decode jdk_42_method_53_code 2 = .ok (.aconst_null, 1) := by decide +kernel
theorem d21_3 : decode jdk_42_method_53_code 3 = .ok (.invokespecial 489, 3) := by decide +kernel
theorem d21_6 : decode jdk_42_method_53_code 6 = .ok (.return_, 1) := by decide +kernel
theorem d22_0 : decode jdk_42_method_150_code 0 = .ok (.aload_n 0, 1) := by decide +kernel
theorem d22_1 : decode jdk_42_method_150_code 1 = .ok (.invokespecial 1, 3) := by decide +kernel
theorem d22_4 : decode jdk_42_method_150_code 4 = .ok (.aload_n 1, 1) := by decide +kernel
theorem d22_5 : decode jdk_42_method_150_code 5 = .ok (.invokevirtual 552, 3) := by decide +kernel
theorem d22_8 : decode jdk_42_method_150_code 8 = .ok (.astore_n 3, 1) := by decide +kernel
theorem d22_9 : decode jdk_42_method_150_code 9 = .ok (.aload_n 1, 1) := by decide +kernel
theorem d22_10 : decode jdk_42_method_150_code 10 = .ok (.invokevirtual 549, 3) := by decide +kernel
theorem d22_13 : decode jdk_42_method_150_code 13 = .ok (.istore 4, 2) := by decide +kernel
theorem d22_15 : decode jdk_42_method_150_code 15 = .ok (.aload_n 1, 1) := by decide +kernel
theorem d22_16 : decode jdk_42_method_150_code 16 = .ok (.invokevirtual 1047, 3) := by decide +kernel
theorem d22_19 : decode jdk_42_method_150_code 19 = .ok (.ifCond .eq 22, 3) := by decide +kernel
theorem d22_22 : decode jdk_42_method_150_code 22 = .ok (.aload_n 0, 1) := by decide +kernel
theorem d22_23 : decode jdk_42_method_150_code 23 = .ok (.iconst 0, 1) := by decide +kernel
theorem d22_24 : decode jdk_42_method_150_code 24 = .ok (.putfield 15, 3) := by decide +kernel
theorem d22_27 : decode jdk_42_method_150_code 27 = .ok (.aload_n 0, 1) := by decide +kernel
theorem d22_28 : decode jdk_42_method_150_code 28 = .ok (.aload_n 3, 1) := by decide +kernel
theorem d22_29 : decode jdk_42_method_150_code 29 = .ok (.iconst 0, 1) := by decide +kernel
theorem d22_30 : decode jdk_42_method_150_code 30 = .ok (.iload 4, 2) := by decide +kernel
theorem d22_32 : decode jdk_42_method_150_code 32 = .ok (.invokestatic 54, 3) := by decide +kernel
theorem d22_35 : decode jdk_42_method_150_code 35 = .ok (.putfield 9, 3) := by decide +kernel
theorem d22_38 : decode jdk_42_method_150_code 38 = .ok (.goto 59, 3) := by decide +kernel
theorem d22_97 : decode jdk_42_method_150_code 97 = .ok (.return_, 1) := by decide +kernel
theorem d23_0 : decode jdk_68_method_64_code 0 = .ok (.aload_n 0, 1) := by decide +kernel
theorem d23_1 : decode jdk_68_method_64_code 1 = .ok (.getfield 15, 3) := by decide +kernel
theorem d23_4 : decode jdk_68_method_64_code 4 = .ok (.areturn, 1) := by decide +kernel
theorem d24_0 : decode jdk_67_method_93_code 0 = .ok (.aload_n 0, 1) := by decide +kernel
theorem d24_1 : decode jdk_67_method_93_code 1 = .ok (.invokespecial 343, 3) := by decide +kernel
theorem d24_4 : decode jdk_67_method_93_code 4 = .ok (.ireturn, 1) := by decide +kernel
theorem d25_0 : decode jdk_68_method_6_code 0 = .ok (.aload_n 0, 1) := by decide +kernel
theorem d25_1 : decode jdk_68_method_6_code 1 = .ok (.getfield 79, 3) := by decide +kernel
theorem d25_4 : decode jdk_68_method_6_code 4 = .ok (.ireturn, 1) := by decide +kernel
theorem d26_0 : decode jdk_68_method_68_code 0 = .ok (.getstatic 18, 3) := by decide +kernel
theorem d26_3 : decode jdk_68_method_68_code 3 = .ok (.ifCond .eq 14, 3) := by decide +kernel
theorem d26_6 : decode jdk_68_method_68_code 6 = .ok (.aload_n 0, 1) := by decide +kernel
theorem d26_7 : decode jdk_68_method_68_code 7 = .ok (.getfield 22, 3) := by decide +kernel
theorem d26_10 : decode jdk_68_method_68_code 10 = .ok (.ifCond .ne 7, 3) := by decide +kernel
theorem d26_13 : decode jdk_68_method_68_code 13 = .ok (.iconst 1, 1) := by decide +kernel
theorem d26_14 : decode jdk_68_method_68_code 14 = .ok (.goto 4, 3) := by decide +kernel
theorem d26_18 : decode jdk_68_method_68_code 18 = .ok (.ireturn, 1) := by decide +kernel
theorem d27_0 : decode jdk_65_method_132_code 0 = .ok (.iload_n 1, 1) := by decide +kernel
theorem d27_1 : decode jdk_65_method_132_code 1 = .ok (.ifCond .ne 9, 3) := by decide +kernel
theorem d27_4 : decode jdk_65_method_132_code 4 = .ok (.iload_n 2, 1) := by decide +kernel
theorem d27_5 : decode jdk_65_method_132_code 5 = .ok (.aload_n 0, 1) := by decide +kernel
theorem d27_6 : decode jdk_65_method_132_code 6 = .ok (.arraylength, 1) := by decide +kernel
theorem d27_7 : decode jdk_65_method_132_code 7 = .ok (.if_icmp .eq 10, 3) := by decide +kernel
theorem d27_10 : decode jdk_65_method_132_code 10 = .ok (.aload_n 0, 1) := by decide +kernel
theorem d27_11 : decode jdk_65_method_132_code 11 = .ok (.iload_n 1, 1) := by decide +kernel
theorem d27_12 : decode jdk_65_method_132_code 12 = .ok (.iload_n 2, 1) := by decide +kernel
theorem d27_13 : decode jdk_65_method_132_code 13 = .ok (.invokestatic 339, 3) := by decide +kernel
theorem d27_16 : decode jdk_65_method_132_code 16 = .ok (.areturn, 1) := by decide +kernel
theorem d28_0 : decode jdk_65_method_133_code 0 = .ok (.iload_n 1, 1) := by decide +kernel
theorem d28_1 : decode jdk_65_method_133_code 1 = .ok (.iload_n 2, 1) := by decide +kernel
theorem d28_2 : decode jdk_65_method_133_code 2 = .ok (.invokestatic 343, 3) := by decide +kernel
theorem d28_5 : decode jdk_65_method_133_code 5 = .ok (.iload_n 2, 1) := by decide +kernel
theorem d28_6 : decode jdk_65_method_133_code 6 = .ok (.iload_n 1, 1) := by decide +kernel
theorem d28_7 : decode jdk_65_method_133_code 7 = .ok (.isub, 1) := by decide +kernel
theorem d28_8 : decode jdk_65_method_133_code 8 = .ok (.istore_n 3, 1) := by decide +kernel
theorem d28_9 : decode jdk_65_method_133_code 9 = .ok (.iload_n 3, 1) := by decide +kernel
theorem d28_10 : decode jdk_65_method_133_code 10 = .ok (.newarray .byte, 2) := by decide +kernel
theorem d28_12 : decode jdk_65_method_133_code 12 = .ok (.astore 4, 2) := by decide +kernel
theorem d28_14 : decode jdk_65_method_133_code 14 = .ok (.aload_n 0, 1) := by decide +kernel
theorem d28_15 : decode jdk_65_method_133_code 15 = .ok (.iload_n 1, 1) := by decide +kernel
theorem d28_16 : decode jdk_65_method_133_code 16 = .ok (.aload 4, 2) := by decide +kernel
theorem d28_18 : decode jdk_65_method_133_code 18 = .ok (.iconst 0, 1) := by decide +kernel
theorem d28_19 : decode jdk_65_method_133_code 19 = .ok (.aload_n 0, 1) := by decide +kernel
theorem d28_20 : decode jdk_65_method_133_code 20 = .ok (.arraylength, 1) := by decide +kernel
theorem d28_21 : decode jdk_65_method_133_code 21 = .ok (.iload_n 1, 1) := by decide +kernel
theorem d28_22 : decode jdk_65_method_133_code 22 = .ok (.isub, 1) := by decide +kernel
theorem d28_23 : decode jdk_65_method_133_code 23 = .ok (.iload_n 3, 1) := by decide +kernel
theorem d28_24 : decode jdk_65_method_133_code 24 = .ok (.invokestatic 304, 3) := by decide +kernel
theorem d28_27 : decode jdk_65_method_133_code 27 = .ok (.invokestatic 150, 3) := by decide +kernel
theorem d28_30 : decode jdk_65_method_133_code 30 = .ok (.aload 4, 2) := by decide +kernel
theorem d28_32 : decode jdk_65_method_133_code 32 = .ok (.areturn, 1) := by decide +kernel
theorem d29_0 : decode jdk_65_method_131_code 0 = .ok (.iload_n 1, 1) := by decide +kernel
theorem d29_1 : decode jdk_65_method_131_code 1 = .ok (.iload_n 0, 1) := by decide +kernel
theorem d29_2 : decode jdk_65_method_131_code 2 = .ok (.if_icmp .ge 35, 3) := by decide +kernel
theorem d29_37 : decode jdk_65_method_131_code 37 = .ok (.return_, 1) := by decide +kernel
theorem d30_0 : decode jdk_29_method_69_code 0 = .ok (.iload_n 0, 1) := by decide +kernel
theorem d30_1 : decode jdk_29_method_69_code 1 = .ok (.iload_n 1, 1) := by decide +kernel
theorem d30_2 : decode jdk_29_method_69_code 2 = .ok (.if_icmp .gt 7, 3) := by decide +kernel
theorem d30_9 : decode jdk_29_method_69_code 9 = .ok (.iload_n 1, 1) := by decide +kernel
theorem d30_10 : decode jdk_29_method_69_code 10 = .ok (.ireturn, 1) := by decide +kernel
theorem pd_0 : parseMethodDescriptor "(I)V" = some ⟨[.int], none⟩ := by decide +kernel
theorem pd_1 : parseMethodDescriptor "()B" = some ⟨[], some .byte⟩ := by decide +kernel
theorem pd_2 : parseMethodDescriptor "(Ljava/lang/String;)V" = some ⟨[(.object "java/lang/String")], none⟩ := by decide +kernel
theorem pd_3 : parseMethodDescriptor "([BIB)V" = some ⟨[(.array .byte), .int, .byte], none⟩ := by decide +kernel
theorem pd_4 : parseMethodDescriptor "()I" = some ⟨[], some .int⟩ := by decide +kernel
theorem pd_5 : parseMethodDescriptor "(ILjava/lang/String;)V" = some ⟨[.int, (.object "java/lang/String")], none⟩ := by decide +kernel
theorem pd_6 : parseMethodDescriptor "(Ljava/lang/String;)Ljava/lang/AbstractStringBuilder;" = some ⟨[(.object "java/lang/String")], some (.object "java/lang/AbstractStringBuilder")⟩ := by decide +kernel
theorem pd_7 : parseMethodDescriptor "(II)V" = some ⟨[.int, .int], none⟩ := by decide +kernel
theorem pd_8 : parseMethodDescriptor "(II)I" = some ⟨[.int, .int], some .int⟩ := by decide +kernel
theorem pd_9 : parseMethodDescriptor "([BII)[B" = some ⟨[(.array .byte), .int, .int], some (.array .byte)⟩ := by decide +kernel
theorem pd_10 : parseMethodDescriptor "()[B" = some ⟨[], some (.array .byte)⟩ := by decide +kernel
theorem pd_11 : parseMethodDescriptor "()Z" = some ⟨[], some .boolean⟩ := by decide +kernel
theorem pd_12 : parseMethodDescriptor "(Ljava/lang/AbstractStringBuilder;Ljava/lang/Void;)V" = some ⟨[(.object "java/lang/AbstractStringBuilder"), (.object "java/lang/Void")], none⟩ := by decide +kernel
theorem pd_13 : parseMethodDescriptor "(Ljava/lang/StringBuilder;)V" = some ⟨[(.object "java/lang/StringBuilder")], none⟩ := by decide +kernel
theorem pd_14 : parseMethodDescriptor "()V" = some ⟨[], none⟩ := by decide +kernel
theorem pd_15 : parseMethodDescriptor "(Ljava/lang/String;)Ljava/lang/StringBuilder;" = some ⟨[(.object "java/lang/String")], some (.object "java/lang/StringBuilder")⟩ := by decide +kernel
theorem pd_16 : parseMethodDescriptor "()Ljava/lang/String;" = some ⟨[], some (.object "java/lang/String")⟩ := by decide +kernel
theorem pd_17 : parseMethodDescriptor "([C)V" = some ⟨[(.array .char)], none⟩ := by decide +kernel
theorem pd_18 : parseMethodDescriptor "(Ljava/lang/String;ZJ)V" = some ⟨[(.object "java/lang/String"), .boolean, .long], none⟩ := by decide +kernel
theorem pd_19 : parseMethodDescriptor "(I)C" = some ⟨[.int], some .char⟩ := by decide +kernel
theorem pn_0 : plainName "java/lang/AbstractStringBuilder" = true := by first | (simp [plainName, overriddenIn]; done) | decide +kernel
theorem pn_1 : plainName "java/lang/StringBuilder" = true := by first | (simp [plainName, overriddenIn]; done) | decide +kernel
theorem pn_2 : plainName "java/lang/String" = true := by first | (simp [plainName, overriddenIn]; done) | decide +kernel
theorem pn_3 : plainName "java/util/Arrays" = true := by first | (simp [plainName, overriddenIn]; done) | decide +kernel
theorem pn_4 : plainName "java/lang/Record" = true := by first | (simp [plainName, overriddenIn]; done) | decide +kernel
theorem pn_5 : plainName "com/example/lopa/lopa/trec/SgmlScanner$Tag" = true := by first | (simp [plainName, overriddenIn]; done) | decide +kernel
theorem pn_6 : plainName "com/example/lopa/lopa/trec/TagToStringPinLaw" = true := by first | (simp [plainName, overriddenIn]; done) | decide +kernel
theorem ef_bAi (m : MethodId) (sb : Addr) (k : Int32) : entryFrame m #[(.ref sb), (.int k)] 2 = mkF m 0 #[.val (.ref sb), .val (.int k)] [] := by first | (simp [entryFrame, mkF, argsToLocals, Value.category]; done) | rfl
theorem ef_bSi (m : MethodId) (sb : Addr) : entryFrame m #[(.ref sb)] 1 = mkF m 0 #[.val (.ref sb)] [] := by first | (simp [entryFrame, mkF, argsToLocals, Value.category]; done) | rfl
theorem ef_bCdr (m : MethodId) (x : Addr) : entryFrame m #[(.ref x)] 1 = mkF m 0 #[.val (.ref x)] [] := by first | (simp [entryFrame, mkF, argsToLocals, Value.category]; done) | rfl
theorem ef_bEns (m : MethodId) (sb : Addr) (mn : Int32) : entryFrame m #[(.ref sb), (.int mn)] 3 = mkF m 0 #[.val (.ref sb), .val (.int mn), .unset] [] := by first | (simp [entryFrame, mkF, argsToLocals, Value.category]; done) | rfl
theorem ef_bInf (m : MethodId) (sb : Addr) (x : Addr) : entryFrame m #[(.ref sb), (.ref x)] 2 = mkF m 0 #[.val (.ref sb), .val (.ref x)] [] := by first | (simp [entryFrame, mkF, argsToLocals, Value.category]; done) | rfl
theorem ef_bGb (m : MethodId) (x : Addr) (b : Addr) (dp : Int32) (cd : Int32) : entryFrame m #[(.ref x), (.ref b), (.int dp), (.int cd)] 4 = mkF m 0 #[.val (.ref x), .val (.ref b), .val (.int dp), .val (.int cd)] [] := by first | (simp [entryFrame, mkF, argsToLocals, Value.category]; done) | rfl
theorem ef_bPsa (m : MethodId) (sb : Addr) (i : Int32) (x : Addr) : entryFrame m #[(.ref sb), (.int i), (.ref x)] 3 = mkF m 0 #[.val (.ref sb), .val (.int i), .val (.ref x)] [] := by first | (simp [entryFrame, mkF, argsToLocals, Value.category]; done) | rfl
theorem ef_bAap (m : MethodId) (sb : Addr) (x : Addr) : entryFrame m #[(.ref sb), (.ref x)] 3 = mkF m 0 #[.val (.ref sb), .val (.ref x), .unset] [] := by first | (simp [entryFrame, mkF, argsToLocals, Value.category]; done) | rfl
theorem ef_bApp (m : MethodId) (sb : Addr) (x : Addr) : entryFrame m #[(.ref sb), (.ref x)] 2 = mkF m 0 #[.val (.ref sb), .val (.ref x)] [] := by first | (simp [entryFrame, mkF, argsToLocals, Value.category]; done) | rfl
theorem ef_bGv (m : MethodId) (sb : Addr) : entryFrame m #[(.ref sb)] 1 = mkF m 0 #[.val (.ref sb)] [] := by first | (simp [entryFrame, mkF, argsToLocals, Value.category]; done) | rfl
theorem ef_bAsl (m : MethodId) (sb : Addr) : entryFrame m #[(.ref sb)] 1 = mkF m 0 #[.val (.ref sb)] [] := by first | (simp [entryFrame, mkF, argsToLocals, Value.category]; done) | rfl
theorem ef_bSbl (m : MethodId) (sb : Addr) : entryFrame m #[(.ref sb)] 1 = mkF m 0 #[.val (.ref sb)] [] := by first | (simp [entryFrame, mkF, argsToLocals, Value.category]; done) | rfl
theorem ef_bIl (m : MethodId) (sb : Addr) : entryFrame m #[(.ref sb)] 1 = mkF m 0 #[.val (.ref sb)] [] := by first | (simp [entryFrame, mkF, argsToLocals, Value.category]; done) | rfl
theorem ef_bChk (m : MethodId) (i : Int32) (j : Int32) : entryFrame m #[(.int i), (.int j)] 2 = mkF m 0 #[.val (.int i), .val (.int j)] [] := by first | (simp [entryFrame, mkF, argsToLocals, Value.category]; done) | rfl
theorem ef_bMin (m : MethodId) (i : Int32) (j : Int32) : entryFrame m #[(.int i), (.int j)] 2 = mkF m 0 #[.val (.int i), .val (.int j)] [] := by first | (simp [entryFrame, mkF, argsToLocals, Value.category]; done) | rfl
theorem ef_bCrb (m : MethodId) (a : Addr) (fr : Int32) (to : Int32) : entryFrame m #[(.ref a), (.int fr), (.int to)] 5 = mkF m 0 #[.val (.ref a), .val (.int fr), .val (.int to), .unset, .unset] [] := by first | (simp [entryFrame, mkF, argsToLocals, Value.category]; done) | rfl
theorem ef_bCor (m : MethodId) (a : Addr) (fr : Int32) (to : Int32) : entryFrame m #[(.ref a), (.int fr), (.int to)] 3 = mkF m 0 #[.val (.ref a), .val (.int fr), .val (.int to)] [] := by first | (simp [entryFrame, mkF, argsToLocals, Value.category]; done) | rfl
theorem ef_bN2 (m : MethodId) (x : Addr) (sb : Addr) : entryFrame m #[(.ref x), (.ref sb), .null] 5 = mkF m 0 #[.val (.ref x), .val (.ref sb), .val .null, .unset, .unset] [] := by first | (simp [entryFrame, mkF, argsToLocals, Value.category]; done) | rfl
theorem ef_bN1 (m : MethodId) (x : Addr) (sb : Addr) : entryFrame m #[(.ref x), (.ref sb)] 2 = mkF m 0 #[.val (.ref x), .val (.ref sb)] [] := by first | (simp [entryFrame, mkF, argsToLocals, Value.category]; done) | rfl
theorem ef_bTos (m : MethodId) (sb : Addr) : entryFrame m #[(.ref sb)] 1 = mkF m 0 #[.val (.ref sb)] [] := by first | (simp [entryFrame, mkF, argsToLocals, Value.category]; done) | rfl
theorem ef_bRec (m : MethodId) (a : Addr) : entryFrame m #[(.ref a)] 1 = mkF m 0 #[.val (.ref a)] [] := by first | (simp [entryFrame, mkF, argsToLocals, Value.category]; done) | rfl
theorem ef_bTag (m : MethodId) (a : Addr) (nm : Addr) (cl : Int32) (ln : Int64) : entryFrame m #[(.ref a), (.ref nm), (.int cl), (.long ln)] 5 = mkF m 0 #[.val (.ref a), .val (.ref nm), .val (.int cl), .val (.long ln), .second] [] := by first | (simp [entryFrame, mkF, argsToLocals, Value.category]; done) | rfl
theorem ef_bTst0 (m : MethodId) (a : Addr) : entryFrame m #[(.ref a)] 1 = mkF m 0 #[.val (.ref a)] [] := by first | (simp [entryFrame, mkF, argsToLocals, Value.category]; done) | rfl
theorem ef_bTst1 (m : MethodId) (a : Addr) : entryFrame m #[(.ref a)] 1 = mkF m 0 #[.val (.ref a)] [] := by first | (simp [entryFrame, mkF, argsToLocals, Value.category]; done) | rfl
theorem ef_law (m : MethodId) (p0 : Int32) (p1 : Int32) (p2 : Int32) (p3 : Int32) (p4 : Int64) : entryFrame m #[(.int p0), (.int p1), (.int p2), (.int p3), (.long p4)] maxLocals = mkF m 0 #[.val (.int p0), .val (.int p1), .val (.int p2), .val (.int p3), .val (.long p4), .second, .unset, .unset, .unset, .unset, .unset, .unset, .unset, .unset, .unset, .unset, .unset, .unset, .unset] [] := by first | (simp [entryFrame, mkF, argsToLocals, Value.category, maxLocals]; done) | rfl
theorem last3 (x : Int32) (h0 : ¬ x &&& 3 = 0) (h1 : ¬ x &&& 3 = 1) (h2 : ¬ x &&& 3 = 2) : x &&& 3 = 3 := by
  have h := c_and x 3 (by decide)
  have ne : ∀ {j : Int32}, ¬ x &&& 3 = j → (x &&& 3).toInt ≠ j.toInt := fun h z => h (Int32.toInt_inj.mp z)
  have q0 := ne h0; have q1 := ne h1; have q2 := ne h2
  apply Int32.toInt_inj.mp
  rw [show (0 : Int32).toInt = 0 by decide] at q0
  rw [show (1 : Int32).toInt = 1 by decide] at q1
  rw [show (2 : Int32).toInt = 2 by decide] at q2
  have e3 : (3 : Int32).toInt = 3 := by decide
  omega
abbrev bAi : Own.Bo := (⟨"java/lang/AbstractStringBuilder", "<init>", "(I)V"⟩, jdk_68_method_2_code, 2, none, ({ frames := 1, cells := 1, slots := 16, locals := 12 } : Room))
abbrev bSi : Own.Bo := (⟨"java/lang/StringBuilder", "<init>", "()V"⟩, jdk_67_method_1_code, 1, none, ({ frames := 2, cells := 1, slots := 16, locals := 26 } : Room))
abbrev bCdr : Own.Bo := (⟨"java/lang/String", "coder", "()B"⟩, jdk_42_method_152_code, 1, (some .byte), ({ frames := 0, cells := 0, slots := 0, locals := 0 } : Room))
abbrev bEns : Own.Bo := (⟨"java/lang/AbstractStringBuilder", "ensureCapacityInternal", "(I)V"⟩, jdk_68_method_9_code, 3, none, ({ frames := 0, cells := 0, slots := 0, locals := 0 } : Room))
abbrev bInf : Own.Bo := (⟨"java/lang/AbstractStringBuilder", "inflateIfNeededFor", "(Ljava/lang/String;)V"⟩, jdk_68_method_71_code, 2, none, ({ frames := 1, cells := 0, slots := 0, locals := 14 } : Room))
abbrev bGb : Own.Bo := (⟨"java/lang/String", "getBytes", "([BIB)V"⟩, jdk_42_method_147_code, 4, none, ({ frames := 1, cells := 0, slots := 0, locals := 20 } : Room))
abbrev bPsa : Own.Bo := (⟨"java/lang/AbstractStringBuilder", "putStringAt", "(ILjava/lang/String;)V"⟩, jdk_68_method_73_code, 3, none, ({ frames := 2, cells := 0, slots := 0, locals := 40 } : Room))
abbrev bAap : Own.Bo := (⟨"java/lang/AbstractStringBuilder", "append", "(Ljava/lang/String;)Ljava/lang/AbstractStringBuilder;"⟩, jdk_68_method_22_code, 3, (some (.object "java/lang/AbstractStringBuilder")), ({ frames := 3, cells := 0, slots := 0, locals := 58 } : Room))
abbrev bApp : Own.Bo := (⟨"java/lang/StringBuilder", "append", "(Ljava/lang/String;)Ljava/lang/StringBuilder;"⟩, jdk_67_method_7_code, 2, (some (.object "java/lang/StringBuilder")), ({ frames := 4, cells := 0, slots := 0, locals := 74 } : Room))
abbrev bGv : Own.Bo := (⟨"java/lang/AbstractStringBuilder", "getValue", "()[B"⟩, jdk_68_method_64_code, 1, (some (.array .byte)), ({ frames := 0, cells := 0, slots := 0, locals := 0 } : Room))
abbrev bAsl : Own.Bo := (⟨"java/lang/AbstractStringBuilder", "length", "()I"⟩, jdk_68_method_6_code, 1, (some .int), ({ frames := 0, cells := 0, slots := 0, locals := 0 } : Room))
abbrev bSbl : Own.Bo := (⟨"java/lang/StringBuilder", "length", "()I"⟩, jdk_67_method_93_code, 1, (some .int), ({ frames := 1, cells := 0, slots := 0, locals := 14 } : Room))
abbrev bIl : Own.Bo := (⟨"java/lang/AbstractStringBuilder", "isLatin1", "()Z"⟩, jdk_68_method_68_code, 1, (some .boolean), ({ frames := 0, cells := 0, slots := 0, locals := 0 } : Room))
abbrev bChk : Own.Bo := (⟨"java/util/Arrays", "checkLength", "(II)V"⟩, jdk_65_method_131_code, 2, none, ({ frames := 0, cells := 0, slots := 0, locals := 0 } : Room))
abbrev bMin : Own.Bo := (⟨"java/lang/Math", "min", "(II)I"⟩, jdk_29_method_69_code, 2, (some .int), ({ frames := 0, cells := 0, slots := 0, locals := 0 } : Room))
abbrev bCrb : Own.Bo := (⟨"java/util/Arrays", "copyOfRangeByte", "([BII)[B"⟩, jdk_65_method_133_code, 5, (some (.array .byte)), ({ frames := 1, cells := 1, slots := 16, locals := 26 } : Room))
abbrev bCor : Own.Bo := (⟨"java/util/Arrays", "copyOfRange", "([BII)[B"⟩, jdk_65_method_132_code, 3, (some (.array .byte)), ({ frames := 2, cells := 1, slots := 16, locals := 44 } : Room))
abbrev bN2 : Own.Bo := (⟨"java/lang/String", "<init>", "(Ljava/lang/AbstractStringBuilder;Ljava/lang/Void;)V"⟩, jdk_42_method_150_code, 5, none, ({ frames := 3, cells := 1, slots := 16, locals := 62 } : Room))
abbrev bN1 : Own.Bo := (⟨"java/lang/String", "<init>", "(Ljava/lang/StringBuilder;)V"⟩, jdk_42_method_53_code, 2, none, ({ frames := 4, cells := 1, slots := 16, locals := 80 } : Room))
abbrev bTos : Own.Bo := (⟨"java/lang/StringBuilder", "toString", "()Ljava/lang/String;"⟩, jdk_67_method_42_code, 1, (some (.object "java/lang/String")), ({ frames := 5, cells := 2, slots := 20, locals := 96 } : Room))
abbrev bRec : Own.Bo := (⟨"java/lang/Record", "<init>", "()V"⟩, jdk_30_method_1_code, 1, none, ({ frames := 1, cells := 0, slots := 0, locals := 12 } : Room))
abbrev bTag : Own.Bo := (⟨"com/example/lopa/lopa/trec/SgmlScanner$Tag", "<init>", "(Ljava/lang/String;ZJ)V"⟩, prog_19_method_1_code, 5, none, ({ frames := 2, cells := 0, slots := 0, locals := 30 } : Room))
abbrev bTst0 : Own.Bo := (⟨"com/example/lopa/lopa/trec/SgmlScanner$Tag", "toString", "()Ljava/lang/String;"⟩, prog_19_method_4_code, 1, (some (.object "java/lang/String")), ({ frames := 6, cells := 8, slots := 60, locals := 112 } : Room))
abbrev bTst1 : Own.Bo := (⟨"com/example/lopa/lopa/trec/SgmlScanner$Tag", "toString", "()Ljava/lang/String;"⟩, prog_19_method_4_code, 1, (some (.object "java/lang/String")), ({ frames := 6, cells := 8, slots := 60, locals := 112 } : Room))
abbrev bLaw : Own.Bo := (x, code, maxLocals, ret, room_1)
set_option maxRecDepth 65536 in
set_option maxHeartbeats 40000000 in
theorem con_ai {G : Own.Gl} (hw : ∀ d ∈ tables_1, d.before G.a0 G.Z = true) (hEL : EW G.Z G.a0 G.EL) (hmem : (Own.ST, 7) ∈ G.EL) {cz : Int32} (hS : Sta G.Z G.Z.heap Own.ST "COMPACT_STRINGS" "Z" (.int cz)) (hcz : ¬ cz = 0) {k : Int32} (hk : k = 16) {sb : Addr} {h : Heap} (hO : Old G.Z G.n0 h) (hn_sb : G.n0 ≤ sb) (E : Exa G.Z h sb "java/lang/StringBuilder") {u1 u2 : Value} (F_value : Fld G.Z h sb "java/lang/AbstractStringBuilder" "value" "[B" u1) (F_coder : Fld G.Z h sb "java/lang/AbstractStringBuilder" "coder" "B" u2) (F_count : Fld G.Z h sb "java/lang/AbstractStringBuilder" "count" "I" (.int 0)) :
    Own.Con G [] bAi #[.ref sb, .int k] h [] (fun v h' => v = none ∧ Keep h h' [sb] ∧ ∃ b : Addr, h.size ≤ b ∧ Own.SBd G.Z h' sb b 16 []) := by
  refine Own.Con.intro (plainFor_of_name pn_0) hO hEL _ (fun m => ef_bAi m sb k) ?_
  intro X T0 W0 sf
  subst hk
  refine Own.aloadN W0 d11_0 1 rfl (.ref sb) rfl rfl ?_
  refine Own.initO W0 (tw hw 65 rfl) (tw hw 12 rfl) (tw hw 13 rfl) rfl d11_1 4 rfl (by decide) (by decide) ?_
  intro T1 W1
  refine Own.getS W1 (tw hw 66 rfl) Via.refl (W1.sta hS) d11_4 7 rfl ?_
  intro T2 W2
  refine Own.ifNo W2 d11_7 10 (XT.i0_eq_f hcz) rfl ?_
  refine Own.aloadN W2 d11_10 11 rfl (.ref sb) rfl rfl ?_
  refine Own.iloadN W2 d11_11 12 rfl (16 : Int32) rfl ?_
  refine Own.newA W2 (tw hw 19 rfl) d11_12 14 rfl (by decide) 16 (by decide) (by decide) 1 16 (by decide) (by decide) (by decide) (by decide) ?_
  intro T3 h3 o3 c3 g3 W3 E3 A3 s3 k3
  have V3 : Arv G.Z h3 o3 c3 .byte (16 : Int32) [(.int (0 : Int32)), (.int (0 : Int32)), (.int (0 : Int32)), (.int (0 : Int32)), (.int (0 : Int32)), (.int (0 : Int32)), (.int (0 : Int32)), (.int (0 : Int32)), (.int (0 : Int32)), (.int (0 : Int32)), (.int (0 : Int32)), (.int (0 : Int32)), (.int (0 : Int32)), (.int (0 : Int32)), (.int (0 : Int32)), (.int (0 : Int32))] (.int (0 : Int32)) := A3
  have X5 : Ext h h3 := E3
  refine Own.putF W3 (tw hw 67 rfl) Via.refl (F_value.ext X5) (E.ext X5) (Or.inl (tw hw 68 rfl)) (tw hw 54 rfl) (ty := (.array .byte)) (v' := (.ref o3)) (by decide) rfl rfl hn_sb (Safe.exa W3.wz.alike (E.ext X5) (by decide) (by decide)) d11_14 17 rfl ?_
  intro T4 h4 W4 Q4 k4
  have F4_value := Fld.same Q4 (F_value.ext X5)
  refine Own.aloadN W4 d11_17 18 rfl (.ref sb) rfl rfl ?_
  refine Own.iconst W4 d11_18 19 rfl (0 : Int32) rfl ?_
  refine Own.putF W4 (tw hw 69 rfl) Via.refl ((F_coder.ext E3).other Q4 (Or.inr (slot_ne (Or.inl (tw hw 70 rfl)) (Or.inl (tw hw 68 rfl)) (by decide) (t := .byte) (t' := (.array .byte)) (by decide) (by decide)))) ((E.ext E3).wr Q4) (Or.inl (tw hw 70 rfl)) (tw hw 54 rfl) (ty := .byte) (v' := (.int (0 : Int32))) (by decide) rfl rfl hn_sb (Safe.exa W4.wz.alike ((E.ext E3).wr Q4) (by decide) (by decide)) d11_19 22 rfl ?_
  intro T6 h6 W6 Q6 k6
  have F6_coder := Fld.same Q6 ((F_coder.ext E3).other Q4 (Or.inr (slot_ne (Or.inl (tw hw 70 rfl)) (Or.inl (tw hw 68 rfl)) (by decide) (t := .byte) (t' := (.array .byte)) (by decide) (by decide))))
  refine Own.goto W6 d11_22 38 (by decide) (by decide) ?_
  exact Own.retV W6 (by decide) (by decide) rfl d11_38 ⟨rfl, (Keep.wr (Keep.wr (Keep.ext (Keep.refl h [sb]) E3) Q4 (Or.inl (by simp))) Q6 (Or.inl (by simp))), o3, (Nat.le_of_eq g3.symm), ⟨(((E.ext E3).wr Q4).wr Q6), (F4_value.other Q6 (Or.inr (slot_ne (Or.inl (tw hw 68 rfl)) (Or.inl (tw hw 70 rfl)) (by decide) (t := (.array .byte)) (t' := .byte) (by decide) (by decide)))), F6_coder, (((F_count.ext E3).other Q4 (Or.inr (slot_ne (Or.inl (tw hw 95 rfl)) (Or.inl (tw hw 68 rfl)) (by decide) (t := .int) (t' := (.array .byte)) (by decide) (by decide)))).other Q6 (Or.inr (slot_ne (Or.inl (tw hw 95 rfl)) (Or.inl (tw hw 70 rfl)) (by decide) (t := .int) (t' := .byte) (by decide) (by decide)))), (by intro c hc; cases hc), by decide, by decide, c3, [(.int (0 : Int32)), (.int (0 : Int32)), (.int (0 : Int32)), (.int (0 : Int32)), (.int (0 : Int32)), (.int (0 : Int32)), (.int (0 : Int32)), (.int (0 : Int32)), (.int (0 : Int32)), (.int (0 : Int32)), (.int (0 : Int32)), (.int (0 : Int32)), (.int (0 : Int32)), (.int (0 : Int32)), (.int (0 : Int32)), (.int (0 : Int32))], ((V3.other Q4 (Ne.symm (Nat.ne_of_lt (Nat.lt_of_lt_of_le E.lt (Nat.le_of_eq g3.symm))))).other Q6 (Ne.symm (Nat.ne_of_lt (Nat.lt_of_lt_of_le E.lt (Nat.le_of_eq g3.symm))))), rfl⟩⟩
set_option maxRecDepth 65536 in
set_option maxHeartbeats 40000000 in
theorem con_si {G : Own.Gl} (hw : ∀ d ∈ tables_1, d.before G.a0 G.Z = true) (hEL : EW G.Z G.a0 G.EL) (hmem : (Own.ST, 7) ∈ G.EL) {cz : Int32} (hS : Sta G.Z G.Z.heap Own.ST "COMPACT_STRINGS" "Z" (.int cz)) (hcz : ¬ cz = 0) {sb : Addr} {h : Heap} (hO : Old G.Z G.n0 h) (hn_sb : G.n0 ≤ sb) (E : Exa G.Z h sb "java/lang/StringBuilder") {u1 u2 : Value} (F_value : Fld G.Z h sb "java/lang/AbstractStringBuilder" "value" "[B" u1) (F_coder : Fld G.Z h sb "java/lang/AbstractStringBuilder" "coder" "B" u2) (F_count : Fld G.Z h sb "java/lang/AbstractStringBuilder" "count" "I" (.int 0)) :
    Own.Con G [] bSi #[.ref sb] h [] (fun v h' => v = none ∧ Keep h h' [sb] ∧ ∃ b : Addr, h.size ≤ b ∧ Own.SBd G.Z h' sb b 16 []) := by
  refine Own.Con.intro (plainFor_of_name pn_1) hO hEL _ (fun m => ef_bSi m sb) ?_
  intro X T0 W0 sf
  refine Own.aloadN W0 d10_0 1 rfl (.ref sb) rfl rfl ?_
  refine Own.bipush W0 d10_1 3 rfl (16 : Int32) rfl ?_
  refine Own.callX W0 rfl (tw hw 59 rfl) (tw hw 60 rfl) (tw hw 64 rfl) (by decide) (argsL := [(.int (16 : Int32))]) (rest := []) (Own.Con.pay (con_ai hw hEL hmem hS hcz rfl W0.old hn_sb E F_value F_coder F_count) W0 (tw hw 64 rfl) (tw hw 63 rfl) (len := 3) (wd := 0) (by decide) (by decide) (fun _ q => nomatch q)) rfl (lenOf pd_0 rfl) rfl (Nat.le_of_ble_eq_true rfl) d10_3 6 rfl 1 16 (Nat.le_of_ble_eq_true rfl) (Nat.le_of_ble_eq_true rfl) (Nat.le_of_ble_eq_true rfl) (Nat.le_of_ble_eq_true rfl) ?_
  intro v1 T1 h1 u1 W1 R1 hq
  obtain ⟨rfl, K1, b1, g1, F1⟩ := hq
  show Own.Go _ _ _ _ _ 6 #[.val (.ref sb)] []
  exact Own.retV W1 (by decide) (by decide) rfl d10_6 ⟨rfl, K1, b1, g1, F1⟩
set_option maxRecDepth 65536 in
set_option maxHeartbeats 40000000 in
theorem con_cdr {G : Own.Gl} (hw : ∀ d ∈ tables_1, d.before G.a0 G.Z = true) (hEL : EW G.Z G.a0 G.EL) (hmem : (Own.ST, 7) ∈ G.EL) {cz : Int32} (hS : Sta G.Z G.Z.heap Own.ST "COMPACT_STRINGS" "Z" (.int cz)) (hcz : ¬ cz = 0) {x : Addr} {h : Heap} (hO : Old G.Z G.n0 h) (F : Fld G.Z h x "java/lang/String" "coder" "B" (.int 0)) :
    Own.Con G [] bCdr #[.ref x] h [] (fun v h' => v = some (.int 0) ∧ h' = h) := by
  refine Own.Con.intro (plainFor_of_name pn_2) hO hEL _ (fun m => ef_bCdr m x) ?_
  intro X T0 W0 sf
  refine Own.getS W0 (tw hw 14 rfl) Via.refl (W0.sta hS) d15_0 3 rfl ?_
  intro T1 W1
  refine Own.ifNo W1 d15_3 6 (XT.i0_eq_f hcz) rfl ?_
  refine Own.aloadN W1 d15_6 7 rfl (.ref x) rfl rfl ?_
  refine Own.getF W1 (tw hw 26 rfl) Via.refl F d15_7 10 rfl ?_
  intro T2 W2
  refine Own.goto W2 d15_10 14 (by decide) (by decide) ?_
  exact Own.retY W2 (by decide) (by decide) rfl d15_14 rfl ⟨rfl, rfl⟩
set_option maxRecDepth 65536 in
set_option maxHeartbeats 40000000 in
theorem con_ens {G : Own.Gl} (hw : ∀ d ∈ tables_1, d.before G.a0 G.Z = true) (hEL : EW G.Z G.a0 G.EL) {cap : Nat} {sb b : Addr} {ts : List Int32} (mn : Int32) (hm : ¬ (0 : Int32) < mn - Int32.ofNat cap) {h : Heap} (hO : Old G.Z G.n0 h) (F : Own.SBd G.Z h sb b cap ts) :
    Own.Con G [] bEns #[.ref sb, .int mn] h [] (fun v h' => v = none ∧ h' = h) := by
  refine Own.Con.intro (plainFor_of_name pn_0) hO hEL _ (fun m => ef_bEns m sb mn) ?_
  intro X T0 W0 sf
  obtain ⟨E, Fv, Fc, Fn, Hr, Hl, Hc, kb, junk, Ab, Hj⟩ := id F
  refine Own.aloadN W0 d16_0 1 rfl (.ref sb) rfl rfl ?_
  refine Own.getF W0 (tw hw 67 rfl) Via.refl Fv d16_1 4 rfl ?_
  intro T1 W1
  refine Own.arrlen W1 Ab d16_4 5 rfl ?_
  refine Own.aloadN W1 d16_5 6 rfl (.ref sb) rfl rfl ?_
  refine Own.getF W1 (tw hw 69 rfl) Via.refl Fc d16_6 9 rfl ?_
  intro T2 W2
  refine Own.ishr W2 d16_9 10 rfl ?_
  rw [Own.shr0]
  refine Own.istoreN W2 d16_10 11 rfl #[.val (.ref sb), .val (.int mn), .val (.int (Int32.ofNat cap))] rfl ?_
  refine Own.iloadN W2 d16_11 12 rfl mn rfl ?_
  refine Own.iloadN W2 d16_12 13 rfl (Int32.ofNat cap) rfl ?_
  refine Own.isub W2 d16_13 14 rfl ?_
  refine Own.ifYes W2 d16_14 38 (XT.i0_le_t hm) (by decide) (by decide) ?_
  exact Own.retV W2 (by decide) (by decide) rfl d16_38 ⟨rfl, rfl⟩
set_option maxRecDepth 65536 in
set_option maxHeartbeats 40000000 in
theorem con_inf {G : Own.Gl} (hw : ∀ d ∈ tables_1, d.before G.a0 G.Z = true) (hEL : EW G.Z G.a0 G.EL) (hmem : (Own.ST, 7) ∈ G.EL) {cz : Int32} (hS : Sta G.Z G.Z.heap Own.ST "COMPACT_STRINGS" "Z" (.int cz)) (hcz : ¬ cz = 0) {cap : Nat} {sb b : Addr} {ts : List Int32} {h : Heap} (hO : Old G.Z G.n0 h) (F : Own.SBd G.Z h sb b cap ts) {x : Addr} {cs : List Int32} (Sx : Own.Str G.Z h x cs) :
    Own.Con G [] bInf #[.ref sb, .ref x] h [] (fun v h' => v = none ∧ h' = h) := by
  refine Own.Con.intro (plainFor_of_name pn_0) hO hEL _ (fun m => ef_bInf m sb x) ?_
  intro X T0 W0 sf
  obtain ⟨E, Fv, Fc, Fn, Hr, Hl, Hc, kb, junk, Ab, Hj⟩ := id F
  obtain ⟨Ex, Xc, Xr, Xl, bx, kx, Xv, Xa⟩ := id Sx
  refine Own.getS W0 (tw hw 66 rfl) Via.refl (W0.sta hS) d18_0 3 rfl ?_
  intro T1 W1
  refine Own.ifNo W1 d18_3 6 (XT.i0_eq_f hcz) rfl ?_
  refine Own.aloadN W1 d18_6 7 rfl (.ref sb) rfl rfl ?_
  refine Own.getF W1 (tw hw 69 rfl) Via.refl Fc d18_7 10 rfl ?_
  intro T2 W2
  refine Own.aloadN W2 d18_10 11 rfl (.ref x) rfl rfl ?_
  refine Own.callV W2 (tw hw 111 rfl) (tw hw 90 rfl) (fun s q => notFace_of_selects (args := #[]) (mvT (s := s) q (tw hw 92 rfl))) (tw hw 92 rfl) (tw hw 91 rfl) (by decide) (argsL := []) (rest := [(.int (0 : Int32))]) (Own.Con.pay (con_cdr hw hEL hmem hS hcz W2.old Xc) W2 (tw hw 93 rfl) (tw hw 3 rfl) (len := 3) (wd := 1) (by decide) (by decide) (fun _ q => nomatch q)) Ex rfl (lenOf pd_1 rfl) rfl (Nat.le_of_ble_eq_true rfl) d18_11 14 rfl 0 0 (Nat.le_of_ble_eq_true rfl) (Nat.le_of_ble_eq_true rfl) (Nat.le_of_ble_eq_true rfl) (Nat.le_of_ble_eq_true rfl) ?_
  intro v3 T3 h3 u3 W3 R3 hq
  obtain ⟨rfl, eh3⟩ := hq
  have ei3 := eh3.symm; subst ei3
  show Own.Go _ _ _ _ _ 14 #[.val (.ref sb), .val (.ref x)] [(.int (0 : Int32)), (.int (0 : Int32))]
  refine Own.icmpYes W3 d18_14 21 (by decide) (by decide) (by decide) ?_
  exact Own.retV W3 (by decide) (by decide) rfl d18_21 ⟨rfl, rfl⟩
set_option maxRecDepth 65536 in
set_option maxHeartbeats 40000000 in
theorem con_gb {G : Own.Gl} (hw : ∀ d ∈ tables_1, d.before G.a0 G.Z = true) (hEL : EW G.Z G.a0 G.EL) (hmem : (Own.ST, 7) ∈ G.EL) {cz : Int32} (hS : Sta G.Z G.Z.heap Own.ST "COMPACT_STRINGS" "Z" (.int cz)) (hcz : ¬ cz = 0) {cap : Nat} (hEN : Own.EN G.Z G.a0 G.EL cap) {b : Addr} {dp cd : Int32} {h : Heap} (hO : Old G.Z G.n0 h) (hn_b : G.n0 ≤ b) {kb : ClassId} {ts : List Int32} {junk : List Value} (Ab : Arv G.Z h b kb .byte (Int32.ofNat cap) (Own.bs ts ++ junk) (.int 0)) (Hj : (Own.bs ts ++ junk).length = cap) (Hc : cap ≤ 4000) {x : Addr} {cs : List Int32} (Sx : Own.Str G.Z h x cs) (hdp : dp = Int32.ofNat ts.length) (hcd : cd = 0) (hfit : ts.length + cs.length ≤ cap) :
    Own.Con G [] bGb #[.ref x, .ref b, .int dp, .int cd] h [] (fun v h' => v = none ∧ Keep h h' [b] ∧ Arv G.Z h' b kb .byte (Int32.ofNat cap) (Own.bs (ts ++ cs) ++ junk.drop cs.length) (.int 0)) := by
  refine Own.Con.intro (plainFor_of_name pn_2) hO hEL _ (fun m => ef_bGb m x b dp cd) ?_
  intro X T0 W0 sf
  subst hdp; subst hcd
  obtain ⟨Ex, Xc, Xr, Xl, bx, kx, Xv, Xa⟩ := id Sx
  refine Own.aloadN W0 d19_0 1 rfl (.ref x) rfl rfl ?_
  refine Own.callV W0 (tw hw 89 rfl) (tw hw 90 rfl) (fun s q => notFace_of_selects (args := #[]) (mvT (s := s) q (tw hw 92 rfl))) (tw hw 92 rfl) (tw hw 91 rfl) (by decide) (argsL := []) (rest := []) (Own.Con.pay (con_cdr hw hEL hmem hS hcz W0.old Xc) W0 (tw hw 93 rfl) (tw hw 3 rfl) (len := 3) (wd := 0) (by decide) (by decide) (fun _ q => nomatch q)) Ex rfl (lenOf pd_1 rfl) rfl (Nat.le_of_ble_eq_true rfl) d19_1 4 rfl 0 0 (Nat.le_of_ble_eq_true rfl) (Nat.le_of_ble_eq_true rfl) (Nat.le_of_ble_eq_true rfl) (Nat.le_of_ble_eq_true rfl) ?_
  intro v1 T1 h1 u1 W1 R1 hq
  obtain ⟨rfl, eh1⟩ := hq
  have ei1 := eh1.symm; subst ei1
  show Own.Go _ _ _ _ _ 4 #[.val (.ref x), .val (.ref b), .val (.int (Int32.ofNat ts.length)), .val (.int (0 : Int32))] [(.int (0 : Int32))]
  refine Own.iloadN W1 d19_4 5 rfl (0 : Int32) rfl ?_
  refine Own.icmpNo W1 d19_5 8 (by decide) rfl ?_
  refine Own.aloadN W1 d19_8 9 rfl (.ref x) rfl rfl ?_
  refine Own.getF W1 (tw hw 28 rfl) Via.refl Xv d19_9 12 rfl ?_
  intro T2 W2
  refine Own.iconst W2 d19_12 13 rfl (0 : Int32) rfl ?_
  refine Own.aloadN W2 d19_13 14 rfl (.ref b) rfl rfl ?_
  refine Own.iloadN W2 d19_14 15 rfl (Int32.ofNat ts.length) rfl ?_
  refine Own.iloadN W2 d19_15 16 rfl (0 : Int32) rfl ?_
  refine Own.ishl W2 d19_16 17 rfl ?_
  rw [Own.shl0]
  refine Own.aloadN W2 d19_17 18 rfl (.ref x) rfl rfl ?_
  refine Own.getF W2 (tw hw 28 rfl) Via.refl Xv d19_18 21 rfl ?_
  intro T3 W3
  refine Own.arrlen W3 Xa d19_21 22 rfl ?_
  refine Own.acopy W3 (tw hw 117 rfl) (tw hw 120 rfl) (tw hw 118 rfl) (tw hw 119 rfl) Xa Ab (by decide) (Own.nonneg (by omega)) (Own.nonneg Xl) (by rw [show (0 : Int32).toNatClampNeg = 0 by decide]; omega) (by rw [Own.clampN (by omega), Own.clampN Xl, Own.clampN Hc]; exact hfit) (us := Own.bs cs) (Own.rangeGet _ (by rw [Own.clampN Xl, Own.bs_len]) _ (by decide)) (by rw [Own.clampN (by omega), Own.clampN Xl, Hj]; exact hfit) hn_b (Own.Safe.len W3.wz hEN Ab (Own.clampN Hc)) rfl d19_22 25 rfl (by decide) (Nat.le_of_ble_eq_true rfl) ?_
  intro T4 h4 W4 R4 K4 A4
  have A' := A4; rw [Own.cp_app (by omega) Xl] at A'
  refine Own.goto W4 d19_25 43 (by decide) (by decide) ?_
  exact Own.retV W4 (by decide) (by decide) rfl d19_43 ⟨rfl, K4, A'⟩
set_option maxRecDepth 65536 in
set_option maxHeartbeats 40000000 in
theorem con_psa {G : Own.Gl} (hw : ∀ d ∈ tables_1, d.before G.a0 G.Z = true) (hEL : EW G.Z G.a0 G.EL) (hmem : (Own.ST, 7) ∈ G.EL) {cz : Int32} (hS : Sta G.Z G.Z.heap Own.ST "COMPACT_STRINGS" "Z" (.int cz)) (hcz : ¬ cz = 0) {cap : Nat} (hEN : Own.EN G.Z G.a0 G.EL cap) {sb b : Addr} {i : Int32} {h : Heap} (hO : Old G.Z G.n0 h) (hn_b : G.n0 ≤ b) (E : Exa G.Z h sb "java/lang/StringBuilder") (Fv : Fld G.Z h sb "java/lang/AbstractStringBuilder" "value" "[B" (.ref b)) (Fc : Fld G.Z h sb "java/lang/AbstractStringBuilder" "coder" "B" (.int 0)) {kb : ClassId} {ts : List Int32} {junk : List Value} (Ab : Arv G.Z h b kb .byte (Int32.ofNat cap) (Own.bs ts ++ junk) (.int 0)) (Hj : (Own.bs ts ++ junk).length = cap) (Hc : cap ≤ 4000) (F : Own.SBd G.Z h sb b cap ts) {x : Addr} {cs : List Int32} (Sx : Own.Str G.Z h x cs) (hi : i = Int32.ofNat ts.length) (hfit : ts.length + cs.length ≤ cap) :
    Own.Con G [] bPsa #[.ref sb, .int i, .ref x] h [] (fun v h' => v = none ∧ Keep h h' [b] ∧ Arv G.Z h' b kb .byte (Int32.ofNat cap) (Own.bs (ts ++ cs) ++ junk.drop cs.length) (.int 0)) := by
  refine Own.Con.intro (plainFor_of_name pn_0) hO hEL _ (fun m => ef_bPsa m sb i x) ?_
  intro X T0 W0 sf
  subst hi
  obtain ⟨-, -, -, Fn, -⟩ := id F
  obtain ⟨Ex, Xc, Xr, Xl, bx, kx, Xv, Xa⟩ := id Sx
  refine Own.aloadN W0 d17_0 1 rfl (.ref sb) rfl rfl ?_
  refine Own.aloadN W0 d17_1 2 rfl (.ref x) rfl rfl ?_
  refine Own.callV W0 (tw hw 106 rfl) (Own.declares_of (tw hw 107 rfl) (tw hw 110 rfl)) (fun s q => notFace_of_selects (args := #[]) (mvT (s := s) q (tw hw 109 rfl))) (tw hw 109 rfl) (tw hw 107 rfl) (by decide) (argsL := [(.ref x)]) (rest := []) (Own.Con.pay (con_inf hw hEL hmem hS hcz W0.old F Sx) W0 (tw hw 110 rfl) (tw hw 63 rfl) (len := 3) (wd := 0) (by decide) (by decide) (fun _ q => nomatch q)) E rfl (lenOf pd_2 rfl) rfl (Nat.le_of_ble_eq_true rfl) d17_2 5 rfl 0 0 (Nat.le_of_ble_eq_true rfl) (Nat.le_of_ble_eq_true rfl) (Nat.le_of_ble_eq_true rfl) (Nat.le_of_ble_eq_true rfl) ?_
  intro v1 T1 h1 u1 W1 R1 hq
  obtain ⟨rfl, eh1⟩ := hq
  have ei1 := eh1.symm; subst ei1
  show Own.Go _ _ _ _ _ 5 #[.val (.ref sb), .val (.int (Int32.ofNat ts.length)), .val (.ref x)] []
  refine Own.aloadN W1 d17_5 6 rfl (.ref x) rfl rfl ?_
  refine Own.aloadN W1 d17_6 7 rfl (.ref sb) rfl rfl ?_
  refine Own.getF W1 (tw hw 67 rfl) Via.refl Fv d17_7 10 rfl ?_
  intro T2 W2
  refine Own.iloadN W2 d17_10 11 rfl (Int32.ofNat ts.length) rfl ?_
  refine Own.aloadN W2 d17_11 12 rfl (.ref sb) rfl rfl ?_
  refine Own.getF W2 (tw hw 69 rfl) Via.refl Fc d17_12 15 rfl ?_
  intro T3 W3
  refine Own.callV W3 (tw hw 112 rfl) (tw hw 113 rfl) (fun s q => notFace_of_selects (args := #[]) (mvT (s := s) q (tw hw 115 rfl))) (tw hw 115 rfl) (tw hw 114 rfl) (by decide) (argsL := [(.ref b), (.int (Int32.ofNat ts.length)), (.int (0 : Int32))]) (rest := []) (Own.Con.pay (con_gb hw hEL hmem hS hcz hEN W3.old hn_b Ab Hj Hc Sx rfl rfl hfit) W3 (tw hw 116 rfl) (tw hw 3 rfl) (len := 3) (wd := 0) (by decide) (by decide) (fun _ q => nomatch q)) Ex rfl (lenOf pd_3 rfl) rfl (Nat.le_of_ble_eq_true rfl) d17_15 18 rfl 0 0 (Nat.le_of_ble_eq_true rfl) (Nat.le_of_ble_eq_true rfl) (Nat.le_of_ble_eq_true rfl) (Nat.le_of_ble_eq_true rfl) ?_
  intro v4 T4 h4 u4 W4 R4 hq
  obtain ⟨rfl, K4, A4⟩ := hq
  show Own.Go _ _ _ _ _ 18 #[.val (.ref sb), .val (.int (Int32.ofNat ts.length)), .val (.ref x)] []
  exact Own.retV W4 (by decide) (by decide) rfl d17_18 ⟨rfl, K4, A4⟩
set_option maxRecDepth 65536 in
set_option maxHeartbeats 40000000 in
theorem con_aap {G : Own.Gl} (hw : ∀ d ∈ tables_1, d.before G.a0 G.Z = true) (hEL : EW G.Z G.a0 G.EL) (hmem : (Own.ST, 7) ∈ G.EL) {cz : Int32} (hS : Sta G.Z G.Z.heap Own.ST "COMPACT_STRINGS" "Z" (.int cz)) (hcz : ¬ cz = 0) {cap : Nat} (hEN : Own.EN G.Z G.a0 G.EL cap) {sb b : Addr} {ts : List Int32} {h : Heap} (hO : Old G.Z G.n0 h) (hn_sb : G.n0 ≤ sb) (hn_b : G.n0 ≤ b) (hsb : sb ≠ b) (F : Own.SBd G.Z h sb b cap ts) {x : Addr} {cs : List Int32} (Sx : Own.Str G.Z h x cs) (hfit : ts.length + cs.length ≤ cap) :
    Own.Con G [] bAap #[.ref sb, .ref x] h [] (fun v h' => v = some (.ref sb) ∧ Keep h h' [sb, b] ∧ Own.SBd G.Z h' sb b cap (ts ++ cs)) := by
  refine Own.Con.intro (plainFor_of_name pn_0) hO hEL _ (fun m => ef_bAap m sb x) ?_
  intro X T0 W0 sf
  obtain ⟨E, Fv, Fc, Fn, Hr, Hl, Hc, kb, junk, Ab, Hj⟩ := id F
  obtain ⟨Ex, Xc, Xr, Xl, bx, kx, Xv, Xa⟩ := id Sx
  refine Own.aloadN W0 d13_0 1 rfl (.ref x) rfl rfl ?_
  refine Own.ifnonnullYes W0 d13_1 9 (by decide) (by decide) ?_
  refine Own.aloadN W0 d13_9 10 rfl (.ref x) rfl rfl ?_
  refine Own.callV W0 (tw hw 84 rfl) (tw hw 85 rfl) (fun s q => notFace_of_selects (args := #[]) (mvT (s := s) q (tw hw 87 rfl))) (tw hw 87 rfl) (tw hw 86 rfl) (by decide) (argsL := []) (rest := []) (Own.payLen (wL hw) (kI := 4) (tw hw 2 rfl) W0 Sx hS hcz (len := 3) (wd := 0) (by decide) (by decide)) Ex rfl (lenOf pd_4 rfl) rfl (Nat.le_of_ble_eq_true rfl) d13_10 13 rfl 0 0 (Nat.le_of_ble_eq_true rfl) (Nat.le_of_ble_eq_true rfl) (Nat.le_of_ble_eq_true rfl) (Nat.le_of_ble_eq_true rfl) ?_
  intro v1 T1 h1 u1 W1 R1 hq
  obtain ⟨rfl, eh1⟩ := hq
  have ei1 := eh1.symm; subst ei1
  show Own.Go _ _ _ _ _ 13 #[.val (.ref sb), .val (.ref x), .unset] [(.int (Int32.ofNat cs.length))]
  refine Own.istoreN W1 d13_13 14 rfl #[.val (.ref sb), .val (.ref x), .val (.int (Int32.ofNat cs.length))] rfl ?_
  refine Own.aloadN W1 d13_14 15 rfl (.ref sb) rfl rfl ?_
  refine Own.aloadN W1 d13_15 16 rfl (.ref sb) rfl rfl ?_
  refine Own.getF W1 (tw hw 94 rfl) Via.refl Fn d13_16 19 rfl ?_
  intro T2 W2
  refine Own.iloadN W2 d13_19 20 rfl (Int32.ofNat cs.length) rfl ?_
  refine Own.iadd W2 d13_20 21 rfl ?_
  refine Own.callV W2 (tw hw 96 rfl) (Own.declares_of (tw hw 97 rfl) (tw hw 100 rfl)) (fun s q => notFace_of_selects (args := #[]) (mvT (s := s) q (tw hw 99 rfl))) (tw hw 99 rfl) (tw hw 97 rfl) (by decide) (argsL := [(.int ((Int32.ofNat ts.length) + (Int32.ofNat cs.length)))]) (rest := []) (Own.Con.pay (con_ens hw hEL _ (Own.capOK hfit Hc) W2.old F) W2 (tw hw 100 rfl) (tw hw 63 rfl) (len := 3) (wd := 0) (by decide) (by decide) (fun _ q => nomatch q)) E rfl (lenOf pd_0 rfl) rfl (Nat.le_of_ble_eq_true rfl) d13_21 24 rfl 0 0 (Nat.le_of_ble_eq_true rfl) (Nat.le_of_ble_eq_true rfl) (Nat.le_of_ble_eq_true rfl) (Nat.le_of_ble_eq_true rfl) ?_
  intro v3 T3 h3 u3 W3 R3 hq
  obtain ⟨rfl, eh3⟩ := hq
  have ei3 := eh3.symm; subst ei3
  show Own.Go _ _ _ _ _ 24 #[.val (.ref sb), .val (.ref x), .val (.int (Int32.ofNat cs.length))] []
  refine Own.aloadN W3 d13_24 25 rfl (.ref sb) rfl rfl ?_
  refine Own.aloadN W3 d13_25 26 rfl (.ref sb) rfl rfl ?_
  refine Own.getF W3 (tw hw 94 rfl) Via.refl Fn d13_26 29 rfl ?_
  intro T4 W4
  refine Own.aloadN W4 d13_29 30 rfl (.ref x) rfl rfl ?_
  refine Own.callV W4 (tw hw 101 rfl) (Own.declares_of (tw hw 102 rfl) (tw hw 105 rfl)) (fun s q => notFace_of_selects (args := #[]) (mvT (s := s) q (tw hw 104 rfl))) (tw hw 104 rfl) (tw hw 102 rfl) (by decide) (argsL := [(.int (Int32.ofNat ts.length)), (.ref x)]) (rest := []) (Own.Con.pay (con_psa hw hEL hmem hS hcz hEN W4.old hn_b E Fv Fc Ab Hj Hc F Sx rfl hfit) W4 (tw hw 105 rfl) (tw hw 63 rfl) (len := 3) (wd := 0) (by decide) (by decide) (fun _ q => nomatch q)) E rfl (lenOf pd_5 rfl) rfl (Nat.le_of_ble_eq_true rfl) d13_30 33 rfl 0 0 (Nat.le_of_ble_eq_true rfl) (Nat.le_of_ble_eq_true rfl) (Nat.le_of_ble_eq_true rfl) (Nat.le_of_ble_eq_true rfl) ?_
  intro v5 T5 h5 u5 W5 R5 hq
  obtain ⟨rfl, K5, A5⟩ := hq
  show Own.Go _ _ _ _ _ 33 #[.val (.ref sb), .val (.ref x), .val (.int (Int32.ofNat cs.length))] []
  refine Own.aloadN W5 d13_33 34 rfl (.ref sb) rfl rfl ?_
  refine Own.dup W5 d13_34 35 rfl rfl ?_
  refine Own.getF W5 (tw hw 94 rfl) Via.refl (Fn.keep K5 (ninS hsb nin0)) d13_35 38 rfl ?_
  intro T6 W6
  refine Own.iloadN W6 d13_38 39 rfl (Int32.ofNat cs.length) rfl ?_
  refine Own.iadd W6 d13_39 40 rfl ?_
  refine Own.putF W6 (tw hw 94 rfl) Via.refl (Fn.keep K5 (ninS hsb nin0)) (E.keep K5) (Or.inl (tw hw 95 rfl)) (tw hw 54 rfl) (ty := .int) (v' := (.int ((Int32.ofNat ts.length) + (Int32.ofNat cs.length)))) (by decide) rfl rfl hn_sb (Safe.exa W6.wz.alike (E.keep K5) (by decide) (by decide)) d13_40 43 rfl ?_
  intro T7 h7 W7 Q7 k7
  have F7_count := Fld.same Q7 (Fn.keep K5 (ninS hsb nin0))
  refine Own.aloadN W7 d13_43 44 rfl (.ref sb) rfl rfl ?_
  exact Own.retA W7 (by decide) (by decide) rfl rfl rfl d13_44 ⟨rfl, (Keep.wr (Keep.trans (Keep.refl h [sb, b]) K5 (by intro y hy; cases List.mem_singleton.mp hy; exact Or.inl (by simp))) Q7 (Or.inl (by simp))), ((E.keep K5).wr Q7), ((Fv.keep K5 (ninS hsb nin0)).other Q7 (Or.inr (slot_ne (Or.inl (tw hw 68 rfl)) (Or.inl (tw hw 95 rfl)) (by decide) (t := (.array .byte)) (t' := .int) (by decide) (by decide)))), ((Fc.keep K5 (ninS hsb nin0)).other Q7 (Or.inr (slot_ne (Or.inl (tw hw 70 rfl)) (Or.inl (tw hw 95 rfl)) (by decide) (t := .byte) (t' := .int) (by decide) (by decide)))), by rw [List.length_append, Int32.ofNat_add]; exact F7_count, fun c hc => (List.mem_append.mp hc).elim (Hr c) (Xr c), by rw [List.length_append]; exact hfit, Hc, kb, junk.drop cs.length, (A5.other Q7 (Ne.symm hsb)), by have q := Hj; rw [List.length_append, Own.bs_len] at q ⊢; rw [List.length_append, List.length_drop]; omega⟩
set_option maxRecDepth 65536 in
set_option maxHeartbeats 40000000 in
theorem con_app {G : Own.Gl} (hw : ∀ d ∈ tables_1, d.before G.a0 G.Z = true) (hEL : EW G.Z G.a0 G.EL) (hmem : (Own.ST, 7) ∈ G.EL) {cz : Int32} (hS : Sta G.Z G.Z.heap Own.ST "COMPACT_STRINGS" "Z" (.int cz)) (hcz : ¬ cz = 0) {cap : Nat} (hEN : Own.EN G.Z G.a0 G.EL cap) {sb b : Addr} {ts : List Int32} {h : Heap} (hO : Old G.Z G.n0 h) (hn_sb : G.n0 ≤ sb) (hn_b : G.n0 ≤ b) (hsb : sb ≠ b) (F : Own.SBd G.Z h sb b cap ts) {x : Addr} {cs : List Int32} (Sx : Own.Str G.Z h x cs) (hfit : ts.length + cs.length ≤ cap) :
    Own.Con G [] bApp #[.ref sb, .ref x] h [] (fun v h' => v = some (.ref sb) ∧ Keep h h' [sb, b] ∧ Own.SBd G.Z h' sb b cap (ts ++ cs)) := by
  refine Own.Con.intro (plainFor_of_name pn_1) hO hEL _ (fun m => ef_bApp m sb x) ?_
  intro X T0 W0 sf
  have E := F.exa
  refine Own.aloadN W0 d12_0 1 rfl (.ref sb) rfl rfl ?_
  refine Own.aloadN W0 d12_1 2 rfl (.ref x) rfl rfl ?_
  refine Own.callU W0 (tw hw 79 rfl) (tw hw 82 rfl) (tw hw 99 rfl) rfl (tw hw 80 rfl) (tw hw 81 rfl) (tw hw 83 rfl) (by decide) (by decide) (argsL := [(.ref x)]) (rest := []) (Own.Con.pay (con_aap hw hEL hmem hS hcz hEN W0.old hn_sb hn_b hsb F Sx hfit) W0 (tw hw 83 rfl) (tw hw 63 rfl) (len := 3) (wd := 0) (by decide) (by decide) (fun _ q => nomatch q)) E rfl (lenOf pd_6 rfl) rfl (Nat.le_of_ble_eq_true rfl) d12_2 5 rfl 0 0 (Nat.le_of_ble_eq_true rfl) (Nat.le_of_ble_eq_true rfl) (Nat.le_of_ble_eq_true rfl) (Nat.le_of_ble_eq_true rfl) ?_
  intro v1 T1 h1 u1 W1 R1 hq
  obtain ⟨rfl, K1, F1⟩ := hq
  show Own.Go _ _ _ _ _ 5 #[.val (.ref sb), .val (.ref x)] [(.ref sb)]
  refine Own.pop W1 d12_5 6 rfl rfl ?_
  refine Own.aloadN W1 d12_6 7 rfl (.ref sb) rfl rfl ?_
  exact Own.retA W1 (by decide) (by decide) rfl rfl rfl d12_7 ⟨rfl, K1, F1⟩
set_option maxRecDepth 65536 in
set_option maxHeartbeats 40000000 in
theorem con_gv {G : Own.Gl} (hw : ∀ d ∈ tables_1, d.before G.a0 G.Z = true) (hEL : EW G.Z G.a0 G.EL) {cap : Nat} {sb b : Addr} {ts : List Int32} {h : Heap} (hO : Old G.Z G.n0 h) (F : Own.SBd G.Z h sb b cap ts) :
    Own.Con G [] bGv #[.ref sb] h [] (fun v h' => v = some (.ref b) ∧ h' = h) := by
  refine Own.Con.intro (plainFor_of_name pn_0) hO hEL _ (fun m => ef_bGv m sb) ?_
  intro X T0 W0 sf
  obtain ⟨E, Fv, Fc, Fn, Hr, Hl, Hc, kb, junk, Ab, Hj⟩ := id F
  refine Own.aloadN W0 d23_0 1 rfl (.ref sb) rfl rfl ?_
  refine Own.getF W0 (tw hw 67 rfl) Via.refl Fv d23_1 4 rfl ?_
  intro T1 W1
  exact Own.retA W1 (by decide) (by decide) rfl rfl rfl d23_4 ⟨rfl, rfl⟩
set_option maxRecDepth 65536 in
set_option maxHeartbeats 40000000 in
theorem con_asl {G : Own.Gl} (hw : ∀ d ∈ tables_1, d.before G.a0 G.Z = true) (hEL : EW G.Z G.a0 G.EL) {cap : Nat} {sb b : Addr} {ts : List Int32} {h : Heap} (hO : Old G.Z G.n0 h) (F : Own.SBd G.Z h sb b cap ts) :
    Own.Con G [] bAsl #[.ref sb] h [] (fun v h' => v = some (.int (Int32.ofNat ts.length)) ∧ h' = h) := by
  refine Own.Con.intro (plainFor_of_name pn_0) hO hEL _ (fun m => ef_bAsl m sb) ?_
  intro X T0 W0 sf
  obtain ⟨E, Fv, Fc, Fn, Hr, Hl, Hc, kb, junk, Ab, Hj⟩ := id F
  refine Own.aloadN W0 d25_0 1 rfl (.ref sb) rfl rfl ?_
  refine Own.getF W0 (tw hw 94 rfl) Via.refl Fn d25_1 4 rfl ?_
  intro T1 W1
  exact Own.retI W1 (by decide) (by decide) rfl d25_4 ⟨rfl, rfl⟩
set_option maxRecDepth 65536 in
set_option maxHeartbeats 40000000 in
theorem con_sbl {G : Own.Gl} (hw : ∀ d ∈ tables_1, d.before G.a0 G.Z = true) (hEL : EW G.Z G.a0 G.EL) {cap : Nat} {sb b : Addr} {ts : List Int32} {h : Heap} (hO : Old G.Z G.n0 h) (F : Own.SBd G.Z h sb b cap ts) :
    Own.Con G [] bSbl #[.ref sb] h [] (fun v h' => v = some (.int (Int32.ofNat ts.length)) ∧ h' = h) := by
  refine Own.Con.intro (plainFor_of_name pn_1) hO hEL _ (fun m => ef_bSbl m sb) ?_
  intro X T0 W0 sf
  have E := F.exa
  refine Own.aloadN W0 d24_0 1 rfl (.ref sb) rfl rfl ?_
  refine Own.callU W0 (tw hw 145 rfl) (tw hw 140 rfl) (tw hw 99 rfl) rfl (tw hw 141 rfl) (tw hw 81 rfl) (tw hw 146 rfl) (by decide) (by decide) (argsL := []) (rest := []) (Own.Con.pay (con_asl hw hEL W0.old F) W0 (tw hw 146 rfl) (tw hw 63 rfl) (len := 3) (wd := 0) (by decide) (by decide) (fun _ q => nomatch q)) E rfl (lenOf pd_4 rfl) rfl (Nat.le_of_ble_eq_true rfl) d24_1 4 rfl 0 0 (Nat.le_of_ble_eq_true rfl) (Nat.le_of_ble_eq_true rfl) (Nat.le_of_ble_eq_true rfl) (Nat.le_of_ble_eq_true rfl) ?_
  intro v1 T1 h1 u1 W1 R1 hq
  obtain ⟨rfl, eh1⟩ := hq
  have ei1 := eh1.symm; subst ei1
  show Own.Go _ _ _ _ _ 4 #[.val (.ref sb)] [(.int (Int32.ofNat ts.length))]
  exact Own.retI W1 (by decide) (by decide) rfl d24_4 ⟨rfl, rfl⟩
set_option maxRecDepth 65536 in
set_option maxHeartbeats 40000000 in
theorem con_il {G : Own.Gl} (hw : ∀ d ∈ tables_1, d.before G.a0 G.Z = true) (hEL : EW G.Z G.a0 G.EL) (hmem : (Own.ST, 7) ∈ G.EL) {cz : Int32} (hS : Sta G.Z G.Z.heap Own.ST "COMPACT_STRINGS" "Z" (.int cz)) (hcz : ¬ cz = 0) {cap : Nat} {sb b : Addr} {ts : List Int32} {h : Heap} (hO : Old G.Z G.n0 h) (F : Own.SBd G.Z h sb b cap ts) :
    Own.Con G [] bIl #[.ref sb] h [] (fun v h' => v = some (.int 1) ∧ h' = h) := by
  refine Own.Con.intro (plainFor_of_name pn_0) hO hEL _ (fun m => ef_bIl m sb) ?_
  intro X T0 W0 sf
  obtain ⟨E, Fv, Fc, Fn, Hr, Hl, Hc, kb, junk, Ab, Hj⟩ := id F
  refine Own.getS W0 (tw hw 66 rfl) Via.refl (W0.sta hS) d26_0 3 rfl ?_
  intro T1 W1
  refine Own.ifNo W1 d26_3 6 (XT.i0_eq_f hcz) rfl ?_
  refine Own.aloadN W1 d26_6 7 rfl (.ref sb) rfl rfl ?_
  refine Own.getF W1 (tw hw 69 rfl) Via.refl Fc d26_7 10 rfl ?_
  intro T2 W2
  refine Own.ifNo W2 d26_10 13 (by decide) rfl ?_
  refine Own.iconst W2 d26_13 14 rfl (1 : Int32) rfl ?_
  refine Own.goto W2 d26_14 18 (by decide) (by decide) ?_
  exact Own.retB W2 (by decide) (by decide) rfl d26_18 rfl ⟨rfl, rfl⟩
set_option maxRecDepth 65536 in
set_option maxHeartbeats 40000000 in
theorem con_chk {G : Own.Gl} (hw : ∀ d ∈ tables_1, d.before G.a0 G.Z = true) (hEL : EW G.Z G.a0 G.EL) (i j : Int32) (hij : ¬ j < i) {h : Heap} (hO : Old G.Z G.n0 h) :
    Own.Con G [] bChk #[.int i, .int j] h [] (fun v h' => v = none ∧ h' = h) := by
  refine Own.Con.intro (plainFor_of_name pn_3) hO hEL _ (fun m => ef_bChk m i j) ?_
  intro X T0 W0 sf
  refine Own.iloadN W0 d29_0 1 rfl j rfl ?_
  refine Own.iloadN W0 d29_1 2 rfl i rfl ?_
  refine Own.icmpYes W0 d29_2 37 (XT.ii_ge_t hij) (by decide) (by decide) ?_
  exact Own.retV W0 (by decide) (by decide) rfl d29_37 ⟨rfl, rfl⟩
set_option maxRecDepth 65536 in
set_option maxHeartbeats 40000000 in
theorem con_min {G : Own.Gl} (hw : ∀ d ∈ tables_1, d.before G.a0 G.Z = true) (hEL : EW G.Z G.a0 G.EL) (i j : Int32) (hij : j < i) {h : Heap} (hO : Old G.Z G.n0 h) :
    Own.Con G [] bMin #[.int i, .int j] h [] (fun v h' => v = some (.int j) ∧ h' = h) := by
  refine Own.Con.intro (by decide +kernel) hO hEL _ (fun m => ef_bMin m i j) ?_
  intro X T0 W0 sf
  refine Own.iloadN W0 d30_0 1 rfl i rfl ?_
  refine Own.iloadN W0 d30_1 2 rfl j rfl ?_
  refine Own.icmpYes W0 d30_2 9 (XT.ii_gt_t hij) (by decide) (by decide) ?_
  refine Own.iloadN W0 d30_9 10 rfl j rfl ?_
  exact Own.retI W0 (by decide) (by decide) rfl d30_10 ⟨rfl, rfl⟩
set_option maxRecDepth 65536 in
set_option maxHeartbeats 40000000 in
theorem con_crb {G : Own.Gl} (hw : ∀ d ∈ tables_1, d.before G.a0 G.Z = true) (hEL : EW G.Z G.a0 G.EL) {cap : Nat} (Hc : cap ≤ 4000) {a : Addr} {kb : ClassId} {ts : List Int32} {junk : List Value} {h : Heap} (hO : Old G.Z G.n0 h) (Ab : Arv G.Z h a kb .byte (Int32.ofNat cap) (Own.bs ts ++ junk) (.int 0)) (hts : ts.length < cap) (hcap : ts.length ≤ 16) {fr to : Int32} (hfr : fr = 0) (hto : to = Int32.ofNat ts.length) :
    Own.Con G [] bCrb #[.ref a, .int fr, .int to] h [] (fun v h' => ∃ (o : Addr) (ko : ClassId), v = some (.ref o) ∧ Ext h h' ∧ h.size ≤ o ∧ Arv G.Z h' o ko .byte (Int32.ofNat ts.length) (Own.bs ts) (.int 0)) := by
  refine Own.Con.intro (plainFor_of_name pn_3) hO hEL _ (fun m => ef_bCrb m a fr to) ?_
  intro X T0 W0 sf
  subst hfr; subst hto
  have H4 : ts.length ≤ 4000 := by omega
  refine Own.iloadN W0 d28_0 1 rfl (0 : Int32) rfl ?_
  refine Own.iloadN W0 d28_1 2 rfl (Int32.ofNat ts.length) rfl ?_
  refine Own.callS W0 (tw hw 159 rfl) (tw hw 160 rfl) (tw hw 154 rfl) (tw hw 161 rfl) (by decide) (argsL := [(.int (0 : Int32)), (.int (Int32.ofNat ts.length))]) (rest := []) (Own.Con.pay (con_chk hw hEL _ _ (Own.nonneg H4) W0.old) W0 (tw hw 161 rfl) (tw hw 154 rfl) (len := 3) (wd := 0) (by decide) (by decide) (fun _ q => nomatch q)) rfl (lenOf pd_7 rfl) rfl (Nat.le_of_ble_eq_true rfl) d28_2 5 rfl 0 0 (Nat.le_of_ble_eq_true rfl) (Nat.le_of_ble_eq_true rfl) (Nat.le_of_ble_eq_true rfl) (Nat.le_of_ble_eq_true rfl) ?_
  intro v1 T1 h1 u1 W1 R1 hq
  obtain ⟨rfl, eh1⟩ := hq
  have ei1 := eh1.symm; subst ei1
  show Own.Go _ _ _ _ _ 5 #[.val (.ref a), .val (.int (0 : Int32)), .val (.int (Int32.ofNat ts.length)), .unset, .unset] []
  refine Own.iloadN W1 d28_5 6 rfl (Int32.ofNat ts.length) rfl ?_
  refine Own.iloadN W1 d28_6 7 rfl (0 : Int32) rfl ?_
  refine Own.isub W1 d28_7 8 rfl ?_
  rw [Int32.sub_zero]
  refine Own.istoreN W1 d28_8 9 rfl #[.val (.ref a), .val (.int (0 : Int32)), .val (.int (Int32.ofNat ts.length)), .val (.int (Int32.ofNat ts.length)), .unset] rfl ?_
  refine Own.iloadN W1 d28_9 10 rfl (Int32.ofNat ts.length) rfl ?_
  refine Own.newA W1 (tw hw 19 rfl) d28_10 12 rfl (Own.nonneg H4) 16 (by rw [Own.clampN H4]; exact hcap) (by decide) 1 16 (by decide) (by decide) (by decide) (by decide) ?_
  intro T2 h2 o2 c2 g2 W2 E2 A2 s2 k2
  have V2 : Arv G.Z h2 o2 c2 .byte (Int32.ofNat ts.length) (List.replicate 16 (.int 0)) (.int 0) := A2
  refine Own.astore W2 d28_12 14 rfl rfl #[.val (.ref a), .val (.int (0 : Int32)), .val (.int (Int32.ofNat ts.length)), .val (.int (Int32.ofNat ts.length)), .val (.ref o2)] rfl ?_
  refine Own.aloadN W2 d28_14 15 rfl (.ref a) rfl rfl ?_
  refine Own.iloadN W2 d28_15 16 rfl (0 : Int32) rfl ?_
  refine Own.aload W2 d28_16 18 rfl (.ref o2) rfl rfl ?_
  refine Own.iconst W2 d28_18 19 rfl (0 : Int32) rfl ?_
  refine Own.aloadN W2 d28_19 20 rfl (.ref a) rfl rfl ?_
  have X3 : Ext h h2 := E2
  refine Own.arrlen W2 (Ab.ext X3) d28_20 21 rfl ?_
  refine Own.iloadN W2 d28_21 22 rfl (0 : Int32) rfl ?_
  refine Own.isub W2 d28_22 23 rfl ?_
  rw [Int32.sub_zero]
  refine Own.iloadN W2 d28_23 24 rfl (Int32.ofNat ts.length) rfl ?_
  refine Own.callS W2 (tw hw 162 rfl) (tw hw 163 rfl) (tw hw 164 rfl) (tw hw 165 rfl) (by decide) (argsL := [(.int (Int32.ofNat cap)), (.int (Int32.ofNat ts.length))]) (rest := [(.int (0 : Int32)), (.ref o2), (.int (0 : Int32)), (.ref a)]) (Own.Con.pay (con_min hw hEL _ _ (Own.lt_cap hts Hc) W2.old) W2 (tw hw 165 rfl) (tw hw 164 rfl) (len := 3) (wd := 4) (by decide) (by decide) (fun _ q => nomatch q)) rfl (lenOf pd_8 rfl) rfl (Nat.le_of_ble_eq_true rfl) d28_24 27 rfl 1 16 (Nat.le_of_ble_eq_true rfl) (Nat.le_of_ble_eq_true rfl) (Nat.le_of_ble_eq_true rfl) (Nat.le_of_ble_eq_true rfl) ?_
  intro v4 T4 h4 u4 W4 R4 hq
  obtain ⟨rfl, eh4⟩ := hq
  have ei4 := eh4.symm; subst ei4
  have sf5 := R4.safe V2.lt s2
  show Own.Go _ _ _ _ _ 27 #[.val (.ref a), .val (.int (0 : Int32)), .val (.int (Int32.ofNat ts.length)), .val (.int (Int32.ofNat ts.length)), .val (.ref o2)] [(.int (Int32.ofNat ts.length)), (.int (0 : Int32)), (.ref o2), (.int (0 : Int32)), (.ref a)]
  refine Own.acopy W4 (tw hw 166 rfl) (tw hw 120 rfl) (tw hw 118 rfl) (tw hw 119 rfl) (Ab.ext X3) V2 (by decide) (by decide) (Own.nonneg H4) (by rw [show (0 : Int32).toNatClampNeg = 0 by decide, Own.clampN H4, Own.clampN Hc]; omega) (by rw [show (0 : Int32).toNatClampNeg = 0 by decide, Own.clampN H4]; omega) (us := Own.bs ts) (Own.rangePre _ (Own.clampN H4) _ (by decide)) (by rw [show (0 : Int32).toNatClampNeg = 0 by decide, Own.clampN H4, List.length_replicate]; omega) (Nat.le_trans W0.n0 (Nat.le_of_eq g2.symm)) sf5 rfl d28_27 30 rfl (by decide) (Nat.le_of_ble_eq_true rfl) ?_
  intro T6 h6 W6 R6 K6 A6
  have A' := Own.Arv.cong A6 (Own.cp_new (vd := List.replicate 16 (Value.int 0)) (Own.clampN H4) _ (by decide))
  refine Own.aload W6 d28_30 32 rfl (.ref o2) rfl rfl ?_
  have X7 : Ext h h6 := Own.Ext.kp X3 K6 (allS (Nat.le_of_eq g2.symm) all0)
  exact Own.retA W6 (by decide) (by decide) rfl rfl rfl d28_32 ⟨o2, _, rfl, X7, (Nat.le_of_eq g2.symm), A'⟩
set_option maxRecDepth 65536 in
set_option maxHeartbeats 40000000 in
theorem con_cor {G : Own.Gl} (hw : ∀ d ∈ tables_1, d.before G.a0 G.Z = true) (hEL : EW G.Z G.a0 G.EL) {cap : Nat} (Hc : cap ≤ 4000) {a : Addr} {kb : ClassId} {ts : List Int32} {junk : List Value} {h : Heap} (hO : Old G.Z G.n0 h) (Ab : Arv G.Z h a kb .byte (Int32.ofNat cap) (Own.bs ts ++ junk) (.int 0)) (hts : ts.length < cap) (hcap : ts.length ≤ 16) {fr to : Int32} (hfr : fr = 0) (hto : to = Int32.ofNat ts.length) :
    Own.Con G [] bCor #[.ref a, .int fr, .int to] h [] (fun v h' => ∃ (o : Addr) (ko : ClassId), v = some (.ref o) ∧ Ext h h' ∧ h.size ≤ o ∧ Arv G.Z h' o ko .byte (Int32.ofNat ts.length) (Own.bs ts) (.int 0)) := by
  refine Own.Con.intro (plainFor_of_name pn_3) hO hEL _ (fun m => ef_bCor m a fr to) ?_
  intro X T0 W0 sf
  subst hfr; subst hto
  have H4 : ts.length ≤ 4000 := by omega
  refine Own.iloadN W0 d27_0 1 rfl (0 : Int32) rfl ?_
  refine Own.ifNo W0 d27_1 4 (by decide) rfl ?_
  refine Own.iloadN W0 d27_4 5 rfl (Int32.ofNat ts.length) rfl ?_
  refine Own.aloadN W0 d27_5 6 rfl (.ref a) rfl rfl ?_
  refine Own.arrlen W0 Ab d27_6 7 rfl ?_
  refine Own.icmpNo W0 d27_7 10 (XT.ii_eq_f (Own.ne_cap hts Hc)) rfl ?_
  refine Own.aloadN W0 d27_10 11 rfl (.ref a) rfl rfl ?_
  refine Own.iloadN W0 d27_11 12 rfl (0 : Int32) rfl ?_
  refine Own.iloadN W0 d27_12 13 rfl (Int32.ofNat ts.length) rfl ?_
  refine Own.callS W0 (tw hw 156 rfl) (tw hw 157 rfl) (tw hw 154 rfl) (tw hw 158 rfl) (by decide) (argsL := [(.ref a), (.int (0 : Int32)), (.int (Int32.ofNat ts.length))]) (rest := []) (Own.Con.pay (con_crb hw hEL Hc W0.old Ab hts hcap rfl rfl) W0 (tw hw 158 rfl) (tw hw 154 rfl) (len := 3) (wd := 0) (by decide) (by decide) (fun _ q => nomatch q)) rfl (lenOf pd_9 rfl) rfl (Nat.le_of_ble_eq_true rfl) d27_13 16 rfl 1 16 (Nat.le_of_ble_eq_true rfl) (Nat.le_of_ble_eq_true rfl) (Nat.le_of_ble_eq_true rfl) (Nat.le_of_ble_eq_true rfl) ?_
  intro v1 T1 h1 u1 W1 R1 hq
  obtain ⟨o1, c1, rfl, E1, g1, A1⟩ := hq
  show Own.Go _ _ _ _ _ 16 #[.val (.ref a), .val (.int (0 : Int32)), .val (.int (Int32.ofNat ts.length))] [(.ref o1)]
  exact Own.retA W1 (by decide) (by decide) rfl rfl rfl d27_16 ⟨o1, _, rfl, E1, g1, A1⟩
set_option maxRecDepth 65536 in
set_option maxHeartbeats 40000000 in
theorem con_n2 {G : Own.Gl} (hw : ∀ d ∈ tables_1, d.before G.a0 G.Z = true) (hEL : EW G.Z G.a0 G.EL) (hmem : (Own.ST, 7) ∈ G.EL) {cz : Int32} (hS : Sta G.Z G.Z.heap Own.ST "COMPACT_STRINGS" "Z" (.int cz)) (hcz : ¬ cz = 0) {cap : Nat} {sb b : Addr} {ts : List Int32} {h : Heap} (hO : Old G.Z G.n0 h) (F : Own.SBd G.Z h sb b cap ts) {x : Addr} (hn_x : G.n0 ≤ x) (E0 : Exa G.Z h x "java/lang/String") {v0 c0 : Value} (V : Fld G.Z h x "java/lang/String" "value" "[B" v0) (Cd : Fld G.Z h x "java/lang/String" "coder" "B" c0) (hxb : b ≠ x) (hts : ts.length < cap) (hcap : ts.length ≤ 16) :
    Own.Con G [] bN2 #[.ref x, .ref sb, .null] h [x] (fun v h' => v = none ∧ Keep h h' [x] ∧ Own.Str G.Z h' x ts) := by
  refine Own.Con.intro (plainFor_of_name pn_2) hO hEL _ (fun m => ef_bN2 m x sb) ?_
  intro X T0 W0 sf
  obtain ⟨E, Fv, Fc, Fn, Hr, Hl, Hc, kb, junk, Ab, Hj⟩ := id F
  have sx := sf x (List.mem_singleton.mpr rfl)
  refine Own.aloadN W0 d22_0 1 rfl (.ref x) rfl rfl ?_
  refine Own.initO W0 (tw hw 11 rfl) (tw hw 12 rfl) (tw hw 13 rfl) rfl d22_1 4 rfl (by decide) (by decide) ?_
  intro T1 W1
  refine Own.aloadN W1 d22_4 5 rfl (.ref sb) rfl rfl ?_
  refine Own.callV W1 (tw hw 134 rfl) (tw hw 135 rfl) (fun s q => notFace_of_selects (args := #[]) (mvT (s := s) q (tw hw 137 rfl))) (tw hw 137 rfl) (tw hw 136 rfl) (by decide) (argsL := []) (rest := []) (Own.Con.pay (con_gv hw hEL W1.old F) W1 (tw hw 138 rfl) (tw hw 63 rfl) (len := 3) (wd := 0) (by decide) (by decide) (fun _ q => nomatch q)) E rfl (lenOf pd_10 rfl) rfl (Nat.le_of_ble_eq_true rfl) d22_5 8 rfl 0 0 (Nat.le_of_ble_eq_true rfl) (Nat.le_of_ble_eq_true rfl) (Nat.le_of_ble_eq_true rfl) (Nat.le_of_ble_eq_true rfl) ?_
  intro v2 T2 h2 u2 W2 R2 hq
  obtain ⟨rfl, eh2⟩ := hq
  have ei2 := eh2.symm; subst ei2
  have sf3 := R2.safe E0.lt sx
  show Own.Go _ _ _ _ _ 8 #[.val (.ref x), .val (.ref sb), .val .null, .unset, .unset] [(.ref b)]
  refine Own.astoreN W2 d22_8 9 rfl rfl #[.val (.ref x), .val (.ref sb), .val .null, .val (.ref b), .unset] rfl ?_
  refine Own.aloadN W2 d22_9 10 rfl (.ref sb) rfl rfl ?_
  refine Own.callV W2 (tw hw 139 rfl) (tw hw 140 rfl) (fun s q => Own.notFace_via (args := #[]) (mvT (s := s) q (tw hw 99 rfl)) rfl) (tw hw 142 rfl) (tw hw 143 rfl) (by decide) (argsL := []) (rest := []) (Own.Con.pay (con_sbl hw hEL W2.old F) W2 (tw hw 144 rfl) (tw hw 55 rfl) (len := 3) (wd := 0) (by decide) (by decide) (fun _ q => nomatch q)) E rfl (lenOf pd_4 rfl) rfl (Nat.le_of_ble_eq_true rfl) d22_10 13 rfl 0 0 (Nat.le_of_ble_eq_true rfl) (Nat.le_of_ble_eq_true rfl) (Nat.le_of_ble_eq_true rfl) (Nat.le_of_ble_eq_true rfl) ?_
  intro v4 T4 h4 u4 W4 R4 hq
  obtain ⟨rfl, eh4⟩ := hq
  have ei4 := eh4.symm; subst ei4
  have sf5 := R4.safe E0.lt sf3
  show Own.Go _ _ _ _ _ 13 #[.val (.ref x), .val (.ref sb), .val .null, .val (.ref b), .unset] [(.int (Int32.ofNat ts.length))]
  refine Own.istore W4 d22_13 15 rfl #[.val (.ref x), .val (.ref sb), .val .null, .val (.ref b), .val (.int (Int32.ofNat ts.length))] rfl ?_
  refine Own.aloadN W4 d22_15 16 rfl (.ref sb) rfl rfl ?_
  refine Own.callV W4 (tw hw 147 rfl) (tw hw 148 rfl) (fun s q => notFace_of_selects (args := #[]) (mvT (s := s) q (tw hw 150 rfl))) (tw hw 150 rfl) (tw hw 149 rfl) (by decide) (argsL := []) (rest := []) (Own.Con.pay (con_il hw hEL hmem hS hcz W4.old F) W4 (tw hw 151 rfl) (tw hw 63 rfl) (len := 3) (wd := 0) (by decide) (by decide) (fun _ q => nomatch q)) E rfl (lenOf pd_11 rfl) rfl (Nat.le_of_ble_eq_true rfl) d22_16 19 rfl 0 0 (Nat.le_of_ble_eq_true rfl) (Nat.le_of_ble_eq_true rfl) (Nat.le_of_ble_eq_true rfl) (Nat.le_of_ble_eq_true rfl) ?_
  intro v6 T6 h6 u6 W6 R6 hq
  obtain ⟨rfl, eh6⟩ := hq
  have ei6 := eh6.symm; subst ei6
  have sf7 := R6.safe E0.lt sf5
  show Own.Go _ _ _ _ _ 19 #[.val (.ref x), .val (.ref sb), .val .null, .val (.ref b), .val (.int (Int32.ofNat ts.length))] [(.int (1 : Int32))]
  refine Own.ifNo W6 d22_19 22 (by decide) rfl ?_
  refine Own.aloadN W6 d22_22 23 rfl (.ref x) rfl rfl ?_
  refine Own.iconst W6 d22_23 24 rfl (0 : Int32) rfl ?_
  refine Own.putF W6 (tw hw 26 rfl) Via.refl Cd E0 (Or.inr ⟨(tw hw 27 rfl), rfl, rfl⟩) (tw hw 2 rfl) (ty := .byte) (v' := (.int (0 : Int32))) (by decide) rfl rfl hn_x sf7 d22_24 27 rfl ?_
  intro T8 h8 W8 Q8 k8
  have F8_coder := Fld.same Q8 Cd
  refine Own.aloadN W8 d22_27 28 rfl (.ref x) rfl rfl ?_
  refine Own.aloadN W8 d22_28 29 rfl (.ref b) rfl rfl ?_
  refine Own.iconst W8 d22_29 30 rfl (0 : Int32) rfl ?_
  refine Own.iload W8 d22_30 32 rfl (Int32.ofNat ts.length) rfl ?_
  refine Own.callS W8 (tw hw 152 rfl) (tw hw 153 rfl) (tw hw 154 rfl) (tw hw 155 rfl) (by decide) (argsL := [(.ref b), (.int (0 : Int32)), (.int (Int32.ofNat ts.length))]) (rest := [(.ref x)]) (Own.Con.pay (con_cor hw hEL Hc W8.old (Ab.other Q8 hxb) hts hcap rfl rfl) W8 (tw hw 155 rfl) (tw hw 154 rfl) (len := 3) (wd := 1) (by decide) (by decide) (fun _ q => nomatch q)) rfl (lenOf pd_9 rfl) rfl (Nat.le_of_ble_eq_true rfl) d22_32 35 rfl 1 16 (Nat.le_of_ble_eq_true rfl) (Nat.le_of_ble_eq_true rfl) (Nat.le_of_ble_eq_true rfl) (Nat.le_of_ble_eq_true rfl) ?_
  intro v9 T9 h9 u9 W9 R9 hq
  obtain ⟨o9, c9, rfl, E9, g9, A9⟩ := hq
  show Own.Go _ _ _ _ _ 35 #[.val (.ref x), .val (.ref sb), .val .null, .val (.ref b), .val (.int (Int32.ofNat ts.length))] [(.ref o9), (.ref x)]
  refine Own.putF W9 (tw hw 28 rfl) Via.refl ((V.other Q8 (Or.inr (slot_ne (Or.inr (tw hw 29 rfl)) (Or.inr (tw hw 27 rfl)) (by decide) (t := (.array .byte)) (t' := .byte) (by decide) (by decide)))).ext E9) ((E0.wr Q8).ext E9) (Or.inr ⟨(tw hw 29 rfl), rfl, rfl⟩) (tw hw 2 rfl) (ty := (.array .byte)) (v' := (.ref o9)) (by decide) rfl rfl hn_x (R9.safe (E0.wr Q8).lt (k8 x sf7)) d22_35 38 rfl ?_
  intro T10 h10 W10 Q10 k10
  have F10_value := Fld.same Q10 ((V.other Q8 (Or.inr (slot_ne (Or.inr (tw hw 29 rfl)) (Or.inr (tw hw 27 rfl)) (by decide) (t := (.array .byte)) (t' := .byte) (by decide) (by decide)))).ext E9)
  refine Own.goto W10 d22_38 97 (by decide) (by decide) ?_
  exact Own.retV W10 (by decide) (by decide) rfl d22_97 ⟨rfl, (Keep.wr (Keep.ext (Keep.wr (Keep.refl h [x]) Q8 (Or.inl (by simp))) E9) Q10 (Or.inl (by simp))), (((E0.wr Q8).ext E9).wr Q10), ((F8_coder.ext E9).other Q10 (Or.inr (slot_ne (Or.inr (tw hw 27 rfl)) (Or.inr (tw hw 29 rfl)) (by decide) (t := .byte) (t' := (.array .byte)) (by decide) (by decide)))), Hr, by omega, o9, _, F10_value, (A9.other Q10 (Ne.symm (Nat.ne_of_lt (Nat.lt_of_lt_of_le F8_coder.lt g9))))⟩
set_option maxRecDepth 65536 in
set_option maxHeartbeats 40000000 in
theorem con_n1 {G : Own.Gl} (hw : ∀ d ∈ tables_1, d.before G.a0 G.Z = true) (hEL : EW G.Z G.a0 G.EL) (hmem : (Own.ST, 7) ∈ G.EL) {cz : Int32} (hS : Sta G.Z G.Z.heap Own.ST "COMPACT_STRINGS" "Z" (.int cz)) (hcz : ¬ cz = 0) {cap : Nat} {sb b : Addr} {ts : List Int32} {h : Heap} (hO : Old G.Z G.n0 h) (F : Own.SBd G.Z h sb b cap ts) {x : Addr} (hn_x : G.n0 ≤ x) (E0 : Exa G.Z h x "java/lang/String") {v0 c0 : Value} (V : Fld G.Z h x "java/lang/String" "value" "[B" v0) (Cd : Fld G.Z h x "java/lang/String" "coder" "B" c0) (hxb : b ≠ x) (hts : ts.length < cap) (hcap : ts.length ≤ 16) :
    Own.Con G [] bN1 #[.ref x, .ref sb] h [x] (fun v h' => v = none ∧ Keep h h' [x] ∧ Own.Str G.Z h' x ts) := by
  refine Own.Con.intro (plainFor_of_name pn_2) hO hEL _ (fun m => ef_bN1 m x sb) ?_
  intro X T0 W0 sf
  have sx := sf x (List.mem_singleton.mpr rfl)
  refine Own.aloadN W0 d21_0 1 rfl (.ref x) rfl rfl ?_
  refine Own.aloadN W0 d21_1 2 rfl (.ref sb) rfl rfl ?_
  refine Own.aconstNull W0 d21_2 3 rfl ?_
  refine Own.callX W0 rfl (tw hw 131 rfl) (tw hw 132 rfl) (tw hw 133 rfl) (by decide) (argsL := [(.ref sb), .null]) (rest := []) (Own.Con.pay (con_n2 hw hEL hmem hS hcz W0.old F hn_x E0 V Cd hxb hts hcap) W0 (tw hw 133 rfl) (tw hw 3 rfl) (len := 3) (wd := 0) (by decide) (by decide) (fun y hy => by cases List.mem_singleton.mp hy; exact ⟨E0.lt, sx⟩)) rfl (lenOf pd_12 rfl) rfl (Nat.le_of_ble_eq_true rfl) d21_3 6 rfl 1 16 (Nat.le_of_ble_eq_true rfl) (Nat.le_of_ble_eq_true rfl) (Nat.le_of_ble_eq_true rfl) (Nat.le_of_ble_eq_true rfl) ?_
  intro v1 T1 h1 u1 W1 R1 hq
  obtain ⟨rfl, K1, S1⟩ := hq
  show Own.Go _ _ _ _ _ 6 #[.val (.ref x), .val (.ref sb)] []
  exact Own.retV W1 (by decide) (by decide) rfl d21_6 ⟨rfl, K1, S1⟩
set_option maxRecDepth 65536 in
set_option maxHeartbeats 40000000 in
theorem con_tos {G : Own.Gl} (hw : ∀ d ∈ tables_1, d.before G.a0 G.Z = true) (hEL : EW G.Z G.a0 G.EL) (hmem : (Own.ST, 7) ∈ G.EL) {cz : Int32} (hS : Sta G.Z G.Z.heap Own.ST "COMPACT_STRINGS" "Z" (.int cz)) (hcz : ¬ cz = 0) {cap : Nat} {sb b : Addr} {ts : List Int32} {h : Heap} (hO : Old G.Z G.n0 h) (F : Own.SBd G.Z h sb b cap ts) (hts : ts.length < cap) (hcap : ts.length ≤ 16) :
    Own.Con G [] bTos #[.ref sb] h [] (fun v h' => ∃ o : Addr, v = some (.ref o) ∧ Ext h h' ∧ h.size ≤ o ∧ Own.Str G.Z h' o ts) := by
  refine Own.Con.intro (plainFor_of_name pn_1) hO hEL _ (fun m => ef_bTos m sb) ?_
  intro X T0 W0 sf
  refine Own.newO W0 (tw hw 127 rfl) (tw hw 2 rfl) (tw hw 3 rfl) d20_0 3 rfl 1 4 (by decide) (by decide) (by decide) (by decide) ?_
  intro T1 h1 o1 g1 W1 E1 A1 D1 s1 k1
  have F1_coder : Fld G.Z h1 o1 "java/lang/String" "coder" "B" (.int (0 : Int32)) := D1 (Or.inr (tw hw 27 rfl)) (ty := .byte) (by decide)
  have F1_value : Fld G.Z h1 o1 "java/lang/String" "value" "[B" .null := D1 (Or.inr (tw hw 29 rfl)) (ty := (.array .byte)) (by decide)
  refine Own.dup W1 d20_3 4 rfl rfl ?_
  refine Own.aloadN W1 d20_4 5 rfl (.ref sb) rfl rfl ?_
  have X2 : Ext h h1 := E1
  refine Own.callX W1 rfl (tw hw 128 rfl) (tw hw 129 rfl) (tw hw 130 rfl) (by decide) (argsL := [(.ref sb)]) (rest := [(.ref o1)]) (Own.Con.pay (con_n1 hw hEL hmem hS hcz W1.old (F.ext X2) (Nat.le_trans W0.n0 (Nat.le_of_eq g1.symm)) A1 F1_value F1_coder (Nat.ne_of_lt (Nat.lt_of_lt_of_le F.ltb (Nat.le_of_eq g1.symm))) hts hcap) W1 (tw hw 130 rfl) (tw hw 3 rfl) (len := 3) (wd := 1) (by decide) (by decide) (fun y hy => by cases List.mem_singleton.mp hy; exact ⟨A1.lt, s1⟩)) rfl (lenOf pd_13 rfl) rfl (Nat.le_of_ble_eq_true rfl) d20_5 8 rfl 2 20 (Nat.le_of_ble_eq_true rfl) (Nat.le_of_ble_eq_true rfl) (Nat.le_of_ble_eq_true rfl) (Nat.le_of_ble_eq_true rfl) ?_
  intro v3 T3 h3 u3 W3 R3 hq
  obtain ⟨rfl, K3, S3⟩ := hq
  show Own.Go _ _ _ _ _ 8 #[.val (.ref sb)] [(.ref o1)]
  have X4 : Ext h h3 := Own.Ext.kp X2 K3 (allS (Nat.le_of_eq g1.symm) all0)
  exact Own.retA W3 (by decide) (by decide) rfl rfl rfl d20_8 ⟨o1, rfl, X4, (Nat.le_of_eq g1.symm), S3⟩
set_option maxRecDepth 65536 in
set_option maxHeartbeats 40000000 in
theorem con_rec {G : Own.Gl} (hw : ∀ d ∈ tables_1, d.before G.a0 G.Z = true) (hEL : EW G.Z G.a0 G.EL) (a : Addr) {h : Heap} (hO : Old G.Z G.n0 h) :
    Own.Con G [] bRec #[.ref a] h [] (fun v h' => v = none ∧ h' = h) := by
  refine Own.Con.intro (plainFor_of_name pn_4) hO hEL _ (fun m => ef_bRec m a) ?_
  intro X T0 W0 sf
  refine Own.aloadN W0 d8_0 1 rfl (.ref a) rfl rfl ?_
  refine Own.initO W0 (tw hw 41 rfl) (tw hw 12 rfl) (tw hw 13 rfl) rfl d8_1 4 rfl (by decide) (by decide) ?_
  intro T1 W1
  exact Own.retV W1 (by decide) (by decide) rfl d8_4 ⟨rfl, rfl⟩
set_option maxRecDepth 65536 in
set_option maxHeartbeats 40000000 in
theorem con_tag {G : Own.Gl} (hw : ∀ d ∈ tables_1, d.before G.a0 G.Z = true) (hEL : EW G.Z G.a0 G.EL) {a : Addr} (nm : Addr) {cl : Int32} (ln : Int64) (hnar : narrow .boolean (.int cl) = .int cl) (hfit : fits .boolean (.int cl) = true) {h : Heap} (hO : Old G.Z G.n0 h) (hn_a : G.n0 ≤ a) (E : Exa G.Z h a "com/example/lopa/lopa/trec/SgmlScanner$Tag") {u_name : Value} (F_name : Fld G.Z h a "com/example/lopa/lopa/trec/SgmlScanner$Tag" "name" "Ljava/lang/String;" u_name) {u_closing : Value} (F_closing : Fld G.Z h a "com/example/lopa/lopa/trec/SgmlScanner$Tag" "closing" "Z" u_closing) {u_line : Value} (F_line : Fld G.Z h a "com/example/lopa/lopa/trec/SgmlScanner$Tag" "line" "J" u_line) :
    Own.Con G [] bTag #[.ref a, .ref nm, .int cl, .long ln] h [] (fun v h' => v = none ∧ Keep h h' [a] ∧ Exa G.Z h' a "com/example/lopa/lopa/trec/SgmlScanner$Tag" ∧ Fld G.Z h' a "com/example/lopa/lopa/trec/SgmlScanner$Tag" "name" "Ljava/lang/String;" (.ref nm) ∧ Fld G.Z h' a "com/example/lopa/lopa/trec/SgmlScanner$Tag" "closing" "Z" (.int cl)) := by
  refine Own.Con.intro (plainFor_of_name pn_5) hO hEL _ (fun m => ef_bTag m a nm cl ln) ?_
  intro X T0 W0 sf
  refine Own.aloadN W0 d7_0 1 rfl (.ref a) rfl rfl ?_
  refine Own.callX W0 rfl (tw hw 36 rfl) (tw hw 37 rfl) (tw hw 40 rfl) (by decide) (argsL := []) (rest := []) (Own.Con.pay (con_rec hw hEL a W0.old) W0 (tw hw 40 rfl) (tw hw 39 rfl) (len := 3) (wd := 0) (by decide) (by decide) (fun _ q => nomatch q)) rfl (lenOf pd_14 rfl) rfl (Nat.le_of_ble_eq_true rfl) d7_1 4 rfl 0 0 (Nat.le_of_ble_eq_true rfl) (Nat.le_of_ble_eq_true rfl) (Nat.le_of_ble_eq_true rfl) (Nat.le_of_ble_eq_true rfl) ?_
  intro v1 T1 h1 u1 W1 R1 hq
  obtain ⟨rfl, eh1⟩ := hq
  have ei1 := eh1.symm; subst ei1
  show Own.Go _ _ _ _ _ 4 #[.val (.ref a), .val (.ref nm), .val (.int cl), .val (.long ln), .second] []
  refine Own.aloadN W1 d7_4 5 rfl (.ref a) rfl rfl ?_
  refine Own.aloadN W1 d7_5 6 rfl (.ref nm) rfl rfl ?_
  refine Own.putF W1 (tw hw 42 rfl) Via.refl F_name E (Or.inr ⟨(tw hw 43 rfl), rfl, rfl⟩) (tw hw 31 rfl) (ty := (.object "java/lang/String")) (v' := (.ref nm)) (by decide) rfl rfl hn_a (Safe.exa W1.wz.alike E (by decide) (by decide)) d7_6 9 rfl ?_
  intro T2 h2 W2 Q2 k2
  have F2_name := Fld.same Q2 F_name
  refine Own.aloadN W2 d7_9 10 rfl (.ref a) rfl rfl ?_
  refine Own.iloadN W2 d7_10 11 rfl cl rfl ?_
  refine Own.putF W2 (tw hw 44 rfl) Via.refl (F_closing.other Q2 (Or.inr (slot_ne (Or.inr (tw hw 45 rfl)) (Or.inr (tw hw 43 rfl)) (by decide) (t := .boolean) (t' := (.object "java/lang/String")) (by decide) (by decide)))) (E.wr Q2) (Or.inr ⟨(tw hw 45 rfl), rfl, rfl⟩) (tw hw 31 rfl) (ty := .boolean) (v' := (.int cl)) (by decide) hnar hfit hn_a (Safe.exa W2.wz.alike (E.wr Q2) (by decide) (by decide)) d7_11 14 rfl ?_
  intro T3 h3 W3 Q3 k3
  have F3_closing := Fld.same Q3 (F_closing.other Q2 (Or.inr (slot_ne (Or.inr (tw hw 45 rfl)) (Or.inr (tw hw 43 rfl)) (by decide) (t := .boolean) (t' := (.object "java/lang/String")) (by decide) (by decide))))
  refine Own.aloadN W3 d7_14 15 rfl (.ref a) rfl rfl ?_
  refine Own.lloadN W3 d7_15 16 rfl ln rfl ?_
  refine Own.putF W3 (tw hw 46 rfl) Via.refl ((F_line.other Q2 (Or.inr (slot_ne (Or.inr (tw hw 47 rfl)) (Or.inr (tw hw 43 rfl)) (by decide) (t := .long) (t' := (.object "java/lang/String")) (by decide) (by decide)))).other Q3 (Or.inr (slot_ne (Or.inr (tw hw 47 rfl)) (Or.inr (tw hw 45 rfl)) (by decide) (t := .long) (t' := .boolean) (by decide) (by decide)))) ((E.wr Q2).wr Q3) (Or.inr ⟨(tw hw 47 rfl), rfl, rfl⟩) (tw hw 31 rfl) (ty := .long) (v' := (.long ln)) (by decide) rfl rfl hn_a (Safe.exa W3.wz.alike ((E.wr Q2).wr Q3) (by decide) (by decide)) d7_16 19 rfl ?_
  intro T4 h4 W4 Q4 k4
  have F4_line := Fld.same Q4 ((F_line.other Q2 (Or.inr (slot_ne (Or.inr (tw hw 47 rfl)) (Or.inr (tw hw 43 rfl)) (by decide) (t := .long) (t' := (.object "java/lang/String")) (by decide) (by decide)))).other Q3 (Or.inr (slot_ne (Or.inr (tw hw 47 rfl)) (Or.inr (tw hw 45 rfl)) (by decide) (t := .long) (t' := .boolean) (by decide) (by decide))))
  exact Own.retV W4 (by decide) (by decide) rfl d7_19 ⟨rfl, (Keep.wr (Keep.wr (Keep.wr (Keep.refl h [a]) Q2 (Or.inl (by simp))) Q3 (Or.inl (by simp))) Q4 (Or.inl (by simp))), (((E.wr Q2).wr Q3).wr Q4), ((F2_name.other Q3 (Or.inr (slot_ne (Or.inr (tw hw 43 rfl)) (Or.inr (tw hw 45 rfl)) (by decide) (t := (.object "java/lang/String")) (t' := .boolean) (by decide) (by decide)))).other Q4 (Or.inr (slot_ne (Or.inr (tw hw 43 rfl)) (Or.inr (tw hw 47 rfl)) (by decide) (t := (.object "java/lang/String")) (t' := .long) (by decide) (by decide)))), (F3_closing.other Q4 (Or.inr (slot_ne (Or.inr (tw hw 45 rfl)) (Or.inr (tw hw 47 rfl)) (by decide) (t := .boolean) (t' := .long) (by decide) (by decide))))⟩
set_option maxRecDepth 65536 in
set_option maxHeartbeats 40000000 in
theorem con_tst0 {G : Own.Gl} (hw : ∀ d ∈ tables_1, d.before G.a0 G.Z = true) (hEL : EW G.Z G.a0 G.EL) (hmem : (Own.ST, 7) ∈ G.EL) {cz : Int32} (hS : Sta G.Z G.Z.heap Own.ST "COMPACT_STRINGS" "Z" (.int cz)) (hcz : ¬ cz = 0) (hE : G.EL = consts_1) (hEN : Own.EN G.Z G.a0 G.EL 16) {a nm : Addr} {cs : List Int32} (hcs : cs.length ≤ 3) {h : Heap} (hO : Old G.Z G.n0 h) (Fn : Fld G.Z h a "com/example/lopa/lopa/trec/SgmlScanner$Tag" "name" "Ljava/lang/String;" (.ref nm)) (Fc : Fld G.Z h a "com/example/lopa/lopa/trec/SgmlScanner$Tag" "closing" "Z" (.int 0)) (Sn : Own.Str G.Z h nm cs) :
    Own.Con G [] bTst0 #[.ref a] h [] (fun v h' => ∃ o : Addr, v = some (.ref o) ∧ Ext h h' ∧ h.size ≤ o ∧ Own.Str G.Z h' o ((([] ++ [(60 : Int32)]) ++ cs) ++ [(62 : Int32)])) := by
  refine Own.Con.intro (plainFor_of_name pn_5) hO hEL _ (fun m => ef_bTst0 m a) ?_
  intro X T0 W0 sf
  refine Own.newO W0 (tw hw 53 rfl) (tw hw 54 rfl) (tw hw 55 rfl) d9_0 3 rfl 1 4 (by decide) (by decide) (by decide) (by decide) ?_
  intro T1 h1 o1 g1 W1 E1 A1 D1 s1 k1
  have F1_value : Fld G.Z h1 o1 "java/lang/AbstractStringBuilder" "value" "[B" .null := D1 (Or.inl (tw hw 68 rfl)) (ty := (.array .byte)) (by decide)
  have F1_coder : Fld G.Z h1 o1 "java/lang/AbstractStringBuilder" "coder" "B" (.int (0 : Int32)) := D1 (Or.inl (tw hw 70 rfl)) (ty := .byte) (by decide)
  have F1_count : Fld G.Z h1 o1 "java/lang/AbstractStringBuilder" "count" "I" (.int (0 : Int32)) := D1 (Or.inl (tw hw 95 rfl)) (ty := .int) (by decide)
  refine Own.dup W1 d9_3 4 rfl rfl ?_
  refine Own.callX W1 rfl (tw hw 56 rfl) (tw hw 57 rfl) (tw hw 58 rfl) (by decide) (argsL := []) (rest := [(.ref o1)]) (Own.Con.pay (con_si hw hEL hmem hS hcz W1.old (Nat.le_trans W0.n0 (Nat.le_of_eq g1.symm)) A1 F1_value F1_coder F1_count) W1 (tw hw 58 rfl) (tw hw 55 rfl) (len := 3) (wd := 1) (by decide) (by decide) (fun _ q => nomatch q)) rfl (lenOf pd_14 rfl) rfl (Nat.le_of_ble_eq_true rfl) d9_4 7 rfl 2 20 (Nat.le_of_ble_eq_true rfl) (Nat.le_of_ble_eq_true rfl) (Nat.le_of_ble_eq_true rfl) (Nat.le_of_ble_eq_true rfl) ?_
  intro v2 T2 h2 u2 W2 R2 hq
  obtain ⟨rfl, K2, b2, g2, F2⟩ := hq
  show Own.Go _ _ _ _ _ 7 #[.val (.ref a)] [(.ref o1)]
  refine Own.aloadN W2 d9_7 8 rfl (.ref a) rfl rfl ?_
  have X3 : Ext h h1 := E1
  have X4 : Ext h h2 := Own.Ext.kp X3 K2 (allS (Nat.le_of_eq g1.symm) all0)
  refine Own.getF W2 (tw hw 44 rfl) Via.refl (Fc.ext X4) d9_8 11 rfl ?_
  intro T5 W5
  refine Own.ifYes W5 d9_11 19 (by decide) (by decide) (by decide) ?_
  refine Own.ldcR W5 (tw hw 71 rfl) (Own.sAtoms (wS hw)) (by rw [hE]; decide) (vs := [(.int (60 : Int32))]) (z := (1 : Int32)) ⟨by decide, by decide⟩ (by decide) (by decide) d9_19 21 rfl 4 (by decide) (by decide) 4 28 (Nat.le_of_ble_eq_true rfl) (Nat.le_of_ble_eq_true rfl) (Nat.le_of_ble_eq_true rfl) (Nat.le_of_ble_eq_true rfl) ?_
  intro v6 T6 h6 o6 b6 q6 W6 R6 E6 fa6 fc6 fv6 fb6 ne6
  have F6 : Own.Str G.Z h6 o6 [(60 : Int32)] := ⟨fa6, fc6, by decide, by decide, b6, q6, fv6, fb6⟩
  have X8 : Ext h2 h6 := E6
  have ZE7 := (F2.ext X8).exa
  refine Own.callV W6 (tw hw 74 rfl) (tw hw 75 rfl) (fun s q => notFace_of_selects (args := #[]) (mvT (s := s) q (tw hw 77 rfl))) (tw hw 77 rfl) (tw hw 76 rfl) (by decide) (argsL := [(.ref o6)]) (rest := []) (Own.Con.pay (con_app hw hEL hmem hS hcz hEN W6.old (Nat.le_trans W0.n0 (Nat.le_of_eq g1.symm)) (Nat.le_trans W0.n0 (Nat.le_trans X3.1 g2)) (Nat.ne_of_lt (Nat.lt_of_lt_of_le A1.lt g2)) (F2.ext X8) F6 (by decide)) W6 (tw hw 78 rfl) (tw hw 55 rfl) (len := 3) (wd := 0) (by decide) (by decide) (fun _ q => nomatch q)) ZE7 rfl (lenOf pd_15 rfl) rfl (Nat.le_of_ble_eq_true rfl) d9_21 24 rfl 4 28 (Nat.le_of_ble_eq_true rfl) (Nat.le_of_ble_eq_true rfl) (Nat.le_of_ble_eq_true rfl) (Nat.le_of_ble_eq_true rfl) ?_
  intro v9 T9 h9 u9 W9 R9 hq
  obtain ⟨rfl, K9, F9⟩ := hq
  show Own.Go _ _ _ _ _ 24 #[.val (.ref a)] [(.ref o1)]
  refine Own.aloadN W9 d9_24 25 rfl (.ref a) rfl rfl ?_
  have X10 : Ext h h6 := Own.Ext.tr X4 E6
  have X11 : Ext h h9 := Own.Ext.kp X10 K9 (allS (Nat.le_of_eq g1.symm) (allS (Nat.le_trans X3.1 g2) all0))
  refine Own.getF W9 (tw hw 42 rfl) Via.refl (Fn.ext X11) d9_25 28 rfl ?_
  intro T12 W12
  have ZE13 := F9.exa
  refine Own.callV W12 (tw hw 74 rfl) (tw hw 75 rfl) (fun s q => notFace_of_selects (args := #[]) (mvT (s := s) q (tw hw 77 rfl))) (tw hw 77 rfl) (tw hw 76 rfl) (by decide) (argsL := [(.ref nm)]) (rest := []) (Own.Con.pay (con_app hw hEL hmem hS hcz hEN W12.old (Nat.le_trans W0.n0 (Nat.le_of_eq g1.symm)) (Nat.le_trans W0.n0 (Nat.le_trans X3.1 g2)) (Nat.ne_of_lt (Nat.lt_of_lt_of_le A1.lt g2)) F9 (Sn.ext X11) (by simp only [List.length_append, List.length_cons, List.length_nil]; omega)) W12 (tw hw 78 rfl) (tw hw 55 rfl) (len := 3) (wd := 0) (by decide) (by decide) (fun _ q => nomatch q)) ZE13 rfl (lenOf pd_15 rfl) rfl (Nat.le_of_ble_eq_true rfl) d9_28 31 rfl 4 28 (Nat.le_of_ble_eq_true rfl) (Nat.le_of_ble_eq_true rfl) (Nat.le_of_ble_eq_true rfl) (Nat.le_of_ble_eq_true rfl) ?_
  intro v14 T14 h14 u14 W14 R14 hq
  obtain ⟨rfl, K14, F14⟩ := hq
  show Own.Go _ _ _ _ _ 31 #[.val (.ref a)] [(.ref o1)]
  refine Own.ldcR W14 (tw hw 121 rfl) (Own.sAtoms (wS hw)) (by rw [hE]; decide) (vs := [(.int (62 : Int32))]) (z := (1 : Int32)) ⟨by decide, by decide⟩ (by decide) (by decide) d9_31 33 rfl 4 (by decide) (by decide) 6 36 (Nat.le_of_ble_eq_true rfl) (Nat.le_of_ble_eq_true rfl) (Nat.le_of_ble_eq_true rfl) (Nat.le_of_ble_eq_true rfl) ?_
  intro v15 T15 h15 o15 b15 q15 W15 R15 E15 fa15 fc15 fv15 fb15 ne15
  have F15 : Own.Str G.Z h15 o15 [(62 : Int32)] := ⟨fa15, fc15, by decide, by decide, b15, q15, fv15, fb15⟩
  have X17 : Ext h14 h15 := E15
  have ZE16 := (F14.ext X17).exa
  refine Own.callV W15 (tw hw 74 rfl) (tw hw 75 rfl) (fun s q => notFace_of_selects (args := #[]) (mvT (s := s) q (tw hw 77 rfl))) (tw hw 77 rfl) (tw hw 76 rfl) (by decide) (argsL := [(.ref o15)]) (rest := []) (Own.Con.pay (con_app hw hEL hmem hS hcz hEN W15.old (Nat.le_trans W0.n0 (Nat.le_of_eq g1.symm)) (Nat.le_trans W0.n0 (Nat.le_trans X3.1 g2)) (Nat.ne_of_lt (Nat.lt_of_lt_of_le A1.lt g2)) (F14.ext X17) F15 (by simp only [List.length_append, List.length_cons, List.length_nil]; omega)) W15 (tw hw 78 rfl) (tw hw 55 rfl) (len := 3) (wd := 0) (by decide) (by decide) (fun _ q => nomatch q)) ZE16 rfl (lenOf pd_15 rfl) rfl (Nat.le_of_ble_eq_true rfl) d9_33 36 rfl 6 36 (Nat.le_of_ble_eq_true rfl) (Nat.le_of_ble_eq_true rfl) (Nat.le_of_ble_eq_true rfl) (Nat.le_of_ble_eq_true rfl) ?_
  intro v18 T18 h18 u18 W18 R18 hq
  obtain ⟨rfl, K18, F18⟩ := hq
  show Own.Go _ _ _ _ _ 36 #[.val (.ref a)] [(.ref o1)]
  have ZE19 := F18.exa
  refine Own.callV W18 (tw hw 122 rfl) (tw hw 123 rfl) (fun s q => notFace_of_selects (args := #[]) (mvT (s := s) q (tw hw 125 rfl))) (tw hw 125 rfl) (tw hw 124 rfl) (by decide) (argsL := []) (rest := []) (Own.Con.pay (con_tos hw hEL hmem hS hcz W18.old F18 (by simp only [List.length_append, List.length_cons, List.length_nil]; omega) (by simp only [List.length_append, List.length_cons, List.length_nil]; omega)) W18 (tw hw 126 rfl) (tw hw 55 rfl) (len := 3) (wd := 0) (by decide) (by decide) (fun _ q => nomatch q)) ZE19 rfl (lenOf pd_16 rfl) rfl (Nat.le_of_ble_eq_true rfl) d9_36 39 rfl 8 56 (Nat.le_of_ble_eq_true rfl) (Nat.le_of_ble_eq_true rfl) (Nat.le_of_ble_eq_true rfl) (Nat.le_of_ble_eq_true rfl) ?_
  intro v20 T20 h20 u20 W20 R20 hq
  obtain ⟨o20, rfl, E20, g20, S20⟩ := hq
  show Own.Go _ _ _ _ _ 39 #[.val (.ref a)] [(.ref o20)]
  have X21 : Ext h h14 := Own.Ext.kp X11 K14 (allS (Nat.le_of_eq g1.symm) (allS (Nat.le_trans X3.1 g2) all0))
  have X22 : Ext h h15 := Own.Ext.tr X21 E15
  have X23 : Ext h h18 := Own.Ext.kp X22 K18 (allS (Nat.le_of_eq g1.symm) (allS (Nat.le_trans X3.1 g2) all0))
  have X24 : Ext h h20 := Own.Ext.tr X23 E20
  exact Own.retA W20 (by decide) (by decide) rfl rfl rfl d9_39 ⟨o20, rfl, X24, (Nat.le_trans X23.1 g20), S20⟩
set_option maxRecDepth 65536 in
set_option maxHeartbeats 40000000 in
theorem con_tst1 {G : Own.Gl} (hw : ∀ d ∈ tables_1, d.before G.a0 G.Z = true) (hEL : EW G.Z G.a0 G.EL) (hmem : (Own.ST, 7) ∈ G.EL) {cz : Int32} (hS : Sta G.Z G.Z.heap Own.ST "COMPACT_STRINGS" "Z" (.int cz)) (hcz : ¬ cz = 0) (hE : G.EL = consts_1) (hEN : Own.EN G.Z G.a0 G.EL 16) {a nm : Addr} {cs : List Int32} (hcs : cs.length ≤ 3) {h : Heap} (hO : Old G.Z G.n0 h) (Fn : Fld G.Z h a "com/example/lopa/lopa/trec/SgmlScanner$Tag" "name" "Ljava/lang/String;" (.ref nm)) (Fc : Fld G.Z h a "com/example/lopa/lopa/trec/SgmlScanner$Tag" "closing" "Z" (.int 1)) (Sn : Own.Str G.Z h nm cs) :
    Own.Con G [] bTst1 #[.ref a] h [] (fun v h' => ∃ o : Addr, v = some (.ref o) ∧ Ext h h' ∧ h.size ≤ o ∧ Own.Str G.Z h' o ((([] ++ [(60 : Int32), (47 : Int32)]) ++ cs) ++ [(62 : Int32)])) := by
  refine Own.Con.intro (plainFor_of_name pn_5) hO hEL _ (fun m => ef_bTst1 m a) ?_
  intro X T0 W0 sf
  refine Own.newO W0 (tw hw 53 rfl) (tw hw 54 rfl) (tw hw 55 rfl) d9_0 3 rfl 1 4 (by decide) (by decide) (by decide) (by decide) ?_
  intro T1 h1 o1 g1 W1 E1 A1 D1 s1 k1
  have F1_value : Fld G.Z h1 o1 "java/lang/AbstractStringBuilder" "value" "[B" .null := D1 (Or.inl (tw hw 68 rfl)) (ty := (.array .byte)) (by decide)
  have F1_coder : Fld G.Z h1 o1 "java/lang/AbstractStringBuilder" "coder" "B" (.int (0 : Int32)) := D1 (Or.inl (tw hw 70 rfl)) (ty := .byte) (by decide)
  have F1_count : Fld G.Z h1 o1 "java/lang/AbstractStringBuilder" "count" "I" (.int (0 : Int32)) := D1 (Or.inl (tw hw 95 rfl)) (ty := .int) (by decide)
  refine Own.dup W1 d9_3 4 rfl rfl ?_
  refine Own.callX W1 rfl (tw hw 56 rfl) (tw hw 57 rfl) (tw hw 58 rfl) (by decide) (argsL := []) (rest := [(.ref o1)]) (Own.Con.pay (con_si hw hEL hmem hS hcz W1.old (Nat.le_trans W0.n0 (Nat.le_of_eq g1.symm)) A1 F1_value F1_coder F1_count) W1 (tw hw 58 rfl) (tw hw 55 rfl) (len := 3) (wd := 1) (by decide) (by decide) (fun _ q => nomatch q)) rfl (lenOf pd_14 rfl) rfl (Nat.le_of_ble_eq_true rfl) d9_4 7 rfl 2 20 (Nat.le_of_ble_eq_true rfl) (Nat.le_of_ble_eq_true rfl) (Nat.le_of_ble_eq_true rfl) (Nat.le_of_ble_eq_true rfl) ?_
  intro v2 T2 h2 u2 W2 R2 hq
  obtain ⟨rfl, K2, b2, g2, F2⟩ := hq
  show Own.Go _ _ _ _ _ 7 #[.val (.ref a)] [(.ref o1)]
  refine Own.aloadN W2 d9_7 8 rfl (.ref a) rfl rfl ?_
  have X3 : Ext h h1 := E1
  have X4 : Ext h h2 := Own.Ext.kp X3 K2 (allS (Nat.le_of_eq g1.symm) all0)
  refine Own.getF W2 (tw hw 44 rfl) Via.refl (Fc.ext X4) d9_8 11 rfl ?_
  intro T5 W5
  refine Own.ifNo W5 d9_11 14 (by decide) rfl ?_
  refine Own.ldcR W5 (tw hw 191 rfl) (Own.sAtoms (wS hw)) (by rw [hE]; decide) (vs := [(.int (60 : Int32)), (.int (47 : Int32))]) (z := (2 : Int32)) ⟨by decide, by decide⟩ (by decide) (by decide) d9_14 16 rfl 8 (by decide) (by decide) 4 32 (Nat.le_of_ble_eq_true rfl) (Nat.le_of_ble_eq_true rfl) (Nat.le_of_ble_eq_true rfl) (Nat.le_of_ble_eq_true rfl) ?_
  intro v6 T6 h6 o6 b6 q6 W6 R6 E6 fa6 fc6 fv6 fb6 ne6
  have F6 : Own.Str G.Z h6 o6 [(60 : Int32), (47 : Int32)] := ⟨fa6, fc6, by decide, by decide, b6, q6, fv6, fb6⟩
  refine Own.goto W6 d9_16 21 (by decide) (by decide) ?_
  have X8 : Ext h2 h6 := E6
  have ZE7 := (F2.ext X8).exa
  refine Own.callV W6 (tw hw 74 rfl) (tw hw 75 rfl) (fun s q => notFace_of_selects (args := #[]) (mvT (s := s) q (tw hw 77 rfl))) (tw hw 77 rfl) (tw hw 76 rfl) (by decide) (argsL := [(.ref o6)]) (rest := []) (Own.Con.pay (con_app hw hEL hmem hS hcz hEN W6.old (Nat.le_trans W0.n0 (Nat.le_of_eq g1.symm)) (Nat.le_trans W0.n0 (Nat.le_trans X3.1 g2)) (Nat.ne_of_lt (Nat.lt_of_lt_of_le A1.lt g2)) (F2.ext X8) F6 (by decide)) W6 (tw hw 78 rfl) (tw hw 55 rfl) (len := 3) (wd := 0) (by decide) (by decide) (fun _ q => nomatch q)) ZE7 rfl (lenOf pd_15 rfl) rfl (Nat.le_of_ble_eq_true rfl) d9_21 24 rfl 4 32 (Nat.le_of_ble_eq_true rfl) (Nat.le_of_ble_eq_true rfl) (Nat.le_of_ble_eq_true rfl) (Nat.le_of_ble_eq_true rfl) ?_
  intro v9 T9 h9 u9 W9 R9 hq
  obtain ⟨rfl, K9, F9⟩ := hq
  show Own.Go _ _ _ _ _ 24 #[.val (.ref a)] [(.ref o1)]
  refine Own.aloadN W9 d9_24 25 rfl (.ref a) rfl rfl ?_
  have X10 : Ext h h6 := Own.Ext.tr X4 E6
  have X11 : Ext h h9 := Own.Ext.kp X10 K9 (allS (Nat.le_of_eq g1.symm) (allS (Nat.le_trans X3.1 g2) all0))
  refine Own.getF W9 (tw hw 42 rfl) Via.refl (Fn.ext X11) d9_25 28 rfl ?_
  intro T12 W12
  have ZE13 := F9.exa
  refine Own.callV W12 (tw hw 74 rfl) (tw hw 75 rfl) (fun s q => notFace_of_selects (args := #[]) (mvT (s := s) q (tw hw 77 rfl))) (tw hw 77 rfl) (tw hw 76 rfl) (by decide) (argsL := [(.ref nm)]) (rest := []) (Own.Con.pay (con_app hw hEL hmem hS hcz hEN W12.old (Nat.le_trans W0.n0 (Nat.le_of_eq g1.symm)) (Nat.le_trans W0.n0 (Nat.le_trans X3.1 g2)) (Nat.ne_of_lt (Nat.lt_of_lt_of_le A1.lt g2)) F9 (Sn.ext X11) (by simp only [List.length_append, List.length_cons, List.length_nil]; omega)) W12 (tw hw 78 rfl) (tw hw 55 rfl) (len := 3) (wd := 0) (by decide) (by decide) (fun _ q => nomatch q)) ZE13 rfl (lenOf pd_15 rfl) rfl (Nat.le_of_ble_eq_true rfl) d9_28 31 rfl 4 32 (Nat.le_of_ble_eq_true rfl) (Nat.le_of_ble_eq_true rfl) (Nat.le_of_ble_eq_true rfl) (Nat.le_of_ble_eq_true rfl) ?_
  intro v14 T14 h14 u14 W14 R14 hq
  obtain ⟨rfl, K14, F14⟩ := hq
  show Own.Go _ _ _ _ _ 31 #[.val (.ref a)] [(.ref o1)]
  refine Own.ldcR W14 (tw hw 121 rfl) (Own.sAtoms (wS hw)) (by rw [hE]; decide) (vs := [(.int (62 : Int32))]) (z := (1 : Int32)) ⟨by decide, by decide⟩ (by decide) (by decide) d9_31 33 rfl 4 (by decide) (by decide) 6 40 (Nat.le_of_ble_eq_true rfl) (Nat.le_of_ble_eq_true rfl) (Nat.le_of_ble_eq_true rfl) (Nat.le_of_ble_eq_true rfl) ?_
  intro v15 T15 h15 o15 b15 q15 W15 R15 E15 fa15 fc15 fv15 fb15 ne15
  have F15 : Own.Str G.Z h15 o15 [(62 : Int32)] := ⟨fa15, fc15, by decide, by decide, b15, q15, fv15, fb15⟩
  have X17 : Ext h14 h15 := E15
  have ZE16 := (F14.ext X17).exa
  refine Own.callV W15 (tw hw 74 rfl) (tw hw 75 rfl) (fun s q => notFace_of_selects (args := #[]) (mvT (s := s) q (tw hw 77 rfl))) (tw hw 77 rfl) (tw hw 76 rfl) (by decide) (argsL := [(.ref o15)]) (rest := []) (Own.Con.pay (con_app hw hEL hmem hS hcz hEN W15.old (Nat.le_trans W0.n0 (Nat.le_of_eq g1.symm)) (Nat.le_trans W0.n0 (Nat.le_trans X3.1 g2)) (Nat.ne_of_lt (Nat.lt_of_lt_of_le A1.lt g2)) (F14.ext X17) F15 (by simp only [List.length_append, List.length_cons, List.length_nil]; omega)) W15 (tw hw 78 rfl) (tw hw 55 rfl) (len := 3) (wd := 0) (by decide) (by decide) (fun _ q => nomatch q)) ZE16 rfl (lenOf pd_15 rfl) rfl (Nat.le_of_ble_eq_true rfl) d9_33 36 rfl 6 40 (Nat.le_of_ble_eq_true rfl) (Nat.le_of_ble_eq_true rfl) (Nat.le_of_ble_eq_true rfl) (Nat.le_of_ble_eq_true rfl) ?_
  intro v18 T18 h18 u18 W18 R18 hq
  obtain ⟨rfl, K18, F18⟩ := hq
  show Own.Go _ _ _ _ _ 36 #[.val (.ref a)] [(.ref o1)]
  have ZE19 := F18.exa
  refine Own.callV W18 (tw hw 122 rfl) (tw hw 123 rfl) (fun s q => notFace_of_selects (args := #[]) (mvT (s := s) q (tw hw 125 rfl))) (tw hw 125 rfl) (tw hw 124 rfl) (by decide) (argsL := []) (rest := []) (Own.Con.pay (con_tos hw hEL hmem hS hcz W18.old F18 (by simp only [List.length_append, List.length_cons, List.length_nil]; omega) (by simp only [List.length_append, List.length_cons, List.length_nil]; omega)) W18 (tw hw 126 rfl) (tw hw 55 rfl) (len := 3) (wd := 0) (by decide) (by decide) (fun _ q => nomatch q)) ZE19 rfl (lenOf pd_16 rfl) rfl (Nat.le_of_ble_eq_true rfl) d9_36 39 rfl 8 60 (Nat.le_of_ble_eq_true rfl) (Nat.le_of_ble_eq_true rfl) (Nat.le_of_ble_eq_true rfl) (Nat.le_of_ble_eq_true rfl) ?_
  intro v20 T20 h20 u20 W20 R20 hq
  obtain ⟨o20, rfl, E20, g20, S20⟩ := hq
  show Own.Go _ _ _ _ _ 39 #[.val (.ref a)] [(.ref o20)]
  have X21 : Ext h h14 := Own.Ext.kp X11 K14 (allS (Nat.le_of_eq g1.symm) (allS (Nat.le_trans X3.1 g2) all0))
  have X22 : Ext h h15 := Own.Ext.tr X21 E15
  have X23 : Ext h h18 := Own.Ext.kp X22 K18 (allS (Nat.le_of_eq g1.symm) (allS (Nat.le_trans X3.1 g2) all0))
  have X24 : Ext h h20 := Own.Ext.tr X23 E20
  exact Own.retA W20 (by decide) (by decide) rfl rfl rfl d9_39 ⟨o20, rfl, X24, (Nat.le_trans X23.1 g20), S20⟩
set_option maxRecDepth 65536 in
set_option maxHeartbeats 40000000 in
theorem con_law {G : Own.Gl} (hw : ∀ d ∈ tables_1, d.before G.a0 G.Z = true) (hEL : EW G.Z G.a0 G.EL) (hmem : (Own.ST, 7) ∈ G.EL) {cz : Int32} (hS : Sta G.Z G.Z.heap Own.ST "COMPACT_STRINGS" "Z" (.int cz)) (hcz : ¬ cz = 0) (hE : G.EL = consts_1) (hEN : Own.EN G.Z G.a0 G.EL 16) {fm : Value} (SF : Sta G.Z G.Z.heap "jdk/internal/util/Preconditions" "SIOOBE_FORMATTER" "Ljava/util/function/BiFunction;" fm) (rfm : fm.isRef = true) (p0 : Int32) (p1 : Int32) (p2 : Int32) (p3 : Int32) (p4 : Int64) {h : Heap} (hO : Old G.Z G.n0 h) :
    Own.Con G tables_1 bLaw #[.int p0, .int p1, .int p2, .int p3, .long p4] h [] (fun v h' => v = some (.int 1)) := by
  refine Own.Con.intro (plainFor_of_name pn_6) hO hEL _ (fun m => ef_law m p0 p1 p2 p3 p4) ?_
  intro X T0 W0 sf
  refine Own.iloadN W0 at_0 1 rfl p0 rfl ?_
  refine Own.sipush W0 at_1 4 rfl (255 : Int32) rfl ?_
  refine Own.iand W0 at_4 5 rfl ?_
  refine Own.i2c W0 at_5 6 rfl ?_
  refine Own.istore W0 at_6 8 rfl #[.val (.int p0), .val (.int p1), .val (.int p2), .val (.int p3), .val (.long p4), .second, .val (.int ((p0 &&& (255 : Int32)).toUInt32.toUInt16.toUInt32.toInt32)), .unset, .unset, .unset, .unset, .unset, .unset, .unset, .unset, .unset, .unset, .unset, .unset] rfl ?_
  refine Own.iloadN W0 at_8 9 rfl p1 rfl ?_
  refine Own.sipush W0 at_9 12 rfl (255 : Int32) rfl ?_
  refine Own.iand W0 at_12 13 rfl ?_
  refine Own.i2c W0 at_13 14 rfl ?_
  refine Own.istore W0 at_14 16 rfl #[.val (.int p0), .val (.int p1), .val (.int p2), .val (.int p3), .val (.long p4), .second, .val (.int ((p0 &&& (255 : Int32)).toUInt32.toUInt16.toUInt32.toInt32)), .val (.int ((p1 &&& (255 : Int32)).toUInt32.toUInt16.toUInt32.toInt32)), .unset, .unset, .unset, .unset, .unset, .unset, .unset, .unset, .unset, .unset, .unset] rfl ?_
  refine Own.iloadN W0 at_16 17 rfl p2 rfl ?_
  refine Own.sipush W0 at_17 20 rfl (255 : Int32) rfl ?_
  refine Own.iand W0 at_20 21 rfl ?_
  refine Own.i2c W0 at_21 22 rfl ?_
  refine Own.istore W0 at_22 24 rfl #[.val (.int p0), .val (.int p1), .val (.int p2), .val (.int p3), .val (.long p4), .second, .val (.int ((p0 &&& (255 : Int32)).toUInt32.toUInt16.toUInt32.toInt32)), .val (.int ((p1 &&& (255 : Int32)).toUInt32.toUInt16.toUInt32.toInt32)), .val (.int ((p2 &&& (255 : Int32)).toUInt32.toUInt16.toUInt32.toInt32)), .unset, .unset, .unset, .unset, .unset, .unset, .unset, .unset, .unset, .unset] rfl ?_
  refine Own.iloadN W0 at_24 25 rfl p3 rfl ?_
  refine Own.iconst W0 at_25 26 rfl (3 : Int32) rfl ?_
  refine Own.iand W0 at_26 27 rfl ?_
  refine Own.istore W0 at_27 29 rfl #[.val (.int p0), .val (.int p1), .val (.int p2), .val (.int p3), .val (.long p4), .second, .val (.int ((p0 &&& (255 : Int32)).toUInt32.toUInt16.toUInt32.toInt32)), .val (.int ((p1 &&& (255 : Int32)).toUInt32.toUInt16.toUInt32.toInt32)), .val (.int ((p2 &&& (255 : Int32)).toUInt32.toUInt16.toUInt32.toInt32)), .val (.int (p3 &&& (3 : Int32))), .unset, .unset, .unset, .unset, .unset, .unset, .unset, .unset, .unset] rfl ?_
  refine Own.iloadN W0 at_29 30 rfl p3 rfl ?_
  refine Own.iconst W0 at_30 31 rfl (2 : Int32) rfl ?_
  refine Own.iushr W0 at_31 32 rfl ?_
  refine Own.iconst W0 at_32 33 rfl (1 : Int32) rfl ?_
  refine Own.iand W0 at_33 34 rfl ?_
  by_cases ec : (((p3.toUInt32 >>> ((2 : Int32) &&& 31).toUInt32).toInt32) &&& (1 : Int32)) = (0 : Int32)
  · skip
    refine Own.ifYes W0 at_34 41 (XT.i0_eq_t ec) (by decide) (by decide) ?_
    refine Own.iconst W0 at_41 42 rfl (0 : Int32) rfl ?_
    refine Own.istore W0 at_42 44 rfl #[.val (.int p0), .val (.int p1), .val (.int p2), .val (.int p3), .val (.long p4), .second, .val (.int ((p0 &&& (255 : Int32)).toUInt32.toUInt16.toUInt32.toInt32)), .val (.int ((p1 &&& (255 : Int32)).toUInt32.toUInt16.toUInt32.toInt32)), .val (.int ((p2 &&& (255 : Int32)).toUInt32.toUInt16.toUInt32.toInt32)), .val (.int (p3 &&& (3 : Int32))), .val (.int (0 : Int32)), .unset, .unset, .unset, .unset, .unset, .unset, .unset, .unset] rfl ?_
    refine Own.iconst W0 at_44 45 rfl (0 : Int32) rfl ?_
    refine Own.newA W0 (tw hw 0 rfl) at_45 47 rfl (by decide) 0 (by decide) (by decide) 1 0 (by decide) (by decide) (by decide) (by decide) ?_
    intro T1 h1 o1 c1 g1 W1 E1 A1 s1 k1
    have V1 : Arv G.Z h1 o1 c1 .char (0 : Int32) [] (.int (0 : Int32)) := A1
    refine Own.astore W1 at_47 49 rfl rfl #[.val (.int p0), .val (.int p1), .val (.int p2), .val (.int p3), .val (.long p4), .second, .val (.int ((p0 &&& (255 : Int32)).toUInt32.toUInt16.toUInt32.toInt32)), .val (.int ((p1 &&& (255 : Int32)).toUInt32.toUInt16.toUInt32.toInt32)), .val (.int ((p2 &&& (255 : Int32)).toUInt32.toUInt16.toUInt32.toInt32)), .val (.int (p3 &&& (3 : Int32))), .val (.int (0 : Int32)), .val (.ref o1), .unset, .unset, .unset, .unset, .unset, .unset, .unset] rfl ?_
    refine Own.iconst W1 at_49 50 rfl (1 : Int32) rfl ?_
    refine Own.newA W1 (tw hw 0 rfl) at_50 52 rfl (by decide) 1 (by decide) (by decide) 2 1 (by decide) (by decide) (by decide) (by decide) ?_
    intro T2 h2 o2 c2 g2 W2 E2 A2 s2 k2
    have V2 : Arv G.Z h2 o2 c2 .char (1 : Int32) [(.int (0 : Int32))] (.int (0 : Int32)) := A2
    refine Own.dup W2 at_52 53 rfl rfl ?_
    refine Own.iconst W2 at_53 54 rfl (0 : Int32) rfl ?_
    refine Own.iload W2 at_54 56 rfl ((p0 &&& (255 : Int32)).toUInt32.toUInt16.toUInt32.toInt32) rfl ?_
    have X4 : Ext h h1 := E1
    refine Own.castore W2 V2 0 (by decide) (by decide) (Nat.le_of_ble_eq_true rfl) (Nat.le_trans W0.n0 (Nat.le_trans X4.1 (Nat.le_of_eq g2.symm))) (x' := ((p0 &&& (255 : Int32)).toUInt32.toUInt16.toUInt32.toInt32)) (Own.nar_lo _) at_56 57 rfl ?_
    intro T3 h3 W3 Q3 A3 k3
    have V3 : Arv G.Z h3 o2 c2 .char (1 : Int32) [(.int ((p0 &&& (255 : Int32)).toUInt32.toUInt16.toUInt32.toInt32))] (.int (0 : Int32)) := A3
    refine Own.astore W3 at_57 59 rfl rfl #[.val (.int p0), .val (.int p1), .val (.int p2), .val (.int p3), .val (.long p4), .second, .val (.int ((p0 &&& (255 : Int32)).toUInt32.toUInt16.toUInt32.toInt32)), .val (.int ((p1 &&& (255 : Int32)).toUInt32.toUInt16.toUInt32.toInt32)), .val (.int ((p2 &&& (255 : Int32)).toUInt32.toUInt16.toUInt32.toInt32)), .val (.int (p3 &&& (3 : Int32))), .val (.int (0 : Int32)), .val (.ref o1), .val (.ref o2), .unset, .unset, .unset, .unset, .unset, .unset] rfl ?_
    refine Own.iconst W3 at_59 60 rfl (2 : Int32) rfl ?_
    refine Own.newA W3 (tw hw 0 rfl) at_60 62 rfl (by decide) 2 (by decide) (by decide) 3 3 (by decide) (by decide) (by decide) (by decide) ?_
    intro T5 h5 o5 c5 g5 W5 E5 A5 s5 k5
    have V5 : Arv G.Z h5 o5 c5 .char (2 : Int32) [(.int (0 : Int32)), (.int (0 : Int32))] (.int (0 : Int32)) := A5
    refine Own.dup W5 at_62 63 rfl rfl ?_
    refine Own.iconst W5 at_63 64 rfl (0 : Int32) rfl ?_
    refine Own.iload W5 at_64 66 rfl ((p0 &&& (255 : Int32)).toUInt32.toUInt16.toUInt32.toInt32) rfl ?_
    have X7 : Ext h h2 := Own.Ext.tr X4 E2
    have X8 : Ext h h3 := Own.Ext.wr' X7 Q3 (Nat.le_trans X4.1 (Nat.le_of_eq g2.symm))
    refine Own.castore W5 V5 0 (by decide) (by decide) (Nat.le_of_ble_eq_true rfl) (Nat.le_trans W0.n0 (Nat.le_trans X8.1 (Nat.le_of_eq g5.symm))) (x' := ((p0 &&& (255 : Int32)).toUInt32.toUInt16.toUInt32.toInt32)) (Own.nar_lo _) at_66 67 rfl ?_
    intro T6 h6 W6 Q6 A6 k6
    have V6 : Arv G.Z h6 o5 c5 .char (2 : Int32) [(.int ((p0 &&& (255 : Int32)).toUInt32.toUInt16.toUInt32.toInt32)), (.int (0 : Int32))] (.int (0 : Int32)) := A6
    refine Own.dup W6 at_67 68 rfl rfl ?_
    refine Own.iconst W6 at_68 69 rfl (1 : Int32) rfl ?_
    refine Own.iload W6 at_69 71 rfl ((p1 &&& (255 : Int32)).toUInt32.toUInt16.toUInt32.toInt32) rfl ?_
    refine Own.castore W6 V6 1 (by decide) (by decide) (Nat.le_of_ble_eq_true rfl) (Nat.le_trans W0.n0 (Nat.le_trans X8.1 (Nat.le_of_eq g5.symm))) (x' := ((p1 &&& (255 : Int32)).toUInt32.toUInt16.toUInt32.toInt32)) (Own.nar_lo _) at_71 72 rfl ?_
    intro T9 h9 W9 Q9 A9 k9
    have V9 : Arv G.Z h9 o5 c5 .char (2 : Int32) [(.int ((p0 &&& (255 : Int32)).toUInt32.toUInt16.toUInt32.toInt32)), (.int ((p1 &&& (255 : Int32)).toUInt32.toUInt16.toUInt32.toInt32))] (.int (0 : Int32)) := A9
    refine Own.astore W9 at_72 74 rfl rfl #[.val (.int p0), .val (.int p1), .val (.int p2), .val (.int p3), .val (.long p4), .second, .val (.int ((p0 &&& (255 : Int32)).toUInt32.toUInt16.toUInt32.toInt32)), .val (.int ((p1 &&& (255 : Int32)).toUInt32.toUInt16.toUInt32.toInt32)), .val (.int ((p2 &&& (255 : Int32)).toUInt32.toUInt16.toUInt32.toInt32)), .val (.int (p3 &&& (3 : Int32))), .val (.int (0 : Int32)), .val (.ref o1), .val (.ref o2), .val (.ref o5), .unset, .unset, .unset, .unset, .unset] rfl ?_
    refine Own.iconst W9 at_74 75 rfl (3 : Int32) rfl ?_
    refine Own.newA W9 (tw hw 0 rfl) at_75 77 rfl (by decide) 3 (by decide) (by decide) 4 6 (by decide) (by decide) (by decide) (by decide) ?_
    intro T10 h10 o10 c10 g10 W10 E10 A10 s10 k10
    have V10 : Arv G.Z h10 o10 c10 .char (3 : Int32) [(.int (0 : Int32)), (.int (0 : Int32)), (.int (0 : Int32))] (.int (0 : Int32)) := A10
    refine Own.dup W10 at_77 78 rfl rfl ?_
    refine Own.iconst W10 at_78 79 rfl (0 : Int32) rfl ?_
    refine Own.iload W10 at_79 81 rfl ((p0 &&& (255 : Int32)).toUInt32.toUInt16.toUInt32.toInt32) rfl ?_
    have X12 : Ext h h5 := Own.Ext.tr X8 E5
    have X13 : Ext h h6 := Own.Ext.wr' X12 Q6 (Nat.le_trans X8.1 (Nat.le_of_eq g5.symm))
    have X14 : Ext h h9 := Own.Ext.wr' X13 Q9 (Nat.le_trans X8.1 (Nat.le_of_eq g5.symm))
    refine Own.castore W10 V10 0 (by decide) (by decide) (Nat.le_of_ble_eq_true rfl) (Nat.le_trans W0.n0 (Nat.le_trans X14.1 (Nat.le_of_eq g10.symm))) (x' := ((p0 &&& (255 : Int32)).toUInt32.toUInt16.toUInt32.toInt32)) (Own.nar_lo _) at_81 82 rfl ?_
    intro T11 h11 W11 Q11 A11 k11
    have V11 : Arv G.Z h11 o10 c10 .char (3 : Int32) [(.int ((p0 &&& (255 : Int32)).toUInt32.toUInt16.toUInt32.toInt32)), (.int (0 : Int32)), (.int (0 : Int32))] (.int (0 : Int32)) := A11
    refine Own.dup W11 at_82 83 rfl rfl ?_
    refine Own.iconst W11 at_83 84 rfl (1 : Int32) rfl ?_
    refine Own.iload W11 at_84 86 rfl ((p1 &&& (255 : Int32)).toUInt32.toUInt16.toUInt32.toInt32) rfl ?_
    refine Own.castore W11 V11 1 (by decide) (by decide) (Nat.le_of_ble_eq_true rfl) (Nat.le_trans W0.n0 (Nat.le_trans X14.1 (Nat.le_of_eq g10.symm))) (x' := ((p1 &&& (255 : Int32)).toUInt32.toUInt16.toUInt32.toInt32)) (Own.nar_lo _) at_86 87 rfl ?_
    intro T15 h15 W15 Q15 A15 k15
    have V15 : Arv G.Z h15 o10 c10 .char (3 : Int32) [(.int ((p0 &&& (255 : Int32)).toUInt32.toUInt16.toUInt32.toInt32)), (.int ((p1 &&& (255 : Int32)).toUInt32.toUInt16.toUInt32.toInt32)), (.int (0 : Int32))] (.int (0 : Int32)) := A15
    refine Own.dup W15 at_87 88 rfl rfl ?_
    refine Own.iconst W15 at_88 89 rfl (2 : Int32) rfl ?_
    refine Own.iload W15 at_89 91 rfl ((p2 &&& (255 : Int32)).toUInt32.toUInt16.toUInt32.toInt32) rfl ?_
    refine Own.castore W15 V15 2 (by decide) (by decide) (Nat.le_of_ble_eq_true rfl) (Nat.le_trans W0.n0 (Nat.le_trans X14.1 (Nat.le_of_eq g10.symm))) (x' := ((p2 &&& (255 : Int32)).toUInt32.toUInt16.toUInt32.toInt32)) (Own.nar_lo _) at_91 92 rfl ?_
    intro T16 h16 W16 Q16 A16 k16
    have V16 : Arv G.Z h16 o10 c10 .char (3 : Int32) [(.int ((p0 &&& (255 : Int32)).toUInt32.toUInt16.toUInt32.toInt32)), (.int ((p1 &&& (255 : Int32)).toUInt32.toUInt16.toUInt32.toInt32)), (.int ((p2 &&& (255 : Int32)).toUInt32.toUInt16.toUInt32.toInt32))] (.int (0 : Int32)) := A16
    refine Own.astore W16 at_92 94 rfl rfl #[.val (.int p0), .val (.int p1), .val (.int p2), .val (.int p3), .val (.long p4), .second, .val (.int ((p0 &&& (255 : Int32)).toUInt32.toUInt16.toUInt32.toInt32)), .val (.int ((p1 &&& (255 : Int32)).toUInt32.toUInt16.toUInt32.toInt32)), .val (.int ((p2 &&& (255 : Int32)).toUInt32.toUInt16.toUInt32.toInt32)), .val (.int (p3 &&& (3 : Int32))), .val (.int (0 : Int32)), .val (.ref o1), .val (.ref o2), .val (.ref o5), .val (.ref o10), .unset, .unset, .unset, .unset] rfl ?_
    refine Own.iload W16 at_94 96 rfl (p3 &&& (3 : Int32)) rfl ?_
    by_cases e0 : (p3 &&& (3 : Int32)) = (0 : Int32)
    · skip
      refine Own.ifNo W16 at_96 99 (XT.i0_ne_f e0) rfl ?_
      refine Own.newO W16 (tw hw 1 rfl) (tw hw 2 rfl) (tw hw 3 rfl) at_99 102 rfl 5 10 (by decide) (by decide) (by decide) (by decide) ?_
      intro T17 h17 o17 g17 W17 E17 A17 D17 s17 k17
      have F17_coder : Fld G.Z h17 o17 "java/lang/String" "coder" "B" (.int (0 : Int32)) := D17 (Or.inr (tw hw 27 rfl)) (ty := .byte) (by decide)
      have F17_value : Fld G.Z h17 o17 "java/lang/String" "value" "[B" .null := D17 (Or.inr (tw hw 29 rfl)) (ty := (.array .byte)) (by decide)
      refine Own.dup W17 at_102 103 rfl rfl ?_
      refine Own.aload W17 at_103 105 rfl (.ref o1) rfl rfl ?_
      have X18 : Ext h h10 := Own.Ext.tr X14 E10
      have X19 : Ext h h11 := Own.Ext.wr' X18 Q11 (Nat.le_trans X14.1 (Nat.le_of_eq g10.symm))
      have X20 : Ext h h15 := Own.Ext.wr' X19 Q15 (Nat.le_trans X14.1 (Nat.le_of_eq g10.symm))
      have X21 : Ext h h16 := Own.Ext.wr' X20 Q16 (Nat.le_trans X14.1 (Nat.le_of_eq g10.symm))
      have X22 : Ext h1 h2 := E2
      have X23 : Ext h1 h3 := Own.Ext.wr' X22 Q3 (Nat.le_of_eq g2.symm)
      have X24 : Ext h1 h5 := Own.Ext.tr X23 E5
      have X25 : Ext h1 h6 := Own.Ext.wr' X24 Q6 (Nat.le_trans X23.1 (Nat.le_of_eq g5.symm))
      have X26 : Ext h1 h9 := Own.Ext.wr' X25 Q9 (Nat.le_trans X23.1 (Nat.le_of_eq g5.symm))
      have X27 : Ext h1 h10 := Own.Ext.tr X26 E10
      have X28 : Ext h1 h11 := Own.Ext.wr' X27 Q11 (Nat.le_trans X26.1 (Nat.le_of_eq g10.symm))
      have X29 : Ext h1 h15 := Own.Ext.wr' X28 Q15 (Nat.le_trans X26.1 (Nat.le_of_eq g10.symm))
      have X30 : Ext h1 h16 := Own.Ext.wr' X29 Q16 (Nat.le_trans X26.1 (Nat.le_of_eq g10.symm))
      have X31 : Ext h1 h17 := Own.Ext.tr X30 E17
      refine Own.callX W17 rfl (tw hw 4 rfl) (tw hw 5 rfl) (tw hw 6 rfl) (by decide) (argsL := [(.ref o1)]) (rest := [(.ref o17)]) (Own.payStr (wS hw) hEL hmem W17 (cs := []) (z := (0 : Int32)) (cz := cz) (Nat.le_trans W0.n0 (Nat.le_trans X21.1 (Nat.le_of_eq g17.symm))) s17 A17 F17_value F17_coder ((V1.ext X31)) rfl (by intro c hc; cases hc) (Nat.le_of_ble_eq_true rfl) hS hcz (len := 3) (wd := 1) (by decide) (by decide)) rfl (lenOf pd_17 rfl) rfl (Nat.le_of_ble_eq_true rfl) at_105 108 rfl 9 18 (Nat.le_of_ble_eq_true rfl) (Nat.le_of_ble_eq_true rfl) (Nat.le_of_ble_eq_true rfl) (Nat.le_of_ble_eq_true rfl) ?_
      intro v32 T32 h32 u32 W32 R32 hq
      obtain ⟨rfl, K32, F32⟩ := hq
      show Own.Go _ _ _ _ _ 108 #[.val (.int p0), .val (.int p1), .val (.int p2), .val (.int p3), .val (.long p4), .second, .val (.int ((p0 &&& (255 : Int32)).toUInt32.toUInt16.toUInt32.toInt32)), .val (.int ((p1 &&& (255 : Int32)).toUInt32.toUInt16.toUInt32.toInt32)), .val (.int ((p2 &&& (255 : Int32)).toUInt32.toUInt16.toUInt32.toInt32)), .val (.int (p3 &&& (3 : Int32))), .val (.int (0 : Int32)), .val (.ref o1), .val (.ref o2), .val (.ref o5), .val (.ref o10), .unset, .unset, .unset, .unset] [(.ref o17)]
      refine Own.goto W32 at_108 156 (by decide) (by decide) ?_
      rw [e0]
      show Own.Go _ _ _ _ _ 156 #[.val (.int p0), .val (.int p1), .val (.int p2), .val (.int p3), .val (.long p4), .second, .val (.int ((p0 &&& (255 : Int32)).toUInt32.toUInt16.toUInt32.toInt32)), .val (.int ((p1 &&& (255 : Int32)).toUInt32.toUInt16.toUInt32.toInt32)), .val (.int ((p2 &&& (255 : Int32)).toUInt32.toUInt16.toUInt32.toInt32)), .val (.int (0 : Int32)), .val (.int (0 : Int32)), .val (.ref o1), .val (.ref o2), .val (.ref o5), .val (.ref o10), .unset, .unset, .unset, .unset] [(.ref o17)]
      refine Own.astore W32 at_156 158 rfl rfl #[.val (.int p0), .val (.int p1), .val (.int p2), .val (.int p3), .val (.long p4), .second, .val (.int ((p0 &&& (255 : Int32)).toUInt32.toUInt16.toUInt32.toInt32)), .val (.int ((p1 &&& (255 : Int32)).toUInt32.toUInt16.toUInt32.toInt32)), .val (.int ((p2 &&& (255 : Int32)).toUInt32.toUInt16.toUInt32.toInt32)), .val (.int (0 : Int32)), .val (.int (0 : Int32)), .val (.ref o1), .val (.ref o2), .val (.ref o5), .val (.ref o10), .val (.ref o17), .unset, .unset, .unset] rfl ?_
      refine Own.newO W32 (tw hw 30 rfl) (tw hw 31 rfl) (tw hw 32 rfl) at_158 161 rfl 10 21 (by decide) (by decide) (by decide) (by decide) ?_
      intro T33 h33 o33 g33 W33 E33 A33 D33 s33 k33
      have F33_name : Fld G.Z h33 o33 "com/example/lopa/lopa/trec/SgmlScanner$Tag" "name" "Ljava/lang/String;" .null := D33 (Or.inr (tw hw 43 rfl)) (ty := (.object "java/lang/String")) (by decide)
      have F33_closing : Fld G.Z h33 o33 "com/example/lopa/lopa/trec/SgmlScanner$Tag" "closing" "Z" (.int (0 : Int32)) := D33 (Or.inr (tw hw 45 rfl)) (ty := .boolean) (by decide)
      have F33_line : Fld G.Z h33 o33 "com/example/lopa/lopa/trec/SgmlScanner$Tag" "line" "J" (.long (0 : Int64)) := D33 (Or.inr (tw hw 47 rfl)) (ty := .long) (by decide)
      refine Own.dup W33 at_161 162 rfl rfl ?_
      refine Own.aload W33 at_162 164 rfl (.ref o17) rfl rfl ?_
      refine Own.iload W33 at_164 166 rfl (0 : Int32) rfl ?_
      refine Own.lload W33 at_166 168 rfl p4 rfl ?_
      have X34 : Ext h h17 := Own.Ext.tr X21 E17
      have X35 : Ext h h32 := Own.Ext.kp X34 K32 (allS (Nat.le_trans X21.1 (Nat.le_of_eq g17.symm)) all0)
      refine Own.callX W33 rfl (tw hw 33 rfl) (tw hw 34 rfl) (tw hw 35 rfl) (by decide) (argsL := [(.ref o17), (.int (0 : Int32)), (.long p4)]) (rest := [(.ref o33)]) (Own.Con.pay (con_tag hw hEL o17 p4 rfl rfl W33.old (Nat.le_trans W0.n0 (Nat.le_trans X35.1 (Nat.le_of_eq g33.symm))) A33 F33_name F33_closing F33_line) W33 (tw hw 35 rfl) (tw hw 32 rfl) (len := 3) (wd := 1) (by decide) (by decide) (fun _ q => nomatch q)) rfl (lenOf pd_18 rfl) rfl (Nat.le_of_ble_eq_true rfl) at_168 171 rfl 10 21 (Nat.le_of_ble_eq_true rfl) (Nat.le_of_ble_eq_true rfl) (Nat.le_of_ble_eq_true rfl) (Nat.le_of_ble_eq_true rfl) ?_
      intro v36 T36 h36 u36 W36 R36 hq
      obtain ⟨rfl, K36, E36, Fn36, Fc36⟩ := hq
      show Own.Go _ _ _ _ _ 171 #[.val (.int p0), .val (.int p1), .val (.int p2), .val (.int p3), .val (.long p4), .second, .val (.int ((p0 &&& (255 : Int32)).toUInt32.toUInt16.toUInt32.toInt32)), .val (.int ((p1 &&& (255 : Int32)).toUInt32.toUInt16.toUInt32.toInt32)), .val (.int ((p2 &&& (255 : Int32)).toUInt32.toUInt16.toUInt32.toInt32)), .val (.int (0 : Int32)), .val (.int (0 : Int32)), .val (.ref o1), .val (.ref o2), .val (.ref o5), .val (.ref o10), .val (.ref o17), .unset, .unset, .unset] [(.ref o33)]
      refine Own.astore W36 at_171 173 rfl rfl #[.val (.int p0), .val (.int p1), .val (.int p2), .val (.int p3), .val (.long p4), .second, .val (.int ((p0 &&& (255 : Int32)).toUInt32.toUInt16.toUInt32.toInt32)), .val (.int ((p1 &&& (255 : Int32)).toUInt32.toUInt16.toUInt32.toInt32)), .val (.int ((p2 &&& (255 : Int32)).toUInt32.toUInt16.toUInt32.toInt32)), .val (.int (0 : Int32)), .val (.int (0 : Int32)), .val (.ref o1), .val (.ref o2), .val (.ref o5), .val (.ref o10), .val (.ref o17), .val (.ref o33), .unset, .unset] rfl ?_
      refine Own.aload W36 at_173 175 rfl (.ref o33) rfl rfl ?_
      have X37 : Ext h32 h33 := E33
      have X38 : Ext h32 h36 := Own.Ext.kp X37 K36 (allS (Nat.le_of_eq g33.symm) all0)
      refine Own.callV W36 (tw hw 48 rfl) (tw hw 49 rfl) (fun s q => notFace_of_selects (args := #[]) (mvT (s := s) q (tw hw 51 rfl))) (tw hw 51 rfl) (tw hw 50 rfl) (by decide) (argsL := []) (rest := []) (Own.Con.pay (con_tst0 hw hEL hmem hS hcz hE hEN (cs := []) (Nat.le_of_ble_eq_true rfl) W36.old Fn36 Fc36 (F32.ext X38)) W36 (tw hw 52 rfl) (tw hw 32 rfl) (len := 3) (wd := 0) (by decide) (by decide) (fun _ q => nomatch q)) E36 rfl (lenOf pd_16 rfl) rfl (Nat.le_of_ble_eq_true rfl) at_175 178 rfl 18 81 (Nat.le_of_ble_eq_true rfl) (Nat.le_of_ble_eq_true rfl) (Nat.le_of_ble_eq_true rfl) (Nat.le_of_ble_eq_true rfl) ?_
      intro v39 T39 h39 u39 W39 R39 hq
      obtain ⟨o39, rfl, E39, g39, S39⟩ := hq
      have Z39 : Own.Str G.Z h39 o39 [(60 : Int32), (62 : Int32)] := S39
      have ZX39 := Z39.exa
      show Own.Go _ _ _ _ _ 178 #[.val (.int p0), .val (.int p1), .val (.int p2), .val (.int p3), .val (.long p4), .second, .val (.int ((p0 &&& (255 : Int32)).toUInt32.toUInt16.toUInt32.toInt32)), .val (.int ((p1 &&& (255 : Int32)).toUInt32.toUInt16.toUInt32.toInt32)), .val (.int ((p2 &&& (255 : Int32)).toUInt32.toUInt16.toUInt32.toInt32)), .val (.int (0 : Int32)), .val (.int (0 : Int32)), .val (.ref o1), .val (.ref o2), .val (.ref o5), .val (.ref o10), .val (.ref o17), .val (.ref o33), .unset, .unset] [(.ref o39)]
      refine Own.astore W39 at_178 180 rfl rfl #[.val (.int p0), .val (.int p1), .val (.int p2), .val (.int p3), .val (.long p4), .second, .val (.int ((p0 &&& (255 : Int32)).toUInt32.toUInt16.toUInt32.toInt32)), .val (.int ((p1 &&& (255 : Int32)).toUInt32.toUInt16.toUInt32.toInt32)), .val (.int ((p2 &&& (255 : Int32)).toUInt32.toUInt16.toUInt32.toInt32)), .val (.int (0 : Int32)), .val (.int (0 : Int32)), .val (.ref o1), .val (.ref o2), .val (.ref o5), .val (.ref o10), .val (.ref o17), .val (.ref o33), .val (.ref o39), .unset] rfl ?_
      refine Own.iload W39 at_180 182 rfl (0 : Int32) rfl ?_
      refine Own.ifYes W39 at_182 189 (by decide) (by decide) (by decide) ?_
      refine Own.iconst W39 at_189 190 rfl (1 : Int32) rfl ?_
      refine Own.istore W39 at_190 192 rfl #[.val (.int p0), .val (.int p1), .val (.int p2), .val (.int p3), .val (.long p4), .second, .val (.int ((p0 &&& (255 : Int32)).toUInt32.toUInt16.toUInt32.toInt32)), .val (.int ((p1 &&& (255 : Int32)).toUInt32.toUInt16.toUInt32.toInt32)), .val (.int ((p2 &&& (255 : Int32)).toUInt32.toUInt16.toUInt32.toInt32)), .val (.int (0 : Int32)), .val (.int (0 : Int32)), .val (.ref o1), .val (.ref o2), .val (.ref o5), .val (.ref o10), .val (.ref o17), .val (.ref o33), .val (.ref o39), .val (.int (1 : Int32))] rfl ?_
      refine Own.aload W39 at_192 194 rfl (.ref o39) rfl rfl ?_
      refine Own.ifnullNo W39 at_194 197 rfl ?_
      refine Own.aload W39 at_197 199 rfl (.ref o39) rfl rfl ?_
      refine Own.callV W39 (tw hw 167 rfl) (tw hw 85 rfl) (fun s q => notFace_of_selects (args := #[]) (mvT (s := s) q (tw hw 87 rfl))) (tw hw 87 rfl) (tw hw 86 rfl) (by decide) (argsL := []) (rest := []) (Own.payLen (wL hw) (kI := 4) (tw hw 2 rfl) W39 Z39 hS hcz (len := 3) (wd := 0) (by decide) (by decide)) ZX39 rfl (lenOf pd_4 rfl) rfl (Nat.le_of_ble_eq_true rfl) at_199 202 rfl 18 81 (Nat.le_of_ble_eq_true rfl) (Nat.le_of_ble_eq_true rfl) (Nat.le_of_ble_eq_true rfl) (Nat.le_of_ble_eq_true rfl) ?_
      intro v40 T40 h40 u40 W40 R40 hq
      obtain ⟨rfl, eh40⟩ := hq
      have ei40 := eh40.symm; subst ei40
      have X41 : Ext h3 h5 := E5
      have X42 : Ext h3 h6 := Own.Ext.wr' X41 Q6 (Nat.le_of_eq g5.symm)
      have X43 : Ext h3 h9 := Own.Ext.wr' X42 Q9 (Nat.le_of_eq g5.symm)
      have X44 : Ext h3 h10 := Own.Ext.tr X43 E10
      have X45 : Ext h3 h11 := Own.Ext.wr' X44 Q11 (Nat.le_trans X43.1 (Nat.le_of_eq g10.symm))
      have X46 : Ext h3 h15 := Own.Ext.wr' X45 Q15 (Nat.le_trans X43.1 (Nat.le_of_eq g10.symm))
      have X47 : Ext h3 h16 := Own.Ext.wr' X46 Q16 (Nat.le_trans X43.1 (Nat.le_of_eq g10.symm))
      have X48 : Ext h3 h17 := Own.Ext.tr X47 E17
      have X49 : Ext h3 h32 := Own.Ext.kp X48 K32 (allS (Nat.le_trans X47.1 (Nat.le_of_eq g17.symm)) all0)
      have X50 : Ext h3 h33 := Own.Ext.tr X49 E33
      have X51 : Ext h3 h36 := Own.Ext.kp X50 K36 (allS (Nat.le_trans X49.1 (Nat.le_of_eq g33.symm)) all0)
      have X52 : Ext h3 h39 := Own.Ext.tr X51 E39
      have sf53 := R40.safe (V3.ext X52).lt (R39.safe (V3.ext X51).lt (R36.safe (V3.ext X50).lt (k33 o2 (R32.safe (V3.ext X48).lt (k17 o2 (k16 o2 (k15 o2 (k11 o2 (k10 o2 (k9 o2 (k6 o2 (k5 o2 (k3 o2 s2)))))))))))))
      have X54 : Ext h9 h10 := E10
      have X55 : Ext h9 h11 := Own.Ext.wr' X54 Q11 (Nat.le_of_eq g10.symm)
      have X56 : Ext h9 h15 := Own.Ext.wr' X55 Q15 (Nat.le_of_eq g10.symm)
      have X57 : Ext h9 h16 := Own.Ext.wr' X56 Q16 (Nat.le_of_eq g10.symm)
      have X58 : Ext h9 h17 := Own.Ext.tr X57 E17
      have X59 : Ext h9 h32 := Own.Ext.kp X58 K32 (allS (Nat.le_trans X57.1 (Nat.le_of_eq g17.symm)) all0)
      have X60 : Ext h9 h33 := Own.Ext.tr X59 E33
      have X61 : Ext h9 h36 := Own.Ext.kp X60 K36 (allS (Nat.le_trans X59.1 (Nat.le_of_eq g33.symm)) all0)
      have X62 : Ext h9 h39 := Own.Ext.tr X61 E39
      have sf63 := R40.safe (V9.ext X62).lt (R39.safe (V9.ext X61).lt (R36.safe (V9.ext X60).lt (k33 o5 (R32.safe (V9.ext X58).lt (k17 o5 (k16 o5 (k15 o5 (k11 o5 (k10 o5 (k9 o5 (k6 o5 s5)))))))))))
      have X64 : Ext h16 h17 := E17
      have X65 : Ext h16 h32 := Own.Ext.kp X64 K32 (allS (Nat.le_of_eq g17.symm) all0)
      have X66 : Ext h16 h33 := Own.Ext.tr X65 E33
      have X67 : Ext h16 h36 := Own.Ext.kp X66 K36 (allS (Nat.le_trans X65.1 (Nat.le_of_eq g33.symm)) all0)
      have X68 : Ext h16 h39 := Own.Ext.tr X67 E39
      have sf69 := R40.safe (V16.ext X68).lt (R39.safe (V16.ext X67).lt (R36.safe (V16.ext X66).lt (k33 o10 (R32.safe (V16.ext X64).lt (k17 o10 (k16 o10 (k15 o10 (k11 o10 s10))))))))
      show Own.Go _ _ _ _ _ 202 #[.val (.int p0), .val (.int p1), .val (.int p2), .val (.int p3), .val (.long p4), .second, .val (.int ((p0 &&& (255 : Int32)).toUInt32.toUInt16.toUInt32.toInt32)), .val (.int ((p1 &&& (255 : Int32)).toUInt32.toUInt16.toUInt32.toInt32)), .val (.int ((p2 &&& (255 : Int32)).toUInt32.toUInt16.toUInt32.toInt32)), .val (.int (0 : Int32)), .val (.int (0 : Int32)), .val (.ref o1), .val (.ref o2), .val (.ref o5), .val (.ref o10), .val (.ref o17), .val (.ref o33), .val (.ref o39), .val (.int (1 : Int32))] [(.int (2 : Int32))]
      refine Own.iload W40 at_202 204 rfl (1 : Int32) rfl ?_
      refine Own.iload W40 at_204 206 rfl (0 : Int32) rfl ?_
      refine Own.iadd W40 at_206 207 rfl ?_
      refine Own.iconst W40 at_207 208 rfl (1 : Int32) rfl ?_
      refine Own.iadd W40 at_208 209 rfl ?_
      refine Own.icmpYes W40 at_209 214 (by decide) (by decide) (by decide) ?_
      refine Own.aload W40 at_214 216 rfl (.ref o39) rfl rfl ?_
      refine Own.iconst W40 at_216 217 rfl (0 : Int32) rfl ?_
      refine Own.callV W40 (tw hw 168 rfl) (tw hw 169 rfl) (fun s q => notFace_of_selects (args := #[]) (mvT (s := s) q (tw hw 171 rfl))) (tw hw 171 rfl) (tw hw 170 rfl) (by decide) (argsL := [(.int (0 : Int32))]) (rest := []) (Own.payChr (wC hw) (kI := 4) (tw hw 2 rfl) W40 Z39 hS hcz SF rfm (i := 0) (Nat.le_of_ble_eq_true rfl) rfl (len := 3) (wd := 0) (by decide) (by decide)) ZX39 rfl (lenOf pd_19 rfl) rfl (Nat.le_of_ble_eq_true rfl) at_217 220 rfl 18 81 (Nat.le_of_ble_eq_true rfl) (Nat.le_of_ble_eq_true rfl) (Nat.le_of_ble_eq_true rfl) (Nat.le_of_ble_eq_true rfl) ?_
      intro v70 T70 h70 u70 W70 R70 hq
      obtain ⟨rfl, eh70⟩ := hq
      have ei70 := eh70.symm; subst ei70
      have sf71 := R70.safe (V3.ext X52).lt sf53
      have sf72 := R70.safe (V9.ext X62).lt sf63
      have sf73 := R70.safe (V16.ext X68).lt sf69
      show Own.Go _ _ _ _ _ 220 #[.val (.int p0), .val (.int p1), .val (.int p2), .val (.int p3), .val (.long p4), .second, .val (.int ((p0 &&& (255 : Int32)).toUInt32.toUInt16.toUInt32.toInt32)), .val (.int ((p1 &&& (255 : Int32)).toUInt32.toUInt16.toUInt32.toInt32)), .val (.int ((p2 &&& (255 : Int32)).toUInt32.toUInt16.toUInt32.toInt32)), .val (.int (0 : Int32)), .val (.int (0 : Int32)), .val (.ref o1), .val (.ref o2), .val (.ref o5), .val (.ref o10), .val (.ref o17), .val (.ref o33), .val (.ref o39), .val (.int (1 : Int32))] [(.int (60 : Int32))]
      refine Own.bipush W70 at_220 222 rfl (60 : Int32) rfl ?_
      refine Own.icmpYes W70 at_222 227 (by decide) (by decide) (by decide) ?_
      refine Own.iload W70 at_227 229 rfl (0 : Int32) rfl ?_
      refine Own.ifYes W70 at_229 245 (by decide) (by decide) (by decide) ?_
      refine Own.iload W70 at_245 247 rfl (0 : Int32) rfl ?_
      refine Own.iconst W70 at_247 248 rfl (1 : Int32) rfl ?_
      refine Own.icmpYes W70 at_248 265 (by decide) (by decide) (by decide) ?_
      refine Own.iload W70 at_265 267 rfl (0 : Int32) rfl ?_
      refine Own.iconst W70 at_267 268 rfl (2 : Int32) rfl ?_
      refine Own.icmpYes W70 at_268 287 (by decide) (by decide) (by decide) ?_
      refine Own.iload W70 at_287 289 rfl (0 : Int32) rfl ?_
      refine Own.iconst W70 at_289 290 rfl (3 : Int32) rfl ?_
      refine Own.icmpYes W70 at_290 309 (by decide) (by decide) (by decide) ?_
      refine Own.aload W70 at_309 311 rfl (.ref o39) rfl rfl ?_
      refine Own.iload W70 at_311 313 rfl (1 : Int32) rfl ?_
      refine Own.iload W70 at_313 315 rfl (0 : Int32) rfl ?_
      refine Own.iadd W70 at_315 316 rfl ?_
      refine Own.callV W70 (tw hw 168 rfl) (tw hw 169 rfl) (fun s q => notFace_of_selects (args := #[]) (mvT (s := s) q (tw hw 171 rfl))) (tw hw 171 rfl) (tw hw 170 rfl) (by decide) (argsL := [(.int (1 : Int32))]) (rest := []) (Own.payChr (wC hw) (kI := 4) (tw hw 2 rfl) W70 Z39 hS hcz SF rfm (i := 1) (Nat.le_of_ble_eq_true rfl) rfl (len := 3) (wd := 0) (by decide) (by decide)) ZX39 rfl (lenOf pd_19 rfl) rfl (Nat.le_of_ble_eq_true rfl) at_316 319 rfl 18 81 (Nat.le_of_ble_eq_true rfl) (Nat.le_of_ble_eq_true rfl) (Nat.le_of_ble_eq_true rfl) (Nat.le_of_ble_eq_true rfl) ?_
      intro v74 T74 h74 u74 W74 R74 hq
      obtain ⟨rfl, eh74⟩ := hq
      have ei74 := eh74.symm; subst ei74
      have sf75 := R74.safe (V3.ext X52).lt sf71
      have sf76 := R74.safe (V9.ext X62).lt sf72
      have sf77 := R74.safe (V16.ext X68).lt sf73
      show Own.Go _ _ _ _ _ 319 #[.val (.int p0), .val (.int p1), .val (.int p2), .val (.int p3), .val (.long p4), .second, .val (.int ((p0 &&& (255 : Int32)).toUInt32.toUInt16.toUInt32.toInt32)), .val (.int ((p1 &&& (255 : Int32)).toUInt32.toUInt16.toUInt32.toInt32)), .val (.int ((p2 &&& (255 : Int32)).toUInt32.toUInt16.toUInt32.toInt32)), .val (.int (0 : Int32)), .val (.int (0 : Int32)), .val (.ref o1), .val (.ref o2), .val (.ref o5), .val (.ref o10), .val (.ref o17), .val (.ref o33), .val (.ref o39), .val (.int (1 : Int32))] [(.int (62 : Int32))]
      refine Own.bipush W74 at_319 321 rfl (62 : Int32) rfl ?_
      refine Own.icmpNo W74 at_321 324 (by decide) rfl ?_
      refine Own.iconst W74 at_324 325 rfl (1 : Int32) rfl ?_
      refine Own.goto W74 at_325 329 (by decide) (by decide) ?_
      exact Own.retB W74 (by decide) (by decide) rfl at_329 rfl rfl
    · skip
      refine Own.ifYes W16 at_96 111 (XT.i0_ne_t e0) (by decide) (by decide) ?_
      refine Own.iload W16 at_111 113 rfl (p3 &&& (3 : Int32)) rfl ?_
      refine Own.iconst W16 at_113 114 rfl (1 : Int32) rfl ?_
      by_cases e1 : (p3 &&& (3 : Int32)) = (1 : Int32)
      · skip
        refine Own.icmpNo W16 at_114 117 (XT.ii_ne_f e1) rfl ?_
        refine Own.newO W16 (tw hw 1 rfl) (tw hw 2 rfl) (tw hw 3 rfl) at_117 120 rfl 5 10 (by decide) (by decide) (by decide) (by decide) ?_
        intro T78 h78 o78 g78 W78 E78 A78 D78 s78 k78
        have F78_coder : Fld G.Z h78 o78 "java/lang/String" "coder" "B" (.int (0 : Int32)) := D78 (Or.inr (tw hw 27 rfl)) (ty := .byte) (by decide)
        have F78_value : Fld G.Z h78 o78 "java/lang/String" "value" "[B" .null := D78 (Or.inr (tw hw 29 rfl)) (ty := (.array .byte)) (by decide)
        refine Own.dup W78 at_120 121 rfl rfl ?_
        refine Own.aload W78 at_121 123 rfl (.ref o2) rfl rfl ?_
        have X79 : Ext h h10 := Own.Ext.tr X14 E10
        have X80 : Ext h h11 := Own.Ext.wr' X79 Q11 (Nat.le_trans X14.1 (Nat.le_of_eq g10.symm))
        have X81 : Ext h h15 := Own.Ext.wr' X80 Q15 (Nat.le_trans X14.1 (Nat.le_of_eq g10.symm))
        have X82 : Ext h h16 := Own.Ext.wr' X81 Q16 (Nat.le_trans X14.1 (Nat.le_of_eq g10.symm))
        have X83 : Ext h3 h5 := E5
        have X84 : Ext h3 h6 := Own.Ext.wr' X83 Q6 (Nat.le_of_eq g5.symm)
        have X85 : Ext h3 h9 := Own.Ext.wr' X84 Q9 (Nat.le_of_eq g5.symm)
        have X86 : Ext h3 h10 := Own.Ext.tr X85 E10
        have X87 : Ext h3 h11 := Own.Ext.wr' X86 Q11 (Nat.le_trans X85.1 (Nat.le_of_eq g10.symm))
        have X88 : Ext h3 h15 := Own.Ext.wr' X87 Q15 (Nat.le_trans X85.1 (Nat.le_of_eq g10.symm))
        have X89 : Ext h3 h16 := Own.Ext.wr' X88 Q16 (Nat.le_trans X85.1 (Nat.le_of_eq g10.symm))
        have X90 : Ext h3 h78 := Own.Ext.tr X89 E78
        refine Own.callX W78 rfl (tw hw 4 rfl) (tw hw 5 rfl) (tw hw 6 rfl) (by decide) (argsL := [(.ref o2)]) (rest := [(.ref o78)]) (Own.payStr (wS hw) hEL hmem W78 (cs := [((p0 &&& (255 : Int32)).toUInt32.toUInt16.toUInt32.toInt32)]) (z := (1 : Int32)) (cz := cz) (Nat.le_trans W0.n0 (Nat.le_trans X82.1 (Nat.le_of_eq g78.symm))) s78 A78 F78_value F78_coder ((V3.ext X90)) rfl (by intro c hc; simp only [List.mem_cons, List.not_mem_nil, or_false] at hc; rcases hc with rfl <;> exact Own.lo_rng _) (Nat.le_of_ble_eq_true rfl) hS hcz (len := 3) (wd := 1) (by decide) (by decide)) rfl (lenOf pd_17 rfl) rfl (Nat.le_of_ble_eq_true rfl) at_123 126 rfl 9 19 (Nat.le_of_ble_eq_true rfl) (Nat.le_of_ble_eq_true rfl) (Nat.le_of_ble_eq_true rfl) (Nat.le_of_ble_eq_true rfl) ?_
        intro v91 T91 h91 u91 W91 R91 hq
        obtain ⟨rfl, K91, F91⟩ := hq
        show Own.Go _ _ _ _ _ 126 #[.val (.int p0), .val (.int p1), .val (.int p2), .val (.int p3), .val (.long p4), .second, .val (.int ((p0 &&& (255 : Int32)).toUInt32.toUInt16.toUInt32.toInt32)), .val (.int ((p1 &&& (255 : Int32)).toUInt32.toUInt16.toUInt32.toInt32)), .val (.int ((p2 &&& (255 : Int32)).toUInt32.toUInt16.toUInt32.toInt32)), .val (.int (p3 &&& (3 : Int32))), .val (.int (0 : Int32)), .val (.ref o1), .val (.ref o2), .val (.ref o5), .val (.ref o10), .unset, .unset, .unset, .unset] [(.ref o78)]
        refine Own.goto W91 at_126 156 (by decide) (by decide) ?_
        rw [e1]
        show Own.Go _ _ _ _ _ 156 #[.val (.int p0), .val (.int p1), .val (.int p2), .val (.int p3), .val (.long p4), .second, .val (.int ((p0 &&& (255 : Int32)).toUInt32.toUInt16.toUInt32.toInt32)), .val (.int ((p1 &&& (255 : Int32)).toUInt32.toUInt16.toUInt32.toInt32)), .val (.int ((p2 &&& (255 : Int32)).toUInt32.toUInt16.toUInt32.toInt32)), .val (.int (1 : Int32)), .val (.int (0 : Int32)), .val (.ref o1), .val (.ref o2), .val (.ref o5), .val (.ref o10), .unset, .unset, .unset, .unset] [(.ref o78)]
        refine Own.astore W91 at_156 158 rfl rfl #[.val (.int p0), .val (.int p1), .val (.int p2), .val (.int p3), .val (.long p4), .second, .val (.int ((p0 &&& (255 : Int32)).toUInt32.toUInt16.toUInt32.toInt32)), .val (.int ((p1 &&& (255 : Int32)).toUInt32.toUInt16.toUInt32.toInt32)), .val (.int ((p2 &&& (255 : Int32)).toUInt32.toUInt16.toUInt32.toInt32)), .val (.int (1 : Int32)), .val (.int (0 : Int32)), .val (.ref o1), .val (.ref o2), .val (.ref o5), .val (.ref o10), .val (.ref o78), .unset, .unset, .unset] rfl ?_
        refine Own.newO W91 (tw hw 30 rfl) (tw hw 31 rfl) (tw hw 32 rfl) at_158 161 rfl 10 22 (by decide) (by decide) (by decide) (by decide) ?_
        intro T92 h92 o92 g92 W92 E92 A92 D92 s92 k92
        have F92_name : Fld G.Z h92 o92 "com/example/lopa/lopa/trec/SgmlScanner$Tag" "name" "Ljava/lang/String;" .null := D92 (Or.inr (tw hw 43 rfl)) (ty := (.object "java/lang/String")) (by decide)
        have F92_closing : Fld G.Z h92 o92 "com/example/lopa/lopa/trec/SgmlScanner$Tag" "closing" "Z" (.int (0 : Int32)) := D92 (Or.inr (tw hw 45 rfl)) (ty := .boolean) (by decide)
        have F92_line : Fld G.Z h92 o92 "com/example/lopa/lopa/trec/SgmlScanner$Tag" "line" "J" (.long (0 : Int64)) := D92 (Or.inr (tw hw 47 rfl)) (ty := .long) (by decide)
        refine Own.dup W92 at_161 162 rfl rfl ?_
        refine Own.aload W92 at_162 164 rfl (.ref o78) rfl rfl ?_
        refine Own.iload W92 at_164 166 rfl (0 : Int32) rfl ?_
        refine Own.lload W92 at_166 168 rfl p4 rfl ?_
        have X93 : Ext h h78 := Own.Ext.tr X82 E78
        have X94 : Ext h h91 := Own.Ext.kp X93 K91 (allS (Nat.le_trans X82.1 (Nat.le_of_eq g78.symm)) all0)
        refine Own.callX W92 rfl (tw hw 33 rfl) (tw hw 34 rfl) (tw hw 35 rfl) (by decide) (argsL := [(.ref o78), (.int (0 : Int32)), (.long p4)]) (rest := [(.ref o92)]) (Own.Con.pay (con_tag hw hEL o78 p4 rfl rfl W92.old (Nat.le_trans W0.n0 (Nat.le_trans X94.1 (Nat.le_of_eq g92.symm))) A92 F92_name F92_closing F92_line) W92 (tw hw 35 rfl) (tw hw 32 rfl) (len := 3) (wd := 1) (by decide) (by decide) (fun _ q => nomatch q)) rfl (lenOf pd_18 rfl) rfl (Nat.le_of_ble_eq_true rfl) at_168 171 rfl 10 22 (Nat.le_of_ble_eq_true rfl) (Nat.le_of_ble_eq_true rfl) (Nat.le_of_ble_eq_true rfl) (Nat.le_of_ble_eq_true rfl) ?_
        intro v95 T95 h95 u95 W95 R95 hq
        obtain ⟨rfl, K95, E95, Fn95, Fc95⟩ := hq
        show Own.Go _ _ _ _ _ 171 #[.val (.int p0), .val (.int p1), .val (.int p2), .val (.int p3), .val (.long p4), .second, .val (.int ((p0 &&& (255 : Int32)).toUInt32.toUInt16.toUInt32.toInt32)), .val (.int ((p1 &&& (255 : Int32)).toUInt32.toUInt16.toUInt32.toInt32)), .val (.int ((p2 &&& (255 : Int32)).toUInt32.toUInt16.toUInt32.toInt32)), .val (.int (1 : Int32)), .val (.int (0 : Int32)), .val (.ref o1), .val (.ref o2), .val (.ref o5), .val (.ref o10), .val (.ref o78), .unset, .unset, .unset] [(.ref o92)]
        refine Own.astore W95 at_171 173 rfl rfl #[.val (.int p0), .val (.int p1), .val (.int p2), .val (.int p3), .val (.long p4), .second, .val (.int ((p0 &&& (255 : Int32)).toUInt32.toUInt16.toUInt32.toInt32)), .val (.int ((p1 &&& (255 : Int32)).toUInt32.toUInt16.toUInt32.toInt32)), .val (.int ((p2 &&& (255 : Int32)).toUInt32.toUInt16.toUInt32.toInt32)), .val (.int (1 : Int32)), .val (.int (0 : Int32)), .val (.ref o1), .val (.ref o2), .val (.ref o5), .val (.ref o10), .val (.ref o78), .val (.ref o92), .unset, .unset] rfl ?_
        refine Own.aload W95 at_173 175 rfl (.ref o92) rfl rfl ?_
        have X96 : Ext h91 h92 := E92
        have X97 : Ext h91 h95 := Own.Ext.kp X96 K95 (allS (Nat.le_of_eq g92.symm) all0)
        refine Own.callV W95 (tw hw 48 rfl) (tw hw 49 rfl) (fun s q => notFace_of_selects (args := #[]) (mvT (s := s) q (tw hw 51 rfl))) (tw hw 51 rfl) (tw hw 50 rfl) (by decide) (argsL := []) (rest := []) (Own.Con.pay (con_tst0 hw hEL hmem hS hcz hE hEN (cs := [((p0 &&& (255 : Int32)).toUInt32.toUInt16.toUInt32.toInt32)]) (Nat.le_of_ble_eq_true rfl) W95.old Fn95 Fc95 (F91.ext X97)) W95 (tw hw 52 rfl) (tw hw 32 rfl) (len := 3) (wd := 0) (by decide) (by decide) (fun _ q => nomatch q)) E95 rfl (lenOf pd_16 rfl) rfl (Nat.le_of_ble_eq_true rfl) at_175 178 rfl 18 82 (Nat.le_of_ble_eq_true rfl) (Nat.le_of_ble_eq_true rfl) (Nat.le_of_ble_eq_true rfl) (Nat.le_of_ble_eq_true rfl) ?_
        intro v98 T98 h98 u98 W98 R98 hq
        obtain ⟨o98, rfl, E98, g98, S98⟩ := hq
        have Z98 : Own.Str G.Z h98 o98 [(60 : Int32), ((p0 &&& (255 : Int32)).toUInt32.toUInt16.toUInt32.toInt32), (62 : Int32)] := S98
        have ZX98 := Z98.exa
        show Own.Go _ _ _ _ _ 178 #[.val (.int p0), .val (.int p1), .val (.int p2), .val (.int p3), .val (.long p4), .second, .val (.int ((p0 &&& (255 : Int32)).toUInt32.toUInt16.toUInt32.toInt32)), .val (.int ((p1 &&& (255 : Int32)).toUInt32.toUInt16.toUInt32.toInt32)), .val (.int ((p2 &&& (255 : Int32)).toUInt32.toUInt16.toUInt32.toInt32)), .val (.int (1 : Int32)), .val (.int (0 : Int32)), .val (.ref o1), .val (.ref o2), .val (.ref o5), .val (.ref o10), .val (.ref o78), .val (.ref o92), .unset, .unset] [(.ref o98)]
        refine Own.astore W98 at_178 180 rfl rfl #[.val (.int p0), .val (.int p1), .val (.int p2), .val (.int p3), .val (.long p4), .second, .val (.int ((p0 &&& (255 : Int32)).toUInt32.toUInt16.toUInt32.toInt32)), .val (.int ((p1 &&& (255 : Int32)).toUInt32.toUInt16.toUInt32.toInt32)), .val (.int ((p2 &&& (255 : Int32)).toUInt32.toUInt16.toUInt32.toInt32)), .val (.int (1 : Int32)), .val (.int (0 : Int32)), .val (.ref o1), .val (.ref o2), .val (.ref o5), .val (.ref o10), .val (.ref o78), .val (.ref o92), .val (.ref o98), .unset] rfl ?_
        refine Own.iload W98 at_180 182 rfl (0 : Int32) rfl ?_
        refine Own.ifYes W98 at_182 189 (by decide) (by decide) (by decide) ?_
        refine Own.iconst W98 at_189 190 rfl (1 : Int32) rfl ?_
        refine Own.istore W98 at_190 192 rfl #[.val (.int p0), .val (.int p1), .val (.int p2), .val (.int p3), .val (.long p4), .second, .val (.int ((p0 &&& (255 : Int32)).toUInt32.toUInt16.toUInt32.toInt32)), .val (.int ((p1 &&& (255 : Int32)).toUInt32.toUInt16.toUInt32.toInt32)), .val (.int ((p2 &&& (255 : Int32)).toUInt32.toUInt16.toUInt32.toInt32)), .val (.int (1 : Int32)), .val (.int (0 : Int32)), .val (.ref o1), .val (.ref o2), .val (.ref o5), .val (.ref o10), .val (.ref o78), .val (.ref o92), .val (.ref o98), .val (.int (1 : Int32))] rfl ?_
        refine Own.aload W98 at_192 194 rfl (.ref o98) rfl rfl ?_
        refine Own.ifnullNo W98 at_194 197 rfl ?_
        refine Own.aload W98 at_197 199 rfl (.ref o98) rfl rfl ?_
        refine Own.callV W98 (tw hw 167 rfl) (tw hw 85 rfl) (fun s q => notFace_of_selects (args := #[]) (mvT (s := s) q (tw hw 87 rfl))) (tw hw 87 rfl) (tw hw 86 rfl) (by decide) (argsL := []) (rest := []) (Own.payLen (wL hw) (kI := 4) (tw hw 2 rfl) W98 Z98 hS hcz (len := 3) (wd := 0) (by decide) (by decide)) ZX98 rfl (lenOf pd_4 rfl) rfl (Nat.le_of_ble_eq_true rfl) at_199 202 rfl 18 82 (Nat.le_of_ble_eq_true rfl) (Nat.le_of_ble_eq_true rfl) (Nat.le_of_ble_eq_true rfl) (Nat.le_of_ble_eq_true rfl) ?_
        intro v99 T99 h99 u99 W99 R99 hq
        obtain ⟨rfl, eh99⟩ := hq
        have ei99 := eh99.symm; subst ei99
        have X100 : Ext h1 h2 := E2
        have X101 : Ext h1 h3 := Own.Ext.wr' X100 Q3 (Nat.le_of_eq g2.symm)
        have X102 : Ext h1 h5 := Own.Ext.tr X101 E5
        have X103 : Ext h1 h6 := Own.Ext.wr' X102 Q6 (Nat.le_trans X101.1 (Nat.le_of_eq g5.symm))
        have X104 : Ext h1 h9 := Own.Ext.wr' X103 Q9 (Nat.le_trans X101.1 (Nat.le_of_eq g5.symm))
        have X105 : Ext h1 h10 := Own.Ext.tr X104 E10
        have X106 : Ext h1 h11 := Own.Ext.wr' X105 Q11 (Nat.le_trans X104.1 (Nat.le_of_eq g10.symm))
        have X107 : Ext h1 h15 := Own.Ext.wr' X106 Q15 (Nat.le_trans X104.1 (Nat.le_of_eq g10.symm))
        have X108 : Ext h1 h16 := Own.Ext.wr' X107 Q16 (Nat.le_trans X104.1 (Nat.le_of_eq g10.symm))
        have X109 : Ext h1 h78 := Own.Ext.tr X108 E78
        have X110 : Ext h1 h91 := Own.Ext.kp X109 K91 (allS (Nat.le_trans X108.1 (Nat.le_of_eq g78.symm)) all0)
        have X111 : Ext h1 h92 := Own.Ext.tr X110 E92
        have X112 : Ext h1 h95 := Own.Ext.kp X111 K95 (allS (Nat.le_trans X110.1 (Nat.le_of_eq g92.symm)) all0)
        have X113 : Ext h1 h98 := Own.Ext.tr X112 E98
        have sf114 := R99.safe (V1.ext X113).lt (R98.safe (V1.ext X112).lt (R95.safe (V1.ext X111).lt (k92 o1 (R91.safe (V1.ext X109).lt (k78 o1 (k16 o1 (k15 o1 (k11 o1 (k10 o1 (k9 o1 (k6 o1 (k5 o1 (k3 o1 (k2 o1 s1))))))))))))))
        have X115 : Ext h9 h10 := E10
        have X116 : Ext h9 h11 := Own.Ext.wr' X115 Q11 (Nat.le_of_eq g10.symm)
        have X117 : Ext h9 h15 := Own.Ext.wr' X116 Q15 (Nat.le_of_eq g10.symm)
        have X118 : Ext h9 h16 := Own.Ext.wr' X117 Q16 (Nat.le_of_eq g10.symm)
        have X119 : Ext h9 h78 := Own.Ext.tr X118 E78
        have X120 : Ext h9 h91 := Own.Ext.kp X119 K91 (allS (Nat.le_trans X118.1 (Nat.le_of_eq g78.symm)) all0)
        have X121 : Ext h9 h92 := Own.Ext.tr X120 E92
        have X122 : Ext h9 h95 := Own.Ext.kp X121 K95 (allS (Nat.le_trans X120.1 (Nat.le_of_eq g92.symm)) all0)
        have X123 : Ext h9 h98 := Own.Ext.tr X122 E98
        have sf124 := R99.safe (V9.ext X123).lt (R98.safe (V9.ext X122).lt (R95.safe (V9.ext X121).lt (k92 o5 (R91.safe (V9.ext X119).lt (k78 o5 (k16 o5 (k15 o5 (k11 o5 (k10 o5 (k9 o5 (k6 o5 s5)))))))))))
        have X125 : Ext h16 h78 := E78
        have X126 : Ext h16 h91 := Own.Ext.kp X125 K91 (allS (Nat.le_of_eq g78.symm) all0)
        have X127 : Ext h16 h92 := Own.Ext.tr X126 E92
        have X128 : Ext h16 h95 := Own.Ext.kp X127 K95 (allS (Nat.le_trans X126.1 (Nat.le_of_eq g92.symm)) all0)
        have X129 : Ext h16 h98 := Own.Ext.tr X128 E98
        have sf130 := R99.safe (V16.ext X129).lt (R98.safe (V16.ext X128).lt (R95.safe (V16.ext X127).lt (k92 o10 (R91.safe (V16.ext X125).lt (k78 o10 (k16 o10 (k15 o10 (k11 o10 s10))))))))
        show Own.Go _ _ _ _ _ 202 #[.val (.int p0), .val (.int p1), .val (.int p2), .val (.int p3), .val (.long p4), .second, .val (.int ((p0 &&& (255 : Int32)).toUInt32.toUInt16.toUInt32.toInt32)), .val (.int ((p1 &&& (255 : Int32)).toUInt32.toUInt16.toUInt32.toInt32)), .val (.int ((p2 &&& (255 : Int32)).toUInt32.toUInt16.toUInt32.toInt32)), .val (.int (1 : Int32)), .val (.int (0 : Int32)), .val (.ref o1), .val (.ref o2), .val (.ref o5), .val (.ref o10), .val (.ref o78), .val (.ref o92), .val (.ref o98), .val (.int (1 : Int32))] [(.int (3 : Int32))]
        refine Own.iload W99 at_202 204 rfl (1 : Int32) rfl ?_
        refine Own.iload W99 at_204 206 rfl (1 : Int32) rfl ?_
        refine Own.iadd W99 at_206 207 rfl ?_
        refine Own.iconst W99 at_207 208 rfl (1 : Int32) rfl ?_
        refine Own.iadd W99 at_208 209 rfl ?_
        refine Own.icmpYes W99 at_209 214 (by decide) (by decide) (by decide) ?_
        refine Own.aload W99 at_214 216 rfl (.ref o98) rfl rfl ?_
        refine Own.iconst W99 at_216 217 rfl (0 : Int32) rfl ?_
        refine Own.callV W99 (tw hw 168 rfl) (tw hw 169 rfl) (fun s q => notFace_of_selects (args := #[]) (mvT (s := s) q (tw hw 171 rfl))) (tw hw 171 rfl) (tw hw 170 rfl) (by decide) (argsL := [(.int (0 : Int32))]) (rest := []) (Own.payChr (wC hw) (kI := 4) (tw hw 2 rfl) W99 Z98 hS hcz SF rfm (i := 0) (Nat.le_of_ble_eq_true rfl) rfl (len := 3) (wd := 0) (by decide) (by decide)) ZX98 rfl (lenOf pd_19 rfl) rfl (Nat.le_of_ble_eq_true rfl) at_217 220 rfl 18 82 (Nat.le_of_ble_eq_true rfl) (Nat.le_of_ble_eq_true rfl) (Nat.le_of_ble_eq_true rfl) (Nat.le_of_ble_eq_true rfl) ?_
        intro v131 T131 h131 u131 W131 R131 hq
        obtain ⟨rfl, eh131⟩ := hq
        have ei131 := eh131.symm; subst ei131
        have sf132 := R131.safe (V1.ext X113).lt sf114
        have sf133 := R131.safe (V9.ext X123).lt sf124
        have sf134 := R131.safe (V16.ext X129).lt sf130
        show Own.Go _ _ _ _ _ 220 #[.val (.int p0), .val (.int p1), .val (.int p2), .val (.int p3), .val (.long p4), .second, .val (.int ((p0 &&& (255 : Int32)).toUInt32.toUInt16.toUInt32.toInt32)), .val (.int ((p1 &&& (255 : Int32)).toUInt32.toUInt16.toUInt32.toInt32)), .val (.int ((p2 &&& (255 : Int32)).toUInt32.toUInt16.toUInt32.toInt32)), .val (.int (1 : Int32)), .val (.int (0 : Int32)), .val (.ref o1), .val (.ref o2), .val (.ref o5), .val (.ref o10), .val (.ref o78), .val (.ref o92), .val (.ref o98), .val (.int (1 : Int32))] [(.int (60 : Int32))]
        refine Own.bipush W131 at_220 222 rfl (60 : Int32) rfl ?_
        refine Own.icmpYes W131 at_222 227 (by decide) (by decide) (by decide) ?_
        refine Own.iload W131 at_227 229 rfl (0 : Int32) rfl ?_
        refine Own.ifYes W131 at_229 245 (by decide) (by decide) (by decide) ?_
        refine Own.iload W131 at_245 247 rfl (1 : Int32) rfl ?_
        refine Own.iconst W131 at_247 248 rfl (1 : Int32) rfl ?_
        refine Own.icmpNo W131 at_248 251 (by decide) rfl ?_
        refine Own.aload W131 at_251 253 rfl (.ref o98) rfl rfl ?_
        refine Own.iload W131 at_253 255 rfl (1 : Int32) rfl ?_
        refine Own.callV W131 (tw hw 168 rfl) (tw hw 169 rfl) (fun s q => notFace_of_selects (args := #[]) (mvT (s := s) q (tw hw 171 rfl))) (tw hw 171 rfl) (tw hw 170 rfl) (by decide) (argsL := [(.int (1 : Int32))]) (rest := []) (Own.payChr (wC hw) (kI := 4) (tw hw 2 rfl) W131 Z98 hS hcz SF rfm (i := 1) (Nat.le_of_ble_eq_true rfl) rfl (len := 3) (wd := 0) (by decide) (by decide)) ZX98 rfl (lenOf pd_19 rfl) rfl (Nat.le_of_ble_eq_true rfl) at_255 258 rfl 18 82 (Nat.le_of_ble_eq_true rfl) (Nat.le_of_ble_eq_true rfl) (Nat.le_of_ble_eq_true rfl) (Nat.le_of_ble_eq_true rfl) ?_
        intro v135 T135 h135 u135 W135 R135 hq
        obtain ⟨rfl, eh135⟩ := hq
        have ei135 := eh135.symm; subst ei135
        have sf136 := R135.safe (V1.ext X113).lt sf132
        have sf137 := R135.safe (V9.ext X123).lt sf133
        have sf138 := R135.safe (V16.ext X129).lt sf134
        show Own.Go _ _ _ _ _ 258 #[.val (.int p0), .val (.int p1), .val (.int p2), .val (.int p3), .val (.long p4), .second, .val (.int ((p0 &&& (255 : Int32)).toUInt32.toUInt16.toUInt32.toInt32)), .val (.int ((p1 &&& (255 : Int32)).toUInt32.toUInt16.toUInt32.toInt32)), .val (.int ((p2 &&& (255 : Int32)).toUInt32.toUInt16.toUInt32.toInt32)), .val (.int (1 : Int32)), .val (.int (0 : Int32)), .val (.ref o1), .val (.ref o2), .val (.ref o5), .val (.ref o10), .val (.ref o78), .val (.ref o92), .val (.ref o98), .val (.int (1 : Int32))] [(.int ((p0 &&& (255 : Int32)).toUInt32.toUInt16.toUInt32.toInt32))]
        refine Own.iload W135 at_258 260 rfl ((p0 &&& (255 : Int32)).toUInt32.toUInt16.toUInt32.toInt32) rfl ?_
        refine Own.icmpYes W135 at_260 265 (XT.ii_eq_t rfl) (by decide) (by decide) ?_
        refine Own.iload W135 at_265 267 rfl (1 : Int32) rfl ?_
        refine Own.iconst W135 at_267 268 rfl (2 : Int32) rfl ?_
        refine Own.icmpYes W135 at_268 287 (by decide) (by decide) (by decide) ?_
        refine Own.iload W135 at_287 289 rfl (1 : Int32) rfl ?_
        refine Own.iconst W135 at_289 290 rfl (3 : Int32) rfl ?_
        refine Own.icmpYes W135 at_290 309 (by decide) (by decide) (by decide) ?_
        refine Own.aload W135 at_309 311 rfl (.ref o98) rfl rfl ?_
        refine Own.iload W135 at_311 313 rfl (1 : Int32) rfl ?_
        refine Own.iload W135 at_313 315 rfl (1 : Int32) rfl ?_
        refine Own.iadd W135 at_315 316 rfl ?_
        refine Own.callV W135 (tw hw 168 rfl) (tw hw 169 rfl) (fun s q => notFace_of_selects (args := #[]) (mvT (s := s) q (tw hw 171 rfl))) (tw hw 171 rfl) (tw hw 170 rfl) (by decide) (argsL := [(.int (2 : Int32))]) (rest := []) (Own.payChr (wC hw) (kI := 4) (tw hw 2 rfl) W135 Z98 hS hcz SF rfm (i := 2) (Nat.le_of_ble_eq_true rfl) rfl (len := 3) (wd := 0) (by decide) (by decide)) ZX98 rfl (lenOf pd_19 rfl) rfl (Nat.le_of_ble_eq_true rfl) at_316 319 rfl 18 82 (Nat.le_of_ble_eq_true rfl) (Nat.le_of_ble_eq_true rfl) (Nat.le_of_ble_eq_true rfl) (Nat.le_of_ble_eq_true rfl) ?_
        intro v139 T139 h139 u139 W139 R139 hq
        obtain ⟨rfl, eh139⟩ := hq
        have ei139 := eh139.symm; subst ei139
        have sf140 := R139.safe (V1.ext X113).lt sf136
        have sf141 := R139.safe (V9.ext X123).lt sf137
        have sf142 := R139.safe (V16.ext X129).lt sf138
        show Own.Go _ _ _ _ _ 319 #[.val (.int p0), .val (.int p1), .val (.int p2), .val (.int p3), .val (.long p4), .second, .val (.int ((p0 &&& (255 : Int32)).toUInt32.toUInt16.toUInt32.toInt32)), .val (.int ((p1 &&& (255 : Int32)).toUInt32.toUInt16.toUInt32.toInt32)), .val (.int ((p2 &&& (255 : Int32)).toUInt32.toUInt16.toUInt32.toInt32)), .val (.int (1 : Int32)), .val (.int (0 : Int32)), .val (.ref o1), .val (.ref o2), .val (.ref o5), .val (.ref o10), .val (.ref o78), .val (.ref o92), .val (.ref o98), .val (.int (1 : Int32))] [(.int (62 : Int32))]
        refine Own.bipush W139 at_319 321 rfl (62 : Int32) rfl ?_
        refine Own.icmpNo W139 at_321 324 (by decide) rfl ?_
        refine Own.iconst W139 at_324 325 rfl (1 : Int32) rfl ?_
        refine Own.goto W139 at_325 329 (by decide) (by decide) ?_
        exact Own.retB W139 (by decide) (by decide) rfl at_329 rfl rfl
      · skip
        refine Own.icmpYes W16 at_114 129 (XT.ii_ne_t e1) (by decide) (by decide) ?_
        refine Own.iload W16 at_129 131 rfl (p3 &&& (3 : Int32)) rfl ?_
        refine Own.iconst W16 at_131 132 rfl (2 : Int32) rfl ?_
        by_cases e2 : (p3 &&& (3 : Int32)) = (2 : Int32)
        · skip
          refine Own.icmpNo W16 at_132 135 (XT.ii_ne_f e2) rfl ?_
          refine Own.newO W16 (tw hw 1 rfl) (tw hw 2 rfl) (tw hw 3 rfl) at_135 138 rfl 5 10 (by decide) (by decide) (by decide) (by decide) ?_
          intro T143 h143 o143 g143 W143 E143 A143 D143 s143 k143
          have F143_coder : Fld G.Z h143 o143 "java/lang/String" "coder" "B" (.int (0 : Int32)) := D143 (Or.inr (tw hw 27 rfl)) (ty := .byte) (by decide)
          have F143_value : Fld G.Z h143 o143 "java/lang/String" "value" "[B" .null := D143 (Or.inr (tw hw 29 rfl)) (ty := (.array .byte)) (by decide)
          refine Own.dup W143 at_138 139 rfl rfl ?_
          refine Own.aload W143 at_139 141 rfl (.ref o5) rfl rfl ?_
          have X144 : Ext h h10 := Own.Ext.tr X14 E10
          have X145 : Ext h h11 := Own.Ext.wr' X144 Q11 (Nat.le_trans X14.1 (Nat.le_of_eq g10.symm))
          have X146 : Ext h h15 := Own.Ext.wr' X145 Q15 (Nat.le_trans X14.1 (Nat.le_of_eq g10.symm))
          have X147 : Ext h h16 := Own.Ext.wr' X146 Q16 (Nat.le_trans X14.1 (Nat.le_of_eq g10.symm))
          have X148 : Ext h9 h10 := E10
          have X149 : Ext h9 h11 := Own.Ext.wr' X148 Q11 (Nat.le_of_eq g10.symm)
          have X150 : Ext h9 h15 := Own.Ext.wr' X149 Q15 (Nat.le_of_eq g10.symm)
          have X151 : Ext h9 h16 := Own.Ext.wr' X150 Q16 (Nat.le_of_eq g10.symm)
          have X152 : Ext h9 h143 := Own.Ext.tr X151 E143
          refine Own.callX W143 rfl (tw hw 4 rfl) (tw hw 5 rfl) (tw hw 6 rfl) (by decide) (argsL := [(.ref o5)]) (rest := [(.ref o143)]) (Own.payStr (wS hw) hEL hmem W143 (cs := [((p0 &&& (255 : Int32)).toUInt32.toUInt16.toUInt32.toInt32), ((p1 &&& (255 : Int32)).toUInt32.toUInt16.toUInt32.toInt32)]) (z := (2 : Int32)) (cz := cz) (Nat.le_trans W0.n0 (Nat.le_trans X147.1 (Nat.le_of_eq g143.symm))) s143 A143 F143_value F143_coder ((V9.ext X152)) rfl (by intro c hc; simp only [List.mem_cons, List.not_mem_nil, or_false] at hc; rcases hc with rfl | rfl <;> exact Own.lo_rng _) (Nat.le_of_ble_eq_true rfl) hS hcz (len := 3) (wd := 1) (by decide) (by decide)) rfl (lenOf pd_17 rfl) rfl (Nat.le_of_ble_eq_true rfl) at_141 144 rfl 9 20 (Nat.le_of_ble_eq_true rfl) (Nat.le_of_ble_eq_true rfl) (Nat.le_of_ble_eq_true rfl) (Nat.le_of_ble_eq_true rfl) ?_
          intro v153 T153 h153 u153 W153 R153 hq
          obtain ⟨rfl, K153, F153⟩ := hq
          show Own.Go _ _ _ _ _ 144 #[.val (.int p0), .val (.int p1), .val (.int p2), .val (.int p3), .val (.long p4), .second, .val (.int ((p0 &&& (255 : Int32)).toUInt32.toUInt16.toUInt32.toInt32)), .val (.int ((p1 &&& (255 : Int32)).toUInt32.toUInt16.toUInt32.toInt32)), .val (.int ((p2 &&& (255 : Int32)).toUInt32.toUInt16.toUInt32.toInt32)), .val (.int (p3 &&& (3 : Int32))), .val (.int (0 : Int32)), .val (.ref o1), .val (.ref o2), .val (.ref o5), .val (.ref o10), .unset, .unset, .unset, .unset] [(.ref o143)]
          refine Own.goto W153 at_144 156 (by decide) (by decide) ?_
          rw [e2]
          show Own.Go _ _ _ _ _ 156 #[.val (.int p0), .val (.int p1), .val (.int p2), .val (.int p3), .val (.long p4), .second, .val (.int ((p0 &&& (255 : Int32)).toUInt32.toUInt16.toUInt32.toInt32)), .val (.int ((p1 &&& (255 : Int32)).toUInt32.toUInt16.toUInt32.toInt32)), .val (.int ((p2 &&& (255 : Int32)).toUInt32.toUInt16.toUInt32.toInt32)), .val (.int (2 : Int32)), .val (.int (0 : Int32)), .val (.ref o1), .val (.ref o2), .val (.ref o5), .val (.ref o10), .unset, .unset, .unset, .unset] [(.ref o143)]
          refine Own.astore W153 at_156 158 rfl rfl #[.val (.int p0), .val (.int p1), .val (.int p2), .val (.int p3), .val (.long p4), .second, .val (.int ((p0 &&& (255 : Int32)).toUInt32.toUInt16.toUInt32.toInt32)), .val (.int ((p1 &&& (255 : Int32)).toUInt32.toUInt16.toUInt32.toInt32)), .val (.int ((p2 &&& (255 : Int32)).toUInt32.toUInt16.toUInt32.toInt32)), .val (.int (2 : Int32)), .val (.int (0 : Int32)), .val (.ref o1), .val (.ref o2), .val (.ref o5), .val (.ref o10), .val (.ref o143), .unset, .unset, .unset] rfl ?_
          refine Own.newO W153 (tw hw 30 rfl) (tw hw 31 rfl) (tw hw 32 rfl) at_158 161 rfl 10 23 (by decide) (by decide) (by decide) (by decide) ?_
          intro T154 h154 o154 g154 W154 E154 A154 D154 s154 k154
          have F154_name : Fld G.Z h154 o154 "com/example/lopa/lopa/trec/SgmlScanner$Tag" "name" "Ljava/lang/String;" .null := D154 (Or.inr (tw hw 43 rfl)) (ty := (.object "java/lang/String")) (by decide)
          have F154_closing : Fld G.Z h154 o154 "com/example/lopa/lopa/trec/SgmlScanner$Tag" "closing" "Z" (.int (0 : Int32)) := D154 (Or.inr (tw hw 45 rfl)) (ty := .boolean) (by decide)
          have F154_line : Fld G.Z h154 o154 "com/example/lopa/lopa/trec/SgmlScanner$Tag" "line" "J" (.long (0 : Int64)) := D154 (Or.inr (tw hw 47 rfl)) (ty := .long) (by decide)
          refine Own.dup W154 at_161 162 rfl rfl ?_
          refine Own.aload W154 at_162 164 rfl (.ref o143) rfl rfl ?_
          refine Own.iload W154 at_164 166 rfl (0 : Int32) rfl ?_
          refine Own.lload W154 at_166 168 rfl p4 rfl ?_
          have X155 : Ext h h143 := Own.Ext.tr X147 E143
          have X156 : Ext h h153 := Own.Ext.kp X155 K153 (allS (Nat.le_trans X147.1 (Nat.le_of_eq g143.symm)) all0)
          refine Own.callX W154 rfl (tw hw 33 rfl) (tw hw 34 rfl) (tw hw 35 rfl) (by decide) (argsL := [(.ref o143), (.int (0 : Int32)), (.long p4)]) (rest := [(.ref o154)]) (Own.Con.pay (con_tag hw hEL o143 p4 rfl rfl W154.old (Nat.le_trans W0.n0 (Nat.le_trans X156.1 (Nat.le_of_eq g154.symm))) A154 F154_name F154_closing F154_line) W154 (tw hw 35 rfl) (tw hw 32 rfl) (len := 3) (wd := 1) (by decide) (by decide) (fun _ q => nomatch q)) rfl (lenOf pd_18 rfl) rfl (Nat.le_of_ble_eq_true rfl) at_168 171 rfl 10 23 (Nat.le_of_ble_eq_true rfl) (Nat.le_of_ble_eq_true rfl) (Nat.le_of_ble_eq_true rfl) (Nat.le_of_ble_eq_true rfl) ?_
          intro v157 T157 h157 u157 W157 R157 hq
          obtain ⟨rfl, K157, E157, Fn157, Fc157⟩ := hq
          show Own.Go _ _ _ _ _ 171 #[.val (.int p0), .val (.int p1), .val (.int p2), .val (.int p3), .val (.long p4), .second, .val (.int ((p0 &&& (255 : Int32)).toUInt32.toUInt16.toUInt32.toInt32)), .val (.int ((p1 &&& (255 : Int32)).toUInt32.toUInt16.toUInt32.toInt32)), .val (.int ((p2 &&& (255 : Int32)).toUInt32.toUInt16.toUInt32.toInt32)), .val (.int (2 : Int32)), .val (.int (0 : Int32)), .val (.ref o1), .val (.ref o2), .val (.ref o5), .val (.ref o10), .val (.ref o143), .unset, .unset, .unset] [(.ref o154)]
          refine Own.astore W157 at_171 173 rfl rfl #[.val (.int p0), .val (.int p1), .val (.int p2), .val (.int p3), .val (.long p4), .second, .val (.int ((p0 &&& (255 : Int32)).toUInt32.toUInt16.toUInt32.toInt32)), .val (.int ((p1 &&& (255 : Int32)).toUInt32.toUInt16.toUInt32.toInt32)), .val (.int ((p2 &&& (255 : Int32)).toUInt32.toUInt16.toUInt32.toInt32)), .val (.int (2 : Int32)), .val (.int (0 : Int32)), .val (.ref o1), .val (.ref o2), .val (.ref o5), .val (.ref o10), .val (.ref o143), .val (.ref o154), .unset, .unset] rfl ?_
          refine Own.aload W157 at_173 175 rfl (.ref o154) rfl rfl ?_
          have X158 : Ext h153 h154 := E154
          have X159 : Ext h153 h157 := Own.Ext.kp X158 K157 (allS (Nat.le_of_eq g154.symm) all0)
          refine Own.callV W157 (tw hw 48 rfl) (tw hw 49 rfl) (fun s q => notFace_of_selects (args := #[]) (mvT (s := s) q (tw hw 51 rfl))) (tw hw 51 rfl) (tw hw 50 rfl) (by decide) (argsL := []) (rest := []) (Own.Con.pay (con_tst0 hw hEL hmem hS hcz hE hEN (cs := [((p0 &&& (255 : Int32)).toUInt32.toUInt16.toUInt32.toInt32), ((p1 &&& (255 : Int32)).toUInt32.toUInt16.toUInt32.toInt32)]) (Nat.le_of_ble_eq_true rfl) W157.old Fn157 Fc157 (F153.ext X159)) W157 (tw hw 52 rfl) (tw hw 32 rfl) (len := 3) (wd := 0) (by decide) (by decide) (fun _ q => nomatch q)) E157 rfl (lenOf pd_16 rfl) rfl (Nat.le_of_ble_eq_true rfl) at_175 178 rfl 18 83 (Nat.le_of_ble_eq_true rfl) (Nat.le_of_ble_eq_true rfl) (Nat.le_of_ble_eq_true rfl) (Nat.le_of_ble_eq_true rfl) ?_
          intro v160 T160 h160 u160 W160 R160 hq
          obtain ⟨o160, rfl, E160, g160, S160⟩ := hq
          have Z160 : Own.Str G.Z h160 o160 [(60 : Int32), ((p0 &&& (255 : Int32)).toUInt32.toUInt16.toUInt32.toInt32), ((p1 &&& (255 : Int32)).toUInt32.toUInt16.toUInt32.toInt32), (62 : Int32)] := S160
          have ZX160 := Z160.exa
          show Own.Go _ _ _ _ _ 178 #[.val (.int p0), .val (.int p1), .val (.int p2), .val (.int p3), .val (.long p4), .second, .val (.int ((p0 &&& (255 : Int32)).toUInt32.toUInt16.toUInt32.toInt32)), .val (.int ((p1 &&& (255 : Int32)).toUInt32.toUInt16.toUInt32.toInt32)), .val (.int ((p2 &&& (255 : Int32)).toUInt32.toUInt16.toUInt32.toInt32)), .val (.int (2 : Int32)), .val (.int (0 : Int32)), .val (.ref o1), .val (.ref o2), .val (.ref o5), .val (.ref o10), .val (.ref o143), .val (.ref o154), .unset, .unset] [(.ref o160)]
          refine Own.astore W160 at_178 180 rfl rfl #[.val (.int p0), .val (.int p1), .val (.int p2), .val (.int p3), .val (.long p4), .second, .val (.int ((p0 &&& (255 : Int32)).toUInt32.toUInt16.toUInt32.toInt32)), .val (.int ((p1 &&& (255 : Int32)).toUInt32.toUInt16.toUInt32.toInt32)), .val (.int ((p2 &&& (255 : Int32)).toUInt32.toUInt16.toUInt32.toInt32)), .val (.int (2 : Int32)), .val (.int (0 : Int32)), .val (.ref o1), .val (.ref o2), .val (.ref o5), .val (.ref o10), .val (.ref o143), .val (.ref o154), .val (.ref o160), .unset] rfl ?_
          refine Own.iload W160 at_180 182 rfl (0 : Int32) rfl ?_
          refine Own.ifYes W160 at_182 189 (by decide) (by decide) (by decide) ?_
          refine Own.iconst W160 at_189 190 rfl (1 : Int32) rfl ?_
          refine Own.istore W160 at_190 192 rfl #[.val (.int p0), .val (.int p1), .val (.int p2), .val (.int p3), .val (.long p4), .second, .val (.int ((p0 &&& (255 : Int32)).toUInt32.toUInt16.toUInt32.toInt32)), .val (.int ((p1 &&& (255 : Int32)).toUInt32.toUInt16.toUInt32.toInt32)), .val (.int ((p2 &&& (255 : Int32)).toUInt32.toUInt16.toUInt32.toInt32)), .val (.int (2 : Int32)), .val (.int (0 : Int32)), .val (.ref o1), .val (.ref o2), .val (.ref o5), .val (.ref o10), .val (.ref o143), .val (.ref o154), .val (.ref o160), .val (.int (1 : Int32))] rfl ?_
          refine Own.aload W160 at_192 194 rfl (.ref o160) rfl rfl ?_
          refine Own.ifnullNo W160 at_194 197 rfl ?_
          refine Own.aload W160 at_197 199 rfl (.ref o160) rfl rfl ?_
          refine Own.callV W160 (tw hw 167 rfl) (tw hw 85 rfl) (fun s q => notFace_of_selects (args := #[]) (mvT (s := s) q (tw hw 87 rfl))) (tw hw 87 rfl) (tw hw 86 rfl) (by decide) (argsL := []) (rest := []) (Own.payLen (wL hw) (kI := 4) (tw hw 2 rfl) W160 Z160 hS hcz (len := 3) (wd := 0) (by decide) (by decide)) ZX160 rfl (lenOf pd_4 rfl) rfl (Nat.le_of_ble_eq_true rfl) at_199 202 rfl 18 83 (Nat.le_of_ble_eq_true rfl) (Nat.le_of_ble_eq_true rfl) (Nat.le_of_ble_eq_true rfl) (Nat.le_of_ble_eq_true rfl) ?_
          intro v161 T161 h161 u161 W161 R161 hq
          obtain ⟨rfl, eh161⟩ := hq
          have ei161 := eh161.symm; subst ei161
          have X162 : Ext h1 h2 := E2
          have X163 : Ext h1 h3 := Own.Ext.wr' X162 Q3 (Nat.le_of_eq g2.symm)
          have X164 : Ext h1 h5 := Own.Ext.tr X163 E5
          have X165 : Ext h1 h6 := Own.Ext.wr' X164 Q6 (Nat.le_trans X163.1 (Nat.le_of_eq g5.symm))
          have X166 : Ext h1 h9 := Own.Ext.wr' X165 Q9 (Nat.le_trans X163.1 (Nat.le_of_eq g5.symm))
          have X167 : Ext h1 h10 := Own.Ext.tr X166 E10
          have X168 : Ext h1 h11 := Own.Ext.wr' X167 Q11 (Nat.le_trans X166.1 (Nat.le_of_eq g10.symm))
          have X169 : Ext h1 h15 := Own.Ext.wr' X168 Q15 (Nat.le_trans X166.1 (Nat.le_of_eq g10.symm))
          have X170 : Ext h1 h16 := Own.Ext.wr' X169 Q16 (Nat.le_trans X166.1 (Nat.le_of_eq g10.symm))
          have X171 : Ext h1 h143 := Own.Ext.tr X170 E143
          have X172 : Ext h1 h153 := Own.Ext.kp X171 K153 (allS (Nat.le_trans X170.1 (Nat.le_of_eq g143.symm)) all0)
          have X173 : Ext h1 h154 := Own.Ext.tr X172 E154
          have X174 : Ext h1 h157 := Own.Ext.kp X173 K157 (allS (Nat.le_trans X172.1 (Nat.le_of_eq g154.symm)) all0)
          have X175 : Ext h1 h160 := Own.Ext.tr X174 E160
          have sf176 := R161.safe (V1.ext X175).lt (R160.safe (V1.ext X174).lt (R157.safe (V1.ext X173).lt (k154 o1 (R153.safe (V1.ext X171).lt (k143 o1 (k16 o1 (k15 o1 (k11 o1 (k10 o1 (k9 o1 (k6 o1 (k5 o1 (k3 o1 (k2 o1 s1))))))))))))))
          have X177 : Ext h3 h5 := E5
          have X178 : Ext h3 h6 := Own.Ext.wr' X177 Q6 (Nat.le_of_eq g5.symm)
          have X179 : Ext h3 h9 := Own.Ext.wr' X178 Q9 (Nat.le_of_eq g5.symm)
          have X180 : Ext h3 h10 := Own.Ext.tr X179 E10
          have X181 : Ext h3 h11 := Own.Ext.wr' X180 Q11 (Nat.le_trans X179.1 (Nat.le_of_eq g10.symm))
          have X182 : Ext h3 h15 := Own.Ext.wr' X181 Q15 (Nat.le_trans X179.1 (Nat.le_of_eq g10.symm))
          have X183 : Ext h3 h16 := Own.Ext.wr' X182 Q16 (Nat.le_trans X179.1 (Nat.le_of_eq g10.symm))
          have X184 : Ext h3 h143 := Own.Ext.tr X183 E143
          have X185 : Ext h3 h153 := Own.Ext.kp X184 K153 (allS (Nat.le_trans X183.1 (Nat.le_of_eq g143.symm)) all0)
          have X186 : Ext h3 h154 := Own.Ext.tr X185 E154
          have X187 : Ext h3 h157 := Own.Ext.kp X186 K157 (allS (Nat.le_trans X185.1 (Nat.le_of_eq g154.symm)) all0)
          have X188 : Ext h3 h160 := Own.Ext.tr X187 E160
          have sf189 := R161.safe (V3.ext X188).lt (R160.safe (V3.ext X187).lt (R157.safe (V3.ext X186).lt (k154 o2 (R153.safe (V3.ext X184).lt (k143 o2 (k16 o2 (k15 o2 (k11 o2 (k10 o2 (k9 o2 (k6 o2 (k5 o2 (k3 o2 s2)))))))))))))
          have X190 : Ext h16 h143 := E143
          have X191 : Ext h16 h153 := Own.Ext.kp X190 K153 (allS (Nat.le_of_eq g143.symm) all0)
          have X192 : Ext h16 h154 := Own.Ext.tr X191 E154
          have X193 : Ext h16 h157 := Own.Ext.kp X192 K157 (allS (Nat.le_trans X191.1 (Nat.le_of_eq g154.symm)) all0)
          have X194 : Ext h16 h160 := Own.Ext.tr X193 E160
          have sf195 := R161.safe (V16.ext X194).lt (R160.safe (V16.ext X193).lt (R157.safe (V16.ext X192).lt (k154 o10 (R153.safe (V16.ext X190).lt (k143 o10 (k16 o10 (k15 o10 (k11 o10 s10))))))))
          show Own.Go _ _ _ _ _ 202 #[.val (.int p0), .val (.int p1), .val (.int p2), .val (.int p3), .val (.long p4), .second, .val (.int ((p0 &&& (255 : Int32)).toUInt32.toUInt16.toUInt32.toInt32)), .val (.int ((p1 &&& (255 : Int32)).toUInt32.toUInt16.toUInt32.toInt32)), .val (.int ((p2 &&& (255 : Int32)).toUInt32.toUInt16.toUInt32.toInt32)), .val (.int (2 : Int32)), .val (.int (0 : Int32)), .val (.ref o1), .val (.ref o2), .val (.ref o5), .val (.ref o10), .val (.ref o143), .val (.ref o154), .val (.ref o160), .val (.int (1 : Int32))] [(.int (4 : Int32))]
          refine Own.iload W161 at_202 204 rfl (1 : Int32) rfl ?_
          refine Own.iload W161 at_204 206 rfl (2 : Int32) rfl ?_
          refine Own.iadd W161 at_206 207 rfl ?_
          refine Own.iconst W161 at_207 208 rfl (1 : Int32) rfl ?_
          refine Own.iadd W161 at_208 209 rfl ?_
          refine Own.icmpYes W161 at_209 214 (by decide) (by decide) (by decide) ?_
          refine Own.aload W161 at_214 216 rfl (.ref o160) rfl rfl ?_
          refine Own.iconst W161 at_216 217 rfl (0 : Int32) rfl ?_
          refine Own.callV W161 (tw hw 168 rfl) (tw hw 169 rfl) (fun s q => notFace_of_selects (args := #[]) (mvT (s := s) q (tw hw 171 rfl))) (tw hw 171 rfl) (tw hw 170 rfl) (by decide) (argsL := [(.int (0 : Int32))]) (rest := []) (Own.payChr (wC hw) (kI := 4) (tw hw 2 rfl) W161 Z160 hS hcz SF rfm (i := 0) (Nat.le_of_ble_eq_true rfl) rfl (len := 3) (wd := 0) (by decide) (by decide)) ZX160 rfl (lenOf pd_19 rfl) rfl (Nat.le_of_ble_eq_true rfl) at_217 220 rfl 18 83 (Nat.le_of_ble_eq_true rfl) (Nat.le_of_ble_eq_true rfl) (Nat.le_of_ble_eq_true rfl) (Nat.le_of_ble_eq_true rfl) ?_
          intro v196 T196 h196 u196 W196 R196 hq
          obtain ⟨rfl, eh196⟩ := hq
          have ei196 := eh196.symm; subst ei196
          have sf197 := R196.safe (V1.ext X175).lt sf176
          have sf198 := R196.safe (V3.ext X188).lt sf189
          have sf199 := R196.safe (V16.ext X194).lt sf195
          show Own.Go _ _ _ _ _ 220 #[.val (.int p0), .val (.int p1), .val (.int p2), .val (.int p3), .val (.long p4), .second, .val (.int ((p0 &&& (255 : Int32)).toUInt32.toUInt16.toUInt32.toInt32)), .val (.int ((p1 &&& (255 : Int32)).toUInt32.toUInt16.toUInt32.toInt32)), .val (.int ((p2 &&& (255 : Int32)).toUInt32.toUInt16.toUInt32.toInt32)), .val (.int (2 : Int32)), .val (.int (0 : Int32)), .val (.ref o1), .val (.ref o2), .val (.ref o5), .val (.ref o10), .val (.ref o143), .val (.ref o154), .val (.ref o160), .val (.int (1 : Int32))] [(.int (60 : Int32))]
          refine Own.bipush W196 at_220 222 rfl (60 : Int32) rfl ?_
          refine Own.icmpYes W196 at_222 227 (by decide) (by decide) (by decide) ?_
          refine Own.iload W196 at_227 229 rfl (0 : Int32) rfl ?_
          refine Own.ifYes W196 at_229 245 (by decide) (by decide) (by decide) ?_
          refine Own.iload W196 at_245 247 rfl (2 : Int32) rfl ?_
          refine Own.iconst W196 at_247 248 rfl (1 : Int32) rfl ?_
          refine Own.icmpNo W196 at_248 251 (by decide) rfl ?_
          refine Own.aload W196 at_251 253 rfl (.ref o160) rfl rfl ?_
          refine Own.iload W196 at_253 255 rfl (1 : Int32) rfl ?_
          refine Own.callV W196 (tw hw 168 rfl) (tw hw 169 rfl) (fun s q => notFace_of_selects (args := #[]) (mvT (s := s) q (tw hw 171 rfl))) (tw hw 171 rfl) (tw hw 170 rfl) (by decide) (argsL := [(.int (1 : Int32))]) (rest := []) (Own.payChr (wC hw) (kI := 4) (tw hw 2 rfl) W196 Z160 hS hcz SF rfm (i := 1) (Nat.le_of_ble_eq_true rfl) rfl (len := 3) (wd := 0) (by decide) (by decide)) ZX160 rfl (lenOf pd_19 rfl) rfl (Nat.le_of_ble_eq_true rfl) at_255 258 rfl 18 83 (Nat.le_of_ble_eq_true rfl) (Nat.le_of_ble_eq_true rfl) (Nat.le_of_ble_eq_true rfl) (Nat.le_of_ble_eq_true rfl) ?_
          intro v200 T200 h200 u200 W200 R200 hq
          obtain ⟨rfl, eh200⟩ := hq
          have ei200 := eh200.symm; subst ei200
          have sf201 := R200.safe (V1.ext X175).lt sf197
          have sf202 := R200.safe (V3.ext X188).lt sf198
          have sf203 := R200.safe (V16.ext X194).lt sf199
          show Own.Go _ _ _ _ _ 258 #[.val (.int p0), .val (.int p1), .val (.int p2), .val (.int p3), .val (.long p4), .second, .val (.int ((p0 &&& (255 : Int32)).toUInt32.toUInt16.toUInt32.toInt32)), .val (.int ((p1 &&& (255 : Int32)).toUInt32.toUInt16.toUInt32.toInt32)), .val (.int ((p2 &&& (255 : Int32)).toUInt32.toUInt16.toUInt32.toInt32)), .val (.int (2 : Int32)), .val (.int (0 : Int32)), .val (.ref o1), .val (.ref o2), .val (.ref o5), .val (.ref o10), .val (.ref o143), .val (.ref o154), .val (.ref o160), .val (.int (1 : Int32))] [(.int ((p0 &&& (255 : Int32)).toUInt32.toUInt16.toUInt32.toInt32))]
          refine Own.iload W200 at_258 260 rfl ((p0 &&& (255 : Int32)).toUInt32.toUInt16.toUInt32.toInt32) rfl ?_
          refine Own.icmpYes W200 at_260 265 (XT.ii_eq_t rfl) (by decide) (by decide) ?_
          refine Own.iload W200 at_265 267 rfl (2 : Int32) rfl ?_
          refine Own.iconst W200 at_267 268 rfl (2 : Int32) rfl ?_
          refine Own.icmpNo W200 at_268 271 (by decide) rfl ?_
          refine Own.aload W200 at_271 273 rfl (.ref o160) rfl rfl ?_
          refine Own.iload W200 at_273 275 rfl (1 : Int32) rfl ?_
          refine Own.iconst W200 at_275 276 rfl (1 : Int32) rfl ?_
          refine Own.iadd W200 at_276 277 rfl ?_
          refine Own.callV W200 (tw hw 168 rfl) (tw hw 169 rfl) (fun s q => notFace_of_selects (args := #[]) (mvT (s := s) q (tw hw 171 rfl))) (tw hw 171 rfl) (tw hw 170 rfl) (by decide) (argsL := [(.int (2 : Int32))]) (rest := []) (Own.payChr (wC hw) (kI := 4) (tw hw 2 rfl) W200 Z160 hS hcz SF rfm (i := 2) (Nat.le_of_ble_eq_true rfl) rfl (len := 3) (wd := 0) (by decide) (by decide)) ZX160 rfl (lenOf pd_19 rfl) rfl (Nat.le_of_ble_eq_true rfl) at_277 280 rfl 18 83 (Nat.le_of_ble_eq_true rfl) (Nat.le_of_ble_eq_true rfl) (Nat.le_of_ble_eq_true rfl) (Nat.le_of_ble_eq_true rfl) ?_
          intro v204 T204 h204 u204 W204 R204 hq
          obtain ⟨rfl, eh204⟩ := hq
          have ei204 := eh204.symm; subst ei204
          have sf205 := R204.safe (V1.ext X175).lt sf201
          have sf206 := R204.safe (V3.ext X188).lt sf202
          have sf207 := R204.safe (V16.ext X194).lt sf203
          show Own.Go _ _ _ _ _ 280 #[.val (.int p0), .val (.int p1), .val (.int p2), .val (.int p3), .val (.long p4), .second, .val (.int ((p0 &&& (255 : Int32)).toUInt32.toUInt16.toUInt32.toInt32)), .val (.int ((p1 &&& (255 : Int32)).toUInt32.toUInt16.toUInt32.toInt32)), .val (.int ((p2 &&& (255 : Int32)).toUInt32.toUInt16.toUInt32.toInt32)), .val (.int (2 : Int32)), .val (.int (0 : Int32)), .val (.ref o1), .val (.ref o2), .val (.ref o5), .val (.ref o10), .val (.ref o143), .val (.ref o154), .val (.ref o160), .val (.int (1 : Int32))] [(.int ((p1 &&& (255 : Int32)).toUInt32.toUInt16.toUInt32.toInt32))]
          refine Own.iload W204 at_280 282 rfl ((p1 &&& (255 : Int32)).toUInt32.toUInt16.toUInt32.toInt32) rfl ?_
          refine Own.icmpYes W204 at_282 287 (XT.ii_eq_t rfl) (by decide) (by decide) ?_
          refine Own.iload W204 at_287 289 rfl (2 : Int32) rfl ?_
          refine Own.iconst W204 at_289 290 rfl (3 : Int32) rfl ?_
          refine Own.icmpYes W204 at_290 309 (by decide) (by decide) (by decide) ?_
          refine Own.aload W204 at_309 311 rfl (.ref o160) rfl rfl ?_
          refine Own.iload W204 at_311 313 rfl (1 : Int32) rfl ?_
          refine Own.iload W204 at_313 315 rfl (2 : Int32) rfl ?_
          refine Own.iadd W204 at_315 316 rfl ?_
          refine Own.callV W204 (tw hw 168 rfl) (tw hw 169 rfl) (fun s q => notFace_of_selects (args := #[]) (mvT (s := s) q (tw hw 171 rfl))) (tw hw 171 rfl) (tw hw 170 rfl) (by decide) (argsL := [(.int (3 : Int32))]) (rest := []) (Own.payChr (wC hw) (kI := 4) (tw hw 2 rfl) W204 Z160 hS hcz SF rfm (i := 3) (Nat.le_of_ble_eq_true rfl) rfl (len := 3) (wd := 0) (by decide) (by decide)) ZX160 rfl (lenOf pd_19 rfl) rfl (Nat.le_of_ble_eq_true rfl) at_316 319 rfl 18 83 (Nat.le_of_ble_eq_true rfl) (Nat.le_of_ble_eq_true rfl) (Nat.le_of_ble_eq_true rfl) (Nat.le_of_ble_eq_true rfl) ?_
          intro v208 T208 h208 u208 W208 R208 hq
          obtain ⟨rfl, eh208⟩ := hq
          have ei208 := eh208.symm; subst ei208
          have sf209 := R208.safe (V1.ext X175).lt sf205
          have sf210 := R208.safe (V3.ext X188).lt sf206
          have sf211 := R208.safe (V16.ext X194).lt sf207
          show Own.Go _ _ _ _ _ 319 #[.val (.int p0), .val (.int p1), .val (.int p2), .val (.int p3), .val (.long p4), .second, .val (.int ((p0 &&& (255 : Int32)).toUInt32.toUInt16.toUInt32.toInt32)), .val (.int ((p1 &&& (255 : Int32)).toUInt32.toUInt16.toUInt32.toInt32)), .val (.int ((p2 &&& (255 : Int32)).toUInt32.toUInt16.toUInt32.toInt32)), .val (.int (2 : Int32)), .val (.int (0 : Int32)), .val (.ref o1), .val (.ref o2), .val (.ref o5), .val (.ref o10), .val (.ref o143), .val (.ref o154), .val (.ref o160), .val (.int (1 : Int32))] [(.int (62 : Int32))]
          refine Own.bipush W208 at_319 321 rfl (62 : Int32) rfl ?_
          refine Own.icmpNo W208 at_321 324 (by decide) rfl ?_
          refine Own.iconst W208 at_324 325 rfl (1 : Int32) rfl ?_
          refine Own.goto W208 at_325 329 (by decide) (by decide) ?_
          exact Own.retB W208 (by decide) (by decide) rfl at_329 rfl rfl
        · skip
          refine Own.icmpYes W16 at_132 147 (XT.ii_ne_t e2) (by decide) (by decide) ?_
          have e3 := last3 p3 e0 e1 e2
          refine Own.newO W16 (tw hw 1 rfl) (tw hw 2 rfl) (tw hw 3 rfl) at_147 150 rfl 5 10 (by decide) (by decide) (by decide) (by decide) ?_
          intro T212 h212 o212 g212 W212 E212 A212 D212 s212 k212
          have F212_coder : Fld G.Z h212 o212 "java/lang/String" "coder" "B" (.int (0 : Int32)) := D212 (Or.inr (tw hw 27 rfl)) (ty := .byte) (by decide)
          have F212_value : Fld G.Z h212 o212 "java/lang/String" "value" "[B" .null := D212 (Or.inr (tw hw 29 rfl)) (ty := (.array .byte)) (by decide)
          refine Own.dup W212 at_150 151 rfl rfl ?_
          refine Own.aload W212 at_151 153 rfl (.ref o10) rfl rfl ?_
          have X213 : Ext h h10 := Own.Ext.tr X14 E10
          have X214 : Ext h h11 := Own.Ext.wr' X213 Q11 (Nat.le_trans X14.1 (Nat.le_of_eq g10.symm))
          have X215 : Ext h h15 := Own.Ext.wr' X214 Q15 (Nat.le_trans X14.1 (Nat.le_of_eq g10.symm))
          have X216 : Ext h h16 := Own.Ext.wr' X215 Q16 (Nat.le_trans X14.1 (Nat.le_of_eq g10.symm))
          have X217 : Ext h16 h212 := E212
          refine Own.callX W212 rfl (tw hw 4 rfl) (tw hw 5 rfl) (tw hw 6 rfl) (by decide) (argsL := [(.ref o10)]) (rest := [(.ref o212)]) (Own.payStr (wS hw) hEL hmem W212 (cs := [((p0 &&& (255 : Int32)).toUInt32.toUInt16.toUInt32.toInt32), ((p1 &&& (255 : Int32)).toUInt32.toUInt16.toUInt32.toInt32), ((p2 &&& (255 : Int32)).toUInt32.toUInt16.toUInt32.toInt32)]) (z := (3 : Int32)) (cz := cz) (Nat.le_trans W0.n0 (Nat.le_trans X216.1 (Nat.le_of_eq g212.symm))) s212 A212 F212_value F212_coder ((V16.ext X217)) rfl (by intro c hc; simp only [List.mem_cons, List.not_mem_nil, or_false] at hc; rcases hc with rfl | rfl | rfl <;> exact Own.lo_rng _) (Nat.le_of_ble_eq_true rfl) hS hcz (len := 3) (wd := 1) (by decide) (by decide)) rfl (lenOf pd_17 rfl) rfl (Nat.le_of_ble_eq_true rfl) at_153 156 rfl 9 21 (Nat.le_of_ble_eq_true rfl) (Nat.le_of_ble_eq_true rfl) (Nat.le_of_ble_eq_true rfl) (Nat.le_of_ble_eq_true rfl) ?_
          intro v218 T218 h218 u218 W218 R218 hq
          obtain ⟨rfl, K218, F218⟩ := hq
          show Own.Go _ _ _ _ _ 156 #[.val (.int p0), .val (.int p1), .val (.int p2), .val (.int p3), .val (.long p4), .second, .val (.int ((p0 &&& (255 : Int32)).toUInt32.toUInt16.toUInt32.toInt32)), .val (.int ((p1 &&& (255 : Int32)).toUInt32.toUInt16.toUInt32.toInt32)), .val (.int ((p2 &&& (255 : Int32)).toUInt32.toUInt16.toUInt32.toInt32)), .val (.int (p3 &&& (3 : Int32))), .val (.int (0 : Int32)), .val (.ref o1), .val (.ref o2), .val (.ref o5), .val (.ref o10), .unset, .unset, .unset, .unset] [(.ref o212)]
          rw [e3]
          show Own.Go _ _ _ _ _ 156 #[.val (.int p0), .val (.int p1), .val (.int p2), .val (.int p3), .val (.long p4), .second, .val (.int ((p0 &&& (255 : Int32)).toUInt32.toUInt16.toUInt32.toInt32)), .val (.int ((p1 &&& (255 : Int32)).toUInt32.toUInt16.toUInt32.toInt32)), .val (.int ((p2 &&& (255 : Int32)).toUInt32.toUInt16.toUInt32.toInt32)), .val (.int (3 : Int32)), .val (.int (0 : Int32)), .val (.ref o1), .val (.ref o2), .val (.ref o5), .val (.ref o10), .unset, .unset, .unset, .unset] [(.ref o212)]
          refine Own.astore W218 at_156 158 rfl rfl #[.val (.int p0), .val (.int p1), .val (.int p2), .val (.int p3), .val (.long p4), .second, .val (.int ((p0 &&& (255 : Int32)).toUInt32.toUInt16.toUInt32.toInt32)), .val (.int ((p1 &&& (255 : Int32)).toUInt32.toUInt16.toUInt32.toInt32)), .val (.int ((p2 &&& (255 : Int32)).toUInt32.toUInt16.toUInt32.toInt32)), .val (.int (3 : Int32)), .val (.int (0 : Int32)), .val (.ref o1), .val (.ref o2), .val (.ref o5), .val (.ref o10), .val (.ref o212), .unset, .unset, .unset] rfl ?_
          refine Own.newO W218 (tw hw 30 rfl) (tw hw 31 rfl) (tw hw 32 rfl) at_158 161 rfl 10 24 (by decide) (by decide) (by decide) (by decide) ?_
          intro T219 h219 o219 g219 W219 E219 A219 D219 s219 k219
          have F219_name : Fld G.Z h219 o219 "com/example/lopa/lopa/trec/SgmlScanner$Tag" "name" "Ljava/lang/String;" .null := D219 (Or.inr (tw hw 43 rfl)) (ty := (.object "java/lang/String")) (by decide)
          have F219_closing : Fld G.Z h219 o219 "com/example/lopa/lopa/trec/SgmlScanner$Tag" "closing" "Z" (.int (0 : Int32)) := D219 (Or.inr (tw hw 45 rfl)) (ty := .boolean) (by decide)
          have F219_line : Fld G.Z h219 o219 "com/example/lopa/lopa/trec/SgmlScanner$Tag" "line" "J" (.long (0 : Int64)) := D219 (Or.inr (tw hw 47 rfl)) (ty := .long) (by decide)
          refine Own.dup W219 at_161 162 rfl rfl ?_
          refine Own.aload W219 at_162 164 rfl (.ref o212) rfl rfl ?_
          refine Own.iload W219 at_164 166 rfl (0 : Int32) rfl ?_
          refine Own.lload W219 at_166 168 rfl p4 rfl ?_
          have X220 : Ext h h212 := Own.Ext.tr X216 E212
          have X221 : Ext h h218 := Own.Ext.kp X220 K218 (allS (Nat.le_trans X216.1 (Nat.le_of_eq g212.symm)) all0)
          refine Own.callX W219 rfl (tw hw 33 rfl) (tw hw 34 rfl) (tw hw 35 rfl) (by decide) (argsL := [(.ref o212), (.int (0 : Int32)), (.long p4)]) (rest := [(.ref o219)]) (Own.Con.pay (con_tag hw hEL o212 p4 rfl rfl W219.old (Nat.le_trans W0.n0 (Nat.le_trans X221.1 (Nat.le_of_eq g219.symm))) A219 F219_name F219_closing F219_line) W219 (tw hw 35 rfl) (tw hw 32 rfl) (len := 3) (wd := 1) (by decide) (by decide) (fun _ q => nomatch q)) rfl (lenOf pd_18 rfl) rfl (Nat.le_of_ble_eq_true rfl) at_168 171 rfl 10 24 (Nat.le_of_ble_eq_true rfl) (Nat.le_of_ble_eq_true rfl) (Nat.le_of_ble_eq_true rfl) (Nat.le_of_ble_eq_true rfl) ?_
          intro v222 T222 h222 u222 W222 R222 hq
          obtain ⟨rfl, K222, E222, Fn222, Fc222⟩ := hq
          show Own.Go _ _ _ _ _ 171 #[.val (.int p0), .val (.int p1), .val (.int p2), .val (.int p3), .val (.long p4), .second, .val (.int ((p0 &&& (255 : Int32)).toUInt32.toUInt16.toUInt32.toInt32)), .val (.int ((p1 &&& (255 : Int32)).toUInt32.toUInt16.toUInt32.toInt32)), .val (.int ((p2 &&& (255 : Int32)).toUInt32.toUInt16.toUInt32.toInt32)), .val (.int (3 : Int32)), .val (.int (0 : Int32)), .val (.ref o1), .val (.ref o2), .val (.ref o5), .val (.ref o10), .val (.ref o212), .unset, .unset, .unset] [(.ref o219)]
          refine Own.astore W222 at_171 173 rfl rfl #[.val (.int p0), .val (.int p1), .val (.int p2), .val (.int p3), .val (.long p4), .second, .val (.int ((p0 &&& (255 : Int32)).toUInt32.toUInt16.toUInt32.toInt32)), .val (.int ((p1 &&& (255 : Int32)).toUInt32.toUInt16.toUInt32.toInt32)), .val (.int ((p2 &&& (255 : Int32)).toUInt32.toUInt16.toUInt32.toInt32)), .val (.int (3 : Int32)), .val (.int (0 : Int32)), .val (.ref o1), .val (.ref o2), .val (.ref o5), .val (.ref o10), .val (.ref o212), .val (.ref o219), .unset, .unset] rfl ?_
          refine Own.aload W222 at_173 175 rfl (.ref o219) rfl rfl ?_
          have X223 : Ext h218 h219 := E219
          have X224 : Ext h218 h222 := Own.Ext.kp X223 K222 (allS (Nat.le_of_eq g219.symm) all0)
          refine Own.callV W222 (tw hw 48 rfl) (tw hw 49 rfl) (fun s q => notFace_of_selects (args := #[]) (mvT (s := s) q (tw hw 51 rfl))) (tw hw 51 rfl) (tw hw 50 rfl) (by decide) (argsL := []) (rest := []) (Own.Con.pay (con_tst0 hw hEL hmem hS hcz hE hEN (cs := [((p0 &&& (255 : Int32)).toUInt32.toUInt16.toUInt32.toInt32), ((p1 &&& (255 : Int32)).toUInt32.toUInt16.toUInt32.toInt32), ((p2 &&& (255 : Int32)).toUInt32.toUInt16.toUInt32.toInt32)]) (Nat.le_of_ble_eq_true rfl) W222.old Fn222 Fc222 (F218.ext X224)) W222 (tw hw 52 rfl) (tw hw 32 rfl) (len := 3) (wd := 0) (by decide) (by decide) (fun _ q => nomatch q)) E222 rfl (lenOf pd_16 rfl) rfl (Nat.le_of_ble_eq_true rfl) at_175 178 rfl 18 84 (Nat.le_of_ble_eq_true rfl) (Nat.le_of_ble_eq_true rfl) (Nat.le_of_ble_eq_true rfl) (Nat.le_of_ble_eq_true rfl) ?_
          intro v225 T225 h225 u225 W225 R225 hq
          obtain ⟨o225, rfl, E225, g225, S225⟩ := hq
          have Z225 : Own.Str G.Z h225 o225 [(60 : Int32), ((p0 &&& (255 : Int32)).toUInt32.toUInt16.toUInt32.toInt32), ((p1 &&& (255 : Int32)).toUInt32.toUInt16.toUInt32.toInt32), ((p2 &&& (255 : Int32)).toUInt32.toUInt16.toUInt32.toInt32), (62 : Int32)] := S225
          have ZX225 := Z225.exa
          show Own.Go _ _ _ _ _ 178 #[.val (.int p0), .val (.int p1), .val (.int p2), .val (.int p3), .val (.long p4), .second, .val (.int ((p0 &&& (255 : Int32)).toUInt32.toUInt16.toUInt32.toInt32)), .val (.int ((p1 &&& (255 : Int32)).toUInt32.toUInt16.toUInt32.toInt32)), .val (.int ((p2 &&& (255 : Int32)).toUInt32.toUInt16.toUInt32.toInt32)), .val (.int (3 : Int32)), .val (.int (0 : Int32)), .val (.ref o1), .val (.ref o2), .val (.ref o5), .val (.ref o10), .val (.ref o212), .val (.ref o219), .unset, .unset] [(.ref o225)]
          refine Own.astore W225 at_178 180 rfl rfl #[.val (.int p0), .val (.int p1), .val (.int p2), .val (.int p3), .val (.long p4), .second, .val (.int ((p0 &&& (255 : Int32)).toUInt32.toUInt16.toUInt32.toInt32)), .val (.int ((p1 &&& (255 : Int32)).toUInt32.toUInt16.toUInt32.toInt32)), .val (.int ((p2 &&& (255 : Int32)).toUInt32.toUInt16.toUInt32.toInt32)), .val (.int (3 : Int32)), .val (.int (0 : Int32)), .val (.ref o1), .val (.ref o2), .val (.ref o5), .val (.ref o10), .val (.ref o212), .val (.ref o219), .val (.ref o225), .unset] rfl ?_
          refine Own.iload W225 at_180 182 rfl (0 : Int32) rfl ?_
          refine Own.ifYes W225 at_182 189 (by decide) (by decide) (by decide) ?_
          refine Own.iconst W225 at_189 190 rfl (1 : Int32) rfl ?_
          refine Own.istore W225 at_190 192 rfl #[.val (.int p0), .val (.int p1), .val (.int p2), .val (.int p3), .val (.long p4), .second, .val (.int ((p0 &&& (255 : Int32)).toUInt32.toUInt16.toUInt32.toInt32)), .val (.int ((p1 &&& (255 : Int32)).toUInt32.toUInt16.toUInt32.toInt32)), .val (.int ((p2 &&& (255 : Int32)).toUInt32.toUInt16.toUInt32.toInt32)), .val (.int (3 : Int32)), .val (.int (0 : Int32)), .val (.ref o1), .val (.ref o2), .val (.ref o5), .val (.ref o10), .val (.ref o212), .val (.ref o219), .val (.ref o225), .val (.int (1 : Int32))] rfl ?_
          refine Own.aload W225 at_192 194 rfl (.ref o225) rfl rfl ?_
          refine Own.ifnullNo W225 at_194 197 rfl ?_
          refine Own.aload W225 at_197 199 rfl (.ref o225) rfl rfl ?_
          refine Own.callV W225 (tw hw 167 rfl) (tw hw 85 rfl) (fun s q => notFace_of_selects (args := #[]) (mvT (s := s) q (tw hw 87 rfl))) (tw hw 87 rfl) (tw hw 86 rfl) (by decide) (argsL := []) (rest := []) (Own.payLen (wL hw) (kI := 4) (tw hw 2 rfl) W225 Z225 hS hcz (len := 3) (wd := 0) (by decide) (by decide)) ZX225 rfl (lenOf pd_4 rfl) rfl (Nat.le_of_ble_eq_true rfl) at_199 202 rfl 18 84 (Nat.le_of_ble_eq_true rfl) (Nat.le_of_ble_eq_true rfl) (Nat.le_of_ble_eq_true rfl) (Nat.le_of_ble_eq_true rfl) ?_
          intro v226 T226 h226 u226 W226 R226 hq
          obtain ⟨rfl, eh226⟩ := hq
          have ei226 := eh226.symm; subst ei226
          have X227 : Ext h1 h2 := E2
          have X228 : Ext h1 h3 := Own.Ext.wr' X227 Q3 (Nat.le_of_eq g2.symm)
          have X229 : Ext h1 h5 := Own.Ext.tr X228 E5
          have X230 : Ext h1 h6 := Own.Ext.wr' X229 Q6 (Nat.le_trans X228.1 (Nat.le_of_eq g5.symm))
          have X231 : Ext h1 h9 := Own.Ext.wr' X230 Q9 (Nat.le_trans X228.1 (Nat.le_of_eq g5.symm))
          have X232 : Ext h1 h10 := Own.Ext.tr X231 E10
          have X233 : Ext h1 h11 := Own.Ext.wr' X232 Q11 (Nat.le_trans X231.1 (Nat.le_of_eq g10.symm))
          have X234 : Ext h1 h15 := Own.Ext.wr' X233 Q15 (Nat.le_trans X231.1 (Nat.le_of_eq g10.symm))
          have X235 : Ext h1 h16 := Own.Ext.wr' X234 Q16 (Nat.le_trans X231.1 (Nat.le_of_eq g10.symm))
          have X236 : Ext h1 h212 := Own.Ext.tr X235 E212
          have X237 : Ext h1 h218 := Own.Ext.kp X236 K218 (allS (Nat.le_trans X235.1 (Nat.le_of_eq g212.symm)) all0)
          have X238 : Ext h1 h219 := Own.Ext.tr X237 E219
          have X239 : Ext h1 h222 := Own.Ext.kp X238 K222 (allS (Nat.le_trans X237.1 (Nat.le_of_eq g219.symm)) all0)
          have X240 : Ext h1 h225 := Own.Ext.tr X239 E225
          have sf241 := R226.safe (V1.ext X240).lt (R225.safe (V1.ext X239).lt (R222.safe (V1.ext X238).lt (k219 o1 (R218.safe (V1.ext X236).lt (k212 o1 (k16 o1 (k15 o1 (k11 o1 (k10 o1 (k9 o1 (k6 o1 (k5 o1 (k3 o1 (k2 o1 s1))))))))))))))
          have X242 : Ext h3 h5 := E5
          have X243 : Ext h3 h6 := Own.Ext.wr' X242 Q6 (Nat.le_of_eq g5.symm)
          have X244 : Ext h3 h9 := Own.Ext.wr' X243 Q9 (Nat.le_of_eq g5.symm)
          have X245 : Ext h3 h10 := Own.Ext.tr X244 E10
          have X246 : Ext h3 h11 := Own.Ext.wr' X245 Q11 (Nat.le_trans X244.1 (Nat.le_of_eq g10.symm))
          have X247 : Ext h3 h15 := Own.Ext.wr' X246 Q15 (Nat.le_trans X244.1 (Nat.le_of_eq g10.symm))
          have X248 : Ext h3 h16 := Own.Ext.wr' X247 Q16 (Nat.le_trans X244.1 (Nat.le_of_eq g10.symm))
          have X249 : Ext h3 h212 := Own.Ext.tr X248 E212
          have X250 : Ext h3 h218 := Own.Ext.kp X249 K218 (allS (Nat.le_trans X248.1 (Nat.le_of_eq g212.symm)) all0)
          have X251 : Ext h3 h219 := Own.Ext.tr X250 E219
          have X252 : Ext h3 h222 := Own.Ext.kp X251 K222 (allS (Nat.le_trans X250.1 (Nat.le_of_eq g219.symm)) all0)
          have X253 : Ext h3 h225 := Own.Ext.tr X252 E225
          have sf254 := R226.safe (V3.ext X253).lt (R225.safe (V3.ext X252).lt (R222.safe (V3.ext X251).lt (k219 o2 (R218.safe (V3.ext X249).lt (k212 o2 (k16 o2 (k15 o2 (k11 o2 (k10 o2 (k9 o2 (k6 o2 (k5 o2 (k3 o2 s2)))))))))))))
          have X255 : Ext h9 h10 := E10
          have X256 : Ext h9 h11 := Own.Ext.wr' X255 Q11 (Nat.le_of_eq g10.symm)
          have X257 : Ext h9 h15 := Own.Ext.wr' X256 Q15 (Nat.le_of_eq g10.symm)
          have X258 : Ext h9 h16 := Own.Ext.wr' X257 Q16 (Nat.le_of_eq g10.symm)
          have X259 : Ext h9 h212 := Own.Ext.tr X258 E212
          have X260 : Ext h9 h218 := Own.Ext.kp X259 K218 (allS (Nat.le_trans X258.1 (Nat.le_of_eq g212.symm)) all0)
          have X261 : Ext h9 h219 := Own.Ext.tr X260 E219
          have X262 : Ext h9 h222 := Own.Ext.kp X261 K222 (allS (Nat.le_trans X260.1 (Nat.le_of_eq g219.symm)) all0)
          have X263 : Ext h9 h225 := Own.Ext.tr X262 E225
          have sf264 := R226.safe (V9.ext X263).lt (R225.safe (V9.ext X262).lt (R222.safe (V9.ext X261).lt (k219 o5 (R218.safe (V9.ext X259).lt (k212 o5 (k16 o5 (k15 o5 (k11 o5 (k10 o5 (k9 o5 (k6 o5 s5)))))))))))
          show Own.Go _ _ _ _ _ 202 #[.val (.int p0), .val (.int p1), .val (.int p2), .val (.int p3), .val (.long p4), .second, .val (.int ((p0 &&& (255 : Int32)).toUInt32.toUInt16.toUInt32.toInt32)), .val (.int ((p1 &&& (255 : Int32)).toUInt32.toUInt16.toUInt32.toInt32)), .val (.int ((p2 &&& (255 : Int32)).toUInt32.toUInt16.toUInt32.toInt32)), .val (.int (3 : Int32)), .val (.int (0 : Int32)), .val (.ref o1), .val (.ref o2), .val (.ref o5), .val (.ref o10), .val (.ref o212), .val (.ref o219), .val (.ref o225), .val (.int (1 : Int32))] [(.int (5 : Int32))]
          refine Own.iload W226 at_202 204 rfl (1 : Int32) rfl ?_
          refine Own.iload W226 at_204 206 rfl (3 : Int32) rfl ?_
          refine Own.iadd W226 at_206 207 rfl ?_
          refine Own.iconst W226 at_207 208 rfl (1 : Int32) rfl ?_
          refine Own.iadd W226 at_208 209 rfl ?_
          refine Own.icmpYes W226 at_209 214 (by decide) (by decide) (by decide) ?_
          refine Own.aload W226 at_214 216 rfl (.ref o225) rfl rfl ?_
          refine Own.iconst W226 at_216 217 rfl (0 : Int32) rfl ?_
          refine Own.callV W226 (tw hw 168 rfl) (tw hw 169 rfl) (fun s q => notFace_of_selects (args := #[]) (mvT (s := s) q (tw hw 171 rfl))) (tw hw 171 rfl) (tw hw 170 rfl) (by decide) (argsL := [(.int (0 : Int32))]) (rest := []) (Own.payChr (wC hw) (kI := 4) (tw hw 2 rfl) W226 Z225 hS hcz SF rfm (i := 0) (Nat.le_of_ble_eq_true rfl) rfl (len := 3) (wd := 0) (by decide) (by decide)) ZX225 rfl (lenOf pd_19 rfl) rfl (Nat.le_of_ble_eq_true rfl) at_217 220 rfl 18 84 (Nat.le_of_ble_eq_true rfl) (Nat.le_of_ble_eq_true rfl) (Nat.le_of_ble_eq_true rfl) (Nat.le_of_ble_eq_true rfl) ?_
          intro v265 T265 h265 u265 W265 R265 hq
          obtain ⟨rfl, eh265⟩ := hq
          have ei265 := eh265.symm; subst ei265
          have sf266 := R265.safe (V1.ext X240).lt sf241
          have sf267 := R265.safe (V3.ext X253).lt sf254
          have sf268 := R265.safe (V9.ext X263).lt sf264
          show Own.Go _ _ _ _ _ 220 #[.val (.int p0), .val (.int p1), .val (.int p2), .val (.int p3), .val (.long p4), .second, .val (.int ((p0 &&& (255 : Int32)).toUInt32.toUInt16.toUInt32.toInt32)), .val (.int ((p1 &&& (255 : Int32)).toUInt32.toUInt16.toUInt32.toInt32)), .val (.int ((p2 &&& (255 : Int32)).toUInt32.toUInt16.toUInt32.toInt32)), .val (.int (3 : Int32)), .val (.int (0 : Int32)), .val (.ref o1), .val (.ref o2), .val (.ref o5), .val (.ref o10), .val (.ref o212), .val (.ref o219), .val (.ref o225), .val (.int (1 : Int32))] [(.int (60 : Int32))]
          refine Own.bipush W265 at_220 222 rfl (60 : Int32) rfl ?_
          refine Own.icmpYes W265 at_222 227 (by decide) (by decide) (by decide) ?_
          refine Own.iload W265 at_227 229 rfl (0 : Int32) rfl ?_
          refine Own.ifYes W265 at_229 245 (by decide) (by decide) (by decide) ?_
          refine Own.iload W265 at_245 247 rfl (3 : Int32) rfl ?_
          refine Own.iconst W265 at_247 248 rfl (1 : Int32) rfl ?_
          refine Own.icmpNo W265 at_248 251 (by decide) rfl ?_
          refine Own.aload W265 at_251 253 rfl (.ref o225) rfl rfl ?_
          refine Own.iload W265 at_253 255 rfl (1 : Int32) rfl ?_
          refine Own.callV W265 (tw hw 168 rfl) (tw hw 169 rfl) (fun s q => notFace_of_selects (args := #[]) (mvT (s := s) q (tw hw 171 rfl))) (tw hw 171 rfl) (tw hw 170 rfl) (by decide) (argsL := [(.int (1 : Int32))]) (rest := []) (Own.payChr (wC hw) (kI := 4) (tw hw 2 rfl) W265 Z225 hS hcz SF rfm (i := 1) (Nat.le_of_ble_eq_true rfl) rfl (len := 3) (wd := 0) (by decide) (by decide)) ZX225 rfl (lenOf pd_19 rfl) rfl (Nat.le_of_ble_eq_true rfl) at_255 258 rfl 18 84 (Nat.le_of_ble_eq_true rfl) (Nat.le_of_ble_eq_true rfl) (Nat.le_of_ble_eq_true rfl) (Nat.le_of_ble_eq_true rfl) ?_
          intro v269 T269 h269 u269 W269 R269 hq
          obtain ⟨rfl, eh269⟩ := hq
          have ei269 := eh269.symm; subst ei269
          have sf270 := R269.safe (V1.ext X240).lt sf266
          have sf271 := R269.safe (V3.ext X253).lt sf267
          have sf272 := R269.safe (V9.ext X263).lt sf268
          show Own.Go _ _ _ _ _ 258 #[.val (.int p0), .val (.int p1), .val (.int p2), .val (.int p3), .val (.long p4), .second, .val (.int ((p0 &&& (255 : Int32)).toUInt32.toUInt16.toUInt32.toInt32)), .val (.int ((p1 &&& (255 : Int32)).toUInt32.toUInt16.toUInt32.toInt32)), .val (.int ((p2 &&& (255 : Int32)).toUInt32.toUInt16.toUInt32.toInt32)), .val (.int (3 : Int32)), .val (.int (0 : Int32)), .val (.ref o1), .val (.ref o2), .val (.ref o5), .val (.ref o10), .val (.ref o212), .val (.ref o219), .val (.ref o225), .val (.int (1 : Int32))] [(.int ((p0 &&& (255 : Int32)).toUInt32.toUInt16.toUInt32.toInt32))]
          refine Own.iload W269 at_258 260 rfl ((p0 &&& (255 : Int32)).toUInt32.toUInt16.toUInt32.toInt32) rfl ?_
          refine Own.icmpYes W269 at_260 265 (XT.ii_eq_t rfl) (by decide) (by decide) ?_
          refine Own.iload W269 at_265 267 rfl (3 : Int32) rfl ?_
          refine Own.iconst W269 at_267 268 rfl (2 : Int32) rfl ?_
          refine Own.icmpNo W269 at_268 271 (by decide) rfl ?_
          refine Own.aload W269 at_271 273 rfl (.ref o225) rfl rfl ?_
          refine Own.iload W269 at_273 275 rfl (1 : Int32) rfl ?_
          refine Own.iconst W269 at_275 276 rfl (1 : Int32) rfl ?_
          refine Own.iadd W269 at_276 277 rfl ?_
          refine Own.callV W269 (tw hw 168 rfl) (tw hw 169 rfl) (fun s q => notFace_of_selects (args := #[]) (mvT (s := s) q (tw hw 171 rfl))) (tw hw 171 rfl) (tw hw 170 rfl) (by decide) (argsL := [(.int (2 : Int32))]) (rest := []) (Own.payChr (wC hw) (kI := 4) (tw hw 2 rfl) W269 Z225 hS hcz SF rfm (i := 2) (Nat.le_of_ble_eq_true rfl) rfl (len := 3) (wd := 0) (by decide) (by decide)) ZX225 rfl (lenOf pd_19 rfl) rfl (Nat.le_of_ble_eq_true rfl) at_277 280 rfl 18 84 (Nat.le_of_ble_eq_true rfl) (Nat.le_of_ble_eq_true rfl) (Nat.le_of_ble_eq_true rfl) (Nat.le_of_ble_eq_true rfl) ?_
          intro v273 T273 h273 u273 W273 R273 hq
          obtain ⟨rfl, eh273⟩ := hq
          have ei273 := eh273.symm; subst ei273
          have sf274 := R273.safe (V1.ext X240).lt sf270
          have sf275 := R273.safe (V3.ext X253).lt sf271
          have sf276 := R273.safe (V9.ext X263).lt sf272
          show Own.Go _ _ _ _ _ 280 #[.val (.int p0), .val (.int p1), .val (.int p2), .val (.int p3), .val (.long p4), .second, .val (.int ((p0 &&& (255 : Int32)).toUInt32.toUInt16.toUInt32.toInt32)), .val (.int ((p1 &&& (255 : Int32)).toUInt32.toUInt16.toUInt32.toInt32)), .val (.int ((p2 &&& (255 : Int32)).toUInt32.toUInt16.toUInt32.toInt32)), .val (.int (3 : Int32)), .val (.int (0 : Int32)), .val (.ref o1), .val (.ref o2), .val (.ref o5), .val (.ref o10), .val (.ref o212), .val (.ref o219), .val (.ref o225), .val (.int (1 : Int32))] [(.int ((p1 &&& (255 : Int32)).toUInt32.toUInt16.toUInt32.toInt32))]
          refine Own.iload W273 at_280 282 rfl ((p1 &&& (255 : Int32)).toUInt32.toUInt16.toUInt32.toInt32) rfl ?_
          refine Own.icmpYes W273 at_282 287 (XT.ii_eq_t rfl) (by decide) (by decide) ?_
          refine Own.iload W273 at_287 289 rfl (3 : Int32) rfl ?_
          refine Own.iconst W273 at_289 290 rfl (3 : Int32) rfl ?_
          refine Own.icmpNo W273 at_290 293 (by decide) rfl ?_
          refine Own.aload W273 at_293 295 rfl (.ref o225) rfl rfl ?_
          refine Own.iload W273 at_295 297 rfl (1 : Int32) rfl ?_
          refine Own.iconst W273 at_297 298 rfl (2 : Int32) rfl ?_
          refine Own.iadd W273 at_298 299 rfl ?_
          refine Own.callV W273 (tw hw 168 rfl) (tw hw 169 rfl) (fun s q => notFace_of_selects (args := #[]) (mvT (s := s) q (tw hw 171 rfl))) (tw hw 171 rfl) (tw hw 170 rfl) (by decide) (argsL := [(.int (3 : Int32))]) (rest := []) (Own.payChr (wC hw) (kI := 4) (tw hw 2 rfl) W273 Z225 hS hcz SF rfm (i := 3) (Nat.le_of_ble_eq_true rfl) rfl (len := 3) (wd := 0) (by decide) (by decide)) ZX225 rfl (lenOf pd_19 rfl) rfl (Nat.le_of_ble_eq_true rfl) at_299 302 rfl 18 84 (Nat.le_of_ble_eq_true rfl) (Nat.le_of_ble_eq_true rfl) (Nat.le_of_ble_eq_true rfl) (Nat.le_of_ble_eq_true rfl) ?_
          intro v277 T277 h277 u277 W277 R277 hq
          obtain ⟨rfl, eh277⟩ := hq
          have ei277 := eh277.symm; subst ei277
          have sf278 := R277.safe (V1.ext X240).lt sf274
          have sf279 := R277.safe (V3.ext X253).lt sf275
          have sf280 := R277.safe (V9.ext X263).lt sf276
          show Own.Go _ _ _ _ _ 302 #[.val (.int p0), .val (.int p1), .val (.int p2), .val (.int p3), .val (.long p4), .second, .val (.int ((p0 &&& (255 : Int32)).toUInt32.toUInt16.toUInt32.toInt32)), .val (.int ((p1 &&& (255 : Int32)).toUInt32.toUInt16.toUInt32.toInt32)), .val (.int ((p2 &&& (255 : Int32)).toUInt32.toUInt16.toUInt32.toInt32)), .val (.int (3 : Int32)), .val (.int (0 : Int32)), .val (.ref o1), .val (.ref o2), .val (.ref o5), .val (.ref o10), .val (.ref o212), .val (.ref o219), .val (.ref o225), .val (.int (1 : Int32))] [(.int ((p2 &&& (255 : Int32)).toUInt32.toUInt16.toUInt32.toInt32))]
          refine Own.iload W277 at_302 304 rfl ((p2 &&& (255 : Int32)).toUInt32.toUInt16.toUInt32.toInt32) rfl ?_
          refine Own.icmpYes W277 at_304 309 (XT.ii_eq_t rfl) (by decide) (by decide) ?_
          refine Own.aload W277 at_309 311 rfl (.ref o225) rfl rfl ?_
          refine Own.iload W277 at_311 313 rfl (1 : Int32) rfl ?_
          refine Own.iload W277 at_313 315 rfl (3 : Int32) rfl ?_
          refine Own.iadd W277 at_315 316 rfl ?_
          refine Own.callV W277 (tw hw 168 rfl) (tw hw 169 rfl) (fun s q => notFace_of_selects (args := #[]) (mvT (s := s) q (tw hw 171 rfl))) (tw hw 171 rfl) (tw hw 170 rfl) (by decide) (argsL := [(.int (4 : Int32))]) (rest := []) (Own.payChr (wC hw) (kI := 4) (tw hw 2 rfl) W277 Z225 hS hcz SF rfm (i := 4) (Nat.le_of_ble_eq_true rfl) rfl (len := 3) (wd := 0) (by decide) (by decide)) ZX225 rfl (lenOf pd_19 rfl) rfl (Nat.le_of_ble_eq_true rfl) at_316 319 rfl 18 84 (Nat.le_of_ble_eq_true rfl) (Nat.le_of_ble_eq_true rfl) (Nat.le_of_ble_eq_true rfl) (Nat.le_of_ble_eq_true rfl) ?_
          intro v281 T281 h281 u281 W281 R281 hq
          obtain ⟨rfl, eh281⟩ := hq
          have ei281 := eh281.symm; subst ei281
          have sf282 := R281.safe (V1.ext X240).lt sf278
          have sf283 := R281.safe (V3.ext X253).lt sf279
          have sf284 := R281.safe (V9.ext X263).lt sf280
          show Own.Go _ _ _ _ _ 319 #[.val (.int p0), .val (.int p1), .val (.int p2), .val (.int p3), .val (.long p4), .second, .val (.int ((p0 &&& (255 : Int32)).toUInt32.toUInt16.toUInt32.toInt32)), .val (.int ((p1 &&& (255 : Int32)).toUInt32.toUInt16.toUInt32.toInt32)), .val (.int ((p2 &&& (255 : Int32)).toUInt32.toUInt16.toUInt32.toInt32)), .val (.int (3 : Int32)), .val (.int (0 : Int32)), .val (.ref o1), .val (.ref o2), .val (.ref o5), .val (.ref o10), .val (.ref o212), .val (.ref o219), .val (.ref o225), .val (.int (1 : Int32))] [(.int (62 : Int32))]
          refine Own.bipush W281 at_319 321 rfl (62 : Int32) rfl ?_
          refine Own.icmpNo W281 at_321 324 (by decide) rfl ?_
          refine Own.iconst W281 at_324 325 rfl (1 : Int32) rfl ?_
          refine Own.goto W281 at_325 329 (by decide) (by decide) ?_
          exact Own.retB W281 (by decide) (by decide) rfl at_329 rfl rfl
  · skip
    refine Own.ifNo W0 at_34 37 (XT.i0_eq_f ec) rfl ?_
    refine Own.iconst W0 at_37 38 rfl (1 : Int32) rfl ?_
    refine Own.goto W0 at_38 42 (by decide) (by decide) ?_
    refine Own.istore W0 at_42 44 rfl #[.val (.int p0), .val (.int p1), .val (.int p2), .val (.int p3), .val (.long p4), .second, .val (.int ((p0 &&& (255 : Int32)).toUInt32.toUInt16.toUInt32.toInt32)), .val (.int ((p1 &&& (255 : Int32)).toUInt32.toUInt16.toUInt32.toInt32)), .val (.int ((p2 &&& (255 : Int32)).toUInt32.toUInt16.toUInt32.toInt32)), .val (.int (p3 &&& (3 : Int32))), .val (.int (1 : Int32)), .unset, .unset, .unset, .unset, .unset, .unset, .unset, .unset] rfl ?_
    refine Own.iconst W0 at_44 45 rfl (0 : Int32) rfl ?_
    refine Own.newA W0 (tw hw 0 rfl) at_45 47 rfl (by decide) 0 (by decide) (by decide) 1 0 (by decide) (by decide) (by decide) (by decide) ?_
    intro T285 h285 o285 c285 g285 W285 E285 A285 s285 k285
    have V285 : Arv G.Z h285 o285 c285 .char (0 : Int32) [] (.int (0 : Int32)) := A285
    refine Own.astore W285 at_47 49 rfl rfl #[.val (.int p0), .val (.int p1), .val (.int p2), .val (.int p3), .val (.long p4), .second, .val (.int ((p0 &&& (255 : Int32)).toUInt32.toUInt16.toUInt32.toInt32)), .val (.int ((p1 &&& (255 : Int32)).toUInt32.toUInt16.toUInt32.toInt32)), .val (.int ((p2 &&& (255 : Int32)).toUInt32.toUInt16.toUInt32.toInt32)), .val (.int (p3 &&& (3 : Int32))), .val (.int (1 : Int32)), .val (.ref o285), .unset, .unset, .unset, .unset, .unset, .unset, .unset] rfl ?_
    refine Own.iconst W285 at_49 50 rfl (1 : Int32) rfl ?_
    refine Own.newA W285 (tw hw 0 rfl) at_50 52 rfl (by decide) 1 (by decide) (by decide) 2 1 (by decide) (by decide) (by decide) (by decide) ?_
    intro T286 h286 o286 c286 g286 W286 E286 A286 s286 k286
    have V286 : Arv G.Z h286 o286 c286 .char (1 : Int32) [(.int (0 : Int32))] (.int (0 : Int32)) := A286
    refine Own.dup W286 at_52 53 rfl rfl ?_
    refine Own.iconst W286 at_53 54 rfl (0 : Int32) rfl ?_
    refine Own.iload W286 at_54 56 rfl ((p0 &&& (255 : Int32)).toUInt32.toUInt16.toUInt32.toInt32) rfl ?_
    have X288 : Ext h h285 := E285
    refine Own.castore W286 V286 0 (by decide) (by decide) (Nat.le_of_ble_eq_true rfl) (Nat.le_trans W0.n0 (Nat.le_trans X288.1 (Nat.le_of_eq g286.symm))) (x' := ((p0 &&& (255 : Int32)).toUInt32.toUInt16.toUInt32.toInt32)) (Own.nar_lo _) at_56 57 rfl ?_
    intro T287 h287 W287 Q287 A287 k287
    have V287 : Arv G.Z h287 o286 c286 .char (1 : Int32) [(.int ((p0 &&& (255 : Int32)).toUInt32.toUInt16.toUInt32.toInt32))] (.int (0 : Int32)) := A287
    refine Own.astore W287 at_57 59 rfl rfl #[.val (.int p0), .val (.int p1), .val (.int p2), .val (.int p3), .val (.long p4), .second, .val (.int ((p0 &&& (255 : Int32)).toUInt32.toUInt16.toUInt32.toInt32)), .val (.int ((p1 &&& (255 : Int32)).toUInt32.toUInt16.toUInt32.toInt32)), .val (.int ((p2 &&& (255 : Int32)).toUInt32.toUInt16.toUInt32.toInt32)), .val (.int (p3 &&& (3 : Int32))), .val (.int (1 : Int32)), .val (.ref o285), .val (.ref o286), .unset, .unset, .unset, .unset, .unset, .unset] rfl ?_
    refine Own.iconst W287 at_59 60 rfl (2 : Int32) rfl ?_
    refine Own.newA W287 (tw hw 0 rfl) at_60 62 rfl (by decide) 2 (by decide) (by decide) 3 3 (by decide) (by decide) (by decide) (by decide) ?_
    intro T289 h289 o289 c289 g289 W289 E289 A289 s289 k289
    have V289 : Arv G.Z h289 o289 c289 .char (2 : Int32) [(.int (0 : Int32)), (.int (0 : Int32))] (.int (0 : Int32)) := A289
    refine Own.dup W289 at_62 63 rfl rfl ?_
    refine Own.iconst W289 at_63 64 rfl (0 : Int32) rfl ?_
    refine Own.iload W289 at_64 66 rfl ((p0 &&& (255 : Int32)).toUInt32.toUInt16.toUInt32.toInt32) rfl ?_
    have X291 : Ext h h286 := Own.Ext.tr X288 E286
    have X292 : Ext h h287 := Own.Ext.wr' X291 Q287 (Nat.le_trans X288.1 (Nat.le_of_eq g286.symm))
    refine Own.castore W289 V289 0 (by decide) (by decide) (Nat.le_of_ble_eq_true rfl) (Nat.le_trans W0.n0 (Nat.le_trans X292.1 (Nat.le_of_eq g289.symm))) (x' := ((p0 &&& (255 : Int32)).toUInt32.toUInt16.toUInt32.toInt32)) (Own.nar_lo _) at_66 67 rfl ?_
    intro T290 h290 W290 Q290 A290 k290
    have V290 : Arv G.Z h290 o289 c289 .char (2 : Int32) [(.int ((p0 &&& (255 : Int32)).toUInt32.toUInt16.toUInt32.toInt32)), (.int (0 : Int32))] (.int (0 : Int32)) := A290
    refine Own.dup W290 at_67 68 rfl rfl ?_
    refine Own.iconst W290 at_68 69 rfl (1 : Int32) rfl ?_
    refine Own.iload W290 at_69 71 rfl ((p1 &&& (255 : Int32)).toUInt32.toUInt16.toUInt32.toInt32) rfl ?_
    refine Own.castore W290 V290 1 (by decide) (by decide) (Nat.le_of_ble_eq_true rfl) (Nat.le_trans W0.n0 (Nat.le_trans X292.1 (Nat.le_of_eq g289.symm))) (x' := ((p1 &&& (255 : Int32)).toUInt32.toUInt16.toUInt32.toInt32)) (Own.nar_lo _) at_71 72 rfl ?_
    intro T293 h293 W293 Q293 A293 k293
    have V293 : Arv G.Z h293 o289 c289 .char (2 : Int32) [(.int ((p0 &&& (255 : Int32)).toUInt32.toUInt16.toUInt32.toInt32)), (.int ((p1 &&& (255 : Int32)).toUInt32.toUInt16.toUInt32.toInt32))] (.int (0 : Int32)) := A293
    refine Own.astore W293 at_72 74 rfl rfl #[.val (.int p0), .val (.int p1), .val (.int p2), .val (.int p3), .val (.long p4), .second, .val (.int ((p0 &&& (255 : Int32)).toUInt32.toUInt16.toUInt32.toInt32)), .val (.int ((p1 &&& (255 : Int32)).toUInt32.toUInt16.toUInt32.toInt32)), .val (.int ((p2 &&& (255 : Int32)).toUInt32.toUInt16.toUInt32.toInt32)), .val (.int (p3 &&& (3 : Int32))), .val (.int (1 : Int32)), .val (.ref o285), .val (.ref o286), .val (.ref o289), .unset, .unset, .unset, .unset, .unset] rfl ?_
    refine Own.iconst W293 at_74 75 rfl (3 : Int32) rfl ?_
    refine Own.newA W293 (tw hw 0 rfl) at_75 77 rfl (by decide) 3 (by decide) (by decide) 4 6 (by decide) (by decide) (by decide) (by decide) ?_
    intro T294 h294 o294 c294 g294 W294 E294 A294 s294 k294
    have V294 : Arv G.Z h294 o294 c294 .char (3 : Int32) [(.int (0 : Int32)), (.int (0 : Int32)), (.int (0 : Int32))] (.int (0 : Int32)) := A294
    refine Own.dup W294 at_77 78 rfl rfl ?_
    refine Own.iconst W294 at_78 79 rfl (0 : Int32) rfl ?_
    refine Own.iload W294 at_79 81 rfl ((p0 &&& (255 : Int32)).toUInt32.toUInt16.toUInt32.toInt32) rfl ?_
    have X296 : Ext h h289 := Own.Ext.tr X292 E289
    have X297 : Ext h h290 := Own.Ext.wr' X296 Q290 (Nat.le_trans X292.1 (Nat.le_of_eq g289.symm))
    have X298 : Ext h h293 := Own.Ext.wr' X297 Q293 (Nat.le_trans X292.1 (Nat.le_of_eq g289.symm))
    refine Own.castore W294 V294 0 (by decide) (by decide) (Nat.le_of_ble_eq_true rfl) (Nat.le_trans W0.n0 (Nat.le_trans X298.1 (Nat.le_of_eq g294.symm))) (x' := ((p0 &&& (255 : Int32)).toUInt32.toUInt16.toUInt32.toInt32)) (Own.nar_lo _) at_81 82 rfl ?_
    intro T295 h295 W295 Q295 A295 k295
    have V295 : Arv G.Z h295 o294 c294 .char (3 : Int32) [(.int ((p0 &&& (255 : Int32)).toUInt32.toUInt16.toUInt32.toInt32)), (.int (0 : Int32)), (.int (0 : Int32))] (.int (0 : Int32)) := A295
    refine Own.dup W295 at_82 83 rfl rfl ?_
    refine Own.iconst W295 at_83 84 rfl (1 : Int32) rfl ?_
    refine Own.iload W295 at_84 86 rfl ((p1 &&& (255 : Int32)).toUInt32.toUInt16.toUInt32.toInt32) rfl ?_
    refine Own.castore W295 V295 1 (by decide) (by decide) (Nat.le_of_ble_eq_true rfl) (Nat.le_trans W0.n0 (Nat.le_trans X298.1 (Nat.le_of_eq g294.symm))) (x' := ((p1 &&& (255 : Int32)).toUInt32.toUInt16.toUInt32.toInt32)) (Own.nar_lo _) at_86 87 rfl ?_
    intro T299 h299 W299 Q299 A299 k299
    have V299 : Arv G.Z h299 o294 c294 .char (3 : Int32) [(.int ((p0 &&& (255 : Int32)).toUInt32.toUInt16.toUInt32.toInt32)), (.int ((p1 &&& (255 : Int32)).toUInt32.toUInt16.toUInt32.toInt32)), (.int (0 : Int32))] (.int (0 : Int32)) := A299
    refine Own.dup W299 at_87 88 rfl rfl ?_
    refine Own.iconst W299 at_88 89 rfl (2 : Int32) rfl ?_
    refine Own.iload W299 at_89 91 rfl ((p2 &&& (255 : Int32)).toUInt32.toUInt16.toUInt32.toInt32) rfl ?_
    refine Own.castore W299 V299 2 (by decide) (by decide) (Nat.le_of_ble_eq_true rfl) (Nat.le_trans W0.n0 (Nat.le_trans X298.1 (Nat.le_of_eq g294.symm))) (x' := ((p2 &&& (255 : Int32)).toUInt32.toUInt16.toUInt32.toInt32)) (Own.nar_lo _) at_91 92 rfl ?_
    intro T300 h300 W300 Q300 A300 k300
    have V300 : Arv G.Z h300 o294 c294 .char (3 : Int32) [(.int ((p0 &&& (255 : Int32)).toUInt32.toUInt16.toUInt32.toInt32)), (.int ((p1 &&& (255 : Int32)).toUInt32.toUInt16.toUInt32.toInt32)), (.int ((p2 &&& (255 : Int32)).toUInt32.toUInt16.toUInt32.toInt32))] (.int (0 : Int32)) := A300
    refine Own.astore W300 at_92 94 rfl rfl #[.val (.int p0), .val (.int p1), .val (.int p2), .val (.int p3), .val (.long p4), .second, .val (.int ((p0 &&& (255 : Int32)).toUInt32.toUInt16.toUInt32.toInt32)), .val (.int ((p1 &&& (255 : Int32)).toUInt32.toUInt16.toUInt32.toInt32)), .val (.int ((p2 &&& (255 : Int32)).toUInt32.toUInt16.toUInt32.toInt32)), .val (.int (p3 &&& (3 : Int32))), .val (.int (1 : Int32)), .val (.ref o285), .val (.ref o286), .val (.ref o289), .val (.ref o294), .unset, .unset, .unset, .unset] rfl ?_
    refine Own.iload W300 at_94 96 rfl (p3 &&& (3 : Int32)) rfl ?_
    by_cases e0 : (p3 &&& (3 : Int32)) = (0 : Int32)
    · skip
      refine Own.ifNo W300 at_96 99 (XT.i0_ne_f e0) rfl ?_
      refine Own.newO W300 (tw hw 1 rfl) (tw hw 2 rfl) (tw hw 3 rfl) at_99 102 rfl 5 10 (by decide) (by decide) (by decide) (by decide) ?_
      intro T301 h301 o301 g301 W301 E301 A301 D301 s301 k301
      have F301_coder : Fld G.Z h301 o301 "java/lang/String" "coder" "B" (.int (0 : Int32)) := D301 (Or.inr (tw hw 27 rfl)) (ty := .byte) (by decide)
      have F301_value : Fld G.Z h301 o301 "java/lang/String" "value" "[B" .null := D301 (Or.inr (tw hw 29 rfl)) (ty := (.array .byte)) (by decide)
      refine Own.dup W301 at_102 103 rfl rfl ?_
      refine Own.aload W301 at_103 105 rfl (.ref o285) rfl rfl ?_
      have X302 : Ext h h294 := Own.Ext.tr X298 E294
      have X303 : Ext h h295 := Own.Ext.wr' X302 Q295 (Nat.le_trans X298.1 (Nat.le_of_eq g294.symm))
      have X304 : Ext h h299 := Own.Ext.wr' X303 Q299 (Nat.le_trans X298.1 (Nat.le_of_eq g294.symm))
      have X305 : Ext h h300 := Own.Ext.wr' X304 Q300 (Nat.le_trans X298.1 (Nat.le_of_eq g294.symm))
      have X306 : Ext h285 h286 := E286
      have X307 : Ext h285 h287 := Own.Ext.wr' X306 Q287 (Nat.le_of_eq g286.symm)
      have X308 : Ext h285 h289 := Own.Ext.tr X307 E289
      have X309 : Ext h285 h290 := Own.Ext.wr' X308 Q290 (Nat.le_trans X307.1 (Nat.le_of_eq g289.symm))
      have X310 : Ext h285 h293 := Own.Ext.wr' X309 Q293 (Nat.le_trans X307.1 (Nat.le_of_eq g289.symm))
      have X311 : Ext h285 h294 := Own.Ext.tr X310 E294
      have X312 : Ext h285 h295 := Own.Ext.wr' X311 Q295 (Nat.le_trans X310.1 (Nat.le_of_eq g294.symm))
      have X313 : Ext h285 h299 := Own.Ext.wr' X312 Q299 (Nat.le_trans X310.1 (Nat.le_of_eq g294.symm))
      have X314 : Ext h285 h300 := Own.Ext.wr' X313 Q300 (Nat.le_trans X310.1 (Nat.le_of_eq g294.symm))
      have X315 : Ext h285 h301 := Own.Ext.tr X314 E301
      refine Own.callX W301 rfl (tw hw 4 rfl) (tw hw 5 rfl) (tw hw 6 rfl) (by decide) (argsL := [(.ref o285)]) (rest := [(.ref o301)]) (Own.payStr (wS hw) hEL hmem W301 (cs := []) (z := (0 : Int32)) (cz := cz) (Nat.le_trans W0.n0 (Nat.le_trans X305.1 (Nat.le_of_eq g301.symm))) s301 A301 F301_value F301_coder ((V285.ext X315)) rfl (by intro c hc; cases hc) (Nat.le_of_ble_eq_true rfl) hS hcz (len := 3) (wd := 1) (by decide) (by decide)) rfl (lenOf pd_17 rfl) rfl (Nat.le_of_ble_eq_true rfl) at_105 108 rfl 9 18 (Nat.le_of_ble_eq_true rfl) (Nat.le_of_ble_eq_true rfl) (Nat.le_of_ble_eq_true rfl) (Nat.le_of_ble_eq_true rfl) ?_
      intro v316 T316 h316 u316 W316 R316 hq
      obtain ⟨rfl, K316, F316⟩ := hq
      show Own.Go _ _ _ _ _ 108 #[.val (.int p0), .val (.int p1), .val (.int p2), .val (.int p3), .val (.long p4), .second, .val (.int ((p0 &&& (255 : Int32)).toUInt32.toUInt16.toUInt32.toInt32)), .val (.int ((p1 &&& (255 : Int32)).toUInt32.toUInt16.toUInt32.toInt32)), .val (.int ((p2 &&& (255 : Int32)).toUInt32.toUInt16.toUInt32.toInt32)), .val (.int (p3 &&& (3 : Int32))), .val (.int (1 : Int32)), .val (.ref o285), .val (.ref o286), .val (.ref o289), .val (.ref o294), .unset, .unset, .unset, .unset] [(.ref o301)]
      refine Own.goto W316 at_108 156 (by decide) (by decide) ?_
      rw [e0]
      show Own.Go _ _ _ _ _ 156 #[.val (.int p0), .val (.int p1), .val (.int p2), .val (.int p3), .val (.long p4), .second, .val (.int ((p0 &&& (255 : Int32)).toUInt32.toUInt16.toUInt32.toInt32)), .val (.int ((p1 &&& (255 : Int32)).toUInt32.toUInt16.toUInt32.toInt32)), .val (.int ((p2 &&& (255 : Int32)).toUInt32.toUInt16.toUInt32.toInt32)), .val (.int (0 : Int32)), .val (.int (1 : Int32)), .val (.ref o285), .val (.ref o286), .val (.ref o289), .val (.ref o294), .unset, .unset, .unset, .unset] [(.ref o301)]
      refine Own.astore W316 at_156 158 rfl rfl #[.val (.int p0), .val (.int p1), .val (.int p2), .val (.int p3), .val (.long p4), .second, .val (.int ((p0 &&& (255 : Int32)).toUInt32.toUInt16.toUInt32.toInt32)), .val (.int ((p1 &&& (255 : Int32)).toUInt32.toUInt16.toUInt32.toInt32)), .val (.int ((p2 &&& (255 : Int32)).toUInt32.toUInt16.toUInt32.toInt32)), .val (.int (0 : Int32)), .val (.int (1 : Int32)), .val (.ref o285), .val (.ref o286), .val (.ref o289), .val (.ref o294), .val (.ref o301), .unset, .unset, .unset] rfl ?_
      refine Own.newO W316 (tw hw 30 rfl) (tw hw 31 rfl) (tw hw 32 rfl) at_158 161 rfl 10 21 (by decide) (by decide) (by decide) (by decide) ?_
      intro T317 h317 o317 g317 W317 E317 A317 D317 s317 k317
      have F317_name : Fld G.Z h317 o317 "com/example/lopa/lopa/trec/SgmlScanner$Tag" "name" "Ljava/lang/String;" .null := D317 (Or.inr (tw hw 43 rfl)) (ty := (.object "java/lang/String")) (by decide)
      have F317_closing : Fld G.Z h317 o317 "com/example/lopa/lopa/trec/SgmlScanner$Tag" "closing" "Z" (.int (0 : Int32)) := D317 (Or.inr (tw hw 45 rfl)) (ty := .boolean) (by decide)
      have F317_line : Fld G.Z h317 o317 "com/example/lopa/lopa/trec/SgmlScanner$Tag" "line" "J" (.long (0 : Int64)) := D317 (Or.inr (tw hw 47 rfl)) (ty := .long) (by decide)
      refine Own.dup W317 at_161 162 rfl rfl ?_
      refine Own.aload W317 at_162 164 rfl (.ref o301) rfl rfl ?_
      refine Own.iload W317 at_164 166 rfl (1 : Int32) rfl ?_
      refine Own.lload W317 at_166 168 rfl p4 rfl ?_
      have X318 : Ext h h301 := Own.Ext.tr X305 E301
      have X319 : Ext h h316 := Own.Ext.kp X318 K316 (allS (Nat.le_trans X305.1 (Nat.le_of_eq g301.symm)) all0)
      refine Own.callX W317 rfl (tw hw 33 rfl) (tw hw 34 rfl) (tw hw 35 rfl) (by decide) (argsL := [(.ref o301), (.int (1 : Int32)), (.long p4)]) (rest := [(.ref o317)]) (Own.Con.pay (con_tag hw hEL o301 p4 rfl rfl W317.old (Nat.le_trans W0.n0 (Nat.le_trans X319.1 (Nat.le_of_eq g317.symm))) A317 F317_name F317_closing F317_line) W317 (tw hw 35 rfl) (tw hw 32 rfl) (len := 3) (wd := 1) (by decide) (by decide) (fun _ q => nomatch q)) rfl (lenOf pd_18 rfl) rfl (Nat.le_of_ble_eq_true rfl) at_168 171 rfl 10 21 (Nat.le_of_ble_eq_true rfl) (Nat.le_of_ble_eq_true rfl) (Nat.le_of_ble_eq_true rfl) (Nat.le_of_ble_eq_true rfl) ?_
      intro v320 T320 h320 u320 W320 R320 hq
      obtain ⟨rfl, K320, E320, Fn320, Fc320⟩ := hq
      show Own.Go _ _ _ _ _ 171 #[.val (.int p0), .val (.int p1), .val (.int p2), .val (.int p3), .val (.long p4), .second, .val (.int ((p0 &&& (255 : Int32)).toUInt32.toUInt16.toUInt32.toInt32)), .val (.int ((p1 &&& (255 : Int32)).toUInt32.toUInt16.toUInt32.toInt32)), .val (.int ((p2 &&& (255 : Int32)).toUInt32.toUInt16.toUInt32.toInt32)), .val (.int (0 : Int32)), .val (.int (1 : Int32)), .val (.ref o285), .val (.ref o286), .val (.ref o289), .val (.ref o294), .val (.ref o301), .unset, .unset, .unset] [(.ref o317)]
      refine Own.astore W320 at_171 173 rfl rfl #[.val (.int p0), .val (.int p1), .val (.int p2), .val (.int p3), .val (.long p4), .second, .val (.int ((p0 &&& (255 : Int32)).toUInt32.toUInt16.toUInt32.toInt32)), .val (.int ((p1 &&& (255 : Int32)).toUInt32.toUInt16.toUInt32.toInt32)), .val (.int ((p2 &&& (255 : Int32)).toUInt32.toUInt16.toUInt32.toInt32)), .val (.int (0 : Int32)), .val (.int (1 : Int32)), .val (.ref o285), .val (.ref o286), .val (.ref o289), .val (.ref o294), .val (.ref o301), .val (.ref o317), .unset, .unset] rfl ?_
      refine Own.aload W320 at_173 175 rfl (.ref o317) rfl rfl ?_
      have X321 : Ext h316 h317 := E317
      have X322 : Ext h316 h320 := Own.Ext.kp X321 K320 (allS (Nat.le_of_eq g317.symm) all0)
      refine Own.callV W320 (tw hw 48 rfl) (tw hw 49 rfl) (fun s q => notFace_of_selects (args := #[]) (mvT (s := s) q (tw hw 51 rfl))) (tw hw 51 rfl) (tw hw 50 rfl) (by decide) (argsL := []) (rest := []) (Own.Con.pay (con_tst1 hw hEL hmem hS hcz hE hEN (cs := []) (Nat.le_of_ble_eq_true rfl) W320.old Fn320 Fc320 (F316.ext X322)) W320 (tw hw 52 rfl) (tw hw 32 rfl) (len := 3) (wd := 0) (by decide) (by decide) (fun _ q => nomatch q)) E320 rfl (lenOf pd_16 rfl) rfl (Nat.le_of_ble_eq_true rfl) at_175 178 rfl 18 81 (Nat.le_of_ble_eq_true rfl) (Nat.le_of_ble_eq_true rfl) (Nat.le_of_ble_eq_true rfl) (Nat.le_of_ble_eq_true rfl) ?_
      intro v323 T323 h323 u323 W323 R323 hq
      obtain ⟨o323, rfl, E323, g323, S323⟩ := hq
      have Z323 : Own.Str G.Z h323 o323 [(60 : Int32), (47 : Int32), (62 : Int32)] := S323
      have ZX323 := Z323.exa
      show Own.Go _ _ _ _ _ 178 #[.val (.int p0), .val (.int p1), .val (.int p2), .val (.int p3), .val (.long p4), .second, .val (.int ((p0 &&& (255 : Int32)).toUInt32.toUInt16.toUInt32.toInt32)), .val (.int ((p1 &&& (255 : Int32)).toUInt32.toUInt16.toUInt32.toInt32)), .val (.int ((p2 &&& (255 : Int32)).toUInt32.toUInt16.toUInt32.toInt32)), .val (.int (0 : Int32)), .val (.int (1 : Int32)), .val (.ref o285), .val (.ref o286), .val (.ref o289), .val (.ref o294), .val (.ref o301), .val (.ref o317), .unset, .unset] [(.ref o323)]
      refine Own.astore W323 at_178 180 rfl rfl #[.val (.int p0), .val (.int p1), .val (.int p2), .val (.int p3), .val (.long p4), .second, .val (.int ((p0 &&& (255 : Int32)).toUInt32.toUInt16.toUInt32.toInt32)), .val (.int ((p1 &&& (255 : Int32)).toUInt32.toUInt16.toUInt32.toInt32)), .val (.int ((p2 &&& (255 : Int32)).toUInt32.toUInt16.toUInt32.toInt32)), .val (.int (0 : Int32)), .val (.int (1 : Int32)), .val (.ref o285), .val (.ref o286), .val (.ref o289), .val (.ref o294), .val (.ref o301), .val (.ref o317), .val (.ref o323), .unset] rfl ?_
      refine Own.iload W323 at_180 182 rfl (1 : Int32) rfl ?_
      refine Own.ifNo W323 at_182 185 (by decide) rfl ?_
      refine Own.iconst W323 at_185 186 rfl (2 : Int32) rfl ?_
      refine Own.goto W323 at_186 190 (by decide) (by decide) ?_
      refine Own.istore W323 at_190 192 rfl #[.val (.int p0), .val (.int p1), .val (.int p2), .val (.int p3), .val (.long p4), .second, .val (.int ((p0 &&& (255 : Int32)).toUInt32.toUInt16.toUInt32.toInt32)), .val (.int ((p1 &&& (255 : Int32)).toUInt32.toUInt16.toUInt32.toInt32)), .val (.int ((p2 &&& (255 : Int32)).toUInt32.toUInt16.toUInt32.toInt32)), .val (.int (0 : Int32)), .val (.int (1 : Int32)), .val (.ref o285), .val (.ref o286), .val (.ref o289), .val (.ref o294), .val (.ref o301), .val (.ref o317), .val (.ref o323), .val (.int (2 : Int32))] rfl ?_
      refine Own.aload W323 at_192 194 rfl (.ref o323) rfl rfl ?_
      refine Own.ifnullNo W323 at_194 197 rfl ?_
      refine Own.aload W323 at_197 199 rfl (.ref o323) rfl rfl ?_
      refine Own.callV W323 (tw hw 167 rfl) (tw hw 85 rfl) (fun s q => notFace_of_selects (args := #[]) (mvT (s := s) q (tw hw 87 rfl))) (tw hw 87 rfl) (tw hw 86 rfl) (by decide) (argsL := []) (rest := []) (Own.payLen (wL hw) (kI := 4) (tw hw 2 rfl) W323 Z323 hS hcz (len := 3) (wd := 0) (by decide) (by decide)) ZX323 rfl (lenOf pd_4 rfl) rfl (Nat.le_of_ble_eq_true rfl) at_199 202 rfl 18 81 (Nat.le_of_ble_eq_true rfl) (Nat.le_of_ble_eq_true rfl) (Nat.le_of_ble_eq_true rfl) (Nat.le_of_ble_eq_true rfl) ?_
      intro v324 T324 h324 u324 W324 R324 hq
      obtain ⟨rfl, eh324⟩ := hq
      have ei324 := eh324.symm; subst ei324
      have X325 : Ext h287 h289 := E289
      have X326 : Ext h287 h290 := Own.Ext.wr' X325 Q290 (Nat.le_of_eq g289.symm)
      have X327 : Ext h287 h293 := Own.Ext.wr' X326 Q293 (Nat.le_of_eq g289.symm)
      have X328 : Ext h287 h294 := Own.Ext.tr X327 E294
      have X329 : Ext h287 h295 := Own.Ext.wr' X328 Q295 (Nat.le_trans X327.1 (Nat.le_of_eq g294.symm))
      have X330 : Ext h287 h299 := Own.Ext.wr' X329 Q299 (Nat.le_trans X327.1 (Nat.le_of_eq g294.symm))
      have X331 : Ext h287 h300 := Own.Ext.wr' X330 Q300 (Nat.le_trans X327.1 (Nat.le_of_eq g294.symm))
      have X332 : Ext h287 h301 := Own.Ext.tr X331 E301
      have X333 : Ext h287 h316 := Own.Ext.kp X332 K316 (allS (Nat.le_trans X331.1 (Nat.le_of_eq g301.symm)) all0)
      have X334 : Ext h287 h317 := Own.Ext.tr X333 E317
      have X335 : Ext h287 h320 := Own.Ext.kp X334 K320 (allS (Nat.le_trans X333.1 (Nat.le_of_eq g317.symm)) all0)
      have X336 : Ext h287 h323 := Own.Ext.tr X335 E323
      have sf337 := R324.safe (V287.ext X336).lt (R323.safe (V287.ext X335).lt (R320.safe (V287.ext X334).lt (k317 o286 (R316.safe (V287.ext X332).lt (k301 o286 (k300 o286 (k299 o286 (k295 o286 (k294 o286 (k293 o286 (k290 o286 (k289 o286 (k287 o286 s286)))))))))))))
      have X338 : Ext h293 h294 := E294
      have X339 : Ext h293 h295 := Own.Ext.wr' X338 Q295 (Nat.le_of_eq g294.symm)
      have X340 : Ext h293 h299 := Own.Ext.wr' X339 Q299 (Nat.le_of_eq g294.symm)
      have X341 : Ext h293 h300 := Own.Ext.wr' X340 Q300 (Nat.le_of_eq g294.symm)
      have X342 : Ext h293 h301 := Own.Ext.tr X341 E301
      have X343 : Ext h293 h316 := Own.Ext.kp X342 K316 (allS (Nat.le_trans X341.1 (Nat.le_of_eq g301.symm)) all0)
      have X344 : Ext h293 h317 := Own.Ext.tr X343 E317
      have X345 : Ext h293 h320 := Own.Ext.kp X344 K320 (allS (Nat.le_trans X343.1 (Nat.le_of_eq g317.symm)) all0)
      have X346 : Ext h293 h323 := Own.Ext.tr X345 E323
      have sf347 := R324.safe (V293.ext X346).lt (R323.safe (V293.ext X345).lt (R320.safe (V293.ext X344).lt (k317 o289 (R316.safe (V293.ext X342).lt (k301 o289 (k300 o289 (k299 o289 (k295 o289 (k294 o289 (k293 o289 (k290 o289 s289)))))))))))
      have X348 : Ext h300 h301 := E301
      have X349 : Ext h300 h316 := Own.Ext.kp X348 K316 (allS (Nat.le_of_eq g301.symm) all0)
      have X350 : Ext h300 h317 := Own.Ext.tr X349 E317
      have X351 : Ext h300 h320 := Own.Ext.kp X350 K320 (allS (Nat.le_trans X349.1 (Nat.le_of_eq g317.symm)) all0)
      have X352 : Ext h300 h323 := Own.Ext.tr X351 E323
      have sf353 := R324.safe (V300.ext X352).lt (R323.safe (V300.ext X351).lt (R320.safe (V300.ext X350).lt (k317 o294 (R316.safe (V300.ext X348).lt (k301 o294 (k300 o294 (k299 o294 (k295 o294 s294))))))))
      show Own.Go _ _ _ _ _ 202 #[.val (.int p0), .val (.int p1), .val (.int p2), .val (.int p3), .val (.long p4), .second, .val (.int ((p0 &&& (255 : Int32)).toUInt32.toUInt16.toUInt32.toInt32)), .val (.int ((p1 &&& (255 : Int32)).toUInt32.toUInt16.toUInt32.toInt32)), .val (.int ((p2 &&& (255 : Int32)).toUInt32.toUInt16.toUInt32.toInt32)), .val (.int (0 : Int32)), .val (.int (1 : Int32)), .val (.ref o285), .val (.ref o286), .val (.ref o289), .val (.ref o294), .val (.ref o301), .val (.ref o317), .val (.ref o323), .val (.int (2 : Int32))] [(.int (3 : Int32))]
      refine Own.iload W324 at_202 204 rfl (2 : Int32) rfl ?_
      refine Own.iload W324 at_204 206 rfl (0 : Int32) rfl ?_
      refine Own.iadd W324 at_206 207 rfl ?_
      refine Own.iconst W324 at_207 208 rfl (1 : Int32) rfl ?_
      refine Own.iadd W324 at_208 209 rfl ?_
      refine Own.icmpYes W324 at_209 214 (by decide) (by decide) (by decide) ?_
      refine Own.aload W324 at_214 216 rfl (.ref o323) rfl rfl ?_
      refine Own.iconst W324 at_216 217 rfl (0 : Int32) rfl ?_
      refine Own.callV W324 (tw hw 168 rfl) (tw hw 169 rfl) (fun s q => notFace_of_selects (args := #[]) (mvT (s := s) q (tw hw 171 rfl))) (tw hw 171 rfl) (tw hw 170 rfl) (by decide) (argsL := [(.int (0 : Int32))]) (rest := []) (Own.payChr (wC hw) (kI := 4) (tw hw 2 rfl) W324 Z323 hS hcz SF rfm (i := 0) (Nat.le_of_ble_eq_true rfl) rfl (len := 3) (wd := 0) (by decide) (by decide)) ZX323 rfl (lenOf pd_19 rfl) rfl (Nat.le_of_ble_eq_true rfl) at_217 220 rfl 18 81 (Nat.le_of_ble_eq_true rfl) (Nat.le_of_ble_eq_true rfl) (Nat.le_of_ble_eq_true rfl) (Nat.le_of_ble_eq_true rfl) ?_
      intro v354 T354 h354 u354 W354 R354 hq
      obtain ⟨rfl, eh354⟩ := hq
      have ei354 := eh354.symm; subst ei354
      have sf355 := R354.safe (V287.ext X336).lt sf337
      have sf356 := R354.safe (V293.ext X346).lt sf347
      have sf357 := R354.safe (V300.ext X352).lt sf353
      show Own.Go _ _ _ _ _ 220 #[.val (.int p0), .val (.int p1), .val (.int p2), .val (.int p3), .val (.long p4), .second, .val (.int ((p0 &&& (255 : Int32)).toUInt32.toUInt16.toUInt32.toInt32)), .val (.int ((p1 &&& (255 : Int32)).toUInt32.toUInt16.toUInt32.toInt32)), .val (.int ((p2 &&& (255 : Int32)).toUInt32.toUInt16.toUInt32.toInt32)), .val (.int (0 : Int32)), .val (.int (1 : Int32)), .val (.ref o285), .val (.ref o286), .val (.ref o289), .val (.ref o294), .val (.ref o301), .val (.ref o317), .val (.ref o323), .val (.int (2 : Int32))] [(.int (60 : Int32))]
      refine Own.bipush W354 at_220 222 rfl (60 : Int32) rfl ?_
      refine Own.icmpYes W354 at_222 227 (by decide) (by decide) (by decide) ?_
      refine Own.iload W354 at_227 229 rfl (1 : Int32) rfl ?_
      refine Own.ifNo W354 at_229 232 (by decide) rfl ?_
      refine Own.aload W354 at_232 234 rfl (.ref o323) rfl rfl ?_
      refine Own.iconst W354 at_234 235 rfl (1 : Int32) rfl ?_
      refine Own.callV W354 (tw hw 168 rfl) (tw hw 169 rfl) (fun s q => notFace_of_selects (args := #[]) (mvT (s := s) q (tw hw 171 rfl))) (tw hw 171 rfl) (tw hw 170 rfl) (by decide) (argsL := [(.int (1 : Int32))]) (rest := []) (Own.payChr (wC hw) (kI := 4) (tw hw 2 rfl) W354 Z323 hS hcz SF rfm (i := 1) (Nat.le_of_ble_eq_true rfl) rfl (len := 3) (wd := 0) (by decide) (by decide)) ZX323 rfl (lenOf pd_19 rfl) rfl (Nat.le_of_ble_eq_true rfl) at_235 238 rfl 18 81 (Nat.le_of_ble_eq_true rfl) (Nat.le_of_ble_eq_true rfl) (Nat.le_of_ble_eq_true rfl) (Nat.le_of_ble_eq_true rfl) ?_
      intro v358 T358 h358 u358 W358 R358 hq
      obtain ⟨rfl, eh358⟩ := hq
      have ei358 := eh358.symm; subst ei358
      have sf359 := R358.safe (V287.ext X336).lt sf355
      have sf360 := R358.safe (V293.ext X346).lt sf356
      have sf361 := R358.safe (V300.ext X352).lt sf357
      show Own.Go _ _ _ _ _ 238 #[.val (.int p0), .val (.int p1), .val (.int p2), .val (.int p3), .val (.long p4), .second, .val (.int ((p0 &&& (255 : Int32)).toUInt32.toUInt16.toUInt32.toInt32)), .val (.int ((p1 &&& (255 : Int32)).toUInt32.toUInt16.toUInt32.toInt32)), .val (.int ((p2 &&& (255 : Int32)).toUInt32.toUInt16.toUInt32.toInt32)), .val (.int (0 : Int32)), .val (.int (1 : Int32)), .val (.ref o285), .val (.ref o286), .val (.ref o289), .val (.ref o294), .val (.ref o301), .val (.ref o317), .val (.ref o323), .val (.int (2 : Int32))] [(.int (47 : Int32))]
      refine Own.bipush W358 at_238 240 rfl (47 : Int32) rfl ?_
      refine Own.icmpYes W358 at_240 245 (by decide) (by decide) (by decide) ?_
      refine Own.iload W358 at_245 247 rfl (0 : Int32) rfl ?_
      refine Own.iconst W358 at_247 248 rfl (1 : Int32) rfl ?_
      refine Own.icmpYes W358 at_248 265 (by decide) (by decide) (by decide) ?_
      refine Own.iload W358 at_265 267 rfl (0 : Int32) rfl ?_
      refine Own.iconst W358 at_267 268 rfl (2 : Int32) rfl ?_
      refine Own.icmpYes W358 at_268 287 (by decide) (by decide) (by decide) ?_
      refine Own.iload W358 at_287 289 rfl (0 : Int32) rfl ?_
      refine Own.iconst W358 at_289 290 rfl (3 : Int32) rfl ?_
      refine Own.icmpYes W358 at_290 309 (by decide) (by decide) (by decide) ?_
      refine Own.aload W358 at_309 311 rfl (.ref o323) rfl rfl ?_
      refine Own.iload W358 at_311 313 rfl (2 : Int32) rfl ?_
      refine Own.iload W358 at_313 315 rfl (0 : Int32) rfl ?_
      refine Own.iadd W358 at_315 316 rfl ?_
      refine Own.callV W358 (tw hw 168 rfl) (tw hw 169 rfl) (fun s q => notFace_of_selects (args := #[]) (mvT (s := s) q (tw hw 171 rfl))) (tw hw 171 rfl) (tw hw 170 rfl) (by decide) (argsL := [(.int (2 : Int32))]) (rest := []) (Own.payChr (wC hw) (kI := 4) (tw hw 2 rfl) W358 Z323 hS hcz SF rfm (i := 2) (Nat.le_of_ble_eq_true rfl) rfl (len := 3) (wd := 0) (by decide) (by decide)) ZX323 rfl (lenOf pd_19 rfl) rfl (Nat.le_of_ble_eq_true rfl) at_316 319 rfl 18 81 (Nat.le_of_ble_eq_true rfl) (Nat.le_of_ble_eq_true rfl) (Nat.le_of_ble_eq_true rfl) (Nat.le_of_ble_eq_true rfl) ?_
      intro v362 T362 h362 u362 W362 R362 hq
      obtain ⟨rfl, eh362⟩ := hq
      have ei362 := eh362.symm; subst ei362
      have sf363 := R362.safe (V287.ext X336).lt sf359
      have sf364 := R362.safe (V293.ext X346).lt sf360
      have sf365 := R362.safe (V300.ext X352).lt sf361
      show Own.Go _ _ _ _ _ 319 #[.val (.int p0), .val (.int p1), .val (.int p2), .val (.int p3), .val (.long p4), .second, .val (.int ((p0 &&& (255 : Int32)).toUInt32.toUInt16.toUInt32.toInt32)), .val (.int ((p1 &&& (255 : Int32)).toUInt32.toUInt16.toUInt32.toInt32)), .val (.int ((p2 &&& (255 : Int32)).toUInt32.toUInt16.toUInt32.toInt32)), .val (.int (0 : Int32)), .val (.int (1 : Int32)), .val (.ref o285), .val (.ref o286), .val (.ref o289), .val (.ref o294), .val (.ref o301), .val (.ref o317), .val (.ref o323), .val (.int (2 : Int32))] [(.int (62 : Int32))]
      refine Own.bipush W362 at_319 321 rfl (62 : Int32) rfl ?_
      refine Own.icmpNo W362 at_321 324 (by decide) rfl ?_
      refine Own.iconst W362 at_324 325 rfl (1 : Int32) rfl ?_
      refine Own.goto W362 at_325 329 (by decide) (by decide) ?_
      exact Own.retB W362 (by decide) (by decide) rfl at_329 rfl rfl
    · skip
      refine Own.ifYes W300 at_96 111 (XT.i0_ne_t e0) (by decide) (by decide) ?_
      refine Own.iload W300 at_111 113 rfl (p3 &&& (3 : Int32)) rfl ?_
      refine Own.iconst W300 at_113 114 rfl (1 : Int32) rfl ?_
      by_cases e1 : (p3 &&& (3 : Int32)) = (1 : Int32)
      · skip
        refine Own.icmpNo W300 at_114 117 (XT.ii_ne_f e1) rfl ?_
        refine Own.newO W300 (tw hw 1 rfl) (tw hw 2 rfl) (tw hw 3 rfl) at_117 120 rfl 5 10 (by decide) (by decide) (by decide) (by decide) ?_
        intro T366 h366 o366 g366 W366 E366 A366 D366 s366 k366
        have F366_coder : Fld G.Z h366 o366 "java/lang/String" "coder" "B" (.int (0 : Int32)) := D366 (Or.inr (tw hw 27 rfl)) (ty := .byte) (by decide)
        have F366_value : Fld G.Z h366 o366 "java/lang/String" "value" "[B" .null := D366 (Or.inr (tw hw 29 rfl)) (ty := (.array .byte)) (by decide)
        refine Own.dup W366 at_120 121 rfl rfl ?_
        refine Own.aload W366 at_121 123 rfl (.ref o286) rfl rfl ?_
        have X367 : Ext h h294 := Own.Ext.tr X298 E294
        have X368 : Ext h h295 := Own.Ext.wr' X367 Q295 (Nat.le_trans X298.1 (Nat.le_of_eq g294.symm))
        have X369 : Ext h h299 := Own.Ext.wr' X368 Q299 (Nat.le_trans X298.1 (Nat.le_of_eq g294.symm))
        have X370 : Ext h h300 := Own.Ext.wr' X369 Q300 (Nat.le_trans X298.1 (Nat.le_of_eq g294.symm))
        have X371 : Ext h287 h289 := E289
        have X372 : Ext h287 h290 := Own.Ext.wr' X371 Q290 (Nat.le_of_eq g289.symm)
        have X373 : Ext h287 h293 := Own.Ext.wr' X372 Q293 (Nat.le_of_eq g289.symm)
        have X374 : Ext h287 h294 := Own.Ext.tr X373 E294
        have X375 : Ext h287 h295 := Own.Ext.wr' X374 Q295 (Nat.le_trans X373.1 (Nat.le_of_eq g294.symm))
        have X376 : Ext h287 h299 := Own.Ext.wr' X375 Q299 (Nat.le_trans X373.1 (Nat.le_of_eq g294.symm))
        have X377 : Ext h287 h300 := Own.Ext.wr' X376 Q300 (Nat.le_trans X373.1 (Nat.le_of_eq g294.symm))
        have X378 : Ext h287 h366 := Own.Ext.tr X377 E366
        refine Own.callX W366 rfl (tw hw 4 rfl) (tw hw 5 rfl) (tw hw 6 rfl) (by decide) (argsL := [(.ref o286)]) (rest := [(.ref o366)]) (Own.payStr (wS hw) hEL hmem W366 (cs := [((p0 &&& (255 : Int32)).toUInt32.toUInt16.toUInt32.toInt32)]) (z := (1 : Int32)) (cz := cz) (Nat.le_trans W0.n0 (Nat.le_trans X370.1 (Nat.le_of_eq g366.symm))) s366 A366 F366_value F366_coder ((V287.ext X378)) rfl (by intro c hc; simp only [List.mem_cons, List.not_mem_nil, or_false] at hc; rcases hc with rfl <;> exact Own.lo_rng _) (Nat.le_of_ble_eq_true rfl) hS hcz (len := 3) (wd := 1) (by decide) (by decide)) rfl (lenOf pd_17 rfl) rfl (Nat.le_of_ble_eq_true rfl) at_123 126 rfl 9 19 (Nat.le_of_ble_eq_true rfl) (Nat.le_of_ble_eq_true rfl) (Nat.le_of_ble_eq_true rfl) (Nat.le_of_ble_eq_true rfl) ?_
        intro v379 T379 h379 u379 W379 R379 hq
        obtain ⟨rfl, K379, F379⟩ := hq
        show Own.Go _ _ _ _ _ 126 #[.val (.int p0), .val (.int p1), .val (.int p2), .val (.int p3), .val (.long p4), .second, .val (.int ((p0 &&& (255 : Int32)).toUInt32.toUInt16.toUInt32.toInt32)), .val (.int ((p1 &&& (255 : Int32)).toUInt32.toUInt16.toUInt32.toInt32)), .val (.int ((p2 &&& (255 : Int32)).toUInt32.toUInt16.toUInt32.toInt32)), .val (.int (p3 &&& (3 : Int32))), .val (.int (1 : Int32)), .val (.ref o285), .val (.ref o286), .val (.ref o289), .val (.ref o294), .unset, .unset, .unset, .unset] [(.ref o366)]
        refine Own.goto W379 at_126 156 (by decide) (by decide) ?_
        rw [e1]
        show Own.Go _ _ _ _ _ 156 #[.val (.int p0), .val (.int p1), .val (.int p2), .val (.int p3), .val (.long p4), .second, .val (.int ((p0 &&& (255 : Int32)).toUInt32.toUInt16.toUInt32.toInt32)), .val (.int ((p1 &&& (255 : Int32)).toUInt32.toUInt16.toUInt32.toInt32)), .val (.int ((p2 &&& (255 : Int32)).toUInt32.toUInt16.toUInt32.toInt32)), .val (.int (1 : Int32)), .val (.int (1 : Int32)), .val (.ref o285), .val (.ref o286), .val (.ref o289), .val (.ref o294), .unset, .unset, .unset, .unset] [(.ref o366)]
        refine Own.astore W379 at_156 158 rfl rfl #[.val (.int p0), .val (.int p1), .val (.int p2), .val (.int p3), .val (.long p4), .second, .val (.int ((p0 &&& (255 : Int32)).toUInt32.toUInt16.toUInt32.toInt32)), .val (.int ((p1 &&& (255 : Int32)).toUInt32.toUInt16.toUInt32.toInt32)), .val (.int ((p2 &&& (255 : Int32)).toUInt32.toUInt16.toUInt32.toInt32)), .val (.int (1 : Int32)), .val (.int (1 : Int32)), .val (.ref o285), .val (.ref o286), .val (.ref o289), .val (.ref o294), .val (.ref o366), .unset, .unset, .unset] rfl ?_
        refine Own.newO W379 (tw hw 30 rfl) (tw hw 31 rfl) (tw hw 32 rfl) at_158 161 rfl 10 22 (by decide) (by decide) (by decide) (by decide) ?_
        intro T380 h380 o380 g380 W380 E380 A380 D380 s380 k380
        have F380_name : Fld G.Z h380 o380 "com/example/lopa/lopa/trec/SgmlScanner$Tag" "name" "Ljava/lang/String;" .null := D380 (Or.inr (tw hw 43 rfl)) (ty := (.object "java/lang/String")) (by decide)
        have F380_closing : Fld G.Z h380 o380 "com/example/lopa/lopa/trec/SgmlScanner$Tag" "closing" "Z" (.int (0 : Int32)) := D380 (Or.inr (tw hw 45 rfl)) (ty := .boolean) (by decide)
        have F380_line : Fld G.Z h380 o380 "com/example/lopa/lopa/trec/SgmlScanner$Tag" "line" "J" (.long (0 : Int64)) := D380 (Or.inr (tw hw 47 rfl)) (ty := .long) (by decide)
        refine Own.dup W380 at_161 162 rfl rfl ?_
        refine Own.aload W380 at_162 164 rfl (.ref o366) rfl rfl ?_
        refine Own.iload W380 at_164 166 rfl (1 : Int32) rfl ?_
        refine Own.lload W380 at_166 168 rfl p4 rfl ?_
        have X381 : Ext h h366 := Own.Ext.tr X370 E366
        have X382 : Ext h h379 := Own.Ext.kp X381 K379 (allS (Nat.le_trans X370.1 (Nat.le_of_eq g366.symm)) all0)
        refine Own.callX W380 rfl (tw hw 33 rfl) (tw hw 34 rfl) (tw hw 35 rfl) (by decide) (argsL := [(.ref o366), (.int (1 : Int32)), (.long p4)]) (rest := [(.ref o380)]) (Own.Con.pay (con_tag hw hEL o366 p4 rfl rfl W380.old (Nat.le_trans W0.n0 (Nat.le_trans X382.1 (Nat.le_of_eq g380.symm))) A380 F380_name F380_closing F380_line) W380 (tw hw 35 rfl) (tw hw 32 rfl) (len := 3) (wd := 1) (by decide) (by decide) (fun _ q => nomatch q)) rfl (lenOf pd_18 rfl) rfl (Nat.le_of_ble_eq_true rfl) at_168 171 rfl 10 22 (Nat.le_of_ble_eq_true rfl) (Nat.le_of_ble_eq_true rfl) (Nat.le_of_ble_eq_true rfl) (Nat.le_of_ble_eq_true rfl) ?_
        intro v383 T383 h383 u383 W383 R383 hq
        obtain ⟨rfl, K383, E383, Fn383, Fc383⟩ := hq
        show Own.Go _ _ _ _ _ 171 #[.val (.int p0), .val (.int p1), .val (.int p2), .val (.int p3), .val (.long p4), .second, .val (.int ((p0 &&& (255 : Int32)).toUInt32.toUInt16.toUInt32.toInt32)), .val (.int ((p1 &&& (255 : Int32)).toUInt32.toUInt16.toUInt32.toInt32)), .val (.int ((p2 &&& (255 : Int32)).toUInt32.toUInt16.toUInt32.toInt32)), .val (.int (1 : Int32)), .val (.int (1 : Int32)), .val (.ref o285), .val (.ref o286), .val (.ref o289), .val (.ref o294), .val (.ref o366), .unset, .unset, .unset] [(.ref o380)]
        refine Own.astore W383 at_171 173 rfl rfl #[.val (.int p0), .val (.int p1), .val (.int p2), .val (.int p3), .val (.long p4), .second, .val (.int ((p0 &&& (255 : Int32)).toUInt32.toUInt16.toUInt32.toInt32)), .val (.int ((p1 &&& (255 : Int32)).toUInt32.toUInt16.toUInt32.toInt32)), .val (.int ((p2 &&& (255 : Int32)).toUInt32.toUInt16.toUInt32.toInt32)), .val (.int (1 : Int32)), .val (.int (1 : Int32)), .val (.ref o285), .val (.ref o286), .val (.ref o289), .val (.ref o294), .val (.ref o366), .val (.ref o380), .unset, .unset] rfl ?_
        refine Own.aload W383 at_173 175 rfl (.ref o380) rfl rfl ?_
        have X384 : Ext h379 h380 := E380
        have X385 : Ext h379 h383 := Own.Ext.kp X384 K383 (allS (Nat.le_of_eq g380.symm) all0)
        refine Own.callV W383 (tw hw 48 rfl) (tw hw 49 rfl) (fun s q => notFace_of_selects (args := #[]) (mvT (s := s) q (tw hw 51 rfl))) (tw hw 51 rfl) (tw hw 50 rfl) (by decide) (argsL := []) (rest := []) (Own.Con.pay (con_tst1 hw hEL hmem hS hcz hE hEN (cs := [((p0 &&& (255 : Int32)).toUInt32.toUInt16.toUInt32.toInt32)]) (Nat.le_of_ble_eq_true rfl) W383.old Fn383 Fc383 (F379.ext X385)) W383 (tw hw 52 rfl) (tw hw 32 rfl) (len := 3) (wd := 0) (by decide) (by decide) (fun _ q => nomatch q)) E383 rfl (lenOf pd_16 rfl) rfl (Nat.le_of_ble_eq_true rfl) at_175 178 rfl 18 82 (Nat.le_of_ble_eq_true rfl) (Nat.le_of_ble_eq_true rfl) (Nat.le_of_ble_eq_true rfl) (Nat.le_of_ble_eq_true rfl) ?_
        intro v386 T386 h386 u386 W386 R386 hq
        obtain ⟨o386, rfl, E386, g386, S386⟩ := hq
        have Z386 : Own.Str G.Z h386 o386 [(60 : Int32), (47 : Int32), ((p0 &&& (255 : Int32)).toUInt32.toUInt16.toUInt32.toInt32), (62 : Int32)] := S386
        have ZX386 := Z386.exa
        show Own.Go _ _ _ _ _ 178 #[.val (.int p0), .val (.int p1), .val (.int p2), .val (.int p3), .val (.long p4), .second, .val (.int ((p0 &&& (255 : Int32)).toUInt32.toUInt16.toUInt32.toInt32)), .val (.int ((p1 &&& (255 : Int32)).toUInt32.toUInt16.toUInt32.toInt32)), .val (.int ((p2 &&& (255 : Int32)).toUInt32.toUInt16.toUInt32.toInt32)), .val (.int (1 : Int32)), .val (.int (1 : Int32)), .val (.ref o285), .val (.ref o286), .val (.ref o289), .val (.ref o294), .val (.ref o366), .val (.ref o380), .unset, .unset] [(.ref o386)]
        refine Own.astore W386 at_178 180 rfl rfl #[.val (.int p0), .val (.int p1), .val (.int p2), .val (.int p3), .val (.long p4), .second, .val (.int ((p0 &&& (255 : Int32)).toUInt32.toUInt16.toUInt32.toInt32)), .val (.int ((p1 &&& (255 : Int32)).toUInt32.toUInt16.toUInt32.toInt32)), .val (.int ((p2 &&& (255 : Int32)).toUInt32.toUInt16.toUInt32.toInt32)), .val (.int (1 : Int32)), .val (.int (1 : Int32)), .val (.ref o285), .val (.ref o286), .val (.ref o289), .val (.ref o294), .val (.ref o366), .val (.ref o380), .val (.ref o386), .unset] rfl ?_
        refine Own.iload W386 at_180 182 rfl (1 : Int32) rfl ?_
        refine Own.ifNo W386 at_182 185 (by decide) rfl ?_
        refine Own.iconst W386 at_185 186 rfl (2 : Int32) rfl ?_
        refine Own.goto W386 at_186 190 (by decide) (by decide) ?_
        refine Own.istore W386 at_190 192 rfl #[.val (.int p0), .val (.int p1), .val (.int p2), .val (.int p3), .val (.long p4), .second, .val (.int ((p0 &&& (255 : Int32)).toUInt32.toUInt16.toUInt32.toInt32)), .val (.int ((p1 &&& (255 : Int32)).toUInt32.toUInt16.toUInt32.toInt32)), .val (.int ((p2 &&& (255 : Int32)).toUInt32.toUInt16.toUInt32.toInt32)), .val (.int (1 : Int32)), .val (.int (1 : Int32)), .val (.ref o285), .val (.ref o286), .val (.ref o289), .val (.ref o294), .val (.ref o366), .val (.ref o380), .val (.ref o386), .val (.int (2 : Int32))] rfl ?_
        refine Own.aload W386 at_192 194 rfl (.ref o386) rfl rfl ?_
        refine Own.ifnullNo W386 at_194 197 rfl ?_
        refine Own.aload W386 at_197 199 rfl (.ref o386) rfl rfl ?_
        refine Own.callV W386 (tw hw 167 rfl) (tw hw 85 rfl) (fun s q => notFace_of_selects (args := #[]) (mvT (s := s) q (tw hw 87 rfl))) (tw hw 87 rfl) (tw hw 86 rfl) (by decide) (argsL := []) (rest := []) (Own.payLen (wL hw) (kI := 4) (tw hw 2 rfl) W386 Z386 hS hcz (len := 3) (wd := 0) (by decide) (by decide)) ZX386 rfl (lenOf pd_4 rfl) rfl (Nat.le_of_ble_eq_true rfl) at_199 202 rfl 18 82 (Nat.le_of_ble_eq_true rfl) (Nat.le_of_ble_eq_true rfl) (Nat.le_of_ble_eq_true rfl) (Nat.le_of_ble_eq_true rfl) ?_
        intro v387 T387 h387 u387 W387 R387 hq
        obtain ⟨rfl, eh387⟩ := hq
        have ei387 := eh387.symm; subst ei387
        have X388 : Ext h285 h286 := E286
        have X389 : Ext h285 h287 := Own.Ext.wr' X388 Q287 (Nat.le_of_eq g286.symm)
        have X390 : Ext h285 h289 := Own.Ext.tr X389 E289
        have X391 : Ext h285 h290 := Own.Ext.wr' X390 Q290 (Nat.le_trans X389.1 (Nat.le_of_eq g289.symm))
        have X392 : Ext h285 h293 := Own.Ext.wr' X391 Q293 (Nat.le_trans X389.1 (Nat.le_of_eq g289.symm))
        have X393 : Ext h285 h294 := Own.Ext.tr X392 E294
        have X394 : Ext h285 h295 := Own.Ext.wr' X393 Q295 (Nat.le_trans X392.1 (Nat.le_of_eq g294.symm))
        have X395 : Ext h285 h299 := Own.Ext.wr' X394 Q299 (Nat.le_trans X392.1 (Nat.le_of_eq g294.symm))
        have X396 : Ext h285 h300 := Own.Ext.wr' X395 Q300 (Nat.le_trans X392.1 (Nat.le_of_eq g294.symm))
        have X397 : Ext h285 h366 := Own.Ext.tr X396 E366
        have X398 : Ext h285 h379 := Own.Ext.kp X397 K379 (allS (Nat.le_trans X396.1 (Nat.le_of_eq g366.symm)) all0)
        have X399 : Ext h285 h380 := Own.Ext.tr X398 E380
        have X400 : Ext h285 h383 := Own.Ext.kp X399 K383 (allS (Nat.le_trans X398.1 (Nat.le_of_eq g380.symm)) all0)
        have X401 : Ext h285 h386 := Own.Ext.tr X400 E386
        have sf402 := R387.safe (V285.ext X401).lt (R386.safe (V285.ext X400).lt (R383.safe (V285.ext X399).lt (k380 o285 (R379.safe (V285.ext X397).lt (k366 o285 (k300 o285 (k299 o285 (k295 o285 (k294 o285 (k293 o285 (k290 o285 (k289 o285 (k287 o285 (k286 o285 s285))))))))))))))
        have X403 : Ext h293 h294 := E294
        have X404 : Ext h293 h295 := Own.Ext.wr' X403 Q295 (Nat.le_of_eq g294.symm)
        have X405 : Ext h293 h299 := Own.Ext.wr' X404 Q299 (Nat.le_of_eq g294.symm)
        have X406 : Ext h293 h300 := Own.Ext.wr' X405 Q300 (Nat.le_of_eq g294.symm)
        have X407 : Ext h293 h366 := Own.Ext.tr X406 E366
        have X408 : Ext h293 h379 := Own.Ext.kp X407 K379 (allS (Nat.le_trans X406.1 (Nat.le_of_eq g366.symm)) all0)
        have X409 : Ext h293 h380 := Own.Ext.tr X408 E380
        have X410 : Ext h293 h383 := Own.Ext.kp X409 K383 (allS (Nat.le_trans X408.1 (Nat.le_of_eq g380.symm)) all0)
        have X411 : Ext h293 h386 := Own.Ext.tr X410 E386
        have sf412 := R387.safe (V293.ext X411).lt (R386.safe (V293.ext X410).lt (R383.safe (V293.ext X409).lt (k380 o289 (R379.safe (V293.ext X407).lt (k366 o289 (k300 o289 (k299 o289 (k295 o289 (k294 o289 (k293 o289 (k290 o289 s289)))))))))))
        have X413 : Ext h300 h366 := E366
        have X414 : Ext h300 h379 := Own.Ext.kp X413 K379 (allS (Nat.le_of_eq g366.symm) all0)
        have X415 : Ext h300 h380 := Own.Ext.tr X414 E380
        have X416 : Ext h300 h383 := Own.Ext.kp X415 K383 (allS (Nat.le_trans X414.1 (Nat.le_of_eq g380.symm)) all0)
        have X417 : Ext h300 h386 := Own.Ext.tr X416 E386
        have sf418 := R387.safe (V300.ext X417).lt (R386.safe (V300.ext X416).lt (R383.safe (V300.ext X415).lt (k380 o294 (R379.safe (V300.ext X413).lt (k366 o294 (k300 o294 (k299 o294 (k295 o294 s294))))))))
        show Own.Go _ _ _ _ _ 202 #[.val (.int p0), .val (.int p1), .val (.int p2), .val (.int p3), .val (.long p4), .second, .val (.int ((p0 &&& (255 : Int32)).toUInt32.toUInt16.toUInt32.toInt32)), .val (.int ((p1 &&& (255 : Int32)).toUInt32.toUInt16.toUInt32.toInt32)), .val (.int ((p2 &&& (255 : Int32)).toUInt32.toUInt16.toUInt32.toInt32)), .val (.int (1 : Int32)), .val (.int (1 : Int32)), .val (.ref o285), .val (.ref o286), .val (.ref o289), .val (.ref o294), .val (.ref o366), .val (.ref o380), .val (.ref o386), .val (.int (2 : Int32))] [(.int (4 : Int32))]
        refine Own.iload W387 at_202 204 rfl (2 : Int32) rfl ?_
        refine Own.iload W387 at_204 206 rfl (1 : Int32) rfl ?_
        refine Own.iadd W387 at_206 207 rfl ?_
        refine Own.iconst W387 at_207 208 rfl (1 : Int32) rfl ?_
        refine Own.iadd W387 at_208 209 rfl ?_
        refine Own.icmpYes W387 at_209 214 (by decide) (by decide) (by decide) ?_
        refine Own.aload W387 at_214 216 rfl (.ref o386) rfl rfl ?_
        refine Own.iconst W387 at_216 217 rfl (0 : Int32) rfl ?_
        refine Own.callV W387 (tw hw 168 rfl) (tw hw 169 rfl) (fun s q => notFace_of_selects (args := #[]) (mvT (s := s) q (tw hw 171 rfl))) (tw hw 171 rfl) (tw hw 170 rfl) (by decide) (argsL := [(.int (0 : Int32))]) (rest := []) (Own.payChr (wC hw) (kI := 4) (tw hw 2 rfl) W387 Z386 hS hcz SF rfm (i := 0) (Nat.le_of_ble_eq_true rfl) rfl (len := 3) (wd := 0) (by decide) (by decide)) ZX386 rfl (lenOf pd_19 rfl) rfl (Nat.le_of_ble_eq_true rfl) at_217 220 rfl 18 82 (Nat.le_of_ble_eq_true rfl) (Nat.le_of_ble_eq_true rfl) (Nat.le_of_ble_eq_true rfl) (Nat.le_of_ble_eq_true rfl) ?_
        intro v419 T419 h419 u419 W419 R419 hq
        obtain ⟨rfl, eh419⟩ := hq
        have ei419 := eh419.symm; subst ei419
        have sf420 := R419.safe (V285.ext X401).lt sf402
        have sf421 := R419.safe (V293.ext X411).lt sf412
        have sf422 := R419.safe (V300.ext X417).lt sf418
        show Own.Go _ _ _ _ _ 220 #[.val (.int p0), .val (.int p1), .val (.int p2), .val (.int p3), .val (.long p4), .second, .val (.int ((p0 &&& (255 : Int32)).toUInt32.toUInt16.toUInt32.toInt32)), .val (.int ((p1 &&& (255 : Int32)).toUInt32.toUInt16.toUInt32.toInt32)), .val (.int ((p2 &&& (255 : Int32)).toUInt32.toUInt16.toUInt32.toInt32)), .val (.int (1 : Int32)), .val (.int (1 : Int32)), .val (.ref o285), .val (.ref o286), .val (.ref o289), .val (.ref o294), .val (.ref o366), .val (.ref o380), .val (.ref o386), .val (.int (2 : Int32))] [(.int (60 : Int32))]
        refine Own.bipush W419 at_220 222 rfl (60 : Int32) rfl ?_
        refine Own.icmpYes W419 at_222 227 (by decide) (by decide) (by decide) ?_
        refine Own.iload W419 at_227 229 rfl (1 : Int32) rfl ?_
        refine Own.ifNo W419 at_229 232 (by decide) rfl ?_
        refine Own.aload W419 at_232 234 rfl (.ref o386) rfl rfl ?_
        refine Own.iconst W419 at_234 235 rfl (1 : Int32) rfl ?_
        refine Own.callV W419 (tw hw 168 rfl) (tw hw 169 rfl) (fun s q => notFace_of_selects (args := #[]) (mvT (s := s) q (tw hw 171 rfl))) (tw hw 171 rfl) (tw hw 170 rfl) (by decide) (argsL := [(.int (1 : Int32))]) (rest := []) (Own.payChr (wC hw) (kI := 4) (tw hw 2 rfl) W419 Z386 hS hcz SF rfm (i := 1) (Nat.le_of_ble_eq_true rfl) rfl (len := 3) (wd := 0) (by decide) (by decide)) ZX386 rfl (lenOf pd_19 rfl) rfl (Nat.le_of_ble_eq_true rfl) at_235 238 rfl 18 82 (Nat.le_of_ble_eq_true rfl) (Nat.le_of_ble_eq_true rfl) (Nat.le_of_ble_eq_true rfl) (Nat.le_of_ble_eq_true rfl) ?_
        intro v423 T423 h423 u423 W423 R423 hq
        obtain ⟨rfl, eh423⟩ := hq
        have ei423 := eh423.symm; subst ei423
        have sf424 := R423.safe (V285.ext X401).lt sf420
        have sf425 := R423.safe (V293.ext X411).lt sf421
        have sf426 := R423.safe (V300.ext X417).lt sf422
        show Own.Go _ _ _ _ _ 238 #[.val (.int p0), .val (.int p1), .val (.int p2), .val (.int p3), .val (.long p4), .second, .val (.int ((p0 &&& (255 : Int32)).toUInt32.toUInt16.toUInt32.toInt32)), .val (.int ((p1 &&& (255 : Int32)).toUInt32.toUInt16.toUInt32.toInt32)), .val (.int ((p2 &&& (255 : Int32)).toUInt32.toUInt16.toUInt32.toInt32)), .val (.int (1 : Int32)), .val (.int (1 : Int32)), .val (.ref o285), .val (.ref o286), .val (.ref o289), .val (.ref o294), .val (.ref o366), .val (.ref o380), .val (.ref o386), .val (.int (2 : Int32))] [(.int (47 : Int32))]
        refine Own.bipush W423 at_238 240 rfl (47 : Int32) rfl ?_
        refine Own.icmpYes W423 at_240 245 (by decide) (by decide) (by decide) ?_
        refine Own.iload W423 at_245 247 rfl (1 : Int32) rfl ?_
        refine Own.iconst W423 at_247 248 rfl (1 : Int32) rfl ?_
        refine Own.icmpNo W423 at_248 251 (by decide) rfl ?_
        refine Own.aload W423 at_251 253 rfl (.ref o386) rfl rfl ?_
        refine Own.iload W423 at_253 255 rfl (2 : Int32) rfl ?_
        refine Own.callV W423 (tw hw 168 rfl) (tw hw 169 rfl) (fun s q => notFace_of_selects (args := #[]) (mvT (s := s) q (tw hw 171 rfl))) (tw hw 171 rfl) (tw hw 170 rfl) (by decide) (argsL := [(.int (2 : Int32))]) (rest := []) (Own.payChr (wC hw) (kI := 4) (tw hw 2 rfl) W423 Z386 hS hcz SF rfm (i := 2) (Nat.le_of_ble_eq_true rfl) rfl (len := 3) (wd := 0) (by decide) (by decide)) ZX386 rfl (lenOf pd_19 rfl) rfl (Nat.le_of_ble_eq_true rfl) at_255 258 rfl 18 82 (Nat.le_of_ble_eq_true rfl) (Nat.le_of_ble_eq_true rfl) (Nat.le_of_ble_eq_true rfl) (Nat.le_of_ble_eq_true rfl) ?_
        intro v427 T427 h427 u427 W427 R427 hq
        obtain ⟨rfl, eh427⟩ := hq
        have ei427 := eh427.symm; subst ei427
        have sf428 := R427.safe (V285.ext X401).lt sf424
        have sf429 := R427.safe (V293.ext X411).lt sf425
        have sf430 := R427.safe (V300.ext X417).lt sf426
        show Own.Go _ _ _ _ _ 258 #[.val (.int p0), .val (.int p1), .val (.int p2), .val (.int p3), .val (.long p4), .second, .val (.int ((p0 &&& (255 : Int32)).toUInt32.toUInt16.toUInt32.toInt32)), .val (.int ((p1 &&& (255 : Int32)).toUInt32.toUInt16.toUInt32.toInt32)), .val (.int ((p2 &&& (255 : Int32)).toUInt32.toUInt16.toUInt32.toInt32)), .val (.int (1 : Int32)), .val (.int (1 : Int32)), .val (.ref o285), .val (.ref o286), .val (.ref o289), .val (.ref o294), .val (.ref o366), .val (.ref o380), .val (.ref o386), .val (.int (2 : Int32))] [(.int ((p0 &&& (255 : Int32)).toUInt32.toUInt16.toUInt32.toInt32))]
        refine Own.iload W427 at_258 260 rfl ((p0 &&& (255 : Int32)).toUInt32.toUInt16.toUInt32.toInt32) rfl ?_
        refine Own.icmpYes W427 at_260 265 (XT.ii_eq_t rfl) (by decide) (by decide) ?_
        refine Own.iload W427 at_265 267 rfl (1 : Int32) rfl ?_
        refine Own.iconst W427 at_267 268 rfl (2 : Int32) rfl ?_
        refine Own.icmpYes W427 at_268 287 (by decide) (by decide) (by decide) ?_
        refine Own.iload W427 at_287 289 rfl (1 : Int32) rfl ?_
        refine Own.iconst W427 at_289 290 rfl (3 : Int32) rfl ?_
        refine Own.icmpYes W427 at_290 309 (by decide) (by decide) (by decide) ?_
        refine Own.aload W427 at_309 311 rfl (.ref o386) rfl rfl ?_
        refine Own.iload W427 at_311 313 rfl (2 : Int32) rfl ?_
        refine Own.iload W427 at_313 315 rfl (1 : Int32) rfl ?_
        refine Own.iadd W427 at_315 316 rfl ?_
        refine Own.callV W427 (tw hw 168 rfl) (tw hw 169 rfl) (fun s q => notFace_of_selects (args := #[]) (mvT (s := s) q (tw hw 171 rfl))) (tw hw 171 rfl) (tw hw 170 rfl) (by decide) (argsL := [(.int (3 : Int32))]) (rest := []) (Own.payChr (wC hw) (kI := 4) (tw hw 2 rfl) W427 Z386 hS hcz SF rfm (i := 3) (Nat.le_of_ble_eq_true rfl) rfl (len := 3) (wd := 0) (by decide) (by decide)) ZX386 rfl (lenOf pd_19 rfl) rfl (Nat.le_of_ble_eq_true rfl) at_316 319 rfl 18 82 (Nat.le_of_ble_eq_true rfl) (Nat.le_of_ble_eq_true rfl) (Nat.le_of_ble_eq_true rfl) (Nat.le_of_ble_eq_true rfl) ?_
        intro v431 T431 h431 u431 W431 R431 hq
        obtain ⟨rfl, eh431⟩ := hq
        have ei431 := eh431.symm; subst ei431
        have sf432 := R431.safe (V285.ext X401).lt sf428
        have sf433 := R431.safe (V293.ext X411).lt sf429
        have sf434 := R431.safe (V300.ext X417).lt sf430
        show Own.Go _ _ _ _ _ 319 #[.val (.int p0), .val (.int p1), .val (.int p2), .val (.int p3), .val (.long p4), .second, .val (.int ((p0 &&& (255 : Int32)).toUInt32.toUInt16.toUInt32.toInt32)), .val (.int ((p1 &&& (255 : Int32)).toUInt32.toUInt16.toUInt32.toInt32)), .val (.int ((p2 &&& (255 : Int32)).toUInt32.toUInt16.toUInt32.toInt32)), .val (.int (1 : Int32)), .val (.int (1 : Int32)), .val (.ref o285), .val (.ref o286), .val (.ref o289), .val (.ref o294), .val (.ref o366), .val (.ref o380), .val (.ref o386), .val (.int (2 : Int32))] [(.int (62 : Int32))]
        refine Own.bipush W431 at_319 321 rfl (62 : Int32) rfl ?_
        refine Own.icmpNo W431 at_321 324 (by decide) rfl ?_
        refine Own.iconst W431 at_324 325 rfl (1 : Int32) rfl ?_
        refine Own.goto W431 at_325 329 (by decide) (by decide) ?_
        exact Own.retB W431 (by decide) (by decide) rfl at_329 rfl rfl
      · skip
        refine Own.icmpYes W300 at_114 129 (XT.ii_ne_t e1) (by decide) (by decide) ?_
        refine Own.iload W300 at_129 131 rfl (p3 &&& (3 : Int32)) rfl ?_
        refine Own.iconst W300 at_131 132 rfl (2 : Int32) rfl ?_
        by_cases e2 : (p3 &&& (3 : Int32)) = (2 : Int32)
        · skip
          refine Own.icmpNo W300 at_132 135 (XT.ii_ne_f e2) rfl ?_
          refine Own.newO W300 (tw hw 1 rfl) (tw hw 2 rfl) (tw hw 3 rfl) at_135 138 rfl 5 10 (by decide) (by decide) (by decide) (by decide) ?_
          intro T435 h435 o435 g435 W435 E435 A435 D435 s435 k435
          have F435_coder : Fld G.Z h435 o435 "java/lang/String" "coder" "B" (.int (0 : Int32)) := D435 (Or.inr (tw hw 27 rfl)) (ty := .byte) (by decide)
          have F435_value : Fld G.Z h435 o435 "java/lang/String" "value" "[B" .null := D435 (Or.inr (tw hw 29 rfl)) (ty := (.array .byte)) (by decide)
          refine Own.dup W435 at_138 139 rfl rfl ?_
          refine Own.aload W435 at_139 141 rfl (.ref o289) rfl rfl ?_
          have X436 : Ext h h294 := Own.Ext.tr X298 E294
          have X437 : Ext h h295 := Own.Ext.wr' X436 Q295 (Nat.le_trans X298.1 (Nat.le_of_eq g294.symm))
          have X438 : Ext h h299 := Own.Ext.wr' X437 Q299 (Nat.le_trans X298.1 (Nat.le_of_eq g294.symm))
          have X439 : Ext h h300 := Own.Ext.wr' X438 Q300 (Nat.le_trans X298.1 (Nat.le_of_eq g294.symm))
          have X440 : Ext h293 h294 := E294
          have X441 : Ext h293 h295 := Own.Ext.wr' X440 Q295 (Nat.le_of_eq g294.symm)
          have X442 : Ext h293 h299 := Own.Ext.wr' X441 Q299 (Nat.le_of_eq g294.symm)
          have X443 : Ext h293 h300 := Own.Ext.wr' X442 Q300 (Nat.le_of_eq g294.symm)
          have X444 : Ext h293 h435 := Own.Ext.tr X443 E435
          refine Own.callX W435 rfl (tw hw 4 rfl) (tw hw 5 rfl) (tw hw 6 rfl) (by decide) (argsL := [(.ref o289)]) (rest := [(.ref o435)]) (Own.payStr (wS hw) hEL hmem W435 (cs := [((p0 &&& (255 : Int32)).toUInt32.toUInt16.toUInt32.toInt32), ((p1 &&& (255 : Int32)).toUInt32.toUInt16.toUInt32.toInt32)]) (z := (2 : Int32)) (cz := cz) (Nat.le_trans W0.n0 (Nat.le_trans X439.1 (Nat.le_of_eq g435.symm))) s435 A435 F435_value F435_coder ((V293.ext X444)) rfl (by intro c hc; simp only [List.mem_cons, List.not_mem_nil, or_false] at hc; rcases hc with rfl | rfl <;> exact Own.lo_rng _) (Nat.le_of_ble_eq_true rfl) hS hcz (len := 3) (wd := 1) (by decide) (by decide)) rfl (lenOf pd_17 rfl) rfl (Nat.le_of_ble_eq_true rfl) at_141 144 rfl 9 20 (Nat.le_of_ble_eq_true rfl) (Nat.le_of_ble_eq_true rfl) (Nat.le_of_ble_eq_true rfl) (Nat.le_of_ble_eq_true rfl) ?_
          intro v445 T445 h445 u445 W445 R445 hq
          obtain ⟨rfl, K445, F445⟩ := hq
          show Own.Go _ _ _ _ _ 144 #[.val (.int p0), .val (.int p1), .val (.int p2), .val (.int p3), .val (.long p4), .second, .val (.int ((p0 &&& (255 : Int32)).toUInt32.toUInt16.toUInt32.toInt32)), .val (.int ((p1 &&& (255 : Int32)).toUInt32.toUInt16.toUInt32.toInt32)), .val (.int ((p2 &&& (255 : Int32)).toUInt32.toUInt16.toUInt32.toInt32)), .val (.int (p3 &&& (3 : Int32))), .val (.int (1 : Int32)), .val (.ref o285), .val (.ref o286), .val (.ref o289), .val (.ref o294), .unset, .unset, .unset, .unset] [(.ref o435)]
          refine Own.goto W445 at_144 156 (by decide) (by decide) ?_
          rw [e2]
          show Own.Go _ _ _ _ _ 156 #[.val (.int p0), .val (.int p1), .val (.int p2), .val (.int p3), .val (.long p4), .second, .val (.int ((p0 &&& (255 : Int32)).toUInt32.toUInt16.toUInt32.toInt32)), .val (.int ((p1 &&& (255 : Int32)).toUInt32.toUInt16.toUInt32.toInt32)), .val (.int ((p2 &&& (255 : Int32)).toUInt32.toUInt16.toUInt32.toInt32)), .val (.int (2 : Int32)), .val (.int (1 : Int32)), .val (.ref o285), .val (.ref o286), .val (.ref o289), .val (.ref o294), .unset, .unset, .unset, .unset] [(.ref o435)]
          refine Own.astore W445 at_156 158 rfl rfl #[.val (.int p0), .val (.int p1), .val (.int p2), .val (.int p3), .val (.long p4), .second, .val (.int ((p0 &&& (255 : Int32)).toUInt32.toUInt16.toUInt32.toInt32)), .val (.int ((p1 &&& (255 : Int32)).toUInt32.toUInt16.toUInt32.toInt32)), .val (.int ((p2 &&& (255 : Int32)).toUInt32.toUInt16.toUInt32.toInt32)), .val (.int (2 : Int32)), .val (.int (1 : Int32)), .val (.ref o285), .val (.ref o286), .val (.ref o289), .val (.ref o294), .val (.ref o435), .unset, .unset, .unset] rfl ?_
          refine Own.newO W445 (tw hw 30 rfl) (tw hw 31 rfl) (tw hw 32 rfl) at_158 161 rfl 10 23 (by decide) (by decide) (by decide) (by decide) ?_
          intro T446 h446 o446 g446 W446 E446 A446 D446 s446 k446
          have F446_name : Fld G.Z h446 o446 "com/example/lopa/lopa/trec/SgmlScanner$Tag" "name" "Ljava/lang/String;" .null := D446 (Or.inr (tw hw 43 rfl)) (ty := (.object "java/lang/String")) (by decide)
          have F446_closing : Fld G.Z h446 o446 "com/example/lopa/lopa/trec/SgmlScanner$Tag" "closing" "Z" (.int (0 : Int32)) := D446 (Or.inr (tw hw 45 rfl)) (ty := .boolean) (by decide)
          have F446_line : Fld G.Z h446 o446 "com/example/lopa/lopa/trec/SgmlScanner$Tag" "line" "J" (.long (0 : Int64)) := D446 (Or.inr (tw hw 47 rfl)) (ty := .long) (by decide)
          refine Own.dup W446 at_161 162 rfl rfl ?_
          refine Own.aload W446 at_162 164 rfl (.ref o435) rfl rfl ?_
          refine Own.iload W446 at_164 166 rfl (1 : Int32) rfl ?_
          refine Own.lload W446 at_166 168 rfl p4 rfl ?_
          have X447 : Ext h h435 := Own.Ext.tr X439 E435
          have X448 : Ext h h445 := Own.Ext.kp X447 K445 (allS (Nat.le_trans X439.1 (Nat.le_of_eq g435.symm)) all0)
          refine Own.callX W446 rfl (tw hw 33 rfl) (tw hw 34 rfl) (tw hw 35 rfl) (by decide) (argsL := [(.ref o435), (.int (1 : Int32)), (.long p4)]) (rest := [(.ref o446)]) (Own.Con.pay (con_tag hw hEL o435 p4 rfl rfl W446.old (Nat.le_trans W0.n0 (Nat.le_trans X448.1 (Nat.le_of_eq g446.symm))) A446 F446_name F446_closing F446_line) W446 (tw hw 35 rfl) (tw hw 32 rfl) (len := 3) (wd := 1) (by decide) (by decide) (fun _ q => nomatch q)) rfl (lenOf pd_18 rfl) rfl (Nat.le_of_ble_eq_true rfl) at_168 171 rfl 10 23 (Nat.le_of_ble_eq_true rfl) (Nat.le_of_ble_eq_true rfl) (Nat.le_of_ble_eq_true rfl) (Nat.le_of_ble_eq_true rfl) ?_
          intro v449 T449 h449 u449 W449 R449 hq
          obtain ⟨rfl, K449, E449, Fn449, Fc449⟩ := hq
          show Own.Go _ _ _ _ _ 171 #[.val (.int p0), .val (.int p1), .val (.int p2), .val (.int p3), .val (.long p4), .second, .val (.int ((p0 &&& (255 : Int32)).toUInt32.toUInt16.toUInt32.toInt32)), .val (.int ((p1 &&& (255 : Int32)).toUInt32.toUInt16.toUInt32.toInt32)), .val (.int ((p2 &&& (255 : Int32)).toUInt32.toUInt16.toUInt32.toInt32)), .val (.int (2 : Int32)), .val (.int (1 : Int32)), .val (.ref o285), .val (.ref o286), .val (.ref o289), .val (.ref o294), .val (.ref o435), .unset, .unset, .unset] [(.ref o446)]
          refine Own.astore W449 at_171 173 rfl rfl #[.val (.int p0), .val (.int p1), .val (.int p2), .val (.int p3), .val (.long p4), .second, .val (.int ((p0 &&& (255 : Int32)).toUInt32.toUInt16.toUInt32.toInt32)), .val (.int ((p1 &&& (255 : Int32)).toUInt32.toUInt16.toUInt32.toInt32)), .val (.int ((p2 &&& (255 : Int32)).toUInt32.toUInt16.toUInt32.toInt32)), .val (.int (2 : Int32)), .val (.int (1 : Int32)), .val (.ref o285), .val (.ref o286), .val (.ref o289), .val (.ref o294), .val (.ref o435), .val (.ref o446), .unset, .unset] rfl ?_
          refine Own.aload W449 at_173 175 rfl (.ref o446) rfl rfl ?_
          have X450 : Ext h445 h446 := E446
          have X451 : Ext h445 h449 := Own.Ext.kp X450 K449 (allS (Nat.le_of_eq g446.symm) all0)
          refine Own.callV W449 (tw hw 48 rfl) (tw hw 49 rfl) (fun s q => notFace_of_selects (args := #[]) (mvT (s := s) q (tw hw 51 rfl))) (tw hw 51 rfl) (tw hw 50 rfl) (by decide) (argsL := []) (rest := []) (Own.Con.pay (con_tst1 hw hEL hmem hS hcz hE hEN (cs := [((p0 &&& (255 : Int32)).toUInt32.toUInt16.toUInt32.toInt32), ((p1 &&& (255 : Int32)).toUInt32.toUInt16.toUInt32.toInt32)]) (Nat.le_of_ble_eq_true rfl) W449.old Fn449 Fc449 (F445.ext X451)) W449 (tw hw 52 rfl) (tw hw 32 rfl) (len := 3) (wd := 0) (by decide) (by decide) (fun _ q => nomatch q)) E449 rfl (lenOf pd_16 rfl) rfl (Nat.le_of_ble_eq_true rfl) at_175 178 rfl 18 83 (Nat.le_of_ble_eq_true rfl) (Nat.le_of_ble_eq_true rfl) (Nat.le_of_ble_eq_true rfl) (Nat.le_of_ble_eq_true rfl) ?_
          intro v452 T452 h452 u452 W452 R452 hq
          obtain ⟨o452, rfl, E452, g452, S452⟩ := hq
          have Z452 : Own.Str G.Z h452 o452 [(60 : Int32), (47 : Int32), ((p0 &&& (255 : Int32)).toUInt32.toUInt16.toUInt32.toInt32), ((p1 &&& (255 : Int32)).toUInt32.toUInt16.toUInt32.toInt32), (62 : Int32)] := S452
          have ZX452 := Z452.exa
          show Own.Go _ _ _ _ _ 178 #[.val (.int p0), .val (.int p1), .val (.int p2), .val (.int p3), .val (.long p4), .second, .val (.int ((p0 &&& (255 : Int32)).toUInt32.toUInt16.toUInt32.toInt32)), .val (.int ((p1 &&& (255 : Int32)).toUInt32.toUInt16.toUInt32.toInt32)), .val (.int ((p2 &&& (255 : Int32)).toUInt32.toUInt16.toUInt32.toInt32)), .val (.int (2 : Int32)), .val (.int (1 : Int32)), .val (.ref o285), .val (.ref o286), .val (.ref o289), .val (.ref o294), .val (.ref o435), .val (.ref o446), .unset, .unset] [(.ref o452)]
          refine Own.astore W452 at_178 180 rfl rfl #[.val (.int p0), .val (.int p1), .val (.int p2), .val (.int p3), .val (.long p4), .second, .val (.int ((p0 &&& (255 : Int32)).toUInt32.toUInt16.toUInt32.toInt32)), .val (.int ((p1 &&& (255 : Int32)).toUInt32.toUInt16.toUInt32.toInt32)), .val (.int ((p2 &&& (255 : Int32)).toUInt32.toUInt16.toUInt32.toInt32)), .val (.int (2 : Int32)), .val (.int (1 : Int32)), .val (.ref o285), .val (.ref o286), .val (.ref o289), .val (.ref o294), .val (.ref o435), .val (.ref o446), .val (.ref o452), .unset] rfl ?_
          refine Own.iload W452 at_180 182 rfl (1 : Int32) rfl ?_
          refine Own.ifNo W452 at_182 185 (by decide) rfl ?_
          refine Own.iconst W452 at_185 186 rfl (2 : Int32) rfl ?_
          refine Own.goto W452 at_186 190 (by decide) (by decide) ?_
          refine Own.istore W452 at_190 192 rfl #[.val (.int p0), .val (.int p1), .val (.int p2), .val (.int p3), .val (.long p4), .second, .val (.int ((p0 &&& (255 : Int32)).toUInt32.toUInt16.toUInt32.toInt32)), .val (.int ((p1 &&& (255 : Int32)).toUInt32.toUInt16.toUInt32.toInt32)), .val (.int ((p2 &&& (255 : Int32)).toUInt32.toUInt16.toUInt32.toInt32)), .val (.int (2 : Int32)), .val (.int (1 : Int32)), .val (.ref o285), .val (.ref o286), .val (.ref o289), .val (.ref o294), .val (.ref o435), .val (.ref o446), .val (.ref o452), .val (.int (2 : Int32))] rfl ?_
          refine Own.aload W452 at_192 194 rfl (.ref o452) rfl rfl ?_
          refine Own.ifnullNo W452 at_194 197 rfl ?_
          refine Own.aload W452 at_197 199 rfl (.ref o452) rfl rfl ?_
          refine Own.callV W452 (tw hw 167 rfl) (tw hw 85 rfl) (fun s q => notFace_of_selects (args := #[]) (mvT (s := s) q (tw hw 87 rfl))) (tw hw 87 rfl) (tw hw 86 rfl) (by decide) (argsL := []) (rest := []) (Own.payLen (wL hw) (kI := 4) (tw hw 2 rfl) W452 Z452 hS hcz (len := 3) (wd := 0) (by decide) (by decide)) ZX452 rfl (lenOf pd_4 rfl) rfl (Nat.le_of_ble_eq_true rfl) at_199 202 rfl 18 83 (Nat.le_of_ble_eq_true rfl) (Nat.le_of_ble_eq_true rfl) (Nat.le_of_ble_eq_true rfl) (Nat.le_of_ble_eq_true rfl) ?_
          intro v453 T453 h453 u453 W453 R453 hq
          obtain ⟨rfl, eh453⟩ := hq
          have ei453 := eh453.symm; subst ei453
          have X454 : Ext h285 h286 := E286
          have X455 : Ext h285 h287 := Own.Ext.wr' X454 Q287 (Nat.le_of_eq g286.symm)
          have X456 : Ext h285 h289 := Own.Ext.tr X455 E289
          have X457 : Ext h285 h290 := Own.Ext.wr' X456 Q290 (Nat.le_trans X455.1 (Nat.le_of_eq g289.symm))
          have X458 : Ext h285 h293 := Own.Ext.wr' X457 Q293 (Nat.le_trans X455.1 (Nat.le_of_eq g289.symm))
          have X459 : Ext h285 h294 := Own.Ext.tr X458 E294
          have X460 : Ext h285 h295 := Own.Ext.wr' X459 Q295 (Nat.le_trans X458.1 (Nat.le_of_eq g294.symm))
          have X461 : Ext h285 h299 := Own.Ext.wr' X460 Q299 (Nat.le_trans X458.1 (Nat.le_of_eq g294.symm))
          have X462 : Ext h285 h300 := Own.Ext.wr' X461 Q300 (Nat.le_trans X458.1 (Nat.le_of_eq g294.symm))
          have X463 : Ext h285 h435 := Own.Ext.tr X462 E435
          have X464 : Ext h285 h445 := Own.Ext.kp X463 K445 (allS (Nat.le_trans X462.1 (Nat.le_of_eq g435.symm)) all0)
          have X465 : Ext h285 h446 := Own.Ext.tr X464 E446
          have X466 : Ext h285 h449 := Own.Ext.kp X465 K449 (allS (Nat.le_trans X464.1 (Nat.le_of_eq g446.symm)) all0)
          have X467 : Ext h285 h452 := Own.Ext.tr X466 E452
          have sf468 := R453.safe (V285.ext X467).lt (R452.safe (V285.ext X466).lt (R449.safe (V285.ext X465).lt (k446 o285 (R445.safe (V285.ext X463).lt (k435 o285 (k300 o285 (k299 o285 (k295 o285 (k294 o285 (k293 o285 (k290 o285 (k289 o285 (k287 o285 (k286 o285 s285))))))))))))))
          have X469 : Ext h287 h289 := E289
          have X470 : Ext h287 h290 := Own.Ext.wr' X469 Q290 (Nat.le_of_eq g289.symm)
          have X471 : Ext h287 h293 := Own.Ext.wr' X470 Q293 (Nat.le_of_eq g289.symm)
          have X472 : Ext h287 h294 := Own.Ext.tr X471 E294
          have X473 : Ext h287 h295 := Own.Ext.wr' X472 Q295 (Nat.le_trans X471.1 (Nat.le_of_eq g294.symm))
          have X474 : Ext h287 h299 := Own.Ext.wr' X473 Q299 (Nat.le_trans X471.1 (Nat.le_of_eq g294.symm))
          have X475 : Ext h287 h300 := Own.Ext.wr' X474 Q300 (Nat.le_trans X471.1 (Nat.le_of_eq g294.symm))
          have X476 : Ext h287 h435 := Own.Ext.tr X475 E435
          have X477 : Ext h287 h445 := Own.Ext.kp X476 K445 (allS (Nat.le_trans X475.1 (Nat.le_of_eq g435.symm)) all0)
          have X478 : Ext h287 h446 := Own.Ext.tr X477 E446
          have X479 : Ext h287 h449 := Own.Ext.kp X478 K449 (allS (Nat.le_trans X477.1 (Nat.le_of_eq g446.symm)) all0)
          have X480 : Ext h287 h452 := Own.Ext.tr X479 E452
          have sf481 := R453.safe (V287.ext X480).lt (R452.safe (V287.ext X479).lt (R449.safe (V287.ext X478).lt (k446 o286 (R445.safe (V287.ext X476).lt (k435 o286 (k300 o286 (k299 o286 (k295 o286 (k294 o286 (k293 o286 (k290 o286 (k289 o286 (k287 o286 s286)))))))))))))
          have X482 : Ext h300 h435 := E435
          have X483 : Ext h300 h445 := Own.Ext.kp X482 K445 (allS (Nat.le_of_eq g435.symm) all0)
          have X484 : Ext h300 h446 := Own.Ext.tr X483 E446
          have X485 : Ext h300 h449 := Own.Ext.kp X484 K449 (allS (Nat.le_trans X483.1 (Nat.le_of_eq g446.symm)) all0)
          have X486 : Ext h300 h452 := Own.Ext.tr X485 E452
          have sf487 := R453.safe (V300.ext X486).lt (R452.safe (V300.ext X485).lt (R449.safe (V300.ext X484).lt (k446 o294 (R445.safe (V300.ext X482).lt (k435 o294 (k300 o294 (k299 o294 (k295 o294 s294))))))))
          show Own.Go _ _ _ _ _ 202 #[.val (.int p0), .val (.int p1), .val (.int p2), .val (.int p3), .val (.long p4), .second, .val (.int ((p0 &&& (255 : Int32)).toUInt32.toUInt16.toUInt32.toInt32)), .val (.int ((p1 &&& (255 : Int32)).toUInt32.toUInt16.toUInt32.toInt32)), .val (.int ((p2 &&& (255 : Int32)).toUInt32.toUInt16.toUInt32.toInt32)), .val (.int (2 : Int32)), .val (.int (1 : Int32)), .val (.ref o285), .val (.ref o286), .val (.ref o289), .val (.ref o294), .val (.ref o435), .val (.ref o446), .val (.ref o452), .val (.int (2 : Int32))] [(.int (5 : Int32))]
          refine Own.iload W453 at_202 204 rfl (2 : Int32) rfl ?_
          refine Own.iload W453 at_204 206 rfl (2 : Int32) rfl ?_
          refine Own.iadd W453 at_206 207 rfl ?_
          refine Own.iconst W453 at_207 208 rfl (1 : Int32) rfl ?_
          refine Own.iadd W453 at_208 209 rfl ?_
          refine Own.icmpYes W453 at_209 214 (by decide) (by decide) (by decide) ?_
          refine Own.aload W453 at_214 216 rfl (.ref o452) rfl rfl ?_
          refine Own.iconst W453 at_216 217 rfl (0 : Int32) rfl ?_
          refine Own.callV W453 (tw hw 168 rfl) (tw hw 169 rfl) (fun s q => notFace_of_selects (args := #[]) (mvT (s := s) q (tw hw 171 rfl))) (tw hw 171 rfl) (tw hw 170 rfl) (by decide) (argsL := [(.int (0 : Int32))]) (rest := []) (Own.payChr (wC hw) (kI := 4) (tw hw 2 rfl) W453 Z452 hS hcz SF rfm (i := 0) (Nat.le_of_ble_eq_true rfl) rfl (len := 3) (wd := 0) (by decide) (by decide)) ZX452 rfl (lenOf pd_19 rfl) rfl (Nat.le_of_ble_eq_true rfl) at_217 220 rfl 18 83 (Nat.le_of_ble_eq_true rfl) (Nat.le_of_ble_eq_true rfl) (Nat.le_of_ble_eq_true rfl) (Nat.le_of_ble_eq_true rfl) ?_
          intro v488 T488 h488 u488 W488 R488 hq
          obtain ⟨rfl, eh488⟩ := hq
          have ei488 := eh488.symm; subst ei488
          have sf489 := R488.safe (V285.ext X467).lt sf468
          have sf490 := R488.safe (V287.ext X480).lt sf481
          have sf491 := R488.safe (V300.ext X486).lt sf487
          show Own.Go _ _ _ _ _ 220 #[.val (.int p0), .val (.int p1), .val (.int p2), .val (.int p3), .val (.long p4), .second, .val (.int ((p0 &&& (255 : Int32)).toUInt32.toUInt16.toUInt32.toInt32)), .val (.int ((p1 &&& (255 : Int32)).toUInt32.toUInt16.toUInt32.toInt32)), .val (.int ((p2 &&& (255 : Int32)).toUInt32.toUInt16.toUInt32.toInt32)), .val (.int (2 : Int32)), .val (.int (1 : Int32)), .val (.ref o285), .val (.ref o286), .val (.ref o289), .val (.ref o294), .val (.ref o435), .val (.ref o446), .val (.ref o452), .val (.int (2 : Int32))] [(.int (60 : Int32))]
          refine Own.bipush W488 at_220 222 rfl (60 : Int32) rfl ?_
          refine Own.icmpYes W488 at_222 227 (by decide) (by decide) (by decide) ?_
          refine Own.iload W488 at_227 229 rfl (1 : Int32) rfl ?_
          refine Own.ifNo W488 at_229 232 (by decide) rfl ?_
          refine Own.aload W488 at_232 234 rfl (.ref o452) rfl rfl ?_
          refine Own.iconst W488 at_234 235 rfl (1 : Int32) rfl ?_
          refine Own.callV W488 (tw hw 168 rfl) (tw hw 169 rfl) (fun s q => notFace_of_selects (args := #[]) (mvT (s := s) q (tw hw 171 rfl))) (tw hw 171 rfl) (tw hw 170 rfl) (by decide) (argsL := [(.int (1 : Int32))]) (rest := []) (Own.payChr (wC hw) (kI := 4) (tw hw 2 rfl) W488 Z452 hS hcz SF rfm (i := 1) (Nat.le_of_ble_eq_true rfl) rfl (len := 3) (wd := 0) (by decide) (by decide)) ZX452 rfl (lenOf pd_19 rfl) rfl (Nat.le_of_ble_eq_true rfl) at_235 238 rfl 18 83 (Nat.le_of_ble_eq_true rfl) (Nat.le_of_ble_eq_true rfl) (Nat.le_of_ble_eq_true rfl) (Nat.le_of_ble_eq_true rfl) ?_
          intro v492 T492 h492 u492 W492 R492 hq
          obtain ⟨rfl, eh492⟩ := hq
          have ei492 := eh492.symm; subst ei492
          have sf493 := R492.safe (V285.ext X467).lt sf489
          have sf494 := R492.safe (V287.ext X480).lt sf490
          have sf495 := R492.safe (V300.ext X486).lt sf491
          show Own.Go _ _ _ _ _ 238 #[.val (.int p0), .val (.int p1), .val (.int p2), .val (.int p3), .val (.long p4), .second, .val (.int ((p0 &&& (255 : Int32)).toUInt32.toUInt16.toUInt32.toInt32)), .val (.int ((p1 &&& (255 : Int32)).toUInt32.toUInt16.toUInt32.toInt32)), .val (.int ((p2 &&& (255 : Int32)).toUInt32.toUInt16.toUInt32.toInt32)), .val (.int (2 : Int32)), .val (.int (1 : Int32)), .val (.ref o285), .val (.ref o286), .val (.ref o289), .val (.ref o294), .val (.ref o435), .val (.ref o446), .val (.ref o452), .val (.int (2 : Int32))] [(.int (47 : Int32))]
          refine Own.bipush W492 at_238 240 rfl (47 : Int32) rfl ?_
          refine Own.icmpYes W492 at_240 245 (by decide) (by decide) (by decide) ?_
          refine Own.iload W492 at_245 247 rfl (2 : Int32) rfl ?_
          refine Own.iconst W492 at_247 248 rfl (1 : Int32) rfl ?_
          refine Own.icmpNo W492 at_248 251 (by decide) rfl ?_
          refine Own.aload W492 at_251 253 rfl (.ref o452) rfl rfl ?_
          refine Own.iload W492 at_253 255 rfl (2 : Int32) rfl ?_
          refine Own.callV W492 (tw hw 168 rfl) (tw hw 169 rfl) (fun s q => notFace_of_selects (args := #[]) (mvT (s := s) q (tw hw 171 rfl))) (tw hw 171 rfl) (tw hw 170 rfl) (by decide) (argsL := [(.int (2 : Int32))]) (rest := []) (Own.payChr (wC hw) (kI := 4) (tw hw 2 rfl) W492 Z452 hS hcz SF rfm (i := 2) (Nat.le_of_ble_eq_true rfl) rfl (len := 3) (wd := 0) (by decide) (by decide)) ZX452 rfl (lenOf pd_19 rfl) rfl (Nat.le_of_ble_eq_true rfl) at_255 258 rfl 18 83 (Nat.le_of_ble_eq_true rfl) (Nat.le_of_ble_eq_true rfl) (Nat.le_of_ble_eq_true rfl) (Nat.le_of_ble_eq_true rfl) ?_
          intro v496 T496 h496 u496 W496 R496 hq
          obtain ⟨rfl, eh496⟩ := hq
          have ei496 := eh496.symm; subst ei496
          have sf497 := R496.safe (V285.ext X467).lt sf493
          have sf498 := R496.safe (V287.ext X480).lt sf494
          have sf499 := R496.safe (V300.ext X486).lt sf495
          show Own.Go _ _ _ _ _ 258 #[.val (.int p0), .val (.int p1), .val (.int p2), .val (.int p3), .val (.long p4), .second, .val (.int ((p0 &&& (255 : Int32)).toUInt32.toUInt16.toUInt32.toInt32)), .val (.int ((p1 &&& (255 : Int32)).toUInt32.toUInt16.toUInt32.toInt32)), .val (.int ((p2 &&& (255 : Int32)).toUInt32.toUInt16.toUInt32.toInt32)), .val (.int (2 : Int32)), .val (.int (1 : Int32)), .val (.ref o285), .val (.ref o286), .val (.ref o289), .val (.ref o294), .val (.ref o435), .val (.ref o446), .val (.ref o452), .val (.int (2 : Int32))] [(.int ((p0 &&& (255 : Int32)).toUInt32.toUInt16.toUInt32.toInt32))]
          refine Own.iload W496 at_258 260 rfl ((p0 &&& (255 : Int32)).toUInt32.toUInt16.toUInt32.toInt32) rfl ?_
          refine Own.icmpYes W496 at_260 265 (XT.ii_eq_t rfl) (by decide) (by decide) ?_
          refine Own.iload W496 at_265 267 rfl (2 : Int32) rfl ?_
          refine Own.iconst W496 at_267 268 rfl (2 : Int32) rfl ?_
          refine Own.icmpNo W496 at_268 271 (by decide) rfl ?_
          refine Own.aload W496 at_271 273 rfl (.ref o452) rfl rfl ?_
          refine Own.iload W496 at_273 275 rfl (2 : Int32) rfl ?_
          refine Own.iconst W496 at_275 276 rfl (1 : Int32) rfl ?_
          refine Own.iadd W496 at_276 277 rfl ?_
          refine Own.callV W496 (tw hw 168 rfl) (tw hw 169 rfl) (fun s q => notFace_of_selects (args := #[]) (mvT (s := s) q (tw hw 171 rfl))) (tw hw 171 rfl) (tw hw 170 rfl) (by decide) (argsL := [(.int (3 : Int32))]) (rest := []) (Own.payChr (wC hw) (kI := 4) (tw hw 2 rfl) W496 Z452 hS hcz SF rfm (i := 3) (Nat.le_of_ble_eq_true rfl) rfl (len := 3) (wd := 0) (by decide) (by decide)) ZX452 rfl (lenOf pd_19 rfl) rfl (Nat.le_of_ble_eq_true rfl) at_277 280 rfl 18 83 (Nat.le_of_ble_eq_true rfl) (Nat.le_of_ble_eq_true rfl) (Nat.le_of_ble_eq_true rfl) (Nat.le_of_ble_eq_true rfl) ?_
          intro v500 T500 h500 u500 W500 R500 hq
          obtain ⟨rfl, eh500⟩ := hq
          have ei500 := eh500.symm; subst ei500
          have sf501 := R500.safe (V285.ext X467).lt sf497
          have sf502 := R500.safe (V287.ext X480).lt sf498
          have sf503 := R500.safe (V300.ext X486).lt sf499
          show Own.Go _ _ _ _ _ 280 #[.val (.int p0), .val (.int p1), .val (.int p2), .val (.int p3), .val (.long p4), .second, .val (.int ((p0 &&& (255 : Int32)).toUInt32.toUInt16.toUInt32.toInt32)), .val (.int ((p1 &&& (255 : Int32)).toUInt32.toUInt16.toUInt32.toInt32)), .val (.int ((p2 &&& (255 : Int32)).toUInt32.toUInt16.toUInt32.toInt32)), .val (.int (2 : Int32)), .val (.int (1 : Int32)), .val (.ref o285), .val (.ref o286), .val (.ref o289), .val (.ref o294), .val (.ref o435), .val (.ref o446), .val (.ref o452), .val (.int (2 : Int32))] [(.int ((p1 &&& (255 : Int32)).toUInt32.toUInt16.toUInt32.toInt32))]
          refine Own.iload W500 at_280 282 rfl ((p1 &&& (255 : Int32)).toUInt32.toUInt16.toUInt32.toInt32) rfl ?_
          refine Own.icmpYes W500 at_282 287 (XT.ii_eq_t rfl) (by decide) (by decide) ?_
          refine Own.iload W500 at_287 289 rfl (2 : Int32) rfl ?_
          refine Own.iconst W500 at_289 290 rfl (3 : Int32) rfl ?_
          refine Own.icmpYes W500 at_290 309 (by decide) (by decide) (by decide) ?_
          refine Own.aload W500 at_309 311 rfl (.ref o452) rfl rfl ?_
          refine Own.iload W500 at_311 313 rfl (2 : Int32) rfl ?_
          refine Own.iload W500 at_313 315 rfl (2 : Int32) rfl ?_
          refine Own.iadd W500 at_315 316 rfl ?_
          refine Own.callV W500 (tw hw 168 rfl) (tw hw 169 rfl) (fun s q => notFace_of_selects (args := #[]) (mvT (s := s) q (tw hw 171 rfl))) (tw hw 171 rfl) (tw hw 170 rfl) (by decide) (argsL := [(.int (4 : Int32))]) (rest := []) (Own.payChr (wC hw) (kI := 4) (tw hw 2 rfl) W500 Z452 hS hcz SF rfm (i := 4) (Nat.le_of_ble_eq_true rfl) rfl (len := 3) (wd := 0) (by decide) (by decide)) ZX452 rfl (lenOf pd_19 rfl) rfl (Nat.le_of_ble_eq_true rfl) at_316 319 rfl 18 83 (Nat.le_of_ble_eq_true rfl) (Nat.le_of_ble_eq_true rfl) (Nat.le_of_ble_eq_true rfl) (Nat.le_of_ble_eq_true rfl) ?_
          intro v504 T504 h504 u504 W504 R504 hq
          obtain ⟨rfl, eh504⟩ := hq
          have ei504 := eh504.symm; subst ei504
          have sf505 := R504.safe (V285.ext X467).lt sf501
          have sf506 := R504.safe (V287.ext X480).lt sf502
          have sf507 := R504.safe (V300.ext X486).lt sf503
          show Own.Go _ _ _ _ _ 319 #[.val (.int p0), .val (.int p1), .val (.int p2), .val (.int p3), .val (.long p4), .second, .val (.int ((p0 &&& (255 : Int32)).toUInt32.toUInt16.toUInt32.toInt32)), .val (.int ((p1 &&& (255 : Int32)).toUInt32.toUInt16.toUInt32.toInt32)), .val (.int ((p2 &&& (255 : Int32)).toUInt32.toUInt16.toUInt32.toInt32)), .val (.int (2 : Int32)), .val (.int (1 : Int32)), .val (.ref o285), .val (.ref o286), .val (.ref o289), .val (.ref o294), .val (.ref o435), .val (.ref o446), .val (.ref o452), .val (.int (2 : Int32))] [(.int (62 : Int32))]
          refine Own.bipush W504 at_319 321 rfl (62 : Int32) rfl ?_
          refine Own.icmpNo W504 at_321 324 (by decide) rfl ?_
          refine Own.iconst W504 at_324 325 rfl (1 : Int32) rfl ?_
          refine Own.goto W504 at_325 329 (by decide) (by decide) ?_
          exact Own.retB W504 (by decide) (by decide) rfl at_329 rfl rfl
        · skip
          refine Own.icmpYes W300 at_132 147 (XT.ii_ne_t e2) (by decide) (by decide) ?_
          have e3 := last3 p3 e0 e1 e2
          refine Own.newO W300 (tw hw 1 rfl) (tw hw 2 rfl) (tw hw 3 rfl) at_147 150 rfl 5 10 (by decide) (by decide) (by decide) (by decide) ?_
          intro T508 h508 o508 g508 W508 E508 A508 D508 s508 k508
          have F508_coder : Fld G.Z h508 o508 "java/lang/String" "coder" "B" (.int (0 : Int32)) := D508 (Or.inr (tw hw 27 rfl)) (ty := .byte) (by decide)
          have F508_value : Fld G.Z h508 o508 "java/lang/String" "value" "[B" .null := D508 (Or.inr (tw hw 29 rfl)) (ty := (.array .byte)) (by decide)
          refine Own.dup W508 at_150 151 rfl rfl ?_
          refine Own.aload W508 at_151 153 rfl (.ref o294) rfl rfl ?_
          have X509 : Ext h h294 := Own.Ext.tr X298 E294
          have X510 : Ext h h295 := Own.Ext.wr' X509 Q295 (Nat.le_trans X298.1 (Nat.le_of_eq g294.symm))
          have X511 : Ext h h299 := Own.Ext.wr' X510 Q299 (Nat.le_trans X298.1 (Nat.le_of_eq g294.symm))
          have X512 : Ext h h300 := Own.Ext.wr' X511 Q300 (Nat.le_trans X298.1 (Nat.le_of_eq g294.symm))
          have X513 : Ext h300 h508 := E508
          refine Own.callX W508 rfl (tw hw 4 rfl) (tw hw 5 rfl) (tw hw 6 rfl) (by decide) (argsL := [(.ref o294)]) (rest := [(.ref o508)]) (Own.payStr (wS hw) hEL hmem W508 (cs := [((p0 &&& (255 : Int32)).toUInt32.toUInt16.toUInt32.toInt32), ((p1 &&& (255 : Int32)).toUInt32.toUInt16.toUInt32.toInt32), ((p2 &&& (255 : Int32)).toUInt32.toUInt16.toUInt32.toInt32)]) (z := (3 : Int32)) (cz := cz) (Nat.le_trans W0.n0 (Nat.le_trans X512.1 (Nat.le_of_eq g508.symm))) s508 A508 F508_value F508_coder ((V300.ext X513)) rfl (by intro c hc; simp only [List.mem_cons, List.not_mem_nil, or_false] at hc; rcases hc with rfl | rfl | rfl <;> exact Own.lo_rng _) (Nat.le_of_ble_eq_true rfl) hS hcz (len := 3) (wd := 1) (by decide) (by decide)) rfl (lenOf pd_17 rfl) rfl (Nat.le_of_ble_eq_true rfl) at_153 156 rfl 9 21 (Nat.le_of_ble_eq_true rfl) (Nat.le_of_ble_eq_true rfl) (Nat.le_of_ble_eq_true rfl) (Nat.le_of_ble_eq_true rfl) ?_
          intro v514 T514 h514 u514 W514 R514 hq
          obtain ⟨rfl, K514, F514⟩ := hq
          show Own.Go _ _ _ _ _ 156 #[.val (.int p0), .val (.int p1), .val (.int p2), .val (.int p3), .val (.long p4), .second, .val (.int ((p0 &&& (255 : Int32)).toUInt32.toUInt16.toUInt32.toInt32)), .val (.int ((p1 &&& (255 : Int32)).toUInt32.toUInt16.toUInt32.toInt32)), .val (.int ((p2 &&& (255 : Int32)).toUInt32.toUInt16.toUInt32.toInt32)), .val (.int (p3 &&& (3 : Int32))), .val (.int (1 : Int32)), .val (.ref o285), .val (.ref o286), .val (.ref o289), .val (.ref o294), .unset, .unset, .unset, .unset] [(.ref o508)]
          rw [e3]
          show Own.Go _ _ _ _ _ 156 #[.val (.int p0), .val (.int p1), .val (.int p2), .val (.int p3), .val (.long p4), .second, .val (.int ((p0 &&& (255 : Int32)).toUInt32.toUInt16.toUInt32.toInt32)), .val (.int ((p1 &&& (255 : Int32)).toUInt32.toUInt16.toUInt32.toInt32)), .val (.int ((p2 &&& (255 : Int32)).toUInt32.toUInt16.toUInt32.toInt32)), .val (.int (3 : Int32)), .val (.int (1 : Int32)), .val (.ref o285), .val (.ref o286), .val (.ref o289), .val (.ref o294), .unset, .unset, .unset, .unset] [(.ref o508)]
          refine Own.astore W514 at_156 158 rfl rfl #[.val (.int p0), .val (.int p1), .val (.int p2), .val (.int p3), .val (.long p4), .second, .val (.int ((p0 &&& (255 : Int32)).toUInt32.toUInt16.toUInt32.toInt32)), .val (.int ((p1 &&& (255 : Int32)).toUInt32.toUInt16.toUInt32.toInt32)), .val (.int ((p2 &&& (255 : Int32)).toUInt32.toUInt16.toUInt32.toInt32)), .val (.int (3 : Int32)), .val (.int (1 : Int32)), .val (.ref o285), .val (.ref o286), .val (.ref o289), .val (.ref o294), .val (.ref o508), .unset, .unset, .unset] rfl ?_
          refine Own.newO W514 (tw hw 30 rfl) (tw hw 31 rfl) (tw hw 32 rfl) at_158 161 rfl 10 24 (by decide) (by decide) (by decide) (by decide) ?_
          intro T515 h515 o515 g515 W515 E515 A515 D515 s515 k515
          have F515_name : Fld G.Z h515 o515 "com/example/lopa/lopa/trec/SgmlScanner$Tag" "name" "Ljava/lang/String;" .null := D515 (Or.inr (tw hw 43 rfl)) (ty := (.object "java/lang/String")) (by decide)
          have F515_closing : Fld G.Z h515 o515 "com/example/lopa/lopa/trec/SgmlScanner$Tag" "closing" "Z" (.int (0 : Int32)) := D515 (Or.inr (tw hw 45 rfl)) (ty := .boolean) (by decide)
          have F515_line : Fld G.Z h515 o515 "com/example/lopa/lopa/trec/SgmlScanner$Tag" "line" "J" (.long (0 : Int64)) := D515 (Or.inr (tw hw 47 rfl)) (ty := .long) (by decide)
          refine Own.dup W515 at_161 162 rfl rfl ?_
          refine Own.aload W515 at_162 164 rfl (.ref o508) rfl rfl ?_
          refine Own.iload W515 at_164 166 rfl (1 : Int32) rfl ?_
          refine Own.lload W515 at_166 168 rfl p4 rfl ?_
          have X516 : Ext h h508 := Own.Ext.tr X512 E508
          have X517 : Ext h h514 := Own.Ext.kp X516 K514 (allS (Nat.le_trans X512.1 (Nat.le_of_eq g508.symm)) all0)
          refine Own.callX W515 rfl (tw hw 33 rfl) (tw hw 34 rfl) (tw hw 35 rfl) (by decide) (argsL := [(.ref o508), (.int (1 : Int32)), (.long p4)]) (rest := [(.ref o515)]) (Own.Con.pay (con_tag hw hEL o508 p4 rfl rfl W515.old (Nat.le_trans W0.n0 (Nat.le_trans X517.1 (Nat.le_of_eq g515.symm))) A515 F515_name F515_closing F515_line) W515 (tw hw 35 rfl) (tw hw 32 rfl) (len := 3) (wd := 1) (by decide) (by decide) (fun _ q => nomatch q)) rfl (lenOf pd_18 rfl) rfl (Nat.le_of_ble_eq_true rfl) at_168 171 rfl 10 24 (Nat.le_of_ble_eq_true rfl) (Nat.le_of_ble_eq_true rfl) (Nat.le_of_ble_eq_true rfl) (Nat.le_of_ble_eq_true rfl) ?_
          intro v518 T518 h518 u518 W518 R518 hq
          obtain ⟨rfl, K518, E518, Fn518, Fc518⟩ := hq
          show Own.Go _ _ _ _ _ 171 #[.val (.int p0), .val (.int p1), .val (.int p2), .val (.int p3), .val (.long p4), .second, .val (.int ((p0 &&& (255 : Int32)).toUInt32.toUInt16.toUInt32.toInt32)), .val (.int ((p1 &&& (255 : Int32)).toUInt32.toUInt16.toUInt32.toInt32)), .val (.int ((p2 &&& (255 : Int32)).toUInt32.toUInt16.toUInt32.toInt32)), .val (.int (3 : Int32)), .val (.int (1 : Int32)), .val (.ref o285), .val (.ref o286), .val (.ref o289), .val (.ref o294), .val (.ref o508), .unset, .unset, .unset] [(.ref o515)]
          refine Own.astore W518 at_171 173 rfl rfl #[.val (.int p0), .val (.int p1), .val (.int p2), .val (.int p3), .val (.long p4), .second, .val (.int ((p0 &&& (255 : Int32)).toUInt32.toUInt16.toUInt32.toInt32)), .val (.int ((p1 &&& (255 : Int32)).toUInt32.toUInt16.toUInt32.toInt32)), .val (.int ((p2 &&& (255 : Int32)).toUInt32.toUInt16.toUInt32.toInt32)), .val (.int (3 : Int32)), .val (.int (1 : Int32)), .val (.ref o285), .val (.ref o286), .val (.ref o289), .val (.ref o294), .val (.ref o508), .val (.ref o515), .unset, .unset] rfl ?_
          refine Own.aload W518 at_173 175 rfl (.ref o515) rfl rfl ?_
          have X519 : Ext h514 h515 := E515
          have X520 : Ext h514 h518 := Own.Ext.kp X519 K518 (allS (Nat.le_of_eq g515.symm) all0)
          refine Own.callV W518 (tw hw 48 rfl) (tw hw 49 rfl) (fun s q => notFace_of_selects (args := #[]) (mvT (s := s) q (tw hw 51 rfl))) (tw hw 51 rfl) (tw hw 50 rfl) (by decide) (argsL := []) (rest := []) (Own.Con.pay (con_tst1 hw hEL hmem hS hcz hE hEN (cs := [((p0 &&& (255 : Int32)).toUInt32.toUInt16.toUInt32.toInt32), ((p1 &&& (255 : Int32)).toUInt32.toUInt16.toUInt32.toInt32), ((p2 &&& (255 : Int32)).toUInt32.toUInt16.toUInt32.toInt32)]) (Nat.le_of_ble_eq_true rfl) W518.old Fn518 Fc518 (F514.ext X520)) W518 (tw hw 52 rfl) (tw hw 32 rfl) (len := 3) (wd := 0) (by decide) (by decide) (fun _ q => nomatch q)) E518 rfl (lenOf pd_16 rfl) rfl (Nat.le_of_ble_eq_true rfl) at_175 178 rfl 18 84 (Nat.le_of_ble_eq_true rfl) (Nat.le_of_ble_eq_true rfl) (Nat.le_of_ble_eq_true rfl) (Nat.le_of_ble_eq_true rfl) ?_
          intro v521 T521 h521 u521 W521 R521 hq
          obtain ⟨o521, rfl, E521, g521, S521⟩ := hq
          have Z521 : Own.Str G.Z h521 o521 [(60 : Int32), (47 : Int32), ((p0 &&& (255 : Int32)).toUInt32.toUInt16.toUInt32.toInt32), ((p1 &&& (255 : Int32)).toUInt32.toUInt16.toUInt32.toInt32), ((p2 &&& (255 : Int32)).toUInt32.toUInt16.toUInt32.toInt32), (62 : Int32)] := S521
          have ZX521 := Z521.exa
          show Own.Go _ _ _ _ _ 178 #[.val (.int p0), .val (.int p1), .val (.int p2), .val (.int p3), .val (.long p4), .second, .val (.int ((p0 &&& (255 : Int32)).toUInt32.toUInt16.toUInt32.toInt32)), .val (.int ((p1 &&& (255 : Int32)).toUInt32.toUInt16.toUInt32.toInt32)), .val (.int ((p2 &&& (255 : Int32)).toUInt32.toUInt16.toUInt32.toInt32)), .val (.int (3 : Int32)), .val (.int (1 : Int32)), .val (.ref o285), .val (.ref o286), .val (.ref o289), .val (.ref o294), .val (.ref o508), .val (.ref o515), .unset, .unset] [(.ref o521)]
          refine Own.astore W521 at_178 180 rfl rfl #[.val (.int p0), .val (.int p1), .val (.int p2), .val (.int p3), .val (.long p4), .second, .val (.int ((p0 &&& (255 : Int32)).toUInt32.toUInt16.toUInt32.toInt32)), .val (.int ((p1 &&& (255 : Int32)).toUInt32.toUInt16.toUInt32.toInt32)), .val (.int ((p2 &&& (255 : Int32)).toUInt32.toUInt16.toUInt32.toInt32)), .val (.int (3 : Int32)), .val (.int (1 : Int32)), .val (.ref o285), .val (.ref o286), .val (.ref o289), .val (.ref o294), .val (.ref o508), .val (.ref o515), .val (.ref o521), .unset] rfl ?_
          refine Own.iload W521 at_180 182 rfl (1 : Int32) rfl ?_
          refine Own.ifNo W521 at_182 185 (by decide) rfl ?_
          refine Own.iconst W521 at_185 186 rfl (2 : Int32) rfl ?_
          refine Own.goto W521 at_186 190 (by decide) (by decide) ?_
          refine Own.istore W521 at_190 192 rfl #[.val (.int p0), .val (.int p1), .val (.int p2), .val (.int p3), .val (.long p4), .second, .val (.int ((p0 &&& (255 : Int32)).toUInt32.toUInt16.toUInt32.toInt32)), .val (.int ((p1 &&& (255 : Int32)).toUInt32.toUInt16.toUInt32.toInt32)), .val (.int ((p2 &&& (255 : Int32)).toUInt32.toUInt16.toUInt32.toInt32)), .val (.int (3 : Int32)), .val (.int (1 : Int32)), .val (.ref o285), .val (.ref o286), .val (.ref o289), .val (.ref o294), .val (.ref o508), .val (.ref o515), .val (.ref o521), .val (.int (2 : Int32))] rfl ?_
          refine Own.aload W521 at_192 194 rfl (.ref o521) rfl rfl ?_
          refine Own.ifnullNo W521 at_194 197 rfl ?_
          refine Own.aload W521 at_197 199 rfl (.ref o521) rfl rfl ?_
          refine Own.callV W521 (tw hw 167 rfl) (tw hw 85 rfl) (fun s q => notFace_of_selects (args := #[]) (mvT (s := s) q (tw hw 87 rfl))) (tw hw 87 rfl) (tw hw 86 rfl) (by decide) (argsL := []) (rest := []) (Own.payLen (wL hw) (kI := 4) (tw hw 2 rfl) W521 Z521 hS hcz (len := 3) (wd := 0) (by decide) (by decide)) ZX521 rfl (lenOf pd_4 rfl) rfl (Nat.le_of_ble_eq_true rfl) at_199 202 rfl 18 84 (Nat.le_of_ble_eq_true rfl) (Nat.le_of_ble_eq_true rfl) (Nat.le_of_ble_eq_true rfl) (Nat.le_of_ble_eq_true rfl) ?_
          intro v522 T522 h522 u522 W522 R522 hq
          obtain ⟨rfl, eh522⟩ := hq
          have ei522 := eh522.symm; subst ei522
          have X523 : Ext h285 h286 := E286
          have X524 : Ext h285 h287 := Own.Ext.wr' X523 Q287 (Nat.le_of_eq g286.symm)
          have X525 : Ext h285 h289 := Own.Ext.tr X524 E289
          have X526 : Ext h285 h290 := Own.Ext.wr' X525 Q290 (Nat.le_trans X524.1 (Nat.le_of_eq g289.symm))
          have X527 : Ext h285 h293 := Own.Ext.wr' X526 Q293 (Nat.le_trans X524.1 (Nat.le_of_eq g289.symm))
          have X528 : Ext h285 h294 := Own.Ext.tr X527 E294
          have X529 : Ext h285 h295 := Own.Ext.wr' X528 Q295 (Nat.le_trans X527.1 (Nat.le_of_eq g294.symm))
          have X530 : Ext h285 h299 := Own.Ext.wr' X529 Q299 (Nat.le_trans X527.1 (Nat.le_of_eq g294.symm))
          have X531 : Ext h285 h300 := Own.Ext.wr' X530 Q300 (Nat.le_trans X527.1 (Nat.le_of_eq g294.symm))
          have X532 : Ext h285 h508 := Own.Ext.tr X531 E508
          have X533 : Ext h285 h514 := Own.Ext.kp X532 K514 (allS (Nat.le_trans X531.1 (Nat.le_of_eq g508.symm)) all0)
          have X534 : Ext h285 h515 := Own.Ext.tr X533 E515
          have X535 : Ext h285 h518 := Own.Ext.kp X534 K518 (allS (Nat.le_trans X533.1 (Nat.le_of_eq g515.symm)) all0)
          have X536 : Ext h285 h521 := Own.Ext.tr X535 E521
          have sf537 := R522.safe (V285.ext X536).lt (R521.safe (V285.ext X535).lt (R518.safe (V285.ext X534).lt (k515 o285 (R514.safe (V285.ext X532).lt (k508 o285 (k300 o285 (k299 o285 (k295 o285 (k294 o285 (k293 o285 (k290 o285 (k289 o285 (k287 o285 (k286 o285 s285))))))))))))))
          have X538 : Ext h287 h289 := E289
          have X539 : Ext h287 h290 := Own.Ext.wr' X538 Q290 (Nat.le_of_eq g289.symm)
          have X540 : Ext h287 h293 := Own.Ext.wr' X539 Q293 (Nat.le_of_eq g289.symm)
          have X541 : Ext h287 h294 := Own.Ext.tr X540 E294
          have X542 : Ext h287 h295 := Own.Ext.wr' X541 Q295 (Nat.le_trans X540.1 (Nat.le_of_eq g294.symm))
          have X543 : Ext h287 h299 := Own.Ext.wr' X542 Q299 (Nat.le_trans X540.1 (Nat.le_of_eq g294.symm))
          have X544 : Ext h287 h300 := Own.Ext.wr' X543 Q300 (Nat.le_trans X540.1 (Nat.le_of_eq g294.symm))
          have X545 : Ext h287 h508 := Own.Ext.tr X544 E508
          have X546 : Ext h287 h514 := Own.Ext.kp X545 K514 (allS (Nat.le_trans X544.1 (Nat.le_of_eq g508.symm)) all0)
          have X547 : Ext h287 h515 := Own.Ext.tr X546 E515
          have X548 : Ext h287 h518 := Own.Ext.kp X547 K518 (allS (Nat.le_trans X546.1 (Nat.le_of_eq g515.symm)) all0)
          have X549 : Ext h287 h521 := Own.Ext.tr X548 E521
          have sf550 := R522.safe (V287.ext X549).lt (R521.safe (V287.ext X548).lt (R518.safe (V287.ext X547).lt (k515 o286 (R514.safe (V287.ext X545).lt (k508 o286 (k300 o286 (k299 o286 (k295 o286 (k294 o286 (k293 o286 (k290 o286 (k289 o286 (k287 o286 s286)))))))))))))
          have X551 : Ext h293 h294 := E294
          have X552 : Ext h293 h295 := Own.Ext.wr' X551 Q295 (Nat.le_of_eq g294.symm)
          have X553 : Ext h293 h299 := Own.Ext.wr' X552 Q299 (Nat.le_of_eq g294.symm)
          have X554 : Ext h293 h300 := Own.Ext.wr' X553 Q300 (Nat.le_of_eq g294.symm)
          have X555 : Ext h293 h508 := Own.Ext.tr X554 E508
          have X556 : Ext h293 h514 := Own.Ext.kp X555 K514 (allS (Nat.le_trans X554.1 (Nat.le_of_eq g508.symm)) all0)
          have X557 : Ext h293 h515 := Own.Ext.tr X556 E515
          have X558 : Ext h293 h518 := Own.Ext.kp X557 K518 (allS (Nat.le_trans X556.1 (Nat.le_of_eq g515.symm)) all0)
          have X559 : Ext h293 h521 := Own.Ext.tr X558 E521
          have sf560 := R522.safe (V293.ext X559).lt (R521.safe (V293.ext X558).lt (R518.safe (V293.ext X557).lt (k515 o289 (R514.safe (V293.ext X555).lt (k508 o289 (k300 o289 (k299 o289 (k295 o289 (k294 o289 (k293 o289 (k290 o289 s289)))))))))))
          show Own.Go _ _ _ _ _ 202 #[.val (.int p0), .val (.int p1), .val (.int p2), .val (.int p3), .val (.long p4), .second, .val (.int ((p0 &&& (255 : Int32)).toUInt32.toUInt16.toUInt32.toInt32)), .val (.int ((p1 &&& (255 : Int32)).toUInt32.toUInt16.toUInt32.toInt32)), .val (.int ((p2 &&& (255 : Int32)).toUInt32.toUInt16.toUInt32.toInt32)), .val (.int (3 : Int32)), .val (.int (1 : Int32)), .val (.ref o285), .val (.ref o286), .val (.ref o289), .val (.ref o294), .val (.ref o508), .val (.ref o515), .val (.ref o521), .val (.int (2 : Int32))] [(.int (6 : Int32))]
          refine Own.iload W522 at_202 204 rfl (2 : Int32) rfl ?_
          refine Own.iload W522 at_204 206 rfl (3 : Int32) rfl ?_
          refine Own.iadd W522 at_206 207 rfl ?_
          refine Own.iconst W522 at_207 208 rfl (1 : Int32) rfl ?_
          refine Own.iadd W522 at_208 209 rfl ?_
          refine Own.icmpYes W522 at_209 214 (by decide) (by decide) (by decide) ?_
          refine Own.aload W522 at_214 216 rfl (.ref o521) rfl rfl ?_
          refine Own.iconst W522 at_216 217 rfl (0 : Int32) rfl ?_
          refine Own.callV W522 (tw hw 168 rfl) (tw hw 169 rfl) (fun s q => notFace_of_selects (args := #[]) (mvT (s := s) q (tw hw 171 rfl))) (tw hw 171 rfl) (tw hw 170 rfl) (by decide) (argsL := [(.int (0 : Int32))]) (rest := []) (Own.payChr (wC hw) (kI := 4) (tw hw 2 rfl) W522 Z521 hS hcz SF rfm (i := 0) (Nat.le_of_ble_eq_true rfl) rfl (len := 3) (wd := 0) (by decide) (by decide)) ZX521 rfl (lenOf pd_19 rfl) rfl (Nat.le_of_ble_eq_true rfl) at_217 220 rfl 18 84 (Nat.le_of_ble_eq_true rfl) (Nat.le_of_ble_eq_true rfl) (Nat.le_of_ble_eq_true rfl) (Nat.le_of_ble_eq_true rfl) ?_
          intro v561 T561 h561 u561 W561 R561 hq
          obtain ⟨rfl, eh561⟩ := hq
          have ei561 := eh561.symm; subst ei561
          have sf562 := R561.safe (V285.ext X536).lt sf537
          have sf563 := R561.safe (V287.ext X549).lt sf550
          have sf564 := R561.safe (V293.ext X559).lt sf560
          show Own.Go _ _ _ _ _ 220 #[.val (.int p0), .val (.int p1), .val (.int p2), .val (.int p3), .val (.long p4), .second, .val (.int ((p0 &&& (255 : Int32)).toUInt32.toUInt16.toUInt32.toInt32)), .val (.int ((p1 &&& (255 : Int32)).toUInt32.toUInt16.toUInt32.toInt32)), .val (.int ((p2 &&& (255 : Int32)).toUInt32.toUInt16.toUInt32.toInt32)), .val (.int (3 : Int32)), .val (.int (1 : Int32)), .val (.ref o285), .val (.ref o286), .val (.ref o289), .val (.ref o294), .val (.ref o508), .val (.ref o515), .val (.ref o521), .val (.int (2 : Int32))] [(.int (60 : Int32))]
          refine Own.bipush W561 at_220 222 rfl (60 : Int32) rfl ?_
          refine Own.icmpYes W561 at_222 227 (by decide) (by decide) (by decide) ?_
          refine Own.iload W561 at_227 229 rfl (1 : Int32) rfl ?_
          refine Own.ifNo W561 at_229 232 (by decide) rfl ?_
          refine Own.aload W561 at_232 234 rfl (.ref o521) rfl rfl ?_
          refine Own.iconst W561 at_234 235 rfl (1 : Int32) rfl ?_
          refine Own.callV W561 (tw hw 168 rfl) (tw hw 169 rfl) (fun s q => notFace_of_selects (args := #[]) (mvT (s := s) q (tw hw 171 rfl))) (tw hw 171 rfl) (tw hw 170 rfl) (by decide) (argsL := [(.int (1 : Int32))]) (rest := []) (Own.payChr (wC hw) (kI := 4) (tw hw 2 rfl) W561 Z521 hS hcz SF rfm (i := 1) (Nat.le_of_ble_eq_true rfl) rfl (len := 3) (wd := 0) (by decide) (by decide)) ZX521 rfl (lenOf pd_19 rfl) rfl (Nat.le_of_ble_eq_true rfl) at_235 238 rfl 18 84 (Nat.le_of_ble_eq_true rfl) (Nat.le_of_ble_eq_true rfl) (Nat.le_of_ble_eq_true rfl) (Nat.le_of_ble_eq_true rfl) ?_
          intro v565 T565 h565 u565 W565 R565 hq
          obtain ⟨rfl, eh565⟩ := hq
          have ei565 := eh565.symm; subst ei565
          have sf566 := R565.safe (V285.ext X536).lt sf562
          have sf567 := R565.safe (V287.ext X549).lt sf563
          have sf568 := R565.safe (V293.ext X559).lt sf564
          show Own.Go _ _ _ _ _ 238 #[.val (.int p0), .val (.int p1), .val (.int p2), .val (.int p3), .val (.long p4), .second, .val (.int ((p0 &&& (255 : Int32)).toUInt32.toUInt16.toUInt32.toInt32)), .val (.int ((p1 &&& (255 : Int32)).toUInt32.toUInt16.toUInt32.toInt32)), .val (.int ((p2 &&& (255 : Int32)).toUInt32.toUInt16.toUInt32.toInt32)), .val (.int (3 : Int32)), .val (.int (1 : Int32)), .val (.ref o285), .val (.ref o286), .val (.ref o289), .val (.ref o294), .val (.ref o508), .val (.ref o515), .val (.ref o521), .val (.int (2 : Int32))] [(.int (47 : Int32))]
          refine Own.bipush W565 at_238 240 rfl (47 : Int32) rfl ?_
          refine Own.icmpYes W565 at_240 245 (by decide) (by decide) (by decide) ?_
          refine Own.iload W565 at_245 247 rfl (3 : Int32) rfl ?_
          refine Own.iconst W565 at_247 248 rfl (1 : Int32) rfl ?_
          refine Own.icmpNo W565 at_248 251 (by decide) rfl ?_
          refine Own.aload W565 at_251 253 rfl (.ref o521) rfl rfl ?_
          refine Own.iload W565 at_253 255 rfl (2 : Int32) rfl ?_
          refine Own.callV W565 (tw hw 168 rfl) (tw hw 169 rfl) (fun s q => notFace_of_selects (args := #[]) (mvT (s := s) q (tw hw 171 rfl))) (tw hw 171 rfl) (tw hw 170 rfl) (by decide) (argsL := [(.int (2 : Int32))]) (rest := []) (Own.payChr (wC hw) (kI := 4) (tw hw 2 rfl) W565 Z521 hS hcz SF rfm (i := 2) (Nat.le_of_ble_eq_true rfl) rfl (len := 3) (wd := 0) (by decide) (by decide)) ZX521 rfl (lenOf pd_19 rfl) rfl (Nat.le_of_ble_eq_true rfl) at_255 258 rfl 18 84 (Nat.le_of_ble_eq_true rfl) (Nat.le_of_ble_eq_true rfl) (Nat.le_of_ble_eq_true rfl) (Nat.le_of_ble_eq_true rfl) ?_
          intro v569 T569 h569 u569 W569 R569 hq
          obtain ⟨rfl, eh569⟩ := hq
          have ei569 := eh569.symm; subst ei569
          have sf570 := R569.safe (V285.ext X536).lt sf566
          have sf571 := R569.safe (V287.ext X549).lt sf567
          have sf572 := R569.safe (V293.ext X559).lt sf568
          show Own.Go _ _ _ _ _ 258 #[.val (.int p0), .val (.int p1), .val (.int p2), .val (.int p3), .val (.long p4), .second, .val (.int ((p0 &&& (255 : Int32)).toUInt32.toUInt16.toUInt32.toInt32)), .val (.int ((p1 &&& (255 : Int32)).toUInt32.toUInt16.toUInt32.toInt32)), .val (.int ((p2 &&& (255 : Int32)).toUInt32.toUInt16.toUInt32.toInt32)), .val (.int (3 : Int32)), .val (.int (1 : Int32)), .val (.ref o285), .val (.ref o286), .val (.ref o289), .val (.ref o294), .val (.ref o508), .val (.ref o515), .val (.ref o521), .val (.int (2 : Int32))] [(.int ((p0 &&& (255 : Int32)).toUInt32.toUInt16.toUInt32.toInt32))]
          refine Own.iload W569 at_258 260 rfl ((p0 &&& (255 : Int32)).toUInt32.toUInt16.toUInt32.toInt32) rfl ?_
          refine Own.icmpYes W569 at_260 265 (XT.ii_eq_t rfl) (by decide) (by decide) ?_
          refine Own.iload W569 at_265 267 rfl (3 : Int32) rfl ?_
          refine Own.iconst W569 at_267 268 rfl (2 : Int32) rfl ?_
          refine Own.icmpNo W569 at_268 271 (by decide) rfl ?_
          refine Own.aload W569 at_271 273 rfl (.ref o521) rfl rfl ?_
          refine Own.iload W569 at_273 275 rfl (2 : Int32) rfl ?_
          refine Own.iconst W569 at_275 276 rfl (1 : Int32) rfl ?_
          refine Own.iadd W569 at_276 277 rfl ?_
          refine Own.callV W569 (tw hw 168 rfl) (tw hw 169 rfl) (fun s q => notFace_of_selects (args := #[]) (mvT (s := s) q (tw hw 171 rfl))) (tw hw 171 rfl) (tw hw 170 rfl) (by decide) (argsL := [(.int (3 : Int32))]) (rest := []) (Own.payChr (wC hw) (kI := 4) (tw hw 2 rfl) W569 Z521 hS hcz SF rfm (i := 3) (Nat.le_of_ble_eq_true rfl) rfl (len := 3) (wd := 0) (by decide) (by decide)) ZX521 rfl (lenOf pd_19 rfl) rfl (Nat.le_of_ble_eq_true rfl) at_277 280 rfl 18 84 (Nat.le_of_ble_eq_true rfl) (Nat.le_of_ble_eq_true rfl) (Nat.le_of_ble_eq_true rfl) (Nat.le_of_ble_eq_true rfl) ?_
          intro v573 T573 h573 u573 W573 R573 hq
          obtain ⟨rfl, eh573⟩ := hq
          have ei573 := eh573.symm; subst ei573
          have sf574 := R573.safe (V285.ext X536).lt sf570
          have sf575 := R573.safe (V287.ext X549).lt sf571
          have sf576 := R573.safe (V293.ext X559).lt sf572
          show Own.Go _ _ _ _ _ 280 #[.val (.int p0), .val (.int p1), .val (.int p2), .val (.int p3), .val (.long p4), .second, .val (.int ((p0 &&& (255 : Int32)).toUInt32.toUInt16.toUInt32.toInt32)), .val (.int ((p1 &&& (255 : Int32)).toUInt32.toUInt16.toUInt32.toInt32)), .val (.int ((p2 &&& (255 : Int32)).toUInt32.toUInt16.toUInt32.toInt32)), .val (.int (3 : Int32)), .val (.int (1 : Int32)), .val (.ref o285), .val (.ref o286), .val (.ref o289), .val (.ref o294), .val (.ref o508), .val (.ref o515), .val (.ref o521), .val (.int (2 : Int32))] [(.int ((p1 &&& (255 : Int32)).toUInt32.toUInt16.toUInt32.toInt32))]
          refine Own.iload W573 at_280 282 rfl ((p1 &&& (255 : Int32)).toUInt32.toUInt16.toUInt32.toInt32) rfl ?_
          refine Own.icmpYes W573 at_282 287 (XT.ii_eq_t rfl) (by decide) (by decide) ?_
          refine Own.iload W573 at_287 289 rfl (3 : Int32) rfl ?_
          refine Own.iconst W573 at_289 290 rfl (3 : Int32) rfl ?_
          refine Own.icmpNo W573 at_290 293 (by decide) rfl ?_
          refine Own.aload W573 at_293 295 rfl (.ref o521) rfl rfl ?_
          refine Own.iload W573 at_295 297 rfl (2 : Int32) rfl ?_
          refine Own.iconst W573 at_297 298 rfl (2 : Int32) rfl ?_
          refine Own.iadd W573 at_298 299 rfl ?_
          refine Own.callV W573 (tw hw 168 rfl) (tw hw 169 rfl) (fun s q => notFace_of_selects (args := #[]) (mvT (s := s) q (tw hw 171 rfl))) (tw hw 171 rfl) (tw hw 170 rfl) (by decide) (argsL := [(.int (4 : Int32))]) (rest := []) (Own.payChr (wC hw) (kI := 4) (tw hw 2 rfl) W573 Z521 hS hcz SF rfm (i := 4) (Nat.le_of_ble_eq_true rfl) rfl (len := 3) (wd := 0) (by decide) (by decide)) ZX521 rfl (lenOf pd_19 rfl) rfl (Nat.le_of_ble_eq_true rfl) at_299 302 rfl 18 84 (Nat.le_of_ble_eq_true rfl) (Nat.le_of_ble_eq_true rfl) (Nat.le_of_ble_eq_true rfl) (Nat.le_of_ble_eq_true rfl) ?_
          intro v577 T577 h577 u577 W577 R577 hq
          obtain ⟨rfl, eh577⟩ := hq
          have ei577 := eh577.symm; subst ei577
          have sf578 := R577.safe (V285.ext X536).lt sf574
          have sf579 := R577.safe (V287.ext X549).lt sf575
          have sf580 := R577.safe (V293.ext X559).lt sf576
          show Own.Go _ _ _ _ _ 302 #[.val (.int p0), .val (.int p1), .val (.int p2), .val (.int p3), .val (.long p4), .second, .val (.int ((p0 &&& (255 : Int32)).toUInt32.toUInt16.toUInt32.toInt32)), .val (.int ((p1 &&& (255 : Int32)).toUInt32.toUInt16.toUInt32.toInt32)), .val (.int ((p2 &&& (255 : Int32)).toUInt32.toUInt16.toUInt32.toInt32)), .val (.int (3 : Int32)), .val (.int (1 : Int32)), .val (.ref o285), .val (.ref o286), .val (.ref o289), .val (.ref o294), .val (.ref o508), .val (.ref o515), .val (.ref o521), .val (.int (2 : Int32))] [(.int ((p2 &&& (255 : Int32)).toUInt32.toUInt16.toUInt32.toInt32))]
          refine Own.iload W577 at_302 304 rfl ((p2 &&& (255 : Int32)).toUInt32.toUInt16.toUInt32.toInt32) rfl ?_
          refine Own.icmpYes W577 at_304 309 (XT.ii_eq_t rfl) (by decide) (by decide) ?_
          refine Own.aload W577 at_309 311 rfl (.ref o521) rfl rfl ?_
          refine Own.iload W577 at_311 313 rfl (2 : Int32) rfl ?_
          refine Own.iload W577 at_313 315 rfl (3 : Int32) rfl ?_
          refine Own.iadd W577 at_315 316 rfl ?_
          refine Own.callV W577 (tw hw 168 rfl) (tw hw 169 rfl) (fun s q => notFace_of_selects (args := #[]) (mvT (s := s) q (tw hw 171 rfl))) (tw hw 171 rfl) (tw hw 170 rfl) (by decide) (argsL := [(.int (5 : Int32))]) (rest := []) (Own.payChr (wC hw) (kI := 4) (tw hw 2 rfl) W577 Z521 hS hcz SF rfm (i := 5) (Nat.le_of_ble_eq_true rfl) rfl (len := 3) (wd := 0) (by decide) (by decide)) ZX521 rfl (lenOf pd_19 rfl) rfl (Nat.le_of_ble_eq_true rfl) at_316 319 rfl 18 84 (Nat.le_of_ble_eq_true rfl) (Nat.le_of_ble_eq_true rfl) (Nat.le_of_ble_eq_true rfl) (Nat.le_of_ble_eq_true rfl) ?_
          intro v581 T581 h581 u581 W581 R581 hq
          obtain ⟨rfl, eh581⟩ := hq
          have ei581 := eh581.symm; subst ei581
          have sf582 := R581.safe (V285.ext X536).lt sf578
          have sf583 := R581.safe (V287.ext X549).lt sf579
          have sf584 := R581.safe (V293.ext X559).lt sf580
          show Own.Go _ _ _ _ _ 319 #[.val (.int p0), .val (.int p1), .val (.int p2), .val (.int p3), .val (.long p4), .second, .val (.int ((p0 &&& (255 : Int32)).toUInt32.toUInt16.toUInt32.toInt32)), .val (.int ((p1 &&& (255 : Int32)).toUInt32.toUInt16.toUInt32.toInt32)), .val (.int ((p2 &&& (255 : Int32)).toUInt32.toUInt16.toUInt32.toInt32)), .val (.int (3 : Int32)), .val (.int (1 : Int32)), .val (.ref o285), .val (.ref o286), .val (.ref o289), .val (.ref o294), .val (.ref o508), .val (.ref o515), .val (.ref o521), .val (.int (2 : Int32))] [(.int (62 : Int32))]
          refine Own.bipush W581 at_319 321 rfl (62 : Int32) rfl ?_
          refine Own.icmpNo W581 at_321 324 (by decide) rfl ?_
          refine Own.iconst W581 at_324 325 rfl (1 : Int32) rfl ?_
          refine Own.goto W581 at_325 329 (by decide) (by decide) ?_
          exact Own.retB W581 (by decide) (by decide) rfl at_329 rfl rfl
theorem elW {G : Own.Gl} (hw : ∀ d ∈ tables_1, d.before G.a0 G.Z = true) : EW G.Z G.a0 consts_1 := (EW.cons (tw hw 191 rfl) (by decide) (EW.cons (tw hw 71 rfl) (by decide) (EW.cons (tw hw 121 rfl) (by decide) (EW.cons (tw hw 190 rfl) (by decide) EW.nil))))
theorem enW16 {G : Own.Gl} (hw : ∀ d ∈ tables_1, d.before G.a0 G.Z = true) : Own.EN G.Z G.a0 consts_1 16 := (Own.EN.cons (tw hw 191 rfl) (by decide) (by decide) (Own.EN.cons (tw hw 71 rfl) (by decide) (by decide) (Own.EN.cons (tw hw 121 rfl) (by decide) (by decide) (Own.EN.cons (tw hw 190 rfl) (by decide) (by decide) Own.EN.nil))))
set_option maxRecDepth 65536 in
set_option maxHeartbeats 40000000 in
theorem comes_1 {Post : Tables → Env → Array Value → State → Outcome → State → Prop} (hpost : ∀ tb e args s v u, (limb_1_1.after args s (.returned v) u = true ∧ limb_1_2.after args s (.returned v) u = true ∧ True) → ReturnedEndW s (.returned v) u (Jvm.fieldLocs frame_1_writes args s ++ Jvm.arrayLocs frame_1_arrays args s ++ Jvm.staticLocs frame_1_statics s) 40 4288 → Post tb e args s (.returned v) u) :
    ArmFor flags0 classFile x code maxLocals ret World_1 tables_1 room_1 Calls_1 rest_1 Pre_1 Post := by
  intro l hfl _ _ p e ha hc hk s m args below hf hA hF happ hP
  obtain ⟨hcalls, hrest, hpre⟩ := hP
  obtain ⟨-, -, -, hnamed, -, -, -, hat⟩ := (Spec.applies_iff hf).mp happ
  obtain ⟨hg, hn⟩ := and_e (Cond.before_iff.mp (show (Jvm.Cond.and given_1 narrow_1).before args s = true from hpre))
  obtain ⟨hcnt, g1⟩ := and_e hg
  obtain ⟨a0, g2⟩ := and_e g1
  obtain ⟨a1, g3⟩ := and_e g2
  obtain ⟨a2, g4⟩ := and_e g3
  obtain ⟨a3, g5⟩ := and_e g4
  have a4 := g5
  obtain ⟨w0, w1, w2, w3, w4, rfl⟩ : ∃ w0 w1 w2 w3 w4 : Value, args = #[w0, w1, w2, w3, w4] := by
    have hs : args.size = 5 := by simpa [Cond.value, given_1] using hcnt
    obtain ⟨L⟩ := args
    match L, hs with
    | [w0, w1, w2, w3, w4], _ => exact ⟨w0, w1, w2, w3, w4, rfl⟩
  have hw := fun d (hd : d ∈ tables_1) => atoms_spec (ws := Jvm.Cond.code x code maxLocals ret :: tables_1) hat d (List.mem_cons_of_mem _ hd)
  have hfit : Fit s := fun {y c} hc i hi => by
    obtain ⟨ha, rfl⟩ := Array.getElem?_eq_some_iff.mp hc
    have q := List.all_eq_true.mp ((Array.all_eq_true_iff_forall_mem.mp hF) _ (Array.getElem_mem ha)) i (List.mem_range.mpr hi)
    simpa [Array.getElem?_eq_getElem hi] using q
  obtain ⟨hsets, hown0⟩ := atoms_of _ (rest_1_c_eq ▸ (show rest_1_c.before _ s = true from hrest))
  obtain ⟨i0, ei0⟩ := is_v a0
  obtain rfl : w0 = (.int i0) := Option.some.inj ei0
  obtain ⟨i1, ei1⟩ := is_v a1
  obtain rfl : w1 = (.int i1) := Option.some.inj ei1
  obtain ⟨i2, ei2⟩ := is_v a2
  obtain rfl : w2 = (.int i2) := Option.some.inj ei2
  obtain ⟨i3, ei3⟩ := is_v a3
  obtain rfl : w3 = (.int i3) := Option.some.inj ei3
  obtain ⟨i4, ei4⟩ := isL_v a4
  obtain rfl : w4 = (.long i4) := Option.some.inj ei4
  have n3 := not_v (Cond.before_iff.mp (hsets _ (List.mem_of_getElem? (i := 2) rfl)))
  obtain ⟨cz, ecz⟩ := is_v (Cond.before_iff.mp (hsets _ (List.mem_of_getElem? (i := 1) rfl)))
  have S8 : Sta s s.heap "java/lang/String" "COMPACT_STRINGS" "Z" (.int cz) := Sta.start ecz (Or.inl (hsets _ (List.mem_of_getElem? (i := 0) rfl)))
  have hcz : ¬ (cz = (0 : Int32)) := gotF (Cond.eq_ints ecz (Term.int_eval (0))) n3
  obtain ⟨fm, efm, rfm⟩ := isR_v (Cond.before_iff.mp (hsets _ (List.mem_of_getElem? (i := 8) rfl)))
  have SF : Sta s s.heap "jdk/internal/util/Preconditions" "SIOOBE_FORMATTER" "Ljava/util/function/BiFunction;" fm := Sta.start efm (Or.inl (hsets _ (List.mem_of_getElem? (i := 7) rfl)))
  let G : Own.Gl := (l, s, #[(.int i0), (.int i1), (.int i2), (.int i3), (.long i4)], consts_1, s.heap.size)
  have hw' : ∀ d ∈ tables_1, d.before G.a0 G.Z = true := hw
  have hEL : EW G.Z G.a0 G.EL := elW hw'
  have hcw : Jvm.Lit.compactW.before G.a0 G.Z = true := hsets _ (List.mem_of_getElem? (i := 2) rfl)
  have hCH : CHv G.Z G.EL G.Z.vm G.Z.heap := CHv.start hEL (fun q hq => hcalls.1 q hq) hcw (tw hw' 19 rfl) (tw hw' 2 rfl)
  obtain ⟨n, o, h1, h2, h3, v, L, rfl, ⟨hv, N, -⟩, -, hq⟩ := con_law (G := G) hw' hEL (by show (Own.ST, 7) ∈ consts_1; decide) S8 hcz rfl (enW16 hw') SF rfm i0 i1 i2 i3 i4 (Old.start s) p e ha hc hk s m _ below hf ((Spec.applies_iff_loose hf).mp happ).1 ⟨rfl, State.Warmed39.refl s, rfl, hCH, fun _ q => nomatch q⟩ trivial
  subst hv
  exact ⟨n, _, h1, h2, h3, hpost _ _ _ _ _ _ ⟨Cond.after_iff.mpr rfl, Cond.after_iff.mpr (eq_i res_at (Term.int_eval (1)) rfl), trivial⟩ ⟨hq.1, hq.2.1, hq.2.2.1, (hq.2.2.2.sift fun y hy => Or.inr (N y hy)).mono (by decide) (by decide)⟩⟩
theorem main_1_1 : Claimed_1_1 := comes_1 fun _ _ _ _ _ _ h hF => ⟨h.1, hF⟩
theorem main_1_2 : Claimed_1_2 := comes_1 fun _ _ _ _ _ _ h hF => ⟨h.2.1, hF⟩
end Jvm.Pilot.@@N@@
namespace Jvm.Pilot.@@N@@
open Jvm Jvm.ClassFile Sem Op Lib Jvm.Free Jvm.Stand Jvm.Pilot.@@N@@.Jvm.D
/-! MADE BY PROGRAM (witnessworld.py) out of the Statement's table words and the real class files: 28 classes; the members and pool entries that the words name. The judged class is class 1, her method 1. -/
namespace start1
open Jvm.ClassFile
def u (s : String) : CpInfo := .utf8 (stringToUtf16 s)
/-- a pool by its gaps: so many unusable entries, then the entry; so many at the end -/
def gap : Nat → List CpInfo → List CpInfo
  | 0, r => r
  | n + 1, r => .unusable :: gap n r
def poolList (es : List (Nat × CpInfo)) (last : Nat) : List CpInfo := es.foldr (fun e r => gap e.1 (e.2 :: r)) (gap last [])
def pool (es : List (Nat × CpInfo)) (last : Nat) : Array CpInfo := ⟨poolList es last⟩
def fileOf (pool : Array CpInfo) (this : Nat) (attrs : Array Attribute := #[]) (ms : Array MethodInfo := #[]) (fl : Nat := 33) (sup : Nat := 0) (ifs : Array Nat := #[]) (fds : Array FieldInfo := #[]) : ClassFile where
  minorVersion := 0
  majorVersion := 65
  constantPool := pool
  accessFlags := fl
  thisClass := this
  superClass := sup
  interfaces := ifs
  fields := fds
  methods := ms
  attributes := attrs
def plain (name : String) (sup : Option ClassId) : Class where
  name := name
  kind := .ordinary
  loader := none
  accessFlags := 33
  super := sup
  interfaces := #[]
  cf := none
  fields := #[]
  methods := #[]
  instanceTypes := #[]
  staticTypes := #[]
  resolved := #[]
  callSites := []
  init := .initialized
  statics := none
  mirror := none

def pool0 : Array CpInfo := pool [(5, u "<init>"), (0, u "()V"), (1, .class_ 10), (1, u "java/lang/Object")] 113

def k0c0 : Code := { maxStack := 0, maxLocals := 1, code := object_method_1_code, exceptionTable := #[], attributes := #[] }
def k0m0 : Method := { name := "<init>", desc := "()V", sig := { parameters := [], returnType := none }, accessFlags := 1, code := some k0c0 }
/-- java/lang/Object -/
def k0 : Class := { plain "java/lang/Object" none with
  accessFlags := 33
  interfaces := #[]
  cf := some (fileOf pool0 8 #[] #[{ accessFlags := 1, nameIndex := 5, descriptorIndex := 6, attributes := #[] }] 33 0 #[] #[])
  fields := #[]
  methods := #[k0m0]
  instanceTypes := #[]
  staticTypes := #[]
  resolved := Array.replicate 124 none
  statics := none }

def pool1 : Array CpInfo := pool [(2, .class_ 4), (1, u "java/lang/Object"), (0, u "<init>"), (0, u "()V"), (0, .class_ 8), (0, u "java/lang/String"), (0, .methodref 7 10), (0, .nameAndType 5 11), (0, u "([C)V"), (0, .class_ 13), (0, u "com/example/lopa/lopa/trec/SgmlScanner$Tag"), (0, .methodref 12 15), (0, .nameAndType 5 16), (0, u "(Ljava/lang/String;ZJ)V"), (0, .methodref 12 18), (0, .nameAndType 19 20), (0, u "toString"), (0, u "()Ljava/lang/String;"), (0, .methodref 7 22), (0, .nameAndType 23 24), (0, u "length"), (0, u "()I"), (0, .methodref 7 26), (0, .nameAndType 27 28), (0, u "charAt"), (0, u "(I)C"), (0, .class_ 30), (0, u "com/example/lopa/lopa/trec/TagToStringPinLaw"), (2, u "law"), (0, u "(IIIIJ)Z")] 9

def k1m0 : Method := { name := "<init>", desc := "()V", sig := { parameters := [], returnType := none }, accessFlags := 1, code := none }
def k1c1 : Code := { maxStack := 6, maxLocals := 19, code := code, exceptionTable := #[], attributes := #[] }
def k1m1 : Method := { name := "law", desc := "(IIIIJ)Z", sig := { parameters := [.int, .int, .int, .int, .long], returnType := some .boolean }, accessFlags := 9, code := some k1c1 }
/-- com/example/lopa/lopa/trec/TagToStringPinLaw -/
def k1 : Class := { plain "com/example/lopa/lopa/trec/TagToStringPinLaw" (some 0) with
  accessFlags := 49
  interfaces := #[]
  cf := some (fileOf pool1 29 #[] #[{ accessFlags := 1, nameIndex := 5, descriptorIndex := 6, attributes := #[] }, { accessFlags := 9, nameIndex := 33, descriptorIndex := 34, attributes := #[] }] 49 2 #[] #[])
  fields := #[]
  methods := #[k1m0, k1m1]
  instanceTypes := #[]
  staticTypes := #[]
  resolved := Array.replicate 44 none
  statics := none }

def pool2 : Array CpInfo := pool [(1, .class_ 2), (0, u "java/io/Serializable"), (0, .class_ 4), (0, u "java/lang/Object")] 2

/-- java/io/Serializable -/
def k2 : Class := { plain "java/io/Serializable" (some 0) with
  accessFlags := 1537
  interfaces := #[]
  cf := some (fileOf pool2 1 #[] #[] 1537 3 #[] #[])
  fields := #[]
  methods := #[]
  instanceTypes := #[]
  staticTypes := #[]
  resolved := Array.replicate 7 none
  statics := none }

def pool3 : Array CpInfo := pool [(1, .class_ 2), (0, u "java/lang/Comparable"), (0, .class_ 4), (0, u "java/lang/Object")] 7

/-- java/lang/Comparable -/
def k3 : Class := { plain "java/lang/Comparable" (some 0) with
  accessFlags := 1537
  interfaces := #[]
  cf := some (fileOf pool3 1 #[] #[] 1537 3 #[] #[])
  fields := #[]
  methods := #[]
  instanceTypes := #[]
  staticTypes := #[]
  resolved := Array.replicate 12 none
  statics := none }

def pool4 : Array CpInfo := pool [(2, .class_ 4), (1, u "java/lang/CharSequence"), (42, .class_ 48), (0, u "java/lang/CharSequence$1CodePointIterator"), (10, .class_ 60), (0, u "java/lang/CharSequence$1CharIterator"), (5, .class_ 67), (0, u "java/lang/Object")] 63

/-- java/lang/CharSequence -/
def k4 : Class := { plain "java/lang/CharSequence" (some 0) with
  accessFlags := 1537
  interfaces := #[]
  cf := some (fileOf pool4 2 #[.nestMembers #[47, 59]] #[] 1537 66 #[] #[])
  fields := #[]
  methods := #[]
  instanceTypes := #[]
  staticTypes := #[]
  resolved := Array.replicate 131 none
  statics := none }

def pool5 : Array CpInfo := pool [(1, .class_ 2), (0, u "java/lang/constant/Constable"), (0, .class_ 4), (0, u "java/lang/Object")] 6

/-- java/lang/constant/Constable -/
def k5 : Class := { plain "java/lang/constant/Constable" (some 0) with
  accessFlags := 1537
  interfaces := #[]
  cf := some (fileOf pool5 1 #[] #[] 1537 3 #[] #[])
  fields := #[]
  methods := #[]
  instanceTypes := #[]
  staticTypes := #[]
  resolved := Array.replicate 11 none
  statics := none }

def pool6 : Array CpInfo := pool [(1, .class_ 2), (0, u "java/lang/constant/ConstantDesc"), (0, .class_ 4), (0, u "java/lang/Object")] 32

/-- java/lang/constant/ConstantDesc -/
def k6 : Class := { plain "java/lang/constant/ConstantDesc" (some 0) with
  accessFlags := 1537
  interfaces := #[]
  cf := some (fileOf pool6 1 #[] #[] 1537 3 #[] #[])
  fields := #[]
  methods := #[]
  instanceTypes := #[]
  staticTypes := #[]
  resolved := Array.replicate 37 none
  statics := none }

def pool7 : Array CpInfo := pool [(1, .methodref 2 3), (0, .class_ 4), (0, .nameAndType 5 6), (0, u "java/lang/Object"), (0, u "<init>"), (0, u "()V"), (0, .string 8), (0, u ""), (0, .fieldref 10 11), (0, .class_ 12), (0, .nameAndType 13 14), (0, u "java/lang/String"), (0, u "value"), (0, u "[B"), (0, .fieldref 10 16), (0, .nameAndType 17 18), (0, u "coder"), (0, u "B"), (2, u "hash"), (0, u "I"), (2, u "hashIsZero"), (0, u "Z"), (0, .methodref 10 28), (0, .nameAndType 5 29), (0, u "([CIILjava/lang/Void;)V"), (8, .fieldref 10 39), (0, .nameAndType 40 26), (0, u "COMPACT_STRINGS"), (1, .class_ 44), (1, u "java/lang/StringUTF16"), (0, u "compress"), (1, .methodref 42 48), (0, .nameAndType 49 50), (0, u "coderFromArrayLen"), (0, u "([BI)B"), (3, .methodref 55 56), (0, .class_ 57), (0, .nameAndType 58 59), (0, u "java/util/Arrays"), (0, u "copyOfRange"), (0, u "([BII)[B"), (47, .class_ 109), (1, u "java/lang/StringLatin1"), (32, u "()Z"), (34, .methodref 42 178), (0, .nameAndType 45 179), (0, u "([CII)[B"), (13, .class_ 195), (1, u "java/lang/System"), (16, .methodref 193 213), (0, .nameAndType 214 215), (0, u "arraycopy"), (0, u "(Ljava/lang/Object;ILjava/lang/Object;II)V"), (118, u "()I"), (0, .methodref 10 336), (0, .nameAndType 17 337), (0, u "()B"), (2, u "()[B"), (22, u "([BI)C"), (27, u "(II)V"), (35, u "(I)C"), (61, .methodref 10 490), (0, .nameAndType 5 491), (0, u "(Ljava/lang/AbstractStringBuilder;Ljava/lang/Void;)V"), (0, .methodref 10 493), (0, .nameAndType 494 142), (0, u "isLatin1"), (0, .methodref 107 496), (0, .nameAndType 497 363), (0, u "charAt"), (3, u "checkIndex"), (4, .nameAndType 507 334), (0, u "length"), (24, u "getBytes"), (16, .methodref 550 506), (0, .class_ 551), (0, u "java/lang/AbstractStringBuilder"), (0, .methodref 550 553), (0, .nameAndType 554 340), (0, u "getValue"), (20, .class_ 576), (0, u "java/lang/CharSequence"), (22, u "CASE_INSENSITIVE_ORDER"), (0, u "Ljava/util/Comparator;"), (220, u "([BIB)V"), (188, u "([C)V"), (36, .methodref 550 493), (5, .fieldref 1054 1055), (0, .class_ 1056), (0, .nameAndType 1057 1058), (0, u "jdk/internal/util/Preconditions"), (0, u "SIOOBE_FORMATTER"), (0, u "Ljava/util/function/BiFunction;"), (0, .methodref 1054 1060), (0, .nameAndType 501 1061), (0, u "(IILjava/util/function/BiFunction;)I"), (39, u "serialPersistentFields"), (0, u "[Ljava/io/ObjectStreamField;"), (0, .class_ 1104), (0, u "java/lang/String$CaseInsensitiveComparator"), (1, .class_ 1107), (0, u "java/io/Serializable"), (0, .class_ 1109), (0, u "java/lang/Comparable"), (0, .class_ 1111), (0, u "java/lang/constant/Constable"), (0, .class_ 1113), (0, u "java/lang/constant/ConstantDesc"), (2, u "serialVersionUID"), (0, u "J"), (3, u "REPL"), (0, u "C"), (2, u "LATIN1"), (1, u "UTF16"), (105, u "(Ljava/lang/StringBuilder;)V")] 217

def k7m0 : Method := { name := "<init>", desc := "()V", sig := { parameters := [], returnType := none }, accessFlags := 1, code := none }
def k7c1 : Code := { maxStack := 5, maxLocals := 2, code := jdk_42_method_3_code, exceptionTable := #[], attributes := #[] }
def k7m1 : Method := { name := "<init>", desc := "([C)V", sig := { parameters := [(.array .char)], returnType := none }, accessFlags := 1, code := some k7c1 }
def k7c2 : Code := { maxStack := 3, maxLocals := 2, code := jdk_42_method_53_code, exceptionTable := #[], attributes := #[] }
def k7m2 : Method := { name := "<init>", desc := "(Ljava/lang/StringBuilder;)V", sig := { parameters := [(.object "java/lang/StringBuilder")], returnType := none }, accessFlags := 1, code := some k7c2 }
def k7c3 : Code := { maxStack := 2, maxLocals := 1, code := jdk_42_method_54_code, exceptionTable := #[], attributes := #[] }
def k7m3 : Method := { name := "length", desc := "()I", sig := { parameters := [], returnType := some .int }, accessFlags := 1, code := some k7c3 }
def k7c4 : Code := { maxStack := 2, maxLocals := 2, code := jdk_42_method_56_code, exceptionTable := #[], attributes := #[] }
def k7m4 : Method := { name := "charAt", desc := "(I)C", sig := { parameters := [.int], returnType := some .char }, accessFlags := 1, code := some k7c4 }
def k7c5 : Code := { maxStack := 5, maxLocals := 4, code := jdk_42_method_147_code, exceptionTable := #[], attributes := #[] }
def k7m5 : Method := { name := "getBytes", desc := "([BIB)V", sig := { parameters := [(.array .byte), .int, .byte], returnType := none }, accessFlags := 0, code := some k7c5 }
def k7c6 : Code := { maxStack := 4, maxLocals := 6, code := jdk_42_method_149_code, exceptionTable := #[], attributes := #[] }
def k7m6 : Method := { name := "<init>", desc := "([CIILjava/lang/Void;)V", sig := { parameters := [(.array .char), .int, .int, (.object "java/lang/Void")], returnType := none }, accessFlags := 2, code := some k7c6 }
def k7c7 : Code := { maxStack := 5, maxLocals := 5, code := jdk_42_method_150_code, exceptionTable := #[], attributes := #[] }
def k7m7 : Method := { name := "<init>", desc := "(Ljava/lang/AbstractStringBuilder;Ljava/lang/Void;)V", sig := { parameters := [(.object "java/lang/AbstractStringBuilder"), (.object "java/lang/Void")], returnType := none }, accessFlags := 0, code := some k7c7 }
def k7c8 : Code := { maxStack := 1, maxLocals := 1, code := jdk_42_method_152_code, exceptionTable := #[], attributes := #[] }
def k7m8 : Method := { name := "coder", desc := "()B", sig := { parameters := [], returnType := some .byte }, accessFlags := 0, code := some k7c8 }
def k7c9 : Code := { maxStack := 1, maxLocals := 1, code := jdk_42_method_154_code, exceptionTable := #[], attributes := #[] }
def k7m9 : Method := { name := "isLatin1", desc := "()Z", sig := { parameters := [], returnType := some .boolean }, accessFlags := 0, code := some k7c9 }
def k7c10 : Code := { maxStack := 3, maxLocals := 2, code := jdk_42_method_155_code, exceptionTable := #[], attributes := #[] }
def k7m10 : Method := { name := "checkIndex", desc := "(II)V", sig := { parameters := [.int, .int], returnType := none }, accessFlags := 8, code := some k7c10 }
/-- java/lang/String -/
def k7 : Class := { plain "java/lang/String" (some 0) with
  accessFlags := 49
  interfaces := #[2, 3, 4, 5, 6]
  cf := some (fileOf pool7 10 #[.nestMembers #[1103]] #[{ accessFlags := 1, nameIndex := 5, descriptorIndex := 6, attributes := #[] }, { accessFlags := 1, nameIndex := 5, descriptorIndex := 1010, attributes := #[] }, { accessFlags := 1, nameIndex := 5, descriptorIndex := 1233, attributes := #[] }, { accessFlags := 1, nameIndex := 507, descriptorIndex := 334, attributes := #[] }, { accessFlags := 1, nameIndex := 497, descriptorIndex := 427, attributes := #[] }, { accessFlags := 0, nameIndex := 532, descriptorIndex := 821, attributes := #[] }, { accessFlags := 2, nameIndex := 5, descriptorIndex := 29, attributes := #[] }, { accessFlags := 0, nameIndex := 5, descriptorIndex := 491, attributes := #[] }, { accessFlags := 0, nameIndex := 17, descriptorIndex := 337, attributes := #[] }, { accessFlags := 0, nameIndex := 494, descriptorIndex := 142, attributes := #[] }, { accessFlags := 8, nameIndex := 501, descriptorIndex := 391, attributes := #[] }] 49 2 #[1106, 1108, 575, 1110, 1112] #[{ accessFlags := 18, nameIndex := 13, descriptorIndex := 14, attributes := #[] }, { accessFlags := 18, nameIndex := 17, descriptorIndex := 18, attributes := #[] }, { accessFlags := 2, nameIndex := 21, descriptorIndex := 22, attributes := #[] }, { accessFlags := 2, nameIndex := 25, descriptorIndex := 26, attributes := #[] }, { accessFlags := 26, nameIndex := 1116, descriptorIndex := 1117, attributes := #[] }, { accessFlags := 24, nameIndex := 40, descriptorIndex := 26, attributes := #[] }, { accessFlags := 26, nameIndex := 1101, descriptorIndex := 1102, attributes := #[] }, { accessFlags := 26, nameIndex := 1121, descriptorIndex := 1122, attributes := #[] }, { accessFlags := 25, nameIndex := 599, descriptorIndex := 600, attributes := #[] }, { accessFlags := 24, nameIndex := 1125, descriptorIndex := 18, attributes := #[] }, { accessFlags := 24, nameIndex := 1127, descriptorIndex := 18, attributes := #[] }])
  fields := #[{ name := "value", type := (.array .byte), accessFlags := 18, slot := 0, constantValue := 0 }, { name := "coder", type := .byte, accessFlags := 18, slot := 1, constantValue := 0 }, { name := "hash", type := .int, accessFlags := 2, slot := 2, constantValue := 0 }, { name := "hashIsZero", type := .boolean, accessFlags := 2, slot := 3, constantValue := 0 }, { name := "serialVersionUID", type := .long, accessFlags := 26, slot := 0, constantValue := 0 }, { name := "COMPACT_STRINGS", type := .boolean, accessFlags := 24, slot := 1, constantValue := 0 }, { name := "serialPersistentFields", type := (.array (.object "java/io/ObjectStreamField")), accessFlags := 26, slot := 2, constantValue := 0 }, { name := "REPL", type := .char, accessFlags := 26, slot := 3, constantValue := 0 }, { name := "CASE_INSENSITIVE_ORDER", type := (.object "java/util/Comparator"), accessFlags := 25, slot := 4, constantValue := 0 }, { name := "LATIN1", type := .byte, accessFlags := 24, slot := 5, constantValue := 0 }, { name := "UTF16", type := .byte, accessFlags := 24, slot := 6, constantValue := 0 }]
  methods := #[k7m0, k7m1, k7m2, k7m3, k7m4, k7m5, k7m6, k7m7, k7m8, k7m9, k7m10]
  instanceTypes := #[(.array .byte), .byte, .int, .boolean]
  staticTypes := #[.long, .boolean, (.array (.object "java/io/ObjectStreamField")), .char, (.object "java/util/Comparator"), .byte, .byte]
  resolved := Array.replicate 1451 none
  statics := some 0 }

def pool8 : Array CpInfo := pool [(6, .class_ 8), (1, u "java/lang/Object"), (0, u "<init>"), (0, u "()V"), (1, .class_ 14), (1, u "java/lang/StringUTF16"), (31, u "$assertionsDisabled"), (0, u "Z"), (13, u "HI_BYTE_SHIFT"), (0, u "I"), (2, u "LO_BYTE_SHIFT"), (49, .methodref 12 116), (0, .nameAndType 117 118), (0, u "compress"), (0, u "([CI[BII)I"), (3, u "([CII)[B"), (138, u "coderFromArrayLen"), (0, u "([BI)B"), (106, .class_ 371), (1, u "java/lang/StringUTF16$LinesSpliterator"), (58, u "MAX_LENGTH"), (196, .class_ 628), (0, u "java/lang/StringUTF16$CodePointsSpliterator"), (0, .class_ 630), (0, u "java/lang/StringUTF16$CharsSpliterator")] 4

def k8m0 : Method := { name := "<init>", desc := "()V", sig := { parameters := [], returnType := none }, accessFlags := 0, code := none }
def k8c1 : Code := { maxStack := 2, maxLocals := 2, code := jdk_52_method_15_code, exceptionTable := #[], attributes := #[] }
def k8m1 : Method := { name := "coderFromArrayLen", desc := "([BI)B", sig := { parameters := [(.array .byte), .int], returnType := some .byte }, accessFlags := 8, code := some k8c1 }
def k8c2 : Code := { maxStack := 5, maxLocals := 6, code := jdk_52_method_16_code, exceptionTable := #[], attributes := #[] }
def k8m2 : Method := { name := "compress", desc := "([CII)[B", sig := { parameters := [(.array .char), .int, .int], returnType := some (.array .byte) }, accessFlags := 9, code := some k8c2 }
def k8c3 : Code := { maxStack := 3, maxLocals := 7, code := jdk_52_method_21_code, exceptionTable := #[], attributes := #[] }
def k8m3 : Method := { name := "compress", desc := "([CI[BII)I", sig := { parameters := [(.array .char), .int, (.array .byte), .int, .int], returnType := some .int }, accessFlags := 9, code := some k8c3 }
/-- java/lang/StringUTF16 -/
def k8 : Class := { plain "java/lang/StringUTF16" (some 0) with
  accessFlags := 48
  interfaces := #[]
  cf := some (fileOf pool8 12 #[.nestMembers #[627, 629, 369]] #[{ accessFlags := 0, nameIndex := 9, descriptorIndex := 10, attributes := #[] }, { accessFlags := 8, nameIndex := 261, descriptorIndex := 262, attributes := #[] }, { accessFlags := 9, nameIndex := 117, descriptorIndex := 122, attributes := #[] }, { accessFlags := 9, nameIndex := 117, descriptorIndex := 118, attributes := #[] }] 48 6 #[] #[{ accessFlags := 26, nameIndex := 61, descriptorIndex := 62, attributes := #[] }, { accessFlags := 26, nameIndex := 65, descriptorIndex := 62, attributes := #[] }, { accessFlags := 24, nameIndex := 430, descriptorIndex := 62, attributes := #[] }, { accessFlags := 4120, nameIndex := 46, descriptorIndex := 47, attributes := #[] }])
  fields := #[{ name := "HI_BYTE_SHIFT", type := .int, accessFlags := 26, slot := 0, constantValue := 0 }, { name := "LO_BYTE_SHIFT", type := .int, accessFlags := 26, slot := 1, constantValue := 0 }, { name := "MAX_LENGTH", type := .int, accessFlags := 24, slot := 2, constantValue := 0 }, { name := "$assertionsDisabled", type := .boolean, accessFlags := 4120, slot := 3, constantValue := 0 }]
  methods := #[k8m0, k8m1, k8m2, k8m3]
  instanceTypes := #[]
  staticTypes := #[.int, .int, .int, .boolean]
  resolved := Array.replicate 635 none
  statics := none }

def pool9 : Array CpInfo := pool [(1, .methodref 2 3), (0, .class_ 4), (0, .nameAndType 5 6), (0, u "java/lang/Object"), (0, u "<init>"), (0, u "()V"), (0, .class_ 8), (0, u "java/lang/Record")] 13

def k9c0 : Code := { maxStack := 1, maxLocals := 1, code := jdk_30_method_1_code, exceptionTable := #[], attributes := #[] }
def k9m0 : Method := { name := "<init>", desc := "()V", sig := { parameters := [], returnType := none }, accessFlags := 4, code := some k9c0 }
/-- java/lang/Record -/
def k9 : Class := { plain "java/lang/Record" (some 0) with
  accessFlags := 1057
  interfaces := #[]
  cf := some (fileOf pool9 7 #[] #[{ accessFlags := 4, nameIndex := 5, descriptorIndex := 6, attributes := #[] }] 1057 2 #[] #[])
  fields := #[]
  methods := #[k9m0]
  instanceTypes := #[]
  staticTypes := #[]
  resolved := Array.replicate 22 none
  statics := none }

def pool10 : Array CpInfo := pool [(1, .class_ 2), (0, u "com/example/lopa/lopa/trec/SgmlScanner$Token"), (0, .class_ 4), (0, u "java/lang/Object"), (3, .class_ 9), (0, u "com/example/lopa/lopa/trec/SgmlScanner")] 9

/-- com/example/lopa/lopa/trec/SgmlScanner$Token -/
def k10 : Class := { plain "com/example/lopa/lopa/trec/SgmlScanner$Token" (some 0) with
  accessFlags := 1536
  interfaces := #[]
  cf := some (fileOf pool10 1 #[.nestHost 8] #[] 1536 3 #[] #[])
  fields := #[]
  methods := #[]
  instanceTypes := #[]
  staticTypes := #[]
  resolved := Array.replicate 19 none
  statics := none }

def pool11 : Array CpInfo := pool [(1, .methodref 2 3), (0, .class_ 4), (0, .nameAndType 5 6), (0, u "java/lang/Record"), (0, u "<init>"), (0, u "()V"), (0, .fieldref 8 9), (0, .class_ 10), (0, .nameAndType 11 12), (0, u "com/example/lopa/lopa/trec/SgmlScanner$Tag"), (0, u "name"), (0, u "Ljava/lang/String;"), (0, .fieldref 8 14), (0, .nameAndType 15 16), (0, u "closing"), (0, u "Z"), (0, .fieldref 8 18), (0, .nameAndType 19 20), (0, u "line"), (0, u "J"), (6, .class_ 28), (0, u "java/lang/StringBuilder"), (0, .methodref 27 3), (0, .string 31), (0, u "</"), (0, .string 33), (0, u "<"), (0, .methodref 27 35), (0, .nameAndType 36 37), (0, u "append"), (0, u "(Ljava/lang/String;)Ljava/lang/StringBuilder;"), (0, .string 39), (0, u ">"), (0, .methodref 27 41), (0, .nameAndType 42 43), (0, u "toString"), (0, u "()Ljava/lang/String;"), (8, .class_ 53), (0, u "com/example/lopa/lopa/trec/SgmlScanner$Token"), (0, u "(Ljava/lang/String;ZJ)V"), (13, .class_ 69), (0, u "com/example/lopa/lopa/trec/SgmlScanner")] 22

def k11c0 : Code := { maxStack := 3, maxLocals := 5, code := prog_19_method_1_code, exceptionTable := #[], attributes := #[] }
def k11m0 : Method := { name := "<init>", desc := "(Ljava/lang/String;ZJ)V", sig := { parameters := [(.object "java/lang/String"), .boolean, .long], returnType := none }, accessFlags := 0, code := some k11c0 }
def k11c1 : Code := { maxStack := 2, maxLocals := 1, code := prog_19_method_4_code, exceptionTable := #[], attributes := #[] }
def k11m1 : Method := { name := "toString", desc := "()Ljava/lang/String;", sig := { parameters := [], returnType := some (.object "java/lang/String") }, accessFlags := 1, code := some k11c1 }
/-- com/example/lopa/lopa/trec/SgmlScanner$Tag -/
def k11 : Class := { plain "com/example/lopa/lopa/trec/SgmlScanner$Tag" (some 9) with
  accessFlags := 48
  interfaces := #[10]
  cf := some (fileOf pool11 8 #[.nestHost 68] #[{ accessFlags := 0, nameIndex := 5, descriptorIndex := 54, attributes := #[] }, { accessFlags := 1, nameIndex := 42, descriptorIndex := 43, attributes := #[] }] 48 2 #[52] #[{ accessFlags := 18, nameIndex := 11, descriptorIndex := 12, attributes := #[] }, { accessFlags := 18, nameIndex := 15, descriptorIndex := 16, attributes := #[] }, { accessFlags := 18, nameIndex := 19, descriptorIndex := 20, attributes := #[] }])
  fields := #[{ name := "name", type := (.object "java/lang/String"), accessFlags := 18, slot := 0, constantValue := 0 }, { name := "closing", type := .boolean, accessFlags := 18, slot := 1, constantValue := 0 }, { name := "line", type := .long, accessFlags := 18, slot := 2, constantValue := 0 }]
  methods := #[k11m0, k11m1]
  instanceTypes := #[(.object "java/lang/String"), .boolean, .long]
  staticTypes := #[]
  resolved := Array.replicate 92 none
  statics := none }

def pool12 : Array CpInfo := pool [(1, .class_ 2), (0, u "java/lang/Appendable"), (0, .class_ 4), (0, u "java/lang/Object")] 9

/-- java/lang/Appendable -/
def k12 : Class := { plain "java/lang/Appendable" (some 0) with
  accessFlags := 1537
  interfaces := #[]
  cf := some (fileOf pool12 1 #[] #[] 1537 3 #[] #[])
  fields := #[]
  methods := #[]
  instanceTypes := #[]
  staticTypes := #[]
  resolved := Array.replicate 14 none
  statics := none }

def pool13 : Array CpInfo := pool [(1, .class_ 2), (0, u "java/lang/String"), (0, .methodref 4 5), (0, .class_ 6), (0, .nameAndType 7 8), (0, u "java/lang/Object"), (0, u "<init>"), (0, u "()V"), (1, .class_ 12), (1, u "java/lang/AbstractStringBuilder"), (0, u "EMPTYVALUE"), (0, u "[B"), (0, .fieldref 10 16), (0, .nameAndType 17 14), (0, u "value"), (0, .fieldref 1 19), (0, .nameAndType 20 21), (0, u "COMPACT_STRINGS"), (0, u "Z"), (0, .fieldref 10 23), (0, .nameAndType 24 25), (0, u "coder"), (0, u "B"), (6, .methodref 1 33), (0, .nameAndType 34 35), (0, u "length"), (0, u "()I"), (4, .methodref 1 41), (0, .nameAndType 24 42), (0, u "()B"), (2, u "append"), (0, u "(Ljava/lang/String;)Ljava/lang/AbstractStringBuilder;"), (1, .class_ 49), (0, u "java/lang/CharSequence"), (19, u "(Ljava/lang/String;)V"), (5, u "maybeLatin1"), (3, .fieldref 10 80), (0, .nameAndType 81 82), (0, u "count"), (0, u "I"), (2, u "isLatin1"), (0, u "()Z"), (13, .methodref 10 101), (0, .nameAndType 102 103), (0, u "ensureCapacityInternal"), (0, u "(I)V"), (104, .methodref 10 209), (0, .nameAndType 210 211), (0, u "putStringAt"), (0, u "(ILjava/lang/String;)V"), (5, u "inflateIfNeededFor"), (2, .nameAndType 221 222), (0, u "getBytes"), (0, u "([BIB)V"), (174, .methodref 10 398), (0, .nameAndType 217 69), (0, .methodref 1 220), (3, u "()[B"), (40, .class_ 445), (0, u "java/lang/Appendable"), (106, u "getValue")] 56

def k13m0 : Method := { name := "<init>", desc := "()V", sig := { parameters := [], returnType := none }, accessFlags := 0, code := none }
def k13c1 : Code := { maxStack := 2, maxLocals := 2, code := jdk_68_method_2_code, exceptionTable := #[], attributes := #[] }
def k13m1 : Method := { name := "<init>", desc := "(I)V", sig := { parameters := [.int], returnType := none }, accessFlags := 0, code := some k13c1 }
def k13c2 : Code := { maxStack := 1, maxLocals := 1, code := jdk_68_method_6_code, exceptionTable := #[], attributes := #[] }
def k13m2 : Method := { name := "length", desc := "()I", sig := { parameters := [], returnType := some .int }, accessFlags := 1, code := some k13c2 }
def k13c3 : Code := { maxStack := 4, maxLocals := 3, code := jdk_68_method_9_code, exceptionTable := #[], attributes := #[] }
def k13m3 : Method := { name := "ensureCapacityInternal", desc := "(I)V", sig := { parameters := [.int], returnType := none }, accessFlags := 2, code := some k13c3 }
def k13c4 : Code := { maxStack := 3, maxLocals := 3, code := jdk_68_method_22_code, exceptionTable := #[], attributes := #[] }
def k13m4 : Method := { name := "append", desc := "(Ljava/lang/String;)Ljava/lang/AbstractStringBuilder;", sig := { parameters := [(.object "java/lang/String")], returnType := some (.object "java/lang/AbstractStringBuilder") }, accessFlags := 1, code := some k13c4 }
def k13c5 : Code := { maxStack := 1, maxLocals := 1, code := jdk_68_method_64_code, exceptionTable := #[], attributes := #[] }
def k13m5 : Method := { name := "getValue", desc := "()[B", sig := { parameters := [], returnType := some (.array .byte) }, accessFlags := 16, code := some k13c5 }
def k13c6 : Code := { maxStack := 1, maxLocals := 1, code := jdk_68_method_68_code, exceptionTable := #[], attributes := #[] }
def k13m6 : Method := { name := "isLatin1", desc := "()Z", sig := { parameters := [], returnType := some .boolean }, accessFlags := 16, code := some k13c6 }
def k13c7 : Code := { maxStack := 2, maxLocals := 2, code := jdk_68_method_71_code, exceptionTable := #[], attributes := #[] }
def k13m7 : Method := { name := "inflateIfNeededFor", desc := "(Ljava/lang/String;)V", sig := { parameters := [(.object "java/lang/String")], returnType := none }, accessFlags := 2, code := some k13c7 }
def k13c8 : Code := { maxStack := 4, maxLocals := 3, code := jdk_68_method_73_code, exceptionTable := #[], attributes := #[] }
def k13m8 : Method := { name := "putStringAt", desc := "(ILjava/lang/String;)V", sig := { parameters := [.int, (.object "java/lang/String")], returnType := none }, accessFlags := 2, code := some k13c8 }
/-- java/lang/AbstractStringBuilder -/
def k13 : Class := { plain "java/lang/AbstractStringBuilder" (some 0) with
  accessFlags := 1056
  interfaces := #[12, 4]
  cf := some (fileOf pool13 10 #[] #[{ accessFlags := 0, nameIndex := 7, descriptorIndex := 8, attributes := #[] }, { accessFlags := 0, nameIndex := 7, descriptorIndex := 103, attributes := #[] }, { accessFlags := 1, nameIndex := 34, descriptorIndex := 35, attributes := #[] }, { accessFlags := 2, nameIndex := 102, descriptorIndex := 103, attributes := #[] }, { accessFlags := 1, nameIndex := 45, descriptorIndex := 46, attributes := #[] }, { accessFlags := 16, nameIndex := 552, descriptorIndex := 403, attributes := #[] }, { accessFlags := 16, nameIndex := 85, descriptorIndex := 86, attributes := #[] }, { accessFlags := 2, nameIndex := 217, descriptorIndex := 69, attributes := #[] }, { accessFlags := 2, nameIndex := 210, descriptorIndex := 211, attributes := #[] }] 1056 4 #[444, 48] #[{ accessFlags := 0, nameIndex := 17, descriptorIndex := 14, attributes := #[] }, { accessFlags := 0, nameIndex := 24, descriptorIndex := 25, attributes := #[] }, { accessFlags := 0, nameIndex := 75, descriptorIndex := 21, attributes := #[] }, { accessFlags := 0, nameIndex := 81, descriptorIndex := 82, attributes := #[] }, { accessFlags := 26, nameIndex := 13, descriptorIndex := 14, attributes := #[] }])
  fields := #[{ name := "value", type := (.array .byte), accessFlags := 0, slot := 0, constantValue := 0 }, { name := "coder", type := .byte, accessFlags := 0, slot := 1, constantValue := 0 }, { name := "maybeLatin1", type := .boolean, accessFlags := 0, slot := 2, constantValue := 0 }, { name := "count", type := .int, accessFlags := 0, slot := 3, constantValue := 0 }, { name := "EMPTYVALUE", type := (.array .byte), accessFlags := 26, slot := 0, constantValue := 0 }]
  methods := #[k13m0, k13m1, k13m2, k13m3, k13m4, k13m5, k13m6, k13m7, k13m8]
  instanceTypes := #[(.array .byte), .byte, .boolean, .int]
  staticTypes := #[(.array .byte)]
  resolved := Array.replicate 609 none
  statics := none }

def pool14 : Array CpInfo := pool [(1, .methodref 2 3), (0, .class_ 4), (0, .nameAndType 5 6), (0, u "java/lang/AbstractStringBuilder"), (0, u "<init>"), (0, u "(I)V"), (11, .class_ 20), (1, u "java/lang/String"), (3, .class_ 26), (1, u "java/lang/StringBuilder"), (0, u "append"), (0, u "(Ljava/lang/String;)Ljava/lang/StringBuilder;"), (0, .methodref 2 30), (0, .nameAndType 27 31), (0, u "(Ljava/lang/String;)Ljava/lang/AbstractStringBuilder;"), (105, .methodref 18 138), (0, .nameAndType 5 139), (0, u "(Ljava/lang/StringBuilder;)V"), (5, u "()V"), (10, u "()I"), (186, .methodref 2 344), (0, .nameAndType 345 156), (0, u "length"), (3, .class_ 350), (0, u "java/lang/Appendable"), (0, .class_ 352), (0, u "java/io/Serializable"), (0, .class_ 354), (0, u "java/lang/Comparable"), (0, .class_ 356), (0, u "java/lang/CharSequence"), (0, u "serialVersionUID"), (0, u "J"), (40, u "toString"), (0, u "()Ljava/lang/String;")] 21

def k14c0 : Code := { maxStack := 2, maxLocals := 1, code := jdk_67_method_1_code, exceptionTable := #[], attributes := #[] }
def k14m0 : Method := { name := "<init>", desc := "()V", sig := { parameters := [], returnType := none }, accessFlags := 1, code := some k14c0 }
def k14c1 : Code := { maxStack := 2, maxLocals := 2, code := jdk_67_method_7_code, exceptionTable := #[], attributes := #[] }
def k14m1 : Method := { name := "append", desc := "(Ljava/lang/String;)Ljava/lang/StringBuilder;", sig := { parameters := [(.object "java/lang/String")], returnType := some (.object "java/lang/StringBuilder") }, accessFlags := 1, code := some k14c1 }
def k14c2 : Code := { maxStack := 3, maxLocals := 1, code := jdk_67_method_42_code, exceptionTable := #[], attributes := #[] }
def k14m2 : Method := { name := "toString", desc := "()Ljava/lang/String;", sig := { parameters := [], returnType := some (.object "java/lang/String") }, accessFlags := 1, code := some k14c2 }
def k14c3 : Code := { maxStack := 1, maxLocals := 1, code := jdk_67_method_93_code, exceptionTable := #[], attributes := #[] }
def k14m3 : Method := { name := "length", desc := "()I", sig := { parameters := [], returnType := some .int }, accessFlags := 4161, code := some k14c3 }
/-- java/lang/StringBuilder -/
def k14 : Class := { plain "java/lang/StringBuilder" (some 13) with
  accessFlags := 49
  interfaces := #[12, 2, 3, 4]
  cf := some (fileOf pool14 24 #[] #[{ accessFlags := 1, nameIndex := 5, descriptorIndex := 145, attributes := #[] }, { accessFlags := 1, nameIndex := 27, descriptorIndex := 28, attributes := #[] }, { accessFlags := 1, nameIndex := 399, descriptorIndex := 400, attributes := #[] }, { accessFlags := 4161, nameIndex := 345, descriptorIndex := 156, attributes := #[] }] 49 2 #[349, 351, 353, 355] #[{ accessFlags := 24, nameIndex := 357, descriptorIndex := 358, attributes := #[] }])
  fields := #[{ name := "serialVersionUID", type := .long, accessFlags := 24, slot := 0, constantValue := 0 }]
  methods := #[k14m0, k14m1, k14m2, k14m3]
  instanceTypes := #[(.array .byte), .byte, .boolean, .int]
  staticTypes := #[.long]
  resolved := Array.replicate 422 none
  statics := none }

def pool15 : Array CpInfo := pool [(2, .class_ 4), (1, u "java/lang/Object"), (0, u "<init>"), (0, u "()V"), (1, .class_ 10), (1, u "java/lang/System"), (0, u "allowSecurityManager"), (0, u "I"), (16, u "cons"), (0, u "Ljava/io/Console;"), (77, .class_ 110), (1, u "java/lang/System$CallersHolder"), (43, u "initialErrStream"), (0, u "Ljava/io/PrintStream;"), (19, u "security"), (0, u "Ljava/lang/SecurityManager;"), (31, .class_ 209), (0, u "java/lang/System$1"), (7, u "props"), (0, u "Ljava/util/Properties;"), (2, u "lineSeparator"), (0, u "Ljava/lang/String;"), (96, .class_ 321), (1, u "java/lang/System$LoggerFinder"), (5, .class_ 328), (0, u "java/lang/System$Logger"), (67, u "err"), (2, u "out"), (91, u "notSupportedJnuEncoding"), (15, u "in"), (17, u "initialIn"), (0, u "Ljava/io/InputStream;"), (35, u "bootLayer"), (0, u "Ljava/lang/ModuleLayer;"), (99, .class_ 664), (0, u "java/lang/System$2"), (9, u "NEVER"), (2, u "MAYBE"), (49, u "arraycopy"), (0, u "(Ljava/lang/Object;ILjava/lang/Object;II)V"), (72, .class_ 802), (0, u "java/lang/System$Logger$Level")] 31

def k15m0 : Method := { name := "<init>", desc := "()V", sig := { parameters := [], returnType := none }, accessFlags := 2, code := none }
def k15m1 : Method := { name := "arraycopy", desc := "(Ljava/lang/Object;ILjava/lang/Object;II)V", sig := { parameters := [(.object "java/lang/Object"), .int, (.object "java/lang/Object"), .int, .int], returnType := none }, accessFlags := 265, code := none }
/-- java/lang/System -/
def k15 : Class := { plain "java/lang/System" (some 0) with
  accessFlags := 49
  interfaces := #[]
  cf := some (fileOf pool15 8 #[.nestMembers #[319, 327, 801, 108, 663, 208]] #[{ accessFlags := 2, nameIndex := 5, descriptorIndex := 6, attributes := #[] }, { accessFlags := 265, nameIndex := 727, descriptorIndex := 728, attributes := #[] }] 49 2 #[] #[{ accessFlags := 25, nameIndex := 507, descriptorIndex := 526, attributes := #[] }, { accessFlags := 25, nameIndex := 399, descriptorIndex := 155, attributes := #[] }, { accessFlags := 25, nameIndex := 396, descriptorIndex := 155, attributes := #[] }, { accessFlags := 10, nameIndex := 525, descriptorIndex := 526, attributes := #[] }, { accessFlags := 26, nameIndex := 674, descriptorIndex := 12, attributes := #[] }, { accessFlags := 26, nameIndex := 677, descriptorIndex := 12, attributes := #[] }, { accessFlags := 10, nameIndex := 11, descriptorIndex := 12, attributes := #[] }, { accessFlags := 74, nameIndex := 175, descriptorIndex := 176, attributes := #[] }, { accessFlags := 10, nameIndex := 491, descriptorIndex := 222, attributes := #[] }, { accessFlags := 74, nameIndex := 29, descriptorIndex := 30, attributes := #[] }, { accessFlags := 74, nameIndex := 154, descriptorIndex := 155, attributes := #[] }, { accessFlags := 10, nameIndex := 217, descriptorIndex := 218, attributes := #[] }, { accessFlags := 10, nameIndex := 221, descriptorIndex := 222, attributes := #[] }, { accessFlags := 8, nameIndex := 562, descriptorIndex := 563, attributes := #[] }])
  fields := #[{ name := "in", type := (.object "java/io/InputStream"), accessFlags := 25, slot := 0, constantValue := 0 }, { name := "out", type := (.object "java/io/PrintStream"), accessFlags := 25, slot := 1, constantValue := 0 }, { name := "err", type := (.object "java/io/PrintStream"), accessFlags := 25, slot := 2, constantValue := 0 }, { name := "initialIn", type := (.object "java/io/InputStream"), accessFlags := 10, slot := 3, constantValue := 0 }, { name := "NEVER", type := .int, accessFlags := 26, slot := 4, constantValue := 0 }, { name := "MAYBE", type := .int, accessFlags := 26, slot := 5, constantValue := 0 }, { name := "allowSecurityManager", type := .int, accessFlags := 10, slot := 6, constantValue := 0 }, { name := "security", type := (.object "java/lang/SecurityManager"), accessFlags := 74, slot := 7, constantValue := 0 }, { name := "notSupportedJnuEncoding", type := (.object "java/lang/String"), accessFlags := 10, slot := 8, constantValue := 0 }, { name := "cons", type := (.object "java/io/Console"), accessFlags := 74, slot := 9, constantValue := 0 }, { name := "initialErrStream", type := (.object "java/io/PrintStream"), accessFlags := 74, slot := 10, constantValue := 0 }, { name := "props", type := (.object "java/util/Properties"), accessFlags := 10, slot := 11, constantValue := 0 }, { name := "lineSeparator", type := (.object "java/lang/String"), accessFlags := 10, slot := 12, constantValue := 0 }, { name := "bootLayer", type := (.object "java/lang/ModuleLayer"), accessFlags := 8, slot := 13, constantValue := 0 }]
  methods := #[k15m0, k15m1]
  instanceTypes := #[]
  staticTypes := #[(.object "java/io/InputStream"), (.object "java/io/PrintStream"), (.object "java/io/PrintStream"), (.object "java/io/InputStream"), .int, .int, .int, (.object "java/lang/SecurityManager"), (.object "java/lang/String"), (.object "java/io/Console"), (.object "java/io/PrintStream"), (.object "java/util/Properties"), (.object "java/lang/String"), (.object "java/lang/ModuleLayer")]
  resolved := Array.replicate 834 none
  statics := none }

def pool16 : Array CpInfo := pool [(2, .class_ 4), (1, u "java/lang/Object"), (0, u "<init>"), (0, u "()V"), (7, .class_ 16), (1, u "java/util/Arrays"), (57, .class_ 76), (1, u "java/util/Arrays$NaturalOrder"), (36, .class_ 115), (1, u "java/util/Arrays$LegacyMergeSort"), (1, u "Z"), (21, u "copyOfRange"), (10, .methodref 151 152), (0, .class_ 153), (0, .nameAndType 154 155), (0, u "java/lang/System"), (0, u "arraycopy"), (0, u "(Ljava/lang/Object;ILjava/lang/Object;II)V"), (148, .methodref 305 306), (0, .class_ 307), (0, .nameAndType 308 309), (0, u "java/lang/Math"), (0, u "min"), (0, u "(II)I"), (29, .methodref 14 340), (0, .nameAndType 341 342), (0, u "copyOfRangeByte"), (0, u "([BII)[B"), (0, .methodref 14 344), (0, .nameAndType 345 346), (0, u "checkLength"), (0, u "(II)V"), (28, .class_ 376), (0, u "java/util/Arrays$ArrayList"), (68, u "$assertionsDisabled"), (269, u "MIN_ARRAY_SORT_GRAN"), (0, u "I"), (2, u "INSERTIONSORT_THRESHOLD"), (255, .class_ 976), (0, u "java/util/Arrays$ArrayItr")] 52

def k16m0 : Method := { name := "<init>", desc := "()V", sig := { parameters := [], returnType := none }, accessFlags := 2, code := none }
def k16c1 : Code := { maxStack := 4, maxLocals := 2, code := jdk_65_method_131_code, exceptionTable := #[], attributes := #[] }
def k16m1 : Method := { name := "checkLength", desc := "(II)V", sig := { parameters := [.int, .int], returnType := none }, accessFlags := 10, code := some k16c1 }
def k16c2 : Code := { maxStack := 3, maxLocals := 3, code := jdk_65_method_132_code, exceptionTable := #[], attributes := #[] }
def k16m2 : Method := { name := "copyOfRange", desc := "([BII)[B", sig := { parameters := [(.array .byte), .int, .int], returnType := some (.array .byte) }, accessFlags := 9, code := some k16c2 }
def k16c3 : Code := { maxStack := 6, maxLocals := 5, code := jdk_65_method_133_code, exceptionTable := #[], attributes := #[] }
def k16m3 : Method := { name := "copyOfRangeByte", desc := "([BII)[B", sig := { parameters := [(.array .byte), .int, .int], returnType := some (.array .byte) }, accessFlags := 10, code := some k16c3 }
/-- java/util/Arrays -/
def k16 : Class := { plain "java/util/Arrays" (some 0) with
  accessFlags := 49
  interfaces := #[]
  cf := some (fileOf pool16 14 #[.nestMembers #[975, 375, 113, 74]] #[{ accessFlags := 2, nameIndex := 5, descriptorIndex := 6, attributes := #[] }, { accessFlags := 10, nameIndex := 345, descriptorIndex := 346, attributes := #[] }, { accessFlags := 9, nameIndex := 139, descriptorIndex := 342, attributes := #[] }, { accessFlags := 10, nameIndex := 341, descriptorIndex := 342, attributes := #[] }] 49 2 #[] #[{ accessFlags := 26, nameIndex := 715, descriptorIndex := 716, attributes := #[] }, { accessFlags := 26, nameIndex := 719, descriptorIndex := 716, attributes := #[] }, { accessFlags := 4120, nameIndex := 445, descriptorIndex := 117, attributes := #[] }])
  fields := #[{ name := "MIN_ARRAY_SORT_GRAN", type := .int, accessFlags := 26, slot := 0, constantValue := 0 }, { name := "INSERTIONSORT_THRESHOLD", type := .int, accessFlags := 26, slot := 1, constantValue := 0 }, { name := "$assertionsDisabled", type := .boolean, accessFlags := 4120, slot := 2, constantValue := 0 }]
  methods := #[k16m0, k16m1, k16m2, k16m3]
  instanceTypes := #[]
  staticTypes := #[.int, .int, .boolean]
  resolved := Array.replicate 1029 none
  statics := none }

def pool17 : Array CpInfo := pool [(1, .class_ 2), (0, u "java/lang/Math"), (1, .class_ 6), (1, u "java/lang/Object"), (0, u "<init>"), (0, u "()V"), (89, .class_ 100), (1, u "java/lang/Math$RandomNumberGeneratorHolder"), (71, u "negativeZeroFloatBits"), (0, u "J"), (2, u "negativeZeroDoubleBits"), (24, u "min"), (43, u "$assertionsDisabled"), (0, u "Z"), (88, u "(II)I"), (2, u "twoToTheDoubleScaleDown"), (0, u "D"), (4, u "twoToTheDoubleScaleUp"), (9, u "E"), (3, u "PI"), (2, u "TAU"), (2, u "DEGREES_TO_RADIANS"), (0, u "RADIANS_TO_DEGREES")] 94

def k17m0 : Method := { name := "<init>", desc := "()V", sig := { parameters := [], returnType := none }, accessFlags := 2, code := none }
def k17c1 : Code := { maxStack := 2, maxLocals := 2, code := jdk_29_method_69_code, exceptionTable := #[], attributes := #[] }
def k17m1 : Method := { name := "min", desc := "(II)I", sig := { parameters := [.int, .int], returnType := some .int }, accessFlags := 9, code := some k17c1 }
/-- java/lang/Math -/
def k17 : Class := { plain "java/lang/Math" (some 0) with
  accessFlags := 49
  interfaces := #[]
  cf := some (fileOf pool17 1 #[.nestMembers #[98]] #[{ accessFlags := 2, nameIndex := 7, descriptorIndex := 8, attributes := #[] }, { accessFlags := 9, nameIndex := 201, descriptorIndex := 335, attributes := #[] }] 49 4 #[] #[{ accessFlags := 25, nameIndex := 354, descriptorIndex := 339, attributes := #[] }, { accessFlags := 25, nameIndex := 358, descriptorIndex := 339, attributes := #[] }, { accessFlags := 25, nameIndex := 361, descriptorIndex := 339, attributes := #[] }, { accessFlags := 26, nameIndex := 364, descriptorIndex := 339, attributes := #[] }, { accessFlags := 26, nameIndex := 365, descriptorIndex := 339, attributes := #[] }, { accessFlags := 26, nameIndex := 172, descriptorIndex := 173, attributes := #[] }, { accessFlags := 26, nameIndex := 176, descriptorIndex := 173, attributes := #[] }, { accessFlags := 8, nameIndex := 344, descriptorIndex := 339, attributes := #[] }, { accessFlags := 8, nameIndex := 338, descriptorIndex := 339, attributes := #[] }, { accessFlags := 4120, nameIndex := 245, descriptorIndex := 246, attributes := #[] }])
  fields := #[{ name := "E", type := .double, accessFlags := 25, slot := 0, constantValue := 0 }, { name := "PI", type := .double, accessFlags := 25, slot := 1, constantValue := 0 }, { name := "TAU", type := .double, accessFlags := 25, slot := 2, constantValue := 0 }, { name := "DEGREES_TO_RADIANS", type := .double, accessFlags := 26, slot := 3, constantValue := 0 }, { name := "RADIANS_TO_DEGREES", type := .double, accessFlags := 26, slot := 4, constantValue := 0 }, { name := "negativeZeroFloatBits", type := .long, accessFlags := 26, slot := 5, constantValue := 0 }, { name := "negativeZeroDoubleBits", type := .long, accessFlags := 26, slot := 6, constantValue := 0 }, { name := "twoToTheDoubleScaleUp", type := .double, accessFlags := 8, slot := 7, constantValue := 0 }, { name := "twoToTheDoubleScaleDown", type := .double, accessFlags := 8, slot := 8, constantValue := 0 }, { name := "$assertionsDisabled", type := .boolean, accessFlags := 4120, slot := 9, constantValue := 0 }]
  methods := #[k17m0, k17m1]
  instanceTypes := #[]
  staticTypes := #[.double, .double, .double, .double, .double, .long, .long, .double, .double, .boolean]
  resolved := Array.replicate 460 none
  statics := none }

def pool18 : Array CpInfo := pool [(1, .class_ 2), (0, u "java/lang/String"), (1, .class_ 6), (1, u "java/lang/Object"), (0, u "<init>"), (0, u "()V"), (0, .methodref 1 10), (0, .nameAndType 11 12), (0, u "checkIndex"), (0, u "(II)V"), (1, .class_ 16), (1, u "java/lang/StringLatin1"), (36, u "([BI)C"), (67, u "$assertionsDisabled"), (0, u "Z"), (98, .class_ 223), (1, u "java/lang/StringLatin1$LinesSpliterator"), (28, u "charAt"), (137, .class_ 391), (0, u "java/lang/StringLatin1$CharsSpliterator")] 3

def k18m0 : Method := { name := "<init>", desc := "()V", sig := { parameters := [], returnType := none }, accessFlags := 0, code := none }
def k18c1 : Code := { maxStack := 2, maxLocals := 2, code := jdk_43_method_2_code, exceptionTable := #[], attributes := #[] }
def k18m1 : Method := { name := "charAt", desc := "([BI)C", sig := { parameters := [(.array .byte), .int], returnType := some .char }, accessFlags := 9, code := some k18c1 }
/-- java/lang/StringLatin1 -/
def k18 : Class := { plain "java/lang/StringLatin1" (some 0) with
  accessFlags := 48
  interfaces := #[]
  cf := some (fileOf pool18 14 #[.nestMembers #[390, 221]] #[{ accessFlags := 0, nameIndex := 7, descriptorIndex := 8, attributes := #[] }, { accessFlags := 9, nameIndex := 252, descriptorIndex := 53, attributes := #[] }] 48 4 #[] #[{ accessFlags := 4120, nameIndex := 121, descriptorIndex := 122, attributes := #[] }])
  fields := #[{ name := "$assertionsDisabled", type := .boolean, accessFlags := 4120, slot := 0, constantValue := 0 }]
  methods := #[k18m0, k18m1]
  instanceTypes := #[]
  staticTypes := #[.boolean]
  resolved := Array.replicate 395 none
  statics := none }

def pool19 : Array CpInfo := pool [(2, .class_ 4), (1, u "java/lang/Object"), (0, u "<init>"), (0, u "()V"), (17, .class_ 26), (1, u "jdk/internal/util/Preconditions"), (6, u "checkIndex"), (21, .class_ 56), (0, u "jdk/internal/util/Preconditions$4"), (57, .class_ 115), (0, u "jdk/internal/util/Preconditions$1"), (7, u "SIOOBE_FORMATTER"), (0, u "Ljava/util/function/BiFunction;"), (0, .class_ 126), (0, u "jdk/internal/util/Preconditions$2"), (3, u "AIOOBE_FORMATTER"), (0, .class_ 132), (0, u "jdk/internal/util/Preconditions$3"), (3, u "IOOBE_FORMATTER"), (41, u "(IILjava/util/function/BiFunction;)I")] 15

def k19m0 : Method := { name := "<init>", desc := "()V", sig := { parameters := [], returnType := none }, accessFlags := 1, code := none }
def k19c1 : Code := { maxStack := 3, maxLocals := 3, code := jdk_41_method_11_code, exceptionTable := #[], attributes := #[] }
def k19m1 : Method := { name := "checkIndex", desc := "(IILjava/util/function/BiFunction;)I", sig := { parameters := [.int, .int, (.object "java/util/function/BiFunction")], returnType := some .int }, accessFlags := 9, code := some k19c1 }
/-- jdk/internal/util/Preconditions -/
def k19 : Class := { plain "jdk/internal/util/Preconditions" (some 0) with
  accessFlags := 33
  interfaces := #[]
  cf := some (fileOf pool19 24 #[.nestMembers #[55, 131, 125, 114]] #[{ accessFlags := 1, nameIndex := 5, descriptorIndex := 6, attributes := #[] }, { accessFlags := 9, nameIndex := 33, descriptorIndex := 178, attributes := #[] }] 33 2 #[] #[{ accessFlags := 25, nameIndex := 123, descriptorIndex := 124, attributes := #[] }, { accessFlags := 25, nameIndex := 130, descriptorIndex := 124, attributes := #[] }, { accessFlags := 25, nameIndex := 136, descriptorIndex := 124, attributes := #[] }])
  fields := #[{ name := "SIOOBE_FORMATTER", type := (.object "java/util/function/BiFunction"), accessFlags := 25, slot := 0, constantValue := 0 }, { name := "AIOOBE_FORMATTER", type := (.object "java/util/function/BiFunction"), accessFlags := 25, slot := 1, constantValue := 0 }, { name := "IOOBE_FORMATTER", type := (.object "java/util/function/BiFunction"), accessFlags := 25, slot := 2, constantValue := 0 }]
  methods := #[k19m0, k19m1]
  instanceTypes := #[]
  staticTypes := #[(.object "java/util/function/BiFunction"), (.object "java/util/function/BiFunction"), (.object "java/util/function/BiFunction")]
  resolved := Array.replicate 194 none
  statics := some 1 }

def pool20 : Array CpInfo := pool [(9, u "<init>"), (6, .class_ 18), (1, u "java/lang/Object"), (0, u "()V"), (1, .class_ 23), (1, u "jdk/internal/util/ArraysSupport"), (0, u "LOG2_ARRAY_LONG_INDEX_SCALE"), (0, u "I"), (2, u "U"), (0, u "Ljdk/internal/misc/Unsafe;"), (8, u "BIG_ENDIAN"), (0, u "Z"), (8, u "LOG2_BYTE_BIT_SIZE"), (4, u "LOG2_ARRAY_INT_INDEX_SCALE"), (54, u "JLA"), (0, u "Ljdk/internal/access/JavaLangAccess;"), (11, u "LOG2_ARRAY_BOOLEAN_INDEX_SCALE"), (9, u "LOG2_ARRAY_BYTE_INDEX_SCALE"), (5, u "LOG2_ARRAY_CHAR_INDEX_SCALE"), (5, u "LOG2_ARRAY_SHORT_INDEX_SCALE"), (18, u "LOG2_ARRAY_FLOAT_INDEX_SCALE"), (24, u "LOG2_ARRAY_DOUBLE_INDEX_SCALE"), (89, u "T_BOOLEAN"), (2, u "T_CHAR"), (1, u "T_FLOAT"), (1, u "T_DOUBLE"), (1, u "T_BYTE"), (1, u "T_SHORT"), (1, u "T_INT"), (1, u "T_LONG"), (1, u "SOFT_MAX_ARRAY_LENGTH")] 83

def k20m0 : Method := { name := "<init>", desc := "()V", sig := { parameters := [], returnType := none }, accessFlags := 2, code := none }
/-- jdk/internal/util/ArraysSupport -/
def k20 : Class := { plain "jdk/internal/util/ArraysSupport" (some 0) with
  accessFlags := 33
  interfaces := #[]
  cf := some (fileOf pool20 21 #[] #[{ accessFlags := 2, nameIndex := 9, descriptorIndex := 19, attributes := #[] }] 33 16 #[] #[{ accessFlags := 24, nameIndex := 28, descriptorIndex := 29, attributes := #[] }, { accessFlags := 26, nameIndex := 38, descriptorIndex := 39, attributes := #[] }, { accessFlags := 25, nameIndex := 121, descriptorIndex := 25, attributes := #[] }, { accessFlags := 25, nameIndex := 131, descriptorIndex := 25, attributes := #[] }, { accessFlags := 25, nameIndex := 137, descriptorIndex := 25, attributes := #[] }, { accessFlags := 25, nameIndex := 143, descriptorIndex := 25, attributes := #[] }, { accessFlags := 25, nameIndex := 53, descriptorIndex := 25, attributes := #[] }, { accessFlags := 25, nameIndex := 24, descriptorIndex := 25, attributes := #[] }, { accessFlags := 25, nameIndex := 162, descriptorIndex := 25, attributes := #[] }, { accessFlags := 25, nameIndex := 187, descriptorIndex := 25, attributes := #[] }, { accessFlags := 26, nameIndex := 48, descriptorIndex := 25, attributes := #[] }, { accessFlags := 25, nameIndex := 277, descriptorIndex := 25, attributes := #[] }, { accessFlags := 25, nameIndex := 280, descriptorIndex := 25, attributes := #[] }, { accessFlags := 25, nameIndex := 282, descriptorIndex := 25, attributes := #[] }, { accessFlags := 25, nameIndex := 284, descriptorIndex := 25, attributes := #[] }, { accessFlags := 25, nameIndex := 286, descriptorIndex := 25, attributes := #[] }, { accessFlags := 25, nameIndex := 288, descriptorIndex := 25, attributes := #[] }, { accessFlags := 25, nameIndex := 290, descriptorIndex := 25, attributes := #[] }, { accessFlags := 25, nameIndex := 292, descriptorIndex := 25, attributes := #[] }, { accessFlags := 26, nameIndex := 108, descriptorIndex := 109, attributes := #[] }, { accessFlags := 25, nameIndex := 294, descriptorIndex := 25, attributes := #[] }])
  fields := #[{ name := "U", type := (.object "jdk/internal/misc/Unsafe"), accessFlags := 24, slot := 0, constantValue := 0 }, { name := "BIG_ENDIAN", type := .boolean, accessFlags := 26, slot := 1, constantValue := 0 }, { name := "LOG2_ARRAY_BOOLEAN_INDEX_SCALE", type := .int, accessFlags := 25, slot := 2, constantValue := 0 }, { name := "LOG2_ARRAY_BYTE_INDEX_SCALE", type := .int, accessFlags := 25, slot := 3, constantValue := 0 }, { name := "LOG2_ARRAY_CHAR_INDEX_SCALE", type := .int, accessFlags := 25, slot := 4, constantValue := 0 }, { name := "LOG2_ARRAY_SHORT_INDEX_SCALE", type := .int, accessFlags := 25, slot := 5, constantValue := 0 }, { name := "LOG2_ARRAY_INT_INDEX_SCALE", type := .int, accessFlags := 25, slot := 6, constantValue := 0 }, { name := "LOG2_ARRAY_LONG_INDEX_SCALE", type := .int, accessFlags := 25, slot := 7, constantValue := 0 }, { name := "LOG2_ARRAY_FLOAT_INDEX_SCALE", type := .int, accessFlags := 25, slot := 8, constantValue := 0 }, { name := "LOG2_ARRAY_DOUBLE_INDEX_SCALE", type := .int, accessFlags := 25, slot := 9, constantValue := 0 }, { name := "LOG2_BYTE_BIT_SIZE", type := .int, accessFlags := 26, slot := 10, constantValue := 0 }, { name := "T_BOOLEAN", type := .int, accessFlags := 25, slot := 11, constantValue := 0 }, { name := "T_CHAR", type := .int, accessFlags := 25, slot := 12, constantValue := 0 }, { name := "T_FLOAT", type := .int, accessFlags := 25, slot := 13, constantValue := 0 }, { name := "T_DOUBLE", type := .int, accessFlags := 25, slot := 14, constantValue := 0 }, { name := "T_BYTE", type := .int, accessFlags := 25, slot := 15, constantValue := 0 }, { name := "T_SHORT", type := .int, accessFlags := 25, slot := 16, constantValue := 0 }, { name := "T_INT", type := .int, accessFlags := 25, slot := 17, constantValue := 0 }, { name := "T_LONG", type := .int, accessFlags := 25, slot := 18, constantValue := 0 }, { name := "JLA", type := (.object "jdk/internal/access/JavaLangAccess"), accessFlags := 26, slot := 19, constantValue := 0 }, { name := "SOFT_MAX_ARRAY_LENGTH", type := .int, accessFlags := 25, slot := 20, constantValue := 0 }]
  methods := #[k20m0]
  instanceTypes := #[]
  staticTypes := #[(.object "jdk/internal/misc/Unsafe"), .boolean, .int, .int, .int, .int, .int, .int, .int, .int, .int, .int, .int, .int, .int, .int, .int, .int, .int, (.object "jdk/internal/access/JavaLangAccess"), .int]
  resolved := Array.replicate 378 none
  statics := none }

def pool21 : Array CpInfo := pool [(1, u "java/lang/Cloneable"), (0, .class_ 1), (0, u "java/lang/Object"), (0, .class_ 3)] 3

/-- java/lang/Cloneable -/
def k21 : Class := { plain "java/lang/Cloneable" (some 0) with
  accessFlags := 1537
  interfaces := #[]
  cf := some (fileOf pool21 2 #[] #[] 1537 4 #[] #[])
  fields := #[]
  methods := #[]
  instanceTypes := #[]
  staticTypes := #[]
  resolved := Array.replicate 8 none
  statics := none }

/-- the primitive byte -/
def k22 : Class := { plain "byte" none with kind := .primitive 'B', accessFlags := 0x411 }
/-- [B -/
def k23 : Class := { plain "[B" (some 0) with kind := .array 22 .byte, interfaces := #[21, 2], accessFlags := 1041 }

/-- the primitive char -/
def k24 : Class := { plain "char" none with kind := .primitive 'C', accessFlags := 0x411 }
/-- [C -/
def k25 : Class := { plain "[C" (some 0) with kind := .array 24 .char, interfaces := #[21, 2], accessFlags := 1041 }

/-- the primitive int -/
def k26 : Class := { plain "int" none with kind := .primitive 'I', accessFlags := 0x411 }
/-- [I -/
def k27 : Class := { plain "[I" (some 0) with kind := .array 26 .int, interfaces := #[21, 2], accessFlags := 1041 }

def heap : Heap := #[{ cls := 7, slots := #[.long 0, .int 1, .null, .int 0, .null, .int 0, .int 0], vm := .statics 7 },
  { cls := 19, slots := #[.null, .null, .null], vm := .statics 19 }]
def classes : Array Class := #[k0, k1, k2, k3, k4, k5, k6, k7, k8, k9, k10, k11, k12, k13, k14, k15, k16, k17, k18, k19, k20, k21, k22, k23, k24, k25, k26, k27]
def interned : List (Array UInt16 × Addr) := []
def slotsUsed : Nat := 10
def theMethod : MethodId := ⟨1, 1⟩
def args0 : Array Value := #[.int 65, .int 66, .int 67, .int 7, .long 9]
def aboutOver (below : List Frame) : State where
  vm := { classes := classes, interned := interned.toArray }
  heap := heap
  slotsUsed := slotsUsed
  threads := #[{ frames := .invoking theMethod args0 :: below }]
def below0 : List Frame := [.native { method := ⟨0, 0⟩, args := #[] }]
def about1 : State := aboutOver below0
def p0 : Program := .bare "" "" ""
def e0 : Env := launch0.env 0 0 0
theorem w_frames : about1.frames = Frame.invoking theMethod args0 :: below0 := rfl
set_option maxRecDepth 65536 in
theorem w_args : argsFit about1.vm theMethod args0 = true := by decide +kernel
set_option maxRecDepth 65536 in
theorem w_heap : heapFits about1 = true := by decide +kernel
set_option maxRecDepth 65536 in
theorem w_runnable : about1.curStatus? = some .runnable := by decide +kernel
set_option maxRecDepth 65536 in
theorem w_alone : about1.alone = true := by decide +kernel
set_option maxRecDepth 65536 in
theorem w_named : about1.methodNamed? x = some theMethod := by decide +kernel
set_option maxRecDepth 65536 in
theorem w_hears : about1.hears theMethod below0 = true := by decide +kernel
set_option maxRecDepth 65536 in
theorem w_ripe : about1.ripe theMethod args0 below0 = true := by decide +kernel
theorem w_running : about1.status = .running := rfl
set_option maxRecDepth 65536 in
theorem w_room : about1.hasRoom e0.platform room_1 = true :=
  launch0.hasRoom_least _ room_1 (by decide +kernel) (by decide +kernel) (by decide +kernel) (by decide +kernel) (by decide +kernel) (by decide +kernel)
theorem allAtoms_all (ts : List Jvm.Cond) (a : Array Jvm.Value) (st : Jvm.State) : (allAtoms ts).before a st = ts.all (fun c => c.before a st) := by
  induction ts with
  | nil => rfl
  | cons c t ih =>
    show (Jvm.Cond.and c (allAtoms t)).before a st = _
    rw [Jvm.Cond.before_and, ih, List.all_cons]
def words1 : List Jvm.Cond := Jvm.Cond.code x code maxLocals ret :: tables_1
/-- a 'code' word, met by the world's own term for the bytes: nothing is compared byte by byte -/
theorem code_word {y : MethodName} {bytes : ByteArray} {mx : Nat} {rt : Option FieldType} {a : Array Value} {s : State} {m : MethodId} {meth : Method} {c : Code} (h1 : s.methodNamed? y = some m) (h2 : s.vm.method? m = some meth) (h3 : meth.code = some c) (h4 : c.code = bytes)
    (h5 : (c.maxLocals == mx && c.exceptionTable.isEmpty && decide (c.maxStack ≤ mostOperands) && decide (meth.sig.returnType = rt) && !meth.locks && decide (parseMethodDescriptor y.desc = some meth.sig)) = true) : (Jvm.Cond.code y bytes mx rt).before a s = true := by
  simp only [Bool.and_eq_true, beq_iff_eq, Bool.not_eq_true', decide_eq_true_eq] at h5
  obtain ⟨⟨⟨⟨⟨g1, g2⟩, g3⟩, g4⟩, g5⟩, g6⟩ := h5
  simp [Cond.before, Cond.holds, Cond.value, h1, h2, h3, h4, g1, g2, g3, g4, g5, g6]
def isCode : Jvm.Cond → Bool
  | .code _ _ _ _ => true
  | _ => false
theorem all_split {L : List Jvm.Cond} {P : Jvm.Cond → Bool} (h1 : L.all (fun c => isCode c || P c) = true) (h2 : ∀ c ∈ L.filter isCode, P c = true) : L.all P = true := by
  refine List.all_eq_true.mpr fun c hc => ?_
  have h := List.all_eq_true.mp h1 c hc
  rcases Bool.eq_false_or_eq_true (isCode c) with hi | hi
  · exact h2 c (List.mem_filter.mpr ⟨hc, hi⟩)
  · simpa [hi] using h
set_option maxRecDepth 65536 in
theorem w_c0 : (Jvm.Cond.code x code maxLocals ret).before args0 about1 = true := code_word (m := ⟨1, 1⟩) (meth := k1m1) (c := k1c1) (by decide +kernel) rfl rfl rfl (by decide +kernel)
set_option maxRecDepth 65536 in
theorem w_c1 : (Jvm.Cond.code ({ cls := "java/lang/String", name := "<init>", desc := "([C)V" } : Jvm.MethodName) jdk_42_method_3_code (2 : Nat) (Option.none : Option Jvm.ClassFile.FieldType)).before args0 about1 = true := code_word (m := ⟨7, 1⟩) (meth := k7m1) (c := k7c1) (by decide +kernel) rfl rfl rfl (by decide +kernel)
set_option maxRecDepth 65536 in
theorem w_c2 : (Jvm.Cond.code ({ cls := "java/lang/String", name := "<init>", desc := "([CIILjava/lang/Void;)V" } : Jvm.MethodName) jdk_42_method_149_code (6 : Nat) (Option.none : Option Jvm.ClassFile.FieldType)).before args0 about1 = true := code_word (m := ⟨7, 6⟩) (meth := k7m6) (c := k7c6) (by decide +kernel) rfl rfl rfl (by decide +kernel)
set_option maxRecDepth 65536 in
theorem w_c3 : (Jvm.Cond.code ({ cls := "java/lang/Object", name := "<init>", desc := "()V" } : Jvm.MethodName) object_method_1_code (1 : Nat) (Option.none : Option Jvm.ClassFile.FieldType)).before args0 about1 = true := code_word (m := ⟨0, 0⟩) (meth := k0m0) (c := k0c0) (by decide +kernel) rfl rfl rfl (by decide +kernel)
set_option maxRecDepth 65536 in
theorem w_c4 : (Jvm.Cond.code ({ cls := "java/lang/StringUTF16", name := "compress", desc := "([CII)[B" } : Jvm.MethodName) jdk_52_method_16_code (6 : Nat) (Option.some (Jvm.ClassFile.FieldType.array Jvm.ClassFile.FieldType.byte))).before args0 about1 = true := code_word (m := ⟨8, 2⟩) (meth := k8m2) (c := k8c2) (by decide +kernel) rfl rfl rfl (by decide +kernel)
set_option maxRecDepth 65536 in
theorem w_c5 : (Jvm.Cond.code ({ cls := "java/lang/StringUTF16", name := "compress", desc := "([CI[BII)I" } : Jvm.MethodName) jdk_52_method_21_code (7 : Nat) (Option.some Jvm.ClassFile.FieldType.int)).before args0 about1 = true := code_word (m := ⟨8, 3⟩) (meth := k8m3) (c := k8c3) (by decide +kernel) rfl rfl rfl (by decide +kernel)
set_option maxRecDepth 65536 in
theorem w_c6 : (Jvm.Cond.code ({ cls := "java/lang/StringUTF16", name := "coderFromArrayLen", desc := "([BI)B" } : Jvm.MethodName) jdk_52_method_15_code (2 : Nat) (Option.some Jvm.ClassFile.FieldType.byte)).before args0 about1 = true := code_word (m := ⟨8, 1⟩) (meth := k8m1) (c := k8c1) (by decide +kernel) rfl rfl rfl (by decide +kernel)
set_option maxRecDepth 65536 in
theorem w_c7 : (Jvm.Cond.code ({ cls := "com/example/lopa/lopa/trec/SgmlScanner$Tag", name := "<init>", desc := "(Ljava/lang/String;ZJ)V" } : Jvm.MethodName) prog_19_method_1_code (5 : Nat) (Option.none : Option Jvm.ClassFile.FieldType)).before args0 about1 = true := code_word (m := ⟨11, 0⟩) (meth := k11m0) (c := k11c0) (by decide +kernel) rfl rfl rfl (by decide +kernel)
set_option maxRecDepth 65536 in
theorem w_c8 : (Jvm.Cond.code ({ cls := "java/lang/Record", name := "<init>", desc := "()V" } : Jvm.MethodName) jdk_30_method_1_code (1 : Nat) (Option.none : Option Jvm.ClassFile.FieldType)).before args0 about1 = true := code_word (m := ⟨9, 0⟩) (meth := k9m0) (c := k9c0) (by decide +kernel) rfl rfl rfl (by decide +kernel)
set_option maxRecDepth 65536 in
theorem w_c9 : (Jvm.Cond.code ({ cls := "com/example/lopa/lopa/trec/SgmlScanner$Tag", name := "toString", desc := "()Ljava/lang/String;" } : Jvm.MethodName) prog_19_method_4_code (1 : Nat) (Option.some (Jvm.ClassFile.FieldType.object "java/lang/String"))).before args0 about1 = true := code_word (m := ⟨11, 1⟩) (meth := k11m1) (c := k11c1) (by decide +kernel) rfl rfl rfl (by decide +kernel)
set_option maxRecDepth 65536 in
theorem w_c10 : (Jvm.Cond.code ({ cls := "java/lang/StringBuilder", name := "<init>", desc := "()V" } : Jvm.MethodName) jdk_67_method_1_code (1 : Nat) (Option.none : Option Jvm.ClassFile.FieldType)).before args0 about1 = true := code_word (m := ⟨14, 0⟩) (meth := k14m0) (c := k14c0) (by decide +kernel) rfl rfl rfl (by decide +kernel)
set_option maxRecDepth 65536 in
theorem w_c11 : (Jvm.Cond.code ({ cls := "java/lang/AbstractStringBuilder", name := "<init>", desc := "(I)V" } : Jvm.MethodName) jdk_68_method_2_code (2 : Nat) (Option.none : Option Jvm.ClassFile.FieldType)).before args0 about1 = true := code_word (m := ⟨13, 1⟩) (meth := k13m1) (c := k13c1) (by decide +kernel) rfl rfl rfl (by decide +kernel)
set_option maxRecDepth 65536 in
theorem w_c12 : (Jvm.Cond.code ({ cls := "java/lang/StringBuilder", name := "append", desc := "(Ljava/lang/String;)Ljava/lang/StringBuilder;" } : Jvm.MethodName) jdk_67_method_7_code (2 : Nat) (Option.some (Jvm.ClassFile.FieldType.object "java/lang/StringBuilder"))).before args0 about1 = true := code_word (m := ⟨14, 1⟩) (meth := k14m1) (c := k14c1) (by decide +kernel) rfl rfl rfl (by decide +kernel)
set_option maxRecDepth 65536 in
theorem w_c13 : (Jvm.Cond.code ({ cls := "java/lang/AbstractStringBuilder", name := "append", desc := "(Ljava/lang/String;)Ljava/lang/AbstractStringBuilder;" } : Jvm.MethodName) jdk_68_method_22_code (3 : Nat) (Option.some (Jvm.ClassFile.FieldType.object "java/lang/AbstractStringBuilder"))).before args0 about1 = true := code_word (m := ⟨13, 4⟩) (meth := k13m4) (c := k13c4) (by decide +kernel) rfl rfl rfl (by decide +kernel)
set_option maxRecDepth 65536 in
theorem w_c14 : (Jvm.Cond.code ({ cls := "java/lang/String", name := "length", desc := "()I" } : Jvm.MethodName) jdk_42_method_54_code (1 : Nat) (Option.some Jvm.ClassFile.FieldType.int)).before args0 about1 = true := code_word (m := ⟨7, 3⟩) (meth := k7m3) (c := k7c3) (by decide +kernel) rfl rfl rfl (by decide +kernel)
set_option maxRecDepth 65536 in
theorem w_c15 : (Jvm.Cond.code ({ cls := "java/lang/String", name := "coder", desc := "()B" } : Jvm.MethodName) jdk_42_method_152_code (1 : Nat) (Option.some Jvm.ClassFile.FieldType.byte)).before args0 about1 = true := code_word (m := ⟨7, 8⟩) (meth := k7m8) (c := k7c8) (by decide +kernel) rfl rfl rfl (by decide +kernel)
set_option maxRecDepth 65536 in
theorem w_c16 : (Jvm.Cond.code ({ cls := "java/lang/AbstractStringBuilder", name := "ensureCapacityInternal", desc := "(I)V" } : Jvm.MethodName) jdk_68_method_9_code (3 : Nat) (Option.none : Option Jvm.ClassFile.FieldType)).before args0 about1 = true := code_word (m := ⟨13, 3⟩) (meth := k13m3) (c := k13c3) (by decide +kernel) rfl rfl rfl (by decide +kernel)
set_option maxRecDepth 65536 in
theorem w_c17 : (Jvm.Cond.code ({ cls := "java/lang/AbstractStringBuilder", name := "putStringAt", desc := "(ILjava/lang/String;)V" } : Jvm.MethodName) jdk_68_method_73_code (3 : Nat) (Option.none : Option Jvm.ClassFile.FieldType)).before args0 about1 = true := code_word (m := ⟨13, 8⟩) (meth := k13m8) (c := k13c8) (by decide +kernel) rfl rfl rfl (by decide +kernel)
set_option maxRecDepth 65536 in
theorem w_c18 : (Jvm.Cond.code ({ cls := "java/lang/AbstractStringBuilder", name := "inflateIfNeededFor", desc := "(Ljava/lang/String;)V" } : Jvm.MethodName) jdk_68_method_71_code (2 : Nat) (Option.none : Option Jvm.ClassFile.FieldType)).before args0 about1 = true := code_word (m := ⟨13, 7⟩) (meth := k13m7) (c := k13c7) (by decide +kernel) rfl rfl rfl (by decide +kernel)
set_option maxRecDepth 65536 in
theorem w_c19 : (Jvm.Cond.code ({ cls := "java/lang/String", name := "getBytes", desc := "([BIB)V" } : Jvm.MethodName) jdk_42_method_147_code (4 : Nat) (Option.none : Option Jvm.ClassFile.FieldType)).before args0 about1 = true := code_word (m := ⟨7, 5⟩) (meth := k7m5) (c := k7c5) (by decide +kernel) rfl rfl rfl (by decide +kernel)
set_option maxRecDepth 65536 in
theorem w_c20 : (Jvm.Cond.code ({ cls := "java/lang/StringBuilder", name := "toString", desc := "()Ljava/lang/String;" } : Jvm.MethodName) jdk_67_method_42_code (1 : Nat) (Option.some (Jvm.ClassFile.FieldType.object "java/lang/String"))).before args0 about1 = true := code_word (m := ⟨14, 2⟩) (meth := k14m2) (c := k14c2) (by decide +kernel) rfl rfl rfl (by decide +kernel)
set_option maxRecDepth 65536 in
theorem w_c21 : (Jvm.Cond.code ({ cls := "java/lang/String", name := "<init>", desc := "(Ljava/lang/StringBuilder;)V" } : Jvm.MethodName) jdk_42_method_53_code (2 : Nat) (Option.none : Option Jvm.ClassFile.FieldType)).before args0 about1 = true := code_word (m := ⟨7, 2⟩) (meth := k7m2) (c := k7c2) (by decide +kernel) rfl rfl rfl (by decide +kernel)
set_option maxRecDepth 65536 in
theorem w_c22 : (Jvm.Cond.code ({ cls := "java/lang/String", name := "<init>", desc := "(Ljava/lang/AbstractStringBuilder;Ljava/lang/Void;)V" } : Jvm.MethodName) jdk_42_method_150_code (5 : Nat) (Option.none : Option Jvm.ClassFile.FieldType)).before args0 about1 = true := code_word (m := ⟨7, 7⟩) (meth := k7m7) (c := k7c7) (by decide +kernel) rfl rfl rfl (by decide +kernel)
set_option maxRecDepth 65536 in
theorem w_c23 : (Jvm.Cond.code ({ cls := "java/lang/AbstractStringBuilder", name := "getValue", desc := "()[B" } : Jvm.MethodName) jdk_68_method_64_code (1 : Nat) (Option.some (Jvm.ClassFile.FieldType.array Jvm.ClassFile.FieldType.byte))).before args0 about1 = true := code_word (m := ⟨13, 5⟩) (meth := k13m5) (c := k13c5) (by decide +kernel) rfl rfl rfl (by decide +kernel)
set_option maxRecDepth 65536 in
theorem w_c24 : (Jvm.Cond.code ({ cls := "java/lang/StringBuilder", name := "length", desc := "()I" } : Jvm.MethodName) jdk_67_method_93_code (1 : Nat) (Option.some Jvm.ClassFile.FieldType.int)).before args0 about1 = true := code_word (m := ⟨14, 3⟩) (meth := k14m3) (c := k14c3) (by decide +kernel) rfl rfl rfl (by decide +kernel)
set_option maxRecDepth 65536 in
theorem w_c25 : (Jvm.Cond.code ({ cls := "java/lang/AbstractStringBuilder", name := "length", desc := "()I" } : Jvm.MethodName) jdk_68_method_6_code (1 : Nat) (Option.some Jvm.ClassFile.FieldType.int)).before args0 about1 = true := code_word (m := ⟨13, 2⟩) (meth := k13m2) (c := k13c2) (by decide +kernel) rfl rfl rfl (by decide +kernel)
set_option maxRecDepth 65536 in
theorem w_c26 : (Jvm.Cond.code ({ cls := "java/lang/AbstractStringBuilder", name := "isLatin1", desc := "()Z" } : Jvm.MethodName) jdk_68_method_68_code (1 : Nat) (Option.some Jvm.ClassFile.FieldType.boolean)).before args0 about1 = true := code_word (m := ⟨13, 6⟩) (meth := k13m6) (c := k13c6) (by decide +kernel) rfl rfl rfl (by decide +kernel)
set_option maxRecDepth 65536 in
theorem w_c27 : (Jvm.Cond.code ({ cls := "java/util/Arrays", name := "copyOfRange", desc := "([BII)[B" } : Jvm.MethodName) jdk_65_method_132_code (3 : Nat) (Option.some (Jvm.ClassFile.FieldType.array Jvm.ClassFile.FieldType.byte))).before args0 about1 = true := code_word (m := ⟨16, 2⟩) (meth := k16m2) (c := k16c2) (by decide +kernel) rfl rfl rfl (by decide +kernel)
set_option maxRecDepth 65536 in
theorem w_c28 : (Jvm.Cond.code ({ cls := "java/util/Arrays", name := "copyOfRangeByte", desc := "([BII)[B" } : Jvm.MethodName) jdk_65_method_133_code (5 : Nat) (Option.some (Jvm.ClassFile.FieldType.array Jvm.ClassFile.FieldType.byte))).before args0 about1 = true := code_word (m := ⟨16, 3⟩) (meth := k16m3) (c := k16c3) (by decide +kernel) rfl rfl rfl (by decide +kernel)
set_option maxRecDepth 65536 in
theorem w_c29 : (Jvm.Cond.code ({ cls := "java/util/Arrays", name := "checkLength", desc := "(II)V" } : Jvm.MethodName) jdk_65_method_131_code (2 : Nat) (Option.none : Option Jvm.ClassFile.FieldType)).before args0 about1 = true := code_word (m := ⟨16, 1⟩) (meth := k16m1) (c := k16c1) (by decide +kernel) rfl rfl rfl (by decide +kernel)
set_option maxRecDepth 65536 in
theorem w_c30 : (Jvm.Cond.code ({ cls := "java/lang/Math", name := "min", desc := "(II)I" } : Jvm.MethodName) jdk_29_method_69_code (2 : Nat) (Option.some Jvm.ClassFile.FieldType.int)).before args0 about1 = true := code_word (m := ⟨17, 1⟩) (meth := k17m1) (c := k17c1) (by decide +kernel) rfl rfl rfl (by decide +kernel)
set_option maxRecDepth 65536 in
theorem w_c31 : (Jvm.Cond.code ({ cls := "java/lang/String", name := "charAt", desc := "(I)C" } : Jvm.MethodName) jdk_42_method_56_code (2 : Nat) (Option.some Jvm.ClassFile.FieldType.char)).before args0 about1 = true := code_word (m := ⟨7, 4⟩) (meth := k7m4) (c := k7c4) (by decide +kernel) rfl rfl rfl (by decide +kernel)
set_option maxRecDepth 65536 in
theorem w_c32 : (Jvm.Cond.code ({ cls := "java/lang/String", name := "isLatin1", desc := "()Z" } : Jvm.MethodName) jdk_42_method_154_code (1 : Nat) (Option.some Jvm.ClassFile.FieldType.boolean)).before args0 about1 = true := code_word (m := ⟨7, 9⟩) (meth := k7m9) (c := k7c9) (by decide +kernel) rfl rfl rfl (by decide +kernel)
set_option maxRecDepth 65536 in
theorem w_c33 : (Jvm.Cond.code ({ cls := "java/lang/StringLatin1", name := "charAt", desc := "([BI)C" } : Jvm.MethodName) jdk_43_method_2_code (2 : Nat) (Option.some Jvm.ClassFile.FieldType.char)).before args0 about1 = true := code_word (m := ⟨18, 1⟩) (meth := k18m1) (c := k18c1) (by decide +kernel) rfl rfl rfl (by decide +kernel)
set_option maxRecDepth 65536 in
theorem w_c34 : (Jvm.Cond.code ({ cls := "java/lang/String", name := "checkIndex", desc := "(II)V" } : Jvm.MethodName) jdk_42_method_155_code (2 : Nat) (Option.none : Option Jvm.ClassFile.FieldType)).before args0 about1 = true := code_word (m := ⟨7, 10⟩) (meth := k7m10) (c := k7c10) (by decide +kernel) rfl rfl rfl (by decide +kernel)
set_option maxRecDepth 65536 in
theorem w_c35 : (Jvm.Cond.code ({ cls := "jdk/internal/util/Preconditions", name := "checkIndex", desc := "(IILjava/util/function/BiFunction;)I" } : Jvm.MethodName) jdk_41_method_11_code (3 : Nat) (Option.some Jvm.ClassFile.FieldType.int)).before args0 about1 = true := code_word (m := ⟨19, 1⟩) (meth := k19m1) (c := k19c1) (by decide +kernel) rfl rfl rfl (by decide +kernel)
def codes1 : List Jvm.Cond := [Jvm.Cond.code x code maxLocals ret, Jvm.Cond.code ({ cls := "java/lang/String", name := "<init>", desc := "([C)V" } : Jvm.MethodName) jdk_42_method_3_code (2 : Nat) (Option.none : Option Jvm.ClassFile.FieldType), Jvm.Cond.code ({ cls := "java/lang/String", name := "<init>", desc := "([CIILjava/lang/Void;)V" } : Jvm.MethodName) jdk_42_method_149_code (6 : Nat) (Option.none : Option Jvm.ClassFile.FieldType), Jvm.Cond.code ({ cls := "java/lang/Object", name := "<init>", desc := "()V" } : Jvm.MethodName) object_method_1_code (1 : Nat) (Option.none : Option Jvm.ClassFile.FieldType), Jvm.Cond.code ({ cls := "java/lang/StringUTF16", name := "compress", desc := "([CII)[B" } : Jvm.MethodName) jdk_52_method_16_code (6 : Nat) (Option.some (Jvm.ClassFile.FieldType.array Jvm.ClassFile.FieldType.byte)), Jvm.Cond.code ({ cls := "java/lang/StringUTF16", name := "compress", desc := "([CI[BII)I" } : Jvm.MethodName) jdk_52_method_21_code (7 : Nat) (Option.some Jvm.ClassFile.FieldType.int), Jvm.Cond.code ({ cls := "java/lang/StringUTF16", name := "coderFromArrayLen", desc := "([BI)B" } : Jvm.MethodName) jdk_52_method_15_code (2 : Nat) (Option.some Jvm.ClassFile.FieldType.byte), Jvm.Cond.code ({ cls := "com/example/lopa/lopa/trec/SgmlScanner$Tag", name := "<init>", desc := "(Ljava/lang/String;ZJ)V" } : Jvm.MethodName) prog_19_method_1_code (5 : Nat) (Option.none : Option Jvm.ClassFile.FieldType), Jvm.Cond.code ({ cls := "java/lang/Record", name := "<init>", desc := "()V" } : Jvm.MethodName) jdk_30_method_1_code (1 : Nat) (Option.none : Option Jvm.ClassFile.FieldType), Jvm.Cond.code ({ cls := "com/example/lopa/lopa/trec/SgmlScanner$Tag", name := "toString", desc := "()Ljava/lang/String;" } : Jvm.MethodName) prog_19_method_4_code (1 : Nat) (Option.some (Jvm.ClassFile.FieldType.object "java/lang/String")), Jvm.Cond.code ({ cls := "java/lang/StringBuilder", name := "<init>", desc := "()V" } : Jvm.MethodName) jdk_67_method_1_code (1 : Nat) (Option.none : Option Jvm.ClassFile.FieldType), Jvm.Cond.code ({ cls := "java/lang/AbstractStringBuilder", name := "<init>", desc := "(I)V" } : Jvm.MethodName) jdk_68_method_2_code (2 : Nat) (Option.none : Option Jvm.ClassFile.FieldType), Jvm.Cond.code ({ cls := "java/lang/StringBuilder", name := "append", desc := "(Ljava/lang/String;)Ljava/lang/StringBuilder;" } : Jvm.MethodName) jdk_67_method_7_code (2 : Nat) (Option.some (Jvm.ClassFile.FieldType.object "java/lang/StringBuilder")), Jvm.Cond.code ({ cls := "java/lang/AbstractStringBuilder", name := "append", desc := "(Ljava/lang/String;)Ljava/lang/AbstractStringBuilder;" } : Jvm.MethodName) jdk_68_method_22_code (3 : Nat) (Option.some (Jvm.ClassFile.FieldType.object "java/lang/AbstractStringBuilder")), Jvm.Cond.code ({ cls := "java/lang/String", name := "length", desc := "()I" } : Jvm.MethodName) jdk_42_method_54_code (1 : Nat) (Option.some Jvm.ClassFile.FieldType.int), Jvm.Cond.code ({ cls := "java/lang/String", name := "coder", desc := "()B" } : Jvm.MethodName) jdk_42_method_152_code (1 : Nat) (Option.some Jvm.ClassFile.FieldType.byte), Jvm.Cond.code ({ cls := "java/lang/AbstractStringBuilder", name := "ensureCapacityInternal", desc := "(I)V" } : Jvm.MethodName) jdk_68_method_9_code (3 : Nat) (Option.none : Option Jvm.ClassFile.FieldType), Jvm.Cond.code ({ cls := "java/lang/AbstractStringBuilder", name := "putStringAt", desc := "(ILjava/lang/String;)V" } : Jvm.MethodName) jdk_68_method_73_code (3 : Nat) (Option.none : Option Jvm.ClassFile.FieldType), Jvm.Cond.code ({ cls := "java/lang/AbstractStringBuilder", name := "inflateIfNeededFor", desc := "(Ljava/lang/String;)V" } : Jvm.MethodName) jdk_68_method_71_code (2 : Nat) (Option.none : Option Jvm.ClassFile.FieldType), Jvm.Cond.code ({ cls := "java/lang/String", name := "getBytes", desc := "([BIB)V" } : Jvm.MethodName) jdk_42_method_147_code (4 : Nat) (Option.none : Option Jvm.ClassFile.FieldType), Jvm.Cond.code ({ cls := "java/lang/StringBuilder", name := "toString", desc := "()Ljava/lang/String;" } : Jvm.MethodName) jdk_67_method_42_code (1 : Nat) (Option.some (Jvm.ClassFile.FieldType.object "java/lang/String")), Jvm.Cond.code ({ cls := "java/lang/String", name := "<init>", desc := "(Ljava/lang/StringBuilder;)V" } : Jvm.MethodName) jdk_42_method_53_code (2 : Nat) (Option.none : Option Jvm.ClassFile.FieldType), Jvm.Cond.code ({ cls := "java/lang/String", name := "<init>", desc := "(Ljava/lang/AbstractStringBuilder;Ljava/lang/Void;)V" } : Jvm.MethodName) jdk_42_method_150_code (5 : Nat) (Option.none : Option Jvm.ClassFile.FieldType), Jvm.Cond.code ({ cls := "java/lang/AbstractStringBuilder", name := "getValue", desc := "()[B" } : Jvm.MethodName) jdk_68_method_64_code (1 : Nat) (Option.some (Jvm.ClassFile.FieldType.array Jvm.ClassFile.FieldType.byte)), Jvm.Cond.code ({ cls := "java/lang/StringBuilder", name := "length", desc := "()I" } : Jvm.MethodName) jdk_67_method_93_code (1 : Nat) (Option.some Jvm.ClassFile.FieldType.int), Jvm.Cond.code ({ cls := "java/lang/AbstractStringBuilder", name := "length", desc := "()I" } : Jvm.MethodName) jdk_68_method_6_code (1 : Nat) (Option.some Jvm.ClassFile.FieldType.int), Jvm.Cond.code ({ cls := "java/lang/AbstractStringBuilder", name := "isLatin1", desc := "()Z" } : Jvm.MethodName) jdk_68_method_68_code (1 : Nat) (Option.some Jvm.ClassFile.FieldType.boolean), Jvm.Cond.code ({ cls := "java/util/Arrays", name := "copyOfRange", desc := "([BII)[B" } : Jvm.MethodName) jdk_65_method_132_code (3 : Nat) (Option.some (Jvm.ClassFile.FieldType.array Jvm.ClassFile.FieldType.byte)), Jvm.Cond.code ({ cls := "java/util/Arrays", name := "copyOfRangeByte", desc := "([BII)[B" } : Jvm.MethodName) jdk_65_method_133_code (5 : Nat) (Option.some (Jvm.ClassFile.FieldType.array Jvm.ClassFile.FieldType.byte)), Jvm.Cond.code ({ cls := "java/util/Arrays", name := "checkLength", desc := "(II)V" } : Jvm.MethodName) jdk_65_method_131_code (2 : Nat) (Option.none : Option Jvm.ClassFile.FieldType), Jvm.Cond.code ({ cls := "java/lang/Math", name := "min", desc := "(II)I" } : Jvm.MethodName) jdk_29_method_69_code (2 : Nat) (Option.some Jvm.ClassFile.FieldType.int), Jvm.Cond.code ({ cls := "java/lang/String", name := "charAt", desc := "(I)C" } : Jvm.MethodName) jdk_42_method_56_code (2 : Nat) (Option.some Jvm.ClassFile.FieldType.char), Jvm.Cond.code ({ cls := "java/lang/String", name := "isLatin1", desc := "()Z" } : Jvm.MethodName) jdk_42_method_154_code (1 : Nat) (Option.some Jvm.ClassFile.FieldType.boolean), Jvm.Cond.code ({ cls := "java/lang/StringLatin1", name := "charAt", desc := "([BI)C" } : Jvm.MethodName) jdk_43_method_2_code (2 : Nat) (Option.some Jvm.ClassFile.FieldType.char), Jvm.Cond.code ({ cls := "java/lang/String", name := "checkIndex", desc := "(II)V" } : Jvm.MethodName) jdk_42_method_155_code (2 : Nat) (Option.none : Option Jvm.ClassFile.FieldType), Jvm.Cond.code ({ cls := "jdk/internal/util/Preconditions", name := "checkIndex", desc := "(IILjava/util/function/BiFunction;)I" } : Jvm.MethodName) jdk_41_method_11_code (3 : Nat) (Option.some Jvm.ClassFile.FieldType.int)]
set_option maxRecDepth 65536 in
theorem codes_eq : words1.filter isCode = codes1 := rfl
theorem w_codes : ∀ c ∈ words1.filter isCode, c.before args0 about1 = true := by
  rw [codes_eq]
  intro c hc
  simp only [codes1, List.mem_cons, List.not_mem_nil, or_false] at hc
  rcases hc with rfl | rfl | rfl | rfl | rfl | rfl | rfl | rfl | rfl | rfl | rfl | rfl | rfl | rfl | rfl | rfl | rfl | rfl | rfl | rfl | rfl | rfl | rfl | rfl | rfl | rfl | rfl | rfl | rfl | rfl | rfl | rfl | rfl | rfl | rfl | rfl
  · exact w_c0
  · exact w_c1
  · exact w_c2
  · exact w_c3
  · exact w_c4
  · exact w_c5
  · exact w_c6
  · exact w_c7
  · exact w_c8
  · exact w_c9
  · exact w_c10
  · exact w_c11
  · exact w_c12
  · exact w_c13
  · exact w_c14
  · exact w_c15
  · exact w_c16
  · exact w_c17
  · exact w_c18
  · exact w_c19
  · exact w_c20
  · exact w_c21
  · exact w_c22
  · exact w_c23
  · exact w_c24
  · exact w_c25
  · exact w_c26
  · exact w_c27
  · exact w_c28
  · exact w_c29
  · exact w_c30
  · exact w_c31
  · exact w_c32
  · exact w_c33
  · exact w_c34
  · exact w_c35
set_option maxRecDepth 65536 in
theorem w_t1 : (words1.take 24).all (fun c => isCode c || c.before args0 about1) = true := by decide +kernel
set_option maxRecDepth 65536 in
theorem w_t2 : ((words1.drop 24).take 24).all (fun c => isCode c || c.before args0 about1) = true := by decide +kernel
set_option maxRecDepth 65536 in
theorem w_t3 : (((words1.drop 24).drop 24).take 24).all (fun c => isCode c || c.before args0 about1) = true := by decide +kernel
set_option maxRecDepth 65536 in
theorem w_t4 : ((((words1.drop 24).drop 24).drop 24).take 24).all (fun c => isCode c || c.before args0 about1) = true := by decide +kernel
set_option maxRecDepth 65536 in
theorem w_t5 : (((((words1.drop 24).drop 24).drop 24).drop 24).take 24).all (fun c => isCode c || c.before args0 about1) = true := by decide +kernel
set_option maxRecDepth 65536 in
theorem w_t6 : ((((((words1.drop 24).drop 24).drop 24).drop 24).drop 24).take 24).all (fun c => isCode c || c.before args0 about1) = true := by decide +kernel
set_option maxRecDepth 65536 in
theorem w_t7 : (((((((words1.drop 24).drop 24).drop 24).drop 24).drop 24).drop 24).take 24).all (fun c => isCode c || c.before args0 about1) = true := by decide +kernel
set_option maxRecDepth 65536 in
theorem w_t8 : ((((((((words1.drop 24).drop 24).drop 24).drop 24).drop 24).drop 24).drop 24).take 24).all (fun c => isCode c || c.before args0 about1) = true := by decide +kernel
set_option maxRecDepth 65536 in
theorem w_t9 : ((((((((words1.drop 24).drop 24).drop 24).drop 24).drop 24).drop 24).drop 24).drop 24).all (fun c => isCode c || c.before args0 about1) = true := by decide +kernel
theorem w_tables : (allAtoms (Jvm.Cond.code x code maxLocals ret :: tables_1)).before args0 about1 = true := by
  rw [allAtoms_all]
  show words1.all (fun c => c.before args0 about1) = true
  refine all_split ?_ w_codes
  rw [← List.take_append_drop 24 words1, List.all_append, w_t1, ← List.take_append_drop 24 (words1.drop 24), List.all_append, w_t2, ← List.take_append_drop 24 ((words1.drop 24).drop 24), List.all_append, w_t3, ← List.take_append_drop 24 (((words1.drop 24).drop 24).drop 24), List.all_append, w_t4, ← List.take_append_drop 24 ((((words1.drop 24).drop 24).drop 24).drop 24), List.all_append, w_t5, ← List.take_append_drop 24 (((((words1.drop 24).drop 24).drop 24).drop 24).drop 24), List.all_append, w_t6, ← List.take_append_drop 24 ((((((words1.drop 24).drop 24).drop 24).drop 24).drop 24).drop 24), List.all_append, w_t7, ← List.take_append_drop 24 (((((((words1.drop 24).drop 24).drop 24).drop 24).drop 24).drop 24).drop 24), List.all_append, w_t8, w_t9]
  rfl
set_option maxRecDepth 65536 in
theorem w_rest : rest_1_c.before args0 about1 = true := by decide +kernel
set_option maxRecDepth 65536 in
theorem w_case : (Jvm.Cond.and given_1 narrow_1).before args0 about1 = true := by decide +kernel
set_option maxRecDepth 65536 in
theorem w_consts : constsHeld consts_1 about1 := Jvm.Lit.constsHeldB_iff.mp (by decide +kernel)
theorem w_applies : (headSpec (Jvm.Cond.code x code maxLocals ret :: tables_1) room_1).applies x e0.platform about1 = true :=
  (Spec.applies_iff w_frames).mpr ⟨w_running, w_runnable, w_alone, w_named, w_hears, w_ripe, w_room, w_tables⟩
theorem atStart : AtStart classFile x code maxLocals ret World_1 tables_1 room_1 Calls_1 rest_1 Pre_1 launch0 p0 e0 about1 theMethod args0 below0 :=
  ⟨lists_1, trivial, launch0.admits_env _ _ _, launch0.least_env, fairChoices_fair.cas, fairChoices_fair.clock, w_frames, w_args, w_heap, w_applies, ⟨w_consts, trivial⟩, w_rest, w_case⟩
end start1
theorem witness_1 : WitnessClaimed_1 := ⟨start1.p0, start1.e0, start1.about1, start1.theMethod, start1.args0, start1.below0, start1.atStart⟩
end Jvm.Pilot.@@N@@
