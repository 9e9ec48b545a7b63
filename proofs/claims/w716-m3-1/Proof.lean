import JvmDerived
import JvmDerived.Pilot.@@N@@Statement
import JvmDerived.Pilot.@@N@@Code
set_option linter.unusedVariables false
set_option linter.unusedSimpArgs false
/- laws to paste: Road.backV, Road.lenW, Road.chN (cut by pick.py; bodies as the Statement names them) -/
namespace Jvm.Pilot.@@N@@
namespace StrChars
open Jvm Sem ClassFile Op Lib Jvm.Stand Jvm.Free.XT Jvm.Free.ALB Jvm.Free.JM Jvm.Free
open Jvm.Lib.Cold (StaticIs)
/-- a char array whose places are chars -/
def Ch (a : Addr) (A : Cell) (U : State) : Prop := Arr .char a A U ∧ Typed .char A
theorem Ch.mv {a : Addr} {A : Cell} {U U' : State} (h : Ch a A U) (hal : U.vm.Alike U'.vm) (hh : U'.heap = U.heap) : Ch a A U' := ⟨h.1.mv hal hh, h.2⟩
theorem Ch.keep {a : Addr} {A : Cell} {U U' : State} (h : Ch a A U) (hal : U.vm.Alike U'.vm) (hk : U'.heap[a]? = some A) : Ch a A U' := ⟨h.1.keep hal hk, h.2⟩
/-- what place i of a char[]'s cell holds -/
def cv (A : Cell) (i : Nat) : Int32 := match A.slots[i]? with | some (.int x) => x | _ => 0
theorem Ch.get {a : Addr} {A : Cell} {U : State} (h : Ch a A U) {i : Nat} (hi : i < A.slots.size) : A.slots[i]? = some (.int (cv A i)) := by
  have e := Array.getElem?_eq_getElem hi
  have f := h.2 i _ e
  unfold cv; rw [e]
  generalize A.slots[i] = v at f
  cases v <;> simp [fits] at f ⊢
/-- the byte that i2b leaves of a char -/
def lo8 (x : Int32) : Int32 := x.toInt8.toInt32
theorem fits_lo8 (y : Int32) : fits .byte (.int (lo8 y)) = true := by
  have h1 := y.toInt8.le_toInt
  have h2 := y.toInt8.toInt_lt
  simp only [lo8, fits, Bool.and_eq_true, decide_eq_true_eq, Int32.le_iff_toInt_le, Int8.toInt_toInt32, show (-128 : Int32).toInt = -128 from by decide, show (127 : Int32).toInt = 127 from by decide]
  omega
/-- A' is A but that each place j of lo .. hi - 1 holds f j -/
def Laid (A A' : Cell) (lo hi : Nat) (f : Nat → Value) : Prop := A'.cls = A.cls ∧ A'.vm = A.vm ∧ A'.slots.size = A.slots.size ∧ ∀ i, A'.slots[i]? = if lo ≤ i ∧ i < hi then some (f i) else A.slots[i]?
theorem Laid.zero (A : Cell) (lo : Nat) (f : Nat → Value) : Laid A A lo (lo + 0) f := ⟨rfl, rfl, rfl, fun i => by rw [if_neg (by omega)]⟩
theorem Laid.step {A Ak : Cell} {lo k : Nat} {f : Nat → Value} {v : Value} (h : Laid A Ak lo k f) (hlo : lo ≤ k) (hk : k < Ak.slots.size) (hv : v = f k) : Laid A (Ak.setSlot k v) lo (k + 1) f := by
  refine ⟨h.1, h.2.1, by simpa [Cell.setSlot] using h.2.2.1, fun i => ?_⟩
  by_cases e : k = i
  · subst e; rw [Cell.slots_setSlot_self v hk, if_pos (by omega), hv]
  · rw [Cell.slots_setSlot_ne v e, h.2.2.2 i]
    by_cases q : lo ≤ i ∧ i < k
    · rw [if_pos q, if_pos (by omega)]
    · rw [if_neg q, if_neg (by omega)]
def U16 : String := "java/lang/StringUTF16"
namespace Cmp5
def yN : MethodName := ⟨"java/lang/StringUTF16", "compress", "([CI[BII)I"⟩
abbrev yB : ByteArray := jdk_52_method_21_code
theorem d0 : decode yB 0 = .ok (.iconst 0, 1) := by decide +kernel
theorem d1 : decode yB 1 = .ok (.istore 5, 2) := by decide +kernel
theorem d3 : decode yB 3 = .ok (.iload 5, 2) := by decide +kernel
theorem d5 : decode yB 5 = .ok (.iload 4, 2) := by decide +kernel
theorem d7 : decode yB 7 = .ok (.if_icmp (.ge) 37, 3) := by decide +kernel
theorem d10 : decode yB 10 = .ok (.aload_n 0, 1) := by decide +kernel
theorem d11 : decode yB 11 = .ok (.iload_n 1, 1) := by decide +kernel
theorem d12 : decode yB 12 = .ok (.caload, 1) := by decide +kernel
theorem d13 : decode yB 13 = .ok (.istore 6, 2) := by decide +kernel
theorem d15 : decode yB 15 = .ok (.iload 6, 2) := by decide +kernel
theorem d17 : decode yB 17 = .ok (.sipush 255, 3) := by decide +kernel
theorem d20 : decode yB 20 = .ok (.if_icmp (.le) 6, 3) := by decide +kernel
theorem d26 : decode yB 26 = .ok (.aload_n 2, 1) := by decide +kernel
theorem d27 : decode yB 27 = .ok (.iload_n 3, 1) := by decide +kernel
theorem d28 : decode yB 28 = .ok (.iload 6, 2) := by decide +kernel
theorem d30 : decode yB 30 = .ok (.i2b, 1) := by decide +kernel
theorem d31 : decode yB 31 = .ok (.bastore, 1) := by decide +kernel
theorem d32 : decode yB 32 = .ok (.iinc 1 1, 3) := by decide +kernel
theorem d35 : decode yB 35 = .ok (.iinc 3 1, 3) := by decide +kernel
theorem d38 : decode yB 38 = .ok (.iinc 5 1, 3) := by decide +kernel
theorem d41 : decode yB 41 = .ok (.goto (-38), 3) := by decide +kernel
theorem d44 : decode yB 44 = .ok (.iload 4, 2) := by decide +kernel
theorem d46 : decode yB 46 = .ok (.ireturn, 1) := by decide +kernel
def site : List Cond := []
def tab : Cond := tabOf yN yB 7 (some .int) site
def P (b : Addr) (A : Cell) (d : Addr) (B : Cell) (o q len : Nat) (args : Array Value) (s : State) : Prop := args = #[.ref b, .int (Int32.ofNat o), .ref d, .int (Int32.ofNat q), .int (Int32.ofNat len)] ∧ Ch b A s ∧ Arr .byte d B s ∧ b ≠ d ∧ o + len ≤ A.slots.size ∧ q + len ≤ B.slots.size ∧ ∀ i, i < len → ¬ 255 < cv A (o + i)
def E (b : Addr) (A : Cell) (d : Addr) (B : Cell) (o q len : Nat) (r : Option Value) (s u : State) : Prop := r = some (.int (Int32.ofNat len)) ∧ ∃ B', Put d B' s u ∧ Laid B B' q (q + len) (fun j => Value.int (lo8 (cv A (o + (j - q)))))
/-- no char of the range above 255: len; the places written hold each char's low byte -/
theorem law (l : Launch) (b : Addr) (A : Cell) (d : Addr) (B : Cell) (o q len : Nat) : Law l yN 5 5 0 0 yB 7 (some .int) site (P b A d B o q len) (E b A d B o q len) (copyLocs d q len) 0 0 := by
  refine Law.of_walk (plainFor_of_name (by decide +kernel)) (by decide +kernel) (by decide +kernel) (by decide) (fun _ _ h => by rw [h.1]; rfl) (fun _ U U' hal hh h => ⟨h.1, h.2.1.mv hal hh, h.2.2.1.mv hal hh, h.2.2.2⟩) (fun r U U' V V' h1 hal h2 h => ⟨h.1, h.2.elim fun B' q => ⟨B', q.1.mv h1 h2, q.2⟩⟩) ?_
  intro p e s m args below meth c s₁ X0 hexec hbytes hml hret hlk hnm hown hh0 W hP
  obtain ⟨rfl, hA, hB, hne, l1, l2, hp⟩ := hP
  have c1 : Steps p.tables e below (s₁.setTop (entryFrame m #[.ref b, .int (Int32.ofNat o), .ref d, .int (Int32.ofNat q), .int (Int32.ofNat len)] 7)) (s₁.setTop (mkF m 0 #[.val (.ref b), .val (.int (Int32.ofNat o)), .val (.ref d), .val (.int (Int32.ofNat q)), .val (.int (Int32.ofNat len)), .unset, .unset] [])) := entry rfl
  have hA0 := hA.1.mv X0.warmed.alike hh0
  have hB0 := hB.mv X0.warmed.alike hh0
  have a31 := hA.1.2.2.2
  have c2 : Steps p.tables e below (s₁.setTop (entryFrame m #[.ref b, .int (Int32.ofNat o), .ref d, .int (Int32.ofNat q), .int (Int32.ofNat len)] 7)) (s₁.setTop (mkF m 3 #[.val (.ref b), .val (.int (Int32.ofNat o)), .val (.ref d), .val (.int (Int32.ofNat q)), .val (.int (Int32.ofNat len)), .val (.int 0), .unset] [])) := c1.trans (by
    refine iconstV X0.here hexec rfl 0 (hb hbytes d0) (by decide) ?_
    refine XS.istore X0.here hexec rfl (hb hbytes d1) rfl rfl ?_
    exact Steps.refl _)
  have loop : ∀ (r i : Nat), i + r = len → ∀ (z : Slot), (z = .unset ∨ ∃ w, z = .val w ∧ w.category = 1) → ∀ (Tl : State) (Bk : Cell), Stand p l e { frames := 0, locals := 0, cells := 0, slots := 0 } s m #[.ref b, .int (Int32.ofNat o), .ref d, .int (Int32.ofNat q), .int (Int32.ofNat len)] below meth c Tl ([] ++ copyLocs d q i) 0 0 → Put d Bk s₁ Tl → Laid B Bk q (q + i) (fun j => Value.int (lo8 (cv A (o + (j - q))))) →
      Steps p.tables e below (s₁.setTop (entryFrame m #[.ref b, .int (Int32.ofNat o), .ref d, .int (Int32.ofNat q), .int (Int32.ofNat len)] 7)) (Tl.setTop (mkF m 3 #[.val (.ref b), .val (.int (Int32.ofNat (o + i))), .val (.ref d), .val (.int (Int32.ofNat (q + i))), .val (.int (Int32.ofNat len)), .val (.int (Int32.ofNat i)), z] [])) → ∃ (T' : State) (B' : Cell) (z' : Slot), Stand p l e { frames := 0, locals := 0, cells := 0, slots := 0 } s m #[.ref b, .int (Int32.ofNat o), .ref d, .int (Int32.ofNat q), .int (Int32.ofNat len)] below meth c T' ([] ++ copyLocs d q len) 0 0 ∧ Put d B' s₁ T' ∧ Laid B B' q (q + len) (fun j => Value.int (lo8 (cv A (o + (j - q))))) ∧
      Steps p.tables e below (s₁.setTop (entryFrame m #[.ref b, .int (Int32.ofNat o), .ref d, .int (Int32.ofNat q), .int (Int32.ofNat len)] 7)) (T'.setTop (mkF m 3 #[.val (.ref b), .val (.int (Int32.ofNat (o + len))), .val (.ref d), .val (.int (Int32.ofNat (q + len))), .val (.int (Int32.ofNat len)), .val (.int (Int32.ofNat len)), z'] [])) := by
    intro r
    induction r with
    | zero =>
      intro i hi z hz Tl Bk Xl pl fl cl
      have hil : i = len := by omega
      rw [hil] at Xl fl cl
      exact ⟨Tl, Bk, z, Xl, pl, fl, cl⟩
    | succ r ih =>
      intro i hi z hz Tl Bk Xl pl fl cl
      have all := X0.warmed.alike.symm.trans Xl.warmed.alike
      have hAl := hA0.keep all (pl.other hne hA0.1)
      have hBk := hB0.like all pl.1 fl.1 fl.2.1 fl.2.2.1
      have hlt : q + i < Bk.slots.size := by rw [fl.2.2.1]; omega
      have c3 : Steps p.tables e below (s₁.setTop (entryFrame m #[.ref b, .int (Int32.ofNat o), .ref d, .int (Int32.ofNat q), .int (Int32.ofNat len)] 7)) (Tl.setTop (mkF m 12 #[.val (.ref b), .val (.int (Int32.ofNat (o + i))), .val (.ref d), .val (.int (Int32.ofNat (q + i))), .val (.int (Int32.ofNat len)), .val (.int (Int32.ofNat i)), z] [.int (Int32.ofNat (o + i)), .ref b])) := cl.trans (by
        refine XS.iload Xl.here hexec rfl (hb hbytes d3) rfl ?_
        refine XS.iload Xl.here hexec rfl (hb hbytes d5) rfl ?_
        refine XS.icmpNo Xl.here hexec rfl (hb hbytes d7) rfl (ii_ge_f (lt32 (by omega) (by omega))) ?_
        refine XS.aloadN Xl.here hexec rfl (hb hbytes d10) rfl rfl ?_
        refine XS.iloadN Xl.here hexec rfl (hb hbytes d11) rfl ?_
        exact Steps.refl _)
      have c4 : Steps p.tables e below (s₁.setTop (entryFrame m #[.ref b, .int (Int32.ofNat o), .ref d, .int (Int32.ofNat q), .int (Int32.ofNat len)] 7)) (Tl.setTop (mkF m 13 #[.val (.ref b), .val (.int (Int32.ofNat (o + i))), .val (.ref d), .val (.int (Int32.ofNat (q + i))), .val (.int (Int32.ofNat len)), .val (.int (Int32.ofNat i)), z] [.int (cv A (o + i))])) := c3.trans (by
        refine Xl.aget hexec hAl rfl (hA.get (i := o + i) (by omega)) rfl rfl (hb hbytes d12) ?_
        exact Steps.refl _)
      have c5 : Steps p.tables e below (s₁.setTop (entryFrame m #[.ref b, .int (Int32.ofNat o), .ref d, .int (Int32.ofNat q), .int (Int32.ofNat len)] 7)) (Tl.setTop (mkF m 15 #[.val (.ref b), .val (.int (Int32.ofNat (o + i))), .val (.ref d), .val (.int (Int32.ofNat (q + i))), .val (.int (Int32.ofNat len)), .val (.int (Int32.ofNat i)), .val (.int (cv A (o + i)))] [])) := c4.trans (by
        refine XS.istoreS Xl.here hexec rfl (hb hbytes d13) rfl rfl hz ?_
        exact Steps.refl _)
      have c6 : Steps p.tables e below (s₁.setTop (entryFrame m #[.ref b, .int (Int32.ofNat o), .ref d, .int (Int32.ofNat q), .int (Int32.ofNat len)] 7)) (Tl.setTop (mkF m 31 #[.val (.ref b), .val (.int (Int32.ofNat (o + i))), .val (.ref d), .val (.int (Int32.ofNat (q + i))), .val (.int (Int32.ofNat len)), .val (.int (Int32.ofNat i)), .val (.int (cv A (o + i)))] [.int (lo8 (cv A (o + i))), .int (Int32.ofNat (q + i)), .ref d])) := c5.trans (by
        refine XS.iload Xl.here hexec rfl (hb hbytes d15) rfl ?_
        refine sipushV Xl.here hexec rfl 255 (hb hbytes d17) (by decide) ?_
        refine XS.icmpYes Xl.here hexec rfl (pc0 := 20) rfl (hb hbytes d20) rfl (ii_le_t (hp i (by omega))) (by decide) rfl ?_
        refine XS.aloadN Xl.here hexec rfl (hb hbytes d26) rfl rfl ?_
        refine XS.iloadN Xl.here hexec rfl (hb hbytes d27) rfl ?_
        refine XS.iload Xl.here hexec rfl (hb hbytes d28) rfl ?_
        refine i2b Xl.here hexec rfl (hb hbytes d30) rfl ?_
        exact Steps.refl _)
      obtain ⟨T7, X7, p7, st7⟩ := Xl.aput hexec hBk rfl hlt rfl (fits_lo8 (cv A (o + i))) (g := (mkF m 31 #[.val (.ref b), .val (.int (Int32.ofNat (o + i))), .val (.ref d), .val (.int (Int32.ofNat (q + i))), .val (.int (Int32.ofNat len)), .val (.int (Int32.ofNat i)), .val (.int (cv A (o + i)))] [.int (lo8 (cv A (o + i))), .int (Int32.ofNat (q + i)), .ref d])) rfl (rest := []) rfl (hb hbytes d31)
      have c8 : Steps p.tables e below (s₁.setTop (entryFrame m #[.ref b, .int (Int32.ofNat o), .ref d, .int (Int32.ofNat q), .int (Int32.ofNat len)] 7)) (T7.setTop (mkF m 32 #[.val (.ref b), .val (.int (Int32.ofNat (o + i))), .val (.ref d), .val (.int (Int32.ofNat (q + i))), .val (.int (Int32.ofNat len)), .val (.int (Int32.ofNat i)), .val (.int (cv A (o + i)))] [])) := c6.trans (st7 _ (Steps.refl _))
      have c9 : Steps p.tables e below (s₁.setTop (entryFrame m #[.ref b, .int (Int32.ofNat o), .ref d, .int (Int32.ofNat q), .int (Int32.ofNat len)] 7)) (T7.setTop (mkF m 3 #[.val (.ref b), .val (.int (Int32.ofNat (o + i) + 1)), .val (.ref d), .val (.int (Int32.ofNat (q + i) + 1)), .val (.int (Int32.ofNat len)), .val (.int (Int32.ofNat i + 1)), .val (.int (cv A (o + i)))] [])) := c8.trans (by
        refine iincV X7.here hexec rfl 1 (hb hbytes d32) (by decide) rfl rfl ?_
        refine iincV X7.here hexec rfl 1 (hb hbytes d35) (by decide) rfl rfl ?_
        refine iincV X7.here hexec rfl 1 (hb hbytes d38) (by decide) rfl rfl ?_
        refine XS.goto X7.here hexec rfl (pc0 := 41) rfl (hb hbytes d41) (by decide) rfl ?_
        exact Steps.refl _)
      have c10 : Steps p.tables e below (s₁.setTop (entryFrame m #[.ref b, .int (Int32.ofNat o), .ref d, .int (Int32.ofNat q), .int (Int32.ofNat len)] 7)) (T7.setTop (mkF m 3 #[.val (.ref b), .val (.int (Int32.ofNat (o + (i + 1)))), .val (.ref d), .val (.int (Int32.ofNat (q + (i + 1)))), .val (.int (Int32.ofNat len)), .val (.int (Int32.ofNat (i + 1))), .val (.int (cv A (o + i)))] [])) := by
        have := c9
        rw [succ32, succ32, succ32] at this
        exact this
      exact ih (i + 1) (by omega) _ (Or.inr ⟨_, rfl, rfl⟩) T7 _ (by rw [copyLocs_step, ← List.append_assoc]; exact X7) (pl.trans p7) (fl.step (by omega) hlt (by simp)) c10
  obtain ⟨T9, B9, z9, X9, p9, f9, g9⟩ := loop len 0 (by omega) .unset (Or.inl rfl) s₁ B (by simpa [copyLocs] using X0) ⟨hB0.1, fun _ _ => rfl, rfl⟩ (Laid.zero _ _ _) c2
  have c11 : Steps p.tables e below (s₁.setTop (entryFrame m #[.ref b, .int (Int32.ofNat o), .ref d, .int (Int32.ofNat q), .int (Int32.ofNat len)] 7)) (T9.setTop (mkF m 46 #[.val (.ref b), .val (.int (Int32.ofNat (o + len))), .val (.ref d), .val (.int (Int32.ofNat (q + len))), .val (.int (Int32.ofNat len)), .val (.int (Int32.ofNat len)), z9] [.int (Int32.ofNat len)])) := g9.trans (by
    refine XS.iload X9.here hexec rfl (hb hbytes d3) rfl ?_
    refine XS.iload X9.here hexec rfl (hb hbytes d5) rfl ?_
    refine XS.icmpYes X9.here hexec rfl (pc0 := 7) rfl (hb hbytes d7) rfl (ii_ge_t (nlt32 (by omega) (Nat.le_refl _))) (by decide) rfl ?_
    refine XS.iload X9.here hexec rfl (hb hbytes d44) rfl ?_
    exact Steps.refl _)
  exact ⟨T9, some (.int (Int32.ofNat len)), _, _, _, X9, by simp, rfl, rfl, (fun h => by cases h), ⟨rfl, B9, p9.from hh0, f9⟩, fun fs hl => c11.trans (X9.ireturnOut hexec hret rfl (Or.inl rfl) (hb hbytes d46) hl)⟩
end Cmp5
namespace Cmp3
def yN : MethodName := ⟨"java/lang/StringUTF16", "compress", "([CII)[B"⟩
abbrev yB : ByteArray := jdk_52_method_16_code
theorem d0 : decode yB 0 = .ok (.iload_n 2, 1) := by decide +kernel
theorem d1 : decode yB 1 = .ok (.newarray .byte, 2) := by decide +kernel
theorem d3 : decode yB 3 = .ok (.astore_n 3, 1) := by decide +kernel
theorem d4 : decode yB 4 = .ok (.aload_n 0, 1) := by decide +kernel
theorem d5 : decode yB 5 = .ok (.iload_n 1, 1) := by decide +kernel
theorem d6 : decode yB 6 = .ok (.aload_n 3, 1) := by decide +kernel
theorem d7 : decode yB 7 = .ok (.iconst 0, 1) := by decide +kernel
theorem d8 : decode yB 8 = .ok (.iload_n 2, 1) := by decide +kernel
theorem d9 : decode yB 9 = .ok (.invokestatic 115, 3) := by decide +kernel
theorem d12 : decode yB 12 = .ok (.istore 4, 2) := by decide +kernel
theorem d14 : decode yB 14 = .ok (.iload 4, 2) := by decide +kernel
theorem d16 : decode yB 16 = .ok (.iload_n 2, 1) := by decide +kernel
theorem d17 : decode yB 17 = .ok (.if_icmp (.eq) 40, 3) := by decide +kernel
theorem d57 : decode yB 57 = .ok (.aload_n 3, 1) := by decide +kernel
theorem d58 : decode yB 58 = .ok (.areturn, 1) := by decide +kernel
def site : List Cond := [.arrayClass .byte, Cmp5.tab] ++ staticW U16 115 Cmp5.yN
def tab : Cond := tabOf yN yB 6 (some (.array .byte)) site
def P (b : Addr) (A : Cell) (o len : Nat) (args : Array Value) (s : State) : Prop := args = #[.ref b, .int (Int32.ofNat o), .int (Int32.ofNat len)] ∧ Ch b A s ∧ o + len ≤ A.slots.size ∧ len ≤ 536870912 ∧ ∀ i, i < len → ¬ 255 < cv A (o + i)
def E (b : Addr) (A : Cell) (o len : Nat) (r : Option Value) (s u : State) : Prop := NewArr .byte "[B" len (fun j => .int (lo8 (cv A (o + j)))) r s u ∧ u.heap.size = s.heap.size + 1
/-- no char of the range above 255: a new byte[] of their low bytes -/
theorem law (l : Launch) (b : Addr) (A : Cell) (o len : Nat) : Law l yN 3 3 1 18 yB 6 (some (.array .byte)) site (P b A o len) (E b A o len) [] 1 len := by
  refine Law.of_walk (plainFor_of_name (by decide +kernel)) (by decide +kernel) (by decide +kernel) (by decide) (fun _ _ h => by rw [h.1]; rfl) (fun _ U U' hal hh h => ⟨h.1, h.2.1.mv hal hh, h.2.2⟩) (fun r U U' V V' h1 hal h2 h => ⟨NewArr.mv r U U' V V' h1 hal h2 h.1, by rw [h1, h2]; exact h.2⟩) ?_
  intro p e s m args below meth c s₁ X0 hexec hbytes hml hret hlk hnm hown hh0 W hP
  obtain ⟨rfl, hA, l1, l2, hp⟩ := hP
  have a31 := hA.1.2.2.2
  have c1 : Steps p.tables e below (s₁.setTop (entryFrame m #[.ref b, .int (Int32.ofNat o), .int (Int32.ofNat len)] 6)) (s₁.setTop (mkF m 0 #[.val (.ref b), .val (.int (Int32.ofNat o)), .val (.int (Int32.ofNat len)), .unset, .unset, .unset] [])) := entry rfl
  have c2 : Steps p.tables e below (s₁.setTop (entryFrame m #[.ref b, .int (Int32.ofNat o), .int (Int32.ofNat len)] 6)) (s₁.setTop (mkF m 1 #[.val (.ref b), .val (.int (Int32.ofNat o)), .val (.int (Int32.ofNat len)), .unset, .unset, .unset] [.int (Int32.ofNat len)])) := c1.trans (by
    refine XS.iloadN X0.here hexec rfl (hb hbytes d0) rfl ?_
    exact Steps.refl _)
  obtain ⟨T3, B3, X3, ba3, bs3, bv3, bh3, bf3, st3⟩ := X0.anew hexec (atype := .byte) (wk W (.arrayClass .byte)) rfl (by show len * 1 ≤ _; omega) (by omega) (g := (mkF m 1 #[.val (.ref b), .val (.int (Int32.ofNat o)), .val (.int (Int32.ofNat len)), .unset, .unset, .unset] [.int (Int32.ofNat len)])) rfl (hb hbytes d1) (rest := []) rfl (Nat.le_refl _) (by show 0 + len ≤ len; omega)
  rw [hh0] at ba3 st3
  have kp3 : XT.Kept s T3 := (XT.Kept.of_eq hh0).push bh3
  have hA3 := hA.keep X3.warmed.alike (kp3 _ _ hA.1.1)
  have hne : b ≠ s.heap.size := hA.1.ne
  have c4 : Steps p.tables e below (s₁.setTop (entryFrame m #[.ref b, .int (Int32.ofNat o), .int (Int32.ofNat len)] 6)) (T3.setTop (mkF m 3 #[.val (.ref b), .val (.int (Int32.ofNat o)), .val (.int (Int32.ofNat len)), .unset, .unset, .unset] [.ref s.heap.size])) := c2.trans (st3 _ (Steps.refl _))
  have c5 : Steps p.tables e below (s₁.setTop (entryFrame m #[.ref b, .int (Int32.ofNat o), .int (Int32.ofNat len)] 6)) (T3.setTop (mkF m 9 #[.val (.ref b), .val (.int (Int32.ofNat o)), .val (.int (Int32.ofNat len)), .val (.ref s.heap.size), .unset, .unset] [.int (Int32.ofNat len), .int 0, .ref s.heap.size, .int (Int32.ofNat o), .ref b])) := c4.trans (by
    refine XS.astoreN X3.here hexec rfl (hb hbytes d3) rfl rfl rfl ?_
    refine XS.aloadN X3.here hexec rfl (hb hbytes d4) rfl rfl ?_
    refine XS.iloadN X3.here hexec rfl (hb hbytes d5) rfl ?_
    refine XS.aloadN X3.here hexec rfl (hb hbytes d6) rfl rfl ?_
    refine iconstV X3.here hexec rfl 0 (hb hbytes d7) (by decide) ?_
    refine XS.iloadN X3.here hexec rfl (hb hbytes d8) rfl ?_
    exact Steps.refl _)
  obtain ⟨v6, T6, X6, E6, g6⟩ := X3.callS hexec (Cmp5.law l b A s.heap.size B3 o 0 len) hown (wks W (staticW U16 115 Cmp5.yN)) (wk W Cmp5.tab) (W := 0) (Nat.le_of_ble_eq_true rfl) (Nat.le_of_ble_eq_true rfl) (Nat.le_refl _) (by show 0 + len + 0 ≤ len; omega) (g := (mkF m 9 #[.val (.ref b), .val (.int (Int32.ofNat o)), .val (.int (Int32.ofNat len)), .val (.ref s.heap.size), .unset, .unset] [.int (Int32.ofNat len), .int (Int32.ofNat 0), .ref s.heap.size, .int (Int32.ofNat o), .ref b])) rfl (by rw [hml]; rfl) c5 (argsL := [.ref b, .int (Int32.ofNat o), .ref s.heap.size, .int (Int32.ofNat 0), .int (Int32.ofNat len)]) (rest := []) rfl rfl (by show 2 * 0 + 0 ≤ _; decide) (hb hbytes d9) (⟨rfl, hA3, ba3, hne, l1, by rw [bs3]; simp, hp⟩)
  obtain ⟨rfl, B6, p6, f6⟩ := E6
  have c7 : Steps p.tables e below (s₁.setTop (entryFrame m #[.ref b, .int (Int32.ofNat o), .int (Int32.ofNat len)] 6)) (T6.setTop (mkF m 12 #[.val (.ref b), .val (.int (Int32.ofNat o)), .val (.int (Int32.ofNat len)), .val (.ref s.heap.size), .unset, .unset] [.int (Int32.ofNat len)])) := g6
  have c8 : Steps p.tables e below (s₁.setTop (entryFrame m #[.ref b, .int (Int32.ofNat o), .int (Int32.ofNat len)] 6)) (T6.setTop (mkF m 58 #[.val (.ref b), .val (.int (Int32.ofNat o)), .val (.int (Int32.ofNat len)), .val (.ref s.heap.size), .val (.int (Int32.ofNat len)), .unset] [.ref s.heap.size])) := c7.trans (by
    refine XS.istore X6.here hexec rfl (hb hbytes d12) rfl rfl ?_
    refine XS.iload X6.here hexec rfl (hb hbytes d14) rfl ?_
    refine XS.iloadN X6.here hexec rfl (hb hbytes d16) rfl ?_
    refine XS.icmpYes X6.here hexec rfl (pc0 := 17) rfl (hb hbytes d17) rfl (ii_eq_t rfl) (by decide) rfl ?_
    refine XS.aloadN X6.here hexec rfl (hb hbytes d57) rfl rfl ?_
    exact Steps.refl _)
  have X8 := X6.wide (L' := []) (cells' := 1) (slots' := len) (fun x hx hlt => by
    simp only [List.nil_append, copyLocs, List.mem_map, List.mem_range] at hx
    obtain ⟨i, -, rfl⟩ := hx
    exact absurd hlt (Nat.lt_irrefl _)) (Nat.le_refl _) (by omega)
  exact ⟨T6, some (.ref s.heap.size), _, _, _, X8, rfl, rfl, rfl, (fun h => by cases h), ⟨⟨rfl, B6, ba3.like (X3.warmed.alike.symm.trans X6.warmed.alike) p6.1 f6.1 f6.2.1 f6.2.2.1, f6.2.1.trans bv3, by rw [X6.warmed.alike.findClass, f6.1]; exact bf3, by rw [f6.2.2.1, bs3]; simp, fun j hj => by rw [f6.2.2.2 j, if_pos (by omega)]; rfl, kp3.put p6 (Nat.le_refl _)⟩, by rw [p6.2.2, bh3, hh0]; simp⟩, fun fs hl => c8.trans (X8.areturnOut hexec rfl hret rfl (hb hbytes d58) hl)⟩
end Cmp3
namespace CodL
def yN : MethodName := ⟨"java/lang/StringUTF16", "coderFromArrayLen", "([BI)B"⟩
abbrev yB : ByteArray := jdk_52_method_15_code
theorem d0 : decode yB 0 = .ok (.iload_n 1, 1) := by decide +kernel
theorem d1 : decode yB 1 = .ok (.aload_n 0, 1) := by decide +kernel
theorem d2 : decode yB 2 = .ok (.arraylength, 1) := by decide +kernel
theorem d3 : decode yB 3 = .ok (.isub, 1) := by decide +kernel
theorem d4 : decode yB 4 = .ok (.bipush 31, 2) := by decide +kernel
theorem d6 : decode yB 6 = .ok (.iushr, 1) := by decide +kernel
theorem d7 : decode yB 7 = .ok (.i2b, 1) := by decide +kernel
theorem d8 : decode yB 8 = .ok (.ireturn, 1) := by decide +kernel
def site : List Cond := []
def tab : Cond := tabOf yN yB 2 (some .byte) site
def P (d : Addr) (B : Cell) (args : Array Value) (s : State) : Prop := args = #[.ref d, .int (Int32.ofNat B.slots.size)] ∧ Arr .byte d B s
def E (r : Option Value) (s u : State) : Prop := XT.PureE (some (.int 0)) r s u
/-- an array as long as the number of chars: LATIN1 -/
theorem law (l : Launch) (d : Addr) (B : Cell) : Law l yN 2 2 0 0 yB 2 (some .byte) site (P d B) E [] 0 0 := by
  refine Law.of_walk (plainFor_of_name (by decide +kernel)) (by decide +kernel) (by decide +kernel) (by decide) (fun _ _ h => by rw [h.1]; rfl) (fun _ U U' hal hh h => ⟨h.1, h.2.mv hal hh⟩) (fun r U U' V V' h1 hal h2 h => XT.PureE.mv r U U' V V' h1 hal h2 h) ?_
  intro p e s m args below meth c s₁ X0 hexec hbytes hml hret hlk hnm hown hh0 W hP
  obtain ⟨rfl, hB⟩ := hP
  have hB0 := hB.mv X0.warmed.alike hh0
  have c1 : Steps p.tables e below (s₁.setTop (entryFrame m #[.ref d, .int (Int32.ofNat B.slots.size)] 2)) (s₁.setTop (mkF m 0 #[.val (.ref d), .val (.int (Int32.ofNat B.slots.size))] [])) := entry rfl
  have c2 : Steps p.tables e below (s₁.setTop (entryFrame m #[.ref d, .int (Int32.ofNat B.slots.size)] 2)) (s₁.setTop (mkF m 2 #[.val (.ref d), .val (.int (Int32.ofNat B.slots.size))] [.ref d, .int (Int32.ofNat B.slots.size)])) := c1.trans (by
    refine XS.iloadN X0.here hexec rfl (hb hbytes d0) rfl ?_
    refine XS.aloadN X0.here hexec rfl (hb hbytes d1) rfl rfl ?_
    exact Steps.refl _)
  have c3 : Steps p.tables e below (s₁.setTop (entryFrame m #[.ref d, .int (Int32.ofNat B.slots.size)] 2)) (s₁.setTop (mkF m 8 #[.val (.ref d), .val (.int (Int32.ofNat B.slots.size))] [.int (lo8 (ushr (Int32.ofNat B.slots.size - Int32.ofNat B.slots.size) 31))])) := c2.trans (by
    refine X0.alen hexec hB0 rfl rfl (hb hbytes d2) ?_
    refine XS.isub X0.here hexec rfl (hb hbytes d3) rfl ?_
    refine bipushV X0.here hexec rfl 31 (hb hbytes d4) (by decide) ?_
    refine iushr X0.here hexec rfl (hb hbytes d6) rfl ?_
    refine i2b X0.here hexec rfl (hb hbytes d7) rfl ?_
    exact Steps.refl _)
  have e0 : lo8 (ushr (Int32.ofNat B.slots.size - Int32.ofNat B.slots.size) 31) = 0 := by rw [Int32.sub_self]; decide
  rw [e0] at c3
  exact ⟨s₁, some (.int 0), _, _, _, X0, rfl, rfl, rfl, (fun h => by cases h), ⟨rfl, hh0⟩, fun fs hl => c3.trans (X0.ireturnOut hexec hret rfl (Or.inr (Or.inr (Or.inl rfl))) (hb hbytes d8) hl)⟩
end CodL
/-- the String at a is Latin-1 over a new byte[] (the heap's one new cell): the low bytes of the len chars of A from o on; every cell but a is kept -/
def Got (a : Addr) (D : Cell) (fV fC : Field) (A : Cell) (o len : Nat) (r : Option Value) (s u : State) : Prop := r = none ∧ ∃ D' V : Cell, Blank "java/lang/String" a D' u ∧ Same D D' [fV.slot, fC.slot] ∧ D'.slots[fV.slot]? = some (.ref s.heap.size) ∧ D'.slots[fC.slot]? = some (.int 0) ∧ Arr .byte s.heap.size V u ∧ V.vm = .none ∧ u.vm.findClass "[B" = some V.cls ∧ V.slots.size = len ∧ (∀ j, j < len → V.slots[j]? = some (.int (lo8 (cv A (o + j))))) ∧ (∀ (y : Addr) (c : Cell), y ≠ a → s.heap[y]? = some c → u.heap[y]? = some c) ∧ u.heap.size = s.heap.size + 1
theorem Got.mv {a : Addr} {D A : Cell} {fV fC : Field} {o len : Nat} : ∀ r (U U' V V' : State), U'.heap = U.heap → V.vm.Alike V'.vm → V'.heap = V.heap → Got a D fV fC A o len r U V → Got a D fV fC A o len r U' V' :=
  fun r U U' V V' h1 hal h2 ⟨e0, D', X, a1, a2, a3, a4, a5, a6, a7, a8, a9, a10, a11⟩ => ⟨e0, D', X, a1.mv hal h2, a2, by rw [h1]; exact a3, a4, by rw [h1]; exact a5.mv hal h2, a6, by rw [hal.findClass]; exact a7, a8, a9, by rw [h1, h2]; exact a10, by rw [h1, h2]; exact a11⟩
namespace New4
def yN : MethodName := ⟨"java/lang/String", "<init>", "([CIILjava/lang/Void;)V"⟩
abbrev yB : ByteArray := jdk_42_method_149_code
theorem d0 : decode yB 0 = .ok (.aload_n 0, 1) := by decide +kernel
theorem d1 : decode yB 1 = .ok (.invokespecial 1, 3) := by decide +kernel
theorem d4 : decode yB 4 = .ok (.iload_n 3, 1) := by decide +kernel
theorem d5 : decode yB 5 = .ok (.ifCond (.ne) 22, 3) := by decide +kernel
theorem d27 : decode yB 27 = .ok (.getstatic 38, 3) := by decide +kernel
theorem d30 : decode yB 30 = .ok (.ifCond (.eq) 28, 3) := by decide +kernel
theorem d33 : decode yB 33 = .ok (.aload_n 1, 1) := by decide +kernel
theorem d34 : decode yB 34 = .ok (.iload_n 2, 1) := by decide +kernel
theorem d35 : decode yB 35 = .ok (.iload_n 3, 1) := by decide +kernel
theorem d36 : decode yB 36 = .ok (.invokestatic 177, 3) := by decide +kernel
theorem d39 : decode yB 39 = .ok (.astore 5, 2) := by decide +kernel
theorem d41 : decode yB 41 = .ok (.aload_n 0, 1) := by decide +kernel
theorem d42 : decode yB 42 = .ok (.aload 5, 2) := by decide +kernel
theorem d44 : decode yB 44 = .ok (.iload_n 3, 1) := by decide +kernel
theorem d45 : decode yB 45 = .ok (.invokestatic 47, 3) := by decide +kernel
theorem d48 : decode yB 48 = .ok (.putfield 15, 3) := by decide +kernel
theorem d51 : decode yB 51 = .ok (.aload_n 0, 1) := by decide +kernel
theorem d52 : decode yB 52 = .ok (.aload 5, 2) := by decide +kernel
theorem d54 : decode yB 54 = .ok (.putfield 9, 3) := by decide +kernel
theorem d57 : decode yB 57 = .ok (.return_, 1) := by decide +kernel
def site : List Cond := [.fieldLink "java/lang/String" 38 "java/lang/String" "COMPACT_STRINGS" "Z", Cmp3.tab, CodL.tab, .laysFinal "java/lang/String" "java/lang/String" "value" "[B", .fieldLink "java/lang/String" 9 "java/lang/String" "value" "[B", .laysFinal "java/lang/String" "java/lang/String" "coder" "B", .fieldLink "java/lang/String" 15 "java/lang/String" "coder" "B"] ++ objW "java/lang/String" 1 ++ staticW "java/lang/String" 177 Cmp3.yN ++ staticW "java/lang/String" 47 CodL.yN
def tab : Cond := tabOf yN yB 6 none site
def P (a : Addr) (D : Cell) (fV fC : Field) (b : Addr) (A : Cell) (z : Int32) (o len : Nat) (args : Array Value) (s : State) : Prop := args = #[.ref a, .ref b, .int (Int32.ofNat o), .int (Int32.ofNat len), .null] ∧ Blank "java/lang/String" a D s ∧ Found "java/lang/String" "value" "[B" fV s ∧ Found "java/lang/String" "coder" "B" fC s ∧ Ch b A s ∧ StaticIs s "java/lang/String" "COMPACT_STRINGS" "Z" (.int z) ∧ ¬ z = 0 ∧ 0 < len ∧ o + len ≤ A.slots.size ∧ len ≤ 536870912 ∧ ∀ i, i < len → ¬ 255 < cv A (o + i)
def E (a : Addr) (D : Cell) (fV fC : Field) (A : Cell) (o len : Nat) (r : Option Value) (s u : State) : Prop := Got a D fV fC A o len r s u
/-- len > 0, no char of the range above 255: a Latin-1 String of their low bytes -/
theorem law (l : Launch) (a : Addr) (D : Cell) (fV fC : Field) (b : Addr) (A : Cell) (z : Int32) (o len : Nat) : Law l yN 5 4 2 35 yB 6 none site (P a D fV fC b A z o len) (E a D fV fC A o len) [⟨a, fC.slot⟩, ⟨a, fV.slot⟩] 1 len := by
  refine Law.of_walk (plainFor_of_name (by decide +kernel)) (by decide +kernel) (by decide +kernel) (by decide) (fun _ _ h => by rw [h.1]; rfl) (fun _ U U' hal hh h => ⟨h.1, h.2.1.mv hal hh, h.2.2.1.al hal, h.2.2.2.1.al hal, h.2.2.2.2.1.mv hal hh, h.2.2.2.2.2.1.there hal hh, h.2.2.2.2.2.2⟩) (fun r U U' V V' h1 hal h2 h => Got.mv r U U' V V' h1 hal h2 h) ?_
  intro p e s m args below meth c s₁ X0 hexec hbytes hml hret hlk hnm hown hh0 W hP
  obtain ⟨rfl, hB, f1, f2, hA, s1, hz, l0, l1, l2, hp⟩ := hP
  have a31 := hA.1.2.2.2
  have c1 : Steps p.tables e below (s₁.setTop (entryFrame m #[.ref a, .ref b, .int (Int32.ofNat o), .int (Int32.ofNat len), .null] 6)) (s₁.setTop (mkF m 0 #[.val (.ref a), .val (.ref b), .val (.int (Int32.ofNat o)), .val (.int (Int32.ofNat len)), .val .null, .unset] [])) := entry rfl
  have c2 : Steps p.tables e below (s₁.setTop (entryFrame m #[.ref a, .ref b, .int (Int32.ofNat o), .int (Int32.ofNat len), .null] 6)) (s₁.setTop (mkF m 1 #[.val (.ref a), .val (.ref b), .val (.int (Int32.ofNat o)), .val (.int (Int32.ofNat len)), .val .null, .unset] [.ref a])) := c1.trans (by
    refine XS.aloadN X0.here hexec rfl (hb hbytes d0) rfl rfl ?_
    exact Steps.refl _)
  obtain ⟨T3, X3, q3, st3⟩ := X0.oinit hexec hown (wks W (objW "java/lang/String" 1)) (g := (mkF m 1 #[.val (.ref a), .val (.ref b), .val (.int (Int32.ofNat o)), .val (.int (Int32.ofNat len)), .val .null, .unset] [.ref a])) rfl (by rw [hml]; rfl) (rest := []) rfl (hb hbytes d1) (W := 0) (by show 2 * 0 + 0 ≤ _; decide) (Nat.le_of_ble_eq_true rfl) (Nat.le_of_ble_eq_true rfl)
  have hh3 := q3.trans hh0
  have c4 : Steps p.tables e below (s₁.setTop (entryFrame m #[.ref a, .ref b, .int (Int32.ofNat o), .int (Int32.ofNat len), .null] 6)) (T3.setTop (mkF m 27 #[.val (.ref a), .val (.ref b), .val (.int (Int32.ofNat o)), .val (.int (Int32.ofNat len)), .val .null, .unset] [])) := (c2.trans (st3 _ (Steps.refl _))).trans (by
    refine XS.iloadN X3.here hexec rfl (hb hbytes d4) rfl ?_
    refine XS.ifYes X3.here hexec rfl (pc0 := 5) rfl (hb hbytes d5) rfl (i0_ne_t (nz32 (by omega) l0)) (by decide) rfl ?_
    exact Steps.refl _)
  obtain ⟨T5, X5, q5, st5⟩ := X3.sget hexec hown (wk W (.fieldLink "java/lang/String" 38 "java/lang/String" "COMPACT_STRINGS" "Z")) s1 (fun _ _ h => by rw [hh3]; exact h) (g := (mkF m 27 #[.val (.ref a), .val (.ref b), .val (.int (Int32.ofNat o)), .val (.int (Int32.ofNat len)), .val .null, .unset] [])) rfl (hb hbytes d27)
  have hh5 := q5.trans hh3
  have c6 : Steps p.tables e below (s₁.setTop (entryFrame m #[.ref a, .ref b, .int (Int32.ofNat o), .int (Int32.ofNat len), .null] 6)) (T5.setTop (mkF m 30 #[.val (.ref a), .val (.ref b), .val (.int (Int32.ofNat o)), .val (.int (Int32.ofNat len)), .val .null, .unset] [.int z])) := c4.trans (st5 _ (Steps.refl _))
  have c7 : Steps p.tables e below (s₁.setTop (entryFrame m #[.ref a, .ref b, .int (Int32.ofNat o), .int (Int32.ofNat len), .null] 6)) (T5.setTop (mkF m 36 #[.val (.ref a), .val (.ref b), .val (.int (Int32.ofNat o)), .val (.int (Int32.ofNat len)), .val .null, .unset] [.int (Int32.ofNat len), .int (Int32.ofNat o), .ref b])) := c6.trans (by
    refine XS.ifNo X5.here hexec rfl (hb hbytes d30) rfl (i0_eq_f hz) ?_
    refine XS.aloadN X5.here hexec rfl (hb hbytes d33) rfl rfl ?_
    refine XS.iloadN X5.here hexec rfl (hb hbytes d34) rfl ?_
    refine XS.iloadN X5.here hexec rfl (hb hbytes d35) rfl ?_
    exact Steps.refl _)
  obtain ⟨v8, T8, X8, E8, g8⟩ := X5.callS hexec (Cmp3.law l b A o len) hown (wks W (staticW "java/lang/String" 177 Cmp3.yN)) (wk W Cmp3.tab) (W := 0) (Nat.le_of_ble_eq_true rfl) (Nat.le_of_ble_eq_true rfl) (Nat.le_refl _) (by show 0 + len ≤ len; omega) (g := (mkF m 36 #[.val (.ref a), .val (.ref b), .val (.int (Int32.ofNat o)), .val (.int (Int32.ofNat len)), .val .null, .unset] [.int (Int32.ofNat len), .int (Int32.ofNat o), .ref b])) rfl (by rw [hml]; rfl) c7 (argsL := [.ref b, .int (Int32.ofNat o), .int (Int32.ofNat len)]) (rest := []) rfl rfl (by show 2 * 0 + 0 ≤ _; decide) (hb hbytes d36) (⟨rfl, hA.mv X5.warmed.alike hh5, l1, l2, hp⟩)
  obtain ⟨e8, z8⟩ := E8
  obtain ⟨rfl, N, n1, n2, n3, n4, n5, n6⟩ := NewArr.mv _ T5 s _ _ hh5.symm (Vm.Alike.refl _) rfl e8
  rw [hh5] at z8
  have hB1 := hB.keep X8.warmed.alike (n6 _ _ hB.1)
  have hne : s.heap.size ≠ a := (Nat.ne_of_lt (Array.getElem?_eq_some_iff.mp hB.1).1).symm
  have c9 : Steps p.tables e below (s₁.setTop (entryFrame m #[.ref a, .ref b, .int (Int32.ofNat o), .int (Int32.ofNat len), .null] 6)) (T8.setTop (mkF m 39 #[.val (.ref a), .val (.ref b), .val (.int (Int32.ofNat o)), .val (.int (Int32.ofNat len)), .val .null, .unset] [.ref s.heap.size])) := g8
  have c10 : Steps p.tables e below (s₁.setTop (entryFrame m #[.ref a, .ref b, .int (Int32.ofNat o), .int (Int32.ofNat len), .null] 6)) (T8.setTop (mkF m 45 #[.val (.ref a), .val (.ref b), .val (.int (Int32.ofNat o)), .val (.int (Int32.ofNat len)), .val .null, .val (.ref s.heap.size)] [.int (Int32.ofNat N.slots.size), .ref s.heap.size, .ref a])) := by
    have hc : Steps p.tables e below (s₁.setTop (entryFrame m #[.ref a, .ref b, .int (Int32.ofNat o), .int (Int32.ofNat len), .null] 6)) (T8.setTop (mkF m 45 #[.val (.ref a), .val (.ref b), .val (.int (Int32.ofNat o)), .val (.int (Int32.ofNat len)), .val .null, .val (.ref s.heap.size)] [.int (Int32.ofNat len), .ref s.heap.size, .ref a])) := c9.trans (by
      refine XS.astore X8.here hexec rfl (hb hbytes d39) rfl rfl rfl ?_
      refine XS.aloadN X8.here hexec rfl (hb hbytes d41) rfl rfl ?_
      refine XS.aload X8.here hexec rfl (hb hbytes d42) rfl rfl ?_
      refine XS.iloadN X8.here hexec rfl (hb hbytes d44) rfl ?_
      exact Steps.refl _)
    rw [n4]; exact hc
  obtain ⟨v11, T11, X11, E11, g11⟩ := X8.callS hexec (CodL.law l s.heap.size N) hown (wks W (staticW "java/lang/String" 47 CodL.yN)) (wk W CodL.tab) (W := 1) (Nat.le_of_ble_eq_true rfl) (Nat.le_of_ble_eq_true rfl) (Nat.le_refl _) (by show 0 + len + 0 ≤ len; omega) (g := (mkF m 45 #[.val (.ref a), .val (.ref b), .val (.int (Int32.ofNat o)), .val (.int (Int32.ofNat len)), .val .null, .val (.ref s.heap.size)] [.int (Int32.ofNat N.slots.size), .ref s.heap.size, .ref a])) rfl (by rw [hml]; rfl) c10 (argsL := [.ref s.heap.size, .int (Int32.ofNat N.slots.size)]) (rest := [.ref a]) rfl rfl (by show 2 * 0 + (1 + 0) ≤ _; decide) (hb hbytes d45) (⟨rfl, n1⟩)
  obtain ⟨rfl, q11⟩ := E11
  have hB11 := hB1.mv (X8.warmed.alike.symm.trans X11.warmed.alike) q11
  have c12 : Steps p.tables e below (s₁.setTop (entryFrame m #[.ref a, .ref b, .int (Int32.ofNat o), .int (Int32.ofNat len), .null] 6)) (T11.setTop (mkF m 48 #[.val (.ref a), .val (.ref b), .val (.int (Int32.ofNat o)), .val (.int (Int32.ofNat len)), .val .null, .val (.ref s.heap.size)] [.int 0, .ref a])) := g11
  obtain ⟨T13, X13, p13, bl13, sl13, st13⟩ := X11.finit hexec hown (wk W (.fieldLink "java/lang/String" 15 "java/lang/String" "coder" "B")) (Or.inr ⟨_, (wk W (.laysFinal "java/lang/String" "java/lang/String" "coder" "B"))⟩) (Or.inl ⟨rfl, hnm⟩) f2 (Or.inl rfl) hB11 (t := .byte) (by decide +kernel) rfl (g := (mkF m 48 #[.val (.ref a), .val (.ref b), .val (.int (Int32.ofNat o)), .val (.int (Int32.ofNat len)), .val .null, .val (.ref s.heap.size)] [.int 0, .ref a])) rfl (rest := []) rfl (hb hbytes d48)
  have c14 : Steps p.tables e below (s₁.setTop (entryFrame m #[.ref a, .ref b, .int (Int32.ofNat o), .int (Int32.ofNat len), .null] 6)) (T13.setTop (mkF m 54 #[.val (.ref a), .val (.ref b), .val (.int (Int32.ofNat o)), .val (.int (Int32.ofNat len)), .val .null, .val (.ref s.heap.size)] [.ref s.heap.size, .ref a])) := (c12.trans (st13 _ (Steps.refl _))).trans (by
    refine XS.aloadN X13.here hexec rfl (hb hbytes d51) rfl rfl ?_
    refine XS.aload X13.here hexec rfl (hb hbytes d52) rfl rfl ?_
    exact Steps.refl _)
  obtain ⟨T15, X15, p15, bl15, sl15, st15⟩ := X13.finit hexec hown (wk W (.fieldLink "java/lang/String" 9 "java/lang/String" "value" "[B")) (Or.inr ⟨_, (wk W (.laysFinal "java/lang/String" "java/lang/String" "value" "[B"))⟩) (Or.inl ⟨rfl, hnm⟩) f1 (Or.inl rfl) bl13 (t := (.array .byte)) (by decide +kernel) rfl (g := (mkF m 54 #[.val (.ref a), .val (.ref b), .val (.int (Int32.ofNat o)), .val (.int (Int32.ofNat len)), .val .null, .val (.ref s.heap.size)] [.ref s.heap.size, .ref a])) rfl (rest := []) rfl (hb hbytes d54)
  have c16 : Steps p.tables e below (s₁.setTop (entryFrame m #[.ref a, .ref b, .int (Int32.ofNat o), .int (Int32.ofNat len), .null] 6)) (T15.setTop (mkF m 57 #[.val (.ref a), .val (.ref b), .val (.int (Int32.ofNat o)), .val (.int (Int32.ofNat len)), .val .null, .val (.ref s.heap.size)] [])) := c14.trans (st15 _ (Steps.refl _))
  have ap := apart (Or.inr ⟨_, (wk W (.laysFinal "java/lang/String" "java/lang/String" "value" "[B"))⟩) (Or.inr ⟨_, (wk W (.laysFinal "java/lang/String" "java/lang/String" "coder" "B"))⟩) f1 f2 (t₁ := .array .byte) (t₂ := .byte) (by decide +kernel) (by decide +kernel) (by decide)
  have al := X8.warmed.alike.symm.trans X15.warmed.alike
  have n7 : T11.heap[s.heap.size]? = some N := by rw [q11]; exact n1.1
  exact ⟨T15, none, _, _, _, X15, by simp, rfl, by omega, (fun _ => rfl), ⟨rfl, _, N, bl15, ((Same.refl D _).set _ (by simp)).set _ (by simp), sl15, (Cell.slots_setSlot_ne _ ap).trans sl13, n1.keep al (p15.other hne (p13.other hne n7)), n2, by rw [al.findClass]; exact n3, n4, n5, fun y c h1 h2 => p15.other h1 (p13.other h1 (by rw [q11]; exact n6 y c h2)), by rw [p15.2.2, p13.2.2, q11]; exact z8⟩, fun fs hl => c16.trans (X15.returnOut hexec hret (hb hbytes d57) hl)⟩
end New4
namespace New1
def yN : MethodName := ⟨"java/lang/String", "<init>", "([C)V"⟩
abbrev yB : ByteArray := jdk_42_method_3_code
theorem d0 : decode yB 0 = .ok (.aload_n 0, 1) := by decide +kernel
theorem d1 : decode yB 1 = .ok (.aload_n 1, 1) := by decide +kernel
theorem d2 : decode yB 2 = .ok (.iconst 0, 1) := by decide +kernel
theorem d3 : decode yB 3 = .ok (.aload_n 1, 1) := by decide +kernel
theorem d4 : decode yB 4 = .ok (.arraylength, 1) := by decide +kernel
theorem d5 : decode yB 5 = .ok (.aconst_null, 1) := by decide +kernel
theorem d6 : decode yB 6 = .ok (.invokespecial 27, 3) := by decide +kernel
theorem d9 : decode yB 9 = .ok (.return_, 1) := by decide +kernel
def site : List Cond := [New4.tab] ++ initW "java/lang/String" 27 New4.yN
def tab : Cond := tabOf yN yB 2 none site
def P (a : Addr) (D : Cell) (fV fC : Field) (b : Addr) (A : Cell) (z : Int32) (args : Array Value) (s : State) : Prop := args = #[.ref a, .ref b] ∧ Blank "java/lang/String" a D s ∧ Found "java/lang/String" "value" "[B" fV s ∧ Found "java/lang/String" "coder" "B" fC s ∧ Ch b A s ∧ StaticIs s "java/lang/String" "COMPACT_STRINGS" "Z" (.int z) ∧ ¬ z = 0 ∧ 0 < A.slots.size ∧ A.slots.size ≤ 536870912 ∧ ∀ i, i < A.slots.size → ¬ 255 < cv A i
def E (a : Addr) (D : Cell) (fV fC : Field) (A : Cell) (r : Option Value) (s u : State) : Prop := Got a D fV fC A 0 A.slots.size r s u
/-- new String(chars), not empty, no char above 255: a Latin-1 String of their low bytes -/
theorem law (l : Launch) (a : Addr) (D : Cell) (fV fC : Field) (b : Addr) (A : Cell) (z : Int32) : Law l yN 2 1 3 52 yB 2 none site (P a D fV fC b A z) (E a D fV fC A) [⟨a, fC.slot⟩, ⟨a, fV.slot⟩] 1 A.slots.size := by
  refine Law.of_walk (plainFor_of_name (by decide +kernel)) (by decide +kernel) (by decide +kernel) (by decide) (fun _ _ h => by rw [h.1]; rfl) (fun _ U U' hal hh h => ⟨h.1, h.2.1.mv hal hh, h.2.2.1.al hal, h.2.2.2.1.al hal, h.2.2.2.2.1.mv hal hh, h.2.2.2.2.2.1.there hal hh, h.2.2.2.2.2.2⟩) (fun r U U' V V' h1 hal h2 h => Got.mv r U U' V V' h1 hal h2 h) ?_
  intro p e s m args below meth c s₁ X0 hexec hbytes hml hret hlk hnm hown hh0 W hP
  obtain ⟨rfl, hB, f1, f2, hA, s1, hz, l0, l2, hp⟩ := hP
  have c1 : Steps p.tables e below (s₁.setTop (entryFrame m #[.ref a, .ref b] 2)) (s₁.setTop (mkF m 0 #[.val (.ref a), .val (.ref b)] [])) := entry rfl
  have c2 : Steps p.tables e below (s₁.setTop (entryFrame m #[.ref a, .ref b] 2)) (s₁.setTop (mkF m 6 #[.val (.ref a), .val (.ref b)] [.null, .int (Int32.ofNat A.slots.size), .int 0, .ref b, .ref a])) := c1.trans (by
    refine XS.aloadN X0.here hexec rfl (hb hbytes d0) rfl rfl ?_
    refine XS.aloadN X0.here hexec rfl (hb hbytes d1) rfl rfl ?_
    refine iconstV X0.here hexec rfl 0 (hb hbytes d2) (by decide) ?_
    refine XS.aloadN X0.here hexec rfl (hb hbytes d3) rfl rfl ?_
    refine X0.alen hexec (hA.1.mv X0.warmed.alike hh0) rfl rfl (hb hbytes d4) ?_
    refine XS.aconstNull X0.here hexec rfl (hb hbytes d5) ?_
    exact Steps.refl _)
  obtain ⟨v3, T3, X3, E3, g3⟩ := X0.callN hexec (New4.law l a D fV fC b A z 0 A.slots.size) rfl hown (wks W (initW "java/lang/String" 27 New4.yN)) (W New4.tab (by simp only [site, List.mem_cons, List.mem_append, true_or, or_true])) (W := 0) (Nat.le_of_ble_eq_true rfl) (Nat.le_of_ble_eq_true rfl) (Nat.le_refl _) (by show 0 + A.slots.size ≤ A.slots.size; omega) (g := (mkF m 6 #[.val (.ref a), .val (.ref b)] [.null, .int (Int32.ofNat A.slots.size), .int (Int32.ofNat 0), .ref b, .ref a])) rfl (by rw [hml]; rfl) c2 (argsL := [.ref b, .int (Int32.ofNat 0), .int (Int32.ofNat A.slots.size), .null]) (rest := []) rfl rfl (by show 2 * 0 + 0 ≤ _; decide) (hb hbytes d6) (⟨rfl, hB.mv X0.warmed.alike hh0, f1.al X0.warmed.alike, f2.al X0.warmed.alike, hA.mv X0.warmed.alike hh0, s1.there X0.warmed.alike hh0, hz, l0, by omega, l2, fun i hi => by rw [Nat.zero_add]; exact hp i hi⟩)
  have e0 := Got.mv _ s₁ s _ _ hh0.symm (Vm.Alike.refl _) rfl E3
  obtain rfl := e0.1
  have c4 : Steps p.tables e below (s₁.setTop (entryFrame m #[.ref a, .ref b] 2)) (T3.setTop (mkF m 9 #[.val (.ref a), .val (.ref b)] [])) := g3
  exact ⟨T3, none, _, _, _, X3, by simp, rfl, by omega, (fun _ => rfl), e0, fun fs hl => c4.trans (X3.returnOut hexec hret (hb hbytes d9) hl)⟩
theorem pays {l : Launch} {R : Room} {p : Program} {e : Env} {below : List Frame} {s : State} {sargs : Array Value} {len W : Nat} (a : Addr) (D : Cell) (fV fC : Field) (b : Addr) (A : Cell) (z : Int32) (htab : tab.before sargs s = true) (hfr : 4 ≤ R.frames) (hlo : W + 65 ≤ R.locals) :
    Back l R p e below s sargs yN len W (fun A₁ a₁ => A₁.cells + 1 ≤ R.cells ∧ A₁.slots + A.slots.size ≤ R.slots ∧ P a D fV fC b A z a₁ A₁.U) (fun A₁ _ v₁ B₁ => E a D fV fC A v₁ A₁.U B₁.U ∧ B₁.locs = A₁.locs ++ [⟨a, fC.slot⟩, ⟨a, fV.slot⟩] ∧ B₁.cells = A₁.cells + 1 ∧ B₁.slots = A₁.slots + A.slots.size) :=
  (law l a D fV fC b A z).pays htab hfr (by omega)
end New1
/-- the byte, read back as charAt reads it, is the char -/
theorem lo8_mask {x : Int32} (h0 : ¬ x < 0) (h1 : ¬ 255 < x) : lo8 x &&& 255 = x := by
  have t : ∀ k : Fin 256, lo8 (Int32.ofNat k.val) &&& 255 = Int32.ofNat k.val := by decide +kernel
  rw [Int32.lt_iff_toInt_lt] at h0 h1
  have e0 : (0 : Int32).toInt = 0 := rfl
  have e1 : (255 : Int32).toInt = 255 := rfl
  obtain ⟨k, hk⟩ : ∃ k : Nat, x.toInt = k := ⟨x.toInt.toNat, by omega⟩
  have hx : x = Int32.ofNat k := Int32.toInt_inj.mp (by rw [hk, Int32.toInt_ofNat_small (by omega)])
  rw [hx]
  exact t ⟨k, by omega⟩
end StrChars
namespace StrChars.Road
open Jvm Sem ClassFile Op Lib Jvm.Stand Jvm.Free Jvm.Free.XT
open Jvm.Lib.Cold (StaticIs)
abbrev ST : String := "java/lang/String"
/-- every table word that New1's law asks, flat -/
abbrev words : List Jvm.Cond := [.code New1.yN New1.yB 2 none, .initialized ST, .methodLink ST 27 New4.yN, .instanceMethod New4.yN,
  .code New4.yN New4.yB 6 none, .fieldLink ST 38 ST "COMPACT_STRINGS" "Z", .laysFinal ST ST "value" "[B", .fieldLink ST 9 ST "value" "[B", .laysFinal ST ST "coder" "B", .fieldLink ST 15 ST "coder" "B",
  .methodLink ST 1 Lib.objectInit, .instanceMethod Lib.objectInit, .code Lib.objectInit ⟨#[0xb1]⟩ 1 none, .methodLink ST 177 Cmp3.yN, .static Cmp3.yN, .methodLink ST 47 CodL.yN, .static CodL.yN,
  .code Cmp3.yN Cmp3.yB 6 (some (.array .byte)), .initialized U16, .arrayClass .byte, .methodLink U16 115 Cmp5.yN, .static Cmp5.yN, .code Cmp5.yN Cmp5.yB 7 (some .int), .code CodL.yN CodL.yB 2 (some .byte)]
theorem tab_of {a : Array Value} {s : State} (h : ∀ w ∈ words, w.before a s = true) : New1.tab.before a s = true := by
  have h5 : Cmp5.tab.before a s = true := unparts (wk h (.code Cmp5.yN Cmp5.yB 7 (some .int))) (wks h (.initialized Cmp5.yN.cls :: Cmp5.site))
  have hc : CodL.tab.before a s = true := unparts (wk h (.code CodL.yN CodL.yB 2 (some .byte))) (wks h (.initialized CodL.yN.cls :: CodL.site))
  have q5 : ∀ w ∈ Cmp5.tab :: words, w.before a s = true := fun w hw => (List.mem_cons.mp hw).elim (fun e => e ▸ h5) (h w)
  have h3 : Cmp3.tab.before a s = true := unparts (wk q5 (.code Cmp3.yN Cmp3.yB 6 (some (.array .byte)))) (wks q5 (.initialized Cmp3.yN.cls :: Cmp3.site))
  have q3 : ∀ w ∈ Cmp3.tab :: CodL.tab :: words, w.before a s = true := fun w hw => (List.mem_cons.mp hw).elim (fun e => e ▸ h3) fun hw => (List.mem_cons.mp hw).elim (fun e => e ▸ hc) (h w)
  have h4 : New4.tab.before a s = true := unparts (wk q3 (.code New4.yN New4.yB 6 none)) (wks q3 (.initialized New4.yN.cls :: New4.site))
  have q4 : ∀ w ∈ New4.tab :: words, w.before a s = true := fun w hw => (List.mem_cons.mp hw).elim (fun e => e ▸ h4) (h w)
  exact unparts (wk q4 (.code New1.yN New1.yB 2 none)) (wks q4 (.initialized New1.yN.cls :: New1.site))
/-- the words ride from the start Z to the walk's own state -/
theorem moved {Z s : State} {a0 args : Array Value} (hZ : Z.Warmed39 s.vm) (hw : ∀ d ∈ words, d.before a0 Z = true) : ∀ d ∈ words, d.before args s = true := fun d hd => by
  have q := hw d hd
  have t : ∀ d ∈ words, d = .arrayClass .byte ∨ (d.onTables && d.keepsFace) = true := by decide +kernel
  rcases t d hd with rfl | t
  · exact RoadKit.mvA hZ q
  · exact RoadKit.mv hZ q t
/-- WHAT COMES BACK, over the tables of the start Z: h the heap at the call, h' behind it -/
def Q (Z : State) (x : Addr) (A : Cell) (h : Heap) (v : Option Value) (h' : Heap) (L : List Loc) : Prop := v = none ∧ (∀ y ∈ L, y.base = x) ∧ RoadKit.Keep h h' [x] ∧ h'.size = h.size + 1 ∧ RoadKit.Exa Z h' x ST ∧ RoadKit.Fld Z h' x ST "value" "[B" (.ref h.size) ∧ RoadKit.Fld Z h' x ST "coder" "B" (.int 0) ∧
  (∃ V : Cell, RoadKit.Arr Z h' h.size V .byte ∧ V.vm = .none ∧ Z.vm.findClass "[B" = some V.cls ∧ V.slots.size = A.slots.size ∧ ∀ j, j < A.slots.size → V.slots[j]? = some (.int (lo8 (cv A j)))) ∧
  ∀ (O n d : String) (w : Value), RoadKit.Fld Z h x O n d w → RoadKit.slotOf Z O n d ≠ RoadKit.slotOf Z ST "value" "[B" → RoadKit.slotOf Z O n d ≠ RoadKit.slotOf Z ST "coder" "B" → RoadKit.Fld Z h' x O n d w
/-- **new String(chars) AT A CALL, IN THE ROAD'S FORM**: for specialBack behind newO: x the fresh String, b the char[] with the cell A -/
theorem back {p : Program} {l : Launch} {e : Env} {R : Room} {s : State} {args : Array Value} {below : List Frame} {len W : Nat} {Z : State} {a0 : Array Value} {h : Heap} (hZ : Z.Warmed39 s.vm) (hw : ∀ d ∈ words, d.before a0 Z = true) {kI : Nat} (wi : (Jvm.Cond.instantiable ST kI).before a0 Z = true)
    {x b : Addr} {A : Cell} {z : Int32} {v0 c0 : Value} (E : RoadKit.Exa Z h x ST) (V : RoadKit.Fld Z h x ST "value" "[B" v0) (C : RoadKit.Fld Z h x ST "coder" "B" c0) (K : RoadKit.Arr Z h b A .char) (hty : Typed .char A) (S : RoadKit.Sta Z h ST "COMPACT_STRINGS" "Z" (.int z)) (hz : ¬ z = 0)
    (l0 : 0 < A.slots.size) (l2 : A.slots.size ≤ 536870912) (hp : ∀ i, i < A.slots.size → ¬ 255 < cv A i) (hfr : 4 ≤ R.frames) (hlo : W + 65 ≤ R.locals) :
    Back l R p e below s args New1.yN len W (fun P a => a = #[.ref x, .ref b] ∧ P.U.heap = h ∧ P.cells + 1 ≤ R.cells ∧ P.slots + A.slots.size ≤ R.slots)
      (fun P _ v B => ∃ L, Q Z x A h v B.U.heap L ∧ B.locs = P.locs ++ L ∧ B.cells = P.cells + 1 ∧ B.slots = P.slots + A.slots.size) := by
  intro m meth c P g ig mk a X hg hsize hdg hW hn hp'
  obtain ⟨rfl, rfl, r1, r2⟩ := hp'
  have al : Z.vm.Alike P.U.vm := hZ.alike.trans X.warmed.alike
  obtain ⟨D, cfV, kV, iV, fV, hD, gV, stV, knV, obV, asV, slV⟩ := id V
  obtain ⟨D', cfC, kC, iC, fC, hD', gC, stC, -, -, asC, slC⟩ := id C
  cases hD.symm.trans hD'
  obtain ⟨D2, kD, e1, e2, e3, e4, e5⟩ := id E
  cases hD.symm.trans e1
  obtain ⟨c2, k2, i1, i2, i3, -⟩ := Cond.instantiable_spec wi
  cases e2.symm.trans i1
  cases e3.symm.trans i2
  obtain ⟨kU, u1, u2⟩ := al.2.2 _ _ e3
  have hB : Blank ST x D P.U := ⟨hD, ⟨knV, fun q hq => by rw [hq] at obV; cases obV⟩, by rw [al.findClass]; exact e2, kU, u1, by rw [u2]; exact i3, by rw [u2]; exact e5 i3⟩
  have F1 : Found ST "value" "[B" fV P.U := ⟨SBG.found_only al ⟨cfV, kV, iV, gV⟩, stV⟩
  have F2 : Found ST "coder" "B" fC P.U := ⟨SBG.found_only al ⟨cfC, kC, iC, gC⟩, stC⟩
  have hA : Ch b A P.U := ⟨⟨K.1, State.isArrayOf_alike al K.2.1, K.2.2, by omega⟩, hty⟩
  have hS : StaticIs P.U ST "COMPACT_STRINGS" "Z" (.int z) := by
    obtain ⟨cfS, iS, kS, fS, st, cS, t1, t2, t3, t4, t5, t6, t7⟩ := S
    exact StaticIs.there (s := { Z with heap := P.U.heap }) ⟨cfS, iS, kS, fS, st, cS, t1, t2, t3, t4, t5, (fun q => by rw [q] at t6; cases t6), t7⟩ al rfl
  obtain ⟨v, B, X', ⟨⟨hv, E', V', q1, q2, q3, q4, q5, q6, q7, q8, q9, q10, q11⟩, hl, hc, hs⟩, st⟩ := New1.pays x D fV fC b A z (tab_of (moved hZ hw)) hfr hlo m meth c P g ig mk _ X hg hsize hdg hW hn ⟨r1, r2, rfl, hB, F1, F2, hA, hS, hz, l0, l2, hp⟩
  have al' : Z.vm.Alike B.U.vm := hZ.alike.trans X'.warmed.alike
  have hsz : E'.slots.size = D.slots.size := by
    obtain ⟨-, -, -, kB, w1, w2, w3⟩ := q1
    obtain ⟨kB', y1, y2⟩ := al'.2.2 _ _ e3
    rw [q2.2.1] at w1
    cases w1.symm.trans y1
    rw [w3, e5 i3, y2]
  refine ⟨v, B, X', ⟨_, ⟨hv, ?_, ⟨by omega, fun y cy hy hn' => q10 y cy (by simpa using hn') hy, fun y cy hy => ?_⟩, q11, ⟨E', _, q1.1, by rw [q2.2.1]; exact e2, by rw [q2.2.1]; exact e3, by rw [q2.1]; exact obV, fun _ => by rw [hsz]; exact e5 i3⟩,
    ⟨E', cfV, kV, iV, fV, q1.1, gV, stV, by rw [q2.1]; exact knV, by rw [q2.1]; exact obV, by rw [q2.2.1]; exact asV, q3⟩, ⟨E', cfC, kC, iC, fC, q1.1, gC, stC, by rw [q2.1]; exact knV, by rw [q2.1]; exact obV, by rw [q2.2.1]; exact asC, q4⟩,
    ⟨V', ⟨q5.1, State.isArrayOf_alike al'.symm q5.2.1, q5.2.2.1⟩, q6, by rw [← al'.findClass]; exact q7, q8, fun j hj => by have := q9 j hj; rwa [Nat.zero_add] at this⟩, fun O n d w F n1 n2 => ?_⟩, hl, hc, hs⟩, st⟩
  · intro y hy
    simp only [List.mem_cons, List.not_mem_nil, or_false] at hy
    rcases hy with rfl | rfl <;> rfl
  · by_cases q : y = x
    · subst q
      cases hD.symm.trans hy
      exact ⟨E', q1.1, q2.2.1, q2.1, hsz⟩
    · exact ⟨cy, q10 y cy q hy, rfl, rfl, rfl⟩
  · obtain ⟨D3, cf, k, i, f, g1, g2, g3, g4, g5, g6, g7⟩ := F
    cases hD.symm.trans g1
    simp only [RoadKit.slotOf, g2, gV, gC, Option.map_some, Option.getD_some] at n1 n2
    exact ⟨E', cf, k, i, f, q1.1, g2, g3, by rw [q2.1]; exact g4, by rw [q2.1]; exact g5, by rw [q2.2.1]; exact g6, by rw [q2.2.2 f.slot (by simp [n1, n2])]; exact g7⟩
end StrChars.Road
namespace StrChars.Road
open Jvm Sem ClassFile Op Lib Jvm.Stand Jvm.Free Jvm.Free.XT
/-- WHAT COMES BACK, the byte[] as a list of values -/
def QA (Z : State) (x : Addr) (zn : Int32) (cs : List Int32) (h : Heap) (v : Option Value) (h' : Heap) (L : List Loc) : Prop := v = none ∧ (∀ y ∈ L, y.base = x) ∧ RoadKit.Keep h h' [x] ∧ h'.size = h.size + 1 ∧ RoadKit.Exa Z h' x ST ∧ RoadKit.Fld Z h' x ST "value" "[B" (.ref h.size) ∧ RoadKit.Fld Z h' x ST "coder" "B" (.int 0) ∧
  (∃ kb, Z.vm.findClass "[B" = some kb ∧ RoadKit.Arv Z h' h.size kb .byte zn (cs.map fun c => .int (lo8 c)) (.int 0)) ∧
  ∀ (O n d : String) (w : Value), RoadKit.Fld Z h x O n d w → RoadKit.slotOf Z O n d ≠ RoadKit.slotOf Z ST "value" "[B" → RoadKit.slotOf Z O n d ≠ RoadKit.slotOf Z ST "coder" "B" → RoadKit.Fld Z h' x O n d w
/-- **new String(chars) AT A CALL, THE ARRAYS AS LISTS**: the char[] at b holds cs, not empty, no char above 255 -/
theorem backArv {p : Program} {l : Launch} {e : Env} {R : Room} {s : State} {args : Array Value} {below : List Frame} {len W : Nat} {Z : State} {a0 : Array Value} {h : Heap} (hZ : Z.Warmed39 s.vm) (hw : ∀ d ∈ words, d.before a0 Z = true) {kI : Nat} (wi : (Jvm.Cond.instantiable ST kI).before a0 Z = true)
    {x b : Addr} {k : ClassId} {zn z : Int32} {cs : List Int32} {dv v0 c0 : Value} (E : RoadKit.Exa Z h x ST) (V : RoadKit.Fld Z h x ST "value" "[B" v0) (C : RoadKit.Fld Z h x ST "coder" "B" c0) (K : RoadKit.Arv Z h b k .char zn (cs.map Value.int) dv) (S : RoadKit.Sta Z h ST "COMPACT_STRINGS" "Z" (.int z)) (hz : ¬ z = 0)
    (hlen : zn.toNatClampNeg = cs.length) (h0 : 0 < cs.length) (hbig : cs.length ≤ 536870912) (hall : ∀ c ∈ cs, ¬ 255 < c) (hfr : 4 ≤ R.frames) (hlo : W + 65 ≤ R.locals) :
    Back l R p e below s args New1.yN len W (fun P a => a = #[.ref x, .ref b] ∧ P.U.heap = h ∧ P.cells + 1 ≤ R.cells ∧ P.slots + cs.length ≤ R.slots)
      (fun P _ v B => ∃ L, QA Z x zn cs h v B.U.heap L ∧ B.locs = P.locs ++ L ∧ B.cells = P.cells + 1 ∧ B.slots = P.slots + cs.length) := by
  obtain ⟨A, K1, K2, K3, K4, K5, K6⟩ := K
  have e : A.slots.size = cs.length := K3.trans hlen
  have hat : ∀ (i : Nat) (hi : i < cs.length), A.slots[i]? = some (.int cs[i]) := fun i hi => by rw [K5 i (by omega)]; simp [List.getD_eq_getElem?_getD, hi]
  have hcv : ∀ (i : Nat) (hi : i < cs.length), cv A i = cs[i] := fun i hi => by unfold cv; rw [hat i hi]
  have hty : Typed .char A := fun i v hv => by
    have hi : i < A.slots.size := (Array.getElem?_eq_some_iff.mp hv).1
    have q := K5 i hi
    rw [hv] at q
    rw [Option.some.inj q]
    exact K6 i hi
  refine Back.mono (back hZ hw wi E V C K1 hty S hz (by omega) (by omega) (fun i hi => by rw [hcv i (by omega)]; exact hall _ (List.getElem_mem _)) hfr hlo) (fun P a hp => ⟨hp.1, hp.2.1, hp.2.2.1, by rw [e]; exact hp.2.2.2⟩) (fun P a v B hp hq => ?_)
  obtain ⟨L, ⟨q1, q2, q3, q4, q5, q6, q7, ⟨V', v1, v2, v3, v4, v5⟩, q9⟩, hl, hc, hs⟩ := hq
  refine ⟨L, ⟨q1, q2, q3, q4, q5, q6, q7, ⟨V'.cls, v3, V', v1, rfl, by rw [v4, e, hlen], K4, fun i hi => ?_, fun i hi => ?_⟩, q9⟩, hl, hc, by rw [hs, e]⟩
  · have hi' : i < cs.length := by omega
    rw [v5 i (by omega), hcv i hi']; simp [List.getD_eq_getElem?_getD, hi']
  · have hi' : i < cs.length := by omega
    simp only [List.getD_eq_getElem?_getD, List.getElem?_map, List.getElem?_eq_getElem hi', Option.map_some, Option.getD_some]
    exact fits_lo8 _
end StrChars.Road
namespace StrChars.Road
open Jvm Sem ClassFile Op Lib Jvm.Stand Jvm.Free Jvm.Free.XT
/-- WHAT COMES BACK, in the writer's own shape -/
def QV (Z : State) (x : Addr) (N : Int32) (bs : List Int32) (h : Heap) (n0 : Nat) (v : Option Value) (h' : Heap) (L : List Loc) : Prop := v = none ∧ RoadKit.Fr n0 L ∧ RoadKit.Keep h h' [x] ∧ RoadKit.Exa Z h' x ST ∧ RoadKit.Fld Z h' x ST "coder" "B" (.int 0) ∧
  ∃ (t : Addr) (kb : ClassId), n0 ≤ t ∧ h.size ≤ t ∧ ¬ t = x ∧ RoadKit.Fld Z h' x ST "value" "[B" (.ref t) ∧ RoadKit.Arv Z h' t kb .byte N (bs.map Value.int) (.int 0)
/-- **new String(chars) AT A CALL, FOR THE WRITER**: a char[] of n known ints, each 0 to 255 -/
theorem backV {p : Program} {l : Launch} {e : Env} {R : Room} {s : State} {args : Array Value} {below : List Frame} {len W : Nat} {Z : State} {a0 : Array Value} {h : Heap} (hZ : Z.Warmed39 s.vm) (hw : ∀ d ∈ words, d.before a0 Z = true) {kI : Nat} (wi : (Jvm.Cond.instantiable ST kI).before a0 Z = true)
    {x b : Addr} {kC : ClassId} {cs bs : List Int32} {d v0 c0 : Value} {z N : Int32} {n n0 : Nat} (hx0 : n0 ≤ x) (hh0 : n0 ≤ h.size) (E : RoadKit.Exa Z h x ST) (V : RoadKit.Fld Z h x ST "value" "[B" v0) (C : RoadKit.Fld Z h x ST "coder" "B" c0) (K : RoadKit.Arv Z h b kC .char N (cs.map Value.int) d) (S : RoadKit.Sta Z h ST "COMPACT_STRINGS" "Z" (.int z)) (hz : ¬ z = 0)
    (hn : cs.length = n) (hN : N = Int32.ofNat n) (l0 : 0 < n) (l2 : n ≤ 4000) (hp : ∀ c ∈ cs, ¬ c < 0 ∧ ¬ (255 : Int32) < c) (hb : bs = cs.map (fun c => c.toInt8.toInt32)) (hfr : 4 ≤ R.frames) (hlo : W + 65 ≤ R.locals) :
    Back l R p e below s args (⟨"java/lang/String", "<init>", "([C)V"⟩ : MethodName) len W (fun P a => a = #[.ref x, .ref b] ∧ P.U.heap = h ∧ P.cells + 1 ≤ R.cells ∧ P.slots + n ≤ R.slots)
      (fun P _ v B => ∃ L, QV Z x N bs h n0 v B.U.heap L ∧ B.locs = P.locs ++ L ∧ B.cells = P.cells + 1 ∧ B.slots = P.slots + n) := by
  subst hn hN hb
  refine Back.mono (backArv hZ hw wi E V C K S hz (n32 (by omega)) l0 (by omega) (fun c hc => (hp c hc).2) hfr hlo) (fun P a hp => hp) (fun P a v B hp hq => ?_)
  obtain ⟨L, ⟨q1, q2, q3, q4, q5, q6, q7, ⟨kb, v1, v2⟩, q9⟩, hl, hc, hs⟩ := hq
  exact ⟨L, ⟨q1, fun y hy => by rw [q2 y hy]; exact hx0, q3, q5, q7, h.size, kb, hh0, Nat.le_refl _, Nat.ne_of_gt E.lt, q6, by rw [List.map_map]; exact v2⟩, hl, hc, hs⟩
end StrChars.Road
namespace StrChars
open Jvm Sem ClassFile Op Lib Jvm.Stand Jvm.Free.XT Jvm.Free.ALB Jvm.Free.JM Jvm.Free
open Jvm.Lib.Cold (StaticIs)
def hi8 (x : Int32) : Int32 := lo8 (x >>> ((8 : Int32) &&& 31))
/-- what StringUTF16.getChar makes of two bytes -/
def pairCh (u v : Int32) : Int32 := (((u &&& 255) <<< ((0 : Int32) &&& 31)) ||| ((v &&& 255) <<< ((8 : Int32) &&& 31))).toUInt32.toUInt16.toUInt32.toInt32
theorem shr0 (c : Int32) : c >>> ((0 : Int32) &&& 31) = c := by
  have e : ((0 : Int32) &&& 31) = 0 := by decide
  rw [e]
  apply Int32.toBitVec_inj.mp
  rw [Int32.toBitVec_shiftRight]
  have e1 : ((0 : Int32).toBitVec.smod 32) = 0#32 := by decide
  rw [e1, BitVec.sshiftRight_eq']
  exact BitVec.sshiftRight_zero
theorem lo8_and (x : Int32) : (lo8 x &&& 255).toBitVec.toNat = x.toBitVec.toNat % 256 := by
  have h : (lo8 x).toBitVec = (x.toBitVec.signExtend 8).signExtend 32 := by rw [lo8, Int8.toBitVec_toInt32, Int32.toBitVec_toInt8]
  rw [Int32.toBitVec_and, BitVec.toNat_and, h]
  have e : ((x.toBitVec.signExtend 8).signExtend 32).toNat % 256 = x.toBitVec.toNat % 256 := by
    rw [BitVec.toNat_signExtend]
    have hlt := x.toBitVec.isLt
    simp only [BitVec.toNat_setWidth, BitVec.toNat_signExtend]
    split <;> split <;> omega
  rw [← e]
  exact Nat.and_two_pow_sub_one_eq_mod _ 8
theorem pair_says {c : Int32} (h0 : ¬ c < 0) (h1 : ¬ 65535 < c) : pairCh (lo8 c) (hi8 c) = c := by
  rw [Int32.lt_iff_toInt_lt] at h0 h1
  have e0 : (0 : Int32).toInt = 0 := rfl
  have e1 : (65535 : Int32).toInt = 65535 := rfl
  have hc : c.toInt = c.toBitVec.toNat := by
    have := c.toBitVec.isLt
    have e : c.toInt = c.toBitVec.toInt := rfl
    rw [e] at h0 h1
    rw [e]
    rw [BitVec.toInt_eq_toNat_cond] at h0 h1 ⊢
    split at h0 <;> split <;> omega
  have hn : c.toBitVec.toNat < 65536 := by omega
  have a1 := lo8_and c
  have a2 : (hi8 c &&& 255).toBitVec.toNat = c.toBitVec.toNat / 256 := by
    rw [hi8, lo8_and]
    have e : ((8 : Int32) &&& 31) = 8 := by decide
    rw [e, Int32.toBitVec_shiftRight]
    have e2 : ((8 : Int32).toBitVec.smod 32) = 8#32 := by decide
    rw [e2, BitVec.sshiftRight_eq', BitVec.toNat_sshiftRight_of_msb_false (by rw [BitVec.msb_eq_false_iff_two_mul_lt]; omega)]
    show c.toBitVec.toNat >>> 8 % 256 = _
    rw [Nat.shiftRight_eq_div_pow]
    omega
  unfold pairCh
  apply Int32.toBitVec_inj.mp
  apply BitVec.eq_of_toNat_eq
  have f0 : ((0 : Int32) &&& 31) = 0 := by decide
  have f8 : ((8 : Int32) &&& 31) = 8 := by decide
  rw [f0, f8]
  have g : (((lo8 c &&& 255) <<< (0 : Int32)) ||| ((hi8 c &&& 255) <<< (8 : Int32))).toBitVec.toNat = c.toBitVec.toNat := by
    rw [Int32.toBitVec_or, Int32.toBitVec_shiftLeft, Int32.toBitVec_shiftLeft]
    have s0 : ((0 : Int32).toBitVec.smod 32) = 0#32 := by decide
    have s8 : ((8 : Int32).toBitVec.smod 32) = 8#32 := by decide
    rw [s0, s8, BitVec.toNat_or]
    simp only [BitVec.shiftLeft_eq', BitVec.toNat_shiftLeft, a1, a2]
    show (c.toBitVec.toNat % 256) <<< 0 % 2 ^ 32 ||| (c.toBitVec.toNat / 256) <<< 8 % 2 ^ 32 = _
    rw [Nat.shiftLeft_zero, Nat.mod_eq_of_lt (show c.toBitVec.toNat % 256 < 2 ^ 32 by omega), Nat.mod_eq_of_lt (show (c.toBitVec.toNat / 256) <<< 8 < 2 ^ 32 by rw [Nat.shiftLeft_eq]; omega), Nat.or_comm, ← Nat.shiftLeft_add_eq_or_of_lt (by omega), Nat.shiftLeft_eq]
    omega
  show BitVec.toNat (((((lo8 c &&& 255) <<< (0 : Int32)) ||| ((hi8 c &&& 255) <<< (8 : Int32))).toBitVec.setWidth 16).setWidth 32) = _
  rw [BitVec.toNat_setWidth, BitVec.toNat_setWidth, g]
  omega
end StrChars
namespace StrChars
open Jvm Sem ClassFile Op Lib Jvm.Stand Jvm.Free.XT Jvm.Free.ALB Jvm.Free.JM Jvm.Free
open Jvm.Lib.Cold (StaticIs)
theorem shr1 {n : Nat} (h : 2 * n < 2 ^ 31) : Int32.ofNat (2 * n) >>> ((1 : Int32) &&& 31) = Int32.ofNat n := by
  have e : ((1 : Int32) &&& 31) = 1 := by decide
  rw [e]
  apply Int32.toBitVec_inj.mp
  rw [Int32.toBitVec_shiftRight]
  have e1 : ((1 : Int32).toBitVec.smod 32) = 1#32 := by decide
  have hm : (BitVec.ofNat 32 (2 * n)).toNat = 2 * n := by rw [BitVec.toNat_ofNat, Nat.mod_eq_of_lt (by omega)]
  rw [e1, BitVec.sshiftRight_eq']
  apply BitVec.eq_of_toNat_eq
  show ((BitVec.ofNat 32 (2 * n)).sshiftRight 1).toNat = (BitVec.ofNat 32 n).toNat
  rw [BitVec.toNat_sshiftRight_of_msb_false (by rw [BitVec.msb_eq_false_iff_two_mul_lt, hm]; omega), hm, BitVec.toNat_ofNat, Nat.shiftRight_eq_div_pow]
  omega
/-- charAt's cast of a byte read back -/
def chr8 (u : Int32) : Int32 := (u &&& 255).toUInt32.toUInt16.toUInt32.toInt32
theorem chr8_lo8 {c : Int32} (h0 : ¬ c < 0) (h1 : ¬ 255 < c) : chr8 (lo8 c) = c := by
  have t : ∀ k : Fin 256, (Int32.ofNat k.val).toUInt32.toUInt16.toUInt32.toInt32 = Int32.ofNat k.val := by decide +kernel
  unfold chr8
  rw [lo8_mask h0 h1]
  rw [Int32.lt_iff_toInt_lt] at h0 h1
  have e0 : (0 : Int32).toInt = 0 := rfl
  have e1 : (255 : Int32).toInt = 255 := rfl
  obtain ⟨k, hk⟩ : ∃ k : Nat, c.toInt = k := ⟨c.toInt.toNat, by omega⟩
  have hx : c = Int32.ofNat k := Int32.toInt_inj.mp (by rw [hk, Int32.toInt_ofNat_small (by omega)])
  rw [hx]
  exact t ⟨k, by omega⟩
theorem narrow_ch {c : Int32} (h0 : ¬ c < 0) (h1 : ¬ 65535 < c) : narrow .char (.int c) = .int c := by
  have q : narrow .char (.int (pairCh (lo8 c) (hi8 c))) = .int (pairCh (lo8 c) (hi8 c)) := narrow_c _
  rwa [pair_says h0 h1] at q
/-- the array's cell V codes the n chars f 0 .. f (n - 1) by the coder cd, as the JDK does: coder 1 just where some char is above 255 -/
def Cod (cd : Int32) (n : Nat) (f : Nat → Int32) (V : Cell) : Prop := (cd = 0 ∧ V.slots.size = n ∧ ∀ j, j < n → V.slots[j]? = some (.int (lo8 (f j))) ∧ ¬ 255 < f j) ∨ (cd = 1 ∧ V.slots.size = 2 * n ∧ (∀ j, j < n → V.slots[2 * j]? = some (.int (lo8 (f j))) ∧ V.slots[2 * j + 1]? = some (.int (hi8 (f j)))) ∧ ∃ j, j < n ∧ 255 < f j)
theorem Cod.cd {cd : Int32} {n : Nat} {f : Nat → Int32} {V : Cell} (h : Cod cd n f V) : cd = 0 ∨ cd = 1 := h.imp (fun q => q.1) fun q => q.1
theorem Cod.len {cd : Int32} {n : Nat} {f : Nat → Int32} {V : Cell} (h : Cod cd n f V) (hs : V.slots.size < 2 ^ 31) : Int32.ofNat V.slots.size >>> (cd &&& 31) = Int32.ofNat n := by
  rcases h with ⟨rfl, h, -⟩ | ⟨rfl, h, -⟩
  · rw [shr0, h]
  · rw [h, shr1 (by omega)]
/-- **x is a String of the n chars f 0 .. f (n - 1)**, Latin-1 or UTF-16; its array at t has the cell V -/
def Txt (x t : Addr) (V : Cell) (cd : Int32) (n : Nat) (f : Nat → Int32) (U : State) : Prop := Exact "java/lang/String" x U ∧ Has x "java/lang/String" "value" "[B" (.ref t) U ∧ Has x "java/lang/String" "coder" "B" (.int cd) U ∧ XT.Arr .byte t V U ∧ Cod cd n f V ∧ ∀ j, j < n → ¬ f j < 0 ∧ ¬ 65535 < f j
theorem Txt.mv {x t : Addr} {V : Cell} {cd : Int32} {n : Nat} {f : Nat → Int32} {U U' : State} (h : Txt x t V cd n f U) (hal : U.vm.Alike U'.vm) (hh : U'.heap = U.heap) : Txt x t V cd n f U' := ⟨h.1.mv hal hh, h.2.1.mv hal hh, h.2.2.1.mv hal hh, h.2.2.2.1.mv hal hh, h.2.2.2.2⟩
namespace Cdr
def yN : MethodName := ⟨"java/lang/String", "coder", "()B"⟩
abbrev yB : ByteArray := jdk_42_method_152_code
theorem d0 : decode yB 0 = .ok (.getstatic 38, 3) := by decide +kernel
theorem d3 : decode yB 3 = .ok (.ifCond (.eq) 10, 3) := by decide +kernel
theorem d6 : decode yB 6 = .ok (.aload_n 0, 1) := by decide +kernel
theorem d7 : decode yB 7 = .ok (.getfield 15, 3) := by decide +kernel
theorem d10 : decode yB 10 = .ok (.goto 4, 3) := by decide +kernel
theorem d14 : decode yB 14 = .ok (.ireturn, 1) := by decide +kernel
def site : List Cond := [.fieldLink "java/lang/String" 38 "java/lang/String" "COMPACT_STRINGS" "Z", .fieldLink "java/lang/String" 15 "java/lang/String" "coder" "B"]
def tab : Cond := tabOf yN yB 1 (some .byte) site
def P (x : Addr) (cd z : Int32) (args : Array Value) (s : State) : Prop := args = #[.ref x] ∧ Has x "java/lang/String" "coder" "B" (.int cd) s ∧ (cd = 0 ∨ cd = 1) ∧ StaticIs s "java/lang/String" "COMPACT_STRINGS" "Z" (.int z) ∧ ¬ z = 0
def E (cd : Int32) (r : Option Value) (s u : State) : Prop := XT.PureE (some (.int cd)) r s u
theorem law (l : Launch) (x : Addr) (cd z : Int32) : Law l yN 1 0 0 0 yB 1 (some .byte) site (P x cd z) (E cd) [] 0 0 := by
  refine Law.of_walk (plainFor_of_name (by decide +kernel)) (by decide +kernel) (by decide +kernel) (by decide) (fun _ _ h => by rw [h.1]; rfl) (fun _ U U' hal hh h => ⟨h.1, h.2.1.mv hal hh, h.2.2.1, h.2.2.2.1.there hal hh, h.2.2.2.2⟩) (fun r U U' V V' h1 hal h2 h => XT.PureE.mv r U U' V V' h1 hal h2 h) ?_
  intro p e s m args below meth c s₁ X0 hexec hbytes hml hret hlk hnm hown hh0 W hP
  obtain ⟨rfl, hx, hc, s1, hz⟩ := hP
  have c1 : Steps p.tables e below (s₁.setTop (entryFrame m #[.ref x] 1)) (s₁.setTop (mkF m 0 #[.val (.ref x)] [])) := entry rfl
  obtain ⟨T2, X2, q2, st2⟩ := X0.sget hexec hown (wk W (.fieldLink "java/lang/String" 38 "java/lang/String" "COMPACT_STRINGS" "Z")) s1 (fun _ _ h => by rw [hh0]; exact h) (g := (mkF m 0 #[.val (.ref x)] [])) rfl (hb hbytes d0)
  have hh2 := q2.trans hh0
  have c3 : Steps p.tables e below (s₁.setTop (entryFrame m #[.ref x] 1)) (T2.setTop (mkF m 7 #[.val (.ref x)] [.ref x])) := (c1.trans (st2 _ (Steps.refl _))).trans (by
    refine XS.ifNo X2.here hexec rfl (hb hbytes d3) rfl (i0_eq_f hz) ?_
    refine XS.aloadN X2.here hexec rfl (hb hbytes d6) rfl rfl ?_
    exact Steps.refl _)
  obtain ⟨T4, X4, q4, st4⟩ := X2.hget hexec hown (wk W (.fieldLink "java/lang/String" 15 "java/lang/String" "coder" "B")) (hx.mv X2.warmed.alike hh2) (g := (mkF m 7 #[.val (.ref x)] [.ref x])) rfl (rest := []) rfl (hb hbytes d7)
  have c5 : Steps p.tables e below (s₁.setTop (entryFrame m #[.ref x] 1)) (T4.setTop (mkF m 14 #[.val (.ref x)] [.int cd])) := (c3.trans (st4 _ (Steps.refl _))).trans (by
    refine XS.goto X4.here hexec rfl (pc0 := 10) rfl (hb hbytes d10) (by decide) rfl ?_
    exact Steps.refl _)
  exact ⟨T4, some (.int cd), _, _, _, X4, rfl, rfl, rfl, (fun h => by cases h), ⟨rfl, q4.trans hh2⟩, fun fs hl => c5.trans (X4.ireturnOut hexec hret (by rcases hc with rfl | rfl <;> rfl) (Or.inr (Or.inr (Or.inl rfl))) (hb hbytes d14) hl)⟩
end Cdr
namespace Len
def yN : MethodName := ⟨"java/lang/String", "length", "()I"⟩
abbrev yB : ByteArray := jdk_42_method_54_code
theorem d0 : decode yB 0 = .ok (.aload_n 0, 1) := by decide +kernel
theorem d1 : decode yB 1 = .ok (.getfield 9, 3) := by decide +kernel
theorem d4 : decode yB 4 = .ok (.arraylength, 1) := by decide +kernel
theorem d5 : decode yB 5 = .ok (.aload_n 0, 1) := by decide +kernel
theorem d6 : decode yB 6 = .ok (.invokevirtual 335, 3) := by decide +kernel
theorem d9 : decode yB 9 = .ok (.ishr, 1) := by decide +kernel
theorem d10 : decode yB 10 = .ok (.ireturn, 1) := by decide +kernel
def site : List Cond := [.fieldLink "java/lang/String" 9 "java/lang/String" "value" "[B", Cdr.tab] ++ virtW "java/lang/String" 335 "java/lang/String" Cdr.yN Cdr.yN
def tab : Cond := tabOf yN yB 1 (some .int) site
def P (x t : Addr) (V : Cell) (cd : Int32) (n : Nat) (f : Nat → Int32) (z : Int32) (args : Array Value) (s : State) : Prop := args = #[.ref x] ∧ Txt x t V cd n f s ∧ StaticIs s "java/lang/String" "COMPACT_STRINGS" "Z" (.int z) ∧ ¬ z = 0
def E (n : Nat) (r : Option Value) (s u : State) : Prop := XT.PureE (some (.int (Int32.ofNat n))) r s u
/-- length() of a String of n chars, in either coding -/
theorem law (l : Launch) (x t : Addr) (V : Cell) (cd : Int32) (n : Nat) (f : Nat → Int32) (z : Int32) : Law l yN 1 0 1 13 yB 1 (some .int) site (P x t V cd n f z) (E n) [] 0 0 := by
  refine Law.of_walk (plainFor_of_name (by decide +kernel)) (by decide +kernel) (by decide +kernel) (by decide) (fun _ _ h => by rw [h.1]; rfl) (fun _ U U' hal hh h => ⟨h.1, h.2.1.mv hal hh, h.2.2.1.there hal hh, h.2.2.2⟩) (fun r U U' V V' h1 hal h2 h => XT.PureE.mv r U U' V V' h1 hal h2 h) ?_
  intro p e s m args below meth c s₁ X0 hexec hbytes hml hret hlk hnm hown hh0 W hP
  obtain ⟨rfl, hx, s1, hz⟩ := hP
  have v31 := hx.2.2.2.1.2.2.2
  have c1 : Steps p.tables e below (s₁.setTop (entryFrame m #[.ref x] 1)) (s₁.setTop (mkF m 1 #[.val (.ref x)] [.ref x])) := Steps.trans (entry rfl) (by
    show Steps p.tables e below (s₁.setTop (mkF m 0 #[.val (.ref x)] [])) _
    refine XS.aloadN X0.here hexec rfl (hb hbytes d0) rfl rfl ?_
    exact Steps.refl _)
  obtain ⟨T2, X2, q2, st2⟩ := X0.hget hexec hown (wk W (.fieldLink "java/lang/String" 9 "java/lang/String" "value" "[B")) (hx.mv X0.warmed.alike hh0).2.1 (g := (mkF m 1 #[.val (.ref x)] [.ref x])) rfl (rest := []) rfl (hb hbytes d1)
  have hh2 := q2.trans hh0
  have hx2 := hx.mv X2.warmed.alike hh2
  have c3 : Steps p.tables e below (s₁.setTop (entryFrame m #[.ref x] 1)) (T2.setTop (mkF m 6 #[.val (.ref x)] [.ref x, .int (Int32.ofNat V.slots.size)])) := (c1.trans (st2 _ (Steps.refl _))).trans (by
    refine X2.alen hexec hx2.2.2.2.1 rfl rfl (hb hbytes d4) ?_
    refine XS.aloadN X2.here hexec rfl (hb hbytes d5) rfl rfl ?_
    exact Steps.refl _)
  obtain ⟨v4, T4, X4, E4, g4⟩ := X2.callV hexec (Cdr.law l x cd z) hown (wks W (virtW "java/lang/String" 335 "java/lang/String" Cdr.yN Cdr.yN)) rfl (by decide) (wk W Cdr.tab) (W := 1) (Nat.le_of_ble_eq_true rfl) (Nat.le_of_ble_eq_true rfl) (Nat.le_refl _) (Nat.le_refl _) (hx2.1.fc X2.warmed.alike) hx2.1.is (g := (mkF m 6 #[.val (.ref x)] [.ref x, .int (Int32.ofNat V.slots.size)])) rfl (by rw [hml]; rfl) c3 (argsL := []) (rest := [.int (Int32.ofNat V.slots.size)]) rfl rfl (by show 2 * 0 + (1 + 0) ≤ _; decide) (hb hbytes d6) (⟨rfl, hx2.2.2.1, hx.2.2.2.2.1.cd, s1.there X2.warmed.alike hh2, hz⟩)
  obtain ⟨rfl, q4⟩ := E4
  have c5 : Steps p.tables e below (s₁.setTop (entryFrame m #[.ref x] 1)) (T4.setTop (mkF m 10 #[.val (.ref x)] [.int (Int32.ofNat V.slots.size >>> (cd &&& 31))])) := Steps.trans g4 (by
    refine ishr X4.here hexec rfl (hb hbytes d9) rfl ?_
    exact Steps.refl _)
  rw [hx.2.2.2.2.1.len v31] at c5
  exact ⟨T4, some (.int (Int32.ofNat n)), _, _, _, X4, rfl, rfl, rfl, (fun h => by cases h), ⟨rfl, q4.trans hh2⟩, fun fs hl => c5.trans (X4.ireturnOut hexec hret rfl (Or.inl rfl) (hb hbytes d10) hl)⟩
theorem pays {l : Launch} {R : Room} {p : Program} {e : Env} {below : List Frame} {s : State} {sargs : Array Value} {len W : Nat} (x t : Addr) (V : Cell) (cd : Int32) (n : Nat) (f : Nat → Int32) (z : Int32) (htab : tab.before sargs s = true) (hfr : 2 ≤ R.frames) (hlo : W + 25 ≤ R.locals) :
    Back l R p e below s sargs yN len W (fun A₁ a₁ => A₁.cells + 0 ≤ R.cells ∧ A₁.slots + 0 ≤ R.slots ∧ P x t V cd n f z a₁ A₁.U) (fun A₁ _ v₁ B₁ => E n v₁ A₁.U B₁.U ∧ B₁.locs = A₁.locs ++ [] ∧ B₁.cells = A₁.cells + 0 ∧ B₁.slots = A₁.slots + 0) :=
  (law l x t V cd n f z).pays htab hfr (by omega)
end Len
namespace IsL
def yN : MethodName := ⟨"java/lang/String", "isLatin1", "()Z"⟩
abbrev yB : ByteArray := jdk_42_method_154_code
theorem d0 : decode yB 0 = .ok (.getstatic 38, 3) := by decide +kernel
theorem d3 : decode yB 3 = .ok (.ifCond (.eq) 14, 3) := by decide +kernel
theorem d6 : decode yB 6 = .ok (.aload_n 0, 1) := by decide +kernel
theorem d7 : decode yB 7 = .ok (.getfield 15, 3) := by decide +kernel
theorem d10 : decode yB 10 = .ok (.ifCond (.ne) 7, 3) := by decide +kernel
theorem d13 : decode yB 13 = .ok (.iconst 1, 1) := by decide +kernel
theorem d14 : decode yB 14 = .ok (.goto 4, 3) := by decide +kernel
theorem d17 : decode yB 17 = .ok (.iconst 0, 1) := by decide +kernel
theorem d18 : decode yB 18 = .ok (.ireturn, 1) := by decide +kernel
def site : List Cond := [.fieldLink "java/lang/String" 38 "java/lang/String" "COMPACT_STRINGS" "Z", .fieldLink "java/lang/String" 15 "java/lang/String" "coder" "B"]
def tab : Cond := tabOf yN yB 1 (some .boolean) site
def P (x : Addr) (cd z : Int32) (args : Array Value) (s : State) : Prop := args = #[.ref x] ∧ Has x "java/lang/String" "coder" "B" (.int cd) s ∧ (cd = 0 ∨ cd = 1) ∧ StaticIs s "java/lang/String" "COMPACT_STRINGS" "Z" (.int z) ∧ ¬ z = 0
def E (cd : Int32) (r : Option Value) (s u : State) : Prop := XT.PureE (some (.int (1 - cd))) r s u
theorem law (l : Launch) (x : Addr) (cd z : Int32) : Law l yN 1 0 0 0 yB 1 (some .boolean) site (P x cd z) (E cd) [] 0 0 := by
  refine Law.of_walk (plainFor_of_name (by decide +kernel)) (by decide +kernel) (by decide +kernel) (by decide) (fun _ _ h => by rw [h.1]; rfl) (fun _ U U' hal hh h => ⟨h.1, h.2.1.mv hal hh, h.2.2.1, h.2.2.2.1.there hal hh, h.2.2.2.2⟩) (fun r U U' V V' h1 hal h2 h => XT.PureE.mv r U U' V V' h1 hal h2 h) ?_
  intro p e s m args below meth c s₁ X0 hexec hbytes hml hret hlk hnm hown hh0 W hP
  obtain ⟨rfl, hx, hc, s1, hz⟩ := hP
  have c1 : Steps p.tables e below (s₁.setTop (entryFrame m #[.ref x] 1)) (s₁.setTop (mkF m 0 #[.val (.ref x)] [])) := entry rfl
  obtain ⟨T2, X2, q2, st2⟩ := X0.sget hexec hown (wk W (.fieldLink "java/lang/String" 38 "java/lang/String" "COMPACT_STRINGS" "Z")) s1 (fun _ _ h => by rw [hh0]; exact h) (g := (mkF m 0 #[.val (.ref x)] [])) rfl (hb hbytes d0)
  have hh2 := q2.trans hh0
  have c3 : Steps p.tables e below (s₁.setTop (entryFrame m #[.ref x] 1)) (T2.setTop (mkF m 7 #[.val (.ref x)] [.ref x])) := (c1.trans (st2 _ (Steps.refl _))).trans (by
    refine XS.ifNo X2.here hexec rfl (hb hbytes d3) rfl (i0_eq_f hz) ?_
    refine XS.aloadN X2.here hexec rfl (hb hbytes d6) rfl rfl ?_
    exact Steps.refl _)
  obtain ⟨T4, X4, q4, st4⟩ := X2.hget hexec hown (wk W (.fieldLink "java/lang/String" 15 "java/lang/String" "coder" "B")) (hx.mv X2.warmed.alike hh2) (g := (mkF m 7 #[.val (.ref x)] [.ref x])) rfl (rest := []) rfl (hb hbytes d7)
  have c5 : Steps p.tables e below (s₁.setTop (entryFrame m #[.ref x] 1)) (T4.setTop (mkF m 10 #[.val (.ref x)] [.int cd])) := c3.trans (st4 _ (Steps.refl _))
  have c6 : Steps p.tables e below (s₁.setTop (entryFrame m #[.ref x] 1)) (T4.setTop (mkF m 18 #[.val (.ref x)] [.int (1 - cd)])) := by
    rcases hc with rfl | rfl
    · exact c5.trans (by
        refine XS.ifNo X4.here hexec rfl (hb hbytes d10) rfl (i0_ne_f rfl) ?_
        refine iconstV X4.here hexec rfl 1 (hb hbytes d13) (by decide) ?_
        refine XS.goto X4.here hexec rfl (pc0 := 14) rfl (hb hbytes d14) (by decide) rfl ?_
        exact Steps.refl _)
    · exact c5.trans (by
        refine XS.ifYes X4.here hexec rfl (pc0 := 10) rfl (hb hbytes d10) rfl (i0_ne_t (by decide)) (by decide) rfl ?_
        refine iconstV X4.here hexec rfl 0 (hb hbytes d17) (by decide) ?_
        exact Steps.refl _)
  exact ⟨T4, some (.int (1 - cd)), _, _, _, X4, rfl, rfl, rfl, (fun h => by cases h), ⟨rfl, q4.trans hh2⟩, fun fs hl => c6.trans (X4.ireturnOut hexec hret (by rcases hc with rfl | rfl <;> rfl) (Or.inr (Or.inl rfl)) (hb hbytes d18) hl)⟩
end IsL
namespace LChA
def yN : MethodName := ⟨"java/lang/StringLatin1", "charAt", "([BI)C"⟩
abbrev yB : ByteArray := jdk_43_method_2_code
theorem d0 : decode yB 0 = .ok (.iload_n 1, 1) := by decide +kernel
theorem d1 : decode yB 1 = .ok (.aload_n 0, 1) := by decide +kernel
theorem d2 : decode yB 2 = .ok (.arraylength, 1) := by decide +kernel
theorem d3 : decode yB 3 = .ok (.invokestatic 9, 3) := by decide +kernel
theorem d6 : decode yB 6 = .ok (.aload_n 0, 1) := by decide +kernel
theorem d7 : decode yB 7 = .ok (.iload_n 1, 1) := by decide +kernel
theorem d8 : decode yB 8 = .ok (.baload, 1) := by decide +kernel
theorem d9 : decode yB 9 = .ok (.sipush 255, 3) := by decide +kernel
theorem d12 : decode yB 12 = .ok (.iand, 1) := by decide +kernel
theorem d13 : decode yB 13 = .ok (.i2c, 1) := by decide +kernel
theorem d14 : decode yB 14 = .ok (.ireturn, 1) := by decide +kernel
def site : List Cond := [JO.Str_checkIndex.tab] ++ staticW "java/lang/StringLatin1" 9 JO.Str_checkIndex.yN
def tab : Cond := tabOf yN yB 2 (some .char) site
def P (t : Addr) (V : Cell) (i : Nat) (u : Int32) (fm : Value) (args : Array Value) (s : State) : Prop := args = #[.ref t, .int (Int32.ofNat i)] ∧ XT.Arr .byte t V s ∧ V.slots[i]? = some (.int u) ∧ (StaticIs s "jdk/internal/util/Preconditions" "SIOOBE_FORMATTER" "Ljava/util/function/BiFunction;" fm ∧ fm.isRef = true)
def E (u : Int32) (r : Option Value) (s w : State) : Prop := XT.PureE (some (.int (chr8 u))) r s w
theorem law (l : Launch) (t : Addr) (V : Cell) (i : Nat) (u : Int32) (fm : Value) : Law l yN 2 2 2 27 yB 2 (some .char) site (P t V i u fm) (E u) [] 0 0 := by
  refine Law.of_walk (plainFor_of_name (by decide +kernel)) (by decide +kernel) (by decide +kernel) (by decide) (fun _ _ h => by rw [h.1]; rfl) (fun _ U U' hal hh h => ⟨h.1, h.2.1.mv hal hh, h.2.2.1, h.2.2.2.1.there hal hh, h.2.2.2.2⟩) (fun r U U' V V' h1 hal h2 h => XT.PureE.mv r U U' V V' h1 hal h2 h) ?_
  intro p e s m args below meth c s₁ X0 hexec hbytes hml hret hlk hnm hown hh0 W hP
  obtain ⟨rfl, hV, hu, s1, rf⟩ := hP
  have v31 := hV.2.2.2
  have hi : i < V.slots.size := (Array.getElem?_eq_some_iff.mp hu).1
  have c1 : Steps p.tables e below (s₁.setTop (entryFrame m #[.ref t, .int (Int32.ofNat i)] 2)) (s₁.setTop (mkF m 0 #[.val (.ref t), .val (.int (Int32.ofNat i))] [])) := entry rfl
  have c2 : Steps p.tables e below (s₁.setTop (entryFrame m #[.ref t, .int (Int32.ofNat i)] 2)) (s₁.setTop (mkF m 3 #[.val (.ref t), .val (.int (Int32.ofNat i))] [.int (Int32.ofNat V.slots.size), .int (Int32.ofNat i)])) := c1.trans (by
    refine XS.iloadN X0.here hexec rfl (hb hbytes d0) rfl ?_
    refine XS.aloadN X0.here hexec rfl (hb hbytes d1) rfl rfl ?_
    refine X0.alen hexec (hV.mv X0.warmed.alike hh0) rfl rfl (hb hbytes d2) ?_
    exact Steps.refl _)
  obtain ⟨v3, T3, X3, E3, g3⟩ := X0.callS hexec (JO.Str_checkIndex.law l (Int32.ofNat i) (Int32.ofNat V.slots.size) fm) hown (wks W (staticW "java/lang/StringLatin1" 9 JO.Str_checkIndex.yN)) (wk W JO.Str_checkIndex.tab) (W := 0) (Nat.le_of_ble_eq_true rfl) (Nat.le_of_ble_eq_true rfl) (Nat.le_refl _) (Nat.le_refl _) (g := (mkF m 3 #[.val (.ref t), .val (.int (Int32.ofNat i))] [.int (Int32.ofNat V.slots.size), .int (Int32.ofNat i)])) rfl (by rw [hml]; rfl) c2 (argsL := [.int (Int32.ofNat i), .int (Int32.ofNat V.slots.size)]) (rest := []) rfl rfl (by show 2 * 0 + 0 ≤ _; decide) (hb hbytes d3) (⟨rfl, rf, s1.there X0.warmed.alike hh0, Int32.ofNat_not_neg (by omega), lt32 v31 hi⟩)
  obtain ⟨rfl, q3⟩ := E3
  have hh3 := q3.trans hh0
  have c4 : Steps p.tables e below (s₁.setTop (entryFrame m #[.ref t, .int (Int32.ofNat i)] 2)) (T3.setTop (mkF m 14 #[.val (.ref t), .val (.int (Int32.ofNat i))] [.int (chr8 u)])) := Steps.trans g3 (by
    refine XS.aloadN X3.here hexec rfl (hb hbytes d6) rfl rfl ?_
    refine XS.iloadN X3.here hexec rfl (hb hbytes d7) rfl ?_
    refine X3.aget hexec (hV.mv X3.warmed.alike hh3) rfl hu rfl rfl (hb hbytes d8) ?_
    refine sipushV X3.here hexec rfl 255 (hb hbytes d9) (by decide) ?_
    refine XS.iand X3.here hexec rfl (hb hbytes d12) rfl ?_
    refine i2c X3.here hexec rfl (hb hbytes d13) rfl ?_
    exact Steps.refl _)
  exact ⟨T3, some (.int (chr8 u)), _, _, _, X3, rfl, rfl, rfl, (fun h => by cases h), ⟨rfl, hh3⟩, fun fs hl => c4.trans (X3.ireturnOut hexec hret (narrow_c _) (Or.inr (Or.inr (Or.inr (Or.inl rfl)))) (hb hbytes d14) hl)⟩
end LChA
end StrChars
namespace StrChars.Road
open Jvm Sem ClassFile Op Lib Jvm.Stand Jvm.Free Jvm.Free.XT
open Jvm.Lib.Cold (StaticIs)
theorem consq {a : Array Value} {s : State} {c : Jvm.Cond} {L : List Jvm.Cond} (h0 : c.before a s = true) (h : ∀ w ∈ L, w.before a s = true) : ∀ w ∈ c :: L, w.before a s = true := fun w hw => (List.mem_cons.mp hw).elim (fun e => e ▸ h0) (h w)
/-- the words of String.length(), either coding -/
abbrev wordsLen : List Jvm.Cond := [.code Len.yN Len.yB 1 (some .int), .initialized ST, .fieldLink ST 9 ST "value" "[B", .fieldLink ST 38 ST "COMPACT_STRINGS" "Z", .fieldLink ST 15 ST "coder" "B", .code Cdr.yN Cdr.yB 1 (some .byte), .methodLink ST 335 Cdr.yN, .declares Cdr.yN, .selects ST Cdr.yN Cdr.yN, .instanceMethod Cdr.yN]
theorem tabLen_of {a : Array Value} {s : State} (h : ∀ w ∈ wordsLen, w.before a s = true) : Len.tab.before a s = true := by
  have hc : Cdr.tab.before a s = true := unparts (wk h (.code Cdr.yN Cdr.yB 1 (some .byte))) (wks h (.initialized Cdr.yN.cls :: Cdr.site))
  have q := consq hc h
  exact unparts (wk q (.code Len.yN Len.yB 1 (some .int))) (wks q (.initialized Len.yN.cls :: Len.site))
theorem movedLen {Z s : State} {a0 args : Array Value} (hZ : Z.Warmed39 s.vm) (hw : ∀ d ∈ wordsLen, d.before a0 Z = true) : ∀ d ∈ wordsLen, d.before args s = true := fun d hd => by
  have q := hw d hd
  have t : ∀ d ∈ wordsLen, d = .arrayClass .byte ∨ (d.onTables && d.keepsFace) = true := by decide +kernel
  rcases t d hd with rfl | t
  · exact RoadKit.mvA hZ q
  · exact RoadKit.mv hZ q t
/-- the bytes of the chars cs, low before high -/
def wideBytes : List Int32 → List Value
  | [] => []
  | c :: cs => .int (lo8 c) :: .int (hi8 c) :: wideBytes cs
theorem wide_lo (d : Value) : ∀ (cs : List Int32) (j : Nat), j < cs.length → (wideBytes cs).getD (2 * j) d = .int (lo8 (cs.getD j 0))
  | [], j, h => absurd h (Nat.not_lt_zero j)
  | c :: cs, 0, _ => rfl
  | c :: cs, j + 1, h => by
    have q := wide_lo d cs j (by simpa using h)
    rw [show 2 * (j + 1) = 2 * j + 1 + 1 from by omega]
    simpa [wideBytes] using q
theorem wide_hi (d : Value) : ∀ (cs : List Int32) (j : Nat), j < cs.length → (wideBytes cs).getD (2 * j + 1) d = .int (hi8 (cs.getD j 0))
  | [], j, h => absurd h (Nat.not_lt_zero j)
  | c :: cs, 0, _ => rfl
  | c :: cs, j + 1, h => by
    have q := wide_hi d cs j (by simpa using h)
    rw [show 2 * (j + 1) + 1 = 2 * j + 1 + 1 + 1 from by omega]
    simpa [wideBytes] using q
theorem low_at (d : Value) (cs : List Int32) (j : Nat) (h : j < cs.length) : (cs.map fun c => Value.int (lo8 c)).getD j d = .int (lo8 (cs.getD j 0)) := by
  simp [List.getD_eq_getElem?_getD, h]
/-- an array of N2 bytes vs codes the chars cs by the coder cd -/
def CodA (cs : List Int32) (cd N2 : Int32) (vs : List Value) : Prop := (cd = 0 ∧ N2 = Int32.ofNat cs.length ∧ vs = (cs.map fun c => Value.int (lo8 c)) ∧ ∀ c ∈ cs, ¬ 255 < c) ∨ (cd = 1 ∧ N2 = Int32.ofNat (2 * cs.length) ∧ vs = wideBytes cs ∧ ∃ c ∈ cs, 255 < c)
theorem CodA.cod {cs : List Int32} {cd N2 : Int32} {vs : List Value} {V : Cell} (h : CodA cs cd N2 vs) (hn : 2 * cs.length < 2 ^ 31) (hs : V.slots.size = N2.toNatClampNeg) (hv : RoadKit.Has V vs (.int 0)) : Cod cd cs.length (fun j => cs.getD j 0) V := by
  rcases h with ⟨rfl, rfl, rfl, h⟩ | ⟨rfl, rfl, rfl, c, hc, hw⟩
  · rw [n32 (by omega)] at hs
    exact Or.inl ⟨rfl, hs, fun j hj => ⟨by rw [hv j (by omega), low_at _ _ _ hj], by
      have e : cs.getD j 0 = cs[j] := by simp [List.getD_eq_getElem?_getD, hj]
      show ¬ 255 < cs.getD j 0
      rw [e]; exact h _ (List.getElem_mem _)⟩⟩
  · rw [n32 (by omega)] at hs
    obtain ⟨j, hj, rfl⟩ := List.getElem_of_mem hc
    exact Or.inr ⟨rfl, hs, fun j hj => ⟨by rw [hv _ (by omega), wide_lo _ _ _ hj], by rw [hv _ (by omega), wide_hi _ _ _ hj]⟩, j, hj, by
      have e : cs.getD j 0 = cs[j] := by simp [List.getD_eq_getElem?_getD, hj]
      show 255 < cs.getD j 0
      rw [e]; exact hw⟩
/-- an object of exactly java/lang/String, its two fields found: as the laws ask it -/
theorem strObj {Z U : State} {a0 : Array Value} {kI : Nat} (wi : (Jvm.Cond.instantiable ST kI).before a0 Z = true) (al : Z.vm.Alike U.vm) {x : Addr} {v0 c0 : Value} (E : RoadKit.Exa Z U.heap x ST) (V : RoadKit.Fld Z U.heap x ST "value" "[B" v0) (C : RoadKit.Fld Z U.heap x ST "coder" "B" c0) :
    ∃ (D : Cell) (fV fC : Field), Blank ST x D U ∧ Found ST "value" "[B" fV U ∧ Found ST "coder" "B" fC U ∧ D.slots[fV.slot]? = some v0 ∧ D.slots[fC.slot]? = some c0 ∧ RoadKit.slotOf Z ST "value" "[B" = fV.slot ∧ RoadKit.slotOf Z ST "coder" "B" = fC.slot := by
  obtain ⟨D, cfV, kV, iV, fV, hD, gV, stV, knV, obV, asV, slV⟩ := V
  obtain ⟨D', cfC, kC, iC, fC, hD', gC, stC, -, -, asC, slC⟩ := C
  cases hD.symm.trans hD'
  obtain ⟨D2, kD, e1, e2, e3, e4, e5⟩ := E
  cases hD.symm.trans e1
  obtain ⟨c2, k2, i1, i2, i3, -⟩ := Cond.instantiable_spec wi
  cases e2.symm.trans i1
  cases e3.symm.trans i2
  obtain ⟨kU, u1, u2⟩ := al.2.2 _ _ e3
  exact ⟨D, fV, fC, ⟨hD, ⟨knV, fun q hq => by rw [hq] at obV; cases obV⟩, by rw [al.findClass]; exact e2, kU, u1, by rw [u2]; exact i3, by rw [u2]; exact e5 i3⟩, ⟨SBG.found_only al ⟨cfV, kV, iV, gV⟩, stV⟩, ⟨SBG.found_only al ⟨cfC, kC, iC, gC⟩, stC⟩, slV, slC, by simp [RoadKit.slotOf, gV], by simp [RoadKit.slotOf, gC]⟩
theorem sta_is {Z U : State} (al : Z.vm.Alike U.vm) {C n d : String} {v : Value} (S : RoadKit.Sta Z U.heap C n d v) : StaticIs U C n d v := by
  obtain ⟨cfS, iS, kS, fS, st, cS, t1, t2, t3, t4, t5, t6, t7⟩ := S
  exact StaticIs.there (s := { Z with heap := U.heap }) ⟨cfS, iS, kS, fS, st, cS, t1, t2, t3, t4, t5, (fun q => by rw [q] at t6; cases t6), t7⟩ al rfl
/-- **length() OF SUCH A STRING** -/
theorem lenW {p : Program} {l : Launch} {e : Env} {R : Room} {s : State} {args : Array Value} {below : List Frame} {len W : Nat} {Z : State} {a0 : Array Value} {h : Heap} (hZ : Z.Warmed39 s.vm) (hw : ∀ d ∈ wordsLen, d.before a0 Z = true) {kI : Nat} (wi : (Jvm.Cond.instantiable ST kI).before a0 Z = true)
    {x t : Addr} {kb : ClassId} {cs : List Int32} {cd N2 z : Int32} {vs : List Value} (E : RoadKit.Exa Z h x ST) (V : RoadKit.Fld Z h x ST "value" "[B" (.ref t)) (C : RoadKit.Fld Z h x ST "coder" "B" (.int cd)) (K : RoadKit.Arv Z h t kb .byte N2 vs (.int 0)) (hc : CodA cs cd N2 vs) (hb : ∀ c ∈ cs, ¬ c < 0 ∧ ¬ (65535 : Int32) < c)
    (S : RoadKit.Sta Z h ST "COMPACT_STRINGS" "Z" (.int z)) (hz : ¬ z = 0) (l2 : cs.length ≤ 4000) (hfr : 2 ≤ R.frames) (hlo : W + 25 ≤ R.locals) :
    Back l R p e below s args (⟨"java/lang/String", "length", "()I"⟩ : MethodName) len W (fun P a => a = #[.ref x] ∧ P.U.heap = h ∧ P.cells + 0 ≤ R.cells ∧ P.slots + 0 ≤ R.slots)
      (fun P _ v B => ∃ L, (v = some (.int (Int32.ofNat cs.length)) ∧ L = [] ∧ B.U.heap = h) ∧ B.locs = P.locs ++ L ∧ B.cells = P.cells + 0 ∧ B.slots = P.slots + 0) := by
  obtain ⟨A, K1, K2, K3, K4, K5, K6⟩ := K
  have hcod := hc.cod (by omega) K3 K5
  intro m meth c P g ig mk a X hg hsize hdg hW hn hp'
  obtain ⟨rfl, rfl, r1, r2⟩ := hp'
  have al : Z.vm.Alike P.U.vm := hZ.alike.trans X.warmed.alike
  obtain ⟨D, fV, fC, hB, F1, F2, g1, g2, -, -⟩ := strObj wi al E V C
  have hx : Txt x t A cd cs.length (fun j => cs.getD j 0) P.U := ⟨⟨_, hB.2.2.1, D, hB.1, rfl, by cases q : D.vm <;> first | rfl | exact absurd q (hB.2.1.2 _)⟩, Has.of hB F1 g1, Has.of hB F2 g2, ⟨K1.1, State.isArrayOf_alike al K1.2.1, K1.2.2, by rcases hcod with ⟨-, q, -⟩ | ⟨-, q, -⟩ <;> omega⟩, hcod, fun j hj => by
    have e : cs.getD j 0 = cs[j] := by simp [List.getD_eq_getElem?_getD, hj]
    show ¬ cs.getD j 0 < 0 ∧ ¬ 65535 < cs.getD j 0
    rw [e]; exact hb _ (List.getElem_mem _)⟩
  obtain ⟨v, B, X', ⟨⟨hv, hh⟩, hl, hk, hs⟩, st⟩ := Len.pays x t A cd cs.length (fun j => cs.getD j 0) z (tabLen_of (movedLen hZ hw)) hfr hlo m meth c P g ig mk _ X hg hsize hdg hW hn ⟨r1, r2, rfl, hx, sta_is al S, hz⟩
  exact ⟨v, B, X', ⟨[], ⟨hv, rfl, hh⟩, hl, hk, hs⟩, st⟩
end StrChars.Road
namespace StrChars.Road
open Jvm Sem ClassFile Op Lib Jvm.Stand Jvm.Free Jvm.Free.XT
open Jvm.Lib.Cold (StaticIs)
/-- the road's facts of a String, as the laws ask it -/
theorem txt_of {Z U : State} {a0 : Array Value} {kI : Nat} (wi : (Jvm.Cond.instantiable ST kI).before a0 Z = true) (al : Z.vm.Alike U.vm) {x t : Addr} {kb : ClassId} {cs : List Int32} {cd N2 : Int32} {vs : List Value} (E : RoadKit.Exa Z U.heap x ST) (V : RoadKit.Fld Z U.heap x ST "value" "[B" (.ref t)) (C : RoadKit.Fld Z U.heap x ST "coder" "B" (.int cd)) (K : RoadKit.Arv Z U.heap t kb .byte N2 vs (.int 0)) (hc : CodA cs cd N2 vs) (hb : ∀ c ∈ cs, ¬ c < 0 ∧ ¬ (65535 : Int32) < c) (l2 : cs.length ≤ 4000) :
    ∃ A, Txt x t A cd cs.length (fun j => cs.getD j 0) U := by
  obtain ⟨A, K1, K2, K3, K4, K5, K6⟩ := K
  have hcod := hc.cod (by omega) K3 K5
  obtain ⟨D, fV, fC, hB, F1, F2, g1, g2, -, -⟩ := strObj wi al E V C
  exact ⟨A, ⟨_, hB.2.2.1, D, hB.1, rfl, by cases q : D.vm <;> first | rfl | exact absurd q (hB.2.1.2 _)⟩, Has.of hB F1 g1, Has.of hB F2 g2, ⟨K1.1, State.isArrayOf_alike al K1.2.1, K1.2.2, by rcases hcod with ⟨-, q, -⟩ | ⟨-, q, -⟩ <;> omega⟩, hcod, fun j hj => by
    have e : cs.getD j 0 = cs[j] := by simp [List.getD_eq_getElem?_getD, hj]
    show ¬ cs.getD j 0 < 0 ∧ ¬ 65535 < cs.getD j 0
    rw [e]; exact hb _ (List.getElem_mem _)⟩
end StrChars.Road
namespace StrChars
open Jvm Sem ClassFile Op Lib Jvm.Stand Jvm.Free.XT Jvm.Free.ALB Jvm.Free.JM Jvm.Free
open Jvm.Lib.Cold (StaticIs)
namespace ChN
def yN : MethodName := ⟨"java/lang/String", "charAt", "(I)C"⟩
abbrev yB : ByteArray := jdk_42_method_56_code
theorem d0 : decode yB 0 = .ok (.aload_n 0, 1) := by decide +kernel
theorem d1 : decode yB 1 = .ok (.invokevirtual 492, 3) := by decide +kernel
theorem d4 : decode yB 4 = .ok (.ifCond (.eq) 12, 3) := by decide +kernel
theorem d7 : decode yB 7 = .ok (.aload_n 0, 1) := by decide +kernel
theorem d8 : decode yB 8 = .ok (.getfield 9, 3) := by decide +kernel
theorem d11 : decode yB 11 = .ok (.iload_n 1, 1) := by decide +kernel
theorem d12 : decode yB 12 = .ok (.invokestatic 495, 3) := by decide +kernel
theorem d15 : decode yB 15 = .ok (.ireturn, 1) := by decide +kernel
def site : List Cond := [.fieldLink "java/lang/String" 9 "java/lang/String" "value" "[B", IsL.tab, LChA.tab] ++ virtW "java/lang/String" 492 "java/lang/String" IsL.yN IsL.yN ++ staticW "java/lang/String" 495 LChA.yN
def tab : Cond := tabOf yN yB 2 (some .char) site
def P (x t : Addr) (V : Cell) (n : Nat) (f : Nat → Int32) (z : Int32) (fm : Value) (i : Nat) (args : Array Value) (s : State) : Prop := args = #[.ref x, .int (Int32.ofNat i)] ∧ Txt x t V 0 n f s ∧ i < n ∧ StaticIs s "java/lang/String" "COMPACT_STRINGS" "Z" (.int z) ∧ ¬ z = 0 ∧ StaticIs s "jdk/internal/util/Preconditions" "SIOOBE_FORMATTER" "Ljava/util/function/BiFunction;" fm ∧ fm.isRef = true
def E (f : Nat → Int32) (i : Nat) (r : Option Value) (s u : State) : Prop := XT.PureE (some (.int (f i))) r s u
/-- charAt(i) of a Latin-1 String of n chars, i < n: f i -/
theorem law (l : Launch) (x t : Addr) (V : Cell) (n : Nat) (f : Nat → Int32) (z : Int32) (fm : Value) (i : Nat) : Law l yN 2 1 3 40 yB 2 (some .char) site (P x t V n f z fm i) (E f i) [] 0 0 := by
  refine Law.of_walk (plainFor_of_name (by decide +kernel)) (by decide +kernel) (by decide +kernel) (by decide) (fun _ _ h => by rw [h.1]; rfl) (fun _ U U' hal hh h => ⟨h.1, h.2.1.mv hal hh, h.2.2.1, h.2.2.2.1.there hal hh, h.2.2.2.2.1, h.2.2.2.2.2.1.there hal hh, h.2.2.2.2.2.2⟩) (fun r U U' V V' h1 hal h2 h => XT.PureE.mv r U U' V V' h1 hal h2 h) ?_
  intro p e s m args below meth c s₁ X0 hexec hbytes hml hret hlk hnm hown hh0 W hP
  obtain ⟨rfl, hx, hi, s1, hz, s3, rf⟩ := hP
  have v31 := hx.2.2.2.1.2.2.2
  have hr := hx.2.2.2.2.2 i hi
  have hx0 := hx.mv X0.warmed.alike hh0
  have c1 : Steps p.tables e below (s₁.setTop (entryFrame m #[.ref x, .int (Int32.ofNat i)] 2)) (s₁.setTop (mkF m 1 #[.val (.ref x), .val (.int (Int32.ofNat i))] [.ref x])) := Steps.trans (entry rfl) (by
    show Steps p.tables e below (s₁.setTop (mkF m 0 #[.val (.ref x), .val (.int (Int32.ofNat i))] [])) _
    refine XS.aloadN X0.here hexec rfl (hb hbytes d0) rfl rfl ?_
    exact Steps.refl _)
  obtain ⟨v2, T2, X2, E2, g2⟩ := X0.callV hexec (IsL.law l x 0 z) hown (wks W (virtW "java/lang/String" 492 "java/lang/String" IsL.yN IsL.yN)) rfl (by decide) (wk W IsL.tab) (W := 0) (Nat.le_of_ble_eq_true rfl) (Nat.le_of_ble_eq_true rfl) (Nat.le_refl _) (Nat.le_refl _) (hx0.1.fc X0.warmed.alike) hx0.1.is (g := (mkF m 1 #[.val (.ref x), .val (.int (Int32.ofNat i))] [.ref x])) rfl (by rw [hml]; rfl) c1 (argsL := []) (rest := []) rfl rfl (by show 2 * 0 + 0 ≤ _; decide) (hb hbytes d1) (⟨rfl, hx0.2.2.1, hx.2.2.2.2.1.cd, s1.there X0.warmed.alike hh0, hz⟩)
  obtain ⟨rfl, q2⟩ := E2
  have hh2 := q2.trans hh0
  have hx2 := hx.mv X2.warmed.alike hh2
  obtain ⟨-, k1, k2⟩ | ⟨k0, -⟩ := hx.2.2.2.2.1
  · have c3 : Steps p.tables e below (s₁.setTop (entryFrame m #[.ref x, .int (Int32.ofNat i)] 2)) (T2.setTop (mkF m 8 #[.val (.ref x), .val (.int (Int32.ofNat i))] [.ref x])) := Steps.trans g2 (by
      refine XS.ifNo X2.here hexec rfl (hb hbytes d4) rfl (i0_eq_f (by decide)) ?_
      refine XS.aloadN X2.here hexec rfl (hb hbytes d7) rfl rfl ?_
      exact Steps.refl _)
    obtain ⟨T4, X4, q4, st4⟩ := X2.hget hexec hown (wk W (.fieldLink "java/lang/String" 9 "java/lang/String" "value" "[B")) hx2.2.1 (g := (mkF m 8 #[.val (.ref x), .val (.int (Int32.ofNat i))] [.ref x])) rfl (rest := []) rfl (hb hbytes d8)
    have hh4 := q4.trans hh2
    have c5 : Steps p.tables e below (s₁.setTop (entryFrame m #[.ref x, .int (Int32.ofNat i)] 2)) (T4.setTop (mkF m 12 #[.val (.ref x), .val (.int (Int32.ofNat i))] [.int (Int32.ofNat i), .ref t])) := (c3.trans (st4 _ (Steps.refl _))).trans (by
      refine XS.iloadN X4.here hexec rfl (hb hbytes d11) rfl ?_
      exact Steps.refl _)
    obtain ⟨v6, T6, X6, E6, g6⟩ := X4.callS hexec (LChA.law l t V i (lo8 (f i)) fm) hown (wks W (staticW "java/lang/String" 495 LChA.yN)) (wk W LChA.tab) (W := 0) (Nat.le_of_ble_eq_true rfl) (Nat.le_of_ble_eq_true rfl) (Nat.le_refl _) (Nat.le_refl _) (g := (mkF m 12 #[.val (.ref x), .val (.int (Int32.ofNat i))] [.int (Int32.ofNat i), .ref t])) rfl (by rw [hml]; rfl) c5 (argsL := [.ref t, .int (Int32.ofNat i)]) (rest := []) rfl rfl (by show 2 * 0 + 0 ≤ _; decide) (hb hbytes d12) (⟨rfl, hx.2.2.2.1.mv X4.warmed.alike hh4, (k2 i hi).1, s3.there X4.warmed.alike hh4, rf⟩)
    obtain ⟨rfl, q6⟩ := E6
    rw [chr8_lo8 hr.1 (k2 i hi).2] at g6
    exact ⟨T6, some (.int (f i)), _, _, _, X6, rfl, rfl, rfl, (fun h => by cases h), ⟨rfl, q6.trans hh4⟩, fun fs hl => Steps.trans g6 (X6.ireturnOut hexec hret (narrow_ch hr.1 hr.2) (Or.inr (Or.inr (Or.inr (Or.inl rfl)))) (hb hbytes d15) hl)⟩
  · exact absurd k0 (by decide)
theorem pays {l : Launch} {R : Room} {p : Program} {e : Env} {below : List Frame} {s : State} {sargs : Array Value} {len W : Nat} (x t : Addr) (V : Cell) (n : Nat) (f : Nat → Int32) (z : Int32) (fm : Value) (i : Nat) (htab : tab.before sargs s = true) (hfr : 4 ≤ R.frames) (hlo : W + 53 ≤ R.locals) :
    Back l R p e below s sargs yN len W (fun A₁ a₁ => A₁.cells + 0 ≤ R.cells ∧ A₁.slots + 0 ≤ R.slots ∧ P x t V n f z fm i a₁ A₁.U) (fun A₁ _ v₁ B₁ => E f i v₁ A₁.U B₁.U ∧ B₁.locs = A₁.locs ++ [] ∧ B₁.cells = A₁.cells + 0 ∧ B₁.slots = A₁.slots + 0) :=
  (law l x t V n f z fm i).pays htab hfr (by omega)
end ChN
end StrChars
namespace StrChars.Road
open Jvm Sem ClassFile Op Lib Jvm.Stand Jvm.Free Jvm.Free.XT
open Jvm.Lib.Cold (StaticIs)
/-- the words of String.charAt(int), the Latin-1 road alone -/
abbrev wordsChN : List Jvm.Cond := [.code ChN.yN ChN.yB 2 (some .char), .initialized ST, .fieldLink ST 9 ST "value" "[B", .fieldLink ST 38 ST "COMPACT_STRINGS" "Z", .fieldLink ST 15 ST "coder" "B", .code IsL.yN IsL.yB 1 (some .boolean), .methodLink ST 492 IsL.yN, .declares IsL.yN, .selects ST IsL.yN IsL.yN, .instanceMethod IsL.yN,
  .methodLink ST 495 LChA.yN, .static LChA.yN, .code LChA.yN LChA.yB 2 (some .char), .initialized "java/lang/StringLatin1", .methodLink "java/lang/StringLatin1" 9 JO.Str_checkIndex.yN, .static JO.Str_checkIndex.yN, .code JO.Str_checkIndex.yN JO.Str_checkIndex.yB 2 none,
  .fieldLink ST 1053 "jdk/internal/util/Preconditions" "SIOOBE_FORMATTER" "Ljava/util/function/BiFunction;", .methodLink ST 1059 JC.PreCheck.yN, .static JC.PreCheck.yN, .code JC.PreCheck.yN JC.PreCheck.yB 3 (some .int), .initialized "jdk/internal/util/Preconditions"]
theorem tabChN_of {a : Array Value} {s : State} (h : ∀ w ∈ wordsChN, w.before a s = true) : ChN.tab.before a s = true := by
  have hp : JC.PreCheck.tab.before a s = true := unparts (wk h (.code JC.PreCheck.yN JC.PreCheck.yB 3 (some .int))) (wks h (.initialized JC.PreCheck.yN.cls :: JC.PreCheck.site))
  have qk := consq hp h
  have hk : JO.Str_checkIndex.tab.before a s = true := unparts (wk qk (.code JO.Str_checkIndex.yN JO.Str_checkIndex.yB 2 none)) (wks qk (.initialized JO.Str_checkIndex.yN.cls :: JO.Str_checkIndex.site))
  have ql := consq hk h
  have hl : LChA.tab.before a s = true := unparts (wk ql (.code LChA.yN LChA.yB 2 (some .char))) (wks ql (.initialized LChA.yN.cls :: LChA.site))
  have hi : IsL.tab.before a s = true := unparts (wk h (.code IsL.yN IsL.yB 1 (some .boolean))) (wks h (.initialized IsL.yN.cls :: IsL.site))
  have q := consq hi (consq hl h)
  exact unparts (wk q (.code ChN.yN ChN.yB 2 (some .char))) (wks q (.initialized ChN.yN.cls :: ChN.site))
theorem movedChN {Z s : State} {a0 args : Array Value} (hZ : Z.Warmed39 s.vm) (hw : ∀ d ∈ wordsChN, d.before a0 Z = true) : ∀ d ∈ wordsChN, d.before args s = true := fun d hd => by
  have t : ∀ d ∈ wordsChN, (d.onTables && d.keepsFace) = true := by decide +kernel
  exact RoadKit.mv hZ (hw d hd) (t d hd)
/-- **charAt(i) OF A LATIN-1 STRING**, i < n: the char -/
theorem chN {p : Program} {l : Launch} {e : Env} {R : Room} {s : State} {args : Array Value} {below : List Frame} {len W : Nat} {Z : State} {a0 : Array Value} {h : Heap} (hZ : Z.Warmed39 s.vm) (hw : ∀ d ∈ wordsChN, d.before a0 Z = true) {kI : Nat} (wi : (Jvm.Cond.instantiable ST kI).before a0 Z = true)
    {x t : Addr} {kb : ClassId} {cs : List Int32} {N2 z : Int32} {vs : List Value} {fm : Value} {i : Nat} {j : Int32} (E : RoadKit.Exa Z h x ST) (V : RoadKit.Fld Z h x ST "value" "[B" (.ref t)) (C : RoadKit.Fld Z h x ST "coder" "B" (.int 0)) (K : RoadKit.Arv Z h t kb .byte N2 vs (.int 0)) (hc : CodA cs 0 N2 vs) (hb : ∀ c ∈ cs, ¬ c < 0 ∧ ¬ (65535 : Int32) < c)
    (S : RoadKit.Sta Z h ST "COMPACT_STRINGS" "Z" (.int z)) (hz : ¬ z = 0) (F : RoadKit.Sta Z h "jdk/internal/util/Preconditions" "SIOOBE_FORMATTER" "Ljava/util/function/BiFunction;" fm) (rf : fm.isRef = true) (l2 : cs.length ≤ 4000) (hi : i < cs.length) (hj : j = Int32.ofNat i) (hfr : 4 ≤ R.frames) (hlo : W + 53 ≤ R.locals) :
    Back l R p e below s args (⟨"java/lang/String", "charAt", "(I)C"⟩ : MethodName) len W (fun P a => a = #[.ref x, .int j] ∧ P.U.heap = h ∧ P.cells + 0 ≤ R.cells ∧ P.slots + 0 ≤ R.slots)
      (fun P _ v B => ∃ L, (v = some (.int (cs.getD i 0)) ∧ L = [] ∧ B.U.heap = h) ∧ B.locs = P.locs ++ L ∧ B.cells = P.cells + 0 ∧ B.slots = P.slots + 0) := by
  subst hj
  intro m meth c P g ig mk a X hg hsize hdg hW hn hp'
  obtain ⟨rfl, rfl, r1, r2⟩ := hp'
  have al : Z.vm.Alike P.U.vm := hZ.alike.trans X.warmed.alike
  obtain ⟨A, hx⟩ := txt_of wi al E V C K hc hb l2
  obtain ⟨v, B, X', ⟨⟨hv, hh⟩, hl, hk, hs⟩, st⟩ := ChN.pays x t A cs.length (fun j => cs.getD j 0) z fm i (tabChN_of (movedChN hZ hw)) hfr hlo m meth c P g ig mk _ X hg hsize hdg hW hn ⟨r1, r2, rfl, hx, hi, sta_is al S, hz, sta_is al F, rf⟩
  exact ⟨v, B, X', ⟨[], ⟨hv, rfl, hh⟩, hl, hk, hs⟩, st⟩
end StrChars.Road
end Jvm.Pilot.@@N@@
namespace Jvm.Pilot.@@N@@
namespace Own
open Jvm Jvm.ClassFile Sem Op Lib Jvm.Free Jvm.Stand Jvm.LawKit Jvm.RoadKit
/-- what stays through a whole case: the launch, the start, its arguments, the assumed constants, the start heap's size -/
def Gl : Type := Launch × State × Array Value × List (String × Nat) × Nat
def Gl.l (G : Gl) : Launch := G.1
def Gl.Z (G : Gl) : State := G.2.1
def Gl.a0 (G : Gl) : Array Value := G.2.2.1
def Gl.EL (G : Gl) : List (String × Nat) := G.2.2.2.1
def Gl.n0 (G : Gl) : Nat := G.2.2.2.2
/-- one run of one body -/
def Rn : Type := Program × Env × State × MethodId × Array Value × List Frame × Method × Code
def Rn.p (X : Rn) : Program := X.1
def Rn.e (X : Rn) : Env := X.2.1
def Rn.s (X : Rn) : State := X.2.2.1
def Rn.m (X : Rn) : MethodId := X.2.2.2.1
def Rn.args (X : Rn) : Array Value := X.2.2.2.2.1
def Rn.below (X : Rn) : List Frame := X.2.2.2.2.2.1
def Rn.meth (X : Rn) : Method := X.2.2.2.2.2.2.1
def Rn.c (X : Rn) : Code := X.2.2.2.2.2.2.2
/-- one body: its name, bytes, locals, what it returns, its room -/
def Bo : Type := MethodName × ByteArray × Nat × Option FieldType × Room
abbrev Bo.y (M : Bo) : MethodName := M.1
abbrev Bo.bytes (M : Bo) : ByteArray := M.2.1
abbrev Bo.maxL (M : Bo) : Nat := M.2.2.1
abbrev Bo.ret (M : Bo) : Option FieldType := M.2.2.2.1
abbrev Bo.R (M : Bo) : Room := M.2.2.2.2
/-- what is known of a run's body throughout -/
def Fixd (G : Gl) (X : Rn) (M : Bo) : Prop := X.p.tables.exec = Jvm.exec ∧ X.c.code = M.bytes ∧ X.c.maxLocals = M.maxL ∧ X.meth.sig.returnType = M.ret ∧ X.meth.locks = false ∧ X.meth.name = M.y.name ∧ EW G.Z G.a0 G.EL
/-- WHERE A WALK STANDS: the tables of its base vm, the state T, its heap h, at most C new cells of S slots -/
def Here (G : Gl) (X : Rn) (M : Bo) (vm : Vm) (T : State) (h : Heap) (C S : Nat) : Prop :=
  Fixd G X M ∧ ∃ (k0 : Nat) (locs : List Loc) (cells slots : Nat), Stand X.p G.l X.e M.R (X.s.setVm vm) X.m X.args X.below X.meth X.c T locs cells slots ∧ T.heap = h ∧ X.s.Since vm k0 ∧ k0 ≤ h.size ∧ G.Z.Warmed39 vm ∧ vm.findClass M.y.cls = some X.m.cls ∧
    CHr G.Z G.EL X.s.vm X.s.heap vm h ∧ Fr G.n0 locs ∧ Old G.Z G.n0 h ∧ cells ≤ C ∧ slots ≤ S
/-- THE GOAL: from this frame the body comes to its end, and there Q holds -/
def Go (G : Gl) (X : Rn) (M : Bo) (Q : Option Value → Heap → Prop) (T : State) (pc : Nat) (Ls : Array Slot) (st : List Value) : Prop :=
  ∃ s₂ o, Steps X.p.tables X.e X.below (T.setTop (mkF X.m pc Ls st)) s₂ ∧ s₂.status = .running ∧ Ended s₂ X.below o ∧ ∃ v L, o = .returned v ∧ (Q v s₂.heap ∧ Fr G.n0 L ∧ Old G.Z G.n0 s₂.heap) ∧ CHr G.Z G.EL X.s.vm X.s.heap s₂.vm s₂.heap ∧ ReturnedEndW X.s o s₂ L M.R.cells M.R.slots
/-- A BODY's CONTRACT: called with as' in the heap h (the places sf not booked by a constant), it returns and Q holds -/
def Con (G : Gl) (ws : List Jvm.Cond) (M : Bo) (as' : Array Value) (h : Heap) (sf : List Addr) (Q : Option Value → Heap → Prop) : Prop :=
  MetFree G.l M.y (head1 (Jvm.Cond.code M.y M.bytes M.maxL M.ret :: ws) M.R) (fun a U => a = as' ∧ G.Z.Warmed39 U.vm ∧ U.heap = h ∧ CHv G.Z G.EL U.vm h ∧ ∀ x ∈ sf, Safe G.Z G.EL U.vm h x) (fun _ _ _ _ _ => True)
    (fun _ U o U' => ∃ v L, o = .returned v ∧ (Q v U'.heap ∧ Fr G.n0 L ∧ Old G.Z G.n0 U'.heap) ∧ CHr G.Z G.EL U.vm U.heap U'.vm U'.heap ∧ ReturnedEndW U o U' L M.R.cells M.R.slots)
/-- A CALL THAT IS PAID -/
def Pay (G : Gl) (X : Rn) (M : Bo) (vm : Vm) (h : Heap) (y : MethodName) (len W : Nat) (as' : Array Value) (kc ks : Nat) (Q : Option Value → Heap → Prop) : Prop :=
  BackS G.l M.R X.p X.e X.below (X.s.setVm vm) X.args y len W (fun A a => a = as' ∧ A.U.heap = h ∧ A.cells + kc ≤ M.R.cells ∧ A.slots + ks ≤ M.R.slots)
    (fun A _ v B => ∃ L, (Q v B.U.heap ∧ Fr G.n0 L ∧ Old G.Z G.n0 B.U.heap) ∧ B.locs = A.locs ++ L ∧ B.cells ≤ A.cells + kc ∧ B.slots ≤ A.slots + ks ∧ CHr G.Z G.EL vm h B.U.vm B.U.heap)
section Kit
variable {G : Gl} {X : Rn} {M : Bo} {vm : Vm} {T : State} {h : Heap} {C S : Nat} {Q : Option Value → Heap → Prop} {pc pc' : Nat} {Ls Ls' : Array Slot} {st : List Value}
theorem Go.stp {T' : State} {st' : List Value} (hs : ∀ t, Steps X.p.tables X.e X.below (T'.setTop (mkF X.m pc' Ls' st')) t → Steps X.p.tables X.e X.below (T.setTop (mkF X.m pc Ls st)) t) (k : Go G X M Q T' pc' Ls' st') : Go G X M Q T pc Ls st := by
  obtain ⟨s₂, o, h1, r⟩ := k
  exact ⟨s₂, o, hs _ h1, r⟩
theorem Here.x (W : Here G X M vm T h C S) : X.p.tables.exec = Jvm.exec := W.1.1
theorem Here.d (W : Here G X M vm T h C S) {pc : Nat} {r : Except ClassFile.DecodeError (ClassFile.Instr × Nat)} (h2 : ClassFile.decode M.bytes pc = r) : ClassFile.decode X.c.code pc = r := hb W.1.2.1 h2
theorem Here.at (W : Here G X M vm T h C S) : Jvm.At T X.m X.c X.below := by obtain ⟨-, _, _, _, _, X1, -⟩ := W; exact X1.here
theorem Here.old (W : Here G X M vm T h C S) : Old G.Z G.n0 h := by obtain ⟨-, _, _, _, _, -, -, -, -, -, -, -, -, o, -⟩ := W; exact o
theorem Here.ch (W : Here G X M vm T h C S) : CHv G.Z G.EL vm h := by obtain ⟨-, _, _, _, _, -, -, -, -, -, -, q, -⟩ := W; exact q.1
theorem Here.wz (W : Here G X M vm T h C S) : G.Z.Warmed39 vm := by obtain ⟨-, _, _, _, _, -, -, -, -, q, -⟩ := W; exact q
theorem Here.le (W : Here G X M vm T h C S) {C' S' : Nat} (hc : C ≤ C') (hs : S ≤ S') : Here G X M vm T h C' S' := by
  obtain ⟨F, k0, L, c, s, h1, h2, h3, h4, h5, h6, h7, h8, h9, h10, h11⟩ := W
  exact ⟨F, k0, L, c, s, h1, h2, h3, h4, h5, h6, h7, h8, h9, Nat.le_trans h10 hc, Nat.le_trans h11 hs⟩
theorem Here.n0 (W : Here G X M vm T h C S) : G.n0 ≤ h.size := W.old.1 ▸ W.old.2.1
/-- the start heap's fact, now -/
theorem Here.sta (W : Here G X M vm T h C S) {c n d : String} {v : Value} (F : Sta G.Z G.Z.heap c n d v) : Sta G.Z h c n d v := F.ext W.old.2
/-! ### plain steps -/
theorem iconst (W : Here G X M vm T h C S) {i : Int} (hd : decode M.bytes pc = .ok (.iconst i, 1)) (pc' : Nat) (hp : pc + 1 = pc') (v : Int32) (hv : Int32.ofInt i = v) (k : Go G X M Q T pc' Ls (.int v :: st)) : Go G X M Q T pc Ls st := by
  subst hp hv; exact Go.stp (fun t r => XS.iconst W.at W.x rfl (W.d hd) r) k
theorem bipush (W : Here G X M vm T h C S) {i : Int} (hd : decode M.bytes pc = .ok (.bipush i, 2)) (pc' : Nat) (hp : pc + 2 = pc') (v : Int32) (hv : (Int8.ofInt i).toInt32 = v) (k : Go G X M Q T pc' Ls (.int v :: st)) : Go G X M Q T pc Ls st := by
  subst hp hv; exact Go.stp (fun t r => XS.bipush W.at W.x rfl (W.d hd) r) k
theorem sipush (W : Here G X M vm T h C S) {i : Int} (hd : decode M.bytes pc = .ok (.sipush i, 3)) (pc' : Nat) (hp : pc + 3 = pc') (v : Int32) (hv : (Int16.ofInt i).toInt32 = v) (k : Go G X M Q T pc' Ls (.int v :: st)) : Go G X M Q T pc Ls st := by
  subst hp hv; exact Go.stp (fun t r => XS.sipush W.at W.x rfl (W.d hd) r) k
theorem aconstNull (W : Here G X M vm T h C S) (hd : decode M.bytes pc = .ok (.aconst_null, 1)) (pc' : Nat) (hp : pc + 1 = pc') (k : Go G X M Q T pc' Ls (.null :: st)) : Go G X M Q T pc Ls st := by
  subst hp; exact Go.stp (fun t r => XS.aconstNull W.at W.x rfl (W.d hd) r) k
theorem iloadN (W : Here G X M vm T h C S) {j : Fin 4} (hd : decode M.bytes pc = .ok (.iload_n j, 1)) (pc' : Nat) (hp : pc + 1 = pc') (v : Int32) (hl : Ls[j.val]? = some (.val (.int v))) (k : Go G X M Q T pc' Ls (.int v :: st)) : Go G X M Q T pc Ls st := by
  subst hp; exact Go.stp (fun t r => XS.iloadN W.at W.x rfl (W.d hd) hl r) k
theorem iload (W : Here G X M vm T h C S) {j : Nat} (hd : decode M.bytes pc = .ok (.iload j, 2)) (pc' : Nat) (hp : pc + 2 = pc') (v : Int32) (hl : Ls[j]? = some (.val (.int v))) (k : Go G X M Q T pc' Ls (.int v :: st)) : Go G X M Q T pc Ls st := by
  subst hp; exact Go.stp (fun t r => XS.iload W.at W.x rfl (W.d hd) hl r) k
theorem aloadN (W : Here G X M vm T h C S) {j : Fin 4} (hd : decode M.bytes pc = .ok (.aload_n j, 1)) (pc' : Nat) (hp : pc + 1 = pc') (v : Value) (hl : Ls[j.val]? = some (.val v)) (hv : v.isRef = true) (k : Go G X M Q T pc' Ls (v :: st)) : Go G X M Q T pc Ls st := by
  subst hp; exact Go.stp (fun t r => XS.aloadN W.at W.x rfl (W.d hd) hl hv r) k
theorem aload (W : Here G X M vm T h C S) {j : Nat} (hd : decode M.bytes pc = .ok (.aload j, 2)) (pc' : Nat) (hp : pc + 2 = pc') (v : Value) (hl : Ls[j]? = some (.val v)) (hv : v.isRef = true) (k : Go G X M Q T pc' Ls (v :: st)) : Go G X M Q T pc Ls st := by
  subst hp; exact Go.stp (fun t r => XS.aload W.at W.x rfl (W.d hd) hl hv r) k
theorem istoreN (W : Here G X M vm T h C S) {j : Fin 4} {x : Int32} (hd : decode M.bytes pc = .ok (.istore_n j, 1)) (pc' : Nat) (hp : pc + 1 = pc') (Ls' : Array Slot) (hl : storeLocals Ls j.val (.int x) = some Ls') (k : Go G X M Q T pc' Ls' st) : Go G X M Q T pc Ls (.int x :: st) := by
  subst hp; exact Go.stp (fun t r => XS.istoreN W.at W.x rfl (W.d hd) rfl hl r) k
theorem istore (W : Here G X M vm T h C S) {j : Nat} {x : Int32} (hd : decode M.bytes pc = .ok (.istore j, 2)) (pc' : Nat) (hp : pc + 2 = pc') (Ls' : Array Slot) (hl : storeLocals Ls j (.int x) = some Ls') (k : Go G X M Q T pc' Ls' st) : Go G X M Q T pc Ls (.int x :: st) := by
  subst hp; exact Go.stp (fun t r => XS.istore W.at W.x rfl (W.d hd) rfl hl r) k
theorem astoreN (W : Here G X M vm T h C S) {j : Fin 4} {x : Value} (hd : decode M.bytes pc = .ok (.astore_n j, 1)) (pc' : Nat) (hp : pc + 1 = pc') (hv : x.isRef = true) (Ls' : Array Slot) (hl : storeLocals Ls j.val x = some Ls') (k : Go G X M Q T pc' Ls' st) : Go G X M Q T pc Ls (x :: st) := by
  subst hp; exact Go.stp (fun t r => XS.astoreN W.at W.x rfl (W.d hd) rfl hv hl r) k
theorem astore (W : Here G X M vm T h C S) {j : Nat} {x : Value} (hd : decode M.bytes pc = .ok (.astore j, 2)) (pc' : Nat) (hp : pc + 2 = pc') (hv : x.isRef = true) (Ls' : Array Slot) (hl : storeLocals Ls j x = some Ls') (k : Go G X M Q T pc' Ls' st) : Go G X M Q T pc Ls (x :: st) := by
  subst hp; exact Go.stp (fun t r => XS.astore W.at W.x rfl (W.d hd) rfl hv hl r) k
theorem iinc (W : Here G X M vm T h C S) {j : Nat} {cst : Int} {x : Int32} (hd : decode M.bytes pc = .ok (.iinc j cst, 3)) (pc' : Nat) (hp : pc + 3 = pc') (hl : Ls[j]? = some (.val (.int x))) (Ls' : Array Slot) (hl' : storeLocals Ls j (.int (x + Int32.ofInt cst)) = some Ls') (k : Go G X M Q T pc' Ls' st) : Go G X M Q T pc Ls st := by
  subst hp; exact Go.stp (fun t r => XS.iinc W.at W.x rfl (W.d hd) hl hl' r) k
theorem iadd (W : Here G X M vm T h C S) {x y : Int32} (hd : decode M.bytes pc = .ok (.iadd, 1)) (pc' : Nat) (hp : pc + 1 = pc') (k : Go G X M Q T pc' Ls (.int (x + y) :: st)) : Go G X M Q T pc Ls (.int y :: .int x :: st) := by
  subst hp; exact Go.stp (fun t r => XS.iadd W.at W.x rfl (W.d hd) rfl r) k
theorem isub (W : Here G X M vm T h C S) {x y : Int32} (hd : decode M.bytes pc = .ok (.isub, 1)) (pc' : Nat) (hp : pc + 1 = pc') (k : Go G X M Q T pc' Ls (.int (x - y) :: st)) : Go G X M Q T pc Ls (.int y :: .int x :: st) := by
  subst hp; exact Go.stp (fun t r => XS.isub W.at W.x rfl (W.d hd) rfl r) k
theorem iand (W : Here G X M vm T h C S) {x y : Int32} (hd : decode M.bytes pc = .ok (.iand, 1)) (pc' : Nat) (hp : pc + 1 = pc') (k : Go G X M Q T pc' Ls (.int (x &&& y) :: st)) : Go G X M Q T pc Ls (.int y :: .int x :: st) := by
  subst hp; exact Go.stp (fun t r => XS.iand W.at W.x rfl (W.d hd) rfl r) k
theorem ixor (W : Here G X M vm T h C S) {x y : Int32} (hd : decode M.bytes pc = .ok (.ixor, 1)) (pc' : Nat) (hp : pc + 1 = pc') (k : Go G X M Q T pc' Ls (.int (x ^^^ y) :: st)) : Go G X M Q T pc Ls (.int y :: .int x :: st) := by
  subst hp; exact Go.stp (fun t r => XS.ixor W.at W.x rfl (W.d hd) rfl r) k
theorem iushr (W : Here G X M vm T h C S) {x y : Int32} (hd : decode M.bytes pc = .ok (.iushr, 1)) (pc' : Nat) (hp : pc + 1 = pc') (k : Go G X M Q T pc' Ls (.int ((x.toUInt32 >>> (y &&& 31).toUInt32).toInt32) :: st)) : Go G X M Q T pc Ls (.int y :: .int x :: st) := by
  subst hp; exact Go.stp (fun t r => XS.iushr W.at W.x rfl (W.d hd) rfl r) k
theorem ineg (W : Here G X M vm T h C S) {x : Int32} (hd : decode M.bytes pc = .ok (.ineg, 1)) (pc' : Nat) (hp : pc + 1 = pc') (k : Go G X M Q T pc' Ls (.int (-x) :: st)) : Go G X M Q T pc Ls (.int x :: st) := by
  subst hp; exact Go.stp (fun t r => XS.ineg W.at W.x rfl (W.d hd) rfl r) k
theorem i2c (W : Here G X M vm T h C S) {x : Int32} (hd : decode M.bytes pc = .ok (.i2c, 1)) (pc' : Nat) (hp : pc + 1 = pc') (k : Go G X M Q T pc' Ls (.int x.toUInt32.toUInt16.toUInt32.toInt32 :: st)) : Go G X M Q T pc Ls (.int x :: st) := by
  subst hp; exact Go.stp (fun t r => XS.i2c W.at W.x rfl (W.d hd) rfl r) k
theorem i2b (W : Here G X M vm T h C S) {x : Int32} (hd : decode M.bytes pc = .ok (.i2b, 1)) (pc' : Nat) (hp : pc + 1 = pc') (k : Go G X M Q T pc' Ls (.int x.toInt8.toInt32 :: st)) : Go G X M Q T pc Ls (.int x :: st) := by
  subst hp; exact Go.stp (fun t r => XS.i2b W.at W.x rfl (W.d hd) rfl r) k
theorem irem (W : Here G X M vm T h C S) {x y : Int32} (hd : decode M.bytes pc = .ok (.irem, 1)) (pc' : Nat) (hp : pc + 1 = pc') (hy : y ≠ 0) (k : Go G X M Q T pc' Ls (.int (x % y) :: st)) : Go G X M Q T pc Ls (.int y :: .int x :: st) := by
  subst hp
  obtain ⟨F, k0, L, c, s, X1, -⟩ := id W
  exact Go.stp (fun t r => iremM X1 W.x rfl (W.d hd) rfl hy r) k
theorem dup (W : Here G X M vm T h C S) {x : Value} (hd : decode M.bytes pc = .ok (.dup, 1)) (pc' : Nat) (hp : pc + 1 = pc') (hc : x.category = 1) (k : Go G X M Q T pc' Ls (x :: x :: st)) : Go G X M Q T pc Ls (x :: st) := by
  subst hp; exact Go.stp (fun t r => XS.dup W.at W.x rfl (W.d hd) rfl hc r) k
theorem pop (W : Here G X M vm T h C S) {x : Value} (hd : decode M.bytes pc = .ok (.pop, 1)) (pc' : Nat) (hp : pc + 1 = pc') (hc : x.category = 1) (k : Go G X M Q T pc' Ls st) : Go G X M Q T pc Ls (x :: st) := by
  subst hp; exact Go.stp (fun t r => XS.pop W.at W.x rfl (W.d hd) rfl hc r) k
theorem goto (W : Here G X M vm T h C S) {o : Int} (hd : decode M.bytes pc = .ok (.goto o, 3)) (pc' : Nat) (ho : 0 ≤ (pc : Int) + o) (hp : ((pc : Int) + o).toNat = pc') (k : Go G X M Q T pc' Ls st) : Go G X M Q T pc Ls st :=
  Go.stp (fun t r => XS.goto W.at W.x rfl (pc0 := pc) (pc' := pc') rfl (W.d hd) ho hp r) k
theorem ifYes (W : Here G X M vm T h C S) {cd : ClassFile.Cond} {x : Int32} {o : Int} (hd : decode M.bytes pc = .ok (.ifCond cd o, 3)) (pc' : Nat) (hc : ifCond.holds cd x = true) (ho : 0 ≤ (pc : Int) + o) (hp : ((pc : Int) + o).toNat = pc') (k : Go G X M Q T pc' Ls st) : Go G X M Q T pc Ls (.int x :: st) :=
  Go.stp (fun t r => XS.ifYes W.at W.x rfl (pc0 := pc) (pc' := pc') rfl (W.d hd) rfl hc ho hp r) k
theorem ifNo (W : Here G X M vm T h C S) {cd : ClassFile.Cond} {x : Int32} {o : Int} (hd : decode M.bytes pc = .ok (.ifCond cd o, 3)) (pc' : Nat) (hc : ifCond.holds cd x = false) (hp : pc + 3 = pc') (k : Go G X M Q T pc' Ls st) : Go G X M Q T pc Ls (.int x :: st) := by
  subst hp; exact Go.stp (fun t r => XS.ifNo W.at W.x rfl (W.d hd) rfl hc r) k
theorem icmpYes (W : Here G X M vm T h C S) {cd : ClassFile.Cond} {x y : Int32} {o : Int} (hd : decode M.bytes pc = .ok (.if_icmp cd o, 3)) (pc' : Nat) (hc : if_icmp.holds cd x y = true) (ho : 0 ≤ (pc : Int) + o) (hp : ((pc : Int) + o).toNat = pc') (k : Go G X M Q T pc' Ls st) : Go G X M Q T pc Ls (.int y :: .int x :: st) :=
  Go.stp (fun t r => XS.icmpYes W.at W.x rfl (pc0 := pc) (pc' := pc') rfl (W.d hd) rfl hc ho hp r) k
theorem icmpNo (W : Here G X M vm T h C S) {cd : ClassFile.Cond} {x y : Int32} {o : Int} (hd : decode M.bytes pc = .ok (.if_icmp cd o, 3)) (pc' : Nat) (hc : if_icmp.holds cd x y = false) (hp : pc + 3 = pc') (k : Go G X M Q T pc' Ls st) : Go G X M Q T pc Ls (.int y :: .int x :: st) := by
  subst hp; exact Go.stp (fun t r => XS.icmpNo W.at W.x rfl (W.d hd) rfl hc r) k
theorem ifnullYes (W : Here G X M vm T h C S) {o : Int} (hd : decode M.bytes pc = .ok (.ifnull o, 3)) (pc' : Nat) (ho : 0 ≤ (pc : Int) + o) (hp : ((pc : Int) + o).toNat = pc') (k : Go G X M Q T pc' Ls st) : Go G X M Q T pc Ls (.null :: st) :=
  Go.stp (fun t r => XS.ifnullYes W.at W.x rfl (pc0 := pc) (pc' := pc') rfl (W.d hd) rfl ho hp r) k
theorem ifnullNo (W : Here G X M vm T h C S) {o : Int} {b : Addr} (hd : decode M.bytes pc = .ok (.ifnull o, 3)) (pc' : Nat) (hp : pc + 3 = pc') (k : Go G X M Q T pc' Ls st) : Go G X M Q T pc Ls (.ref b :: st) := by
  subst hp; exact Go.stp (fun t r => XS.ifnullNo W.at W.x rfl (W.d hd) rfl r) k
theorem ifnonnullYes (W : Here G X M vm T h C S) {o : Int} {b : Addr} (hd : decode M.bytes pc = .ok (.ifnonnull o, 3)) (pc' : Nat) (ho : 0 ≤ (pc : Int) + o) (hp : ((pc : Int) + o).toNat = pc') (k : Go G X M Q T pc' Ls st) : Go G X M Q T pc Ls (.ref b :: st) :=
  Go.stp (fun t r => XT.nonnullYes W.at W.x rfl (pc0 := pc) (pc' := pc') rfl (W.d hd) rfl rfl (fun q => nomatch q) ho hp r) k
theorem ifnonnullNo (W : Here G X M vm T h C S) {o : Int} (hd : decode M.bytes pc = .ok (.ifnonnull o, 3)) (pc' : Nat) (hp : pc + 3 = pc') (k : Go G X M Q T pc' Ls st) : Go G X M Q T pc Ls (.null :: st) := by
  subst hp; exact Go.stp (fun t r => XT.nonnullNo W.at W.x rfl (W.d hd) rfl rfl r) k
theorem acmp (W : Here G X M vm T h C S) {cd : ACond} {x y : Value} {o : Int} (hd : decode M.bytes pc = .ok (.if_acmp cd o, 3)) (pc' : Nat) (h1 : x.isRef = true) (h2 : y.isRef = true) (same : Bool) (hs : decide (x = y) = same) (ho : 0 ≤ (pc : Int) + o) (hp : pc' = if acV cd same = true then ((pc : Int) + o).toNat else pc + 3) (k : Go G X M Q T pc' Ls st) : Go G X M Q T pc Ls (y :: x :: st) := by
  obtain ⟨F, k0, L, c, s, X1, -⟩ := id W
  exact Go.stp (fun t r => Jvm.RoadKit.acmp (g := mkF X.m pc Ls (y :: x :: st)) X1 W.x rfl h1 h2 (pc0 := pc) (pc' := pc') (same := same) rfl (W.d hd) rfl hs ho hp r) k
end Kit
end Own
end Jvm.Pilot.@@N@@
namespace Jvm.Pilot.@@N@@
namespace Own
open Jvm Jvm.ClassFile Sem Op Lib Jvm.Free Jvm.Stand Jvm.LawKit Jvm.RoadKit
section Kit2
variable {G : Gl} {X : Rn} {M : Bo} {vm : Vm} {T : State} {h : Heap} {C S : Nat} {Q : Option Value → Heap → Prop} {pc pc' : Nat} {Ls Ls' : Array Slot} {st : List Value}
theorem Ext.rfl' (h : Heap) : Ext h h := ⟨Nat.le_refl _, fun _ _ q => q⟩
theorem Ext.tr {h1 h2 h3 : Heap} (a : Ext h1 h2) (b : Ext h2 h3) : Ext h1 h3 := ⟨Nat.le_trans a.1 b.1, fun x c q => b.2 x c (a.2 x c q)⟩
theorem Ext.wr' {h1 h2 h3 : Heap} {a : Addr} {sl : Nat} {v : Value} (e : Ext h1 h2) (w : Wr h2 h3 a sl v) (ha : h1.size ≤ a) : Ext h1 h3 := ⟨Nat.le_trans e.1 (Keep.of_wr w).1, fun x c q => (Keep.of_wr w).2.1 x c (e.2 x c q) fun z => by
  cases List.mem_singleton.mp z; exact absurd (Array.getElem?_eq_some_iff.mp q).1 (Nat.not_lt.mpr ha)⟩
theorem Ext.kp {h1 h2 h3 : Heap} {ws : List Addr} (e : Ext h1 h2) (k : Keep h2 h3 ws) (ha : ∀ x ∈ ws, h1.size ≤ x) : Ext h1 h3 := ⟨Nat.le_trans e.1 k.1, fun x c q => k.2.1 x c (e.2 x c q) fun z => absurd (Array.getElem?_eq_some_iff.mp q).1 (Nat.not_lt.mpr (ha x z))⟩
theorem Ext.keep {h1 h2 : Heap} (e : Ext h1 h2) : Keep h1 h2 [] := ⟨e.1, fun x c q _ => e.2 x c q, fun x c q => ⟨c, e.2 x c q, rfl, rfl, rfl⟩⟩
/-! ### the end -/
theorem Go.retW (W : Here G X M vm T h C S) (hC : C ≤ M.R.cells) (hS : S ≤ M.R.slots) {v : Option Value} (hv : M.ret = none → v = none)
    (hst : ∀ fs, (∀ (f : JFrame) (acts : List Action), f.method = X.m → f.locked = none → f.entered = [] → (doReturn X.e (T.setTop f) acts v).1 = T.setFrames fs) → Steps X.p.tables X.e X.below (T.setTop (mkF X.m pc Ls st)) (T.setFrames fs)) (hQ : Q v h) : Go G X M Q T pc Ls st := by
  obtain ⟨⟨hx, hby, hml, hret, hlk, hnm, hEL⟩, k0, L, c, s, X1, e1, S1, hk, hZ, hown, hCH, N, O, c1, s1⟩ := W
  obtain ⟨fs, hr, hrun, hended, h1, h2, h3, h4⟩ := X1.leaveW S1 (by rw [e1]; exact hk) (v := v) (fun q => hv (hret.symm.trans q)) hlk
  refine ⟨_, _, hst fs hr, hrun, hended, v, L, rfl, ⟨?_, N, ?_⟩, ?_, h1, h2, h3, h4.mono (Nat.le_trans c1 hC) (Nat.le_trans s1 hS)⟩
  · show Q v T.heap
    rw [e1]; exact hQ
  · show Old G.Z G.n0 T.heap
    rw [e1]; exact O
  · show CHr G.Z G.EL X.s.vm X.s.heap T.vm T.heap
    rw [e1]; exact hCH.trans (CHv.at X1 hZ hEL hCH.1)
theorem retI (W : Here G X M vm T h C S) (hC : C ≤ M.R.cells) (hS : S ≤ M.R.slots) (hr : M.ret = some .int) (hd : decode M.bytes pc = .ok (.ireturn, 1)) {z : Int32} (hQ : Q (some (.int z)) h) : Go G X M Q T pc Ls (.int z :: st) := by
  obtain ⟨F, k0, L, c, s, X1, -⟩ := id W
  exact Go.retW W hC hS (fun q => by rw [hr] at q; cases q) (fun fs q => retOut X1 W.x (F.2.2.2.1.trans hr) rfl (Or.inl ⟨rfl, Or.inl rfl, z, rfl⟩) (W.d hd) q) hQ
theorem retB (W : Here G X M vm T h C S) (hC : C ≤ M.R.cells) (hS : S ≤ M.R.slots) (hr : M.ret = some .boolean) (hd : decode M.bytes pc = .ok (.ireturn, 1)) {z : Int32} (hz : narrow .boolean (.int z) = .int z) (hQ : Q (some (.int z)) h) : Go G X M Q T pc Ls (.int z :: st) := by
  obtain ⟨F, k0, L, c, s, X1, -⟩ := id W
  exact Go.retW W hC hS (fun q => by rw [hr] at q; cases q) (fun fs q => retOut X1 W.x (F.2.2.2.1.trans hr) hz (Or.inl ⟨rfl, Or.inr (Or.inl rfl), z, rfl⟩) (W.d hd) q) hQ
theorem retC (W : Here G X M vm T h C S) (hC : C ≤ M.R.cells) (hS : S ≤ M.R.slots) (hr : M.ret = some .char) (hd : decode M.bytes pc = .ok (.ireturn, 1)) {z : Int32} (hz : narrow .char (.int z) = .int z) (hQ : Q (some (.int z)) h) : Go G X M Q T pc Ls (.int z :: st) := by
  obtain ⟨F, k0, L, c, s, X1, -⟩ := id W
  exact Go.retW W hC hS (fun q => by rw [hr] at q; cases q) (fun fs q => retOut X1 W.x (F.2.2.2.1.trans hr) hz (Or.inl ⟨rfl, Or.inr (Or.inr (Or.inr (Or.inl rfl))), z, rfl⟩) (W.d hd) q) hQ
theorem retY (W : Here G X M vm T h C S) (hC : C ≤ M.R.cells) (hS : S ≤ M.R.slots) (hr : M.ret = some .byte) (hd : decode M.bytes pc = .ok (.ireturn, 1)) {z : Int32} (hz : narrow .byte (.int z) = .int z) (hQ : Q (some (.int z)) h) : Go G X M Q T pc Ls (.int z :: st) := by
  obtain ⟨F, k0, L, c, s, X1, -⟩ := id W
  exact Go.retW W hC hS (fun q => by rw [hr] at q; cases q) (fun fs q => retOut X1 W.x (F.2.2.2.1.trans hr) hz (Or.inl ⟨rfl, Or.inr (Or.inr (Or.inl rfl)), z, rfl⟩) (W.d hd) q) hQ
theorem retA (W : Here G X M vm T h C S) (hC : C ≤ M.R.cells) (hS : S ≤ M.R.slots) {t : FieldType} (hr : M.ret = some t) (ht : t.isReference = true) {w : Value} (hw : w.isRef = true) (hd : decode M.bytes pc = .ok (.areturn, 1)) (hQ : Q (some w) h) : Go G X M Q T pc Ls (w :: st) := by
  obtain ⟨F, k0, L, c, s, X1, -⟩ := id W
  refine Go.retW W hC hS (fun q => by rw [hr] at q; cases q) (fun fs q => retOut X1 W.x (F.2.2.2.1.trans hr) ?_ (Or.inr (Or.inr (Or.inr (Or.inr ⟨rfl, ht, hw⟩)))) (W.d hd) q) hQ
  rcases ref_cases hw with rfl | ⟨b, rfl⟩ <;> cases t <;> first | rfl | cases ht
theorem retL (W : Here G X M vm T h C S) (hC : C ≤ M.R.cells) (hS : S ≤ M.R.slots) (hr : M.ret = some .long) (hd : decode M.bytes pc = .ok (.lreturn, 1)) {z : Int64} (hQ : Q (some (.long z)) h) : Go G X M Q T pc Ls (.long z :: st) := by
  obtain ⟨F, k0, L, c, s, X1, -⟩ := id W
  exact Go.retW W hC hS (fun q => by rw [hr] at q; cases q) (fun fs q => retOut X1 W.x (F.2.2.2.1.trans hr) rfl (Or.inr (Or.inl ⟨rfl, rfl, z, rfl⟩)) (W.d hd) q) hQ
theorem retV (W : Here G X M vm T h C S) (hC : C ≤ M.R.cells) (hS : S ≤ M.R.slots) (hr : M.ret = none) (hd : decode M.bytes pc = .ok (.return_, 1)) (hQ : Q none h) : Go G X M Q T pc Ls [] := by
  obtain ⟨F, k0, L, c, s, X1, -⟩ := id W
  exact Go.retW W hC hS (fun _ => rfl) (fun fs q => X1.returnOut W.x (F.2.2.2.1.trans hr) (W.d hd) q) hQ
/-! ### the entry -/
theorem Con.intro {ws : List Jvm.Cond} {as' : Array Value} {sf : List Addr} (hpn : plainFor M.y = true) (hO : Old G.Z G.n0 h) (hEL : EW G.Z G.a0 G.EL) (Ls0 : Array Slot) (hef : ∀ m, entryFrame m as' M.maxL = mkF m 0 Ls0 [])
    (body : ∀ (X : Rn) (T : State), Here G X M X.s.vm T h 0 0 → (∀ x ∈ sf, Safe G.Z G.EL X.s.vm h x) → Go G X M Q T 0 Ls0 []) : Con G ws M as' h sf Q := by
  refine MetFree.of_bodySF hpn hisR ?_
  intro p e s m args below meth c s₁ Bd hml0 hP hK
  obtain ⟨rfl, hZ, rfl, hCH, hsf⟩ := hP
  have hown : s.vm.findClass M.y.cls = some m.cls := findClass_of_methodNamed Bd.named
  have hnm := (name_of_methodNamed Bd.named Bd.method).1
  have X0 : Stand p G.l e M.R s m args below meth c s₁ [] 0 0 := Stand.of_body Bd
  have e0 : s₁.heap = s.heap := by rw [Bd.state]; rfl
  have q := body (p, e, s, m, args, below, meth, c) s₁ ⟨⟨Bd.exec, Bd.bytes, hml0, Bd.returns, Bd.notSynchronized, hnm, hEL⟩, s.heap.size, [], 0, 0, X0, e0, (State.WarmedH.refl s).since _, Nat.le_refl _, hZ, hown, CHr.refl hCH, Fr.nil _, hO, Nat.le_refl 0, Nat.le_refl 0⟩ hsf
  rw [hef m]
  exact q
/-! ### calls -/
theorem Con.pay {N : Bo} {as' : Array Value} {sf : List Addr} {Qy : Option Value → Heap → Prop} (K : Con G [] N as' h sf Qy) (W : Here G X M vm T h C S) (wc : (Jvm.Cond.code N.y N.bytes N.maxL N.ret).before G.a0 G.Z = true) (wz : (Jvm.Cond.initialized N.y.cls).before G.a0 G.Z = true) {len wd : Nat}
    (hf : N.R.frames + 1 ≤ M.R.frames) (hl : wd + (N.maxL + 11) + N.R.locals ≤ M.R.locals) (hsf : ∀ x ∈ sf, x < h.size ∧ Safe G.Z G.EL vm h x) : Pay G X M vm h N.y len wd as' N.R.cells N.R.slots Qy := by
  have hZ := W.wz
  have hEL := W.1.2.2.2.2.2.2
  have H := W.ch
  exact BackS.of_freeW (bytes := N.bytes) (maxL := N.maxL) (ret := N.ret) (E := fun _ first o t L k n => k = N.R.cells ∧ n = N.R.slots ∧ (∃ v, o = .returned v ∧ Qy v t.heap ∧ Fr G.n0 L ∧ Old G.Z G.n0 t.heap) ∧ CHr G.Z G.EL first.vm first.heap t.vm t.heap) K hf hl
    (fun m meth c A a Y hp => have hU : G.Z.Warmed39 A.U.vm := wtrans (s := X.s.setVm vm) hZ Y.warmed
      ⟨by show (Cond.and _ .tt).before a A.U = true; rw [Cond.before_and, mv hU wc]; rfl, mv hU wc, mv hU wz, hp.2.2.1, hp.2.2.2⟩)
    (fun m meth c A a g mk Y hp => ⟨hp.1, wtrans (s := X.s.setVm vm) hZ Y.warmed, hp.2.1, (CHv.at Y hZ hEL H).1, fun x hx => (CHv.at Y hZ hEL H).safe (hsf x hx).1 (hsf x hx).2⟩) (fun _ _ _ _ _ _ _ _ _ => trivial)
    (fun _ _ _ _ ⟨v, L, h1, h2, h3, h4⟩ => ⟨L, _, _, h4, rfl, rfl, ⟨v, h1, h2⟩, h3⟩)
    (fun m meth c A a g mk v t L k n Y hp _ _ ⟨e1, e2, ⟨v', e3, e4⟩, e5⟩ => by
      cases e3; subst e1 e2
      refine ⟨L, e4, rfl, Nat.le_refl _, Nat.le_refl _, (CHv.at Y hZ hEL H).trans ?_⟩
      rw [← hp.2.1]; exact e5)
/-- a law of the other shape pays too: its callee interns nothing -/
theorem payB {y : MethodName} {len wd kc ks : Nat} {as' : Array Value} {Qy : Option Value → Heap → List Loc → Prop} {Q' : Option Value → Heap → Prop}
    (B : Back G.l M.R X.p X.e X.below (X.s.setVm vm) X.args y len wd (fun P a => a = as' ∧ P.U.heap = h ∧ P.cells + kc ≤ M.R.cells ∧ P.slots + ks ≤ M.R.slots) (fun P _ v B => ∃ L, Qy v B.U.heap L ∧ B.locs = P.locs ++ L ∧ B.cells = P.cells + kc ∧ B.slots = P.slots + ks))
    (W : Here G X M vm T h C S) (hq : ∀ v h' L, Qy v h' L → Q' v h' ∧ Fr G.n0 L ∧ Old G.Z G.n0 h' ∧ CHr G.Z G.EL vm h vm h') : Pay G X M vm h y len wd as' kc ks Q' := by
  intro m meth c A g ig mk a X1 hg hsize hdg hW hn hp
  obtain ⟨v, B', X', ⟨L, q, e1, e2, e3⟩, st⟩ := B m meth c A g ig mk a X1 hg hsize hdg hW hn hp
  obtain ⟨q1, q2, q3, q4⟩ := hq _ _ _ q
  refine ⟨v, B', X'.retabled X'.warmed.wide, X'.warmed.since _, ?_, ⟨L, ⟨q1, q2, q3⟩, e1, Nat.le_of_eq e2, Nat.le_of_eq e3, q4.trans (CHv.at X' W.wz W.1.2.2.2.2.2.2 q4.1)⟩, st⟩
  rw [hp.2.1]; exact q4.2.1
theorem Here.call (W : Here G X M vm T h C S) {kc ks C' S' : Nat} {v : Option Value} {Qy : Option Value → Heap → Prop} (hc : C + kc ≤ C') (hs : S + ks ≤ S')
    {k0 : Nat} {locs : List Loc} {cells slots : Nat} (hS : X.s.Since vm k0) (hk : k0 ≤ h.size) (hown : vm.findClass M.y.cls = some X.m.cls) (hCH : CHr G.Z G.EL X.s.vm X.s.heap vm h) (hF : Fr G.n0 locs) (c1 : cells ≤ C) (s1 : slots ≤ S) {B : Pt}
    (X' : Stand X.p G.l X.e M.R ((X.s.setVm vm).setVm B.U.vm) X.m X.args X.below X.meth X.c B.U B.locs B.cells B.slots) (h2 : (X.s.setVm vm).Since B.U.vm B.U.heap.size) (hg : h.size ≤ B.U.heap.size) {L : List Loc}
    (hq : (Qy v B.U.heap ∧ Fr G.n0 L ∧ Old G.Z G.n0 B.U.heap) ∧ B.locs = locs ++ L ∧ B.cells ≤ cells + kc ∧ B.slots ≤ slots + ks ∧ CHr G.Z G.EL vm h B.U.vm B.U.heap) : Here G X M B.U.vm B.U B.U.heap C' S' := by
  obtain ⟨X2, S2, Z2, o2⟩ := rebS hS hk X' h2 hg W.wz hown
  obtain ⟨⟨-, q2, q3⟩, e1, e2, e3, q4⟩ := hq
  refine ⟨W.1, _, _, _, _, X2, rfl, S2, Nat.le_refl _, Z2, o2, hCH.trans q4, ?_, q3, ?_, ?_⟩
  · rw [e1]; exact hF.app q2
  · omega
  · omega
theorem callS (W : Here G X M vm T h C S) {y : MethodName} {idx : Nat} {bytes : ByteArray} {maxL : Nat} {ret : Option FieldType} (w1 : (Jvm.Cond.methodLink M.y.cls idx y).before G.a0 G.Z = true) (w2 : (Jvm.Cond.static y).before G.a0 G.Z = true) (w3 : (Jvm.Cond.initialized y.cls).before G.a0 G.Z = true) (w4 : (Jvm.Cond.code y bytes maxL ret).before G.a0 G.Z = true)
    (hy : y.cls ≠ "java/lang/invoke/MethodHandle" ∧ y.cls ≠ "java/lang/invoke/VarHandle") {wd kc ks : Nat} {argsL rest : List Value} {Qy : Option Value → Heap → Prop} (P : Pay G X M vm h y 3 wd argsL.toArray kc ks Qy) (hsz : Ls.size = M.maxL) (hlen : ∀ sig, parseMethodDescriptor y.desc = some sig → argsL.length = sig.parameters.length)
    (hstk : st = argsL.reverse ++ rest) (hwd : (rest.map fun v => v.category).sum ≤ wd) (hd : decode M.bytes pc = .ok (.invokestatic idx, 3)) (pc' : Nat) (hp : pc + 3 = pc') (C' S' : Nat) (hc : C + kc ≤ C') (hs : S + ks ≤ S') (hc' : C' ≤ M.R.cells) (hs' : S' ≤ M.R.slots)
    (k : ∀ (vm' : Vm) (T' : State) (h' : Heap) (v : Option Value), Here G X M vm' T' h' C' S' → CHr G.Z G.EL vm h vm' h' → Qy v h' → Go G X M Q T' pc' Ls (v.toList ++ rest)) : Go G X M Q T pc Ls st := by
  subst hp hstk
  obtain ⟨F, k0, locs, cells, slots, X1, e1, hS, hk, hZ, hown, hCH, hF, O, c1, s1⟩ := id W
  subst e1
  obtain ⟨v, vm₁, B, -, X', h2, hg, ⟨L, hq⟩, st'⟩ := callSS X1 W.x (y := y) hown (mv (s := X.s.setVm vm) hZ w1) (mv (s := X.s.setVm vm) hZ w2) (mv (s := X.s.setVm vm) hZ w3) (mv (s := X.s.setVm vm) hZ w4) hy P (g := mkF X.m pc Ls (argsL.reverse ++ rest)) rfl (hsz.trans F.2.2.1.symm) (argsL := argsL) (rest := rest) hlen rfl (by show 2 * 0 + _ ≤ _; omega) (W.d hd) (fun _ _ => ⟨rfl, rfl, by show cells + kc ≤ _; omega, by show slots + ks ≤ _; omega⟩)
  exact Go.stp (fun t r => st'.trans r) (k B.U.vm B.U B.U.heap v (Here.call W hc hs hS hk hown hCH hF c1 s1 X' h2 hg hq) hq.2.2.2.2 hq.1.1)
theorem callX (W : Here G X M vm T h C S) {y : MethodName} {idx : Nat} {bytes : ByteArray} {maxL : Nat} (hy1 : y.name = "<init>") (w1 : (Jvm.Cond.methodLink M.y.cls idx y).before G.a0 G.Z = true) (w2 : (Jvm.Cond.instanceMethod y).before G.a0 G.Z = true) (w4 : (Jvm.Cond.code y bytes maxL none).before G.a0 G.Z = true)
    (hy : y.cls ≠ "java/lang/invoke/MethodHandle" ∧ y.cls ≠ "java/lang/invoke/VarHandle") {wd kc ks : Nat} {a : Addr} {argsL rest : List Value} {Qy : Option Value → Heap → Prop} (P : Pay G X M vm h y 3 wd (.ref a :: argsL).toArray kc ks Qy) (hsz : Ls.size = M.maxL) (hlen : ∀ sig, parseMethodDescriptor y.desc = some sig → argsL.length = sig.parameters.length)
    (hstk : st = argsL.reverse ++ .ref a :: rest) (hwd : (rest.map fun v => v.category).sum ≤ wd) (hd : decode M.bytes pc = .ok (.invokespecial idx, 3)) (pc' : Nat) (hp : pc + 3 = pc') (C' S' : Nat) (hc : C + kc ≤ C') (hs : S + ks ≤ S') (hc' : C' ≤ M.R.cells) (hs' : S' ≤ M.R.slots)
    (k : ∀ (vm' : Vm) (T' : State) (h' : Heap) (v : Option Value), Here G X M vm' T' h' C' S' → CHr G.Z G.EL vm h vm' h' → Qy v h' → Go G X M Q T' pc' Ls (v.toList ++ rest)) : Go G X M Q T pc Ls st := by
  subst hp hstk
  obtain ⟨F, k0, locs, cells, slots, X1, e1, hS, hk, hZ, hown, hCH, hF, O, c1, s1⟩ := id W
  subst e1
  obtain ⟨v, vm₁, B, -, X', h2, hg, ⟨L, hq⟩, st'⟩ := X1.specialBackS W.x (y := y) hy1 hown (mv (s := X.s.setVm vm) hZ w1) (mv (s := X.s.setVm vm) hZ w2) (mv (s := X.s.setVm vm) hZ w4) hy P (g := mkF X.m pc Ls (argsL.reverse ++ .ref a :: rest)) rfl (hsz.trans F.2.2.1.symm) (Steps.refl _) (a := a) (argsL := argsL) (rest := rest) hlen rfl (by show 2 * 0 + _ ≤ _; omega) (W.d hd) (fun _ _ => ⟨rfl, rfl, by show cells + kc ≤ _; omega, by show slots + ks ≤ _; omega⟩)
  exact Go.stp (fun t r => st'.trans r) (k B.U.vm B.U B.U.heap v (Here.call W hc hs hS hk hown hCH hF c1 s1 X' h2 hg hq) hq.2.2.2.2 hq.1.1)
theorem callV (W : Here G X M vm T h C S) {y z : MethodName} {idx : Nat} {cl : String} (w1 : (Jvm.Cond.methodLink M.y.cls idx y).before G.a0 G.Z = true) (w2 : (Jvm.Cond.declares y).before G.a0 G.Z = true) (nf : ∀ s : State, G.Z.Warmed39 s.vm → NotFace s y) (w3 : (Jvm.Cond.selects cl y z).before G.a0 G.Z = true) (w4 : (Jvm.Cond.instanceMethod z).before G.a0 G.Z = true)
    (hy : y.cls ≠ "java/lang/invoke/MethodHandle" ∧ y.cls ≠ "java/lang/invoke/VarHandle") {wd kc ks : Nat} {a : Addr} {argsL rest : List Value} {Qy : Option Value → Heap → Prop} (P : Pay G X M vm h z 3 wd (.ref a :: argsL).toArray kc ks Qy) (E : Exa G.Z h a cl) (hsz : Ls.size = M.maxL) (hlen : ∀ sig, parseMethodDescriptor y.desc = some sig → argsL.length = sig.parameters.length)
    (hstk : st = argsL.reverse ++ .ref a :: rest) (hwd : (rest.map fun v => v.category).sum ≤ wd) (hd : decode M.bytes pc = .ok (.invokevirtual idx, 3)) (pc' : Nat) (hp : pc + 3 = pc') (C' S' : Nat) (hc : C + kc ≤ C') (hs : S + ks ≤ S') (hc' : C' ≤ M.R.cells) (hs' : S' ≤ M.R.slots)
    (k : ∀ (vm' : Vm) (T' : State) (h' : Heap) (v : Option Value), Here G X M vm' T' h' C' S' → CHr G.Z G.EL vm h vm' h' → Qy v h' → Go G X M Q T' pc' Ls (v.toList ++ rest)) : Go G X M Q T pc Ls st := by
  subst hp hstk
  obtain ⟨F, k0, locs, cells, slots, X1, e1, hS, hk, hZ, hown, hCH, hF, O, c1, s1⟩ := id W
  obtain ⟨cq, kq, qa, qb, qc⟩ := isOf (s := X.s.setVm vm) hZ e1 E
  subst e1
  obtain ⟨v, vm₁, B, -, X', h2, hg, ⟨L, hq⟩, st'⟩ := X1.virtualBackS W.x (y := y) (z := z) hown (mv (s := X.s.setVm vm) hZ w1) (mv (s := X.s.setVm vm) hZ w2) (nf _ hZ) (mv (s := X.s.setVm vm) hZ w3) (mv (s := X.s.setVm vm) hZ w4) hy P qa qc (g := mkF X.m pc Ls (argsL.reverse ++ .ref a :: rest)) rfl (hsz.trans F.2.2.1.symm) (Steps.refl _) (argsL := argsL) (rest := rest) hlen rfl (by show 2 * 0 + _ ≤ _; omega) (W.d hd) (fun _ _ => ⟨rfl, rfl, by show cells + kc ≤ _; omega, by show slots + ks ≤ _; omega⟩)
  exact Go.stp (fun t r => st'.trans r) (k B.U.vm B.U B.U.heap v (Here.call W hc hs hS hk hown hCH hF c1 s1 X' h2 hg hq) hq.2.2.2.2 hq.1.1)
theorem callI (W : Here G X M vm T h C S) {y z : MethodName} {idx count : Nat} {cl : String} (w1 : (Jvm.Cond.methodLink M.y.cls idx y).before G.a0 G.Z = true) (w2 : (Jvm.Cond.declares y).before G.a0 G.Z = true) (wf : (Jvm.Cond.interfaceMethod y.cls y.cls y.name y.desc).before G.a0 G.Z = true) (hfa : ((Jvm.Cond.interfaceMethod y.cls y.cls y.name y.desc).onTables && (Jvm.Cond.interfaceMethod y.cls y.cls y.name y.desc).keepsFace) = true) (w3 : (Jvm.Cond.selects cl y z).before G.a0 G.Z = true) (w4 : (Jvm.Cond.instanceMethod z).before G.a0 G.Z = true)
    (w5 : (Jvm.Cond.publicMethod z).before G.a0 G.Z = true) (w6 : (Jvm.Cond.unhidden cl y.name y.desc).before G.a0 G.Z = true) (w7 : (Jvm.Cond.castable cl y.cls).before G.a0 G.Z = true)
    (hy : y.cls ≠ "java/lang/invoke/MethodHandle" ∧ y.cls ≠ "java/lang/invoke/VarHandle") {wd kc ks : Nat} {a : Addr} {argsL rest : List Value} {Qy : Option Value → Heap → Prop} (P : Pay G X M vm h z 5 wd (.ref a :: argsL).toArray kc ks Qy) (E : Exa G.Z h a cl) (hsz : Ls.size = M.maxL) (hlen : ∀ sig, parseMethodDescriptor y.desc = some sig → argsL.length = sig.parameters.length)
    (hstk : st = argsL.reverse ++ .ref a :: rest) (hwd : (rest.map fun v => v.category).sum ≤ wd) (hd : decode M.bytes pc = .ok (.invokeinterface idx count, 5)) (pc' : Nat) (hp : pc + 5 = pc') (C' S' : Nat) (hc : C + kc ≤ C') (hs : S + ks ≤ S') (hc' : C' ≤ M.R.cells) (hs' : S' ≤ M.R.slots)
    (k : ∀ (vm' : Vm) (T' : State) (h' : Heap) (v : Option Value), Here G X M vm' T' h' C' S' → CHr G.Z G.EL vm h vm' h' → Qy v h' → Go G X M Q T' pc' Ls (v.toList ++ rest)) : Go G X M Q T pc Ls st := by
  subst hp hstk
  obtain ⟨F, k0, locs, cells, slots, X1, e1, hS, hk, hZ, hown, hCH, hF, O, c1, s1⟩ := id W
  obtain ⟨cq, kq, qa, qb, qc⟩ := isOf (s := X.s.setVm vm) hZ e1 E
  subst e1
  obtain ⟨v, vm₁, B, -, X', h2, hg, ⟨L, hq⟩, st'⟩ := X1.interfaceBackS W.x (xi := y) (y := z) hown (mv (s := X.s.setVm vm) hZ w1) (mv (s := X.s.setVm vm) hZ w2) (mv (s := X.s.setVm vm) hZ wf hfa) (mv (s := X.s.setVm vm) hZ w3) (mv (s := X.s.setVm vm) hZ w4) (mv (s := X.s.setVm vm) hZ w5) (mv (s := X.s.setVm vm) hZ w6) (mv (s := X.s.setVm vm) hZ w7) hy P qa qb qc (g := mkF X.m pc Ls (argsL.reverse ++ .ref a :: rest)) rfl (hsz.trans F.2.2.1.symm) (Steps.refl _) (argsL := argsL) (rest := rest) hlen rfl (by show 2 * 0 + _ ≤ _; omega) (W.d hd) (fun _ _ => ⟨rfl, rfl, by show cells + kc ≤ _; omega, by show slots + ks ≤ _; omega⟩)
  exact Go.stp (fun t r => st'.trans r) (k B.U.vm B.U B.U.heap v (Here.call W hc hs hS hk hown hCH hF c1 s1 X' h2 hg hq) hq.2.2.2.2 hq.1.1)
/-! ### steps on the heap -/
theorem Here.ext (W : Here G X M vm T h C S) {T' : State} {h' : Heap} {k0 : Nat} {locs : List Loc} {cells slots C' S' : Nat} (hS : X.s.Since vm k0) (hk : k0 ≤ h.size) (hown : vm.findClass M.y.cls = some X.m.cls) (hCH : CHr G.Z G.EL X.s.vm X.s.heap vm h) (hF : Fr G.n0 locs)
    (X' : Stand X.p G.l X.e M.R (X.s.setVm vm) X.m X.args X.below X.meth X.c T' locs cells slots) (e' : T'.heap = h') (E : Ext h h') (hc : cells ≤ C') (hs : slots ≤ S') : Here G X M vm T' h' C' S' :=
  ⟨W.1, k0, locs, cells, slots, X', e', hS, Nat.le_trans hk E.1, W.wz, hown, hCH.trans (CHr.ext E hCH.1), hF, W.old.ext E, hc, hs⟩
theorem newO (W : Here G X M vm T h C S) {cl : String} {idx n : Nat} (w : (Jvm.Cond.classLink M.y.cls idx cl).before G.a0 G.Z = true) (wi : (Jvm.Cond.instantiable cl n).before G.a0 G.Z = true) (wz : (Jvm.Cond.initialized cl).before G.a0 G.Z = true) (hd : decode M.bytes pc = .ok (.new idx, 3)) (pc' : Nat) (hp : pc + 3 = pc') (C' S' : Nat) (hc : C + 1 ≤ C') (hs : S + n ≤ S') (hc' : C' ≤ M.R.cells) (hs' : S' ≤ M.R.slots)
    (k : ∀ (T' : State) (h' : Heap) (a : Addr), a = h.size → Here G X M vm T' h' C' S' → Ext h h' → Exa G.Z h' a cl → (∀ {O nm d : String} {ty : FieldType}, Laid G.Z G.a0 cl O nm d → parseFieldDescriptor d = some ty → Fld G.Z h' a O nm d (defaultValue ty)) → Safe G.Z G.EL vm h' a → (∀ y, Safe G.Z G.EL vm h y → Safe G.Z G.EL vm h' y) → Go G X M Q T' pc' Ls (.ref a :: st)) : Go G X M Q T pc Ls st := by
  subst hp
  obtain ⟨F, k0, locs, cells, slots, X1, e1, hS, hk, hZ, hown, hCH, hF, O, c1, s1⟩ := id W
  obtain ⟨T', h', X', e', E, A, D, -, st'⟩ := RoadKit.newO X1 W.x hZ hown w wi wz e1 (g := mkF X.m pc Ls st) rfl (W.d hd) (by omega) (by omega)
  exact Go.stp (fun t r => st' t r) (k T' h' h.size rfl (Here.ext W hS hk hown hCH hF X' e' E (by omega) (by omega)) E A D (Safe.ext E hCH.1 (Safe.new (Nat.le_refl _))) (fun y q => Safe.ext E hCH.1 q))
theorem newA (W : Here G X M vm T h C S) {aty : ArrayType} {n : Int32} (w : (Jvm.Cond.arrayClass (newarray.typeOf aty)).before G.a0 G.Z = true) (hd : decode M.bytes pc = .ok (.newarray aty, 2)) (pc' : Nat) (hp : pc + 2 = pc') (hn : ¬ n < 0) (cap : Nat) (hcap : n.toNatClampNeg ≤ cap) (hb : cap * 8 ≤ 536870912) (C' S' : Nat) (hc : C + 1 ≤ C') (hs : S + cap ≤ S') (hc' : C' ≤ M.R.cells) (hs' : S' ≤ M.R.slots)
    (k : ∀ (T' : State) (h' : Heap) (a : Addr) (kA : ClassId), a = h.size → Here G X M vm T' h' C' S' → Ext h h' → Arv G.Z h' a kA (newarray.typeOf aty) n (List.replicate cap (defaultValue (newarray.typeOf aty))) (defaultValue (newarray.typeOf aty)) → Safe G.Z G.EL vm h' a → (∀ y, Safe G.Z G.EL vm h y → Safe G.Z G.EL vm h' y) → Go G X M Q T' pc' Ls (.ref a :: st)) : Go G X M Q T pc Ls (.int n :: st) := by
  subst hp
  obtain ⟨F, k0, locs, cells, slots, X1, e1, hS, hk, hZ, hown, hCH, hF, O, c1, s1⟩ := id W
  obtain ⟨T', h', kA, X', e', E, A, st'⟩ := RoadKit.newP X1 W.x hZ w e1 (g := mkF X.m pc Ls (.int n :: st)) rfl (W.d hd) rfl hn hcap hb (by omega) (by omega)
  exact Go.stp (fun t r => st' t r) (k T' h' h.size kA rfl (Here.ext W hS hk hown hCH hF X' e' E (by omega) (by omega)) E ((Arv.new A hn).pad (pad_rep [] _ cap)) (Safe.ext E hCH.1 (Safe.new (Nat.le_refl _))) (fun y q => Safe.ext E hCH.1 q))
theorem getF (W : Here G X M vm T h C S) {R0 O n d : String} {idx : Nat} {a : Addr} {v : Value} (w : (Jvm.Cond.fieldLink M.y.cls idx R0 n d).before G.a0 G.Z = true) (via : Via G.Z R0 O n d) (F : Fld G.Z h a O n d v) (hd : decode M.bytes pc = .ok (.getfield idx, 3)) (pc' : Nat) (hp : pc + 3 = pc')
    (k : ∀ T' : State, Here G X M vm T' h C S → Go G X M Q T' pc' Ls (v :: st)) : Go G X M Q T pc Ls (.ref a :: st) := by
  subst hp
  obtain ⟨F', k0, locs, cells, slots, X1, e1, hS, hk, hZ, hown, hCH, hF, O', c1, s1⟩ := id W
  obtain ⟨T', X', e', st'⟩ := RoadKit.getF X1 W.x hZ hown (host := "") (Or.inl w) via e1 F (g := mkF X.m pc Ls (.ref a :: st)) rfl rfl (W.d hd)
  exact Go.stp (fun t r => st' t r) (k T' (Here.ext W hS hk hown hCH hF X' e' (Ext.rfl' h) c1 s1))
theorem getS (W : Here G X M vm T h C S) {R0 O n d : String} {idx : Nat} {v : Value} (w : (Jvm.Cond.fieldLink M.y.cls idx R0 n d).before G.a0 G.Z = true) (via : Via G.Z R0 O n d) (F : Sta G.Z h O n d v) (hd : decode M.bytes pc = .ok (.getstatic idx, 3)) (pc' : Nat) (hp : pc + 3 = pc')
    (k : ∀ T' : State, Here G X M vm T' h C S → Go G X M Q T' pc' Ls (v :: st)) : Go G X M Q T pc Ls st := by
  subst hp
  obtain ⟨F', k0, locs, cells, slots, X1, e1, hS, hk, hZ, hown, hCH, hF, O', c1, s1⟩ := id W
  obtain ⟨T', X', e', st'⟩ := RoadKit.getS X1 W.x hZ (host := "") hown w via e1 F (g := mkF X.m pc Ls st) rfl (W.d hd)
  exact Go.stp (fun t r => st' t r) (k T' (Here.ext W hS hk hown hCH hF X' e' (Ext.rfl' h) c1 s1))
theorem castY (W : Here G X M vm T h C S) {K : String} {idx : Nat} {a : Addr} (w : (Jvm.Cond.classLink M.y.cls idx K).before G.a0 G.Z = true) (F : Ins G.Z h a K true) (hd : decode M.bytes pc = .ok (.checkcast idx, 3)) (pc' : Nat) (hp : pc + 3 = pc')
    (k : ∀ T' : State, Here G X M vm T' h C S → Go G X M Q T' pc' Ls (.ref a :: st)) : Go G X M Q T pc Ls (.ref a :: st) := by
  subst hp
  obtain ⟨F', k0, locs, cells, slots, X1, e1, hS, hk, hZ, hown, hCH, hF, O', c1, s1⟩ := id W
  obtain ⟨T', X', e', st'⟩ := RoadKit.castY X1 W.x hZ hown w e1 F (g := mkF X.m pc Ls (.ref a :: st)) rfl rfl (W.d hd)
  exact Go.stp (fun t r => st' t r) (k T' (Here.ext W hS hk hown hCH hF X' e' (Ext.rfl' h) c1 s1))
theorem instY (W : Here G X M vm T h C S) {K : String} {idx : Nat} {a : Addr} (w : (Jvm.Cond.classLink M.y.cls idx K).before G.a0 G.Z = true) (F : Ins G.Z h a K true) (hd : decode M.bytes pc = .ok (.instanceof idx, 3)) (pc' : Nat) (hp : pc + 3 = pc')
    (k : ∀ T' : State, Here G X M vm T' h C S → Go G X M Q T' pc' Ls (.int 1 :: st)) : Go G X M Q T pc Ls (.ref a :: st) := by
  subst hp
  obtain ⟨F', k0, locs, cells, slots, X1, e1, hS, hk, hZ, hown, hCH, hF, O', c1, s1⟩ := id W
  obtain ⟨T', X', e', st'⟩ := RoadKit.instY X1 W.x hZ hown w e1 F (g := mkF X.m pc Ls (.ref a :: st)) rfl rfl (W.d hd)
  exact Go.stp (fun t r => st' t r) (k T' (Here.ext W hS hk hown hCH hF X' e' (Ext.rfl' h) c1 s1))
theorem instNo (W : Here G X M vm T h C S) {K c0 : String} {idx : Nat} {a : Addr} (w : (Jvm.Cond.classLink M.y.cls idx K).before G.a0 G.Z = true) (E : Exa G.Z h a c0) (F : ∃ c t, G.Z.vm.findClass c0 = some c ∧ G.Z.vm.findClass K = some t ∧ G.Z.vm.assignable c t = false) (hd : decode M.bytes pc = .ok (.instanceof idx, 3)) (pc' : Nat) (hp : pc + 3 = pc')
    (k : ∀ T' : State, Here G X M vm T' h C S → Go G X M Q T' pc' Ls (.int 0 :: st)) : Go G X M Q T pc Ls (.ref a :: st) := by
  subst hp
  obtain ⟨F', k0, locs, cells, slots, X1, e1, hS, hk, hZ, hown, hCH, hF, O', c1, s1⟩ := id W
  obtain ⟨T', X', e', st'⟩ := RoadKit.instNo X1 W.x hZ hown w e1 E F (g := mkF X.m pc Ls (.ref a :: st)) rfl rfl (W.d hd)
  exact Go.stp (fun t r => st' t r) (k T' (Here.ext W hS hk hown hCH hF X' e' (Ext.rfl' h) c1 s1))
theorem instNull (W : Here G X M vm T h C S) {idx : Nat} (hd : decode M.bytes pc = .ok (.instanceof idx, 3)) (pc' : Nat) (hp : pc + 3 = pc') (k : Go G X M Q T pc' Ls (.int 0 :: st)) : Go G X M Q T pc Ls (.null :: st) := by
  subst hp
  obtain ⟨F', k0, locs, cells, slots, X1, -⟩ := id W
  exact Go.stp (fun t r => X1.instanceofNull W.x (g := mkF X.m pc Ls (.null :: st)) rfl rfl (W.d hd) t r) k
theorem castNull (W : Here G X M vm T h C S) {idx : Nat} (hd : decode M.bytes pc = .ok (.checkcast idx, 3)) (pc' : Nat) (hp : pc + 3 = pc') (k : Go G X M Q T pc' Ls (.null :: st)) : Go G X M Q T pc Ls (.null :: st) := by
  subst hp
  obtain ⟨F', k0, locs, cells, slots, X1, -⟩ := id W
  exact Go.stp (fun t r => X1.checkcastNull W.x (g := mkF X.m pc Ls (.null :: st)) rfl rfl (W.d hd) t r) k
theorem Here.wr (W : Here G X M vm T h C S) {T' : State} {h' : Heap} {k0 : Nat} {locs : List Loc} {cells slots : Nat} {a : Addr} {sl : Nat} {v : Value} (hS : X.s.Since vm k0) (hk : k0 ≤ h.size) (hown : vm.findClass M.y.cls = some X.m.cls) (hCH : CHr G.Z G.EL X.s.vm X.s.heap vm h) (hF : Fr G.n0 locs) (ha : G.n0 ≤ a) (sf : Safe G.Z G.EL vm h a)
    (X' : Stand X.p G.l X.e M.R (X.s.setVm vm) X.m X.args X.below X.meth X.c T' (locs ++ [⟨a, sl⟩]) cells slots) (e' : T'.heap = h') (E : Wr h h' a sl v) (hc : cells ≤ C) (hs : slots ≤ S) : Here G X M vm T' h' C S :=
  ⟨W.1, k0, _, cells, slots, X', e', hS, by rw [E.size]; exact hk, W.wz, hown, hCH.trans (CHr.wr E sf hCH.1), Fr.snoc X' hF ha, W.old.wr E ha, hc, hs⟩
theorem putF (W : Here G X M vm T h C S) {R0 O n d cl : String} {idx kk : Nat} {ty : FieldType} {a : Addr} {v v' old : Value} (w : (Jvm.Cond.fieldLink M.y.cls idx R0 n d).before G.a0 G.Z = true) (via : Via G.Z R0 O n d) (F : Fld G.Z h a O n d old) (E : Exa G.Z h a cl)
    (L : (Jvm.Cond.lays cl O n d).before G.a0 G.Z = true ∨ ((Jvm.Cond.laysFinal cl O n d).before G.a0 G.Z = true ∧ M.y.cls = O ∧ M.y.name = "<init>")) (wi : (Jvm.Cond.instantiable cl kk).before G.a0 G.Z = true) (hty : parseFieldDescriptor d = some ty) (hn : narrow ty v = v') (hf : fits ty v' = true) (ha : G.n0 ≤ a) (sf : Safe G.Z G.EL vm h a)
    (hd : decode M.bytes pc = .ok (.putfield idx, 3)) (pc' : Nat) (hp : pc + 3 = pc') (k : ∀ (T' : State) (h' : Heap), Here G X M vm T' h' C S → Wr h h' a (RoadKit.slotOf G.Z O n d) v' → (∀ y, Safe G.Z G.EL vm h y → Safe G.Z G.EL vm h' y) → Go G X M Q T' pc' Ls st) : Go G X M Q T pc Ls (v :: .ref a :: st) := by
  subst hp
  obtain ⟨F', k0, locs, cells, slots, X1, e1, hS, hk, hZ, hown, hCH, hF, O', c1, s1⟩ := id W
  obtain ⟨T', h', X', e', Wq, st'⟩ := RoadKit.putFN X1 W.x hZ hown w via e1 F E (L.imp id fun q => ⟨q.1, q.2.1, F'.2.2.2.2.2.1.trans q.2.2⟩) wi hty hn hf (g := mkF X.m pc Ls (v :: .ref a :: st)) rfl rfl (W.d hd)
  exact Go.stp (fun t r => st' t r) (k T' h' (Here.wr W hS hk hown hCH hF ha sf X' e' Wq c1 s1) Wq (fun y q => Safe.wr Wq sf hCH.1 q))
theorem castore (W : Here G X M vm T h C S) {a : Addr} {kA : ClassId} {z j x : Int32} {vs : List Value} {dv : Value} (A : Arv G.Z h a kA .char z vs dv) (i : Nat) (hj : j.toNatClampNeg = i) (hj0 : ¬ j < 0 ∧ j < z) (hi : i < vs.length) (ha : G.n0 ≤ a) {x' : Int32} (hx' : nar .char x = x') (hd : decode M.bytes pc = .ok (.castore, 1)) (pc' : Nat) (hp : pc + 1 = pc')
    (k : ∀ (T' : State) (h' : Heap), Here G X M vm T' h' C S → Wr h h' a i (.int x') → Arv G.Z h' a kA .char z (vs.set i (.int x')) dv → (∀ y, Safe G.Z G.EL vm h y → Safe G.Z G.EL vm h' y) → Go G X M Q T' pc' Ls st) : Go G X M Q T pc Ls (.int x :: .int j :: .ref a :: st) := by
  subst hp hj hx'
  obtain ⟨F', k0, locs, cells, slots, X1, e1, hS, hk, hZ, hown, hCH, hF, O', c1, s1⟩ := id W
  have sf : Safe G.Z G.EL vm h a := Safe.arv hZ.alike A (by decide)
  obtain ⟨cl, A1, q, Sz, Nz, H, Gz⟩ := A
  obtain ⟨T', h', X', e', Wq, st'⟩ := RoadKit.stC X1 W.x hZ e1 A1 (j := j) (inb_of Sz hj0) (g := mkF X.m pc Ls (.int x :: .int j :: .ref a :: st)) rfl rfl (W.d hd)
  exact Go.stp (fun t r => st' t r) (k T' h' (Here.wr W hS hk hown hCH hF ha sf X' e' Wq c1 s1) Wq (Arv.set A1 q Sz Nz H Gz (fits_nar_char _) Wq _ rfl hi) (fun y q => Safe.wr Wq sf hCH.1 q))
theorem arrlen (W : Here G X M vm T h C S) {a : Addr} {kA : ClassId} {ty : FieldType} {z : Int32} {vs : List Value} {dv : Value} (A : Arv G.Z h a kA ty z vs dv) (hd : decode M.bytes pc = .ok (.arraylength, 1)) (pc' : Nat) (hp : pc + 1 = pc') (k : Go G X M Q T pc' Ls (.int z :: st)) : Go G X M Q T pc Ls (.ref a :: st) := by
  subst hp
  obtain ⟨F', k0, locs, cells, slots, X1, e1, hS, hk, hZ, hown, hCH, hF, O', c1, s1⟩ := id W
  obtain ⟨cl, A1, q, Sz, Nz, H, Gz⟩ := A
  rw [← len_of Sz Nz] at k
  exact Go.stp (fun t r => X1.arraylength W.x (by rw [e1]; exact A1.1) (State.isArrayOf_alike (T := X.s.setVm vm) hZ.alike A1.2.1) (g := mkF X.m pc Ls (.ref a :: st)) rfl rfl (W.d hd) t r) k
theorem caload (W : Here G X M vm T h C S) {a : Addr} {kA : ClassId} {z j : Int32} {vs : List Value} {dv : Value} (A : Arv G.Z h a kA .char z vs dv) (hj0 : ¬ j < 0 ∧ j < z) (v : Value) (hv : vs.getD j.toNatClampNeg dv = v) (hd : decode M.bytes pc = .ok (.caload, 1)) (pc' : Nat) (hp : pc + 1 = pc') (k : Go G X M Q T pc' Ls (v :: st)) : Go G X M Q T pc Ls (.int j :: .ref a :: st) := by
  subst hp
  obtain ⟨F', k0, locs, cells, slots, X1, e1, hS, hk, hZ, hown, hCH, hF, O', c1, s1⟩ := id W
  obtain ⟨cl, A1, q, Sz, Nz, H, Gz⟩ := A
  exact Go.stp (fun t r => X1.caload W.x (by rw [e1]; exact A1.1) (State.isArrayOf_alike (T := X.s.setVm vm) hZ.alike A1.2.1) A1.2.2 (inb_of Sz hj0) (H.at (inb_of Sz hj0) hv) (g := mkF X.m pc Ls (.int j :: .ref a :: st)) rfl rfl (W.d hd) t r) k
theorem bastore (W : Here G X M vm T h C S) {a : Addr} {kA : ClassId} {z j x : Int32} {vs : List Value} {dv : Value} (A : Arv G.Z h a kA .byte z vs dv) (i : Nat) (hj : j.toNatClampNeg = i) (hj0 : ¬ j < 0 ∧ j < z) (hi : i < vs.length) (ha : G.n0 ≤ a) (sf : Safe G.Z G.EL vm h a) {x' : Int32} (hx' : nar .byte x = x') (hd : decode M.bytes pc = .ok (.bastore, 1)) (pc' : Nat) (hp : pc + 1 = pc')
    (k : ∀ (T' : State) (h' : Heap), Here G X M vm T' h' C S → Wr h h' a i (.int x') → Arv G.Z h' a kA .byte z (vs.set i (.int x')) dv → (∀ y, Safe G.Z G.EL vm h y → Safe G.Z G.EL vm h' y) → Go G X M Q T' pc' Ls st) : Go G X M Q T pc Ls (.int x :: .int j :: .ref a :: st) := by
  subst hp hj hx'
  obtain ⟨F', k0, locs, cells, slots, X1, e1, hS, hk, hZ, hown, hCH, hF, O', c1, s1⟩ := id W
  obtain ⟨cl, A1, q, Sz, Nz, H, Gz⟩ := A
  obtain ⟨T', h', X', e', Wq, st'⟩ := RoadKit.stB X1 W.x hZ e1 A1 (j := j) (inb_of Sz hj0) (g := mkF X.m pc Ls (.int x :: .int j :: .ref a :: st)) rfl rfl (W.d hd)
  exact Go.stp (fun t r => st' t r) (k T' h' (Here.wr W hS hk hown hCH hF ha sf X' e' Wq c1 s1) Wq (Arv.set A1 q Sz Nz H Gz (fits_nar_byte _) Wq _ rfl hi) (fun y q => Safe.wr Wq sf hCH.1 q))
theorem baload (W : Here G X M vm T h C S) {a : Addr} {kA : ClassId} {z j : Int32} {vs : List Value} {dv : Value} (A : Arv G.Z h a kA .byte z vs dv) (hj0 : ¬ j < 0 ∧ j < z) (v : Value) (hv : vs.getD j.toNatClampNeg dv = v) (hd : decode M.bytes pc = .ok (.baload, 1)) (pc' : Nat) (hp : pc + 1 = pc') (k : Go G X M Q T pc' Ls (v :: st)) : Go G X M Q T pc Ls (.int j :: .ref a :: st) := by
  subst hp
  obtain ⟨F', k0, locs, cells, slots, X1, e1, hS, hk, hZ, hown, hCH, hF, O', c1, s1⟩ := id W
  obtain ⟨cl, A1, q, Sz, Nz, H, Gz⟩ := A
  exact Go.stp (fun t r => X1.baloadBytes W.x (by rw [e1]; exact A1.1) (State.isArrayOf_alike (T := X.s.setVm vm) hZ.alike A1.2.1) A1.2.2 (inb_of Sz hj0) (H.at (inb_of Sz hj0) hv) (g := mkF X.m pc Ls (.int j :: .ref a :: st)) rfl rfl (W.d hd) t r) k
theorem initO (W : Here G X M vm T h C S) {idx : Nat} {a : Addr} (w1 : (Jvm.Cond.methodLink M.y.cls idx Lib.objectInit).before G.a0 G.Z = true) (w2 : (Jvm.Cond.instanceMethod Lib.objectInit).before G.a0 G.Z = true) (w3 : (Jvm.Cond.code Lib.objectInit ⟨#[0xb1]⟩ 1 none).before G.a0 G.Z = true) (hsz : Ls.size = M.maxL)
    (hd : decode M.bytes pc = .ok (.invokespecial idx, 3)) (pc' : Nat) (hp : pc + 3 = pc') (hf : 1 ≤ M.R.frames) (hl : (st.map fun v => v.category).sum + 12 ≤ M.R.locals) (k : ∀ T' : State, Here G X M vm T' h C S → Go G X M Q T' pc' Ls st) : Go G X M Q T pc Ls (.ref a :: st) := by
  subst hp
  obtain ⟨F', k0, locs, cells, slots, X1, e1, hS, hk, hZ, hown, hCH, hF, O', c1, s1⟩ := id W
  obtain ⟨T', X', e', st'⟩ := RoadKit.initO X1 W.x hZ hown w1 w2 w3 e1 (g := mkF X.m pc Ls (.ref a :: st)) rfl (hsz.trans F'.2.2.1.symm) rfl (W.d hd) hf (W := (st.map fun v => v.category).sum) (by show 2 * 0 + _ ≤ _; omega) hl
  exact Go.stp (fun t r => st' t r) (k T' (Here.ext W hS hk hown hCH hF X' e' (Ext.rfl' h) c1 s1))
/-! ### more plain steps -/
theorem imul (W : Here G X M vm T h C S) {x y : Int32} (hd : decode M.bytes pc = .ok (.imul, 1)) (pc' : Nat) (hp : pc + 1 = pc') (k : Go G X M Q T pc' Ls (.int (x * y) :: st)) : Go G X M Q T pc Ls (.int y :: .int x :: st) := by
  subst hp; exact Go.stp (fun t r => XS.imul W.at W.x rfl (W.d hd) rfl r) k
theorem ior (W : Here G X M vm T h C S) {x y : Int32} (hd : decode M.bytes pc = .ok (.ior, 1)) (pc' : Nat) (hp : pc + 1 = pc') (k : Go G X M Q T pc' Ls (.int (x ||| y) :: st)) : Go G X M Q T pc Ls (.int y :: .int x :: st) := by
  subst hp; exact Go.stp (fun t r => XS.ior W.at W.x rfl (W.d hd) rfl r) k
theorem ishr (W : Here G X M vm T h C S) {x y : Int32} (hd : decode M.bytes pc = .ok (.ishr, 1)) (pc' : Nat) (hp : pc + 1 = pc') (k : Go G X M Q T pc' Ls (.int (x >>> (y &&& 31)) :: st)) : Go G X M Q T pc Ls (.int y :: .int x :: st) := by
  subst hp; exact Go.stp (fun t r => XS.ishr W.at W.x rfl (W.d hd) rfl r) k
theorem ishl (W : Here G X M vm T h C S) {x y : Int32} (hd : decode M.bytes pc = .ok (.ishl, 1)) (pc' : Nat) (hp : pc + 1 = pc') (k : Go G X M Q T pc' Ls (.int (x <<< (y &&& 31)) :: st)) : Go G X M Q T pc Ls (.int y :: .int x :: st) := by
  subst hp; exact Go.stp (fun t r => XS.ishl W.at W.x rfl (W.d hd) rfl r) k
theorem ladd (W : Here G X M vm T h C S) {x y : Int64} (hd : decode M.bytes pc = .ok (.ladd, 1)) (pc' : Nat) (hp : pc + 1 = pc') (k : Go G X M Q T pc' Ls (.long (x + y) :: st)) : Go G X M Q T pc Ls (.long y :: .long x :: st) := by
  subst hp; exact Go.stp (fun t r => XS.ladd W.at W.x rfl (W.d hd) rfl r) k
theorem lsub (W : Here G X M vm T h C S) {x y : Int64} (hd : decode M.bytes pc = .ok (.lsub, 1)) (pc' : Nat) (hp : pc + 1 = pc') (k : Go G X M Q T pc' Ls (.long (x - y) :: st)) : Go G X M Q T pc Ls (.long y :: .long x :: st) := by
  subst hp; exact Go.stp (fun t r => XS.lsub W.at W.x rfl (W.d hd) rfl r) k
theorem lcmp (W : Here G X M vm T h C S) {x y : Int64} (hd : decode M.bytes pc = .ok (.lcmp, 1)) (pc' : Nat) (hp : pc + 1 = pc') (k : Go G X M Q T pc' Ls (.int (XT.cmpL x y) :: st)) : Go G X M Q T pc Ls (.long y :: .long x :: st) := by
  subst hp; exact Go.stp (fun t r => XS.lcmp W.at W.x rfl (W.d hd) rfl r) k
theorem lneg (W : Here G X M vm T h C S) {x : Int64} (hd : decode M.bytes pc = .ok (.lneg, 1)) (pc' : Nat) (hp : pc + 1 = pc') (k : Go G X M Q T pc' Ls (.long (-x) :: st)) : Go G X M Q T pc Ls (.long x :: st) := by
  subst hp; exact Go.stp (fun t r => XS.lneg W.at W.x rfl (W.d hd) rfl r) k
theorem i2l (W : Here G X M vm T h C S) {x : Int32} (hd : decode M.bytes pc = .ok (.i2l, 1)) (pc' : Nat) (hp : pc + 1 = pc') (k : Go G X M Q T pc' Ls (.long x.toInt64 :: st)) : Go G X M Q T pc Ls (.int x :: st) := by
  subst hp; exact Go.stp (fun t r => XS.i2l W.at W.x rfl (W.d hd) rfl r) k
theorem l2i (W : Here G X M vm T h C S) {x : Int64} (hd : decode M.bytes pc = .ok (.l2i, 1)) (pc' : Nat) (hp : pc + 1 = pc') (k : Go G X M Q T pc' Ls (.int x.toInt32 :: st)) : Go G X M Q T pc Ls (.long x :: st) := by
  subst hp; exact Go.stp (fun t r => XS.l2i W.at W.x rfl (W.d hd) rfl r) k
theorem lushr (W : Here G X M vm T h C S) {x : Int64} {y : Int32} (hd : decode M.bytes pc = .ok (.lushr, 1)) (pc' : Nat) (hp : pc + 1 = pc') (k : Go G X M Q T pc' Ls (.long ((x.toUInt64 >>> (y &&& 0x3f).toInt64.toUInt64).toInt64) :: st)) : Go G X M Q T pc Ls (.int y :: .long x :: st) := by
  subst hp; exact Go.stp (fun t r => XS.lushr W.at W.x rfl (W.d hd) rfl r) k
theorem idiv (W : Here G X M vm T h C S) {x y : Int32} (hd : decode M.bytes pc = .ok (.idiv, 1)) (pc' : Nat) (hp : pc + 1 = pc') (hy : y ≠ 0) (k : Go G X M Q T pc' Ls (.int (x / y) :: st)) : Go G X M Q T pc Ls (.int y :: .int x :: st) := by
  subst hp; exact Go.stp (fun t r => XS.idiv W.at W.x rfl (W.d hd) rfl hy r) k
theorem lconst (W : Here G X M vm T h C S) {j : Fin 2} (hd : decode M.bytes pc = .ok (.lconst j, 1)) (pc' : Nat) (hp : pc + 1 = pc') (v : Int64) (hv : Int64.ofNat j = v) (k : Go G X M Q T pc' Ls (.long v :: st)) : Go G X M Q T pc Ls st := by
  subst hp hv; exact Go.stp (fun t r => XS.lconst W.at W.x rfl (W.d hd) r) k
theorem lloadN (W : Here G X M vm T h C S) {j : Fin 4} (hd : decode M.bytes pc = .ok (.lload_n j, 1)) (pc' : Nat) (hp : pc + 1 = pc') (v : Int64) (hl : Ls[j.val]? = some (.val (.long v))) (k : Go G X M Q T pc' Ls (.long v :: st)) : Go G X M Q T pc Ls st := by
  subst hp; exact Go.stp (fun t r => XS.lloadN W.at W.x rfl (W.d hd) hl r) k
theorem lload (W : Here G X M vm T h C S) {j : Nat} (hd : decode M.bytes pc = .ok (.lload j, 2)) (pc' : Nat) (hp : pc + 2 = pc') (v : Int64) (hl : Ls[j]? = some (.val (.long v))) (k : Go G X M Q T pc' Ls (.long v :: st)) : Go G X M Q T pc Ls st := by
  subst hp; exact Go.stp (fun t r => XS.lload W.at W.x rfl (W.d hd) hl r) k
theorem lstoreN (W : Here G X M vm T h C S) {j : Fin 4} {x : Int64} (hd : decode M.bytes pc = .ok (.lstore_n j, 1)) (pc' : Nat) (hp : pc + 1 = pc') (Ls' : Array Slot) (hl : storeLocals Ls j.val (.long x) = some Ls') (k : Go G X M Q T pc' Ls' st) : Go G X M Q T pc Ls (.long x :: st) := by
  subst hp; exact Go.stp (fun t r => XS.lstoreN W.at W.x rfl (W.d hd) rfl hl r) k
theorem lstore (W : Here G X M vm T h C S) {j : Nat} {x : Int64} (hd : decode M.bytes pc = .ok (.lstore j, 2)) (pc' : Nat) (hp : pc + 2 = pc') (Ls' : Array Slot) (hl : storeLocals Ls j (.long x) = some Ls') (k : Go G X M Q T pc' Ls' st) : Go G X M Q T pc Ls (.long x :: st) := by
  subst hp; exact Go.stp (fun t r => XS.lstore W.at W.x rfl (W.d hd) rfl hl r) k
theorem ldcI (W : Here G X M vm T h C S) {idx : Nat} {v : Int32} (w : (Jvm.Cond.constant M.y.cls idx v).before G.a0 G.Z = true) (hd : decode M.bytes pc = .ok (.ldc idx, 2)) (pc' : Nat) (hp : pc + 2 = pc') (k : Go G X M Q T pc' Ls (.int v :: st)) : Go G X M Q T pc Ls st := by
  subst hp
  obtain ⟨F', k0, locs, cells, slots, X1, e1, hS, hk, hZ, hown, -⟩ := id W
  exact Go.stp (fun t r => X1.ldcInt W.x hown (mv (s := X.s.setVm vm) hZ w) (g := mkF X.m pc Ls st) rfl (W.d hd) t r) k
theorem ldc2 (W : Here G X M vm T h C S) {idx : Nat} {v : Int64} (w : (Jvm.Cond.constantLong M.y.cls idx v).before G.a0 G.Z = true) (hd : decode M.bytes pc = .ok (.ldc2_w idx, 3)) (pc' : Nat) (hp : pc + 3 = pc') (k : Go G X M Q T pc' Ls (.long v :: st)) : Go G X M Q T pc Ls st := by
  subst hp
  obtain ⟨F', k0, locs, cells, slots, X1, e1, hS, hk, hZ, hown, -⟩ := id W
  exact Go.stp (fun t r => X1.ldc2Long W.x hown (mv (s := X.s.setVm vm) hZ w) (g := mkF X.m pc Ls st) rfl (W.d hd) t r) k
/-! ### String constants -/
theorem ldcR (W : Here G X M vm T h C S) {idx : Nat} {text : String} (w : (Jvm.Cond.stringLink M.y.cls idx text).before G.a0 G.Z = true) (wS : ∀ a ∈ Bundle.stringAtoms, a.before G.a0 G.Z = true) (hmem : (M.y.cls, idx) ∈ G.EL) {vs : List Value} {z : Int32} (ht : (∀ c ∈ text.toList, c.toNat < 256) ∧ text.toList.map (fun c => Value.int (Jvm.Lit.byteI c.toNat.toUInt16)) = vs) (hz : ¬ z < 0) (hl : z.toNatClampNeg = vs.length)
    (hd : decode M.bytes pc = .ok (.ldc idx, 2)) (pc' : Nat) (hp : pc + 2 = pc') (n : Nat) (hn : 4 * text.toList.length ≤ n) (hbig : n ≤ 536870912) (C' S' : Nat) (hc : C + 2 ≤ C') (hs : S + (n + 4) ≤ S') (hc' : C' ≤ M.R.cells) (hs' : S' ≤ M.R.slots)
    (k : ∀ (vm' : Vm) (T' : State) (h' : Heap) (a b : Addr) (kb : ClassId), Here G X M vm' T' h' C' S' → CHr G.Z G.EL vm h vm' h' → Ext h h' → Exa G.Z h' a "java/lang/String" → Fld G.Z h' a "java/lang/String" "coder" "B" (.int 0) → Fld G.Z h' a "java/lang/String" "value" "[B" (.ref b) → Arv G.Z h' b kb .byte z vs (.int 0) → (∀ x, Safe G.Z G.EL vm' h' x → x ≠ a ∧ x ≠ b) → Go G X M Q T' pc' Ls (.ref a :: st)) : Go G X M Q T pc Ls st := by
  subst hp
  obtain ⟨F', k0, locs, cells, slots, X1, e1, hS, hk, hZ, hown, hCH, hF, O', c1, s1⟩ := id W
  obtain ⟨a, T', h', k1, b, kb, X', e', E, hS', hk', hZ', ho', f1, f2, f3, f4, -, -, r1, -, r2, st'⟩ := ldcCH X1 W.x hZ hown w wS e1 hS hk F'.2.2.2.2.2.2 hmem hCH.1 ht hz hl (g := mkF X.m pc Ls st) rfl (W.d hd) hn hbig (by omega) (by omega)
  exact Go.stp (fun t r => st' t r) (k T'.vm T' h' a b kb ⟨F', k1, locs, _, _, X', e', hS', hk', hZ', ho', hCH.trans r1, hF, O'.ext E, by omega, by omega⟩ r1 E f1 f2 f3 f4 r2)
theorem ldcO (W : Here G X M vm T h C S) {idx : Nat} {text : String} (w : (Jvm.Cond.stringLink M.y.cls idx text).before G.a0 G.Z = true) (wS : ∀ a ∈ Bundle.stringAtoms, a.before G.a0 G.Z = true)
    (hd : decode M.bytes pc = .ok (.ldc idx, 2)) (pc' : Nat) (hp : pc + 2 = pc') (n : Nat) (hn : 4 * text.toList.length ≤ n) (hbig : n ≤ 536870912) (C' S' : Nat) (hc : C + 2 ≤ C') (hs : S + (n + 4) ≤ S') (hc' : C' ≤ M.R.cells) (hs' : S' ≤ M.R.slots)
    (k : ∀ (vm' : Vm) (T' : State) (h' : Heap) (a : Addr), Here G X M vm' T' h' C' S' → CHr G.Z G.EL vm h vm' h' → Ext h h' → Go G X M Q T' pc' Ls (.ref a :: st)) : Go G X M Q T pc Ls st := by
  subst hp
  obtain ⟨F', k0, locs, cells, slots, X1, e1, hS, hk, hZ, hown, hCH, hF, O', c1, s1⟩ := id W
  obtain ⟨a, T', h', k1, X', e', E, hS', hk', hZ', ho', r1, -, st'⟩ := ldcOH X1 W.x hZ hown w wS e1 hS hk F'.2.2.2.2.2.2 hCH.1 (g := mkF X.m pc Ls st) rfl (W.d hd) hn hbig (by omega) (by omega)
  exact Go.stp (fun t r => st' t r) (k T'.vm T' h' a ⟨F', k1, locs, _, _, X', e', hS', hk', hZ', ho', hCH.trans r1, hF, O'.ext E, by omega, by omega⟩ r1 E)
end Kit2
end Own
end Jvm.Pilot.@@N@@
namespace Jvm.Pilot.@@N@@
namespace Own
open Jvm Jvm.ClassFile Sem Op Lib Jvm.Free Jvm.Stand Jvm.LawKit Jvm.RoadKit
abbrev ST : String := "java/lang/String"
/-- a String that spells the chars cs, each 0 to 255 -/
def Str (Z : State) (h : Heap) (a : Addr) (cs : List Int32) : Prop := Exa Z h a ST ∧ Fld Z h a ST "coder" "B" (.int 0) ∧ (∀ c ∈ cs, ¬ c < 0 ∧ ¬ (255 : Int32) < c) ∧ cs.length ≤ 4000 ∧
  ∃ (b : Addr) (kb : ClassId), Fld Z h a ST "value" "[B" (.ref b) ∧ Arv Z h b kb .byte (Int32.ofNat cs.length) ((cs.map fun c => c.toInt8.toInt32).map Value.int) (.int 0)
theorem Str.ext {Z : State} {h h' : Heap} {a : Addr} {cs : List Int32} (F : Str Z h a cs) (E : Ext h h') : Str Z h' a cs := by
  obtain ⟨h1, h2, h3, h4, b, kb, h5, h6⟩ := F
  exact ⟨h1.ext E, h2.ext E, h3, h4, b, kb, h5.ext E, h6.ext E⟩
theorem Str.lt {Z : State} {h : Heap} {a : Addr} {cs : List Int32} (F : Str Z h a cs) : a < h.size := F.1.lt
theorem Str.exa {Z : State} {h : Heap} {a : Addr} {cs : List Int32} (F : Str Z h a cs) : Exa Z h a ST := F.1
/-- over a change of other objects, none of them a String or a byte[] -/
theorem Str.keep {Z : State} {h h' : Heap} {a : Addr} {cs : List Int32} {ws : List Addr} (F : Str Z h a cs) (K : Keep h h' ws) (ha : a ∉ ws) (hb : ∀ x ∈ ws, ∀ (cl : Cell), ¬ Arr Z h x cl .byte) : Str Z h' a cs := by
  obtain ⟨h1, h2, h3, h4, b, kb, h5, h6⟩ := F
  refine ⟨h1.keep K, h2.keep K ha, h3, h4, b, kb, h5.keep K ha, h6.keep K fun q => ?_⟩
  obtain ⟨cl, A, -⟩ := h6
  exact hb b q cl A
theorem codS {cs : List Int32} (hb : ∀ c ∈ cs, ¬ c < 0 ∧ ¬ (255 : Int32) < c) : StrChars.Road.CodA cs 0 (Int32.ofNat cs.length) ((cs.map fun c => c.toInt8.toInt32).map Value.int) :=
  Or.inl ⟨rfl, rfl, by rw [List.map_map]; rfl, fun c hc => (hb c hc).2⟩
theorem wide16 {cs : List Int32} (hb : ∀ c ∈ cs, ¬ c < 0 ∧ ¬ (255 : Int32) < c) : ∀ c ∈ cs, ¬ c < 0 ∧ ¬ (65535 : Int32) < c := fun c hc => ⟨(hb c hc).1, fun q => (hb c hc).2 (Int32.lt_trans (by decide) q)⟩
/-- the words of a String constant's load, and of the empty road of new String(char[]) -/
abbrev wordsS : List Jvm.Cond := StrChars.Road.words ++ [.initialized ST, .instantiable ST 4, .soleField ST "value", .soleField ST "coder", .stringLink ST 7 ""]
section Kit3
variable {G : Gl} {X : Rn} {M : Bo} {vm : Vm} {T : State} {h : Heap} {C S : Nat} {Q : Option Value → Heap → Prop} {pc pc' : Nat} {Ls Ls' : Array Slot} {st : List Value}
theorem sAtoms (hw : ∀ d ∈ wordsS, d.before G.a0 G.Z = true) : ∀ a ∈ Bundle.stringAtoms, a.before G.a0 G.Z = true := fun d hd => hw d ((by decide +kernel : ∀ d ∈ Bundle.stringAtoms, d ∈ wordsS) d hd)
theorem w1 (hw : ∀ d ∈ wordsS, d.before G.a0 G.Z = true) (d : Jvm.Cond) (hd : d ∈ wordsS := by decide +kernel) : d.before G.a0 G.Z = true := hw d hd
abbrev bNew4 : Bo := (StrChars.New4.yN, StrChars.New4.yB, 6, none, ({ frames := 1, cells := 4, slots := 8, locals := 12 } : Room))
abbrev bNew1 : Bo := (StrChars.New1.yN, StrChars.New1.yB, 2, none, ({ frames := 2, cells := 4, slots := 8, locals := 29 } : Room))
theorem e4_8 : decode StrChars.New4.yB 8 = .ok (.aload_n 0, 1) := by decide +kernel
theorem e4_9 : decode StrChars.New4.yB 9 = .ok (.ldc 7, 2) := by decide +kernel
theorem e4_11 : decode StrChars.New4.yB 11 = .ok (.getfield 9, 3) := by decide +kernel
theorem e4_14 : decode StrChars.New4.yB 14 = .ok (.putfield 9, 3) := by decide +kernel
theorem e4_17 : decode StrChars.New4.yB 17 = .ok (.aload_n 0, 1) := by decide +kernel
theorem e4_18 : decode StrChars.New4.yB 18 = .ok (.ldc 7, 2) := by decide +kernel
theorem e4_20 : decode StrChars.New4.yB 20 = .ok (.getfield 15, 3) := by decide +kernel
theorem e4_23 : decode StrChars.New4.yB 23 = .ok (.putfield 15, 3) := by decide +kernel
theorem e4_26 : decode StrChars.New4.yB 26 = .ok (.return_, 1) := by decide +kernel
theorem pnST : plainName "java/lang/String" = true := by first | (simp [plainName, overriddenIn]; done) | decide +kernel
theorem pd4 : parseMethodDescriptor "([CIILjava/lang/Void;)V" = some ⟨[.array .char, .int, .int, .object "java/lang/Void"], none⟩ := by decide +kernel
theorem pd1 : parseMethodDescriptor "([C)V" = some ⟨[.array .char], none⟩ := by decide +kernel
theorem ef4 (m : MethodId) (x b : Addr) : entryFrame m #[.ref x, .ref b, .int 0, .int 0, .null] 6 = mkF m 0 #[.val (.ref x), .val (.ref b), .val (.int 0), .val (.int 0), .val .null, .unset] [] := by first | (simp [entryFrame, mkF, argsToLocals, Value.category]; done) | rfl
theorem ef1 (m : MethodId) (x b : Addr) : entryFrame m #[.ref x, .ref b] 2 = mkF m 0 #[.val (.ref x), .val (.ref b)] [] := by first | (simp [entryFrame, mkF, argsToLocals, Value.category]; done) | rfl
set_option maxRecDepth 65536 in
set_option maxHeartbeats 4000000 in
theorem con_new4e (hw : ∀ d ∈ wordsS, d.before G.a0 G.Z = true) (hEL : EW G.Z G.a0 G.EL) (hmem : (ST, 7) ∈ G.EL) {x b : Addr} {v0 c0 : Value} (hO : Old G.Z G.n0 h) (hx0 : G.n0 ≤ x) (E : Exa G.Z h x ST) (V : Fld G.Z h x ST "value" "[B" v0) (Cd : Fld G.Z h x ST "coder" "B" c0) :
    Con G [] bNew4 #[.ref x, .ref b, .int 0, .int 0, .null] h [x] (fun v h' => v = none ∧ Keep h h' [x] ∧ Str G.Z h' x []) := by
  refine Con.intro (plainFor_of_name pnST) hO hEL _ (fun m => ef4 m x b) ?_
  intro X T W sf
  have sx := sf x (List.mem_singleton.mpr rfl)
  have wS := sAtoms hw
  refine aloadN W StrChars.New4.d0 1 rfl _ rfl rfl ?_
  refine initO W (w1 hw (.methodLink ST 1 Lib.objectInit)) (w1 hw (.instanceMethod Lib.objectInit)) (w1 hw (.code Lib.objectInit ⟨#[0xb1]⟩ 1 none)) rfl StrChars.New4.d1 4 rfl (by decide) (by decide) ?_
  intro T1 W1
  refine iloadN W1 StrChars.New4.d4 5 rfl _ rfl ?_
  refine ifNo W1 StrChars.New4.d5 8 (by decide) rfl ?_
  refine aloadN W1 e4_8 9 rfl _ rfl rfl ?_
  refine ldcR W1 (w1 hw (.stringLink ST 7 "")) wS hmem (vs := []) (z := 0) ⟨by decide, by decide⟩ (by decide) (by decide) e4_9 11 rfl 0 (by decide) (by decide) 2 4 (by decide) (by decide) (by decide) (by decide) ?_
  intro vm2 T2 h2 a2 b2 kb2 W2 R2 E2 fa fc fv fb hne
  have sx2 : Safe G.Z G.EL vm2 h2 x := R2.safe E.lt sx
  have ne2 := hne x sx2
  refine getF W2 (w1 hw (.fieldLink ST 9 ST "value" "[B")) Via.refl fv e4_11 14 rfl ?_
  intro T3 W3
  refine putF W3 (w1 hw (.fieldLink ST 9 ST "value" "[B")) Via.refl (V.ext E2) (E.ext E2) (Or.inr ⟨w1 hw (.laysFinal ST ST "value" "[B"), rfl, rfl⟩) (w1 hw (.instantiable ST 4)) (ty := .array .byte) (by decide) rfl rfl hx0 sx2 e4_14 17 rfl ?_
  intro T4 h4 W4 Wr4 k4
  refine aloadN W4 e4_17 18 rfl _ rfl rfl ?_
  refine ldcR W4 (w1 hw (.stringLink ST 7 "")) wS hmem (vs := []) (z := 0) ⟨by decide, by decide⟩ (by decide) (by decide) e4_18 20 rfl 0 (by decide) (by decide) 4 8 (by decide) (by decide) (by decide) (by decide) ?_
  intro vm5 T5 h5 a5 b5 kb5 W5 R5 E5 ga gc gv gb hne5
  have x4 : x < h4.size := by rw [Wr4.size]; exact (E.ext E2).lt
  have sx4 : Safe G.Z G.EL vm2 h4 x := k4 x sx2
  have sx5 : Safe G.Z G.EL vm5 h5 x := R5.safe x4 sx4
  refine getF W5 (w1 hw (.fieldLink ST 15 ST "coder" "B")) Via.refl gc e4_20 23 rfl ?_
  intro T6 W6
  have Ex5 : Exa G.Z h5 x ST := ((E.ext E2).wr Wr4).ext E5
  have sne : RoadKit.slotOf G.Z ST "coder" "B" ≠ RoadKit.slotOf G.Z ST "value" "[B" := slot_ne (Or.inr (w1 hw (.laysFinal ST ST "coder" "B"))) (Or.inr (w1 hw (.laysFinal ST ST "value" "[B"))) (by decide) (t := .byte) (t' := .array .byte) (by decide) (by decide)
  have Cd5 : Fld G.Z h5 x ST "coder" "B" c0 := ((Cd.ext E2).other Wr4 (Or.inr sne)).ext E5
  have V5 : Fld G.Z h5 x ST "value" "[B" (.ref b2) := ((V.ext E2).same Wr4).ext E5
  have B5 : Arv G.Z h5 b2 kb2 .byte 0 [] (.int 0) := (fb.other Wr4 (Ne.symm ne2.2)).ext E5
  refine putF W6 (w1 hw (.fieldLink ST 15 ST "coder" "B")) Via.refl Cd5 Ex5 (Or.inr ⟨w1 hw (.laysFinal ST ST "coder" "B"), rfl, rfl⟩) (w1 hw (.instantiable ST 4)) (ty := .byte) (v' := .int 0) (by decide) rfl rfl hx0 sx5 e4_23 26 rfl ?_
  intro T7 h7 W7 Wr7 _
  refine retV W7 (by decide) (by decide) rfl e4_26 ⟨rfl, ?_, ?_⟩
  · exact ((((Keep.refl h [x]).ext E2).wr Wr4 (Or.inl (List.mem_singleton.mpr rfl))).ext E5).wr Wr7 (Or.inl (List.mem_singleton.mpr rfl))
  · have nb : b2 ≠ x := Ne.symm ne2.2
    exact ⟨Ex5.wr Wr7, Cd5.same Wr7, by simp, by simp, b2, kb2, V5.other Wr7 (Or.inr (Ne.symm sne)), B5.other Wr7 nb⟩
set_option maxRecDepth 65536 in
set_option maxHeartbeats 4000000 in
theorem con_new1e (hw : ∀ d ∈ wordsS, d.before G.a0 G.Z = true) (hEL : EW G.Z G.a0 G.EL) (hmem : (ST, 7) ∈ G.EL) {x b : Addr} {kC : ClassId} {v0 c0 dv : Value} {vs : List Value} (hO : Old G.Z G.n0 h) (hx0 : G.n0 ≤ x) (E : Exa G.Z h x ST) (V : Fld G.Z h x ST "value" "[B" v0) (Cd : Fld G.Z h x ST "coder" "B" c0) (A : Arv G.Z h b kC .char 0 vs dv) :
    Con G [] bNew1 #[.ref x, .ref b] h [x] (fun v h' => v = none ∧ Keep h h' [x] ∧ Str G.Z h' x []) := by
  refine Con.intro (plainFor_of_name pnST) hO hEL _ (fun m => ef1 m x b) ?_
  intro X T W sf
  have sx := sf x (List.mem_singleton.mpr rfl)
  refine aloadN W StrChars.New1.d0 1 rfl _ rfl rfl ?_
  refine aloadN W StrChars.New1.d1 2 rfl _ rfl rfl ?_
  refine iconst W StrChars.New1.d2 3 rfl 0 rfl ?_
  refine aloadN W StrChars.New1.d3 4 rfl _ rfl rfl ?_
  refine arrlen W A StrChars.New1.d4 5 rfl ?_
  refine aconstNull W StrChars.New1.d5 6 rfl ?_
  refine callX W (y := StrChars.New4.yN) rfl (w1 hw (.methodLink ST 27 StrChars.New4.yN)) (w1 hw (.instanceMethod StrChars.New4.yN)) (w1 hw (.code StrChars.New4.yN StrChars.New4.yB 6 none)) (by decide) (argsL := [.ref b, .int 0, .int 0, .null]) (rest := [])
    (Con.pay (con_new4e hw hEL hmem hO hx0 E V Cd) W (w1 hw (.code StrChars.New4.yN StrChars.New4.yB 6 none)) (w1 hw (.initialized ST)) (len := 3) (wd := 0) (by decide) (by decide) (fun y hy => by cases List.mem_singleton.mp hy; exact ⟨E.lt, sx⟩)) rfl (lenOf pd4 rfl) rfl (by decide) StrChars.New1.d6 9 rfl 4 8 (by decide) (by decide) (by decide) (by decide) ?_
  intro vm1 T1 h1 v W1 R1 hq
  obtain ⟨rfl, K, F⟩ := hq
  exact retV W1 (by decide) (by decide) rfl StrChars.New1.d9 ⟨rfl, K, F⟩
/-- **new String(char[]) AT ITS CALL**: x the fresh String, b the char[] that holds cs -/
theorem payStr (hw : ∀ d ∈ wordsS, d.before G.a0 G.Z = true) (hEL : EW G.Z G.a0 G.EL) (hmem : (ST, 7) ∈ G.EL) (W : Here G X M vm T h C S) {x b : Addr} {kC : ClassId} {v0 c0 dv : Value} {cs : List Int32} {z cz : Int32} (hx0 : G.n0 ≤ x) (sx : Safe G.Z G.EL vm h x) (E : Exa G.Z h x ST) (V : Fld G.Z h x ST "value" "[B" v0) (Cd : Fld G.Z h x ST "coder" "B" c0)
    (A : Arv G.Z h b kC .char z (cs.map Value.int) dv) (hz : z = Int32.ofNat cs.length) (hcs : ∀ c ∈ cs, ¬ c < 0 ∧ ¬ (255 : Int32) < c) (hl : cs.length ≤ 4000) (hS : Sta G.Z G.Z.heap ST "COMPACT_STRINGS" "Z" (.int cz)) (hcz : ¬ cz = 0) {len wd : Nat} (hf : 4 ≤ M.R.frames) (hlo : wd + 65 ≤ M.R.locals) :
    Pay G X M vm h StrChars.New1.yN len wd #[.ref x, .ref b] 4 (8 + cs.length) (fun v h' => v = none ∧ Keep h h' [x] ∧ Str G.Z h' x cs) := by
  have hO := W.old
  subst hz
  match cs, A, hcs, hl with
  | [], A, _, _ =>
    exact Con.pay (con_new1e hw hEL hmem hO hx0 E V Cd A) W (w1 hw (.code StrChars.New1.yN StrChars.New1.yB 2 none)) (w1 hw (.initialized ST)) (by show 2 + 1 ≤ _; omega) (by show wd + (2 + 11) + 29 ≤ _; omega) (fun y hy => by cases List.mem_singleton.mp hy; exact ⟨E.lt, sx⟩)
  | c :: cs, A, hcs, hl =>
    have B := StrChars.Road.backV (p := X.p) (l := G.l) (e := X.e) (R := M.R) (s := X.s.setVm vm) (args := X.args) (below := X.below) (len := len) (W := wd) (Z := G.Z) (a0 := G.a0) W.wz (fun d hd => hw d (List.mem_append_left _ hd)) (kI := 4) (w1 hw (.instantiable ST 4)) hx0 W.n0 E V Cd A (W.sta hS) hcz (n := (c :: cs).length) rfl rfl (by simp) hl hcs rfl hf hlo
    have P := payB (Q' := fun v h' => v = none ∧ Keep h h' [x] ∧ Str G.Z h' x (c :: cs)) B W (fun v h' L q => by
      obtain ⟨q1, q2, q3, q4, q5, t, kb, q6, q7, q8, q9, q10⟩ := q
      have ks : ∀ y ∈ [x], Safe G.Z G.EL vm h y := fun y hy => by cases List.mem_singleton.mp hy; exact sx
      exact ⟨⟨q1, q3, q4, q5, hcs, hl, t, kb, q9, q10⟩, q2, hO.keep q3 (fun y hy => by cases List.mem_singleton.mp hy; exact hx0), CHr.keep q3 ks W.ch⟩)
    intro m meth c' A' g ig mk a X1 hg hsize hdg hW hn hp
    obtain ⟨v, B', r1, r2, r3, ⟨L, r4, r5, r6, r7, r8⟩, r9⟩ := P m meth c' A' g ig mk a X1 hg hsize hdg hW hn ⟨hp.1, hp.2.1, by have := hp.2.2.1; omega, by have := hp.2.2.2; omega⟩
    exact ⟨v, B', r1, r2, r3, ⟨L, r4, r5, by omega, by omega, r8⟩, r9⟩
end Kit3
/-! ### chars -/
def chr (x : Int32) : Int32 := x.toUInt32.toUInt16.toUInt32.toInt32
def us (x k : Int32) : Int32 := (x.toUInt32 >>> (k &&& 31).toUInt32).toInt32
/-- the low eight bits, as a char -/
def lo (x : Int32) : Int32 := chr (x &&& 255)
theorem chr_id {x : Int32} (h0 : 0 ≤ x.toInt) (h1 : x.toInt < 65536) : chr x = x := Int32.toInt_inj.mp (by
  have q := c_i2c x
  unfold chr
  omega)
theorem and255 (x : Int32) : 0 ≤ (x &&& 255).toInt ∧ (x &&& 255).toInt ≤ 255 := c_and x 255 (by decide)
theorem lo_eq (x : Int32) : lo x = x &&& 255 := chr_id (and255 x).1 (by have := (and255 x).2; omega)
theorem lo_rng (x : Int32) : ¬ lo x < 0 ∧ ¬ (255 : Int32) < lo x := by
  rw [lo_eq, Int32.lt_iff_toInt_lt, Int32.lt_iff_toInt_lt]
  have q := and255 x
  have e1 : (0 : Int32).toInt = 0 := by decide
  have e2 : (255 : Int32).toInt = 255 := by decide
  rw [e1, e2]; omega
theorem nar_of {c : Int32} (q : ¬ c < 0 ∧ ¬ (255 : Int32) < c) : nar .char c = c := by
  rw [Int32.lt_iff_toInt_lt, Int32.lt_iff_toInt_lt] at q
  have e1 : (0 : Int32).toInt = 0 := by decide
  have e2 : (255 : Int32).toInt = 255 := by decide
  rw [e1, e2] at q
  show chr c = c
  exact chr_id (by omega) (by omega)
theorem nar_b8 (x : Int32) : nar .byte x.toInt8.toInt32 = x.toInt8.toInt32 := by
  show (x.toInt8.toInt32).toInt8.toInt32 = x.toInt8.toInt32
  simp
theorem nar_lo (x : Int32) : nar .char (lo x) = lo x := by
  show chr (lo x) = lo x
  rw [lo_eq]; exact chr_id (and255 x).1 (by have := (and255 x).2; omega)
end Own
end Jvm.Pilot.@@N@@
namespace Jvm.Pilot.@@N@@
namespace Own
open Jvm Jvm.ClassFile Sem Op Lib Jvm.Free Jvm.Stand Jvm.LawKit Jvm.RoadKit
theorem payLen {G : Gl} {X : Rn} {M : Bo} {vm : Vm} {T : State} {h : Heap} {C S : Nat} {cs : List Int32} {x : Addr} {cz : Int32} (hwE : ∀ d ∈ StrChars.Road.wordsLen, d.before G.a0 G.Z = true) {kI : Nat} (wi : (Jvm.Cond.instantiable ST kI).before G.a0 G.Z = true) (W : Here G X M vm T h C S) (F : Str G.Z h x cs)
    (hS : Sta G.Z G.Z.heap ST "COMPACT_STRINGS" "Z" (.int cz)) (hcz : ¬ cz = 0) {len wd : Nat} (hf : 2 ≤ M.R.frames) (hlo : wd + 25 ≤ M.R.locals) :
    Pay G X M vm h ⟨"java/lang/String", "length", "()I"⟩ len wd #[.ref x] 0 0 (fun v h' => v = some (.int (Int32.ofNat cs.length)) ∧ h' = h) := by
  obtain ⟨h1, h2, h3, h4, b, kb, h5, h6⟩ := F
  exact payB (Qy := fun v h' L => v = some (.int (Int32.ofNat cs.length)) ∧ L = [] ∧ h' = h) (StrChars.Road.lenW (p := X.p) (l := G.l) (e := X.e) (R := M.R) (s := X.s.setVm vm) (args := X.args) (below := X.below) (len := len) (W := wd) W.wz hwE wi h1 h5 h2 h6 (codS h3) (wide16 h3) (W.sta hS) hcz h4 hf hlo) W (fun v h' L q => by
    obtain ⟨q1, rfl, q3⟩ := q
    subst q3
    exact ⟨⟨q1, rfl⟩, Fr.nil _, W.old, CHr.refl W.ch⟩)
end Own
end Jvm.Pilot.@@N@@
namespace Jvm.Pilot.@@N@@
namespace Own
open Jvm Jvm.ClassFile Sem Op Lib Jvm.Free Jvm.Stand Jvm.LawKit Jvm.RoadKit
theorem payChr {G : Gl} {X : Rn} {M : Bo} {vm : Vm} {T : State} {h : Heap} {C S : Nat} {cs : List Int32} {x : Addr} {cz j : Int32} {i : Nat} {fm : Value} (hwE : ∀ d ∈ StrChars.Road.wordsChN, d.before G.a0 G.Z = true) {kI : Nat} (wi : (Jvm.Cond.instantiable ST kI).before G.a0 G.Z = true) (W : Here G X M vm T h C S) (F : Str G.Z h x cs)
    (hS : Sta G.Z G.Z.heap ST "COMPACT_STRINGS" "Z" (.int cz)) (hcz : ¬ cz = 0) (hF : Sta G.Z G.Z.heap "jdk/internal/util/Preconditions" "SIOOBE_FORMATTER" "Ljava/util/function/BiFunction;" fm) (rf : fm.isRef = true) (hi : i < cs.length) (hj : j = Int32.ofNat i) {len wd : Nat} (hf : 4 ≤ M.R.frames) (hlo : wd + 53 ≤ M.R.locals) :
    Pay G X M vm h ⟨"java/lang/String", "charAt", "(I)C"⟩ len wd #[.ref x, .int j] 0 0 (fun v h' => v = some (.int (cs.getD i 0)) ∧ h' = h) := by
  obtain ⟨h1, h2, h3, h4, b, kb, h5, h6⟩ := F
  exact payB (Qy := fun v h' L => v = some (.int (cs.getD i 0)) ∧ L = [] ∧ h' = h) (StrChars.Road.chN (p := X.p) (l := G.l) (e := X.e) (R := M.R) (s := X.s.setVm vm) (args := X.args) (below := X.below) (len := len) (W := wd) W.wz hwE wi h1 h5 h2 h6 (codS h3) (wide16 h3) (W.sta hS) hcz (W.sta hF) rf h4 hi hj hf hlo) W (fun v h' L q => by
    obtain ⟨q1, rfl, q3⟩ := q
    subst q3
    exact ⟨⟨q1, rfl⟩, Fr.nil _, W.old, CHr.refl W.ch⟩)
end Own
end Jvm.Pilot.@@N@@
namespace Jvm.Pilot.@@N@@
namespace Own
open Jvm Jvm.ClassFile Sem Op Lib Jvm.Free Jvm.Stand Jvm.LawKit Jvm.RoadKit
section Enum
variable {G : Gl} {X : Rn} {M : Bo} {vm : Vm} {T : State} {h : Heap} {C S : Nat} {Q : Option Value → Heap → Prop} {pc pc' : Nat} {Ls Ls' : Array Slot} {st : List Value}
theorem aaload (W : Here G X M vm T h C S) {a : Addr} {kA : ClassId} {ty : FieldType} {z j : Int32} {vs : List Value} {dv : Value} (A : Arv G.Z h a kA ty z vs dv) (hty : ty.isReference = true) (hj0 : ¬ j < 0 ∧ j < z) (v : Value) (hv : vs.getD j.toNatClampNeg dv = v) (hd : decode M.bytes pc = .ok (.aaload, 1)) (pc' : Nat) (hp : pc + 1 = pc') (k : Go G X M Q T pc' Ls (v :: st)) : Go G X M Q T pc Ls (.int j :: .ref a :: st) := by
  subst hp
  obtain ⟨F', k0, locs, cells, slots, X1, e1, hS, hk, hZ, hown, hCH, hF, O', c1, s1⟩ := id W
  obtain ⟨cl, A1, q, Sz, Nz, H, Gz⟩ := A
  exact Go.stp (fun t r => X1.aaload W.x (by rw [e1]; exact A1.1) (State.isArrayOf_alike (T := X.s.setVm vm) hZ.alike A1.2.1) hty A1.2.2 (inb_of Sz hj0) (H.at (inb_of Sz hj0) hv) (g := mkF X.m pc Ls (.int j :: .ref a :: st)) rfl rfl (W.d hd) t r) k
theorem cloneV (W : Here G X M vm T h C S) {ad : String} {idx : Nat} {a : Addr} {kA : ClassId} {ty : FieldType} {z : Int32} {vs : List Value} {dv : Value} (w1 : (Jvm.Cond.methodLink M.y.cls idx ⟨ad, "clone", "()Ljava/lang/Object;"⟩).before G.a0 G.Z = true) (w2 : (Jvm.Cond.sameMethod ad "java/lang/Object" "clone" "()Ljava/lang/Object;").before G.a0 G.Z = true) (w3 : (Jvm.Cond.native ⟨"java/lang/Object", "clone", "()Ljava/lang/Object;"⟩).before G.a0 G.Z = true)
    (w4 : (Jvm.Cond.instanceMethod ⟨"java/lang/Object", "clone", "()Ljava/lang/Object;"⟩).before G.a0 G.Z = true) (w5 : (Jvm.Cond.selects ad ⟨ad, "clone", "()Ljava/lang/Object;"⟩ ⟨"java/lang/Object", "clone", "()Ljava/lang/Object;"⟩).before G.a0 G.Z = true) (w6 : (Jvm.Cond.castable ad "java/lang/Cloneable").before G.a0 G.Z = true)
    (A : Arv G.Z h a kA ty z vs dv) (E : Exa G.Z h a ad) (hsz : Ls.size = M.maxL) (hd : decode M.bytes pc = .ok (.invokevirtual idx, 3)) (pc' : Nat) (hp : pc + 3 = pc') (hf : 1 ≤ M.R.frames) (hl : (st.map fun v => v.category).sum + 14 ≤ M.R.locals) (cap : Nat) (hcap : z.toNatClampNeg ≤ cap) (C' S' : Nat) (hc : C + 1 ≤ C') (hs : S + cap ≤ S') (hc' : C' ≤ M.R.cells) (hs' : S' ≤ M.R.slots)
    (k : ∀ (T' : State) (h' : Heap) (b : Addr), b = h.size → Here G X M vm T' h' C' S' → Ext h h' → Arv G.Z h' b kA ty z vs dv → Exa G.Z h' b ad → Go G X M Q T' pc' Ls (.ref b :: st)) : Go G X M Q T pc Ls (.ref a :: st) := by
  subst hp
  obtain ⟨F', k0, locs, cells, slots, X1, e1, hS, hk, hZ, hown, hCH, hF, O', c1, s1⟩ := id W
  obtain ⟨T', h', X', e', E', A', Ex', st'⟩ := RoadKit.cloneH X1 W.x hZ hown w1 w2 w3 w4 w5 w6 e1 A.arh E (g := mkF X.m pc Ls (.ref a :: st)) rfl (hsz.trans F'.2.2.1.symm) rfl (W.d hd) hf (W := (st.map fun v => v.category).sum) (cap := cap) (by show 2 * 0 + _ ≤ _; omega) hl hcap (by omega) (by omega)
  exact Go.stp (fun t r => st' t r) (k T' h' h.size rfl (Here.ext W hS hk hown hCH hF X' e' E' (by omega) (by omega)) E' A' Ex')
end Enum
/-! ### a case's words on its start: arrays and Strings -/
section Start
variable {s : State} {args : Array Value} {t : Term} {r : Addr}
theorem eqRef {a b : Term} {r : Addr} (m : (Jvm.Cond.eq a b).value args s none s [] = some true) (ev : b.eval args s none [] s = some (.ref r)) : a.eval args s none [] s = some (.ref r) := by
  simp only [Cond.value, ev] at m
  cases ha : a.eval args s none [] s with
  | none => simp [ha] at m
  | some x => cases x <;> simp [ha] at m ⊢ <;> exact m
theorem eqI {a : Term} {k : Int32} (m : (Jvm.Cond.eq a (.int k)).value args s none s [] = some true) : a.eval args s none [] s = some (.int k) := Cond.eq_int (Cond.before_iff.mpr m) rfl
theorem hasL_of {cl : Cell} : ∀ (vs : List Value) (i : Nat), (∀ j (hj : j < vs.length), cl.slots[i + j]? = some vs[j]) → HasL cl i vs
  | [], _, _ => trivial
  | v :: vs, i, q => ⟨q 0 (by simp), hasL_of vs (i + 1) fun j hj => by
      have z := q (j + 1) (by simp; omega)
      rw [show i + 1 + j = i + (j + 1) from by omega]
      simpa using z⟩
theorem arvStart (hf : Fit s) {ty : FieldType} {z : Int32} {vs : List Value} {dv : Value} (ev : t.eval args s none [] s = some (.ref r)) (ha : (Jvm.Cond.arrayOf t ty).value args s none s [] = some true) (hl : (Jvm.Cond.eq (.length t) (.int z)).value args s none s [] = some true) (hz : ¬ z < 0) (hn : z.toNatClampNeg = vs.length)
    (hel : ∀ i (hi : i < vs.length), (Term.elem t (.int (Int32.ofNat i))).eval args s none [] s = some vs[i]) : ∃ k, Arv s s.heap r k ty z vs dv := by
  obtain ⟨cl, A⟩ := Arr.start ev ha
  have e := eqI hl
  obtain ⟨sd, SA, hev, harrAt, -⟩ := Term.length_spec e
  have h31 := SBG.length_lt hev harrAt e
  cases ev.symm.trans hev
  have hcl : SA = cl := by
    have q := Arr.fin (U := s) (Vm.Alike.refl _) A
    exact Option.some.inj (harrAt.symm.trans q)
  subst hcl
  have e2 := len_f (o := none) (idx := []) ev harrAt h31
  have ez : SA.slots.size.toInt32 = z := by
    have q := e2.symm.trans e
    simpa using q
  refine ⟨SA.cls, Arv.start hf A h31 ez hz hn (hasL_of vs 0 fun j hj => ?_)⟩
  have q := elem_in (hel j hj) ev rfl A.1
  have z2 := q.2
  rw [show (Int32.ofNat j).toNatClampNeg = j from by
    have := Int32.toInt_ofNat_small (n := j) (by have := back32 hz; omega)
    simp [Int32.toNatClampNeg, this]] at z2
  rw [Nat.zero_add]; exact z2
end Start
end Own
end Jvm.Pilot.@@N@@
namespace Jvm.Pilot.@@N@@
namespace Own
open Jvm Jvm.ClassFile Sem Op Lib Bundle Jvm.Free Jvm.Stand Jvm.LawKit Jvm.RoadKit Jvm.Free.SB Jvm.Free.SBG
/-- no entry of EL names a text of n signs -/
def EN (Z : State) (a0 : Array Value) (EL : List (String × Nat)) (n : Nat) : Prop := ∀ p ∈ EL, ∃ text : String, (Cond.stringLink p.1 p.2 text).before a0 Z = true ∧ (∀ c ∈ text.toList, c.toNat < 256) ∧ text.toList.length ≠ n
theorem EN.nil {Z : State} {a0 : Array Value} {n : Nat} : EN Z a0 [] n := fun _ hp => by cases hp
theorem EN.cons {Z : State} {a0 : Array Value} {EL : List (String × Nat)} {n : Nat} {own text : String} {index : Nat} (w : (Cond.stringLink own index text).before a0 Z = true) (ht : ∀ c ∈ text.toList, c.toNat < 256) (hn : text.toList.length ≠ n) (E : EN Z a0 EL n) : EN Z a0 ((own, index) :: EL) n := fun p hp => by
  rcases List.mem_cons.mp hp with rfl | hp
  · exact ⟨text, w, ht, hn⟩
  · exact E p hp
/-- a byte[] as long as no constant's is none of theirs -/
theorem Safe.len {Z : State} {a0 : Array Value} {EL : List (String × Nat)} {vm : Vm} {h : Heap} {x : Addr} {k : ClassId} {z : Int32} {vs : List Value} {dv : Value} {n : Nat} (hW : Z.Warmed39 vm) (hEN : EN Z a0 EL n) (A : Arv Z h x k .byte z vs dv) (hz : z.toNatClampNeg = n) : Safe Z EL vm h x := fun B => by
  have hal : Z.vm.Alike vm := hW.alike
  obtain ⟨p, hp, u, a, hb, q, -, F, hy⟩ := B
  obtain ⟨cl, A0, -, Sz, -⟩ := A
  obtain ⟨A1, ⟨-, kA, hkA, compA, hkindA⟩, -⟩ := A0
  obtain ⟨kA', hkA', ekA⟩ := hal.2.2 _ _ hkA
  rcases hy with rfl | rfl
  · cases (show h[q.sa]? = some q.sC from F.ha).symm.trans A1
    obtain ⟨cS, ⟨-, -, e⟩, ⟨kS, g1, g2, -⟩, -⟩ := F
    subst e
    cases (show vm.classes[q.sC.cls]? = some kS from g1).symm.trans hkA'
    rw [ekA] at g2
    have := hkindA.symm.trans g2
    cases this
  · cases (show h[q.sd]? = some q.SA from F.hd).symm.trans A1
    obtain ⟨cS, -, -, -, hsl⟩ := F
    obtain ⟨text, w, ht, hn⟩ := hEN p hp
    obtain ⟨c, k1, cf, i, b1, b2, b3, b4, b5, -⟩ := hb
    have w2 : (Cond.stringLink p.1 p.2 text).before a0 (Wst Z vm h) = true := mvS (s := { Z with heap := h }) hW w
    obtain ⟨k2, cf2, i2, u2, d1, d2, d3, d4, -, d6, -⟩ := Cond.stringLink_spec (s := Wst Z vm h) b1 w2
    cases b2.symm.trans (show vm.classes[c]? = some k2 from d1)
    cases b3.symm.trans d2
    cases b4.symm.trans d3
    cases b5.symm.trans d4
    have hl := lat_of_text d6 ht
    have hu := units_of_text d6 ht
    have e1 : (stringBytes u).size = u.size := by unfold stringBytes; rw [if_pos hl]; simp
    have e2 : u.size = text.toList.length := by rw [← Array.length_toList, hu, List.length_map]
    rw [hsl, e1, e2, hz] at Sz
    exact hn Sz
end Own
end Jvm.Pilot.@@N@@
namespace Jvm.Pilot.@@N@@
namespace Own
open Jvm Jvm.ClassFile Sem Op Lib Jvm.Free Jvm.Stand Jvm.LawKit Jvm.RoadKit
/-- 0 to 65535 -/
def R16 (c : Int32) : Prop := ¬ c < 0 ∧ ¬ (65535 : Int32) < c
/-- a UTF-16 String: some char is above 255 -/
def WStr (Z : State) (h : Heap) (a : Addr) (cs : List Int32) : Prop := Exa Z h a ST ∧ Fld Z h a ST "coder" "B" (.int 1) ∧ (∀ c ∈ cs, ¬ c < 0 ∧ ¬ (65535 : Int32) < c) ∧ cs.length ≤ 2000 ∧ (∃ c ∈ cs, (255 : Int32) < c) ∧
  ∃ (b : Addr) (kb : ClassId), Fld Z h a ST "value" "[B" (.ref b) ∧ Arv Z h b kb .byte (Int32.ofNat (2 * cs.length)) (StrChars.Road.wideBytes cs) (.int 0)
theorem WStr.ext {Z : State} {h h' : Heap} {a : Addr} {cs : List Int32} (F : WStr Z h a cs) (E : Ext h h') : WStr Z h' a cs := by
  obtain ⟨h1, h2, h3, h4, h5, b, kb, h6, h7⟩ := F
  exact ⟨h1.ext E, h2.ext E, h3, h4, h5, b, kb, h6.ext E, h7.ext E⟩
def Uni (Z : State) (h : Heap) (a : Addr) (cs : List Int32) : Prop := Str Z h a cs ∨ WStr Z h a cs
theorem Uni.ext {Z : State} {h h' : Heap} {a : Addr} {cs : List Int32} (F : Uni Z h a cs) (E : Ext h h') : Uni Z h' a cs := F.imp (·.ext E) (·.ext E)
theorem Uni.exa {Z : State} {h : Heap} {a : Addr} {cs : List Int32} (F : Uni Z h a cs) : Exa Z h a ST := F.elim (·.1) (·.1)
theorem Uni.lt {Z : State} {h : Heap} {a : Addr} {cs : List Int32} (F : Uni Z h a cs) : a < h.size := F.exa.lt
theorem shrZ (x : Int32) : x >>> ((0 : Int32) &&& 31) = x := by
  rw [show ((0 : Int32) &&& 31) = 0 by decide]; exact Int32.toBitVec_inj.mp (by simp)
theorem natW {n : Nat} (h : n ≤ 100000) : (Int32.ofNat n).toInt = n := Int32.toInt_ofNat_of_lt (by omega)
theorem shr1 {n : Nat} (h : n ≤ 2000) : Int32.ofNat (2 * n) >>> ((1 : Int32) &&& 31) = Int32.ofNat n := by
  apply Int32.toInt_inj.mp
  have q := c_ishr (Int32.ofNat (2 * n)) 1 1 (by decide)
  rw [q, natW (by omega), natW (by omega)]
  omega
theorem narC {c : Int32} (h : R16 c) : narrow .char (.int c) = .int c := by
  have e := Own.chr_id (x := c) (by have := h.1; rw [Int32.lt_iff_toInt_lt] at this; have e0 : (0 : Int32).toInt = 0 := by decide
                                    omega) (by have := h.2; rw [Int32.lt_iff_toInt_lt] at this; have e0 : (65535 : Int32).toInt = 65535 := by decide
                                               omega)
  show Value.int (chr c) = .int c
  rw [e]
theorem narCh {c : Int32} (h : R16 c) : nar .char c = c := by
  have e := narC h
  exact Value.int.inj e
theorem chr_r16 (x : Int32) : R16 (x.toUInt32.toUInt16.toUInt32.toInt32) := by
  have q := c_i2c x
  unfold R16
  rw [Int32.lt_iff_toInt_lt, Int32.lt_iff_toInt_lt]
  have e0 : (0 : Int32).toInt = 0 := by decide
  have e1 : (65535 : Int32).toInt = 65535 := by decide
  omega
section W
variable {G : Gl} {X : Rn} {M : Bo} {vm : Vm} {T : State} {h : Heap} {C S : Nat}
theorem payLenU {cs : List Int32} {x : Addr} {cz : Int32} (hwE : ∀ d ∈ StrChars.Road.wordsLen, d.before G.a0 G.Z = true) {kI : Nat} (wi : (Jvm.Cond.instantiable ST kI).before G.a0 G.Z = true) (W : Here G X M vm T h C S) (F : Uni G.Z h x cs)
    (hS : Sta G.Z G.Z.heap ST "COMPACT_STRINGS" "Z" (.int cz)) (hcz : ¬ cz = 0) {len wd : Nat} (hf : 2 ≤ M.R.frames) (hlo : wd + 25 ≤ M.R.locals) :
    Pay G X M vm h ⟨"java/lang/String", "length", "()I"⟩ len wd #[.ref x] 0 0 (fun v h' => v = some (.int (Int32.ofNat cs.length)) ∧ h' = h) := by
  rcases F with F | F
  · exact payLen hwE wi W F hS hcz hf hlo
  · obtain ⟨h1, h2, h3, h4, h5, b, kb, h6, h7⟩ := F
    exact payB (Qy := fun v h' L => v = some (.int (Int32.ofNat cs.length)) ∧ L = [] ∧ h' = h) (StrChars.Road.lenW (p := X.p) (l := G.l) (e := X.e) (R := M.R) (s := X.s.setVm vm) (args := X.args) (below := X.below) (len := len) (W := wd) W.wz hwE wi h1 h6 h2 h7 (Or.inr ⟨rfl, rfl, rfl, h5⟩) h3 (W.sta hS) hcz (by omega) hf hlo) W (fun v h' L q => by
      obtain ⟨q1, rfl, q3⟩ := q
      subst q3
      exact ⟨⟨q1, rfl⟩, Fr.nil _, W.old, CHr.refl W.ch⟩)
end W
end Own
end Jvm.Pilot.@@N@@
namespace Jvm.Pilot.@@N@@
namespace Own
open Jvm Jvm.ClassFile Sem Op Lib Jvm.Free Jvm.Stand Jvm.LawKit Jvm.RoadKit
theorem lt2 {k n : Nat} (h : k < n) (hn : n ≤ 4000) : Int32.ofNat k < Int32.ofNat n := by
  rw [Int32.lt_iff_toInt_lt, natW (by omega), natW (by omega)]; omega
theorem r16At {cs : List Int32} {i : Nat} (h : ∀ c ∈ cs, ¬ c < 0 ∧ ¬ (65535 : Int32) < c) (hi : i < cs.length) : R16 (cs.getD i 0) := by
  rw [List.getD_eq_getElem?_getD, List.getElem?_eq_getElem hi]; exact h _ (List.getElem_mem hi)
end Own
end Jvm.Pilot.@@N@@
namespace Jvm.Pilot.@@N@@
namespace Own
open Jvm Jvm.ClassFile Sem Op Lib Jvm.Free Jvm.Stand Jvm.LawKit Jvm.RoadKit
theorem xs_iinc6 {tb : Tables} [Ours tb] {e : Env} {below : List Frame} {T target : State} {m : MethodId} {c : Code} {g : JFrame} (h : At T m c below) (hx : tb.exec = Jvm.exec) (hg : g.method = m) {k : Nat} {cst : Int} {x : Int32} {l' : Array Slot} (hd : decode c.code g.pc = .ok (.iinc k cst, 6)) (hl : g.locals[k]? = some (.val (.int x))) (hl' : storeLocals g.locals k (.int (x + Int32.ofInt cst)) = some l')
    (hr : Steps tb e below (T.setTop { g with pc := g.pc + 6, locals := l' }) target) : Steps tb e below (T.setTop g) target := by
  subst hg
  jvm_step h [h.top, hx, hd, hl, hl']
  exact hr
theorem iincW {G : Gl} {X : Rn} {M : Bo} {Q : Option Value → Heap → Prop} {vm : Vm} {T : State} {h : Heap} {C S pc : Nat} {Ls : Array Slot} {st : List Value} (W : Here G X M vm T h C S) {j : Nat} {cst : Int} {x : Int32} (hd : decode M.bytes pc = .ok (.iinc j cst, 6)) (pc' : Nat) (hp : pc + 6 = pc') (hl : Ls[j]? = some (.val (.int x))) (Ls' : Array Slot) (hl' : storeLocals Ls j (.int (x + Int32.ofInt cst)) = some Ls') (k : Go G X M Q T pc' Ls' st) : Go G X M Q T pc Ls st := by
  subst hp; exact Go.stp (fun t r => xs_iinc6 W.at W.x rfl (W.d hd) hl hl' r) k
end Own
end Jvm.Pilot.@@N@@
namespace Jvm.Pilot.@@N@@
open Jvm Jvm.ClassFile Sem Op Lib Jvm.Free Jvm.Stand Jvm.LawKit Jvm.RoadKit Bundle Jvm.Pilot.@@N@@.Jvm.D
theorem lb {a b : Nat} (h : Nat.ble a b = true) : a ≤ b := Nat.le_of_ble_eq_true h
theorem tw {G : Own.Gl} (hw : ∀ d ∈ tables_1, d.before G.a0 G.Z = true) (i : Nat) {d : Jvm.Cond} (h : tables_1[i]? = some d) : d.before G.a0 G.Z = true := hw d (List.mem_of_getElem? h)
theorem wS_in : ∀ d ∈ Own.wordsS, d ∈ tables_1 := by decide +kernel
theorem wS {G : Own.Gl} (hw : ∀ d ∈ tables_1, d.before G.a0 G.Z = true) : ∀ d ∈ Own.wordsS, d.before G.a0 G.Z = true := fun d hd => hw d (wS_in d hd)
theorem wC_in : ∀ d ∈ StrChars.Road.wordsChN, d ∈ tables_1 := by decide +kernel
theorem wC {G : Own.Gl} (hw : ∀ d ∈ tables_1, d.before G.a0 G.Z = true) : ∀ d ∈ StrChars.Road.wordsChN, d.before G.a0 G.Z = true := fun d hd => hw d (wC_in d hd)
theorem wL_in : ∀ d ∈ StrChars.Road.wordsLen, d ∈ tables_1 := by decide +kernel
theorem wL {G : Own.Gl} (hw : ∀ d ∈ tables_1, d.before G.a0 G.Z = true) : ∀ d ∈ StrChars.Road.wordsLen, d.before G.a0 G.Z = true := fun d hd => hw d (wL_in d hd)
theorem d1_0 : decode jdk_42_method_3_code 0 = .ok (.aload_n 0, 1) := by decide +kernel
theorem d1_1 : decode jdk_42_method_3_code 1 = .ok (.aload_n 1, 1) := by decide +kernel
theorem d1_2 : decode jdk_42_method_3_code 2 = .ok (.iconst 0, 1) := by decide +kernel
theorem d1_3 : decode jdk_42_method_3_code 3 = .ok (.aload_n 1, 1) := by decide +kernel
theorem d1_4 : decode jdk_42_method_3_code 4 = .ok (.arraylength, 1) := by decide +kernel
theorem d1_5 : decode jdk_42_method_3_code 5 = .ok (.aconst_null, 1) := by decide +kernel
theorem d1_6 : decode jdk_42_method_3_code 6 = .ok (.invokespecial 27, 3) := by decide +kernel
theorem d1_9 : decode jdk_42_method_3_code 9 = .ok (.return_, 1) := by decide +kernel
theorem d2_0 : decode jdk_42_method_149_code 0 = .ok (.aload_n 0, 1) := by decide +kernel
theorem d2_1 : decode jdk_42_method_149_code 1 = .ok (.invokespecial 1, 3) := by decide +kernel
theorem d2_4 : decode jdk_42_method_149_code 4 = .ok (.iload_n 3, 1) := by decide +kernel
theorem d2_5 : decode jdk_42_method_149_code 5 = .ok (.ifCond .ne 22, 3) := by decide +kernel
theorem d2_27 : decode jdk_42_method_149_code 27 = .ok (.getstatic 38, 3) := by decide +kernel
theorem d2_30 : decode jdk_42_method_149_code 30 = .ok (.ifCond .eq 28, 3) := by decide +kernel
theorem d2_33 : decode jdk_42_method_149_code 33 = .ok (.aload_n 1, 1) := by decide +kernel
theorem d2_34 : decode jdk_42_method_149_code 34 = .ok (.iload_n 2, 1) := by decide +kernel
theorem d2_35 : decode jdk_42_method_149_code 35 = .ok (.iload_n 3, 1) := by decide +kernel
theorem d2_36 : decode jdk_42_method_149_code 36 = .ok (.invokestatic 177, 3) := by decide +kernel
theorem d2_39 : decode jdk_42_method_149_code 39 = .ok (.astore 5, 2) := by decide +kernel
theorem d2_41 : decode jdk_42_method_149_code 41 = .ok (.aload_n 0, 1) := by decide +kernel
theorem d2_42 : decode jdk_42_method_149_code 42 = .ok (.aload 5, 2) := by decide +kernel
theorem d2_44 : decode jdk_42_method_149_code 44 = .ok (.iload_n 3, 1) := by decide +kernel
theorem d2_45 : decode jdk_42_method_149_code 45 = .ok (.invokestatic 47, 3) := by decide +kernel
theorem d2_48 : decode jdk_42_method_149_code 48 = .ok (.putfield 15, 3) := by decide +kernel
theorem d2_51 : decode jdk_42_method_149_code 51 = .ok (.aload_n 0, 1) := by decide +kernel
theorem d2_52 : decode jdk_42_method_149_code 52 = .ok (.aload 5, 2) := by decide +kernel
theorem d2_54 : decode jdk_42_method_149_code 54 = .ok (.putfield 9, 3) := by decide +kernel
theorem d2_57 : decode jdk_42_method_149_code 57 = .ok (.return_, 1) := by decide +kernel
theorem d4_0 : decode prog_60_method_2_code 0 = .ok (.aload_n 0, 1) := by decide +kernel
theorem d4_1 : decode prog_60_method_2_code 1 = .ok (.ifnull 11, 3) := by decide +kernel
theorem d4_4 : decode prog_60_method_2_code 4 = .ok (.aload_n 0, 1) := by decide +kernel
theorem d4_5 : decode prog_60_method_2_code 5 = .ok (.iconst 0, 1) := by decide +kernel
theorem d4_6 : decode prog_60_method_2_code 6 = .ok (.invokestatic 7, 3) := by decide +kernel
theorem d4_9 : decode prog_60_method_2_code 9 = .ok (.ifCond .ge 7, 3) := by decide +kernel
theorem d4_12 : decode prog_60_method_2_code 12 = .ok (.iconst 1, 1) := by decide +kernel
theorem d4_13 : decode prog_60_method_2_code 13 = .ok (.goto 4, 3) := by decide +kernel
theorem d4_16 : decode prog_60_method_2_code 16 = .ok (.iconst 0, 1) := by decide +kernel
theorem d4_17 : decode prog_60_method_2_code 17 = .ok (.ireturn, 1) := by decide +kernel
theorem d5_0 : decode prog_60_method_5_code 0 = .ok (.iload_n 1, 1) := by decide +kernel
theorem d5_1 : decode prog_60_method_5_code 1 = .ok (.istore_n 2, 1) := by decide +kernel
theorem d5_2 : decode prog_60_method_5_code 2 = .ok (.iload_n 2, 1) := by decide +kernel
theorem d5_3 : decode prog_60_method_5_code 3 = .ok (.aload_n 0, 1) := by decide +kernel
theorem d5_4 : decode prog_60_method_5_code 4 = .ok (.invokevirtual 38, 3) := by decide +kernel
theorem d5_7 : decode prog_60_method_5_code 7 = .ok (.if_icmp .ge 76, 3) := by decide +kernel
theorem d5_10 : decode prog_60_method_5_code 10 = .ok (.aload_n 0, 1) := by decide +kernel
theorem d5_11 : decode prog_60_method_5_code 11 = .ok (.iload_n 2, 1) := by decide +kernel
theorem d5_12 : decode prog_60_method_5_code 12 = .ok (.invokevirtual 44, 3) := by decide +kernel
theorem d5_15 : decode prog_60_method_5_code 15 = .ok (.istore_n 3, 1) := by decide +kernel
theorem d5_16 : decode prog_60_method_5_code 16 = .ok (.iload_n 3, 1) := by decide +kernel
theorem d5_17 : decode prog_60_method_5_code 17 = .ok (.invokestatic 48, 3) := by decide +kernel
theorem d5_20 : decode prog_60_method_5_code 20 = .ok (.ifCond .eq 30, 3) := by decide +kernel
theorem d5_23 : decode prog_60_method_5_code 23 = .ok (.iload_n 2, 1) := by decide +kernel
theorem d5_24 : decode prog_60_method_5_code 24 = .ok (.iconst 1, 1) := by decide +kernel
theorem d5_25 : decode prog_60_method_5_code 25 = .ok (.iadd, 1) := by decide +kernel
theorem d5_26 : decode prog_60_method_5_code 26 = .ok (.aload_n 0, 1) := by decide +kernel
theorem d5_27 : decode prog_60_method_5_code 27 = .ok (.invokevirtual 38, 3) := by decide +kernel
theorem d5_30 : decode prog_60_method_5_code 30 = .ok (.if_icmp .ge 20, 3) := by decide +kernel
theorem d5_33 : decode prog_60_method_5_code 33 = .ok (.aload_n 0, 1) := by decide +kernel
theorem d5_34 : decode prog_60_method_5_code 34 = .ok (.iload_n 2, 1) := by decide +kernel
theorem d5_35 : decode prog_60_method_5_code 35 = .ok (.iconst 1, 1) := by decide +kernel
theorem d5_36 : decode prog_60_method_5_code 36 = .ok (.iadd, 1) := by decide +kernel
theorem d5_37 : decode prog_60_method_5_code 37 = .ok (.invokevirtual 44, 3) := by decide +kernel
theorem d5_40 : decode prog_60_method_5_code 40 = .ok (.invokestatic 54, 3) := by decide +kernel
theorem d5_43 : decode prog_60_method_5_code 43 = .ok (.ifCond .eq 7, 3) := by decide +kernel
theorem d5_46 : decode prog_60_method_5_code 46 = .ok (.iconst 1, 1) := by decide +kernel
theorem d5_47 : decode prog_60_method_5_code 47 = .ok (.goto 4, 3) := by decide +kernel
theorem d5_50 : decode prog_60_method_5_code 50 = .ok (.iconst 0, 1) := by decide +kernel
theorem d5_51 : decode prog_60_method_5_code 51 = .ok (.istore 4, 2) := by decide +kernel
theorem d5_53 : decode prog_60_method_5_code 53 = .ok (.iload 4, 2) := by decide +kernel
theorem d5_55 : decode prog_60_method_5_code 55 = .ok (.ifCond .eq 9, 3) := by decide +kernel
theorem d5_58 : decode prog_60_method_5_code 58 = .ok (.iinc 2 1, 3) := by decide +kernel
theorem d5_61 : decode prog_60_method_5_code 61 = .ok (.goto 16, 3) := by decide +kernel
theorem d5_64 : decode prog_60_method_5_code 64 = .ok (.iload_n 3, 1) := by decide +kernel
theorem d5_65 : decode prog_60_method_5_code 65 = .ok (.ifCond .eq 10, 3) := by decide +kernel
theorem d5_68 : decode prog_60_method_5_code 68 = .ok (.iload_n 3, 1) := by decide +kernel
theorem d5_69 : decode prog_60_method_5_code 69 = .ok (.invokestatic 57, 3) := by decide +kernel
theorem d5_72 : decode prog_60_method_5_code 72 = .ok (.ifCond .eq 5, 3) := by decide +kernel
theorem d5_75 : decode prog_60_method_5_code 75 = .ok (.iload_n 2, 1) := by decide +kernel
theorem d5_76 : decode prog_60_method_5_code 76 = .ok (.ireturn, 1) := by decide +kernel
theorem d5_77 : decode prog_60_method_5_code 77 = .ok (.iinc 2 1, 3) := by decide +kernel
theorem d5_80 : decode prog_60_method_5_code 80 = .ok (.goto (-78), 3) := by decide +kernel
theorem d5_83 : decode prog_60_method_5_code 83 = .ok (.iconst (-1), 1) := by decide +kernel
theorem d5_84 : decode prog_60_method_5_code 84 = .ok (.ireturn, 1) := by decide +kernel
theorem d8_0 : decode method_4_code 0 = .ok (.aload_n 0, 1) := by decide +kernel
theorem d8_1 : decode method_4_code 1 = .ok (.iload_n 1, 1) := by decide +kernel
theorem d8_2 : decode method_4_code 2 = .ok (.caload, 1) := by decide +kernel
theorem d8_3 : decode method_4_code 3 = .ok (.istore_n 3, 1) := by decide +kernel
theorem d8_4 : decode method_4_code 4 = .ok (.iload_n 3, 1) := by decide +kernel
theorem d8_5 : decode method_4_code 5 = .ok (.ifCond .ne 5, 3) := by decide +kernel
theorem d8_8 : decode method_4_code 8 = .ok (.iconst 0, 1) := by decide +kernel
theorem d8_9 : decode method_4_code 9 = .ok (.ireturn, 1) := by decide +kernel
theorem d8_10 : decode method_4_code 10 = .ok (.iload_n 3, 1) := by decide +kernel
theorem d8_11 : decode method_4_code 11 = .ok (.invokestatic 11, 3) := by decide +kernel
theorem d8_14 : decode method_4_code 14 = .ok (.ifCond .eq 27, 3) := by decide +kernel
theorem d8_17 : decode method_4_code 17 = .ok (.iload_n 1, 1) := by decide +kernel
theorem d8_18 : decode method_4_code 18 = .ok (.iconst 1, 1) := by decide +kernel
theorem d8_19 : decode method_4_code 19 = .ok (.iadd, 1) := by decide +kernel
theorem d8_20 : decode method_4_code 20 = .ok (.iload_n 2, 1) := by decide +kernel
theorem d8_21 : decode method_4_code 21 = .ok (.if_icmp .ge 18, 3) := by decide +kernel
theorem d8_24 : decode method_4_code 24 = .ok (.aload_n 0, 1) := by decide +kernel
theorem d8_25 : decode method_4_code 25 = .ok (.iload_n 1, 1) := by decide +kernel
theorem d8_26 : decode method_4_code 26 = .ok (.iconst 1, 1) := by decide +kernel
theorem d8_27 : decode method_4_code 27 = .ok (.iadd, 1) := by decide +kernel
theorem d8_28 : decode method_4_code 28 = .ok (.caload, 1) := by decide +kernel
theorem d8_29 : decode method_4_code 29 = .ok (.invokestatic 17, 3) := by decide +kernel
theorem d8_32 : decode method_4_code 32 = .ok (.ifCond .eq 7, 3) := by decide +kernel
theorem d8_35 : decode method_4_code 35 = .ok (.iconst 1, 1) := by decide +kernel
theorem d8_36 : decode method_4_code 36 = .ok (.goto 4, 3) := by decide +kernel
theorem d8_39 : decode method_4_code 39 = .ok (.iconst 0, 1) := by decide +kernel
theorem d8_40 : decode method_4_code 40 = .ok (.ireturn, 1) := by decide +kernel
theorem d8_41 : decode method_4_code 41 = .ok (.iload_n 3, 1) := by decide +kernel
theorem d8_42 : decode method_4_code 42 = .ok (.invokestatic 17, 3) := by decide +kernel
theorem d8_45 : decode method_4_code 45 = .ok (.ifCond .eq 24, 3) := by decide +kernel
theorem d8_48 : decode method_4_code 48 = .ok (.iload_n 1, 1) := by decide +kernel
theorem d8_49 : decode method_4_code 49 = .ok (.ifCond .le 18, 3) := by decide +kernel
theorem d8_52 : decode method_4_code 52 = .ok (.aload_n 0, 1) := by decide +kernel
theorem d8_53 : decode method_4_code 53 = .ok (.iload_n 1, 1) := by decide +kernel
theorem d8_54 : decode method_4_code 54 = .ok (.iconst 1, 1) := by decide +kernel
theorem d8_55 : decode method_4_code 55 = .ok (.isub, 1) := by decide +kernel
theorem d8_56 : decode method_4_code 56 = .ok (.caload, 1) := by decide +kernel
theorem d8_57 : decode method_4_code 57 = .ok (.invokestatic 11, 3) := by decide +kernel
theorem d8_60 : decode method_4_code 60 = .ok (.ifCond .eq 7, 3) := by decide +kernel
theorem d8_63 : decode method_4_code 63 = .ok (.iconst 1, 1) := by decide +kernel
theorem d8_64 : decode method_4_code 64 = .ok (.goto 4, 3) := by decide +kernel
theorem d8_67 : decode method_4_code 67 = .ok (.iconst 0, 1) := by decide +kernel
theorem d8_68 : decode method_4_code 68 = .ok (.ireturn, 1) := by decide +kernel
theorem d8_69 : decode method_4_code 69 = .ok (.iconst 1, 1) := by decide +kernel
theorem d8_70 : decode method_4_code 70 = .ok (.ireturn, 1) := by decide +kernel
theorem d9_0 : decode method_2_code 0 = .ok (.iload_n 0, 1) := by decide +kernel
theorem d9_1 : decode method_2_code 1 = .ok (.ldc 7, 2) := by decide +kernel
theorem d9_3 : decode method_2_code 3 = .ok (.if_icmp .lt 13, 3) := by decide +kernel
theorem d9_6 : decode method_2_code 6 = .ok (.iload_n 0, 1) := by decide +kernel
theorem d9_7 : decode method_2_code 7 = .ok (.ldc 8, 2) := by decide +kernel
theorem d9_9 : decode method_2_code 9 = .ok (.if_icmp .gt 7, 3) := by decide +kernel
theorem d9_12 : decode method_2_code 12 = .ok (.iconst 1, 1) := by decide +kernel
theorem d9_13 : decode method_2_code 13 = .ok (.goto 4, 3) := by decide +kernel
theorem d9_16 : decode method_2_code 16 = .ok (.iconst 0, 1) := by decide +kernel
theorem d9_17 : decode method_2_code 17 = .ok (.ireturn, 1) := by decide +kernel
theorem d10_0 : decode method_3_code 0 = .ok (.iload_n 0, 1) := by decide +kernel
theorem d10_1 : decode method_3_code 1 = .ok (.ldc 9, 2) := by decide +kernel
theorem d10_3 : decode method_3_code 3 = .ok (.if_icmp .lt 13, 3) := by decide +kernel
theorem d10_6 : decode method_3_code 6 = .ok (.iload_n 0, 1) := by decide +kernel
theorem d10_7 : decode method_3_code 7 = .ok (.ldc 10, 2) := by decide +kernel
theorem d10_9 : decode method_3_code 9 = .ok (.if_icmp .gt 7, 3) := by decide +kernel
theorem d10_12 : decode method_3_code 12 = .ok (.iconst 1, 1) := by decide +kernel
theorem d10_13 : decode method_3_code 13 = .ok (.goto 4, 3) := by decide +kernel
theorem d10_16 : decode method_3_code 16 = .ok (.iconst 0, 1) := by decide +kernel
theorem d10_17 : decode method_3_code 17 = .ok (.ireturn, 1) := by decide +kernel
theorem d11_0 : decode jdk_52_method_16_code 0 = .ok (.iload_n 2, 1) := by decide +kernel
theorem d11_1 : decode jdk_52_method_16_code 1 = .ok (.newarray .byte, 2) := by decide +kernel
theorem d11_3 : decode jdk_52_method_16_code 3 = .ok (.astore_n 3, 1) := by decide +kernel
theorem d11_4 : decode jdk_52_method_16_code 4 = .ok (.aload_n 0, 1) := by decide +kernel
theorem d11_5 : decode jdk_52_method_16_code 5 = .ok (.iload_n 1, 1) := by decide +kernel
theorem d11_6 : decode jdk_52_method_16_code 6 = .ok (.aload_n 3, 1) := by decide +kernel
theorem d11_7 : decode jdk_52_method_16_code 7 = .ok (.iconst 0, 1) := by decide +kernel
theorem d11_8 : decode jdk_52_method_16_code 8 = .ok (.iload_n 2, 1) := by decide +kernel
theorem d11_9 : decode jdk_52_method_16_code 9 = .ok (.invokestatic 115, 3) := by decide +kernel
theorem d11_12 : decode jdk_52_method_16_code 12 = .ok (.istore 4, 2) := by decide +kernel
theorem d11_14 : decode jdk_52_method_16_code 14 = .ok (.iload 4, 2) := by decide +kernel
theorem d11_16 : decode jdk_52_method_16_code 16 = .ok (.iload_n 2, 1) := by decide +kernel
theorem d11_17 : decode jdk_52_method_16_code 17 = .ok (.if_icmp .eq 40, 3) := by decide +kernel
theorem d11_20 : decode jdk_52_method_16_code 20 = .ok (.aload_n 0, 1) := by decide +kernel
theorem d11_21 : decode jdk_52_method_16_code 21 = .ok (.iload_n 1, 1) := by decide +kernel
theorem d11_22 : decode jdk_52_method_16_code 22 = .ok (.iload_n 2, 1) := by decide +kernel
theorem d11_23 : decode jdk_52_method_16_code 23 = .ok (.invokestatic 119, 3) := by decide +kernel
theorem d11_26 : decode jdk_52_method_16_code 26 = .ok (.astore 5, 2) := by decide +kernel
theorem d11_28 : decode jdk_52_method_16_code 28 = .ok (.aload 5, 2) := by decide +kernel
theorem d11_30 : decode jdk_52_method_16_code 30 = .ok (.iload 4, 2) := by decide +kernel
theorem d11_32 : decode jdk_52_method_16_code 32 = .ok (.invokestatic 71, 3) := by decide +kernel
theorem d11_35 : decode jdk_52_method_16_code 35 = .ok (.sipush 255, 3) := by decide +kernel
theorem d11_38 : decode jdk_52_method_16_code 38 = .ok (.if_icmp .gt 16, 3) := by decide +kernel
theorem d11_54 : decode jdk_52_method_16_code 54 = .ok (.aload 5, 2) := by decide +kernel
theorem d11_56 : decode jdk_52_method_16_code 56 = .ok (.areturn, 1) := by decide +kernel
theorem d12_0 : decode jdk_52_method_21_code 0 = .ok (.iconst 0, 1) := by decide +kernel
theorem d12_1 : decode jdk_52_method_21_code 1 = .ok (.istore 5, 2) := by decide +kernel
theorem d12_3 : decode jdk_52_method_21_code 3 = .ok (.iload 5, 2) := by decide +kernel
theorem d12_5 : decode jdk_52_method_21_code 5 = .ok (.iload 4, 2) := by decide +kernel
theorem d12_7 : decode jdk_52_method_21_code 7 = .ok (.if_icmp .ge 37, 3) := by decide +kernel
theorem d12_10 : decode jdk_52_method_21_code 10 = .ok (.aload_n 0, 1) := by decide +kernel
theorem d12_11 : decode jdk_52_method_21_code 11 = .ok (.iload_n 1, 1) := by decide +kernel
theorem d12_12 : decode jdk_52_method_21_code 12 = .ok (.caload, 1) := by decide +kernel
theorem d12_13 : decode jdk_52_method_21_code 13 = .ok (.istore 6, 2) := by decide +kernel
theorem d12_15 : decode jdk_52_method_21_code 15 = .ok (.iload 6, 2) := by decide +kernel
theorem d12_17 : decode jdk_52_method_21_code 17 = .ok (.sipush 255, 3) := by decide +kernel
theorem d12_20 : decode jdk_52_method_21_code 20 = .ok (.if_icmp .le 6, 3) := by decide +kernel
theorem d12_23 : decode jdk_52_method_21_code 23 = .ok (.iload 5, 2) := by decide +kernel
theorem d12_25 : decode jdk_52_method_21_code 25 = .ok (.ireturn, 1) := by decide +kernel
theorem d12_26 : decode jdk_52_method_21_code 26 = .ok (.aload_n 2, 1) := by decide +kernel
theorem d12_27 : decode jdk_52_method_21_code 27 = .ok (.iload_n 3, 1) := by decide +kernel
theorem d12_28 : decode jdk_52_method_21_code 28 = .ok (.iload 6, 2) := by decide +kernel
theorem d12_30 : decode jdk_52_method_21_code 30 = .ok (.i2b, 1) := by decide +kernel
theorem d12_31 : decode jdk_52_method_21_code 31 = .ok (.bastore, 1) := by decide +kernel
theorem d12_32 : decode jdk_52_method_21_code 32 = .ok (.iinc 1 1, 3) := by decide +kernel
theorem d12_35 : decode jdk_52_method_21_code 35 = .ok (.iinc 3 1, 3) := by decide +kernel
theorem d12_38 : decode jdk_52_method_21_code 38 = .ok (.iinc 5 1, 3) := by decide +kernel
theorem d12_41 : decode jdk_52_method_21_code 41 = .ok (.goto (-38), 3) := by decide +kernel
theorem d13_0 : decode jdk_52_method_15_code 0 = .ok (.iload_n 1, 1) := by decide +kernel
theorem d13_1 : decode jdk_52_method_15_code 1 = .ok (.aload_n 0, 1) := by decide +kernel
theorem d13_2 : decode jdk_52_method_15_code 2 = .ok (.arraylength, 1) := by decide +kernel
theorem d13_3 : decode jdk_52_method_15_code 3 = .ok (.isub, 1) := by decide +kernel
theorem d13_4 : decode jdk_52_method_15_code 4 = .ok (.bipush 31, 2) := by decide +kernel
theorem d13_6 : decode jdk_52_method_15_code 6 = .ok (.iushr, 1) := by decide +kernel
theorem d13_7 : decode jdk_52_method_15_code 7 = .ok (.i2b, 1) := by decide +kernel
theorem d13_8 : decode jdk_52_method_15_code 8 = .ok (.ireturn, 1) := by decide +kernel
theorem d14_0 : decode jdk_42_method_56_code 0 = .ok (.aload_n 0, 1) := by decide +kernel
theorem d14_1 : decode jdk_42_method_56_code 1 = .ok (.invokevirtual 492, 3) := by decide +kernel
theorem d14_4 : decode jdk_42_method_56_code 4 = .ok (.ifCond .eq 12, 3) := by decide +kernel
theorem d14_16 : decode jdk_42_method_56_code 16 = .ok (.aload_n 0, 1) := by decide +kernel
theorem d14_17 : decode jdk_42_method_56_code 17 = .ok (.getfield 9, 3) := by decide +kernel
theorem d14_20 : decode jdk_42_method_56_code 20 = .ok (.iload_n 1, 1) := by decide +kernel
theorem d14_21 : decode jdk_42_method_56_code 21 = .ok (.invokestatic 498, 3) := by decide +kernel
theorem d14_24 : decode jdk_42_method_56_code 24 = .ok (.ireturn, 1) := by decide +kernel
theorem d15_0 : decode jdk_42_method_154_code 0 = .ok (.getstatic 38, 3) := by decide +kernel
theorem d15_3 : decode jdk_42_method_154_code 3 = .ok (.ifCond .eq 14, 3) := by decide +kernel
theorem d15_6 : decode jdk_42_method_154_code 6 = .ok (.aload_n 0, 1) := by decide +kernel
theorem d15_7 : decode jdk_42_method_154_code 7 = .ok (.getfield 15, 3) := by decide +kernel
theorem d15_10 : decode jdk_42_method_154_code 10 = .ok (.ifCond .ne 7, 3) := by decide +kernel
theorem d15_17 : decode jdk_42_method_154_code 17 = .ok (.iconst 0, 1) := by decide +kernel
theorem d15_18 : decode jdk_42_method_154_code 18 = .ok (.ireturn, 1) := by decide +kernel
theorem d17_0 : decode jdk_42_method_155_code 0 = .ok (.iload_n 0, 1) := by decide +kernel
theorem d17_1 : decode jdk_42_method_155_code 1 = .ok (.iload_n 1, 1) := by decide +kernel
theorem d17_2 : decode jdk_42_method_155_code 2 = .ok (.getstatic 1053, 3) := by decide +kernel
theorem d17_5 : decode jdk_42_method_155_code 5 = .ok (.invokestatic 1059, 3) := by decide +kernel
theorem d17_8 : decode jdk_42_method_155_code 8 = .ok (.pop, 1) := by decide +kernel
theorem d17_9 : decode jdk_42_method_155_code 9 = .ok (.return_, 1) := by decide +kernel
theorem d18_0 : decode jdk_41_method_11_code 0 = .ok (.iload_n 0, 1) := by decide +kernel
theorem d18_1 : decode jdk_41_method_11_code 1 = .ok (.ifCond .lt 8, 3) := by decide +kernel
theorem d18_4 : decode jdk_41_method_11_code 4 = .ok (.iload_n 0, 1) := by decide +kernel
theorem d18_5 : decode jdk_41_method_11_code 5 = .ok (.iload_n 1, 1) := by decide +kernel
theorem d18_6 : decode jdk_41_method_11_code 6 = .ok (.if_icmp .lt 10, 3) := by decide +kernel
theorem d18_16 : decode jdk_41_method_11_code 16 = .ok (.iload_n 0, 1) := by decide +kernel
theorem d18_17 : decode jdk_41_method_11_code 17 = .ok (.ireturn, 1) := by decide +kernel
theorem d19_0 : decode jdk_89_method_14_code 0 = .ok (.iload_n 0, 1) := by decide +kernel
theorem d19_1 : decode jdk_89_method_14_code 1 = .ok (.ldc 75, 2) := by decide +kernel
theorem d19_3 : decode jdk_89_method_14_code 3 = .ok (.if_icmp .lt 13, 3) := by decide +kernel
theorem d19_6 : decode jdk_89_method_14_code 6 = .ok (.iload_n 0, 1) := by decide +kernel
theorem d19_7 : decode jdk_89_method_14_code 7 = .ok (.ldc 76, 2) := by decide +kernel
theorem d19_9 : decode jdk_89_method_14_code 9 = .ok (.if_icmp .ge 7, 3) := by decide +kernel
theorem d19_12 : decode jdk_89_method_14_code 12 = .ok (.iconst 1, 1) := by decide +kernel
theorem d19_13 : decode jdk_89_method_14_code 13 = .ok (.goto 4, 3) := by decide +kernel
theorem d19_16 : decode jdk_89_method_14_code 16 = .ok (.iconst 0, 1) := by decide +kernel
theorem d19_17 : decode jdk_89_method_14_code 17 = .ok (.ireturn, 1) := by decide +kernel
theorem d20_0 : decode jdk_89_method_16_code 0 = .ok (.iload_n 0, 1) := by decide +kernel
theorem d20_1 : decode jdk_89_method_16_code 1 = .ok (.ldc 75, 2) := by decide +kernel
theorem d20_3 : decode jdk_89_method_16_code 3 = .ok (.if_icmp .lt 13, 3) := by decide +kernel
theorem d20_6 : decode jdk_89_method_16_code 6 = .ok (.iload_n 0, 1) := by decide +kernel
theorem d20_7 : decode jdk_89_method_16_code 7 = .ok (.ldc 77, 2) := by decide +kernel
theorem d20_9 : decode jdk_89_method_16_code 9 = .ok (.if_icmp .ge 7, 3) := by decide +kernel
theorem d20_12 : decode jdk_89_method_16_code 12 = .ok (.iconst 1, 1) := by decide +kernel
theorem d20_13 : decode jdk_89_method_16_code 13 = .ok (.goto 4, 3) := by decide +kernel
theorem d20_16 : decode jdk_89_method_16_code 16 = .ok (.iconst 0, 1) := by decide +kernel
theorem d20_17 : decode jdk_89_method_16_code 17 = .ok (.ireturn, 1) := by decide +kernel
theorem d21_0 : decode jdk_52_method_14_code 0 = .ok (.iload_n 2, 1) := by decide +kernel
theorem d21_1 : decode jdk_52_method_14_code 1 = .ok (.invokestatic 107, 3) := by decide +kernel
theorem d21_4 : decode jdk_52_method_14_code 4 = .ok (.astore_n 3, 1) := by decide +kernel
theorem d21_5 : decode jdk_52_method_14_code 5 = .ok (.iconst 0, 1) := by decide +kernel
theorem d21_6 : decode jdk_52_method_14_code 6 = .ok (.istore 4, 2) := by decide +kernel
theorem d21_8 : decode jdk_52_method_14_code 8 = .ok (.iload 4, 2) := by decide +kernel
theorem d21_10 : decode jdk_52_method_14_code 10 = .ok (.iload_n 2, 1) := by decide +kernel
theorem d21_11 : decode jdk_52_method_14_code 11 = .ok (.if_icmp .ge 21, 3) := by decide +kernel
theorem d21_14 : decode jdk_52_method_14_code 14 = .ok (.aload_n 3, 1) := by decide +kernel
theorem d21_15 : decode jdk_52_method_14_code 15 = .ok (.iload 4, 2) := by decide +kernel
theorem d21_17 : decode jdk_52_method_14_code 17 = .ok (.aload_n 0, 1) := by decide +kernel
theorem d21_18 : decode jdk_52_method_14_code 18 = .ok (.iload_n 1, 1) := by decide +kernel
theorem d21_19 : decode jdk_52_method_14_code 19 = .ok (.caload, 1) := by decide +kernel
theorem d21_20 : decode jdk_52_method_14_code 20 = .ok (.invokestatic 111, 3) := by decide +kernel
theorem d21_23 : decode jdk_52_method_14_code 23 = .ok (.iinc 1 1, 3) := by decide +kernel
theorem d21_26 : decode jdk_52_method_14_code 26 = .ok (.iinc 4 1, 3) := by decide +kernel
theorem d21_29 : decode jdk_52_method_14_code 29 = .ok (.goto (-21), 3) := by decide +kernel
theorem d21_32 : decode jdk_52_method_14_code 32 = .ok (.aload_n 3, 1) := by decide +kernel
theorem d21_33 : decode jdk_52_method_14_code 33 = .ok (.areturn, 1) := by decide +kernel
theorem d22_0 : decode jdk_52_method_2_code 0 = .ok (.iload_n 0, 1) := by decide +kernel
theorem d22_1 : decode jdk_52_method_2_code 1 = .ok (.invokestatic 11, 3) := by decide +kernel
theorem d22_4 : decode jdk_52_method_2_code 4 = .ok (.newarray .byte, 2) := by decide +kernel
theorem d22_6 : decode jdk_52_method_2_code 6 = .ok (.areturn, 1) := by decide +kernel
theorem d23_0 : decode jdk_52_method_3_code 0 = .ok (.iload_n 0, 1) := by decide +kernel
theorem d23_1 : decode jdk_52_method_3_code 1 = .ok (.ifCond .ge 11, 3) := by decide +kernel
theorem d23_12 : decode jdk_52_method_3_code 12 = .ok (.iload_n 0, 1) := by decide +kernel
theorem d23_13 : decode jdk_52_method_3_code 13 = .ok (.ldc 20, 2) := by decide +kernel
theorem d23_15 : decode jdk_52_method_3_code 15 = .ok (.if_icmp .lt 40, 3) := by decide +kernel
theorem d23_55 : decode jdk_52_method_3_code 55 = .ok (.iload_n 0, 1) := by decide +kernel
theorem d23_56 : decode jdk_52_method_3_code 56 = .ok (.iconst 1, 1) := by decide +kernel
theorem d23_57 : decode jdk_52_method_3_code 57 = .ok (.ishl, 1) := by decide +kernel
theorem d23_58 : decode jdk_52_method_3_code 58 = .ok (.ireturn, 1) := by decide +kernel
theorem d24_0 : decode jdk_52_method_4_code 0 = .ok (.getstatic 44, 3) := by decide +kernel
theorem d24_3 : decode jdk_52_method_4_code 3 = .ok (.ifCond .ne 25, 3) := by decide +kernel
theorem d24_28 : decode jdk_52_method_4_code 28 = .ok (.iload_n 1, 1) := by decide +kernel
theorem d24_29 : decode jdk_52_method_4_code 29 = .ok (.iconst 1, 1) := by decide +kernel
theorem d24_30 : decode jdk_52_method_4_code 30 = .ok (.ishl, 1) := by decide +kernel
theorem d24_31 : decode jdk_52_method_4_code 31 = .ok (.istore_n 1, 1) := by decide +kernel
theorem d24_32 : decode jdk_52_method_4_code 32 = .ok (.aload_n 0, 1) := by decide +kernel
theorem d24_33 : decode jdk_52_method_4_code 33 = .ok (.iload_n 1, 1) := by decide +kernel
theorem d24_34 : decode jdk_52_method_4_code 34 = .ok (.iinc 1 1, 3) := by decide +kernel
theorem d24_37 : decode jdk_52_method_4_code 37 = .ok (.iload_n 2, 1) := by decide +kernel
theorem d24_38 : decode jdk_52_method_4_code 38 = .ok (.getstatic 59, 3) := by decide +kernel
theorem d24_41 : decode jdk_52_method_4_code 41 = .ok (.ishr, 1) := by decide +kernel
theorem d24_42 : decode jdk_52_method_4_code 42 = .ok (.i2b, 1) := by decide +kernel
theorem d24_43 : decode jdk_52_method_4_code 43 = .ok (.bastore, 1) := by decide +kernel
theorem d24_44 : decode jdk_52_method_4_code 44 = .ok (.aload_n 0, 1) := by decide +kernel
theorem d24_45 : decode jdk_52_method_4_code 45 = .ok (.iload_n 1, 1) := by decide +kernel
theorem d24_46 : decode jdk_52_method_4_code 46 = .ok (.iload_n 2, 1) := by decide +kernel
theorem d24_47 : decode jdk_52_method_4_code 47 = .ok (.getstatic 63, 3) := by decide +kernel
theorem d24_50 : decode jdk_52_method_4_code 50 = .ok (.ishr, 1) := by decide +kernel
theorem d24_51 : decode jdk_52_method_4_code 51 = .ok (.i2b, 1) := by decide +kernel
theorem d24_52 : decode jdk_52_method_4_code 52 = .ok (.bastore, 1) := by decide +kernel
theorem d24_53 : decode jdk_52_method_4_code 53 = .ok (.return_, 1) := by decide +kernel
theorem d25_0 : decode jdk_52_method_5_code 0 = .ok (.getstatic 44, 3) := by decide +kernel
theorem d25_3 : decode jdk_52_method_5_code 3 = .ok (.ifCond .ne 25, 3) := by decide +kernel
theorem d25_28 : decode jdk_52_method_5_code 28 = .ok (.iload_n 1, 1) := by decide +kernel
theorem d25_29 : decode jdk_52_method_5_code 29 = .ok (.iconst 1, 1) := by decide +kernel
theorem d25_30 : decode jdk_52_method_5_code 30 = .ok (.ishl, 1) := by decide +kernel
theorem d25_31 : decode jdk_52_method_5_code 31 = .ok (.istore_n 1, 1) := by decide +kernel
theorem d25_32 : decode jdk_52_method_5_code 32 = .ok (.aload_n 0, 1) := by decide +kernel
theorem d25_33 : decode jdk_52_method_5_code 33 = .ok (.iload_n 1, 1) := by decide +kernel
theorem d25_34 : decode jdk_52_method_5_code 34 = .ok (.iinc 1 1, 3) := by decide +kernel
theorem d25_37 : decode jdk_52_method_5_code 37 = .ok (.baload, 1) := by decide +kernel
theorem d25_38 : decode jdk_52_method_5_code 38 = .ok (.sipush 255, 3) := by decide +kernel
theorem d25_41 : decode jdk_52_method_5_code 41 = .ok (.iand, 1) := by decide +kernel
theorem d25_42 : decode jdk_52_method_5_code 42 = .ok (.getstatic 59, 3) := by decide +kernel
theorem d25_45 : decode jdk_52_method_5_code 45 = .ok (.ishl, 1) := by decide +kernel
theorem d25_46 : decode jdk_52_method_5_code 46 = .ok (.aload_n 0, 1) := by decide +kernel
theorem d25_47 : decode jdk_52_method_5_code 47 = .ok (.iload_n 1, 1) := by decide +kernel
theorem d25_48 : decode jdk_52_method_5_code 48 = .ok (.baload, 1) := by decide +kernel
theorem d25_49 : decode jdk_52_method_5_code 49 = .ok (.sipush 255, 3) := by decide +kernel
theorem d25_52 : decode jdk_52_method_5_code 52 = .ok (.iand, 1) := by decide +kernel
theorem d25_53 : decode jdk_52_method_5_code 53 = .ok (.getstatic 63, 3) := by decide +kernel
theorem d25_56 : decode jdk_52_method_5_code 56 = .ok (.ishl, 1) := by decide +kernel
theorem d25_57 : decode jdk_52_method_5_code 57 = .ok (.ior, 1) := by decide +kernel
theorem d25_58 : decode jdk_52_method_5_code 58 = .ok (.i2c, 1) := by decide +kernel
theorem d25_59 : decode jdk_52_method_5_code 59 = .ok (.ireturn, 1) := by decide +kernel
theorem d26_0 : decode jdk_52_method_83_code 0 = .ok (.iload_n 1, 1) := by decide +kernel
theorem d26_1 : decode jdk_52_method_83_code 1 = .ok (.aload_n 0, 1) := by decide +kernel
theorem d26_2 : decode jdk_52_method_83_code 2 = .ok (.invokestatic 67, 3) := by decide +kernel
theorem d26_5 : decode jdk_52_method_83_code 5 = .ok (.aload_n 0, 1) := by decide +kernel
theorem d26_6 : decode jdk_52_method_83_code 6 = .ok (.iload_n 1, 1) := by decide +kernel
theorem d26_7 : decode jdk_52_method_83_code 7 = .ok (.invokestatic 71, 3) := by decide +kernel
theorem d26_10 : decode jdk_52_method_83_code 10 = .ok (.ireturn, 1) := by decide +kernel
theorem d27_0 : decode jdk_52_method_91_code 0 = .ok (.iload_n 0, 1) := by decide +kernel
theorem d27_1 : decode jdk_52_method_91_code 1 = .ok (.aload_n 1, 1) := by decide +kernel
theorem d27_2 : decode jdk_52_method_91_code 2 = .ok (.invokestatic 48, 3) := by decide +kernel
theorem d27_5 : decode jdk_52_method_91_code 5 = .ok (.invokestatic 414, 3) := by decide +kernel
theorem d27_8 : decode jdk_52_method_91_code 8 = .ok (.return_, 1) := by decide +kernel
theorem d28_0 : decode jdk_52_method_6_code 0 = .ok (.aload_n 0, 1) := by decide +kernel
theorem d28_1 : decode jdk_52_method_6_code 1 = .ok (.arraylength, 1) := by decide +kernel
theorem d28_2 : decode jdk_52_method_6_code 2 = .ok (.iconst 1, 1) := by decide +kernel
theorem d28_3 : decode jdk_52_method_6_code 3 = .ok (.ishr, 1) := by decide +kernel
theorem d28_4 : decode jdk_52_method_6_code 4 = .ok (.ireturn, 1) := by decide +kernel
theorem d29_0 : decode jdk_89_method_15_code 0 = .ok (.iload_n 0, 1) := by decide +kernel
theorem d29_1 : decode jdk_89_method_15_code 1 = .ok (.ldc 76, 2) := by decide +kernel
theorem d29_3 : decode jdk_89_method_15_code 3 = .ok (.if_icmp .lt 13, 3) := by decide +kernel
theorem d29_6 : decode jdk_89_method_15_code 6 = .ok (.iload_n 0, 1) := by decide +kernel
theorem d29_7 : decode jdk_89_method_15_code 7 = .ok (.ldc 77, 2) := by decide +kernel
theorem d29_9 : decode jdk_89_method_15_code 9 = .ok (.if_icmp .ge 7, 3) := by decide +kernel
theorem d29_12 : decode jdk_89_method_15_code 12 = .ok (.iconst 1, 1) := by decide +kernel
theorem d29_13 : decode jdk_89_method_15_code 13 = .ok (.goto 4, 3) := by decide +kernel
theorem d29_16 : decode jdk_89_method_15_code 16 = .ok (.iconst 0, 1) := by decide +kernel
theorem d29_17 : decode jdk_89_method_15_code 17 = .ok (.ireturn, 1) := by decide +kernel
theorem pd_0 : parseMethodDescriptor "(I)I" = some ⟨[.int], some .int⟩ := by decide +kernel
theorem pd_1 : parseMethodDescriptor "(I)[B" = some ⟨[.int], some (.array .byte)⟩ := by decide +kernel
theorem pd_2 : parseMethodDescriptor "([BII)V" = some ⟨[(.array .byte), .int, .int], none⟩ := by decide +kernel
theorem pd_3 : parseMethodDescriptor "([CI[BII)I" = some ⟨[(.array .char), .int, (.array .byte), .int, .int], some .int⟩ := by decide +kernel
theorem pd_4 : parseMethodDescriptor "([CII)[B" = some ⟨[(.array .char), .int, .int], some (.array .byte)⟩ := by decide +kernel
theorem pd_5 : parseMethodDescriptor "([BI)C" = some ⟨[(.array .byte), .int], some .char⟩ := by decide +kernel
theorem pd_6 : parseMethodDescriptor "([BI)B" = some ⟨[(.array .byte), .int], some .byte⟩ := by decide +kernel
theorem pd_7 : parseMethodDescriptor "([CIILjava/lang/Void;)V" = some ⟨[(.array .char), .int, .int, (.object "java/lang/Void")], none⟩ := by decide +kernel
theorem pd_8 : parseMethodDescriptor "(IILjava/util/function/BiFunction;)I" = some ⟨[.int, .int, (.object "java/util/function/BiFunction")], some .int⟩ := by decide +kernel
theorem pd_9 : parseMethodDescriptor "([B)I" = some ⟨[(.array .byte)], some .int⟩ := by decide +kernel
theorem pd_10 : parseMethodDescriptor "(II)V" = some ⟨[.int, .int], none⟩ := by decide +kernel
theorem pd_11 : parseMethodDescriptor "(I[B)V" = some ⟨[.int, (.array .byte)], none⟩ := by decide +kernel
theorem pd_12 : parseMethodDescriptor "()Z" = some ⟨[], some .boolean⟩ := by decide +kernel
theorem pd_13 : parseMethodDescriptor "()I" = some ⟨[], some .int⟩ := by decide +kernel
theorem pd_14 : parseMethodDescriptor "(I)C" = some ⟨[.int], some .char⟩ := by decide +kernel
theorem pd_15 : parseMethodDescriptor "(C)Z" = some ⟨[.char], some .boolean⟩ := by decide +kernel
theorem pd_16 : parseMethodDescriptor "(Ljava/lang/String;I)I" = some ⟨[(.object "java/lang/String"), .int], some .int⟩ := by decide +kernel
theorem pd_17 : parseMethodDescriptor "([C)V" = some ⟨[(.array .char)], none⟩ := by decide +kernel
theorem pd_18 : parseMethodDescriptor "(Ljava/lang/String;)Z" = some ⟨[(.object "java/lang/String")], some .boolean⟩ := by decide +kernel
theorem pd_19 : parseMethodDescriptor "([CII)Z" = some ⟨[(.array .char), .int, .int], some .boolean⟩ := by decide +kernel
theorem pn_0 : plainName "java/lang/StringUTF16" = true := by first | (simp [plainName, overriddenIn]; done) | decide +kernel
theorem pn_1 : plainName "java/lang/String" = true := by first | (simp [plainName, overriddenIn]; done) | decide +kernel
theorem pn_2 : plainName "jdk/internal/util/Preconditions" = true := by first | (simp [plainName, overriddenIn]; done) | decide +kernel
theorem pn_3 : plainName "java/lang/Character" = true := by first | (simp [plainName, overriddenIn]; done) | decide +kernel
theorem pn_4 : plainName "com/example/drudge/drudge/task/StorableTextIsStorablePinLaw" = true := by first | (simp [plainName, overriddenIn]; done) | decide +kernel
theorem pn_5 : plainName "com/example/drudge/drudge/task/StorableText" = true := by first | (simp [plainName, overriddenIn]; done) | decide +kernel
theorem ef_bPut1_0 (m : MethodId) (b : Addr) (ii : Int32) (ch : Int32) : entryFrame m #[(.ref b), (.int ii), (.int ch)] 3 = mkF m 0 #[.val (.ref b), .val (.int ii), .val (.int ch)] [] := by first | (simp [entryFrame, mkF, argsToLocals, Value.category]; done) | rfl
theorem ef_bPut2_0 (m : MethodId) (b : Addr) (ii : Int32) (ch : Int32) : entryFrame m #[(.ref b), (.int ii), (.int ch)] 3 = mkF m 0 #[.val (.ref b), .val (.int ii), .val (.int ch)] [] := by first | (simp [entryFrame, mkF, argsToLocals, Value.category]; done) | rfl
theorem ef_bPut2_1 (m : MethodId) (b : Addr) (ii : Int32) (ch : Int32) : entryFrame m #[(.ref b), (.int ii), (.int ch)] 3 = mkF m 0 #[.val (.ref b), .val (.int ii), .val (.int ch)] [] := by first | (simp [entryFrame, mkF, argsToLocals, Value.category]; done) | rfl
theorem ef_bPut3_0 (m : MethodId) (b : Addr) (ii : Int32) (ch : Int32) : entryFrame m #[(.ref b), (.int ii), (.int ch)] 3 = mkF m 0 #[.val (.ref b), .val (.int ii), .val (.int ch)] [] := by first | (simp [entryFrame, mkF, argsToLocals, Value.category]; done) | rfl
theorem ef_bPut3_1 (m : MethodId) (b : Addr) (ii : Int32) (ch : Int32) : entryFrame m #[(.ref b), (.int ii), (.int ch)] 3 = mkF m 0 #[.val (.ref b), .val (.int ii), .val (.int ch)] [] := by first | (simp [entryFrame, mkF, argsToLocals, Value.category]; done) | rfl
theorem ef_bPut3_2 (m : MethodId) (b : Addr) (ii : Int32) (ch : Int32) : entryFrame m #[(.ref b), (.int ii), (.int ch)] 3 = mkF m 0 #[.val (.ref b), .val (.int ii), .val (.int ch)] [] := by first | (simp [entryFrame, mkF, argsToLocals, Value.category]; done) | rfl
theorem ef_bPut4_0 (m : MethodId) (b : Addr) (ii : Int32) (ch : Int32) : entryFrame m #[(.ref b), (.int ii), (.int ch)] 3 = mkF m 0 #[.val (.ref b), .val (.int ii), .val (.int ch)] [] := by first | (simp [entryFrame, mkF, argsToLocals, Value.category]; done) | rfl
theorem ef_bPut4_1 (m : MethodId) (b : Addr) (ii : Int32) (ch : Int32) : entryFrame m #[(.ref b), (.int ii), (.int ch)] 3 = mkF m 0 #[.val (.ref b), .val (.int ii), .val (.int ch)] [] := by first | (simp [entryFrame, mkF, argsToLocals, Value.category]; done) | rfl
theorem ef_bPut4_2 (m : MethodId) (b : Addr) (ii : Int32) (ch : Int32) : entryFrame m #[(.ref b), (.int ii), (.int ch)] 3 = mkF m 0 #[.val (.ref b), .val (.int ii), .val (.int ch)] [] := by first | (simp [entryFrame, mkF, argsToLocals, Value.category]; done) | rfl
theorem ef_bPut4_3 (m : MethodId) (b : Addr) (ii : Int32) (ch : Int32) : entryFrame m #[(.ref b), (.int ii), (.int ch)] 3 = mkF m 0 #[.val (.ref b), .val (.int ii), .val (.int ch)] [] := by first | (simp [entryFrame, mkF, argsToLocals, Value.category]; done) | rfl
theorem ef_bNbl1 (m : MethodId) (k : Int32) : entryFrame m #[(.int k)] 1 = mkF m 0 #[.val (.int k)] [] := by first | (simp [entryFrame, mkF, argsToLocals, Value.category]; done) | rfl
theorem ef_bNbf1 (m : MethodId) (k : Int32) : entryFrame m #[(.int k)] 1 = mkF m 0 #[.val (.int k)] [] := by first | (simp [entryFrame, mkF, argsToLocals, Value.category]; done) | rfl
theorem ef_bTob1 (m : MethodId) (a : Addr) (of : Int32) (ln : Int32) : entryFrame m #[(.ref a), (.int of), (.int ln)] 5 = mkF m 0 #[.val (.ref a), .val (.int of), .val (.int ln), .unset, .unset] [] := by first | (simp [entryFrame, mkF, argsToLocals, Value.category]; done) | rfl
theorem ef_bGc1_0 (m : MethodId) (b : Addr) (ii : Int32) : entryFrame m #[(.ref b), (.int ii)] 2 = mkF m 0 #[.val (.ref b), .val (.int ii)] [] := by first | (simp [entryFrame, mkF, argsToLocals, Value.category]; done) | rfl
theorem ef_bC51 (m : MethodId) (a : Addr) (o1 : Int32) (d : Addr) (o2 : Int32) (ln : Int32) : entryFrame m #[(.ref a), (.int o1), (.ref d), (.int o2), (.int ln)] 7 = mkF m 0 #[.val (.ref a), .val (.int o1), .val (.ref d), .val (.int o2), .val (.int ln), .unset, .unset] [] := by first | (simp [entryFrame, mkF, argsToLocals, Value.category]; done) | rfl
theorem ef_bC31 (m : MethodId) (a : Addr) (of : Int32) (ln : Int32) : entryFrame m #[(.ref a), (.int of), (.int ln)] 6 = mkF m 0 #[.val (.ref a), .val (.int of), .val (.int ln), .unset, .unset, .unset] [] := by first | (simp [entryFrame, mkF, argsToLocals, Value.category]; done) | rfl
theorem ef_bCfl1 (m : MethodId) (b : Addr) (ln : Int32) : entryFrame m #[(.ref b), (.int ln)] 2 = mkF m 0 #[.val (.ref b), .val (.int ln)] [] := by first | (simp [entryFrame, mkF, argsToLocals, Value.category]; done) | rfl
theorem ef_bW41 (m : MethodId) (x : Addr) (a : Addr) (of : Int32) (ln : Int32) : entryFrame m #[(.ref x), (.ref a), (.int of), (.int ln), .null] 6 = mkF m 0 #[.val (.ref x), .val (.ref a), .val (.int of), .val (.int ln), .val .null, .unset] [] := by first | (simp [entryFrame, mkF, argsToLocals, Value.category]; done) | rfl
theorem ef_bW11 (m : MethodId) (x : Addr) (a : Addr) : entryFrame m #[(.ref x), (.ref a)] 2 = mkF m 0 #[.val (.ref x), .val (.ref a)] [] := by first | (simp [entryFrame, mkF, argsToLocals, Value.category]; done) | rfl
theorem ef_bNbl2 (m : MethodId) (k : Int32) : entryFrame m #[(.int k)] 1 = mkF m 0 #[.val (.int k)] [] := by first | (simp [entryFrame, mkF, argsToLocals, Value.category]; done) | rfl
theorem ef_bNbf2 (m : MethodId) (k : Int32) : entryFrame m #[(.int k)] 1 = mkF m 0 #[.val (.int k)] [] := by first | (simp [entryFrame, mkF, argsToLocals, Value.category]; done) | rfl
theorem ef_bTob2 (m : MethodId) (a : Addr) (of : Int32) (ln : Int32) : entryFrame m #[(.ref a), (.int of), (.int ln)] 5 = mkF m 0 #[.val (.ref a), .val (.int of), .val (.int ln), .unset, .unset] [] := by first | (simp [entryFrame, mkF, argsToLocals, Value.category]; done) | rfl
theorem ef_bGc2_0 (m : MethodId) (b : Addr) (ii : Int32) : entryFrame m #[(.ref b), (.int ii)] 2 = mkF m 0 #[.val (.ref b), .val (.int ii)] [] := by first | (simp [entryFrame, mkF, argsToLocals, Value.category]; done) | rfl
theorem ef_bGc2_1 (m : MethodId) (b : Addr) (ii : Int32) : entryFrame m #[(.ref b), (.int ii)] 2 = mkF m 0 #[.val (.ref b), .val (.int ii)] [] := by first | (simp [entryFrame, mkF, argsToLocals, Value.category]; done) | rfl
theorem ef_bC52 (m : MethodId) (a : Addr) (o1 : Int32) (d : Addr) (o2 : Int32) (ln : Int32) : entryFrame m #[(.ref a), (.int o1), (.ref d), (.int o2), (.int ln)] 7 = mkF m 0 #[.val (.ref a), .val (.int o1), .val (.ref d), .val (.int o2), .val (.int ln), .unset, .unset] [] := by first | (simp [entryFrame, mkF, argsToLocals, Value.category]; done) | rfl
theorem ef_bC32 (m : MethodId) (a : Addr) (of : Int32) (ln : Int32) : entryFrame m #[(.ref a), (.int of), (.int ln)] 6 = mkF m 0 #[.val (.ref a), .val (.int of), .val (.int ln), .unset, .unset, .unset] [] := by first | (simp [entryFrame, mkF, argsToLocals, Value.category]; done) | rfl
theorem ef_bCfl2 (m : MethodId) (b : Addr) (ln : Int32) : entryFrame m #[(.ref b), (.int ln)] 2 = mkF m 0 #[.val (.ref b), .val (.int ln)] [] := by first | (simp [entryFrame, mkF, argsToLocals, Value.category]; done) | rfl
theorem ef_bW42 (m : MethodId) (x : Addr) (a : Addr) (of : Int32) (ln : Int32) : entryFrame m #[(.ref x), (.ref a), (.int of), (.int ln), .null] 6 = mkF m 0 #[.val (.ref x), .val (.ref a), .val (.int of), .val (.int ln), .val .null, .unset] [] := by first | (simp [entryFrame, mkF, argsToLocals, Value.category]; done) | rfl
theorem ef_bW12 (m : MethodId) (x : Addr) (a : Addr) : entryFrame m #[(.ref x), (.ref a)] 2 = mkF m 0 #[.val (.ref x), .val (.ref a)] [] := by first | (simp [entryFrame, mkF, argsToLocals, Value.category]; done) | rfl
theorem ef_bNbl3 (m : MethodId) (k : Int32) : entryFrame m #[(.int k)] 1 = mkF m 0 #[.val (.int k)] [] := by first | (simp [entryFrame, mkF, argsToLocals, Value.category]; done) | rfl
theorem ef_bNbf3 (m : MethodId) (k : Int32) : entryFrame m #[(.int k)] 1 = mkF m 0 #[.val (.int k)] [] := by first | (simp [entryFrame, mkF, argsToLocals, Value.category]; done) | rfl
theorem ef_bTob3 (m : MethodId) (a : Addr) (of : Int32) (ln : Int32) : entryFrame m #[(.ref a), (.int of), (.int ln)] 5 = mkF m 0 #[.val (.ref a), .val (.int of), .val (.int ln), .unset, .unset] [] := by first | (simp [entryFrame, mkF, argsToLocals, Value.category]; done) | rfl
theorem ef_bGc3_0 (m : MethodId) (b : Addr) (ii : Int32) : entryFrame m #[(.ref b), (.int ii)] 2 = mkF m 0 #[.val (.ref b), .val (.int ii)] [] := by first | (simp [entryFrame, mkF, argsToLocals, Value.category]; done) | rfl
theorem ef_bGc3_1 (m : MethodId) (b : Addr) (ii : Int32) : entryFrame m #[(.ref b), (.int ii)] 2 = mkF m 0 #[.val (.ref b), .val (.int ii)] [] := by first | (simp [entryFrame, mkF, argsToLocals, Value.category]; done) | rfl
theorem ef_bGc3_2 (m : MethodId) (b : Addr) (ii : Int32) : entryFrame m #[(.ref b), (.int ii)] 2 = mkF m 0 #[.val (.ref b), .val (.int ii)] [] := by first | (simp [entryFrame, mkF, argsToLocals, Value.category]; done) | rfl
theorem ef_bC53 (m : MethodId) (a : Addr) (o1 : Int32) (d : Addr) (o2 : Int32) (ln : Int32) : entryFrame m #[(.ref a), (.int o1), (.ref d), (.int o2), (.int ln)] 7 = mkF m 0 #[.val (.ref a), .val (.int o1), .val (.ref d), .val (.int o2), .val (.int ln), .unset, .unset] [] := by first | (simp [entryFrame, mkF, argsToLocals, Value.category]; done) | rfl
theorem ef_bC33 (m : MethodId) (a : Addr) (of : Int32) (ln : Int32) : entryFrame m #[(.ref a), (.int of), (.int ln)] 6 = mkF m 0 #[.val (.ref a), .val (.int of), .val (.int ln), .unset, .unset, .unset] [] := by first | (simp [entryFrame, mkF, argsToLocals, Value.category]; done) | rfl
theorem ef_bCfl3 (m : MethodId) (b : Addr) (ln : Int32) : entryFrame m #[(.ref b), (.int ln)] 2 = mkF m 0 #[.val (.ref b), .val (.int ln)] [] := by first | (simp [entryFrame, mkF, argsToLocals, Value.category]; done) | rfl
theorem ef_bW43 (m : MethodId) (x : Addr) (a : Addr) (of : Int32) (ln : Int32) : entryFrame m #[(.ref x), (.ref a), (.int of), (.int ln), .null] 6 = mkF m 0 #[.val (.ref x), .val (.ref a), .val (.int of), .val (.int ln), .val .null, .unset] [] := by first | (simp [entryFrame, mkF, argsToLocals, Value.category]; done) | rfl
theorem ef_bW13 (m : MethodId) (x : Addr) (a : Addr) : entryFrame m #[(.ref x), (.ref a)] 2 = mkF m 0 #[.val (.ref x), .val (.ref a)] [] := by first | (simp [entryFrame, mkF, argsToLocals, Value.category]; done) | rfl
theorem ef_bNbl4 (m : MethodId) (k : Int32) : entryFrame m #[(.int k)] 1 = mkF m 0 #[.val (.int k)] [] := by first | (simp [entryFrame, mkF, argsToLocals, Value.category]; done) | rfl
theorem ef_bNbf4 (m : MethodId) (k : Int32) : entryFrame m #[(.int k)] 1 = mkF m 0 #[.val (.int k)] [] := by first | (simp [entryFrame, mkF, argsToLocals, Value.category]; done) | rfl
theorem ef_bTob4 (m : MethodId) (a : Addr) (of : Int32) (ln : Int32) : entryFrame m #[(.ref a), (.int of), (.int ln)] 5 = mkF m 0 #[.val (.ref a), .val (.int of), .val (.int ln), .unset, .unset] [] := by first | (simp [entryFrame, mkF, argsToLocals, Value.category]; done) | rfl
theorem ef_bGc4_0 (m : MethodId) (b : Addr) (ii : Int32) : entryFrame m #[(.ref b), (.int ii)] 2 = mkF m 0 #[.val (.ref b), .val (.int ii)] [] := by first | (simp [entryFrame, mkF, argsToLocals, Value.category]; done) | rfl
theorem ef_bGc4_1 (m : MethodId) (b : Addr) (ii : Int32) : entryFrame m #[(.ref b), (.int ii)] 2 = mkF m 0 #[.val (.ref b), .val (.int ii)] [] := by first | (simp [entryFrame, mkF, argsToLocals, Value.category]; done) | rfl
theorem ef_bGc4_2 (m : MethodId) (b : Addr) (ii : Int32) : entryFrame m #[(.ref b), (.int ii)] 2 = mkF m 0 #[.val (.ref b), .val (.int ii)] [] := by first | (simp [entryFrame, mkF, argsToLocals, Value.category]; done) | rfl
theorem ef_bGc4_3 (m : MethodId) (b : Addr) (ii : Int32) : entryFrame m #[(.ref b), (.int ii)] 2 = mkF m 0 #[.val (.ref b), .val (.int ii)] [] := by first | (simp [entryFrame, mkF, argsToLocals, Value.category]; done) | rfl
theorem ef_bC54 (m : MethodId) (a : Addr) (o1 : Int32) (d : Addr) (o2 : Int32) (ln : Int32) : entryFrame m #[(.ref a), (.int o1), (.ref d), (.int o2), (.int ln)] 7 = mkF m 0 #[.val (.ref a), .val (.int o1), .val (.ref d), .val (.int o2), .val (.int ln), .unset, .unset] [] := by first | (simp [entryFrame, mkF, argsToLocals, Value.category]; done) | rfl
theorem ef_bC34 (m : MethodId) (a : Addr) (of : Int32) (ln : Int32) : entryFrame m #[(.ref a), (.int of), (.int ln)] 6 = mkF m 0 #[.val (.ref a), .val (.int of), .val (.int ln), .unset, .unset, .unset] [] := by first | (simp [entryFrame, mkF, argsToLocals, Value.category]; done) | rfl
theorem ef_bCfl4 (m : MethodId) (b : Addr) (ln : Int32) : entryFrame m #[(.ref b), (.int ln)] 2 = mkF m 0 #[.val (.ref b), .val (.int ln)] [] := by first | (simp [entryFrame, mkF, argsToLocals, Value.category]; done) | rfl
theorem ef_bW44 (m : MethodId) (x : Addr) (a : Addr) (of : Int32) (ln : Int32) : entryFrame m #[(.ref x), (.ref a), (.int of), (.int ln), .null] 6 = mkF m 0 #[.val (.ref x), .val (.ref a), .val (.int of), .val (.int ln), .val .null, .unset] [] := by first | (simp [entryFrame, mkF, argsToLocals, Value.category]; done) | rfl
theorem ef_bW14 (m : MethodId) (x : Addr) (a : Addr) : entryFrame m #[(.ref x), (.ref a)] 2 = mkF m 0 #[.val (.ref x), .val (.ref a)] [] := by first | (simp [entryFrame, mkF, argsToLocals, Value.category]; done) | rfl
theorem ef_bSl0 (m : MethodId) (x : Addr) : entryFrame m #[(.ref x)] 1 = mkF m 0 #[.val (.ref x)] [] := by first | (simp [entryFrame, mkF, argsToLocals, Value.category]; done) | rfl
theorem ef_bUl (m : MethodId) (b : Addr) : entryFrame m #[(.ref b)] 1 = mkF m 0 #[.val (.ref b)] [] := by first | (simp [entryFrame, mkF, argsToLocals, Value.category]; done) | rfl
theorem ef_bPc0 (m : MethodId) (i : Int32) (n : Int32) (fr : Addr) : entryFrame m #[(.int i), (.int n), (.ref fr)] 3 = mkF m 0 #[.val (.int i), .val (.int n), .val (.ref fr)] [] := by first | (simp [entryFrame, mkF, argsToLocals, Value.category]; done) | rfl
theorem ef_bPc1 (m : MethodId) (i : Int32) (n : Int32) : entryFrame m #[(.int i), (.int n), .null] 3 = mkF m 0 #[.val (.int i), .val (.int n), .val .null] [] := by first | (simp [entryFrame, mkF, argsToLocals, Value.category]; done) | rfl
theorem ef_bSci (m : MethodId) (i : Int32) (n : Int32) : entryFrame m #[(.int i), (.int n)] 2 = mkF m 0 #[.val (.int i), .val (.int n)] [] := by first | (simp [entryFrame, mkF, argsToLocals, Value.category]; done) | rfl
theorem ef_bUci (m : MethodId) (i : Int32) (b : Addr) : entryFrame m #[(.int i), (.ref b)] 2 = mkF m 0 #[.val (.int i), .val (.ref b)] [] := by first | (simp [entryFrame, mkF, argsToLocals, Value.category]; done) | rfl
theorem ef_bGg0 (m : MethodId) (b : Addr) (ii : Int32) : entryFrame m #[(.ref b), (.int ii)] 2 = mkF m 0 #[.val (.ref b), .val (.int ii)] [] := by first | (simp [entryFrame, mkF, argsToLocals, Value.category]; done) | rfl
theorem ef_bUch0 (m : MethodId) (b : Addr) (ii : Int32) : entryFrame m #[(.ref b), (.int ii)] 2 = mkF m 0 #[.val (.ref b), .val (.int ii)] [] := by first | (simp [entryFrame, mkF, argsToLocals, Value.category]; done) | rfl
theorem ef_bWc0 (m : MethodId) (x : Addr) (ii : Int32) : entryFrame m #[(.ref x), (.int ii)] 2 = mkF m 0 #[.val (.ref x), .val (.int ii)] [] := by first | (simp [entryFrame, mkF, argsToLocals, Value.category]; done) | rfl
theorem ef_bGg1 (m : MethodId) (b : Addr) (ii : Int32) : entryFrame m #[(.ref b), (.int ii)] 2 = mkF m 0 #[.val (.ref b), .val (.int ii)] [] := by first | (simp [entryFrame, mkF, argsToLocals, Value.category]; done) | rfl
theorem ef_bUch1 (m : MethodId) (b : Addr) (ii : Int32) : entryFrame m #[(.ref b), (.int ii)] 2 = mkF m 0 #[.val (.ref b), .val (.int ii)] [] := by first | (simp [entryFrame, mkF, argsToLocals, Value.category]; done) | rfl
theorem ef_bWc1 (m : MethodId) (x : Addr) (ii : Int32) : entryFrame m #[(.ref x), (.int ii)] 2 = mkF m 0 #[.val (.ref x), .val (.int ii)] [] := by first | (simp [entryFrame, mkF, argsToLocals, Value.category]; done) | rfl
theorem ef_bGg2 (m : MethodId) (b : Addr) (ii : Int32) : entryFrame m #[(.ref b), (.int ii)] 2 = mkF m 0 #[.val (.ref b), .val (.int ii)] [] := by first | (simp [entryFrame, mkF, argsToLocals, Value.category]; done) | rfl
theorem ef_bUch2 (m : MethodId) (b : Addr) (ii : Int32) : entryFrame m #[(.ref b), (.int ii)] 2 = mkF m 0 #[.val (.ref b), .val (.int ii)] [] := by first | (simp [entryFrame, mkF, argsToLocals, Value.category]; done) | rfl
theorem ef_bWc2 (m : MethodId) (x : Addr) (ii : Int32) : entryFrame m #[(.ref x), (.int ii)] 2 = mkF m 0 #[.val (.ref x), .val (.int ii)] [] := by first | (simp [entryFrame, mkF, argsToLocals, Value.category]; done) | rfl
theorem ef_bGg3 (m : MethodId) (b : Addr) (ii : Int32) : entryFrame m #[(.ref b), (.int ii)] 2 = mkF m 0 #[.val (.ref b), .val (.int ii)] [] := by first | (simp [entryFrame, mkF, argsToLocals, Value.category]; done) | rfl
theorem ef_bUch3 (m : MethodId) (b : Addr) (ii : Int32) : entryFrame m #[(.ref b), (.int ii)] 2 = mkF m 0 #[.val (.ref b), .val (.int ii)] [] := by first | (simp [entryFrame, mkF, argsToLocals, Value.category]; done) | rfl
theorem ef_bWc3 (m : MethodId) (x : Addr) (ii : Int32) : entryFrame m #[(.ref x), (.int ii)] 2 = mkF m 0 #[.val (.ref x), .val (.int ii)] [] := by first | (simp [entryFrame, mkF, argsToLocals, Value.category]; done) | rfl
theorem ef_b_ih (m : MethodId) (ch : Int32) : entryFrame m #[(.int ch)] 1 = mkF m 0 #[.val (.int ch)] [] := by first | (simp [entryFrame, mkF, argsToLocals, Value.category]; done) | rfl
theorem ef_b_il (m : MethodId) (ch : Int32) : entryFrame m #[(.int ch)] 1 = mkF m 0 #[.val (.int ch)] [] := by first | (simp [entryFrame, mkF, argsToLocals, Value.category]; done) | rfl
theorem ef_b_isu (m : MethodId) (ch : Int32) : entryFrame m #[(.int ch)] 1 = mkF m 0 #[.val (.int ch)] [] := by first | (simp [entryFrame, mkF, argsToLocals, Value.category]; done) | rfl
theorem ef_b_hi (m : MethodId) (ch : Int32) : entryFrame m #[(.int ch)] 1 = mkF m 0 #[.val (.int ch)] [] := by first | (simp [entryFrame, mkF, argsToLocals, Value.category]; done) | rfl
theorem ef_b_lo (m : MethodId) (ch : Int32) : entryFrame m #[(.int ch)] 1 = mkF m 0 #[.val (.int ch)] [] := by first | (simp [entryFrame, mkF, argsToLocals, Value.category]; done) | rfl
theorem ef_bUna0 (m : MethodId) (x : Addr) (st : Int32) : entryFrame m #[(.ref x), (.int st)] 5 = mkF m 0 #[.val (.ref x), .val (.int st), .unset, .unset, .unset] [] := by first | (simp [entryFrame, mkF, argsToLocals, Value.category]; done) | rfl
theorem ef_bUna1 (m : MethodId) (x : Addr) (st : Int32) : entryFrame m #[(.ref x), (.int st)] 5 = mkF m 0 #[.val (.ref x), .val (.int st), .unset, .unset, .unset] [] := by first | (simp [entryFrame, mkF, argsToLocals, Value.category]; done) | rfl
theorem ef_bUna2 (m : MethodId) (x : Addr) (st : Int32) : entryFrame m #[(.ref x), (.int st)] 5 = mkF m 0 #[.val (.ref x), .val (.int st), .unset, .unset, .unset] [] := by first | (simp [entryFrame, mkF, argsToLocals, Value.category]; done) | rfl
theorem ef_bUna3 (m : MethodId) (x : Addr) (st : Int32) : entryFrame m #[(.ref x), (.int st)] 5 = mkF m 0 #[.val (.ref x), .val (.int st), .unset, .unset, .unset] [] := by first | (simp [entryFrame, mkF, argsToLocals, Value.category]; done) | rfl
theorem ef_bUna4 (m : MethodId) (x : Addr) (st : Int32) : entryFrame m #[(.ref x), (.int st)] 5 = mkF m 0 #[.val (.ref x), .val (.int st), .unset, .unset, .unset] [] := by first | (simp [entryFrame, mkF, argsToLocals, Value.category]; done) | rfl
theorem ef_bIst (m : MethodId)  : entryFrame m #[.null] 1 = mkF m 0 #[.val .null] [] := by first | (simp [entryFrame, mkF, argsToLocals, Value.category]; done) | rfl
theorem ef_ist (m : MethodId) (x : Addr) : entryFrame m #[(.ref x)] 1 = mkF m 0 #[.val (.ref x)] [] := by first | (simp [entryFrame, mkF, argsToLocals, Value.category]; done) | rfl
theorem ef_bOk1_0 (m : MethodId) (s : Addr) (ii : Int32) (ln : Int32) : entryFrame m #[(.ref s), (.int ii), (.int ln)] 4 = mkF m 0 #[.val (.ref s), .val (.int ii), .val (.int ln), .unset] [] := by first | (simp [entryFrame, mkF, argsToLocals, Value.category]; done) | rfl
theorem ef_bOk2_0 (m : MethodId) (s : Addr) (ii : Int32) (ln : Int32) : entryFrame m #[(.ref s), (.int ii), (.int ln)] 4 = mkF m 0 #[.val (.ref s), .val (.int ii), .val (.int ln), .unset] [] := by first | (simp [entryFrame, mkF, argsToLocals, Value.category]; done) | rfl
theorem ef_bOk2_1 (m : MethodId) (s : Addr) (ii : Int32) (ln : Int32) : entryFrame m #[(.ref s), (.int ii), (.int ln)] 4 = mkF m 0 #[.val (.ref s), .val (.int ii), .val (.int ln), .unset] [] := by first | (simp [entryFrame, mkF, argsToLocals, Value.category]; done) | rfl
theorem ef_bOk3_0 (m : MethodId) (s : Addr) (ii : Int32) (ln : Int32) : entryFrame m #[(.ref s), (.int ii), (.int ln)] 4 = mkF m 0 #[.val (.ref s), .val (.int ii), .val (.int ln), .unset] [] := by first | (simp [entryFrame, mkF, argsToLocals, Value.category]; done) | rfl
theorem ef_bOk3_1 (m : MethodId) (s : Addr) (ii : Int32) (ln : Int32) : entryFrame m #[(.ref s), (.int ii), (.int ln)] 4 = mkF m 0 #[.val (.ref s), .val (.int ii), .val (.int ln), .unset] [] := by first | (simp [entryFrame, mkF, argsToLocals, Value.category]; done) | rfl
theorem ef_bOk3_2 (m : MethodId) (s : Addr) (ii : Int32) (ln : Int32) : entryFrame m #[(.ref s), (.int ii), (.int ln)] 4 = mkF m 0 #[.val (.ref s), .val (.int ii), .val (.int ln), .unset] [] := by first | (simp [entryFrame, mkF, argsToLocals, Value.category]; done) | rfl
theorem ef_bOk4_0 (m : MethodId) (s : Addr) (ii : Int32) (ln : Int32) : entryFrame m #[(.ref s), (.int ii), (.int ln)] 4 = mkF m 0 #[.val (.ref s), .val (.int ii), .val (.int ln), .unset] [] := by first | (simp [entryFrame, mkF, argsToLocals, Value.category]; done) | rfl
theorem ef_bOk4_1 (m : MethodId) (s : Addr) (ii : Int32) (ln : Int32) : entryFrame m #[(.ref s), (.int ii), (.int ln)] 4 = mkF m 0 #[.val (.ref s), .val (.int ii), .val (.int ln), .unset] [] := by first | (simp [entryFrame, mkF, argsToLocals, Value.category]; done) | rfl
theorem ef_bOk4_2 (m : MethodId) (s : Addr) (ii : Int32) (ln : Int32) : entryFrame m #[(.ref s), (.int ii), (.int ln)] 4 = mkF m 0 #[.val (.ref s), .val (.int ii), .val (.int ln), .unset] [] := by first | (simp [entryFrame, mkF, argsToLocals, Value.category]; done) | rfl
theorem ef_bOk4_3 (m : MethodId) (s : Addr) (ii : Int32) (ln : Int32) : entryFrame m #[(.ref s), (.int ii), (.int ln)] 4 = mkF m 0 #[.val (.ref s), .val (.int ii), .val (.int ln), .unset] [] := by first | (simp [entryFrame, mkF, argsToLocals, Value.category]; done) | rfl
theorem ef_law (m : MethodId) (p0 : Int32) (p1 : Int32) (p2 : Int32) (p3 : Int32) (p4 : Int32) : entryFrame m #[(.int p0), (.int p1), (.int p2), (.int p3), (.int p4)] maxLocals = mkF m 0 #[.val (.int p0), .val (.int p1), .val (.int p2), .val (.int p3), .val (.int p4), .unset, .unset, .unset, .unset, .unset, .unset, .unset, .unset] [] := by first | (simp [entryFrame, mkF, argsToLocals, Value.category, maxLocals]; done) | rfl
def hB (c : Int32) : Bool := decide (¬ c < 55296 ∧ c < 56320)
def lB (c : Int32) : Bool := decide (¬ c < 56320 ∧ c < 57344)
def sB (c : Int32) : Bool := decide (¬ c < 55296 ∧ c < 57344)
def b2i (b : Bool) : Int32 := if b then 1 else 0
theorem b2i_t {b : Bool} (h : b = true) : b2i b = 1 := by rw [h]; rfl
theorem b2i_f {b : Bool} (h : ¬ b = true) : b2i b = 0 := by rw [Bool.not_eq_true] at h; rw [h]; rfl
theorem nar_b2i (b : Bool) : narrow .boolean (.int (b2i b)) = .int (b2i b) := by cases b <;> rfl
theorem gtH (c : Int32) : (56319 : Int32) < c ↔ ¬ c < 56320 := by
  rw [Int32.lt_iff_toInt_lt, Int32.lt_iff_toInt_lt, show (56319 : Int32).toInt = 56319 by decide, show (56320 : Int32).toInt = 56320 by decide]; omega
theorem gtL (c : Int32) : (57343 : Int32) < c ↔ ¬ c < 57344 := by
  rw [Int32.lt_iff_toInt_lt, Int32.lt_iff_toInt_lt, show (57343 : Int32).toInt = 57343 by decide, show (57344 : Int32).toInt = 57344 by decide]; omega
def uns : List Int32 → Bool
  | [] => true
  | [c] => !(decide (c = 0) || sB c)
  | c :: d :: r => if hB c && lB d then uns r else if decide (c = 0) || sB c then false else uns (d :: r)
theorem or_t {c : Int32} (h : c = 0 ∨ sB c = true) : (decide (c = 0) || sB c) = true := by simp only [Bool.or_eq_true, decide_eq_true_eq]; exact h
theorem or_f {c : Int32} (h1 : ¬ c = 0) (h2 : ¬ sB c = true) : (decide (c = 0) || sB c) = false := by rw [Bool.not_eq_true] at h2; rw [h2, decide_eq_false h1]; rfl
theorem and_f {c d : Int32} (h : ¬ (hB c = true ∧ lB d = true)) : (hB c && lB d) = false := by cases q1 : hB c <;> cases q2 : lB d <;> simp_all
theorem uns_pair {c d : Int32} {r : List Int32} (h1 : hB c = true) (h2 : lB d = true) : uns (c :: d :: r) = uns r := by
  have e : (hB c && lB d) = true := by rw [h1, h2]; rfl
  simp only [uns, e, if_true]
theorem uns_bad1 {c : Int32} (h : c = 0 ∨ sB c = true) : uns [c] = false := by simp only [uns, or_t h, Bool.not_true]
theorem uns_ok1 {c : Int32} (h1 : ¬ c = 0) (h2 : ¬ sB c = true) : uns [c] = uns [] := by simp only [uns, or_f h1 h2, Bool.not_false]
theorem uns_bad2 {c d : Int32} {r : List Int32} (hn : ¬ (hB c = true ∧ lB d = true)) (h : c = 0 ∨ sB c = true) : uns (c :: d :: r) = false := by simp only [uns, and_f hn, or_t h, if_true, Bool.false_eq_true, if_false]
theorem uns_ok2 {c d : Int32} {r : List Int32} (hn : ¬ (hB c = true ∧ lB d = true)) (h1 : ¬ c = 0) (h2 : ¬ sB c = true) : uns (c :: d :: r) = uns (d :: r) := by simp only [uns, and_f hn, or_f h1 h2, Bool.false_eq_true, if_false]
def okB (z h l nx pv : Bool) : Bool := if z then false else if h then nx else if l then pv else true
theorem rel (c : Int32) : sB c = (hB c || lB c) ∧ (hB c && lB c) = false ∧ (decide (c = 0) && (hB c || lB c)) = false := by
  have e1 : (55296 : Int32).toInt = 55296 := by decide
  have e2 : (56320 : Int32).toInt = 56320 := by decide
  have e3 : (57344 : Int32).toInt = 57344 := by decide
  have e0 : (0 : Int32).toInt = 0 := by decide
  unfold sB hB lB
  simp only [Int32.lt_iff_toInt_lt, e1, e2, e3]
  refine ⟨?_, ?_, ?_⟩
  · rw [← Bool.decide_or]; congr 1; apply propext; omega
  · rw [← Bool.decide_and]; apply decide_eq_false; omega
  · by_cases hc : c = 0
    · subst hc; decide
    · rw [decide_eq_false hc]; rfl
def k6 (x : Int32) : Int32 := (x &&& 7) % 6
def cc (x : Int32) : Int32 := x.toUInt32.toUInt16.toUInt32.toInt32
theorem r16c (x : Int32) : Own.R16 (cc x) := Own.chr_r16 x
theorem six (x : Int32) : k6 x = 0 ∨ k6 x = 1 ∨ k6 x = 2 ∨ k6 x = 3 ∨ k6 x = 4 ∨ k6 x = 5 := by
  have h1 := c_and x 7 (by decide)
  have h2 := (c_irem (x &&& 7) 6 6 (by decide)).1 h1.1
  have k : ∀ (j : Int32) (q : Int), j.toInt = q → (k6 x).toInt = q → k6 x = j := fun j q a b => Int32.toInt_inj.mp (b.trans a.symm)
  have h3 : (k6 x).toInt = (x &&& 7).toInt % 6 := h2
  rcases (by omega : (k6 x).toInt = 0 ∨ (k6 x).toInt = 1 ∨ (k6 x).toInt = 2 ∨ (k6 x).toInt = 3 ∨ (k6 x).toInt = 4 ∨ (k6 x).toInt = 5) with q | q | q | q | q | q
  · exact Or.inl (k 0 0 (by decide) q)
  · exact Or.inr (Or.inl (k 1 1 (by decide) q))
  · exact Or.inr (Or.inr (Or.inl (k 2 2 (by decide) q)))
  · exact Or.inr (Or.inr (Or.inr (Or.inl (k 3 3 (by decide) q))))
  · exact Or.inr (Or.inr (Or.inr (Or.inr (Or.inl (k 4 4 (by decide) q)))))
  · exact Or.inr (Or.inr (Or.inr (Or.inr (Or.inr (k 5 5 (by decide) q)))))
set_option maxRecDepth 100000 in
theorem pure1 (ch0 : Int32) : uns [ch0] = ((okB (decide (ch0 = 0)) (hB ch0) (lB ch0) false false)) := by
  obtain ⟨s0, x0, y0⟩ := rel ch0
  simp only [uns, okB, s0]
  clear s0
  generalize decide (ch0 = 0) = z0 at *
  generalize hB ch0 = h0 at *
  generalize lB ch0 = l0 at *
  revert x0 y0
  revert z0 h0 l0
  decide +kernel
set_option maxRecDepth 100000 in
theorem pure2 (ch0 ch1 : Int32) : uns [ch0, ch1] = ((okB (decide (ch0 = 0)) (hB ch0) (lB ch0) (lB ch1) false) && (okB (decide (ch1 = 0)) (hB ch1) (lB ch1) false (hB ch0))) := by
  obtain ⟨s0, x0, y0⟩ := rel ch0
  obtain ⟨s1, x1, y1⟩ := rel ch1
  simp only [uns, okB, s0, s1]
  clear s0 s1
  generalize decide (ch0 = 0) = z0 at *
  generalize hB ch0 = h0 at *
  generalize lB ch0 = l0 at *
  generalize decide (ch1 = 0) = z1 at *
  generalize hB ch1 = h1 at *
  generalize lB ch1 = l1 at *
  revert x0 y0 x1 y1
  revert z0 h0 l0 z1 h1 l1
  decide +kernel
set_option maxRecDepth 100000 in
theorem pure3 (ch0 ch1 ch2 : Int32) : uns [ch0, ch1, ch2] = ((okB (decide (ch0 = 0)) (hB ch0) (lB ch0) (lB ch1) false) && (okB (decide (ch1 = 0)) (hB ch1) (lB ch1) (lB ch2) (hB ch0)) && (okB (decide (ch2 = 0)) (hB ch2) (lB ch2) false (hB ch1))) := by
  obtain ⟨s0, x0, y0⟩ := rel ch0
  obtain ⟨s1, x1, y1⟩ := rel ch1
  obtain ⟨s2, x2, y2⟩ := rel ch2
  simp only [uns, okB, s0, s1, s2]
  clear s0 s1 s2
  generalize decide (ch0 = 0) = z0 at *
  generalize hB ch0 = h0 at *
  generalize lB ch0 = l0 at *
  generalize decide (ch1 = 0) = z1 at *
  generalize hB ch1 = h1 at *
  generalize lB ch1 = l1 at *
  generalize decide (ch2 = 0) = z2 at *
  generalize hB ch2 = h2 at *
  generalize lB ch2 = l2 at *
  revert x0 y0 x1 y1 x2 y2
  revert z0 h0 l0 z1 h1 l1 z2 h2 l2
  decide +kernel
set_option maxRecDepth 100000 in
theorem pure4 (ch0 ch1 ch2 ch3 : Int32) : uns [ch0, ch1, ch2, ch3] = ((okB (decide (ch0 = 0)) (hB ch0) (lB ch0) (lB ch1) false) && (okB (decide (ch1 = 0)) (hB ch1) (lB ch1) (lB ch2) (hB ch0)) && (okB (decide (ch2 = 0)) (hB ch2) (lB ch2) (lB ch3) (hB ch1)) && (okB (decide (ch3 = 0)) (hB ch3) (lB ch3) false (hB ch2))) := by
  obtain ⟨s0, x0, y0⟩ := rel ch0
  obtain ⟨s1, x1, y1⟩ := rel ch1
  obtain ⟨s2, x2, y2⟩ := rel ch2
  obtain ⟨s3, x3, y3⟩ := rel ch3
  simp only [uns, okB, s0, s1, s2, s3]
  clear s0 s1 s2 s3
  generalize decide (ch0 = 0) = z0 at *
  generalize hB ch0 = h0 at *
  generalize lB ch0 = l0 at *
  generalize decide (ch1 = 0) = z1 at *
  generalize hB ch1 = h1 at *
  generalize lB ch1 = l1 at *
  generalize decide (ch2 = 0) = z2 at *
  generalize hB ch2 = h2 at *
  generalize lB ch2 = l2 at *
  generalize decide (ch3 = 0) = z3 at *
  generalize hB ch3 = h3 at *
  generalize lB ch3 = l3 at *
  revert x0 y0 x1 y1 x2 y2 x3 y3
  revert z0 h0 l0 z1 h1 l1 z2 h2 l2 z3 h3 l3
  decide +kernel
abbrev bPut1_0 : Own.Bo := (⟨"java/lang/StringUTF16", "putChar", "([BII)V"⟩, jdk_52_method_4_code, 3, none, ({ frames := 0, cells := 0, slots := 0, locals := 0 } : Room))
abbrev bPut2_0 : Own.Bo := (⟨"java/lang/StringUTF16", "putChar", "([BII)V"⟩, jdk_52_method_4_code, 3, none, ({ frames := 0, cells := 0, slots := 0, locals := 0 } : Room))
abbrev bPut2_1 : Own.Bo := (⟨"java/lang/StringUTF16", "putChar", "([BII)V"⟩, jdk_52_method_4_code, 3, none, ({ frames := 0, cells := 0, slots := 0, locals := 0 } : Room))
abbrev bPut3_0 : Own.Bo := (⟨"java/lang/StringUTF16", "putChar", "([BII)V"⟩, jdk_52_method_4_code, 3, none, ({ frames := 0, cells := 0, slots := 0, locals := 0 } : Room))
abbrev bPut3_1 : Own.Bo := (⟨"java/lang/StringUTF16", "putChar", "([BII)V"⟩, jdk_52_method_4_code, 3, none, ({ frames := 0, cells := 0, slots := 0, locals := 0 } : Room))
abbrev bPut3_2 : Own.Bo := (⟨"java/lang/StringUTF16", "putChar", "([BII)V"⟩, jdk_52_method_4_code, 3, none, ({ frames := 0, cells := 0, slots := 0, locals := 0 } : Room))
abbrev bPut4_0 : Own.Bo := (⟨"java/lang/StringUTF16", "putChar", "([BII)V"⟩, jdk_52_method_4_code, 3, none, ({ frames := 0, cells := 0, slots := 0, locals := 0 } : Room))
abbrev bPut4_1 : Own.Bo := (⟨"java/lang/StringUTF16", "putChar", "([BII)V"⟩, jdk_52_method_4_code, 3, none, ({ frames := 0, cells := 0, slots := 0, locals := 0 } : Room))
abbrev bPut4_2 : Own.Bo := (⟨"java/lang/StringUTF16", "putChar", "([BII)V"⟩, jdk_52_method_4_code, 3, none, ({ frames := 0, cells := 0, slots := 0, locals := 0 } : Room))
abbrev bPut4_3 : Own.Bo := (⟨"java/lang/StringUTF16", "putChar", "([BII)V"⟩, jdk_52_method_4_code, 3, none, ({ frames := 0, cells := 0, slots := 0, locals := 0 } : Room))
abbrev bNbl1 : Own.Bo := (⟨"java/lang/StringUTF16", "newBytesLength", "(I)I"⟩, jdk_52_method_3_code, 1, (some .int), ({ frames := 0, cells := 0, slots := 0, locals := 0 } : Room))
abbrev bNbf1 : Own.Bo := (⟨"java/lang/StringUTF16", "newBytesFor", "(I)[B"⟩, jdk_52_method_2_code, 1, (some (.array .byte)), ({ frames := 1, cells := 1, slots := 2, locals := 12 } : Room))
abbrev bTob1 : Own.Bo := (⟨"java/lang/StringUTF16", "toBytes", "([CII)[B"⟩, jdk_52_method_14_code, 5, (some (.array .byte)), ({ frames := 2, cells := 1, slots := 2, locals := 30 } : Room))
abbrev bGc1_0 : Own.Bo := (⟨"java/lang/StringUTF16", "getChar", "([BI)C"⟩, jdk_52_method_5_code, 2, (some .char), ({ frames := 0, cells := 0, slots := 0, locals := 0 } : Room))
abbrev bC51 : Own.Bo := (⟨"java/lang/StringUTF16", "compress", "([CI[BII)I"⟩, jdk_52_method_21_code, 7, (some .int), ({ frames := 0, cells := 0, slots := 0, locals := 0 } : Room))
abbrev bC31 : Own.Bo := (⟨"java/lang/StringUTF16", "compress", "([CII)[B"⟩, jdk_52_method_16_code, 6, (some (.array .byte)), ({ frames := 3, cells := 2, slots := 3, locals := 46 } : Room))
abbrev bCfl1 : Own.Bo := (⟨"java/lang/StringUTF16", "coderFromArrayLen", "([BI)B"⟩, jdk_52_method_15_code, 2, (some .byte), ({ frames := 0, cells := 0, slots := 0, locals := 0 } : Room))
abbrev bW41 : Own.Bo := (⟨"java/lang/String", "<init>", "([CIILjava/lang/Void;)V"⟩, jdk_42_method_149_code, 6, none, ({ frames := 4, cells := 2, slots := 3, locals := 66 } : Room))
abbrev bW11 : Own.Bo := (⟨"java/lang/String", "<init>", "([C)V"⟩, jdk_42_method_3_code, 2, none, ({ frames := 5, cells := 2, slots := 3, locals := 90 } : Room))
abbrev bNbl2 : Own.Bo := (⟨"java/lang/StringUTF16", "newBytesLength", "(I)I"⟩, jdk_52_method_3_code, 1, (some .int), ({ frames := 0, cells := 0, slots := 0, locals := 0 } : Room))
abbrev bNbf2 : Own.Bo := (⟨"java/lang/StringUTF16", "newBytesFor", "(I)[B"⟩, jdk_52_method_2_code, 1, (some (.array .byte)), ({ frames := 1, cells := 1, slots := 4, locals := 12 } : Room))
abbrev bTob2 : Own.Bo := (⟨"java/lang/StringUTF16", "toBytes", "([CII)[B"⟩, jdk_52_method_14_code, 5, (some (.array .byte)), ({ frames := 2, cells := 1, slots := 4, locals := 30 } : Room))
abbrev bGc2_0 : Own.Bo := (⟨"java/lang/StringUTF16", "getChar", "([BI)C"⟩, jdk_52_method_5_code, 2, (some .char), ({ frames := 0, cells := 0, slots := 0, locals := 0 } : Room))
abbrev bGc2_1 : Own.Bo := (⟨"java/lang/StringUTF16", "getChar", "([BI)C"⟩, jdk_52_method_5_code, 2, (some .char), ({ frames := 0, cells := 0, slots := 0, locals := 0 } : Room))
abbrev bC52 : Own.Bo := (⟨"java/lang/StringUTF16", "compress", "([CI[BII)I"⟩, jdk_52_method_21_code, 7, (some .int), ({ frames := 0, cells := 0, slots := 0, locals := 0 } : Room))
abbrev bC32 : Own.Bo := (⟨"java/lang/StringUTF16", "compress", "([CII)[B"⟩, jdk_52_method_16_code, 6, (some (.array .byte)), ({ frames := 3, cells := 2, slots := 6, locals := 46 } : Room))
abbrev bCfl2 : Own.Bo := (⟨"java/lang/StringUTF16", "coderFromArrayLen", "([BI)B"⟩, jdk_52_method_15_code, 2, (some .byte), ({ frames := 0, cells := 0, slots := 0, locals := 0 } : Room))
abbrev bW42 : Own.Bo := (⟨"java/lang/String", "<init>", "([CIILjava/lang/Void;)V"⟩, jdk_42_method_149_code, 6, none, ({ frames := 4, cells := 2, slots := 6, locals := 66 } : Room))
abbrev bW12 : Own.Bo := (⟨"java/lang/String", "<init>", "([C)V"⟩, jdk_42_method_3_code, 2, none, ({ frames := 5, cells := 2, slots := 6, locals := 90 } : Room))
abbrev bNbl3 : Own.Bo := (⟨"java/lang/StringUTF16", "newBytesLength", "(I)I"⟩, jdk_52_method_3_code, 1, (some .int), ({ frames := 0, cells := 0, slots := 0, locals := 0 } : Room))
abbrev bNbf3 : Own.Bo := (⟨"java/lang/StringUTF16", "newBytesFor", "(I)[B"⟩, jdk_52_method_2_code, 1, (some (.array .byte)), ({ frames := 1, cells := 1, slots := 6, locals := 12 } : Room))
abbrev bTob3 : Own.Bo := (⟨"java/lang/StringUTF16", "toBytes", "([CII)[B"⟩, jdk_52_method_14_code, 5, (some (.array .byte)), ({ frames := 2, cells := 1, slots := 6, locals := 30 } : Room))
abbrev bGc3_0 : Own.Bo := (⟨"java/lang/StringUTF16", "getChar", "([BI)C"⟩, jdk_52_method_5_code, 2, (some .char), ({ frames := 0, cells := 0, slots := 0, locals := 0 } : Room))
abbrev bGc3_1 : Own.Bo := (⟨"java/lang/StringUTF16", "getChar", "([BI)C"⟩, jdk_52_method_5_code, 2, (some .char), ({ frames := 0, cells := 0, slots := 0, locals := 0 } : Room))
abbrev bGc3_2 : Own.Bo := (⟨"java/lang/StringUTF16", "getChar", "([BI)C"⟩, jdk_52_method_5_code, 2, (some .char), ({ frames := 0, cells := 0, slots := 0, locals := 0 } : Room))
abbrev bC53 : Own.Bo := (⟨"java/lang/StringUTF16", "compress", "([CI[BII)I"⟩, jdk_52_method_21_code, 7, (some .int), ({ frames := 0, cells := 0, slots := 0, locals := 0 } : Room))
abbrev bC33 : Own.Bo := (⟨"java/lang/StringUTF16", "compress", "([CII)[B"⟩, jdk_52_method_16_code, 6, (some (.array .byte)), ({ frames := 3, cells := 2, slots := 9, locals := 46 } : Room))
abbrev bCfl3 : Own.Bo := (⟨"java/lang/StringUTF16", "coderFromArrayLen", "([BI)B"⟩, jdk_52_method_15_code, 2, (some .byte), ({ frames := 0, cells := 0, slots := 0, locals := 0 } : Room))
abbrev bW43 : Own.Bo := (⟨"java/lang/String", "<init>", "([CIILjava/lang/Void;)V"⟩, jdk_42_method_149_code, 6, none, ({ frames := 4, cells := 2, slots := 9, locals := 66 } : Room))
abbrev bW13 : Own.Bo := (⟨"java/lang/String", "<init>", "([C)V"⟩, jdk_42_method_3_code, 2, none, ({ frames := 5, cells := 2, slots := 9, locals := 90 } : Room))
abbrev bNbl4 : Own.Bo := (⟨"java/lang/StringUTF16", "newBytesLength", "(I)I"⟩, jdk_52_method_3_code, 1, (some .int), ({ frames := 0, cells := 0, slots := 0, locals := 0 } : Room))
abbrev bNbf4 : Own.Bo := (⟨"java/lang/StringUTF16", "newBytesFor", "(I)[B"⟩, jdk_52_method_2_code, 1, (some (.array .byte)), ({ frames := 1, cells := 1, slots := 8, locals := 12 } : Room))
abbrev bTob4 : Own.Bo := (⟨"java/lang/StringUTF16", "toBytes", "([CII)[B"⟩, jdk_52_method_14_code, 5, (some (.array .byte)), ({ frames := 2, cells := 1, slots := 8, locals := 30 } : Room))
abbrev bGc4_0 : Own.Bo := (⟨"java/lang/StringUTF16", "getChar", "([BI)C"⟩, jdk_52_method_5_code, 2, (some .char), ({ frames := 0, cells := 0, slots := 0, locals := 0 } : Room))
abbrev bGc4_1 : Own.Bo := (⟨"java/lang/StringUTF16", "getChar", "([BI)C"⟩, jdk_52_method_5_code, 2, (some .char), ({ frames := 0, cells := 0, slots := 0, locals := 0 } : Room))
abbrev bGc4_2 : Own.Bo := (⟨"java/lang/StringUTF16", "getChar", "([BI)C"⟩, jdk_52_method_5_code, 2, (some .char), ({ frames := 0, cells := 0, slots := 0, locals := 0 } : Room))
abbrev bGc4_3 : Own.Bo := (⟨"java/lang/StringUTF16", "getChar", "([BI)C"⟩, jdk_52_method_5_code, 2, (some .char), ({ frames := 0, cells := 0, slots := 0, locals := 0 } : Room))
abbrev bC54 : Own.Bo := (⟨"java/lang/StringUTF16", "compress", "([CI[BII)I"⟩, jdk_52_method_21_code, 7, (some .int), ({ frames := 0, cells := 0, slots := 0, locals := 0 } : Room))
abbrev bC34 : Own.Bo := (⟨"java/lang/StringUTF16", "compress", "([CII)[B"⟩, jdk_52_method_16_code, 6, (some (.array .byte)), ({ frames := 3, cells := 2, slots := 12, locals := 46 } : Room))
abbrev bCfl4 : Own.Bo := (⟨"java/lang/StringUTF16", "coderFromArrayLen", "([BI)B"⟩, jdk_52_method_15_code, 2, (some .byte), ({ frames := 0, cells := 0, slots := 0, locals := 0 } : Room))
abbrev bW44 : Own.Bo := (⟨"java/lang/String", "<init>", "([CIILjava/lang/Void;)V"⟩, jdk_42_method_149_code, 6, none, ({ frames := 4, cells := 2, slots := 12, locals := 66 } : Room))
abbrev bW14 : Own.Bo := (⟨"java/lang/String", "<init>", "([C)V"⟩, jdk_42_method_3_code, 2, none, ({ frames := 5, cells := 2, slots := 12, locals := 90 } : Room))
abbrev bSl0 : Own.Bo := (⟨"java/lang/String", "isLatin1", "()Z"⟩, jdk_42_method_154_code, 1, (some .boolean), ({ frames := 0, cells := 0, slots := 0, locals := 0 } : Room))
abbrev bUl : Own.Bo := (⟨"java/lang/StringUTF16", "length", "([B)I"⟩, jdk_52_method_6_code, 1, (some .int), ({ frames := 0, cells := 0, slots := 0, locals := 0 } : Room))
abbrev bPc0 : Own.Bo := (⟨"jdk/internal/util/Preconditions", "checkIndex", "(IILjava/util/function/BiFunction;)I"⟩, jdk_41_method_11_code, 3, (some .int), ({ frames := 0, cells := 0, slots := 0, locals := 0 } : Room))
abbrev bPc1 : Own.Bo := (⟨"jdk/internal/util/Preconditions", "checkIndex", "(IILjava/util/function/BiFunction;)I"⟩, jdk_41_method_11_code, 3, (some .int), ({ frames := 0, cells := 0, slots := 0, locals := 0 } : Room))
abbrev bSci : Own.Bo := (⟨"java/lang/String", "checkIndex", "(II)V"⟩, jdk_42_method_155_code, 2, none, ({ frames := 1, cells := 0, slots := 0, locals := 16 } : Room))
abbrev bUci : Own.Bo := (⟨"java/lang/StringUTF16", "checkIndex", "(I[B)V"⟩, jdk_52_method_91_code, 2, none, ({ frames := 2, cells := 0, slots := 0, locals := 32 } : Room))
abbrev bGg0 : Own.Bo := (⟨"java/lang/StringUTF16", "getChar", "([BI)C"⟩, jdk_52_method_5_code, 2, (some .char), ({ frames := 0, cells := 0, slots := 0, locals := 0 } : Room))
abbrev bUch0 : Own.Bo := (⟨"java/lang/StringUTF16", "charAt", "([BI)C"⟩, jdk_52_method_83_code, 2, (some .char), ({ frames := 3, cells := 0, slots := 0, locals := 50 } : Room))
abbrev bWc0 : Own.Bo := (⟨"java/lang/String", "charAt", "(I)C"⟩, jdk_42_method_56_code, 2, (some .char), ({ frames := 4, cells := 0, slots := 0, locals := 66 } : Room))
abbrev bGg1 : Own.Bo := (⟨"java/lang/StringUTF16", "getChar", "([BI)C"⟩, jdk_52_method_5_code, 2, (some .char), ({ frames := 0, cells := 0, slots := 0, locals := 0 } : Room))
abbrev bUch1 : Own.Bo := (⟨"java/lang/StringUTF16", "charAt", "([BI)C"⟩, jdk_52_method_83_code, 2, (some .char), ({ frames := 3, cells := 0, slots := 0, locals := 50 } : Room))
abbrev bWc1 : Own.Bo := (⟨"java/lang/String", "charAt", "(I)C"⟩, jdk_42_method_56_code, 2, (some .char), ({ frames := 4, cells := 0, slots := 0, locals := 66 } : Room))
abbrev bGg2 : Own.Bo := (⟨"java/lang/StringUTF16", "getChar", "([BI)C"⟩, jdk_52_method_5_code, 2, (some .char), ({ frames := 0, cells := 0, slots := 0, locals := 0 } : Room))
abbrev bUch2 : Own.Bo := (⟨"java/lang/StringUTF16", "charAt", "([BI)C"⟩, jdk_52_method_83_code, 2, (some .char), ({ frames := 3, cells := 0, slots := 0, locals := 50 } : Room))
abbrev bWc2 : Own.Bo := (⟨"java/lang/String", "charAt", "(I)C"⟩, jdk_42_method_56_code, 2, (some .char), ({ frames := 4, cells := 0, slots := 0, locals := 66 } : Room))
abbrev bGg3 : Own.Bo := (⟨"java/lang/StringUTF16", "getChar", "([BI)C"⟩, jdk_52_method_5_code, 2, (some .char), ({ frames := 0, cells := 0, slots := 0, locals := 0 } : Room))
abbrev bUch3 : Own.Bo := (⟨"java/lang/StringUTF16", "charAt", "([BI)C"⟩, jdk_52_method_83_code, 2, (some .char), ({ frames := 3, cells := 0, slots := 0, locals := 50 } : Room))
abbrev bWc3 : Own.Bo := (⟨"java/lang/String", "charAt", "(I)C"⟩, jdk_42_method_56_code, 2, (some .char), ({ frames := 4, cells := 0, slots := 0, locals := 66 } : Room))
abbrev b_ih : Own.Bo := (⟨"java/lang/Character", "isHighSurrogate", "(C)Z"⟩, jdk_89_method_14_code, 1, (some .boolean), ({ frames := 0, cells := 0, slots := 0, locals := 0 } : Room))
abbrev b_il : Own.Bo := (⟨"java/lang/Character", "isLowSurrogate", "(C)Z"⟩, jdk_89_method_15_code, 1, (some .boolean), ({ frames := 0, cells := 0, slots := 0, locals := 0 } : Room))
abbrev b_isu : Own.Bo := (⟨"java/lang/Character", "isSurrogate", "(C)Z"⟩, jdk_89_method_16_code, 1, (some .boolean), ({ frames := 0, cells := 0, slots := 0, locals := 0 } : Room))
abbrev b_hi : Own.Bo := (⟨"com/example/drudge/drudge/task/StorableTextIsStorablePinLaw", "high", "(C)Z"⟩, method_2_code, 1, (some .boolean), ({ frames := 0, cells := 0, slots := 0, locals := 0 } : Room))
abbrev b_lo : Own.Bo := (⟨"com/example/drudge/drudge/task/StorableTextIsStorablePinLaw", "low", "(C)Z"⟩, method_3_code, 1, (some .boolean), ({ frames := 0, cells := 0, slots := 0, locals := 0 } : Room))
abbrev bUna0 : Own.Bo := (⟨"com/example/drudge/drudge/task/StorableText", "unstorableAt", "(Ljava/lang/String;I)I"⟩, prog_60_method_5_code, 5, (some .int), ({ frames := 5, cells := 0, slots := 0, locals := 100 } : Room))
abbrev bUna1 : Own.Bo := (⟨"com/example/drudge/drudge/task/StorableText", "unstorableAt", "(Ljava/lang/String;I)I"⟩, prog_60_method_5_code, 5, (some .int), ({ frames := 5, cells := 0, slots := 0, locals := 100 } : Room))
abbrev bUna2 : Own.Bo := (⟨"com/example/drudge/drudge/task/StorableText", "unstorableAt", "(Ljava/lang/String;I)I"⟩, prog_60_method_5_code, 5, (some .int), ({ frames := 5, cells := 0, slots := 0, locals := 100 } : Room))
abbrev bUna3 : Own.Bo := (⟨"com/example/drudge/drudge/task/StorableText", "unstorableAt", "(Ljava/lang/String;I)I"⟩, prog_60_method_5_code, 5, (some .int), ({ frames := 5, cells := 0, slots := 0, locals := 100 } : Room))
abbrev bUna4 : Own.Bo := (⟨"com/example/drudge/drudge/task/StorableText", "unstorableAt", "(Ljava/lang/String;I)I"⟩, prog_60_method_5_code, 5, (some .int), ({ frames := 5, cells := 0, slots := 0, locals := 100 } : Room))
abbrev bIst : Own.Bo := (⟨"com/example/drudge/drudge/task/StorableText", "isStorable", "(Ljava/lang/String;)Z"⟩, prog_60_method_2_code, 1, (some .boolean), ({ frames := 6, cells := 0, slots := 0, locals := 120 } : Room))
abbrev bOk1_0 : Own.Bo := (⟨"com/example/drudge/drudge/task/StorableTextIsStorablePinLaw", "ok", "([CII)Z"⟩, method_4_code, 4, (some .boolean), ({ frames := 1, cells := 0, slots := 0, locals := 16 } : Room))
abbrev bOk2_0 : Own.Bo := (⟨"com/example/drudge/drudge/task/StorableTextIsStorablePinLaw", "ok", "([CII)Z"⟩, method_4_code, 4, (some .boolean), ({ frames := 1, cells := 0, slots := 0, locals := 16 } : Room))
abbrev bOk2_1 : Own.Bo := (⟨"com/example/drudge/drudge/task/StorableTextIsStorablePinLaw", "ok", "([CII)Z"⟩, method_4_code, 4, (some .boolean), ({ frames := 1, cells := 0, slots := 0, locals := 16 } : Room))
abbrev bOk3_0 : Own.Bo := (⟨"com/example/drudge/drudge/task/StorableTextIsStorablePinLaw", "ok", "([CII)Z"⟩, method_4_code, 4, (some .boolean), ({ frames := 1, cells := 0, slots := 0, locals := 16 } : Room))
abbrev bOk3_1 : Own.Bo := (⟨"com/example/drudge/drudge/task/StorableTextIsStorablePinLaw", "ok", "([CII)Z"⟩, method_4_code, 4, (some .boolean), ({ frames := 1, cells := 0, slots := 0, locals := 16 } : Room))
abbrev bOk3_2 : Own.Bo := (⟨"com/example/drudge/drudge/task/StorableTextIsStorablePinLaw", "ok", "([CII)Z"⟩, method_4_code, 4, (some .boolean), ({ frames := 1, cells := 0, slots := 0, locals := 16 } : Room))
abbrev bOk4_0 : Own.Bo := (⟨"com/example/drudge/drudge/task/StorableTextIsStorablePinLaw", "ok", "([CII)Z"⟩, method_4_code, 4, (some .boolean), ({ frames := 1, cells := 0, slots := 0, locals := 16 } : Room))
abbrev bOk4_1 : Own.Bo := (⟨"com/example/drudge/drudge/task/StorableTextIsStorablePinLaw", "ok", "([CII)Z"⟩, method_4_code, 4, (some .boolean), ({ frames := 1, cells := 0, slots := 0, locals := 16 } : Room))
abbrev bOk4_2 : Own.Bo := (⟨"com/example/drudge/drudge/task/StorableTextIsStorablePinLaw", "ok", "([CII)Z"⟩, method_4_code, 4, (some .boolean), ({ frames := 1, cells := 0, slots := 0, locals := 16 } : Room))
abbrev bOk4_3 : Own.Bo := (⟨"com/example/drudge/drudge/task/StorableTextIsStorablePinLaw", "ok", "([CII)Z"⟩, method_4_code, 4, (some .boolean), ({ frames := 1, cells := 0, slots := 0, locals := 16 } : Room))
abbrev bLaw : Own.Bo := (x, code, maxLocals, ret, room_1)
set_option maxRecDepth 65536 in
set_option maxHeartbeats 40000000 in
theorem con_put1_0 {G : Own.Gl} (hw : ∀ d ∈ tables_1, d.before G.a0 G.Z = true) (hEL : EW G.Z G.a0 G.EL) (TA : Sta G.Z G.Z.heap "java/lang/StringUTF16" "$assertionsDisabled" "Z" (.int 1)) (TH : Sta G.Z G.Z.heap "java/lang/StringUTF16" "HI_BYTE_SHIFT" "I" (.int 0)) (TL : Sta G.Z G.Z.heap "java/lang/StringUTF16" "LO_BYTE_SHIFT" "I" (.int 8)) {b : Addr} {kb : ClassId} {w0 w1 : Value} {ii : Int32} (hii : ii = 0) (ch : Int32) {h : Heap} (hO : Old G.Z G.n0 h) (hn_b : G.n0 ≤ b) (A : Arv G.Z h b kb .byte 2 [w0, w1] (.int 0)) :
    Own.Con G [] bPut1_0 #[.ref b, .int ii, .int ch] h [b] (fun v h' => v = none ∧ Keep h h' [b] ∧ Arv G.Z h' b kb .byte 2 [.int (StrChars.lo8 ch), .int (StrChars.hi8 ch)] (.int 0)) := by
  refine Own.Con.intro (plainFor_of_name pn_0) hO hEL _ (fun m => ef_bPut1_0 m b ii ch) ?_
  intro X T0 W0 sf
  subst hii
  have sb := sf b (List.mem_singleton.mpr rfl)
  refine Own.getS W0 (tw hw 107 rfl) Via.refl (W0.sta TA) d24_0 3 rfl ?_
  intro T1 W1
  refine Own.ifYes W1 d24_3 28 (by decide) (by decide) (by decide) ?_
  refine Own.iloadN W1 d24_28 29 rfl 0 rfl ?_
  refine Own.iconst W1 d24_29 30 rfl 1 rfl ?_
  refine Own.ishl W1 d24_30 31 rfl ?_
  rw [show ((0 : Int32) <<< ((1 : Int32) &&& 31)) = (0 : Int32) by decide]
  refine Own.istoreN W1 d24_31 32 rfl #[.val (.ref b), .val (.int 0), .val (.int ch)] rfl ?_
  refine Own.aloadN W1 d24_32 33 rfl (.ref b) rfl rfl ?_
  refine Own.iloadN W1 d24_33 34 rfl 0 rfl ?_
  refine Own.iinc W1 d24_34 37 rfl rfl #[.val (.ref b), .val (.int 1), .val (.int ch)] rfl ?_
  refine Own.iloadN W1 d24_37 38 rfl ch rfl ?_
  refine Own.getS W1 (tw hw 108 rfl) Via.refl (W1.sta TH) d24_38 41 rfl ?_
  intro T2 W2
  refine Own.ishr W2 d24_41 42 rfl ?_
  rw [Own.shrZ]
  refine Own.i2b W2 d24_42 43 rfl ?_
  refine Own.bastore W2 A 0 (by decide) (by decide) (lb rfl) hn_b sb (x' := (ch.toInt8.toInt32)) (Own.nar_b8 _) d24_43 44 rfl ?_
  intro T3 h3 W3 Q3 A3 k3
  have V3 : Arv G.Z h3 b kb .byte (2 : Int32) [(.int (ch.toInt8.toInt32)), w1] (.int 0) := A3
  refine Own.aloadN W3 d24_44 45 rfl (.ref b) rfl rfl ?_
  refine Own.iloadN W3 d24_45 46 rfl 1 rfl ?_
  refine Own.iloadN W3 d24_46 47 rfl ch rfl ?_
  refine Own.getS W3 (tw hw 109 rfl) Via.refl (W3.sta TL) d24_47 50 rfl ?_
  intro T4 W4
  refine Own.ishr W4 d24_50 51 rfl ?_
  refine Own.i2b W4 d24_51 52 rfl ?_
  refine Own.bastore W4 V3 1 (by decide) (by decide) (lb rfl) hn_b (k3 b sb) (x' := ((ch >>> ((8 : Int32) &&& 31)).toInt8.toInt32)) (Own.nar_b8 _) d24_52 53 rfl ?_
  intro T5 h5 W5 Q5 A5 k5
  have V5 : Arv G.Z h5 b kb .byte (2 : Int32) [(.int (ch.toInt8.toInt32)), (.int ((ch >>> ((8 : Int32) &&& 31)).toInt8.toInt32))] (.int 0) := A5
  exact Own.retV W5 (by decide) (by decide) rfl d24_53 ⟨rfl, (Keep.wr (Keep.wr (Keep.refl h [b]) Q3 (Or.inl (List.mem_singleton.mpr rfl))) Q5 (Or.inl (List.mem_singleton.mpr rfl))), V5⟩
set_option maxRecDepth 65536 in
set_option maxHeartbeats 40000000 in
theorem con_put2_0 {G : Own.Gl} (hw : ∀ d ∈ tables_1, d.before G.a0 G.Z = true) (hEL : EW G.Z G.a0 G.EL) (TA : Sta G.Z G.Z.heap "java/lang/StringUTF16" "$assertionsDisabled" "Z" (.int 1)) (TH : Sta G.Z G.Z.heap "java/lang/StringUTF16" "HI_BYTE_SHIFT" "I" (.int 0)) (TL : Sta G.Z G.Z.heap "java/lang/StringUTF16" "LO_BYTE_SHIFT" "I" (.int 8)) {b : Addr} {kb : ClassId} {w0 w1 w2 w3 : Value} {ii : Int32} (hii : ii = 0) (ch : Int32) {h : Heap} (hO : Old G.Z G.n0 h) (hn_b : G.n0 ≤ b) (A : Arv G.Z h b kb .byte 4 [w0, w1, w2, w3] (.int 0)) :
    Own.Con G [] bPut2_0 #[.ref b, .int ii, .int ch] h [b] (fun v h' => v = none ∧ Keep h h' [b] ∧ Arv G.Z h' b kb .byte 4 [.int (StrChars.lo8 ch), .int (StrChars.hi8 ch), w2, w3] (.int 0)) := by
  refine Own.Con.intro (plainFor_of_name pn_0) hO hEL _ (fun m => ef_bPut2_0 m b ii ch) ?_
  intro X T0 W0 sf
  subst hii
  have sb := sf b (List.mem_singleton.mpr rfl)
  refine Own.getS W0 (tw hw 107 rfl) Via.refl (W0.sta TA) d24_0 3 rfl ?_
  intro T1 W1
  refine Own.ifYes W1 d24_3 28 (by decide) (by decide) (by decide) ?_
  refine Own.iloadN W1 d24_28 29 rfl 0 rfl ?_
  refine Own.iconst W1 d24_29 30 rfl 1 rfl ?_
  refine Own.ishl W1 d24_30 31 rfl ?_
  rw [show ((0 : Int32) <<< ((1 : Int32) &&& 31)) = (0 : Int32) by decide]
  refine Own.istoreN W1 d24_31 32 rfl #[.val (.ref b), .val (.int 0), .val (.int ch)] rfl ?_
  refine Own.aloadN W1 d24_32 33 rfl (.ref b) rfl rfl ?_
  refine Own.iloadN W1 d24_33 34 rfl 0 rfl ?_
  refine Own.iinc W1 d24_34 37 rfl rfl #[.val (.ref b), .val (.int 1), .val (.int ch)] rfl ?_
  refine Own.iloadN W1 d24_37 38 rfl ch rfl ?_
  refine Own.getS W1 (tw hw 108 rfl) Via.refl (W1.sta TH) d24_38 41 rfl ?_
  intro T2 W2
  refine Own.ishr W2 d24_41 42 rfl ?_
  rw [Own.shrZ]
  refine Own.i2b W2 d24_42 43 rfl ?_
  refine Own.bastore W2 A 0 (by decide) (by decide) (lb rfl) hn_b sb (x' := (ch.toInt8.toInt32)) (Own.nar_b8 _) d24_43 44 rfl ?_
  intro T3 h3 W3 Q3 A3 k3
  have V3 : Arv G.Z h3 b kb .byte (4 : Int32) [(.int (ch.toInt8.toInt32)), w1, w2, w3] (.int 0) := A3
  refine Own.aloadN W3 d24_44 45 rfl (.ref b) rfl rfl ?_
  refine Own.iloadN W3 d24_45 46 rfl 1 rfl ?_
  refine Own.iloadN W3 d24_46 47 rfl ch rfl ?_
  refine Own.getS W3 (tw hw 109 rfl) Via.refl (W3.sta TL) d24_47 50 rfl ?_
  intro T4 W4
  refine Own.ishr W4 d24_50 51 rfl ?_
  refine Own.i2b W4 d24_51 52 rfl ?_
  refine Own.bastore W4 V3 1 (by decide) (by decide) (lb rfl) hn_b (k3 b sb) (x' := ((ch >>> ((8 : Int32) &&& 31)).toInt8.toInt32)) (Own.nar_b8 _) d24_52 53 rfl ?_
  intro T5 h5 W5 Q5 A5 k5
  have V5 : Arv G.Z h5 b kb .byte (4 : Int32) [(.int (ch.toInt8.toInt32)), (.int ((ch >>> ((8 : Int32) &&& 31)).toInt8.toInt32)), w2, w3] (.int 0) := A5
  exact Own.retV W5 (by decide) (by decide) rfl d24_53 ⟨rfl, (Keep.wr (Keep.wr (Keep.refl h [b]) Q3 (Or.inl (List.mem_singleton.mpr rfl))) Q5 (Or.inl (List.mem_singleton.mpr rfl))), V5⟩
set_option maxRecDepth 65536 in
set_option maxHeartbeats 40000000 in
theorem con_put2_1 {G : Own.Gl} (hw : ∀ d ∈ tables_1, d.before G.a0 G.Z = true) (hEL : EW G.Z G.a0 G.EL) (TA : Sta G.Z G.Z.heap "java/lang/StringUTF16" "$assertionsDisabled" "Z" (.int 1)) (TH : Sta G.Z G.Z.heap "java/lang/StringUTF16" "HI_BYTE_SHIFT" "I" (.int 0)) (TL : Sta G.Z G.Z.heap "java/lang/StringUTF16" "LO_BYTE_SHIFT" "I" (.int 8)) {b : Addr} {kb : ClassId} {w0 w1 w2 w3 : Value} {ii : Int32} (hii : ii = 1) (ch : Int32) {h : Heap} (hO : Old G.Z G.n0 h) (hn_b : G.n0 ≤ b) (A : Arv G.Z h b kb .byte 4 [w0, w1, w2, w3] (.int 0)) :
    Own.Con G [] bPut2_1 #[.ref b, .int ii, .int ch] h [b] (fun v h' => v = none ∧ Keep h h' [b] ∧ Arv G.Z h' b kb .byte 4 [w0, w1, .int (StrChars.lo8 ch), .int (StrChars.hi8 ch)] (.int 0)) := by
  refine Own.Con.intro (plainFor_of_name pn_0) hO hEL _ (fun m => ef_bPut2_1 m b ii ch) ?_
  intro X T0 W0 sf
  subst hii
  have sb := sf b (List.mem_singleton.mpr rfl)
  refine Own.getS W0 (tw hw 107 rfl) Via.refl (W0.sta TA) d24_0 3 rfl ?_
  intro T1 W1
  refine Own.ifYes W1 d24_3 28 (by decide) (by decide) (by decide) ?_
  refine Own.iloadN W1 d24_28 29 rfl 1 rfl ?_
  refine Own.iconst W1 d24_29 30 rfl 1 rfl ?_
  refine Own.ishl W1 d24_30 31 rfl ?_
  rw [show ((1 : Int32) <<< ((1 : Int32) &&& 31)) = (2 : Int32) by decide]
  refine Own.istoreN W1 d24_31 32 rfl #[.val (.ref b), .val (.int 2), .val (.int ch)] rfl ?_
  refine Own.aloadN W1 d24_32 33 rfl (.ref b) rfl rfl ?_
  refine Own.iloadN W1 d24_33 34 rfl 2 rfl ?_
  refine Own.iinc W1 d24_34 37 rfl rfl #[.val (.ref b), .val (.int 3), .val (.int ch)] rfl ?_
  refine Own.iloadN W1 d24_37 38 rfl ch rfl ?_
  refine Own.getS W1 (tw hw 108 rfl) Via.refl (W1.sta TH) d24_38 41 rfl ?_
  intro T2 W2
  refine Own.ishr W2 d24_41 42 rfl ?_
  rw [Own.shrZ]
  refine Own.i2b W2 d24_42 43 rfl ?_
  refine Own.bastore W2 A 2 (by decide) (by decide) (lb rfl) hn_b sb (x' := (ch.toInt8.toInt32)) (Own.nar_b8 _) d24_43 44 rfl ?_
  intro T3 h3 W3 Q3 A3 k3
  have V3 : Arv G.Z h3 b kb .byte (4 : Int32) [w0, w1, (.int (ch.toInt8.toInt32)), w3] (.int 0) := A3
  refine Own.aloadN W3 d24_44 45 rfl (.ref b) rfl rfl ?_
  refine Own.iloadN W3 d24_45 46 rfl 3 rfl ?_
  refine Own.iloadN W3 d24_46 47 rfl ch rfl ?_
  refine Own.getS W3 (tw hw 109 rfl) Via.refl (W3.sta TL) d24_47 50 rfl ?_
  intro T4 W4
  refine Own.ishr W4 d24_50 51 rfl ?_
  refine Own.i2b W4 d24_51 52 rfl ?_
  refine Own.bastore W4 V3 3 (by decide) (by decide) (lb rfl) hn_b (k3 b sb) (x' := ((ch >>> ((8 : Int32) &&& 31)).toInt8.toInt32)) (Own.nar_b8 _) d24_52 53 rfl ?_
  intro T5 h5 W5 Q5 A5 k5
  have V5 : Arv G.Z h5 b kb .byte (4 : Int32) [w0, w1, (.int (ch.toInt8.toInt32)), (.int ((ch >>> ((8 : Int32) &&& 31)).toInt8.toInt32))] (.int 0) := A5
  exact Own.retV W5 (by decide) (by decide) rfl d24_53 ⟨rfl, (Keep.wr (Keep.wr (Keep.refl h [b]) Q3 (Or.inl (List.mem_singleton.mpr rfl))) Q5 (Or.inl (List.mem_singleton.mpr rfl))), V5⟩
set_option maxRecDepth 65536 in
set_option maxHeartbeats 40000000 in
theorem con_put3_0 {G : Own.Gl} (hw : ∀ d ∈ tables_1, d.before G.a0 G.Z = true) (hEL : EW G.Z G.a0 G.EL) (TA : Sta G.Z G.Z.heap "java/lang/StringUTF16" "$assertionsDisabled" "Z" (.int 1)) (TH : Sta G.Z G.Z.heap "java/lang/StringUTF16" "HI_BYTE_SHIFT" "I" (.int 0)) (TL : Sta G.Z G.Z.heap "java/lang/StringUTF16" "LO_BYTE_SHIFT" "I" (.int 8)) {b : Addr} {kb : ClassId} {w0 w1 w2 w3 w4 w5 : Value} {ii : Int32} (hii : ii = 0) (ch : Int32) {h : Heap} (hO : Old G.Z G.n0 h) (hn_b : G.n0 ≤ b) (A : Arv G.Z h b kb .byte 6 [w0, w1, w2, w3, w4, w5] (.int 0)) :
    Own.Con G [] bPut3_0 #[.ref b, .int ii, .int ch] h [b] (fun v h' => v = none ∧ Keep h h' [b] ∧ Arv G.Z h' b kb .byte 6 [.int (StrChars.lo8 ch), .int (StrChars.hi8 ch), w2, w3, w4, w5] (.int 0)) := by
  refine Own.Con.intro (plainFor_of_name pn_0) hO hEL _ (fun m => ef_bPut3_0 m b ii ch) ?_
  intro X T0 W0 sf
  subst hii
  have sb := sf b (List.mem_singleton.mpr rfl)
  refine Own.getS W0 (tw hw 107 rfl) Via.refl (W0.sta TA) d24_0 3 rfl ?_
  intro T1 W1
  refine Own.ifYes W1 d24_3 28 (by decide) (by decide) (by decide) ?_
  refine Own.iloadN W1 d24_28 29 rfl 0 rfl ?_
  refine Own.iconst W1 d24_29 30 rfl 1 rfl ?_
  refine Own.ishl W1 d24_30 31 rfl ?_
  rw [show ((0 : Int32) <<< ((1 : Int32) &&& 31)) = (0 : Int32) by decide]
  refine Own.istoreN W1 d24_31 32 rfl #[.val (.ref b), .val (.int 0), .val (.int ch)] rfl ?_
  refine Own.aloadN W1 d24_32 33 rfl (.ref b) rfl rfl ?_
  refine Own.iloadN W1 d24_33 34 rfl 0 rfl ?_
  refine Own.iinc W1 d24_34 37 rfl rfl #[.val (.ref b), .val (.int 1), .val (.int ch)] rfl ?_
  refine Own.iloadN W1 d24_37 38 rfl ch rfl ?_
  refine Own.getS W1 (tw hw 108 rfl) Via.refl (W1.sta TH) d24_38 41 rfl ?_
  intro T2 W2
  refine Own.ishr W2 d24_41 42 rfl ?_
  rw [Own.shrZ]
  refine Own.i2b W2 d24_42 43 rfl ?_
  refine Own.bastore W2 A 0 (by decide) (by decide) (lb rfl) hn_b sb (x' := (ch.toInt8.toInt32)) (Own.nar_b8 _) d24_43 44 rfl ?_
  intro T3 h3 W3 Q3 A3 k3
  have V3 : Arv G.Z h3 b kb .byte (6 : Int32) [(.int (ch.toInt8.toInt32)), w1, w2, w3, w4, w5] (.int 0) := A3
  refine Own.aloadN W3 d24_44 45 rfl (.ref b) rfl rfl ?_
  refine Own.iloadN W3 d24_45 46 rfl 1 rfl ?_
  refine Own.iloadN W3 d24_46 47 rfl ch rfl ?_
  refine Own.getS W3 (tw hw 109 rfl) Via.refl (W3.sta TL) d24_47 50 rfl ?_
  intro T4 W4
  refine Own.ishr W4 d24_50 51 rfl ?_
  refine Own.i2b W4 d24_51 52 rfl ?_
  refine Own.bastore W4 V3 1 (by decide) (by decide) (lb rfl) hn_b (k3 b sb) (x' := ((ch >>> ((8 : Int32) &&& 31)).toInt8.toInt32)) (Own.nar_b8 _) d24_52 53 rfl ?_
  intro T5 h5 W5 Q5 A5 k5
  have V5 : Arv G.Z h5 b kb .byte (6 : Int32) [(.int (ch.toInt8.toInt32)), (.int ((ch >>> ((8 : Int32) &&& 31)).toInt8.toInt32)), w2, w3, w4, w5] (.int 0) := A5
  exact Own.retV W5 (by decide) (by decide) rfl d24_53 ⟨rfl, (Keep.wr (Keep.wr (Keep.refl h [b]) Q3 (Or.inl (List.mem_singleton.mpr rfl))) Q5 (Or.inl (List.mem_singleton.mpr rfl))), V5⟩
set_option maxRecDepth 65536 in
set_option maxHeartbeats 40000000 in
theorem con_put3_1 {G : Own.Gl} (hw : ∀ d ∈ tables_1, d.before G.a0 G.Z = true) (hEL : EW G.Z G.a0 G.EL) (TA : Sta G.Z G.Z.heap "java/lang/StringUTF16" "$assertionsDisabled" "Z" (.int 1)) (TH : Sta G.Z G.Z.heap "java/lang/StringUTF16" "HI_BYTE_SHIFT" "I" (.int 0)) (TL : Sta G.Z G.Z.heap "java/lang/StringUTF16" "LO_BYTE_SHIFT" "I" (.int 8)) {b : Addr} {kb : ClassId} {w0 w1 w2 w3 w4 w5 : Value} {ii : Int32} (hii : ii = 1) (ch : Int32) {h : Heap} (hO : Old G.Z G.n0 h) (hn_b : G.n0 ≤ b) (A : Arv G.Z h b kb .byte 6 [w0, w1, w2, w3, w4, w5] (.int 0)) :
    Own.Con G [] bPut3_1 #[.ref b, .int ii, .int ch] h [b] (fun v h' => v = none ∧ Keep h h' [b] ∧ Arv G.Z h' b kb .byte 6 [w0, w1, .int (StrChars.lo8 ch), .int (StrChars.hi8 ch), w4, w5] (.int 0)) := by
  refine Own.Con.intro (plainFor_of_name pn_0) hO hEL _ (fun m => ef_bPut3_1 m b ii ch) ?_
  intro X T0 W0 sf
  subst hii
  have sb := sf b (List.mem_singleton.mpr rfl)
  refine Own.getS W0 (tw hw 107 rfl) Via.refl (W0.sta TA) d24_0 3 rfl ?_
  intro T1 W1
  refine Own.ifYes W1 d24_3 28 (by decide) (by decide) (by decide) ?_
  refine Own.iloadN W1 d24_28 29 rfl 1 rfl ?_
  refine Own.iconst W1 d24_29 30 rfl 1 rfl ?_
  refine Own.ishl W1 d24_30 31 rfl ?_
  rw [show ((1 : Int32) <<< ((1 : Int32) &&& 31)) = (2 : Int32) by decide]
  refine Own.istoreN W1 d24_31 32 rfl #[.val (.ref b), .val (.int 2), .val (.int ch)] rfl ?_
  refine Own.aloadN W1 d24_32 33 rfl (.ref b) rfl rfl ?_
  refine Own.iloadN W1 d24_33 34 rfl 2 rfl ?_
  refine Own.iinc W1 d24_34 37 rfl rfl #[.val (.ref b), .val (.int 3), .val (.int ch)] rfl ?_
  refine Own.iloadN W1 d24_37 38 rfl ch rfl ?_
  refine Own.getS W1 (tw hw 108 rfl) Via.refl (W1.sta TH) d24_38 41 rfl ?_
  intro T2 W2
  refine Own.ishr W2 d24_41 42 rfl ?_
  rw [Own.shrZ]
  refine Own.i2b W2 d24_42 43 rfl ?_
  refine Own.bastore W2 A 2 (by decide) (by decide) (lb rfl) hn_b sb (x' := (ch.toInt8.toInt32)) (Own.nar_b8 _) d24_43 44 rfl ?_
  intro T3 h3 W3 Q3 A3 k3
  have V3 : Arv G.Z h3 b kb .byte (6 : Int32) [w0, w1, (.int (ch.toInt8.toInt32)), w3, w4, w5] (.int 0) := A3
  refine Own.aloadN W3 d24_44 45 rfl (.ref b) rfl rfl ?_
  refine Own.iloadN W3 d24_45 46 rfl 3 rfl ?_
  refine Own.iloadN W3 d24_46 47 rfl ch rfl ?_
  refine Own.getS W3 (tw hw 109 rfl) Via.refl (W3.sta TL) d24_47 50 rfl ?_
  intro T4 W4
  refine Own.ishr W4 d24_50 51 rfl ?_
  refine Own.i2b W4 d24_51 52 rfl ?_
  refine Own.bastore W4 V3 3 (by decide) (by decide) (lb rfl) hn_b (k3 b sb) (x' := ((ch >>> ((8 : Int32) &&& 31)).toInt8.toInt32)) (Own.nar_b8 _) d24_52 53 rfl ?_
  intro T5 h5 W5 Q5 A5 k5
  have V5 : Arv G.Z h5 b kb .byte (6 : Int32) [w0, w1, (.int (ch.toInt8.toInt32)), (.int ((ch >>> ((8 : Int32) &&& 31)).toInt8.toInt32)), w4, w5] (.int 0) := A5
  exact Own.retV W5 (by decide) (by decide) rfl d24_53 ⟨rfl, (Keep.wr (Keep.wr (Keep.refl h [b]) Q3 (Or.inl (List.mem_singleton.mpr rfl))) Q5 (Or.inl (List.mem_singleton.mpr rfl))), V5⟩
set_option maxRecDepth 65536 in
set_option maxHeartbeats 40000000 in
theorem con_put3_2 {G : Own.Gl} (hw : ∀ d ∈ tables_1, d.before G.a0 G.Z = true) (hEL : EW G.Z G.a0 G.EL) (TA : Sta G.Z G.Z.heap "java/lang/StringUTF16" "$assertionsDisabled" "Z" (.int 1)) (TH : Sta G.Z G.Z.heap "java/lang/StringUTF16" "HI_BYTE_SHIFT" "I" (.int 0)) (TL : Sta G.Z G.Z.heap "java/lang/StringUTF16" "LO_BYTE_SHIFT" "I" (.int 8)) {b : Addr} {kb : ClassId} {w0 w1 w2 w3 w4 w5 : Value} {ii : Int32} (hii : ii = 2) (ch : Int32) {h : Heap} (hO : Old G.Z G.n0 h) (hn_b : G.n0 ≤ b) (A : Arv G.Z h b kb .byte 6 [w0, w1, w2, w3, w4, w5] (.int 0)) :
    Own.Con G [] bPut3_2 #[.ref b, .int ii, .int ch] h [b] (fun v h' => v = none ∧ Keep h h' [b] ∧ Arv G.Z h' b kb .byte 6 [w0, w1, w2, w3, .int (StrChars.lo8 ch), .int (StrChars.hi8 ch)] (.int 0)) := by
  refine Own.Con.intro (plainFor_of_name pn_0) hO hEL _ (fun m => ef_bPut3_2 m b ii ch) ?_
  intro X T0 W0 sf
  subst hii
  have sb := sf b (List.mem_singleton.mpr rfl)
  refine Own.getS W0 (tw hw 107 rfl) Via.refl (W0.sta TA) d24_0 3 rfl ?_
  intro T1 W1
  refine Own.ifYes W1 d24_3 28 (by decide) (by decide) (by decide) ?_
  refine Own.iloadN W1 d24_28 29 rfl 2 rfl ?_
  refine Own.iconst W1 d24_29 30 rfl 1 rfl ?_
  refine Own.ishl W1 d24_30 31 rfl ?_
  rw [show ((2 : Int32) <<< ((1 : Int32) &&& 31)) = (4 : Int32) by decide]
  refine Own.istoreN W1 d24_31 32 rfl #[.val (.ref b), .val (.int 4), .val (.int ch)] rfl ?_
  refine Own.aloadN W1 d24_32 33 rfl (.ref b) rfl rfl ?_
  refine Own.iloadN W1 d24_33 34 rfl 4 rfl ?_
  refine Own.iinc W1 d24_34 37 rfl rfl #[.val (.ref b), .val (.int 5), .val (.int ch)] rfl ?_
  refine Own.iloadN W1 d24_37 38 rfl ch rfl ?_
  refine Own.getS W1 (tw hw 108 rfl) Via.refl (W1.sta TH) d24_38 41 rfl ?_
  intro T2 W2
  refine Own.ishr W2 d24_41 42 rfl ?_
  rw [Own.shrZ]
  refine Own.i2b W2 d24_42 43 rfl ?_
  refine Own.bastore W2 A 4 (by decide) (by decide) (lb rfl) hn_b sb (x' := (ch.toInt8.toInt32)) (Own.nar_b8 _) d24_43 44 rfl ?_
  intro T3 h3 W3 Q3 A3 k3
  have V3 : Arv G.Z h3 b kb .byte (6 : Int32) [w0, w1, w2, w3, (.int (ch.toInt8.toInt32)), w5] (.int 0) := A3
  refine Own.aloadN W3 d24_44 45 rfl (.ref b) rfl rfl ?_
  refine Own.iloadN W3 d24_45 46 rfl 5 rfl ?_
  refine Own.iloadN W3 d24_46 47 rfl ch rfl ?_
  refine Own.getS W3 (tw hw 109 rfl) Via.refl (W3.sta TL) d24_47 50 rfl ?_
  intro T4 W4
  refine Own.ishr W4 d24_50 51 rfl ?_
  refine Own.i2b W4 d24_51 52 rfl ?_
  refine Own.bastore W4 V3 5 (by decide) (by decide) (lb rfl) hn_b (k3 b sb) (x' := ((ch >>> ((8 : Int32) &&& 31)).toInt8.toInt32)) (Own.nar_b8 _) d24_52 53 rfl ?_
  intro T5 h5 W5 Q5 A5 k5
  have V5 : Arv G.Z h5 b kb .byte (6 : Int32) [w0, w1, w2, w3, (.int (ch.toInt8.toInt32)), (.int ((ch >>> ((8 : Int32) &&& 31)).toInt8.toInt32))] (.int 0) := A5
  exact Own.retV W5 (by decide) (by decide) rfl d24_53 ⟨rfl, (Keep.wr (Keep.wr (Keep.refl h [b]) Q3 (Or.inl (List.mem_singleton.mpr rfl))) Q5 (Or.inl (List.mem_singleton.mpr rfl))), V5⟩
set_option maxRecDepth 65536 in
set_option maxHeartbeats 40000000 in
theorem con_put4_0 {G : Own.Gl} (hw : ∀ d ∈ tables_1, d.before G.a0 G.Z = true) (hEL : EW G.Z G.a0 G.EL) (TA : Sta G.Z G.Z.heap "java/lang/StringUTF16" "$assertionsDisabled" "Z" (.int 1)) (TH : Sta G.Z G.Z.heap "java/lang/StringUTF16" "HI_BYTE_SHIFT" "I" (.int 0)) (TL : Sta G.Z G.Z.heap "java/lang/StringUTF16" "LO_BYTE_SHIFT" "I" (.int 8)) {b : Addr} {kb : ClassId} {w0 w1 w2 w3 w4 w5 w6 w7 : Value} {ii : Int32} (hii : ii = 0) (ch : Int32) {h : Heap} (hO : Old G.Z G.n0 h) (hn_b : G.n0 ≤ b) (A : Arv G.Z h b kb .byte 8 [w0, w1, w2, w3, w4, w5, w6, w7] (.int 0)) :
    Own.Con G [] bPut4_0 #[.ref b, .int ii, .int ch] h [b] (fun v h' => v = none ∧ Keep h h' [b] ∧ Arv G.Z h' b kb .byte 8 [.int (StrChars.lo8 ch), .int (StrChars.hi8 ch), w2, w3, w4, w5, w6, w7] (.int 0)) := by
  refine Own.Con.intro (plainFor_of_name pn_0) hO hEL _ (fun m => ef_bPut4_0 m b ii ch) ?_
  intro X T0 W0 sf
  subst hii
  have sb := sf b (List.mem_singleton.mpr rfl)
  refine Own.getS W0 (tw hw 107 rfl) Via.refl (W0.sta TA) d24_0 3 rfl ?_
  intro T1 W1
  refine Own.ifYes W1 d24_3 28 (by decide) (by decide) (by decide) ?_
  refine Own.iloadN W1 d24_28 29 rfl 0 rfl ?_
  refine Own.iconst W1 d24_29 30 rfl 1 rfl ?_
  refine Own.ishl W1 d24_30 31 rfl ?_
  rw [show ((0 : Int32) <<< ((1 : Int32) &&& 31)) = (0 : Int32) by decide]
  refine Own.istoreN W1 d24_31 32 rfl #[.val (.ref b), .val (.int 0), .val (.int ch)] rfl ?_
  refine Own.aloadN W1 d24_32 33 rfl (.ref b) rfl rfl ?_
  refine Own.iloadN W1 d24_33 34 rfl 0 rfl ?_
  refine Own.iinc W1 d24_34 37 rfl rfl #[.val (.ref b), .val (.int 1), .val (.int ch)] rfl ?_
  refine Own.iloadN W1 d24_37 38 rfl ch rfl ?_
  refine Own.getS W1 (tw hw 108 rfl) Via.refl (W1.sta TH) d24_38 41 rfl ?_
  intro T2 W2
  refine Own.ishr W2 d24_41 42 rfl ?_
  rw [Own.shrZ]
  refine Own.i2b W2 d24_42 43 rfl ?_
  refine Own.bastore W2 A 0 (by decide) (by decide) (lb rfl) hn_b sb (x' := (ch.toInt8.toInt32)) (Own.nar_b8 _) d24_43 44 rfl ?_
  intro T3 h3 W3 Q3 A3 k3
  have V3 : Arv G.Z h3 b kb .byte (8 : Int32) [(.int (ch.toInt8.toInt32)), w1, w2, w3, w4, w5, w6, w7] (.int 0) := A3
  refine Own.aloadN W3 d24_44 45 rfl (.ref b) rfl rfl ?_
  refine Own.iloadN W3 d24_45 46 rfl 1 rfl ?_
  refine Own.iloadN W3 d24_46 47 rfl ch rfl ?_
  refine Own.getS W3 (tw hw 109 rfl) Via.refl (W3.sta TL) d24_47 50 rfl ?_
  intro T4 W4
  refine Own.ishr W4 d24_50 51 rfl ?_
  refine Own.i2b W4 d24_51 52 rfl ?_
  refine Own.bastore W4 V3 1 (by decide) (by decide) (lb rfl) hn_b (k3 b sb) (x' := ((ch >>> ((8 : Int32) &&& 31)).toInt8.toInt32)) (Own.nar_b8 _) d24_52 53 rfl ?_
  intro T5 h5 W5 Q5 A5 k5
  have V5 : Arv G.Z h5 b kb .byte (8 : Int32) [(.int (ch.toInt8.toInt32)), (.int ((ch >>> ((8 : Int32) &&& 31)).toInt8.toInt32)), w2, w3, w4, w5, w6, w7] (.int 0) := A5
  exact Own.retV W5 (by decide) (by decide) rfl d24_53 ⟨rfl, (Keep.wr (Keep.wr (Keep.refl h [b]) Q3 (Or.inl (List.mem_singleton.mpr rfl))) Q5 (Or.inl (List.mem_singleton.mpr rfl))), V5⟩
set_option maxRecDepth 65536 in
set_option maxHeartbeats 40000000 in
theorem con_put4_1 {G : Own.Gl} (hw : ∀ d ∈ tables_1, d.before G.a0 G.Z = true) (hEL : EW G.Z G.a0 G.EL) (TA : Sta G.Z G.Z.heap "java/lang/StringUTF16" "$assertionsDisabled" "Z" (.int 1)) (TH : Sta G.Z G.Z.heap "java/lang/StringUTF16" "HI_BYTE_SHIFT" "I" (.int 0)) (TL : Sta G.Z G.Z.heap "java/lang/StringUTF16" "LO_BYTE_SHIFT" "I" (.int 8)) {b : Addr} {kb : ClassId} {w0 w1 w2 w3 w4 w5 w6 w7 : Value} {ii : Int32} (hii : ii = 1) (ch : Int32) {h : Heap} (hO : Old G.Z G.n0 h) (hn_b : G.n0 ≤ b) (A : Arv G.Z h b kb .byte 8 [w0, w1, w2, w3, w4, w5, w6, w7] (.int 0)) :
    Own.Con G [] bPut4_1 #[.ref b, .int ii, .int ch] h [b] (fun v h' => v = none ∧ Keep h h' [b] ∧ Arv G.Z h' b kb .byte 8 [w0, w1, .int (StrChars.lo8 ch), .int (StrChars.hi8 ch), w4, w5, w6, w7] (.int 0)) := by
  refine Own.Con.intro (plainFor_of_name pn_0) hO hEL _ (fun m => ef_bPut4_1 m b ii ch) ?_
  intro X T0 W0 sf
  subst hii
  have sb := sf b (List.mem_singleton.mpr rfl)
  refine Own.getS W0 (tw hw 107 rfl) Via.refl (W0.sta TA) d24_0 3 rfl ?_
  intro T1 W1
  refine Own.ifYes W1 d24_3 28 (by decide) (by decide) (by decide) ?_
  refine Own.iloadN W1 d24_28 29 rfl 1 rfl ?_
  refine Own.iconst W1 d24_29 30 rfl 1 rfl ?_
  refine Own.ishl W1 d24_30 31 rfl ?_
  rw [show ((1 : Int32) <<< ((1 : Int32) &&& 31)) = (2 : Int32) by decide]
  refine Own.istoreN W1 d24_31 32 rfl #[.val (.ref b), .val (.int 2), .val (.int ch)] rfl ?_
  refine Own.aloadN W1 d24_32 33 rfl (.ref b) rfl rfl ?_
  refine Own.iloadN W1 d24_33 34 rfl 2 rfl ?_
  refine Own.iinc W1 d24_34 37 rfl rfl #[.val (.ref b), .val (.int 3), .val (.int ch)] rfl ?_
  refine Own.iloadN W1 d24_37 38 rfl ch rfl ?_
  refine Own.getS W1 (tw hw 108 rfl) Via.refl (W1.sta TH) d24_38 41 rfl ?_
  intro T2 W2
  refine Own.ishr W2 d24_41 42 rfl ?_
  rw [Own.shrZ]
  refine Own.i2b W2 d24_42 43 rfl ?_
  refine Own.bastore W2 A 2 (by decide) (by decide) (lb rfl) hn_b sb (x' := (ch.toInt8.toInt32)) (Own.nar_b8 _) d24_43 44 rfl ?_
  intro T3 h3 W3 Q3 A3 k3
  have V3 : Arv G.Z h3 b kb .byte (8 : Int32) [w0, w1, (.int (ch.toInt8.toInt32)), w3, w4, w5, w6, w7] (.int 0) := A3
  refine Own.aloadN W3 d24_44 45 rfl (.ref b) rfl rfl ?_
  refine Own.iloadN W3 d24_45 46 rfl 3 rfl ?_
  refine Own.iloadN W3 d24_46 47 rfl ch rfl ?_
  refine Own.getS W3 (tw hw 109 rfl) Via.refl (W3.sta TL) d24_47 50 rfl ?_
  intro T4 W4
  refine Own.ishr W4 d24_50 51 rfl ?_
  refine Own.i2b W4 d24_51 52 rfl ?_
  refine Own.bastore W4 V3 3 (by decide) (by decide) (lb rfl) hn_b (k3 b sb) (x' := ((ch >>> ((8 : Int32) &&& 31)).toInt8.toInt32)) (Own.nar_b8 _) d24_52 53 rfl ?_
  intro T5 h5 W5 Q5 A5 k5
  have V5 : Arv G.Z h5 b kb .byte (8 : Int32) [w0, w1, (.int (ch.toInt8.toInt32)), (.int ((ch >>> ((8 : Int32) &&& 31)).toInt8.toInt32)), w4, w5, w6, w7] (.int 0) := A5
  exact Own.retV W5 (by decide) (by decide) rfl d24_53 ⟨rfl, (Keep.wr (Keep.wr (Keep.refl h [b]) Q3 (Or.inl (List.mem_singleton.mpr rfl))) Q5 (Or.inl (List.mem_singleton.mpr rfl))), V5⟩
set_option maxRecDepth 65536 in
set_option maxHeartbeats 40000000 in
theorem con_put4_2 {G : Own.Gl} (hw : ∀ d ∈ tables_1, d.before G.a0 G.Z = true) (hEL : EW G.Z G.a0 G.EL) (TA : Sta G.Z G.Z.heap "java/lang/StringUTF16" "$assertionsDisabled" "Z" (.int 1)) (TH : Sta G.Z G.Z.heap "java/lang/StringUTF16" "HI_BYTE_SHIFT" "I" (.int 0)) (TL : Sta G.Z G.Z.heap "java/lang/StringUTF16" "LO_BYTE_SHIFT" "I" (.int 8)) {b : Addr} {kb : ClassId} {w0 w1 w2 w3 w4 w5 w6 w7 : Value} {ii : Int32} (hii : ii = 2) (ch : Int32) {h : Heap} (hO : Old G.Z G.n0 h) (hn_b : G.n0 ≤ b) (A : Arv G.Z h b kb .byte 8 [w0, w1, w2, w3, w4, w5, w6, w7] (.int 0)) :
    Own.Con G [] bPut4_2 #[.ref b, .int ii, .int ch] h [b] (fun v h' => v = none ∧ Keep h h' [b] ∧ Arv G.Z h' b kb .byte 8 [w0, w1, w2, w3, .int (StrChars.lo8 ch), .int (StrChars.hi8 ch), w6, w7] (.int 0)) := by
  refine Own.Con.intro (plainFor_of_name pn_0) hO hEL _ (fun m => ef_bPut4_2 m b ii ch) ?_
  intro X T0 W0 sf
  subst hii
  have sb := sf b (List.mem_singleton.mpr rfl)
  refine Own.getS W0 (tw hw 107 rfl) Via.refl (W0.sta TA) d24_0 3 rfl ?_
  intro T1 W1
  refine Own.ifYes W1 d24_3 28 (by decide) (by decide) (by decide) ?_
  refine Own.iloadN W1 d24_28 29 rfl 2 rfl ?_
  refine Own.iconst W1 d24_29 30 rfl 1 rfl ?_
  refine Own.ishl W1 d24_30 31 rfl ?_
  rw [show ((2 : Int32) <<< ((1 : Int32) &&& 31)) = (4 : Int32) by decide]
  refine Own.istoreN W1 d24_31 32 rfl #[.val (.ref b), .val (.int 4), .val (.int ch)] rfl ?_
  refine Own.aloadN W1 d24_32 33 rfl (.ref b) rfl rfl ?_
  refine Own.iloadN W1 d24_33 34 rfl 4 rfl ?_
  refine Own.iinc W1 d24_34 37 rfl rfl #[.val (.ref b), .val (.int 5), .val (.int ch)] rfl ?_
  refine Own.iloadN W1 d24_37 38 rfl ch rfl ?_
  refine Own.getS W1 (tw hw 108 rfl) Via.refl (W1.sta TH) d24_38 41 rfl ?_
  intro T2 W2
  refine Own.ishr W2 d24_41 42 rfl ?_
  rw [Own.shrZ]
  refine Own.i2b W2 d24_42 43 rfl ?_
  refine Own.bastore W2 A 4 (by decide) (by decide) (lb rfl) hn_b sb (x' := (ch.toInt8.toInt32)) (Own.nar_b8 _) d24_43 44 rfl ?_
  intro T3 h3 W3 Q3 A3 k3
  have V3 : Arv G.Z h3 b kb .byte (8 : Int32) [w0, w1, w2, w3, (.int (ch.toInt8.toInt32)), w5, w6, w7] (.int 0) := A3
  refine Own.aloadN W3 d24_44 45 rfl (.ref b) rfl rfl ?_
  refine Own.iloadN W3 d24_45 46 rfl 5 rfl ?_
  refine Own.iloadN W3 d24_46 47 rfl ch rfl ?_
  refine Own.getS W3 (tw hw 109 rfl) Via.refl (W3.sta TL) d24_47 50 rfl ?_
  intro T4 W4
  refine Own.ishr W4 d24_50 51 rfl ?_
  refine Own.i2b W4 d24_51 52 rfl ?_
  refine Own.bastore W4 V3 5 (by decide) (by decide) (lb rfl) hn_b (k3 b sb) (x' := ((ch >>> ((8 : Int32) &&& 31)).toInt8.toInt32)) (Own.nar_b8 _) d24_52 53 rfl ?_
  intro T5 h5 W5 Q5 A5 k5
  have V5 : Arv G.Z h5 b kb .byte (8 : Int32) [w0, w1, w2, w3, (.int (ch.toInt8.toInt32)), (.int ((ch >>> ((8 : Int32) &&& 31)).toInt8.toInt32)), w6, w7] (.int 0) := A5
  exact Own.retV W5 (by decide) (by decide) rfl d24_53 ⟨rfl, (Keep.wr (Keep.wr (Keep.refl h [b]) Q3 (Or.inl (List.mem_singleton.mpr rfl))) Q5 (Or.inl (List.mem_singleton.mpr rfl))), V5⟩
set_option maxRecDepth 65536 in
set_option maxHeartbeats 40000000 in
theorem con_put4_3 {G : Own.Gl} (hw : ∀ d ∈ tables_1, d.before G.a0 G.Z = true) (hEL : EW G.Z G.a0 G.EL) (TA : Sta G.Z G.Z.heap "java/lang/StringUTF16" "$assertionsDisabled" "Z" (.int 1)) (TH : Sta G.Z G.Z.heap "java/lang/StringUTF16" "HI_BYTE_SHIFT" "I" (.int 0)) (TL : Sta G.Z G.Z.heap "java/lang/StringUTF16" "LO_BYTE_SHIFT" "I" (.int 8)) {b : Addr} {kb : ClassId} {w0 w1 w2 w3 w4 w5 w6 w7 : Value} {ii : Int32} (hii : ii = 3) (ch : Int32) {h : Heap} (hO : Old G.Z G.n0 h) (hn_b : G.n0 ≤ b) (A : Arv G.Z h b kb .byte 8 [w0, w1, w2, w3, w4, w5, w6, w7] (.int 0)) :
    Own.Con G [] bPut4_3 #[.ref b, .int ii, .int ch] h [b] (fun v h' => v = none ∧ Keep h h' [b] ∧ Arv G.Z h' b kb .byte 8 [w0, w1, w2, w3, w4, w5, .int (StrChars.lo8 ch), .int (StrChars.hi8 ch)] (.int 0)) := by
  refine Own.Con.intro (plainFor_of_name pn_0) hO hEL _ (fun m => ef_bPut4_3 m b ii ch) ?_
  intro X T0 W0 sf
  subst hii
  have sb := sf b (List.mem_singleton.mpr rfl)
  refine Own.getS W0 (tw hw 107 rfl) Via.refl (W0.sta TA) d24_0 3 rfl ?_
  intro T1 W1
  refine Own.ifYes W1 d24_3 28 (by decide) (by decide) (by decide) ?_
  refine Own.iloadN W1 d24_28 29 rfl 3 rfl ?_
  refine Own.iconst W1 d24_29 30 rfl 1 rfl ?_
  refine Own.ishl W1 d24_30 31 rfl ?_
  rw [show ((3 : Int32) <<< ((1 : Int32) &&& 31)) = (6 : Int32) by decide]
  refine Own.istoreN W1 d24_31 32 rfl #[.val (.ref b), .val (.int 6), .val (.int ch)] rfl ?_
  refine Own.aloadN W1 d24_32 33 rfl (.ref b) rfl rfl ?_
  refine Own.iloadN W1 d24_33 34 rfl 6 rfl ?_
  refine Own.iinc W1 d24_34 37 rfl rfl #[.val (.ref b), .val (.int 7), .val (.int ch)] rfl ?_
  refine Own.iloadN W1 d24_37 38 rfl ch rfl ?_
  refine Own.getS W1 (tw hw 108 rfl) Via.refl (W1.sta TH) d24_38 41 rfl ?_
  intro T2 W2
  refine Own.ishr W2 d24_41 42 rfl ?_
  rw [Own.shrZ]
  refine Own.i2b W2 d24_42 43 rfl ?_
  refine Own.bastore W2 A 6 (by decide) (by decide) (lb rfl) hn_b sb (x' := (ch.toInt8.toInt32)) (Own.nar_b8 _) d24_43 44 rfl ?_
  intro T3 h3 W3 Q3 A3 k3
  have V3 : Arv G.Z h3 b kb .byte (8 : Int32) [w0, w1, w2, w3, w4, w5, (.int (ch.toInt8.toInt32)), w7] (.int 0) := A3
  refine Own.aloadN W3 d24_44 45 rfl (.ref b) rfl rfl ?_
  refine Own.iloadN W3 d24_45 46 rfl 7 rfl ?_
  refine Own.iloadN W3 d24_46 47 rfl ch rfl ?_
  refine Own.getS W3 (tw hw 109 rfl) Via.refl (W3.sta TL) d24_47 50 rfl ?_
  intro T4 W4
  refine Own.ishr W4 d24_50 51 rfl ?_
  refine Own.i2b W4 d24_51 52 rfl ?_
  refine Own.bastore W4 V3 7 (by decide) (by decide) (lb rfl) hn_b (k3 b sb) (x' := ((ch >>> ((8 : Int32) &&& 31)).toInt8.toInt32)) (Own.nar_b8 _) d24_52 53 rfl ?_
  intro T5 h5 W5 Q5 A5 k5
  have V5 : Arv G.Z h5 b kb .byte (8 : Int32) [w0, w1, w2, w3, w4, w5, (.int (ch.toInt8.toInt32)), (.int ((ch >>> ((8 : Int32) &&& 31)).toInt8.toInt32))] (.int 0) := A5
  exact Own.retV W5 (by decide) (by decide) rfl d24_53 ⟨rfl, (Keep.wr (Keep.wr (Keep.refl h [b]) Q3 (Or.inl (List.mem_singleton.mpr rfl))) Q5 (Or.inl (List.mem_singleton.mpr rfl))), V5⟩
set_option maxRecDepth 65536 in
set_option maxHeartbeats 40000000 in
theorem con_nbl1 {G : Own.Gl} (hw : ∀ d ∈ tables_1, d.before G.a0 G.Z = true) (hEL : EW G.Z G.a0 G.EL) {k : Int32} (hk : k = 1) {h : Heap} (hO : Old G.Z G.n0 h) :
    Own.Con G [] bNbl1 #[.int k] h [] (fun v h' => v = some (.int 2) ∧ h' = h) := by
  refine Own.Con.intro (plainFor_of_name pn_0) hO hEL _ (fun m => ef_bNbl1 m k) ?_
  intro X T0 W0 sf
  subst hk
  refine Own.iloadN W0 d23_0 1 rfl 1 rfl ?_
  refine Own.ifYes W0 d23_1 12 (by decide) (by decide) (by decide) ?_
  refine Own.iloadN W0 d23_12 13 rfl 1 rfl ?_
  refine Own.ldcI W0 (tw hw 103 rfl) d23_13 15 rfl ?_
  refine Own.icmpYes W0 d23_15 55 (by decide) (by decide) (by decide) ?_
  refine Own.iloadN W0 d23_55 56 rfl 1 rfl ?_
  refine Own.iconst W0 d23_56 57 rfl 1 rfl ?_
  refine Own.ishl W0 d23_57 58 rfl ?_
  exact Own.retI W0 (by decide) (by decide) rfl d23_58 ⟨by decide, rfl⟩
set_option maxRecDepth 65536 in
set_option maxHeartbeats 40000000 in
theorem con_nbf1 {G : Own.Gl} (hw : ∀ d ∈ tables_1, d.before G.a0 G.Z = true) (hEL : EW G.Z G.a0 G.EL) {k : Int32} (hk : k = 1) {h : Heap} (hO : Old G.Z G.n0 h) :
    Own.Con G [] bNbf1 #[.int k] h [] (fun v h' => ∃ (o : Addr) (ko : ClassId), v = some (.ref o) ∧ Ext h h' ∧ h.size ≤ o ∧ Arv G.Z h' o ko .byte 2 [.int 0, .int 0] (.int 0)) := by
  refine Own.Con.intro (plainFor_of_name pn_0) hO hEL _ (fun m => ef_bNbf1 m k) ?_
  intro X T0 W0 sf
  subst hk
  refine Own.iloadN W0 d22_0 1 rfl 1 rfl ?_
  refine Own.callS W0 (tw hw 100 rfl) (tw hw 101 rfl) (tw hw 54 rfl) (tw hw 102 rfl) (by decide) (argsL := [.int 1]) (rest := []) (Own.Con.pay (con_nbl1 hw hEL rfl W0.old) W0 (tw hw 102 rfl) (tw hw 54 rfl) (len := 3) (wd := 0) (by decide) (by decide) (fun _ q => nomatch q)) rfl (lenOf pd_0 rfl) rfl (lb rfl) d22_1 4 rfl 0 0 (lb rfl) (lb rfl) (lb rfl) (lb rfl) ?_
  intro v1 T1 h1 u1 W1 R1 hq
  obtain ⟨rfl, eh1⟩ := hq
  have ei1 := eh1.symm; subst ei1
  show Own.Go _ _ _ _ _ 4 #[.val (.int 1)] [.int 2]
  refine Own.newA W1 (tw hw 15 rfl) d22_4 6 rfl (by decide) 2 (by decide) (by decide) 1 2 (by decide) (by decide) (by decide) (by decide) ?_
  intro T2 h2 o2 c2 g2 W2 E2 A2 s2 k2
  have V2 : Arv G.Z h2 o2 c2 .byte (2 : Int32) [.int 0, .int 0] (.int 0) := A2
  have X3 : Ext h h2 := E2
  exact Own.retA W2 (by decide) (by decide) rfl rfl rfl d22_6 ⟨o2, _, rfl, X3, (Nat.le_of_eq g2.symm), V2⟩
set_option maxRecDepth 65536 in
set_option maxHeartbeats 40000000 in
theorem con_tob1 {G : Own.Gl} (hw : ∀ d ∈ tables_1, d.before G.a0 G.Z = true) (hEL : EW G.Z G.a0 G.EL) (TA : Sta G.Z G.Z.heap "java/lang/StringUTF16" "$assertionsDisabled" "Z" (.int 1)) (TH : Sta G.Z G.Z.heap "java/lang/StringUTF16" "HI_BYTE_SHIFT" "I" (.int 0)) (TL : Sta G.Z G.Z.heap "java/lang/StringUTF16" "LO_BYTE_SHIFT" "I" (.int 8)) (hEN2 : Own.EN G.Z G.a0 G.EL 2) {ch0 : Int32} {of ln : Int32} (hof : of = 0) (hln : ln = 1) {h : Heap} (hO : Old G.Z G.n0 h) {a : Addr} {kC : ClassId} {dv : Value} (Ac : Arv G.Z h a kC .char 1 [.int ch0] dv) :
    Own.Con G [] bTob1 #[.ref a, .int of, .int ln] h [] (fun v h' => ∃ (o : Addr) (ko : ClassId), v = some (.ref o) ∧ Ext h h' ∧ h.size ≤ o ∧ Arv G.Z h' o ko .byte 2 [(.int (StrChars.lo8 ch0)), (.int (StrChars.hi8 ch0))] (.int 0)) := by
  refine Own.Con.intro (plainFor_of_name pn_0) hO hEL _ (fun m => ef_bTob1 m a of ln) ?_
  intro X T0 W0 sf
  subst hof; subst hln
  refine Own.iloadN W0 d21_0 1 rfl 1 rfl ?_
  refine Own.callS W0 (tw hw 97 rfl) (tw hw 98 rfl) (tw hw 54 rfl) (tw hw 99 rfl) (by decide) (argsL := [.int 1]) (rest := []) (Own.Con.pay (con_nbf1 hw hEL rfl W0.old) W0 (tw hw 99 rfl) (tw hw 54 rfl) (len := 3) (wd := 0) (by decide) (by decide) (fun _ q => nomatch q)) rfl (lenOf pd_1 rfl) rfl (lb rfl) d21_1 4 rfl 1 2 (lb rfl) (lb rfl) (lb rfl) (lb rfl) ?_
  intro v1 T1 h1 u1 W1 R1 hq
  obtain ⟨o1, k1, rfl, E1, g1, A1⟩ := hq
  show Own.Go _ _ _ _ _ 4 #[.val (.ref a), .val (.int 0), .val (.int 1), .unset, .unset] [(.ref o1)]
  refine Own.astoreN W1 d21_4 5 rfl rfl #[.val (.ref a), .val (.int 0), .val (.int 1), .val (.ref o1), .unset] rfl ?_
  refine Own.iconst W1 d21_5 6 rfl 0 rfl ?_
  refine Own.istore W1 d21_6 8 rfl #[.val (.ref a), .val (.int 0), .val (.int 1), .val (.ref o1), .val (.int 0)] rfl ?_
  refine Own.iload W1 d21_8 10 rfl 0 rfl ?_
  refine Own.iloadN W1 d21_10 11 rfl 1 rfl ?_
  refine Own.icmpNo W1 d21_11 14 (by decide) rfl ?_
  refine Own.aloadN W1 d21_14 15 rfl (.ref o1) rfl rfl ?_
  refine Own.iload W1 d21_15 17 rfl 0 rfl ?_
  refine Own.aloadN W1 d21_17 18 rfl (.ref a) rfl rfl ?_
  refine Own.iloadN W1 d21_18 19 rfl 0 rfl ?_
  have X2 : Ext h h1 := E1
  refine Own.caload W1 (Ac.ext X2) (by decide) (.int ch0) rfl d21_19 20 rfl ?_
  refine Own.callS W1 (tw hw 104 rfl) (tw hw 105 rfl) (tw hw 54 rfl) (tw hw 106 rfl) (by decide) (argsL := [(.ref o1), .int 0, (.int ch0)]) (rest := []) (Own.Con.pay (con_put1_0 hw hEL TA TH TL rfl ch0 W1.old (Nat.le_trans W0.n0 g1) A1) W1 (tw hw 106 rfl) (tw hw 54 rfl) (len := 3) (wd := 0) (by decide) (by decide) (fun y hy => by cases List.mem_singleton.mp hy; exact ⟨A1.lt, Own.Safe.len W1.wz hEN2 A1 (by decide)⟩)) rfl (lenOf pd_2 rfl) rfl (lb rfl) d21_20 23 rfl 1 2 (lb rfl) (lb rfl) (lb rfl) (lb rfl) ?_
  intro v3 T3 h3 u3 W3 R3 hq
  obtain ⟨rfl, K3, A3⟩ := hq
  show Own.Go _ _ _ _ _ 23 #[.val (.ref a), .val (.int 0), .val (.int 1), .val (.ref o1), .val (.int 0)] []
  refine Own.iinc W3 d21_23 26 rfl rfl #[.val (.ref a), .val (.int 1), .val (.int 1), .val (.ref o1), .val (.int 0)] rfl ?_
  refine Own.iinc W3 d21_26 29 rfl rfl #[.val (.ref a), .val (.int 1), .val (.int 1), .val (.ref o1), .val (.int 1)] rfl ?_
  refine Own.goto W3 d21_29 8 (by decide) (by decide) ?_
  refine Own.iload W3 d21_8 10 rfl 1 rfl ?_
  refine Own.iloadN W3 d21_10 11 rfl 1 rfl ?_
  refine Own.icmpYes W3 d21_11 32 (by decide) (by decide) (by decide) ?_
  refine Own.aloadN W3 d21_32 33 rfl (.ref o1) rfl rfl ?_
  have X4 : Ext h h3 := Own.Ext.kp X2 K3 (allS g1 all0)
  exact Own.retA W3 (by decide) (by decide) rfl rfl rfl d21_33 ⟨o1, _, rfl, X4, g1, A3⟩
set_option maxRecDepth 65536 in
set_option maxHeartbeats 40000000 in
theorem con_gc1_0 {G : Own.Gl} (hw : ∀ d ∈ tables_1, d.before G.a0 G.Z = true) (hEL : EW G.Z G.a0 G.EL) (TA : Sta G.Z G.Z.heap "java/lang/StringUTF16" "$assertionsDisabled" "Z" (.int 1)) (TH : Sta G.Z G.Z.heap "java/lang/StringUTF16" "HI_BYTE_SHIFT" "I" (.int 0)) (TL : Sta G.Z G.Z.heap "java/lang/StringUTF16" "LO_BYTE_SHIFT" "I" (.int 8)) {ch0 : Int32} (r0 : Own.R16 ch0) {b : Addr} {kb : ClassId} {ii : Int32} (hii : ii = 0) {h : Heap} (hO : Old G.Z G.n0 h) (A : Arv G.Z h b kb .byte 2 [(.int (StrChars.lo8 ch0)), (.int (StrChars.hi8 ch0))] (.int 0)) :
    Own.Con G [] bGc1_0 #[.ref b, .int ii] h [] (fun v h' => v = some (.int ch0) ∧ h' = h) := by
  refine Own.Con.intro (plainFor_of_name pn_0) hO hEL _ (fun m => ef_bGc1_0 m b ii) ?_
  intro X T0 W0 sf
  subst hii
  refine Own.getS W0 (tw hw 107 rfl) Via.refl (W0.sta TA) d25_0 3 rfl ?_
  intro T1 W1
  refine Own.ifYes W1 d25_3 28 (by decide) (by decide) (by decide) ?_
  refine Own.iloadN W1 d25_28 29 rfl 0 rfl ?_
  refine Own.iconst W1 d25_29 30 rfl 1 rfl ?_
  refine Own.ishl W1 d25_30 31 rfl ?_
  rw [show ((0 : Int32) <<< ((1 : Int32) &&& 31)) = (0 : Int32) by decide]
  refine Own.istoreN W1 d25_31 32 rfl #[.val (.ref b), .val (.int 0)] rfl ?_
  refine Own.aloadN W1 d25_32 33 rfl (.ref b) rfl rfl ?_
  refine Own.iloadN W1 d25_33 34 rfl 0 rfl ?_
  refine Own.iinc W1 d25_34 37 rfl rfl #[.val (.ref b), .val (.int 1)] rfl ?_
  refine Own.baload W1 A (by decide) (.int (StrChars.lo8 ch0)) rfl d25_37 38 rfl ?_
  refine Own.sipush W1 d25_38 41 rfl 255 rfl ?_
  refine Own.iand W1 d25_41 42 rfl ?_
  refine Own.getS W1 (tw hw 108 rfl) Via.refl (W1.sta TH) d25_42 45 rfl ?_
  intro T2 W2
  refine Own.ishl W2 d25_45 46 rfl ?_
  refine Own.aloadN W2 d25_46 47 rfl (.ref b) rfl rfl ?_
  refine Own.iloadN W2 d25_47 48 rfl 1 rfl ?_
  refine Own.baload W2 A (by decide) (.int (StrChars.hi8 ch0)) rfl d25_48 49 rfl ?_
  refine Own.sipush W2 d25_49 52 rfl 255 rfl ?_
  refine Own.iand W2 d25_52 53 rfl ?_
  refine Own.getS W2 (tw hw 109 rfl) Via.refl (W2.sta TL) d25_53 56 rfl ?_
  intro T3 W3
  refine Own.ishl W3 d25_56 57 rfl ?_
  refine Own.ior W3 d25_57 58 rfl ?_
  refine Own.i2c W3 d25_58 59 rfl ?_
  show Own.Go _ _ _ _ _ 59 #[.val (.ref b), .val (.int 1)] [.int (StrChars.pairCh (StrChars.lo8 ch0) (StrChars.hi8 ch0))]
  rw [StrChars.pair_says r0.1 r0.2]
  exact Own.retC W3 (by decide) (by decide) rfl d25_59 (Own.narC r0) ⟨rfl, rfl⟩
set_option maxRecDepth 65536 in
set_option maxHeartbeats 40000000 in
theorem con_c51 {G : Own.Gl} (hw : ∀ d ∈ tables_1, d.before G.a0 G.Z = true) (hEL : EW G.Z G.a0 G.EL) {ch0 : Int32} (hw255 : (255 : Int32) < ch0) {o1 o2 ln : Int32} (ho1 : o1 = 0) (ho2 : o2 = 0) (hln : ln = 1) {d : Addr} {kd : ClassId} {h : Heap} (hO : Old G.Z G.n0 h) (hn_d : G.n0 ≤ d) {a : Addr} {kC : ClassId} {dv : Value} (Ac : Arv G.Z h a kC .char 1 [.int ch0] dv) (had : a ≠ d) (Ad : Arv G.Z h d kd .byte 1 [.int 0] (.int 0)) :
    Own.Con G [] bC51 #[.ref a, .int o1, .ref d, .int o2, .int ln] h [d] (fun v h' => ((v = some (.int 0) ∧ (255 : Int32) < ch0)) ∧ Keep h h' [d]) := by
  refine Own.Con.intro (plainFor_of_name pn_0) hO hEL _ (fun m => ef_bC51 m a o1 d o2 ln) ?_
  intro X T0 W0 sf
  subst ho1; subst ho2; subst hln
  have sd := sf d (List.mem_singleton.mpr rfl)
  refine Own.iconst W0 d12_0 1 rfl 0 rfl ?_
  refine Own.istore W0 d12_1 3 rfl #[.val (.ref a), .val (.int 0), .val (.ref d), .val (.int 0), .val (.int 1), .val (.int 0), .unset] rfl ?_
  refine Own.iload W0 d12_3 5 rfl 0 rfl ?_
  refine Own.iload W0 d12_5 7 rfl 1 rfl ?_
  refine Own.icmpNo W0 d12_7 10 (by decide) rfl ?_
  refine Own.aloadN W0 d12_10 11 rfl (.ref a) rfl rfl ?_
  refine Own.iloadN W0 d12_11 12 rfl 0 rfl ?_
  refine Own.caload W0 Ac (by decide) (.int ch0) rfl d12_12 13 rfl ?_
  refine Own.istore W0 d12_13 15 rfl #[.val (.ref a), .val (.int 0), .val (.ref d), .val (.int 0), .val (.int 1), .val (.int 0), .val (.int ch0)] rfl ?_
  refine Own.iload W0 d12_15 17 rfl ch0 rfl ?_
  refine Own.sipush W0 d12_17 20 rfl 255 rfl ?_
  by_cases e0 : (255 : Int32) < ch0
  · skip
    refine Own.icmpNo W0 d12_20 23 (XT.ii_le_f e0) rfl ?_
    refine Own.iload W0 d12_23 25 rfl 0 rfl ?_
    exact Own.retI W0 (by decide) (by decide) rfl d12_25 ⟨⟨rfl, e0⟩, (Keep.refl h [d])⟩
  · skip
    refine Own.icmpYes W0 d12_20 26 (XT.ii_le_t e0) (by decide) (by decide) ?_
    refine Own.aloadN W0 d12_26 27 rfl (.ref d) rfl rfl ?_
    refine Own.iloadN W0 d12_27 28 rfl 0 rfl ?_
    refine Own.iload W0 d12_28 30 rfl ch0 rfl ?_
    refine Own.i2b W0 d12_30 31 rfl ?_
    refine Own.bastore W0 Ad 0 (by decide) (by decide) (lb rfl) hn_d sd (x' := (ch0.toInt8.toInt32)) (Own.nar_b8 _) d12_31 32 rfl ?_
    intro T1 h1 W1 Q1 A1 k1
    have V1 : Arv G.Z h1 d kd .byte (1 : Int32) [(.int (ch0.toInt8.toInt32))] (.int 0) := A1
    exact absurd hw255 e0
set_option maxRecDepth 65536 in
set_option maxHeartbeats 40000000 in
theorem con_c31 {G : Own.Gl} (hw : ∀ d ∈ tables_1, d.before G.a0 G.Z = true) (hEL : EW G.Z G.a0 G.EL) (TA : Sta G.Z G.Z.heap "java/lang/StringUTF16" "$assertionsDisabled" "Z" (.int 1)) (TH : Sta G.Z G.Z.heap "java/lang/StringUTF16" "HI_BYTE_SHIFT" "I" (.int 0)) (TL : Sta G.Z G.Z.heap "java/lang/StringUTF16" "LO_BYTE_SHIFT" "I" (.int 8)) (hEN2 : Own.EN G.Z G.a0 G.EL 2) {ch0 : Int32} (hw255 : (255 : Int32) < ch0) (r0 : Own.R16 ch0) {of ln : Int32} (hof : of = 0) (hln : ln = 1) {h : Heap} (hO : Old G.Z G.n0 h) {a : Addr} {kC : ClassId} {dv : Value} (Ac : Arv G.Z h a kC .char 1 [.int ch0] dv) :
    Own.Con G [] bC31 #[.ref a, .int of, .int ln] h [] (fun v h' => ∃ (o : Addr) (ko : ClassId), v = some (.ref o) ∧ Ext h h' ∧ h.size ≤ o ∧ Arv G.Z h' o ko .byte 2 [(.int (StrChars.lo8 ch0)), (.int (StrChars.hi8 ch0))] (.int 0)) := by
  refine Own.Con.intro (plainFor_of_name pn_0) hO hEL _ (fun m => ef_bC31 m a of ln) ?_
  intro X T0 W0 sf
  subst hof; subst hln
  refine Own.iloadN W0 d11_0 1 rfl 1 rfl ?_
  refine Own.newA W0 (tw hw 15 rfl) d11_1 3 rfl (by decide) 1 (by decide) (by decide) 1 1 (by decide) (by decide) (by decide) (by decide) ?_
  intro T1 h1 o1 c1 g1 W1 E1 A1 s1 k1
  have V1 : Arv G.Z h1 o1 c1 .byte (1 : Int32) [.int 0] (.int 0) := A1
  refine Own.astoreN W1 d11_3 4 rfl rfl #[.val (.ref a), .val (.int 0), .val (.int 1), .val (.ref o1), .unset, .unset] rfl ?_
  refine Own.aloadN W1 d11_4 5 rfl (.ref a) rfl rfl ?_
  refine Own.iloadN W1 d11_5 6 rfl 0 rfl ?_
  refine Own.aloadN W1 d11_6 7 rfl (.ref o1) rfl rfl ?_
  refine Own.iconst W1 d11_7 8 rfl 0 rfl ?_
  refine Own.iloadN W1 d11_8 9 rfl 1 rfl ?_
  have X2 : Ext h h1 := E1
  refine Own.callS W1 (tw hw 56 rfl) (tw hw 57 rfl) (tw hw 54 rfl) (tw hw 58 rfl) (by decide) (argsL := [(.ref a), .int 0, (.ref o1), .int 0, .int 1]) (rest := []) (Own.Con.pay (con_c51 hw hEL hw255 rfl rfl rfl W1.old (Nat.le_trans W0.n0 (Nat.le_of_eq g1.symm)) (Ac.ext X2) (Nat.ne_of_lt (Nat.lt_of_lt_of_le Ac.lt (Nat.le_of_eq g1.symm))) V1) W1 (tw hw 58 rfl) (tw hw 54 rfl) (len := 3) (wd := 0) (by decide) (by decide) (fun y hy => by cases List.mem_singleton.mp hy; exact ⟨V1.lt, s1⟩)) rfl (lenOf pd_3 rfl) rfl (lb rfl) d11_9 12 rfl 1 1 (lb rfl) (lb rfl) (lb rfl) (lb rfl) ?_
  intro v3 T3 h3 u3 W3 R3 hq
  obtain ⟨hv3, K3⟩ := hq
  rcases hv3 with ⟨rfl, e0⟩
  · skip
    show Own.Go _ _ _ _ _ 12 #[.val (.ref a), .val (.int 0), .val (.int 1), .val (.ref o1), .unset, .unset] [.int 0]
    refine Own.istore W3 d11_12 14 rfl #[.val (.ref a), .val (.int 0), .val (.int 1), .val (.ref o1), .val (.int 0), .unset] rfl ?_
    refine Own.iload W3 d11_14 16 rfl 0 rfl ?_
    refine Own.iloadN W3 d11_16 17 rfl 1 rfl ?_
    refine Own.icmpNo W3 d11_17 20 (by decide) rfl ?_
    refine Own.aloadN W3 d11_20 21 rfl (.ref a) rfl rfl ?_
    refine Own.iloadN W3 d11_21 22 rfl 0 rfl ?_
    refine Own.iloadN W3 d11_22 23 rfl 1 rfl ?_
    have X4 : Ext h h3 := Own.Ext.kp X2 K3 (allS (Nat.le_of_eq g1.symm) all0)
    refine Own.callS W3 (tw hw 94 rfl) (tw hw 95 rfl) (tw hw 54 rfl) (tw hw 96 rfl) (by decide) (argsL := [(.ref a), .int 0, .int 1]) (rest := []) (Own.Con.pay (con_tob1 hw hEL TA TH TL hEN2 rfl rfl W3.old (Ac.ext X4)) W3 (tw hw 96 rfl) (tw hw 54 rfl) (len := 3) (wd := 0) (by decide) (by decide) (fun _ q => nomatch q)) rfl (lenOf pd_4 rfl) rfl (lb rfl) d11_23 26 rfl 2 3 (lb rfl) (lb rfl) (lb rfl) (lb rfl) ?_
    intro v5 T5 h5 u5 W5 R5 hq
    obtain ⟨o5, k5, rfl, E5, g5, A5⟩ := hq
    show Own.Go _ _ _ _ _ 26 #[.val (.ref a), .val (.int 0), .val (.int 1), .val (.ref o1), .val (.int 0), .unset] [(.ref o5)]
    refine Own.astore W5 d11_26 28 rfl rfl #[.val (.ref a), .val (.int 0), .val (.int 1), .val (.ref o1), .val (.int 0), .val (.ref o5)] rfl ?_
    refine Own.aload W5 d11_28 30 rfl (.ref o5) rfl rfl ?_
    refine Own.iload W5 d11_30 32 rfl 0 rfl ?_
    refine Own.callS W5 (tw hw 110 rfl) (tw hw 111 rfl) (tw hw 54 rfl) (tw hw 112 rfl) (by decide) (argsL := [(.ref o5), .int 0]) (rest := []) (Own.Con.pay (con_gc1_0 hw hEL TA TH TL r0 rfl W5.old A5) W5 (tw hw 112 rfl) (tw hw 54 rfl) (len := 3) (wd := 0) (by decide) (by decide) (fun _ q => nomatch q)) rfl (lenOf pd_5 rfl) rfl (lb rfl) d11_32 35 rfl 2 3 (lb rfl) (lb rfl) (lb rfl) (lb rfl) ?_
    intro v6 T6 h6 u6 W6 R6 hq
    obtain ⟨rfl, eh6⟩ := hq
    have ei6 := eh6.symm; subst ei6
    show Own.Go _ _ _ _ _ 35 #[.val (.ref a), .val (.int 0), .val (.int 1), .val (.ref o1), .val (.int 0), .val (.ref o5)] [(.int ch0)]
    refine Own.sipush W6 d11_35 38 rfl 255 rfl ?_
    refine Own.icmpYes W6 d11_38 54 (XT.ii_gt_t e0) (by decide) (by decide) ?_
    refine Own.aload W6 d11_54 56 rfl (.ref o5) rfl rfl ?_
    have X7 : Ext h h5 := Own.Ext.tr X4 E5
    exact Own.retA W6 (by decide) (by decide) rfl rfl rfl d11_56 ⟨o5, _, rfl, X7, (Nat.le_trans X4.1 g5), A5⟩
set_option maxRecDepth 65536 in
set_option maxHeartbeats 40000000 in
theorem con_cfl1 {G : Own.Gl} (hw : ∀ d ∈ tables_1, d.before G.a0 G.Z = true) (hEL : EW G.Z G.a0 G.EL) {b : Addr} {kb : ClassId} {vs : List Value} {dv : Value} {ln : Int32} (hln : ln = 1) {h : Heap} (hO : Old G.Z G.n0 h) (A : Arv G.Z h b kb .byte 2 vs dv) :
    Own.Con G [] bCfl1 #[.ref b, .int ln] h [] (fun v h' => v = some (.int 1) ∧ h' = h) := by
  refine Own.Con.intro (plainFor_of_name pn_0) hO hEL _ (fun m => ef_bCfl1 m b ln) ?_
  intro X T0 W0 sf
  subst hln
  refine Own.iloadN W0 d13_0 1 rfl 1 rfl ?_
  refine Own.aloadN W0 d13_1 2 rfl (.ref b) rfl rfl ?_
  refine Own.arrlen W0 A d13_2 3 rfl ?_
  refine Own.isub W0 d13_3 4 rfl ?_
  refine Own.bipush W0 d13_4 6 rfl 31 rfl ?_
  refine Own.iushr W0 d13_6 7 rfl ?_
  refine Own.i2b W0 d13_7 8 rfl ?_
  rw [show (((1 : Int32) - (2 : Int32)).toUInt32 >>> ((31 : Int32) &&& 31).toUInt32).toInt32.toInt8.toInt32 = (1 : Int32) by decide]
  exact Own.retY W0 (by decide) (by decide) rfl d13_8 rfl ⟨rfl, rfl⟩
set_option maxRecDepth 65536 in
set_option maxHeartbeats 40000000 in
theorem con_w41 {G : Own.Gl} (hw : ∀ d ∈ tables_1, d.before G.a0 G.Z = true) (hEL : EW G.Z G.a0 G.EL) (hmem : (Own.ST, 7) ∈ G.EL) {cz : Int32} (hS : Sta G.Z G.Z.heap Own.ST "COMPACT_STRINGS" "Z" (.int cz)) (hcz : ¬ cz = 0) (TA : Sta G.Z G.Z.heap "java/lang/StringUTF16" "$assertionsDisabled" "Z" (.int 1)) (TH : Sta G.Z G.Z.heap "java/lang/StringUTF16" "HI_BYTE_SHIFT" "I" (.int 0)) (TL : Sta G.Z G.Z.heap "java/lang/StringUTF16" "LO_BYTE_SHIFT" "I" (.int 8)) (hEN2 : Own.EN G.Z G.a0 G.EL 2) {ch0 : Int32} (hw255 : (255 : Int32) < ch0) (r0 : Own.R16 ch0) {of ln : Int32} (hof : of = 0) (hln : ln = 1) {x : Addr} {h : Heap} (hO : Old G.Z G.n0 h) (hn_x : G.n0 ≤ x) (E : Exa G.Z h x "java/lang/String") {v0 c0_ : Value} (V : Fld G.Z h x "java/lang/String" "value" "[B" v0) (Cd : Fld G.Z h x "java/lang/String" "coder" "B" c0_) {a : Addr} {kC : ClassId} {dv : Value} (Ac : Arv G.Z h a kC .char 1 [.int ch0] dv) :
    Own.Con G [] bW41 #[.ref x, .ref a, .int of, .int ln, .null] h [x] (fun v h' => v = none ∧ Keep h h' [x] ∧ Own.WStr G.Z h' x [ch0]) := by
  refine Own.Con.intro (plainFor_of_name pn_1) hO hEL _ (fun m => ef_bW41 m x a of ln) ?_
  intro X T0 W0 sf
  subst hof; subst hln
  have sx := sf x (List.mem_singleton.mpr rfl)
  refine Own.aloadN W0 d2_0 1 rfl (.ref x) rfl rfl ?_
  refine Own.initO W0 (tw hw 11 rfl) (tw hw 12 rfl) (tw hw 13 rfl) rfl d2_1 4 rfl (by decide) (by decide) ?_
  intro T1 W1
  refine Own.iloadN W1 d2_4 5 rfl 1 rfl ?_
  refine Own.ifYes W1 d2_5 27 (by decide) (by decide) (by decide) ?_
  refine Own.getS W1 (tw hw 39 rfl) Via.refl (W1.sta hS) d2_27 30 rfl ?_
  intro T2 W2
  refine Own.ifNo W2 d2_30 33 (XT.i0_eq_f hcz) rfl ?_
  refine Own.aloadN W2 d2_33 34 rfl (.ref a) rfl rfl ?_
  refine Own.iloadN W2 d2_34 35 rfl 0 rfl ?_
  refine Own.iloadN W2 d2_35 36 rfl 1 rfl ?_
  refine Own.callS W2 (tw hw 52 rfl) (tw hw 53 rfl) (tw hw 54 rfl) (tw hw 55 rfl) (by decide) (argsL := [(.ref a), .int 0, .int 1]) (rest := []) (Own.Con.pay (con_c31 hw hEL TA TH TL hEN2 hw255 r0 rfl rfl W2.old Ac) W2 (tw hw 55 rfl) (tw hw 54 rfl) (len := 3) (wd := 0) (by decide) (by decide) (fun _ q => nomatch q)) rfl (lenOf pd_4 rfl) rfl (lb rfl) d2_36 39 rfl 2 3 (lb rfl) (lb rfl) (lb rfl) (lb rfl) ?_
  intro v3 T3 h3 u3 W3 R3 hq
  obtain ⟨o3, k3, rfl, E3, g3, A3⟩ := hq
  show Own.Go _ _ _ _ _ 39 #[.val (.ref x), .val (.ref a), .val (.int 0), .val (.int 1), .val .null, .unset] [(.ref o3)]
  refine Own.astore W3 d2_39 41 rfl rfl #[.val (.ref x), .val (.ref a), .val (.int 0), .val (.int 1), .val .null, .val (.ref o3)] rfl ?_
  refine Own.aloadN W3 d2_41 42 rfl (.ref x) rfl rfl ?_
  refine Own.aload W3 d2_42 44 rfl (.ref o3) rfl rfl ?_
  refine Own.iloadN W3 d2_44 45 rfl 1 rfl ?_
  refine Own.callS W3 (tw hw 59 rfl) (tw hw 60 rfl) (tw hw 54 rfl) (tw hw 61 rfl) (by decide) (argsL := [(.ref o3), .int 1]) (rest := [(.ref x)]) (Own.Con.pay (con_cfl1 hw hEL rfl W3.old A3) W3 (tw hw 61 rfl) (tw hw 54 rfl) (len := 3) (wd := 1) (by decide) (by decide) (fun _ q => nomatch q)) rfl (lenOf pd_6 rfl) rfl (lb rfl) d2_45 48 rfl 2 3 (lb rfl) (lb rfl) (lb rfl) (lb rfl) ?_
  intro v4 T4 h4 u4 W4 R4 hq
  obtain ⟨rfl, eh4⟩ := hq
  have ei4 := eh4.symm; subst ei4
  have X5 : Ext h h3 := E3
  have sf6 := R4.safe (E.ext X5).lt (R3.safe E.lt sx)
  show Own.Go _ _ _ _ _ 48 #[.val (.ref x), .val (.ref a), .val (.int 0), .val (.int 1), .val .null, .val (.ref o3)] [.int 1, (.ref x)]
  refine Own.putF W4 (tw hw 21 rfl) Via.refl (Cd.ext X5) (E.ext X5) (Or.inr ⟨(tw hw 17 rfl), rfl, rfl⟩) (tw hw 2 rfl) (ty := .byte) (v' := (.int 1)) (by decide) rfl rfl hn_x sf6 d2_48 51 rfl ?_
  intro T7 h7 W7 Q7 k7
  have F7_coder := Fld.same Q7 (Cd.ext X5)
  refine Own.aloadN W7 d2_51 52 rfl (.ref x) rfl rfl ?_
  refine Own.aload W7 d2_52 54 rfl (.ref o3) rfl rfl ?_
  refine Own.putF W7 (tw hw 20 rfl) Via.refl ((V.ext E3).other Q7 (Or.inr (slot_ne (Or.inr (tw hw 16 rfl)) (Or.inr (tw hw 17 rfl)) (by decide) (t := (.array .byte)) (t' := .byte) (by decide) (by decide)))) ((E.ext E3).wr Q7) (Or.inr ⟨(tw hw 16 rfl), rfl, rfl⟩) (tw hw 2 rfl) (ty := (.array .byte)) (v' := (.ref o3)) (by decide) rfl rfl hn_x (k7 x sf6) d2_54 57 rfl ?_
  intro T8 h8 W8 Q8 k8
  have F8_value := Fld.same Q8 ((V.ext E3).other Q7 (Or.inr (slot_ne (Or.inr (tw hw 16 rfl)) (Or.inr (tw hw 17 rfl)) (by decide) (t := (.array .byte)) (t' := .byte) (by decide) (by decide))))
  exact Own.retV W8 (by decide) (by decide) rfl d2_57 ⟨rfl, (Keep.wr (Keep.wr (Keep.ext (Keep.refl h [x]) E3) Q7 (Or.inl (by simp))) Q8 (Or.inl (by simp))), (((E.ext E3).wr Q7).wr Q8), (F7_coder.other Q8 (Or.inr (slot_ne (Or.inr (tw hw 17 rfl)) (Or.inr (tw hw 16 rfl)) (by decide) (t := .byte) (t' := (.array .byte)) (by decide) (by decide)))), (by intro c hc; simp only [List.mem_cons, List.not_mem_nil, or_false] at hc; rcases hc with rfl; exact r0), Nat.le_of_ble_eq_true rfl, ⟨ch0, by simp, hw255⟩, o3, _, F8_value, ((A3.other Q7 (Ne.symm (Nat.ne_of_lt (Nat.lt_of_lt_of_le E.lt g3)))).other Q8 (Ne.symm (Nat.ne_of_lt (Nat.lt_of_lt_of_le E.lt g3))))⟩
set_option maxRecDepth 65536 in
set_option maxHeartbeats 40000000 in
theorem con_w11 {G : Own.Gl} (hw : ∀ d ∈ tables_1, d.before G.a0 G.Z = true) (hEL : EW G.Z G.a0 G.EL) (hmem : (Own.ST, 7) ∈ G.EL) {cz : Int32} (hS : Sta G.Z G.Z.heap Own.ST "COMPACT_STRINGS" "Z" (.int cz)) (hcz : ¬ cz = 0) (TA : Sta G.Z G.Z.heap "java/lang/StringUTF16" "$assertionsDisabled" "Z" (.int 1)) (TH : Sta G.Z G.Z.heap "java/lang/StringUTF16" "HI_BYTE_SHIFT" "I" (.int 0)) (TL : Sta G.Z G.Z.heap "java/lang/StringUTF16" "LO_BYTE_SHIFT" "I" (.int 8)) (hEN2 : Own.EN G.Z G.a0 G.EL 2) {ch0 : Int32} (hw255 : (255 : Int32) < ch0) (r0 : Own.R16 ch0) {x : Addr} {h : Heap} (hO : Old G.Z G.n0 h) (hn_x : G.n0 ≤ x) (E : Exa G.Z h x "java/lang/String") {v0 c0_ : Value} (V : Fld G.Z h x "java/lang/String" "value" "[B" v0) (Cd : Fld G.Z h x "java/lang/String" "coder" "B" c0_) {a : Addr} {kC : ClassId} {dv : Value} (Ac : Arv G.Z h a kC .char 1 [.int ch0] dv) :
    Own.Con G [] bW11 #[.ref x, .ref a] h [x] (fun v h' => v = none ∧ Keep h h' [x] ∧ Own.WStr G.Z h' x [ch0]) := by
  refine Own.Con.intro (plainFor_of_name pn_1) hO hEL _ (fun m => ef_bW11 m x a) ?_
  intro X T0 W0 sf
  have sx := sf x (List.mem_singleton.mpr rfl)
  refine Own.aloadN W0 d1_0 1 rfl (.ref x) rfl rfl ?_
  refine Own.aloadN W0 d1_1 2 rfl (.ref a) rfl rfl ?_
  refine Own.iconst W0 d1_2 3 rfl 0 rfl ?_
  refine Own.aloadN W0 d1_3 4 rfl (.ref a) rfl rfl ?_
  refine Own.arrlen W0 Ac d1_4 5 rfl ?_
  refine Own.aconstNull W0 d1_5 6 rfl ?_
  refine Own.callX W0 rfl (tw hw 7 rfl) (tw hw 8 rfl) (tw hw 10 rfl) (by decide) (argsL := [(.ref a), .int 0, .int 1, .null]) (rest := []) (Own.Con.pay (con_w41 hw hEL hmem hS hcz TA TH TL hEN2 hw255 r0 rfl rfl W0.old hn_x E V Cd Ac) W0 (tw hw 10 rfl) (tw hw 3 rfl) (len := 3) (wd := 0) (by decide) (by decide) (fun y hy => by cases List.mem_singleton.mp hy; exact ⟨E.lt, sx⟩)) rfl (lenOf pd_7 rfl) rfl (lb rfl) d1_6 9 rfl 2 3 (lb rfl) (lb rfl) (lb rfl) (lb rfl) ?_
  intro v1 T1 h1 u1 W1 R1 hq
  obtain ⟨rfl, K1, F1⟩ := hq
  show Own.Go _ _ _ _ _ 9 #[.val (.ref x), .val (.ref a)] []
  exact Own.retV W1 (by decide) (by decide) rfl d1_9 ⟨rfl, K1, F1⟩
set_option maxRecDepth 65536 in
set_option maxHeartbeats 40000000 in
theorem con_nbl2 {G : Own.Gl} (hw : ∀ d ∈ tables_1, d.before G.a0 G.Z = true) (hEL : EW G.Z G.a0 G.EL) {k : Int32} (hk : k = 2) {h : Heap} (hO : Old G.Z G.n0 h) :
    Own.Con G [] bNbl2 #[.int k] h [] (fun v h' => v = some (.int 4) ∧ h' = h) := by
  refine Own.Con.intro (plainFor_of_name pn_0) hO hEL _ (fun m => ef_bNbl2 m k) ?_
  intro X T0 W0 sf
  subst hk
  refine Own.iloadN W0 d23_0 1 rfl 2 rfl ?_
  refine Own.ifYes W0 d23_1 12 (by decide) (by decide) (by decide) ?_
  refine Own.iloadN W0 d23_12 13 rfl 2 rfl ?_
  refine Own.ldcI W0 (tw hw 103 rfl) d23_13 15 rfl ?_
  refine Own.icmpYes W0 d23_15 55 (by decide) (by decide) (by decide) ?_
  refine Own.iloadN W0 d23_55 56 rfl 2 rfl ?_
  refine Own.iconst W0 d23_56 57 rfl 1 rfl ?_
  refine Own.ishl W0 d23_57 58 rfl ?_
  exact Own.retI W0 (by decide) (by decide) rfl d23_58 ⟨by decide, rfl⟩
set_option maxRecDepth 65536 in
set_option maxHeartbeats 40000000 in
theorem con_nbf2 {G : Own.Gl} (hw : ∀ d ∈ tables_1, d.before G.a0 G.Z = true) (hEL : EW G.Z G.a0 G.EL) {k : Int32} (hk : k = 2) {h : Heap} (hO : Old G.Z G.n0 h) :
    Own.Con G [] bNbf2 #[.int k] h [] (fun v h' => ∃ (o : Addr) (ko : ClassId), v = some (.ref o) ∧ Ext h h' ∧ h.size ≤ o ∧ Arv G.Z h' o ko .byte 4 [.int 0, .int 0, .int 0, .int 0] (.int 0)) := by
  refine Own.Con.intro (plainFor_of_name pn_0) hO hEL _ (fun m => ef_bNbf2 m k) ?_
  intro X T0 W0 sf
  subst hk
  refine Own.iloadN W0 d22_0 1 rfl 2 rfl ?_
  refine Own.callS W0 (tw hw 100 rfl) (tw hw 101 rfl) (tw hw 54 rfl) (tw hw 102 rfl) (by decide) (argsL := [.int 2]) (rest := []) (Own.Con.pay (con_nbl2 hw hEL rfl W0.old) W0 (tw hw 102 rfl) (tw hw 54 rfl) (len := 3) (wd := 0) (by decide) (by decide) (fun _ q => nomatch q)) rfl (lenOf pd_0 rfl) rfl (lb rfl) d22_1 4 rfl 0 0 (lb rfl) (lb rfl) (lb rfl) (lb rfl) ?_
  intro v1 T1 h1 u1 W1 R1 hq
  obtain ⟨rfl, eh1⟩ := hq
  have ei1 := eh1.symm; subst ei1
  show Own.Go _ _ _ _ _ 4 #[.val (.int 2)] [.int 4]
  refine Own.newA W1 (tw hw 15 rfl) d22_4 6 rfl (by decide) 4 (by decide) (by decide) 1 4 (by decide) (by decide) (by decide) (by decide) ?_
  intro T2 h2 o2 c2 g2 W2 E2 A2 s2 k2
  have V2 : Arv G.Z h2 o2 c2 .byte (4 : Int32) [.int 0, .int 0, .int 0, .int 0] (.int 0) := A2
  have X3 : Ext h h2 := E2
  exact Own.retA W2 (by decide) (by decide) rfl rfl rfl d22_6 ⟨o2, _, rfl, X3, (Nat.le_of_eq g2.symm), V2⟩
set_option maxRecDepth 65536 in
set_option maxHeartbeats 40000000 in
theorem con_tob2 {G : Own.Gl} (hw : ∀ d ∈ tables_1, d.before G.a0 G.Z = true) (hEL : EW G.Z G.a0 G.EL) (TA : Sta G.Z G.Z.heap "java/lang/StringUTF16" "$assertionsDisabled" "Z" (.int 1)) (TH : Sta G.Z G.Z.heap "java/lang/StringUTF16" "HI_BYTE_SHIFT" "I" (.int 0)) (TL : Sta G.Z G.Z.heap "java/lang/StringUTF16" "LO_BYTE_SHIFT" "I" (.int 8)) (hEN4 : Own.EN G.Z G.a0 G.EL 4) {ch0 ch1 : Int32} {of ln : Int32} (hof : of = 0) (hln : ln = 2) {h : Heap} (hO : Old G.Z G.n0 h) {a : Addr} {kC : ClassId} {dv : Value} (Ac : Arv G.Z h a kC .char 2 [.int ch0, .int ch1] dv) :
    Own.Con G [] bTob2 #[.ref a, .int of, .int ln] h [] (fun v h' => ∃ (o : Addr) (ko : ClassId), v = some (.ref o) ∧ Ext h h' ∧ h.size ≤ o ∧ Arv G.Z h' o ko .byte 4 [(.int (StrChars.lo8 ch0)), (.int (StrChars.hi8 ch0)), (.int (StrChars.lo8 ch1)), (.int (StrChars.hi8 ch1))] (.int 0)) := by
  refine Own.Con.intro (plainFor_of_name pn_0) hO hEL _ (fun m => ef_bTob2 m a of ln) ?_
  intro X T0 W0 sf
  subst hof; subst hln
  refine Own.iloadN W0 d21_0 1 rfl 2 rfl ?_
  refine Own.callS W0 (tw hw 97 rfl) (tw hw 98 rfl) (tw hw 54 rfl) (tw hw 99 rfl) (by decide) (argsL := [.int 2]) (rest := []) (Own.Con.pay (con_nbf2 hw hEL rfl W0.old) W0 (tw hw 99 rfl) (tw hw 54 rfl) (len := 3) (wd := 0) (by decide) (by decide) (fun _ q => nomatch q)) rfl (lenOf pd_1 rfl) rfl (lb rfl) d21_1 4 rfl 1 4 (lb rfl) (lb rfl) (lb rfl) (lb rfl) ?_
  intro v1 T1 h1 u1 W1 R1 hq
  obtain ⟨o1, k1, rfl, E1, g1, A1⟩ := hq
  show Own.Go _ _ _ _ _ 4 #[.val (.ref a), .val (.int 0), .val (.int 2), .unset, .unset] [(.ref o1)]
  refine Own.astoreN W1 d21_4 5 rfl rfl #[.val (.ref a), .val (.int 0), .val (.int 2), .val (.ref o1), .unset] rfl ?_
  refine Own.iconst W1 d21_5 6 rfl 0 rfl ?_
  refine Own.istore W1 d21_6 8 rfl #[.val (.ref a), .val (.int 0), .val (.int 2), .val (.ref o1), .val (.int 0)] rfl ?_
  refine Own.iload W1 d21_8 10 rfl 0 rfl ?_
  refine Own.iloadN W1 d21_10 11 rfl 2 rfl ?_
  refine Own.icmpNo W1 d21_11 14 (by decide) rfl ?_
  refine Own.aloadN W1 d21_14 15 rfl (.ref o1) rfl rfl ?_
  refine Own.iload W1 d21_15 17 rfl 0 rfl ?_
  refine Own.aloadN W1 d21_17 18 rfl (.ref a) rfl rfl ?_
  refine Own.iloadN W1 d21_18 19 rfl 0 rfl ?_
  have X2 : Ext h h1 := E1
  refine Own.caload W1 (Ac.ext X2) (by decide) (.int ch0) rfl d21_19 20 rfl ?_
  refine Own.callS W1 (tw hw 104 rfl) (tw hw 105 rfl) (tw hw 54 rfl) (tw hw 106 rfl) (by decide) (argsL := [(.ref o1), .int 0, (.int ch0)]) (rest := []) (Own.Con.pay (con_put2_0 hw hEL TA TH TL rfl ch0 W1.old (Nat.le_trans W0.n0 g1) A1) W1 (tw hw 106 rfl) (tw hw 54 rfl) (len := 3) (wd := 0) (by decide) (by decide) (fun y hy => by cases List.mem_singleton.mp hy; exact ⟨A1.lt, Own.Safe.len W1.wz hEN4 A1 (by decide)⟩)) rfl (lenOf pd_2 rfl) rfl (lb rfl) d21_20 23 rfl 1 4 (lb rfl) (lb rfl) (lb rfl) (lb rfl) ?_
  intro v3 T3 h3 u3 W3 R3 hq
  obtain ⟨rfl, K3, A3⟩ := hq
  show Own.Go _ _ _ _ _ 23 #[.val (.ref a), .val (.int 0), .val (.int 2), .val (.ref o1), .val (.int 0)] []
  refine Own.iinc W3 d21_23 26 rfl rfl #[.val (.ref a), .val (.int 1), .val (.int 2), .val (.ref o1), .val (.int 0)] rfl ?_
  refine Own.iinc W3 d21_26 29 rfl rfl #[.val (.ref a), .val (.int 1), .val (.int 2), .val (.ref o1), .val (.int 1)] rfl ?_
  refine Own.goto W3 d21_29 8 (by decide) (by decide) ?_
  refine Own.iload W3 d21_8 10 rfl 1 rfl ?_
  refine Own.iloadN W3 d21_10 11 rfl 2 rfl ?_
  refine Own.icmpNo W3 d21_11 14 (by decide) rfl ?_
  refine Own.aloadN W3 d21_14 15 rfl (.ref o1) rfl rfl ?_
  refine Own.iload W3 d21_15 17 rfl 1 rfl ?_
  refine Own.aloadN W3 d21_17 18 rfl (.ref a) rfl rfl ?_
  refine Own.iloadN W3 d21_18 19 rfl 1 rfl ?_
  have X4 : Ext h h3 := Own.Ext.kp X2 K3 (allS g1 all0)
  refine Own.caload W3 (Ac.ext X4) (by decide) (.int ch1) rfl d21_19 20 rfl ?_
  refine Own.callS W3 (tw hw 104 rfl) (tw hw 105 rfl) (tw hw 54 rfl) (tw hw 106 rfl) (by decide) (argsL := [(.ref o1), .int 1, (.int ch1)]) (rest := []) (Own.Con.pay (con_put2_1 hw hEL TA TH TL rfl ch1 W3.old (Nat.le_trans W0.n0 g1) A3) W3 (tw hw 106 rfl) (tw hw 54 rfl) (len := 3) (wd := 0) (by decide) (by decide) (fun y hy => by cases List.mem_singleton.mp hy; exact ⟨A3.lt, Own.Safe.len W3.wz hEN4 A3 (by decide)⟩)) rfl (lenOf pd_2 rfl) rfl (lb rfl) d21_20 23 rfl 1 4 (lb rfl) (lb rfl) (lb rfl) (lb rfl) ?_
  intro v5 T5 h5 u5 W5 R5 hq
  obtain ⟨rfl, K5, A5⟩ := hq
  show Own.Go _ _ _ _ _ 23 #[.val (.ref a), .val (.int 1), .val (.int 2), .val (.ref o1), .val (.int 1)] []
  refine Own.iinc W5 d21_23 26 rfl rfl #[.val (.ref a), .val (.int 2), .val (.int 2), .val (.ref o1), .val (.int 1)] rfl ?_
  refine Own.iinc W5 d21_26 29 rfl rfl #[.val (.ref a), .val (.int 2), .val (.int 2), .val (.ref o1), .val (.int 2)] rfl ?_
  refine Own.goto W5 d21_29 8 (by decide) (by decide) ?_
  refine Own.iload W5 d21_8 10 rfl 2 rfl ?_
  refine Own.iloadN W5 d21_10 11 rfl 2 rfl ?_
  refine Own.icmpYes W5 d21_11 32 (by decide) (by decide) (by decide) ?_
  refine Own.aloadN W5 d21_32 33 rfl (.ref o1) rfl rfl ?_
  have X6 : Ext h h5 := Own.Ext.kp X4 K5 (allS g1 all0)
  exact Own.retA W5 (by decide) (by decide) rfl rfl rfl d21_33 ⟨o1, _, rfl, X6, g1, A5⟩
set_option maxRecDepth 65536 in
set_option maxHeartbeats 40000000 in
theorem con_gc2_0 {G : Own.Gl} (hw : ∀ d ∈ tables_1, d.before G.a0 G.Z = true) (hEL : EW G.Z G.a0 G.EL) (TA : Sta G.Z G.Z.heap "java/lang/StringUTF16" "$assertionsDisabled" "Z" (.int 1)) (TH : Sta G.Z G.Z.heap "java/lang/StringUTF16" "HI_BYTE_SHIFT" "I" (.int 0)) (TL : Sta G.Z G.Z.heap "java/lang/StringUTF16" "LO_BYTE_SHIFT" "I" (.int 8)) {ch0 ch1 : Int32} (r0 : Own.R16 ch0) {b : Addr} {kb : ClassId} {ii : Int32} (hii : ii = 0) {h : Heap} (hO : Old G.Z G.n0 h) (A : Arv G.Z h b kb .byte 4 [(.int (StrChars.lo8 ch0)), (.int (StrChars.hi8 ch0)), (.int (StrChars.lo8 ch1)), (.int (StrChars.hi8 ch1))] (.int 0)) :
    Own.Con G [] bGc2_0 #[.ref b, .int ii] h [] (fun v h' => v = some (.int ch0) ∧ h' = h) := by
  refine Own.Con.intro (plainFor_of_name pn_0) hO hEL _ (fun m => ef_bGc2_0 m b ii) ?_
  intro X T0 W0 sf
  subst hii
  refine Own.getS W0 (tw hw 107 rfl) Via.refl (W0.sta TA) d25_0 3 rfl ?_
  intro T1 W1
  refine Own.ifYes W1 d25_3 28 (by decide) (by decide) (by decide) ?_
  refine Own.iloadN W1 d25_28 29 rfl 0 rfl ?_
  refine Own.iconst W1 d25_29 30 rfl 1 rfl ?_
  refine Own.ishl W1 d25_30 31 rfl ?_
  rw [show ((0 : Int32) <<< ((1 : Int32) &&& 31)) = (0 : Int32) by decide]
  refine Own.istoreN W1 d25_31 32 rfl #[.val (.ref b), .val (.int 0)] rfl ?_
  refine Own.aloadN W1 d25_32 33 rfl (.ref b) rfl rfl ?_
  refine Own.iloadN W1 d25_33 34 rfl 0 rfl ?_
  refine Own.iinc W1 d25_34 37 rfl rfl #[.val (.ref b), .val (.int 1)] rfl ?_
  refine Own.baload W1 A (by decide) (.int (StrChars.lo8 ch0)) rfl d25_37 38 rfl ?_
  refine Own.sipush W1 d25_38 41 rfl 255 rfl ?_
  refine Own.iand W1 d25_41 42 rfl ?_
  refine Own.getS W1 (tw hw 108 rfl) Via.refl (W1.sta TH) d25_42 45 rfl ?_
  intro T2 W2
  refine Own.ishl W2 d25_45 46 rfl ?_
  refine Own.aloadN W2 d25_46 47 rfl (.ref b) rfl rfl ?_
  refine Own.iloadN W2 d25_47 48 rfl 1 rfl ?_
  refine Own.baload W2 A (by decide) (.int (StrChars.hi8 ch0)) rfl d25_48 49 rfl ?_
  refine Own.sipush W2 d25_49 52 rfl 255 rfl ?_
  refine Own.iand W2 d25_52 53 rfl ?_
  refine Own.getS W2 (tw hw 109 rfl) Via.refl (W2.sta TL) d25_53 56 rfl ?_
  intro T3 W3
  refine Own.ishl W3 d25_56 57 rfl ?_
  refine Own.ior W3 d25_57 58 rfl ?_
  refine Own.i2c W3 d25_58 59 rfl ?_
  show Own.Go _ _ _ _ _ 59 #[.val (.ref b), .val (.int 1)] [.int (StrChars.pairCh (StrChars.lo8 ch0) (StrChars.hi8 ch0))]
  rw [StrChars.pair_says r0.1 r0.2]
  exact Own.retC W3 (by decide) (by decide) rfl d25_59 (Own.narC r0) ⟨rfl, rfl⟩
set_option maxRecDepth 65536 in
set_option maxHeartbeats 40000000 in
theorem con_gc2_1 {G : Own.Gl} (hw : ∀ d ∈ tables_1, d.before G.a0 G.Z = true) (hEL : EW G.Z G.a0 G.EL) (TA : Sta G.Z G.Z.heap "java/lang/StringUTF16" "$assertionsDisabled" "Z" (.int 1)) (TH : Sta G.Z G.Z.heap "java/lang/StringUTF16" "HI_BYTE_SHIFT" "I" (.int 0)) (TL : Sta G.Z G.Z.heap "java/lang/StringUTF16" "LO_BYTE_SHIFT" "I" (.int 8)) {ch0 ch1 : Int32} (r1 : Own.R16 ch1) {b : Addr} {kb : ClassId} {ii : Int32} (hii : ii = 1) {h : Heap} (hO : Old G.Z G.n0 h) (A : Arv G.Z h b kb .byte 4 [(.int (StrChars.lo8 ch0)), (.int (StrChars.hi8 ch0)), (.int (StrChars.lo8 ch1)), (.int (StrChars.hi8 ch1))] (.int 0)) :
    Own.Con G [] bGc2_1 #[.ref b, .int ii] h [] (fun v h' => v = some (.int ch1) ∧ h' = h) := by
  refine Own.Con.intro (plainFor_of_name pn_0) hO hEL _ (fun m => ef_bGc2_1 m b ii) ?_
  intro X T0 W0 sf
  subst hii
  refine Own.getS W0 (tw hw 107 rfl) Via.refl (W0.sta TA) d25_0 3 rfl ?_
  intro T1 W1
  refine Own.ifYes W1 d25_3 28 (by decide) (by decide) (by decide) ?_
  refine Own.iloadN W1 d25_28 29 rfl 1 rfl ?_
  refine Own.iconst W1 d25_29 30 rfl 1 rfl ?_
  refine Own.ishl W1 d25_30 31 rfl ?_
  rw [show ((1 : Int32) <<< ((1 : Int32) &&& 31)) = (2 : Int32) by decide]
  refine Own.istoreN W1 d25_31 32 rfl #[.val (.ref b), .val (.int 2)] rfl ?_
  refine Own.aloadN W1 d25_32 33 rfl (.ref b) rfl rfl ?_
  refine Own.iloadN W1 d25_33 34 rfl 2 rfl ?_
  refine Own.iinc W1 d25_34 37 rfl rfl #[.val (.ref b), .val (.int 3)] rfl ?_
  refine Own.baload W1 A (by decide) (.int (StrChars.lo8 ch1)) rfl d25_37 38 rfl ?_
  refine Own.sipush W1 d25_38 41 rfl 255 rfl ?_
  refine Own.iand W1 d25_41 42 rfl ?_
  refine Own.getS W1 (tw hw 108 rfl) Via.refl (W1.sta TH) d25_42 45 rfl ?_
  intro T2 W2
  refine Own.ishl W2 d25_45 46 rfl ?_
  refine Own.aloadN W2 d25_46 47 rfl (.ref b) rfl rfl ?_
  refine Own.iloadN W2 d25_47 48 rfl 3 rfl ?_
  refine Own.baload W2 A (by decide) (.int (StrChars.hi8 ch1)) rfl d25_48 49 rfl ?_
  refine Own.sipush W2 d25_49 52 rfl 255 rfl ?_
  refine Own.iand W2 d25_52 53 rfl ?_
  refine Own.getS W2 (tw hw 109 rfl) Via.refl (W2.sta TL) d25_53 56 rfl ?_
  intro T3 W3
  refine Own.ishl W3 d25_56 57 rfl ?_
  refine Own.ior W3 d25_57 58 rfl ?_
  refine Own.i2c W3 d25_58 59 rfl ?_
  show Own.Go _ _ _ _ _ 59 #[.val (.ref b), .val (.int 3)] [.int (StrChars.pairCh (StrChars.lo8 ch1) (StrChars.hi8 ch1))]
  rw [StrChars.pair_says r1.1 r1.2]
  exact Own.retC W3 (by decide) (by decide) rfl d25_59 (Own.narC r1) ⟨rfl, rfl⟩
set_option maxRecDepth 65536 in
set_option maxHeartbeats 40000000 in
theorem con_c52 {G : Own.Gl} (hw : ∀ d ∈ tables_1, d.before G.a0 G.Z = true) (hEL : EW G.Z G.a0 G.EL) {ch0 ch1 : Int32} (hw255 : (255 : Int32) < ch0 ∨ (255 : Int32) < ch1) {o1 o2 ln : Int32} (ho1 : o1 = 0) (ho2 : o2 = 0) (hln : ln = 2) {d : Addr} {kd : ClassId} {h : Heap} (hO : Old G.Z G.n0 h) (hn_d : G.n0 ≤ d) {a : Addr} {kC : ClassId} {dv : Value} (Ac : Arv G.Z h a kC .char 2 [.int ch0, .int ch1] dv) (had : a ≠ d) (Ad : Arv G.Z h d kd .byte 2 [.int 0, .int 0] (.int 0)) :
    Own.Con G [] bC52 #[.ref a, .int o1, .ref d, .int o2, .int ln] h [d] (fun v h' => ((v = some (.int 0) ∧ (255 : Int32) < ch0) ∨ (v = some (.int 1) ∧ (255 : Int32) < ch1)) ∧ Keep h h' [d]) := by
  refine Own.Con.intro (plainFor_of_name pn_0) hO hEL _ (fun m => ef_bC52 m a o1 d o2 ln) ?_
  intro X T0 W0 sf
  subst ho1; subst ho2; subst hln
  have sd := sf d (List.mem_singleton.mpr rfl)
  refine Own.iconst W0 d12_0 1 rfl 0 rfl ?_
  refine Own.istore W0 d12_1 3 rfl #[.val (.ref a), .val (.int 0), .val (.ref d), .val (.int 0), .val (.int 2), .val (.int 0), .unset] rfl ?_
  refine Own.iload W0 d12_3 5 rfl 0 rfl ?_
  refine Own.iload W0 d12_5 7 rfl 2 rfl ?_
  refine Own.icmpNo W0 d12_7 10 (by decide) rfl ?_
  refine Own.aloadN W0 d12_10 11 rfl (.ref a) rfl rfl ?_
  refine Own.iloadN W0 d12_11 12 rfl 0 rfl ?_
  refine Own.caload W0 Ac (by decide) (.int ch0) rfl d12_12 13 rfl ?_
  refine Own.istore W0 d12_13 15 rfl #[.val (.ref a), .val (.int 0), .val (.ref d), .val (.int 0), .val (.int 2), .val (.int 0), .val (.int ch0)] rfl ?_
  refine Own.iload W0 d12_15 17 rfl ch0 rfl ?_
  refine Own.sipush W0 d12_17 20 rfl 255 rfl ?_
  by_cases e0 : (255 : Int32) < ch0
  · skip
    refine Own.icmpNo W0 d12_20 23 (XT.ii_le_f e0) rfl ?_
    refine Own.iload W0 d12_23 25 rfl 0 rfl ?_
    exact Own.retI W0 (by decide) (by decide) rfl d12_25 ⟨Or.inl ⟨rfl, e0⟩, (Keep.refl h [d])⟩
  · skip
    refine Own.icmpYes W0 d12_20 26 (XT.ii_le_t e0) (by decide) (by decide) ?_
    refine Own.aloadN W0 d12_26 27 rfl (.ref d) rfl rfl ?_
    refine Own.iloadN W0 d12_27 28 rfl 0 rfl ?_
    refine Own.iload W0 d12_28 30 rfl ch0 rfl ?_
    refine Own.i2b W0 d12_30 31 rfl ?_
    refine Own.bastore W0 Ad 0 (by decide) (by decide) (lb rfl) hn_d sd (x' := (ch0.toInt8.toInt32)) (Own.nar_b8 _) d12_31 32 rfl ?_
    intro T1 h1 W1 Q1 A1 k1
    have V1 : Arv G.Z h1 d kd .byte (2 : Int32) [(.int (ch0.toInt8.toInt32)), .int 0] (.int 0) := A1
    refine Own.iinc W1 d12_32 35 rfl rfl #[.val (.ref a), .val (.int 1), .val (.ref d), .val (.int 0), .val (.int 2), .val (.int 0), .val (.int ch0)] rfl ?_
    refine Own.iinc W1 d12_35 38 rfl rfl #[.val (.ref a), .val (.int 1), .val (.ref d), .val (.int 1), .val (.int 2), .val (.int 0), .val (.int ch0)] rfl ?_
    refine Own.iinc W1 d12_38 41 rfl rfl #[.val (.ref a), .val (.int 1), .val (.ref d), .val (.int 1), .val (.int 2), .val (.int 1), .val (.int ch0)] rfl ?_
    refine Own.goto W1 d12_41 3 (by decide) (by decide) ?_
    refine Own.iload W1 d12_3 5 rfl 1 rfl ?_
    refine Own.iload W1 d12_5 7 rfl 2 rfl ?_
    refine Own.icmpNo W1 d12_7 10 (by decide) rfl ?_
    refine Own.aloadN W1 d12_10 11 rfl (.ref a) rfl rfl ?_
    refine Own.iloadN W1 d12_11 12 rfl 1 rfl ?_
    refine Own.caload W1 (Ac.other Q1 had) (by decide) (.int ch1) rfl d12_12 13 rfl ?_
    refine Own.istore W1 d12_13 15 rfl #[.val (.ref a), .val (.int 1), .val (.ref d), .val (.int 1), .val (.int 2), .val (.int 1), .val (.int ch1)] rfl ?_
    refine Own.iload W1 d12_15 17 rfl ch1 rfl ?_
    refine Own.sipush W1 d12_17 20 rfl 255 rfl ?_
    by_cases e1 : (255 : Int32) < ch1
    · skip
      refine Own.icmpNo W1 d12_20 23 (XT.ii_le_f e1) rfl ?_
      refine Own.iload W1 d12_23 25 rfl 1 rfl ?_
      exact Own.retI W1 (by decide) (by decide) rfl d12_25 ⟨Or.inr (⟨rfl, e1⟩), (Keep.wr (Keep.refl h [d]) Q1 (Or.inl (List.mem_singleton.mpr rfl)))⟩
    · skip
      refine Own.icmpYes W1 d12_20 26 (XT.ii_le_t e1) (by decide) (by decide) ?_
      refine Own.aloadN W1 d12_26 27 rfl (.ref d) rfl rfl ?_
      refine Own.iloadN W1 d12_27 28 rfl 1 rfl ?_
      refine Own.iload W1 d12_28 30 rfl ch1 rfl ?_
      refine Own.i2b W1 d12_30 31 rfl ?_
      refine Own.bastore W1 V1 1 (by decide) (by decide) (lb rfl) hn_d (k1 d sd) (x' := (ch1.toInt8.toInt32)) (Own.nar_b8 _) d12_31 32 rfl ?_
      intro T2 h2 W2 Q2 A2 k2
      have V2 : Arv G.Z h2 d kd .byte (2 : Int32) [(.int (ch0.toInt8.toInt32)), (.int (ch1.toInt8.toInt32))] (.int 0) := A2
      exact absurd hw255 (by simp only [not_or]; exact ⟨e0, e1⟩)
set_option maxRecDepth 65536 in
set_option maxHeartbeats 40000000 in
theorem con_c32 {G : Own.Gl} (hw : ∀ d ∈ tables_1, d.before G.a0 G.Z = true) (hEL : EW G.Z G.a0 G.EL) (TA : Sta G.Z G.Z.heap "java/lang/StringUTF16" "$assertionsDisabled" "Z" (.int 1)) (TH : Sta G.Z G.Z.heap "java/lang/StringUTF16" "HI_BYTE_SHIFT" "I" (.int 0)) (TL : Sta G.Z G.Z.heap "java/lang/StringUTF16" "LO_BYTE_SHIFT" "I" (.int 8)) (hEN4 : Own.EN G.Z G.a0 G.EL 4) {ch0 ch1 : Int32} (hw255 : (255 : Int32) < ch0 ∨ (255 : Int32) < ch1) (r0 : Own.R16 ch0) (r1 : Own.R16 ch1) {of ln : Int32} (hof : of = 0) (hln : ln = 2) {h : Heap} (hO : Old G.Z G.n0 h) {a : Addr} {kC : ClassId} {dv : Value} (Ac : Arv G.Z h a kC .char 2 [.int ch0, .int ch1] dv) :
    Own.Con G [] bC32 #[.ref a, .int of, .int ln] h [] (fun v h' => ∃ (o : Addr) (ko : ClassId), v = some (.ref o) ∧ Ext h h' ∧ h.size ≤ o ∧ Arv G.Z h' o ko .byte 4 [(.int (StrChars.lo8 ch0)), (.int (StrChars.hi8 ch0)), (.int (StrChars.lo8 ch1)), (.int (StrChars.hi8 ch1))] (.int 0)) := by
  refine Own.Con.intro (plainFor_of_name pn_0) hO hEL _ (fun m => ef_bC32 m a of ln) ?_
  intro X T0 W0 sf
  subst hof; subst hln
  refine Own.iloadN W0 d11_0 1 rfl 2 rfl ?_
  refine Own.newA W0 (tw hw 15 rfl) d11_1 3 rfl (by decide) 2 (by decide) (by decide) 1 2 (by decide) (by decide) (by decide) (by decide) ?_
  intro T1 h1 o1 c1 g1 W1 E1 A1 s1 k1
  have V1 : Arv G.Z h1 o1 c1 .byte (2 : Int32) [.int 0, .int 0] (.int 0) := A1
  refine Own.astoreN W1 d11_3 4 rfl rfl #[.val (.ref a), .val (.int 0), .val (.int 2), .val (.ref o1), .unset, .unset] rfl ?_
  refine Own.aloadN W1 d11_4 5 rfl (.ref a) rfl rfl ?_
  refine Own.iloadN W1 d11_5 6 rfl 0 rfl ?_
  refine Own.aloadN W1 d11_6 7 rfl (.ref o1) rfl rfl ?_
  refine Own.iconst W1 d11_7 8 rfl 0 rfl ?_
  refine Own.iloadN W1 d11_8 9 rfl 2 rfl ?_
  have X2 : Ext h h1 := E1
  refine Own.callS W1 (tw hw 56 rfl) (tw hw 57 rfl) (tw hw 54 rfl) (tw hw 58 rfl) (by decide) (argsL := [(.ref a), .int 0, (.ref o1), .int 0, .int 2]) (rest := []) (Own.Con.pay (con_c52 hw hEL hw255 rfl rfl rfl W1.old (Nat.le_trans W0.n0 (Nat.le_of_eq g1.symm)) (Ac.ext X2) (Nat.ne_of_lt (Nat.lt_of_lt_of_le Ac.lt (Nat.le_of_eq g1.symm))) V1) W1 (tw hw 58 rfl) (tw hw 54 rfl) (len := 3) (wd := 0) (by decide) (by decide) (fun y hy => by cases List.mem_singleton.mp hy; exact ⟨V1.lt, s1⟩)) rfl (lenOf pd_3 rfl) rfl (lb rfl) d11_9 12 rfl 1 2 (lb rfl) (lb rfl) (lb rfl) (lb rfl) ?_
  intro v3 T3 h3 u3 W3 R3 hq
  obtain ⟨hv3, K3⟩ := hq
  rcases hv3 with ⟨rfl, e0⟩ | ⟨rfl, e1⟩
  · skip
    show Own.Go _ _ _ _ _ 12 #[.val (.ref a), .val (.int 0), .val (.int 2), .val (.ref o1), .unset, .unset] [.int 0]
    refine Own.istore W3 d11_12 14 rfl #[.val (.ref a), .val (.int 0), .val (.int 2), .val (.ref o1), .val (.int 0), .unset] rfl ?_
    refine Own.iload W3 d11_14 16 rfl 0 rfl ?_
    refine Own.iloadN W3 d11_16 17 rfl 2 rfl ?_
    refine Own.icmpNo W3 d11_17 20 (by decide) rfl ?_
    refine Own.aloadN W3 d11_20 21 rfl (.ref a) rfl rfl ?_
    refine Own.iloadN W3 d11_21 22 rfl 0 rfl ?_
    refine Own.iloadN W3 d11_22 23 rfl 2 rfl ?_
    have X4 : Ext h h3 := Own.Ext.kp X2 K3 (allS (Nat.le_of_eq g1.symm) all0)
    refine Own.callS W3 (tw hw 94 rfl) (tw hw 95 rfl) (tw hw 54 rfl) (tw hw 96 rfl) (by decide) (argsL := [(.ref a), .int 0, .int 2]) (rest := []) (Own.Con.pay (con_tob2 hw hEL TA TH TL hEN4 rfl rfl W3.old (Ac.ext X4)) W3 (tw hw 96 rfl) (tw hw 54 rfl) (len := 3) (wd := 0) (by decide) (by decide) (fun _ q => nomatch q)) rfl (lenOf pd_4 rfl) rfl (lb rfl) d11_23 26 rfl 2 6 (lb rfl) (lb rfl) (lb rfl) (lb rfl) ?_
    intro v5 T5 h5 u5 W5 R5 hq
    obtain ⟨o5, k5, rfl, E5, g5, A5⟩ := hq
    show Own.Go _ _ _ _ _ 26 #[.val (.ref a), .val (.int 0), .val (.int 2), .val (.ref o1), .val (.int 0), .unset] [(.ref o5)]
    refine Own.astore W5 d11_26 28 rfl rfl #[.val (.ref a), .val (.int 0), .val (.int 2), .val (.ref o1), .val (.int 0), .val (.ref o5)] rfl ?_
    refine Own.aload W5 d11_28 30 rfl (.ref o5) rfl rfl ?_
    refine Own.iload W5 d11_30 32 rfl 0 rfl ?_
    refine Own.callS W5 (tw hw 110 rfl) (tw hw 111 rfl) (tw hw 54 rfl) (tw hw 112 rfl) (by decide) (argsL := [(.ref o5), .int 0]) (rest := []) (Own.Con.pay (con_gc2_0 hw hEL TA TH TL r0 rfl W5.old A5) W5 (tw hw 112 rfl) (tw hw 54 rfl) (len := 3) (wd := 0) (by decide) (by decide) (fun _ q => nomatch q)) rfl (lenOf pd_5 rfl) rfl (lb rfl) d11_32 35 rfl 2 6 (lb rfl) (lb rfl) (lb rfl) (lb rfl) ?_
    intro v6 T6 h6 u6 W6 R6 hq
    obtain ⟨rfl, eh6⟩ := hq
    have ei6 := eh6.symm; subst ei6
    show Own.Go _ _ _ _ _ 35 #[.val (.ref a), .val (.int 0), .val (.int 2), .val (.ref o1), .val (.int 0), .val (.ref o5)] [(.int ch0)]
    refine Own.sipush W6 d11_35 38 rfl 255 rfl ?_
    refine Own.icmpYes W6 d11_38 54 (XT.ii_gt_t e0) (by decide) (by decide) ?_
    refine Own.aload W6 d11_54 56 rfl (.ref o5) rfl rfl ?_
    have X7 : Ext h h5 := Own.Ext.tr X4 E5
    exact Own.retA W6 (by decide) (by decide) rfl rfl rfl d11_56 ⟨o5, _, rfl, X7, (Nat.le_trans X4.1 g5), A5⟩
  · skip
    show Own.Go _ _ _ _ _ 12 #[.val (.ref a), .val (.int 0), .val (.int 2), .val (.ref o1), .unset, .unset] [.int 1]
    refine Own.istore W3 d11_12 14 rfl #[.val (.ref a), .val (.int 0), .val (.int 2), .val (.ref o1), .val (.int 1), .unset] rfl ?_
    refine Own.iload W3 d11_14 16 rfl 1 rfl ?_
    refine Own.iloadN W3 d11_16 17 rfl 2 rfl ?_
    refine Own.icmpNo W3 d11_17 20 (by decide) rfl ?_
    refine Own.aloadN W3 d11_20 21 rfl (.ref a) rfl rfl ?_
    refine Own.iloadN W3 d11_21 22 rfl 0 rfl ?_
    refine Own.iloadN W3 d11_22 23 rfl 2 rfl ?_
    have X8 : Ext h h3 := Own.Ext.kp X2 K3 (allS (Nat.le_of_eq g1.symm) all0)
    refine Own.callS W3 (tw hw 94 rfl) (tw hw 95 rfl) (tw hw 54 rfl) (tw hw 96 rfl) (by decide) (argsL := [(.ref a), .int 0, .int 2]) (rest := []) (Own.Con.pay (con_tob2 hw hEL TA TH TL hEN4 rfl rfl W3.old (Ac.ext X8)) W3 (tw hw 96 rfl) (tw hw 54 rfl) (len := 3) (wd := 0) (by decide) (by decide) (fun _ q => nomatch q)) rfl (lenOf pd_4 rfl) rfl (lb rfl) d11_23 26 rfl 2 6 (lb rfl) (lb rfl) (lb rfl) (lb rfl) ?_
    intro v9 T9 h9 u9 W9 R9 hq
    obtain ⟨o9, k9, rfl, E9, g9, A9⟩ := hq
    show Own.Go _ _ _ _ _ 26 #[.val (.ref a), .val (.int 0), .val (.int 2), .val (.ref o1), .val (.int 1), .unset] [(.ref o9)]
    refine Own.astore W9 d11_26 28 rfl rfl #[.val (.ref a), .val (.int 0), .val (.int 2), .val (.ref o1), .val (.int 1), .val (.ref o9)] rfl ?_
    refine Own.aload W9 d11_28 30 rfl (.ref o9) rfl rfl ?_
    refine Own.iload W9 d11_30 32 rfl 1 rfl ?_
    refine Own.callS W9 (tw hw 110 rfl) (tw hw 111 rfl) (tw hw 54 rfl) (tw hw 112 rfl) (by decide) (argsL := [(.ref o9), .int 1]) (rest := []) (Own.Con.pay (con_gc2_1 hw hEL TA TH TL r1 rfl W9.old A9) W9 (tw hw 112 rfl) (tw hw 54 rfl) (len := 3) (wd := 0) (by decide) (by decide) (fun _ q => nomatch q)) rfl (lenOf pd_5 rfl) rfl (lb rfl) d11_32 35 rfl 2 6 (lb rfl) (lb rfl) (lb rfl) (lb rfl) ?_
    intro v10 T10 h10 u10 W10 R10 hq
    obtain ⟨rfl, eh10⟩ := hq
    have ei10 := eh10.symm; subst ei10
    show Own.Go _ _ _ _ _ 35 #[.val (.ref a), .val (.int 0), .val (.int 2), .val (.ref o1), .val (.int 1), .val (.ref o9)] [(.int ch1)]
    refine Own.sipush W10 d11_35 38 rfl 255 rfl ?_
    refine Own.icmpYes W10 d11_38 54 (XT.ii_gt_t e1) (by decide) (by decide) ?_
    refine Own.aload W10 d11_54 56 rfl (.ref o9) rfl rfl ?_
    have X11 : Ext h h9 := Own.Ext.tr X8 E9
    exact Own.retA W10 (by decide) (by decide) rfl rfl rfl d11_56 ⟨o9, _, rfl, X11, (Nat.le_trans X8.1 g9), A9⟩
set_option maxRecDepth 65536 in
set_option maxHeartbeats 40000000 in
theorem con_cfl2 {G : Own.Gl} (hw : ∀ d ∈ tables_1, d.before G.a0 G.Z = true) (hEL : EW G.Z G.a0 G.EL) {b : Addr} {kb : ClassId} {vs : List Value} {dv : Value} {ln : Int32} (hln : ln = 2) {h : Heap} (hO : Old G.Z G.n0 h) (A : Arv G.Z h b kb .byte 4 vs dv) :
    Own.Con G [] bCfl2 #[.ref b, .int ln] h [] (fun v h' => v = some (.int 1) ∧ h' = h) := by
  refine Own.Con.intro (plainFor_of_name pn_0) hO hEL _ (fun m => ef_bCfl2 m b ln) ?_
  intro X T0 W0 sf
  subst hln
  refine Own.iloadN W0 d13_0 1 rfl 2 rfl ?_
  refine Own.aloadN W0 d13_1 2 rfl (.ref b) rfl rfl ?_
  refine Own.arrlen W0 A d13_2 3 rfl ?_
  refine Own.isub W0 d13_3 4 rfl ?_
  refine Own.bipush W0 d13_4 6 rfl 31 rfl ?_
  refine Own.iushr W0 d13_6 7 rfl ?_
  refine Own.i2b W0 d13_7 8 rfl ?_
  rw [show (((2 : Int32) - (4 : Int32)).toUInt32 >>> ((31 : Int32) &&& 31).toUInt32).toInt32.toInt8.toInt32 = (1 : Int32) by decide]
  exact Own.retY W0 (by decide) (by decide) rfl d13_8 rfl ⟨rfl, rfl⟩
set_option maxRecDepth 65536 in
set_option maxHeartbeats 40000000 in
theorem con_w42 {G : Own.Gl} (hw : ∀ d ∈ tables_1, d.before G.a0 G.Z = true) (hEL : EW G.Z G.a0 G.EL) (hmem : (Own.ST, 7) ∈ G.EL) {cz : Int32} (hS : Sta G.Z G.Z.heap Own.ST "COMPACT_STRINGS" "Z" (.int cz)) (hcz : ¬ cz = 0) (TA : Sta G.Z G.Z.heap "java/lang/StringUTF16" "$assertionsDisabled" "Z" (.int 1)) (TH : Sta G.Z G.Z.heap "java/lang/StringUTF16" "HI_BYTE_SHIFT" "I" (.int 0)) (TL : Sta G.Z G.Z.heap "java/lang/StringUTF16" "LO_BYTE_SHIFT" "I" (.int 8)) (hEN4 : Own.EN G.Z G.a0 G.EL 4) {ch0 ch1 : Int32} (hw255 : (255 : Int32) < ch0 ∨ (255 : Int32) < ch1) (r0 : Own.R16 ch0) (r1 : Own.R16 ch1) {of ln : Int32} (hof : of = 0) (hln : ln = 2) {x : Addr} {h : Heap} (hO : Old G.Z G.n0 h) (hn_x : G.n0 ≤ x) (E : Exa G.Z h x "java/lang/String") {v0 c0_ : Value} (V : Fld G.Z h x "java/lang/String" "value" "[B" v0) (Cd : Fld G.Z h x "java/lang/String" "coder" "B" c0_) {a : Addr} {kC : ClassId} {dv : Value} (Ac : Arv G.Z h a kC .char 2 [.int ch0, .int ch1] dv) :
    Own.Con G [] bW42 #[.ref x, .ref a, .int of, .int ln, .null] h [x] (fun v h' => v = none ∧ Keep h h' [x] ∧ Own.WStr G.Z h' x [ch0, ch1]) := by
  refine Own.Con.intro (plainFor_of_name pn_1) hO hEL _ (fun m => ef_bW42 m x a of ln) ?_
  intro X T0 W0 sf
  subst hof; subst hln
  have sx := sf x (List.mem_singleton.mpr rfl)
  refine Own.aloadN W0 d2_0 1 rfl (.ref x) rfl rfl ?_
  refine Own.initO W0 (tw hw 11 rfl) (tw hw 12 rfl) (tw hw 13 rfl) rfl d2_1 4 rfl (by decide) (by decide) ?_
  intro T1 W1
  refine Own.iloadN W1 d2_4 5 rfl 2 rfl ?_
  refine Own.ifYes W1 d2_5 27 (by decide) (by decide) (by decide) ?_
  refine Own.getS W1 (tw hw 39 rfl) Via.refl (W1.sta hS) d2_27 30 rfl ?_
  intro T2 W2
  refine Own.ifNo W2 d2_30 33 (XT.i0_eq_f hcz) rfl ?_
  refine Own.aloadN W2 d2_33 34 rfl (.ref a) rfl rfl ?_
  refine Own.iloadN W2 d2_34 35 rfl 0 rfl ?_
  refine Own.iloadN W2 d2_35 36 rfl 2 rfl ?_
  refine Own.callS W2 (tw hw 52 rfl) (tw hw 53 rfl) (tw hw 54 rfl) (tw hw 55 rfl) (by decide) (argsL := [(.ref a), .int 0, .int 2]) (rest := []) (Own.Con.pay (con_c32 hw hEL TA TH TL hEN4 hw255 r0 r1 rfl rfl W2.old Ac) W2 (tw hw 55 rfl) (tw hw 54 rfl) (len := 3) (wd := 0) (by decide) (by decide) (fun _ q => nomatch q)) rfl (lenOf pd_4 rfl) rfl (lb rfl) d2_36 39 rfl 2 6 (lb rfl) (lb rfl) (lb rfl) (lb rfl) ?_
  intro v3 T3 h3 u3 W3 R3 hq
  obtain ⟨o3, k3, rfl, E3, g3, A3⟩ := hq
  show Own.Go _ _ _ _ _ 39 #[.val (.ref x), .val (.ref a), .val (.int 0), .val (.int 2), .val .null, .unset] [(.ref o3)]
  refine Own.astore W3 d2_39 41 rfl rfl #[.val (.ref x), .val (.ref a), .val (.int 0), .val (.int 2), .val .null, .val (.ref o3)] rfl ?_
  refine Own.aloadN W3 d2_41 42 rfl (.ref x) rfl rfl ?_
  refine Own.aload W3 d2_42 44 rfl (.ref o3) rfl rfl ?_
  refine Own.iloadN W3 d2_44 45 rfl 2 rfl ?_
  refine Own.callS W3 (tw hw 59 rfl) (tw hw 60 rfl) (tw hw 54 rfl) (tw hw 61 rfl) (by decide) (argsL := [(.ref o3), .int 2]) (rest := [(.ref x)]) (Own.Con.pay (con_cfl2 hw hEL rfl W3.old A3) W3 (tw hw 61 rfl) (tw hw 54 rfl) (len := 3) (wd := 1) (by decide) (by decide) (fun _ q => nomatch q)) rfl (lenOf pd_6 rfl) rfl (lb rfl) d2_45 48 rfl 2 6 (lb rfl) (lb rfl) (lb rfl) (lb rfl) ?_
  intro v4 T4 h4 u4 W4 R4 hq
  obtain ⟨rfl, eh4⟩ := hq
  have ei4 := eh4.symm; subst ei4
  have X5 : Ext h h3 := E3
  have sf6 := R4.safe (E.ext X5).lt (R3.safe E.lt sx)
  show Own.Go _ _ _ _ _ 48 #[.val (.ref x), .val (.ref a), .val (.int 0), .val (.int 2), .val .null, .val (.ref o3)] [.int 1, (.ref x)]
  refine Own.putF W4 (tw hw 21 rfl) Via.refl (Cd.ext X5) (E.ext X5) (Or.inr ⟨(tw hw 17 rfl), rfl, rfl⟩) (tw hw 2 rfl) (ty := .byte) (v' := (.int 1)) (by decide) rfl rfl hn_x sf6 d2_48 51 rfl ?_
  intro T7 h7 W7 Q7 k7
  have F7_coder := Fld.same Q7 (Cd.ext X5)
  refine Own.aloadN W7 d2_51 52 rfl (.ref x) rfl rfl ?_
  refine Own.aload W7 d2_52 54 rfl (.ref o3) rfl rfl ?_
  refine Own.putF W7 (tw hw 20 rfl) Via.refl ((V.ext E3).other Q7 (Or.inr (slot_ne (Or.inr (tw hw 16 rfl)) (Or.inr (tw hw 17 rfl)) (by decide) (t := (.array .byte)) (t' := .byte) (by decide) (by decide)))) ((E.ext E3).wr Q7) (Or.inr ⟨(tw hw 16 rfl), rfl, rfl⟩) (tw hw 2 rfl) (ty := (.array .byte)) (v' := (.ref o3)) (by decide) rfl rfl hn_x (k7 x sf6) d2_54 57 rfl ?_
  intro T8 h8 W8 Q8 k8
  have F8_value := Fld.same Q8 ((V.ext E3).other Q7 (Or.inr (slot_ne (Or.inr (tw hw 16 rfl)) (Or.inr (tw hw 17 rfl)) (by decide) (t := (.array .byte)) (t' := .byte) (by decide) (by decide))))
  exact Own.retV W8 (by decide) (by decide) rfl d2_57 ⟨rfl, (Keep.wr (Keep.wr (Keep.ext (Keep.refl h [x]) E3) Q7 (Or.inl (by simp))) Q8 (Or.inl (by simp))), (((E.ext E3).wr Q7).wr Q8), (F7_coder.other Q8 (Or.inr (slot_ne (Or.inr (tw hw 17 rfl)) (Or.inr (tw hw 16 rfl)) (by decide) (t := .byte) (t' := (.array .byte)) (by decide) (by decide)))), (by intro c hc; simp only [List.mem_cons, List.not_mem_nil, or_false] at hc; rcases hc with rfl | rfl; exact r0; exact r1), Nat.le_of_ble_eq_true rfl, (by rcases hw255 with q | q; exact ⟨ch0, by simp, q⟩; exact ⟨ch1, by simp, q⟩), o3, _, F8_value, ((A3.other Q7 (Ne.symm (Nat.ne_of_lt (Nat.lt_of_lt_of_le E.lt g3)))).other Q8 (Ne.symm (Nat.ne_of_lt (Nat.lt_of_lt_of_le E.lt g3))))⟩
set_option maxRecDepth 65536 in
set_option maxHeartbeats 40000000 in
theorem con_w12 {G : Own.Gl} (hw : ∀ d ∈ tables_1, d.before G.a0 G.Z = true) (hEL : EW G.Z G.a0 G.EL) (hmem : (Own.ST, 7) ∈ G.EL) {cz : Int32} (hS : Sta G.Z G.Z.heap Own.ST "COMPACT_STRINGS" "Z" (.int cz)) (hcz : ¬ cz = 0) (TA : Sta G.Z G.Z.heap "java/lang/StringUTF16" "$assertionsDisabled" "Z" (.int 1)) (TH : Sta G.Z G.Z.heap "java/lang/StringUTF16" "HI_BYTE_SHIFT" "I" (.int 0)) (TL : Sta G.Z G.Z.heap "java/lang/StringUTF16" "LO_BYTE_SHIFT" "I" (.int 8)) (hEN4 : Own.EN G.Z G.a0 G.EL 4) {ch0 ch1 : Int32} (hw255 : (255 : Int32) < ch0 ∨ (255 : Int32) < ch1) (r0 : Own.R16 ch0) (r1 : Own.R16 ch1) {x : Addr} {h : Heap} (hO : Old G.Z G.n0 h) (hn_x : G.n0 ≤ x) (E : Exa G.Z h x "java/lang/String") {v0 c0_ : Value} (V : Fld G.Z h x "java/lang/String" "value" "[B" v0) (Cd : Fld G.Z h x "java/lang/String" "coder" "B" c0_) {a : Addr} {kC : ClassId} {dv : Value} (Ac : Arv G.Z h a kC .char 2 [.int ch0, .int ch1] dv) :
    Own.Con G [] bW12 #[.ref x, .ref a] h [x] (fun v h' => v = none ∧ Keep h h' [x] ∧ Own.WStr G.Z h' x [ch0, ch1]) := by
  refine Own.Con.intro (plainFor_of_name pn_1) hO hEL _ (fun m => ef_bW12 m x a) ?_
  intro X T0 W0 sf
  have sx := sf x (List.mem_singleton.mpr rfl)
  refine Own.aloadN W0 d1_0 1 rfl (.ref x) rfl rfl ?_
  refine Own.aloadN W0 d1_1 2 rfl (.ref a) rfl rfl ?_
  refine Own.iconst W0 d1_2 3 rfl 0 rfl ?_
  refine Own.aloadN W0 d1_3 4 rfl (.ref a) rfl rfl ?_
  refine Own.arrlen W0 Ac d1_4 5 rfl ?_
  refine Own.aconstNull W0 d1_5 6 rfl ?_
  refine Own.callX W0 rfl (tw hw 7 rfl) (tw hw 8 rfl) (tw hw 10 rfl) (by decide) (argsL := [(.ref a), .int 0, .int 2, .null]) (rest := []) (Own.Con.pay (con_w42 hw hEL hmem hS hcz TA TH TL hEN4 hw255 r0 r1 rfl rfl W0.old hn_x E V Cd Ac) W0 (tw hw 10 rfl) (tw hw 3 rfl) (len := 3) (wd := 0) (by decide) (by decide) (fun y hy => by cases List.mem_singleton.mp hy; exact ⟨E.lt, sx⟩)) rfl (lenOf pd_7 rfl) rfl (lb rfl) d1_6 9 rfl 2 6 (lb rfl) (lb rfl) (lb rfl) (lb rfl) ?_
  intro v1 T1 h1 u1 W1 R1 hq
  obtain ⟨rfl, K1, F1⟩ := hq
  show Own.Go _ _ _ _ _ 9 #[.val (.ref x), .val (.ref a)] []
  exact Own.retV W1 (by decide) (by decide) rfl d1_9 ⟨rfl, K1, F1⟩
set_option maxRecDepth 65536 in
set_option maxHeartbeats 40000000 in
theorem con_nbl3 {G : Own.Gl} (hw : ∀ d ∈ tables_1, d.before G.a0 G.Z = true) (hEL : EW G.Z G.a0 G.EL) {k : Int32} (hk : k = 3) {h : Heap} (hO : Old G.Z G.n0 h) :
    Own.Con G [] bNbl3 #[.int k] h [] (fun v h' => v = some (.int 6) ∧ h' = h) := by
  refine Own.Con.intro (plainFor_of_name pn_0) hO hEL _ (fun m => ef_bNbl3 m k) ?_
  intro X T0 W0 sf
  subst hk
  refine Own.iloadN W0 d23_0 1 rfl 3 rfl ?_
  refine Own.ifYes W0 d23_1 12 (by decide) (by decide) (by decide) ?_
  refine Own.iloadN W0 d23_12 13 rfl 3 rfl ?_
  refine Own.ldcI W0 (tw hw 103 rfl) d23_13 15 rfl ?_
  refine Own.icmpYes W0 d23_15 55 (by decide) (by decide) (by decide) ?_
  refine Own.iloadN W0 d23_55 56 rfl 3 rfl ?_
  refine Own.iconst W0 d23_56 57 rfl 1 rfl ?_
  refine Own.ishl W0 d23_57 58 rfl ?_
  exact Own.retI W0 (by decide) (by decide) rfl d23_58 ⟨by decide, rfl⟩
set_option maxRecDepth 65536 in
set_option maxHeartbeats 40000000 in
theorem con_nbf3 {G : Own.Gl} (hw : ∀ d ∈ tables_1, d.before G.a0 G.Z = true) (hEL : EW G.Z G.a0 G.EL) {k : Int32} (hk : k = 3) {h : Heap} (hO : Old G.Z G.n0 h) :
    Own.Con G [] bNbf3 #[.int k] h [] (fun v h' => ∃ (o : Addr) (ko : ClassId), v = some (.ref o) ∧ Ext h h' ∧ h.size ≤ o ∧ Arv G.Z h' o ko .byte 6 [.int 0, .int 0, .int 0, .int 0, .int 0, .int 0] (.int 0)) := by
  refine Own.Con.intro (plainFor_of_name pn_0) hO hEL _ (fun m => ef_bNbf3 m k) ?_
  intro X T0 W0 sf
  subst hk
  refine Own.iloadN W0 d22_0 1 rfl 3 rfl ?_
  refine Own.callS W0 (tw hw 100 rfl) (tw hw 101 rfl) (tw hw 54 rfl) (tw hw 102 rfl) (by decide) (argsL := [.int 3]) (rest := []) (Own.Con.pay (con_nbl3 hw hEL rfl W0.old) W0 (tw hw 102 rfl) (tw hw 54 rfl) (len := 3) (wd := 0) (by decide) (by decide) (fun _ q => nomatch q)) rfl (lenOf pd_0 rfl) rfl (lb rfl) d22_1 4 rfl 0 0 (lb rfl) (lb rfl) (lb rfl) (lb rfl) ?_
  intro v1 T1 h1 u1 W1 R1 hq
  obtain ⟨rfl, eh1⟩ := hq
  have ei1 := eh1.symm; subst ei1
  show Own.Go _ _ _ _ _ 4 #[.val (.int 3)] [.int 6]
  refine Own.newA W1 (tw hw 15 rfl) d22_4 6 rfl (by decide) 6 (by decide) (by decide) 1 6 (by decide) (by decide) (by decide) (by decide) ?_
  intro T2 h2 o2 c2 g2 W2 E2 A2 s2 k2
  have V2 : Arv G.Z h2 o2 c2 .byte (6 : Int32) [.int 0, .int 0, .int 0, .int 0, .int 0, .int 0] (.int 0) := A2
  have X3 : Ext h h2 := E2
  exact Own.retA W2 (by decide) (by decide) rfl rfl rfl d22_6 ⟨o2, _, rfl, X3, (Nat.le_of_eq g2.symm), V2⟩
set_option maxRecDepth 65536 in
set_option maxHeartbeats 40000000 in
theorem con_tob3 {G : Own.Gl} (hw : ∀ d ∈ tables_1, d.before G.a0 G.Z = true) (hEL : EW G.Z G.a0 G.EL) (TA : Sta G.Z G.Z.heap "java/lang/StringUTF16" "$assertionsDisabled" "Z" (.int 1)) (TH : Sta G.Z G.Z.heap "java/lang/StringUTF16" "HI_BYTE_SHIFT" "I" (.int 0)) (TL : Sta G.Z G.Z.heap "java/lang/StringUTF16" "LO_BYTE_SHIFT" "I" (.int 8)) (hEN6 : Own.EN G.Z G.a0 G.EL 6) {ch0 ch1 ch2 : Int32} {of ln : Int32} (hof : of = 0) (hln : ln = 3) {h : Heap} (hO : Old G.Z G.n0 h) {a : Addr} {kC : ClassId} {dv : Value} (Ac : Arv G.Z h a kC .char 3 [.int ch0, .int ch1, .int ch2] dv) :
    Own.Con G [] bTob3 #[.ref a, .int of, .int ln] h [] (fun v h' => ∃ (o : Addr) (ko : ClassId), v = some (.ref o) ∧ Ext h h' ∧ h.size ≤ o ∧ Arv G.Z h' o ko .byte 6 [(.int (StrChars.lo8 ch0)), (.int (StrChars.hi8 ch0)), (.int (StrChars.lo8 ch1)), (.int (StrChars.hi8 ch1)), (.int (StrChars.lo8 ch2)), (.int (StrChars.hi8 ch2))] (.int 0)) := by
  refine Own.Con.intro (plainFor_of_name pn_0) hO hEL _ (fun m => ef_bTob3 m a of ln) ?_
  intro X T0 W0 sf
  subst hof; subst hln
  refine Own.iloadN W0 d21_0 1 rfl 3 rfl ?_
  refine Own.callS W0 (tw hw 97 rfl) (tw hw 98 rfl) (tw hw 54 rfl) (tw hw 99 rfl) (by decide) (argsL := [.int 3]) (rest := []) (Own.Con.pay (con_nbf3 hw hEL rfl W0.old) W0 (tw hw 99 rfl) (tw hw 54 rfl) (len := 3) (wd := 0) (by decide) (by decide) (fun _ q => nomatch q)) rfl (lenOf pd_1 rfl) rfl (lb rfl) d21_1 4 rfl 1 6 (lb rfl) (lb rfl) (lb rfl) (lb rfl) ?_
  intro v1 T1 h1 u1 W1 R1 hq
  obtain ⟨o1, k1, rfl, E1, g1, A1⟩ := hq
  show Own.Go _ _ _ _ _ 4 #[.val (.ref a), .val (.int 0), .val (.int 3), .unset, .unset] [(.ref o1)]
  refine Own.astoreN W1 d21_4 5 rfl rfl #[.val (.ref a), .val (.int 0), .val (.int 3), .val (.ref o1), .unset] rfl ?_
  refine Own.iconst W1 d21_5 6 rfl 0 rfl ?_
  refine Own.istore W1 d21_6 8 rfl #[.val (.ref a), .val (.int 0), .val (.int 3), .val (.ref o1), .val (.int 0)] rfl ?_
  refine Own.iload W1 d21_8 10 rfl 0 rfl ?_
  refine Own.iloadN W1 d21_10 11 rfl 3 rfl ?_
  refine Own.icmpNo W1 d21_11 14 (by decide) rfl ?_
  refine Own.aloadN W1 d21_14 15 rfl (.ref o1) rfl rfl ?_
  refine Own.iload W1 d21_15 17 rfl 0 rfl ?_
  refine Own.aloadN W1 d21_17 18 rfl (.ref a) rfl rfl ?_
  refine Own.iloadN W1 d21_18 19 rfl 0 rfl ?_
  have X2 : Ext h h1 := E1
  refine Own.caload W1 (Ac.ext X2) (by decide) (.int ch0) rfl d21_19 20 rfl ?_
  refine Own.callS W1 (tw hw 104 rfl) (tw hw 105 rfl) (tw hw 54 rfl) (tw hw 106 rfl) (by decide) (argsL := [(.ref o1), .int 0, (.int ch0)]) (rest := []) (Own.Con.pay (con_put3_0 hw hEL TA TH TL rfl ch0 W1.old (Nat.le_trans W0.n0 g1) A1) W1 (tw hw 106 rfl) (tw hw 54 rfl) (len := 3) (wd := 0) (by decide) (by decide) (fun y hy => by cases List.mem_singleton.mp hy; exact ⟨A1.lt, Own.Safe.len W1.wz hEN6 A1 (by decide)⟩)) rfl (lenOf pd_2 rfl) rfl (lb rfl) d21_20 23 rfl 1 6 (lb rfl) (lb rfl) (lb rfl) (lb rfl) ?_
  intro v3 T3 h3 u3 W3 R3 hq
  obtain ⟨rfl, K3, A3⟩ := hq
  show Own.Go _ _ _ _ _ 23 #[.val (.ref a), .val (.int 0), .val (.int 3), .val (.ref o1), .val (.int 0)] []
  refine Own.iinc W3 d21_23 26 rfl rfl #[.val (.ref a), .val (.int 1), .val (.int 3), .val (.ref o1), .val (.int 0)] rfl ?_
  refine Own.iinc W3 d21_26 29 rfl rfl #[.val (.ref a), .val (.int 1), .val (.int 3), .val (.ref o1), .val (.int 1)] rfl ?_
  refine Own.goto W3 d21_29 8 (by decide) (by decide) ?_
  refine Own.iload W3 d21_8 10 rfl 1 rfl ?_
  refine Own.iloadN W3 d21_10 11 rfl 3 rfl ?_
  refine Own.icmpNo W3 d21_11 14 (by decide) rfl ?_
  refine Own.aloadN W3 d21_14 15 rfl (.ref o1) rfl rfl ?_
  refine Own.iload W3 d21_15 17 rfl 1 rfl ?_
  refine Own.aloadN W3 d21_17 18 rfl (.ref a) rfl rfl ?_
  refine Own.iloadN W3 d21_18 19 rfl 1 rfl ?_
  have X4 : Ext h h3 := Own.Ext.kp X2 K3 (allS g1 all0)
  refine Own.caload W3 (Ac.ext X4) (by decide) (.int ch1) rfl d21_19 20 rfl ?_
  refine Own.callS W3 (tw hw 104 rfl) (tw hw 105 rfl) (tw hw 54 rfl) (tw hw 106 rfl) (by decide) (argsL := [(.ref o1), .int 1, (.int ch1)]) (rest := []) (Own.Con.pay (con_put3_1 hw hEL TA TH TL rfl ch1 W3.old (Nat.le_trans W0.n0 g1) A3) W3 (tw hw 106 rfl) (tw hw 54 rfl) (len := 3) (wd := 0) (by decide) (by decide) (fun y hy => by cases List.mem_singleton.mp hy; exact ⟨A3.lt, Own.Safe.len W3.wz hEN6 A3 (by decide)⟩)) rfl (lenOf pd_2 rfl) rfl (lb rfl) d21_20 23 rfl 1 6 (lb rfl) (lb rfl) (lb rfl) (lb rfl) ?_
  intro v5 T5 h5 u5 W5 R5 hq
  obtain ⟨rfl, K5, A5⟩ := hq
  show Own.Go _ _ _ _ _ 23 #[.val (.ref a), .val (.int 1), .val (.int 3), .val (.ref o1), .val (.int 1)] []
  refine Own.iinc W5 d21_23 26 rfl rfl #[.val (.ref a), .val (.int 2), .val (.int 3), .val (.ref o1), .val (.int 1)] rfl ?_
  refine Own.iinc W5 d21_26 29 rfl rfl #[.val (.ref a), .val (.int 2), .val (.int 3), .val (.ref o1), .val (.int 2)] rfl ?_
  refine Own.goto W5 d21_29 8 (by decide) (by decide) ?_
  refine Own.iload W5 d21_8 10 rfl 2 rfl ?_
  refine Own.iloadN W5 d21_10 11 rfl 3 rfl ?_
  refine Own.icmpNo W5 d21_11 14 (by decide) rfl ?_
  refine Own.aloadN W5 d21_14 15 rfl (.ref o1) rfl rfl ?_
  refine Own.iload W5 d21_15 17 rfl 2 rfl ?_
  refine Own.aloadN W5 d21_17 18 rfl (.ref a) rfl rfl ?_
  refine Own.iloadN W5 d21_18 19 rfl 2 rfl ?_
  have X6 : Ext h h5 := Own.Ext.kp X4 K5 (allS g1 all0)
  refine Own.caload W5 (Ac.ext X6) (by decide) (.int ch2) rfl d21_19 20 rfl ?_
  refine Own.callS W5 (tw hw 104 rfl) (tw hw 105 rfl) (tw hw 54 rfl) (tw hw 106 rfl) (by decide) (argsL := [(.ref o1), .int 2, (.int ch2)]) (rest := []) (Own.Con.pay (con_put3_2 hw hEL TA TH TL rfl ch2 W5.old (Nat.le_trans W0.n0 g1) A5) W5 (tw hw 106 rfl) (tw hw 54 rfl) (len := 3) (wd := 0) (by decide) (by decide) (fun y hy => by cases List.mem_singleton.mp hy; exact ⟨A5.lt, Own.Safe.len W5.wz hEN6 A5 (by decide)⟩)) rfl (lenOf pd_2 rfl) rfl (lb rfl) d21_20 23 rfl 1 6 (lb rfl) (lb rfl) (lb rfl) (lb rfl) ?_
  intro v7 T7 h7 u7 W7 R7 hq
  obtain ⟨rfl, K7, A7⟩ := hq
  show Own.Go _ _ _ _ _ 23 #[.val (.ref a), .val (.int 2), .val (.int 3), .val (.ref o1), .val (.int 2)] []
  refine Own.iinc W7 d21_23 26 rfl rfl #[.val (.ref a), .val (.int 3), .val (.int 3), .val (.ref o1), .val (.int 2)] rfl ?_
  refine Own.iinc W7 d21_26 29 rfl rfl #[.val (.ref a), .val (.int 3), .val (.int 3), .val (.ref o1), .val (.int 3)] rfl ?_
  refine Own.goto W7 d21_29 8 (by decide) (by decide) ?_
  refine Own.iload W7 d21_8 10 rfl 3 rfl ?_
  refine Own.iloadN W7 d21_10 11 rfl 3 rfl ?_
  refine Own.icmpYes W7 d21_11 32 (by decide) (by decide) (by decide) ?_
  refine Own.aloadN W7 d21_32 33 rfl (.ref o1) rfl rfl ?_
  have X8 : Ext h h7 := Own.Ext.kp X6 K7 (allS g1 all0)
  exact Own.retA W7 (by decide) (by decide) rfl rfl rfl d21_33 ⟨o1, _, rfl, X8, g1, A7⟩
set_option maxRecDepth 65536 in
set_option maxHeartbeats 40000000 in
theorem con_gc3_0 {G : Own.Gl} (hw : ∀ d ∈ tables_1, d.before G.a0 G.Z = true) (hEL : EW G.Z G.a0 G.EL) (TA : Sta G.Z G.Z.heap "java/lang/StringUTF16" "$assertionsDisabled" "Z" (.int 1)) (TH : Sta G.Z G.Z.heap "java/lang/StringUTF16" "HI_BYTE_SHIFT" "I" (.int 0)) (TL : Sta G.Z G.Z.heap "java/lang/StringUTF16" "LO_BYTE_SHIFT" "I" (.int 8)) {ch0 ch1 ch2 : Int32} (r0 : Own.R16 ch0) {b : Addr} {kb : ClassId} {ii : Int32} (hii : ii = 0) {h : Heap} (hO : Old G.Z G.n0 h) (A : Arv G.Z h b kb .byte 6 [(.int (StrChars.lo8 ch0)), (.int (StrChars.hi8 ch0)), (.int (StrChars.lo8 ch1)), (.int (StrChars.hi8 ch1)), (.int (StrChars.lo8 ch2)), (.int (StrChars.hi8 ch2))] (.int 0)) :
    Own.Con G [] bGc3_0 #[.ref b, .int ii] h [] (fun v h' => v = some (.int ch0) ∧ h' = h) := by
  refine Own.Con.intro (plainFor_of_name pn_0) hO hEL _ (fun m => ef_bGc3_0 m b ii) ?_
  intro X T0 W0 sf
  subst hii
  refine Own.getS W0 (tw hw 107 rfl) Via.refl (W0.sta TA) d25_0 3 rfl ?_
  intro T1 W1
  refine Own.ifYes W1 d25_3 28 (by decide) (by decide) (by decide) ?_
  refine Own.iloadN W1 d25_28 29 rfl 0 rfl ?_
  refine Own.iconst W1 d25_29 30 rfl 1 rfl ?_
  refine Own.ishl W1 d25_30 31 rfl ?_
  rw [show ((0 : Int32) <<< ((1 : Int32) &&& 31)) = (0 : Int32) by decide]
  refine Own.istoreN W1 d25_31 32 rfl #[.val (.ref b), .val (.int 0)] rfl ?_
  refine Own.aloadN W1 d25_32 33 rfl (.ref b) rfl rfl ?_
  refine Own.iloadN W1 d25_33 34 rfl 0 rfl ?_
  refine Own.iinc W1 d25_34 37 rfl rfl #[.val (.ref b), .val (.int 1)] rfl ?_
  refine Own.baload W1 A (by decide) (.int (StrChars.lo8 ch0)) rfl d25_37 38 rfl ?_
  refine Own.sipush W1 d25_38 41 rfl 255 rfl ?_
  refine Own.iand W1 d25_41 42 rfl ?_
  refine Own.getS W1 (tw hw 108 rfl) Via.refl (W1.sta TH) d25_42 45 rfl ?_
  intro T2 W2
  refine Own.ishl W2 d25_45 46 rfl ?_
  refine Own.aloadN W2 d25_46 47 rfl (.ref b) rfl rfl ?_
  refine Own.iloadN W2 d25_47 48 rfl 1 rfl ?_
  refine Own.baload W2 A (by decide) (.int (StrChars.hi8 ch0)) rfl d25_48 49 rfl ?_
  refine Own.sipush W2 d25_49 52 rfl 255 rfl ?_
  refine Own.iand W2 d25_52 53 rfl ?_
  refine Own.getS W2 (tw hw 109 rfl) Via.refl (W2.sta TL) d25_53 56 rfl ?_
  intro T3 W3
  refine Own.ishl W3 d25_56 57 rfl ?_
  refine Own.ior W3 d25_57 58 rfl ?_
  refine Own.i2c W3 d25_58 59 rfl ?_
  show Own.Go _ _ _ _ _ 59 #[.val (.ref b), .val (.int 1)] [.int (StrChars.pairCh (StrChars.lo8 ch0) (StrChars.hi8 ch0))]
  rw [StrChars.pair_says r0.1 r0.2]
  exact Own.retC W3 (by decide) (by decide) rfl d25_59 (Own.narC r0) ⟨rfl, rfl⟩
set_option maxRecDepth 65536 in
set_option maxHeartbeats 40000000 in
theorem con_gc3_1 {G : Own.Gl} (hw : ∀ d ∈ tables_1, d.before G.a0 G.Z = true) (hEL : EW G.Z G.a0 G.EL) (TA : Sta G.Z G.Z.heap "java/lang/StringUTF16" "$assertionsDisabled" "Z" (.int 1)) (TH : Sta G.Z G.Z.heap "java/lang/StringUTF16" "HI_BYTE_SHIFT" "I" (.int 0)) (TL : Sta G.Z G.Z.heap "java/lang/StringUTF16" "LO_BYTE_SHIFT" "I" (.int 8)) {ch0 ch1 ch2 : Int32} (r1 : Own.R16 ch1) {b : Addr} {kb : ClassId} {ii : Int32} (hii : ii = 1) {h : Heap} (hO : Old G.Z G.n0 h) (A : Arv G.Z h b kb .byte 6 [(.int (StrChars.lo8 ch0)), (.int (StrChars.hi8 ch0)), (.int (StrChars.lo8 ch1)), (.int (StrChars.hi8 ch1)), (.int (StrChars.lo8 ch2)), (.int (StrChars.hi8 ch2))] (.int 0)) :
    Own.Con G [] bGc3_1 #[.ref b, .int ii] h [] (fun v h' => v = some (.int ch1) ∧ h' = h) := by
  refine Own.Con.intro (plainFor_of_name pn_0) hO hEL _ (fun m => ef_bGc3_1 m b ii) ?_
  intro X T0 W0 sf
  subst hii
  refine Own.getS W0 (tw hw 107 rfl) Via.refl (W0.sta TA) d25_0 3 rfl ?_
  intro T1 W1
  refine Own.ifYes W1 d25_3 28 (by decide) (by decide) (by decide) ?_
  refine Own.iloadN W1 d25_28 29 rfl 1 rfl ?_
  refine Own.iconst W1 d25_29 30 rfl 1 rfl ?_
  refine Own.ishl W1 d25_30 31 rfl ?_
  rw [show ((1 : Int32) <<< ((1 : Int32) &&& 31)) = (2 : Int32) by decide]
  refine Own.istoreN W1 d25_31 32 rfl #[.val (.ref b), .val (.int 2)] rfl ?_
  refine Own.aloadN W1 d25_32 33 rfl (.ref b) rfl rfl ?_
  refine Own.iloadN W1 d25_33 34 rfl 2 rfl ?_
  refine Own.iinc W1 d25_34 37 rfl rfl #[.val (.ref b), .val (.int 3)] rfl ?_
  refine Own.baload W1 A (by decide) (.int (StrChars.lo8 ch1)) rfl d25_37 38 rfl ?_
  refine Own.sipush W1 d25_38 41 rfl 255 rfl ?_
  refine Own.iand W1 d25_41 42 rfl ?_
  refine Own.getS W1 (tw hw 108 rfl) Via.refl (W1.sta TH) d25_42 45 rfl ?_
  intro T2 W2
  refine Own.ishl W2 d25_45 46 rfl ?_
  refine Own.aloadN W2 d25_46 47 rfl (.ref b) rfl rfl ?_
  refine Own.iloadN W2 d25_47 48 rfl 3 rfl ?_
  refine Own.baload W2 A (by decide) (.int (StrChars.hi8 ch1)) rfl d25_48 49 rfl ?_
  refine Own.sipush W2 d25_49 52 rfl 255 rfl ?_
  refine Own.iand W2 d25_52 53 rfl ?_
  refine Own.getS W2 (tw hw 109 rfl) Via.refl (W2.sta TL) d25_53 56 rfl ?_
  intro T3 W3
  refine Own.ishl W3 d25_56 57 rfl ?_
  refine Own.ior W3 d25_57 58 rfl ?_
  refine Own.i2c W3 d25_58 59 rfl ?_
  show Own.Go _ _ _ _ _ 59 #[.val (.ref b), .val (.int 3)] [.int (StrChars.pairCh (StrChars.lo8 ch1) (StrChars.hi8 ch1))]
  rw [StrChars.pair_says r1.1 r1.2]
  exact Own.retC W3 (by decide) (by decide) rfl d25_59 (Own.narC r1) ⟨rfl, rfl⟩
set_option maxRecDepth 65536 in
set_option maxHeartbeats 40000000 in
theorem con_gc3_2 {G : Own.Gl} (hw : ∀ d ∈ tables_1, d.before G.a0 G.Z = true) (hEL : EW G.Z G.a0 G.EL) (TA : Sta G.Z G.Z.heap "java/lang/StringUTF16" "$assertionsDisabled" "Z" (.int 1)) (TH : Sta G.Z G.Z.heap "java/lang/StringUTF16" "HI_BYTE_SHIFT" "I" (.int 0)) (TL : Sta G.Z G.Z.heap "java/lang/StringUTF16" "LO_BYTE_SHIFT" "I" (.int 8)) {ch0 ch1 ch2 : Int32} (r2 : Own.R16 ch2) {b : Addr} {kb : ClassId} {ii : Int32} (hii : ii = 2) {h : Heap} (hO : Old G.Z G.n0 h) (A : Arv G.Z h b kb .byte 6 [(.int (StrChars.lo8 ch0)), (.int (StrChars.hi8 ch0)), (.int (StrChars.lo8 ch1)), (.int (StrChars.hi8 ch1)), (.int (StrChars.lo8 ch2)), (.int (StrChars.hi8 ch2))] (.int 0)) :
    Own.Con G [] bGc3_2 #[.ref b, .int ii] h [] (fun v h' => v = some (.int ch2) ∧ h' = h) := by
  refine Own.Con.intro (plainFor_of_name pn_0) hO hEL _ (fun m => ef_bGc3_2 m b ii) ?_
  intro X T0 W0 sf
  subst hii
  refine Own.getS W0 (tw hw 107 rfl) Via.refl (W0.sta TA) d25_0 3 rfl ?_
  intro T1 W1
  refine Own.ifYes W1 d25_3 28 (by decide) (by decide) (by decide) ?_
  refine Own.iloadN W1 d25_28 29 rfl 2 rfl ?_
  refine Own.iconst W1 d25_29 30 rfl 1 rfl ?_
  refine Own.ishl W1 d25_30 31 rfl ?_
  rw [show ((2 : Int32) <<< ((1 : Int32) &&& 31)) = (4 : Int32) by decide]
  refine Own.istoreN W1 d25_31 32 rfl #[.val (.ref b), .val (.int 4)] rfl ?_
  refine Own.aloadN W1 d25_32 33 rfl (.ref b) rfl rfl ?_
  refine Own.iloadN W1 d25_33 34 rfl 4 rfl ?_
  refine Own.iinc W1 d25_34 37 rfl rfl #[.val (.ref b), .val (.int 5)] rfl ?_
  refine Own.baload W1 A (by decide) (.int (StrChars.lo8 ch2)) rfl d25_37 38 rfl ?_
  refine Own.sipush W1 d25_38 41 rfl 255 rfl ?_
  refine Own.iand W1 d25_41 42 rfl ?_
  refine Own.getS W1 (tw hw 108 rfl) Via.refl (W1.sta TH) d25_42 45 rfl ?_
  intro T2 W2
  refine Own.ishl W2 d25_45 46 rfl ?_
  refine Own.aloadN W2 d25_46 47 rfl (.ref b) rfl rfl ?_
  refine Own.iloadN W2 d25_47 48 rfl 5 rfl ?_
  refine Own.baload W2 A (by decide) (.int (StrChars.hi8 ch2)) rfl d25_48 49 rfl ?_
  refine Own.sipush W2 d25_49 52 rfl 255 rfl ?_
  refine Own.iand W2 d25_52 53 rfl ?_
  refine Own.getS W2 (tw hw 109 rfl) Via.refl (W2.sta TL) d25_53 56 rfl ?_
  intro T3 W3
  refine Own.ishl W3 d25_56 57 rfl ?_
  refine Own.ior W3 d25_57 58 rfl ?_
  refine Own.i2c W3 d25_58 59 rfl ?_
  show Own.Go _ _ _ _ _ 59 #[.val (.ref b), .val (.int 5)] [.int (StrChars.pairCh (StrChars.lo8 ch2) (StrChars.hi8 ch2))]
  rw [StrChars.pair_says r2.1 r2.2]
  exact Own.retC W3 (by decide) (by decide) rfl d25_59 (Own.narC r2) ⟨rfl, rfl⟩
set_option maxRecDepth 65536 in
set_option maxHeartbeats 40000000 in
theorem con_c53 {G : Own.Gl} (hw : ∀ d ∈ tables_1, d.before G.a0 G.Z = true) (hEL : EW G.Z G.a0 G.EL) {ch0 ch1 ch2 : Int32} (hw255 : (255 : Int32) < ch0 ∨ (255 : Int32) < ch1 ∨ (255 : Int32) < ch2) {o1 o2 ln : Int32} (ho1 : o1 = 0) (ho2 : o2 = 0) (hln : ln = 3) {d : Addr} {kd : ClassId} {h : Heap} (hO : Old G.Z G.n0 h) (hn_d : G.n0 ≤ d) {a : Addr} {kC : ClassId} {dv : Value} (Ac : Arv G.Z h a kC .char 3 [.int ch0, .int ch1, .int ch2] dv) (had : a ≠ d) (Ad : Arv G.Z h d kd .byte 3 [.int 0, .int 0, .int 0] (.int 0)) :
    Own.Con G [] bC53 #[.ref a, .int o1, .ref d, .int o2, .int ln] h [d] (fun v h' => ((v = some (.int 0) ∧ (255 : Int32) < ch0) ∨ (v = some (.int 1) ∧ (255 : Int32) < ch1) ∨ (v = some (.int 2) ∧ (255 : Int32) < ch2)) ∧ Keep h h' [d]) := by
  refine Own.Con.intro (plainFor_of_name pn_0) hO hEL _ (fun m => ef_bC53 m a o1 d o2 ln) ?_
  intro X T0 W0 sf
  subst ho1; subst ho2; subst hln
  have sd := sf d (List.mem_singleton.mpr rfl)
  refine Own.iconst W0 d12_0 1 rfl 0 rfl ?_
  refine Own.istore W0 d12_1 3 rfl #[.val (.ref a), .val (.int 0), .val (.ref d), .val (.int 0), .val (.int 3), .val (.int 0), .unset] rfl ?_
  refine Own.iload W0 d12_3 5 rfl 0 rfl ?_
  refine Own.iload W0 d12_5 7 rfl 3 rfl ?_
  refine Own.icmpNo W0 d12_7 10 (by decide) rfl ?_
  refine Own.aloadN W0 d12_10 11 rfl (.ref a) rfl rfl ?_
  refine Own.iloadN W0 d12_11 12 rfl 0 rfl ?_
  refine Own.caload W0 Ac (by decide) (.int ch0) rfl d12_12 13 rfl ?_
  refine Own.istore W0 d12_13 15 rfl #[.val (.ref a), .val (.int 0), .val (.ref d), .val (.int 0), .val (.int 3), .val (.int 0), .val (.int ch0)] rfl ?_
  refine Own.iload W0 d12_15 17 rfl ch0 rfl ?_
  refine Own.sipush W0 d12_17 20 rfl 255 rfl ?_
  by_cases e0 : (255 : Int32) < ch0
  · skip
    refine Own.icmpNo W0 d12_20 23 (XT.ii_le_f e0) rfl ?_
    refine Own.iload W0 d12_23 25 rfl 0 rfl ?_
    exact Own.retI W0 (by decide) (by decide) rfl d12_25 ⟨Or.inl ⟨rfl, e0⟩, (Keep.refl h [d])⟩
  · skip
    refine Own.icmpYes W0 d12_20 26 (XT.ii_le_t e0) (by decide) (by decide) ?_
    refine Own.aloadN W0 d12_26 27 rfl (.ref d) rfl rfl ?_
    refine Own.iloadN W0 d12_27 28 rfl 0 rfl ?_
    refine Own.iload W0 d12_28 30 rfl ch0 rfl ?_
    refine Own.i2b W0 d12_30 31 rfl ?_
    refine Own.bastore W0 Ad 0 (by decide) (by decide) (lb rfl) hn_d sd (x' := (ch0.toInt8.toInt32)) (Own.nar_b8 _) d12_31 32 rfl ?_
    intro T1 h1 W1 Q1 A1 k1
    have V1 : Arv G.Z h1 d kd .byte (3 : Int32) [(.int (ch0.toInt8.toInt32)), .int 0, .int 0] (.int 0) := A1
    refine Own.iinc W1 d12_32 35 rfl rfl #[.val (.ref a), .val (.int 1), .val (.ref d), .val (.int 0), .val (.int 3), .val (.int 0), .val (.int ch0)] rfl ?_
    refine Own.iinc W1 d12_35 38 rfl rfl #[.val (.ref a), .val (.int 1), .val (.ref d), .val (.int 1), .val (.int 3), .val (.int 0), .val (.int ch0)] rfl ?_
    refine Own.iinc W1 d12_38 41 rfl rfl #[.val (.ref a), .val (.int 1), .val (.ref d), .val (.int 1), .val (.int 3), .val (.int 1), .val (.int ch0)] rfl ?_
    refine Own.goto W1 d12_41 3 (by decide) (by decide) ?_
    refine Own.iload W1 d12_3 5 rfl 1 rfl ?_
    refine Own.iload W1 d12_5 7 rfl 3 rfl ?_
    refine Own.icmpNo W1 d12_7 10 (by decide) rfl ?_
    refine Own.aloadN W1 d12_10 11 rfl (.ref a) rfl rfl ?_
    refine Own.iloadN W1 d12_11 12 rfl 1 rfl ?_
    refine Own.caload W1 (Ac.other Q1 had) (by decide) (.int ch1) rfl d12_12 13 rfl ?_
    refine Own.istore W1 d12_13 15 rfl #[.val (.ref a), .val (.int 1), .val (.ref d), .val (.int 1), .val (.int 3), .val (.int 1), .val (.int ch1)] rfl ?_
    refine Own.iload W1 d12_15 17 rfl ch1 rfl ?_
    refine Own.sipush W1 d12_17 20 rfl 255 rfl ?_
    by_cases e1 : (255 : Int32) < ch1
    · skip
      refine Own.icmpNo W1 d12_20 23 (XT.ii_le_f e1) rfl ?_
      refine Own.iload W1 d12_23 25 rfl 1 rfl ?_
      exact Own.retI W1 (by decide) (by decide) rfl d12_25 ⟨Or.inr (Or.inl ⟨rfl, e1⟩), (Keep.wr (Keep.refl h [d]) Q1 (Or.inl (List.mem_singleton.mpr rfl)))⟩
    · skip
      refine Own.icmpYes W1 d12_20 26 (XT.ii_le_t e1) (by decide) (by decide) ?_
      refine Own.aloadN W1 d12_26 27 rfl (.ref d) rfl rfl ?_
      refine Own.iloadN W1 d12_27 28 rfl 1 rfl ?_
      refine Own.iload W1 d12_28 30 rfl ch1 rfl ?_
      refine Own.i2b W1 d12_30 31 rfl ?_
      refine Own.bastore W1 V1 1 (by decide) (by decide) (lb rfl) hn_d (k1 d sd) (x' := (ch1.toInt8.toInt32)) (Own.nar_b8 _) d12_31 32 rfl ?_
      intro T2 h2 W2 Q2 A2 k2
      have V2 : Arv G.Z h2 d kd .byte (3 : Int32) [(.int (ch0.toInt8.toInt32)), (.int (ch1.toInt8.toInt32)), .int 0] (.int 0) := A2
      refine Own.iinc W2 d12_32 35 rfl rfl #[.val (.ref a), .val (.int 2), .val (.ref d), .val (.int 1), .val (.int 3), .val (.int 1), .val (.int ch1)] rfl ?_
      refine Own.iinc W2 d12_35 38 rfl rfl #[.val (.ref a), .val (.int 2), .val (.ref d), .val (.int 2), .val (.int 3), .val (.int 1), .val (.int ch1)] rfl ?_
      refine Own.iinc W2 d12_38 41 rfl rfl #[.val (.ref a), .val (.int 2), .val (.ref d), .val (.int 2), .val (.int 3), .val (.int 2), .val (.int ch1)] rfl ?_
      refine Own.goto W2 d12_41 3 (by decide) (by decide) ?_
      refine Own.iload W2 d12_3 5 rfl 2 rfl ?_
      refine Own.iload W2 d12_5 7 rfl 3 rfl ?_
      refine Own.icmpNo W2 d12_7 10 (by decide) rfl ?_
      refine Own.aloadN W2 d12_10 11 rfl (.ref a) rfl rfl ?_
      refine Own.iloadN W2 d12_11 12 rfl 2 rfl ?_
      refine Own.caload W2 ((Ac.other Q1 had).other Q2 had) (by decide) (.int ch2) rfl d12_12 13 rfl ?_
      refine Own.istore W2 d12_13 15 rfl #[.val (.ref a), .val (.int 2), .val (.ref d), .val (.int 2), .val (.int 3), .val (.int 2), .val (.int ch2)] rfl ?_
      refine Own.iload W2 d12_15 17 rfl ch2 rfl ?_
      refine Own.sipush W2 d12_17 20 rfl 255 rfl ?_
      by_cases e2 : (255 : Int32) < ch2
      · skip
        refine Own.icmpNo W2 d12_20 23 (XT.ii_le_f e2) rfl ?_
        refine Own.iload W2 d12_23 25 rfl 2 rfl ?_
        exact Own.retI W2 (by decide) (by decide) rfl d12_25 ⟨Or.inr (Or.inr (⟨rfl, e2⟩)), (Keep.wr (Keep.wr (Keep.refl h [d]) Q1 (Or.inl (List.mem_singleton.mpr rfl))) Q2 (Or.inl (List.mem_singleton.mpr rfl)))⟩
      · skip
        refine Own.icmpYes W2 d12_20 26 (XT.ii_le_t e2) (by decide) (by decide) ?_
        refine Own.aloadN W2 d12_26 27 rfl (.ref d) rfl rfl ?_
        refine Own.iloadN W2 d12_27 28 rfl 2 rfl ?_
        refine Own.iload W2 d12_28 30 rfl ch2 rfl ?_
        refine Own.i2b W2 d12_30 31 rfl ?_
        refine Own.bastore W2 V2 2 (by decide) (by decide) (lb rfl) hn_d (k2 d (k1 d sd)) (x' := (ch2.toInt8.toInt32)) (Own.nar_b8 _) d12_31 32 rfl ?_
        intro T3 h3 W3 Q3 A3 k3
        have V3 : Arv G.Z h3 d kd .byte (3 : Int32) [(.int (ch0.toInt8.toInt32)), (.int (ch1.toInt8.toInt32)), (.int (ch2.toInt8.toInt32))] (.int 0) := A3
        exact absurd hw255 (by simp only [not_or]; exact ⟨e0, e1, e2⟩)
set_option maxRecDepth 65536 in
set_option maxHeartbeats 40000000 in
theorem con_c33 {G : Own.Gl} (hw : ∀ d ∈ tables_1, d.before G.a0 G.Z = true) (hEL : EW G.Z G.a0 G.EL) (TA : Sta G.Z G.Z.heap "java/lang/StringUTF16" "$assertionsDisabled" "Z" (.int 1)) (TH : Sta G.Z G.Z.heap "java/lang/StringUTF16" "HI_BYTE_SHIFT" "I" (.int 0)) (TL : Sta G.Z G.Z.heap "java/lang/StringUTF16" "LO_BYTE_SHIFT" "I" (.int 8)) (hEN6 : Own.EN G.Z G.a0 G.EL 6) {ch0 ch1 ch2 : Int32} (hw255 : (255 : Int32) < ch0 ∨ (255 : Int32) < ch1 ∨ (255 : Int32) < ch2) (r0 : Own.R16 ch0) (r1 : Own.R16 ch1) (r2 : Own.R16 ch2) {of ln : Int32} (hof : of = 0) (hln : ln = 3) {h : Heap} (hO : Old G.Z G.n0 h) {a : Addr} {kC : ClassId} {dv : Value} (Ac : Arv G.Z h a kC .char 3 [.int ch0, .int ch1, .int ch2] dv) :
    Own.Con G [] bC33 #[.ref a, .int of, .int ln] h [] (fun v h' => ∃ (o : Addr) (ko : ClassId), v = some (.ref o) ∧ Ext h h' ∧ h.size ≤ o ∧ Arv G.Z h' o ko .byte 6 [(.int (StrChars.lo8 ch0)), (.int (StrChars.hi8 ch0)), (.int (StrChars.lo8 ch1)), (.int (StrChars.hi8 ch1)), (.int (StrChars.lo8 ch2)), (.int (StrChars.hi8 ch2))] (.int 0)) := by
  refine Own.Con.intro (plainFor_of_name pn_0) hO hEL _ (fun m => ef_bC33 m a of ln) ?_
  intro X T0 W0 sf
  subst hof; subst hln
  refine Own.iloadN W0 d11_0 1 rfl 3 rfl ?_
  refine Own.newA W0 (tw hw 15 rfl) d11_1 3 rfl (by decide) 3 (by decide) (by decide) 1 3 (by decide) (by decide) (by decide) (by decide) ?_
  intro T1 h1 o1 c1 g1 W1 E1 A1 s1 k1
  have V1 : Arv G.Z h1 o1 c1 .byte (3 : Int32) [.int 0, .int 0, .int 0] (.int 0) := A1
  refine Own.astoreN W1 d11_3 4 rfl rfl #[.val (.ref a), .val (.int 0), .val (.int 3), .val (.ref o1), .unset, .unset] rfl ?_
  refine Own.aloadN W1 d11_4 5 rfl (.ref a) rfl rfl ?_
  refine Own.iloadN W1 d11_5 6 rfl 0 rfl ?_
  refine Own.aloadN W1 d11_6 7 rfl (.ref o1) rfl rfl ?_
  refine Own.iconst W1 d11_7 8 rfl 0 rfl ?_
  refine Own.iloadN W1 d11_8 9 rfl 3 rfl ?_
  have X2 : Ext h h1 := E1
  refine Own.callS W1 (tw hw 56 rfl) (tw hw 57 rfl) (tw hw 54 rfl) (tw hw 58 rfl) (by decide) (argsL := [(.ref a), .int 0, (.ref o1), .int 0, .int 3]) (rest := []) (Own.Con.pay (con_c53 hw hEL hw255 rfl rfl rfl W1.old (Nat.le_trans W0.n0 (Nat.le_of_eq g1.symm)) (Ac.ext X2) (Nat.ne_of_lt (Nat.lt_of_lt_of_le Ac.lt (Nat.le_of_eq g1.symm))) V1) W1 (tw hw 58 rfl) (tw hw 54 rfl) (len := 3) (wd := 0) (by decide) (by decide) (fun y hy => by cases List.mem_singleton.mp hy; exact ⟨V1.lt, s1⟩)) rfl (lenOf pd_3 rfl) rfl (lb rfl) d11_9 12 rfl 1 3 (lb rfl) (lb rfl) (lb rfl) (lb rfl) ?_
  intro v3 T3 h3 u3 W3 R3 hq
  obtain ⟨hv3, K3⟩ := hq
  rcases hv3 with ⟨rfl, e0⟩ | ⟨rfl, e1⟩ | ⟨rfl, e2⟩
  · skip
    show Own.Go _ _ _ _ _ 12 #[.val (.ref a), .val (.int 0), .val (.int 3), .val (.ref o1), .unset, .unset] [.int 0]
    refine Own.istore W3 d11_12 14 rfl #[.val (.ref a), .val (.int 0), .val (.int 3), .val (.ref o1), .val (.int 0), .unset] rfl ?_
    refine Own.iload W3 d11_14 16 rfl 0 rfl ?_
    refine Own.iloadN W3 d11_16 17 rfl 3 rfl ?_
    refine Own.icmpNo W3 d11_17 20 (by decide) rfl ?_
    refine Own.aloadN W3 d11_20 21 rfl (.ref a) rfl rfl ?_
    refine Own.iloadN W3 d11_21 22 rfl 0 rfl ?_
    refine Own.iloadN W3 d11_22 23 rfl 3 rfl ?_
    have X4 : Ext h h3 := Own.Ext.kp X2 K3 (allS (Nat.le_of_eq g1.symm) all0)
    refine Own.callS W3 (tw hw 94 rfl) (tw hw 95 rfl) (tw hw 54 rfl) (tw hw 96 rfl) (by decide) (argsL := [(.ref a), .int 0, .int 3]) (rest := []) (Own.Con.pay (con_tob3 hw hEL TA TH TL hEN6 rfl rfl W3.old (Ac.ext X4)) W3 (tw hw 96 rfl) (tw hw 54 rfl) (len := 3) (wd := 0) (by decide) (by decide) (fun _ q => nomatch q)) rfl (lenOf pd_4 rfl) rfl (lb rfl) d11_23 26 rfl 2 9 (lb rfl) (lb rfl) (lb rfl) (lb rfl) ?_
    intro v5 T5 h5 u5 W5 R5 hq
    obtain ⟨o5, k5, rfl, E5, g5, A5⟩ := hq
    show Own.Go _ _ _ _ _ 26 #[.val (.ref a), .val (.int 0), .val (.int 3), .val (.ref o1), .val (.int 0), .unset] [(.ref o5)]
    refine Own.astore W5 d11_26 28 rfl rfl #[.val (.ref a), .val (.int 0), .val (.int 3), .val (.ref o1), .val (.int 0), .val (.ref o5)] rfl ?_
    refine Own.aload W5 d11_28 30 rfl (.ref o5) rfl rfl ?_
    refine Own.iload W5 d11_30 32 rfl 0 rfl ?_
    refine Own.callS W5 (tw hw 110 rfl) (tw hw 111 rfl) (tw hw 54 rfl) (tw hw 112 rfl) (by decide) (argsL := [(.ref o5), .int 0]) (rest := []) (Own.Con.pay (con_gc3_0 hw hEL TA TH TL r0 rfl W5.old A5) W5 (tw hw 112 rfl) (tw hw 54 rfl) (len := 3) (wd := 0) (by decide) (by decide) (fun _ q => nomatch q)) rfl (lenOf pd_5 rfl) rfl (lb rfl) d11_32 35 rfl 2 9 (lb rfl) (lb rfl) (lb rfl) (lb rfl) ?_
    intro v6 T6 h6 u6 W6 R6 hq
    obtain ⟨rfl, eh6⟩ := hq
    have ei6 := eh6.symm; subst ei6
    show Own.Go _ _ _ _ _ 35 #[.val (.ref a), .val (.int 0), .val (.int 3), .val (.ref o1), .val (.int 0), .val (.ref o5)] [(.int ch0)]
    refine Own.sipush W6 d11_35 38 rfl 255 rfl ?_
    refine Own.icmpYes W6 d11_38 54 (XT.ii_gt_t e0) (by decide) (by decide) ?_
    refine Own.aload W6 d11_54 56 rfl (.ref o5) rfl rfl ?_
    have X7 : Ext h h5 := Own.Ext.tr X4 E5
    exact Own.retA W6 (by decide) (by decide) rfl rfl rfl d11_56 ⟨o5, _, rfl, X7, (Nat.le_trans X4.1 g5), A5⟩
  · skip
    show Own.Go _ _ _ _ _ 12 #[.val (.ref a), .val (.int 0), .val (.int 3), .val (.ref o1), .unset, .unset] [.int 1]
    refine Own.istore W3 d11_12 14 rfl #[.val (.ref a), .val (.int 0), .val (.int 3), .val (.ref o1), .val (.int 1), .unset] rfl ?_
    refine Own.iload W3 d11_14 16 rfl 1 rfl ?_
    refine Own.iloadN W3 d11_16 17 rfl 3 rfl ?_
    refine Own.icmpNo W3 d11_17 20 (by decide) rfl ?_
    refine Own.aloadN W3 d11_20 21 rfl (.ref a) rfl rfl ?_
    refine Own.iloadN W3 d11_21 22 rfl 0 rfl ?_
    refine Own.iloadN W3 d11_22 23 rfl 3 rfl ?_
    have X8 : Ext h h3 := Own.Ext.kp X2 K3 (allS (Nat.le_of_eq g1.symm) all0)
    refine Own.callS W3 (tw hw 94 rfl) (tw hw 95 rfl) (tw hw 54 rfl) (tw hw 96 rfl) (by decide) (argsL := [(.ref a), .int 0, .int 3]) (rest := []) (Own.Con.pay (con_tob3 hw hEL TA TH TL hEN6 rfl rfl W3.old (Ac.ext X8)) W3 (tw hw 96 rfl) (tw hw 54 rfl) (len := 3) (wd := 0) (by decide) (by decide) (fun _ q => nomatch q)) rfl (lenOf pd_4 rfl) rfl (lb rfl) d11_23 26 rfl 2 9 (lb rfl) (lb rfl) (lb rfl) (lb rfl) ?_
    intro v9 T9 h9 u9 W9 R9 hq
    obtain ⟨o9, k9, rfl, E9, g9, A9⟩ := hq
    show Own.Go _ _ _ _ _ 26 #[.val (.ref a), .val (.int 0), .val (.int 3), .val (.ref o1), .val (.int 1), .unset] [(.ref o9)]
    refine Own.astore W9 d11_26 28 rfl rfl #[.val (.ref a), .val (.int 0), .val (.int 3), .val (.ref o1), .val (.int 1), .val (.ref o9)] rfl ?_
    refine Own.aload W9 d11_28 30 rfl (.ref o9) rfl rfl ?_
    refine Own.iload W9 d11_30 32 rfl 1 rfl ?_
    refine Own.callS W9 (tw hw 110 rfl) (tw hw 111 rfl) (tw hw 54 rfl) (tw hw 112 rfl) (by decide) (argsL := [(.ref o9), .int 1]) (rest := []) (Own.Con.pay (con_gc3_1 hw hEL TA TH TL r1 rfl W9.old A9) W9 (tw hw 112 rfl) (tw hw 54 rfl) (len := 3) (wd := 0) (by decide) (by decide) (fun _ q => nomatch q)) rfl (lenOf pd_5 rfl) rfl (lb rfl) d11_32 35 rfl 2 9 (lb rfl) (lb rfl) (lb rfl) (lb rfl) ?_
    intro v10 T10 h10 u10 W10 R10 hq
    obtain ⟨rfl, eh10⟩ := hq
    have ei10 := eh10.symm; subst ei10
    show Own.Go _ _ _ _ _ 35 #[.val (.ref a), .val (.int 0), .val (.int 3), .val (.ref o1), .val (.int 1), .val (.ref o9)] [(.int ch1)]
    refine Own.sipush W10 d11_35 38 rfl 255 rfl ?_
    refine Own.icmpYes W10 d11_38 54 (XT.ii_gt_t e1) (by decide) (by decide) ?_
    refine Own.aload W10 d11_54 56 rfl (.ref o9) rfl rfl ?_
    have X11 : Ext h h9 := Own.Ext.tr X8 E9
    exact Own.retA W10 (by decide) (by decide) rfl rfl rfl d11_56 ⟨o9, _, rfl, X11, (Nat.le_trans X8.1 g9), A9⟩
  · skip
    show Own.Go _ _ _ _ _ 12 #[.val (.ref a), .val (.int 0), .val (.int 3), .val (.ref o1), .unset, .unset] [.int 2]
    refine Own.istore W3 d11_12 14 rfl #[.val (.ref a), .val (.int 0), .val (.int 3), .val (.ref o1), .val (.int 2), .unset] rfl ?_
    refine Own.iload W3 d11_14 16 rfl 2 rfl ?_
    refine Own.iloadN W3 d11_16 17 rfl 3 rfl ?_
    refine Own.icmpNo W3 d11_17 20 (by decide) rfl ?_
    refine Own.aloadN W3 d11_20 21 rfl (.ref a) rfl rfl ?_
    refine Own.iloadN W3 d11_21 22 rfl 0 rfl ?_
    refine Own.iloadN W3 d11_22 23 rfl 3 rfl ?_
    have X12 : Ext h h3 := Own.Ext.kp X2 K3 (allS (Nat.le_of_eq g1.symm) all0)
    refine Own.callS W3 (tw hw 94 rfl) (tw hw 95 rfl) (tw hw 54 rfl) (tw hw 96 rfl) (by decide) (argsL := [(.ref a), .int 0, .int 3]) (rest := []) (Own.Con.pay (con_tob3 hw hEL TA TH TL hEN6 rfl rfl W3.old (Ac.ext X12)) W3 (tw hw 96 rfl) (tw hw 54 rfl) (len := 3) (wd := 0) (by decide) (by decide) (fun _ q => nomatch q)) rfl (lenOf pd_4 rfl) rfl (lb rfl) d11_23 26 rfl 2 9 (lb rfl) (lb rfl) (lb rfl) (lb rfl) ?_
    intro v13 T13 h13 u13 W13 R13 hq
    obtain ⟨o13, k13, rfl, E13, g13, A13⟩ := hq
    show Own.Go _ _ _ _ _ 26 #[.val (.ref a), .val (.int 0), .val (.int 3), .val (.ref o1), .val (.int 2), .unset] [(.ref o13)]
    refine Own.astore W13 d11_26 28 rfl rfl #[.val (.ref a), .val (.int 0), .val (.int 3), .val (.ref o1), .val (.int 2), .val (.ref o13)] rfl ?_
    refine Own.aload W13 d11_28 30 rfl (.ref o13) rfl rfl ?_
    refine Own.iload W13 d11_30 32 rfl 2 rfl ?_
    refine Own.callS W13 (tw hw 110 rfl) (tw hw 111 rfl) (tw hw 54 rfl) (tw hw 112 rfl) (by decide) (argsL := [(.ref o13), .int 2]) (rest := []) (Own.Con.pay (con_gc3_2 hw hEL TA TH TL r2 rfl W13.old A13) W13 (tw hw 112 rfl) (tw hw 54 rfl) (len := 3) (wd := 0) (by decide) (by decide) (fun _ q => nomatch q)) rfl (lenOf pd_5 rfl) rfl (lb rfl) d11_32 35 rfl 2 9 (lb rfl) (lb rfl) (lb rfl) (lb rfl) ?_
    intro v14 T14 h14 u14 W14 R14 hq
    obtain ⟨rfl, eh14⟩ := hq
    have ei14 := eh14.symm; subst ei14
    show Own.Go _ _ _ _ _ 35 #[.val (.ref a), .val (.int 0), .val (.int 3), .val (.ref o1), .val (.int 2), .val (.ref o13)] [(.int ch2)]
    refine Own.sipush W14 d11_35 38 rfl 255 rfl ?_
    refine Own.icmpYes W14 d11_38 54 (XT.ii_gt_t e2) (by decide) (by decide) ?_
    refine Own.aload W14 d11_54 56 rfl (.ref o13) rfl rfl ?_
    have X15 : Ext h h13 := Own.Ext.tr X12 E13
    exact Own.retA W14 (by decide) (by decide) rfl rfl rfl d11_56 ⟨o13, _, rfl, X15, (Nat.le_trans X12.1 g13), A13⟩
set_option maxRecDepth 65536 in
set_option maxHeartbeats 40000000 in
theorem con_cfl3 {G : Own.Gl} (hw : ∀ d ∈ tables_1, d.before G.a0 G.Z = true) (hEL : EW G.Z G.a0 G.EL) {b : Addr} {kb : ClassId} {vs : List Value} {dv : Value} {ln : Int32} (hln : ln = 3) {h : Heap} (hO : Old G.Z G.n0 h) (A : Arv G.Z h b kb .byte 6 vs dv) :
    Own.Con G [] bCfl3 #[.ref b, .int ln] h [] (fun v h' => v = some (.int 1) ∧ h' = h) := by
  refine Own.Con.intro (plainFor_of_name pn_0) hO hEL _ (fun m => ef_bCfl3 m b ln) ?_
  intro X T0 W0 sf
  subst hln
  refine Own.iloadN W0 d13_0 1 rfl 3 rfl ?_
  refine Own.aloadN W0 d13_1 2 rfl (.ref b) rfl rfl ?_
  refine Own.arrlen W0 A d13_2 3 rfl ?_
  refine Own.isub W0 d13_3 4 rfl ?_
  refine Own.bipush W0 d13_4 6 rfl 31 rfl ?_
  refine Own.iushr W0 d13_6 7 rfl ?_
  refine Own.i2b W0 d13_7 8 rfl ?_
  rw [show (((3 : Int32) - (6 : Int32)).toUInt32 >>> ((31 : Int32) &&& 31).toUInt32).toInt32.toInt8.toInt32 = (1 : Int32) by decide]
  exact Own.retY W0 (by decide) (by decide) rfl d13_8 rfl ⟨rfl, rfl⟩
set_option maxRecDepth 65536 in
set_option maxHeartbeats 40000000 in
theorem con_w43 {G : Own.Gl} (hw : ∀ d ∈ tables_1, d.before G.a0 G.Z = true) (hEL : EW G.Z G.a0 G.EL) (hmem : (Own.ST, 7) ∈ G.EL) {cz : Int32} (hS : Sta G.Z G.Z.heap Own.ST "COMPACT_STRINGS" "Z" (.int cz)) (hcz : ¬ cz = 0) (TA : Sta G.Z G.Z.heap "java/lang/StringUTF16" "$assertionsDisabled" "Z" (.int 1)) (TH : Sta G.Z G.Z.heap "java/lang/StringUTF16" "HI_BYTE_SHIFT" "I" (.int 0)) (TL : Sta G.Z G.Z.heap "java/lang/StringUTF16" "LO_BYTE_SHIFT" "I" (.int 8)) (hEN6 : Own.EN G.Z G.a0 G.EL 6) {ch0 ch1 ch2 : Int32} (hw255 : (255 : Int32) < ch0 ∨ (255 : Int32) < ch1 ∨ (255 : Int32) < ch2) (r0 : Own.R16 ch0) (r1 : Own.R16 ch1) (r2 : Own.R16 ch2) {of ln : Int32} (hof : of = 0) (hln : ln = 3) {x : Addr} {h : Heap} (hO : Old G.Z G.n0 h) (hn_x : G.n0 ≤ x) (E : Exa G.Z h x "java/lang/String") {v0 c0_ : Value} (V : Fld G.Z h x "java/lang/String" "value" "[B" v0) (Cd : Fld G.Z h x "java/lang/String" "coder" "B" c0_) {a : Addr} {kC : ClassId} {dv : Value} (Ac : Arv G.Z h a kC .char 3 [.int ch0, .int ch1, .int ch2] dv) :
    Own.Con G [] bW43 #[.ref x, .ref a, .int of, .int ln, .null] h [x] (fun v h' => v = none ∧ Keep h h' [x] ∧ Own.WStr G.Z h' x [ch0, ch1, ch2]) := by
  refine Own.Con.intro (plainFor_of_name pn_1) hO hEL _ (fun m => ef_bW43 m x a of ln) ?_
  intro X T0 W0 sf
  subst hof; subst hln
  have sx := sf x (List.mem_singleton.mpr rfl)
  refine Own.aloadN W0 d2_0 1 rfl (.ref x) rfl rfl ?_
  refine Own.initO W0 (tw hw 11 rfl) (tw hw 12 rfl) (tw hw 13 rfl) rfl d2_1 4 rfl (by decide) (by decide) ?_
  intro T1 W1
  refine Own.iloadN W1 d2_4 5 rfl 3 rfl ?_
  refine Own.ifYes W1 d2_5 27 (by decide) (by decide) (by decide) ?_
  refine Own.getS W1 (tw hw 39 rfl) Via.refl (W1.sta hS) d2_27 30 rfl ?_
  intro T2 W2
  refine Own.ifNo W2 d2_30 33 (XT.i0_eq_f hcz) rfl ?_
  refine Own.aloadN W2 d2_33 34 rfl (.ref a) rfl rfl ?_
  refine Own.iloadN W2 d2_34 35 rfl 0 rfl ?_
  refine Own.iloadN W2 d2_35 36 rfl 3 rfl ?_
  refine Own.callS W2 (tw hw 52 rfl) (tw hw 53 rfl) (tw hw 54 rfl) (tw hw 55 rfl) (by decide) (argsL := [(.ref a), .int 0, .int 3]) (rest := []) (Own.Con.pay (con_c33 hw hEL TA TH TL hEN6 hw255 r0 r1 r2 rfl rfl W2.old Ac) W2 (tw hw 55 rfl) (tw hw 54 rfl) (len := 3) (wd := 0) (by decide) (by decide) (fun _ q => nomatch q)) rfl (lenOf pd_4 rfl) rfl (lb rfl) d2_36 39 rfl 2 9 (lb rfl) (lb rfl) (lb rfl) (lb rfl) ?_
  intro v3 T3 h3 u3 W3 R3 hq
  obtain ⟨o3, k3, rfl, E3, g3, A3⟩ := hq
  show Own.Go _ _ _ _ _ 39 #[.val (.ref x), .val (.ref a), .val (.int 0), .val (.int 3), .val .null, .unset] [(.ref o3)]
  refine Own.astore W3 d2_39 41 rfl rfl #[.val (.ref x), .val (.ref a), .val (.int 0), .val (.int 3), .val .null, .val (.ref o3)] rfl ?_
  refine Own.aloadN W3 d2_41 42 rfl (.ref x) rfl rfl ?_
  refine Own.aload W3 d2_42 44 rfl (.ref o3) rfl rfl ?_
  refine Own.iloadN W3 d2_44 45 rfl 3 rfl ?_
  refine Own.callS W3 (tw hw 59 rfl) (tw hw 60 rfl) (tw hw 54 rfl) (tw hw 61 rfl) (by decide) (argsL := [(.ref o3), .int 3]) (rest := [(.ref x)]) (Own.Con.pay (con_cfl3 hw hEL rfl W3.old A3) W3 (tw hw 61 rfl) (tw hw 54 rfl) (len := 3) (wd := 1) (by decide) (by decide) (fun _ q => nomatch q)) rfl (lenOf pd_6 rfl) rfl (lb rfl) d2_45 48 rfl 2 9 (lb rfl) (lb rfl) (lb rfl) (lb rfl) ?_
  intro v4 T4 h4 u4 W4 R4 hq
  obtain ⟨rfl, eh4⟩ := hq
  have ei4 := eh4.symm; subst ei4
  have X5 : Ext h h3 := E3
  have sf6 := R4.safe (E.ext X5).lt (R3.safe E.lt sx)
  show Own.Go _ _ _ _ _ 48 #[.val (.ref x), .val (.ref a), .val (.int 0), .val (.int 3), .val .null, .val (.ref o3)] [.int 1, (.ref x)]
  refine Own.putF W4 (tw hw 21 rfl) Via.refl (Cd.ext X5) (E.ext X5) (Or.inr ⟨(tw hw 17 rfl), rfl, rfl⟩) (tw hw 2 rfl) (ty := .byte) (v' := (.int 1)) (by decide) rfl rfl hn_x sf6 d2_48 51 rfl ?_
  intro T7 h7 W7 Q7 k7
  have F7_coder := Fld.same Q7 (Cd.ext X5)
  refine Own.aloadN W7 d2_51 52 rfl (.ref x) rfl rfl ?_
  refine Own.aload W7 d2_52 54 rfl (.ref o3) rfl rfl ?_
  refine Own.putF W7 (tw hw 20 rfl) Via.refl ((V.ext E3).other Q7 (Or.inr (slot_ne (Or.inr (tw hw 16 rfl)) (Or.inr (tw hw 17 rfl)) (by decide) (t := (.array .byte)) (t' := .byte) (by decide) (by decide)))) ((E.ext E3).wr Q7) (Or.inr ⟨(tw hw 16 rfl), rfl, rfl⟩) (tw hw 2 rfl) (ty := (.array .byte)) (v' := (.ref o3)) (by decide) rfl rfl hn_x (k7 x sf6) d2_54 57 rfl ?_
  intro T8 h8 W8 Q8 k8
  have F8_value := Fld.same Q8 ((V.ext E3).other Q7 (Or.inr (slot_ne (Or.inr (tw hw 16 rfl)) (Or.inr (tw hw 17 rfl)) (by decide) (t := (.array .byte)) (t' := .byte) (by decide) (by decide))))
  exact Own.retV W8 (by decide) (by decide) rfl d2_57 ⟨rfl, (Keep.wr (Keep.wr (Keep.ext (Keep.refl h [x]) E3) Q7 (Or.inl (by simp))) Q8 (Or.inl (by simp))), (((E.ext E3).wr Q7).wr Q8), (F7_coder.other Q8 (Or.inr (slot_ne (Or.inr (tw hw 17 rfl)) (Or.inr (tw hw 16 rfl)) (by decide) (t := .byte) (t' := (.array .byte)) (by decide) (by decide)))), (by intro c hc; simp only [List.mem_cons, List.not_mem_nil, or_false] at hc; rcases hc with rfl | rfl | rfl; exact r0; exact r1; exact r2), Nat.le_of_ble_eq_true rfl, (by rcases hw255 with q | q | q; exact ⟨ch0, by simp, q⟩; exact ⟨ch1, by simp, q⟩; exact ⟨ch2, by simp, q⟩), o3, _, F8_value, ((A3.other Q7 (Ne.symm (Nat.ne_of_lt (Nat.lt_of_lt_of_le E.lt g3)))).other Q8 (Ne.symm (Nat.ne_of_lt (Nat.lt_of_lt_of_le E.lt g3))))⟩
set_option maxRecDepth 65536 in
set_option maxHeartbeats 40000000 in
theorem con_w13 {G : Own.Gl} (hw : ∀ d ∈ tables_1, d.before G.a0 G.Z = true) (hEL : EW G.Z G.a0 G.EL) (hmem : (Own.ST, 7) ∈ G.EL) {cz : Int32} (hS : Sta G.Z G.Z.heap Own.ST "COMPACT_STRINGS" "Z" (.int cz)) (hcz : ¬ cz = 0) (TA : Sta G.Z G.Z.heap "java/lang/StringUTF16" "$assertionsDisabled" "Z" (.int 1)) (TH : Sta G.Z G.Z.heap "java/lang/StringUTF16" "HI_BYTE_SHIFT" "I" (.int 0)) (TL : Sta G.Z G.Z.heap "java/lang/StringUTF16" "LO_BYTE_SHIFT" "I" (.int 8)) (hEN6 : Own.EN G.Z G.a0 G.EL 6) {ch0 ch1 ch2 : Int32} (hw255 : (255 : Int32) < ch0 ∨ (255 : Int32) < ch1 ∨ (255 : Int32) < ch2) (r0 : Own.R16 ch0) (r1 : Own.R16 ch1) (r2 : Own.R16 ch2) {x : Addr} {h : Heap} (hO : Old G.Z G.n0 h) (hn_x : G.n0 ≤ x) (E : Exa G.Z h x "java/lang/String") {v0 c0_ : Value} (V : Fld G.Z h x "java/lang/String" "value" "[B" v0) (Cd : Fld G.Z h x "java/lang/String" "coder" "B" c0_) {a : Addr} {kC : ClassId} {dv : Value} (Ac : Arv G.Z h a kC .char 3 [.int ch0, .int ch1, .int ch2] dv) :
    Own.Con G [] bW13 #[.ref x, .ref a] h [x] (fun v h' => v = none ∧ Keep h h' [x] ∧ Own.WStr G.Z h' x [ch0, ch1, ch2]) := by
  refine Own.Con.intro (plainFor_of_name pn_1) hO hEL _ (fun m => ef_bW13 m x a) ?_
  intro X T0 W0 sf
  have sx := sf x (List.mem_singleton.mpr rfl)
  refine Own.aloadN W0 d1_0 1 rfl (.ref x) rfl rfl ?_
  refine Own.aloadN W0 d1_1 2 rfl (.ref a) rfl rfl ?_
  refine Own.iconst W0 d1_2 3 rfl 0 rfl ?_
  refine Own.aloadN W0 d1_3 4 rfl (.ref a) rfl rfl ?_
  refine Own.arrlen W0 Ac d1_4 5 rfl ?_
  refine Own.aconstNull W0 d1_5 6 rfl ?_
  refine Own.callX W0 rfl (tw hw 7 rfl) (tw hw 8 rfl) (tw hw 10 rfl) (by decide) (argsL := [(.ref a), .int 0, .int 3, .null]) (rest := []) (Own.Con.pay (con_w43 hw hEL hmem hS hcz TA TH TL hEN6 hw255 r0 r1 r2 rfl rfl W0.old hn_x E V Cd Ac) W0 (tw hw 10 rfl) (tw hw 3 rfl) (len := 3) (wd := 0) (by decide) (by decide) (fun y hy => by cases List.mem_singleton.mp hy; exact ⟨E.lt, sx⟩)) rfl (lenOf pd_7 rfl) rfl (lb rfl) d1_6 9 rfl 2 9 (lb rfl) (lb rfl) (lb rfl) (lb rfl) ?_
  intro v1 T1 h1 u1 W1 R1 hq
  obtain ⟨rfl, K1, F1⟩ := hq
  show Own.Go _ _ _ _ _ 9 #[.val (.ref x), .val (.ref a)] []
  exact Own.retV W1 (by decide) (by decide) rfl d1_9 ⟨rfl, K1, F1⟩
set_option maxRecDepth 65536 in
set_option maxHeartbeats 40000000 in
theorem con_nbl4 {G : Own.Gl} (hw : ∀ d ∈ tables_1, d.before G.a0 G.Z = true) (hEL : EW G.Z G.a0 G.EL) {k : Int32} (hk : k = 4) {h : Heap} (hO : Old G.Z G.n0 h) :
    Own.Con G [] bNbl4 #[.int k] h [] (fun v h' => v = some (.int 8) ∧ h' = h) := by
  refine Own.Con.intro (plainFor_of_name pn_0) hO hEL _ (fun m => ef_bNbl4 m k) ?_
  intro X T0 W0 sf
  subst hk
  refine Own.iloadN W0 d23_0 1 rfl 4 rfl ?_
  refine Own.ifYes W0 d23_1 12 (by decide) (by decide) (by decide) ?_
  refine Own.iloadN W0 d23_12 13 rfl 4 rfl ?_
  refine Own.ldcI W0 (tw hw 103 rfl) d23_13 15 rfl ?_
  refine Own.icmpYes W0 d23_15 55 (by decide) (by decide) (by decide) ?_
  refine Own.iloadN W0 d23_55 56 rfl 4 rfl ?_
  refine Own.iconst W0 d23_56 57 rfl 1 rfl ?_
  refine Own.ishl W0 d23_57 58 rfl ?_
  exact Own.retI W0 (by decide) (by decide) rfl d23_58 ⟨by decide, rfl⟩
set_option maxRecDepth 65536 in
set_option maxHeartbeats 40000000 in
theorem con_nbf4 {G : Own.Gl} (hw : ∀ d ∈ tables_1, d.before G.a0 G.Z = true) (hEL : EW G.Z G.a0 G.EL) {k : Int32} (hk : k = 4) {h : Heap} (hO : Old G.Z G.n0 h) :
    Own.Con G [] bNbf4 #[.int k] h [] (fun v h' => ∃ (o : Addr) (ko : ClassId), v = some (.ref o) ∧ Ext h h' ∧ h.size ≤ o ∧ Arv G.Z h' o ko .byte 8 [.int 0, .int 0, .int 0, .int 0, .int 0, .int 0, .int 0, .int 0] (.int 0)) := by
  refine Own.Con.intro (plainFor_of_name pn_0) hO hEL _ (fun m => ef_bNbf4 m k) ?_
  intro X T0 W0 sf
  subst hk
  refine Own.iloadN W0 d22_0 1 rfl 4 rfl ?_
  refine Own.callS W0 (tw hw 100 rfl) (tw hw 101 rfl) (tw hw 54 rfl) (tw hw 102 rfl) (by decide) (argsL := [.int 4]) (rest := []) (Own.Con.pay (con_nbl4 hw hEL rfl W0.old) W0 (tw hw 102 rfl) (tw hw 54 rfl) (len := 3) (wd := 0) (by decide) (by decide) (fun _ q => nomatch q)) rfl (lenOf pd_0 rfl) rfl (lb rfl) d22_1 4 rfl 0 0 (lb rfl) (lb rfl) (lb rfl) (lb rfl) ?_
  intro v1 T1 h1 u1 W1 R1 hq
  obtain ⟨rfl, eh1⟩ := hq
  have ei1 := eh1.symm; subst ei1
  show Own.Go _ _ _ _ _ 4 #[.val (.int 4)] [.int 8]
  refine Own.newA W1 (tw hw 15 rfl) d22_4 6 rfl (by decide) 8 (by decide) (by decide) 1 8 (by decide) (by decide) (by decide) (by decide) ?_
  intro T2 h2 o2 c2 g2 W2 E2 A2 s2 k2
  have V2 : Arv G.Z h2 o2 c2 .byte (8 : Int32) [.int 0, .int 0, .int 0, .int 0, .int 0, .int 0, .int 0, .int 0] (.int 0) := A2
  have X3 : Ext h h2 := E2
  exact Own.retA W2 (by decide) (by decide) rfl rfl rfl d22_6 ⟨o2, _, rfl, X3, (Nat.le_of_eq g2.symm), V2⟩
set_option maxRecDepth 65536 in
set_option maxHeartbeats 40000000 in
theorem con_tob4 {G : Own.Gl} (hw : ∀ d ∈ tables_1, d.before G.a0 G.Z = true) (hEL : EW G.Z G.a0 G.EL) (TA : Sta G.Z G.Z.heap "java/lang/StringUTF16" "$assertionsDisabled" "Z" (.int 1)) (TH : Sta G.Z G.Z.heap "java/lang/StringUTF16" "HI_BYTE_SHIFT" "I" (.int 0)) (TL : Sta G.Z G.Z.heap "java/lang/StringUTF16" "LO_BYTE_SHIFT" "I" (.int 8)) (hEN8 : Own.EN G.Z G.a0 G.EL 8) {ch0 ch1 ch2 ch3 : Int32} {of ln : Int32} (hof : of = 0) (hln : ln = 4) {h : Heap} (hO : Old G.Z G.n0 h) {a : Addr} {kC : ClassId} {dv : Value} (Ac : Arv G.Z h a kC .char 4 [.int ch0, .int ch1, .int ch2, .int ch3] dv) :
    Own.Con G [] bTob4 #[.ref a, .int of, .int ln] h [] (fun v h' => ∃ (o : Addr) (ko : ClassId), v = some (.ref o) ∧ Ext h h' ∧ h.size ≤ o ∧ Arv G.Z h' o ko .byte 8 [(.int (StrChars.lo8 ch0)), (.int (StrChars.hi8 ch0)), (.int (StrChars.lo8 ch1)), (.int (StrChars.hi8 ch1)), (.int (StrChars.lo8 ch2)), (.int (StrChars.hi8 ch2)), (.int (StrChars.lo8 ch3)), (.int (StrChars.hi8 ch3))] (.int 0)) := by
  refine Own.Con.intro (plainFor_of_name pn_0) hO hEL _ (fun m => ef_bTob4 m a of ln) ?_
  intro X T0 W0 sf
  subst hof; subst hln
  refine Own.iloadN W0 d21_0 1 rfl 4 rfl ?_
  refine Own.callS W0 (tw hw 97 rfl) (tw hw 98 rfl) (tw hw 54 rfl) (tw hw 99 rfl) (by decide) (argsL := [.int 4]) (rest := []) (Own.Con.pay (con_nbf4 hw hEL rfl W0.old) W0 (tw hw 99 rfl) (tw hw 54 rfl) (len := 3) (wd := 0) (by decide) (by decide) (fun _ q => nomatch q)) rfl (lenOf pd_1 rfl) rfl (lb rfl) d21_1 4 rfl 1 8 (lb rfl) (lb rfl) (lb rfl) (lb rfl) ?_
  intro v1 T1 h1 u1 W1 R1 hq
  obtain ⟨o1, k1, rfl, E1, g1, A1⟩ := hq
  show Own.Go _ _ _ _ _ 4 #[.val (.ref a), .val (.int 0), .val (.int 4), .unset, .unset] [(.ref o1)]
  refine Own.astoreN W1 d21_4 5 rfl rfl #[.val (.ref a), .val (.int 0), .val (.int 4), .val (.ref o1), .unset] rfl ?_
  refine Own.iconst W1 d21_5 6 rfl 0 rfl ?_
  refine Own.istore W1 d21_6 8 rfl #[.val (.ref a), .val (.int 0), .val (.int 4), .val (.ref o1), .val (.int 0)] rfl ?_
  refine Own.iload W1 d21_8 10 rfl 0 rfl ?_
  refine Own.iloadN W1 d21_10 11 rfl 4 rfl ?_
  refine Own.icmpNo W1 d21_11 14 (by decide) rfl ?_
  refine Own.aloadN W1 d21_14 15 rfl (.ref o1) rfl rfl ?_
  refine Own.iload W1 d21_15 17 rfl 0 rfl ?_
  refine Own.aloadN W1 d21_17 18 rfl (.ref a) rfl rfl ?_
  refine Own.iloadN W1 d21_18 19 rfl 0 rfl ?_
  have X2 : Ext h h1 := E1
  refine Own.caload W1 (Ac.ext X2) (by decide) (.int ch0) rfl d21_19 20 rfl ?_
  refine Own.callS W1 (tw hw 104 rfl) (tw hw 105 rfl) (tw hw 54 rfl) (tw hw 106 rfl) (by decide) (argsL := [(.ref o1), .int 0, (.int ch0)]) (rest := []) (Own.Con.pay (con_put4_0 hw hEL TA TH TL rfl ch0 W1.old (Nat.le_trans W0.n0 g1) A1) W1 (tw hw 106 rfl) (tw hw 54 rfl) (len := 3) (wd := 0) (by decide) (by decide) (fun y hy => by cases List.mem_singleton.mp hy; exact ⟨A1.lt, Own.Safe.len W1.wz hEN8 A1 (by decide)⟩)) rfl (lenOf pd_2 rfl) rfl (lb rfl) d21_20 23 rfl 1 8 (lb rfl) (lb rfl) (lb rfl) (lb rfl) ?_
  intro v3 T3 h3 u3 W3 R3 hq
  obtain ⟨rfl, K3, A3⟩ := hq
  show Own.Go _ _ _ _ _ 23 #[.val (.ref a), .val (.int 0), .val (.int 4), .val (.ref o1), .val (.int 0)] []
  refine Own.iinc W3 d21_23 26 rfl rfl #[.val (.ref a), .val (.int 1), .val (.int 4), .val (.ref o1), .val (.int 0)] rfl ?_
  refine Own.iinc W3 d21_26 29 rfl rfl #[.val (.ref a), .val (.int 1), .val (.int 4), .val (.ref o1), .val (.int 1)] rfl ?_
  refine Own.goto W3 d21_29 8 (by decide) (by decide) ?_
  refine Own.iload W3 d21_8 10 rfl 1 rfl ?_
  refine Own.iloadN W3 d21_10 11 rfl 4 rfl ?_
  refine Own.icmpNo W3 d21_11 14 (by decide) rfl ?_
  refine Own.aloadN W3 d21_14 15 rfl (.ref o1) rfl rfl ?_
  refine Own.iload W3 d21_15 17 rfl 1 rfl ?_
  refine Own.aloadN W3 d21_17 18 rfl (.ref a) rfl rfl ?_
  refine Own.iloadN W3 d21_18 19 rfl 1 rfl ?_
  have X4 : Ext h h3 := Own.Ext.kp X2 K3 (allS g1 all0)
  refine Own.caload W3 (Ac.ext X4) (by decide) (.int ch1) rfl d21_19 20 rfl ?_
  refine Own.callS W3 (tw hw 104 rfl) (tw hw 105 rfl) (tw hw 54 rfl) (tw hw 106 rfl) (by decide) (argsL := [(.ref o1), .int 1, (.int ch1)]) (rest := []) (Own.Con.pay (con_put4_1 hw hEL TA TH TL rfl ch1 W3.old (Nat.le_trans W0.n0 g1) A3) W3 (tw hw 106 rfl) (tw hw 54 rfl) (len := 3) (wd := 0) (by decide) (by decide) (fun y hy => by cases List.mem_singleton.mp hy; exact ⟨A3.lt, Own.Safe.len W3.wz hEN8 A3 (by decide)⟩)) rfl (lenOf pd_2 rfl) rfl (lb rfl) d21_20 23 rfl 1 8 (lb rfl) (lb rfl) (lb rfl) (lb rfl) ?_
  intro v5 T5 h5 u5 W5 R5 hq
  obtain ⟨rfl, K5, A5⟩ := hq
  show Own.Go _ _ _ _ _ 23 #[.val (.ref a), .val (.int 1), .val (.int 4), .val (.ref o1), .val (.int 1)] []
  refine Own.iinc W5 d21_23 26 rfl rfl #[.val (.ref a), .val (.int 2), .val (.int 4), .val (.ref o1), .val (.int 1)] rfl ?_
  refine Own.iinc W5 d21_26 29 rfl rfl #[.val (.ref a), .val (.int 2), .val (.int 4), .val (.ref o1), .val (.int 2)] rfl ?_
  refine Own.goto W5 d21_29 8 (by decide) (by decide) ?_
  refine Own.iload W5 d21_8 10 rfl 2 rfl ?_
  refine Own.iloadN W5 d21_10 11 rfl 4 rfl ?_
  refine Own.icmpNo W5 d21_11 14 (by decide) rfl ?_
  refine Own.aloadN W5 d21_14 15 rfl (.ref o1) rfl rfl ?_
  refine Own.iload W5 d21_15 17 rfl 2 rfl ?_
  refine Own.aloadN W5 d21_17 18 rfl (.ref a) rfl rfl ?_
  refine Own.iloadN W5 d21_18 19 rfl 2 rfl ?_
  have X6 : Ext h h5 := Own.Ext.kp X4 K5 (allS g1 all0)
  refine Own.caload W5 (Ac.ext X6) (by decide) (.int ch2) rfl d21_19 20 rfl ?_
  refine Own.callS W5 (tw hw 104 rfl) (tw hw 105 rfl) (tw hw 54 rfl) (tw hw 106 rfl) (by decide) (argsL := [(.ref o1), .int 2, (.int ch2)]) (rest := []) (Own.Con.pay (con_put4_2 hw hEL TA TH TL rfl ch2 W5.old (Nat.le_trans W0.n0 g1) A5) W5 (tw hw 106 rfl) (tw hw 54 rfl) (len := 3) (wd := 0) (by decide) (by decide) (fun y hy => by cases List.mem_singleton.mp hy; exact ⟨A5.lt, Own.Safe.len W5.wz hEN8 A5 (by decide)⟩)) rfl (lenOf pd_2 rfl) rfl (lb rfl) d21_20 23 rfl 1 8 (lb rfl) (lb rfl) (lb rfl) (lb rfl) ?_
  intro v7 T7 h7 u7 W7 R7 hq
  obtain ⟨rfl, K7, A7⟩ := hq
  show Own.Go _ _ _ _ _ 23 #[.val (.ref a), .val (.int 2), .val (.int 4), .val (.ref o1), .val (.int 2)] []
  refine Own.iinc W7 d21_23 26 rfl rfl #[.val (.ref a), .val (.int 3), .val (.int 4), .val (.ref o1), .val (.int 2)] rfl ?_
  refine Own.iinc W7 d21_26 29 rfl rfl #[.val (.ref a), .val (.int 3), .val (.int 4), .val (.ref o1), .val (.int 3)] rfl ?_
  refine Own.goto W7 d21_29 8 (by decide) (by decide) ?_
  refine Own.iload W7 d21_8 10 rfl 3 rfl ?_
  refine Own.iloadN W7 d21_10 11 rfl 4 rfl ?_
  refine Own.icmpNo W7 d21_11 14 (by decide) rfl ?_
  refine Own.aloadN W7 d21_14 15 rfl (.ref o1) rfl rfl ?_
  refine Own.iload W7 d21_15 17 rfl 3 rfl ?_
  refine Own.aloadN W7 d21_17 18 rfl (.ref a) rfl rfl ?_
  refine Own.iloadN W7 d21_18 19 rfl 3 rfl ?_
  have X8 : Ext h h7 := Own.Ext.kp X6 K7 (allS g1 all0)
  refine Own.caload W7 (Ac.ext X8) (by decide) (.int ch3) rfl d21_19 20 rfl ?_
  refine Own.callS W7 (tw hw 104 rfl) (tw hw 105 rfl) (tw hw 54 rfl) (tw hw 106 rfl) (by decide) (argsL := [(.ref o1), .int 3, (.int ch3)]) (rest := []) (Own.Con.pay (con_put4_3 hw hEL TA TH TL rfl ch3 W7.old (Nat.le_trans W0.n0 g1) A7) W7 (tw hw 106 rfl) (tw hw 54 rfl) (len := 3) (wd := 0) (by decide) (by decide) (fun y hy => by cases List.mem_singleton.mp hy; exact ⟨A7.lt, Own.Safe.len W7.wz hEN8 A7 (by decide)⟩)) rfl (lenOf pd_2 rfl) rfl (lb rfl) d21_20 23 rfl 1 8 (lb rfl) (lb rfl) (lb rfl) (lb rfl) ?_
  intro v9 T9 h9 u9 W9 R9 hq
  obtain ⟨rfl, K9, A9⟩ := hq
  show Own.Go _ _ _ _ _ 23 #[.val (.ref a), .val (.int 3), .val (.int 4), .val (.ref o1), .val (.int 3)] []
  refine Own.iinc W9 d21_23 26 rfl rfl #[.val (.ref a), .val (.int 4), .val (.int 4), .val (.ref o1), .val (.int 3)] rfl ?_
  refine Own.iinc W9 d21_26 29 rfl rfl #[.val (.ref a), .val (.int 4), .val (.int 4), .val (.ref o1), .val (.int 4)] rfl ?_
  refine Own.goto W9 d21_29 8 (by decide) (by decide) ?_
  refine Own.iload W9 d21_8 10 rfl 4 rfl ?_
  refine Own.iloadN W9 d21_10 11 rfl 4 rfl ?_
  refine Own.icmpYes W9 d21_11 32 (by decide) (by decide) (by decide) ?_
  refine Own.aloadN W9 d21_32 33 rfl (.ref o1) rfl rfl ?_
  have X10 : Ext h h9 := Own.Ext.kp X8 K9 (allS g1 all0)
  exact Own.retA W9 (by decide) (by decide) rfl rfl rfl d21_33 ⟨o1, _, rfl, X10, g1, A9⟩
set_option maxRecDepth 65536 in
set_option maxHeartbeats 40000000 in
theorem con_gc4_0 {G : Own.Gl} (hw : ∀ d ∈ tables_1, d.before G.a0 G.Z = true) (hEL : EW G.Z G.a0 G.EL) (TA : Sta G.Z G.Z.heap "java/lang/StringUTF16" "$assertionsDisabled" "Z" (.int 1)) (TH : Sta G.Z G.Z.heap "java/lang/StringUTF16" "HI_BYTE_SHIFT" "I" (.int 0)) (TL : Sta G.Z G.Z.heap "java/lang/StringUTF16" "LO_BYTE_SHIFT" "I" (.int 8)) {ch0 ch1 ch2 ch3 : Int32} (r0 : Own.R16 ch0) {b : Addr} {kb : ClassId} {ii : Int32} (hii : ii = 0) {h : Heap} (hO : Old G.Z G.n0 h) (A : Arv G.Z h b kb .byte 8 [(.int (StrChars.lo8 ch0)), (.int (StrChars.hi8 ch0)), (.int (StrChars.lo8 ch1)), (.int (StrChars.hi8 ch1)), (.int (StrChars.lo8 ch2)), (.int (StrChars.hi8 ch2)), (.int (StrChars.lo8 ch3)), (.int (StrChars.hi8 ch3))] (.int 0)) :
    Own.Con G [] bGc4_0 #[.ref b, .int ii] h [] (fun v h' => v = some (.int ch0) ∧ h' = h) := by
  refine Own.Con.intro (plainFor_of_name pn_0) hO hEL _ (fun m => ef_bGc4_0 m b ii) ?_
  intro X T0 W0 sf
  subst hii
  refine Own.getS W0 (tw hw 107 rfl) Via.refl (W0.sta TA) d25_0 3 rfl ?_
  intro T1 W1
  refine Own.ifYes W1 d25_3 28 (by decide) (by decide) (by decide) ?_
  refine Own.iloadN W1 d25_28 29 rfl 0 rfl ?_
  refine Own.iconst W1 d25_29 30 rfl 1 rfl ?_
  refine Own.ishl W1 d25_30 31 rfl ?_
  rw [show ((0 : Int32) <<< ((1 : Int32) &&& 31)) = (0 : Int32) by decide]
  refine Own.istoreN W1 d25_31 32 rfl #[.val (.ref b), .val (.int 0)] rfl ?_
  refine Own.aloadN W1 d25_32 33 rfl (.ref b) rfl rfl ?_
  refine Own.iloadN W1 d25_33 34 rfl 0 rfl ?_
  refine Own.iinc W1 d25_34 37 rfl rfl #[.val (.ref b), .val (.int 1)] rfl ?_
  refine Own.baload W1 A (by decide) (.int (StrChars.lo8 ch0)) rfl d25_37 38 rfl ?_
  refine Own.sipush W1 d25_38 41 rfl 255 rfl ?_
  refine Own.iand W1 d25_41 42 rfl ?_
  refine Own.getS W1 (tw hw 108 rfl) Via.refl (W1.sta TH) d25_42 45 rfl ?_
  intro T2 W2
  refine Own.ishl W2 d25_45 46 rfl ?_
  refine Own.aloadN W2 d25_46 47 rfl (.ref b) rfl rfl ?_
  refine Own.iloadN W2 d25_47 48 rfl 1 rfl ?_
  refine Own.baload W2 A (by decide) (.int (StrChars.hi8 ch0)) rfl d25_48 49 rfl ?_
  refine Own.sipush W2 d25_49 52 rfl 255 rfl ?_
  refine Own.iand W2 d25_52 53 rfl ?_
  refine Own.getS W2 (tw hw 109 rfl) Via.refl (W2.sta TL) d25_53 56 rfl ?_
  intro T3 W3
  refine Own.ishl W3 d25_56 57 rfl ?_
  refine Own.ior W3 d25_57 58 rfl ?_
  refine Own.i2c W3 d25_58 59 rfl ?_
  show Own.Go _ _ _ _ _ 59 #[.val (.ref b), .val (.int 1)] [.int (StrChars.pairCh (StrChars.lo8 ch0) (StrChars.hi8 ch0))]
  rw [StrChars.pair_says r0.1 r0.2]
  exact Own.retC W3 (by decide) (by decide) rfl d25_59 (Own.narC r0) ⟨rfl, rfl⟩
set_option maxRecDepth 65536 in
set_option maxHeartbeats 40000000 in
theorem con_gc4_1 {G : Own.Gl} (hw : ∀ d ∈ tables_1, d.before G.a0 G.Z = true) (hEL : EW G.Z G.a0 G.EL) (TA : Sta G.Z G.Z.heap "java/lang/StringUTF16" "$assertionsDisabled" "Z" (.int 1)) (TH : Sta G.Z G.Z.heap "java/lang/StringUTF16" "HI_BYTE_SHIFT" "I" (.int 0)) (TL : Sta G.Z G.Z.heap "java/lang/StringUTF16" "LO_BYTE_SHIFT" "I" (.int 8)) {ch0 ch1 ch2 ch3 : Int32} (r1 : Own.R16 ch1) {b : Addr} {kb : ClassId} {ii : Int32} (hii : ii = 1) {h : Heap} (hO : Old G.Z G.n0 h) (A : Arv G.Z h b kb .byte 8 [(.int (StrChars.lo8 ch0)), (.int (StrChars.hi8 ch0)), (.int (StrChars.lo8 ch1)), (.int (StrChars.hi8 ch1)), (.int (StrChars.lo8 ch2)), (.int (StrChars.hi8 ch2)), (.int (StrChars.lo8 ch3)), (.int (StrChars.hi8 ch3))] (.int 0)) :
    Own.Con G [] bGc4_1 #[.ref b, .int ii] h [] (fun v h' => v = some (.int ch1) ∧ h' = h) := by
  refine Own.Con.intro (plainFor_of_name pn_0) hO hEL _ (fun m => ef_bGc4_1 m b ii) ?_
  intro X T0 W0 sf
  subst hii
  refine Own.getS W0 (tw hw 107 rfl) Via.refl (W0.sta TA) d25_0 3 rfl ?_
  intro T1 W1
  refine Own.ifYes W1 d25_3 28 (by decide) (by decide) (by decide) ?_
  refine Own.iloadN W1 d25_28 29 rfl 1 rfl ?_
  refine Own.iconst W1 d25_29 30 rfl 1 rfl ?_
  refine Own.ishl W1 d25_30 31 rfl ?_
  rw [show ((1 : Int32) <<< ((1 : Int32) &&& 31)) = (2 : Int32) by decide]
  refine Own.istoreN W1 d25_31 32 rfl #[.val (.ref b), .val (.int 2)] rfl ?_
  refine Own.aloadN W1 d25_32 33 rfl (.ref b) rfl rfl ?_
  refine Own.iloadN W1 d25_33 34 rfl 2 rfl ?_
  refine Own.iinc W1 d25_34 37 rfl rfl #[.val (.ref b), .val (.int 3)] rfl ?_
  refine Own.baload W1 A (by decide) (.int (StrChars.lo8 ch1)) rfl d25_37 38 rfl ?_
  refine Own.sipush W1 d25_38 41 rfl 255 rfl ?_
  refine Own.iand W1 d25_41 42 rfl ?_
  refine Own.getS W1 (tw hw 108 rfl) Via.refl (W1.sta TH) d25_42 45 rfl ?_
  intro T2 W2
  refine Own.ishl W2 d25_45 46 rfl ?_
  refine Own.aloadN W2 d25_46 47 rfl (.ref b) rfl rfl ?_
  refine Own.iloadN W2 d25_47 48 rfl 3 rfl ?_
  refine Own.baload W2 A (by decide) (.int (StrChars.hi8 ch1)) rfl d25_48 49 rfl ?_
  refine Own.sipush W2 d25_49 52 rfl 255 rfl ?_
  refine Own.iand W2 d25_52 53 rfl ?_
  refine Own.getS W2 (tw hw 109 rfl) Via.refl (W2.sta TL) d25_53 56 rfl ?_
  intro T3 W3
  refine Own.ishl W3 d25_56 57 rfl ?_
  refine Own.ior W3 d25_57 58 rfl ?_
  refine Own.i2c W3 d25_58 59 rfl ?_
  show Own.Go _ _ _ _ _ 59 #[.val (.ref b), .val (.int 3)] [.int (StrChars.pairCh (StrChars.lo8 ch1) (StrChars.hi8 ch1))]
  rw [StrChars.pair_says r1.1 r1.2]
  exact Own.retC W3 (by decide) (by decide) rfl d25_59 (Own.narC r1) ⟨rfl, rfl⟩
set_option maxRecDepth 65536 in
set_option maxHeartbeats 40000000 in
theorem con_gc4_2 {G : Own.Gl} (hw : ∀ d ∈ tables_1, d.before G.a0 G.Z = true) (hEL : EW G.Z G.a0 G.EL) (TA : Sta G.Z G.Z.heap "java/lang/StringUTF16" "$assertionsDisabled" "Z" (.int 1)) (TH : Sta G.Z G.Z.heap "java/lang/StringUTF16" "HI_BYTE_SHIFT" "I" (.int 0)) (TL : Sta G.Z G.Z.heap "java/lang/StringUTF16" "LO_BYTE_SHIFT" "I" (.int 8)) {ch0 ch1 ch2 ch3 : Int32} (r2 : Own.R16 ch2) {b : Addr} {kb : ClassId} {ii : Int32} (hii : ii = 2) {h : Heap} (hO : Old G.Z G.n0 h) (A : Arv G.Z h b kb .byte 8 [(.int (StrChars.lo8 ch0)), (.int (StrChars.hi8 ch0)), (.int (StrChars.lo8 ch1)), (.int (StrChars.hi8 ch1)), (.int (StrChars.lo8 ch2)), (.int (StrChars.hi8 ch2)), (.int (StrChars.lo8 ch3)), (.int (StrChars.hi8 ch3))] (.int 0)) :
    Own.Con G [] bGc4_2 #[.ref b, .int ii] h [] (fun v h' => v = some (.int ch2) ∧ h' = h) := by
  refine Own.Con.intro (plainFor_of_name pn_0) hO hEL _ (fun m => ef_bGc4_2 m b ii) ?_
  intro X T0 W0 sf
  subst hii
  refine Own.getS W0 (tw hw 107 rfl) Via.refl (W0.sta TA) d25_0 3 rfl ?_
  intro T1 W1
  refine Own.ifYes W1 d25_3 28 (by decide) (by decide) (by decide) ?_
  refine Own.iloadN W1 d25_28 29 rfl 2 rfl ?_
  refine Own.iconst W1 d25_29 30 rfl 1 rfl ?_
  refine Own.ishl W1 d25_30 31 rfl ?_
  rw [show ((2 : Int32) <<< ((1 : Int32) &&& 31)) = (4 : Int32) by decide]
  refine Own.istoreN W1 d25_31 32 rfl #[.val (.ref b), .val (.int 4)] rfl ?_
  refine Own.aloadN W1 d25_32 33 rfl (.ref b) rfl rfl ?_
  refine Own.iloadN W1 d25_33 34 rfl 4 rfl ?_
  refine Own.iinc W1 d25_34 37 rfl rfl #[.val (.ref b), .val (.int 5)] rfl ?_
  refine Own.baload W1 A (by decide) (.int (StrChars.lo8 ch2)) rfl d25_37 38 rfl ?_
  refine Own.sipush W1 d25_38 41 rfl 255 rfl ?_
  refine Own.iand W1 d25_41 42 rfl ?_
  refine Own.getS W1 (tw hw 108 rfl) Via.refl (W1.sta TH) d25_42 45 rfl ?_
  intro T2 W2
  refine Own.ishl W2 d25_45 46 rfl ?_
  refine Own.aloadN W2 d25_46 47 rfl (.ref b) rfl rfl ?_
  refine Own.iloadN W2 d25_47 48 rfl 5 rfl ?_
  refine Own.baload W2 A (by decide) (.int (StrChars.hi8 ch2)) rfl d25_48 49 rfl ?_
  refine Own.sipush W2 d25_49 52 rfl 255 rfl ?_
  refine Own.iand W2 d25_52 53 rfl ?_
  refine Own.getS W2 (tw hw 109 rfl) Via.refl (W2.sta TL) d25_53 56 rfl ?_
  intro T3 W3
  refine Own.ishl W3 d25_56 57 rfl ?_
  refine Own.ior W3 d25_57 58 rfl ?_
  refine Own.i2c W3 d25_58 59 rfl ?_
  show Own.Go _ _ _ _ _ 59 #[.val (.ref b), .val (.int 5)] [.int (StrChars.pairCh (StrChars.lo8 ch2) (StrChars.hi8 ch2))]
  rw [StrChars.pair_says r2.1 r2.2]
  exact Own.retC W3 (by decide) (by decide) rfl d25_59 (Own.narC r2) ⟨rfl, rfl⟩
set_option maxRecDepth 65536 in
set_option maxHeartbeats 40000000 in
theorem con_gc4_3 {G : Own.Gl} (hw : ∀ d ∈ tables_1, d.before G.a0 G.Z = true) (hEL : EW G.Z G.a0 G.EL) (TA : Sta G.Z G.Z.heap "java/lang/StringUTF16" "$assertionsDisabled" "Z" (.int 1)) (TH : Sta G.Z G.Z.heap "java/lang/StringUTF16" "HI_BYTE_SHIFT" "I" (.int 0)) (TL : Sta G.Z G.Z.heap "java/lang/StringUTF16" "LO_BYTE_SHIFT" "I" (.int 8)) {ch0 ch1 ch2 ch3 : Int32} (r3 : Own.R16 ch3) {b : Addr} {kb : ClassId} {ii : Int32} (hii : ii = 3) {h : Heap} (hO : Old G.Z G.n0 h) (A : Arv G.Z h b kb .byte 8 [(.int (StrChars.lo8 ch0)), (.int (StrChars.hi8 ch0)), (.int (StrChars.lo8 ch1)), (.int (StrChars.hi8 ch1)), (.int (StrChars.lo8 ch2)), (.int (StrChars.hi8 ch2)), (.int (StrChars.lo8 ch3)), (.int (StrChars.hi8 ch3))] (.int 0)) :
    Own.Con G [] bGc4_3 #[.ref b, .int ii] h [] (fun v h' => v = some (.int ch3) ∧ h' = h) := by
  refine Own.Con.intro (plainFor_of_name pn_0) hO hEL _ (fun m => ef_bGc4_3 m b ii) ?_
  intro X T0 W0 sf
  subst hii
  refine Own.getS W0 (tw hw 107 rfl) Via.refl (W0.sta TA) d25_0 3 rfl ?_
  intro T1 W1
  refine Own.ifYes W1 d25_3 28 (by decide) (by decide) (by decide) ?_
  refine Own.iloadN W1 d25_28 29 rfl 3 rfl ?_
  refine Own.iconst W1 d25_29 30 rfl 1 rfl ?_
  refine Own.ishl W1 d25_30 31 rfl ?_
  rw [show ((3 : Int32) <<< ((1 : Int32) &&& 31)) = (6 : Int32) by decide]
  refine Own.istoreN W1 d25_31 32 rfl #[.val (.ref b), .val (.int 6)] rfl ?_
  refine Own.aloadN W1 d25_32 33 rfl (.ref b) rfl rfl ?_
  refine Own.iloadN W1 d25_33 34 rfl 6 rfl ?_
  refine Own.iinc W1 d25_34 37 rfl rfl #[.val (.ref b), .val (.int 7)] rfl ?_
  refine Own.baload W1 A (by decide) (.int (StrChars.lo8 ch3)) rfl d25_37 38 rfl ?_
  refine Own.sipush W1 d25_38 41 rfl 255 rfl ?_
  refine Own.iand W1 d25_41 42 rfl ?_
  refine Own.getS W1 (tw hw 108 rfl) Via.refl (W1.sta TH) d25_42 45 rfl ?_
  intro T2 W2
  refine Own.ishl W2 d25_45 46 rfl ?_
  refine Own.aloadN W2 d25_46 47 rfl (.ref b) rfl rfl ?_
  refine Own.iloadN W2 d25_47 48 rfl 7 rfl ?_
  refine Own.baload W2 A (by decide) (.int (StrChars.hi8 ch3)) rfl d25_48 49 rfl ?_
  refine Own.sipush W2 d25_49 52 rfl 255 rfl ?_
  refine Own.iand W2 d25_52 53 rfl ?_
  refine Own.getS W2 (tw hw 109 rfl) Via.refl (W2.sta TL) d25_53 56 rfl ?_
  intro T3 W3
  refine Own.ishl W3 d25_56 57 rfl ?_
  refine Own.ior W3 d25_57 58 rfl ?_
  refine Own.i2c W3 d25_58 59 rfl ?_
  show Own.Go _ _ _ _ _ 59 #[.val (.ref b), .val (.int 7)] [.int (StrChars.pairCh (StrChars.lo8 ch3) (StrChars.hi8 ch3))]
  rw [StrChars.pair_says r3.1 r3.2]
  exact Own.retC W3 (by decide) (by decide) rfl d25_59 (Own.narC r3) ⟨rfl, rfl⟩
set_option maxRecDepth 65536 in
set_option maxHeartbeats 40000000 in
theorem con_c54 {G : Own.Gl} (hw : ∀ d ∈ tables_1, d.before G.a0 G.Z = true) (hEL : EW G.Z G.a0 G.EL) {ch0 ch1 ch2 ch3 : Int32} (hw255 : (255 : Int32) < ch0 ∨ (255 : Int32) < ch1 ∨ (255 : Int32) < ch2 ∨ (255 : Int32) < ch3) {o1 o2 ln : Int32} (ho1 : o1 = 0) (ho2 : o2 = 0) (hln : ln = 4) {d : Addr} {kd : ClassId} {h : Heap} (hO : Old G.Z G.n0 h) (hn_d : G.n0 ≤ d) {a : Addr} {kC : ClassId} {dv : Value} (Ac : Arv G.Z h a kC .char 4 [.int ch0, .int ch1, .int ch2, .int ch3] dv) (had : a ≠ d) (Ad : Arv G.Z h d kd .byte 4 [.int 0, .int 0, .int 0, .int 0] (.int 0)) :
    Own.Con G [] bC54 #[.ref a, .int o1, .ref d, .int o2, .int ln] h [d] (fun v h' => ((v = some (.int 0) ∧ (255 : Int32) < ch0) ∨ (v = some (.int 1) ∧ (255 : Int32) < ch1) ∨ (v = some (.int 2) ∧ (255 : Int32) < ch2) ∨ (v = some (.int 3) ∧ (255 : Int32) < ch3)) ∧ Keep h h' [d]) := by
  refine Own.Con.intro (plainFor_of_name pn_0) hO hEL _ (fun m => ef_bC54 m a o1 d o2 ln) ?_
  intro X T0 W0 sf
  subst ho1; subst ho2; subst hln
  have sd := sf d (List.mem_singleton.mpr rfl)
  refine Own.iconst W0 d12_0 1 rfl 0 rfl ?_
  refine Own.istore W0 d12_1 3 rfl #[.val (.ref a), .val (.int 0), .val (.ref d), .val (.int 0), .val (.int 4), .val (.int 0), .unset] rfl ?_
  refine Own.iload W0 d12_3 5 rfl 0 rfl ?_
  refine Own.iload W0 d12_5 7 rfl 4 rfl ?_
  refine Own.icmpNo W0 d12_7 10 (by decide) rfl ?_
  refine Own.aloadN W0 d12_10 11 rfl (.ref a) rfl rfl ?_
  refine Own.iloadN W0 d12_11 12 rfl 0 rfl ?_
  refine Own.caload W0 Ac (by decide) (.int ch0) rfl d12_12 13 rfl ?_
  refine Own.istore W0 d12_13 15 rfl #[.val (.ref a), .val (.int 0), .val (.ref d), .val (.int 0), .val (.int 4), .val (.int 0), .val (.int ch0)] rfl ?_
  refine Own.iload W0 d12_15 17 rfl ch0 rfl ?_
  refine Own.sipush W0 d12_17 20 rfl 255 rfl ?_
  by_cases e0 : (255 : Int32) < ch0
  · skip
    refine Own.icmpNo W0 d12_20 23 (XT.ii_le_f e0) rfl ?_
    refine Own.iload W0 d12_23 25 rfl 0 rfl ?_
    exact Own.retI W0 (by decide) (by decide) rfl d12_25 ⟨Or.inl ⟨rfl, e0⟩, (Keep.refl h [d])⟩
  · skip
    refine Own.icmpYes W0 d12_20 26 (XT.ii_le_t e0) (by decide) (by decide) ?_
    refine Own.aloadN W0 d12_26 27 rfl (.ref d) rfl rfl ?_
    refine Own.iloadN W0 d12_27 28 rfl 0 rfl ?_
    refine Own.iload W0 d12_28 30 rfl ch0 rfl ?_
    refine Own.i2b W0 d12_30 31 rfl ?_
    refine Own.bastore W0 Ad 0 (by decide) (by decide) (lb rfl) hn_d sd (x' := (ch0.toInt8.toInt32)) (Own.nar_b8 _) d12_31 32 rfl ?_
    intro T1 h1 W1 Q1 A1 k1
    have V1 : Arv G.Z h1 d kd .byte (4 : Int32) [(.int (ch0.toInt8.toInt32)), .int 0, .int 0, .int 0] (.int 0) := A1
    refine Own.iinc W1 d12_32 35 rfl rfl #[.val (.ref a), .val (.int 1), .val (.ref d), .val (.int 0), .val (.int 4), .val (.int 0), .val (.int ch0)] rfl ?_
    refine Own.iinc W1 d12_35 38 rfl rfl #[.val (.ref a), .val (.int 1), .val (.ref d), .val (.int 1), .val (.int 4), .val (.int 0), .val (.int ch0)] rfl ?_
    refine Own.iinc W1 d12_38 41 rfl rfl #[.val (.ref a), .val (.int 1), .val (.ref d), .val (.int 1), .val (.int 4), .val (.int 1), .val (.int ch0)] rfl ?_
    refine Own.goto W1 d12_41 3 (by decide) (by decide) ?_
    refine Own.iload W1 d12_3 5 rfl 1 rfl ?_
    refine Own.iload W1 d12_5 7 rfl 4 rfl ?_
    refine Own.icmpNo W1 d12_7 10 (by decide) rfl ?_
    refine Own.aloadN W1 d12_10 11 rfl (.ref a) rfl rfl ?_
    refine Own.iloadN W1 d12_11 12 rfl 1 rfl ?_
    refine Own.caload W1 (Ac.other Q1 had) (by decide) (.int ch1) rfl d12_12 13 rfl ?_
    refine Own.istore W1 d12_13 15 rfl #[.val (.ref a), .val (.int 1), .val (.ref d), .val (.int 1), .val (.int 4), .val (.int 1), .val (.int ch1)] rfl ?_
    refine Own.iload W1 d12_15 17 rfl ch1 rfl ?_
    refine Own.sipush W1 d12_17 20 rfl 255 rfl ?_
    by_cases e1 : (255 : Int32) < ch1
    · skip
      refine Own.icmpNo W1 d12_20 23 (XT.ii_le_f e1) rfl ?_
      refine Own.iload W1 d12_23 25 rfl 1 rfl ?_
      exact Own.retI W1 (by decide) (by decide) rfl d12_25 ⟨Or.inr (Or.inl ⟨rfl, e1⟩), (Keep.wr (Keep.refl h [d]) Q1 (Or.inl (List.mem_singleton.mpr rfl)))⟩
    · skip
      refine Own.icmpYes W1 d12_20 26 (XT.ii_le_t e1) (by decide) (by decide) ?_
      refine Own.aloadN W1 d12_26 27 rfl (.ref d) rfl rfl ?_
      refine Own.iloadN W1 d12_27 28 rfl 1 rfl ?_
      refine Own.iload W1 d12_28 30 rfl ch1 rfl ?_
      refine Own.i2b W1 d12_30 31 rfl ?_
      refine Own.bastore W1 V1 1 (by decide) (by decide) (lb rfl) hn_d (k1 d sd) (x' := (ch1.toInt8.toInt32)) (Own.nar_b8 _) d12_31 32 rfl ?_
      intro T2 h2 W2 Q2 A2 k2
      have V2 : Arv G.Z h2 d kd .byte (4 : Int32) [(.int (ch0.toInt8.toInt32)), (.int (ch1.toInt8.toInt32)), .int 0, .int 0] (.int 0) := A2
      refine Own.iinc W2 d12_32 35 rfl rfl #[.val (.ref a), .val (.int 2), .val (.ref d), .val (.int 1), .val (.int 4), .val (.int 1), .val (.int ch1)] rfl ?_
      refine Own.iinc W2 d12_35 38 rfl rfl #[.val (.ref a), .val (.int 2), .val (.ref d), .val (.int 2), .val (.int 4), .val (.int 1), .val (.int ch1)] rfl ?_
      refine Own.iinc W2 d12_38 41 rfl rfl #[.val (.ref a), .val (.int 2), .val (.ref d), .val (.int 2), .val (.int 4), .val (.int 2), .val (.int ch1)] rfl ?_
      refine Own.goto W2 d12_41 3 (by decide) (by decide) ?_
      refine Own.iload W2 d12_3 5 rfl 2 rfl ?_
      refine Own.iload W2 d12_5 7 rfl 4 rfl ?_
      refine Own.icmpNo W2 d12_7 10 (by decide) rfl ?_
      refine Own.aloadN W2 d12_10 11 rfl (.ref a) rfl rfl ?_
      refine Own.iloadN W2 d12_11 12 rfl 2 rfl ?_
      refine Own.caload W2 ((Ac.other Q1 had).other Q2 had) (by decide) (.int ch2) rfl d12_12 13 rfl ?_
      refine Own.istore W2 d12_13 15 rfl #[.val (.ref a), .val (.int 2), .val (.ref d), .val (.int 2), .val (.int 4), .val (.int 2), .val (.int ch2)] rfl ?_
      refine Own.iload W2 d12_15 17 rfl ch2 rfl ?_
      refine Own.sipush W2 d12_17 20 rfl 255 rfl ?_
      by_cases e2 : (255 : Int32) < ch2
      · skip
        refine Own.icmpNo W2 d12_20 23 (XT.ii_le_f e2) rfl ?_
        refine Own.iload W2 d12_23 25 rfl 2 rfl ?_
        exact Own.retI W2 (by decide) (by decide) rfl d12_25 ⟨Or.inr (Or.inr (Or.inl ⟨rfl, e2⟩)), (Keep.wr (Keep.wr (Keep.refl h [d]) Q1 (Or.inl (List.mem_singleton.mpr rfl))) Q2 (Or.inl (List.mem_singleton.mpr rfl)))⟩
      · skip
        refine Own.icmpYes W2 d12_20 26 (XT.ii_le_t e2) (by decide) (by decide) ?_
        refine Own.aloadN W2 d12_26 27 rfl (.ref d) rfl rfl ?_
        refine Own.iloadN W2 d12_27 28 rfl 2 rfl ?_
        refine Own.iload W2 d12_28 30 rfl ch2 rfl ?_
        refine Own.i2b W2 d12_30 31 rfl ?_
        refine Own.bastore W2 V2 2 (by decide) (by decide) (lb rfl) hn_d (k2 d (k1 d sd)) (x' := (ch2.toInt8.toInt32)) (Own.nar_b8 _) d12_31 32 rfl ?_
        intro T3 h3 W3 Q3 A3 k3
        have V3 : Arv G.Z h3 d kd .byte (4 : Int32) [(.int (ch0.toInt8.toInt32)), (.int (ch1.toInt8.toInt32)), (.int (ch2.toInt8.toInt32)), .int 0] (.int 0) := A3
        refine Own.iinc W3 d12_32 35 rfl rfl #[.val (.ref a), .val (.int 3), .val (.ref d), .val (.int 2), .val (.int 4), .val (.int 2), .val (.int ch2)] rfl ?_
        refine Own.iinc W3 d12_35 38 rfl rfl #[.val (.ref a), .val (.int 3), .val (.ref d), .val (.int 3), .val (.int 4), .val (.int 2), .val (.int ch2)] rfl ?_
        refine Own.iinc W3 d12_38 41 rfl rfl #[.val (.ref a), .val (.int 3), .val (.ref d), .val (.int 3), .val (.int 4), .val (.int 3), .val (.int ch2)] rfl ?_
        refine Own.goto W3 d12_41 3 (by decide) (by decide) ?_
        refine Own.iload W3 d12_3 5 rfl 3 rfl ?_
        refine Own.iload W3 d12_5 7 rfl 4 rfl ?_
        refine Own.icmpNo W3 d12_7 10 (by decide) rfl ?_
        refine Own.aloadN W3 d12_10 11 rfl (.ref a) rfl rfl ?_
        refine Own.iloadN W3 d12_11 12 rfl 3 rfl ?_
        refine Own.caload W3 (((Ac.other Q1 had).other Q2 had).other Q3 had) (by decide) (.int ch3) rfl d12_12 13 rfl ?_
        refine Own.istore W3 d12_13 15 rfl #[.val (.ref a), .val (.int 3), .val (.ref d), .val (.int 3), .val (.int 4), .val (.int 3), .val (.int ch3)] rfl ?_
        refine Own.iload W3 d12_15 17 rfl ch3 rfl ?_
        refine Own.sipush W3 d12_17 20 rfl 255 rfl ?_
        by_cases e3 : (255 : Int32) < ch3
        · skip
          refine Own.icmpNo W3 d12_20 23 (XT.ii_le_f e3) rfl ?_
          refine Own.iload W3 d12_23 25 rfl 3 rfl ?_
          exact Own.retI W3 (by decide) (by decide) rfl d12_25 ⟨Or.inr (Or.inr (Or.inr (⟨rfl, e3⟩))), (Keep.wr (Keep.wr (Keep.wr (Keep.refl h [d]) Q1 (Or.inl (List.mem_singleton.mpr rfl))) Q2 (Or.inl (List.mem_singleton.mpr rfl))) Q3 (Or.inl (List.mem_singleton.mpr rfl)))⟩
        · skip
          refine Own.icmpYes W3 d12_20 26 (XT.ii_le_t e3) (by decide) (by decide) ?_
          refine Own.aloadN W3 d12_26 27 rfl (.ref d) rfl rfl ?_
          refine Own.iloadN W3 d12_27 28 rfl 3 rfl ?_
          refine Own.iload W3 d12_28 30 rfl ch3 rfl ?_
          refine Own.i2b W3 d12_30 31 rfl ?_
          refine Own.bastore W3 V3 3 (by decide) (by decide) (lb rfl) hn_d (k3 d (k2 d (k1 d sd))) (x' := (ch3.toInt8.toInt32)) (Own.nar_b8 _) d12_31 32 rfl ?_
          intro T4 h4 W4 Q4 A4 k4
          have V4 : Arv G.Z h4 d kd .byte (4 : Int32) [(.int (ch0.toInt8.toInt32)), (.int (ch1.toInt8.toInt32)), (.int (ch2.toInt8.toInt32)), (.int (ch3.toInt8.toInt32))] (.int 0) := A4
          exact absurd hw255 (by simp only [not_or]; exact ⟨e0, e1, e2, e3⟩)
set_option maxRecDepth 65536 in
set_option maxHeartbeats 40000000 in
theorem con_c34 {G : Own.Gl} (hw : ∀ d ∈ tables_1, d.before G.a0 G.Z = true) (hEL : EW G.Z G.a0 G.EL) (TA : Sta G.Z G.Z.heap "java/lang/StringUTF16" "$assertionsDisabled" "Z" (.int 1)) (TH : Sta G.Z G.Z.heap "java/lang/StringUTF16" "HI_BYTE_SHIFT" "I" (.int 0)) (TL : Sta G.Z G.Z.heap "java/lang/StringUTF16" "LO_BYTE_SHIFT" "I" (.int 8)) (hEN8 : Own.EN G.Z G.a0 G.EL 8) {ch0 ch1 ch2 ch3 : Int32} (hw255 : (255 : Int32) < ch0 ∨ (255 : Int32) < ch1 ∨ (255 : Int32) < ch2 ∨ (255 : Int32) < ch3) (r0 : Own.R16 ch0) (r1 : Own.R16 ch1) (r2 : Own.R16 ch2) (r3 : Own.R16 ch3) {of ln : Int32} (hof : of = 0) (hln : ln = 4) {h : Heap} (hO : Old G.Z G.n0 h) {a : Addr} {kC : ClassId} {dv : Value} (Ac : Arv G.Z h a kC .char 4 [.int ch0, .int ch1, .int ch2, .int ch3] dv) :
    Own.Con G [] bC34 #[.ref a, .int of, .int ln] h [] (fun v h' => ∃ (o : Addr) (ko : ClassId), v = some (.ref o) ∧ Ext h h' ∧ h.size ≤ o ∧ Arv G.Z h' o ko .byte 8 [(.int (StrChars.lo8 ch0)), (.int (StrChars.hi8 ch0)), (.int (StrChars.lo8 ch1)), (.int (StrChars.hi8 ch1)), (.int (StrChars.lo8 ch2)), (.int (StrChars.hi8 ch2)), (.int (StrChars.lo8 ch3)), (.int (StrChars.hi8 ch3))] (.int 0)) := by
  refine Own.Con.intro (plainFor_of_name pn_0) hO hEL _ (fun m => ef_bC34 m a of ln) ?_
  intro X T0 W0 sf
  subst hof; subst hln
  refine Own.iloadN W0 d11_0 1 rfl 4 rfl ?_
  refine Own.newA W0 (tw hw 15 rfl) d11_1 3 rfl (by decide) 4 (by decide) (by decide) 1 4 (by decide) (by decide) (by decide) (by decide) ?_
  intro T1 h1 o1 c1 g1 W1 E1 A1 s1 k1
  have V1 : Arv G.Z h1 o1 c1 .byte (4 : Int32) [.int 0, .int 0, .int 0, .int 0] (.int 0) := A1
  refine Own.astoreN W1 d11_3 4 rfl rfl #[.val (.ref a), .val (.int 0), .val (.int 4), .val (.ref o1), .unset, .unset] rfl ?_
  refine Own.aloadN W1 d11_4 5 rfl (.ref a) rfl rfl ?_
  refine Own.iloadN W1 d11_5 6 rfl 0 rfl ?_
  refine Own.aloadN W1 d11_6 7 rfl (.ref o1) rfl rfl ?_
  refine Own.iconst W1 d11_7 8 rfl 0 rfl ?_
  refine Own.iloadN W1 d11_8 9 rfl 4 rfl ?_
  have X2 : Ext h h1 := E1
  refine Own.callS W1 (tw hw 56 rfl) (tw hw 57 rfl) (tw hw 54 rfl) (tw hw 58 rfl) (by decide) (argsL := [(.ref a), .int 0, (.ref o1), .int 0, .int 4]) (rest := []) (Own.Con.pay (con_c54 hw hEL hw255 rfl rfl rfl W1.old (Nat.le_trans W0.n0 (Nat.le_of_eq g1.symm)) (Ac.ext X2) (Nat.ne_of_lt (Nat.lt_of_lt_of_le Ac.lt (Nat.le_of_eq g1.symm))) V1) W1 (tw hw 58 rfl) (tw hw 54 rfl) (len := 3) (wd := 0) (by decide) (by decide) (fun y hy => by cases List.mem_singleton.mp hy; exact ⟨V1.lt, s1⟩)) rfl (lenOf pd_3 rfl) rfl (lb rfl) d11_9 12 rfl 1 4 (lb rfl) (lb rfl) (lb rfl) (lb rfl) ?_
  intro v3 T3 h3 u3 W3 R3 hq
  obtain ⟨hv3, K3⟩ := hq
  rcases hv3 with ⟨rfl, e0⟩ | ⟨rfl, e1⟩ | ⟨rfl, e2⟩ | ⟨rfl, e3⟩
  · skip
    show Own.Go _ _ _ _ _ 12 #[.val (.ref a), .val (.int 0), .val (.int 4), .val (.ref o1), .unset, .unset] [.int 0]
    refine Own.istore W3 d11_12 14 rfl #[.val (.ref a), .val (.int 0), .val (.int 4), .val (.ref o1), .val (.int 0), .unset] rfl ?_
    refine Own.iload W3 d11_14 16 rfl 0 rfl ?_
    refine Own.iloadN W3 d11_16 17 rfl 4 rfl ?_
    refine Own.icmpNo W3 d11_17 20 (by decide) rfl ?_
    refine Own.aloadN W3 d11_20 21 rfl (.ref a) rfl rfl ?_
    refine Own.iloadN W3 d11_21 22 rfl 0 rfl ?_
    refine Own.iloadN W3 d11_22 23 rfl 4 rfl ?_
    have X4 : Ext h h3 := Own.Ext.kp X2 K3 (allS (Nat.le_of_eq g1.symm) all0)
    refine Own.callS W3 (tw hw 94 rfl) (tw hw 95 rfl) (tw hw 54 rfl) (tw hw 96 rfl) (by decide) (argsL := [(.ref a), .int 0, .int 4]) (rest := []) (Own.Con.pay (con_tob4 hw hEL TA TH TL hEN8 rfl rfl W3.old (Ac.ext X4)) W3 (tw hw 96 rfl) (tw hw 54 rfl) (len := 3) (wd := 0) (by decide) (by decide) (fun _ q => nomatch q)) rfl (lenOf pd_4 rfl) rfl (lb rfl) d11_23 26 rfl 2 12 (lb rfl) (lb rfl) (lb rfl) (lb rfl) ?_
    intro v5 T5 h5 u5 W5 R5 hq
    obtain ⟨o5, k5, rfl, E5, g5, A5⟩ := hq
    show Own.Go _ _ _ _ _ 26 #[.val (.ref a), .val (.int 0), .val (.int 4), .val (.ref o1), .val (.int 0), .unset] [(.ref o5)]
    refine Own.astore W5 d11_26 28 rfl rfl #[.val (.ref a), .val (.int 0), .val (.int 4), .val (.ref o1), .val (.int 0), .val (.ref o5)] rfl ?_
    refine Own.aload W5 d11_28 30 rfl (.ref o5) rfl rfl ?_
    refine Own.iload W5 d11_30 32 rfl 0 rfl ?_
    refine Own.callS W5 (tw hw 110 rfl) (tw hw 111 rfl) (tw hw 54 rfl) (tw hw 112 rfl) (by decide) (argsL := [(.ref o5), .int 0]) (rest := []) (Own.Con.pay (con_gc4_0 hw hEL TA TH TL r0 rfl W5.old A5) W5 (tw hw 112 rfl) (tw hw 54 rfl) (len := 3) (wd := 0) (by decide) (by decide) (fun _ q => nomatch q)) rfl (lenOf pd_5 rfl) rfl (lb rfl) d11_32 35 rfl 2 12 (lb rfl) (lb rfl) (lb rfl) (lb rfl) ?_
    intro v6 T6 h6 u6 W6 R6 hq
    obtain ⟨rfl, eh6⟩ := hq
    have ei6 := eh6.symm; subst ei6
    show Own.Go _ _ _ _ _ 35 #[.val (.ref a), .val (.int 0), .val (.int 4), .val (.ref o1), .val (.int 0), .val (.ref o5)] [(.int ch0)]
    refine Own.sipush W6 d11_35 38 rfl 255 rfl ?_
    refine Own.icmpYes W6 d11_38 54 (XT.ii_gt_t e0) (by decide) (by decide) ?_
    refine Own.aload W6 d11_54 56 rfl (.ref o5) rfl rfl ?_
    have X7 : Ext h h5 := Own.Ext.tr X4 E5
    exact Own.retA W6 (by decide) (by decide) rfl rfl rfl d11_56 ⟨o5, _, rfl, X7, (Nat.le_trans X4.1 g5), A5⟩
  · skip
    show Own.Go _ _ _ _ _ 12 #[.val (.ref a), .val (.int 0), .val (.int 4), .val (.ref o1), .unset, .unset] [.int 1]
    refine Own.istore W3 d11_12 14 rfl #[.val (.ref a), .val (.int 0), .val (.int 4), .val (.ref o1), .val (.int 1), .unset] rfl ?_
    refine Own.iload W3 d11_14 16 rfl 1 rfl ?_
    refine Own.iloadN W3 d11_16 17 rfl 4 rfl ?_
    refine Own.icmpNo W3 d11_17 20 (by decide) rfl ?_
    refine Own.aloadN W3 d11_20 21 rfl (.ref a) rfl rfl ?_
    refine Own.iloadN W3 d11_21 22 rfl 0 rfl ?_
    refine Own.iloadN W3 d11_22 23 rfl 4 rfl ?_
    have X8 : Ext h h3 := Own.Ext.kp X2 K3 (allS (Nat.le_of_eq g1.symm) all0)
    refine Own.callS W3 (tw hw 94 rfl) (tw hw 95 rfl) (tw hw 54 rfl) (tw hw 96 rfl) (by decide) (argsL := [(.ref a), .int 0, .int 4]) (rest := []) (Own.Con.pay (con_tob4 hw hEL TA TH TL hEN8 rfl rfl W3.old (Ac.ext X8)) W3 (tw hw 96 rfl) (tw hw 54 rfl) (len := 3) (wd := 0) (by decide) (by decide) (fun _ q => nomatch q)) rfl (lenOf pd_4 rfl) rfl (lb rfl) d11_23 26 rfl 2 12 (lb rfl) (lb rfl) (lb rfl) (lb rfl) ?_
    intro v9 T9 h9 u9 W9 R9 hq
    obtain ⟨o9, k9, rfl, E9, g9, A9⟩ := hq
    show Own.Go _ _ _ _ _ 26 #[.val (.ref a), .val (.int 0), .val (.int 4), .val (.ref o1), .val (.int 1), .unset] [(.ref o9)]
    refine Own.astore W9 d11_26 28 rfl rfl #[.val (.ref a), .val (.int 0), .val (.int 4), .val (.ref o1), .val (.int 1), .val (.ref o9)] rfl ?_
    refine Own.aload W9 d11_28 30 rfl (.ref o9) rfl rfl ?_
    refine Own.iload W9 d11_30 32 rfl 1 rfl ?_
    refine Own.callS W9 (tw hw 110 rfl) (tw hw 111 rfl) (tw hw 54 rfl) (tw hw 112 rfl) (by decide) (argsL := [(.ref o9), .int 1]) (rest := []) (Own.Con.pay (con_gc4_1 hw hEL TA TH TL r1 rfl W9.old A9) W9 (tw hw 112 rfl) (tw hw 54 rfl) (len := 3) (wd := 0) (by decide) (by decide) (fun _ q => nomatch q)) rfl (lenOf pd_5 rfl) rfl (lb rfl) d11_32 35 rfl 2 12 (lb rfl) (lb rfl) (lb rfl) (lb rfl) ?_
    intro v10 T10 h10 u10 W10 R10 hq
    obtain ⟨rfl, eh10⟩ := hq
    have ei10 := eh10.symm; subst ei10
    show Own.Go _ _ _ _ _ 35 #[.val (.ref a), .val (.int 0), .val (.int 4), .val (.ref o1), .val (.int 1), .val (.ref o9)] [(.int ch1)]
    refine Own.sipush W10 d11_35 38 rfl 255 rfl ?_
    refine Own.icmpYes W10 d11_38 54 (XT.ii_gt_t e1) (by decide) (by decide) ?_
    refine Own.aload W10 d11_54 56 rfl (.ref o9) rfl rfl ?_
    have X11 : Ext h h9 := Own.Ext.tr X8 E9
    exact Own.retA W10 (by decide) (by decide) rfl rfl rfl d11_56 ⟨o9, _, rfl, X11, (Nat.le_trans X8.1 g9), A9⟩
  · skip
    show Own.Go _ _ _ _ _ 12 #[.val (.ref a), .val (.int 0), .val (.int 4), .val (.ref o1), .unset, .unset] [.int 2]
    refine Own.istore W3 d11_12 14 rfl #[.val (.ref a), .val (.int 0), .val (.int 4), .val (.ref o1), .val (.int 2), .unset] rfl ?_
    refine Own.iload W3 d11_14 16 rfl 2 rfl ?_
    refine Own.iloadN W3 d11_16 17 rfl 4 rfl ?_
    refine Own.icmpNo W3 d11_17 20 (by decide) rfl ?_
    refine Own.aloadN W3 d11_20 21 rfl (.ref a) rfl rfl ?_
    refine Own.iloadN W3 d11_21 22 rfl 0 rfl ?_
    refine Own.iloadN W3 d11_22 23 rfl 4 rfl ?_
    have X12 : Ext h h3 := Own.Ext.kp X2 K3 (allS (Nat.le_of_eq g1.symm) all0)
    refine Own.callS W3 (tw hw 94 rfl) (tw hw 95 rfl) (tw hw 54 rfl) (tw hw 96 rfl) (by decide) (argsL := [(.ref a), .int 0, .int 4]) (rest := []) (Own.Con.pay (con_tob4 hw hEL TA TH TL hEN8 rfl rfl W3.old (Ac.ext X12)) W3 (tw hw 96 rfl) (tw hw 54 rfl) (len := 3) (wd := 0) (by decide) (by decide) (fun _ q => nomatch q)) rfl (lenOf pd_4 rfl) rfl (lb rfl) d11_23 26 rfl 2 12 (lb rfl) (lb rfl) (lb rfl) (lb rfl) ?_
    intro v13 T13 h13 u13 W13 R13 hq
    obtain ⟨o13, k13, rfl, E13, g13, A13⟩ := hq
    show Own.Go _ _ _ _ _ 26 #[.val (.ref a), .val (.int 0), .val (.int 4), .val (.ref o1), .val (.int 2), .unset] [(.ref o13)]
    refine Own.astore W13 d11_26 28 rfl rfl #[.val (.ref a), .val (.int 0), .val (.int 4), .val (.ref o1), .val (.int 2), .val (.ref o13)] rfl ?_
    refine Own.aload W13 d11_28 30 rfl (.ref o13) rfl rfl ?_
    refine Own.iload W13 d11_30 32 rfl 2 rfl ?_
    refine Own.callS W13 (tw hw 110 rfl) (tw hw 111 rfl) (tw hw 54 rfl) (tw hw 112 rfl) (by decide) (argsL := [(.ref o13), .int 2]) (rest := []) (Own.Con.pay (con_gc4_2 hw hEL TA TH TL r2 rfl W13.old A13) W13 (tw hw 112 rfl) (tw hw 54 rfl) (len := 3) (wd := 0) (by decide) (by decide) (fun _ q => nomatch q)) rfl (lenOf pd_5 rfl) rfl (lb rfl) d11_32 35 rfl 2 12 (lb rfl) (lb rfl) (lb rfl) (lb rfl) ?_
    intro v14 T14 h14 u14 W14 R14 hq
    obtain ⟨rfl, eh14⟩ := hq
    have ei14 := eh14.symm; subst ei14
    show Own.Go _ _ _ _ _ 35 #[.val (.ref a), .val (.int 0), .val (.int 4), .val (.ref o1), .val (.int 2), .val (.ref o13)] [(.int ch2)]
    refine Own.sipush W14 d11_35 38 rfl 255 rfl ?_
    refine Own.icmpYes W14 d11_38 54 (XT.ii_gt_t e2) (by decide) (by decide) ?_
    refine Own.aload W14 d11_54 56 rfl (.ref o13) rfl rfl ?_
    have X15 : Ext h h13 := Own.Ext.tr X12 E13
    exact Own.retA W14 (by decide) (by decide) rfl rfl rfl d11_56 ⟨o13, _, rfl, X15, (Nat.le_trans X12.1 g13), A13⟩
  · skip
    show Own.Go _ _ _ _ _ 12 #[.val (.ref a), .val (.int 0), .val (.int 4), .val (.ref o1), .unset, .unset] [.int 3]
    refine Own.istore W3 d11_12 14 rfl #[.val (.ref a), .val (.int 0), .val (.int 4), .val (.ref o1), .val (.int 3), .unset] rfl ?_
    refine Own.iload W3 d11_14 16 rfl 3 rfl ?_
    refine Own.iloadN W3 d11_16 17 rfl 4 rfl ?_
    refine Own.icmpNo W3 d11_17 20 (by decide) rfl ?_
    refine Own.aloadN W3 d11_20 21 rfl (.ref a) rfl rfl ?_
    refine Own.iloadN W3 d11_21 22 rfl 0 rfl ?_
    refine Own.iloadN W3 d11_22 23 rfl 4 rfl ?_
    have X16 : Ext h h3 := Own.Ext.kp X2 K3 (allS (Nat.le_of_eq g1.symm) all0)
    refine Own.callS W3 (tw hw 94 rfl) (tw hw 95 rfl) (tw hw 54 rfl) (tw hw 96 rfl) (by decide) (argsL := [(.ref a), .int 0, .int 4]) (rest := []) (Own.Con.pay (con_tob4 hw hEL TA TH TL hEN8 rfl rfl W3.old (Ac.ext X16)) W3 (tw hw 96 rfl) (tw hw 54 rfl) (len := 3) (wd := 0) (by decide) (by decide) (fun _ q => nomatch q)) rfl (lenOf pd_4 rfl) rfl (lb rfl) d11_23 26 rfl 2 12 (lb rfl) (lb rfl) (lb rfl) (lb rfl) ?_
    intro v17 T17 h17 u17 W17 R17 hq
    obtain ⟨o17, k17, rfl, E17, g17, A17⟩ := hq
    show Own.Go _ _ _ _ _ 26 #[.val (.ref a), .val (.int 0), .val (.int 4), .val (.ref o1), .val (.int 3), .unset] [(.ref o17)]
    refine Own.astore W17 d11_26 28 rfl rfl #[.val (.ref a), .val (.int 0), .val (.int 4), .val (.ref o1), .val (.int 3), .val (.ref o17)] rfl ?_
    refine Own.aload W17 d11_28 30 rfl (.ref o17) rfl rfl ?_
    refine Own.iload W17 d11_30 32 rfl 3 rfl ?_
    refine Own.callS W17 (tw hw 110 rfl) (tw hw 111 rfl) (tw hw 54 rfl) (tw hw 112 rfl) (by decide) (argsL := [(.ref o17), .int 3]) (rest := []) (Own.Con.pay (con_gc4_3 hw hEL TA TH TL r3 rfl W17.old A17) W17 (tw hw 112 rfl) (tw hw 54 rfl) (len := 3) (wd := 0) (by decide) (by decide) (fun _ q => nomatch q)) rfl (lenOf pd_5 rfl) rfl (lb rfl) d11_32 35 rfl 2 12 (lb rfl) (lb rfl) (lb rfl) (lb rfl) ?_
    intro v18 T18 h18 u18 W18 R18 hq
    obtain ⟨rfl, eh18⟩ := hq
    have ei18 := eh18.symm; subst ei18
    show Own.Go _ _ _ _ _ 35 #[.val (.ref a), .val (.int 0), .val (.int 4), .val (.ref o1), .val (.int 3), .val (.ref o17)] [(.int ch3)]
    refine Own.sipush W18 d11_35 38 rfl 255 rfl ?_
    refine Own.icmpYes W18 d11_38 54 (XT.ii_gt_t e3) (by decide) (by decide) ?_
    refine Own.aload W18 d11_54 56 rfl (.ref o17) rfl rfl ?_
    have X19 : Ext h h17 := Own.Ext.tr X16 E17
    exact Own.retA W18 (by decide) (by decide) rfl rfl rfl d11_56 ⟨o17, _, rfl, X19, (Nat.le_trans X16.1 g17), A17⟩
set_option maxRecDepth 65536 in
set_option maxHeartbeats 40000000 in
theorem con_cfl4 {G : Own.Gl} (hw : ∀ d ∈ tables_1, d.before G.a0 G.Z = true) (hEL : EW G.Z G.a0 G.EL) {b : Addr} {kb : ClassId} {vs : List Value} {dv : Value} {ln : Int32} (hln : ln = 4) {h : Heap} (hO : Old G.Z G.n0 h) (A : Arv G.Z h b kb .byte 8 vs dv) :
    Own.Con G [] bCfl4 #[.ref b, .int ln] h [] (fun v h' => v = some (.int 1) ∧ h' = h) := by
  refine Own.Con.intro (plainFor_of_name pn_0) hO hEL _ (fun m => ef_bCfl4 m b ln) ?_
  intro X T0 W0 sf
  subst hln
  refine Own.iloadN W0 d13_0 1 rfl 4 rfl ?_
  refine Own.aloadN W0 d13_1 2 rfl (.ref b) rfl rfl ?_
  refine Own.arrlen W0 A d13_2 3 rfl ?_
  refine Own.isub W0 d13_3 4 rfl ?_
  refine Own.bipush W0 d13_4 6 rfl 31 rfl ?_
  refine Own.iushr W0 d13_6 7 rfl ?_
  refine Own.i2b W0 d13_7 8 rfl ?_
  rw [show (((4 : Int32) - (8 : Int32)).toUInt32 >>> ((31 : Int32) &&& 31).toUInt32).toInt32.toInt8.toInt32 = (1 : Int32) by decide]
  exact Own.retY W0 (by decide) (by decide) rfl d13_8 rfl ⟨rfl, rfl⟩
set_option maxRecDepth 65536 in
set_option maxHeartbeats 40000000 in
theorem con_w44 {G : Own.Gl} (hw : ∀ d ∈ tables_1, d.before G.a0 G.Z = true) (hEL : EW G.Z G.a0 G.EL) (hmem : (Own.ST, 7) ∈ G.EL) {cz : Int32} (hS : Sta G.Z G.Z.heap Own.ST "COMPACT_STRINGS" "Z" (.int cz)) (hcz : ¬ cz = 0) (TA : Sta G.Z G.Z.heap "java/lang/StringUTF16" "$assertionsDisabled" "Z" (.int 1)) (TH : Sta G.Z G.Z.heap "java/lang/StringUTF16" "HI_BYTE_SHIFT" "I" (.int 0)) (TL : Sta G.Z G.Z.heap "java/lang/StringUTF16" "LO_BYTE_SHIFT" "I" (.int 8)) (hEN8 : Own.EN G.Z G.a0 G.EL 8) {ch0 ch1 ch2 ch3 : Int32} (hw255 : (255 : Int32) < ch0 ∨ (255 : Int32) < ch1 ∨ (255 : Int32) < ch2 ∨ (255 : Int32) < ch3) (r0 : Own.R16 ch0) (r1 : Own.R16 ch1) (r2 : Own.R16 ch2) (r3 : Own.R16 ch3) {of ln : Int32} (hof : of = 0) (hln : ln = 4) {x : Addr} {h : Heap} (hO : Old G.Z G.n0 h) (hn_x : G.n0 ≤ x) (E : Exa G.Z h x "java/lang/String") {v0 c0_ : Value} (V : Fld G.Z h x "java/lang/String" "value" "[B" v0) (Cd : Fld G.Z h x "java/lang/String" "coder" "B" c0_) {a : Addr} {kC : ClassId} {dv : Value} (Ac : Arv G.Z h a kC .char 4 [.int ch0, .int ch1, .int ch2, .int ch3] dv) :
    Own.Con G [] bW44 #[.ref x, .ref a, .int of, .int ln, .null] h [x] (fun v h' => v = none ∧ Keep h h' [x] ∧ Own.WStr G.Z h' x [ch0, ch1, ch2, ch3]) := by
  refine Own.Con.intro (plainFor_of_name pn_1) hO hEL _ (fun m => ef_bW44 m x a of ln) ?_
  intro X T0 W0 sf
  subst hof; subst hln
  have sx := sf x (List.mem_singleton.mpr rfl)
  refine Own.aloadN W0 d2_0 1 rfl (.ref x) rfl rfl ?_
  refine Own.initO W0 (tw hw 11 rfl) (tw hw 12 rfl) (tw hw 13 rfl) rfl d2_1 4 rfl (by decide) (by decide) ?_
  intro T1 W1
  refine Own.iloadN W1 d2_4 5 rfl 4 rfl ?_
  refine Own.ifYes W1 d2_5 27 (by decide) (by decide) (by decide) ?_
  refine Own.getS W1 (tw hw 39 rfl) Via.refl (W1.sta hS) d2_27 30 rfl ?_
  intro T2 W2
  refine Own.ifNo W2 d2_30 33 (XT.i0_eq_f hcz) rfl ?_
  refine Own.aloadN W2 d2_33 34 rfl (.ref a) rfl rfl ?_
  refine Own.iloadN W2 d2_34 35 rfl 0 rfl ?_
  refine Own.iloadN W2 d2_35 36 rfl 4 rfl ?_
  refine Own.callS W2 (tw hw 52 rfl) (tw hw 53 rfl) (tw hw 54 rfl) (tw hw 55 rfl) (by decide) (argsL := [(.ref a), .int 0, .int 4]) (rest := []) (Own.Con.pay (con_c34 hw hEL TA TH TL hEN8 hw255 r0 r1 r2 r3 rfl rfl W2.old Ac) W2 (tw hw 55 rfl) (tw hw 54 rfl) (len := 3) (wd := 0) (by decide) (by decide) (fun _ q => nomatch q)) rfl (lenOf pd_4 rfl) rfl (lb rfl) d2_36 39 rfl 2 12 (lb rfl) (lb rfl) (lb rfl) (lb rfl) ?_
  intro v3 T3 h3 u3 W3 R3 hq
  obtain ⟨o3, k3, rfl, E3, g3, A3⟩ := hq
  show Own.Go _ _ _ _ _ 39 #[.val (.ref x), .val (.ref a), .val (.int 0), .val (.int 4), .val .null, .unset] [(.ref o3)]
  refine Own.astore W3 d2_39 41 rfl rfl #[.val (.ref x), .val (.ref a), .val (.int 0), .val (.int 4), .val .null, .val (.ref o3)] rfl ?_
  refine Own.aloadN W3 d2_41 42 rfl (.ref x) rfl rfl ?_
  refine Own.aload W3 d2_42 44 rfl (.ref o3) rfl rfl ?_
  refine Own.iloadN W3 d2_44 45 rfl 4 rfl ?_
  refine Own.callS W3 (tw hw 59 rfl) (tw hw 60 rfl) (tw hw 54 rfl) (tw hw 61 rfl) (by decide) (argsL := [(.ref o3), .int 4]) (rest := [(.ref x)]) (Own.Con.pay (con_cfl4 hw hEL rfl W3.old A3) W3 (tw hw 61 rfl) (tw hw 54 rfl) (len := 3) (wd := 1) (by decide) (by decide) (fun _ q => nomatch q)) rfl (lenOf pd_6 rfl) rfl (lb rfl) d2_45 48 rfl 2 12 (lb rfl) (lb rfl) (lb rfl) (lb rfl) ?_
  intro v4 T4 h4 u4 W4 R4 hq
  obtain ⟨rfl, eh4⟩ := hq
  have ei4 := eh4.symm; subst ei4
  have X5 : Ext h h3 := E3
  have sf6 := R4.safe (E.ext X5).lt (R3.safe E.lt sx)
  show Own.Go _ _ _ _ _ 48 #[.val (.ref x), .val (.ref a), .val (.int 0), .val (.int 4), .val .null, .val (.ref o3)] [.int 1, (.ref x)]
  refine Own.putF W4 (tw hw 21 rfl) Via.refl (Cd.ext X5) (E.ext X5) (Or.inr ⟨(tw hw 17 rfl), rfl, rfl⟩) (tw hw 2 rfl) (ty := .byte) (v' := (.int 1)) (by decide) rfl rfl hn_x sf6 d2_48 51 rfl ?_
  intro T7 h7 W7 Q7 k7
  have F7_coder := Fld.same Q7 (Cd.ext X5)
  refine Own.aloadN W7 d2_51 52 rfl (.ref x) rfl rfl ?_
  refine Own.aload W7 d2_52 54 rfl (.ref o3) rfl rfl ?_
  refine Own.putF W7 (tw hw 20 rfl) Via.refl ((V.ext E3).other Q7 (Or.inr (slot_ne (Or.inr (tw hw 16 rfl)) (Or.inr (tw hw 17 rfl)) (by decide) (t := (.array .byte)) (t' := .byte) (by decide) (by decide)))) ((E.ext E3).wr Q7) (Or.inr ⟨(tw hw 16 rfl), rfl, rfl⟩) (tw hw 2 rfl) (ty := (.array .byte)) (v' := (.ref o3)) (by decide) rfl rfl hn_x (k7 x sf6) d2_54 57 rfl ?_
  intro T8 h8 W8 Q8 k8
  have F8_value := Fld.same Q8 ((V.ext E3).other Q7 (Or.inr (slot_ne (Or.inr (tw hw 16 rfl)) (Or.inr (tw hw 17 rfl)) (by decide) (t := (.array .byte)) (t' := .byte) (by decide) (by decide))))
  exact Own.retV W8 (by decide) (by decide) rfl d2_57 ⟨rfl, (Keep.wr (Keep.wr (Keep.ext (Keep.refl h [x]) E3) Q7 (Or.inl (by simp))) Q8 (Or.inl (by simp))), (((E.ext E3).wr Q7).wr Q8), (F7_coder.other Q8 (Or.inr (slot_ne (Or.inr (tw hw 17 rfl)) (Or.inr (tw hw 16 rfl)) (by decide) (t := .byte) (t' := (.array .byte)) (by decide) (by decide)))), (by intro c hc; simp only [List.mem_cons, List.not_mem_nil, or_false] at hc; rcases hc with rfl | rfl | rfl | rfl; exact r0; exact r1; exact r2; exact r3), Nat.le_of_ble_eq_true rfl, (by rcases hw255 with q | q | q | q; exact ⟨ch0, by simp, q⟩; exact ⟨ch1, by simp, q⟩; exact ⟨ch2, by simp, q⟩; exact ⟨ch3, by simp, q⟩), o3, _, F8_value, ((A3.other Q7 (Ne.symm (Nat.ne_of_lt (Nat.lt_of_lt_of_le E.lt g3)))).other Q8 (Ne.symm (Nat.ne_of_lt (Nat.lt_of_lt_of_le E.lt g3))))⟩
set_option maxRecDepth 65536 in
set_option maxHeartbeats 40000000 in
theorem con_w14 {G : Own.Gl} (hw : ∀ d ∈ tables_1, d.before G.a0 G.Z = true) (hEL : EW G.Z G.a0 G.EL) (hmem : (Own.ST, 7) ∈ G.EL) {cz : Int32} (hS : Sta G.Z G.Z.heap Own.ST "COMPACT_STRINGS" "Z" (.int cz)) (hcz : ¬ cz = 0) (TA : Sta G.Z G.Z.heap "java/lang/StringUTF16" "$assertionsDisabled" "Z" (.int 1)) (TH : Sta G.Z G.Z.heap "java/lang/StringUTF16" "HI_BYTE_SHIFT" "I" (.int 0)) (TL : Sta G.Z G.Z.heap "java/lang/StringUTF16" "LO_BYTE_SHIFT" "I" (.int 8)) (hEN8 : Own.EN G.Z G.a0 G.EL 8) {ch0 ch1 ch2 ch3 : Int32} (hw255 : (255 : Int32) < ch0 ∨ (255 : Int32) < ch1 ∨ (255 : Int32) < ch2 ∨ (255 : Int32) < ch3) (r0 : Own.R16 ch0) (r1 : Own.R16 ch1) (r2 : Own.R16 ch2) (r3 : Own.R16 ch3) {x : Addr} {h : Heap} (hO : Old G.Z G.n0 h) (hn_x : G.n0 ≤ x) (E : Exa G.Z h x "java/lang/String") {v0 c0_ : Value} (V : Fld G.Z h x "java/lang/String" "value" "[B" v0) (Cd : Fld G.Z h x "java/lang/String" "coder" "B" c0_) {a : Addr} {kC : ClassId} {dv : Value} (Ac : Arv G.Z h a kC .char 4 [.int ch0, .int ch1, .int ch2, .int ch3] dv) :
    Own.Con G [] bW14 #[.ref x, .ref a] h [x] (fun v h' => v = none ∧ Keep h h' [x] ∧ Own.WStr G.Z h' x [ch0, ch1, ch2, ch3]) := by
  refine Own.Con.intro (plainFor_of_name pn_1) hO hEL _ (fun m => ef_bW14 m x a) ?_
  intro X T0 W0 sf
  have sx := sf x (List.mem_singleton.mpr rfl)
  refine Own.aloadN W0 d1_0 1 rfl (.ref x) rfl rfl ?_
  refine Own.aloadN W0 d1_1 2 rfl (.ref a) rfl rfl ?_
  refine Own.iconst W0 d1_2 3 rfl 0 rfl ?_
  refine Own.aloadN W0 d1_3 4 rfl (.ref a) rfl rfl ?_
  refine Own.arrlen W0 Ac d1_4 5 rfl ?_
  refine Own.aconstNull W0 d1_5 6 rfl ?_
  refine Own.callX W0 rfl (tw hw 7 rfl) (tw hw 8 rfl) (tw hw 10 rfl) (by decide) (argsL := [(.ref a), .int 0, .int 4, .null]) (rest := []) (Own.Con.pay (con_w44 hw hEL hmem hS hcz TA TH TL hEN8 hw255 r0 r1 r2 r3 rfl rfl W0.old hn_x E V Cd Ac) W0 (tw hw 10 rfl) (tw hw 3 rfl) (len := 3) (wd := 0) (by decide) (by decide) (fun y hy => by cases List.mem_singleton.mp hy; exact ⟨E.lt, sx⟩)) rfl (lenOf pd_7 rfl) rfl (lb rfl) d1_6 9 rfl 2 12 (lb rfl) (lb rfl) (lb rfl) (lb rfl) ?_
  intro v1 T1 h1 u1 W1 R1 hq
  obtain ⟨rfl, K1, F1⟩ := hq
  show Own.Go _ _ _ _ _ 9 #[.val (.ref x), .val (.ref a)] []
  exact Own.retV W1 (by decide) (by decide) rfl d1_9 ⟨rfl, K1, F1⟩
set_option maxRecDepth 65536 in
set_option maxHeartbeats 40000000 in
theorem con_sl0 {G : Own.Gl} (hw : ∀ d ∈ tables_1, d.before G.a0 G.Z = true) (hEL : EW G.Z G.a0 G.EL) (hmem : (Own.ST, 7) ∈ G.EL) {cz : Int32} (hS : Sta G.Z G.Z.heap Own.ST "COMPACT_STRINGS" "Z" (.int cz)) (hcz : ¬ cz = 0) {x : Addr} {h : Heap} (hO : Old G.Z G.n0 h) (F : Fld G.Z h x "java/lang/String" "coder" "B" (.int 1)) :
    Own.Con G [] bSl0 #[.ref x] h [] (fun v h' => v = some (.int 0) ∧ h' = h) := by
  refine Own.Con.intro (plainFor_of_name pn_1) hO hEL _ (fun m => ef_bSl0 m x) ?_
  intro X T0 W0 sf
  refine Own.getS W0 (tw hw 39 rfl) Via.refl (W0.sta hS) d15_0 3 rfl ?_
  intro T1 W1
  refine Own.ifNo W1 d15_3 6 (XT.i0_eq_f hcz) rfl ?_
  refine Own.aloadN W1 d15_6 7 rfl (.ref x) rfl rfl ?_
  refine Own.getF W1 (tw hw 21 rfl) Via.refl F d15_7 10 rfl ?_
  intro T2 W2
  refine Own.ifYes W2 d15_10 17 (by decide) (by decide) (by decide) ?_
  refine Own.iconst W2 d15_17 18 rfl 0 rfl ?_
  exact Own.retB W2 (by decide) (by decide) rfl d15_18 rfl ⟨rfl, rfl⟩
set_option maxRecDepth 65536 in
set_option maxHeartbeats 40000000 in
theorem con_ul {G : Own.Gl} (hw : ∀ d ∈ tables_1, d.before G.a0 G.Z = true) (hEL : EW G.Z G.a0 G.EL) {b : Addr} {kb : ClassId} {cs : List Int32} (hl : cs.length ≤ 2000) {h : Heap} (hO : Old G.Z G.n0 h) (A : Arv G.Z h b kb .byte (Int32.ofNat (2 * cs.length)) (StrChars.Road.wideBytes cs) (.int 0)) :
    Own.Con G [] bUl #[.ref b] h [] (fun v h' => v = some (.int (Int32.ofNat cs.length)) ∧ h' = h) := by
  refine Own.Con.intro (plainFor_of_name pn_0) hO hEL _ (fun m => ef_bUl m b) ?_
  intro X T0 W0 sf
  refine Own.aloadN W0 d28_0 1 rfl (.ref b) rfl rfl ?_
  refine Own.arrlen W0 A d28_1 2 rfl ?_
  refine Own.iconst W0 d28_2 3 rfl 1 rfl ?_
  refine Own.ishr W0 d28_3 4 rfl ?_
  rw [Own.shr1 hl]
  exact Own.retI W0 (by decide) (by decide) rfl d28_4 ⟨rfl, rfl⟩
set_option maxRecDepth 65536 in
set_option maxHeartbeats 40000000 in
theorem con_pc0 {G : Own.Gl} (hw : ∀ d ∈ tables_1, d.before G.a0 G.Z = true) (hEL : EW G.Z G.a0 G.EL) (fr : Addr) (i n : Int32) (h0 : ¬ i < 0) (h1 : i < n) {h : Heap} (hO : Old G.Z G.n0 h) :
    Own.Con G [] bPc0 #[.int i, .int n, .ref fr] h [] (fun v h' => v = some (.int i) ∧ h' = h) := by
  refine Own.Con.intro (plainFor_of_name pn_2) hO hEL _ (fun m => ef_bPc0 m i n fr) ?_
  intro X T0 W0 sf
  refine Own.iloadN W0 d18_0 1 rfl i rfl ?_
  refine Own.ifNo W0 d18_1 4 (XT.i0_lt_f h0) rfl ?_
  refine Own.iloadN W0 d18_4 5 rfl i rfl ?_
  refine Own.iloadN W0 d18_5 6 rfl n rfl ?_
  refine Own.icmpYes W0 d18_6 16 (XT.ii_lt_t h1) (by decide) (by decide) ?_
  refine Own.iloadN W0 d18_16 17 rfl i rfl ?_
  exact Own.retI W0 (by decide) (by decide) rfl d18_17 ⟨rfl, rfl⟩
set_option maxRecDepth 65536 in
set_option maxHeartbeats 40000000 in
theorem con_pc1 {G : Own.Gl} (hw : ∀ d ∈ tables_1, d.before G.a0 G.Z = true) (hEL : EW G.Z G.a0 G.EL) (i n : Int32) (h0 : ¬ i < 0) (h1 : i < n) {h : Heap} (hO : Old G.Z G.n0 h) :
    Own.Con G [] bPc1 #[.int i, .int n, .null] h [] (fun v h' => v = some (.int i) ∧ h' = h) := by
  refine Own.Con.intro (plainFor_of_name pn_2) hO hEL _ (fun m => ef_bPc1 m i n) ?_
  intro X T0 W0 sf
  refine Own.iloadN W0 d18_0 1 rfl i rfl ?_
  refine Own.ifNo W0 d18_1 4 (XT.i0_lt_f h0) rfl ?_
  refine Own.iloadN W0 d18_4 5 rfl i rfl ?_
  refine Own.iloadN W0 d18_5 6 rfl n rfl ?_
  refine Own.icmpYes W0 d18_6 16 (XT.ii_lt_t h1) (by decide) (by decide) ?_
  refine Own.iloadN W0 d18_16 17 rfl i rfl ?_
  exact Own.retI W0 (by decide) (by decide) rfl d18_17 ⟨rfl, rfl⟩
set_option maxRecDepth 65536 in
set_option maxHeartbeats 40000000 in
theorem con_sci {G : Own.Gl} (hw : ∀ d ∈ tables_1, d.before G.a0 G.Z = true) (hEL : EW G.Z G.a0 G.EL) {fm : Value} (SF : Sta G.Z G.Z.heap "jdk/internal/util/Preconditions" "SIOOBE_FORMATTER" "Ljava/util/function/BiFunction;" fm) (rfm : fm.isRef = true) (i n : Int32) (h0 : ¬ i < 0) (h1 : i < n) {h : Heap} (hO : Old G.Z G.n0 h) :
    Own.Con G [] bSci #[.int i, .int n] h [] (fun v h' => v = none ∧ h' = h) := by
  refine Own.Con.intro (plainFor_of_name pn_1) hO hEL _ (fun m => ef_bSci m i n) ?_
  intro X T0 W0 sf
  have hfm : (∃ r, fm = .ref r) ∨ fm = .null := by cases fm <;> simp_all [Value.isRef]
  rcases hfm with ⟨fr, rfl⟩ | rfl
  · skip
    refine Own.iloadN W0 d17_0 1 rfl i rfl ?_
    refine Own.iloadN W0 d17_1 2 rfl n rfl ?_
    refine Own.getS W0 (tw hw 79 rfl) Via.refl (W0.sta SF) d17_2 5 rfl ?_
    intro T1 W1
    refine Own.callS W1 (tw hw 81 rfl) (tw hw 82 rfl) (tw hw 80 rfl) (tw hw 83 rfl) (by decide) (argsL := [(.int i), (.int n), (.ref fr)]) (rest := []) (Own.Con.pay (con_pc0 hw hEL fr i n h0 h1 W1.old) W1 (tw hw 83 rfl) (tw hw 80 rfl) (len := 3) (wd := 0) (by decide) (by decide) (fun _ q => nomatch q)) rfl (lenOf pd_8 rfl) rfl (lb rfl) d17_5 8 rfl 0 0 (lb rfl) (lb rfl) (lb rfl) (lb rfl) ?_
    intro v2 T2 h2 u2 W2 R2 hq
    obtain ⟨rfl, eh2⟩ := hq
    have ei2 := eh2.symm; subst ei2
    show Own.Go _ _ _ _ _ 8 #[.val (.int i), .val (.int n)] [(.int i)]
    refine Own.pop W2 d17_8 9 rfl rfl ?_
    exact Own.retV W2 (by decide) (by decide) rfl d17_9 ⟨rfl, rfl⟩
  · skip
    refine Own.iloadN W0 d17_0 1 rfl i rfl ?_
    refine Own.iloadN W0 d17_1 2 rfl n rfl ?_
    refine Own.getS W0 (tw hw 79 rfl) Via.refl (W0.sta SF) d17_2 5 rfl ?_
    intro T3 W3
    refine Own.callS W3 (tw hw 81 rfl) (tw hw 82 rfl) (tw hw 80 rfl) (tw hw 83 rfl) (by decide) (argsL := [(.int i), (.int n), .null]) (rest := []) (Own.Con.pay (con_pc1 hw hEL i n h0 h1 W3.old) W3 (tw hw 83 rfl) (tw hw 80 rfl) (len := 3) (wd := 0) (by decide) (by decide) (fun _ q => nomatch q)) rfl (lenOf pd_8 rfl) rfl (lb rfl) d17_5 8 rfl 0 0 (lb rfl) (lb rfl) (lb rfl) (lb rfl) ?_
    intro v4 T4 h4 u4 W4 R4 hq
    obtain ⟨rfl, eh4⟩ := hq
    have ei4 := eh4.symm; subst ei4
    show Own.Go _ _ _ _ _ 8 #[.val (.int i), .val (.int n)] [(.int i)]
    refine Own.pop W4 d17_8 9 rfl rfl ?_
    exact Own.retV W4 (by decide) (by decide) rfl d17_9 ⟨rfl, rfl⟩
set_option maxRecDepth 65536 in
set_option maxHeartbeats 40000000 in
theorem con_uci {G : Own.Gl} (hw : ∀ d ∈ tables_1, d.before G.a0 G.Z = true) (hEL : EW G.Z G.a0 G.EL) {fm : Value} (SF : Sta G.Z G.Z.heap "jdk/internal/util/Preconditions" "SIOOBE_FORMATTER" "Ljava/util/function/BiFunction;" fm) (rfm : fm.isRef = true) {b : Addr} {kb : ClassId} {cs : List Int32} (hl : cs.length ≤ 2000) {h : Heap} (hO : Old G.Z G.n0 h) (A : Arv G.Z h b kb .byte (Int32.ofNat (2 * cs.length)) (StrChars.Road.wideBytes cs) (.int 0)) (i : Int32) (h0 : ¬ i < 0) (h1 : i < (Int32.ofNat cs.length)) :
    Own.Con G [] bUci #[.int i, .ref b] h [] (fun v h' => v = none ∧ h' = h) := by
  refine Own.Con.intro (plainFor_of_name pn_0) hO hEL _ (fun m => ef_bUci m i b) ?_
  intro X T0 W0 sf
  refine Own.iloadN W0 d27_0 1 rfl i rfl ?_
  refine Own.aloadN W0 d27_1 2 rfl (.ref b) rfl rfl ?_
  refine Own.callS W0 (tw hw 119 rfl) (tw hw 120 rfl) (tw hw 54 rfl) (tw hw 121 rfl) (by decide) (argsL := [(.ref b)]) (rest := [(.int i)]) (Own.Con.pay (con_ul hw hEL hl W0.old A) W0 (tw hw 121 rfl) (tw hw 54 rfl) (len := 3) (wd := 1) (by decide) (by decide) (fun _ q => nomatch q)) rfl (lenOf pd_9 rfl) rfl (lb rfl) d27_2 5 rfl 0 0 (lb rfl) (lb rfl) (lb rfl) (lb rfl) ?_
  intro v1 T1 h1 u1 W1 R1 hq
  obtain ⟨rfl, eh1⟩ := hq
  have ei1 := eh1.symm; subst ei1
  show Own.Go _ _ _ _ _ 5 #[.val (.int i), .val (.ref b)] [(.int (Int32.ofNat cs.length)), (.int i)]
  refine Own.callS W1 (tw hw 122 rfl) (tw hw 77 rfl) (tw hw 3 rfl) (tw hw 78 rfl) (by decide) (argsL := [(.int i), (.int (Int32.ofNat cs.length))]) (rest := []) (Own.Con.pay (con_sci hw hEL SF rfm i _ h0 h1 W1.old) W1 (tw hw 78 rfl) (tw hw 3 rfl) (len := 3) (wd := 0) (by decide) (by decide) (fun _ q => nomatch q)) rfl (lenOf pd_10 rfl) rfl (lb rfl) d27_5 8 rfl 0 0 (lb rfl) (lb rfl) (lb rfl) (lb rfl) ?_
  intro v2 T2 h2 u2 W2 R2 hq
  obtain ⟨rfl, eh2⟩ := hq
  have ei2 := eh2.symm; subst ei2
  show Own.Go _ _ _ _ _ 8 #[.val (.int i), .val (.ref b)] []
  exact Own.retV W2 (by decide) (by decide) rfl d27_8 ⟨rfl, rfl⟩
set_option maxRecDepth 65536 in
set_option maxHeartbeats 40000000 in
theorem con_gg0 {G : Own.Gl} (hw : ∀ d ∈ tables_1, d.before G.a0 G.Z = true) (hEL : EW G.Z G.a0 G.EL) (TA : Sta G.Z G.Z.heap "java/lang/StringUTF16" "$assertionsDisabled" "Z" (.int 1)) (TH : Sta G.Z G.Z.heap "java/lang/StringUTF16" "HI_BYTE_SHIFT" "I" (.int 0)) (TL : Sta G.Z G.Z.heap "java/lang/StringUTF16" "LO_BYTE_SHIFT" "I" (.int 8)) {b : Addr} {kb : ClassId} {cs : List Int32} (hl : cs.length ≤ 2000) {h : Heap} (hO : Old G.Z G.n0 h) (A : Arv G.Z h b kb .byte (Int32.ofNat (2 * cs.length)) (StrChars.Road.wideBytes cs) (.int 0)) (hr : ∀ c ∈ cs, ¬ c < 0 ∧ ¬ (65535 : Int32) < c) (hi : 0 < cs.length) {ii : Int32} (hii : ii = 0) :
    Own.Con G [] bGg0 #[.ref b, .int ii] h [] (fun v h' => v = some (.int (cs.getD 0 0)) ∧ h' = h) := by
  refine Own.Con.intro (plainFor_of_name pn_0) hO hEL _ (fun m => ef_bGg0 m b ii) ?_
  intro X T0 W0 sf
  subst hii
  refine Own.getS W0 (tw hw 107 rfl) Via.refl (W0.sta TA) d25_0 3 rfl ?_
  intro T1 W1
  refine Own.ifYes W1 d25_3 28 (by decide) (by decide) (by decide) ?_
  refine Own.iloadN W1 d25_28 29 rfl 0 rfl ?_
  refine Own.iconst W1 d25_29 30 rfl 1 rfl ?_
  refine Own.ishl W1 d25_30 31 rfl ?_
  rw [show ((0 : Int32) <<< ((1 : Int32) &&& 31)) = (0 : Int32) by decide]
  refine Own.istoreN W1 d25_31 32 rfl #[.val (.ref b), .val (.int 0)] rfl ?_
  refine Own.aloadN W1 d25_32 33 rfl (.ref b) rfl rfl ?_
  refine Own.iloadN W1 d25_33 34 rfl 0 rfl ?_
  refine Own.iinc W1 d25_34 37 rfl rfl #[.val (.ref b), .val (.int 1)] rfl ?_
  refine Own.baload W1 A ⟨by decide, Own.lt2 (k := 0) (by omega) (by omega)⟩ (.int (StrChars.lo8 (cs.getD 0 0))) (by rw [show (0 : Int32).toNatClampNeg = 2 * 0 by decide]; exact StrChars.Road.wide_lo (.int 0) cs 0 hi) d25_37 38 rfl ?_
  refine Own.sipush W1 d25_38 41 rfl 255 rfl ?_
  refine Own.iand W1 d25_41 42 rfl ?_
  refine Own.getS W1 (tw hw 108 rfl) Via.refl (W1.sta TH) d25_42 45 rfl ?_
  intro T2 W2
  refine Own.ishl W2 d25_45 46 rfl ?_
  refine Own.aloadN W2 d25_46 47 rfl (.ref b) rfl rfl ?_
  refine Own.iloadN W2 d25_47 48 rfl 1 rfl ?_
  refine Own.baload W2 A ⟨by decide, Own.lt2 (k := 1) (by omega) (by omega)⟩ (.int (StrChars.hi8 (cs.getD 0 0))) (by rw [show (1 : Int32).toNatClampNeg = 2 * 0 + 1 by decide]; exact StrChars.Road.wide_hi (.int 0) cs 0 hi) d25_48 49 rfl ?_
  refine Own.sipush W2 d25_49 52 rfl 255 rfl ?_
  refine Own.iand W2 d25_52 53 rfl ?_
  refine Own.getS W2 (tw hw 109 rfl) Via.refl (W2.sta TL) d25_53 56 rfl ?_
  intro T3 W3
  refine Own.ishl W3 d25_56 57 rfl ?_
  refine Own.ior W3 d25_57 58 rfl ?_
  refine Own.i2c W3 d25_58 59 rfl ?_
  show Own.Go _ _ _ _ _ 59 #[.val (.ref b), .val (.int 1)] [.int (StrChars.pairCh (StrChars.lo8 (cs.getD 0 0)) (StrChars.hi8 (cs.getD 0 0)))]
  rw [StrChars.pair_says (Own.r16At hr hi).1 (Own.r16At hr hi).2]
  exact Own.retC W3 (by decide) (by decide) rfl d25_59 (Own.narC (Own.r16At hr hi)) ⟨rfl, rfl⟩
set_option maxRecDepth 65536 in
set_option maxHeartbeats 40000000 in
theorem con_uch0 {G : Own.Gl} (hw : ∀ d ∈ tables_1, d.before G.a0 G.Z = true) (hEL : EW G.Z G.a0 G.EL) {fm : Value} (SF : Sta G.Z G.Z.heap "jdk/internal/util/Preconditions" "SIOOBE_FORMATTER" "Ljava/util/function/BiFunction;" fm) (rfm : fm.isRef = true) (TA : Sta G.Z G.Z.heap "java/lang/StringUTF16" "$assertionsDisabled" "Z" (.int 1)) (TH : Sta G.Z G.Z.heap "java/lang/StringUTF16" "HI_BYTE_SHIFT" "I" (.int 0)) (TL : Sta G.Z G.Z.heap "java/lang/StringUTF16" "LO_BYTE_SHIFT" "I" (.int 8)) {b : Addr} {kb : ClassId} {cs : List Int32} (hl : cs.length ≤ 2000) {h : Heap} (hO : Old G.Z G.n0 h) (A : Arv G.Z h b kb .byte (Int32.ofNat (2 * cs.length)) (StrChars.Road.wideBytes cs) (.int 0)) (hr : ∀ c ∈ cs, ¬ c < 0 ∧ ¬ (65535 : Int32) < c) (hi : 0 < cs.length) {ii : Int32} (hii : ii = 0) :
    Own.Con G [] bUch0 #[.ref b, .int ii] h [] (fun v h' => v = some (.int (cs.getD 0 0)) ∧ h' = h) := by
  refine Own.Con.intro (plainFor_of_name pn_0) hO hEL _ (fun m => ef_bUch0 m b ii) ?_
  intro X T0 W0 sf
  subst hii
  refine Own.iloadN W0 d26_0 1 rfl 0 rfl ?_
  refine Own.aloadN W0 d26_1 2 rfl (.ref b) rfl rfl ?_
  refine Own.callS W0 (tw hw 116 rfl) (tw hw 117 rfl) (tw hw 54 rfl) (tw hw 118 rfl) (by decide) (argsL := [.int 0, (.ref b)]) (rest := []) (Own.Con.pay (con_uci hw hEL SF rfm hl W0.old A (0 : Int32) (by decide) (Own.lt2 (k := 0) hi (by omega))) W0 (tw hw 118 rfl) (tw hw 54 rfl) (len := 3) (wd := 0) (by decide) (by decide) (fun _ q => nomatch q)) rfl (lenOf pd_11 rfl) rfl (lb rfl) d26_2 5 rfl 0 0 (lb rfl) (lb rfl) (lb rfl) (lb rfl) ?_
  intro v1 T1 h1 u1 W1 R1 hq
  obtain ⟨rfl, eh1⟩ := hq
  have ei1 := eh1.symm; subst ei1
  show Own.Go _ _ _ _ _ 5 #[.val (.ref b), .val (.int 0)] []
  refine Own.aloadN W1 d26_5 6 rfl (.ref b) rfl rfl ?_
  refine Own.iloadN W1 d26_6 7 rfl 0 rfl ?_
  refine Own.callS W1 (tw hw 110 rfl) (tw hw 111 rfl) (tw hw 54 rfl) (tw hw 112 rfl) (by decide) (argsL := [(.ref b), .int 0]) (rest := []) (Own.Con.pay (con_gg0 hw hEL TA TH TL hl W1.old A hr hi rfl) W1 (tw hw 112 rfl) (tw hw 54 rfl) (len := 3) (wd := 0) (by decide) (by decide) (fun _ q => nomatch q)) rfl (lenOf pd_5 rfl) rfl (lb rfl) d26_7 10 rfl 0 0 (lb rfl) (lb rfl) (lb rfl) (lb rfl) ?_
  intro v2 T2 h2 u2 W2 R2 hq
  obtain ⟨rfl, eh2⟩ := hq
  have ei2 := eh2.symm; subst ei2
  show Own.Go _ _ _ _ _ 10 #[.val (.ref b), .val (.int 0)] [(.int (cs.getD 0 0))]
  exact Own.retC W2 (by decide) (by decide) rfl d26_10 (Own.narC (Own.r16At hr hi)) ⟨rfl, rfl⟩
set_option maxRecDepth 65536 in
set_option maxHeartbeats 40000000 in
theorem con_wc0 {G : Own.Gl} (hw : ∀ d ∈ tables_1, d.before G.a0 G.Z = true) (hEL : EW G.Z G.a0 G.EL) (hmem : (Own.ST, 7) ∈ G.EL) {cz : Int32} (hS : Sta G.Z G.Z.heap Own.ST "COMPACT_STRINGS" "Z" (.int cz)) (hcz : ¬ cz = 0) {fm : Value} (SF : Sta G.Z G.Z.heap "jdk/internal/util/Preconditions" "SIOOBE_FORMATTER" "Ljava/util/function/BiFunction;" fm) (rfm : fm.isRef = true) (TA : Sta G.Z G.Z.heap "java/lang/StringUTF16" "$assertionsDisabled" "Z" (.int 1)) (TH : Sta G.Z G.Z.heap "java/lang/StringUTF16" "HI_BYTE_SHIFT" "I" (.int 0)) (TL : Sta G.Z G.Z.heap "java/lang/StringUTF16" "LO_BYTE_SHIFT" "I" (.int 8)) {x : Addr} {cs : List Int32} {h : Heap} (hO : Old G.Z G.n0 h) (Sx : Own.WStr G.Z h x cs) (hi : 0 < cs.length) {ii : Int32} (hii : ii = 0) :
    Own.Con G [] bWc0 #[.ref x, .int ii] h [] (fun v h' => v = some (.int (cs.getD 0 0)) ∧ h' = h) := by
  refine Own.Con.intro (plainFor_of_name pn_1) hO hEL _ (fun m => ef_bWc0 m x ii) ?_
  intro X T0 W0 sf
  subst hii
  obtain ⟨Ex, Xc, hr, hl, -, b, kb, Xv, A⟩ := id Sx
  refine Own.aloadN W0 d14_0 1 rfl (.ref x) rfl rfl ?_
  refine Own.callV W0 (tw hw 67 rfl) (tw hw 68 rfl) (fun s q => notFace_of_selects (args := #[]) (mvT (s := s) q (tw hw 70 rfl))) (tw hw 70 rfl) (tw hw 69 rfl) (by decide) (argsL := []) (rest := []) (Own.Con.pay (con_sl0 hw hEL hmem hS hcz W0.old Xc) W0 (tw hw 71 rfl) (tw hw 3 rfl) (len := 3) (wd := 0) (by decide) (by decide) (fun _ q => nomatch q)) Ex rfl (lenOf pd_12 rfl) rfl (lb rfl) d14_1 4 rfl 0 0 (lb rfl) (lb rfl) (lb rfl) (lb rfl) ?_
  intro v1 T1 h1 u1 W1 R1 hq
  obtain ⟨rfl, eh1⟩ := hq
  have ei1 := eh1.symm; subst ei1
  show Own.Go _ _ _ _ _ 4 #[.val (.ref x), .val (.int 0)] [.int 0]
  refine Own.ifYes W1 d14_4 16 (by decide) (by decide) (by decide) ?_
  refine Own.aloadN W1 d14_16 17 rfl (.ref x) rfl rfl ?_
  refine Own.getF W1 (tw hw 20 rfl) Via.refl Xv d14_17 20 rfl ?_
  intro T2 W2
  refine Own.iloadN W2 d14_20 21 rfl 0 rfl ?_
  refine Own.callS W2 (tw hw 113 rfl) (tw hw 114 rfl) (tw hw 54 rfl) (tw hw 115 rfl) (by decide) (argsL := [(.ref b), .int 0]) (rest := []) (Own.Con.pay (con_uch0 hw hEL SF rfm TA TH TL hl W2.old A hr hi rfl) W2 (tw hw 115 rfl) (tw hw 54 rfl) (len := 3) (wd := 0) (by decide) (by decide) (fun _ q => nomatch q)) rfl (lenOf pd_5 rfl) rfl (lb rfl) d14_21 24 rfl 0 0 (lb rfl) (lb rfl) (lb rfl) (lb rfl) ?_
  intro v3 T3 h3 u3 W3 R3 hq
  obtain ⟨rfl, eh3⟩ := hq
  have ei3 := eh3.symm; subst ei3
  show Own.Go _ _ _ _ _ 24 #[.val (.ref x), .val (.int 0)] [(.int (cs.getD 0 0))]
  exact Own.retC W3 (by decide) (by decide) rfl d14_24 (Own.narC (Own.r16At hr hi)) ⟨rfl, rfl⟩
theorem payChU0 {G : Own.Gl} (hw : ∀ d ∈ tables_1, d.before G.a0 G.Z = true) (hEL : EW G.Z G.a0 G.EL) (hmem : (Own.ST, 7) ∈ G.EL) {cz : Int32} (hS : Sta G.Z G.Z.heap Own.ST "COMPACT_STRINGS" "Z" (.int cz)) (hcz : ¬ cz = 0) {fm : Value} (SF : Sta G.Z G.Z.heap "jdk/internal/util/Preconditions" "SIOOBE_FORMATTER" "Ljava/util/function/BiFunction;" fm) (rfm : fm.isRef = true) (TA : Sta G.Z G.Z.heap "java/lang/StringUTF16" "$assertionsDisabled" "Z" (.int 1)) (TH : Sta G.Z G.Z.heap "java/lang/StringUTF16" "HI_BYTE_SHIFT" "I" (.int 0)) (TL : Sta G.Z G.Z.heap "java/lang/StringUTF16" "LO_BYTE_SHIFT" "I" (.int 8)) {X : Own.Rn} {M : Own.Bo} {vm : Vm} {T : State} {h : Heap} {C S : Nat} (W : Own.Here G X M vm T h C S) {x : Addr} {cs : List Int32} (F : Own.Uni G.Z h x cs) (hi : 0 < cs.length) {len wd : Nat} (hf : 5 ≤ M.R.frames) (hlo : wd + 79 ≤ M.R.locals) :
    Own.Pay G X M vm h ⟨"java/lang/String", "charAt", "(I)C"⟩ len wd #[.ref x, .int 0] 0 0 (fun v h' => v = some (.int (cs.getD 0 0)) ∧ h' = h) := by
  rcases F with F | F
  · exact Own.payChr (wC hw) (kI := 4) (tw hw 2 rfl) W F hS hcz SF rfm hi rfl (by omega) (by omega)
  · exact Own.Con.pay (con_wc0 hw hEL hmem hS hcz SF rfm TA TH TL W.old F hi rfl) W (tw hw 66 rfl) (tw hw 3 rfl) hf (by show wd + (2 + 11) + 66 ≤ _; omega) (fun _ q => nomatch q)
set_option maxRecDepth 65536 in
set_option maxHeartbeats 40000000 in
theorem con_gg1 {G : Own.Gl} (hw : ∀ d ∈ tables_1, d.before G.a0 G.Z = true) (hEL : EW G.Z G.a0 G.EL) (TA : Sta G.Z G.Z.heap "java/lang/StringUTF16" "$assertionsDisabled" "Z" (.int 1)) (TH : Sta G.Z G.Z.heap "java/lang/StringUTF16" "HI_BYTE_SHIFT" "I" (.int 0)) (TL : Sta G.Z G.Z.heap "java/lang/StringUTF16" "LO_BYTE_SHIFT" "I" (.int 8)) {b : Addr} {kb : ClassId} {cs : List Int32} (hl : cs.length ≤ 2000) {h : Heap} (hO : Old G.Z G.n0 h) (A : Arv G.Z h b kb .byte (Int32.ofNat (2 * cs.length)) (StrChars.Road.wideBytes cs) (.int 0)) (hr : ∀ c ∈ cs, ¬ c < 0 ∧ ¬ (65535 : Int32) < c) (hi : 1 < cs.length) {ii : Int32} (hii : ii = 1) :
    Own.Con G [] bGg1 #[.ref b, .int ii] h [] (fun v h' => v = some (.int (cs.getD 1 0)) ∧ h' = h) := by
  refine Own.Con.intro (plainFor_of_name pn_0) hO hEL _ (fun m => ef_bGg1 m b ii) ?_
  intro X T0 W0 sf
  subst hii
  refine Own.getS W0 (tw hw 107 rfl) Via.refl (W0.sta TA) d25_0 3 rfl ?_
  intro T1 W1
  refine Own.ifYes W1 d25_3 28 (by decide) (by decide) (by decide) ?_
  refine Own.iloadN W1 d25_28 29 rfl 1 rfl ?_
  refine Own.iconst W1 d25_29 30 rfl 1 rfl ?_
  refine Own.ishl W1 d25_30 31 rfl ?_
  rw [show ((1 : Int32) <<< ((1 : Int32) &&& 31)) = (2 : Int32) by decide]
  refine Own.istoreN W1 d25_31 32 rfl #[.val (.ref b), .val (.int 2)] rfl ?_
  refine Own.aloadN W1 d25_32 33 rfl (.ref b) rfl rfl ?_
  refine Own.iloadN W1 d25_33 34 rfl 2 rfl ?_
  refine Own.iinc W1 d25_34 37 rfl rfl #[.val (.ref b), .val (.int 3)] rfl ?_
  refine Own.baload W1 A ⟨by decide, Own.lt2 (k := 2) (by omega) (by omega)⟩ (.int (StrChars.lo8 (cs.getD 1 0))) (by rw [show (2 : Int32).toNatClampNeg = 2 * 1 by decide]; exact StrChars.Road.wide_lo (.int 0) cs 1 hi) d25_37 38 rfl ?_
  refine Own.sipush W1 d25_38 41 rfl 255 rfl ?_
  refine Own.iand W1 d25_41 42 rfl ?_
  refine Own.getS W1 (tw hw 108 rfl) Via.refl (W1.sta TH) d25_42 45 rfl ?_
  intro T2 W2
  refine Own.ishl W2 d25_45 46 rfl ?_
  refine Own.aloadN W2 d25_46 47 rfl (.ref b) rfl rfl ?_
  refine Own.iloadN W2 d25_47 48 rfl 3 rfl ?_
  refine Own.baload W2 A ⟨by decide, Own.lt2 (k := 3) (by omega) (by omega)⟩ (.int (StrChars.hi8 (cs.getD 1 0))) (by rw [show (3 : Int32).toNatClampNeg = 2 * 1 + 1 by decide]; exact StrChars.Road.wide_hi (.int 0) cs 1 hi) d25_48 49 rfl ?_
  refine Own.sipush W2 d25_49 52 rfl 255 rfl ?_
  refine Own.iand W2 d25_52 53 rfl ?_
  refine Own.getS W2 (tw hw 109 rfl) Via.refl (W2.sta TL) d25_53 56 rfl ?_
  intro T3 W3
  refine Own.ishl W3 d25_56 57 rfl ?_
  refine Own.ior W3 d25_57 58 rfl ?_
  refine Own.i2c W3 d25_58 59 rfl ?_
  show Own.Go _ _ _ _ _ 59 #[.val (.ref b), .val (.int 3)] [.int (StrChars.pairCh (StrChars.lo8 (cs.getD 1 0)) (StrChars.hi8 (cs.getD 1 0)))]
  rw [StrChars.pair_says (Own.r16At hr hi).1 (Own.r16At hr hi).2]
  exact Own.retC W3 (by decide) (by decide) rfl d25_59 (Own.narC (Own.r16At hr hi)) ⟨rfl, rfl⟩
set_option maxRecDepth 65536 in
set_option maxHeartbeats 40000000 in
theorem con_uch1 {G : Own.Gl} (hw : ∀ d ∈ tables_1, d.before G.a0 G.Z = true) (hEL : EW G.Z G.a0 G.EL) {fm : Value} (SF : Sta G.Z G.Z.heap "jdk/internal/util/Preconditions" "SIOOBE_FORMATTER" "Ljava/util/function/BiFunction;" fm) (rfm : fm.isRef = true) (TA : Sta G.Z G.Z.heap "java/lang/StringUTF16" "$assertionsDisabled" "Z" (.int 1)) (TH : Sta G.Z G.Z.heap "java/lang/StringUTF16" "HI_BYTE_SHIFT" "I" (.int 0)) (TL : Sta G.Z G.Z.heap "java/lang/StringUTF16" "LO_BYTE_SHIFT" "I" (.int 8)) {b : Addr} {kb : ClassId} {cs : List Int32} (hl : cs.length ≤ 2000) {h : Heap} (hO : Old G.Z G.n0 h) (A : Arv G.Z h b kb .byte (Int32.ofNat (2 * cs.length)) (StrChars.Road.wideBytes cs) (.int 0)) (hr : ∀ c ∈ cs, ¬ c < 0 ∧ ¬ (65535 : Int32) < c) (hi : 1 < cs.length) {ii : Int32} (hii : ii = 1) :
    Own.Con G [] bUch1 #[.ref b, .int ii] h [] (fun v h' => v = some (.int (cs.getD 1 0)) ∧ h' = h) := by
  refine Own.Con.intro (plainFor_of_name pn_0) hO hEL _ (fun m => ef_bUch1 m b ii) ?_
  intro X T0 W0 sf
  subst hii
  refine Own.iloadN W0 d26_0 1 rfl 1 rfl ?_
  refine Own.aloadN W0 d26_1 2 rfl (.ref b) rfl rfl ?_
  refine Own.callS W0 (tw hw 116 rfl) (tw hw 117 rfl) (tw hw 54 rfl) (tw hw 118 rfl) (by decide) (argsL := [.int 1, (.ref b)]) (rest := []) (Own.Con.pay (con_uci hw hEL SF rfm hl W0.old A (1 : Int32) (by decide) (Own.lt2 (k := 1) hi (by omega))) W0 (tw hw 118 rfl) (tw hw 54 rfl) (len := 3) (wd := 0) (by decide) (by decide) (fun _ q => nomatch q)) rfl (lenOf pd_11 rfl) rfl (lb rfl) d26_2 5 rfl 0 0 (lb rfl) (lb rfl) (lb rfl) (lb rfl) ?_
  intro v1 T1 h1 u1 W1 R1 hq
  obtain ⟨rfl, eh1⟩ := hq
  have ei1 := eh1.symm; subst ei1
  show Own.Go _ _ _ _ _ 5 #[.val (.ref b), .val (.int 1)] []
  refine Own.aloadN W1 d26_5 6 rfl (.ref b) rfl rfl ?_
  refine Own.iloadN W1 d26_6 7 rfl 1 rfl ?_
  refine Own.callS W1 (tw hw 110 rfl) (tw hw 111 rfl) (tw hw 54 rfl) (tw hw 112 rfl) (by decide) (argsL := [(.ref b), .int 1]) (rest := []) (Own.Con.pay (con_gg1 hw hEL TA TH TL hl W1.old A hr hi rfl) W1 (tw hw 112 rfl) (tw hw 54 rfl) (len := 3) (wd := 0) (by decide) (by decide) (fun _ q => nomatch q)) rfl (lenOf pd_5 rfl) rfl (lb rfl) d26_7 10 rfl 0 0 (lb rfl) (lb rfl) (lb rfl) (lb rfl) ?_
  intro v2 T2 h2 u2 W2 R2 hq
  obtain ⟨rfl, eh2⟩ := hq
  have ei2 := eh2.symm; subst ei2
  show Own.Go _ _ _ _ _ 10 #[.val (.ref b), .val (.int 1)] [(.int (cs.getD 1 0))]
  exact Own.retC W2 (by decide) (by decide) rfl d26_10 (Own.narC (Own.r16At hr hi)) ⟨rfl, rfl⟩
set_option maxRecDepth 65536 in
set_option maxHeartbeats 40000000 in
theorem con_wc1 {G : Own.Gl} (hw : ∀ d ∈ tables_1, d.before G.a0 G.Z = true) (hEL : EW G.Z G.a0 G.EL) (hmem : (Own.ST, 7) ∈ G.EL) {cz : Int32} (hS : Sta G.Z G.Z.heap Own.ST "COMPACT_STRINGS" "Z" (.int cz)) (hcz : ¬ cz = 0) {fm : Value} (SF : Sta G.Z G.Z.heap "jdk/internal/util/Preconditions" "SIOOBE_FORMATTER" "Ljava/util/function/BiFunction;" fm) (rfm : fm.isRef = true) (TA : Sta G.Z G.Z.heap "java/lang/StringUTF16" "$assertionsDisabled" "Z" (.int 1)) (TH : Sta G.Z G.Z.heap "java/lang/StringUTF16" "HI_BYTE_SHIFT" "I" (.int 0)) (TL : Sta G.Z G.Z.heap "java/lang/StringUTF16" "LO_BYTE_SHIFT" "I" (.int 8)) {x : Addr} {cs : List Int32} {h : Heap} (hO : Old G.Z G.n0 h) (Sx : Own.WStr G.Z h x cs) (hi : 1 < cs.length) {ii : Int32} (hii : ii = 1) :
    Own.Con G [] bWc1 #[.ref x, .int ii] h [] (fun v h' => v = some (.int (cs.getD 1 0)) ∧ h' = h) := by
  refine Own.Con.intro (plainFor_of_name pn_1) hO hEL _ (fun m => ef_bWc1 m x ii) ?_
  intro X T0 W0 sf
  subst hii
  obtain ⟨Ex, Xc, hr, hl, -, b, kb, Xv, A⟩ := id Sx
  refine Own.aloadN W0 d14_0 1 rfl (.ref x) rfl rfl ?_
  refine Own.callV W0 (tw hw 67 rfl) (tw hw 68 rfl) (fun s q => notFace_of_selects (args := #[]) (mvT (s := s) q (tw hw 70 rfl))) (tw hw 70 rfl) (tw hw 69 rfl) (by decide) (argsL := []) (rest := []) (Own.Con.pay (con_sl0 hw hEL hmem hS hcz W0.old Xc) W0 (tw hw 71 rfl) (tw hw 3 rfl) (len := 3) (wd := 0) (by decide) (by decide) (fun _ q => nomatch q)) Ex rfl (lenOf pd_12 rfl) rfl (lb rfl) d14_1 4 rfl 0 0 (lb rfl) (lb rfl) (lb rfl) (lb rfl) ?_
  intro v1 T1 h1 u1 W1 R1 hq
  obtain ⟨rfl, eh1⟩ := hq
  have ei1 := eh1.symm; subst ei1
  show Own.Go _ _ _ _ _ 4 #[.val (.ref x), .val (.int 1)] [.int 0]
  refine Own.ifYes W1 d14_4 16 (by decide) (by decide) (by decide) ?_
  refine Own.aloadN W1 d14_16 17 rfl (.ref x) rfl rfl ?_
  refine Own.getF W1 (tw hw 20 rfl) Via.refl Xv d14_17 20 rfl ?_
  intro T2 W2
  refine Own.iloadN W2 d14_20 21 rfl 1 rfl ?_
  refine Own.callS W2 (tw hw 113 rfl) (tw hw 114 rfl) (tw hw 54 rfl) (tw hw 115 rfl) (by decide) (argsL := [(.ref b), .int 1]) (rest := []) (Own.Con.pay (con_uch1 hw hEL SF rfm TA TH TL hl W2.old A hr hi rfl) W2 (tw hw 115 rfl) (tw hw 54 rfl) (len := 3) (wd := 0) (by decide) (by decide) (fun _ q => nomatch q)) rfl (lenOf pd_5 rfl) rfl (lb rfl) d14_21 24 rfl 0 0 (lb rfl) (lb rfl) (lb rfl) (lb rfl) ?_
  intro v3 T3 h3 u3 W3 R3 hq
  obtain ⟨rfl, eh3⟩ := hq
  have ei3 := eh3.symm; subst ei3
  show Own.Go _ _ _ _ _ 24 #[.val (.ref x), .val (.int 1)] [(.int (cs.getD 1 0))]
  exact Own.retC W3 (by decide) (by decide) rfl d14_24 (Own.narC (Own.r16At hr hi)) ⟨rfl, rfl⟩
theorem payChU1 {G : Own.Gl} (hw : ∀ d ∈ tables_1, d.before G.a0 G.Z = true) (hEL : EW G.Z G.a0 G.EL) (hmem : (Own.ST, 7) ∈ G.EL) {cz : Int32} (hS : Sta G.Z G.Z.heap Own.ST "COMPACT_STRINGS" "Z" (.int cz)) (hcz : ¬ cz = 0) {fm : Value} (SF : Sta G.Z G.Z.heap "jdk/internal/util/Preconditions" "SIOOBE_FORMATTER" "Ljava/util/function/BiFunction;" fm) (rfm : fm.isRef = true) (TA : Sta G.Z G.Z.heap "java/lang/StringUTF16" "$assertionsDisabled" "Z" (.int 1)) (TH : Sta G.Z G.Z.heap "java/lang/StringUTF16" "HI_BYTE_SHIFT" "I" (.int 0)) (TL : Sta G.Z G.Z.heap "java/lang/StringUTF16" "LO_BYTE_SHIFT" "I" (.int 8)) {X : Own.Rn} {M : Own.Bo} {vm : Vm} {T : State} {h : Heap} {C S : Nat} (W : Own.Here G X M vm T h C S) {x : Addr} {cs : List Int32} (F : Own.Uni G.Z h x cs) (hi : 1 < cs.length) {len wd : Nat} (hf : 5 ≤ M.R.frames) (hlo : wd + 79 ≤ M.R.locals) :
    Own.Pay G X M vm h ⟨"java/lang/String", "charAt", "(I)C"⟩ len wd #[.ref x, .int 1] 0 0 (fun v h' => v = some (.int (cs.getD 1 0)) ∧ h' = h) := by
  rcases F with F | F
  · exact Own.payChr (wC hw) (kI := 4) (tw hw 2 rfl) W F hS hcz SF rfm hi rfl (by omega) (by omega)
  · exact Own.Con.pay (con_wc1 hw hEL hmem hS hcz SF rfm TA TH TL W.old F hi rfl) W (tw hw 66 rfl) (tw hw 3 rfl) hf (by show wd + (2 + 11) + 66 ≤ _; omega) (fun _ q => nomatch q)
set_option maxRecDepth 65536 in
set_option maxHeartbeats 40000000 in
theorem con_gg2 {G : Own.Gl} (hw : ∀ d ∈ tables_1, d.before G.a0 G.Z = true) (hEL : EW G.Z G.a0 G.EL) (TA : Sta G.Z G.Z.heap "java/lang/StringUTF16" "$assertionsDisabled" "Z" (.int 1)) (TH : Sta G.Z G.Z.heap "java/lang/StringUTF16" "HI_BYTE_SHIFT" "I" (.int 0)) (TL : Sta G.Z G.Z.heap "java/lang/StringUTF16" "LO_BYTE_SHIFT" "I" (.int 8)) {b : Addr} {kb : ClassId} {cs : List Int32} (hl : cs.length ≤ 2000) {h : Heap} (hO : Old G.Z G.n0 h) (A : Arv G.Z h b kb .byte (Int32.ofNat (2 * cs.length)) (StrChars.Road.wideBytes cs) (.int 0)) (hr : ∀ c ∈ cs, ¬ c < 0 ∧ ¬ (65535 : Int32) < c) (hi : 2 < cs.length) {ii : Int32} (hii : ii = 2) :
    Own.Con G [] bGg2 #[.ref b, .int ii] h [] (fun v h' => v = some (.int (cs.getD 2 0)) ∧ h' = h) := by
  refine Own.Con.intro (plainFor_of_name pn_0) hO hEL _ (fun m => ef_bGg2 m b ii) ?_
  intro X T0 W0 sf
  subst hii
  refine Own.getS W0 (tw hw 107 rfl) Via.refl (W0.sta TA) d25_0 3 rfl ?_
  intro T1 W1
  refine Own.ifYes W1 d25_3 28 (by decide) (by decide) (by decide) ?_
  refine Own.iloadN W1 d25_28 29 rfl 2 rfl ?_
  refine Own.iconst W1 d25_29 30 rfl 1 rfl ?_
  refine Own.ishl W1 d25_30 31 rfl ?_
  rw [show ((2 : Int32) <<< ((1 : Int32) &&& 31)) = (4 : Int32) by decide]
  refine Own.istoreN W1 d25_31 32 rfl #[.val (.ref b), .val (.int 4)] rfl ?_
  refine Own.aloadN W1 d25_32 33 rfl (.ref b) rfl rfl ?_
  refine Own.iloadN W1 d25_33 34 rfl 4 rfl ?_
  refine Own.iinc W1 d25_34 37 rfl rfl #[.val (.ref b), .val (.int 5)] rfl ?_
  refine Own.baload W1 A ⟨by decide, Own.lt2 (k := 4) (by omega) (by omega)⟩ (.int (StrChars.lo8 (cs.getD 2 0))) (by rw [show (4 : Int32).toNatClampNeg = 2 * 2 by decide]; exact StrChars.Road.wide_lo (.int 0) cs 2 hi) d25_37 38 rfl ?_
  refine Own.sipush W1 d25_38 41 rfl 255 rfl ?_
  refine Own.iand W1 d25_41 42 rfl ?_
  refine Own.getS W1 (tw hw 108 rfl) Via.refl (W1.sta TH) d25_42 45 rfl ?_
  intro T2 W2
  refine Own.ishl W2 d25_45 46 rfl ?_
  refine Own.aloadN W2 d25_46 47 rfl (.ref b) rfl rfl ?_
  refine Own.iloadN W2 d25_47 48 rfl 5 rfl ?_
  refine Own.baload W2 A ⟨by decide, Own.lt2 (k := 5) (by omega) (by omega)⟩ (.int (StrChars.hi8 (cs.getD 2 0))) (by rw [show (5 : Int32).toNatClampNeg = 2 * 2 + 1 by decide]; exact StrChars.Road.wide_hi (.int 0) cs 2 hi) d25_48 49 rfl ?_
  refine Own.sipush W2 d25_49 52 rfl 255 rfl ?_
  refine Own.iand W2 d25_52 53 rfl ?_
  refine Own.getS W2 (tw hw 109 rfl) Via.refl (W2.sta TL) d25_53 56 rfl ?_
  intro T3 W3
  refine Own.ishl W3 d25_56 57 rfl ?_
  refine Own.ior W3 d25_57 58 rfl ?_
  refine Own.i2c W3 d25_58 59 rfl ?_
  show Own.Go _ _ _ _ _ 59 #[.val (.ref b), .val (.int 5)] [.int (StrChars.pairCh (StrChars.lo8 (cs.getD 2 0)) (StrChars.hi8 (cs.getD 2 0)))]
  rw [StrChars.pair_says (Own.r16At hr hi).1 (Own.r16At hr hi).2]
  exact Own.retC W3 (by decide) (by decide) rfl d25_59 (Own.narC (Own.r16At hr hi)) ⟨rfl, rfl⟩
set_option maxRecDepth 65536 in
set_option maxHeartbeats 40000000 in
theorem con_uch2 {G : Own.Gl} (hw : ∀ d ∈ tables_1, d.before G.a0 G.Z = true) (hEL : EW G.Z G.a0 G.EL) {fm : Value} (SF : Sta G.Z G.Z.heap "jdk/internal/util/Preconditions" "SIOOBE_FORMATTER" "Ljava/util/function/BiFunction;" fm) (rfm : fm.isRef = true) (TA : Sta G.Z G.Z.heap "java/lang/StringUTF16" "$assertionsDisabled" "Z" (.int 1)) (TH : Sta G.Z G.Z.heap "java/lang/StringUTF16" "HI_BYTE_SHIFT" "I" (.int 0)) (TL : Sta G.Z G.Z.heap "java/lang/StringUTF16" "LO_BYTE_SHIFT" "I" (.int 8)) {b : Addr} {kb : ClassId} {cs : List Int32} (hl : cs.length ≤ 2000) {h : Heap} (hO : Old G.Z G.n0 h) (A : Arv G.Z h b kb .byte (Int32.ofNat (2 * cs.length)) (StrChars.Road.wideBytes cs) (.int 0)) (hr : ∀ c ∈ cs, ¬ c < 0 ∧ ¬ (65535 : Int32) < c) (hi : 2 < cs.length) {ii : Int32} (hii : ii = 2) :
    Own.Con G [] bUch2 #[.ref b, .int ii] h [] (fun v h' => v = some (.int (cs.getD 2 0)) ∧ h' = h) := by
  refine Own.Con.intro (plainFor_of_name pn_0) hO hEL _ (fun m => ef_bUch2 m b ii) ?_
  intro X T0 W0 sf
  subst hii
  refine Own.iloadN W0 d26_0 1 rfl 2 rfl ?_
  refine Own.aloadN W0 d26_1 2 rfl (.ref b) rfl rfl ?_
  refine Own.callS W0 (tw hw 116 rfl) (tw hw 117 rfl) (tw hw 54 rfl) (tw hw 118 rfl) (by decide) (argsL := [.int 2, (.ref b)]) (rest := []) (Own.Con.pay (con_uci hw hEL SF rfm hl W0.old A (2 : Int32) (by decide) (Own.lt2 (k := 2) hi (by omega))) W0 (tw hw 118 rfl) (tw hw 54 rfl) (len := 3) (wd := 0) (by decide) (by decide) (fun _ q => nomatch q)) rfl (lenOf pd_11 rfl) rfl (lb rfl) d26_2 5 rfl 0 0 (lb rfl) (lb rfl) (lb rfl) (lb rfl) ?_
  intro v1 T1 h1 u1 W1 R1 hq
  obtain ⟨rfl, eh1⟩ := hq
  have ei1 := eh1.symm; subst ei1
  show Own.Go _ _ _ _ _ 5 #[.val (.ref b), .val (.int 2)] []
  refine Own.aloadN W1 d26_5 6 rfl (.ref b) rfl rfl ?_
  refine Own.iloadN W1 d26_6 7 rfl 2 rfl ?_
  refine Own.callS W1 (tw hw 110 rfl) (tw hw 111 rfl) (tw hw 54 rfl) (tw hw 112 rfl) (by decide) (argsL := [(.ref b), .int 2]) (rest := []) (Own.Con.pay (con_gg2 hw hEL TA TH TL hl W1.old A hr hi rfl) W1 (tw hw 112 rfl) (tw hw 54 rfl) (len := 3) (wd := 0) (by decide) (by decide) (fun _ q => nomatch q)) rfl (lenOf pd_5 rfl) rfl (lb rfl) d26_7 10 rfl 0 0 (lb rfl) (lb rfl) (lb rfl) (lb rfl) ?_
  intro v2 T2 h2 u2 W2 R2 hq
  obtain ⟨rfl, eh2⟩ := hq
  have ei2 := eh2.symm; subst ei2
  show Own.Go _ _ _ _ _ 10 #[.val (.ref b), .val (.int 2)] [(.int (cs.getD 2 0))]
  exact Own.retC W2 (by decide) (by decide) rfl d26_10 (Own.narC (Own.r16At hr hi)) ⟨rfl, rfl⟩
set_option maxRecDepth 65536 in
set_option maxHeartbeats 40000000 in
theorem con_wc2 {G : Own.Gl} (hw : ∀ d ∈ tables_1, d.before G.a0 G.Z = true) (hEL : EW G.Z G.a0 G.EL) (hmem : (Own.ST, 7) ∈ G.EL) {cz : Int32} (hS : Sta G.Z G.Z.heap Own.ST "COMPACT_STRINGS" "Z" (.int cz)) (hcz : ¬ cz = 0) {fm : Value} (SF : Sta G.Z G.Z.heap "jdk/internal/util/Preconditions" "SIOOBE_FORMATTER" "Ljava/util/function/BiFunction;" fm) (rfm : fm.isRef = true) (TA : Sta G.Z G.Z.heap "java/lang/StringUTF16" "$assertionsDisabled" "Z" (.int 1)) (TH : Sta G.Z G.Z.heap "java/lang/StringUTF16" "HI_BYTE_SHIFT" "I" (.int 0)) (TL : Sta G.Z G.Z.heap "java/lang/StringUTF16" "LO_BYTE_SHIFT" "I" (.int 8)) {x : Addr} {cs : List Int32} {h : Heap} (hO : Old G.Z G.n0 h) (Sx : Own.WStr G.Z h x cs) (hi : 2 < cs.length) {ii : Int32} (hii : ii = 2) :
    Own.Con G [] bWc2 #[.ref x, .int ii] h [] (fun v h' => v = some (.int (cs.getD 2 0)) ∧ h' = h) := by
  refine Own.Con.intro (plainFor_of_name pn_1) hO hEL _ (fun m => ef_bWc2 m x ii) ?_
  intro X T0 W0 sf
  subst hii
  obtain ⟨Ex, Xc, hr, hl, -, b, kb, Xv, A⟩ := id Sx
  refine Own.aloadN W0 d14_0 1 rfl (.ref x) rfl rfl ?_
  refine Own.callV W0 (tw hw 67 rfl) (tw hw 68 rfl) (fun s q => notFace_of_selects (args := #[]) (mvT (s := s) q (tw hw 70 rfl))) (tw hw 70 rfl) (tw hw 69 rfl) (by decide) (argsL := []) (rest := []) (Own.Con.pay (con_sl0 hw hEL hmem hS hcz W0.old Xc) W0 (tw hw 71 rfl) (tw hw 3 rfl) (len := 3) (wd := 0) (by decide) (by decide) (fun _ q => nomatch q)) Ex rfl (lenOf pd_12 rfl) rfl (lb rfl) d14_1 4 rfl 0 0 (lb rfl) (lb rfl) (lb rfl) (lb rfl) ?_
  intro v1 T1 h1 u1 W1 R1 hq
  obtain ⟨rfl, eh1⟩ := hq
  have ei1 := eh1.symm; subst ei1
  show Own.Go _ _ _ _ _ 4 #[.val (.ref x), .val (.int 2)] [.int 0]
  refine Own.ifYes W1 d14_4 16 (by decide) (by decide) (by decide) ?_
  refine Own.aloadN W1 d14_16 17 rfl (.ref x) rfl rfl ?_
  refine Own.getF W1 (tw hw 20 rfl) Via.refl Xv d14_17 20 rfl ?_
  intro T2 W2
  refine Own.iloadN W2 d14_20 21 rfl 2 rfl ?_
  refine Own.callS W2 (tw hw 113 rfl) (tw hw 114 rfl) (tw hw 54 rfl) (tw hw 115 rfl) (by decide) (argsL := [(.ref b), .int 2]) (rest := []) (Own.Con.pay (con_uch2 hw hEL SF rfm TA TH TL hl W2.old A hr hi rfl) W2 (tw hw 115 rfl) (tw hw 54 rfl) (len := 3) (wd := 0) (by decide) (by decide) (fun _ q => nomatch q)) rfl (lenOf pd_5 rfl) rfl (lb rfl) d14_21 24 rfl 0 0 (lb rfl) (lb rfl) (lb rfl) (lb rfl) ?_
  intro v3 T3 h3 u3 W3 R3 hq
  obtain ⟨rfl, eh3⟩ := hq
  have ei3 := eh3.symm; subst ei3
  show Own.Go _ _ _ _ _ 24 #[.val (.ref x), .val (.int 2)] [(.int (cs.getD 2 0))]
  exact Own.retC W3 (by decide) (by decide) rfl d14_24 (Own.narC (Own.r16At hr hi)) ⟨rfl, rfl⟩
theorem payChU2 {G : Own.Gl} (hw : ∀ d ∈ tables_1, d.before G.a0 G.Z = true) (hEL : EW G.Z G.a0 G.EL) (hmem : (Own.ST, 7) ∈ G.EL) {cz : Int32} (hS : Sta G.Z G.Z.heap Own.ST "COMPACT_STRINGS" "Z" (.int cz)) (hcz : ¬ cz = 0) {fm : Value} (SF : Sta G.Z G.Z.heap "jdk/internal/util/Preconditions" "SIOOBE_FORMATTER" "Ljava/util/function/BiFunction;" fm) (rfm : fm.isRef = true) (TA : Sta G.Z G.Z.heap "java/lang/StringUTF16" "$assertionsDisabled" "Z" (.int 1)) (TH : Sta G.Z G.Z.heap "java/lang/StringUTF16" "HI_BYTE_SHIFT" "I" (.int 0)) (TL : Sta G.Z G.Z.heap "java/lang/StringUTF16" "LO_BYTE_SHIFT" "I" (.int 8)) {X : Own.Rn} {M : Own.Bo} {vm : Vm} {T : State} {h : Heap} {C S : Nat} (W : Own.Here G X M vm T h C S) {x : Addr} {cs : List Int32} (F : Own.Uni G.Z h x cs) (hi : 2 < cs.length) {len wd : Nat} (hf : 5 ≤ M.R.frames) (hlo : wd + 79 ≤ M.R.locals) :
    Own.Pay G X M vm h ⟨"java/lang/String", "charAt", "(I)C"⟩ len wd #[.ref x, .int 2] 0 0 (fun v h' => v = some (.int (cs.getD 2 0)) ∧ h' = h) := by
  rcases F with F | F
  · exact Own.payChr (wC hw) (kI := 4) (tw hw 2 rfl) W F hS hcz SF rfm hi rfl (by omega) (by omega)
  · exact Own.Con.pay (con_wc2 hw hEL hmem hS hcz SF rfm TA TH TL W.old F hi rfl) W (tw hw 66 rfl) (tw hw 3 rfl) hf (by show wd + (2 + 11) + 66 ≤ _; omega) (fun _ q => nomatch q)
set_option maxRecDepth 65536 in
set_option maxHeartbeats 40000000 in
theorem con_gg3 {G : Own.Gl} (hw : ∀ d ∈ tables_1, d.before G.a0 G.Z = true) (hEL : EW G.Z G.a0 G.EL) (TA : Sta G.Z G.Z.heap "java/lang/StringUTF16" "$assertionsDisabled" "Z" (.int 1)) (TH : Sta G.Z G.Z.heap "java/lang/StringUTF16" "HI_BYTE_SHIFT" "I" (.int 0)) (TL : Sta G.Z G.Z.heap "java/lang/StringUTF16" "LO_BYTE_SHIFT" "I" (.int 8)) {b : Addr} {kb : ClassId} {cs : List Int32} (hl : cs.length ≤ 2000) {h : Heap} (hO : Old G.Z G.n0 h) (A : Arv G.Z h b kb .byte (Int32.ofNat (2 * cs.length)) (StrChars.Road.wideBytes cs) (.int 0)) (hr : ∀ c ∈ cs, ¬ c < 0 ∧ ¬ (65535 : Int32) < c) (hi : 3 < cs.length) {ii : Int32} (hii : ii = 3) :
    Own.Con G [] bGg3 #[.ref b, .int ii] h [] (fun v h' => v = some (.int (cs.getD 3 0)) ∧ h' = h) := by
  refine Own.Con.intro (plainFor_of_name pn_0) hO hEL _ (fun m => ef_bGg3 m b ii) ?_
  intro X T0 W0 sf
  subst hii
  refine Own.getS W0 (tw hw 107 rfl) Via.refl (W0.sta TA) d25_0 3 rfl ?_
  intro T1 W1
  refine Own.ifYes W1 d25_3 28 (by decide) (by decide) (by decide) ?_
  refine Own.iloadN W1 d25_28 29 rfl 3 rfl ?_
  refine Own.iconst W1 d25_29 30 rfl 1 rfl ?_
  refine Own.ishl W1 d25_30 31 rfl ?_
  rw [show ((3 : Int32) <<< ((1 : Int32) &&& 31)) = (6 : Int32) by decide]
  refine Own.istoreN W1 d25_31 32 rfl #[.val (.ref b), .val (.int 6)] rfl ?_
  refine Own.aloadN W1 d25_32 33 rfl (.ref b) rfl rfl ?_
  refine Own.iloadN W1 d25_33 34 rfl 6 rfl ?_
  refine Own.iinc W1 d25_34 37 rfl rfl #[.val (.ref b), .val (.int 7)] rfl ?_
  refine Own.baload W1 A ⟨by decide, Own.lt2 (k := 6) (by omega) (by omega)⟩ (.int (StrChars.lo8 (cs.getD 3 0))) (by rw [show (6 : Int32).toNatClampNeg = 2 * 3 by decide]; exact StrChars.Road.wide_lo (.int 0) cs 3 hi) d25_37 38 rfl ?_
  refine Own.sipush W1 d25_38 41 rfl 255 rfl ?_
  refine Own.iand W1 d25_41 42 rfl ?_
  refine Own.getS W1 (tw hw 108 rfl) Via.refl (W1.sta TH) d25_42 45 rfl ?_
  intro T2 W2
  refine Own.ishl W2 d25_45 46 rfl ?_
  refine Own.aloadN W2 d25_46 47 rfl (.ref b) rfl rfl ?_
  refine Own.iloadN W2 d25_47 48 rfl 7 rfl ?_
  refine Own.baload W2 A ⟨by decide, Own.lt2 (k := 7) (by omega) (by omega)⟩ (.int (StrChars.hi8 (cs.getD 3 0))) (by rw [show (7 : Int32).toNatClampNeg = 2 * 3 + 1 by decide]; exact StrChars.Road.wide_hi (.int 0) cs 3 hi) d25_48 49 rfl ?_
  refine Own.sipush W2 d25_49 52 rfl 255 rfl ?_
  refine Own.iand W2 d25_52 53 rfl ?_
  refine Own.getS W2 (tw hw 109 rfl) Via.refl (W2.sta TL) d25_53 56 rfl ?_
  intro T3 W3
  refine Own.ishl W3 d25_56 57 rfl ?_
  refine Own.ior W3 d25_57 58 rfl ?_
  refine Own.i2c W3 d25_58 59 rfl ?_
  show Own.Go _ _ _ _ _ 59 #[.val (.ref b), .val (.int 7)] [.int (StrChars.pairCh (StrChars.lo8 (cs.getD 3 0)) (StrChars.hi8 (cs.getD 3 0)))]
  rw [StrChars.pair_says (Own.r16At hr hi).1 (Own.r16At hr hi).2]
  exact Own.retC W3 (by decide) (by decide) rfl d25_59 (Own.narC (Own.r16At hr hi)) ⟨rfl, rfl⟩
set_option maxRecDepth 65536 in
set_option maxHeartbeats 40000000 in
theorem con_uch3 {G : Own.Gl} (hw : ∀ d ∈ tables_1, d.before G.a0 G.Z = true) (hEL : EW G.Z G.a0 G.EL) {fm : Value} (SF : Sta G.Z G.Z.heap "jdk/internal/util/Preconditions" "SIOOBE_FORMATTER" "Ljava/util/function/BiFunction;" fm) (rfm : fm.isRef = true) (TA : Sta G.Z G.Z.heap "java/lang/StringUTF16" "$assertionsDisabled" "Z" (.int 1)) (TH : Sta G.Z G.Z.heap "java/lang/StringUTF16" "HI_BYTE_SHIFT" "I" (.int 0)) (TL : Sta G.Z G.Z.heap "java/lang/StringUTF16" "LO_BYTE_SHIFT" "I" (.int 8)) {b : Addr} {kb : ClassId} {cs : List Int32} (hl : cs.length ≤ 2000) {h : Heap} (hO : Old G.Z G.n0 h) (A : Arv G.Z h b kb .byte (Int32.ofNat (2 * cs.length)) (StrChars.Road.wideBytes cs) (.int 0)) (hr : ∀ c ∈ cs, ¬ c < 0 ∧ ¬ (65535 : Int32) < c) (hi : 3 < cs.length) {ii : Int32} (hii : ii = 3) :
    Own.Con G [] bUch3 #[.ref b, .int ii] h [] (fun v h' => v = some (.int (cs.getD 3 0)) ∧ h' = h) := by
  refine Own.Con.intro (plainFor_of_name pn_0) hO hEL _ (fun m => ef_bUch3 m b ii) ?_
  intro X T0 W0 sf
  subst hii
  refine Own.iloadN W0 d26_0 1 rfl 3 rfl ?_
  refine Own.aloadN W0 d26_1 2 rfl (.ref b) rfl rfl ?_
  refine Own.callS W0 (tw hw 116 rfl) (tw hw 117 rfl) (tw hw 54 rfl) (tw hw 118 rfl) (by decide) (argsL := [.int 3, (.ref b)]) (rest := []) (Own.Con.pay (con_uci hw hEL SF rfm hl W0.old A (3 : Int32) (by decide) (Own.lt2 (k := 3) hi (by omega))) W0 (tw hw 118 rfl) (tw hw 54 rfl) (len := 3) (wd := 0) (by decide) (by decide) (fun _ q => nomatch q)) rfl (lenOf pd_11 rfl) rfl (lb rfl) d26_2 5 rfl 0 0 (lb rfl) (lb rfl) (lb rfl) (lb rfl) ?_
  intro v1 T1 h1 u1 W1 R1 hq
  obtain ⟨rfl, eh1⟩ := hq
  have ei1 := eh1.symm; subst ei1
  show Own.Go _ _ _ _ _ 5 #[.val (.ref b), .val (.int 3)] []
  refine Own.aloadN W1 d26_5 6 rfl (.ref b) rfl rfl ?_
  refine Own.iloadN W1 d26_6 7 rfl 3 rfl ?_
  refine Own.callS W1 (tw hw 110 rfl) (tw hw 111 rfl) (tw hw 54 rfl) (tw hw 112 rfl) (by decide) (argsL := [(.ref b), .int 3]) (rest := []) (Own.Con.pay (con_gg3 hw hEL TA TH TL hl W1.old A hr hi rfl) W1 (tw hw 112 rfl) (tw hw 54 rfl) (len := 3) (wd := 0) (by decide) (by decide) (fun _ q => nomatch q)) rfl (lenOf pd_5 rfl) rfl (lb rfl) d26_7 10 rfl 0 0 (lb rfl) (lb rfl) (lb rfl) (lb rfl) ?_
  intro v2 T2 h2 u2 W2 R2 hq
  obtain ⟨rfl, eh2⟩ := hq
  have ei2 := eh2.symm; subst ei2
  show Own.Go _ _ _ _ _ 10 #[.val (.ref b), .val (.int 3)] [(.int (cs.getD 3 0))]
  exact Own.retC W2 (by decide) (by decide) rfl d26_10 (Own.narC (Own.r16At hr hi)) ⟨rfl, rfl⟩
set_option maxRecDepth 65536 in
set_option maxHeartbeats 40000000 in
theorem con_wc3 {G : Own.Gl} (hw : ∀ d ∈ tables_1, d.before G.a0 G.Z = true) (hEL : EW G.Z G.a0 G.EL) (hmem : (Own.ST, 7) ∈ G.EL) {cz : Int32} (hS : Sta G.Z G.Z.heap Own.ST "COMPACT_STRINGS" "Z" (.int cz)) (hcz : ¬ cz = 0) {fm : Value} (SF : Sta G.Z G.Z.heap "jdk/internal/util/Preconditions" "SIOOBE_FORMATTER" "Ljava/util/function/BiFunction;" fm) (rfm : fm.isRef = true) (TA : Sta G.Z G.Z.heap "java/lang/StringUTF16" "$assertionsDisabled" "Z" (.int 1)) (TH : Sta G.Z G.Z.heap "java/lang/StringUTF16" "HI_BYTE_SHIFT" "I" (.int 0)) (TL : Sta G.Z G.Z.heap "java/lang/StringUTF16" "LO_BYTE_SHIFT" "I" (.int 8)) {x : Addr} {cs : List Int32} {h : Heap} (hO : Old G.Z G.n0 h) (Sx : Own.WStr G.Z h x cs) (hi : 3 < cs.length) {ii : Int32} (hii : ii = 3) :
    Own.Con G [] bWc3 #[.ref x, .int ii] h [] (fun v h' => v = some (.int (cs.getD 3 0)) ∧ h' = h) := by
  refine Own.Con.intro (plainFor_of_name pn_1) hO hEL _ (fun m => ef_bWc3 m x ii) ?_
  intro X T0 W0 sf
  subst hii
  obtain ⟨Ex, Xc, hr, hl, -, b, kb, Xv, A⟩ := id Sx
  refine Own.aloadN W0 d14_0 1 rfl (.ref x) rfl rfl ?_
  refine Own.callV W0 (tw hw 67 rfl) (tw hw 68 rfl) (fun s q => notFace_of_selects (args := #[]) (mvT (s := s) q (tw hw 70 rfl))) (tw hw 70 rfl) (tw hw 69 rfl) (by decide) (argsL := []) (rest := []) (Own.Con.pay (con_sl0 hw hEL hmem hS hcz W0.old Xc) W0 (tw hw 71 rfl) (tw hw 3 rfl) (len := 3) (wd := 0) (by decide) (by decide) (fun _ q => nomatch q)) Ex rfl (lenOf pd_12 rfl) rfl (lb rfl) d14_1 4 rfl 0 0 (lb rfl) (lb rfl) (lb rfl) (lb rfl) ?_
  intro v1 T1 h1 u1 W1 R1 hq
  obtain ⟨rfl, eh1⟩ := hq
  have ei1 := eh1.symm; subst ei1
  show Own.Go _ _ _ _ _ 4 #[.val (.ref x), .val (.int 3)] [.int 0]
  refine Own.ifYes W1 d14_4 16 (by decide) (by decide) (by decide) ?_
  refine Own.aloadN W1 d14_16 17 rfl (.ref x) rfl rfl ?_
  refine Own.getF W1 (tw hw 20 rfl) Via.refl Xv d14_17 20 rfl ?_
  intro T2 W2
  refine Own.iloadN W2 d14_20 21 rfl 3 rfl ?_
  refine Own.callS W2 (tw hw 113 rfl) (tw hw 114 rfl) (tw hw 54 rfl) (tw hw 115 rfl) (by decide) (argsL := [(.ref b), .int 3]) (rest := []) (Own.Con.pay (con_uch3 hw hEL SF rfm TA TH TL hl W2.old A hr hi rfl) W2 (tw hw 115 rfl) (tw hw 54 rfl) (len := 3) (wd := 0) (by decide) (by decide) (fun _ q => nomatch q)) rfl (lenOf pd_5 rfl) rfl (lb rfl) d14_21 24 rfl 0 0 (lb rfl) (lb rfl) (lb rfl) (lb rfl) ?_
  intro v3 T3 h3 u3 W3 R3 hq
  obtain ⟨rfl, eh3⟩ := hq
  have ei3 := eh3.symm; subst ei3
  show Own.Go _ _ _ _ _ 24 #[.val (.ref x), .val (.int 3)] [(.int (cs.getD 3 0))]
  exact Own.retC W3 (by decide) (by decide) rfl d14_24 (Own.narC (Own.r16At hr hi)) ⟨rfl, rfl⟩
theorem payChU3 {G : Own.Gl} (hw : ∀ d ∈ tables_1, d.before G.a0 G.Z = true) (hEL : EW G.Z G.a0 G.EL) (hmem : (Own.ST, 7) ∈ G.EL) {cz : Int32} (hS : Sta G.Z G.Z.heap Own.ST "COMPACT_STRINGS" "Z" (.int cz)) (hcz : ¬ cz = 0) {fm : Value} (SF : Sta G.Z G.Z.heap "jdk/internal/util/Preconditions" "SIOOBE_FORMATTER" "Ljava/util/function/BiFunction;" fm) (rfm : fm.isRef = true) (TA : Sta G.Z G.Z.heap "java/lang/StringUTF16" "$assertionsDisabled" "Z" (.int 1)) (TH : Sta G.Z G.Z.heap "java/lang/StringUTF16" "HI_BYTE_SHIFT" "I" (.int 0)) (TL : Sta G.Z G.Z.heap "java/lang/StringUTF16" "LO_BYTE_SHIFT" "I" (.int 8)) {X : Own.Rn} {M : Own.Bo} {vm : Vm} {T : State} {h : Heap} {C S : Nat} (W : Own.Here G X M vm T h C S) {x : Addr} {cs : List Int32} (F : Own.Uni G.Z h x cs) (hi : 3 < cs.length) {len wd : Nat} (hf : 5 ≤ M.R.frames) (hlo : wd + 79 ≤ M.R.locals) :
    Own.Pay G X M vm h ⟨"java/lang/String", "charAt", "(I)C"⟩ len wd #[.ref x, .int 3] 0 0 (fun v h' => v = some (.int (cs.getD 3 0)) ∧ h' = h) := by
  rcases F with F | F
  · exact Own.payChr (wC hw) (kI := 4) (tw hw 2 rfl) W F hS hcz SF rfm hi rfl (by omega) (by omega)
  · exact Own.Con.pay (con_wc3 hw hEL hmem hS hcz SF rfm TA TH TL W.old F hi rfl) W (tw hw 66 rfl) (tw hw 3 rfl) hf (by show wd + (2 + 11) + 66 ≤ _; omega) (fun _ q => nomatch q)
set_option maxRecDepth 65536 in
set_option maxHeartbeats 40000000 in
theorem con_ih {G : Own.Gl} (hw : ∀ d ∈ tables_1, d.before G.a0 G.Z = true) (hEL : EW G.Z G.a0 G.EL) (ch : Int32) {h : Heap} (hO : Old G.Z G.n0 h) :
    Own.Con G [] b_ih #[.int ch] h [] (fun v h' => v = some (.int (b2i (hB ch))) ∧ h' = h) := by
  refine Own.Con.intro (plainFor_of_name pn_3) hO hEL _ (fun m => ef_b_ih m ch) ?_
  intro X T0 W0 sf
  refine Own.iloadN W0 d19_0 1 rfl ch rfl ?_
  refine Own.ldcI W0 (tw hw 88 rfl) d19_1 3 rfl ?_
  by_cases e0 : ch < (55296 : Int32)
  · skip
    refine Own.icmpYes W0 d19_3 16 (XT.ii_lt_t e0) (by decide) (by decide) ?_
    refine Own.iconst W0 d19_16 17 rfl 0 rfl ?_
    exact Own.retB W0 (by decide) (by decide) rfl d19_17 rfl ⟨by rw [b2i_f (by simp [hB, e0])], rfl⟩
  · skip
    refine Own.icmpNo W0 d19_3 6 (XT.ii_lt_f e0) rfl ?_
    refine Own.iloadN W0 d19_6 7 rfl ch rfl ?_
    refine Own.ldcI W0 (tw hw 123 rfl) d19_7 9 rfl ?_
    by_cases e1 : ch < (56320 : Int32)
    · skip
      refine Own.icmpNo W0 d19_9 12 (XT.ii_ge_f e1) rfl ?_
      refine Own.iconst W0 d19_12 13 rfl 1 rfl ?_
      refine Own.goto W0 d19_13 17 (by decide) (by decide) ?_
      exact Own.retB W0 (by decide) (by decide) rfl d19_17 rfl ⟨by rw [b2i_t (by simp [hB, e0, e1])], rfl⟩
    · skip
      refine Own.icmpYes W0 d19_9 16 (XT.ii_ge_t e1) (by decide) (by decide) ?_
      refine Own.iconst W0 d19_16 17 rfl 0 rfl ?_
      exact Own.retB W0 (by decide) (by decide) rfl d19_17 rfl ⟨by rw [b2i_f (by simp [hB, e0, e1])], rfl⟩
set_option maxRecDepth 65536 in
set_option maxHeartbeats 40000000 in
theorem con_il {G : Own.Gl} (hw : ∀ d ∈ tables_1, d.before G.a0 G.Z = true) (hEL : EW G.Z G.a0 G.EL) (ch : Int32) {h : Heap} (hO : Old G.Z G.n0 h) :
    Own.Con G [] b_il #[.int ch] h [] (fun v h' => v = some (.int (b2i (lB ch))) ∧ h' = h) := by
  refine Own.Con.intro (plainFor_of_name pn_3) hO hEL _ (fun m => ef_b_il m ch) ?_
  intro X T0 W0 sf
  refine Own.iloadN W0 d29_0 1 rfl ch rfl ?_
  refine Own.ldcI W0 (tw hw 123 rfl) d29_1 3 rfl ?_
  by_cases e0 : ch < (56320 : Int32)
  · skip
    refine Own.icmpYes W0 d29_3 16 (XT.ii_lt_t e0) (by decide) (by decide) ?_
    refine Own.iconst W0 d29_16 17 rfl 0 rfl ?_
    exact Own.retB W0 (by decide) (by decide) rfl d29_17 rfl ⟨by rw [b2i_f (by simp [lB, e0])], rfl⟩
  · skip
    refine Own.icmpNo W0 d29_3 6 (XT.ii_lt_f e0) rfl ?_
    refine Own.iloadN W0 d29_6 7 rfl ch rfl ?_
    refine Own.ldcI W0 (tw hw 124 rfl) d29_7 9 rfl ?_
    by_cases e1 : ch < (57344 : Int32)
    · skip
      refine Own.icmpNo W0 d29_9 12 (XT.ii_ge_f e1) rfl ?_
      refine Own.iconst W0 d29_12 13 rfl 1 rfl ?_
      refine Own.goto W0 d29_13 17 (by decide) (by decide) ?_
      exact Own.retB W0 (by decide) (by decide) rfl d29_17 rfl ⟨by rw [b2i_t (by simp [lB, e0, e1])], rfl⟩
    · skip
      refine Own.icmpYes W0 d29_9 16 (XT.ii_ge_t e1) (by decide) (by decide) ?_
      refine Own.iconst W0 d29_16 17 rfl 0 rfl ?_
      exact Own.retB W0 (by decide) (by decide) rfl d29_17 rfl ⟨by rw [b2i_f (by simp [lB, e0, e1])], rfl⟩
set_option maxRecDepth 65536 in
set_option maxHeartbeats 40000000 in
theorem con_isu {G : Own.Gl} (hw : ∀ d ∈ tables_1, d.before G.a0 G.Z = true) (hEL : EW G.Z G.a0 G.EL) (ch : Int32) {h : Heap} (hO : Old G.Z G.n0 h) :
    Own.Con G [] b_isu #[.int ch] h [] (fun v h' => v = some (.int (b2i (sB ch))) ∧ h' = h) := by
  refine Own.Con.intro (plainFor_of_name pn_3) hO hEL _ (fun m => ef_b_isu m ch) ?_
  intro X T0 W0 sf
  refine Own.iloadN W0 d20_0 1 rfl ch rfl ?_
  refine Own.ldcI W0 (tw hw 88 rfl) d20_1 3 rfl ?_
  by_cases e0 : ch < (55296 : Int32)
  · skip
    refine Own.icmpYes W0 d20_3 16 (XT.ii_lt_t e0) (by decide) (by decide) ?_
    refine Own.iconst W0 d20_16 17 rfl 0 rfl ?_
    exact Own.retB W0 (by decide) (by decide) rfl d20_17 rfl ⟨by rw [b2i_f (by simp [sB, e0])], rfl⟩
  · skip
    refine Own.icmpNo W0 d20_3 6 (XT.ii_lt_f e0) rfl ?_
    refine Own.iloadN W0 d20_6 7 rfl ch rfl ?_
    refine Own.ldcI W0 (tw hw 124 rfl) d20_7 9 rfl ?_
    by_cases e1 : ch < (57344 : Int32)
    · skip
      refine Own.icmpNo W0 d20_9 12 (XT.ii_ge_f e1) rfl ?_
      refine Own.iconst W0 d20_12 13 rfl 1 rfl ?_
      refine Own.goto W0 d20_13 17 (by decide) (by decide) ?_
      exact Own.retB W0 (by decide) (by decide) rfl d20_17 rfl ⟨by rw [b2i_t (by simp [sB, e0, e1])], rfl⟩
    · skip
      refine Own.icmpYes W0 d20_9 16 (XT.ii_ge_t e1) (by decide) (by decide) ?_
      refine Own.iconst W0 d20_16 17 rfl 0 rfl ?_
      exact Own.retB W0 (by decide) (by decide) rfl d20_17 rfl ⟨by rw [b2i_f (by simp [sB, e0, e1])], rfl⟩
set_option maxRecDepth 65536 in
set_option maxHeartbeats 40000000 in
theorem con_hi {G : Own.Gl} (hw : ∀ d ∈ tables_1, d.before G.a0 G.Z = true) (hEL : EW G.Z G.a0 G.EL) (ch : Int32) {h : Heap} (hO : Old G.Z G.n0 h) :
    Own.Con G [] b_hi #[.int ch] h [] (fun v h' => v = some (.int (b2i (hB ch))) ∧ h' = h) := by
  refine Own.Con.intro (plainFor_of_name pn_4) hO hEL _ (fun m => ef_b_hi m ch) ?_
  intro X T0 W0 sf
  refine Own.iloadN W0 d9_0 1 rfl ch rfl ?_
  refine Own.ldcI W0 (tw hw 47 rfl) d9_1 3 rfl ?_
  by_cases e0 : ch < (55296 : Int32)
  · skip
    refine Own.icmpYes W0 d9_3 16 (XT.ii_lt_t e0) (by decide) (by decide) ?_
    refine Own.iconst W0 d9_16 17 rfl 0 rfl ?_
    exact Own.retB W0 (by decide) (by decide) rfl d9_17 rfl ⟨by rw [b2i_f (by simp [hB, e0])], rfl⟩
  · skip
    refine Own.icmpNo W0 d9_3 6 (XT.ii_lt_f e0) rfl ?_
    refine Own.iloadN W0 d9_6 7 rfl ch rfl ?_
    refine Own.ldcI W0 (tw hw 92 rfl) d9_7 9 rfl ?_
    by_cases e1 : (56319 : Int32) < ch
    · skip
      refine Own.icmpYes W0 d9_9 16 (XT.ii_gt_t e1) (by decide) (by decide) ?_
      refine Own.iconst W0 d9_16 17 rfl 0 rfl ?_
      have e2 : ¬ ch < 56320 := (gtH ch).mp e1
      exact Own.retB W0 (by decide) (by decide) rfl d9_17 rfl ⟨by rw [b2i_f (by simp [hB, e0, e2])], rfl⟩
    · skip
      refine Own.icmpNo W0 d9_9 12 (XT.ii_gt_f e1) rfl ?_
      refine Own.iconst W0 d9_12 13 rfl 1 rfl ?_
      refine Own.goto W0 d9_13 17 (by decide) (by decide) ?_
      have e2 : ch < 56320 := Decidable.not_not.mp (fun q => e1 ((gtH ch).mpr q))
      exact Own.retB W0 (by decide) (by decide) rfl d9_17 rfl ⟨by rw [b2i_t (by simp [hB, e0, e2])], rfl⟩
set_option maxRecDepth 65536 in
set_option maxHeartbeats 40000000 in
theorem con_lo {G : Own.Gl} (hw : ∀ d ∈ tables_1, d.before G.a0 G.Z = true) (hEL : EW G.Z G.a0 G.EL) (ch : Int32) {h : Heap} (hO : Old G.Z G.n0 h) :
    Own.Con G [] b_lo #[.int ch] h [] (fun v h' => v = some (.int (b2i (lB ch))) ∧ h' = h) := by
  refine Own.Con.intro (plainFor_of_name pn_4) hO hEL _ (fun m => ef_b_lo m ch) ?_
  intro X T0 W0 sf
  refine Own.iloadN W0 d10_0 1 rfl ch rfl ?_
  refine Own.ldcI W0 (tw hw 51 rfl) d10_1 3 rfl ?_
  by_cases e0 : ch < (56320 : Int32)
  · skip
    refine Own.icmpYes W0 d10_3 16 (XT.ii_lt_t e0) (by decide) (by decide) ?_
    refine Own.iconst W0 d10_16 17 rfl 0 rfl ?_
    exact Own.retB W0 (by decide) (by decide) rfl d10_17 rfl ⟨by rw [b2i_f (by simp [lB, e0])], rfl⟩
  · skip
    refine Own.icmpNo W0 d10_3 6 (XT.ii_lt_f e0) rfl ?_
    refine Own.iloadN W0 d10_6 7 rfl ch rfl ?_
    refine Own.ldcI W0 (tw hw 93 rfl) d10_7 9 rfl ?_
    by_cases e1 : (57343 : Int32) < ch
    · skip
      refine Own.icmpYes W0 d10_9 16 (XT.ii_gt_t e1) (by decide) (by decide) ?_
      refine Own.iconst W0 d10_16 17 rfl 0 rfl ?_
      have e2 : ¬ ch < 57344 := (gtL ch).mp e1
      exact Own.retB W0 (by decide) (by decide) rfl d10_17 rfl ⟨by rw [b2i_f (by simp [lB, e0, e2])], rfl⟩
    · skip
      refine Own.icmpNo W0 d10_9 12 (XT.ii_gt_f e1) rfl ?_
      refine Own.iconst W0 d10_12 13 rfl 1 rfl ?_
      refine Own.goto W0 d10_13 17 (by decide) (by decide) ?_
      have e2 : ch < 57344 := Decidable.not_not.mp (fun q => e1 ((gtL ch).mpr q))
      exact Own.retB W0 (by decide) (by decide) rfl d10_17 rfl ⟨by rw [b2i_t (by simp [lB, e0, e2])], rfl⟩
set_option maxRecDepth 65536 in
set_option maxHeartbeats 40000000 in
theorem con_una0 {G : Own.Gl} (hw : ∀ d ∈ tables_1, d.before G.a0 G.Z = true) (hEL : EW G.Z G.a0 G.EL) (hmem : (Own.ST, 7) ∈ G.EL) {cz : Int32} (hS : Sta G.Z G.Z.heap Own.ST "COMPACT_STRINGS" "Z" (.int cz)) (hcz : ¬ cz = 0) {fm : Value} (SF : Sta G.Z G.Z.heap "jdk/internal/util/Preconditions" "SIOOBE_FORMATTER" "Ljava/util/function/BiFunction;" fm) (rfm : fm.isRef = true) (TA : Sta G.Z G.Z.heap "java/lang/StringUTF16" "$assertionsDisabled" "Z" (.int 1)) (TH : Sta G.Z G.Z.heap "java/lang/StringUTF16" "HI_BYTE_SHIFT" "I" (.int 0)) (TL : Sta G.Z G.Z.heap "java/lang/StringUTF16" "LO_BYTE_SHIFT" "I" (.int 8)) {st : Int32} (hst : st = 0) {x : Addr} {h : Heap} (hO : Old G.Z G.n0 h) (Sx : Own.Uni G.Z h x []) :
    Own.Con G [] bUna0 #[.ref x, .int st] h [] (fun v h' => ((v = some (.int (-1)) ∧ uns [] = true) ∨ (∃ j : Int32, v = some (.int j) ∧ ¬ j < 0 ∧ uns [] = false)) ∧ h' = h) := by
  refine Own.Con.intro (plainFor_of_name pn_5) hO hEL _ (fun m => ef_bUna0 m x st) ?_
  intro X T0 W0 sf
  subst hst
  have Ex := Sx.exa
  refine Own.iloadN W0 d5_0 1 rfl 0 rfl ?_
  refine Own.istoreN W0 d5_1 2 rfl #[.val (.ref x), .val (.int 0), .val (.int 0), .unset, .unset] rfl ?_
  have hu0 : uns [] = uns [] := rfl
  refine Own.iloadN W0 d5_2 3 rfl 0 rfl ?_
  refine Own.aloadN W0 d5_3 4 rfl (.ref x) rfl rfl ?_
  refine Own.callV W0 (tw hw 29 rfl) (tw hw 30 rfl) (fun s q => notFace_of_selects (args := #[]) (mvT (s := s) q (tw hw 32 rfl))) (tw hw 32 rfl) (tw hw 31 rfl) (by decide) (argsL := []) (rest := [.int 0]) (Own.payLenU (wL hw) (kI := 4) (tw hw 2 rfl) W0 Sx hS hcz (len := 3) (wd := 1) (by decide) (by decide)) Ex rfl (lenOf pd_13 rfl) rfl (lb rfl) d5_4 7 rfl 0 0 (lb rfl) (lb rfl) (lb rfl) (lb rfl) ?_
  intro v1 T1 h1 u1 W1 R1 hq
  obtain ⟨rfl, eh1⟩ := hq
  have ei1 := eh1.symm; subst ei1
  show Own.Go _ _ _ _ _ 7 #[.val (.ref x), .val (.int 0), .val (.int 0), .unset, .unset] [.int 0, .int 0]
  refine Own.icmpYes W1 d5_7 83 (by decide) (by decide) (by decide) ?_
  refine Own.iconst W1 d5_83 84 rfl (-1 : Int32) rfl ?_
  exact Own.retI W1 (by decide) (by decide) rfl d5_84 ⟨Or.inl ⟨rfl, hu0.trans rfl⟩, rfl⟩
set_option maxRecDepth 65536 in
set_option maxHeartbeats 40000000 in
theorem con_una1 {G : Own.Gl} (hw : ∀ d ∈ tables_1, d.before G.a0 G.Z = true) (hEL : EW G.Z G.a0 G.EL) (hmem : (Own.ST, 7) ∈ G.EL) {cz : Int32} (hS : Sta G.Z G.Z.heap Own.ST "COMPACT_STRINGS" "Z" (.int cz)) (hcz : ¬ cz = 0) {fm : Value} (SF : Sta G.Z G.Z.heap "jdk/internal/util/Preconditions" "SIOOBE_FORMATTER" "Ljava/util/function/BiFunction;" fm) (rfm : fm.isRef = true) (TA : Sta G.Z G.Z.heap "java/lang/StringUTF16" "$assertionsDisabled" "Z" (.int 1)) (TH : Sta G.Z G.Z.heap "java/lang/StringUTF16" "HI_BYTE_SHIFT" "I" (.int 0)) (TL : Sta G.Z G.Z.heap "java/lang/StringUTF16" "LO_BYTE_SHIFT" "I" (.int 8)) {ch0 : Int32} {st : Int32} (hst : st = 0) {x : Addr} {h : Heap} (hO : Old G.Z G.n0 h) (Sx : Own.Uni G.Z h x [ch0]) :
    Own.Con G [] bUna1 #[.ref x, .int st] h [] (fun v h' => ((v = some (.int (-1)) ∧ uns [ch0] = true) ∨ (∃ j : Int32, v = some (.int j) ∧ ¬ j < 0 ∧ uns [ch0] = false)) ∧ h' = h) := by
  refine Own.Con.intro (plainFor_of_name pn_5) hO hEL _ (fun m => ef_bUna1 m x st) ?_
  intro X T0 W0 sf
  subst hst
  have Ex := Sx.exa
  refine Own.iloadN W0 d5_0 1 rfl 0 rfl ?_
  refine Own.istoreN W0 d5_1 2 rfl #[.val (.ref x), .val (.int 0), .val (.int 0), .unset, .unset] rfl ?_
  have J1 : ∀ (vJ1 : Vm) (TJ1 : State) (a_ : Int32) (b_ : Int32), Own.Here G X bUna1 vJ1 TJ1 h 0 0 → uns [ch0] = uns [] → Own.Go G X bUna1 (fun v h' => ((v = some (.int (-1)) ∧ uns [ch0] = true) ∨ (∃ j : Int32, v = some (.int j) ∧ ¬ j < 0 ∧ uns [ch0] = false)) ∧ h' = h) TJ1 2 #[.val (.ref x), .val (.int 0), .val (.int 1), .val (.int a_), .val (.int b_)] [] := by
    intro vJ1 TJ1 a_ b_ WJ1 hu
    refine Own.iloadN WJ1 d5_2 3 rfl 1 rfl ?_
    refine Own.aloadN WJ1 d5_3 4 rfl (.ref x) rfl rfl ?_
    refine Own.callV WJ1 (tw hw 29 rfl) (tw hw 30 rfl) (fun s q => notFace_of_selects (args := #[]) (mvT (s := s) q (tw hw 32 rfl))) (tw hw 32 rfl) (tw hw 31 rfl) (by decide) (argsL := []) (rest := [.int 1]) (Own.payLenU (wL hw) (kI := 4) (tw hw 2 rfl) WJ1 Sx hS hcz (len := 3) (wd := 1) (by decide) (by decide)) Ex rfl (lenOf pd_13 rfl) rfl (lb rfl) d5_4 7 rfl 0 0 (lb rfl) (lb rfl) (lb rfl) (lb rfl) ?_
    intro v1 T1 h1 u1 W1 R1 hq
    obtain ⟨rfl, eh1⟩ := hq
    have ei1 := eh1.symm; subst ei1
    show Own.Go _ _ _ _ _ 7 #[.val (.ref x), .val (.int 0), .val (.int 1), .val (.int a_), .val (.int b_)] [.int 1, .int 1]
    refine Own.icmpYes W1 d5_7 83 (by decide) (by decide) (by decide) ?_
    refine Own.iconst W1 d5_83 84 rfl (-1 : Int32) rfl ?_
    exact Own.retI W1 (by decide) (by decide) rfl d5_84 ⟨Or.inl ⟨rfl, hu.trans rfl⟩, rfl⟩
  have hu0 : uns [ch0] = uns [ch0] := rfl
  refine Own.iloadN W0 d5_2 3 rfl 0 rfl ?_
  refine Own.aloadN W0 d5_3 4 rfl (.ref x) rfl rfl ?_
  refine Own.callV W0 (tw hw 29 rfl) (tw hw 30 rfl) (fun s q => notFace_of_selects (args := #[]) (mvT (s := s) q (tw hw 32 rfl))) (tw hw 32 rfl) (tw hw 31 rfl) (by decide) (argsL := []) (rest := [.int 0]) (Own.payLenU (wL hw) (kI := 4) (tw hw 2 rfl) W0 Sx hS hcz (len := 3) (wd := 1) (by decide) (by decide)) Ex rfl (lenOf pd_13 rfl) rfl (lb rfl) d5_4 7 rfl 0 0 (lb rfl) (lb rfl) (lb rfl) (lb rfl) ?_
  intro v2 T2 h2 u2 W2 R2 hq
  obtain ⟨rfl, eh2⟩ := hq
  have ei2 := eh2.symm; subst ei2
  show Own.Go _ _ _ _ _ 7 #[.val (.ref x), .val (.int 0), .val (.int 0), .unset, .unset] [.int 1, .int 0]
  refine Own.icmpNo W2 d5_7 10 (by decide) rfl ?_
  refine Own.aloadN W2 d5_10 11 rfl (.ref x) rfl rfl ?_
  refine Own.iloadN W2 d5_11 12 rfl 0 rfl ?_
  refine Own.callV W2 (tw hw 62 rfl) (tw hw 63 rfl) (fun s q => notFace_of_selects (args := #[]) (mvT (s := s) q (tw hw 65 rfl))) (tw hw 65 rfl) (tw hw 64 rfl) (by decide) (argsL := [.int 0]) (rest := []) (payChU0 hw hEL hmem hS hcz SF rfm TA TH TL W2 Sx (lb rfl) (len := 3) (wd := 0) (by decide) (by decide)) Ex rfl (lenOf pd_14 rfl) rfl (lb rfl) d5_12 15 rfl 0 0 (lb rfl) (lb rfl) (lb rfl) (lb rfl) ?_
  intro v3 T3 h3 u3 W3 R3 hq
  obtain ⟨rfl, eh3⟩ := hq
  have ei3 := eh3.symm; subst ei3
  show Own.Go _ _ _ _ _ 15 #[.val (.ref x), .val (.int 0), .val (.int 0), .unset, .unset] [(.int ch0)]
  refine Own.istoreN W3 d5_15 16 rfl #[.val (.ref x), .val (.int 0), .val (.int 0), .val (.int ch0), .unset] rfl ?_
  refine Own.iloadN W3 d5_16 17 rfl ch0 rfl ?_
  refine Own.callS W3 (tw hw 84 rfl) (tw hw 85 rfl) (tw hw 86 rfl) (tw hw 87 rfl) (by decide) (argsL := [(.int ch0)]) (rest := []) (Own.Con.pay (con_ih hw hEL ch0 W3.old) W3 (tw hw 87 rfl) (tw hw 86 rfl) (len := 3) (wd := 0) (by decide) (by decide) (fun _ q => nomatch q)) rfl (lenOf pd_15 rfl) rfl (lb rfl) d5_17 20 rfl 0 0 (lb rfl) (lb rfl) (lb rfl) (lb rfl) ?_
  intro v4 T4 h4 u4 W4 R4 hq
  obtain ⟨rfl, eh4⟩ := hq
  have ei4 := eh4.symm; subst ei4
  by_cases hH : hB ch0 = true
  · skip
    rw [b2i_t hH]
    show Own.Go _ _ _ _ _ 20 #[.val (.ref x), .val (.int 0), .val (.int 0), .val (.int ch0), .unset] [.int 1]
    refine Own.ifNo W4 d5_20 23 (by decide) rfl ?_
    refine Own.iloadN W4 d5_23 24 rfl 0 rfl ?_
    refine Own.iconst W4 d5_24 25 rfl 1 rfl ?_
    refine Own.iadd W4 d5_25 26 rfl ?_
    refine Own.aloadN W4 d5_26 27 rfl (.ref x) rfl rfl ?_
    refine Own.callV W4 (tw hw 29 rfl) (tw hw 30 rfl) (fun s q => notFace_of_selects (args := #[]) (mvT (s := s) q (tw hw 32 rfl))) (tw hw 32 rfl) (tw hw 31 rfl) (by decide) (argsL := []) (rest := [.int 1]) (Own.payLenU (wL hw) (kI := 4) (tw hw 2 rfl) W4 Sx hS hcz (len := 3) (wd := 1) (by decide) (by decide)) Ex rfl (lenOf pd_13 rfl) rfl (lb rfl) d5_27 30 rfl 0 0 (lb rfl) (lb rfl) (lb rfl) (lb rfl) ?_
    intro v5 T5 h5 u5 W5 R5 hq
    obtain ⟨rfl, eh5⟩ := hq
    have ei5 := eh5.symm; subst ei5
    show Own.Go _ _ _ _ _ 30 #[.val (.ref x), .val (.int 0), .val (.int 0), .val (.int ch0), .unset] [.int 1, .int 1]
    refine Own.icmpYes W5 d5_30 50 (by decide) (by decide) (by decide) ?_
    refine Own.iconst W5 d5_50 51 rfl 0 rfl ?_
    refine Own.istore W5 d5_51 53 rfl #[.val (.ref x), .val (.int 0), .val (.int 0), .val (.int ch0), .val (.int 0)] rfl ?_
    refine Own.iload W5 d5_53 55 rfl 0 rfl ?_
    refine Own.ifYes W5 d5_55 64 (by decide) (by decide) (by decide) ?_
    refine Own.iloadN W5 d5_64 65 rfl ch0 rfl ?_
    by_cases hz : ch0 = (0 : Int32)
    · skip
      refine Own.ifYes W5 d5_65 75 (XT.i0_eq_t hz) (by decide) (by decide) ?_
      refine Own.iloadN W5 d5_75 76 rfl 0 rfl ?_
      exact Own.retI W5 (by decide) (by decide) rfl d5_76 ⟨Or.inr ⟨_, rfl, by decide, hu0.trans (uns_bad1 (Or.inl hz))⟩, rfl⟩
    · skip
      refine Own.ifNo W5 d5_65 68 (XT.i0_eq_f hz) rfl ?_
      refine Own.iloadN W5 d5_68 69 rfl ch0 rfl ?_
      refine Own.callS W5 (tw hw 89 rfl) (tw hw 90 rfl) (tw hw 86 rfl) (tw hw 91 rfl) (by decide) (argsL := [(.int ch0)]) (rest := []) (Own.Con.pay (con_isu hw hEL ch0 W5.old) W5 (tw hw 91 rfl) (tw hw 86 rfl) (len := 3) (wd := 0) (by decide) (by decide) (fun _ q => nomatch q)) rfl (lenOf pd_15 rfl) rfl (lb rfl) d5_69 72 rfl 0 0 (lb rfl) (lb rfl) (lb rfl) (lb rfl) ?_
      intro v6 T6 h6 u6 W6 R6 hq
      obtain ⟨rfl, eh6⟩ := hq
      have ei6 := eh6.symm; subst ei6
      by_cases hs : sB ch0 = true
      · skip
        rw [b2i_t hs]
        show Own.Go _ _ _ _ _ 72 #[.val (.ref x), .val (.int 0), .val (.int 0), .val (.int ch0), .val (.int 0)] [.int 1]
        refine Own.ifNo W6 d5_72 75 (by decide) rfl ?_
        refine Own.iloadN W6 d5_75 76 rfl 0 rfl ?_
        exact Own.retI W6 (by decide) (by decide) rfl d5_76 ⟨Or.inr ⟨_, rfl, by decide, hu0.trans (uns_bad1 (Or.inr hs))⟩, rfl⟩
      · skip
        rw [b2i_f hs]
        show Own.Go _ _ _ _ _ 72 #[.val (.ref x), .val (.int 0), .val (.int 0), .val (.int ch0), .val (.int 0)] [.int 0]
        refine Own.ifYes W6 d5_72 77 (by decide) (by decide) (by decide) ?_
        refine Own.iinc W6 d5_77 80 rfl rfl #[.val (.ref x), .val (.int 0), .val (.int 1), .val (.int ch0), .val (.int 0)] rfl ?_
        refine Own.goto W6 d5_80 2 (by decide) (by decide) ?_
        exact J1 _ _ _ _ W6 (hu0.trans (uns_ok1 hz hs))
  · skip
    rw [b2i_f hH]
    show Own.Go _ _ _ _ _ 20 #[.val (.ref x), .val (.int 0), .val (.int 0), .val (.int ch0), .unset] [.int 0]
    refine Own.ifYes W4 d5_20 50 (by decide) (by decide) (by decide) ?_
    refine Own.iconst W4 d5_50 51 rfl 0 rfl ?_
    refine Own.istore W4 d5_51 53 rfl #[.val (.ref x), .val (.int 0), .val (.int 0), .val (.int ch0), .val (.int 0)] rfl ?_
    refine Own.iload W4 d5_53 55 rfl 0 rfl ?_
    refine Own.ifYes W4 d5_55 64 (by decide) (by decide) (by decide) ?_
    refine Own.iloadN W4 d5_64 65 rfl ch0 rfl ?_
    by_cases hz : ch0 = (0 : Int32)
    · skip
      refine Own.ifYes W4 d5_65 75 (XT.i0_eq_t hz) (by decide) (by decide) ?_
      refine Own.iloadN W4 d5_75 76 rfl 0 rfl ?_
      exact Own.retI W4 (by decide) (by decide) rfl d5_76 ⟨Or.inr ⟨_, rfl, by decide, hu0.trans (uns_bad1 (Or.inl hz))⟩, rfl⟩
    · skip
      refine Own.ifNo W4 d5_65 68 (XT.i0_eq_f hz) rfl ?_
      refine Own.iloadN W4 d5_68 69 rfl ch0 rfl ?_
      refine Own.callS W4 (tw hw 89 rfl) (tw hw 90 rfl) (tw hw 86 rfl) (tw hw 91 rfl) (by decide) (argsL := [(.int ch0)]) (rest := []) (Own.Con.pay (con_isu hw hEL ch0 W4.old) W4 (tw hw 91 rfl) (tw hw 86 rfl) (len := 3) (wd := 0) (by decide) (by decide) (fun _ q => nomatch q)) rfl (lenOf pd_15 rfl) rfl (lb rfl) d5_69 72 rfl 0 0 (lb rfl) (lb rfl) (lb rfl) (lb rfl) ?_
      intro v7 T7 h7 u7 W7 R7 hq
      obtain ⟨rfl, eh7⟩ := hq
      have ei7 := eh7.symm; subst ei7
      by_cases hs : sB ch0 = true
      · skip
        rw [b2i_t hs]
        show Own.Go _ _ _ _ _ 72 #[.val (.ref x), .val (.int 0), .val (.int 0), .val (.int ch0), .val (.int 0)] [.int 1]
        refine Own.ifNo W7 d5_72 75 (by decide) rfl ?_
        refine Own.iloadN W7 d5_75 76 rfl 0 rfl ?_
        exact Own.retI W7 (by decide) (by decide) rfl d5_76 ⟨Or.inr ⟨_, rfl, by decide, hu0.trans (uns_bad1 (Or.inr hs))⟩, rfl⟩
      · skip
        rw [b2i_f hs]
        show Own.Go _ _ _ _ _ 72 #[.val (.ref x), .val (.int 0), .val (.int 0), .val (.int ch0), .val (.int 0)] [.int 0]
        refine Own.ifYes W7 d5_72 77 (by decide) (by decide) (by decide) ?_
        refine Own.iinc W7 d5_77 80 rfl rfl #[.val (.ref x), .val (.int 0), .val (.int 1), .val (.int ch0), .val (.int 0)] rfl ?_
        refine Own.goto W7 d5_80 2 (by decide) (by decide) ?_
        exact J1 _ _ _ _ W7 (hu0.trans (uns_ok1 hz hs))
set_option maxRecDepth 65536 in
set_option maxHeartbeats 40000000 in
theorem con_una2 {G : Own.Gl} (hw : ∀ d ∈ tables_1, d.before G.a0 G.Z = true) (hEL : EW G.Z G.a0 G.EL) (hmem : (Own.ST, 7) ∈ G.EL) {cz : Int32} (hS : Sta G.Z G.Z.heap Own.ST "COMPACT_STRINGS" "Z" (.int cz)) (hcz : ¬ cz = 0) {fm : Value} (SF : Sta G.Z G.Z.heap "jdk/internal/util/Preconditions" "SIOOBE_FORMATTER" "Ljava/util/function/BiFunction;" fm) (rfm : fm.isRef = true) (TA : Sta G.Z G.Z.heap "java/lang/StringUTF16" "$assertionsDisabled" "Z" (.int 1)) (TH : Sta G.Z G.Z.heap "java/lang/StringUTF16" "HI_BYTE_SHIFT" "I" (.int 0)) (TL : Sta G.Z G.Z.heap "java/lang/StringUTF16" "LO_BYTE_SHIFT" "I" (.int 8)) {ch0 ch1 : Int32} {st : Int32} (hst : st = 0) {x : Addr} {h : Heap} (hO : Old G.Z G.n0 h) (Sx : Own.Uni G.Z h x [ch0, ch1]) :
    Own.Con G [] bUna2 #[.ref x, .int st] h [] (fun v h' => ((v = some (.int (-1)) ∧ uns [ch0, ch1] = true) ∨ (∃ j : Int32, v = some (.int j) ∧ ¬ j < 0 ∧ uns [ch0, ch1] = false)) ∧ h' = h) := by
  refine Own.Con.intro (plainFor_of_name pn_5) hO hEL _ (fun m => ef_bUna2 m x st) ?_
  intro X T0 W0 sf
  subst hst
  have Ex := Sx.exa
  refine Own.iloadN W0 d5_0 1 rfl 0 rfl ?_
  refine Own.istoreN W0 d5_1 2 rfl #[.val (.ref x), .val (.int 0), .val (.int 0), .unset, .unset] rfl ?_
  have J2 : ∀ (vJ2 : Vm) (TJ2 : State) (a_ : Int32) (b_ : Int32), Own.Here G X bUna2 vJ2 TJ2 h 0 0 → uns [ch0, ch1] = uns [] → Own.Go G X bUna2 (fun v h' => ((v = some (.int (-1)) ∧ uns [ch0, ch1] = true) ∨ (∃ j : Int32, v = some (.int j) ∧ ¬ j < 0 ∧ uns [ch0, ch1] = false)) ∧ h' = h) TJ2 2 #[.val (.ref x), .val (.int 0), .val (.int 2), .val (.int a_), .val (.int b_)] [] := by
    intro vJ2 TJ2 a_ b_ WJ2 hu
    refine Own.iloadN WJ2 d5_2 3 rfl 2 rfl ?_
    refine Own.aloadN WJ2 d5_3 4 rfl (.ref x) rfl rfl ?_
    refine Own.callV WJ2 (tw hw 29 rfl) (tw hw 30 rfl) (fun s q => notFace_of_selects (args := #[]) (mvT (s := s) q (tw hw 32 rfl))) (tw hw 32 rfl) (tw hw 31 rfl) (by decide) (argsL := []) (rest := [.int 2]) (Own.payLenU (wL hw) (kI := 4) (tw hw 2 rfl) WJ2 Sx hS hcz (len := 3) (wd := 1) (by decide) (by decide)) Ex rfl (lenOf pd_13 rfl) rfl (lb rfl) d5_4 7 rfl 0 0 (lb rfl) (lb rfl) (lb rfl) (lb rfl) ?_
    intro v1 T1 h1 u1 W1 R1 hq
    obtain ⟨rfl, eh1⟩ := hq
    have ei1 := eh1.symm; subst ei1
    show Own.Go _ _ _ _ _ 7 #[.val (.ref x), .val (.int 0), .val (.int 2), .val (.int a_), .val (.int b_)] [.int 2, .int 2]
    refine Own.icmpYes W1 d5_7 83 (by decide) (by decide) (by decide) ?_
    refine Own.iconst W1 d5_83 84 rfl (-1 : Int32) rfl ?_
    exact Own.retI W1 (by decide) (by decide) rfl d5_84 ⟨Or.inl ⟨rfl, hu.trans rfl⟩, rfl⟩
  have J1 : ∀ (vJ1 : Vm) (TJ1 : State) (a_ : Int32) (b_ : Int32), Own.Here G X bUna2 vJ1 TJ1 h 0 0 → uns [ch0, ch1] = uns [ch1] → Own.Go G X bUna2 (fun v h' => ((v = some (.int (-1)) ∧ uns [ch0, ch1] = true) ∨ (∃ j : Int32, v = some (.int j) ∧ ¬ j < 0 ∧ uns [ch0, ch1] = false)) ∧ h' = h) TJ1 2 #[.val (.ref x), .val (.int 0), .val (.int 1), .val (.int a_), .val (.int b_)] [] := by
    intro vJ1 TJ1 a_ b_ WJ1 hu
    refine Own.iloadN WJ1 d5_2 3 rfl 1 rfl ?_
    refine Own.aloadN WJ1 d5_3 4 rfl (.ref x) rfl rfl ?_
    refine Own.callV WJ1 (tw hw 29 rfl) (tw hw 30 rfl) (fun s q => notFace_of_selects (args := #[]) (mvT (s := s) q (tw hw 32 rfl))) (tw hw 32 rfl) (tw hw 31 rfl) (by decide) (argsL := []) (rest := [.int 1]) (Own.payLenU (wL hw) (kI := 4) (tw hw 2 rfl) WJ1 Sx hS hcz (len := 3) (wd := 1) (by decide) (by decide)) Ex rfl (lenOf pd_13 rfl) rfl (lb rfl) d5_4 7 rfl 0 0 (lb rfl) (lb rfl) (lb rfl) (lb rfl) ?_
    intro v2 T2 h2 u2 W2 R2 hq
    obtain ⟨rfl, eh2⟩ := hq
    have ei2 := eh2.symm; subst ei2
    show Own.Go _ _ _ _ _ 7 #[.val (.ref x), .val (.int 0), .val (.int 1), .val (.int a_), .val (.int b_)] [.int 2, .int 1]
    refine Own.icmpNo W2 d5_7 10 (by decide) rfl ?_
    refine Own.aloadN W2 d5_10 11 rfl (.ref x) rfl rfl ?_
    refine Own.iloadN W2 d5_11 12 rfl 1 rfl ?_
    refine Own.callV W2 (tw hw 62 rfl) (tw hw 63 rfl) (fun s q => notFace_of_selects (args := #[]) (mvT (s := s) q (tw hw 65 rfl))) (tw hw 65 rfl) (tw hw 64 rfl) (by decide) (argsL := [.int 1]) (rest := []) (payChU1 hw hEL hmem hS hcz SF rfm TA TH TL W2 Sx (lb rfl) (len := 3) (wd := 0) (by decide) (by decide)) Ex rfl (lenOf pd_14 rfl) rfl (lb rfl) d5_12 15 rfl 0 0 (lb rfl) (lb rfl) (lb rfl) (lb rfl) ?_
    intro v3 T3 h3 u3 W3 R3 hq
    obtain ⟨rfl, eh3⟩ := hq
    have ei3 := eh3.symm; subst ei3
    show Own.Go _ _ _ _ _ 15 #[.val (.ref x), .val (.int 0), .val (.int 1), .val (.int a_), .val (.int b_)] [(.int ch1)]
    refine Own.istoreN W3 d5_15 16 rfl #[.val (.ref x), .val (.int 0), .val (.int 1), .val (.int ch1), .val (.int b_)] rfl ?_
    refine Own.iloadN W3 d5_16 17 rfl ch1 rfl ?_
    refine Own.callS W3 (tw hw 84 rfl) (tw hw 85 rfl) (tw hw 86 rfl) (tw hw 87 rfl) (by decide) (argsL := [(.int ch1)]) (rest := []) (Own.Con.pay (con_ih hw hEL ch1 W3.old) W3 (tw hw 87 rfl) (tw hw 86 rfl) (len := 3) (wd := 0) (by decide) (by decide) (fun _ q => nomatch q)) rfl (lenOf pd_15 rfl) rfl (lb rfl) d5_17 20 rfl 0 0 (lb rfl) (lb rfl) (lb rfl) (lb rfl) ?_
    intro v4 T4 h4 u4 W4 R4 hq
    obtain ⟨rfl, eh4⟩ := hq
    have ei4 := eh4.symm; subst ei4
    by_cases hH : hB ch1 = true
    · skip
      rw [b2i_t hH]
      show Own.Go _ _ _ _ _ 20 #[.val (.ref x), .val (.int 0), .val (.int 1), .val (.int ch1), .val (.int b_)] [.int 1]
      refine Own.ifNo W4 d5_20 23 (by decide) rfl ?_
      refine Own.iloadN W4 d5_23 24 rfl 1 rfl ?_
      refine Own.iconst W4 d5_24 25 rfl 1 rfl ?_
      refine Own.iadd W4 d5_25 26 rfl ?_
      refine Own.aloadN W4 d5_26 27 rfl (.ref x) rfl rfl ?_
      refine Own.callV W4 (tw hw 29 rfl) (tw hw 30 rfl) (fun s q => notFace_of_selects (args := #[]) (mvT (s := s) q (tw hw 32 rfl))) (tw hw 32 rfl) (tw hw 31 rfl) (by decide) (argsL := []) (rest := [.int 2]) (Own.payLenU (wL hw) (kI := 4) (tw hw 2 rfl) W4 Sx hS hcz (len := 3) (wd := 1) (by decide) (by decide)) Ex rfl (lenOf pd_13 rfl) rfl (lb rfl) d5_27 30 rfl 0 0 (lb rfl) (lb rfl) (lb rfl) (lb rfl) ?_
      intro v5 T5 h5 u5 W5 R5 hq
      obtain ⟨rfl, eh5⟩ := hq
      have ei5 := eh5.symm; subst ei5
      show Own.Go _ _ _ _ _ 30 #[.val (.ref x), .val (.int 0), .val (.int 1), .val (.int ch1), .val (.int b_)] [.int 2, .int 2]
      refine Own.icmpYes W5 d5_30 50 (by decide) (by decide) (by decide) ?_
      refine Own.iconst W5 d5_50 51 rfl 0 rfl ?_
      refine Own.istore W5 d5_51 53 rfl #[.val (.ref x), .val (.int 0), .val (.int 1), .val (.int ch1), .val (.int 0)] rfl ?_
      refine Own.iload W5 d5_53 55 rfl 0 rfl ?_
      refine Own.ifYes W5 d5_55 64 (by decide) (by decide) (by decide) ?_
      refine Own.iloadN W5 d5_64 65 rfl ch1 rfl ?_
      by_cases hz : ch1 = (0 : Int32)
      · skip
        refine Own.ifYes W5 d5_65 75 (XT.i0_eq_t hz) (by decide) (by decide) ?_
        refine Own.iloadN W5 d5_75 76 rfl 1 rfl ?_
        exact Own.retI W5 (by decide) (by decide) rfl d5_76 ⟨Or.inr ⟨_, rfl, by decide, hu.trans (uns_bad1 (Or.inl hz))⟩, rfl⟩
      · skip
        refine Own.ifNo W5 d5_65 68 (XT.i0_eq_f hz) rfl ?_
        refine Own.iloadN W5 d5_68 69 rfl ch1 rfl ?_
        refine Own.callS W5 (tw hw 89 rfl) (tw hw 90 rfl) (tw hw 86 rfl) (tw hw 91 rfl) (by decide) (argsL := [(.int ch1)]) (rest := []) (Own.Con.pay (con_isu hw hEL ch1 W5.old) W5 (tw hw 91 rfl) (tw hw 86 rfl) (len := 3) (wd := 0) (by decide) (by decide) (fun _ q => nomatch q)) rfl (lenOf pd_15 rfl) rfl (lb rfl) d5_69 72 rfl 0 0 (lb rfl) (lb rfl) (lb rfl) (lb rfl) ?_
        intro v6 T6 h6 u6 W6 R6 hq
        obtain ⟨rfl, eh6⟩ := hq
        have ei6 := eh6.symm; subst ei6
        by_cases hs : sB ch1 = true
        · skip
          rw [b2i_t hs]
          show Own.Go _ _ _ _ _ 72 #[.val (.ref x), .val (.int 0), .val (.int 1), .val (.int ch1), .val (.int 0)] [.int 1]
          refine Own.ifNo W6 d5_72 75 (by decide) rfl ?_
          refine Own.iloadN W6 d5_75 76 rfl 1 rfl ?_
          exact Own.retI W6 (by decide) (by decide) rfl d5_76 ⟨Or.inr ⟨_, rfl, by decide, hu.trans (uns_bad1 (Or.inr hs))⟩, rfl⟩
        · skip
          rw [b2i_f hs]
          show Own.Go _ _ _ _ _ 72 #[.val (.ref x), .val (.int 0), .val (.int 1), .val (.int ch1), .val (.int 0)] [.int 0]
          refine Own.ifYes W6 d5_72 77 (by decide) (by decide) (by decide) ?_
          refine Own.iinc W6 d5_77 80 rfl rfl #[.val (.ref x), .val (.int 0), .val (.int 2), .val (.int ch1), .val (.int 0)] rfl ?_
          refine Own.goto W6 d5_80 2 (by decide) (by decide) ?_
          exact J2 _ _ _ _ W6 (hu.trans (uns_ok1 hz hs))
    · skip
      rw [b2i_f hH]
      show Own.Go _ _ _ _ _ 20 #[.val (.ref x), .val (.int 0), .val (.int 1), .val (.int ch1), .val (.int b_)] [.int 0]
      refine Own.ifYes W4 d5_20 50 (by decide) (by decide) (by decide) ?_
      refine Own.iconst W4 d5_50 51 rfl 0 rfl ?_
      refine Own.istore W4 d5_51 53 rfl #[.val (.ref x), .val (.int 0), .val (.int 1), .val (.int ch1), .val (.int 0)] rfl ?_
      refine Own.iload W4 d5_53 55 rfl 0 rfl ?_
      refine Own.ifYes W4 d5_55 64 (by decide) (by decide) (by decide) ?_
      refine Own.iloadN W4 d5_64 65 rfl ch1 rfl ?_
      by_cases hz : ch1 = (0 : Int32)
      · skip
        refine Own.ifYes W4 d5_65 75 (XT.i0_eq_t hz) (by decide) (by decide) ?_
        refine Own.iloadN W4 d5_75 76 rfl 1 rfl ?_
        exact Own.retI W4 (by decide) (by decide) rfl d5_76 ⟨Or.inr ⟨_, rfl, by decide, hu.trans (uns_bad1 (Or.inl hz))⟩, rfl⟩
      · skip
        refine Own.ifNo W4 d5_65 68 (XT.i0_eq_f hz) rfl ?_
        refine Own.iloadN W4 d5_68 69 rfl ch1 rfl ?_
        refine Own.callS W4 (tw hw 89 rfl) (tw hw 90 rfl) (tw hw 86 rfl) (tw hw 91 rfl) (by decide) (argsL := [(.int ch1)]) (rest := []) (Own.Con.pay (con_isu hw hEL ch1 W4.old) W4 (tw hw 91 rfl) (tw hw 86 rfl) (len := 3) (wd := 0) (by decide) (by decide) (fun _ q => nomatch q)) rfl (lenOf pd_15 rfl) rfl (lb rfl) d5_69 72 rfl 0 0 (lb rfl) (lb rfl) (lb rfl) (lb rfl) ?_
        intro v7 T7 h7 u7 W7 R7 hq
        obtain ⟨rfl, eh7⟩ := hq
        have ei7 := eh7.symm; subst ei7
        by_cases hs : sB ch1 = true
        · skip
          rw [b2i_t hs]
          show Own.Go _ _ _ _ _ 72 #[.val (.ref x), .val (.int 0), .val (.int 1), .val (.int ch1), .val (.int 0)] [.int 1]
          refine Own.ifNo W7 d5_72 75 (by decide) rfl ?_
          refine Own.iloadN W7 d5_75 76 rfl 1 rfl ?_
          exact Own.retI W7 (by decide) (by decide) rfl d5_76 ⟨Or.inr ⟨_, rfl, by decide, hu.trans (uns_bad1 (Or.inr hs))⟩, rfl⟩
        · skip
          rw [b2i_f hs]
          show Own.Go _ _ _ _ _ 72 #[.val (.ref x), .val (.int 0), .val (.int 1), .val (.int ch1), .val (.int 0)] [.int 0]
          refine Own.ifYes W7 d5_72 77 (by decide) (by decide) (by decide) ?_
          refine Own.iinc W7 d5_77 80 rfl rfl #[.val (.ref x), .val (.int 0), .val (.int 2), .val (.int ch1), .val (.int 0)] rfl ?_
          refine Own.goto W7 d5_80 2 (by decide) (by decide) ?_
          exact J2 _ _ _ _ W7 (hu.trans (uns_ok1 hz hs))
  have hu0 : uns [ch0, ch1] = uns [ch0, ch1] := rfl
  refine Own.iloadN W0 d5_2 3 rfl 0 rfl ?_
  refine Own.aloadN W0 d5_3 4 rfl (.ref x) rfl rfl ?_
  refine Own.callV W0 (tw hw 29 rfl) (tw hw 30 rfl) (fun s q => notFace_of_selects (args := #[]) (mvT (s := s) q (tw hw 32 rfl))) (tw hw 32 rfl) (tw hw 31 rfl) (by decide) (argsL := []) (rest := [.int 0]) (Own.payLenU (wL hw) (kI := 4) (tw hw 2 rfl) W0 Sx hS hcz (len := 3) (wd := 1) (by decide) (by decide)) Ex rfl (lenOf pd_13 rfl) rfl (lb rfl) d5_4 7 rfl 0 0 (lb rfl) (lb rfl) (lb rfl) (lb rfl) ?_
  intro v8 T8 h8 u8 W8 R8 hq
  obtain ⟨rfl, eh8⟩ := hq
  have ei8 := eh8.symm; subst ei8
  show Own.Go _ _ _ _ _ 7 #[.val (.ref x), .val (.int 0), .val (.int 0), .unset, .unset] [.int 2, .int 0]
  refine Own.icmpNo W8 d5_7 10 (by decide) rfl ?_
  refine Own.aloadN W8 d5_10 11 rfl (.ref x) rfl rfl ?_
  refine Own.iloadN W8 d5_11 12 rfl 0 rfl ?_
  refine Own.callV W8 (tw hw 62 rfl) (tw hw 63 rfl) (fun s q => notFace_of_selects (args := #[]) (mvT (s := s) q (tw hw 65 rfl))) (tw hw 65 rfl) (tw hw 64 rfl) (by decide) (argsL := [.int 0]) (rest := []) (payChU0 hw hEL hmem hS hcz SF rfm TA TH TL W8 Sx (lb rfl) (len := 3) (wd := 0) (by decide) (by decide)) Ex rfl (lenOf pd_14 rfl) rfl (lb rfl) d5_12 15 rfl 0 0 (lb rfl) (lb rfl) (lb rfl) (lb rfl) ?_
  intro v9 T9 h9 u9 W9 R9 hq
  obtain ⟨rfl, eh9⟩ := hq
  have ei9 := eh9.symm; subst ei9
  show Own.Go _ _ _ _ _ 15 #[.val (.ref x), .val (.int 0), .val (.int 0), .unset, .unset] [(.int ch0)]
  refine Own.istoreN W9 d5_15 16 rfl #[.val (.ref x), .val (.int 0), .val (.int 0), .val (.int ch0), .unset] rfl ?_
  refine Own.iloadN W9 d5_16 17 rfl ch0 rfl ?_
  refine Own.callS W9 (tw hw 84 rfl) (tw hw 85 rfl) (tw hw 86 rfl) (tw hw 87 rfl) (by decide) (argsL := [(.int ch0)]) (rest := []) (Own.Con.pay (con_ih hw hEL ch0 W9.old) W9 (tw hw 87 rfl) (tw hw 86 rfl) (len := 3) (wd := 0) (by decide) (by decide) (fun _ q => nomatch q)) rfl (lenOf pd_15 rfl) rfl (lb rfl) d5_17 20 rfl 0 0 (lb rfl) (lb rfl) (lb rfl) (lb rfl) ?_
  intro v10 T10 h10 u10 W10 R10 hq
  obtain ⟨rfl, eh10⟩ := hq
  have ei10 := eh10.symm; subst ei10
  by_cases hH : hB ch0 = true
  · skip
    rw [b2i_t hH]
    show Own.Go _ _ _ _ _ 20 #[.val (.ref x), .val (.int 0), .val (.int 0), .val (.int ch0), .unset] [.int 1]
    refine Own.ifNo W10 d5_20 23 (by decide) rfl ?_
    refine Own.iloadN W10 d5_23 24 rfl 0 rfl ?_
    refine Own.iconst W10 d5_24 25 rfl 1 rfl ?_
    refine Own.iadd W10 d5_25 26 rfl ?_
    refine Own.aloadN W10 d5_26 27 rfl (.ref x) rfl rfl ?_
    refine Own.callV W10 (tw hw 29 rfl) (tw hw 30 rfl) (fun s q => notFace_of_selects (args := #[]) (mvT (s := s) q (tw hw 32 rfl))) (tw hw 32 rfl) (tw hw 31 rfl) (by decide) (argsL := []) (rest := [.int 1]) (Own.payLenU (wL hw) (kI := 4) (tw hw 2 rfl) W10 Sx hS hcz (len := 3) (wd := 1) (by decide) (by decide)) Ex rfl (lenOf pd_13 rfl) rfl (lb rfl) d5_27 30 rfl 0 0 (lb rfl) (lb rfl) (lb rfl) (lb rfl) ?_
    intro v11 T11 h11 u11 W11 R11 hq
    obtain ⟨rfl, eh11⟩ := hq
    have ei11 := eh11.symm; subst ei11
    show Own.Go _ _ _ _ _ 30 #[.val (.ref x), .val (.int 0), .val (.int 0), .val (.int ch0), .unset] [.int 2, .int 1]
    refine Own.icmpNo W11 d5_30 33 (by decide) rfl ?_
    refine Own.aloadN W11 d5_33 34 rfl (.ref x) rfl rfl ?_
    refine Own.iloadN W11 d5_34 35 rfl 0 rfl ?_
    refine Own.iconst W11 d5_35 36 rfl 1 rfl ?_
    refine Own.iadd W11 d5_36 37 rfl ?_
    refine Own.callV W11 (tw hw 62 rfl) (tw hw 63 rfl) (fun s q => notFace_of_selects (args := #[]) (mvT (s := s) q (tw hw 65 rfl))) (tw hw 65 rfl) (tw hw 64 rfl) (by decide) (argsL := [.int 1]) (rest := []) (payChU1 hw hEL hmem hS hcz SF rfm TA TH TL W11 Sx (lb rfl) (len := 3) (wd := 0) (by decide) (by decide)) Ex rfl (lenOf pd_14 rfl) rfl (lb rfl) d5_37 40 rfl 0 0 (lb rfl) (lb rfl) (lb rfl) (lb rfl) ?_
    intro v12 T12 h12 u12 W12 R12 hq
    obtain ⟨rfl, eh12⟩ := hq
    have ei12 := eh12.symm; subst ei12
    show Own.Go _ _ _ _ _ 40 #[.val (.ref x), .val (.int 0), .val (.int 0), .val (.int ch0), .unset] [(.int ch1)]
    refine Own.callS W12 (tw hw 125 rfl) (tw hw 126 rfl) (tw hw 86 rfl) (tw hw 127 rfl) (by decide) (argsL := [(.int ch1)]) (rest := []) (Own.Con.pay (con_il hw hEL ch1 W12.old) W12 (tw hw 127 rfl) (tw hw 86 rfl) (len := 3) (wd := 0) (by decide) (by decide) (fun _ q => nomatch q)) rfl (lenOf pd_15 rfl) rfl (lb rfl) d5_40 43 rfl 0 0 (lb rfl) (lb rfl) (lb rfl) (lb rfl) ?_
    intro v13 T13 h13 u13 W13 R13 hq
    obtain ⟨rfl, eh13⟩ := hq
    have ei13 := eh13.symm; subst ei13
    by_cases hL : lB ch1 = true
    · skip
      rw [b2i_t hL]
      show Own.Go _ _ _ _ _ 43 #[.val (.ref x), .val (.int 0), .val (.int 0), .val (.int ch0), .unset] [.int 1]
      refine Own.ifNo W13 d5_43 46 (by decide) rfl ?_
      refine Own.iconst W13 d5_46 47 rfl 1 rfl ?_
      refine Own.goto W13 d5_47 51 (by decide) (by decide) ?_
      refine Own.istore W13 d5_51 53 rfl #[.val (.ref x), .val (.int 0), .val (.int 0), .val (.int ch0), .val (.int 1)] rfl ?_
      refine Own.iload W13 d5_53 55 rfl 1 rfl ?_
      refine Own.ifNo W13 d5_55 58 (by decide) rfl ?_
      refine Own.iinc W13 d5_58 61 rfl rfl #[.val (.ref x), .val (.int 0), .val (.int 1), .val (.int ch0), .val (.int 1)] rfl ?_
      refine Own.goto W13 d5_61 77 (by decide) (by decide) ?_
      refine Own.iinc W13 d5_77 80 rfl rfl #[.val (.ref x), .val (.int 0), .val (.int 2), .val (.int ch0), .val (.int 1)] rfl ?_
      refine Own.goto W13 d5_80 2 (by decide) (by decide) ?_
      exact J2 _ _ _ _ W13 (hu0.trans (uns_pair hH hL))
    · skip
      rw [b2i_f hL]
      show Own.Go _ _ _ _ _ 43 #[.val (.ref x), .val (.int 0), .val (.int 0), .val (.int ch0), .unset] [.int 0]
      refine Own.ifYes W13 d5_43 50 (by decide) (by decide) (by decide) ?_
      refine Own.iconst W13 d5_50 51 rfl 0 rfl ?_
      refine Own.istore W13 d5_51 53 rfl #[.val (.ref x), .val (.int 0), .val (.int 0), .val (.int ch0), .val (.int 0)] rfl ?_
      refine Own.iload W13 d5_53 55 rfl 0 rfl ?_
      refine Own.ifYes W13 d5_55 64 (by decide) (by decide) (by decide) ?_
      refine Own.iloadN W13 d5_64 65 rfl ch0 rfl ?_
      by_cases hz : ch0 = (0 : Int32)
      · skip
        refine Own.ifYes W13 d5_65 75 (XT.i0_eq_t hz) (by decide) (by decide) ?_
        refine Own.iloadN W13 d5_75 76 rfl 0 rfl ?_
        exact Own.retI W13 (by decide) (by decide) rfl d5_76 ⟨Or.inr ⟨_, rfl, by decide, hu0.trans (uns_bad2 (fun q => hL q.2) (Or.inl hz))⟩, rfl⟩
      · skip
        refine Own.ifNo W13 d5_65 68 (XT.i0_eq_f hz) rfl ?_
        refine Own.iloadN W13 d5_68 69 rfl ch0 rfl ?_
        refine Own.callS W13 (tw hw 89 rfl) (tw hw 90 rfl) (tw hw 86 rfl) (tw hw 91 rfl) (by decide) (argsL := [(.int ch0)]) (rest := []) (Own.Con.pay (con_isu hw hEL ch0 W13.old) W13 (tw hw 91 rfl) (tw hw 86 rfl) (len := 3) (wd := 0) (by decide) (by decide) (fun _ q => nomatch q)) rfl (lenOf pd_15 rfl) rfl (lb rfl) d5_69 72 rfl 0 0 (lb rfl) (lb rfl) (lb rfl) (lb rfl) ?_
        intro v14 T14 h14 u14 W14 R14 hq
        obtain ⟨rfl, eh14⟩ := hq
        have ei14 := eh14.symm; subst ei14
        by_cases hs : sB ch0 = true
        · skip
          rw [b2i_t hs]
          show Own.Go _ _ _ _ _ 72 #[.val (.ref x), .val (.int 0), .val (.int 0), .val (.int ch0), .val (.int 0)] [.int 1]
          refine Own.ifNo W14 d5_72 75 (by decide) rfl ?_
          refine Own.iloadN W14 d5_75 76 rfl 0 rfl ?_
          exact Own.retI W14 (by decide) (by decide) rfl d5_76 ⟨Or.inr ⟨_, rfl, by decide, hu0.trans (uns_bad2 (fun q => hL q.2) (Or.inr hs))⟩, rfl⟩
        · skip
          rw [b2i_f hs]
          show Own.Go _ _ _ _ _ 72 #[.val (.ref x), .val (.int 0), .val (.int 0), .val (.int ch0), .val (.int 0)] [.int 0]
          refine Own.ifYes W14 d5_72 77 (by decide) (by decide) (by decide) ?_
          refine Own.iinc W14 d5_77 80 rfl rfl #[.val (.ref x), .val (.int 0), .val (.int 1), .val (.int ch0), .val (.int 0)] rfl ?_
          refine Own.goto W14 d5_80 2 (by decide) (by decide) ?_
          exact J1 _ _ _ _ W14 (hu0.trans (uns_ok2 (fun q => hL q.2) hz hs))
  · skip
    rw [b2i_f hH]
    show Own.Go _ _ _ _ _ 20 #[.val (.ref x), .val (.int 0), .val (.int 0), .val (.int ch0), .unset] [.int 0]
    refine Own.ifYes W10 d5_20 50 (by decide) (by decide) (by decide) ?_
    refine Own.iconst W10 d5_50 51 rfl 0 rfl ?_
    refine Own.istore W10 d5_51 53 rfl #[.val (.ref x), .val (.int 0), .val (.int 0), .val (.int ch0), .val (.int 0)] rfl ?_
    refine Own.iload W10 d5_53 55 rfl 0 rfl ?_
    refine Own.ifYes W10 d5_55 64 (by decide) (by decide) (by decide) ?_
    refine Own.iloadN W10 d5_64 65 rfl ch0 rfl ?_
    by_cases hz : ch0 = (0 : Int32)
    · skip
      refine Own.ifYes W10 d5_65 75 (XT.i0_eq_t hz) (by decide) (by decide) ?_
      refine Own.iloadN W10 d5_75 76 rfl 0 rfl ?_
      exact Own.retI W10 (by decide) (by decide) rfl d5_76 ⟨Or.inr ⟨_, rfl, by decide, hu0.trans (uns_bad2 (fun q => hH q.1) (Or.inl hz))⟩, rfl⟩
    · skip
      refine Own.ifNo W10 d5_65 68 (XT.i0_eq_f hz) rfl ?_
      refine Own.iloadN W10 d5_68 69 rfl ch0 rfl ?_
      refine Own.callS W10 (tw hw 89 rfl) (tw hw 90 rfl) (tw hw 86 rfl) (tw hw 91 rfl) (by decide) (argsL := [(.int ch0)]) (rest := []) (Own.Con.pay (con_isu hw hEL ch0 W10.old) W10 (tw hw 91 rfl) (tw hw 86 rfl) (len := 3) (wd := 0) (by decide) (by decide) (fun _ q => nomatch q)) rfl (lenOf pd_15 rfl) rfl (lb rfl) d5_69 72 rfl 0 0 (lb rfl) (lb rfl) (lb rfl) (lb rfl) ?_
      intro v15 T15 h15 u15 W15 R15 hq
      obtain ⟨rfl, eh15⟩ := hq
      have ei15 := eh15.symm; subst ei15
      by_cases hs : sB ch0 = true
      · skip
        rw [b2i_t hs]
        show Own.Go _ _ _ _ _ 72 #[.val (.ref x), .val (.int 0), .val (.int 0), .val (.int ch0), .val (.int 0)] [.int 1]
        refine Own.ifNo W15 d5_72 75 (by decide) rfl ?_
        refine Own.iloadN W15 d5_75 76 rfl 0 rfl ?_
        exact Own.retI W15 (by decide) (by decide) rfl d5_76 ⟨Or.inr ⟨_, rfl, by decide, hu0.trans (uns_bad2 (fun q => hH q.1) (Or.inr hs))⟩, rfl⟩
      · skip
        rw [b2i_f hs]
        show Own.Go _ _ _ _ _ 72 #[.val (.ref x), .val (.int 0), .val (.int 0), .val (.int ch0), .val (.int 0)] [.int 0]
        refine Own.ifYes W15 d5_72 77 (by decide) (by decide) (by decide) ?_
        refine Own.iinc W15 d5_77 80 rfl rfl #[.val (.ref x), .val (.int 0), .val (.int 1), .val (.int ch0), .val (.int 0)] rfl ?_
        refine Own.goto W15 d5_80 2 (by decide) (by decide) ?_
        exact J1 _ _ _ _ W15 (hu0.trans (uns_ok2 (fun q => hH q.1) hz hs))
set_option maxRecDepth 65536 in
set_option maxHeartbeats 40000000 in
theorem con_una3 {G : Own.Gl} (hw : ∀ d ∈ tables_1, d.before G.a0 G.Z = true) (hEL : EW G.Z G.a0 G.EL) (hmem : (Own.ST, 7) ∈ G.EL) {cz : Int32} (hS : Sta G.Z G.Z.heap Own.ST "COMPACT_STRINGS" "Z" (.int cz)) (hcz : ¬ cz = 0) {fm : Value} (SF : Sta G.Z G.Z.heap "jdk/internal/util/Preconditions" "SIOOBE_FORMATTER" "Ljava/util/function/BiFunction;" fm) (rfm : fm.isRef = true) (TA : Sta G.Z G.Z.heap "java/lang/StringUTF16" "$assertionsDisabled" "Z" (.int 1)) (TH : Sta G.Z G.Z.heap "java/lang/StringUTF16" "HI_BYTE_SHIFT" "I" (.int 0)) (TL : Sta G.Z G.Z.heap "java/lang/StringUTF16" "LO_BYTE_SHIFT" "I" (.int 8)) {ch0 ch1 ch2 : Int32} {st : Int32} (hst : st = 0) {x : Addr} {h : Heap} (hO : Old G.Z G.n0 h) (Sx : Own.Uni G.Z h x [ch0, ch1, ch2]) :
    Own.Con G [] bUna3 #[.ref x, .int st] h [] (fun v h' => ((v = some (.int (-1)) ∧ uns [ch0, ch1, ch2] = true) ∨ (∃ j : Int32, v = some (.int j) ∧ ¬ j < 0 ∧ uns [ch0, ch1, ch2] = false)) ∧ h' = h) := by
  refine Own.Con.intro (plainFor_of_name pn_5) hO hEL _ (fun m => ef_bUna3 m x st) ?_
  intro X T0 W0 sf
  subst hst
  have Ex := Sx.exa
  refine Own.iloadN W0 d5_0 1 rfl 0 rfl ?_
  refine Own.istoreN W0 d5_1 2 rfl #[.val (.ref x), .val (.int 0), .val (.int 0), .unset, .unset] rfl ?_
  have J3 : ∀ (vJ3 : Vm) (TJ3 : State) (a_ : Int32) (b_ : Int32), Own.Here G X bUna3 vJ3 TJ3 h 0 0 → uns [ch0, ch1, ch2] = uns [] → Own.Go G X bUna3 (fun v h' => ((v = some (.int (-1)) ∧ uns [ch0, ch1, ch2] = true) ∨ (∃ j : Int32, v = some (.int j) ∧ ¬ j < 0 ∧ uns [ch0, ch1, ch2] = false)) ∧ h' = h) TJ3 2 #[.val (.ref x), .val (.int 0), .val (.int 3), .val (.int a_), .val (.int b_)] [] := by
    intro vJ3 TJ3 a_ b_ WJ3 hu
    refine Own.iloadN WJ3 d5_2 3 rfl 3 rfl ?_
    refine Own.aloadN WJ3 d5_3 4 rfl (.ref x) rfl rfl ?_
    refine Own.callV WJ3 (tw hw 29 rfl) (tw hw 30 rfl) (fun s q => notFace_of_selects (args := #[]) (mvT (s := s) q (tw hw 32 rfl))) (tw hw 32 rfl) (tw hw 31 rfl) (by decide) (argsL := []) (rest := [.int 3]) (Own.payLenU (wL hw) (kI := 4) (tw hw 2 rfl) WJ3 Sx hS hcz (len := 3) (wd := 1) (by decide) (by decide)) Ex rfl (lenOf pd_13 rfl) rfl (lb rfl) d5_4 7 rfl 0 0 (lb rfl) (lb rfl) (lb rfl) (lb rfl) ?_
    intro v1 T1 h1 u1 W1 R1 hq
    obtain ⟨rfl, eh1⟩ := hq
    have ei1 := eh1.symm; subst ei1
    show Own.Go _ _ _ _ _ 7 #[.val (.ref x), .val (.int 0), .val (.int 3), .val (.int a_), .val (.int b_)] [.int 3, .int 3]
    refine Own.icmpYes W1 d5_7 83 (by decide) (by decide) (by decide) ?_
    refine Own.iconst W1 d5_83 84 rfl (-1 : Int32) rfl ?_
    exact Own.retI W1 (by decide) (by decide) rfl d5_84 ⟨Or.inl ⟨rfl, hu.trans rfl⟩, rfl⟩
  have J2 : ∀ (vJ2 : Vm) (TJ2 : State) (a_ : Int32) (b_ : Int32), Own.Here G X bUna3 vJ2 TJ2 h 0 0 → uns [ch0, ch1, ch2] = uns [ch2] → Own.Go G X bUna3 (fun v h' => ((v = some (.int (-1)) ∧ uns [ch0, ch1, ch2] = true) ∨ (∃ j : Int32, v = some (.int j) ∧ ¬ j < 0 ∧ uns [ch0, ch1, ch2] = false)) ∧ h' = h) TJ2 2 #[.val (.ref x), .val (.int 0), .val (.int 2), .val (.int a_), .val (.int b_)] [] := by
    intro vJ2 TJ2 a_ b_ WJ2 hu
    refine Own.iloadN WJ2 d5_2 3 rfl 2 rfl ?_
    refine Own.aloadN WJ2 d5_3 4 rfl (.ref x) rfl rfl ?_
    refine Own.callV WJ2 (tw hw 29 rfl) (tw hw 30 rfl) (fun s q => notFace_of_selects (args := #[]) (mvT (s := s) q (tw hw 32 rfl))) (tw hw 32 rfl) (tw hw 31 rfl) (by decide) (argsL := []) (rest := [.int 2]) (Own.payLenU (wL hw) (kI := 4) (tw hw 2 rfl) WJ2 Sx hS hcz (len := 3) (wd := 1) (by decide) (by decide)) Ex rfl (lenOf pd_13 rfl) rfl (lb rfl) d5_4 7 rfl 0 0 (lb rfl) (lb rfl) (lb rfl) (lb rfl) ?_
    intro v2 T2 h2 u2 W2 R2 hq
    obtain ⟨rfl, eh2⟩ := hq
    have ei2 := eh2.symm; subst ei2
    show Own.Go _ _ _ _ _ 7 #[.val (.ref x), .val (.int 0), .val (.int 2), .val (.int a_), .val (.int b_)] [.int 3, .int 2]
    refine Own.icmpNo W2 d5_7 10 (by decide) rfl ?_
    refine Own.aloadN W2 d5_10 11 rfl (.ref x) rfl rfl ?_
    refine Own.iloadN W2 d5_11 12 rfl 2 rfl ?_
    refine Own.callV W2 (tw hw 62 rfl) (tw hw 63 rfl) (fun s q => notFace_of_selects (args := #[]) (mvT (s := s) q (tw hw 65 rfl))) (tw hw 65 rfl) (tw hw 64 rfl) (by decide) (argsL := [.int 2]) (rest := []) (payChU2 hw hEL hmem hS hcz SF rfm TA TH TL W2 Sx (lb rfl) (len := 3) (wd := 0) (by decide) (by decide)) Ex rfl (lenOf pd_14 rfl) rfl (lb rfl) d5_12 15 rfl 0 0 (lb rfl) (lb rfl) (lb rfl) (lb rfl) ?_
    intro v3 T3 h3 u3 W3 R3 hq
    obtain ⟨rfl, eh3⟩ := hq
    have ei3 := eh3.symm; subst ei3
    show Own.Go _ _ _ _ _ 15 #[.val (.ref x), .val (.int 0), .val (.int 2), .val (.int a_), .val (.int b_)] [(.int ch2)]
    refine Own.istoreN W3 d5_15 16 rfl #[.val (.ref x), .val (.int 0), .val (.int 2), .val (.int ch2), .val (.int b_)] rfl ?_
    refine Own.iloadN W3 d5_16 17 rfl ch2 rfl ?_
    refine Own.callS W3 (tw hw 84 rfl) (tw hw 85 rfl) (tw hw 86 rfl) (tw hw 87 rfl) (by decide) (argsL := [(.int ch2)]) (rest := []) (Own.Con.pay (con_ih hw hEL ch2 W3.old) W3 (tw hw 87 rfl) (tw hw 86 rfl) (len := 3) (wd := 0) (by decide) (by decide) (fun _ q => nomatch q)) rfl (lenOf pd_15 rfl) rfl (lb rfl) d5_17 20 rfl 0 0 (lb rfl) (lb rfl) (lb rfl) (lb rfl) ?_
    intro v4 T4 h4 u4 W4 R4 hq
    obtain ⟨rfl, eh4⟩ := hq
    have ei4 := eh4.symm; subst ei4
    by_cases hH : hB ch2 = true
    · skip
      rw [b2i_t hH]
      show Own.Go _ _ _ _ _ 20 #[.val (.ref x), .val (.int 0), .val (.int 2), .val (.int ch2), .val (.int b_)] [.int 1]
      refine Own.ifNo W4 d5_20 23 (by decide) rfl ?_
      refine Own.iloadN W4 d5_23 24 rfl 2 rfl ?_
      refine Own.iconst W4 d5_24 25 rfl 1 rfl ?_
      refine Own.iadd W4 d5_25 26 rfl ?_
      refine Own.aloadN W4 d5_26 27 rfl (.ref x) rfl rfl ?_
      refine Own.callV W4 (tw hw 29 rfl) (tw hw 30 rfl) (fun s q => notFace_of_selects (args := #[]) (mvT (s := s) q (tw hw 32 rfl))) (tw hw 32 rfl) (tw hw 31 rfl) (by decide) (argsL := []) (rest := [.int 3]) (Own.payLenU (wL hw) (kI := 4) (tw hw 2 rfl) W4 Sx hS hcz (len := 3) (wd := 1) (by decide) (by decide)) Ex rfl (lenOf pd_13 rfl) rfl (lb rfl) d5_27 30 rfl 0 0 (lb rfl) (lb rfl) (lb rfl) (lb rfl) ?_
      intro v5 T5 h5 u5 W5 R5 hq
      obtain ⟨rfl, eh5⟩ := hq
      have ei5 := eh5.symm; subst ei5
      show Own.Go _ _ _ _ _ 30 #[.val (.ref x), .val (.int 0), .val (.int 2), .val (.int ch2), .val (.int b_)] [.int 3, .int 3]
      refine Own.icmpYes W5 d5_30 50 (by decide) (by decide) (by decide) ?_
      refine Own.iconst W5 d5_50 51 rfl 0 rfl ?_
      refine Own.istore W5 d5_51 53 rfl #[.val (.ref x), .val (.int 0), .val (.int 2), .val (.int ch2), .val (.int 0)] rfl ?_
      refine Own.iload W5 d5_53 55 rfl 0 rfl ?_
      refine Own.ifYes W5 d5_55 64 (by decide) (by decide) (by decide) ?_
      refine Own.iloadN W5 d5_64 65 rfl ch2 rfl ?_
      by_cases hz : ch2 = (0 : Int32)
      · skip
        refine Own.ifYes W5 d5_65 75 (XT.i0_eq_t hz) (by decide) (by decide) ?_
        refine Own.iloadN W5 d5_75 76 rfl 2 rfl ?_
        exact Own.retI W5 (by decide) (by decide) rfl d5_76 ⟨Or.inr ⟨_, rfl, by decide, hu.trans (uns_bad1 (Or.inl hz))⟩, rfl⟩
      · skip
        refine Own.ifNo W5 d5_65 68 (XT.i0_eq_f hz) rfl ?_
        refine Own.iloadN W5 d5_68 69 rfl ch2 rfl ?_
        refine Own.callS W5 (tw hw 89 rfl) (tw hw 90 rfl) (tw hw 86 rfl) (tw hw 91 rfl) (by decide) (argsL := [(.int ch2)]) (rest := []) (Own.Con.pay (con_isu hw hEL ch2 W5.old) W5 (tw hw 91 rfl) (tw hw 86 rfl) (len := 3) (wd := 0) (by decide) (by decide) (fun _ q => nomatch q)) rfl (lenOf pd_15 rfl) rfl (lb rfl) d5_69 72 rfl 0 0 (lb rfl) (lb rfl) (lb rfl) (lb rfl) ?_
        intro v6 T6 h6 u6 W6 R6 hq
        obtain ⟨rfl, eh6⟩ := hq
        have ei6 := eh6.symm; subst ei6
        by_cases hs : sB ch2 = true
        · skip
          rw [b2i_t hs]
          show Own.Go _ _ _ _ _ 72 #[.val (.ref x), .val (.int 0), .val (.int 2), .val (.int ch2), .val (.int 0)] [.int 1]
          refine Own.ifNo W6 d5_72 75 (by decide) rfl ?_
          refine Own.iloadN W6 d5_75 76 rfl 2 rfl ?_
          exact Own.retI W6 (by decide) (by decide) rfl d5_76 ⟨Or.inr ⟨_, rfl, by decide, hu.trans (uns_bad1 (Or.inr hs))⟩, rfl⟩
        · skip
          rw [b2i_f hs]
          show Own.Go _ _ _ _ _ 72 #[.val (.ref x), .val (.int 0), .val (.int 2), .val (.int ch2), .val (.int 0)] [.int 0]
          refine Own.ifYes W6 d5_72 77 (by decide) (by decide) (by decide) ?_
          refine Own.iinc W6 d5_77 80 rfl rfl #[.val (.ref x), .val (.int 0), .val (.int 3), .val (.int ch2), .val (.int 0)] rfl ?_
          refine Own.goto W6 d5_80 2 (by decide) (by decide) ?_
          exact J3 _ _ _ _ W6 (hu.trans (uns_ok1 hz hs))
    · skip
      rw [b2i_f hH]
      show Own.Go _ _ _ _ _ 20 #[.val (.ref x), .val (.int 0), .val (.int 2), .val (.int ch2), .val (.int b_)] [.int 0]
      refine Own.ifYes W4 d5_20 50 (by decide) (by decide) (by decide) ?_
      refine Own.iconst W4 d5_50 51 rfl 0 rfl ?_
      refine Own.istore W4 d5_51 53 rfl #[.val (.ref x), .val (.int 0), .val (.int 2), .val (.int ch2), .val (.int 0)] rfl ?_
      refine Own.iload W4 d5_53 55 rfl 0 rfl ?_
      refine Own.ifYes W4 d5_55 64 (by decide) (by decide) (by decide) ?_
      refine Own.iloadN W4 d5_64 65 rfl ch2 rfl ?_
      by_cases hz : ch2 = (0 : Int32)
      · skip
        refine Own.ifYes W4 d5_65 75 (XT.i0_eq_t hz) (by decide) (by decide) ?_
        refine Own.iloadN W4 d5_75 76 rfl 2 rfl ?_
        exact Own.retI W4 (by decide) (by decide) rfl d5_76 ⟨Or.inr ⟨_, rfl, by decide, hu.trans (uns_bad1 (Or.inl hz))⟩, rfl⟩
      · skip
        refine Own.ifNo W4 d5_65 68 (XT.i0_eq_f hz) rfl ?_
        refine Own.iloadN W4 d5_68 69 rfl ch2 rfl ?_
        refine Own.callS W4 (tw hw 89 rfl) (tw hw 90 rfl) (tw hw 86 rfl) (tw hw 91 rfl) (by decide) (argsL := [(.int ch2)]) (rest := []) (Own.Con.pay (con_isu hw hEL ch2 W4.old) W4 (tw hw 91 rfl) (tw hw 86 rfl) (len := 3) (wd := 0) (by decide) (by decide) (fun _ q => nomatch q)) rfl (lenOf pd_15 rfl) rfl (lb rfl) d5_69 72 rfl 0 0 (lb rfl) (lb rfl) (lb rfl) (lb rfl) ?_
        intro v7 T7 h7 u7 W7 R7 hq
        obtain ⟨rfl, eh7⟩ := hq
        have ei7 := eh7.symm; subst ei7
        by_cases hs : sB ch2 = true
        · skip
          rw [b2i_t hs]
          show Own.Go _ _ _ _ _ 72 #[.val (.ref x), .val (.int 0), .val (.int 2), .val (.int ch2), .val (.int 0)] [.int 1]
          refine Own.ifNo W7 d5_72 75 (by decide) rfl ?_
          refine Own.iloadN W7 d5_75 76 rfl 2 rfl ?_
          exact Own.retI W7 (by decide) (by decide) rfl d5_76 ⟨Or.inr ⟨_, rfl, by decide, hu.trans (uns_bad1 (Or.inr hs))⟩, rfl⟩
        · skip
          rw [b2i_f hs]
          show Own.Go _ _ _ _ _ 72 #[.val (.ref x), .val (.int 0), .val (.int 2), .val (.int ch2), .val (.int 0)] [.int 0]
          refine Own.ifYes W7 d5_72 77 (by decide) (by decide) (by decide) ?_
          refine Own.iinc W7 d5_77 80 rfl rfl #[.val (.ref x), .val (.int 0), .val (.int 3), .val (.int ch2), .val (.int 0)] rfl ?_
          refine Own.goto W7 d5_80 2 (by decide) (by decide) ?_
          exact J3 _ _ _ _ W7 (hu.trans (uns_ok1 hz hs))
  have J1 : ∀ (vJ1 : Vm) (TJ1 : State) (a_ : Int32) (b_ : Int32), Own.Here G X bUna3 vJ1 TJ1 h 0 0 → uns [ch0, ch1, ch2] = uns [ch1, ch2] → Own.Go G X bUna3 (fun v h' => ((v = some (.int (-1)) ∧ uns [ch0, ch1, ch2] = true) ∨ (∃ j : Int32, v = some (.int j) ∧ ¬ j < 0 ∧ uns [ch0, ch1, ch2] = false)) ∧ h' = h) TJ1 2 #[.val (.ref x), .val (.int 0), .val (.int 1), .val (.int a_), .val (.int b_)] [] := by
    intro vJ1 TJ1 a_ b_ WJ1 hu
    refine Own.iloadN WJ1 d5_2 3 rfl 1 rfl ?_
    refine Own.aloadN WJ1 d5_3 4 rfl (.ref x) rfl rfl ?_
    refine Own.callV WJ1 (tw hw 29 rfl) (tw hw 30 rfl) (fun s q => notFace_of_selects (args := #[]) (mvT (s := s) q (tw hw 32 rfl))) (tw hw 32 rfl) (tw hw 31 rfl) (by decide) (argsL := []) (rest := [.int 1]) (Own.payLenU (wL hw) (kI := 4) (tw hw 2 rfl) WJ1 Sx hS hcz (len := 3) (wd := 1) (by decide) (by decide)) Ex rfl (lenOf pd_13 rfl) rfl (lb rfl) d5_4 7 rfl 0 0 (lb rfl) (lb rfl) (lb rfl) (lb rfl) ?_
    intro v8 T8 h8 u8 W8 R8 hq
    obtain ⟨rfl, eh8⟩ := hq
    have ei8 := eh8.symm; subst ei8
    show Own.Go _ _ _ _ _ 7 #[.val (.ref x), .val (.int 0), .val (.int 1), .val (.int a_), .val (.int b_)] [.int 3, .int 1]
    refine Own.icmpNo W8 d5_7 10 (by decide) rfl ?_
    refine Own.aloadN W8 d5_10 11 rfl (.ref x) rfl rfl ?_
    refine Own.iloadN W8 d5_11 12 rfl 1 rfl ?_
    refine Own.callV W8 (tw hw 62 rfl) (tw hw 63 rfl) (fun s q => notFace_of_selects (args := #[]) (mvT (s := s) q (tw hw 65 rfl))) (tw hw 65 rfl) (tw hw 64 rfl) (by decide) (argsL := [.int 1]) (rest := []) (payChU1 hw hEL hmem hS hcz SF rfm TA TH TL W8 Sx (lb rfl) (len := 3) (wd := 0) (by decide) (by decide)) Ex rfl (lenOf pd_14 rfl) rfl (lb rfl) d5_12 15 rfl 0 0 (lb rfl) (lb rfl) (lb rfl) (lb rfl) ?_
    intro v9 T9 h9 u9 W9 R9 hq
    obtain ⟨rfl, eh9⟩ := hq
    have ei9 := eh9.symm; subst ei9
    show Own.Go _ _ _ _ _ 15 #[.val (.ref x), .val (.int 0), .val (.int 1), .val (.int a_), .val (.int b_)] [(.int ch1)]
    refine Own.istoreN W9 d5_15 16 rfl #[.val (.ref x), .val (.int 0), .val (.int 1), .val (.int ch1), .val (.int b_)] rfl ?_
    refine Own.iloadN W9 d5_16 17 rfl ch1 rfl ?_
    refine Own.callS W9 (tw hw 84 rfl) (tw hw 85 rfl) (tw hw 86 rfl) (tw hw 87 rfl) (by decide) (argsL := [(.int ch1)]) (rest := []) (Own.Con.pay (con_ih hw hEL ch1 W9.old) W9 (tw hw 87 rfl) (tw hw 86 rfl) (len := 3) (wd := 0) (by decide) (by decide) (fun _ q => nomatch q)) rfl (lenOf pd_15 rfl) rfl (lb rfl) d5_17 20 rfl 0 0 (lb rfl) (lb rfl) (lb rfl) (lb rfl) ?_
    intro v10 T10 h10 u10 W10 R10 hq
    obtain ⟨rfl, eh10⟩ := hq
    have ei10 := eh10.symm; subst ei10
    by_cases hH : hB ch1 = true
    · skip
      rw [b2i_t hH]
      show Own.Go _ _ _ _ _ 20 #[.val (.ref x), .val (.int 0), .val (.int 1), .val (.int ch1), .val (.int b_)] [.int 1]
      refine Own.ifNo W10 d5_20 23 (by decide) rfl ?_
      refine Own.iloadN W10 d5_23 24 rfl 1 rfl ?_
      refine Own.iconst W10 d5_24 25 rfl 1 rfl ?_
      refine Own.iadd W10 d5_25 26 rfl ?_
      refine Own.aloadN W10 d5_26 27 rfl (.ref x) rfl rfl ?_
      refine Own.callV W10 (tw hw 29 rfl) (tw hw 30 rfl) (fun s q => notFace_of_selects (args := #[]) (mvT (s := s) q (tw hw 32 rfl))) (tw hw 32 rfl) (tw hw 31 rfl) (by decide) (argsL := []) (rest := [.int 2]) (Own.payLenU (wL hw) (kI := 4) (tw hw 2 rfl) W10 Sx hS hcz (len := 3) (wd := 1) (by decide) (by decide)) Ex rfl (lenOf pd_13 rfl) rfl (lb rfl) d5_27 30 rfl 0 0 (lb rfl) (lb rfl) (lb rfl) (lb rfl) ?_
      intro v11 T11 h11 u11 W11 R11 hq
      obtain ⟨rfl, eh11⟩ := hq
      have ei11 := eh11.symm; subst ei11
      show Own.Go _ _ _ _ _ 30 #[.val (.ref x), .val (.int 0), .val (.int 1), .val (.int ch1), .val (.int b_)] [.int 3, .int 2]
      refine Own.icmpNo W11 d5_30 33 (by decide) rfl ?_
      refine Own.aloadN W11 d5_33 34 rfl (.ref x) rfl rfl ?_
      refine Own.iloadN W11 d5_34 35 rfl 1 rfl ?_
      refine Own.iconst W11 d5_35 36 rfl 1 rfl ?_
      refine Own.iadd W11 d5_36 37 rfl ?_
      refine Own.callV W11 (tw hw 62 rfl) (tw hw 63 rfl) (fun s q => notFace_of_selects (args := #[]) (mvT (s := s) q (tw hw 65 rfl))) (tw hw 65 rfl) (tw hw 64 rfl) (by decide) (argsL := [.int 2]) (rest := []) (payChU2 hw hEL hmem hS hcz SF rfm TA TH TL W11 Sx (lb rfl) (len := 3) (wd := 0) (by decide) (by decide)) Ex rfl (lenOf pd_14 rfl) rfl (lb rfl) d5_37 40 rfl 0 0 (lb rfl) (lb rfl) (lb rfl) (lb rfl) ?_
      intro v12 T12 h12 u12 W12 R12 hq
      obtain ⟨rfl, eh12⟩ := hq
      have ei12 := eh12.symm; subst ei12
      show Own.Go _ _ _ _ _ 40 #[.val (.ref x), .val (.int 0), .val (.int 1), .val (.int ch1), .val (.int b_)] [(.int ch2)]
      refine Own.callS W12 (tw hw 125 rfl) (tw hw 126 rfl) (tw hw 86 rfl) (tw hw 127 rfl) (by decide) (argsL := [(.int ch2)]) (rest := []) (Own.Con.pay (con_il hw hEL ch2 W12.old) W12 (tw hw 127 rfl) (tw hw 86 rfl) (len := 3) (wd := 0) (by decide) (by decide) (fun _ q => nomatch q)) rfl (lenOf pd_15 rfl) rfl (lb rfl) d5_40 43 rfl 0 0 (lb rfl) (lb rfl) (lb rfl) (lb rfl) ?_
      intro v13 T13 h13 u13 W13 R13 hq
      obtain ⟨rfl, eh13⟩ := hq
      have ei13 := eh13.symm; subst ei13
      by_cases hL : lB ch2 = true
      · skip
        rw [b2i_t hL]
        show Own.Go _ _ _ _ _ 43 #[.val (.ref x), .val (.int 0), .val (.int 1), .val (.int ch1), .val (.int b_)] [.int 1]
        refine Own.ifNo W13 d5_43 46 (by decide) rfl ?_
        refine Own.iconst W13 d5_46 47 rfl 1 rfl ?_
        refine Own.goto W13 d5_47 51 (by decide) (by decide) ?_
        refine Own.istore W13 d5_51 53 rfl #[.val (.ref x), .val (.int 0), .val (.int 1), .val (.int ch1), .val (.int 1)] rfl ?_
        refine Own.iload W13 d5_53 55 rfl 1 rfl ?_
        refine Own.ifNo W13 d5_55 58 (by decide) rfl ?_
        refine Own.iinc W13 d5_58 61 rfl rfl #[.val (.ref x), .val (.int 0), .val (.int 2), .val (.int ch1), .val (.int 1)] rfl ?_
        refine Own.goto W13 d5_61 77 (by decide) (by decide) ?_
        refine Own.iinc W13 d5_77 80 rfl rfl #[.val (.ref x), .val (.int 0), .val (.int 3), .val (.int ch1), .val (.int 1)] rfl ?_
        refine Own.goto W13 d5_80 2 (by decide) (by decide) ?_
        exact J3 _ _ _ _ W13 (hu.trans (uns_pair hH hL))
      · skip
        rw [b2i_f hL]
        show Own.Go _ _ _ _ _ 43 #[.val (.ref x), .val (.int 0), .val (.int 1), .val (.int ch1), .val (.int b_)] [.int 0]
        refine Own.ifYes W13 d5_43 50 (by decide) (by decide) (by decide) ?_
        refine Own.iconst W13 d5_50 51 rfl 0 rfl ?_
        refine Own.istore W13 d5_51 53 rfl #[.val (.ref x), .val (.int 0), .val (.int 1), .val (.int ch1), .val (.int 0)] rfl ?_
        refine Own.iload W13 d5_53 55 rfl 0 rfl ?_
        refine Own.ifYes W13 d5_55 64 (by decide) (by decide) (by decide) ?_
        refine Own.iloadN W13 d5_64 65 rfl ch1 rfl ?_
        by_cases hz : ch1 = (0 : Int32)
        · skip
          refine Own.ifYes W13 d5_65 75 (XT.i0_eq_t hz) (by decide) (by decide) ?_
          refine Own.iloadN W13 d5_75 76 rfl 1 rfl ?_
          exact Own.retI W13 (by decide) (by decide) rfl d5_76 ⟨Or.inr ⟨_, rfl, by decide, hu.trans (uns_bad2 (fun q => hL q.2) (Or.inl hz))⟩, rfl⟩
        · skip
          refine Own.ifNo W13 d5_65 68 (XT.i0_eq_f hz) rfl ?_
          refine Own.iloadN W13 d5_68 69 rfl ch1 rfl ?_
          refine Own.callS W13 (tw hw 89 rfl) (tw hw 90 rfl) (tw hw 86 rfl) (tw hw 91 rfl) (by decide) (argsL := [(.int ch1)]) (rest := []) (Own.Con.pay (con_isu hw hEL ch1 W13.old) W13 (tw hw 91 rfl) (tw hw 86 rfl) (len := 3) (wd := 0) (by decide) (by decide) (fun _ q => nomatch q)) rfl (lenOf pd_15 rfl) rfl (lb rfl) d5_69 72 rfl 0 0 (lb rfl) (lb rfl) (lb rfl) (lb rfl) ?_
          intro v14 T14 h14 u14 W14 R14 hq
          obtain ⟨rfl, eh14⟩ := hq
          have ei14 := eh14.symm; subst ei14
          by_cases hs : sB ch1 = true
          · skip
            rw [b2i_t hs]
            show Own.Go _ _ _ _ _ 72 #[.val (.ref x), .val (.int 0), .val (.int 1), .val (.int ch1), .val (.int 0)] [.int 1]
            refine Own.ifNo W14 d5_72 75 (by decide) rfl ?_
            refine Own.iloadN W14 d5_75 76 rfl 1 rfl ?_
            exact Own.retI W14 (by decide) (by decide) rfl d5_76 ⟨Or.inr ⟨_, rfl, by decide, hu.trans (uns_bad2 (fun q => hL q.2) (Or.inr hs))⟩, rfl⟩
          · skip
            rw [b2i_f hs]
            show Own.Go _ _ _ _ _ 72 #[.val (.ref x), .val (.int 0), .val (.int 1), .val (.int ch1), .val (.int 0)] [.int 0]
            refine Own.ifYes W14 d5_72 77 (by decide) (by decide) (by decide) ?_
            refine Own.iinc W14 d5_77 80 rfl rfl #[.val (.ref x), .val (.int 0), .val (.int 2), .val (.int ch1), .val (.int 0)] rfl ?_
            refine Own.goto W14 d5_80 2 (by decide) (by decide) ?_
            exact J2 _ _ _ _ W14 (hu.trans (uns_ok2 (fun q => hL q.2) hz hs))
    · skip
      rw [b2i_f hH]
      show Own.Go _ _ _ _ _ 20 #[.val (.ref x), .val (.int 0), .val (.int 1), .val (.int ch1), .val (.int b_)] [.int 0]
      refine Own.ifYes W10 d5_20 50 (by decide) (by decide) (by decide) ?_
      refine Own.iconst W10 d5_50 51 rfl 0 rfl ?_
      refine Own.istore W10 d5_51 53 rfl #[.val (.ref x), .val (.int 0), .val (.int 1), .val (.int ch1), .val (.int 0)] rfl ?_
      refine Own.iload W10 d5_53 55 rfl 0 rfl ?_
      refine Own.ifYes W10 d5_55 64 (by decide) (by decide) (by decide) ?_
      refine Own.iloadN W10 d5_64 65 rfl ch1 rfl ?_
      by_cases hz : ch1 = (0 : Int32)
      · skip
        refine Own.ifYes W10 d5_65 75 (XT.i0_eq_t hz) (by decide) (by decide) ?_
        refine Own.iloadN W10 d5_75 76 rfl 1 rfl ?_
        exact Own.retI W10 (by decide) (by decide) rfl d5_76 ⟨Or.inr ⟨_, rfl, by decide, hu.trans (uns_bad2 (fun q => hH q.1) (Or.inl hz))⟩, rfl⟩
      · skip
        refine Own.ifNo W10 d5_65 68 (XT.i0_eq_f hz) rfl ?_
        refine Own.iloadN W10 d5_68 69 rfl ch1 rfl ?_
        refine Own.callS W10 (tw hw 89 rfl) (tw hw 90 rfl) (tw hw 86 rfl) (tw hw 91 rfl) (by decide) (argsL := [(.int ch1)]) (rest := []) (Own.Con.pay (con_isu hw hEL ch1 W10.old) W10 (tw hw 91 rfl) (tw hw 86 rfl) (len := 3) (wd := 0) (by decide) (by decide) (fun _ q => nomatch q)) rfl (lenOf pd_15 rfl) rfl (lb rfl) d5_69 72 rfl 0 0 (lb rfl) (lb rfl) (lb rfl) (lb rfl) ?_
        intro v15 T15 h15 u15 W15 R15 hq
        obtain ⟨rfl, eh15⟩ := hq
        have ei15 := eh15.symm; subst ei15
        by_cases hs : sB ch1 = true
        · skip
          rw [b2i_t hs]
          show Own.Go _ _ _ _ _ 72 #[.val (.ref x), .val (.int 0), .val (.int 1), .val (.int ch1), .val (.int 0)] [.int 1]
          refine Own.ifNo W15 d5_72 75 (by decide) rfl ?_
          refine Own.iloadN W15 d5_75 76 rfl 1 rfl ?_
          exact Own.retI W15 (by decide) (by decide) rfl d5_76 ⟨Or.inr ⟨_, rfl, by decide, hu.trans (uns_bad2 (fun q => hH q.1) (Or.inr hs))⟩, rfl⟩
        · skip
          rw [b2i_f hs]
          show Own.Go _ _ _ _ _ 72 #[.val (.ref x), .val (.int 0), .val (.int 1), .val (.int ch1), .val (.int 0)] [.int 0]
          refine Own.ifYes W15 d5_72 77 (by decide) (by decide) (by decide) ?_
          refine Own.iinc W15 d5_77 80 rfl rfl #[.val (.ref x), .val (.int 0), .val (.int 2), .val (.int ch1), .val (.int 0)] rfl ?_
          refine Own.goto W15 d5_80 2 (by decide) (by decide) ?_
          exact J2 _ _ _ _ W15 (hu.trans (uns_ok2 (fun q => hH q.1) hz hs))
  have hu0 : uns [ch0, ch1, ch2] = uns [ch0, ch1, ch2] := rfl
  refine Own.iloadN W0 d5_2 3 rfl 0 rfl ?_
  refine Own.aloadN W0 d5_3 4 rfl (.ref x) rfl rfl ?_
  refine Own.callV W0 (tw hw 29 rfl) (tw hw 30 rfl) (fun s q => notFace_of_selects (args := #[]) (mvT (s := s) q (tw hw 32 rfl))) (tw hw 32 rfl) (tw hw 31 rfl) (by decide) (argsL := []) (rest := [.int 0]) (Own.payLenU (wL hw) (kI := 4) (tw hw 2 rfl) W0 Sx hS hcz (len := 3) (wd := 1) (by decide) (by decide)) Ex rfl (lenOf pd_13 rfl) rfl (lb rfl) d5_4 7 rfl 0 0 (lb rfl) (lb rfl) (lb rfl) (lb rfl) ?_
  intro v16 T16 h16 u16 W16 R16 hq
  obtain ⟨rfl, eh16⟩ := hq
  have ei16 := eh16.symm; subst ei16
  show Own.Go _ _ _ _ _ 7 #[.val (.ref x), .val (.int 0), .val (.int 0), .unset, .unset] [.int 3, .int 0]
  refine Own.icmpNo W16 d5_7 10 (by decide) rfl ?_
  refine Own.aloadN W16 d5_10 11 rfl (.ref x) rfl rfl ?_
  refine Own.iloadN W16 d5_11 12 rfl 0 rfl ?_
  refine Own.callV W16 (tw hw 62 rfl) (tw hw 63 rfl) (fun s q => notFace_of_selects (args := #[]) (mvT (s := s) q (tw hw 65 rfl))) (tw hw 65 rfl) (tw hw 64 rfl) (by decide) (argsL := [.int 0]) (rest := []) (payChU0 hw hEL hmem hS hcz SF rfm TA TH TL W16 Sx (lb rfl) (len := 3) (wd := 0) (by decide) (by decide)) Ex rfl (lenOf pd_14 rfl) rfl (lb rfl) d5_12 15 rfl 0 0 (lb rfl) (lb rfl) (lb rfl) (lb rfl) ?_
  intro v17 T17 h17 u17 W17 R17 hq
  obtain ⟨rfl, eh17⟩ := hq
  have ei17 := eh17.symm; subst ei17
  show Own.Go _ _ _ _ _ 15 #[.val (.ref x), .val (.int 0), .val (.int 0), .unset, .unset] [(.int ch0)]
  refine Own.istoreN W17 d5_15 16 rfl #[.val (.ref x), .val (.int 0), .val (.int 0), .val (.int ch0), .unset] rfl ?_
  refine Own.iloadN W17 d5_16 17 rfl ch0 rfl ?_
  refine Own.callS W17 (tw hw 84 rfl) (tw hw 85 rfl) (tw hw 86 rfl) (tw hw 87 rfl) (by decide) (argsL := [(.int ch0)]) (rest := []) (Own.Con.pay (con_ih hw hEL ch0 W17.old) W17 (tw hw 87 rfl) (tw hw 86 rfl) (len := 3) (wd := 0) (by decide) (by decide) (fun _ q => nomatch q)) rfl (lenOf pd_15 rfl) rfl (lb rfl) d5_17 20 rfl 0 0 (lb rfl) (lb rfl) (lb rfl) (lb rfl) ?_
  intro v18 T18 h18 u18 W18 R18 hq
  obtain ⟨rfl, eh18⟩ := hq
  have ei18 := eh18.symm; subst ei18
  by_cases hH : hB ch0 = true
  · skip
    rw [b2i_t hH]
    show Own.Go _ _ _ _ _ 20 #[.val (.ref x), .val (.int 0), .val (.int 0), .val (.int ch0), .unset] [.int 1]
    refine Own.ifNo W18 d5_20 23 (by decide) rfl ?_
    refine Own.iloadN W18 d5_23 24 rfl 0 rfl ?_
    refine Own.iconst W18 d5_24 25 rfl 1 rfl ?_
    refine Own.iadd W18 d5_25 26 rfl ?_
    refine Own.aloadN W18 d5_26 27 rfl (.ref x) rfl rfl ?_
    refine Own.callV W18 (tw hw 29 rfl) (tw hw 30 rfl) (fun s q => notFace_of_selects (args := #[]) (mvT (s := s) q (tw hw 32 rfl))) (tw hw 32 rfl) (tw hw 31 rfl) (by decide) (argsL := []) (rest := [.int 1]) (Own.payLenU (wL hw) (kI := 4) (tw hw 2 rfl) W18 Sx hS hcz (len := 3) (wd := 1) (by decide) (by decide)) Ex rfl (lenOf pd_13 rfl) rfl (lb rfl) d5_27 30 rfl 0 0 (lb rfl) (lb rfl) (lb rfl) (lb rfl) ?_
    intro v19 T19 h19 u19 W19 R19 hq
    obtain ⟨rfl, eh19⟩ := hq
    have ei19 := eh19.symm; subst ei19
    show Own.Go _ _ _ _ _ 30 #[.val (.ref x), .val (.int 0), .val (.int 0), .val (.int ch0), .unset] [.int 3, .int 1]
    refine Own.icmpNo W19 d5_30 33 (by decide) rfl ?_
    refine Own.aloadN W19 d5_33 34 rfl (.ref x) rfl rfl ?_
    refine Own.iloadN W19 d5_34 35 rfl 0 rfl ?_
    refine Own.iconst W19 d5_35 36 rfl 1 rfl ?_
    refine Own.iadd W19 d5_36 37 rfl ?_
    refine Own.callV W19 (tw hw 62 rfl) (tw hw 63 rfl) (fun s q => notFace_of_selects (args := #[]) (mvT (s := s) q (tw hw 65 rfl))) (tw hw 65 rfl) (tw hw 64 rfl) (by decide) (argsL := [.int 1]) (rest := []) (payChU1 hw hEL hmem hS hcz SF rfm TA TH TL W19 Sx (lb rfl) (len := 3) (wd := 0) (by decide) (by decide)) Ex rfl (lenOf pd_14 rfl) rfl (lb rfl) d5_37 40 rfl 0 0 (lb rfl) (lb rfl) (lb rfl) (lb rfl) ?_
    intro v20 T20 h20 u20 W20 R20 hq
    obtain ⟨rfl, eh20⟩ := hq
    have ei20 := eh20.symm; subst ei20
    show Own.Go _ _ _ _ _ 40 #[.val (.ref x), .val (.int 0), .val (.int 0), .val (.int ch0), .unset] [(.int ch1)]
    refine Own.callS W20 (tw hw 125 rfl) (tw hw 126 rfl) (tw hw 86 rfl) (tw hw 127 rfl) (by decide) (argsL := [(.int ch1)]) (rest := []) (Own.Con.pay (con_il hw hEL ch1 W20.old) W20 (tw hw 127 rfl) (tw hw 86 rfl) (len := 3) (wd := 0) (by decide) (by decide) (fun _ q => nomatch q)) rfl (lenOf pd_15 rfl) rfl (lb rfl) d5_40 43 rfl 0 0 (lb rfl) (lb rfl) (lb rfl) (lb rfl) ?_
    intro v21 T21 h21 u21 W21 R21 hq
    obtain ⟨rfl, eh21⟩ := hq
    have ei21 := eh21.symm; subst ei21
    by_cases hL : lB ch1 = true
    · skip
      rw [b2i_t hL]
      show Own.Go _ _ _ _ _ 43 #[.val (.ref x), .val (.int 0), .val (.int 0), .val (.int ch0), .unset] [.int 1]
      refine Own.ifNo W21 d5_43 46 (by decide) rfl ?_
      refine Own.iconst W21 d5_46 47 rfl 1 rfl ?_
      refine Own.goto W21 d5_47 51 (by decide) (by decide) ?_
      refine Own.istore W21 d5_51 53 rfl #[.val (.ref x), .val (.int 0), .val (.int 0), .val (.int ch0), .val (.int 1)] rfl ?_
      refine Own.iload W21 d5_53 55 rfl 1 rfl ?_
      refine Own.ifNo W21 d5_55 58 (by decide) rfl ?_
      refine Own.iinc W21 d5_58 61 rfl rfl #[.val (.ref x), .val (.int 0), .val (.int 1), .val (.int ch0), .val (.int 1)] rfl ?_
      refine Own.goto W21 d5_61 77 (by decide) (by decide) ?_
      refine Own.iinc W21 d5_77 80 rfl rfl #[.val (.ref x), .val (.int 0), .val (.int 2), .val (.int ch0), .val (.int 1)] rfl ?_
      refine Own.goto W21 d5_80 2 (by decide) (by decide) ?_
      exact J2 _ _ _ _ W21 (hu0.trans (uns_pair hH hL))
    · skip
      rw [b2i_f hL]
      show Own.Go _ _ _ _ _ 43 #[.val (.ref x), .val (.int 0), .val (.int 0), .val (.int ch0), .unset] [.int 0]
      refine Own.ifYes W21 d5_43 50 (by decide) (by decide) (by decide) ?_
      refine Own.iconst W21 d5_50 51 rfl 0 rfl ?_
      refine Own.istore W21 d5_51 53 rfl #[.val (.ref x), .val (.int 0), .val (.int 0), .val (.int ch0), .val (.int 0)] rfl ?_
      refine Own.iload W21 d5_53 55 rfl 0 rfl ?_
      refine Own.ifYes W21 d5_55 64 (by decide) (by decide) (by decide) ?_
      refine Own.iloadN W21 d5_64 65 rfl ch0 rfl ?_
      by_cases hz : ch0 = (0 : Int32)
      · skip
        refine Own.ifYes W21 d5_65 75 (XT.i0_eq_t hz) (by decide) (by decide) ?_
        refine Own.iloadN W21 d5_75 76 rfl 0 rfl ?_
        exact Own.retI W21 (by decide) (by decide) rfl d5_76 ⟨Or.inr ⟨_, rfl, by decide, hu0.trans (uns_bad2 (fun q => hL q.2) (Or.inl hz))⟩, rfl⟩
      · skip
        refine Own.ifNo W21 d5_65 68 (XT.i0_eq_f hz) rfl ?_
        refine Own.iloadN W21 d5_68 69 rfl ch0 rfl ?_
        refine Own.callS W21 (tw hw 89 rfl) (tw hw 90 rfl) (tw hw 86 rfl) (tw hw 91 rfl) (by decide) (argsL := [(.int ch0)]) (rest := []) (Own.Con.pay (con_isu hw hEL ch0 W21.old) W21 (tw hw 91 rfl) (tw hw 86 rfl) (len := 3) (wd := 0) (by decide) (by decide) (fun _ q => nomatch q)) rfl (lenOf pd_15 rfl) rfl (lb rfl) d5_69 72 rfl 0 0 (lb rfl) (lb rfl) (lb rfl) (lb rfl) ?_
        intro v22 T22 h22 u22 W22 R22 hq
        obtain ⟨rfl, eh22⟩ := hq
        have ei22 := eh22.symm; subst ei22
        by_cases hs : sB ch0 = true
        · skip
          rw [b2i_t hs]
          show Own.Go _ _ _ _ _ 72 #[.val (.ref x), .val (.int 0), .val (.int 0), .val (.int ch0), .val (.int 0)] [.int 1]
          refine Own.ifNo W22 d5_72 75 (by decide) rfl ?_
          refine Own.iloadN W22 d5_75 76 rfl 0 rfl ?_
          exact Own.retI W22 (by decide) (by decide) rfl d5_76 ⟨Or.inr ⟨_, rfl, by decide, hu0.trans (uns_bad2 (fun q => hL q.2) (Or.inr hs))⟩, rfl⟩
        · skip
          rw [b2i_f hs]
          show Own.Go _ _ _ _ _ 72 #[.val (.ref x), .val (.int 0), .val (.int 0), .val (.int ch0), .val (.int 0)] [.int 0]
          refine Own.ifYes W22 d5_72 77 (by decide) (by decide) (by decide) ?_
          refine Own.iinc W22 d5_77 80 rfl rfl #[.val (.ref x), .val (.int 0), .val (.int 1), .val (.int ch0), .val (.int 0)] rfl ?_
          refine Own.goto W22 d5_80 2 (by decide) (by decide) ?_
          exact J1 _ _ _ _ W22 (hu0.trans (uns_ok2 (fun q => hL q.2) hz hs))
  · skip
    rw [b2i_f hH]
    show Own.Go _ _ _ _ _ 20 #[.val (.ref x), .val (.int 0), .val (.int 0), .val (.int ch0), .unset] [.int 0]
    refine Own.ifYes W18 d5_20 50 (by decide) (by decide) (by decide) ?_
    refine Own.iconst W18 d5_50 51 rfl 0 rfl ?_
    refine Own.istore W18 d5_51 53 rfl #[.val (.ref x), .val (.int 0), .val (.int 0), .val (.int ch0), .val (.int 0)] rfl ?_
    refine Own.iload W18 d5_53 55 rfl 0 rfl ?_
    refine Own.ifYes W18 d5_55 64 (by decide) (by decide) (by decide) ?_
    refine Own.iloadN W18 d5_64 65 rfl ch0 rfl ?_
    by_cases hz : ch0 = (0 : Int32)
    · skip
      refine Own.ifYes W18 d5_65 75 (XT.i0_eq_t hz) (by decide) (by decide) ?_
      refine Own.iloadN W18 d5_75 76 rfl 0 rfl ?_
      exact Own.retI W18 (by decide) (by decide) rfl d5_76 ⟨Or.inr ⟨_, rfl, by decide, hu0.trans (uns_bad2 (fun q => hH q.1) (Or.inl hz))⟩, rfl⟩
    · skip
      refine Own.ifNo W18 d5_65 68 (XT.i0_eq_f hz) rfl ?_
      refine Own.iloadN W18 d5_68 69 rfl ch0 rfl ?_
      refine Own.callS W18 (tw hw 89 rfl) (tw hw 90 rfl) (tw hw 86 rfl) (tw hw 91 rfl) (by decide) (argsL := [(.int ch0)]) (rest := []) (Own.Con.pay (con_isu hw hEL ch0 W18.old) W18 (tw hw 91 rfl) (tw hw 86 rfl) (len := 3) (wd := 0) (by decide) (by decide) (fun _ q => nomatch q)) rfl (lenOf pd_15 rfl) rfl (lb rfl) d5_69 72 rfl 0 0 (lb rfl) (lb rfl) (lb rfl) (lb rfl) ?_
      intro v23 T23 h23 u23 W23 R23 hq
      obtain ⟨rfl, eh23⟩ := hq
      have ei23 := eh23.symm; subst ei23
      by_cases hs : sB ch0 = true
      · skip
        rw [b2i_t hs]
        show Own.Go _ _ _ _ _ 72 #[.val (.ref x), .val (.int 0), .val (.int 0), .val (.int ch0), .val (.int 0)] [.int 1]
        refine Own.ifNo W23 d5_72 75 (by decide) rfl ?_
        refine Own.iloadN W23 d5_75 76 rfl 0 rfl ?_
        exact Own.retI W23 (by decide) (by decide) rfl d5_76 ⟨Or.inr ⟨_, rfl, by decide, hu0.trans (uns_bad2 (fun q => hH q.1) (Or.inr hs))⟩, rfl⟩
      · skip
        rw [b2i_f hs]
        show Own.Go _ _ _ _ _ 72 #[.val (.ref x), .val (.int 0), .val (.int 0), .val (.int ch0), .val (.int 0)] [.int 0]
        refine Own.ifYes W23 d5_72 77 (by decide) (by decide) (by decide) ?_
        refine Own.iinc W23 d5_77 80 rfl rfl #[.val (.ref x), .val (.int 0), .val (.int 1), .val (.int ch0), .val (.int 0)] rfl ?_
        refine Own.goto W23 d5_80 2 (by decide) (by decide) ?_
        exact J1 _ _ _ _ W23 (hu0.trans (uns_ok2 (fun q => hH q.1) hz hs))
set_option maxRecDepth 65536 in
set_option maxHeartbeats 40000000 in
theorem con_una4 {G : Own.Gl} (hw : ∀ d ∈ tables_1, d.before G.a0 G.Z = true) (hEL : EW G.Z G.a0 G.EL) (hmem : (Own.ST, 7) ∈ G.EL) {cz : Int32} (hS : Sta G.Z G.Z.heap Own.ST "COMPACT_STRINGS" "Z" (.int cz)) (hcz : ¬ cz = 0) {fm : Value} (SF : Sta G.Z G.Z.heap "jdk/internal/util/Preconditions" "SIOOBE_FORMATTER" "Ljava/util/function/BiFunction;" fm) (rfm : fm.isRef = true) (TA : Sta G.Z G.Z.heap "java/lang/StringUTF16" "$assertionsDisabled" "Z" (.int 1)) (TH : Sta G.Z G.Z.heap "java/lang/StringUTF16" "HI_BYTE_SHIFT" "I" (.int 0)) (TL : Sta G.Z G.Z.heap "java/lang/StringUTF16" "LO_BYTE_SHIFT" "I" (.int 8)) {ch0 ch1 ch2 ch3 : Int32} {st : Int32} (hst : st = 0) {x : Addr} {h : Heap} (hO : Old G.Z G.n0 h) (Sx : Own.Uni G.Z h x [ch0, ch1, ch2, ch3]) :
    Own.Con G [] bUna4 #[.ref x, .int st] h [] (fun v h' => ((v = some (.int (-1)) ∧ uns [ch0, ch1, ch2, ch3] = true) ∨ (∃ j : Int32, v = some (.int j) ∧ ¬ j < 0 ∧ uns [ch0, ch1, ch2, ch3] = false)) ∧ h' = h) := by
  refine Own.Con.intro (plainFor_of_name pn_5) hO hEL _ (fun m => ef_bUna4 m x st) ?_
  intro X T0 W0 sf
  subst hst
  have Ex := Sx.exa
  refine Own.iloadN W0 d5_0 1 rfl 0 rfl ?_
  refine Own.istoreN W0 d5_1 2 rfl #[.val (.ref x), .val (.int 0), .val (.int 0), .unset, .unset] rfl ?_
  have J4 : ∀ (vJ4 : Vm) (TJ4 : State) (a_ : Int32) (b_ : Int32), Own.Here G X bUna4 vJ4 TJ4 h 0 0 → uns [ch0, ch1, ch2, ch3] = uns [] → Own.Go G X bUna4 (fun v h' => ((v = some (.int (-1)) ∧ uns [ch0, ch1, ch2, ch3] = true) ∨ (∃ j : Int32, v = some (.int j) ∧ ¬ j < 0 ∧ uns [ch0, ch1, ch2, ch3] = false)) ∧ h' = h) TJ4 2 #[.val (.ref x), .val (.int 0), .val (.int 4), .val (.int a_), .val (.int b_)] [] := by
    intro vJ4 TJ4 a_ b_ WJ4 hu
    refine Own.iloadN WJ4 d5_2 3 rfl 4 rfl ?_
    refine Own.aloadN WJ4 d5_3 4 rfl (.ref x) rfl rfl ?_
    refine Own.callV WJ4 (tw hw 29 rfl) (tw hw 30 rfl) (fun s q => notFace_of_selects (args := #[]) (mvT (s := s) q (tw hw 32 rfl))) (tw hw 32 rfl) (tw hw 31 rfl) (by decide) (argsL := []) (rest := [.int 4]) (Own.payLenU (wL hw) (kI := 4) (tw hw 2 rfl) WJ4 Sx hS hcz (len := 3) (wd := 1) (by decide) (by decide)) Ex rfl (lenOf pd_13 rfl) rfl (lb rfl) d5_4 7 rfl 0 0 (lb rfl) (lb rfl) (lb rfl) (lb rfl) ?_
    intro v1 T1 h1 u1 W1 R1 hq
    obtain ⟨rfl, eh1⟩ := hq
    have ei1 := eh1.symm; subst ei1
    show Own.Go _ _ _ _ _ 7 #[.val (.ref x), .val (.int 0), .val (.int 4), .val (.int a_), .val (.int b_)] [.int 4, .int 4]
    refine Own.icmpYes W1 d5_7 83 (by decide) (by decide) (by decide) ?_
    refine Own.iconst W1 d5_83 84 rfl (-1 : Int32) rfl ?_
    exact Own.retI W1 (by decide) (by decide) rfl d5_84 ⟨Or.inl ⟨rfl, hu.trans rfl⟩, rfl⟩
  have J3 : ∀ (vJ3 : Vm) (TJ3 : State) (a_ : Int32) (b_ : Int32), Own.Here G X bUna4 vJ3 TJ3 h 0 0 → uns [ch0, ch1, ch2, ch3] = uns [ch3] → Own.Go G X bUna4 (fun v h' => ((v = some (.int (-1)) ∧ uns [ch0, ch1, ch2, ch3] = true) ∨ (∃ j : Int32, v = some (.int j) ∧ ¬ j < 0 ∧ uns [ch0, ch1, ch2, ch3] = false)) ∧ h' = h) TJ3 2 #[.val (.ref x), .val (.int 0), .val (.int 3), .val (.int a_), .val (.int b_)] [] := by
    intro vJ3 TJ3 a_ b_ WJ3 hu
    refine Own.iloadN WJ3 d5_2 3 rfl 3 rfl ?_
    refine Own.aloadN WJ3 d5_3 4 rfl (.ref x) rfl rfl ?_
    refine Own.callV WJ3 (tw hw 29 rfl) (tw hw 30 rfl) (fun s q => notFace_of_selects (args := #[]) (mvT (s := s) q (tw hw 32 rfl))) (tw hw 32 rfl) (tw hw 31 rfl) (by decide) (argsL := []) (rest := [.int 3]) (Own.payLenU (wL hw) (kI := 4) (tw hw 2 rfl) WJ3 Sx hS hcz (len := 3) (wd := 1) (by decide) (by decide)) Ex rfl (lenOf pd_13 rfl) rfl (lb rfl) d5_4 7 rfl 0 0 (lb rfl) (lb rfl) (lb rfl) (lb rfl) ?_
    intro v2 T2 h2 u2 W2 R2 hq
    obtain ⟨rfl, eh2⟩ := hq
    have ei2 := eh2.symm; subst ei2
    show Own.Go _ _ _ _ _ 7 #[.val (.ref x), .val (.int 0), .val (.int 3), .val (.int a_), .val (.int b_)] [.int 4, .int 3]
    refine Own.icmpNo W2 d5_7 10 (by decide) rfl ?_
    refine Own.aloadN W2 d5_10 11 rfl (.ref x) rfl rfl ?_
    refine Own.iloadN W2 d5_11 12 rfl 3 rfl ?_
    refine Own.callV W2 (tw hw 62 rfl) (tw hw 63 rfl) (fun s q => notFace_of_selects (args := #[]) (mvT (s := s) q (tw hw 65 rfl))) (tw hw 65 rfl) (tw hw 64 rfl) (by decide) (argsL := [.int 3]) (rest := []) (payChU3 hw hEL hmem hS hcz SF rfm TA TH TL W2 Sx (lb rfl) (len := 3) (wd := 0) (by decide) (by decide)) Ex rfl (lenOf pd_14 rfl) rfl (lb rfl) d5_12 15 rfl 0 0 (lb rfl) (lb rfl) (lb rfl) (lb rfl) ?_
    intro v3 T3 h3 u3 W3 R3 hq
    obtain ⟨rfl, eh3⟩ := hq
    have ei3 := eh3.symm; subst ei3
    show Own.Go _ _ _ _ _ 15 #[.val (.ref x), .val (.int 0), .val (.int 3), .val (.int a_), .val (.int b_)] [(.int ch3)]
    refine Own.istoreN W3 d5_15 16 rfl #[.val (.ref x), .val (.int 0), .val (.int 3), .val (.int ch3), .val (.int b_)] rfl ?_
    refine Own.iloadN W3 d5_16 17 rfl ch3 rfl ?_
    refine Own.callS W3 (tw hw 84 rfl) (tw hw 85 rfl) (tw hw 86 rfl) (tw hw 87 rfl) (by decide) (argsL := [(.int ch3)]) (rest := []) (Own.Con.pay (con_ih hw hEL ch3 W3.old) W3 (tw hw 87 rfl) (tw hw 86 rfl) (len := 3) (wd := 0) (by decide) (by decide) (fun _ q => nomatch q)) rfl (lenOf pd_15 rfl) rfl (lb rfl) d5_17 20 rfl 0 0 (lb rfl) (lb rfl) (lb rfl) (lb rfl) ?_
    intro v4 T4 h4 u4 W4 R4 hq
    obtain ⟨rfl, eh4⟩ := hq
    have ei4 := eh4.symm; subst ei4
    by_cases hH : hB ch3 = true
    · skip
      rw [b2i_t hH]
      show Own.Go _ _ _ _ _ 20 #[.val (.ref x), .val (.int 0), .val (.int 3), .val (.int ch3), .val (.int b_)] [.int 1]
      refine Own.ifNo W4 d5_20 23 (by decide) rfl ?_
      refine Own.iloadN W4 d5_23 24 rfl 3 rfl ?_
      refine Own.iconst W4 d5_24 25 rfl 1 rfl ?_
      refine Own.iadd W4 d5_25 26 rfl ?_
      refine Own.aloadN W4 d5_26 27 rfl (.ref x) rfl rfl ?_
      refine Own.callV W4 (tw hw 29 rfl) (tw hw 30 rfl) (fun s q => notFace_of_selects (args := #[]) (mvT (s := s) q (tw hw 32 rfl))) (tw hw 32 rfl) (tw hw 31 rfl) (by decide) (argsL := []) (rest := [.int 4]) (Own.payLenU (wL hw) (kI := 4) (tw hw 2 rfl) W4 Sx hS hcz (len := 3) (wd := 1) (by decide) (by decide)) Ex rfl (lenOf pd_13 rfl) rfl (lb rfl) d5_27 30 rfl 0 0 (lb rfl) (lb rfl) (lb rfl) (lb rfl) ?_
      intro v5 T5 h5 u5 W5 R5 hq
      obtain ⟨rfl, eh5⟩ := hq
      have ei5 := eh5.symm; subst ei5
      show Own.Go _ _ _ _ _ 30 #[.val (.ref x), .val (.int 0), .val (.int 3), .val (.int ch3), .val (.int b_)] [.int 4, .int 4]
      refine Own.icmpYes W5 d5_30 50 (by decide) (by decide) (by decide) ?_
      refine Own.iconst W5 d5_50 51 rfl 0 rfl ?_
      refine Own.istore W5 d5_51 53 rfl #[.val (.ref x), .val (.int 0), .val (.int 3), .val (.int ch3), .val (.int 0)] rfl ?_
      refine Own.iload W5 d5_53 55 rfl 0 rfl ?_
      refine Own.ifYes W5 d5_55 64 (by decide) (by decide) (by decide) ?_
      refine Own.iloadN W5 d5_64 65 rfl ch3 rfl ?_
      by_cases hz : ch3 = (0 : Int32)
      · skip
        refine Own.ifYes W5 d5_65 75 (XT.i0_eq_t hz) (by decide) (by decide) ?_
        refine Own.iloadN W5 d5_75 76 rfl 3 rfl ?_
        exact Own.retI W5 (by decide) (by decide) rfl d5_76 ⟨Or.inr ⟨_, rfl, by decide, hu.trans (uns_bad1 (Or.inl hz))⟩, rfl⟩
      · skip
        refine Own.ifNo W5 d5_65 68 (XT.i0_eq_f hz) rfl ?_
        refine Own.iloadN W5 d5_68 69 rfl ch3 rfl ?_
        refine Own.callS W5 (tw hw 89 rfl) (tw hw 90 rfl) (tw hw 86 rfl) (tw hw 91 rfl) (by decide) (argsL := [(.int ch3)]) (rest := []) (Own.Con.pay (con_isu hw hEL ch3 W5.old) W5 (tw hw 91 rfl) (tw hw 86 rfl) (len := 3) (wd := 0) (by decide) (by decide) (fun _ q => nomatch q)) rfl (lenOf pd_15 rfl) rfl (lb rfl) d5_69 72 rfl 0 0 (lb rfl) (lb rfl) (lb rfl) (lb rfl) ?_
        intro v6 T6 h6 u6 W6 R6 hq
        obtain ⟨rfl, eh6⟩ := hq
        have ei6 := eh6.symm; subst ei6
        by_cases hs : sB ch3 = true
        · skip
          rw [b2i_t hs]
          show Own.Go _ _ _ _ _ 72 #[.val (.ref x), .val (.int 0), .val (.int 3), .val (.int ch3), .val (.int 0)] [.int 1]
          refine Own.ifNo W6 d5_72 75 (by decide) rfl ?_
          refine Own.iloadN W6 d5_75 76 rfl 3 rfl ?_
          exact Own.retI W6 (by decide) (by decide) rfl d5_76 ⟨Or.inr ⟨_, rfl, by decide, hu.trans (uns_bad1 (Or.inr hs))⟩, rfl⟩
        · skip
          rw [b2i_f hs]
          show Own.Go _ _ _ _ _ 72 #[.val (.ref x), .val (.int 0), .val (.int 3), .val (.int ch3), .val (.int 0)] [.int 0]
          refine Own.ifYes W6 d5_72 77 (by decide) (by decide) (by decide) ?_
          refine Own.iinc W6 d5_77 80 rfl rfl #[.val (.ref x), .val (.int 0), .val (.int 4), .val (.int ch3), .val (.int 0)] rfl ?_
          refine Own.goto W6 d5_80 2 (by decide) (by decide) ?_
          exact J4 _ _ _ _ W6 (hu.trans (uns_ok1 hz hs))
    · skip
      rw [b2i_f hH]
      show Own.Go _ _ _ _ _ 20 #[.val (.ref x), .val (.int 0), .val (.int 3), .val (.int ch3), .val (.int b_)] [.int 0]
      refine Own.ifYes W4 d5_20 50 (by decide) (by decide) (by decide) ?_
      refine Own.iconst W4 d5_50 51 rfl 0 rfl ?_
      refine Own.istore W4 d5_51 53 rfl #[.val (.ref x), .val (.int 0), .val (.int 3), .val (.int ch3), .val (.int 0)] rfl ?_
      refine Own.iload W4 d5_53 55 rfl 0 rfl ?_
      refine Own.ifYes W4 d5_55 64 (by decide) (by decide) (by decide) ?_
      refine Own.iloadN W4 d5_64 65 rfl ch3 rfl ?_
      by_cases hz : ch3 = (0 : Int32)
      · skip
        refine Own.ifYes W4 d5_65 75 (XT.i0_eq_t hz) (by decide) (by decide) ?_
        refine Own.iloadN W4 d5_75 76 rfl 3 rfl ?_
        exact Own.retI W4 (by decide) (by decide) rfl d5_76 ⟨Or.inr ⟨_, rfl, by decide, hu.trans (uns_bad1 (Or.inl hz))⟩, rfl⟩
      · skip
        refine Own.ifNo W4 d5_65 68 (XT.i0_eq_f hz) rfl ?_
        refine Own.iloadN W4 d5_68 69 rfl ch3 rfl ?_
        refine Own.callS W4 (tw hw 89 rfl) (tw hw 90 rfl) (tw hw 86 rfl) (tw hw 91 rfl) (by decide) (argsL := [(.int ch3)]) (rest := []) (Own.Con.pay (con_isu hw hEL ch3 W4.old) W4 (tw hw 91 rfl) (tw hw 86 rfl) (len := 3) (wd := 0) (by decide) (by decide) (fun _ q => nomatch q)) rfl (lenOf pd_15 rfl) rfl (lb rfl) d5_69 72 rfl 0 0 (lb rfl) (lb rfl) (lb rfl) (lb rfl) ?_
        intro v7 T7 h7 u7 W7 R7 hq
        obtain ⟨rfl, eh7⟩ := hq
        have ei7 := eh7.symm; subst ei7
        by_cases hs : sB ch3 = true
        · skip
          rw [b2i_t hs]
          show Own.Go _ _ _ _ _ 72 #[.val (.ref x), .val (.int 0), .val (.int 3), .val (.int ch3), .val (.int 0)] [.int 1]
          refine Own.ifNo W7 d5_72 75 (by decide) rfl ?_
          refine Own.iloadN W7 d5_75 76 rfl 3 rfl ?_
          exact Own.retI W7 (by decide) (by decide) rfl d5_76 ⟨Or.inr ⟨_, rfl, by decide, hu.trans (uns_bad1 (Or.inr hs))⟩, rfl⟩
        · skip
          rw [b2i_f hs]
          show Own.Go _ _ _ _ _ 72 #[.val (.ref x), .val (.int 0), .val (.int 3), .val (.int ch3), .val (.int 0)] [.int 0]
          refine Own.ifYes W7 d5_72 77 (by decide) (by decide) (by decide) ?_
          refine Own.iinc W7 d5_77 80 rfl rfl #[.val (.ref x), .val (.int 0), .val (.int 4), .val (.int ch3), .val (.int 0)] rfl ?_
          refine Own.goto W7 d5_80 2 (by decide) (by decide) ?_
          exact J4 _ _ _ _ W7 (hu.trans (uns_ok1 hz hs))
  have J2 : ∀ (vJ2 : Vm) (TJ2 : State) (a_ : Int32) (b_ : Int32), Own.Here G X bUna4 vJ2 TJ2 h 0 0 → uns [ch0, ch1, ch2, ch3] = uns [ch2, ch3] → Own.Go G X bUna4 (fun v h' => ((v = some (.int (-1)) ∧ uns [ch0, ch1, ch2, ch3] = true) ∨ (∃ j : Int32, v = some (.int j) ∧ ¬ j < 0 ∧ uns [ch0, ch1, ch2, ch3] = false)) ∧ h' = h) TJ2 2 #[.val (.ref x), .val (.int 0), .val (.int 2), .val (.int a_), .val (.int b_)] [] := by
    intro vJ2 TJ2 a_ b_ WJ2 hu
    refine Own.iloadN WJ2 d5_2 3 rfl 2 rfl ?_
    refine Own.aloadN WJ2 d5_3 4 rfl (.ref x) rfl rfl ?_
    refine Own.callV WJ2 (tw hw 29 rfl) (tw hw 30 rfl) (fun s q => notFace_of_selects (args := #[]) (mvT (s := s) q (tw hw 32 rfl))) (tw hw 32 rfl) (tw hw 31 rfl) (by decide) (argsL := []) (rest := [.int 2]) (Own.payLenU (wL hw) (kI := 4) (tw hw 2 rfl) WJ2 Sx hS hcz (len := 3) (wd := 1) (by decide) (by decide)) Ex rfl (lenOf pd_13 rfl) rfl (lb rfl) d5_4 7 rfl 0 0 (lb rfl) (lb rfl) (lb rfl) (lb rfl) ?_
    intro v8 T8 h8 u8 W8 R8 hq
    obtain ⟨rfl, eh8⟩ := hq
    have ei8 := eh8.symm; subst ei8
    show Own.Go _ _ _ _ _ 7 #[.val (.ref x), .val (.int 0), .val (.int 2), .val (.int a_), .val (.int b_)] [.int 4, .int 2]
    refine Own.icmpNo W8 d5_7 10 (by decide) rfl ?_
    refine Own.aloadN W8 d5_10 11 rfl (.ref x) rfl rfl ?_
    refine Own.iloadN W8 d5_11 12 rfl 2 rfl ?_
    refine Own.callV W8 (tw hw 62 rfl) (tw hw 63 rfl) (fun s q => notFace_of_selects (args := #[]) (mvT (s := s) q (tw hw 65 rfl))) (tw hw 65 rfl) (tw hw 64 rfl) (by decide) (argsL := [.int 2]) (rest := []) (payChU2 hw hEL hmem hS hcz SF rfm TA TH TL W8 Sx (lb rfl) (len := 3) (wd := 0) (by decide) (by decide)) Ex rfl (lenOf pd_14 rfl) rfl (lb rfl) d5_12 15 rfl 0 0 (lb rfl) (lb rfl) (lb rfl) (lb rfl) ?_
    intro v9 T9 h9 u9 W9 R9 hq
    obtain ⟨rfl, eh9⟩ := hq
    have ei9 := eh9.symm; subst ei9
    show Own.Go _ _ _ _ _ 15 #[.val (.ref x), .val (.int 0), .val (.int 2), .val (.int a_), .val (.int b_)] [(.int ch2)]
    refine Own.istoreN W9 d5_15 16 rfl #[.val (.ref x), .val (.int 0), .val (.int 2), .val (.int ch2), .val (.int b_)] rfl ?_
    refine Own.iloadN W9 d5_16 17 rfl ch2 rfl ?_
    refine Own.callS W9 (tw hw 84 rfl) (tw hw 85 rfl) (tw hw 86 rfl) (tw hw 87 rfl) (by decide) (argsL := [(.int ch2)]) (rest := []) (Own.Con.pay (con_ih hw hEL ch2 W9.old) W9 (tw hw 87 rfl) (tw hw 86 rfl) (len := 3) (wd := 0) (by decide) (by decide) (fun _ q => nomatch q)) rfl (lenOf pd_15 rfl) rfl (lb rfl) d5_17 20 rfl 0 0 (lb rfl) (lb rfl) (lb rfl) (lb rfl) ?_
    intro v10 T10 h10 u10 W10 R10 hq
    obtain ⟨rfl, eh10⟩ := hq
    have ei10 := eh10.symm; subst ei10
    by_cases hH : hB ch2 = true
    · skip
      rw [b2i_t hH]
      show Own.Go _ _ _ _ _ 20 #[.val (.ref x), .val (.int 0), .val (.int 2), .val (.int ch2), .val (.int b_)] [.int 1]
      refine Own.ifNo W10 d5_20 23 (by decide) rfl ?_
      refine Own.iloadN W10 d5_23 24 rfl 2 rfl ?_
      refine Own.iconst W10 d5_24 25 rfl 1 rfl ?_
      refine Own.iadd W10 d5_25 26 rfl ?_
      refine Own.aloadN W10 d5_26 27 rfl (.ref x) rfl rfl ?_
      refine Own.callV W10 (tw hw 29 rfl) (tw hw 30 rfl) (fun s q => notFace_of_selects (args := #[]) (mvT (s := s) q (tw hw 32 rfl))) (tw hw 32 rfl) (tw hw 31 rfl) (by decide) (argsL := []) (rest := [.int 3]) (Own.payLenU (wL hw) (kI := 4) (tw hw 2 rfl) W10 Sx hS hcz (len := 3) (wd := 1) (by decide) (by decide)) Ex rfl (lenOf pd_13 rfl) rfl (lb rfl) d5_27 30 rfl 0 0 (lb rfl) (lb rfl) (lb rfl) (lb rfl) ?_
      intro v11 T11 h11 u11 W11 R11 hq
      obtain ⟨rfl, eh11⟩ := hq
      have ei11 := eh11.symm; subst ei11
      show Own.Go _ _ _ _ _ 30 #[.val (.ref x), .val (.int 0), .val (.int 2), .val (.int ch2), .val (.int b_)] [.int 4, .int 3]
      refine Own.icmpNo W11 d5_30 33 (by decide) rfl ?_
      refine Own.aloadN W11 d5_33 34 rfl (.ref x) rfl rfl ?_
      refine Own.iloadN W11 d5_34 35 rfl 2 rfl ?_
      refine Own.iconst W11 d5_35 36 rfl 1 rfl ?_
      refine Own.iadd W11 d5_36 37 rfl ?_
      refine Own.callV W11 (tw hw 62 rfl) (tw hw 63 rfl) (fun s q => notFace_of_selects (args := #[]) (mvT (s := s) q (tw hw 65 rfl))) (tw hw 65 rfl) (tw hw 64 rfl) (by decide) (argsL := [.int 3]) (rest := []) (payChU3 hw hEL hmem hS hcz SF rfm TA TH TL W11 Sx (lb rfl) (len := 3) (wd := 0) (by decide) (by decide)) Ex rfl (lenOf pd_14 rfl) rfl (lb rfl) d5_37 40 rfl 0 0 (lb rfl) (lb rfl) (lb rfl) (lb rfl) ?_
      intro v12 T12 h12 u12 W12 R12 hq
      obtain ⟨rfl, eh12⟩ := hq
      have ei12 := eh12.symm; subst ei12
      show Own.Go _ _ _ _ _ 40 #[.val (.ref x), .val (.int 0), .val (.int 2), .val (.int ch2), .val (.int b_)] [(.int ch3)]
      refine Own.callS W12 (tw hw 125 rfl) (tw hw 126 rfl) (tw hw 86 rfl) (tw hw 127 rfl) (by decide) (argsL := [(.int ch3)]) (rest := []) (Own.Con.pay (con_il hw hEL ch3 W12.old) W12 (tw hw 127 rfl) (tw hw 86 rfl) (len := 3) (wd := 0) (by decide) (by decide) (fun _ q => nomatch q)) rfl (lenOf pd_15 rfl) rfl (lb rfl) d5_40 43 rfl 0 0 (lb rfl) (lb rfl) (lb rfl) (lb rfl) ?_
      intro v13 T13 h13 u13 W13 R13 hq
      obtain ⟨rfl, eh13⟩ := hq
      have ei13 := eh13.symm; subst ei13
      by_cases hL : lB ch3 = true
      · skip
        rw [b2i_t hL]
        show Own.Go _ _ _ _ _ 43 #[.val (.ref x), .val (.int 0), .val (.int 2), .val (.int ch2), .val (.int b_)] [.int 1]
        refine Own.ifNo W13 d5_43 46 (by decide) rfl ?_
        refine Own.iconst W13 d5_46 47 rfl 1 rfl ?_
        refine Own.goto W13 d5_47 51 (by decide) (by decide) ?_
        refine Own.istore W13 d5_51 53 rfl #[.val (.ref x), .val (.int 0), .val (.int 2), .val (.int ch2), .val (.int 1)] rfl ?_
        refine Own.iload W13 d5_53 55 rfl 1 rfl ?_
        refine Own.ifNo W13 d5_55 58 (by decide) rfl ?_
        refine Own.iinc W13 d5_58 61 rfl rfl #[.val (.ref x), .val (.int 0), .val (.int 3), .val (.int ch2), .val (.int 1)] rfl ?_
        refine Own.goto W13 d5_61 77 (by decide) (by decide) ?_
        refine Own.iinc W13 d5_77 80 rfl rfl #[.val (.ref x), .val (.int 0), .val (.int 4), .val (.int ch2), .val (.int 1)] rfl ?_
        refine Own.goto W13 d5_80 2 (by decide) (by decide) ?_
        exact J4 _ _ _ _ W13 (hu.trans (uns_pair hH hL))
      · skip
        rw [b2i_f hL]
        show Own.Go _ _ _ _ _ 43 #[.val (.ref x), .val (.int 0), .val (.int 2), .val (.int ch2), .val (.int b_)] [.int 0]
        refine Own.ifYes W13 d5_43 50 (by decide) (by decide) (by decide) ?_
        refine Own.iconst W13 d5_50 51 rfl 0 rfl ?_
        refine Own.istore W13 d5_51 53 rfl #[.val (.ref x), .val (.int 0), .val (.int 2), .val (.int ch2), .val (.int 0)] rfl ?_
        refine Own.iload W13 d5_53 55 rfl 0 rfl ?_
        refine Own.ifYes W13 d5_55 64 (by decide) (by decide) (by decide) ?_
        refine Own.iloadN W13 d5_64 65 rfl ch2 rfl ?_
        by_cases hz : ch2 = (0 : Int32)
        · skip
          refine Own.ifYes W13 d5_65 75 (XT.i0_eq_t hz) (by decide) (by decide) ?_
          refine Own.iloadN W13 d5_75 76 rfl 2 rfl ?_
          exact Own.retI W13 (by decide) (by decide) rfl d5_76 ⟨Or.inr ⟨_, rfl, by decide, hu.trans (uns_bad2 (fun q => hL q.2) (Or.inl hz))⟩, rfl⟩
        · skip
          refine Own.ifNo W13 d5_65 68 (XT.i0_eq_f hz) rfl ?_
          refine Own.iloadN W13 d5_68 69 rfl ch2 rfl ?_
          refine Own.callS W13 (tw hw 89 rfl) (tw hw 90 rfl) (tw hw 86 rfl) (tw hw 91 rfl) (by decide) (argsL := [(.int ch2)]) (rest := []) (Own.Con.pay (con_isu hw hEL ch2 W13.old) W13 (tw hw 91 rfl) (tw hw 86 rfl) (len := 3) (wd := 0) (by decide) (by decide) (fun _ q => nomatch q)) rfl (lenOf pd_15 rfl) rfl (lb rfl) d5_69 72 rfl 0 0 (lb rfl) (lb rfl) (lb rfl) (lb rfl) ?_
          intro v14 T14 h14 u14 W14 R14 hq
          obtain ⟨rfl, eh14⟩ := hq
          have ei14 := eh14.symm; subst ei14
          by_cases hs : sB ch2 = true
          · skip
            rw [b2i_t hs]
            show Own.Go _ _ _ _ _ 72 #[.val (.ref x), .val (.int 0), .val (.int 2), .val (.int ch2), .val (.int 0)] [.int 1]
            refine Own.ifNo W14 d5_72 75 (by decide) rfl ?_
            refine Own.iloadN W14 d5_75 76 rfl 2 rfl ?_
            exact Own.retI W14 (by decide) (by decide) rfl d5_76 ⟨Or.inr ⟨_, rfl, by decide, hu.trans (uns_bad2 (fun q => hL q.2) (Or.inr hs))⟩, rfl⟩
          · skip
            rw [b2i_f hs]
            show Own.Go _ _ _ _ _ 72 #[.val (.ref x), .val (.int 0), .val (.int 2), .val (.int ch2), .val (.int 0)] [.int 0]
            refine Own.ifYes W14 d5_72 77 (by decide) (by decide) (by decide) ?_
            refine Own.iinc W14 d5_77 80 rfl rfl #[.val (.ref x), .val (.int 0), .val (.int 3), .val (.int ch2), .val (.int 0)] rfl ?_
            refine Own.goto W14 d5_80 2 (by decide) (by decide) ?_
            exact J3 _ _ _ _ W14 (hu.trans (uns_ok2 (fun q => hL q.2) hz hs))
    · skip
      rw [b2i_f hH]
      show Own.Go _ _ _ _ _ 20 #[.val (.ref x), .val (.int 0), .val (.int 2), .val (.int ch2), .val (.int b_)] [.int 0]
      refine Own.ifYes W10 d5_20 50 (by decide) (by decide) (by decide) ?_
      refine Own.iconst W10 d5_50 51 rfl 0 rfl ?_
      refine Own.istore W10 d5_51 53 rfl #[.val (.ref x), .val (.int 0), .val (.int 2), .val (.int ch2), .val (.int 0)] rfl ?_
      refine Own.iload W10 d5_53 55 rfl 0 rfl ?_
      refine Own.ifYes W10 d5_55 64 (by decide) (by decide) (by decide) ?_
      refine Own.iloadN W10 d5_64 65 rfl ch2 rfl ?_
      by_cases hz : ch2 = (0 : Int32)
      · skip
        refine Own.ifYes W10 d5_65 75 (XT.i0_eq_t hz) (by decide) (by decide) ?_
        refine Own.iloadN W10 d5_75 76 rfl 2 rfl ?_
        exact Own.retI W10 (by decide) (by decide) rfl d5_76 ⟨Or.inr ⟨_, rfl, by decide, hu.trans (uns_bad2 (fun q => hH q.1) (Or.inl hz))⟩, rfl⟩
      · skip
        refine Own.ifNo W10 d5_65 68 (XT.i0_eq_f hz) rfl ?_
        refine Own.iloadN W10 d5_68 69 rfl ch2 rfl ?_
        refine Own.callS W10 (tw hw 89 rfl) (tw hw 90 rfl) (tw hw 86 rfl) (tw hw 91 rfl) (by decide) (argsL := [(.int ch2)]) (rest := []) (Own.Con.pay (con_isu hw hEL ch2 W10.old) W10 (tw hw 91 rfl) (tw hw 86 rfl) (len := 3) (wd := 0) (by decide) (by decide) (fun _ q => nomatch q)) rfl (lenOf pd_15 rfl) rfl (lb rfl) d5_69 72 rfl 0 0 (lb rfl) (lb rfl) (lb rfl) (lb rfl) ?_
        intro v15 T15 h15 u15 W15 R15 hq
        obtain ⟨rfl, eh15⟩ := hq
        have ei15 := eh15.symm; subst ei15
        by_cases hs : sB ch2 = true
        · skip
          rw [b2i_t hs]
          show Own.Go _ _ _ _ _ 72 #[.val (.ref x), .val (.int 0), .val (.int 2), .val (.int ch2), .val (.int 0)] [.int 1]
          refine Own.ifNo W15 d5_72 75 (by decide) rfl ?_
          refine Own.iloadN W15 d5_75 76 rfl 2 rfl ?_
          exact Own.retI W15 (by decide) (by decide) rfl d5_76 ⟨Or.inr ⟨_, rfl, by decide, hu.trans (uns_bad2 (fun q => hH q.1) (Or.inr hs))⟩, rfl⟩
        · skip
          rw [b2i_f hs]
          show Own.Go _ _ _ _ _ 72 #[.val (.ref x), .val (.int 0), .val (.int 2), .val (.int ch2), .val (.int 0)] [.int 0]
          refine Own.ifYes W15 d5_72 77 (by decide) (by decide) (by decide) ?_
          refine Own.iinc W15 d5_77 80 rfl rfl #[.val (.ref x), .val (.int 0), .val (.int 3), .val (.int ch2), .val (.int 0)] rfl ?_
          refine Own.goto W15 d5_80 2 (by decide) (by decide) ?_
          exact J3 _ _ _ _ W15 (hu.trans (uns_ok2 (fun q => hH q.1) hz hs))
  have J1 : ∀ (vJ1 : Vm) (TJ1 : State) (a_ : Int32) (b_ : Int32), Own.Here G X bUna4 vJ1 TJ1 h 0 0 → uns [ch0, ch1, ch2, ch3] = uns [ch1, ch2, ch3] → Own.Go G X bUna4 (fun v h' => ((v = some (.int (-1)) ∧ uns [ch0, ch1, ch2, ch3] = true) ∨ (∃ j : Int32, v = some (.int j) ∧ ¬ j < 0 ∧ uns [ch0, ch1, ch2, ch3] = false)) ∧ h' = h) TJ1 2 #[.val (.ref x), .val (.int 0), .val (.int 1), .val (.int a_), .val (.int b_)] [] := by
    intro vJ1 TJ1 a_ b_ WJ1 hu
    refine Own.iloadN WJ1 d5_2 3 rfl 1 rfl ?_
    refine Own.aloadN WJ1 d5_3 4 rfl (.ref x) rfl rfl ?_
    refine Own.callV WJ1 (tw hw 29 rfl) (tw hw 30 rfl) (fun s q => notFace_of_selects (args := #[]) (mvT (s := s) q (tw hw 32 rfl))) (tw hw 32 rfl) (tw hw 31 rfl) (by decide) (argsL := []) (rest := [.int 1]) (Own.payLenU (wL hw) (kI := 4) (tw hw 2 rfl) WJ1 Sx hS hcz (len := 3) (wd := 1) (by decide) (by decide)) Ex rfl (lenOf pd_13 rfl) rfl (lb rfl) d5_4 7 rfl 0 0 (lb rfl) (lb rfl) (lb rfl) (lb rfl) ?_
    intro v16 T16 h16 u16 W16 R16 hq
    obtain ⟨rfl, eh16⟩ := hq
    have ei16 := eh16.symm; subst ei16
    show Own.Go _ _ _ _ _ 7 #[.val (.ref x), .val (.int 0), .val (.int 1), .val (.int a_), .val (.int b_)] [.int 4, .int 1]
    refine Own.icmpNo W16 d5_7 10 (by decide) rfl ?_
    refine Own.aloadN W16 d5_10 11 rfl (.ref x) rfl rfl ?_
    refine Own.iloadN W16 d5_11 12 rfl 1 rfl ?_
    refine Own.callV W16 (tw hw 62 rfl) (tw hw 63 rfl) (fun s q => notFace_of_selects (args := #[]) (mvT (s := s) q (tw hw 65 rfl))) (tw hw 65 rfl) (tw hw 64 rfl) (by decide) (argsL := [.int 1]) (rest := []) (payChU1 hw hEL hmem hS hcz SF rfm TA TH TL W16 Sx (lb rfl) (len := 3) (wd := 0) (by decide) (by decide)) Ex rfl (lenOf pd_14 rfl) rfl (lb rfl) d5_12 15 rfl 0 0 (lb rfl) (lb rfl) (lb rfl) (lb rfl) ?_
    intro v17 T17 h17 u17 W17 R17 hq
    obtain ⟨rfl, eh17⟩ := hq
    have ei17 := eh17.symm; subst ei17
    show Own.Go _ _ _ _ _ 15 #[.val (.ref x), .val (.int 0), .val (.int 1), .val (.int a_), .val (.int b_)] [(.int ch1)]
    refine Own.istoreN W17 d5_15 16 rfl #[.val (.ref x), .val (.int 0), .val (.int 1), .val (.int ch1), .val (.int b_)] rfl ?_
    refine Own.iloadN W17 d5_16 17 rfl ch1 rfl ?_
    refine Own.callS W17 (tw hw 84 rfl) (tw hw 85 rfl) (tw hw 86 rfl) (tw hw 87 rfl) (by decide) (argsL := [(.int ch1)]) (rest := []) (Own.Con.pay (con_ih hw hEL ch1 W17.old) W17 (tw hw 87 rfl) (tw hw 86 rfl) (len := 3) (wd := 0) (by decide) (by decide) (fun _ q => nomatch q)) rfl (lenOf pd_15 rfl) rfl (lb rfl) d5_17 20 rfl 0 0 (lb rfl) (lb rfl) (lb rfl) (lb rfl) ?_
    intro v18 T18 h18 u18 W18 R18 hq
    obtain ⟨rfl, eh18⟩ := hq
    have ei18 := eh18.symm; subst ei18
    by_cases hH : hB ch1 = true
    · skip
      rw [b2i_t hH]
      show Own.Go _ _ _ _ _ 20 #[.val (.ref x), .val (.int 0), .val (.int 1), .val (.int ch1), .val (.int b_)] [.int 1]
      refine Own.ifNo W18 d5_20 23 (by decide) rfl ?_
      refine Own.iloadN W18 d5_23 24 rfl 1 rfl ?_
      refine Own.iconst W18 d5_24 25 rfl 1 rfl ?_
      refine Own.iadd W18 d5_25 26 rfl ?_
      refine Own.aloadN W18 d5_26 27 rfl (.ref x) rfl rfl ?_
      refine Own.callV W18 (tw hw 29 rfl) (tw hw 30 rfl) (fun s q => notFace_of_selects (args := #[]) (mvT (s := s) q (tw hw 32 rfl))) (tw hw 32 rfl) (tw hw 31 rfl) (by decide) (argsL := []) (rest := [.int 2]) (Own.payLenU (wL hw) (kI := 4) (tw hw 2 rfl) W18 Sx hS hcz (len := 3) (wd := 1) (by decide) (by decide)) Ex rfl (lenOf pd_13 rfl) rfl (lb rfl) d5_27 30 rfl 0 0 (lb rfl) (lb rfl) (lb rfl) (lb rfl) ?_
      intro v19 T19 h19 u19 W19 R19 hq
      obtain ⟨rfl, eh19⟩ := hq
      have ei19 := eh19.symm; subst ei19
      show Own.Go _ _ _ _ _ 30 #[.val (.ref x), .val (.int 0), .val (.int 1), .val (.int ch1), .val (.int b_)] [.int 4, .int 2]
      refine Own.icmpNo W19 d5_30 33 (by decide) rfl ?_
      refine Own.aloadN W19 d5_33 34 rfl (.ref x) rfl rfl ?_
      refine Own.iloadN W19 d5_34 35 rfl 1 rfl ?_
      refine Own.iconst W19 d5_35 36 rfl 1 rfl ?_
      refine Own.iadd W19 d5_36 37 rfl ?_
      refine Own.callV W19 (tw hw 62 rfl) (tw hw 63 rfl) (fun s q => notFace_of_selects (args := #[]) (mvT (s := s) q (tw hw 65 rfl))) (tw hw 65 rfl) (tw hw 64 rfl) (by decide) (argsL := [.int 2]) (rest := []) (payChU2 hw hEL hmem hS hcz SF rfm TA TH TL W19 Sx (lb rfl) (len := 3) (wd := 0) (by decide) (by decide)) Ex rfl (lenOf pd_14 rfl) rfl (lb rfl) d5_37 40 rfl 0 0 (lb rfl) (lb rfl) (lb rfl) (lb rfl) ?_
      intro v20 T20 h20 u20 W20 R20 hq
      obtain ⟨rfl, eh20⟩ := hq
      have ei20 := eh20.symm; subst ei20
      show Own.Go _ _ _ _ _ 40 #[.val (.ref x), .val (.int 0), .val (.int 1), .val (.int ch1), .val (.int b_)] [(.int ch2)]
      refine Own.callS W20 (tw hw 125 rfl) (tw hw 126 rfl) (tw hw 86 rfl) (tw hw 127 rfl) (by decide) (argsL := [(.int ch2)]) (rest := []) (Own.Con.pay (con_il hw hEL ch2 W20.old) W20 (tw hw 127 rfl) (tw hw 86 rfl) (len := 3) (wd := 0) (by decide) (by decide) (fun _ q => nomatch q)) rfl (lenOf pd_15 rfl) rfl (lb rfl) d5_40 43 rfl 0 0 (lb rfl) (lb rfl) (lb rfl) (lb rfl) ?_
      intro v21 T21 h21 u21 W21 R21 hq
      obtain ⟨rfl, eh21⟩ := hq
      have ei21 := eh21.symm; subst ei21
      by_cases hL : lB ch2 = true
      · skip
        rw [b2i_t hL]
        show Own.Go _ _ _ _ _ 43 #[.val (.ref x), .val (.int 0), .val (.int 1), .val (.int ch1), .val (.int b_)] [.int 1]
        refine Own.ifNo W21 d5_43 46 (by decide) rfl ?_
        refine Own.iconst W21 d5_46 47 rfl 1 rfl ?_
        refine Own.goto W21 d5_47 51 (by decide) (by decide) ?_
        refine Own.istore W21 d5_51 53 rfl #[.val (.ref x), .val (.int 0), .val (.int 1), .val (.int ch1), .val (.int 1)] rfl ?_
        refine Own.iload W21 d5_53 55 rfl 1 rfl ?_
        refine Own.ifNo W21 d5_55 58 (by decide) rfl ?_
        refine Own.iinc W21 d5_58 61 rfl rfl #[.val (.ref x), .val (.int 0), .val (.int 2), .val (.int ch1), .val (.int 1)] rfl ?_
        refine Own.goto W21 d5_61 77 (by decide) (by decide) ?_
        refine Own.iinc W21 d5_77 80 rfl rfl #[.val (.ref x), .val (.int 0), .val (.int 3), .val (.int ch1), .val (.int 1)] rfl ?_
        refine Own.goto W21 d5_80 2 (by decide) (by decide) ?_
        exact J3 _ _ _ _ W21 (hu.trans (uns_pair hH hL))
      · skip
        rw [b2i_f hL]
        show Own.Go _ _ _ _ _ 43 #[.val (.ref x), .val (.int 0), .val (.int 1), .val (.int ch1), .val (.int b_)] [.int 0]
        refine Own.ifYes W21 d5_43 50 (by decide) (by decide) (by decide) ?_
        refine Own.iconst W21 d5_50 51 rfl 0 rfl ?_
        refine Own.istore W21 d5_51 53 rfl #[.val (.ref x), .val (.int 0), .val (.int 1), .val (.int ch1), .val (.int 0)] rfl ?_
        refine Own.iload W21 d5_53 55 rfl 0 rfl ?_
        refine Own.ifYes W21 d5_55 64 (by decide) (by decide) (by decide) ?_
        refine Own.iloadN W21 d5_64 65 rfl ch1 rfl ?_
        by_cases hz : ch1 = (0 : Int32)
        · skip
          refine Own.ifYes W21 d5_65 75 (XT.i0_eq_t hz) (by decide) (by decide) ?_
          refine Own.iloadN W21 d5_75 76 rfl 1 rfl ?_
          exact Own.retI W21 (by decide) (by decide) rfl d5_76 ⟨Or.inr ⟨_, rfl, by decide, hu.trans (uns_bad2 (fun q => hL q.2) (Or.inl hz))⟩, rfl⟩
        · skip
          refine Own.ifNo W21 d5_65 68 (XT.i0_eq_f hz) rfl ?_
          refine Own.iloadN W21 d5_68 69 rfl ch1 rfl ?_
          refine Own.callS W21 (tw hw 89 rfl) (tw hw 90 rfl) (tw hw 86 rfl) (tw hw 91 rfl) (by decide) (argsL := [(.int ch1)]) (rest := []) (Own.Con.pay (con_isu hw hEL ch1 W21.old) W21 (tw hw 91 rfl) (tw hw 86 rfl) (len := 3) (wd := 0) (by decide) (by decide) (fun _ q => nomatch q)) rfl (lenOf pd_15 rfl) rfl (lb rfl) d5_69 72 rfl 0 0 (lb rfl) (lb rfl) (lb rfl) (lb rfl) ?_
          intro v22 T22 h22 u22 W22 R22 hq
          obtain ⟨rfl, eh22⟩ := hq
          have ei22 := eh22.symm; subst ei22
          by_cases hs : sB ch1 = true
          · skip
            rw [b2i_t hs]
            show Own.Go _ _ _ _ _ 72 #[.val (.ref x), .val (.int 0), .val (.int 1), .val (.int ch1), .val (.int 0)] [.int 1]
            refine Own.ifNo W22 d5_72 75 (by decide) rfl ?_
            refine Own.iloadN W22 d5_75 76 rfl 1 rfl ?_
            exact Own.retI W22 (by decide) (by decide) rfl d5_76 ⟨Or.inr ⟨_, rfl, by decide, hu.trans (uns_bad2 (fun q => hL q.2) (Or.inr hs))⟩, rfl⟩
          · skip
            rw [b2i_f hs]
            show Own.Go _ _ _ _ _ 72 #[.val (.ref x), .val (.int 0), .val (.int 1), .val (.int ch1), .val (.int 0)] [.int 0]
            refine Own.ifYes W22 d5_72 77 (by decide) (by decide) (by decide) ?_
            refine Own.iinc W22 d5_77 80 rfl rfl #[.val (.ref x), .val (.int 0), .val (.int 2), .val (.int ch1), .val (.int 0)] rfl ?_
            refine Own.goto W22 d5_80 2 (by decide) (by decide) ?_
            exact J2 _ _ _ _ W22 (hu.trans (uns_ok2 (fun q => hL q.2) hz hs))
    · skip
      rw [b2i_f hH]
      show Own.Go _ _ _ _ _ 20 #[.val (.ref x), .val (.int 0), .val (.int 1), .val (.int ch1), .val (.int b_)] [.int 0]
      refine Own.ifYes W18 d5_20 50 (by decide) (by decide) (by decide) ?_
      refine Own.iconst W18 d5_50 51 rfl 0 rfl ?_
      refine Own.istore W18 d5_51 53 rfl #[.val (.ref x), .val (.int 0), .val (.int 1), .val (.int ch1), .val (.int 0)] rfl ?_
      refine Own.iload W18 d5_53 55 rfl 0 rfl ?_
      refine Own.ifYes W18 d5_55 64 (by decide) (by decide) (by decide) ?_
      refine Own.iloadN W18 d5_64 65 rfl ch1 rfl ?_
      by_cases hz : ch1 = (0 : Int32)
      · skip
        refine Own.ifYes W18 d5_65 75 (XT.i0_eq_t hz) (by decide) (by decide) ?_
        refine Own.iloadN W18 d5_75 76 rfl 1 rfl ?_
        exact Own.retI W18 (by decide) (by decide) rfl d5_76 ⟨Or.inr ⟨_, rfl, by decide, hu.trans (uns_bad2 (fun q => hH q.1) (Or.inl hz))⟩, rfl⟩
      · skip
        refine Own.ifNo W18 d5_65 68 (XT.i0_eq_f hz) rfl ?_
        refine Own.iloadN W18 d5_68 69 rfl ch1 rfl ?_
        refine Own.callS W18 (tw hw 89 rfl) (tw hw 90 rfl) (tw hw 86 rfl) (tw hw 91 rfl) (by decide) (argsL := [(.int ch1)]) (rest := []) (Own.Con.pay (con_isu hw hEL ch1 W18.old) W18 (tw hw 91 rfl) (tw hw 86 rfl) (len := 3) (wd := 0) (by decide) (by decide) (fun _ q => nomatch q)) rfl (lenOf pd_15 rfl) rfl (lb rfl) d5_69 72 rfl 0 0 (lb rfl) (lb rfl) (lb rfl) (lb rfl) ?_
        intro v23 T23 h23 u23 W23 R23 hq
        obtain ⟨rfl, eh23⟩ := hq
        have ei23 := eh23.symm; subst ei23
        by_cases hs : sB ch1 = true
        · skip
          rw [b2i_t hs]
          show Own.Go _ _ _ _ _ 72 #[.val (.ref x), .val (.int 0), .val (.int 1), .val (.int ch1), .val (.int 0)] [.int 1]
          refine Own.ifNo W23 d5_72 75 (by decide) rfl ?_
          refine Own.iloadN W23 d5_75 76 rfl 1 rfl ?_
          exact Own.retI W23 (by decide) (by decide) rfl d5_76 ⟨Or.inr ⟨_, rfl, by decide, hu.trans (uns_bad2 (fun q => hH q.1) (Or.inr hs))⟩, rfl⟩
        · skip
          rw [b2i_f hs]
          show Own.Go _ _ _ _ _ 72 #[.val (.ref x), .val (.int 0), .val (.int 1), .val (.int ch1), .val (.int 0)] [.int 0]
          refine Own.ifYes W23 d5_72 77 (by decide) (by decide) (by decide) ?_
          refine Own.iinc W23 d5_77 80 rfl rfl #[.val (.ref x), .val (.int 0), .val (.int 2), .val (.int ch1), .val (.int 0)] rfl ?_
          refine Own.goto W23 d5_80 2 (by decide) (by decide) ?_
          exact J2 _ _ _ _ W23 (hu.trans (uns_ok2 (fun q => hH q.1) hz hs))
  have hu0 : uns [ch0, ch1, ch2, ch3] = uns [ch0, ch1, ch2, ch3] := rfl
  refine Own.iloadN W0 d5_2 3 rfl 0 rfl ?_
  refine Own.aloadN W0 d5_3 4 rfl (.ref x) rfl rfl ?_
  refine Own.callV W0 (tw hw 29 rfl) (tw hw 30 rfl) (fun s q => notFace_of_selects (args := #[]) (mvT (s := s) q (tw hw 32 rfl))) (tw hw 32 rfl) (tw hw 31 rfl) (by decide) (argsL := []) (rest := [.int 0]) (Own.payLenU (wL hw) (kI := 4) (tw hw 2 rfl) W0 Sx hS hcz (len := 3) (wd := 1) (by decide) (by decide)) Ex rfl (lenOf pd_13 rfl) rfl (lb rfl) d5_4 7 rfl 0 0 (lb rfl) (lb rfl) (lb rfl) (lb rfl) ?_
  intro v24 T24 h24 u24 W24 R24 hq
  obtain ⟨rfl, eh24⟩ := hq
  have ei24 := eh24.symm; subst ei24
  show Own.Go _ _ _ _ _ 7 #[.val (.ref x), .val (.int 0), .val (.int 0), .unset, .unset] [.int 4, .int 0]
  refine Own.icmpNo W24 d5_7 10 (by decide) rfl ?_
  refine Own.aloadN W24 d5_10 11 rfl (.ref x) rfl rfl ?_
  refine Own.iloadN W24 d5_11 12 rfl 0 rfl ?_
  refine Own.callV W24 (tw hw 62 rfl) (tw hw 63 rfl) (fun s q => notFace_of_selects (args := #[]) (mvT (s := s) q (tw hw 65 rfl))) (tw hw 65 rfl) (tw hw 64 rfl) (by decide) (argsL := [.int 0]) (rest := []) (payChU0 hw hEL hmem hS hcz SF rfm TA TH TL W24 Sx (lb rfl) (len := 3) (wd := 0) (by decide) (by decide)) Ex rfl (lenOf pd_14 rfl) rfl (lb rfl) d5_12 15 rfl 0 0 (lb rfl) (lb rfl) (lb rfl) (lb rfl) ?_
  intro v25 T25 h25 u25 W25 R25 hq
  obtain ⟨rfl, eh25⟩ := hq
  have ei25 := eh25.symm; subst ei25
  show Own.Go _ _ _ _ _ 15 #[.val (.ref x), .val (.int 0), .val (.int 0), .unset, .unset] [(.int ch0)]
  refine Own.istoreN W25 d5_15 16 rfl #[.val (.ref x), .val (.int 0), .val (.int 0), .val (.int ch0), .unset] rfl ?_
  refine Own.iloadN W25 d5_16 17 rfl ch0 rfl ?_
  refine Own.callS W25 (tw hw 84 rfl) (tw hw 85 rfl) (tw hw 86 rfl) (tw hw 87 rfl) (by decide) (argsL := [(.int ch0)]) (rest := []) (Own.Con.pay (con_ih hw hEL ch0 W25.old) W25 (tw hw 87 rfl) (tw hw 86 rfl) (len := 3) (wd := 0) (by decide) (by decide) (fun _ q => nomatch q)) rfl (lenOf pd_15 rfl) rfl (lb rfl) d5_17 20 rfl 0 0 (lb rfl) (lb rfl) (lb rfl) (lb rfl) ?_
  intro v26 T26 h26 u26 W26 R26 hq
  obtain ⟨rfl, eh26⟩ := hq
  have ei26 := eh26.symm; subst ei26
  by_cases hH : hB ch0 = true
  · skip
    rw [b2i_t hH]
    show Own.Go _ _ _ _ _ 20 #[.val (.ref x), .val (.int 0), .val (.int 0), .val (.int ch0), .unset] [.int 1]
    refine Own.ifNo W26 d5_20 23 (by decide) rfl ?_
    refine Own.iloadN W26 d5_23 24 rfl 0 rfl ?_
    refine Own.iconst W26 d5_24 25 rfl 1 rfl ?_
    refine Own.iadd W26 d5_25 26 rfl ?_
    refine Own.aloadN W26 d5_26 27 rfl (.ref x) rfl rfl ?_
    refine Own.callV W26 (tw hw 29 rfl) (tw hw 30 rfl) (fun s q => notFace_of_selects (args := #[]) (mvT (s := s) q (tw hw 32 rfl))) (tw hw 32 rfl) (tw hw 31 rfl) (by decide) (argsL := []) (rest := [.int 1]) (Own.payLenU (wL hw) (kI := 4) (tw hw 2 rfl) W26 Sx hS hcz (len := 3) (wd := 1) (by decide) (by decide)) Ex rfl (lenOf pd_13 rfl) rfl (lb rfl) d5_27 30 rfl 0 0 (lb rfl) (lb rfl) (lb rfl) (lb rfl) ?_
    intro v27 T27 h27 u27 W27 R27 hq
    obtain ⟨rfl, eh27⟩ := hq
    have ei27 := eh27.symm; subst ei27
    show Own.Go _ _ _ _ _ 30 #[.val (.ref x), .val (.int 0), .val (.int 0), .val (.int ch0), .unset] [.int 4, .int 1]
    refine Own.icmpNo W27 d5_30 33 (by decide) rfl ?_
    refine Own.aloadN W27 d5_33 34 rfl (.ref x) rfl rfl ?_
    refine Own.iloadN W27 d5_34 35 rfl 0 rfl ?_
    refine Own.iconst W27 d5_35 36 rfl 1 rfl ?_
    refine Own.iadd W27 d5_36 37 rfl ?_
    refine Own.callV W27 (tw hw 62 rfl) (tw hw 63 rfl) (fun s q => notFace_of_selects (args := #[]) (mvT (s := s) q (tw hw 65 rfl))) (tw hw 65 rfl) (tw hw 64 rfl) (by decide) (argsL := [.int 1]) (rest := []) (payChU1 hw hEL hmem hS hcz SF rfm TA TH TL W27 Sx (lb rfl) (len := 3) (wd := 0) (by decide) (by decide)) Ex rfl (lenOf pd_14 rfl) rfl (lb rfl) d5_37 40 rfl 0 0 (lb rfl) (lb rfl) (lb rfl) (lb rfl) ?_
    intro v28 T28 h28 u28 W28 R28 hq
    obtain ⟨rfl, eh28⟩ := hq
    have ei28 := eh28.symm; subst ei28
    show Own.Go _ _ _ _ _ 40 #[.val (.ref x), .val (.int 0), .val (.int 0), .val (.int ch0), .unset] [(.int ch1)]
    refine Own.callS W28 (tw hw 125 rfl) (tw hw 126 rfl) (tw hw 86 rfl) (tw hw 127 rfl) (by decide) (argsL := [(.int ch1)]) (rest := []) (Own.Con.pay (con_il hw hEL ch1 W28.old) W28 (tw hw 127 rfl) (tw hw 86 rfl) (len := 3) (wd := 0) (by decide) (by decide) (fun _ q => nomatch q)) rfl (lenOf pd_15 rfl) rfl (lb rfl) d5_40 43 rfl 0 0 (lb rfl) (lb rfl) (lb rfl) (lb rfl) ?_
    intro v29 T29 h29 u29 W29 R29 hq
    obtain ⟨rfl, eh29⟩ := hq
    have ei29 := eh29.symm; subst ei29
    by_cases hL : lB ch1 = true
    · skip
      rw [b2i_t hL]
      show Own.Go _ _ _ _ _ 43 #[.val (.ref x), .val (.int 0), .val (.int 0), .val (.int ch0), .unset] [.int 1]
      refine Own.ifNo W29 d5_43 46 (by decide) rfl ?_
      refine Own.iconst W29 d5_46 47 rfl 1 rfl ?_
      refine Own.goto W29 d5_47 51 (by decide) (by decide) ?_
      refine Own.istore W29 d5_51 53 rfl #[.val (.ref x), .val (.int 0), .val (.int 0), .val (.int ch0), .val (.int 1)] rfl ?_
      refine Own.iload W29 d5_53 55 rfl 1 rfl ?_
      refine Own.ifNo W29 d5_55 58 (by decide) rfl ?_
      refine Own.iinc W29 d5_58 61 rfl rfl #[.val (.ref x), .val (.int 0), .val (.int 1), .val (.int ch0), .val (.int 1)] rfl ?_
      refine Own.goto W29 d5_61 77 (by decide) (by decide) ?_
      refine Own.iinc W29 d5_77 80 rfl rfl #[.val (.ref x), .val (.int 0), .val (.int 2), .val (.int ch0), .val (.int 1)] rfl ?_
      refine Own.goto W29 d5_80 2 (by decide) (by decide) ?_
      exact J2 _ _ _ _ W29 (hu0.trans (uns_pair hH hL))
    · skip
      rw [b2i_f hL]
      show Own.Go _ _ _ _ _ 43 #[.val (.ref x), .val (.int 0), .val (.int 0), .val (.int ch0), .unset] [.int 0]
      refine Own.ifYes W29 d5_43 50 (by decide) (by decide) (by decide) ?_
      refine Own.iconst W29 d5_50 51 rfl 0 rfl ?_
      refine Own.istore W29 d5_51 53 rfl #[.val (.ref x), .val (.int 0), .val (.int 0), .val (.int ch0), .val (.int 0)] rfl ?_
      refine Own.iload W29 d5_53 55 rfl 0 rfl ?_
      refine Own.ifYes W29 d5_55 64 (by decide) (by decide) (by decide) ?_
      refine Own.iloadN W29 d5_64 65 rfl ch0 rfl ?_
      by_cases hz : ch0 = (0 : Int32)
      · skip
        refine Own.ifYes W29 d5_65 75 (XT.i0_eq_t hz) (by decide) (by decide) ?_
        refine Own.iloadN W29 d5_75 76 rfl 0 rfl ?_
        exact Own.retI W29 (by decide) (by decide) rfl d5_76 ⟨Or.inr ⟨_, rfl, by decide, hu0.trans (uns_bad2 (fun q => hL q.2) (Or.inl hz))⟩, rfl⟩
      · skip
        refine Own.ifNo W29 d5_65 68 (XT.i0_eq_f hz) rfl ?_
        refine Own.iloadN W29 d5_68 69 rfl ch0 rfl ?_
        refine Own.callS W29 (tw hw 89 rfl) (tw hw 90 rfl) (tw hw 86 rfl) (tw hw 91 rfl) (by decide) (argsL := [(.int ch0)]) (rest := []) (Own.Con.pay (con_isu hw hEL ch0 W29.old) W29 (tw hw 91 rfl) (tw hw 86 rfl) (len := 3) (wd := 0) (by decide) (by decide) (fun _ q => nomatch q)) rfl (lenOf pd_15 rfl) rfl (lb rfl) d5_69 72 rfl 0 0 (lb rfl) (lb rfl) (lb rfl) (lb rfl) ?_
        intro v30 T30 h30 u30 W30 R30 hq
        obtain ⟨rfl, eh30⟩ := hq
        have ei30 := eh30.symm; subst ei30
        by_cases hs : sB ch0 = true
        · skip
          rw [b2i_t hs]
          show Own.Go _ _ _ _ _ 72 #[.val (.ref x), .val (.int 0), .val (.int 0), .val (.int ch0), .val (.int 0)] [.int 1]
          refine Own.ifNo W30 d5_72 75 (by decide) rfl ?_
          refine Own.iloadN W30 d5_75 76 rfl 0 rfl ?_
          exact Own.retI W30 (by decide) (by decide) rfl d5_76 ⟨Or.inr ⟨_, rfl, by decide, hu0.trans (uns_bad2 (fun q => hL q.2) (Or.inr hs))⟩, rfl⟩
        · skip
          rw [b2i_f hs]
          show Own.Go _ _ _ _ _ 72 #[.val (.ref x), .val (.int 0), .val (.int 0), .val (.int ch0), .val (.int 0)] [.int 0]
          refine Own.ifYes W30 d5_72 77 (by decide) (by decide) (by decide) ?_
          refine Own.iinc W30 d5_77 80 rfl rfl #[.val (.ref x), .val (.int 0), .val (.int 1), .val (.int ch0), .val (.int 0)] rfl ?_
          refine Own.goto W30 d5_80 2 (by decide) (by decide) ?_
          exact J1 _ _ _ _ W30 (hu0.trans (uns_ok2 (fun q => hL q.2) hz hs))
  · skip
    rw [b2i_f hH]
    show Own.Go _ _ _ _ _ 20 #[.val (.ref x), .val (.int 0), .val (.int 0), .val (.int ch0), .unset] [.int 0]
    refine Own.ifYes W26 d5_20 50 (by decide) (by decide) (by decide) ?_
    refine Own.iconst W26 d5_50 51 rfl 0 rfl ?_
    refine Own.istore W26 d5_51 53 rfl #[.val (.ref x), .val (.int 0), .val (.int 0), .val (.int ch0), .val (.int 0)] rfl ?_
    refine Own.iload W26 d5_53 55 rfl 0 rfl ?_
    refine Own.ifYes W26 d5_55 64 (by decide) (by decide) (by decide) ?_
    refine Own.iloadN W26 d5_64 65 rfl ch0 rfl ?_
    by_cases hz : ch0 = (0 : Int32)
    · skip
      refine Own.ifYes W26 d5_65 75 (XT.i0_eq_t hz) (by decide) (by decide) ?_
      refine Own.iloadN W26 d5_75 76 rfl 0 rfl ?_
      exact Own.retI W26 (by decide) (by decide) rfl d5_76 ⟨Or.inr ⟨_, rfl, by decide, hu0.trans (uns_bad2 (fun q => hH q.1) (Or.inl hz))⟩, rfl⟩
    · skip
      refine Own.ifNo W26 d5_65 68 (XT.i0_eq_f hz) rfl ?_
      refine Own.iloadN W26 d5_68 69 rfl ch0 rfl ?_
      refine Own.callS W26 (tw hw 89 rfl) (tw hw 90 rfl) (tw hw 86 rfl) (tw hw 91 rfl) (by decide) (argsL := [(.int ch0)]) (rest := []) (Own.Con.pay (con_isu hw hEL ch0 W26.old) W26 (tw hw 91 rfl) (tw hw 86 rfl) (len := 3) (wd := 0) (by decide) (by decide) (fun _ q => nomatch q)) rfl (lenOf pd_15 rfl) rfl (lb rfl) d5_69 72 rfl 0 0 (lb rfl) (lb rfl) (lb rfl) (lb rfl) ?_
      intro v31 T31 h31 u31 W31 R31 hq
      obtain ⟨rfl, eh31⟩ := hq
      have ei31 := eh31.symm; subst ei31
      by_cases hs : sB ch0 = true
      · skip
        rw [b2i_t hs]
        show Own.Go _ _ _ _ _ 72 #[.val (.ref x), .val (.int 0), .val (.int 0), .val (.int ch0), .val (.int 0)] [.int 1]
        refine Own.ifNo W31 d5_72 75 (by decide) rfl ?_
        refine Own.iloadN W31 d5_75 76 rfl 0 rfl ?_
        exact Own.retI W31 (by decide) (by decide) rfl d5_76 ⟨Or.inr ⟨_, rfl, by decide, hu0.trans (uns_bad2 (fun q => hH q.1) (Or.inr hs))⟩, rfl⟩
      · skip
        rw [b2i_f hs]
        show Own.Go _ _ _ _ _ 72 #[.val (.ref x), .val (.int 0), .val (.int 0), .val (.int ch0), .val (.int 0)] [.int 0]
        refine Own.ifYes W31 d5_72 77 (by decide) (by decide) (by decide) ?_
        refine Own.iinc W31 d5_77 80 rfl rfl #[.val (.ref x), .val (.int 0), .val (.int 1), .val (.int ch0), .val (.int 0)] rfl ?_
        refine Own.goto W31 d5_80 2 (by decide) (by decide) ?_
        exact J1 _ _ _ _ W31 (hu0.trans (uns_ok2 (fun q => hH q.1) hz hs))
set_option maxRecDepth 65536 in
set_option maxHeartbeats 40000000 in
theorem con_istN {G : Own.Gl} (hw : ∀ d ∈ tables_1, d.before G.a0 G.Z = true) (hEL : EW G.Z G.a0 G.EL) {h : Heap} (hO : Old G.Z G.n0 h) :
    Own.Con G [] bIst #[.null] h [] (fun v h' => v = some (.int 1) ∧ h' = h) := by
  refine Own.Con.intro (plainFor_of_name pn_5) hO hEL _ (fun m => ef_bIst m ) ?_
  intro X T0 W0 sf
  refine Own.aloadN W0 d4_0 1 rfl .null rfl rfl ?_
  refine Own.ifnullYes W0 d4_1 12 (by decide) (by decide) ?_
  refine Own.iconst W0 d4_12 13 rfl 1 rfl ?_
  refine Own.goto W0 d4_13 17 (by decide) (by decide) ?_
  exact Own.retB W0 (by decide) (by decide) rfl d4_17 rfl ⟨rfl, rfl⟩
set_option maxRecDepth 65536 in
set_option maxHeartbeats 40000000 in
theorem con_ist0 {G : Own.Gl} (hw : ∀ d ∈ tables_1, d.before G.a0 G.Z = true) (hEL : EW G.Z G.a0 G.EL) (hmem : (Own.ST, 7) ∈ G.EL) {cz : Int32} (hS : Sta G.Z G.Z.heap Own.ST "COMPACT_STRINGS" "Z" (.int cz)) (hcz : ¬ cz = 0) {fm : Value} (SF : Sta G.Z G.Z.heap "jdk/internal/util/Preconditions" "SIOOBE_FORMATTER" "Ljava/util/function/BiFunction;" fm) (rfm : fm.isRef = true) (TA : Sta G.Z G.Z.heap "java/lang/StringUTF16" "$assertionsDisabled" "Z" (.int 1)) (TH : Sta G.Z G.Z.heap "java/lang/StringUTF16" "HI_BYTE_SHIFT" "I" (.int 0)) (TL : Sta G.Z G.Z.heap "java/lang/StringUTF16" "LO_BYTE_SHIFT" "I" (.int 8)) {x : Addr} {h : Heap} (hO : Old G.Z G.n0 h) (Sx : Own.Uni G.Z h x []) :
    Own.Con G [] bIst #[.ref x] h [] (fun v h' => v = some (.int (b2i (uns []))) ∧ h' = h) := by
  refine Own.Con.intro (plainFor_of_name pn_5) hO hEL _ (fun m => ef_ist m x) ?_
  intro X T0 W0 sf
  refine Own.aloadN W0 d4_0 1 rfl (.ref x) rfl rfl ?_
  refine Own.ifnullNo W0 d4_1 4 rfl ?_
  refine Own.aloadN W0 d4_4 5 rfl (.ref x) rfl rfl ?_
  refine Own.iconst W0 d4_5 6 rfl 0 rfl ?_
  refine Own.callS W0 (tw hw 26 rfl) (tw hw 27 rfl) (tw hw 24 rfl) (tw hw 28 rfl) (by decide) (argsL := [(.ref x), .int 0]) (rest := []) (Own.Con.pay (con_una0 hw hEL hmem hS hcz SF rfm TA TH TL rfl W0.old Sx) W0 (tw hw 28 rfl) (tw hw 24 rfl) (len := 3) (wd := 0) (by decide) (by decide) (fun _ q => nomatch q)) rfl (lenOf pd_16 rfl) rfl (lb rfl) d4_6 9 rfl 0 0 (lb rfl) (lb rfl) (lb rfl) (lb rfl) ?_
  intro v1 T1 h1 u1 W1 R1 hq
  obtain ⟨hv1, eh1⟩ := hq
  have ei1 := eh1.symm; subst ei1
  rcases hv1 with ⟨rfl, hu⟩ | ⟨j, rfl, hj, hu⟩
  · skip
    show Own.Go _ _ _ _ _ 9 #[.val (.ref x)] [(.int (-1))]
    refine Own.ifNo W1 d4_9 12 (by decide) rfl ?_
    refine Own.iconst W1 d4_12 13 rfl 1 rfl ?_
    refine Own.goto W1 d4_13 17 (by decide) (by decide) ?_
    exact Own.retB W1 (by decide) (by decide) rfl d4_17 rfl ⟨by rw [hu]; rfl, rfl⟩
  · skip
    show Own.Go _ _ _ _ _ 9 #[.val (.ref x)] [(.int j)]
    refine Own.ifYes W1 d4_9 16 (XT.i0_ge_t hj) (by decide) (by decide) ?_
    refine Own.iconst W1 d4_16 17 rfl 0 rfl ?_
    exact Own.retB W1 (by decide) (by decide) rfl d4_17 rfl ⟨by rw [hu]; rfl, rfl⟩
set_option maxRecDepth 65536 in
set_option maxHeartbeats 40000000 in
theorem con_ist1 {G : Own.Gl} (hw : ∀ d ∈ tables_1, d.before G.a0 G.Z = true) (hEL : EW G.Z G.a0 G.EL) (hmem : (Own.ST, 7) ∈ G.EL) {cz : Int32} (hS : Sta G.Z G.Z.heap Own.ST "COMPACT_STRINGS" "Z" (.int cz)) (hcz : ¬ cz = 0) {fm : Value} (SF : Sta G.Z G.Z.heap "jdk/internal/util/Preconditions" "SIOOBE_FORMATTER" "Ljava/util/function/BiFunction;" fm) (rfm : fm.isRef = true) (TA : Sta G.Z G.Z.heap "java/lang/StringUTF16" "$assertionsDisabled" "Z" (.int 1)) (TH : Sta G.Z G.Z.heap "java/lang/StringUTF16" "HI_BYTE_SHIFT" "I" (.int 0)) (TL : Sta G.Z G.Z.heap "java/lang/StringUTF16" "LO_BYTE_SHIFT" "I" (.int 8)) {ch0 : Int32} {x : Addr} {h : Heap} (hO : Old G.Z G.n0 h) (Sx : Own.Uni G.Z h x [ch0]) :
    Own.Con G [] bIst #[.ref x] h [] (fun v h' => v = some (.int (b2i (uns [ch0]))) ∧ h' = h) := by
  refine Own.Con.intro (plainFor_of_name pn_5) hO hEL _ (fun m => ef_ist m x) ?_
  intro X T0 W0 sf
  refine Own.aloadN W0 d4_0 1 rfl (.ref x) rfl rfl ?_
  refine Own.ifnullNo W0 d4_1 4 rfl ?_
  refine Own.aloadN W0 d4_4 5 rfl (.ref x) rfl rfl ?_
  refine Own.iconst W0 d4_5 6 rfl 0 rfl ?_
  refine Own.callS W0 (tw hw 26 rfl) (tw hw 27 rfl) (tw hw 24 rfl) (tw hw 28 rfl) (by decide) (argsL := [(.ref x), .int 0]) (rest := []) (Own.Con.pay (con_una1 hw hEL hmem hS hcz SF rfm TA TH TL rfl W0.old Sx) W0 (tw hw 28 rfl) (tw hw 24 rfl) (len := 3) (wd := 0) (by decide) (by decide) (fun _ q => nomatch q)) rfl (lenOf pd_16 rfl) rfl (lb rfl) d4_6 9 rfl 0 0 (lb rfl) (lb rfl) (lb rfl) (lb rfl) ?_
  intro v1 T1 h1 u1 W1 R1 hq
  obtain ⟨hv1, eh1⟩ := hq
  have ei1 := eh1.symm; subst ei1
  rcases hv1 with ⟨rfl, hu⟩ | ⟨j, rfl, hj, hu⟩
  · skip
    show Own.Go _ _ _ _ _ 9 #[.val (.ref x)] [(.int (-1))]
    refine Own.ifNo W1 d4_9 12 (by decide) rfl ?_
    refine Own.iconst W1 d4_12 13 rfl 1 rfl ?_
    refine Own.goto W1 d4_13 17 (by decide) (by decide) ?_
    exact Own.retB W1 (by decide) (by decide) rfl d4_17 rfl ⟨by rw [hu]; rfl, rfl⟩
  · skip
    show Own.Go _ _ _ _ _ 9 #[.val (.ref x)] [(.int j)]
    refine Own.ifYes W1 d4_9 16 (XT.i0_ge_t hj) (by decide) (by decide) ?_
    refine Own.iconst W1 d4_16 17 rfl 0 rfl ?_
    exact Own.retB W1 (by decide) (by decide) rfl d4_17 rfl ⟨by rw [hu]; rfl, rfl⟩
set_option maxRecDepth 65536 in
set_option maxHeartbeats 40000000 in
theorem con_ist2 {G : Own.Gl} (hw : ∀ d ∈ tables_1, d.before G.a0 G.Z = true) (hEL : EW G.Z G.a0 G.EL) (hmem : (Own.ST, 7) ∈ G.EL) {cz : Int32} (hS : Sta G.Z G.Z.heap Own.ST "COMPACT_STRINGS" "Z" (.int cz)) (hcz : ¬ cz = 0) {fm : Value} (SF : Sta G.Z G.Z.heap "jdk/internal/util/Preconditions" "SIOOBE_FORMATTER" "Ljava/util/function/BiFunction;" fm) (rfm : fm.isRef = true) (TA : Sta G.Z G.Z.heap "java/lang/StringUTF16" "$assertionsDisabled" "Z" (.int 1)) (TH : Sta G.Z G.Z.heap "java/lang/StringUTF16" "HI_BYTE_SHIFT" "I" (.int 0)) (TL : Sta G.Z G.Z.heap "java/lang/StringUTF16" "LO_BYTE_SHIFT" "I" (.int 8)) {ch0 ch1 : Int32} {x : Addr} {h : Heap} (hO : Old G.Z G.n0 h) (Sx : Own.Uni G.Z h x [ch0, ch1]) :
    Own.Con G [] bIst #[.ref x] h [] (fun v h' => v = some (.int (b2i (uns [ch0, ch1]))) ∧ h' = h) := by
  refine Own.Con.intro (plainFor_of_name pn_5) hO hEL _ (fun m => ef_ist m x) ?_
  intro X T0 W0 sf
  refine Own.aloadN W0 d4_0 1 rfl (.ref x) rfl rfl ?_
  refine Own.ifnullNo W0 d4_1 4 rfl ?_
  refine Own.aloadN W0 d4_4 5 rfl (.ref x) rfl rfl ?_
  refine Own.iconst W0 d4_5 6 rfl 0 rfl ?_
  refine Own.callS W0 (tw hw 26 rfl) (tw hw 27 rfl) (tw hw 24 rfl) (tw hw 28 rfl) (by decide) (argsL := [(.ref x), .int 0]) (rest := []) (Own.Con.pay (con_una2 hw hEL hmem hS hcz SF rfm TA TH TL rfl W0.old Sx) W0 (tw hw 28 rfl) (tw hw 24 rfl) (len := 3) (wd := 0) (by decide) (by decide) (fun _ q => nomatch q)) rfl (lenOf pd_16 rfl) rfl (lb rfl) d4_6 9 rfl 0 0 (lb rfl) (lb rfl) (lb rfl) (lb rfl) ?_
  intro v1 T1 h1 u1 W1 R1 hq
  obtain ⟨hv1, eh1⟩ := hq
  have ei1 := eh1.symm; subst ei1
  rcases hv1 with ⟨rfl, hu⟩ | ⟨j, rfl, hj, hu⟩
  · skip
    show Own.Go _ _ _ _ _ 9 #[.val (.ref x)] [(.int (-1))]
    refine Own.ifNo W1 d4_9 12 (by decide) rfl ?_
    refine Own.iconst W1 d4_12 13 rfl 1 rfl ?_
    refine Own.goto W1 d4_13 17 (by decide) (by decide) ?_
    exact Own.retB W1 (by decide) (by decide) rfl d4_17 rfl ⟨by rw [hu]; rfl, rfl⟩
  · skip
    show Own.Go _ _ _ _ _ 9 #[.val (.ref x)] [(.int j)]
    refine Own.ifYes W1 d4_9 16 (XT.i0_ge_t hj) (by decide) (by decide) ?_
    refine Own.iconst W1 d4_16 17 rfl 0 rfl ?_
    exact Own.retB W1 (by decide) (by decide) rfl d4_17 rfl ⟨by rw [hu]; rfl, rfl⟩
set_option maxRecDepth 65536 in
set_option maxHeartbeats 40000000 in
theorem con_ist3 {G : Own.Gl} (hw : ∀ d ∈ tables_1, d.before G.a0 G.Z = true) (hEL : EW G.Z G.a0 G.EL) (hmem : (Own.ST, 7) ∈ G.EL) {cz : Int32} (hS : Sta G.Z G.Z.heap Own.ST "COMPACT_STRINGS" "Z" (.int cz)) (hcz : ¬ cz = 0) {fm : Value} (SF : Sta G.Z G.Z.heap "jdk/internal/util/Preconditions" "SIOOBE_FORMATTER" "Ljava/util/function/BiFunction;" fm) (rfm : fm.isRef = true) (TA : Sta G.Z G.Z.heap "java/lang/StringUTF16" "$assertionsDisabled" "Z" (.int 1)) (TH : Sta G.Z G.Z.heap "java/lang/StringUTF16" "HI_BYTE_SHIFT" "I" (.int 0)) (TL : Sta G.Z G.Z.heap "java/lang/StringUTF16" "LO_BYTE_SHIFT" "I" (.int 8)) {ch0 ch1 ch2 : Int32} {x : Addr} {h : Heap} (hO : Old G.Z G.n0 h) (Sx : Own.Uni G.Z h x [ch0, ch1, ch2]) :
    Own.Con G [] bIst #[.ref x] h [] (fun v h' => v = some (.int (b2i (uns [ch0, ch1, ch2]))) ∧ h' = h) := by
  refine Own.Con.intro (plainFor_of_name pn_5) hO hEL _ (fun m => ef_ist m x) ?_
  intro X T0 W0 sf
  refine Own.aloadN W0 d4_0 1 rfl (.ref x) rfl rfl ?_
  refine Own.ifnullNo W0 d4_1 4 rfl ?_
  refine Own.aloadN W0 d4_4 5 rfl (.ref x) rfl rfl ?_
  refine Own.iconst W0 d4_5 6 rfl 0 rfl ?_
  refine Own.callS W0 (tw hw 26 rfl) (tw hw 27 rfl) (tw hw 24 rfl) (tw hw 28 rfl) (by decide) (argsL := [(.ref x), .int 0]) (rest := []) (Own.Con.pay (con_una3 hw hEL hmem hS hcz SF rfm TA TH TL rfl W0.old Sx) W0 (tw hw 28 rfl) (tw hw 24 rfl) (len := 3) (wd := 0) (by decide) (by decide) (fun _ q => nomatch q)) rfl (lenOf pd_16 rfl) rfl (lb rfl) d4_6 9 rfl 0 0 (lb rfl) (lb rfl) (lb rfl) (lb rfl) ?_
  intro v1 T1 h1 u1 W1 R1 hq
  obtain ⟨hv1, eh1⟩ := hq
  have ei1 := eh1.symm; subst ei1
  rcases hv1 with ⟨rfl, hu⟩ | ⟨j, rfl, hj, hu⟩
  · skip
    show Own.Go _ _ _ _ _ 9 #[.val (.ref x)] [(.int (-1))]
    refine Own.ifNo W1 d4_9 12 (by decide) rfl ?_
    refine Own.iconst W1 d4_12 13 rfl 1 rfl ?_
    refine Own.goto W1 d4_13 17 (by decide) (by decide) ?_
    exact Own.retB W1 (by decide) (by decide) rfl d4_17 rfl ⟨by rw [hu]; rfl, rfl⟩
  · skip
    show Own.Go _ _ _ _ _ 9 #[.val (.ref x)] [(.int j)]
    refine Own.ifYes W1 d4_9 16 (XT.i0_ge_t hj) (by decide) (by decide) ?_
    refine Own.iconst W1 d4_16 17 rfl 0 rfl ?_
    exact Own.retB W1 (by decide) (by decide) rfl d4_17 rfl ⟨by rw [hu]; rfl, rfl⟩
set_option maxRecDepth 65536 in
set_option maxHeartbeats 40000000 in
theorem con_ist4 {G : Own.Gl} (hw : ∀ d ∈ tables_1, d.before G.a0 G.Z = true) (hEL : EW G.Z G.a0 G.EL) (hmem : (Own.ST, 7) ∈ G.EL) {cz : Int32} (hS : Sta G.Z G.Z.heap Own.ST "COMPACT_STRINGS" "Z" (.int cz)) (hcz : ¬ cz = 0) {fm : Value} (SF : Sta G.Z G.Z.heap "jdk/internal/util/Preconditions" "SIOOBE_FORMATTER" "Ljava/util/function/BiFunction;" fm) (rfm : fm.isRef = true) (TA : Sta G.Z G.Z.heap "java/lang/StringUTF16" "$assertionsDisabled" "Z" (.int 1)) (TH : Sta G.Z G.Z.heap "java/lang/StringUTF16" "HI_BYTE_SHIFT" "I" (.int 0)) (TL : Sta G.Z G.Z.heap "java/lang/StringUTF16" "LO_BYTE_SHIFT" "I" (.int 8)) {ch0 ch1 ch2 ch3 : Int32} {x : Addr} {h : Heap} (hO : Old G.Z G.n0 h) (Sx : Own.Uni G.Z h x [ch0, ch1, ch2, ch3]) :
    Own.Con G [] bIst #[.ref x] h [] (fun v h' => v = some (.int (b2i (uns [ch0, ch1, ch2, ch3]))) ∧ h' = h) := by
  refine Own.Con.intro (plainFor_of_name pn_5) hO hEL _ (fun m => ef_ist m x) ?_
  intro X T0 W0 sf
  refine Own.aloadN W0 d4_0 1 rfl (.ref x) rfl rfl ?_
  refine Own.ifnullNo W0 d4_1 4 rfl ?_
  refine Own.aloadN W0 d4_4 5 rfl (.ref x) rfl rfl ?_
  refine Own.iconst W0 d4_5 6 rfl 0 rfl ?_
  refine Own.callS W0 (tw hw 26 rfl) (tw hw 27 rfl) (tw hw 24 rfl) (tw hw 28 rfl) (by decide) (argsL := [(.ref x), .int 0]) (rest := []) (Own.Con.pay (con_una4 hw hEL hmem hS hcz SF rfm TA TH TL rfl W0.old Sx) W0 (tw hw 28 rfl) (tw hw 24 rfl) (len := 3) (wd := 0) (by decide) (by decide) (fun _ q => nomatch q)) rfl (lenOf pd_16 rfl) rfl (lb rfl) d4_6 9 rfl 0 0 (lb rfl) (lb rfl) (lb rfl) (lb rfl) ?_
  intro v1 T1 h1 u1 W1 R1 hq
  obtain ⟨hv1, eh1⟩ := hq
  have ei1 := eh1.symm; subst ei1
  rcases hv1 with ⟨rfl, hu⟩ | ⟨j, rfl, hj, hu⟩
  · skip
    show Own.Go _ _ _ _ _ 9 #[.val (.ref x)] [(.int (-1))]
    refine Own.ifNo W1 d4_9 12 (by decide) rfl ?_
    refine Own.iconst W1 d4_12 13 rfl 1 rfl ?_
    refine Own.goto W1 d4_13 17 (by decide) (by decide) ?_
    exact Own.retB W1 (by decide) (by decide) rfl d4_17 rfl ⟨by rw [hu]; rfl, rfl⟩
  · skip
    show Own.Go _ _ _ _ _ 9 #[.val (.ref x)] [(.int j)]
    refine Own.ifYes W1 d4_9 16 (XT.i0_ge_t hj) (by decide) (by decide) ?_
    refine Own.iconst W1 d4_16 17 rfl 0 rfl ?_
    exact Own.retB W1 (by decide) (by decide) rfl d4_17 rfl ⟨by rw [hu]; rfl, rfl⟩
set_option maxRecDepth 65536 in
set_option maxHeartbeats 40000000 in
theorem con_ok1_0 {G : Own.Gl} (hw : ∀ d ∈ tables_1, d.before G.a0 G.Z = true) (hEL : EW G.Z G.a0 G.EL) {ch0 ch1 ch2 ch3 : Int32} {s : Addr} {kC : ClassId} {ii ln : Int32} (hii : ii = 0) (hln : ln = 1) {h : Heap} (hO : Old G.Z G.n0 h) (A : Arv G.Z h s kC .char 4 [.int ch0, .int ch1, .int ch2, .int ch3] (.int 0)) :
    Own.Con G [] bOk1_0 #[.ref s, .int ii, .int ln] h [] (fun v h' => v = some (.int (b2i (okB (decide (ch0 = 0)) (hB ch0) (lB ch0) false false))) ∧ h' = h) := by
  refine Own.Con.intro (plainFor_of_name pn_4) hO hEL _ (fun m => ef_bOk1_0 m s ii ln) ?_
  intro X T0 W0 sf
  subst hii; subst hln
  refine Own.aloadN W0 d8_0 1 rfl (.ref s) rfl rfl ?_
  refine Own.iloadN W0 d8_1 2 rfl 0 rfl ?_
  refine Own.caload W0 A (by decide) (.int ch0) rfl d8_2 3 rfl ?_
  refine Own.istoreN W0 d8_3 4 rfl #[.val (.ref s), .val (.int 0), .val (.int 1), .val (.int ch0)] rfl ?_
  refine Own.iloadN W0 d8_4 5 rfl ch0 rfl ?_
  by_cases hz : ch0 = (0 : Int32)
  · skip
    refine Own.ifNo W0 d8_5 8 (XT.i0_ne_f hz) rfl ?_
    refine Own.iconst W0 d8_8 9 rfl 0 rfl ?_
    exact Own.retB W0 (by decide) (by decide) rfl d8_9 rfl ⟨by rw [b2i_f (by simp [okB, hz])], rfl⟩
  · skip
    refine Own.ifYes W0 d8_5 10 (XT.i0_ne_t hz) (by decide) (by decide) ?_
    refine Own.iloadN W0 d8_10 11 rfl ch0 rfl ?_
    refine Own.callS W0 (tw hw 44 rfl) (tw hw 45 rfl) (tw hw 42 rfl) (tw hw 46 rfl) (by decide) (argsL := [(.int ch0)]) (rest := []) (Own.Con.pay (con_hi hw hEL ch0 W0.old) W0 (tw hw 46 rfl) (tw hw 42 rfl) (len := 3) (wd := 0) (by decide) (by decide) (fun _ q => nomatch q)) rfl (lenOf pd_15 rfl) rfl (lb rfl) d8_11 14 rfl 0 0 (lb rfl) (lb rfl) (lb rfl) (lb rfl) ?_
    intro v1 T1 h1 u1 W1 R1 hq
    obtain ⟨rfl, eh1⟩ := hq
    have ei1 := eh1.symm; subst ei1
    by_cases hH : hB ch0 = true
    · skip
      rw [b2i_t hH]
      show Own.Go _ _ _ _ _ 14 #[.val (.ref s), .val (.int 0), .val (.int 1), .val (.int ch0)] [.int 1]
      refine Own.ifNo W1 d8_14 17 (by decide) rfl ?_
      refine Own.iloadN W1 d8_17 18 rfl 0 rfl ?_
      refine Own.iconst W1 d8_18 19 rfl 1 rfl ?_
      refine Own.iadd W1 d8_19 20 rfl ?_
      refine Own.iloadN W1 d8_20 21 rfl 1 rfl ?_
      refine Own.icmpYes W1 d8_21 39 (by decide) (by decide) (by decide) ?_
      refine Own.iconst W1 d8_39 40 rfl 0 rfl ?_
      exact Own.retB W1 (by decide) (by decide) rfl d8_40 rfl ⟨by rw [b2i_f (by simp [okB, hz, hH])], rfl⟩
    · skip
      rw [b2i_f hH]
      show Own.Go _ _ _ _ _ 14 #[.val (.ref s), .val (.int 0), .val (.int 1), .val (.int ch0)] [.int 0]
      refine Own.ifYes W1 d8_14 41 (by decide) (by decide) (by decide) ?_
      refine Own.iloadN W1 d8_41 42 rfl ch0 rfl ?_
      refine Own.callS W1 (tw hw 48 rfl) (tw hw 49 rfl) (tw hw 42 rfl) (tw hw 50 rfl) (by decide) (argsL := [(.int ch0)]) (rest := []) (Own.Con.pay (con_lo hw hEL ch0 W1.old) W1 (tw hw 50 rfl) (tw hw 42 rfl) (len := 3) (wd := 0) (by decide) (by decide) (fun _ q => nomatch q)) rfl (lenOf pd_15 rfl) rfl (lb rfl) d8_42 45 rfl 0 0 (lb rfl) (lb rfl) (lb rfl) (lb rfl) ?_
      intro v2 T2 h2 u2 W2 R2 hq
      obtain ⟨rfl, eh2⟩ := hq
      have ei2 := eh2.symm; subst ei2
      by_cases hl : lB ch0 = true
      · skip
        rw [b2i_t hl]
        show Own.Go _ _ _ _ _ 45 #[.val (.ref s), .val (.int 0), .val (.int 1), .val (.int ch0)] [.int 1]
        refine Own.ifNo W2 d8_45 48 (by decide) rfl ?_
        refine Own.iloadN W2 d8_48 49 rfl 0 rfl ?_
        refine Own.ifYes W2 d8_49 67 (by decide) (by decide) (by decide) ?_
        refine Own.iconst W2 d8_67 68 rfl 0 rfl ?_
        exact Own.retB W2 (by decide) (by decide) rfl d8_68 rfl ⟨by rw [b2i_f (by simp [okB, hz, hH, hl])], rfl⟩
      · skip
        rw [b2i_f hl]
        show Own.Go _ _ _ _ _ 45 #[.val (.ref s), .val (.int 0), .val (.int 1), .val (.int ch0)] [.int 0]
        refine Own.ifYes W2 d8_45 69 (by decide) (by decide) (by decide) ?_
        refine Own.iconst W2 d8_69 70 rfl 1 rfl ?_
        exact Own.retB W2 (by decide) (by decide) rfl d8_70 rfl ⟨by rw [b2i_t (by simp [okB, hz, hH, hl])], rfl⟩
set_option maxRecDepth 65536 in
set_option maxHeartbeats 40000000 in
theorem con_ok2_0 {G : Own.Gl} (hw : ∀ d ∈ tables_1, d.before G.a0 G.Z = true) (hEL : EW G.Z G.a0 G.EL) {ch0 ch1 ch2 ch3 : Int32} {s : Addr} {kC : ClassId} {ii ln : Int32} (hii : ii = 0) (hln : ln = 2) {h : Heap} (hO : Old G.Z G.n0 h) (A : Arv G.Z h s kC .char 4 [.int ch0, .int ch1, .int ch2, .int ch3] (.int 0)) :
    Own.Con G [] bOk2_0 #[.ref s, .int ii, .int ln] h [] (fun v h' => v = some (.int (b2i (okB (decide (ch0 = 0)) (hB ch0) (lB ch0) (lB ch1) false))) ∧ h' = h) := by
  refine Own.Con.intro (plainFor_of_name pn_4) hO hEL _ (fun m => ef_bOk2_0 m s ii ln) ?_
  intro X T0 W0 sf
  subst hii; subst hln
  refine Own.aloadN W0 d8_0 1 rfl (.ref s) rfl rfl ?_
  refine Own.iloadN W0 d8_1 2 rfl 0 rfl ?_
  refine Own.caload W0 A (by decide) (.int ch0) rfl d8_2 3 rfl ?_
  refine Own.istoreN W0 d8_3 4 rfl #[.val (.ref s), .val (.int 0), .val (.int 2), .val (.int ch0)] rfl ?_
  refine Own.iloadN W0 d8_4 5 rfl ch0 rfl ?_
  by_cases hz : ch0 = (0 : Int32)
  · skip
    refine Own.ifNo W0 d8_5 8 (XT.i0_ne_f hz) rfl ?_
    refine Own.iconst W0 d8_8 9 rfl 0 rfl ?_
    exact Own.retB W0 (by decide) (by decide) rfl d8_9 rfl ⟨by rw [b2i_f (by simp [okB, hz])], rfl⟩
  · skip
    refine Own.ifYes W0 d8_5 10 (XT.i0_ne_t hz) (by decide) (by decide) ?_
    refine Own.iloadN W0 d8_10 11 rfl ch0 rfl ?_
    refine Own.callS W0 (tw hw 44 rfl) (tw hw 45 rfl) (tw hw 42 rfl) (tw hw 46 rfl) (by decide) (argsL := [(.int ch0)]) (rest := []) (Own.Con.pay (con_hi hw hEL ch0 W0.old) W0 (tw hw 46 rfl) (tw hw 42 rfl) (len := 3) (wd := 0) (by decide) (by decide) (fun _ q => nomatch q)) rfl (lenOf pd_15 rfl) rfl (lb rfl) d8_11 14 rfl 0 0 (lb rfl) (lb rfl) (lb rfl) (lb rfl) ?_
    intro v1 T1 h1 u1 W1 R1 hq
    obtain ⟨rfl, eh1⟩ := hq
    have ei1 := eh1.symm; subst ei1
    by_cases hH : hB ch0 = true
    · skip
      rw [b2i_t hH]
      show Own.Go _ _ _ _ _ 14 #[.val (.ref s), .val (.int 0), .val (.int 2), .val (.int ch0)] [.int 1]
      refine Own.ifNo W1 d8_14 17 (by decide) rfl ?_
      refine Own.iloadN W1 d8_17 18 rfl 0 rfl ?_
      refine Own.iconst W1 d8_18 19 rfl 1 rfl ?_
      refine Own.iadd W1 d8_19 20 rfl ?_
      refine Own.iloadN W1 d8_20 21 rfl 2 rfl ?_
      refine Own.icmpNo W1 d8_21 24 (by decide) rfl ?_
      refine Own.aloadN W1 d8_24 25 rfl (.ref s) rfl rfl ?_
      refine Own.iloadN W1 d8_25 26 rfl 0 rfl ?_
      refine Own.iconst W1 d8_26 27 rfl 1 rfl ?_
      refine Own.iadd W1 d8_27 28 rfl ?_
      refine Own.caload W1 A (by decide) (.int ch1) rfl d8_28 29 rfl ?_
      refine Own.callS W1 (tw hw 48 rfl) (tw hw 49 rfl) (tw hw 42 rfl) (tw hw 50 rfl) (by decide) (argsL := [(.int ch1)]) (rest := []) (Own.Con.pay (con_lo hw hEL ch1 W1.old) W1 (tw hw 50 rfl) (tw hw 42 rfl) (len := 3) (wd := 0) (by decide) (by decide) (fun _ q => nomatch q)) rfl (lenOf pd_15 rfl) rfl (lb rfl) d8_29 32 rfl 0 0 (lb rfl) (lb rfl) (lb rfl) (lb rfl) ?_
      intro v2 T2 h2 u2 W2 R2 hq
      obtain ⟨rfl, eh2⟩ := hq
      have ei2 := eh2.symm; subst ei2
      by_cases hL : lB ch1 = true
      · skip
        rw [b2i_t hL]
        show Own.Go _ _ _ _ _ 32 #[.val (.ref s), .val (.int 0), .val (.int 2), .val (.int ch0)] [.int 1]
        refine Own.ifNo W2 d8_32 35 (by decide) rfl ?_
        refine Own.iconst W2 d8_35 36 rfl 1 rfl ?_
        refine Own.goto W2 d8_36 40 (by decide) (by decide) ?_
        exact Own.retB W2 (by decide) (by decide) rfl d8_40 rfl ⟨by rw [b2i_t (by simp [okB, hz, hH, hL])], rfl⟩
      · skip
        rw [b2i_f hL]
        show Own.Go _ _ _ _ _ 32 #[.val (.ref s), .val (.int 0), .val (.int 2), .val (.int ch0)] [.int 0]
        refine Own.ifYes W2 d8_32 39 (by decide) (by decide) (by decide) ?_
        refine Own.iconst W2 d8_39 40 rfl 0 rfl ?_
        exact Own.retB W2 (by decide) (by decide) rfl d8_40 rfl ⟨by rw [b2i_f (by simp [okB, hz, hH, hL])], rfl⟩
    · skip
      rw [b2i_f hH]
      show Own.Go _ _ _ _ _ 14 #[.val (.ref s), .val (.int 0), .val (.int 2), .val (.int ch0)] [.int 0]
      refine Own.ifYes W1 d8_14 41 (by decide) (by decide) (by decide) ?_
      refine Own.iloadN W1 d8_41 42 rfl ch0 rfl ?_
      refine Own.callS W1 (tw hw 48 rfl) (tw hw 49 rfl) (tw hw 42 rfl) (tw hw 50 rfl) (by decide) (argsL := [(.int ch0)]) (rest := []) (Own.Con.pay (con_lo hw hEL ch0 W1.old) W1 (tw hw 50 rfl) (tw hw 42 rfl) (len := 3) (wd := 0) (by decide) (by decide) (fun _ q => nomatch q)) rfl (lenOf pd_15 rfl) rfl (lb rfl) d8_42 45 rfl 0 0 (lb rfl) (lb rfl) (lb rfl) (lb rfl) ?_
      intro v3 T3 h3 u3 W3 R3 hq
      obtain ⟨rfl, eh3⟩ := hq
      have ei3 := eh3.symm; subst ei3
      by_cases hl : lB ch0 = true
      · skip
        rw [b2i_t hl]
        show Own.Go _ _ _ _ _ 45 #[.val (.ref s), .val (.int 0), .val (.int 2), .val (.int ch0)] [.int 1]
        refine Own.ifNo W3 d8_45 48 (by decide) rfl ?_
        refine Own.iloadN W3 d8_48 49 rfl 0 rfl ?_
        refine Own.ifYes W3 d8_49 67 (by decide) (by decide) (by decide) ?_
        refine Own.iconst W3 d8_67 68 rfl 0 rfl ?_
        exact Own.retB W3 (by decide) (by decide) rfl d8_68 rfl ⟨by rw [b2i_f (by simp [okB, hz, hH, hl])], rfl⟩
      · skip
        rw [b2i_f hl]
        show Own.Go _ _ _ _ _ 45 #[.val (.ref s), .val (.int 0), .val (.int 2), .val (.int ch0)] [.int 0]
        refine Own.ifYes W3 d8_45 69 (by decide) (by decide) (by decide) ?_
        refine Own.iconst W3 d8_69 70 rfl 1 rfl ?_
        exact Own.retB W3 (by decide) (by decide) rfl d8_70 rfl ⟨by rw [b2i_t (by simp [okB, hz, hH, hl])], rfl⟩
set_option maxRecDepth 65536 in
set_option maxHeartbeats 40000000 in
theorem con_ok2_1 {G : Own.Gl} (hw : ∀ d ∈ tables_1, d.before G.a0 G.Z = true) (hEL : EW G.Z G.a0 G.EL) {ch0 ch1 ch2 ch3 : Int32} {s : Addr} {kC : ClassId} {ii ln : Int32} (hii : ii = 1) (hln : ln = 2) {h : Heap} (hO : Old G.Z G.n0 h) (A : Arv G.Z h s kC .char 4 [.int ch0, .int ch1, .int ch2, .int ch3] (.int 0)) :
    Own.Con G [] bOk2_1 #[.ref s, .int ii, .int ln] h [] (fun v h' => v = some (.int (b2i (okB (decide (ch1 = 0)) (hB ch1) (lB ch1) false (hB ch0)))) ∧ h' = h) := by
  refine Own.Con.intro (plainFor_of_name pn_4) hO hEL _ (fun m => ef_bOk2_1 m s ii ln) ?_
  intro X T0 W0 sf
  subst hii; subst hln
  refine Own.aloadN W0 d8_0 1 rfl (.ref s) rfl rfl ?_
  refine Own.iloadN W0 d8_1 2 rfl 1 rfl ?_
  refine Own.caload W0 A (by decide) (.int ch1) rfl d8_2 3 rfl ?_
  refine Own.istoreN W0 d8_3 4 rfl #[.val (.ref s), .val (.int 1), .val (.int 2), .val (.int ch1)] rfl ?_
  refine Own.iloadN W0 d8_4 5 rfl ch1 rfl ?_
  by_cases hz : ch1 = (0 : Int32)
  · skip
    refine Own.ifNo W0 d8_5 8 (XT.i0_ne_f hz) rfl ?_
    refine Own.iconst W0 d8_8 9 rfl 0 rfl ?_
    exact Own.retB W0 (by decide) (by decide) rfl d8_9 rfl ⟨by rw [b2i_f (by simp [okB, hz])], rfl⟩
  · skip
    refine Own.ifYes W0 d8_5 10 (XT.i0_ne_t hz) (by decide) (by decide) ?_
    refine Own.iloadN W0 d8_10 11 rfl ch1 rfl ?_
    refine Own.callS W0 (tw hw 44 rfl) (tw hw 45 rfl) (tw hw 42 rfl) (tw hw 46 rfl) (by decide) (argsL := [(.int ch1)]) (rest := []) (Own.Con.pay (con_hi hw hEL ch1 W0.old) W0 (tw hw 46 rfl) (tw hw 42 rfl) (len := 3) (wd := 0) (by decide) (by decide) (fun _ q => nomatch q)) rfl (lenOf pd_15 rfl) rfl (lb rfl) d8_11 14 rfl 0 0 (lb rfl) (lb rfl) (lb rfl) (lb rfl) ?_
    intro v1 T1 h1 u1 W1 R1 hq
    obtain ⟨rfl, eh1⟩ := hq
    have ei1 := eh1.symm; subst ei1
    by_cases hH : hB ch1 = true
    · skip
      rw [b2i_t hH]
      show Own.Go _ _ _ _ _ 14 #[.val (.ref s), .val (.int 1), .val (.int 2), .val (.int ch1)] [.int 1]
      refine Own.ifNo W1 d8_14 17 (by decide) rfl ?_
      refine Own.iloadN W1 d8_17 18 rfl 1 rfl ?_
      refine Own.iconst W1 d8_18 19 rfl 1 rfl ?_
      refine Own.iadd W1 d8_19 20 rfl ?_
      refine Own.iloadN W1 d8_20 21 rfl 2 rfl ?_
      refine Own.icmpYes W1 d8_21 39 (by decide) (by decide) (by decide) ?_
      refine Own.iconst W1 d8_39 40 rfl 0 rfl ?_
      exact Own.retB W1 (by decide) (by decide) rfl d8_40 rfl ⟨by rw [b2i_f (by simp [okB, hz, hH])], rfl⟩
    · skip
      rw [b2i_f hH]
      show Own.Go _ _ _ _ _ 14 #[.val (.ref s), .val (.int 1), .val (.int 2), .val (.int ch1)] [.int 0]
      refine Own.ifYes W1 d8_14 41 (by decide) (by decide) (by decide) ?_
      refine Own.iloadN W1 d8_41 42 rfl ch1 rfl ?_
      refine Own.callS W1 (tw hw 48 rfl) (tw hw 49 rfl) (tw hw 42 rfl) (tw hw 50 rfl) (by decide) (argsL := [(.int ch1)]) (rest := []) (Own.Con.pay (con_lo hw hEL ch1 W1.old) W1 (tw hw 50 rfl) (tw hw 42 rfl) (len := 3) (wd := 0) (by decide) (by decide) (fun _ q => nomatch q)) rfl (lenOf pd_15 rfl) rfl (lb rfl) d8_42 45 rfl 0 0 (lb rfl) (lb rfl) (lb rfl) (lb rfl) ?_
      intro v2 T2 h2 u2 W2 R2 hq
      obtain ⟨rfl, eh2⟩ := hq
      have ei2 := eh2.symm; subst ei2
      by_cases hl : lB ch1 = true
      · skip
        rw [b2i_t hl]
        show Own.Go _ _ _ _ _ 45 #[.val (.ref s), .val (.int 1), .val (.int 2), .val (.int ch1)] [.int 1]
        refine Own.ifNo W2 d8_45 48 (by decide) rfl ?_
        refine Own.iloadN W2 d8_48 49 rfl 1 rfl ?_
        refine Own.ifNo W2 d8_49 52 (by decide) rfl ?_
        refine Own.aloadN W2 d8_52 53 rfl (.ref s) rfl rfl ?_
        refine Own.iloadN W2 d8_53 54 rfl 1 rfl ?_
        refine Own.iconst W2 d8_54 55 rfl 1 rfl ?_
        refine Own.isub W2 d8_55 56 rfl ?_
        refine Own.caload W2 A (by decide) (.int ch0) rfl d8_56 57 rfl ?_
        refine Own.callS W2 (tw hw 44 rfl) (tw hw 45 rfl) (tw hw 42 rfl) (tw hw 46 rfl) (by decide) (argsL := [(.int ch0)]) (rest := []) (Own.Con.pay (con_hi hw hEL ch0 W2.old) W2 (tw hw 46 rfl) (tw hw 42 rfl) (len := 3) (wd := 0) (by decide) (by decide) (fun _ q => nomatch q)) rfl (lenOf pd_15 rfl) rfl (lb rfl) d8_57 60 rfl 0 0 (lb rfl) (lb rfl) (lb rfl) (lb rfl) ?_
        intro v3 T3 h3 u3 W3 R3 hq
        obtain ⟨rfl, eh3⟩ := hq
        have ei3 := eh3.symm; subst ei3
        by_cases hP : hB ch0 = true
        · skip
          rw [b2i_t hP]
          show Own.Go _ _ _ _ _ 60 #[.val (.ref s), .val (.int 1), .val (.int 2), .val (.int ch1)] [.int 1]
          refine Own.ifNo W3 d8_60 63 (by decide) rfl ?_
          refine Own.iconst W3 d8_63 64 rfl 1 rfl ?_
          refine Own.goto W3 d8_64 68 (by decide) (by decide) ?_
          exact Own.retB W3 (by decide) (by decide) rfl d8_68 rfl ⟨by rw [b2i_t (by simp [okB, hz, hH, hl, hP])], rfl⟩
        · skip
          rw [b2i_f hP]
          show Own.Go _ _ _ _ _ 60 #[.val (.ref s), .val (.int 1), .val (.int 2), .val (.int ch1)] [.int 0]
          refine Own.ifYes W3 d8_60 67 (by decide) (by decide) (by decide) ?_
          refine Own.iconst W3 d8_67 68 rfl 0 rfl ?_
          exact Own.retB W3 (by decide) (by decide) rfl d8_68 rfl ⟨by rw [b2i_f (by simp [okB, hz, hH, hl, hP])], rfl⟩
      · skip
        rw [b2i_f hl]
        show Own.Go _ _ _ _ _ 45 #[.val (.ref s), .val (.int 1), .val (.int 2), .val (.int ch1)] [.int 0]
        refine Own.ifYes W2 d8_45 69 (by decide) (by decide) (by decide) ?_
        refine Own.iconst W2 d8_69 70 rfl 1 rfl ?_
        exact Own.retB W2 (by decide) (by decide) rfl d8_70 rfl ⟨by rw [b2i_t (by simp [okB, hz, hH, hl])], rfl⟩
set_option maxRecDepth 65536 in
set_option maxHeartbeats 40000000 in
theorem con_ok3_0 {G : Own.Gl} (hw : ∀ d ∈ tables_1, d.before G.a0 G.Z = true) (hEL : EW G.Z G.a0 G.EL) {ch0 ch1 ch2 ch3 : Int32} {s : Addr} {kC : ClassId} {ii ln : Int32} (hii : ii = 0) (hln : ln = 3) {h : Heap} (hO : Old G.Z G.n0 h) (A : Arv G.Z h s kC .char 4 [.int ch0, .int ch1, .int ch2, .int ch3] (.int 0)) :
    Own.Con G [] bOk3_0 #[.ref s, .int ii, .int ln] h [] (fun v h' => v = some (.int (b2i (okB (decide (ch0 = 0)) (hB ch0) (lB ch0) (lB ch1) false))) ∧ h' = h) := by
  refine Own.Con.intro (plainFor_of_name pn_4) hO hEL _ (fun m => ef_bOk3_0 m s ii ln) ?_
  intro X T0 W0 sf
  subst hii; subst hln
  refine Own.aloadN W0 d8_0 1 rfl (.ref s) rfl rfl ?_
  refine Own.iloadN W0 d8_1 2 rfl 0 rfl ?_
  refine Own.caload W0 A (by decide) (.int ch0) rfl d8_2 3 rfl ?_
  refine Own.istoreN W0 d8_3 4 rfl #[.val (.ref s), .val (.int 0), .val (.int 3), .val (.int ch0)] rfl ?_
  refine Own.iloadN W0 d8_4 5 rfl ch0 rfl ?_
  by_cases hz : ch0 = (0 : Int32)
  · skip
    refine Own.ifNo W0 d8_5 8 (XT.i0_ne_f hz) rfl ?_
    refine Own.iconst W0 d8_8 9 rfl 0 rfl ?_
    exact Own.retB W0 (by decide) (by decide) rfl d8_9 rfl ⟨by rw [b2i_f (by simp [okB, hz])], rfl⟩
  · skip
    refine Own.ifYes W0 d8_5 10 (XT.i0_ne_t hz) (by decide) (by decide) ?_
    refine Own.iloadN W0 d8_10 11 rfl ch0 rfl ?_
    refine Own.callS W0 (tw hw 44 rfl) (tw hw 45 rfl) (tw hw 42 rfl) (tw hw 46 rfl) (by decide) (argsL := [(.int ch0)]) (rest := []) (Own.Con.pay (con_hi hw hEL ch0 W0.old) W0 (tw hw 46 rfl) (tw hw 42 rfl) (len := 3) (wd := 0) (by decide) (by decide) (fun _ q => nomatch q)) rfl (lenOf pd_15 rfl) rfl (lb rfl) d8_11 14 rfl 0 0 (lb rfl) (lb rfl) (lb rfl) (lb rfl) ?_
    intro v1 T1 h1 u1 W1 R1 hq
    obtain ⟨rfl, eh1⟩ := hq
    have ei1 := eh1.symm; subst ei1
    by_cases hH : hB ch0 = true
    · skip
      rw [b2i_t hH]
      show Own.Go _ _ _ _ _ 14 #[.val (.ref s), .val (.int 0), .val (.int 3), .val (.int ch0)] [.int 1]
      refine Own.ifNo W1 d8_14 17 (by decide) rfl ?_
      refine Own.iloadN W1 d8_17 18 rfl 0 rfl ?_
      refine Own.iconst W1 d8_18 19 rfl 1 rfl ?_
      refine Own.iadd W1 d8_19 20 rfl ?_
      refine Own.iloadN W1 d8_20 21 rfl 3 rfl ?_
      refine Own.icmpNo W1 d8_21 24 (by decide) rfl ?_
      refine Own.aloadN W1 d8_24 25 rfl (.ref s) rfl rfl ?_
      refine Own.iloadN W1 d8_25 26 rfl 0 rfl ?_
      refine Own.iconst W1 d8_26 27 rfl 1 rfl ?_
      refine Own.iadd W1 d8_27 28 rfl ?_
      refine Own.caload W1 A (by decide) (.int ch1) rfl d8_28 29 rfl ?_
      refine Own.callS W1 (tw hw 48 rfl) (tw hw 49 rfl) (tw hw 42 rfl) (tw hw 50 rfl) (by decide) (argsL := [(.int ch1)]) (rest := []) (Own.Con.pay (con_lo hw hEL ch1 W1.old) W1 (tw hw 50 rfl) (tw hw 42 rfl) (len := 3) (wd := 0) (by decide) (by decide) (fun _ q => nomatch q)) rfl (lenOf pd_15 rfl) rfl (lb rfl) d8_29 32 rfl 0 0 (lb rfl) (lb rfl) (lb rfl) (lb rfl) ?_
      intro v2 T2 h2 u2 W2 R2 hq
      obtain ⟨rfl, eh2⟩ := hq
      have ei2 := eh2.symm; subst ei2
      by_cases hL : lB ch1 = true
      · skip
        rw [b2i_t hL]
        show Own.Go _ _ _ _ _ 32 #[.val (.ref s), .val (.int 0), .val (.int 3), .val (.int ch0)] [.int 1]
        refine Own.ifNo W2 d8_32 35 (by decide) rfl ?_
        refine Own.iconst W2 d8_35 36 rfl 1 rfl ?_
        refine Own.goto W2 d8_36 40 (by decide) (by decide) ?_
        exact Own.retB W2 (by decide) (by decide) rfl d8_40 rfl ⟨by rw [b2i_t (by simp [okB, hz, hH, hL])], rfl⟩
      · skip
        rw [b2i_f hL]
        show Own.Go _ _ _ _ _ 32 #[.val (.ref s), .val (.int 0), .val (.int 3), .val (.int ch0)] [.int 0]
        refine Own.ifYes W2 d8_32 39 (by decide) (by decide) (by decide) ?_
        refine Own.iconst W2 d8_39 40 rfl 0 rfl ?_
        exact Own.retB W2 (by decide) (by decide) rfl d8_40 rfl ⟨by rw [b2i_f (by simp [okB, hz, hH, hL])], rfl⟩
    · skip
      rw [b2i_f hH]
      show Own.Go _ _ _ _ _ 14 #[.val (.ref s), .val (.int 0), .val (.int 3), .val (.int ch0)] [.int 0]
      refine Own.ifYes W1 d8_14 41 (by decide) (by decide) (by decide) ?_
      refine Own.iloadN W1 d8_41 42 rfl ch0 rfl ?_
      refine Own.callS W1 (tw hw 48 rfl) (tw hw 49 rfl) (tw hw 42 rfl) (tw hw 50 rfl) (by decide) (argsL := [(.int ch0)]) (rest := []) (Own.Con.pay (con_lo hw hEL ch0 W1.old) W1 (tw hw 50 rfl) (tw hw 42 rfl) (len := 3) (wd := 0) (by decide) (by decide) (fun _ q => nomatch q)) rfl (lenOf pd_15 rfl) rfl (lb rfl) d8_42 45 rfl 0 0 (lb rfl) (lb rfl) (lb rfl) (lb rfl) ?_
      intro v3 T3 h3 u3 W3 R3 hq
      obtain ⟨rfl, eh3⟩ := hq
      have ei3 := eh3.symm; subst ei3
      by_cases hl : lB ch0 = true
      · skip
        rw [b2i_t hl]
        show Own.Go _ _ _ _ _ 45 #[.val (.ref s), .val (.int 0), .val (.int 3), .val (.int ch0)] [.int 1]
        refine Own.ifNo W3 d8_45 48 (by decide) rfl ?_
        refine Own.iloadN W3 d8_48 49 rfl 0 rfl ?_
        refine Own.ifYes W3 d8_49 67 (by decide) (by decide) (by decide) ?_
        refine Own.iconst W3 d8_67 68 rfl 0 rfl ?_
        exact Own.retB W3 (by decide) (by decide) rfl d8_68 rfl ⟨by rw [b2i_f (by simp [okB, hz, hH, hl])], rfl⟩
      · skip
        rw [b2i_f hl]
        show Own.Go _ _ _ _ _ 45 #[.val (.ref s), .val (.int 0), .val (.int 3), .val (.int ch0)] [.int 0]
        refine Own.ifYes W3 d8_45 69 (by decide) (by decide) (by decide) ?_
        refine Own.iconst W3 d8_69 70 rfl 1 rfl ?_
        exact Own.retB W3 (by decide) (by decide) rfl d8_70 rfl ⟨by rw [b2i_t (by simp [okB, hz, hH, hl])], rfl⟩
set_option maxRecDepth 65536 in
set_option maxHeartbeats 40000000 in
theorem con_ok3_1 {G : Own.Gl} (hw : ∀ d ∈ tables_1, d.before G.a0 G.Z = true) (hEL : EW G.Z G.a0 G.EL) {ch0 ch1 ch2 ch3 : Int32} {s : Addr} {kC : ClassId} {ii ln : Int32} (hii : ii = 1) (hln : ln = 3) {h : Heap} (hO : Old G.Z G.n0 h) (A : Arv G.Z h s kC .char 4 [.int ch0, .int ch1, .int ch2, .int ch3] (.int 0)) :
    Own.Con G [] bOk3_1 #[.ref s, .int ii, .int ln] h [] (fun v h' => v = some (.int (b2i (okB (decide (ch1 = 0)) (hB ch1) (lB ch1) (lB ch2) (hB ch0)))) ∧ h' = h) := by
  refine Own.Con.intro (plainFor_of_name pn_4) hO hEL _ (fun m => ef_bOk3_1 m s ii ln) ?_
  intro X T0 W0 sf
  subst hii; subst hln
  refine Own.aloadN W0 d8_0 1 rfl (.ref s) rfl rfl ?_
  refine Own.iloadN W0 d8_1 2 rfl 1 rfl ?_
  refine Own.caload W0 A (by decide) (.int ch1) rfl d8_2 3 rfl ?_
  refine Own.istoreN W0 d8_3 4 rfl #[.val (.ref s), .val (.int 1), .val (.int 3), .val (.int ch1)] rfl ?_
  refine Own.iloadN W0 d8_4 5 rfl ch1 rfl ?_
  by_cases hz : ch1 = (0 : Int32)
  · skip
    refine Own.ifNo W0 d8_5 8 (XT.i0_ne_f hz) rfl ?_
    refine Own.iconst W0 d8_8 9 rfl 0 rfl ?_
    exact Own.retB W0 (by decide) (by decide) rfl d8_9 rfl ⟨by rw [b2i_f (by simp [okB, hz])], rfl⟩
  · skip
    refine Own.ifYes W0 d8_5 10 (XT.i0_ne_t hz) (by decide) (by decide) ?_
    refine Own.iloadN W0 d8_10 11 rfl ch1 rfl ?_
    refine Own.callS W0 (tw hw 44 rfl) (tw hw 45 rfl) (tw hw 42 rfl) (tw hw 46 rfl) (by decide) (argsL := [(.int ch1)]) (rest := []) (Own.Con.pay (con_hi hw hEL ch1 W0.old) W0 (tw hw 46 rfl) (tw hw 42 rfl) (len := 3) (wd := 0) (by decide) (by decide) (fun _ q => nomatch q)) rfl (lenOf pd_15 rfl) rfl (lb rfl) d8_11 14 rfl 0 0 (lb rfl) (lb rfl) (lb rfl) (lb rfl) ?_
    intro v1 T1 h1 u1 W1 R1 hq
    obtain ⟨rfl, eh1⟩ := hq
    have ei1 := eh1.symm; subst ei1
    by_cases hH : hB ch1 = true
    · skip
      rw [b2i_t hH]
      show Own.Go _ _ _ _ _ 14 #[.val (.ref s), .val (.int 1), .val (.int 3), .val (.int ch1)] [.int 1]
      refine Own.ifNo W1 d8_14 17 (by decide) rfl ?_
      refine Own.iloadN W1 d8_17 18 rfl 1 rfl ?_
      refine Own.iconst W1 d8_18 19 rfl 1 rfl ?_
      refine Own.iadd W1 d8_19 20 rfl ?_
      refine Own.iloadN W1 d8_20 21 rfl 3 rfl ?_
      refine Own.icmpNo W1 d8_21 24 (by decide) rfl ?_
      refine Own.aloadN W1 d8_24 25 rfl (.ref s) rfl rfl ?_
      refine Own.iloadN W1 d8_25 26 rfl 1 rfl ?_
      refine Own.iconst W1 d8_26 27 rfl 1 rfl ?_
      refine Own.iadd W1 d8_27 28 rfl ?_
      refine Own.caload W1 A (by decide) (.int ch2) rfl d8_28 29 rfl ?_
      refine Own.callS W1 (tw hw 48 rfl) (tw hw 49 rfl) (tw hw 42 rfl) (tw hw 50 rfl) (by decide) (argsL := [(.int ch2)]) (rest := []) (Own.Con.pay (con_lo hw hEL ch2 W1.old) W1 (tw hw 50 rfl) (tw hw 42 rfl) (len := 3) (wd := 0) (by decide) (by decide) (fun _ q => nomatch q)) rfl (lenOf pd_15 rfl) rfl (lb rfl) d8_29 32 rfl 0 0 (lb rfl) (lb rfl) (lb rfl) (lb rfl) ?_
      intro v2 T2 h2 u2 W2 R2 hq
      obtain ⟨rfl, eh2⟩ := hq
      have ei2 := eh2.symm; subst ei2
      by_cases hL : lB ch2 = true
      · skip
        rw [b2i_t hL]
        show Own.Go _ _ _ _ _ 32 #[.val (.ref s), .val (.int 1), .val (.int 3), .val (.int ch1)] [.int 1]
        refine Own.ifNo W2 d8_32 35 (by decide) rfl ?_
        refine Own.iconst W2 d8_35 36 rfl 1 rfl ?_
        refine Own.goto W2 d8_36 40 (by decide) (by decide) ?_
        exact Own.retB W2 (by decide) (by decide) rfl d8_40 rfl ⟨by rw [b2i_t (by simp [okB, hz, hH, hL])], rfl⟩
      · skip
        rw [b2i_f hL]
        show Own.Go _ _ _ _ _ 32 #[.val (.ref s), .val (.int 1), .val (.int 3), .val (.int ch1)] [.int 0]
        refine Own.ifYes W2 d8_32 39 (by decide) (by decide) (by decide) ?_
        refine Own.iconst W2 d8_39 40 rfl 0 rfl ?_
        exact Own.retB W2 (by decide) (by decide) rfl d8_40 rfl ⟨by rw [b2i_f (by simp [okB, hz, hH, hL])], rfl⟩
    · skip
      rw [b2i_f hH]
      show Own.Go _ _ _ _ _ 14 #[.val (.ref s), .val (.int 1), .val (.int 3), .val (.int ch1)] [.int 0]
      refine Own.ifYes W1 d8_14 41 (by decide) (by decide) (by decide) ?_
      refine Own.iloadN W1 d8_41 42 rfl ch1 rfl ?_
      refine Own.callS W1 (tw hw 48 rfl) (tw hw 49 rfl) (tw hw 42 rfl) (tw hw 50 rfl) (by decide) (argsL := [(.int ch1)]) (rest := []) (Own.Con.pay (con_lo hw hEL ch1 W1.old) W1 (tw hw 50 rfl) (tw hw 42 rfl) (len := 3) (wd := 0) (by decide) (by decide) (fun _ q => nomatch q)) rfl (lenOf pd_15 rfl) rfl (lb rfl) d8_42 45 rfl 0 0 (lb rfl) (lb rfl) (lb rfl) (lb rfl) ?_
      intro v3 T3 h3 u3 W3 R3 hq
      obtain ⟨rfl, eh3⟩ := hq
      have ei3 := eh3.symm; subst ei3
      by_cases hl : lB ch1 = true
      · skip
        rw [b2i_t hl]
        show Own.Go _ _ _ _ _ 45 #[.val (.ref s), .val (.int 1), .val (.int 3), .val (.int ch1)] [.int 1]
        refine Own.ifNo W3 d8_45 48 (by decide) rfl ?_
        refine Own.iloadN W3 d8_48 49 rfl 1 rfl ?_
        refine Own.ifNo W3 d8_49 52 (by decide) rfl ?_
        refine Own.aloadN W3 d8_52 53 rfl (.ref s) rfl rfl ?_
        refine Own.iloadN W3 d8_53 54 rfl 1 rfl ?_
        refine Own.iconst W3 d8_54 55 rfl 1 rfl ?_
        refine Own.isub W3 d8_55 56 rfl ?_
        refine Own.caload W3 A (by decide) (.int ch0) rfl d8_56 57 rfl ?_
        refine Own.callS W3 (tw hw 44 rfl) (tw hw 45 rfl) (tw hw 42 rfl) (tw hw 46 rfl) (by decide) (argsL := [(.int ch0)]) (rest := []) (Own.Con.pay (con_hi hw hEL ch0 W3.old) W3 (tw hw 46 rfl) (tw hw 42 rfl) (len := 3) (wd := 0) (by decide) (by decide) (fun _ q => nomatch q)) rfl (lenOf pd_15 rfl) rfl (lb rfl) d8_57 60 rfl 0 0 (lb rfl) (lb rfl) (lb rfl) (lb rfl) ?_
        intro v4 T4 h4 u4 W4 R4 hq
        obtain ⟨rfl, eh4⟩ := hq
        have ei4 := eh4.symm; subst ei4
        by_cases hP : hB ch0 = true
        · skip
          rw [b2i_t hP]
          show Own.Go _ _ _ _ _ 60 #[.val (.ref s), .val (.int 1), .val (.int 3), .val (.int ch1)] [.int 1]
          refine Own.ifNo W4 d8_60 63 (by decide) rfl ?_
          refine Own.iconst W4 d8_63 64 rfl 1 rfl ?_
          refine Own.goto W4 d8_64 68 (by decide) (by decide) ?_
          exact Own.retB W4 (by decide) (by decide) rfl d8_68 rfl ⟨by rw [b2i_t (by simp [okB, hz, hH, hl, hP])], rfl⟩
        · skip
          rw [b2i_f hP]
          show Own.Go _ _ _ _ _ 60 #[.val (.ref s), .val (.int 1), .val (.int 3), .val (.int ch1)] [.int 0]
          refine Own.ifYes W4 d8_60 67 (by decide) (by decide) (by decide) ?_
          refine Own.iconst W4 d8_67 68 rfl 0 rfl ?_
          exact Own.retB W4 (by decide) (by decide) rfl d8_68 rfl ⟨by rw [b2i_f (by simp [okB, hz, hH, hl, hP])], rfl⟩
      · skip
        rw [b2i_f hl]
        show Own.Go _ _ _ _ _ 45 #[.val (.ref s), .val (.int 1), .val (.int 3), .val (.int ch1)] [.int 0]
        refine Own.ifYes W3 d8_45 69 (by decide) (by decide) (by decide) ?_
        refine Own.iconst W3 d8_69 70 rfl 1 rfl ?_
        exact Own.retB W3 (by decide) (by decide) rfl d8_70 rfl ⟨by rw [b2i_t (by simp [okB, hz, hH, hl])], rfl⟩
set_option maxRecDepth 65536 in
set_option maxHeartbeats 40000000 in
theorem con_ok3_2 {G : Own.Gl} (hw : ∀ d ∈ tables_1, d.before G.a0 G.Z = true) (hEL : EW G.Z G.a0 G.EL) {ch0 ch1 ch2 ch3 : Int32} {s : Addr} {kC : ClassId} {ii ln : Int32} (hii : ii = 2) (hln : ln = 3) {h : Heap} (hO : Old G.Z G.n0 h) (A : Arv G.Z h s kC .char 4 [.int ch0, .int ch1, .int ch2, .int ch3] (.int 0)) :
    Own.Con G [] bOk3_2 #[.ref s, .int ii, .int ln] h [] (fun v h' => v = some (.int (b2i (okB (decide (ch2 = 0)) (hB ch2) (lB ch2) false (hB ch1)))) ∧ h' = h) := by
  refine Own.Con.intro (plainFor_of_name pn_4) hO hEL _ (fun m => ef_bOk3_2 m s ii ln) ?_
  intro X T0 W0 sf
  subst hii; subst hln
  refine Own.aloadN W0 d8_0 1 rfl (.ref s) rfl rfl ?_
  refine Own.iloadN W0 d8_1 2 rfl 2 rfl ?_
  refine Own.caload W0 A (by decide) (.int ch2) rfl d8_2 3 rfl ?_
  refine Own.istoreN W0 d8_3 4 rfl #[.val (.ref s), .val (.int 2), .val (.int 3), .val (.int ch2)] rfl ?_
  refine Own.iloadN W0 d8_4 5 rfl ch2 rfl ?_
  by_cases hz : ch2 = (0 : Int32)
  · skip
    refine Own.ifNo W0 d8_5 8 (XT.i0_ne_f hz) rfl ?_
    refine Own.iconst W0 d8_8 9 rfl 0 rfl ?_
    exact Own.retB W0 (by decide) (by decide) rfl d8_9 rfl ⟨by rw [b2i_f (by simp [okB, hz])], rfl⟩
  · skip
    refine Own.ifYes W0 d8_5 10 (XT.i0_ne_t hz) (by decide) (by decide) ?_
    refine Own.iloadN W0 d8_10 11 rfl ch2 rfl ?_
    refine Own.callS W0 (tw hw 44 rfl) (tw hw 45 rfl) (tw hw 42 rfl) (tw hw 46 rfl) (by decide) (argsL := [(.int ch2)]) (rest := []) (Own.Con.pay (con_hi hw hEL ch2 W0.old) W0 (tw hw 46 rfl) (tw hw 42 rfl) (len := 3) (wd := 0) (by decide) (by decide) (fun _ q => nomatch q)) rfl (lenOf pd_15 rfl) rfl (lb rfl) d8_11 14 rfl 0 0 (lb rfl) (lb rfl) (lb rfl) (lb rfl) ?_
    intro v1 T1 h1 u1 W1 R1 hq
    obtain ⟨rfl, eh1⟩ := hq
    have ei1 := eh1.symm; subst ei1
    by_cases hH : hB ch2 = true
    · skip
      rw [b2i_t hH]
      show Own.Go _ _ _ _ _ 14 #[.val (.ref s), .val (.int 2), .val (.int 3), .val (.int ch2)] [.int 1]
      refine Own.ifNo W1 d8_14 17 (by decide) rfl ?_
      refine Own.iloadN W1 d8_17 18 rfl 2 rfl ?_
      refine Own.iconst W1 d8_18 19 rfl 1 rfl ?_
      refine Own.iadd W1 d8_19 20 rfl ?_
      refine Own.iloadN W1 d8_20 21 rfl 3 rfl ?_
      refine Own.icmpYes W1 d8_21 39 (by decide) (by decide) (by decide) ?_
      refine Own.iconst W1 d8_39 40 rfl 0 rfl ?_
      exact Own.retB W1 (by decide) (by decide) rfl d8_40 rfl ⟨by rw [b2i_f (by simp [okB, hz, hH])], rfl⟩
    · skip
      rw [b2i_f hH]
      show Own.Go _ _ _ _ _ 14 #[.val (.ref s), .val (.int 2), .val (.int 3), .val (.int ch2)] [.int 0]
      refine Own.ifYes W1 d8_14 41 (by decide) (by decide) (by decide) ?_
      refine Own.iloadN W1 d8_41 42 rfl ch2 rfl ?_
      refine Own.callS W1 (tw hw 48 rfl) (tw hw 49 rfl) (tw hw 42 rfl) (tw hw 50 rfl) (by decide) (argsL := [(.int ch2)]) (rest := []) (Own.Con.pay (con_lo hw hEL ch2 W1.old) W1 (tw hw 50 rfl) (tw hw 42 rfl) (len := 3) (wd := 0) (by decide) (by decide) (fun _ q => nomatch q)) rfl (lenOf pd_15 rfl) rfl (lb rfl) d8_42 45 rfl 0 0 (lb rfl) (lb rfl) (lb rfl) (lb rfl) ?_
      intro v2 T2 h2 u2 W2 R2 hq
      obtain ⟨rfl, eh2⟩ := hq
      have ei2 := eh2.symm; subst ei2
      by_cases hl : lB ch2 = true
      · skip
        rw [b2i_t hl]
        show Own.Go _ _ _ _ _ 45 #[.val (.ref s), .val (.int 2), .val (.int 3), .val (.int ch2)] [.int 1]
        refine Own.ifNo W2 d8_45 48 (by decide) rfl ?_
        refine Own.iloadN W2 d8_48 49 rfl 2 rfl ?_
        refine Own.ifNo W2 d8_49 52 (by decide) rfl ?_
        refine Own.aloadN W2 d8_52 53 rfl (.ref s) rfl rfl ?_
        refine Own.iloadN W2 d8_53 54 rfl 2 rfl ?_
        refine Own.iconst W2 d8_54 55 rfl 1 rfl ?_
        refine Own.isub W2 d8_55 56 rfl ?_
        refine Own.caload W2 A (by decide) (.int ch1) rfl d8_56 57 rfl ?_
        refine Own.callS W2 (tw hw 44 rfl) (tw hw 45 rfl) (tw hw 42 rfl) (tw hw 46 rfl) (by decide) (argsL := [(.int ch1)]) (rest := []) (Own.Con.pay (con_hi hw hEL ch1 W2.old) W2 (tw hw 46 rfl) (tw hw 42 rfl) (len := 3) (wd := 0) (by decide) (by decide) (fun _ q => nomatch q)) rfl (lenOf pd_15 rfl) rfl (lb rfl) d8_57 60 rfl 0 0 (lb rfl) (lb rfl) (lb rfl) (lb rfl) ?_
        intro v3 T3 h3 u3 W3 R3 hq
        obtain ⟨rfl, eh3⟩ := hq
        have ei3 := eh3.symm; subst ei3
        by_cases hP : hB ch1 = true
        · skip
          rw [b2i_t hP]
          show Own.Go _ _ _ _ _ 60 #[.val (.ref s), .val (.int 2), .val (.int 3), .val (.int ch2)] [.int 1]
          refine Own.ifNo W3 d8_60 63 (by decide) rfl ?_
          refine Own.iconst W3 d8_63 64 rfl 1 rfl ?_
          refine Own.goto W3 d8_64 68 (by decide) (by decide) ?_
          exact Own.retB W3 (by decide) (by decide) rfl d8_68 rfl ⟨by rw [b2i_t (by simp [okB, hz, hH, hl, hP])], rfl⟩
        · skip
          rw [b2i_f hP]
          show Own.Go _ _ _ _ _ 60 #[.val (.ref s), .val (.int 2), .val (.int 3), .val (.int ch2)] [.int 0]
          refine Own.ifYes W3 d8_60 67 (by decide) (by decide) (by decide) ?_
          refine Own.iconst W3 d8_67 68 rfl 0 rfl ?_
          exact Own.retB W3 (by decide) (by decide) rfl d8_68 rfl ⟨by rw [b2i_f (by simp [okB, hz, hH, hl, hP])], rfl⟩
      · skip
        rw [b2i_f hl]
        show Own.Go _ _ _ _ _ 45 #[.val (.ref s), .val (.int 2), .val (.int 3), .val (.int ch2)] [.int 0]
        refine Own.ifYes W2 d8_45 69 (by decide) (by decide) (by decide) ?_
        refine Own.iconst W2 d8_69 70 rfl 1 rfl ?_
        exact Own.retB W2 (by decide) (by decide) rfl d8_70 rfl ⟨by rw [b2i_t (by simp [okB, hz, hH, hl])], rfl⟩
set_option maxRecDepth 65536 in
set_option maxHeartbeats 40000000 in
theorem con_ok4_0 {G : Own.Gl} (hw : ∀ d ∈ tables_1, d.before G.a0 G.Z = true) (hEL : EW G.Z G.a0 G.EL) {ch0 ch1 ch2 ch3 : Int32} {s : Addr} {kC : ClassId} {ii ln : Int32} (hii : ii = 0) (hln : ln = 4) {h : Heap} (hO : Old G.Z G.n0 h) (A : Arv G.Z h s kC .char 4 [.int ch0, .int ch1, .int ch2, .int ch3] (.int 0)) :
    Own.Con G [] bOk4_0 #[.ref s, .int ii, .int ln] h [] (fun v h' => v = some (.int (b2i (okB (decide (ch0 = 0)) (hB ch0) (lB ch0) (lB ch1) false))) ∧ h' = h) := by
  refine Own.Con.intro (plainFor_of_name pn_4) hO hEL _ (fun m => ef_bOk4_0 m s ii ln) ?_
  intro X T0 W0 sf
  subst hii; subst hln
  refine Own.aloadN W0 d8_0 1 rfl (.ref s) rfl rfl ?_
  refine Own.iloadN W0 d8_1 2 rfl 0 rfl ?_
  refine Own.caload W0 A (by decide) (.int ch0) rfl d8_2 3 rfl ?_
  refine Own.istoreN W0 d8_3 4 rfl #[.val (.ref s), .val (.int 0), .val (.int 4), .val (.int ch0)] rfl ?_
  refine Own.iloadN W0 d8_4 5 rfl ch0 rfl ?_
  by_cases hz : ch0 = (0 : Int32)
  · skip
    refine Own.ifNo W0 d8_5 8 (XT.i0_ne_f hz) rfl ?_
    refine Own.iconst W0 d8_8 9 rfl 0 rfl ?_
    exact Own.retB W0 (by decide) (by decide) rfl d8_9 rfl ⟨by rw [b2i_f (by simp [okB, hz])], rfl⟩
  · skip
    refine Own.ifYes W0 d8_5 10 (XT.i0_ne_t hz) (by decide) (by decide) ?_
    refine Own.iloadN W0 d8_10 11 rfl ch0 rfl ?_
    refine Own.callS W0 (tw hw 44 rfl) (tw hw 45 rfl) (tw hw 42 rfl) (tw hw 46 rfl) (by decide) (argsL := [(.int ch0)]) (rest := []) (Own.Con.pay (con_hi hw hEL ch0 W0.old) W0 (tw hw 46 rfl) (tw hw 42 rfl) (len := 3) (wd := 0) (by decide) (by decide) (fun _ q => nomatch q)) rfl (lenOf pd_15 rfl) rfl (lb rfl) d8_11 14 rfl 0 0 (lb rfl) (lb rfl) (lb rfl) (lb rfl) ?_
    intro v1 T1 h1 u1 W1 R1 hq
    obtain ⟨rfl, eh1⟩ := hq
    have ei1 := eh1.symm; subst ei1
    by_cases hH : hB ch0 = true
    · skip
      rw [b2i_t hH]
      show Own.Go _ _ _ _ _ 14 #[.val (.ref s), .val (.int 0), .val (.int 4), .val (.int ch0)] [.int 1]
      refine Own.ifNo W1 d8_14 17 (by decide) rfl ?_
      refine Own.iloadN W1 d8_17 18 rfl 0 rfl ?_
      refine Own.iconst W1 d8_18 19 rfl 1 rfl ?_
      refine Own.iadd W1 d8_19 20 rfl ?_
      refine Own.iloadN W1 d8_20 21 rfl 4 rfl ?_
      refine Own.icmpNo W1 d8_21 24 (by decide) rfl ?_
      refine Own.aloadN W1 d8_24 25 rfl (.ref s) rfl rfl ?_
      refine Own.iloadN W1 d8_25 26 rfl 0 rfl ?_
      refine Own.iconst W1 d8_26 27 rfl 1 rfl ?_
      refine Own.iadd W1 d8_27 28 rfl ?_
      refine Own.caload W1 A (by decide) (.int ch1) rfl d8_28 29 rfl ?_
      refine Own.callS W1 (tw hw 48 rfl) (tw hw 49 rfl) (tw hw 42 rfl) (tw hw 50 rfl) (by decide) (argsL := [(.int ch1)]) (rest := []) (Own.Con.pay (con_lo hw hEL ch1 W1.old) W1 (tw hw 50 rfl) (tw hw 42 rfl) (len := 3) (wd := 0) (by decide) (by decide) (fun _ q => nomatch q)) rfl (lenOf pd_15 rfl) rfl (lb rfl) d8_29 32 rfl 0 0 (lb rfl) (lb rfl) (lb rfl) (lb rfl) ?_
      intro v2 T2 h2 u2 W2 R2 hq
      obtain ⟨rfl, eh2⟩ := hq
      have ei2 := eh2.symm; subst ei2
      by_cases hL : lB ch1 = true
      · skip
        rw [b2i_t hL]
        show Own.Go _ _ _ _ _ 32 #[.val (.ref s), .val (.int 0), .val (.int 4), .val (.int ch0)] [.int 1]
        refine Own.ifNo W2 d8_32 35 (by decide) rfl ?_
        refine Own.iconst W2 d8_35 36 rfl 1 rfl ?_
        refine Own.goto W2 d8_36 40 (by decide) (by decide) ?_
        exact Own.retB W2 (by decide) (by decide) rfl d8_40 rfl ⟨by rw [b2i_t (by simp [okB, hz, hH, hL])], rfl⟩
      · skip
        rw [b2i_f hL]
        show Own.Go _ _ _ _ _ 32 #[.val (.ref s), .val (.int 0), .val (.int 4), .val (.int ch0)] [.int 0]
        refine Own.ifYes W2 d8_32 39 (by decide) (by decide) (by decide) ?_
        refine Own.iconst W2 d8_39 40 rfl 0 rfl ?_
        exact Own.retB W2 (by decide) (by decide) rfl d8_40 rfl ⟨by rw [b2i_f (by simp [okB, hz, hH, hL])], rfl⟩
    · skip
      rw [b2i_f hH]
      show Own.Go _ _ _ _ _ 14 #[.val (.ref s), .val (.int 0), .val (.int 4), .val (.int ch0)] [.int 0]
      refine Own.ifYes W1 d8_14 41 (by decide) (by decide) (by decide) ?_
      refine Own.iloadN W1 d8_41 42 rfl ch0 rfl ?_
      refine Own.callS W1 (tw hw 48 rfl) (tw hw 49 rfl) (tw hw 42 rfl) (tw hw 50 rfl) (by decide) (argsL := [(.int ch0)]) (rest := []) (Own.Con.pay (con_lo hw hEL ch0 W1.old) W1 (tw hw 50 rfl) (tw hw 42 rfl) (len := 3) (wd := 0) (by decide) (by decide) (fun _ q => nomatch q)) rfl (lenOf pd_15 rfl) rfl (lb rfl) d8_42 45 rfl 0 0 (lb rfl) (lb rfl) (lb rfl) (lb rfl) ?_
      intro v3 T3 h3 u3 W3 R3 hq
      obtain ⟨rfl, eh3⟩ := hq
      have ei3 := eh3.symm; subst ei3
      by_cases hl : lB ch0 = true
      · skip
        rw [b2i_t hl]
        show Own.Go _ _ _ _ _ 45 #[.val (.ref s), .val (.int 0), .val (.int 4), .val (.int ch0)] [.int 1]
        refine Own.ifNo W3 d8_45 48 (by decide) rfl ?_
        refine Own.iloadN W3 d8_48 49 rfl 0 rfl ?_
        refine Own.ifYes W3 d8_49 67 (by decide) (by decide) (by decide) ?_
        refine Own.iconst W3 d8_67 68 rfl 0 rfl ?_
        exact Own.retB W3 (by decide) (by decide) rfl d8_68 rfl ⟨by rw [b2i_f (by simp [okB, hz, hH, hl])], rfl⟩
      · skip
        rw [b2i_f hl]
        show Own.Go _ _ _ _ _ 45 #[.val (.ref s), .val (.int 0), .val (.int 4), .val (.int ch0)] [.int 0]
        refine Own.ifYes W3 d8_45 69 (by decide) (by decide) (by decide) ?_
        refine Own.iconst W3 d8_69 70 rfl 1 rfl ?_
        exact Own.retB W3 (by decide) (by decide) rfl d8_70 rfl ⟨by rw [b2i_t (by simp [okB, hz, hH, hl])], rfl⟩
set_option maxRecDepth 65536 in
set_option maxHeartbeats 40000000 in
theorem con_ok4_1 {G : Own.Gl} (hw : ∀ d ∈ tables_1, d.before G.a0 G.Z = true) (hEL : EW G.Z G.a0 G.EL) {ch0 ch1 ch2 ch3 : Int32} {s : Addr} {kC : ClassId} {ii ln : Int32} (hii : ii = 1) (hln : ln = 4) {h : Heap} (hO : Old G.Z G.n0 h) (A : Arv G.Z h s kC .char 4 [.int ch0, .int ch1, .int ch2, .int ch3] (.int 0)) :
    Own.Con G [] bOk4_1 #[.ref s, .int ii, .int ln] h [] (fun v h' => v = some (.int (b2i (okB (decide (ch1 = 0)) (hB ch1) (lB ch1) (lB ch2) (hB ch0)))) ∧ h' = h) := by
  refine Own.Con.intro (plainFor_of_name pn_4) hO hEL _ (fun m => ef_bOk4_1 m s ii ln) ?_
  intro X T0 W0 sf
  subst hii; subst hln
  refine Own.aloadN W0 d8_0 1 rfl (.ref s) rfl rfl ?_
  refine Own.iloadN W0 d8_1 2 rfl 1 rfl ?_
  refine Own.caload W0 A (by decide) (.int ch1) rfl d8_2 3 rfl ?_
  refine Own.istoreN W0 d8_3 4 rfl #[.val (.ref s), .val (.int 1), .val (.int 4), .val (.int ch1)] rfl ?_
  refine Own.iloadN W0 d8_4 5 rfl ch1 rfl ?_
  by_cases hz : ch1 = (0 : Int32)
  · skip
    refine Own.ifNo W0 d8_5 8 (XT.i0_ne_f hz) rfl ?_
    refine Own.iconst W0 d8_8 9 rfl 0 rfl ?_
    exact Own.retB W0 (by decide) (by decide) rfl d8_9 rfl ⟨by rw [b2i_f (by simp [okB, hz])], rfl⟩
  · skip
    refine Own.ifYes W0 d8_5 10 (XT.i0_ne_t hz) (by decide) (by decide) ?_
    refine Own.iloadN W0 d8_10 11 rfl ch1 rfl ?_
    refine Own.callS W0 (tw hw 44 rfl) (tw hw 45 rfl) (tw hw 42 rfl) (tw hw 46 rfl) (by decide) (argsL := [(.int ch1)]) (rest := []) (Own.Con.pay (con_hi hw hEL ch1 W0.old) W0 (tw hw 46 rfl) (tw hw 42 rfl) (len := 3) (wd := 0) (by decide) (by decide) (fun _ q => nomatch q)) rfl (lenOf pd_15 rfl) rfl (lb rfl) d8_11 14 rfl 0 0 (lb rfl) (lb rfl) (lb rfl) (lb rfl) ?_
    intro v1 T1 h1 u1 W1 R1 hq
    obtain ⟨rfl, eh1⟩ := hq
    have ei1 := eh1.symm; subst ei1
    by_cases hH : hB ch1 = true
    · skip
      rw [b2i_t hH]
      show Own.Go _ _ _ _ _ 14 #[.val (.ref s), .val (.int 1), .val (.int 4), .val (.int ch1)] [.int 1]
      refine Own.ifNo W1 d8_14 17 (by decide) rfl ?_
      refine Own.iloadN W1 d8_17 18 rfl 1 rfl ?_
      refine Own.iconst W1 d8_18 19 rfl 1 rfl ?_
      refine Own.iadd W1 d8_19 20 rfl ?_
      refine Own.iloadN W1 d8_20 21 rfl 4 rfl ?_
      refine Own.icmpNo W1 d8_21 24 (by decide) rfl ?_
      refine Own.aloadN W1 d8_24 25 rfl (.ref s) rfl rfl ?_
      refine Own.iloadN W1 d8_25 26 rfl 1 rfl ?_
      refine Own.iconst W1 d8_26 27 rfl 1 rfl ?_
      refine Own.iadd W1 d8_27 28 rfl ?_
      refine Own.caload W1 A (by decide) (.int ch2) rfl d8_28 29 rfl ?_
      refine Own.callS W1 (tw hw 48 rfl) (tw hw 49 rfl) (tw hw 42 rfl) (tw hw 50 rfl) (by decide) (argsL := [(.int ch2)]) (rest := []) (Own.Con.pay (con_lo hw hEL ch2 W1.old) W1 (tw hw 50 rfl) (tw hw 42 rfl) (len := 3) (wd := 0) (by decide) (by decide) (fun _ q => nomatch q)) rfl (lenOf pd_15 rfl) rfl (lb rfl) d8_29 32 rfl 0 0 (lb rfl) (lb rfl) (lb rfl) (lb rfl) ?_
      intro v2 T2 h2 u2 W2 R2 hq
      obtain ⟨rfl, eh2⟩ := hq
      have ei2 := eh2.symm; subst ei2
      by_cases hL : lB ch2 = true
      · skip
        rw [b2i_t hL]
        show Own.Go _ _ _ _ _ 32 #[.val (.ref s), .val (.int 1), .val (.int 4), .val (.int ch1)] [.int 1]
        refine Own.ifNo W2 d8_32 35 (by decide) rfl ?_
        refine Own.iconst W2 d8_35 36 rfl 1 rfl ?_
        refine Own.goto W2 d8_36 40 (by decide) (by decide) ?_
        exact Own.retB W2 (by decide) (by decide) rfl d8_40 rfl ⟨by rw [b2i_t (by simp [okB, hz, hH, hL])], rfl⟩
      · skip
        rw [b2i_f hL]
        show Own.Go _ _ _ _ _ 32 #[.val (.ref s), .val (.int 1), .val (.int 4), .val (.int ch1)] [.int 0]
        refine Own.ifYes W2 d8_32 39 (by decide) (by decide) (by decide) ?_
        refine Own.iconst W2 d8_39 40 rfl 0 rfl ?_
        exact Own.retB W2 (by decide) (by decide) rfl d8_40 rfl ⟨by rw [b2i_f (by simp [okB, hz, hH, hL])], rfl⟩
    · skip
      rw [b2i_f hH]
      show Own.Go _ _ _ _ _ 14 #[.val (.ref s), .val (.int 1), .val (.int 4), .val (.int ch1)] [.int 0]
      refine Own.ifYes W1 d8_14 41 (by decide) (by decide) (by decide) ?_
      refine Own.iloadN W1 d8_41 42 rfl ch1 rfl ?_
      refine Own.callS W1 (tw hw 48 rfl) (tw hw 49 rfl) (tw hw 42 rfl) (tw hw 50 rfl) (by decide) (argsL := [(.int ch1)]) (rest := []) (Own.Con.pay (con_lo hw hEL ch1 W1.old) W1 (tw hw 50 rfl) (tw hw 42 rfl) (len := 3) (wd := 0) (by decide) (by decide) (fun _ q => nomatch q)) rfl (lenOf pd_15 rfl) rfl (lb rfl) d8_42 45 rfl 0 0 (lb rfl) (lb rfl) (lb rfl) (lb rfl) ?_
      intro v3 T3 h3 u3 W3 R3 hq
      obtain ⟨rfl, eh3⟩ := hq
      have ei3 := eh3.symm; subst ei3
      by_cases hl : lB ch1 = true
      · skip
        rw [b2i_t hl]
        show Own.Go _ _ _ _ _ 45 #[.val (.ref s), .val (.int 1), .val (.int 4), .val (.int ch1)] [.int 1]
        refine Own.ifNo W3 d8_45 48 (by decide) rfl ?_
        refine Own.iloadN W3 d8_48 49 rfl 1 rfl ?_
        refine Own.ifNo W3 d8_49 52 (by decide) rfl ?_
        refine Own.aloadN W3 d8_52 53 rfl (.ref s) rfl rfl ?_
        refine Own.iloadN W3 d8_53 54 rfl 1 rfl ?_
        refine Own.iconst W3 d8_54 55 rfl 1 rfl ?_
        refine Own.isub W3 d8_55 56 rfl ?_
        refine Own.caload W3 A (by decide) (.int ch0) rfl d8_56 57 rfl ?_
        refine Own.callS W3 (tw hw 44 rfl) (tw hw 45 rfl) (tw hw 42 rfl) (tw hw 46 rfl) (by decide) (argsL := [(.int ch0)]) (rest := []) (Own.Con.pay (con_hi hw hEL ch0 W3.old) W3 (tw hw 46 rfl) (tw hw 42 rfl) (len := 3) (wd := 0) (by decide) (by decide) (fun _ q => nomatch q)) rfl (lenOf pd_15 rfl) rfl (lb rfl) d8_57 60 rfl 0 0 (lb rfl) (lb rfl) (lb rfl) (lb rfl) ?_
        intro v4 T4 h4 u4 W4 R4 hq
        obtain ⟨rfl, eh4⟩ := hq
        have ei4 := eh4.symm; subst ei4
        by_cases hP : hB ch0 = true
        · skip
          rw [b2i_t hP]
          show Own.Go _ _ _ _ _ 60 #[.val (.ref s), .val (.int 1), .val (.int 4), .val (.int ch1)] [.int 1]
          refine Own.ifNo W4 d8_60 63 (by decide) rfl ?_
          refine Own.iconst W4 d8_63 64 rfl 1 rfl ?_
          refine Own.goto W4 d8_64 68 (by decide) (by decide) ?_
          exact Own.retB W4 (by decide) (by decide) rfl d8_68 rfl ⟨by rw [b2i_t (by simp [okB, hz, hH, hl, hP])], rfl⟩
        · skip
          rw [b2i_f hP]
          show Own.Go _ _ _ _ _ 60 #[.val (.ref s), .val (.int 1), .val (.int 4), .val (.int ch1)] [.int 0]
          refine Own.ifYes W4 d8_60 67 (by decide) (by decide) (by decide) ?_
          refine Own.iconst W4 d8_67 68 rfl 0 rfl ?_
          exact Own.retB W4 (by decide) (by decide) rfl d8_68 rfl ⟨by rw [b2i_f (by simp [okB, hz, hH, hl, hP])], rfl⟩
      · skip
        rw [b2i_f hl]
        show Own.Go _ _ _ _ _ 45 #[.val (.ref s), .val (.int 1), .val (.int 4), .val (.int ch1)] [.int 0]
        refine Own.ifYes W3 d8_45 69 (by decide) (by decide) (by decide) ?_
        refine Own.iconst W3 d8_69 70 rfl 1 rfl ?_
        exact Own.retB W3 (by decide) (by decide) rfl d8_70 rfl ⟨by rw [b2i_t (by simp [okB, hz, hH, hl])], rfl⟩
set_option maxRecDepth 65536 in
set_option maxHeartbeats 40000000 in
theorem con_ok4_2 {G : Own.Gl} (hw : ∀ d ∈ tables_1, d.before G.a0 G.Z = true) (hEL : EW G.Z G.a0 G.EL) {ch0 ch1 ch2 ch3 : Int32} {s : Addr} {kC : ClassId} {ii ln : Int32} (hii : ii = 2) (hln : ln = 4) {h : Heap} (hO : Old G.Z G.n0 h) (A : Arv G.Z h s kC .char 4 [.int ch0, .int ch1, .int ch2, .int ch3] (.int 0)) :
    Own.Con G [] bOk4_2 #[.ref s, .int ii, .int ln] h [] (fun v h' => v = some (.int (b2i (okB (decide (ch2 = 0)) (hB ch2) (lB ch2) (lB ch3) (hB ch1)))) ∧ h' = h) := by
  refine Own.Con.intro (plainFor_of_name pn_4) hO hEL _ (fun m => ef_bOk4_2 m s ii ln) ?_
  intro X T0 W0 sf
  subst hii; subst hln
  refine Own.aloadN W0 d8_0 1 rfl (.ref s) rfl rfl ?_
  refine Own.iloadN W0 d8_1 2 rfl 2 rfl ?_
  refine Own.caload W0 A (by decide) (.int ch2) rfl d8_2 3 rfl ?_
  refine Own.istoreN W0 d8_3 4 rfl #[.val (.ref s), .val (.int 2), .val (.int 4), .val (.int ch2)] rfl ?_
  refine Own.iloadN W0 d8_4 5 rfl ch2 rfl ?_
  by_cases hz : ch2 = (0 : Int32)
  · skip
    refine Own.ifNo W0 d8_5 8 (XT.i0_ne_f hz) rfl ?_
    refine Own.iconst W0 d8_8 9 rfl 0 rfl ?_
    exact Own.retB W0 (by decide) (by decide) rfl d8_9 rfl ⟨by rw [b2i_f (by simp [okB, hz])], rfl⟩
  · skip
    refine Own.ifYes W0 d8_5 10 (XT.i0_ne_t hz) (by decide) (by decide) ?_
    refine Own.iloadN W0 d8_10 11 rfl ch2 rfl ?_
    refine Own.callS W0 (tw hw 44 rfl) (tw hw 45 rfl) (tw hw 42 rfl) (tw hw 46 rfl) (by decide) (argsL := [(.int ch2)]) (rest := []) (Own.Con.pay (con_hi hw hEL ch2 W0.old) W0 (tw hw 46 rfl) (tw hw 42 rfl) (len := 3) (wd := 0) (by decide) (by decide) (fun _ q => nomatch q)) rfl (lenOf pd_15 rfl) rfl (lb rfl) d8_11 14 rfl 0 0 (lb rfl) (lb rfl) (lb rfl) (lb rfl) ?_
    intro v1 T1 h1 u1 W1 R1 hq
    obtain ⟨rfl, eh1⟩ := hq
    have ei1 := eh1.symm; subst ei1
    by_cases hH : hB ch2 = true
    · skip
      rw [b2i_t hH]
      show Own.Go _ _ _ _ _ 14 #[.val (.ref s), .val (.int 2), .val (.int 4), .val (.int ch2)] [.int 1]
      refine Own.ifNo W1 d8_14 17 (by decide) rfl ?_
      refine Own.iloadN W1 d8_17 18 rfl 2 rfl ?_
      refine Own.iconst W1 d8_18 19 rfl 1 rfl ?_
      refine Own.iadd W1 d8_19 20 rfl ?_
      refine Own.iloadN W1 d8_20 21 rfl 4 rfl ?_
      refine Own.icmpNo W1 d8_21 24 (by decide) rfl ?_
      refine Own.aloadN W1 d8_24 25 rfl (.ref s) rfl rfl ?_
      refine Own.iloadN W1 d8_25 26 rfl 2 rfl ?_
      refine Own.iconst W1 d8_26 27 rfl 1 rfl ?_
      refine Own.iadd W1 d8_27 28 rfl ?_
      refine Own.caload W1 A (by decide) (.int ch3) rfl d8_28 29 rfl ?_
      refine Own.callS W1 (tw hw 48 rfl) (tw hw 49 rfl) (tw hw 42 rfl) (tw hw 50 rfl) (by decide) (argsL := [(.int ch3)]) (rest := []) (Own.Con.pay (con_lo hw hEL ch3 W1.old) W1 (tw hw 50 rfl) (tw hw 42 rfl) (len := 3) (wd := 0) (by decide) (by decide) (fun _ q => nomatch q)) rfl (lenOf pd_15 rfl) rfl (lb rfl) d8_29 32 rfl 0 0 (lb rfl) (lb rfl) (lb rfl) (lb rfl) ?_
      intro v2 T2 h2 u2 W2 R2 hq
      obtain ⟨rfl, eh2⟩ := hq
      have ei2 := eh2.symm; subst ei2
      by_cases hL : lB ch3 = true
      · skip
        rw [b2i_t hL]
        show Own.Go _ _ _ _ _ 32 #[.val (.ref s), .val (.int 2), .val (.int 4), .val (.int ch2)] [.int 1]
        refine Own.ifNo W2 d8_32 35 (by decide) rfl ?_
        refine Own.iconst W2 d8_35 36 rfl 1 rfl ?_
        refine Own.goto W2 d8_36 40 (by decide) (by decide) ?_
        exact Own.retB W2 (by decide) (by decide) rfl d8_40 rfl ⟨by rw [b2i_t (by simp [okB, hz, hH, hL])], rfl⟩
      · skip
        rw [b2i_f hL]
        show Own.Go _ _ _ _ _ 32 #[.val (.ref s), .val (.int 2), .val (.int 4), .val (.int ch2)] [.int 0]
        refine Own.ifYes W2 d8_32 39 (by decide) (by decide) (by decide) ?_
        refine Own.iconst W2 d8_39 40 rfl 0 rfl ?_
        exact Own.retB W2 (by decide) (by decide) rfl d8_40 rfl ⟨by rw [b2i_f (by simp [okB, hz, hH, hL])], rfl⟩
    · skip
      rw [b2i_f hH]
      show Own.Go _ _ _ _ _ 14 #[.val (.ref s), .val (.int 2), .val (.int 4), .val (.int ch2)] [.int 0]
      refine Own.ifYes W1 d8_14 41 (by decide) (by decide) (by decide) ?_
      refine Own.iloadN W1 d8_41 42 rfl ch2 rfl ?_
      refine Own.callS W1 (tw hw 48 rfl) (tw hw 49 rfl) (tw hw 42 rfl) (tw hw 50 rfl) (by decide) (argsL := [(.int ch2)]) (rest := []) (Own.Con.pay (con_lo hw hEL ch2 W1.old) W1 (tw hw 50 rfl) (tw hw 42 rfl) (len := 3) (wd := 0) (by decide) (by decide) (fun _ q => nomatch q)) rfl (lenOf pd_15 rfl) rfl (lb rfl) d8_42 45 rfl 0 0 (lb rfl) (lb rfl) (lb rfl) (lb rfl) ?_
      intro v3 T3 h3 u3 W3 R3 hq
      obtain ⟨rfl, eh3⟩ := hq
      have ei3 := eh3.symm; subst ei3
      by_cases hl : lB ch2 = true
      · skip
        rw [b2i_t hl]
        show Own.Go _ _ _ _ _ 45 #[.val (.ref s), .val (.int 2), .val (.int 4), .val (.int ch2)] [.int 1]
        refine Own.ifNo W3 d8_45 48 (by decide) rfl ?_
        refine Own.iloadN W3 d8_48 49 rfl 2 rfl ?_
        refine Own.ifNo W3 d8_49 52 (by decide) rfl ?_
        refine Own.aloadN W3 d8_52 53 rfl (.ref s) rfl rfl ?_
        refine Own.iloadN W3 d8_53 54 rfl 2 rfl ?_
        refine Own.iconst W3 d8_54 55 rfl 1 rfl ?_
        refine Own.isub W3 d8_55 56 rfl ?_
        refine Own.caload W3 A (by decide) (.int ch1) rfl d8_56 57 rfl ?_
        refine Own.callS W3 (tw hw 44 rfl) (tw hw 45 rfl) (tw hw 42 rfl) (tw hw 46 rfl) (by decide) (argsL := [(.int ch1)]) (rest := []) (Own.Con.pay (con_hi hw hEL ch1 W3.old) W3 (tw hw 46 rfl) (tw hw 42 rfl) (len := 3) (wd := 0) (by decide) (by decide) (fun _ q => nomatch q)) rfl (lenOf pd_15 rfl) rfl (lb rfl) d8_57 60 rfl 0 0 (lb rfl) (lb rfl) (lb rfl) (lb rfl) ?_
        intro v4 T4 h4 u4 W4 R4 hq
        obtain ⟨rfl, eh4⟩ := hq
        have ei4 := eh4.symm; subst ei4
        by_cases hP : hB ch1 = true
        · skip
          rw [b2i_t hP]
          show Own.Go _ _ _ _ _ 60 #[.val (.ref s), .val (.int 2), .val (.int 4), .val (.int ch2)] [.int 1]
          refine Own.ifNo W4 d8_60 63 (by decide) rfl ?_
          refine Own.iconst W4 d8_63 64 rfl 1 rfl ?_
          refine Own.goto W4 d8_64 68 (by decide) (by decide) ?_
          exact Own.retB W4 (by decide) (by decide) rfl d8_68 rfl ⟨by rw [b2i_t (by simp [okB, hz, hH, hl, hP])], rfl⟩
        · skip
          rw [b2i_f hP]
          show Own.Go _ _ _ _ _ 60 #[.val (.ref s), .val (.int 2), .val (.int 4), .val (.int ch2)] [.int 0]
          refine Own.ifYes W4 d8_60 67 (by decide) (by decide) (by decide) ?_
          refine Own.iconst W4 d8_67 68 rfl 0 rfl ?_
          exact Own.retB W4 (by decide) (by decide) rfl d8_68 rfl ⟨by rw [b2i_f (by simp [okB, hz, hH, hl, hP])], rfl⟩
      · skip
        rw [b2i_f hl]
        show Own.Go _ _ _ _ _ 45 #[.val (.ref s), .val (.int 2), .val (.int 4), .val (.int ch2)] [.int 0]
        refine Own.ifYes W3 d8_45 69 (by decide) (by decide) (by decide) ?_
        refine Own.iconst W3 d8_69 70 rfl 1 rfl ?_
        exact Own.retB W3 (by decide) (by decide) rfl d8_70 rfl ⟨by rw [b2i_t (by simp [okB, hz, hH, hl])], rfl⟩
set_option maxRecDepth 65536 in
set_option maxHeartbeats 40000000 in
theorem con_ok4_3 {G : Own.Gl} (hw : ∀ d ∈ tables_1, d.before G.a0 G.Z = true) (hEL : EW G.Z G.a0 G.EL) {ch0 ch1 ch2 ch3 : Int32} {s : Addr} {kC : ClassId} {ii ln : Int32} (hii : ii = 3) (hln : ln = 4) {h : Heap} (hO : Old G.Z G.n0 h) (A : Arv G.Z h s kC .char 4 [.int ch0, .int ch1, .int ch2, .int ch3] (.int 0)) :
    Own.Con G [] bOk4_3 #[.ref s, .int ii, .int ln] h [] (fun v h' => v = some (.int (b2i (okB (decide (ch3 = 0)) (hB ch3) (lB ch3) false (hB ch2)))) ∧ h' = h) := by
  refine Own.Con.intro (plainFor_of_name pn_4) hO hEL _ (fun m => ef_bOk4_3 m s ii ln) ?_
  intro X T0 W0 sf
  subst hii; subst hln
  refine Own.aloadN W0 d8_0 1 rfl (.ref s) rfl rfl ?_
  refine Own.iloadN W0 d8_1 2 rfl 3 rfl ?_
  refine Own.caload W0 A (by decide) (.int ch3) rfl d8_2 3 rfl ?_
  refine Own.istoreN W0 d8_3 4 rfl #[.val (.ref s), .val (.int 3), .val (.int 4), .val (.int ch3)] rfl ?_
  refine Own.iloadN W0 d8_4 5 rfl ch3 rfl ?_
  by_cases hz : ch3 = (0 : Int32)
  · skip
    refine Own.ifNo W0 d8_5 8 (XT.i0_ne_f hz) rfl ?_
    refine Own.iconst W0 d8_8 9 rfl 0 rfl ?_
    exact Own.retB W0 (by decide) (by decide) rfl d8_9 rfl ⟨by rw [b2i_f (by simp [okB, hz])], rfl⟩
  · skip
    refine Own.ifYes W0 d8_5 10 (XT.i0_ne_t hz) (by decide) (by decide) ?_
    refine Own.iloadN W0 d8_10 11 rfl ch3 rfl ?_
    refine Own.callS W0 (tw hw 44 rfl) (tw hw 45 rfl) (tw hw 42 rfl) (tw hw 46 rfl) (by decide) (argsL := [(.int ch3)]) (rest := []) (Own.Con.pay (con_hi hw hEL ch3 W0.old) W0 (tw hw 46 rfl) (tw hw 42 rfl) (len := 3) (wd := 0) (by decide) (by decide) (fun _ q => nomatch q)) rfl (lenOf pd_15 rfl) rfl (lb rfl) d8_11 14 rfl 0 0 (lb rfl) (lb rfl) (lb rfl) (lb rfl) ?_
    intro v1 T1 h1 u1 W1 R1 hq
    obtain ⟨rfl, eh1⟩ := hq
    have ei1 := eh1.symm; subst ei1
    by_cases hH : hB ch3 = true
    · skip
      rw [b2i_t hH]
      show Own.Go _ _ _ _ _ 14 #[.val (.ref s), .val (.int 3), .val (.int 4), .val (.int ch3)] [.int 1]
      refine Own.ifNo W1 d8_14 17 (by decide) rfl ?_
      refine Own.iloadN W1 d8_17 18 rfl 3 rfl ?_
      refine Own.iconst W1 d8_18 19 rfl 1 rfl ?_
      refine Own.iadd W1 d8_19 20 rfl ?_
      refine Own.iloadN W1 d8_20 21 rfl 4 rfl ?_
      refine Own.icmpYes W1 d8_21 39 (by decide) (by decide) (by decide) ?_
      refine Own.iconst W1 d8_39 40 rfl 0 rfl ?_
      exact Own.retB W1 (by decide) (by decide) rfl d8_40 rfl ⟨by rw [b2i_f (by simp [okB, hz, hH])], rfl⟩
    · skip
      rw [b2i_f hH]
      show Own.Go _ _ _ _ _ 14 #[.val (.ref s), .val (.int 3), .val (.int 4), .val (.int ch3)] [.int 0]
      refine Own.ifYes W1 d8_14 41 (by decide) (by decide) (by decide) ?_
      refine Own.iloadN W1 d8_41 42 rfl ch3 rfl ?_
      refine Own.callS W1 (tw hw 48 rfl) (tw hw 49 rfl) (tw hw 42 rfl) (tw hw 50 rfl) (by decide) (argsL := [(.int ch3)]) (rest := []) (Own.Con.pay (con_lo hw hEL ch3 W1.old) W1 (tw hw 50 rfl) (tw hw 42 rfl) (len := 3) (wd := 0) (by decide) (by decide) (fun _ q => nomatch q)) rfl (lenOf pd_15 rfl) rfl (lb rfl) d8_42 45 rfl 0 0 (lb rfl) (lb rfl) (lb rfl) (lb rfl) ?_
      intro v2 T2 h2 u2 W2 R2 hq
      obtain ⟨rfl, eh2⟩ := hq
      have ei2 := eh2.symm; subst ei2
      by_cases hl : lB ch3 = true
      · skip
        rw [b2i_t hl]
        show Own.Go _ _ _ _ _ 45 #[.val (.ref s), .val (.int 3), .val (.int 4), .val (.int ch3)] [.int 1]
        refine Own.ifNo W2 d8_45 48 (by decide) rfl ?_
        refine Own.iloadN W2 d8_48 49 rfl 3 rfl ?_
        refine Own.ifNo W2 d8_49 52 (by decide) rfl ?_
        refine Own.aloadN W2 d8_52 53 rfl (.ref s) rfl rfl ?_
        refine Own.iloadN W2 d8_53 54 rfl 3 rfl ?_
        refine Own.iconst W2 d8_54 55 rfl 1 rfl ?_
        refine Own.isub W2 d8_55 56 rfl ?_
        refine Own.caload W2 A (by decide) (.int ch2) rfl d8_56 57 rfl ?_
        refine Own.callS W2 (tw hw 44 rfl) (tw hw 45 rfl) (tw hw 42 rfl) (tw hw 46 rfl) (by decide) (argsL := [(.int ch2)]) (rest := []) (Own.Con.pay (con_hi hw hEL ch2 W2.old) W2 (tw hw 46 rfl) (tw hw 42 rfl) (len := 3) (wd := 0) (by decide) (by decide) (fun _ q => nomatch q)) rfl (lenOf pd_15 rfl) rfl (lb rfl) d8_57 60 rfl 0 0 (lb rfl) (lb rfl) (lb rfl) (lb rfl) ?_
        intro v3 T3 h3 u3 W3 R3 hq
        obtain ⟨rfl, eh3⟩ := hq
        have ei3 := eh3.symm; subst ei3
        by_cases hP : hB ch2 = true
        · skip
          rw [b2i_t hP]
          show Own.Go _ _ _ _ _ 60 #[.val (.ref s), .val (.int 3), .val (.int 4), .val (.int ch3)] [.int 1]
          refine Own.ifNo W3 d8_60 63 (by decide) rfl ?_
          refine Own.iconst W3 d8_63 64 rfl 1 rfl ?_
          refine Own.goto W3 d8_64 68 (by decide) (by decide) ?_
          exact Own.retB W3 (by decide) (by decide) rfl d8_68 rfl ⟨by rw [b2i_t (by simp [okB, hz, hH, hl, hP])], rfl⟩
        · skip
          rw [b2i_f hP]
          show Own.Go _ _ _ _ _ 60 #[.val (.ref s), .val (.int 3), .val (.int 4), .val (.int ch3)] [.int 0]
          refine Own.ifYes W3 d8_60 67 (by decide) (by decide) (by decide) ?_
          refine Own.iconst W3 d8_67 68 rfl 0 rfl ?_
          exact Own.retB W3 (by decide) (by decide) rfl d8_68 rfl ⟨by rw [b2i_f (by simp [okB, hz, hH, hl, hP])], rfl⟩
      · skip
        rw [b2i_f hl]
        show Own.Go _ _ _ _ _ 45 #[.val (.ref s), .val (.int 3), .val (.int 4), .val (.int ch3)] [.int 0]
        refine Own.ifYes W2 d8_45 69 (by decide) (by decide) (by decide) ?_
        refine Own.iconst W2 d8_69 70 rfl 1 rfl ?_
        exact Own.retB W2 (by decide) (by decide) rfl d8_70 rfl ⟨by rw [b2i_t (by simp [okB, hz, hH, hl])], rfl⟩
set_option maxRecDepth 65536 in
set_option maxHeartbeats 40000000 in
theorem con_law {G : Own.Gl} (hw : ∀ d ∈ tables_1, d.before G.a0 G.Z = true) (hEL : EW G.Z G.a0 G.EL) (hmem : (Own.ST, 7) ∈ G.EL) {cz : Int32} (hS : Sta G.Z G.Z.heap Own.ST "COMPACT_STRINGS" "Z" (.int cz)) (hcz : ¬ cz = 0) {fm : Value} (SF : Sta G.Z G.Z.heap "jdk/internal/util/Preconditions" "SIOOBE_FORMATTER" "Ljava/util/function/BiFunction;" fm) (rfm : fm.isRef = true) (TA : Sta G.Z G.Z.heap "java/lang/StringUTF16" "$assertionsDisabled" "Z" (.int 1)) (TH : Sta G.Z G.Z.heap "java/lang/StringUTF16" "HI_BYTE_SHIFT" "I" (.int 0)) (TL : Sta G.Z G.Z.heap "java/lang/StringUTF16" "LO_BYTE_SHIFT" "I" (.int 8)) (hEN2 : Own.EN G.Z G.a0 G.EL 2) (hEN4 : Own.EN G.Z G.a0 G.EL 4) (hEN6 : Own.EN G.Z G.a0 G.EL 6) (hEN8 : Own.EN G.Z G.a0 G.EL 8) (p0 : Int32) (p1 : Int32) (p2 : Int32) (p3 : Int32) (p4 : Int32) {h : Heap} (hO : Old G.Z G.n0 h) :
    Own.Con G tables_1 bLaw #[.int p0, .int p1, .int p2, .int p3, .int p4] h [] (fun v h' => v = some (.int 1)) := by
  refine Own.Con.intro (plainFor_of_name pn_4) hO hEL _ (fun m => ef_law m p0 p1 p2 p3 p4) ?_
  intro X T0 W0 sf
  refine Own.iloadN W0 at_0 1 rfl p0 rfl ?_
  refine Own.bipush W0 at_1 3 rfl 7 rfl ?_
  refine Own.iand W0 at_3 4 rfl ?_
  refine Own.bipush W0 at_4 6 rfl 6 rfl ?_
  refine Own.irem W0 at_6 7 rfl (by decide) ?_
  refine Own.istore W0 at_7 9 rfl #[.val (.int p0), .val (.int p1), .val (.int p2), .val (.int p3), .val (.int p4), .val (.int (k6 p0)), .unset, .unset, .unset, .unset, .unset, .unset, .unset] rfl ?_
  rcases six p0 with en | en | en | en | en | en
  · skip
    rw [en]
    show Own.Go _ _ _ _ _ 9 #[.val (.int p0), .val (.int p1), .val (.int p2), .val (.int p3), .val (.int p4), .val (.int 0), .unset, .unset, .unset, .unset, .unset, .unset, .unset] []
    refine Own.iload W0 at_9 11 rfl 0 rfl ?_
    refine Own.iconst W0 at_11 12 rfl 5 rfl ?_
    refine Own.icmpYes W0 at_12 20 (by decide) (by decide) (by decide) ?_
    refine Own.iloadN W0 at_20 21 rfl p1 rfl ?_
    refine Own.i2c W0 at_21 22 rfl ?_
    refine Own.istore W0 at_22 24 rfl #[.val (.int p0), .val (.int p1), .val (.int p2), .val (.int p3), .val (.int p4), .val (.int 0), .val (.int (cc p1)), .unset, .unset, .unset, .unset, .unset, .unset] rfl ?_
    refine Own.iloadN W0 at_24 25 rfl p2 rfl ?_
    refine Own.i2c W0 at_25 26 rfl ?_
    refine Own.istore W0 at_26 28 rfl #[.val (.int p0), .val (.int p1), .val (.int p2), .val (.int p3), .val (.int p4), .val (.int 0), .val (.int (cc p1)), .val (.int (cc p2)), .unset, .unset, .unset, .unset, .unset] rfl ?_
    refine Own.iloadN W0 at_28 29 rfl p3 rfl ?_
    refine Own.i2c W0 at_29 30 rfl ?_
    refine Own.istore W0 at_30 32 rfl #[.val (.int p0), .val (.int p1), .val (.int p2), .val (.int p3), .val (.int p4), .val (.int 0), .val (.int (cc p1)), .val (.int (cc p2)), .val (.int (cc p3)), .unset, .unset, .unset, .unset] rfl ?_
    refine Own.iload W0 at_32 34 rfl p4 rfl ?_
    refine Own.i2c W0 at_34 35 rfl ?_
    refine Own.istore W0 at_35 37 rfl #[.val (.int p0), .val (.int p1), .val (.int p2), .val (.int p3), .val (.int p4), .val (.int 0), .val (.int (cc p1)), .val (.int (cc p2)), .val (.int (cc p3)), .val (.int (cc p4)), .unset, .unset, .unset] rfl ?_
    refine Own.iconst W0 at_37 38 rfl 4 rfl ?_
    refine Own.newA W0 (tw hw 0 rfl) at_38 40 rfl (by decide) 4 (by decide) (by decide) 1 4 (by decide) (by decide) (by decide) (by decide) ?_
    intro T1 h1 o1 c1 g1 W1 E1 A1 s1 k1
    have V1 : Arv G.Z h1 o1 c1 .char (4 : Int32) [.int 0, .int 0, .int 0, .int 0] (.int 0) := A1
    refine Own.dup W1 at_40 41 rfl rfl ?_
    refine Own.iconst W1 at_41 42 rfl 0 rfl ?_
    refine Own.iload W1 at_42 44 rfl (cc p1) rfl ?_
    refine Own.castore W1 V1 0 (by decide) (by decide) (lb rfl) (Nat.le_trans W0.n0 (Nat.le_of_eq g1.symm)) (x' := (cc p1)) (Own.narCh (r16c _)) at_44 45 rfl ?_
    intro T2 h2 W2 Q2 A2 k2
    have V2 : Arv G.Z h2 o1 c1 .char (4 : Int32) [(.int (cc p1)), .int 0, .int 0, .int 0] (.int 0) := A2
    refine Own.dup W2 at_45 46 rfl rfl ?_
    refine Own.iconst W2 at_46 47 rfl 1 rfl ?_
    refine Own.iload W2 at_47 49 rfl (cc p2) rfl ?_
    refine Own.castore W2 V2 1 (by decide) (by decide) (lb rfl) (Nat.le_trans W0.n0 (Nat.le_of_eq g1.symm)) (x' := (cc p2)) (Own.narCh (r16c _)) at_49 50 rfl ?_
    intro T3 h3 W3 Q3 A3 k3
    have V3 : Arv G.Z h3 o1 c1 .char (4 : Int32) [(.int (cc p1)), (.int (cc p2)), .int 0, .int 0] (.int 0) := A3
    refine Own.dup W3 at_50 51 rfl rfl ?_
    refine Own.iconst W3 at_51 52 rfl 2 rfl ?_
    refine Own.iload W3 at_52 54 rfl (cc p3) rfl ?_
    refine Own.castore W3 V3 2 (by decide) (by decide) (lb rfl) (Nat.le_trans W0.n0 (Nat.le_of_eq g1.symm)) (x' := (cc p3)) (Own.narCh (r16c _)) at_54 55 rfl ?_
    intro T4 h4 W4 Q4 A4 k4
    have V4 : Arv G.Z h4 o1 c1 .char (4 : Int32) [(.int (cc p1)), (.int (cc p2)), (.int (cc p3)), .int 0] (.int 0) := A4
    refine Own.dup W4 at_55 56 rfl rfl ?_
    refine Own.iconst W4 at_56 57 rfl 3 rfl ?_
    refine Own.iload W4 at_57 59 rfl (cc p4) rfl ?_
    refine Own.castore W4 V4 3 (by decide) (by decide) (lb rfl) (Nat.le_trans W0.n0 (Nat.le_of_eq g1.symm)) (x' := (cc p4)) (Own.narCh (r16c _)) at_59 60 rfl ?_
    intro T5 h5 W5 Q5 A5 k5
    have V5 : Arv G.Z h5 o1 c1 .char (4 : Int32) [(.int (cc p1)), (.int (cc p2)), (.int (cc p3)), (.int (cc p4))] (.int 0) := A5
    refine Own.astore W5 at_60 62 rfl rfl #[.val (.int p0), .val (.int p1), .val (.int p2), .val (.int p3), .val (.int p4), .val (.int 0), .val (.int (cc p1)), .val (.int (cc p2)), .val (.int (cc p3)), .val (.int (cc p4)), .val (.ref o1), .unset, .unset] rfl ?_
    refine Own.iload W5 at_62 64 rfl 0 rfl ?_
    refine Own.ifNo W5 at_64 67 (by decide) rfl ?_
    refine Own.iconst W5 at_67 68 rfl 0 rfl ?_
    refine Own.newA W5 (tw hw 0 rfl) at_68 70 rfl (by decide) 0 (by decide) (by decide) 2 4 (by decide) (by decide) (by decide) (by decide) ?_
    intro T6 h6 o6 c6 g6 W6 E6 A6 s6 k6
    have V6 : Arv G.Z h6 o6 c6 .char (0 : Int32) [] (.int 0) := A6
    refine Own.astore W6 at_70 72 rfl rfl #[.val (.int p0), .val (.int p1), .val (.int p2), .val (.int p3), .val (.int p4), .val (.int 0), .val (.int (cc p1)), .val (.int (cc p2)), .val (.int (cc p3)), .val (.int (cc p4)), .val (.ref o1), .val (.ref o6), .unset] rfl ?_
    refine Own.goto W6 at_72 172 (by decide) (by decide) ?_
    refine Own.iload W6 at_172 174 rfl 0 rfl ?_
    refine Own.iconst W6 at_174 175 rfl 1 rfl ?_
    refine Own.icmpYes W6 at_175 189 (by decide) (by decide) (by decide) ?_
    refine Own.iload W6 at_189 191 rfl 0 rfl ?_
    refine Own.iconst W6 at_191 192 rfl 2 rfl ?_
    refine Own.icmpYes W6 at_192 206 (by decide) (by decide) (by decide) ?_
    refine Own.iload W6 at_206 208 rfl 0 rfl ?_
    refine Own.iconst W6 at_208 209 rfl 3 rfl ?_
    refine Own.icmpYes W6 at_209 223 (by decide) (by decide) (by decide) ?_
    refine Own.iload W6 at_223 225 rfl 0 rfl ?_
    refine Own.iconst W6 at_225 226 rfl 4 rfl ?_
    refine Own.icmpYes W6 at_226 240 (by decide) (by decide) (by decide) ?_
    refine Own.iconst W6 at_240 241 rfl 1 rfl ?_
    refine Own.goto W6 at_241 245 (by decide) (by decide) ?_
    refine Own.istore W6 at_245 247 rfl #[.val (.int p0), .val (.int p1), .val (.int p2), .val (.int p3), .val (.int p4), .val (.int 0), .val (.int (cc p1)), .val (.int (cc p2)), .val (.int (cc p3)), .val (.int (cc p4)), .val (.ref o1), .val (.ref o6), .val (.int 1)] rfl ?_
    refine Own.newO W6 (tw hw 1 rfl) (tw hw 2 rfl) (tw hw 3 rfl) at_247 250 rfl 3 8 (by decide) (by decide) (by decide) (by decide) ?_
    intro T7 h7 o7 g7 W7 E7 A7 D7 s7 k7
    have F7_value : Fld G.Z h7 o7 "java/lang/String" "value" "[B" .null := D7 (Or.inr (tw hw 16 rfl)) (ty := (.array .byte)) (by decide)
    have F7_coder : Fld G.Z h7 o7 "java/lang/String" "coder" "B" (.int 0) := D7 (Or.inr (tw hw 17 rfl)) (ty := .byte) (by decide)
    refine Own.dup W7 at_250 251 rfl rfl ?_
    refine Own.aload W7 at_251 253 rfl (.ref o6) rfl rfl ?_
    have X8 : Ext h h1 := E1
    have X9 : Ext h h2 := Own.Ext.wr' X8 Q2 (Nat.le_of_eq g1.symm)
    have X10 : Ext h h3 := Own.Ext.wr' X9 Q3 (Nat.le_of_eq g1.symm)
    have X11 : Ext h h4 := Own.Ext.wr' X10 Q4 (Nat.le_of_eq g1.symm)
    have X12 : Ext h h5 := Own.Ext.wr' X11 Q5 (Nat.le_of_eq g1.symm)
    have X13 : Ext h h6 := Own.Ext.tr X12 E6
    have X14 : Ext h6 h7 := E7
    refine Own.callX W7 rfl (tw hw 4 rfl) (tw hw 5 rfl) (tw hw 6 rfl) (by decide) (argsL := [(.ref o6)]) (rest := [(.ref o7)]) (Own.payStr (wS hw) hEL hmem W7 (cs := []) (z := (0 : Int32)) (cz := cz) (Nat.le_trans W0.n0 (Nat.le_trans X13.1 (Nat.le_of_eq g7.symm))) s7 A7 F7_value F7_coder ((V6.ext X14)) rfl (by intro c hc; cases hc) (lb rfl) hS hcz (len := 3) (wd := 1) (by decide) (by decide)) rfl (lenOf pd_17 rfl) rfl (lb rfl) at_253 256 rfl 7 16 (lb rfl) (lb rfl) (lb rfl) (lb rfl) ?_
    intro v15 T15 h15 u15 W15 R15 hq
    obtain ⟨rfl, K15, F15⟩ := hq
    show Own.Go _ _ _ _ _ 256 #[.val (.int p0), .val (.int p1), .val (.int p2), .val (.int p3), .val (.int p4), .val (.int 0), .val (.int (cc p1)), .val (.int (cc p2)), .val (.int (cc p3)), .val (.int (cc p4)), .val (.ref o1), .val (.ref o6), .val (.int 1)] [(.ref o7)]
    have UUF15 : Own.Uni G.Z h15 o7 [] := Or.inl F15
    show Own.Go _ _ _ _ _ 256 #[.val (.int p0), .val (.int p1), .val (.int p2), .val (.int p3), .val (.int p4), .val (.int 0), .val (.int (cc p1)), .val (.int (cc p2)), .val (.int (cc p3)), .val (.int (cc p4)), .val (.ref o1), .val (.ref o6), .val (.int 1)] [(.ref o7)]
    refine Own.callS W15 (tw hw 22 rfl) (tw hw 23 rfl) (tw hw 24 rfl) (tw hw 25 rfl) (by decide) (argsL := [(.ref o7)]) (rest := []) (Own.Con.pay (con_ist0 hw hEL hmem hS hcz SF rfm TA TH TL W15.old UUF15) W15 (tw hw 25 rfl) (tw hw 24 rfl) (len := 3) (wd := 0) (by decide) (by decide) (fun _ q => nomatch q)) rfl (lenOf pd_18 rfl) rfl (lb rfl) at_256 259 rfl 7 16 (lb rfl) (lb rfl) (lb rfl) (lb rfl) ?_
    intro v16 T16 h16 u16 W16 R16 hq
    obtain ⟨rfl, eh16⟩ := hq
    have ei16 := eh16.symm; subst ei16
    have X17 : Ext h5 h6 := E6
    have X18 : Ext h5 h7 := Own.Ext.tr X17 E7
    have X19 : Ext h5 h15 := Own.Ext.kp X18 K15 (allS (Nat.le_trans X17.1 (Nat.le_of_eq g7.symm)) all0)
    have sf20 := R16.safe (V5.ext X19).lt (R15.safe (V5.ext X18).lt (k7 o1 (k6 o1 (k5 o1 (k4 o1 (k3 o1 (k2 o1 s1)))))))
    rw [show b2i (uns []) = (1 : Int32) from by rfl]
    show Own.Go _ _ _ _ _ 259 #[.val (.int p0), .val (.int p1), .val (.int p2), .val (.int p3), .val (.int p4), .val (.int 0), .val (.int (cc p1)), .val (.int (cc p2)), .val (.int (cc p3)), .val (.int (cc p4)), .val (.ref o1), .val (.ref o6), .val (.int 1)] [.int 1]
    refine Own.iload W16 at_259 261 rfl 1 rfl ?_
    refine Own.icmpNo W16 at_261 264 (by decide) rfl ?_
    refine Own.iconst W16 at_264 265 rfl 1 rfl ?_
    refine Own.goto W16 at_265 269 (by decide) (by decide) ?_
    exact Own.retB W16 (by decide) (by decide) rfl at_269 rfl rfl
  · skip
    rw [en]
    show Own.Go _ _ _ _ _ 9 #[.val (.int p0), .val (.int p1), .val (.int p2), .val (.int p3), .val (.int p4), .val (.int 1), .unset, .unset, .unset, .unset, .unset, .unset, .unset] []
    refine Own.iload W0 at_9 11 rfl 1 rfl ?_
    refine Own.iconst W0 at_11 12 rfl 5 rfl ?_
    refine Own.icmpYes W0 at_12 20 (by decide) (by decide) (by decide) ?_
    refine Own.iloadN W0 at_20 21 rfl p1 rfl ?_
    refine Own.i2c W0 at_21 22 rfl ?_
    refine Own.istore W0 at_22 24 rfl #[.val (.int p0), .val (.int p1), .val (.int p2), .val (.int p3), .val (.int p4), .val (.int 1), .val (.int (cc p1)), .unset, .unset, .unset, .unset, .unset, .unset] rfl ?_
    refine Own.iloadN W0 at_24 25 rfl p2 rfl ?_
    refine Own.i2c W0 at_25 26 rfl ?_
    refine Own.istore W0 at_26 28 rfl #[.val (.int p0), .val (.int p1), .val (.int p2), .val (.int p3), .val (.int p4), .val (.int 1), .val (.int (cc p1)), .val (.int (cc p2)), .unset, .unset, .unset, .unset, .unset] rfl ?_
    refine Own.iloadN W0 at_28 29 rfl p3 rfl ?_
    refine Own.i2c W0 at_29 30 rfl ?_
    refine Own.istore W0 at_30 32 rfl #[.val (.int p0), .val (.int p1), .val (.int p2), .val (.int p3), .val (.int p4), .val (.int 1), .val (.int (cc p1)), .val (.int (cc p2)), .val (.int (cc p3)), .unset, .unset, .unset, .unset] rfl ?_
    refine Own.iload W0 at_32 34 rfl p4 rfl ?_
    refine Own.i2c W0 at_34 35 rfl ?_
    refine Own.istore W0 at_35 37 rfl #[.val (.int p0), .val (.int p1), .val (.int p2), .val (.int p3), .val (.int p4), .val (.int 1), .val (.int (cc p1)), .val (.int (cc p2)), .val (.int (cc p3)), .val (.int (cc p4)), .unset, .unset, .unset] rfl ?_
    refine Own.iconst W0 at_37 38 rfl 4 rfl ?_
    refine Own.newA W0 (tw hw 0 rfl) at_38 40 rfl (by decide) 4 (by decide) (by decide) 1 4 (by decide) (by decide) (by decide) (by decide) ?_
    intro T21 h21 o21 c21 g21 W21 E21 A21 s21 k21
    have V21 : Arv G.Z h21 o21 c21 .char (4 : Int32) [.int 0, .int 0, .int 0, .int 0] (.int 0) := A21
    refine Own.dup W21 at_40 41 rfl rfl ?_
    refine Own.iconst W21 at_41 42 rfl 0 rfl ?_
    refine Own.iload W21 at_42 44 rfl (cc p1) rfl ?_
    refine Own.castore W21 V21 0 (by decide) (by decide) (lb rfl) (Nat.le_trans W0.n0 (Nat.le_of_eq g21.symm)) (x' := (cc p1)) (Own.narCh (r16c _)) at_44 45 rfl ?_
    intro T22 h22 W22 Q22 A22 k22
    have V22 : Arv G.Z h22 o21 c21 .char (4 : Int32) [(.int (cc p1)), .int 0, .int 0, .int 0] (.int 0) := A22
    refine Own.dup W22 at_45 46 rfl rfl ?_
    refine Own.iconst W22 at_46 47 rfl 1 rfl ?_
    refine Own.iload W22 at_47 49 rfl (cc p2) rfl ?_
    refine Own.castore W22 V22 1 (by decide) (by decide) (lb rfl) (Nat.le_trans W0.n0 (Nat.le_of_eq g21.symm)) (x' := (cc p2)) (Own.narCh (r16c _)) at_49 50 rfl ?_
    intro T23 h23 W23 Q23 A23 k23
    have V23 : Arv G.Z h23 o21 c21 .char (4 : Int32) [(.int (cc p1)), (.int (cc p2)), .int 0, .int 0] (.int 0) := A23
    refine Own.dup W23 at_50 51 rfl rfl ?_
    refine Own.iconst W23 at_51 52 rfl 2 rfl ?_
    refine Own.iload W23 at_52 54 rfl (cc p3) rfl ?_
    refine Own.castore W23 V23 2 (by decide) (by decide) (lb rfl) (Nat.le_trans W0.n0 (Nat.le_of_eq g21.symm)) (x' := (cc p3)) (Own.narCh (r16c _)) at_54 55 rfl ?_
    intro T24 h24 W24 Q24 A24 k24
    have V24 : Arv G.Z h24 o21 c21 .char (4 : Int32) [(.int (cc p1)), (.int (cc p2)), (.int (cc p3)), .int 0] (.int 0) := A24
    refine Own.dup W24 at_55 56 rfl rfl ?_
    refine Own.iconst W24 at_56 57 rfl 3 rfl ?_
    refine Own.iload W24 at_57 59 rfl (cc p4) rfl ?_
    refine Own.castore W24 V24 3 (by decide) (by decide) (lb rfl) (Nat.le_trans W0.n0 (Nat.le_of_eq g21.symm)) (x' := (cc p4)) (Own.narCh (r16c _)) at_59 60 rfl ?_
    intro T25 h25 W25 Q25 A25 k25
    have V25 : Arv G.Z h25 o21 c21 .char (4 : Int32) [(.int (cc p1)), (.int (cc p2)), (.int (cc p3)), (.int (cc p4))] (.int 0) := A25
    refine Own.astore W25 at_60 62 rfl rfl #[.val (.int p0), .val (.int p1), .val (.int p2), .val (.int p3), .val (.int p4), .val (.int 1), .val (.int (cc p1)), .val (.int (cc p2)), .val (.int (cc p3)), .val (.int (cc p4)), .val (.ref o21), .unset, .unset] rfl ?_
    refine Own.iload W25 at_62 64 rfl 1 rfl ?_
    refine Own.ifYes W25 at_64 75 (by decide) (by decide) (by decide) ?_
    refine Own.iload W25 at_75 77 rfl 1 rfl ?_
    refine Own.iconst W25 at_77 78 rfl 1 rfl ?_
    refine Own.icmpNo W25 at_78 81 (by decide) rfl ?_
    refine Own.iconst W25 at_81 82 rfl 1 rfl ?_
    refine Own.newA W25 (tw hw 0 rfl) at_82 84 rfl (by decide) 1 (by decide) (by decide) 2 5 (by decide) (by decide) (by decide) (by decide) ?_
    intro T26 h26 o26 c26 g26 W26 E26 A26 s26 k26
    have V26 : Arv G.Z h26 o26 c26 .char (1 : Int32) [.int 0] (.int 0) := A26
    refine Own.dup W26 at_84 85 rfl rfl ?_
    refine Own.iconst W26 at_85 86 rfl 0 rfl ?_
    refine Own.iload W26 at_86 88 rfl (cc p1) rfl ?_
    have X28 : Ext h h21 := E21
    have X29 : Ext h h22 := Own.Ext.wr' X28 Q22 (Nat.le_of_eq g21.symm)
    have X30 : Ext h h23 := Own.Ext.wr' X29 Q23 (Nat.le_of_eq g21.symm)
    have X31 : Ext h h24 := Own.Ext.wr' X30 Q24 (Nat.le_of_eq g21.symm)
    have X32 : Ext h h25 := Own.Ext.wr' X31 Q25 (Nat.le_of_eq g21.symm)
    refine Own.castore W26 V26 0 (by decide) (by decide) (lb rfl) (Nat.le_trans W0.n0 (Nat.le_trans X32.1 (Nat.le_of_eq g26.symm))) (x' := (cc p1)) (Own.narCh (r16c _)) at_88 89 rfl ?_
    intro T27 h27 W27 Q27 A27 k27
    have V27 : Arv G.Z h27 o26 c26 .char (1 : Int32) [(.int (cc p1))] (.int 0) := A27
    refine Own.astore W27 at_89 91 rfl rfl #[.val (.int p0), .val (.int p1), .val (.int p2), .val (.int p3), .val (.int p4), .val (.int 1), .val (.int (cc p1)), .val (.int (cc p2)), .val (.int (cc p3)), .val (.int (cc p4)), .val (.ref o21), .val (.ref o26), .unset] rfl ?_
    refine Own.goto W27 at_91 172 (by decide) (by decide) ?_
    refine Own.iload W27 at_172 174 rfl 1 rfl ?_
    refine Own.iconst W27 at_174 175 rfl 1 rfl ?_
    refine Own.icmpNo W27 at_175 178 (by decide) rfl ?_
    refine Own.aload W27 at_178 180 rfl (.ref o21) rfl rfl ?_
    refine Own.iconst W27 at_180 181 rfl 0 rfl ?_
    refine Own.iload W27 at_181 183 rfl 1 rfl ?_
    have X33 : Ext h25 h26 := E26
    have X34 : Ext h25 h27 := Own.Ext.wr' X33 Q27 (Nat.le_of_eq g26.symm)
    refine Own.callS W27 (tw hw 40 rfl) (tw hw 41 rfl) (tw hw 42 rfl) (tw hw 43 rfl) (by decide) (argsL := [(.ref o21), .int 0, .int 1]) (rest := []) (Own.Con.pay (con_ok1_0 hw hEL rfl rfl W27.old (V25.ext X34)) W27 (tw hw 43 rfl) (tw hw 42 rfl) (len := 3) (wd := 0) (by decide) (by decide) (fun _ q => nomatch q)) rfl (lenOf pd_19 rfl) rfl (lb rfl) at_183 186 rfl 2 5 (lb rfl) (lb rfl) (lb rfl) (lb rfl) ?_
    intro v35 T35 h35 u35 W35 R35 hq
    obtain ⟨rfl, eh35⟩ := hq
    have ei35 := eh35.symm; subst ei35
    have sf36 := R35.safe (V25.ext X34).lt (k27 o21 (k26 o21 (k25 o21 (k24 o21 (k23 o21 (k22 o21 s21))))))
    have sf37 := R35.safe V27.lt (k27 o26 s26)
    by_cases hO0 : (okB (decide ((cc p1) = 0)) (hB (cc p1)) (lB (cc p1)) false false) = true
    · skip
      rw [b2i_t hO0]
      show Own.Go _ _ _ _ _ 186 #[.val (.int p0), .val (.int p1), .val (.int p2), .val (.int p3), .val (.int p4), .val (.int 1), .val (.int (cc p1)), .val (.int (cc p2)), .val (.int (cc p3)), .val (.int (cc p4)), .val (.ref o21), .val (.ref o26), .unset] [.int 1]
      refine Own.ifNo W35 at_186 189 (by decide) rfl ?_
      refine Own.iload W35 at_189 191 rfl 1 rfl ?_
      refine Own.iconst W35 at_191 192 rfl 2 rfl ?_
      refine Own.icmpYes W35 at_192 206 (by decide) (by decide) (by decide) ?_
      refine Own.iload W35 at_206 208 rfl 1 rfl ?_
      refine Own.iconst W35 at_208 209 rfl 3 rfl ?_
      refine Own.icmpYes W35 at_209 223 (by decide) (by decide) (by decide) ?_
      refine Own.iload W35 at_223 225 rfl 1 rfl ?_
      refine Own.iconst W35 at_225 226 rfl 4 rfl ?_
      refine Own.icmpYes W35 at_226 240 (by decide) (by decide) (by decide) ?_
      refine Own.iconst W35 at_240 241 rfl 1 rfl ?_
      refine Own.goto W35 at_241 245 (by decide) (by decide) ?_
      refine Own.istore W35 at_245 247 rfl #[.val (.int p0), .val (.int p1), .val (.int p2), .val (.int p3), .val (.int p4), .val (.int 1), .val (.int (cc p1)), .val (.int (cc p2)), .val (.int (cc p3)), .val (.int (cc p4)), .val (.ref o21), .val (.ref o26), .val (.int 1)] rfl ?_
      refine Own.newO W35 (tw hw 1 rfl) (tw hw 2 rfl) (tw hw 3 rfl) at_247 250 rfl 3 9 (by decide) (by decide) (by decide) (by decide) ?_
      intro T38 h38 o38 g38 W38 E38 A38 D38 s38 k38
      have F38_value : Fld G.Z h38 o38 "java/lang/String" "value" "[B" .null := D38 (Or.inr (tw hw 16 rfl)) (ty := (.array .byte)) (by decide)
      have F38_coder : Fld G.Z h38 o38 "java/lang/String" "coder" "B" (.int 0) := D38 (Or.inr (tw hw 17 rfl)) (ty := .byte) (by decide)
      refine Own.dup W38 at_250 251 rfl rfl ?_
      refine Own.aload W38 at_251 253 rfl (.ref o26) rfl rfl ?_
      by_cases hw255 : (255 : Int32) < (cc p1)
      · skip
        have X39 : Ext h h26 := Own.Ext.tr X32 E26
        have X40 : Ext h h27 := Own.Ext.wr' X39 Q27 (Nat.le_trans X32.1 (Nat.le_of_eq g26.symm))
        have X41 : Ext h27 h38 := E38
        refine Own.callX W38 rfl (tw hw 4 rfl) (tw hw 5 rfl) (tw hw 6 rfl) (by decide) (argsL := [(.ref o26)]) (rest := [(.ref o38)]) (Own.Con.pay (con_w11 hw hEL hmem hS hcz TA TH TL hEN2 hw255 (r16c _) W38.old (Nat.le_trans W0.n0 (Nat.le_trans X40.1 (Nat.le_of_eq g38.symm))) A38 F38_value F38_coder (V27.ext X41)) W38 (tw hw 6 rfl) (tw hw 3 rfl) (len := 3) (wd := 1) (by decide) (by decide) (fun y hy => by cases List.mem_singleton.mp hy; exact ⟨A38.lt, s38⟩)) rfl (lenOf pd_17 rfl) rfl (lb rfl) at_253 256 rfl 5 12 (lb rfl) (lb rfl) (lb rfl) (lb rfl) ?_
        intro v42 T42 h42 u42 W42 R42 hq
        obtain ⟨rfl, K42, F42⟩ := hq
        have UUF42 : Own.Uni G.Z h42 o38 [(cc p1)] := Or.inr F42
        show Own.Go _ _ _ _ _ 256 #[.val (.int p0), .val (.int p1), .val (.int p2), .val (.int p3), .val (.int p4), .val (.int 1), .val (.int (cc p1)), .val (.int (cc p2)), .val (.int (cc p3)), .val (.int (cc p4)), .val (.ref o21), .val (.ref o26), .val (.int 1)] [(.ref o38)]
        refine Own.callS W42 (tw hw 22 rfl) (tw hw 23 rfl) (tw hw 24 rfl) (tw hw 25 rfl) (by decide) (argsL := [(.ref o38)]) (rest := []) (Own.Con.pay (con_ist1 hw hEL hmem hS hcz SF rfm TA TH TL W42.old UUF42) W42 (tw hw 25 rfl) (tw hw 24 rfl) (len := 3) (wd := 0) (by decide) (by decide) (fun _ q => nomatch q)) rfl (lenOf pd_18 rfl) rfl (lb rfl) at_256 259 rfl 5 12 (lb rfl) (lb rfl) (lb rfl) (lb rfl) ?_
        intro v43 T43 h43 u43 W43 R43 hq
        obtain ⟨rfl, eh43⟩ := hq
        have ei43 := eh43.symm; subst ei43
        have X44 : Ext h25 h38 := Own.Ext.tr X34 E38
        have X45 : Ext h25 h42 := Own.Ext.kp X44 K42 (allS (Nat.le_trans X34.1 (Nat.le_of_eq g38.symm)) all0)
        have sf46 := R43.safe (V25.ext X45).lt (R42.safe (V25.ext X44).lt (k38 o21 sf36))
        have X47 : Ext h27 h42 := Own.Ext.kp X41 K42 (allS (Nat.le_of_eq g38.symm) all0)
        have sf48 := R43.safe (V27.ext X47).lt (R42.safe (V27.ext X41).lt (k38 o26 sf37))
        have sf49 := R43.safe (A38.keep K42).lt (R42.safe A38.lt s38)
        rw [show b2i (uns [(cc p1)]) = (1 : Int32) from by rw [pure1 (cc p1), hO0]; rfl]
        show Own.Go _ _ _ _ _ 259 #[.val (.int p0), .val (.int p1), .val (.int p2), .val (.int p3), .val (.int p4), .val (.int 1), .val (.int (cc p1)), .val (.int (cc p2)), .val (.int (cc p3)), .val (.int (cc p4)), .val (.ref o21), .val (.ref o26), .val (.int 1)] [.int 1]
        refine Own.iload W43 at_259 261 rfl 1 rfl ?_
        refine Own.icmpNo W43 at_261 264 (by decide) rfl ?_
        refine Own.iconst W43 at_264 265 rfl 1 rfl ?_
        refine Own.goto W43 at_265 269 (by decide) (by decide) ?_
        exact Own.retB W43 (by decide) (by decide) rfl at_269 rfl rfl
      · skip
        have X50 : Ext h h26 := Own.Ext.tr X32 E26
        have X51 : Ext h h27 := Own.Ext.wr' X50 Q27 (Nat.le_trans X32.1 (Nat.le_of_eq g26.symm))
        have X52 : Ext h27 h38 := E38
        refine Own.callX W38 rfl (tw hw 4 rfl) (tw hw 5 rfl) (tw hw 6 rfl) (by decide) (argsL := [(.ref o26)]) (rest := [(.ref o38)]) (Own.payStr (wS hw) hEL hmem W38 (cs := [(cc p1)]) (z := (1 : Int32)) (cz := cz) (Nat.le_trans W0.n0 (Nat.le_trans X51.1 (Nat.le_of_eq g38.symm))) s38 A38 F38_value F38_coder ((V27.ext X52)) rfl (by intro c hc; simp only [List.mem_cons, List.not_mem_nil, or_false] at hc; rcases hc with rfl; exact ⟨(r16c _).1, fun q => hw255 (q)⟩) (lb rfl) hS hcz (len := 3) (wd := 1) (by decide) (by decide)) rfl (lenOf pd_17 rfl) rfl (lb rfl) at_253 256 rfl 7 18 (lb rfl) (lb rfl) (lb rfl) (lb rfl) ?_
        intro v53 T53 h53 u53 W53 R53 hq
        obtain ⟨rfl, K53, F53⟩ := hq
        show Own.Go _ _ _ _ _ 256 #[.val (.int p0), .val (.int p1), .val (.int p2), .val (.int p3), .val (.int p4), .val (.int 1), .val (.int (cc p1)), .val (.int (cc p2)), .val (.int (cc p3)), .val (.int (cc p4)), .val (.ref o21), .val (.ref o26), .val (.int 1)] [(.ref o38)]
        have UUF53 : Own.Uni G.Z h53 o38 [(cc p1)] := Or.inl F53
        show Own.Go _ _ _ _ _ 256 #[.val (.int p0), .val (.int p1), .val (.int p2), .val (.int p3), .val (.int p4), .val (.int 1), .val (.int (cc p1)), .val (.int (cc p2)), .val (.int (cc p3)), .val (.int (cc p4)), .val (.ref o21), .val (.ref o26), .val (.int 1)] [(.ref o38)]
        refine Own.callS W53 (tw hw 22 rfl) (tw hw 23 rfl) (tw hw 24 rfl) (tw hw 25 rfl) (by decide) (argsL := [(.ref o38)]) (rest := []) (Own.Con.pay (con_ist1 hw hEL hmem hS hcz SF rfm TA TH TL W53.old UUF53) W53 (tw hw 25 rfl) (tw hw 24 rfl) (len := 3) (wd := 0) (by decide) (by decide) (fun _ q => nomatch q)) rfl (lenOf pd_18 rfl) rfl (lb rfl) at_256 259 rfl 7 18 (lb rfl) (lb rfl) (lb rfl) (lb rfl) ?_
        intro v54 T54 h54 u54 W54 R54 hq
        obtain ⟨rfl, eh54⟩ := hq
        have ei54 := eh54.symm; subst ei54
        have X55 : Ext h25 h38 := Own.Ext.tr X34 E38
        have X56 : Ext h25 h53 := Own.Ext.kp X55 K53 (allS (Nat.le_trans X34.1 (Nat.le_of_eq g38.symm)) all0)
        have sf57 := R54.safe (V25.ext X56).lt (R53.safe (V25.ext X55).lt (k38 o21 sf36))
        rw [show b2i (uns [(cc p1)]) = (1 : Int32) from by rw [pure1 (cc p1), hO0]; rfl]
        show Own.Go _ _ _ _ _ 259 #[.val (.int p0), .val (.int p1), .val (.int p2), .val (.int p3), .val (.int p4), .val (.int 1), .val (.int (cc p1)), .val (.int (cc p2)), .val (.int (cc p3)), .val (.int (cc p4)), .val (.ref o21), .val (.ref o26), .val (.int 1)] [.int 1]
        refine Own.iload W54 at_259 261 rfl 1 rfl ?_
        refine Own.icmpNo W54 at_261 264 (by decide) rfl ?_
        refine Own.iconst W54 at_264 265 rfl 1 rfl ?_
        refine Own.goto W54 at_265 269 (by decide) (by decide) ?_
        exact Own.retB W54 (by decide) (by decide) rfl at_269 rfl rfl
    · skip
      rw [b2i_f hO0]
      show Own.Go _ _ _ _ _ 186 #[.val (.int p0), .val (.int p1), .val (.int p2), .val (.int p3), .val (.int p4), .val (.int 1), .val (.int (cc p1)), .val (.int (cc p2)), .val (.int (cc p3)), .val (.int (cc p4)), .val (.ref o21), .val (.ref o26), .unset] [.int 0]
      refine Own.ifYes W35 at_186 244 (by decide) (by decide) (by decide) ?_
      refine Own.iconst W35 at_244 245 rfl 0 rfl ?_
      refine Own.istore W35 at_245 247 rfl #[.val (.int p0), .val (.int p1), .val (.int p2), .val (.int p3), .val (.int p4), .val (.int 1), .val (.int (cc p1)), .val (.int (cc p2)), .val (.int (cc p3)), .val (.int (cc p4)), .val (.ref o21), .val (.ref o26), .val (.int 0)] rfl ?_
      refine Own.newO W35 (tw hw 1 rfl) (tw hw 2 rfl) (tw hw 3 rfl) at_247 250 rfl 3 9 (by decide) (by decide) (by decide) (by decide) ?_
      intro T58 h58 o58 g58 W58 E58 A58 D58 s58 k58
      have F58_value : Fld G.Z h58 o58 "java/lang/String" "value" "[B" .null := D58 (Or.inr (tw hw 16 rfl)) (ty := (.array .byte)) (by decide)
      have F58_coder : Fld G.Z h58 o58 "java/lang/String" "coder" "B" (.int 0) := D58 (Or.inr (tw hw 17 rfl)) (ty := .byte) (by decide)
      refine Own.dup W58 at_250 251 rfl rfl ?_
      refine Own.aload W58 at_251 253 rfl (.ref o26) rfl rfl ?_
      by_cases hw255 : (255 : Int32) < (cc p1)
      · skip
        have X59 : Ext h h26 := Own.Ext.tr X32 E26
        have X60 : Ext h h27 := Own.Ext.wr' X59 Q27 (Nat.le_trans X32.1 (Nat.le_of_eq g26.symm))
        have X61 : Ext h27 h58 := E58
        refine Own.callX W58 rfl (tw hw 4 rfl) (tw hw 5 rfl) (tw hw 6 rfl) (by decide) (argsL := [(.ref o26)]) (rest := [(.ref o58)]) (Own.Con.pay (con_w11 hw hEL hmem hS hcz TA TH TL hEN2 hw255 (r16c _) W58.old (Nat.le_trans W0.n0 (Nat.le_trans X60.1 (Nat.le_of_eq g58.symm))) A58 F58_value F58_coder (V27.ext X61)) W58 (tw hw 6 rfl) (tw hw 3 rfl) (len := 3) (wd := 1) (by decide) (by decide) (fun y hy => by cases List.mem_singleton.mp hy; exact ⟨A58.lt, s58⟩)) rfl (lenOf pd_17 rfl) rfl (lb rfl) at_253 256 rfl 5 12 (lb rfl) (lb rfl) (lb rfl) (lb rfl) ?_
        intro v62 T62 h62 u62 W62 R62 hq
        obtain ⟨rfl, K62, F62⟩ := hq
        have UUF62 : Own.Uni G.Z h62 o58 [(cc p1)] := Or.inr F62
        show Own.Go _ _ _ _ _ 256 #[.val (.int p0), .val (.int p1), .val (.int p2), .val (.int p3), .val (.int p4), .val (.int 1), .val (.int (cc p1)), .val (.int (cc p2)), .val (.int (cc p3)), .val (.int (cc p4)), .val (.ref o21), .val (.ref o26), .val (.int 0)] [(.ref o58)]
        refine Own.callS W62 (tw hw 22 rfl) (tw hw 23 rfl) (tw hw 24 rfl) (tw hw 25 rfl) (by decide) (argsL := [(.ref o58)]) (rest := []) (Own.Con.pay (con_ist1 hw hEL hmem hS hcz SF rfm TA TH TL W62.old UUF62) W62 (tw hw 25 rfl) (tw hw 24 rfl) (len := 3) (wd := 0) (by decide) (by decide) (fun _ q => nomatch q)) rfl (lenOf pd_18 rfl) rfl (lb rfl) at_256 259 rfl 5 12 (lb rfl) (lb rfl) (lb rfl) (lb rfl) ?_
        intro v63 T63 h63 u63 W63 R63 hq
        obtain ⟨rfl, eh63⟩ := hq
        have ei63 := eh63.symm; subst ei63
        have X64 : Ext h25 h58 := Own.Ext.tr X34 E58
        have X65 : Ext h25 h62 := Own.Ext.kp X64 K62 (allS (Nat.le_trans X34.1 (Nat.le_of_eq g58.symm)) all0)
        have sf66 := R63.safe (V25.ext X65).lt (R62.safe (V25.ext X64).lt (k58 o21 sf36))
        have X67 : Ext h27 h62 := Own.Ext.kp X61 K62 (allS (Nat.le_of_eq g58.symm) all0)
        have sf68 := R63.safe (V27.ext X67).lt (R62.safe (V27.ext X61).lt (k58 o26 sf37))
        have sf69 := R63.safe (A58.keep K62).lt (R62.safe A58.lt s58)
        rw [show b2i (uns [(cc p1)]) = (0 : Int32) from by rw [pure1 (cc p1), eq_false_of_ne_true hO0]; simp [b2i]]
        show Own.Go _ _ _ _ _ 259 #[.val (.int p0), .val (.int p1), .val (.int p2), .val (.int p3), .val (.int p4), .val (.int 1), .val (.int (cc p1)), .val (.int (cc p2)), .val (.int (cc p3)), .val (.int (cc p4)), .val (.ref o21), .val (.ref o26), .val (.int 0)] [.int 0]
        refine Own.iload W63 at_259 261 rfl 0 rfl ?_
        refine Own.icmpNo W63 at_261 264 (by decide) rfl ?_
        refine Own.iconst W63 at_264 265 rfl 1 rfl ?_
        refine Own.goto W63 at_265 269 (by decide) (by decide) ?_
        exact Own.retB W63 (by decide) (by decide) rfl at_269 rfl rfl
      · skip
        have X70 : Ext h h26 := Own.Ext.tr X32 E26
        have X71 : Ext h h27 := Own.Ext.wr' X70 Q27 (Nat.le_trans X32.1 (Nat.le_of_eq g26.symm))
        have X72 : Ext h27 h58 := E58
        refine Own.callX W58 rfl (tw hw 4 rfl) (tw hw 5 rfl) (tw hw 6 rfl) (by decide) (argsL := [(.ref o26)]) (rest := [(.ref o58)]) (Own.payStr (wS hw) hEL hmem W58 (cs := [(cc p1)]) (z := (1 : Int32)) (cz := cz) (Nat.le_trans W0.n0 (Nat.le_trans X71.1 (Nat.le_of_eq g58.symm))) s58 A58 F58_value F58_coder ((V27.ext X72)) rfl (by intro c hc; simp only [List.mem_cons, List.not_mem_nil, or_false] at hc; rcases hc with rfl; exact ⟨(r16c _).1, fun q => hw255 (q)⟩) (lb rfl) hS hcz (len := 3) (wd := 1) (by decide) (by decide)) rfl (lenOf pd_17 rfl) rfl (lb rfl) at_253 256 rfl 7 18 (lb rfl) (lb rfl) (lb rfl) (lb rfl) ?_
        intro v73 T73 h73 u73 W73 R73 hq
        obtain ⟨rfl, K73, F73⟩ := hq
        show Own.Go _ _ _ _ _ 256 #[.val (.int p0), .val (.int p1), .val (.int p2), .val (.int p3), .val (.int p4), .val (.int 1), .val (.int (cc p1)), .val (.int (cc p2)), .val (.int (cc p3)), .val (.int (cc p4)), .val (.ref o21), .val (.ref o26), .val (.int 0)] [(.ref o58)]
        have UUF73 : Own.Uni G.Z h73 o58 [(cc p1)] := Or.inl F73
        show Own.Go _ _ _ _ _ 256 #[.val (.int p0), .val (.int p1), .val (.int p2), .val (.int p3), .val (.int p4), .val (.int 1), .val (.int (cc p1)), .val (.int (cc p2)), .val (.int (cc p3)), .val (.int (cc p4)), .val (.ref o21), .val (.ref o26), .val (.int 0)] [(.ref o58)]
        refine Own.callS W73 (tw hw 22 rfl) (tw hw 23 rfl) (tw hw 24 rfl) (tw hw 25 rfl) (by decide) (argsL := [(.ref o58)]) (rest := []) (Own.Con.pay (con_ist1 hw hEL hmem hS hcz SF rfm TA TH TL W73.old UUF73) W73 (tw hw 25 rfl) (tw hw 24 rfl) (len := 3) (wd := 0) (by decide) (by decide) (fun _ q => nomatch q)) rfl (lenOf pd_18 rfl) rfl (lb rfl) at_256 259 rfl 7 18 (lb rfl) (lb rfl) (lb rfl) (lb rfl) ?_
        intro v74 T74 h74 u74 W74 R74 hq
        obtain ⟨rfl, eh74⟩ := hq
        have ei74 := eh74.symm; subst ei74
        have X75 : Ext h25 h58 := Own.Ext.tr X34 E58
        have X76 : Ext h25 h73 := Own.Ext.kp X75 K73 (allS (Nat.le_trans X34.1 (Nat.le_of_eq g58.symm)) all0)
        have sf77 := R74.safe (V25.ext X76).lt (R73.safe (V25.ext X75).lt (k58 o21 sf36))
        rw [show b2i (uns [(cc p1)]) = (0 : Int32) from by rw [pure1 (cc p1), eq_false_of_ne_true hO0]; simp [b2i]]
        show Own.Go _ _ _ _ _ 259 #[.val (.int p0), .val (.int p1), .val (.int p2), .val (.int p3), .val (.int p4), .val (.int 1), .val (.int (cc p1)), .val (.int (cc p2)), .val (.int (cc p3)), .val (.int (cc p4)), .val (.ref o21), .val (.ref o26), .val (.int 0)] [.int 0]
        refine Own.iload W74 at_259 261 rfl 0 rfl ?_
        refine Own.icmpNo W74 at_261 264 (by decide) rfl ?_
        refine Own.iconst W74 at_264 265 rfl 1 rfl ?_
        refine Own.goto W74 at_265 269 (by decide) (by decide) ?_
        exact Own.retB W74 (by decide) (by decide) rfl at_269 rfl rfl
  · skip
    rw [en]
    show Own.Go _ _ _ _ _ 9 #[.val (.int p0), .val (.int p1), .val (.int p2), .val (.int p3), .val (.int p4), .val (.int 2), .unset, .unset, .unset, .unset, .unset, .unset, .unset] []
    refine Own.iload W0 at_9 11 rfl 2 rfl ?_
    refine Own.iconst W0 at_11 12 rfl 5 rfl ?_
    refine Own.icmpYes W0 at_12 20 (by decide) (by decide) (by decide) ?_
    refine Own.iloadN W0 at_20 21 rfl p1 rfl ?_
    refine Own.i2c W0 at_21 22 rfl ?_
    refine Own.istore W0 at_22 24 rfl #[.val (.int p0), .val (.int p1), .val (.int p2), .val (.int p3), .val (.int p4), .val (.int 2), .val (.int (cc p1)), .unset, .unset, .unset, .unset, .unset, .unset] rfl ?_
    refine Own.iloadN W0 at_24 25 rfl p2 rfl ?_
    refine Own.i2c W0 at_25 26 rfl ?_
    refine Own.istore W0 at_26 28 rfl #[.val (.int p0), .val (.int p1), .val (.int p2), .val (.int p3), .val (.int p4), .val (.int 2), .val (.int (cc p1)), .val (.int (cc p2)), .unset, .unset, .unset, .unset, .unset] rfl ?_
    refine Own.iloadN W0 at_28 29 rfl p3 rfl ?_
    refine Own.i2c W0 at_29 30 rfl ?_
    refine Own.istore W0 at_30 32 rfl #[.val (.int p0), .val (.int p1), .val (.int p2), .val (.int p3), .val (.int p4), .val (.int 2), .val (.int (cc p1)), .val (.int (cc p2)), .val (.int (cc p3)), .unset, .unset, .unset, .unset] rfl ?_
    refine Own.iload W0 at_32 34 rfl p4 rfl ?_
    refine Own.i2c W0 at_34 35 rfl ?_
    refine Own.istore W0 at_35 37 rfl #[.val (.int p0), .val (.int p1), .val (.int p2), .val (.int p3), .val (.int p4), .val (.int 2), .val (.int (cc p1)), .val (.int (cc p2)), .val (.int (cc p3)), .val (.int (cc p4)), .unset, .unset, .unset] rfl ?_
    refine Own.iconst W0 at_37 38 rfl 4 rfl ?_
    refine Own.newA W0 (tw hw 0 rfl) at_38 40 rfl (by decide) 4 (by decide) (by decide) 1 4 (by decide) (by decide) (by decide) (by decide) ?_
    intro T78 h78 o78 c78 g78 W78 E78 A78 s78 k78
    have V78 : Arv G.Z h78 o78 c78 .char (4 : Int32) [.int 0, .int 0, .int 0, .int 0] (.int 0) := A78
    refine Own.dup W78 at_40 41 rfl rfl ?_
    refine Own.iconst W78 at_41 42 rfl 0 rfl ?_
    refine Own.iload W78 at_42 44 rfl (cc p1) rfl ?_
    refine Own.castore W78 V78 0 (by decide) (by decide) (lb rfl) (Nat.le_trans W0.n0 (Nat.le_of_eq g78.symm)) (x' := (cc p1)) (Own.narCh (r16c _)) at_44 45 rfl ?_
    intro T79 h79 W79 Q79 A79 k79
    have V79 : Arv G.Z h79 o78 c78 .char (4 : Int32) [(.int (cc p1)), .int 0, .int 0, .int 0] (.int 0) := A79
    refine Own.dup W79 at_45 46 rfl rfl ?_
    refine Own.iconst W79 at_46 47 rfl 1 rfl ?_
    refine Own.iload W79 at_47 49 rfl (cc p2) rfl ?_
    refine Own.castore W79 V79 1 (by decide) (by decide) (lb rfl) (Nat.le_trans W0.n0 (Nat.le_of_eq g78.symm)) (x' := (cc p2)) (Own.narCh (r16c _)) at_49 50 rfl ?_
    intro T80 h80 W80 Q80 A80 k80
    have V80 : Arv G.Z h80 o78 c78 .char (4 : Int32) [(.int (cc p1)), (.int (cc p2)), .int 0, .int 0] (.int 0) := A80
    refine Own.dup W80 at_50 51 rfl rfl ?_
    refine Own.iconst W80 at_51 52 rfl 2 rfl ?_
    refine Own.iload W80 at_52 54 rfl (cc p3) rfl ?_
    refine Own.castore W80 V80 2 (by decide) (by decide) (lb rfl) (Nat.le_trans W0.n0 (Nat.le_of_eq g78.symm)) (x' := (cc p3)) (Own.narCh (r16c _)) at_54 55 rfl ?_
    intro T81 h81 W81 Q81 A81 k81
    have V81 : Arv G.Z h81 o78 c78 .char (4 : Int32) [(.int (cc p1)), (.int (cc p2)), (.int (cc p3)), .int 0] (.int 0) := A81
    refine Own.dup W81 at_55 56 rfl rfl ?_
    refine Own.iconst W81 at_56 57 rfl 3 rfl ?_
    refine Own.iload W81 at_57 59 rfl (cc p4) rfl ?_
    refine Own.castore W81 V81 3 (by decide) (by decide) (lb rfl) (Nat.le_trans W0.n0 (Nat.le_of_eq g78.symm)) (x' := (cc p4)) (Own.narCh (r16c _)) at_59 60 rfl ?_
    intro T82 h82 W82 Q82 A82 k82
    have V82 : Arv G.Z h82 o78 c78 .char (4 : Int32) [(.int (cc p1)), (.int (cc p2)), (.int (cc p3)), (.int (cc p4))] (.int 0) := A82
    refine Own.astore W82 at_60 62 rfl rfl #[.val (.int p0), .val (.int p1), .val (.int p2), .val (.int p3), .val (.int p4), .val (.int 2), .val (.int (cc p1)), .val (.int (cc p2)), .val (.int (cc p3)), .val (.int (cc p4)), .val (.ref o78), .unset, .unset] rfl ?_
    refine Own.iload W82 at_62 64 rfl 2 rfl ?_
    refine Own.ifYes W82 at_64 75 (by decide) (by decide) (by decide) ?_
    refine Own.iload W82 at_75 77 rfl 2 rfl ?_
    refine Own.iconst W82 at_77 78 rfl 1 rfl ?_
    refine Own.icmpYes W82 at_78 94 (by decide) (by decide) (by decide) ?_
    refine Own.iload W82 at_94 96 rfl 2 rfl ?_
    refine Own.iconst W82 at_96 97 rfl 2 rfl ?_
    refine Own.icmpNo W82 at_97 100 (by decide) rfl ?_
    refine Own.iconst W82 at_100 101 rfl 2 rfl ?_
    refine Own.newA W82 (tw hw 0 rfl) at_101 103 rfl (by decide) 2 (by decide) (by decide) 2 6 (by decide) (by decide) (by decide) (by decide) ?_
    intro T83 h83 o83 c83 g83 W83 E83 A83 s83 k83
    have V83 : Arv G.Z h83 o83 c83 .char (2 : Int32) [.int 0, .int 0] (.int 0) := A83
    refine Own.dup W83 at_103 104 rfl rfl ?_
    refine Own.iconst W83 at_104 105 rfl 0 rfl ?_
    refine Own.iload W83 at_105 107 rfl (cc p1) rfl ?_
    have X85 : Ext h h78 := E78
    have X86 : Ext h h79 := Own.Ext.wr' X85 Q79 (Nat.le_of_eq g78.symm)
    have X87 : Ext h h80 := Own.Ext.wr' X86 Q80 (Nat.le_of_eq g78.symm)
    have X88 : Ext h h81 := Own.Ext.wr' X87 Q81 (Nat.le_of_eq g78.symm)
    have X89 : Ext h h82 := Own.Ext.wr' X88 Q82 (Nat.le_of_eq g78.symm)
    refine Own.castore W83 V83 0 (by decide) (by decide) (lb rfl) (Nat.le_trans W0.n0 (Nat.le_trans X89.1 (Nat.le_of_eq g83.symm))) (x' := (cc p1)) (Own.narCh (r16c _)) at_107 108 rfl ?_
    intro T84 h84 W84 Q84 A84 k84
    have V84 : Arv G.Z h84 o83 c83 .char (2 : Int32) [(.int (cc p1)), .int 0] (.int 0) := A84
    refine Own.dup W84 at_108 109 rfl rfl ?_
    refine Own.iconst W84 at_109 110 rfl 1 rfl ?_
    refine Own.iload W84 at_110 112 rfl (cc p2) rfl ?_
    refine Own.castore W84 V84 1 (by decide) (by decide) (lb rfl) (Nat.le_trans W0.n0 (Nat.le_trans X89.1 (Nat.le_of_eq g83.symm))) (x' := (cc p2)) (Own.narCh (r16c _)) at_112 113 rfl ?_
    intro T90 h90 W90 Q90 A90 k90
    have V90 : Arv G.Z h90 o83 c83 .char (2 : Int32) [(.int (cc p1)), (.int (cc p2))] (.int 0) := A90
    refine Own.astore W90 at_113 115 rfl rfl #[.val (.int p0), .val (.int p1), .val (.int p2), .val (.int p3), .val (.int p4), .val (.int 2), .val (.int (cc p1)), .val (.int (cc p2)), .val (.int (cc p3)), .val (.int (cc p4)), .val (.ref o78), .val (.ref o83), .unset] rfl ?_
    refine Own.goto W90 at_115 172 (by decide) (by decide) ?_
    refine Own.iload W90 at_172 174 rfl 2 rfl ?_
    refine Own.iconst W90 at_174 175 rfl 1 rfl ?_
    refine Own.icmpNo W90 at_175 178 (by decide) rfl ?_
    refine Own.aload W90 at_178 180 rfl (.ref o78) rfl rfl ?_
    refine Own.iconst W90 at_180 181 rfl 0 rfl ?_
    refine Own.iload W90 at_181 183 rfl 2 rfl ?_
    have X91 : Ext h82 h83 := E83
    have X92 : Ext h82 h84 := Own.Ext.wr' X91 Q84 (Nat.le_of_eq g83.symm)
    have X93 : Ext h82 h90 := Own.Ext.wr' X92 Q90 (Nat.le_of_eq g83.symm)
    refine Own.callS W90 (tw hw 40 rfl) (tw hw 41 rfl) (tw hw 42 rfl) (tw hw 43 rfl) (by decide) (argsL := [(.ref o78), .int 0, .int 2]) (rest := []) (Own.Con.pay (con_ok2_0 hw hEL rfl rfl W90.old (V82.ext X93)) W90 (tw hw 43 rfl) (tw hw 42 rfl) (len := 3) (wd := 0) (by decide) (by decide) (fun _ q => nomatch q)) rfl (lenOf pd_19 rfl) rfl (lb rfl) at_183 186 rfl 2 6 (lb rfl) (lb rfl) (lb rfl) (lb rfl) ?_
    intro v94 T94 h94 u94 W94 R94 hq
    obtain ⟨rfl, eh94⟩ := hq
    have ei94 := eh94.symm; subst ei94
    have sf95 := R94.safe (V82.ext X93).lt (k90 o78 (k84 o78 (k83 o78 (k82 o78 (k81 o78 (k80 o78 (k79 o78 s78)))))))
    have sf96 := R94.safe V90.lt (k90 o83 (k84 o83 s83))
    by_cases hO0 : (okB (decide ((cc p1) = 0)) (hB (cc p1)) (lB (cc p1)) (lB (cc p2)) false) = true
    · skip
      rw [b2i_t hO0]
      show Own.Go _ _ _ _ _ 186 #[.val (.int p0), .val (.int p1), .val (.int p2), .val (.int p3), .val (.int p4), .val (.int 2), .val (.int (cc p1)), .val (.int (cc p2)), .val (.int (cc p3)), .val (.int (cc p4)), .val (.ref o78), .val (.ref o83), .unset] [.int 1]
      refine Own.ifNo W94 at_186 189 (by decide) rfl ?_
      refine Own.iload W94 at_189 191 rfl 2 rfl ?_
      refine Own.iconst W94 at_191 192 rfl 2 rfl ?_
      refine Own.icmpNo W94 at_192 195 (by decide) rfl ?_
      refine Own.aload W94 at_195 197 rfl (.ref o78) rfl rfl ?_
      refine Own.iconst W94 at_197 198 rfl 1 rfl ?_
      refine Own.iload W94 at_198 200 rfl 2 rfl ?_
      refine Own.callS W94 (tw hw 40 rfl) (tw hw 41 rfl) (tw hw 42 rfl) (tw hw 43 rfl) (by decide) (argsL := [(.ref o78), .int 1, .int 2]) (rest := []) (Own.Con.pay (con_ok2_1 hw hEL rfl rfl W94.old (V82.ext X93)) W94 (tw hw 43 rfl) (tw hw 42 rfl) (len := 3) (wd := 0) (by decide) (by decide) (fun _ q => nomatch q)) rfl (lenOf pd_19 rfl) rfl (lb rfl) at_200 203 rfl 2 6 (lb rfl) (lb rfl) (lb rfl) (lb rfl) ?_
      intro v97 T97 h97 u97 W97 R97 hq
      obtain ⟨rfl, eh97⟩ := hq
      have ei97 := eh97.symm; subst ei97
      have sf98 := R97.safe (V82.ext X93).lt sf95
      have sf99 := R97.safe V90.lt sf96
      by_cases hO1 : (okB (decide ((cc p2) = 0)) (hB (cc p2)) (lB (cc p2)) false (hB (cc p1))) = true
      · skip
        rw [b2i_t hO1]
        show Own.Go _ _ _ _ _ 203 #[.val (.int p0), .val (.int p1), .val (.int p2), .val (.int p3), .val (.int p4), .val (.int 2), .val (.int (cc p1)), .val (.int (cc p2)), .val (.int (cc p3)), .val (.int (cc p4)), .val (.ref o78), .val (.ref o83), .unset] [.int 1]
        refine Own.ifNo W97 at_203 206 (by decide) rfl ?_
        refine Own.iload W97 at_206 208 rfl 2 rfl ?_
        refine Own.iconst W97 at_208 209 rfl 3 rfl ?_
        refine Own.icmpYes W97 at_209 223 (by decide) (by decide) (by decide) ?_
        refine Own.iload W97 at_223 225 rfl 2 rfl ?_
        refine Own.iconst W97 at_225 226 rfl 4 rfl ?_
        refine Own.icmpYes W97 at_226 240 (by decide) (by decide) (by decide) ?_
        refine Own.iconst W97 at_240 241 rfl 1 rfl ?_
        refine Own.goto W97 at_241 245 (by decide) (by decide) ?_
        refine Own.istore W97 at_245 247 rfl #[.val (.int p0), .val (.int p1), .val (.int p2), .val (.int p3), .val (.int p4), .val (.int 2), .val (.int (cc p1)), .val (.int (cc p2)), .val (.int (cc p3)), .val (.int (cc p4)), .val (.ref o78), .val (.ref o83), .val (.int 1)] rfl ?_
        refine Own.newO W97 (tw hw 1 rfl) (tw hw 2 rfl) (tw hw 3 rfl) at_247 250 rfl 3 10 (by decide) (by decide) (by decide) (by decide) ?_
        intro T100 h100 o100 g100 W100 E100 A100 D100 s100 k100
        have F100_value : Fld G.Z h100 o100 "java/lang/String" "value" "[B" .null := D100 (Or.inr (tw hw 16 rfl)) (ty := (.array .byte)) (by decide)
        have F100_coder : Fld G.Z h100 o100 "java/lang/String" "coder" "B" (.int 0) := D100 (Or.inr (tw hw 17 rfl)) (ty := .byte) (by decide)
        refine Own.dup W100 at_250 251 rfl rfl ?_
        refine Own.aload W100 at_251 253 rfl (.ref o83) rfl rfl ?_
        by_cases hw255 : (255 : Int32) < (cc p1) ∨ (255 : Int32) < (cc p2)
        · skip
          have X101 : Ext h h83 := Own.Ext.tr X89 E83
          have X102 : Ext h h84 := Own.Ext.wr' X101 Q84 (Nat.le_trans X89.1 (Nat.le_of_eq g83.symm))
          have X103 : Ext h h90 := Own.Ext.wr' X102 Q90 (Nat.le_trans X89.1 (Nat.le_of_eq g83.symm))
          have X104 : Ext h90 h100 := E100
          refine Own.callX W100 rfl (tw hw 4 rfl) (tw hw 5 rfl) (tw hw 6 rfl) (by decide) (argsL := [(.ref o83)]) (rest := [(.ref o100)]) (Own.Con.pay (con_w12 hw hEL hmem hS hcz TA TH TL hEN4 hw255 (r16c _) (r16c _) W100.old (Nat.le_trans W0.n0 (Nat.le_trans X103.1 (Nat.le_of_eq g100.symm))) A100 F100_value F100_coder (V90.ext X104)) W100 (tw hw 6 rfl) (tw hw 3 rfl) (len := 3) (wd := 1) (by decide) (by decide) (fun y hy => by cases List.mem_singleton.mp hy; exact ⟨A100.lt, s100⟩)) rfl (lenOf pd_17 rfl) rfl (lb rfl) at_253 256 rfl 5 16 (lb rfl) (lb rfl) (lb rfl) (lb rfl) ?_
          intro v105 T105 h105 u105 W105 R105 hq
          obtain ⟨rfl, K105, F105⟩ := hq
          have UUF105 : Own.Uni G.Z h105 o100 [(cc p1), (cc p2)] := Or.inr F105
          show Own.Go _ _ _ _ _ 256 #[.val (.int p0), .val (.int p1), .val (.int p2), .val (.int p3), .val (.int p4), .val (.int 2), .val (.int (cc p1)), .val (.int (cc p2)), .val (.int (cc p3)), .val (.int (cc p4)), .val (.ref o78), .val (.ref o83), .val (.int 1)] [(.ref o100)]
          refine Own.callS W105 (tw hw 22 rfl) (tw hw 23 rfl) (tw hw 24 rfl) (tw hw 25 rfl) (by decide) (argsL := [(.ref o100)]) (rest := []) (Own.Con.pay (con_ist2 hw hEL hmem hS hcz SF rfm TA TH TL W105.old UUF105) W105 (tw hw 25 rfl) (tw hw 24 rfl) (len := 3) (wd := 0) (by decide) (by decide) (fun _ q => nomatch q)) rfl (lenOf pd_18 rfl) rfl (lb rfl) at_256 259 rfl 5 16 (lb rfl) (lb rfl) (lb rfl) (lb rfl) ?_
          intro v106 T106 h106 u106 W106 R106 hq
          obtain ⟨rfl, eh106⟩ := hq
          have ei106 := eh106.symm; subst ei106
          have X107 : Ext h82 h100 := Own.Ext.tr X93 E100
          have X108 : Ext h82 h105 := Own.Ext.kp X107 K105 (allS (Nat.le_trans X93.1 (Nat.le_of_eq g100.symm)) all0)
          have sf109 := R106.safe (V82.ext X108).lt (R105.safe (V82.ext X107).lt (k100 o78 sf98))
          have X110 : Ext h90 h105 := Own.Ext.kp X104 K105 (allS (Nat.le_of_eq g100.symm) all0)
          have sf111 := R106.safe (V90.ext X110).lt (R105.safe (V90.ext X104).lt (k100 o83 sf99))
          have sf112 := R106.safe (A100.keep K105).lt (R105.safe A100.lt s100)
          rw [show b2i (uns [(cc p1), (cc p2)]) = (1 : Int32) from by rw [pure2 (cc p1) (cc p2), hO0, hO1]; rfl]
          show Own.Go _ _ _ _ _ 259 #[.val (.int p0), .val (.int p1), .val (.int p2), .val (.int p3), .val (.int p4), .val (.int 2), .val (.int (cc p1)), .val (.int (cc p2)), .val (.int (cc p3)), .val (.int (cc p4)), .val (.ref o78), .val (.ref o83), .val (.int 1)] [.int 1]
          refine Own.iload W106 at_259 261 rfl 1 rfl ?_
          refine Own.icmpNo W106 at_261 264 (by decide) rfl ?_
          refine Own.iconst W106 at_264 265 rfl 1 rfl ?_
          refine Own.goto W106 at_265 269 (by decide) (by decide) ?_
          exact Own.retB W106 (by decide) (by decide) rfl at_269 rfl rfl
        · skip
          have X113 : Ext h h83 := Own.Ext.tr X89 E83
          have X114 : Ext h h84 := Own.Ext.wr' X113 Q84 (Nat.le_trans X89.1 (Nat.le_of_eq g83.symm))
          have X115 : Ext h h90 := Own.Ext.wr' X114 Q90 (Nat.le_trans X89.1 (Nat.le_of_eq g83.symm))
          have X116 : Ext h90 h100 := E100
          refine Own.callX W100 rfl (tw hw 4 rfl) (tw hw 5 rfl) (tw hw 6 rfl) (by decide) (argsL := [(.ref o83)]) (rest := [(.ref o100)]) (Own.payStr (wS hw) hEL hmem W100 (cs := [(cc p1), (cc p2)]) (z := (2 : Int32)) (cz := cz) (Nat.le_trans W0.n0 (Nat.le_trans X115.1 (Nat.le_of_eq g100.symm))) s100 A100 F100_value F100_coder ((V90.ext X116)) rfl (by intro c hc; simp only [List.mem_cons, List.not_mem_nil, or_false] at hc; rcases hc with rfl | rfl; exact ⟨(r16c _).1, fun q => hw255 (Or.inl q)⟩; exact ⟨(r16c _).1, fun q => hw255 (Or.inr (q))⟩) (lb rfl) hS hcz (len := 3) (wd := 1) (by decide) (by decide)) rfl (lenOf pd_17 rfl) rfl (lb rfl) at_253 256 rfl 7 20 (lb rfl) (lb rfl) (lb rfl) (lb rfl) ?_
          intro v117 T117 h117 u117 W117 R117 hq
          obtain ⟨rfl, K117, F117⟩ := hq
          show Own.Go _ _ _ _ _ 256 #[.val (.int p0), .val (.int p1), .val (.int p2), .val (.int p3), .val (.int p4), .val (.int 2), .val (.int (cc p1)), .val (.int (cc p2)), .val (.int (cc p3)), .val (.int (cc p4)), .val (.ref o78), .val (.ref o83), .val (.int 1)] [(.ref o100)]
          have UUF117 : Own.Uni G.Z h117 o100 [(cc p1), (cc p2)] := Or.inl F117
          show Own.Go _ _ _ _ _ 256 #[.val (.int p0), .val (.int p1), .val (.int p2), .val (.int p3), .val (.int p4), .val (.int 2), .val (.int (cc p1)), .val (.int (cc p2)), .val (.int (cc p3)), .val (.int (cc p4)), .val (.ref o78), .val (.ref o83), .val (.int 1)] [(.ref o100)]
          refine Own.callS W117 (tw hw 22 rfl) (tw hw 23 rfl) (tw hw 24 rfl) (tw hw 25 rfl) (by decide) (argsL := [(.ref o100)]) (rest := []) (Own.Con.pay (con_ist2 hw hEL hmem hS hcz SF rfm TA TH TL W117.old UUF117) W117 (tw hw 25 rfl) (tw hw 24 rfl) (len := 3) (wd := 0) (by decide) (by decide) (fun _ q => nomatch q)) rfl (lenOf pd_18 rfl) rfl (lb rfl) at_256 259 rfl 7 20 (lb rfl) (lb rfl) (lb rfl) (lb rfl) ?_
          intro v118 T118 h118 u118 W118 R118 hq
          obtain ⟨rfl, eh118⟩ := hq
          have ei118 := eh118.symm; subst ei118
          have X119 : Ext h82 h100 := Own.Ext.tr X93 E100
          have X120 : Ext h82 h117 := Own.Ext.kp X119 K117 (allS (Nat.le_trans X93.1 (Nat.le_of_eq g100.symm)) all0)
          have sf121 := R118.safe (V82.ext X120).lt (R117.safe (V82.ext X119).lt (k100 o78 sf98))
          rw [show b2i (uns [(cc p1), (cc p2)]) = (1 : Int32) from by rw [pure2 (cc p1) (cc p2), hO0, hO1]; rfl]
          show Own.Go _ _ _ _ _ 259 #[.val (.int p0), .val (.int p1), .val (.int p2), .val (.int p3), .val (.int p4), .val (.int 2), .val (.int (cc p1)), .val (.int (cc p2)), .val (.int (cc p3)), .val (.int (cc p4)), .val (.ref o78), .val (.ref o83), .val (.int 1)] [.int 1]
          refine Own.iload W118 at_259 261 rfl 1 rfl ?_
          refine Own.icmpNo W118 at_261 264 (by decide) rfl ?_
          refine Own.iconst W118 at_264 265 rfl 1 rfl ?_
          refine Own.goto W118 at_265 269 (by decide) (by decide) ?_
          exact Own.retB W118 (by decide) (by decide) rfl at_269 rfl rfl
      · skip
        rw [b2i_f hO1]
        show Own.Go _ _ _ _ _ 203 #[.val (.int p0), .val (.int p1), .val (.int p2), .val (.int p3), .val (.int p4), .val (.int 2), .val (.int (cc p1)), .val (.int (cc p2)), .val (.int (cc p3)), .val (.int (cc p4)), .val (.ref o78), .val (.ref o83), .unset] [.int 0]
        refine Own.ifYes W97 at_203 244 (by decide) (by decide) (by decide) ?_
        refine Own.iconst W97 at_244 245 rfl 0 rfl ?_
        refine Own.istore W97 at_245 247 rfl #[.val (.int p0), .val (.int p1), .val (.int p2), .val (.int p3), .val (.int p4), .val (.int 2), .val (.int (cc p1)), .val (.int (cc p2)), .val (.int (cc p3)), .val (.int (cc p4)), .val (.ref o78), .val (.ref o83), .val (.int 0)] rfl ?_
        refine Own.newO W97 (tw hw 1 rfl) (tw hw 2 rfl) (tw hw 3 rfl) at_247 250 rfl 3 10 (by decide) (by decide) (by decide) (by decide) ?_
        intro T122 h122 o122 g122 W122 E122 A122 D122 s122 k122
        have F122_value : Fld G.Z h122 o122 "java/lang/String" "value" "[B" .null := D122 (Or.inr (tw hw 16 rfl)) (ty := (.array .byte)) (by decide)
        have F122_coder : Fld G.Z h122 o122 "java/lang/String" "coder" "B" (.int 0) := D122 (Or.inr (tw hw 17 rfl)) (ty := .byte) (by decide)
        refine Own.dup W122 at_250 251 rfl rfl ?_
        refine Own.aload W122 at_251 253 rfl (.ref o83) rfl rfl ?_
        by_cases hw255 : (255 : Int32) < (cc p1) ∨ (255 : Int32) < (cc p2)
        · skip
          have X123 : Ext h h83 := Own.Ext.tr X89 E83
          have X124 : Ext h h84 := Own.Ext.wr' X123 Q84 (Nat.le_trans X89.1 (Nat.le_of_eq g83.symm))
          have X125 : Ext h h90 := Own.Ext.wr' X124 Q90 (Nat.le_trans X89.1 (Nat.le_of_eq g83.symm))
          have X126 : Ext h90 h122 := E122
          refine Own.callX W122 rfl (tw hw 4 rfl) (tw hw 5 rfl) (tw hw 6 rfl) (by decide) (argsL := [(.ref o83)]) (rest := [(.ref o122)]) (Own.Con.pay (con_w12 hw hEL hmem hS hcz TA TH TL hEN4 hw255 (r16c _) (r16c _) W122.old (Nat.le_trans W0.n0 (Nat.le_trans X125.1 (Nat.le_of_eq g122.symm))) A122 F122_value F122_coder (V90.ext X126)) W122 (tw hw 6 rfl) (tw hw 3 rfl) (len := 3) (wd := 1) (by decide) (by decide) (fun y hy => by cases List.mem_singleton.mp hy; exact ⟨A122.lt, s122⟩)) rfl (lenOf pd_17 rfl) rfl (lb rfl) at_253 256 rfl 5 16 (lb rfl) (lb rfl) (lb rfl) (lb rfl) ?_
          intro v127 T127 h127 u127 W127 R127 hq
          obtain ⟨rfl, K127, F127⟩ := hq
          have UUF127 : Own.Uni G.Z h127 o122 [(cc p1), (cc p2)] := Or.inr F127
          show Own.Go _ _ _ _ _ 256 #[.val (.int p0), .val (.int p1), .val (.int p2), .val (.int p3), .val (.int p4), .val (.int 2), .val (.int (cc p1)), .val (.int (cc p2)), .val (.int (cc p3)), .val (.int (cc p4)), .val (.ref o78), .val (.ref o83), .val (.int 0)] [(.ref o122)]
          refine Own.callS W127 (tw hw 22 rfl) (tw hw 23 rfl) (tw hw 24 rfl) (tw hw 25 rfl) (by decide) (argsL := [(.ref o122)]) (rest := []) (Own.Con.pay (con_ist2 hw hEL hmem hS hcz SF rfm TA TH TL W127.old UUF127) W127 (tw hw 25 rfl) (tw hw 24 rfl) (len := 3) (wd := 0) (by decide) (by decide) (fun _ q => nomatch q)) rfl (lenOf pd_18 rfl) rfl (lb rfl) at_256 259 rfl 5 16 (lb rfl) (lb rfl) (lb rfl) (lb rfl) ?_
          intro v128 T128 h128 u128 W128 R128 hq
          obtain ⟨rfl, eh128⟩ := hq
          have ei128 := eh128.symm; subst ei128
          have X129 : Ext h82 h122 := Own.Ext.tr X93 E122
          have X130 : Ext h82 h127 := Own.Ext.kp X129 K127 (allS (Nat.le_trans X93.1 (Nat.le_of_eq g122.symm)) all0)
          have sf131 := R128.safe (V82.ext X130).lt (R127.safe (V82.ext X129).lt (k122 o78 sf98))
          have X132 : Ext h90 h127 := Own.Ext.kp X126 K127 (allS (Nat.le_of_eq g122.symm) all0)
          have sf133 := R128.safe (V90.ext X132).lt (R127.safe (V90.ext X126).lt (k122 o83 sf99))
          have sf134 := R128.safe (A122.keep K127).lt (R127.safe A122.lt s122)
          rw [show b2i (uns [(cc p1), (cc p2)]) = (0 : Int32) from by rw [pure2 (cc p1) (cc p2), hO0, eq_false_of_ne_true hO1]; simp [b2i]]
          show Own.Go _ _ _ _ _ 259 #[.val (.int p0), .val (.int p1), .val (.int p2), .val (.int p3), .val (.int p4), .val (.int 2), .val (.int (cc p1)), .val (.int (cc p2)), .val (.int (cc p3)), .val (.int (cc p4)), .val (.ref o78), .val (.ref o83), .val (.int 0)] [.int 0]
          refine Own.iload W128 at_259 261 rfl 0 rfl ?_
          refine Own.icmpNo W128 at_261 264 (by decide) rfl ?_
          refine Own.iconst W128 at_264 265 rfl 1 rfl ?_
          refine Own.goto W128 at_265 269 (by decide) (by decide) ?_
          exact Own.retB W128 (by decide) (by decide) rfl at_269 rfl rfl
        · skip
          have X135 : Ext h h83 := Own.Ext.tr X89 E83
          have X136 : Ext h h84 := Own.Ext.wr' X135 Q84 (Nat.le_trans X89.1 (Nat.le_of_eq g83.symm))
          have X137 : Ext h h90 := Own.Ext.wr' X136 Q90 (Nat.le_trans X89.1 (Nat.le_of_eq g83.symm))
          have X138 : Ext h90 h122 := E122
          refine Own.callX W122 rfl (tw hw 4 rfl) (tw hw 5 rfl) (tw hw 6 rfl) (by decide) (argsL := [(.ref o83)]) (rest := [(.ref o122)]) (Own.payStr (wS hw) hEL hmem W122 (cs := [(cc p1), (cc p2)]) (z := (2 : Int32)) (cz := cz) (Nat.le_trans W0.n0 (Nat.le_trans X137.1 (Nat.le_of_eq g122.symm))) s122 A122 F122_value F122_coder ((V90.ext X138)) rfl (by intro c hc; simp only [List.mem_cons, List.not_mem_nil, or_false] at hc; rcases hc with rfl | rfl; exact ⟨(r16c _).1, fun q => hw255 (Or.inl q)⟩; exact ⟨(r16c _).1, fun q => hw255 (Or.inr (q))⟩) (lb rfl) hS hcz (len := 3) (wd := 1) (by decide) (by decide)) rfl (lenOf pd_17 rfl) rfl (lb rfl) at_253 256 rfl 7 20 (lb rfl) (lb rfl) (lb rfl) (lb rfl) ?_
          intro v139 T139 h139 u139 W139 R139 hq
          obtain ⟨rfl, K139, F139⟩ := hq
          show Own.Go _ _ _ _ _ 256 #[.val (.int p0), .val (.int p1), .val (.int p2), .val (.int p3), .val (.int p4), .val (.int 2), .val (.int (cc p1)), .val (.int (cc p2)), .val (.int (cc p3)), .val (.int (cc p4)), .val (.ref o78), .val (.ref o83), .val (.int 0)] [(.ref o122)]
          have UUF139 : Own.Uni G.Z h139 o122 [(cc p1), (cc p2)] := Or.inl F139
          show Own.Go _ _ _ _ _ 256 #[.val (.int p0), .val (.int p1), .val (.int p2), .val (.int p3), .val (.int p4), .val (.int 2), .val (.int (cc p1)), .val (.int (cc p2)), .val (.int (cc p3)), .val (.int (cc p4)), .val (.ref o78), .val (.ref o83), .val (.int 0)] [(.ref o122)]
          refine Own.callS W139 (tw hw 22 rfl) (tw hw 23 rfl) (tw hw 24 rfl) (tw hw 25 rfl) (by decide) (argsL := [(.ref o122)]) (rest := []) (Own.Con.pay (con_ist2 hw hEL hmem hS hcz SF rfm TA TH TL W139.old UUF139) W139 (tw hw 25 rfl) (tw hw 24 rfl) (len := 3) (wd := 0) (by decide) (by decide) (fun _ q => nomatch q)) rfl (lenOf pd_18 rfl) rfl (lb rfl) at_256 259 rfl 7 20 (lb rfl) (lb rfl) (lb rfl) (lb rfl) ?_
          intro v140 T140 h140 u140 W140 R140 hq
          obtain ⟨rfl, eh140⟩ := hq
          have ei140 := eh140.symm; subst ei140
          have X141 : Ext h82 h122 := Own.Ext.tr X93 E122
          have X142 : Ext h82 h139 := Own.Ext.kp X141 K139 (allS (Nat.le_trans X93.1 (Nat.le_of_eq g122.symm)) all0)
          have sf143 := R140.safe (V82.ext X142).lt (R139.safe (V82.ext X141).lt (k122 o78 sf98))
          rw [show b2i (uns [(cc p1), (cc p2)]) = (0 : Int32) from by rw [pure2 (cc p1) (cc p2), hO0, eq_false_of_ne_true hO1]; simp [b2i]]
          show Own.Go _ _ _ _ _ 259 #[.val (.int p0), .val (.int p1), .val (.int p2), .val (.int p3), .val (.int p4), .val (.int 2), .val (.int (cc p1)), .val (.int (cc p2)), .val (.int (cc p3)), .val (.int (cc p4)), .val (.ref o78), .val (.ref o83), .val (.int 0)] [.int 0]
          refine Own.iload W140 at_259 261 rfl 0 rfl ?_
          refine Own.icmpNo W140 at_261 264 (by decide) rfl ?_
          refine Own.iconst W140 at_264 265 rfl 1 rfl ?_
          refine Own.goto W140 at_265 269 (by decide) (by decide) ?_
          exact Own.retB W140 (by decide) (by decide) rfl at_269 rfl rfl
    · skip
      rw [b2i_f hO0]
      show Own.Go _ _ _ _ _ 186 #[.val (.int p0), .val (.int p1), .val (.int p2), .val (.int p3), .val (.int p4), .val (.int 2), .val (.int (cc p1)), .val (.int (cc p2)), .val (.int (cc p3)), .val (.int (cc p4)), .val (.ref o78), .val (.ref o83), .unset] [.int 0]
      refine Own.ifYes W94 at_186 244 (by decide) (by decide) (by decide) ?_
      refine Own.iconst W94 at_244 245 rfl 0 rfl ?_
      refine Own.istore W94 at_245 247 rfl #[.val (.int p0), .val (.int p1), .val (.int p2), .val (.int p3), .val (.int p4), .val (.int 2), .val (.int (cc p1)), .val (.int (cc p2)), .val (.int (cc p3)), .val (.int (cc p4)), .val (.ref o78), .val (.ref o83), .val (.int 0)] rfl ?_
      refine Own.newO W94 (tw hw 1 rfl) (tw hw 2 rfl) (tw hw 3 rfl) at_247 250 rfl 3 10 (by decide) (by decide) (by decide) (by decide) ?_
      intro T144 h144 o144 g144 W144 E144 A144 D144 s144 k144
      have F144_value : Fld G.Z h144 o144 "java/lang/String" "value" "[B" .null := D144 (Or.inr (tw hw 16 rfl)) (ty := (.array .byte)) (by decide)
      have F144_coder : Fld G.Z h144 o144 "java/lang/String" "coder" "B" (.int 0) := D144 (Or.inr (tw hw 17 rfl)) (ty := .byte) (by decide)
      refine Own.dup W144 at_250 251 rfl rfl ?_
      refine Own.aload W144 at_251 253 rfl (.ref o83) rfl rfl ?_
      by_cases hw255 : (255 : Int32) < (cc p1) ∨ (255 : Int32) < (cc p2)
      · skip
        have X145 : Ext h h83 := Own.Ext.tr X89 E83
        have X146 : Ext h h84 := Own.Ext.wr' X145 Q84 (Nat.le_trans X89.1 (Nat.le_of_eq g83.symm))
        have X147 : Ext h h90 := Own.Ext.wr' X146 Q90 (Nat.le_trans X89.1 (Nat.le_of_eq g83.symm))
        have X148 : Ext h90 h144 := E144
        refine Own.callX W144 rfl (tw hw 4 rfl) (tw hw 5 rfl) (tw hw 6 rfl) (by decide) (argsL := [(.ref o83)]) (rest := [(.ref o144)]) (Own.Con.pay (con_w12 hw hEL hmem hS hcz TA TH TL hEN4 hw255 (r16c _) (r16c _) W144.old (Nat.le_trans W0.n0 (Nat.le_trans X147.1 (Nat.le_of_eq g144.symm))) A144 F144_value F144_coder (V90.ext X148)) W144 (tw hw 6 rfl) (tw hw 3 rfl) (len := 3) (wd := 1) (by decide) (by decide) (fun y hy => by cases List.mem_singleton.mp hy; exact ⟨A144.lt, s144⟩)) rfl (lenOf pd_17 rfl) rfl (lb rfl) at_253 256 rfl 5 16 (lb rfl) (lb rfl) (lb rfl) (lb rfl) ?_
        intro v149 T149 h149 u149 W149 R149 hq
        obtain ⟨rfl, K149, F149⟩ := hq
        have UUF149 : Own.Uni G.Z h149 o144 [(cc p1), (cc p2)] := Or.inr F149
        show Own.Go _ _ _ _ _ 256 #[.val (.int p0), .val (.int p1), .val (.int p2), .val (.int p3), .val (.int p4), .val (.int 2), .val (.int (cc p1)), .val (.int (cc p2)), .val (.int (cc p3)), .val (.int (cc p4)), .val (.ref o78), .val (.ref o83), .val (.int 0)] [(.ref o144)]
        refine Own.callS W149 (tw hw 22 rfl) (tw hw 23 rfl) (tw hw 24 rfl) (tw hw 25 rfl) (by decide) (argsL := [(.ref o144)]) (rest := []) (Own.Con.pay (con_ist2 hw hEL hmem hS hcz SF rfm TA TH TL W149.old UUF149) W149 (tw hw 25 rfl) (tw hw 24 rfl) (len := 3) (wd := 0) (by decide) (by decide) (fun _ q => nomatch q)) rfl (lenOf pd_18 rfl) rfl (lb rfl) at_256 259 rfl 5 16 (lb rfl) (lb rfl) (lb rfl) (lb rfl) ?_
        intro v150 T150 h150 u150 W150 R150 hq
        obtain ⟨rfl, eh150⟩ := hq
        have ei150 := eh150.symm; subst ei150
        have X151 : Ext h82 h144 := Own.Ext.tr X93 E144
        have X152 : Ext h82 h149 := Own.Ext.kp X151 K149 (allS (Nat.le_trans X93.1 (Nat.le_of_eq g144.symm)) all0)
        have sf153 := R150.safe (V82.ext X152).lt (R149.safe (V82.ext X151).lt (k144 o78 sf95))
        have X154 : Ext h90 h149 := Own.Ext.kp X148 K149 (allS (Nat.le_of_eq g144.symm) all0)
        have sf155 := R150.safe (V90.ext X154).lt (R149.safe (V90.ext X148).lt (k144 o83 sf96))
        have sf156 := R150.safe (A144.keep K149).lt (R149.safe A144.lt s144)
        rw [show b2i (uns [(cc p1), (cc p2)]) = (0 : Int32) from by rw [pure2 (cc p1) (cc p2), eq_false_of_ne_true hO0]; simp [b2i]]
        show Own.Go _ _ _ _ _ 259 #[.val (.int p0), .val (.int p1), .val (.int p2), .val (.int p3), .val (.int p4), .val (.int 2), .val (.int (cc p1)), .val (.int (cc p2)), .val (.int (cc p3)), .val (.int (cc p4)), .val (.ref o78), .val (.ref o83), .val (.int 0)] [.int 0]
        refine Own.iload W150 at_259 261 rfl 0 rfl ?_
        refine Own.icmpNo W150 at_261 264 (by decide) rfl ?_
        refine Own.iconst W150 at_264 265 rfl 1 rfl ?_
        refine Own.goto W150 at_265 269 (by decide) (by decide) ?_
        exact Own.retB W150 (by decide) (by decide) rfl at_269 rfl rfl
      · skip
        have X157 : Ext h h83 := Own.Ext.tr X89 E83
        have X158 : Ext h h84 := Own.Ext.wr' X157 Q84 (Nat.le_trans X89.1 (Nat.le_of_eq g83.symm))
        have X159 : Ext h h90 := Own.Ext.wr' X158 Q90 (Nat.le_trans X89.1 (Nat.le_of_eq g83.symm))
        have X160 : Ext h90 h144 := E144
        refine Own.callX W144 rfl (tw hw 4 rfl) (tw hw 5 rfl) (tw hw 6 rfl) (by decide) (argsL := [(.ref o83)]) (rest := [(.ref o144)]) (Own.payStr (wS hw) hEL hmem W144 (cs := [(cc p1), (cc p2)]) (z := (2 : Int32)) (cz := cz) (Nat.le_trans W0.n0 (Nat.le_trans X159.1 (Nat.le_of_eq g144.symm))) s144 A144 F144_value F144_coder ((V90.ext X160)) rfl (by intro c hc; simp only [List.mem_cons, List.not_mem_nil, or_false] at hc; rcases hc with rfl | rfl; exact ⟨(r16c _).1, fun q => hw255 (Or.inl q)⟩; exact ⟨(r16c _).1, fun q => hw255 (Or.inr (q))⟩) (lb rfl) hS hcz (len := 3) (wd := 1) (by decide) (by decide)) rfl (lenOf pd_17 rfl) rfl (lb rfl) at_253 256 rfl 7 20 (lb rfl) (lb rfl) (lb rfl) (lb rfl) ?_
        intro v161 T161 h161 u161 W161 R161 hq
        obtain ⟨rfl, K161, F161⟩ := hq
        show Own.Go _ _ _ _ _ 256 #[.val (.int p0), .val (.int p1), .val (.int p2), .val (.int p3), .val (.int p4), .val (.int 2), .val (.int (cc p1)), .val (.int (cc p2)), .val (.int (cc p3)), .val (.int (cc p4)), .val (.ref o78), .val (.ref o83), .val (.int 0)] [(.ref o144)]
        have UUF161 : Own.Uni G.Z h161 o144 [(cc p1), (cc p2)] := Or.inl F161
        show Own.Go _ _ _ _ _ 256 #[.val (.int p0), .val (.int p1), .val (.int p2), .val (.int p3), .val (.int p4), .val (.int 2), .val (.int (cc p1)), .val (.int (cc p2)), .val (.int (cc p3)), .val (.int (cc p4)), .val (.ref o78), .val (.ref o83), .val (.int 0)] [(.ref o144)]
        refine Own.callS W161 (tw hw 22 rfl) (tw hw 23 rfl) (tw hw 24 rfl) (tw hw 25 rfl) (by decide) (argsL := [(.ref o144)]) (rest := []) (Own.Con.pay (con_ist2 hw hEL hmem hS hcz SF rfm TA TH TL W161.old UUF161) W161 (tw hw 25 rfl) (tw hw 24 rfl) (len := 3) (wd := 0) (by decide) (by decide) (fun _ q => nomatch q)) rfl (lenOf pd_18 rfl) rfl (lb rfl) at_256 259 rfl 7 20 (lb rfl) (lb rfl) (lb rfl) (lb rfl) ?_
        intro v162 T162 h162 u162 W162 R162 hq
        obtain ⟨rfl, eh162⟩ := hq
        have ei162 := eh162.symm; subst ei162
        have X163 : Ext h82 h144 := Own.Ext.tr X93 E144
        have X164 : Ext h82 h161 := Own.Ext.kp X163 K161 (allS (Nat.le_trans X93.1 (Nat.le_of_eq g144.symm)) all0)
        have sf165 := R162.safe (V82.ext X164).lt (R161.safe (V82.ext X163).lt (k144 o78 sf95))
        rw [show b2i (uns [(cc p1), (cc p2)]) = (0 : Int32) from by rw [pure2 (cc p1) (cc p2), eq_false_of_ne_true hO0]; simp [b2i]]
        show Own.Go _ _ _ _ _ 259 #[.val (.int p0), .val (.int p1), .val (.int p2), .val (.int p3), .val (.int p4), .val (.int 2), .val (.int (cc p1)), .val (.int (cc p2)), .val (.int (cc p3)), .val (.int (cc p4)), .val (.ref o78), .val (.ref o83), .val (.int 0)] [.int 0]
        refine Own.iload W162 at_259 261 rfl 0 rfl ?_
        refine Own.icmpNo W162 at_261 264 (by decide) rfl ?_
        refine Own.iconst W162 at_264 265 rfl 1 rfl ?_
        refine Own.goto W162 at_265 269 (by decide) (by decide) ?_
        exact Own.retB W162 (by decide) (by decide) rfl at_269 rfl rfl
  · skip
    rw [en]
    show Own.Go _ _ _ _ _ 9 #[.val (.int p0), .val (.int p1), .val (.int p2), .val (.int p3), .val (.int p4), .val (.int 3), .unset, .unset, .unset, .unset, .unset, .unset, .unset] []
    refine Own.iload W0 at_9 11 rfl 3 rfl ?_
    refine Own.iconst W0 at_11 12 rfl 5 rfl ?_
    refine Own.icmpYes W0 at_12 20 (by decide) (by decide) (by decide) ?_
    refine Own.iloadN W0 at_20 21 rfl p1 rfl ?_
    refine Own.i2c W0 at_21 22 rfl ?_
    refine Own.istore W0 at_22 24 rfl #[.val (.int p0), .val (.int p1), .val (.int p2), .val (.int p3), .val (.int p4), .val (.int 3), .val (.int (cc p1)), .unset, .unset, .unset, .unset, .unset, .unset] rfl ?_
    refine Own.iloadN W0 at_24 25 rfl p2 rfl ?_
    refine Own.i2c W0 at_25 26 rfl ?_
    refine Own.istore W0 at_26 28 rfl #[.val (.int p0), .val (.int p1), .val (.int p2), .val (.int p3), .val (.int p4), .val (.int 3), .val (.int (cc p1)), .val (.int (cc p2)), .unset, .unset, .unset, .unset, .unset] rfl ?_
    refine Own.iloadN W0 at_28 29 rfl p3 rfl ?_
    refine Own.i2c W0 at_29 30 rfl ?_
    refine Own.istore W0 at_30 32 rfl #[.val (.int p0), .val (.int p1), .val (.int p2), .val (.int p3), .val (.int p4), .val (.int 3), .val (.int (cc p1)), .val (.int (cc p2)), .val (.int (cc p3)), .unset, .unset, .unset, .unset] rfl ?_
    refine Own.iload W0 at_32 34 rfl p4 rfl ?_
    refine Own.i2c W0 at_34 35 rfl ?_
    refine Own.istore W0 at_35 37 rfl #[.val (.int p0), .val (.int p1), .val (.int p2), .val (.int p3), .val (.int p4), .val (.int 3), .val (.int (cc p1)), .val (.int (cc p2)), .val (.int (cc p3)), .val (.int (cc p4)), .unset, .unset, .unset] rfl ?_
    refine Own.iconst W0 at_37 38 rfl 4 rfl ?_
    refine Own.newA W0 (tw hw 0 rfl) at_38 40 rfl (by decide) 4 (by decide) (by decide) 1 4 (by decide) (by decide) (by decide) (by decide) ?_
    intro T166 h166 o166 c166 g166 W166 E166 A166 s166 k166
    have V166 : Arv G.Z h166 o166 c166 .char (4 : Int32) [.int 0, .int 0, .int 0, .int 0] (.int 0) := A166
    refine Own.dup W166 at_40 41 rfl rfl ?_
    refine Own.iconst W166 at_41 42 rfl 0 rfl ?_
    refine Own.iload W166 at_42 44 rfl (cc p1) rfl ?_
    refine Own.castore W166 V166 0 (by decide) (by decide) (lb rfl) (Nat.le_trans W0.n0 (Nat.le_of_eq g166.symm)) (x' := (cc p1)) (Own.narCh (r16c _)) at_44 45 rfl ?_
    intro T167 h167 W167 Q167 A167 k167
    have V167 : Arv G.Z h167 o166 c166 .char (4 : Int32) [(.int (cc p1)), .int 0, .int 0, .int 0] (.int 0) := A167
    refine Own.dup W167 at_45 46 rfl rfl ?_
    refine Own.iconst W167 at_46 47 rfl 1 rfl ?_
    refine Own.iload W167 at_47 49 rfl (cc p2) rfl ?_
    refine Own.castore W167 V167 1 (by decide) (by decide) (lb rfl) (Nat.le_trans W0.n0 (Nat.le_of_eq g166.symm)) (x' := (cc p2)) (Own.narCh (r16c _)) at_49 50 rfl ?_
    intro T168 h168 W168 Q168 A168 k168
    have V168 : Arv G.Z h168 o166 c166 .char (4 : Int32) [(.int (cc p1)), (.int (cc p2)), .int 0, .int 0] (.int 0) := A168
    refine Own.dup W168 at_50 51 rfl rfl ?_
    refine Own.iconst W168 at_51 52 rfl 2 rfl ?_
    refine Own.iload W168 at_52 54 rfl (cc p3) rfl ?_
    refine Own.castore W168 V168 2 (by decide) (by decide) (lb rfl) (Nat.le_trans W0.n0 (Nat.le_of_eq g166.symm)) (x' := (cc p3)) (Own.narCh (r16c _)) at_54 55 rfl ?_
    intro T169 h169 W169 Q169 A169 k169
    have V169 : Arv G.Z h169 o166 c166 .char (4 : Int32) [(.int (cc p1)), (.int (cc p2)), (.int (cc p3)), .int 0] (.int 0) := A169
    refine Own.dup W169 at_55 56 rfl rfl ?_
    refine Own.iconst W169 at_56 57 rfl 3 rfl ?_
    refine Own.iload W169 at_57 59 rfl (cc p4) rfl ?_
    refine Own.castore W169 V169 3 (by decide) (by decide) (lb rfl) (Nat.le_trans W0.n0 (Nat.le_of_eq g166.symm)) (x' := (cc p4)) (Own.narCh (r16c _)) at_59 60 rfl ?_
    intro T170 h170 W170 Q170 A170 k170
    have V170 : Arv G.Z h170 o166 c166 .char (4 : Int32) [(.int (cc p1)), (.int (cc p2)), (.int (cc p3)), (.int (cc p4))] (.int 0) := A170
    refine Own.astore W170 at_60 62 rfl rfl #[.val (.int p0), .val (.int p1), .val (.int p2), .val (.int p3), .val (.int p4), .val (.int 3), .val (.int (cc p1)), .val (.int (cc p2)), .val (.int (cc p3)), .val (.int (cc p4)), .val (.ref o166), .unset, .unset] rfl ?_
    refine Own.iload W170 at_62 64 rfl 3 rfl ?_
    refine Own.ifYes W170 at_64 75 (by decide) (by decide) (by decide) ?_
    refine Own.iload W170 at_75 77 rfl 3 rfl ?_
    refine Own.iconst W170 at_77 78 rfl 1 rfl ?_
    refine Own.icmpYes W170 at_78 94 (by decide) (by decide) (by decide) ?_
    refine Own.iload W170 at_94 96 rfl 3 rfl ?_
    refine Own.iconst W170 at_96 97 rfl 2 rfl ?_
    refine Own.icmpYes W170 at_97 118 (by decide) (by decide) (by decide) ?_
    refine Own.iload W170 at_118 120 rfl 3 rfl ?_
    refine Own.iconst W170 at_120 121 rfl 3 rfl ?_
    refine Own.icmpNo W170 at_121 124 (by decide) rfl ?_
    refine Own.iconst W170 at_124 125 rfl 3 rfl ?_
    refine Own.newA W170 (tw hw 0 rfl) at_125 127 rfl (by decide) 3 (by decide) (by decide) 2 7 (by decide) (by decide) (by decide) (by decide) ?_
    intro T171 h171 o171 c171 g171 W171 E171 A171 s171 k171
    have V171 : Arv G.Z h171 o171 c171 .char (3 : Int32) [.int 0, .int 0, .int 0] (.int 0) := A171
    refine Own.dup W171 at_127 128 rfl rfl ?_
    refine Own.iconst W171 at_128 129 rfl 0 rfl ?_
    refine Own.iload W171 at_129 131 rfl (cc p1) rfl ?_
    have X173 : Ext h h166 := E166
    have X174 : Ext h h167 := Own.Ext.wr' X173 Q167 (Nat.le_of_eq g166.symm)
    have X175 : Ext h h168 := Own.Ext.wr' X174 Q168 (Nat.le_of_eq g166.symm)
    have X176 : Ext h h169 := Own.Ext.wr' X175 Q169 (Nat.le_of_eq g166.symm)
    have X177 : Ext h h170 := Own.Ext.wr' X176 Q170 (Nat.le_of_eq g166.symm)
    refine Own.castore W171 V171 0 (by decide) (by decide) (lb rfl) (Nat.le_trans W0.n0 (Nat.le_trans X177.1 (Nat.le_of_eq g171.symm))) (x' := (cc p1)) (Own.narCh (r16c _)) at_131 132 rfl ?_
    intro T172 h172 W172 Q172 A172 k172
    have V172 : Arv G.Z h172 o171 c171 .char (3 : Int32) [(.int (cc p1)), .int 0, .int 0] (.int 0) := A172
    refine Own.dup W172 at_132 133 rfl rfl ?_
    refine Own.iconst W172 at_133 134 rfl 1 rfl ?_
    refine Own.iload W172 at_134 136 rfl (cc p2) rfl ?_
    refine Own.castore W172 V172 1 (by decide) (by decide) (lb rfl) (Nat.le_trans W0.n0 (Nat.le_trans X177.1 (Nat.le_of_eq g171.symm))) (x' := (cc p2)) (Own.narCh (r16c _)) at_136 137 rfl ?_
    intro T178 h178 W178 Q178 A178 k178
    have V178 : Arv G.Z h178 o171 c171 .char (3 : Int32) [(.int (cc p1)), (.int (cc p2)), .int 0] (.int 0) := A178
    refine Own.dup W178 at_137 138 rfl rfl ?_
    refine Own.iconst W178 at_138 139 rfl 2 rfl ?_
    refine Own.iload W178 at_139 141 rfl (cc p3) rfl ?_
    refine Own.castore W178 V178 2 (by decide) (by decide) (lb rfl) (Nat.le_trans W0.n0 (Nat.le_trans X177.1 (Nat.le_of_eq g171.symm))) (x' := (cc p3)) (Own.narCh (r16c _)) at_141 142 rfl ?_
    intro T179 h179 W179 Q179 A179 k179
    have V179 : Arv G.Z h179 o171 c171 .char (3 : Int32) [(.int (cc p1)), (.int (cc p2)), (.int (cc p3))] (.int 0) := A179
    refine Own.astore W179 at_142 144 rfl rfl #[.val (.int p0), .val (.int p1), .val (.int p2), .val (.int p3), .val (.int p4), .val (.int 3), .val (.int (cc p1)), .val (.int (cc p2)), .val (.int (cc p3)), .val (.int (cc p4)), .val (.ref o166), .val (.ref o171), .unset] rfl ?_
    refine Own.goto W179 at_144 172 (by decide) (by decide) ?_
    refine Own.iload W179 at_172 174 rfl 3 rfl ?_
    refine Own.iconst W179 at_174 175 rfl 1 rfl ?_
    refine Own.icmpNo W179 at_175 178 (by decide) rfl ?_
    refine Own.aload W179 at_178 180 rfl (.ref o166) rfl rfl ?_
    refine Own.iconst W179 at_180 181 rfl 0 rfl ?_
    refine Own.iload W179 at_181 183 rfl 3 rfl ?_
    have X180 : Ext h170 h171 := E171
    have X181 : Ext h170 h172 := Own.Ext.wr' X180 Q172 (Nat.le_of_eq g171.symm)
    have X182 : Ext h170 h178 := Own.Ext.wr' X181 Q178 (Nat.le_of_eq g171.symm)
    have X183 : Ext h170 h179 := Own.Ext.wr' X182 Q179 (Nat.le_of_eq g171.symm)
    refine Own.callS W179 (tw hw 40 rfl) (tw hw 41 rfl) (tw hw 42 rfl) (tw hw 43 rfl) (by decide) (argsL := [(.ref o166), .int 0, .int 3]) (rest := []) (Own.Con.pay (con_ok3_0 hw hEL rfl rfl W179.old (V170.ext X183)) W179 (tw hw 43 rfl) (tw hw 42 rfl) (len := 3) (wd := 0) (by decide) (by decide) (fun _ q => nomatch q)) rfl (lenOf pd_19 rfl) rfl (lb rfl) at_183 186 rfl 2 7 (lb rfl) (lb rfl) (lb rfl) (lb rfl) ?_
    intro v184 T184 h184 u184 W184 R184 hq
    obtain ⟨rfl, eh184⟩ := hq
    have ei184 := eh184.symm; subst ei184
    have sf185 := R184.safe (V170.ext X183).lt (k179 o166 (k178 o166 (k172 o166 (k171 o166 (k170 o166 (k169 o166 (k168 o166 (k167 o166 s166))))))))
    have sf186 := R184.safe V179.lt (k179 o171 (k178 o171 (k172 o171 s171)))
    by_cases hO0 : (okB (decide ((cc p1) = 0)) (hB (cc p1)) (lB (cc p1)) (lB (cc p2)) false) = true
    · skip
      rw [b2i_t hO0]
      show Own.Go _ _ _ _ _ 186 #[.val (.int p0), .val (.int p1), .val (.int p2), .val (.int p3), .val (.int p4), .val (.int 3), .val (.int (cc p1)), .val (.int (cc p2)), .val (.int (cc p3)), .val (.int (cc p4)), .val (.ref o166), .val (.ref o171), .unset] [.int 1]
      refine Own.ifNo W184 at_186 189 (by decide) rfl ?_
      refine Own.iload W184 at_189 191 rfl 3 rfl ?_
      refine Own.iconst W184 at_191 192 rfl 2 rfl ?_
      refine Own.icmpNo W184 at_192 195 (by decide) rfl ?_
      refine Own.aload W184 at_195 197 rfl (.ref o166) rfl rfl ?_
      refine Own.iconst W184 at_197 198 rfl 1 rfl ?_
      refine Own.iload W184 at_198 200 rfl 3 rfl ?_
      refine Own.callS W184 (tw hw 40 rfl) (tw hw 41 rfl) (tw hw 42 rfl) (tw hw 43 rfl) (by decide) (argsL := [(.ref o166), .int 1, .int 3]) (rest := []) (Own.Con.pay (con_ok3_1 hw hEL rfl rfl W184.old (V170.ext X183)) W184 (tw hw 43 rfl) (tw hw 42 rfl) (len := 3) (wd := 0) (by decide) (by decide) (fun _ q => nomatch q)) rfl (lenOf pd_19 rfl) rfl (lb rfl) at_200 203 rfl 2 7 (lb rfl) (lb rfl) (lb rfl) (lb rfl) ?_
      intro v187 T187 h187 u187 W187 R187 hq
      obtain ⟨rfl, eh187⟩ := hq
      have ei187 := eh187.symm; subst ei187
      have sf188 := R187.safe (V170.ext X183).lt sf185
      have sf189 := R187.safe V179.lt sf186
      by_cases hO1 : (okB (decide ((cc p2) = 0)) (hB (cc p2)) (lB (cc p2)) (lB (cc p3)) (hB (cc p1))) = true
      · skip
        rw [b2i_t hO1]
        show Own.Go _ _ _ _ _ 203 #[.val (.int p0), .val (.int p1), .val (.int p2), .val (.int p3), .val (.int p4), .val (.int 3), .val (.int (cc p1)), .val (.int (cc p2)), .val (.int (cc p3)), .val (.int (cc p4)), .val (.ref o166), .val (.ref o171), .unset] [.int 1]
        refine Own.ifNo W187 at_203 206 (by decide) rfl ?_
        refine Own.iload W187 at_206 208 rfl 3 rfl ?_
        refine Own.iconst W187 at_208 209 rfl 3 rfl ?_
        refine Own.icmpNo W187 at_209 212 (by decide) rfl ?_
        refine Own.aload W187 at_212 214 rfl (.ref o166) rfl rfl ?_
        refine Own.iconst W187 at_214 215 rfl 2 rfl ?_
        refine Own.iload W187 at_215 217 rfl 3 rfl ?_
        refine Own.callS W187 (tw hw 40 rfl) (tw hw 41 rfl) (tw hw 42 rfl) (tw hw 43 rfl) (by decide) (argsL := [(.ref o166), .int 2, .int 3]) (rest := []) (Own.Con.pay (con_ok3_2 hw hEL rfl rfl W187.old (V170.ext X183)) W187 (tw hw 43 rfl) (tw hw 42 rfl) (len := 3) (wd := 0) (by decide) (by decide) (fun _ q => nomatch q)) rfl (lenOf pd_19 rfl) rfl (lb rfl) at_217 220 rfl 2 7 (lb rfl) (lb rfl) (lb rfl) (lb rfl) ?_
        intro v190 T190 h190 u190 W190 R190 hq
        obtain ⟨rfl, eh190⟩ := hq
        have ei190 := eh190.symm; subst ei190
        have sf191 := R190.safe (V170.ext X183).lt sf188
        have sf192 := R190.safe V179.lt sf189
        by_cases hO2 : (okB (decide ((cc p3) = 0)) (hB (cc p3)) (lB (cc p3)) false (hB (cc p2))) = true
        · skip
          rw [b2i_t hO2]
          show Own.Go _ _ _ _ _ 220 #[.val (.int p0), .val (.int p1), .val (.int p2), .val (.int p3), .val (.int p4), .val (.int 3), .val (.int (cc p1)), .val (.int (cc p2)), .val (.int (cc p3)), .val (.int (cc p4)), .val (.ref o166), .val (.ref o171), .unset] [.int 1]
          refine Own.ifNo W190 at_220 223 (by decide) rfl ?_
          refine Own.iload W190 at_223 225 rfl 3 rfl ?_
          refine Own.iconst W190 at_225 226 rfl 4 rfl ?_
          refine Own.icmpYes W190 at_226 240 (by decide) (by decide) (by decide) ?_
          refine Own.iconst W190 at_240 241 rfl 1 rfl ?_
          refine Own.goto W190 at_241 245 (by decide) (by decide) ?_
          refine Own.istore W190 at_245 247 rfl #[.val (.int p0), .val (.int p1), .val (.int p2), .val (.int p3), .val (.int p4), .val (.int 3), .val (.int (cc p1)), .val (.int (cc p2)), .val (.int (cc p3)), .val (.int (cc p4)), .val (.ref o166), .val (.ref o171), .val (.int 1)] rfl ?_
          refine Own.newO W190 (tw hw 1 rfl) (tw hw 2 rfl) (tw hw 3 rfl) at_247 250 rfl 3 11 (by decide) (by decide) (by decide) (by decide) ?_
          intro T193 h193 o193 g193 W193 E193 A193 D193 s193 k193
          have F193_value : Fld G.Z h193 o193 "java/lang/String" "value" "[B" .null := D193 (Or.inr (tw hw 16 rfl)) (ty := (.array .byte)) (by decide)
          have F193_coder : Fld G.Z h193 o193 "java/lang/String" "coder" "B" (.int 0) := D193 (Or.inr (tw hw 17 rfl)) (ty := .byte) (by decide)
          refine Own.dup W193 at_250 251 rfl rfl ?_
          refine Own.aload W193 at_251 253 rfl (.ref o171) rfl rfl ?_
          by_cases hw255 : (255 : Int32) < (cc p1) ∨ (255 : Int32) < (cc p2) ∨ (255 : Int32) < (cc p3)
          · skip
            have X194 : Ext h h171 := Own.Ext.tr X177 E171
            have X195 : Ext h h172 := Own.Ext.wr' X194 Q172 (Nat.le_trans X177.1 (Nat.le_of_eq g171.symm))
            have X196 : Ext h h178 := Own.Ext.wr' X195 Q178 (Nat.le_trans X177.1 (Nat.le_of_eq g171.symm))
            have X197 : Ext h h179 := Own.Ext.wr' X196 Q179 (Nat.le_trans X177.1 (Nat.le_of_eq g171.symm))
            have X198 : Ext h179 h193 := E193
            refine Own.callX W193 rfl (tw hw 4 rfl) (tw hw 5 rfl) (tw hw 6 rfl) (by decide) (argsL := [(.ref o171)]) (rest := [(.ref o193)]) (Own.Con.pay (con_w13 hw hEL hmem hS hcz TA TH TL hEN6 hw255 (r16c _) (r16c _) (r16c _) W193.old (Nat.le_trans W0.n0 (Nat.le_trans X197.1 (Nat.le_of_eq g193.symm))) A193 F193_value F193_coder (V179.ext X198)) W193 (tw hw 6 rfl) (tw hw 3 rfl) (len := 3) (wd := 1) (by decide) (by decide) (fun y hy => by cases List.mem_singleton.mp hy; exact ⟨A193.lt, s193⟩)) rfl (lenOf pd_17 rfl) rfl (lb rfl) at_253 256 rfl 5 20 (lb rfl) (lb rfl) (lb rfl) (lb rfl) ?_
            intro v199 T199 h199 u199 W199 R199 hq
            obtain ⟨rfl, K199, F199⟩ := hq
            have UUF199 : Own.Uni G.Z h199 o193 [(cc p1), (cc p2), (cc p3)] := Or.inr F199
            show Own.Go _ _ _ _ _ 256 #[.val (.int p0), .val (.int p1), .val (.int p2), .val (.int p3), .val (.int p4), .val (.int 3), .val (.int (cc p1)), .val (.int (cc p2)), .val (.int (cc p3)), .val (.int (cc p4)), .val (.ref o166), .val (.ref o171), .val (.int 1)] [(.ref o193)]
            refine Own.callS W199 (tw hw 22 rfl) (tw hw 23 rfl) (tw hw 24 rfl) (tw hw 25 rfl) (by decide) (argsL := [(.ref o193)]) (rest := []) (Own.Con.pay (con_ist3 hw hEL hmem hS hcz SF rfm TA TH TL W199.old UUF199) W199 (tw hw 25 rfl) (tw hw 24 rfl) (len := 3) (wd := 0) (by decide) (by decide) (fun _ q => nomatch q)) rfl (lenOf pd_18 rfl) rfl (lb rfl) at_256 259 rfl 5 20 (lb rfl) (lb rfl) (lb rfl) (lb rfl) ?_
            intro v200 T200 h200 u200 W200 R200 hq
            obtain ⟨rfl, eh200⟩ := hq
            have ei200 := eh200.symm; subst ei200
            have X201 : Ext h170 h193 := Own.Ext.tr X183 E193
            have X202 : Ext h170 h199 := Own.Ext.kp X201 K199 (allS (Nat.le_trans X183.1 (Nat.le_of_eq g193.symm)) all0)
            have sf203 := R200.safe (V170.ext X202).lt (R199.safe (V170.ext X201).lt (k193 o166 sf191))
            have X204 : Ext h179 h199 := Own.Ext.kp X198 K199 (allS (Nat.le_of_eq g193.symm) all0)
            have sf205 := R200.safe (V179.ext X204).lt (R199.safe (V179.ext X198).lt (k193 o171 sf192))
            have sf206 := R200.safe (A193.keep K199).lt (R199.safe A193.lt s193)
            rw [show b2i (uns [(cc p1), (cc p2), (cc p3)]) = (1 : Int32) from by rw [pure3 (cc p1) (cc p2) (cc p3), hO0, hO1, hO2]; rfl]
            show Own.Go _ _ _ _ _ 259 #[.val (.int p0), .val (.int p1), .val (.int p2), .val (.int p3), .val (.int p4), .val (.int 3), .val (.int (cc p1)), .val (.int (cc p2)), .val (.int (cc p3)), .val (.int (cc p4)), .val (.ref o166), .val (.ref o171), .val (.int 1)] [.int 1]
            refine Own.iload W200 at_259 261 rfl 1 rfl ?_
            refine Own.icmpNo W200 at_261 264 (by decide) rfl ?_
            refine Own.iconst W200 at_264 265 rfl 1 rfl ?_
            refine Own.goto W200 at_265 269 (by decide) (by decide) ?_
            exact Own.retB W200 (by decide) (by decide) rfl at_269 rfl rfl
          · skip
            have X207 : Ext h h171 := Own.Ext.tr X177 E171
            have X208 : Ext h h172 := Own.Ext.wr' X207 Q172 (Nat.le_trans X177.1 (Nat.le_of_eq g171.symm))
            have X209 : Ext h h178 := Own.Ext.wr' X208 Q178 (Nat.le_trans X177.1 (Nat.le_of_eq g171.symm))
            have X210 : Ext h h179 := Own.Ext.wr' X209 Q179 (Nat.le_trans X177.1 (Nat.le_of_eq g171.symm))
            have X211 : Ext h179 h193 := E193
            refine Own.callX W193 rfl (tw hw 4 rfl) (tw hw 5 rfl) (tw hw 6 rfl) (by decide) (argsL := [(.ref o171)]) (rest := [(.ref o193)]) (Own.payStr (wS hw) hEL hmem W193 (cs := [(cc p1), (cc p2), (cc p3)]) (z := (3 : Int32)) (cz := cz) (Nat.le_trans W0.n0 (Nat.le_trans X210.1 (Nat.le_of_eq g193.symm))) s193 A193 F193_value F193_coder ((V179.ext X211)) rfl (by intro c hc; simp only [List.mem_cons, List.not_mem_nil, or_false] at hc; rcases hc with rfl | rfl | rfl; exact ⟨(r16c _).1, fun q => hw255 (Or.inl q)⟩; exact ⟨(r16c _).1, fun q => hw255 (Or.inr (Or.inl q))⟩; exact ⟨(r16c _).1, fun q => hw255 (Or.inr (Or.inr (q)))⟩) (lb rfl) hS hcz (len := 3) (wd := 1) (by decide) (by decide)) rfl (lenOf pd_17 rfl) rfl (lb rfl) at_253 256 rfl 7 22 (lb rfl) (lb rfl) (lb rfl) (lb rfl) ?_
            intro v212 T212 h212 u212 W212 R212 hq
            obtain ⟨rfl, K212, F212⟩ := hq
            show Own.Go _ _ _ _ _ 256 #[.val (.int p0), .val (.int p1), .val (.int p2), .val (.int p3), .val (.int p4), .val (.int 3), .val (.int (cc p1)), .val (.int (cc p2)), .val (.int (cc p3)), .val (.int (cc p4)), .val (.ref o166), .val (.ref o171), .val (.int 1)] [(.ref o193)]
            have UUF212 : Own.Uni G.Z h212 o193 [(cc p1), (cc p2), (cc p3)] := Or.inl F212
            show Own.Go _ _ _ _ _ 256 #[.val (.int p0), .val (.int p1), .val (.int p2), .val (.int p3), .val (.int p4), .val (.int 3), .val (.int (cc p1)), .val (.int (cc p2)), .val (.int (cc p3)), .val (.int (cc p4)), .val (.ref o166), .val (.ref o171), .val (.int 1)] [(.ref o193)]
            refine Own.callS W212 (tw hw 22 rfl) (tw hw 23 rfl) (tw hw 24 rfl) (tw hw 25 rfl) (by decide) (argsL := [(.ref o193)]) (rest := []) (Own.Con.pay (con_ist3 hw hEL hmem hS hcz SF rfm TA TH TL W212.old UUF212) W212 (tw hw 25 rfl) (tw hw 24 rfl) (len := 3) (wd := 0) (by decide) (by decide) (fun _ q => nomatch q)) rfl (lenOf pd_18 rfl) rfl (lb rfl) at_256 259 rfl 7 22 (lb rfl) (lb rfl) (lb rfl) (lb rfl) ?_
            intro v213 T213 h213 u213 W213 R213 hq
            obtain ⟨rfl, eh213⟩ := hq
            have ei213 := eh213.symm; subst ei213
            have X214 : Ext h170 h193 := Own.Ext.tr X183 E193
            have X215 : Ext h170 h212 := Own.Ext.kp X214 K212 (allS (Nat.le_trans X183.1 (Nat.le_of_eq g193.symm)) all0)
            have sf216 := R213.safe (V170.ext X215).lt (R212.safe (V170.ext X214).lt (k193 o166 sf191))
            rw [show b2i (uns [(cc p1), (cc p2), (cc p3)]) = (1 : Int32) from by rw [pure3 (cc p1) (cc p2) (cc p3), hO0, hO1, hO2]; rfl]
            show Own.Go _ _ _ _ _ 259 #[.val (.int p0), .val (.int p1), .val (.int p2), .val (.int p3), .val (.int p4), .val (.int 3), .val (.int (cc p1)), .val (.int (cc p2)), .val (.int (cc p3)), .val (.int (cc p4)), .val (.ref o166), .val (.ref o171), .val (.int 1)] [.int 1]
            refine Own.iload W213 at_259 261 rfl 1 rfl ?_
            refine Own.icmpNo W213 at_261 264 (by decide) rfl ?_
            refine Own.iconst W213 at_264 265 rfl 1 rfl ?_
            refine Own.goto W213 at_265 269 (by decide) (by decide) ?_
            exact Own.retB W213 (by decide) (by decide) rfl at_269 rfl rfl
        · skip
          rw [b2i_f hO2]
          show Own.Go _ _ _ _ _ 220 #[.val (.int p0), .val (.int p1), .val (.int p2), .val (.int p3), .val (.int p4), .val (.int 3), .val (.int (cc p1)), .val (.int (cc p2)), .val (.int (cc p3)), .val (.int (cc p4)), .val (.ref o166), .val (.ref o171), .unset] [.int 0]
          refine Own.ifYes W190 at_220 244 (by decide) (by decide) (by decide) ?_
          refine Own.iconst W190 at_244 245 rfl 0 rfl ?_
          refine Own.istore W190 at_245 247 rfl #[.val (.int p0), .val (.int p1), .val (.int p2), .val (.int p3), .val (.int p4), .val (.int 3), .val (.int (cc p1)), .val (.int (cc p2)), .val (.int (cc p3)), .val (.int (cc p4)), .val (.ref o166), .val (.ref o171), .val (.int 0)] rfl ?_
          refine Own.newO W190 (tw hw 1 rfl) (tw hw 2 rfl) (tw hw 3 rfl) at_247 250 rfl 3 11 (by decide) (by decide) (by decide) (by decide) ?_
          intro T217 h217 o217 g217 W217 E217 A217 D217 s217 k217
          have F217_value : Fld G.Z h217 o217 "java/lang/String" "value" "[B" .null := D217 (Or.inr (tw hw 16 rfl)) (ty := (.array .byte)) (by decide)
          have F217_coder : Fld G.Z h217 o217 "java/lang/String" "coder" "B" (.int 0) := D217 (Or.inr (tw hw 17 rfl)) (ty := .byte) (by decide)
          refine Own.dup W217 at_250 251 rfl rfl ?_
          refine Own.aload W217 at_251 253 rfl (.ref o171) rfl rfl ?_
          by_cases hw255 : (255 : Int32) < (cc p1) ∨ (255 : Int32) < (cc p2) ∨ (255 : Int32) < (cc p3)
          · skip
            have X218 : Ext h h171 := Own.Ext.tr X177 E171
            have X219 : Ext h h172 := Own.Ext.wr' X218 Q172 (Nat.le_trans X177.1 (Nat.le_of_eq g171.symm))
            have X220 : Ext h h178 := Own.Ext.wr' X219 Q178 (Nat.le_trans X177.1 (Nat.le_of_eq g171.symm))
            have X221 : Ext h h179 := Own.Ext.wr' X220 Q179 (Nat.le_trans X177.1 (Nat.le_of_eq g171.symm))
            have X222 : Ext h179 h217 := E217
            refine Own.callX W217 rfl (tw hw 4 rfl) (tw hw 5 rfl) (tw hw 6 rfl) (by decide) (argsL := [(.ref o171)]) (rest := [(.ref o217)]) (Own.Con.pay (con_w13 hw hEL hmem hS hcz TA TH TL hEN6 hw255 (r16c _) (r16c _) (r16c _) W217.old (Nat.le_trans W0.n0 (Nat.le_trans X221.1 (Nat.le_of_eq g217.symm))) A217 F217_value F217_coder (V179.ext X222)) W217 (tw hw 6 rfl) (tw hw 3 rfl) (len := 3) (wd := 1) (by decide) (by decide) (fun y hy => by cases List.mem_singleton.mp hy; exact ⟨A217.lt, s217⟩)) rfl (lenOf pd_17 rfl) rfl (lb rfl) at_253 256 rfl 5 20 (lb rfl) (lb rfl) (lb rfl) (lb rfl) ?_
            intro v223 T223 h223 u223 W223 R223 hq
            obtain ⟨rfl, K223, F223⟩ := hq
            have UUF223 : Own.Uni G.Z h223 o217 [(cc p1), (cc p2), (cc p3)] := Or.inr F223
            show Own.Go _ _ _ _ _ 256 #[.val (.int p0), .val (.int p1), .val (.int p2), .val (.int p3), .val (.int p4), .val (.int 3), .val (.int (cc p1)), .val (.int (cc p2)), .val (.int (cc p3)), .val (.int (cc p4)), .val (.ref o166), .val (.ref o171), .val (.int 0)] [(.ref o217)]
            refine Own.callS W223 (tw hw 22 rfl) (tw hw 23 rfl) (tw hw 24 rfl) (tw hw 25 rfl) (by decide) (argsL := [(.ref o217)]) (rest := []) (Own.Con.pay (con_ist3 hw hEL hmem hS hcz SF rfm TA TH TL W223.old UUF223) W223 (tw hw 25 rfl) (tw hw 24 rfl) (len := 3) (wd := 0) (by decide) (by decide) (fun _ q => nomatch q)) rfl (lenOf pd_18 rfl) rfl (lb rfl) at_256 259 rfl 5 20 (lb rfl) (lb rfl) (lb rfl) (lb rfl) ?_
            intro v224 T224 h224 u224 W224 R224 hq
            obtain ⟨rfl, eh224⟩ := hq
            have ei224 := eh224.symm; subst ei224
            have X225 : Ext h170 h217 := Own.Ext.tr X183 E217
            have X226 : Ext h170 h223 := Own.Ext.kp X225 K223 (allS (Nat.le_trans X183.1 (Nat.le_of_eq g217.symm)) all0)
            have sf227 := R224.safe (V170.ext X226).lt (R223.safe (V170.ext X225).lt (k217 o166 sf191))
            have X228 : Ext h179 h223 := Own.Ext.kp X222 K223 (allS (Nat.le_of_eq g217.symm) all0)
            have sf229 := R224.safe (V179.ext X228).lt (R223.safe (V179.ext X222).lt (k217 o171 sf192))
            have sf230 := R224.safe (A217.keep K223).lt (R223.safe A217.lt s217)
            rw [show b2i (uns [(cc p1), (cc p2), (cc p3)]) = (0 : Int32) from by rw [pure3 (cc p1) (cc p2) (cc p3), hO0, hO1, eq_false_of_ne_true hO2]; simp [b2i]]
            show Own.Go _ _ _ _ _ 259 #[.val (.int p0), .val (.int p1), .val (.int p2), .val (.int p3), .val (.int p4), .val (.int 3), .val (.int (cc p1)), .val (.int (cc p2)), .val (.int (cc p3)), .val (.int (cc p4)), .val (.ref o166), .val (.ref o171), .val (.int 0)] [.int 0]
            refine Own.iload W224 at_259 261 rfl 0 rfl ?_
            refine Own.icmpNo W224 at_261 264 (by decide) rfl ?_
            refine Own.iconst W224 at_264 265 rfl 1 rfl ?_
            refine Own.goto W224 at_265 269 (by decide) (by decide) ?_
            exact Own.retB W224 (by decide) (by decide) rfl at_269 rfl rfl
          · skip
            have X231 : Ext h h171 := Own.Ext.tr X177 E171
            have X232 : Ext h h172 := Own.Ext.wr' X231 Q172 (Nat.le_trans X177.1 (Nat.le_of_eq g171.symm))
            have X233 : Ext h h178 := Own.Ext.wr' X232 Q178 (Nat.le_trans X177.1 (Nat.le_of_eq g171.symm))
            have X234 : Ext h h179 := Own.Ext.wr' X233 Q179 (Nat.le_trans X177.1 (Nat.le_of_eq g171.symm))
            have X235 : Ext h179 h217 := E217
            refine Own.callX W217 rfl (tw hw 4 rfl) (tw hw 5 rfl) (tw hw 6 rfl) (by decide) (argsL := [(.ref o171)]) (rest := [(.ref o217)]) (Own.payStr (wS hw) hEL hmem W217 (cs := [(cc p1), (cc p2), (cc p3)]) (z := (3 : Int32)) (cz := cz) (Nat.le_trans W0.n0 (Nat.le_trans X234.1 (Nat.le_of_eq g217.symm))) s217 A217 F217_value F217_coder ((V179.ext X235)) rfl (by intro c hc; simp only [List.mem_cons, List.not_mem_nil, or_false] at hc; rcases hc with rfl | rfl | rfl; exact ⟨(r16c _).1, fun q => hw255 (Or.inl q)⟩; exact ⟨(r16c _).1, fun q => hw255 (Or.inr (Or.inl q))⟩; exact ⟨(r16c _).1, fun q => hw255 (Or.inr (Or.inr (q)))⟩) (lb rfl) hS hcz (len := 3) (wd := 1) (by decide) (by decide)) rfl (lenOf pd_17 rfl) rfl (lb rfl) at_253 256 rfl 7 22 (lb rfl) (lb rfl) (lb rfl) (lb rfl) ?_
            intro v236 T236 h236 u236 W236 R236 hq
            obtain ⟨rfl, K236, F236⟩ := hq
            show Own.Go _ _ _ _ _ 256 #[.val (.int p0), .val (.int p1), .val (.int p2), .val (.int p3), .val (.int p4), .val (.int 3), .val (.int (cc p1)), .val (.int (cc p2)), .val (.int (cc p3)), .val (.int (cc p4)), .val (.ref o166), .val (.ref o171), .val (.int 0)] [(.ref o217)]
            have UUF236 : Own.Uni G.Z h236 o217 [(cc p1), (cc p2), (cc p3)] := Or.inl F236
            show Own.Go _ _ _ _ _ 256 #[.val (.int p0), .val (.int p1), .val (.int p2), .val (.int p3), .val (.int p4), .val (.int 3), .val (.int (cc p1)), .val (.int (cc p2)), .val (.int (cc p3)), .val (.int (cc p4)), .val (.ref o166), .val (.ref o171), .val (.int 0)] [(.ref o217)]
            refine Own.callS W236 (tw hw 22 rfl) (tw hw 23 rfl) (tw hw 24 rfl) (tw hw 25 rfl) (by decide) (argsL := [(.ref o217)]) (rest := []) (Own.Con.pay (con_ist3 hw hEL hmem hS hcz SF rfm TA TH TL W236.old UUF236) W236 (tw hw 25 rfl) (tw hw 24 rfl) (len := 3) (wd := 0) (by decide) (by decide) (fun _ q => nomatch q)) rfl (lenOf pd_18 rfl) rfl (lb rfl) at_256 259 rfl 7 22 (lb rfl) (lb rfl) (lb rfl) (lb rfl) ?_
            intro v237 T237 h237 u237 W237 R237 hq
            obtain ⟨rfl, eh237⟩ := hq
            have ei237 := eh237.symm; subst ei237
            have X238 : Ext h170 h217 := Own.Ext.tr X183 E217
            have X239 : Ext h170 h236 := Own.Ext.kp X238 K236 (allS (Nat.le_trans X183.1 (Nat.le_of_eq g217.symm)) all0)
            have sf240 := R237.safe (V170.ext X239).lt (R236.safe (V170.ext X238).lt (k217 o166 sf191))
            rw [show b2i (uns [(cc p1), (cc p2), (cc p3)]) = (0 : Int32) from by rw [pure3 (cc p1) (cc p2) (cc p3), hO0, hO1, eq_false_of_ne_true hO2]; simp [b2i]]
            show Own.Go _ _ _ _ _ 259 #[.val (.int p0), .val (.int p1), .val (.int p2), .val (.int p3), .val (.int p4), .val (.int 3), .val (.int (cc p1)), .val (.int (cc p2)), .val (.int (cc p3)), .val (.int (cc p4)), .val (.ref o166), .val (.ref o171), .val (.int 0)] [.int 0]
            refine Own.iload W237 at_259 261 rfl 0 rfl ?_
            refine Own.icmpNo W237 at_261 264 (by decide) rfl ?_
            refine Own.iconst W237 at_264 265 rfl 1 rfl ?_
            refine Own.goto W237 at_265 269 (by decide) (by decide) ?_
            exact Own.retB W237 (by decide) (by decide) rfl at_269 rfl rfl
      · skip
        rw [b2i_f hO1]
        show Own.Go _ _ _ _ _ 203 #[.val (.int p0), .val (.int p1), .val (.int p2), .val (.int p3), .val (.int p4), .val (.int 3), .val (.int (cc p1)), .val (.int (cc p2)), .val (.int (cc p3)), .val (.int (cc p4)), .val (.ref o166), .val (.ref o171), .unset] [.int 0]
        refine Own.ifYes W187 at_203 244 (by decide) (by decide) (by decide) ?_
        refine Own.iconst W187 at_244 245 rfl 0 rfl ?_
        refine Own.istore W187 at_245 247 rfl #[.val (.int p0), .val (.int p1), .val (.int p2), .val (.int p3), .val (.int p4), .val (.int 3), .val (.int (cc p1)), .val (.int (cc p2)), .val (.int (cc p3)), .val (.int (cc p4)), .val (.ref o166), .val (.ref o171), .val (.int 0)] rfl ?_
        refine Own.newO W187 (tw hw 1 rfl) (tw hw 2 rfl) (tw hw 3 rfl) at_247 250 rfl 3 11 (by decide) (by decide) (by decide) (by decide) ?_
        intro T241 h241 o241 g241 W241 E241 A241 D241 s241 k241
        have F241_value : Fld G.Z h241 o241 "java/lang/String" "value" "[B" .null := D241 (Or.inr (tw hw 16 rfl)) (ty := (.array .byte)) (by decide)
        have F241_coder : Fld G.Z h241 o241 "java/lang/String" "coder" "B" (.int 0) := D241 (Or.inr (tw hw 17 rfl)) (ty := .byte) (by decide)
        refine Own.dup W241 at_250 251 rfl rfl ?_
        refine Own.aload W241 at_251 253 rfl (.ref o171) rfl rfl ?_
        by_cases hw255 : (255 : Int32) < (cc p1) ∨ (255 : Int32) < (cc p2) ∨ (255 : Int32) < (cc p3)
        · skip
          have X242 : Ext h h171 := Own.Ext.tr X177 E171
          have X243 : Ext h h172 := Own.Ext.wr' X242 Q172 (Nat.le_trans X177.1 (Nat.le_of_eq g171.symm))
          have X244 : Ext h h178 := Own.Ext.wr' X243 Q178 (Nat.le_trans X177.1 (Nat.le_of_eq g171.symm))
          have X245 : Ext h h179 := Own.Ext.wr' X244 Q179 (Nat.le_trans X177.1 (Nat.le_of_eq g171.symm))
          have X246 : Ext h179 h241 := E241
          refine Own.callX W241 rfl (tw hw 4 rfl) (tw hw 5 rfl) (tw hw 6 rfl) (by decide) (argsL := [(.ref o171)]) (rest := [(.ref o241)]) (Own.Con.pay (con_w13 hw hEL hmem hS hcz TA TH TL hEN6 hw255 (r16c _) (r16c _) (r16c _) W241.old (Nat.le_trans W0.n0 (Nat.le_trans X245.1 (Nat.le_of_eq g241.symm))) A241 F241_value F241_coder (V179.ext X246)) W241 (tw hw 6 rfl) (tw hw 3 rfl) (len := 3) (wd := 1) (by decide) (by decide) (fun y hy => by cases List.mem_singleton.mp hy; exact ⟨A241.lt, s241⟩)) rfl (lenOf pd_17 rfl) rfl (lb rfl) at_253 256 rfl 5 20 (lb rfl) (lb rfl) (lb rfl) (lb rfl) ?_
          intro v247 T247 h247 u247 W247 R247 hq
          obtain ⟨rfl, K247, F247⟩ := hq
          have UUF247 : Own.Uni G.Z h247 o241 [(cc p1), (cc p2), (cc p3)] := Or.inr F247
          show Own.Go _ _ _ _ _ 256 #[.val (.int p0), .val (.int p1), .val (.int p2), .val (.int p3), .val (.int p4), .val (.int 3), .val (.int (cc p1)), .val (.int (cc p2)), .val (.int (cc p3)), .val (.int (cc p4)), .val (.ref o166), .val (.ref o171), .val (.int 0)] [(.ref o241)]
          refine Own.callS W247 (tw hw 22 rfl) (tw hw 23 rfl) (tw hw 24 rfl) (tw hw 25 rfl) (by decide) (argsL := [(.ref o241)]) (rest := []) (Own.Con.pay (con_ist3 hw hEL hmem hS hcz SF rfm TA TH TL W247.old UUF247) W247 (tw hw 25 rfl) (tw hw 24 rfl) (len := 3) (wd := 0) (by decide) (by decide) (fun _ q => nomatch q)) rfl (lenOf pd_18 rfl) rfl (lb rfl) at_256 259 rfl 5 20 (lb rfl) (lb rfl) (lb rfl) (lb rfl) ?_
          intro v248 T248 h248 u248 W248 R248 hq
          obtain ⟨rfl, eh248⟩ := hq
          have ei248 := eh248.symm; subst ei248
          have X249 : Ext h170 h241 := Own.Ext.tr X183 E241
          have X250 : Ext h170 h247 := Own.Ext.kp X249 K247 (allS (Nat.le_trans X183.1 (Nat.le_of_eq g241.symm)) all0)
          have sf251 := R248.safe (V170.ext X250).lt (R247.safe (V170.ext X249).lt (k241 o166 sf188))
          have X252 : Ext h179 h247 := Own.Ext.kp X246 K247 (allS (Nat.le_of_eq g241.symm) all0)
          have sf253 := R248.safe (V179.ext X252).lt (R247.safe (V179.ext X246).lt (k241 o171 sf189))
          have sf254 := R248.safe (A241.keep K247).lt (R247.safe A241.lt s241)
          rw [show b2i (uns [(cc p1), (cc p2), (cc p3)]) = (0 : Int32) from by rw [pure3 (cc p1) (cc p2) (cc p3), hO0, eq_false_of_ne_true hO1]; simp [b2i]]
          show Own.Go _ _ _ _ _ 259 #[.val (.int p0), .val (.int p1), .val (.int p2), .val (.int p3), .val (.int p4), .val (.int 3), .val (.int (cc p1)), .val (.int (cc p2)), .val (.int (cc p3)), .val (.int (cc p4)), .val (.ref o166), .val (.ref o171), .val (.int 0)] [.int 0]
          refine Own.iload W248 at_259 261 rfl 0 rfl ?_
          refine Own.icmpNo W248 at_261 264 (by decide) rfl ?_
          refine Own.iconst W248 at_264 265 rfl 1 rfl ?_
          refine Own.goto W248 at_265 269 (by decide) (by decide) ?_
          exact Own.retB W248 (by decide) (by decide) rfl at_269 rfl rfl
        · skip
          have X255 : Ext h h171 := Own.Ext.tr X177 E171
          have X256 : Ext h h172 := Own.Ext.wr' X255 Q172 (Nat.le_trans X177.1 (Nat.le_of_eq g171.symm))
          have X257 : Ext h h178 := Own.Ext.wr' X256 Q178 (Nat.le_trans X177.1 (Nat.le_of_eq g171.symm))
          have X258 : Ext h h179 := Own.Ext.wr' X257 Q179 (Nat.le_trans X177.1 (Nat.le_of_eq g171.symm))
          have X259 : Ext h179 h241 := E241
          refine Own.callX W241 rfl (tw hw 4 rfl) (tw hw 5 rfl) (tw hw 6 rfl) (by decide) (argsL := [(.ref o171)]) (rest := [(.ref o241)]) (Own.payStr (wS hw) hEL hmem W241 (cs := [(cc p1), (cc p2), (cc p3)]) (z := (3 : Int32)) (cz := cz) (Nat.le_trans W0.n0 (Nat.le_trans X258.1 (Nat.le_of_eq g241.symm))) s241 A241 F241_value F241_coder ((V179.ext X259)) rfl (by intro c hc; simp only [List.mem_cons, List.not_mem_nil, or_false] at hc; rcases hc with rfl | rfl | rfl; exact ⟨(r16c _).1, fun q => hw255 (Or.inl q)⟩; exact ⟨(r16c _).1, fun q => hw255 (Or.inr (Or.inl q))⟩; exact ⟨(r16c _).1, fun q => hw255 (Or.inr (Or.inr (q)))⟩) (lb rfl) hS hcz (len := 3) (wd := 1) (by decide) (by decide)) rfl (lenOf pd_17 rfl) rfl (lb rfl) at_253 256 rfl 7 22 (lb rfl) (lb rfl) (lb rfl) (lb rfl) ?_
          intro v260 T260 h260 u260 W260 R260 hq
          obtain ⟨rfl, K260, F260⟩ := hq
          show Own.Go _ _ _ _ _ 256 #[.val (.int p0), .val (.int p1), .val (.int p2), .val (.int p3), .val (.int p4), .val (.int 3), .val (.int (cc p1)), .val (.int (cc p2)), .val (.int (cc p3)), .val (.int (cc p4)), .val (.ref o166), .val (.ref o171), .val (.int 0)] [(.ref o241)]
          have UUF260 : Own.Uni G.Z h260 o241 [(cc p1), (cc p2), (cc p3)] := Or.inl F260
          show Own.Go _ _ _ _ _ 256 #[.val (.int p0), .val (.int p1), .val (.int p2), .val (.int p3), .val (.int p4), .val (.int 3), .val (.int (cc p1)), .val (.int (cc p2)), .val (.int (cc p3)), .val (.int (cc p4)), .val (.ref o166), .val (.ref o171), .val (.int 0)] [(.ref o241)]
          refine Own.callS W260 (tw hw 22 rfl) (tw hw 23 rfl) (tw hw 24 rfl) (tw hw 25 rfl) (by decide) (argsL := [(.ref o241)]) (rest := []) (Own.Con.pay (con_ist3 hw hEL hmem hS hcz SF rfm TA TH TL W260.old UUF260) W260 (tw hw 25 rfl) (tw hw 24 rfl) (len := 3) (wd := 0) (by decide) (by decide) (fun _ q => nomatch q)) rfl (lenOf pd_18 rfl) rfl (lb rfl) at_256 259 rfl 7 22 (lb rfl) (lb rfl) (lb rfl) (lb rfl) ?_
          intro v261 T261 h261 u261 W261 R261 hq
          obtain ⟨rfl, eh261⟩ := hq
          have ei261 := eh261.symm; subst ei261
          have X262 : Ext h170 h241 := Own.Ext.tr X183 E241
          have X263 : Ext h170 h260 := Own.Ext.kp X262 K260 (allS (Nat.le_trans X183.1 (Nat.le_of_eq g241.symm)) all0)
          have sf264 := R261.safe (V170.ext X263).lt (R260.safe (V170.ext X262).lt (k241 o166 sf188))
          rw [show b2i (uns [(cc p1), (cc p2), (cc p3)]) = (0 : Int32) from by rw [pure3 (cc p1) (cc p2) (cc p3), hO0, eq_false_of_ne_true hO1]; simp [b2i]]
          show Own.Go _ _ _ _ _ 259 #[.val (.int p0), .val (.int p1), .val (.int p2), .val (.int p3), .val (.int p4), .val (.int 3), .val (.int (cc p1)), .val (.int (cc p2)), .val (.int (cc p3)), .val (.int (cc p4)), .val (.ref o166), .val (.ref o171), .val (.int 0)] [.int 0]
          refine Own.iload W261 at_259 261 rfl 0 rfl ?_
          refine Own.icmpNo W261 at_261 264 (by decide) rfl ?_
          refine Own.iconst W261 at_264 265 rfl 1 rfl ?_
          refine Own.goto W261 at_265 269 (by decide) (by decide) ?_
          exact Own.retB W261 (by decide) (by decide) rfl at_269 rfl rfl
    · skip
      rw [b2i_f hO0]
      show Own.Go _ _ _ _ _ 186 #[.val (.int p0), .val (.int p1), .val (.int p2), .val (.int p3), .val (.int p4), .val (.int 3), .val (.int (cc p1)), .val (.int (cc p2)), .val (.int (cc p3)), .val (.int (cc p4)), .val (.ref o166), .val (.ref o171), .unset] [.int 0]
      refine Own.ifYes W184 at_186 244 (by decide) (by decide) (by decide) ?_
      refine Own.iconst W184 at_244 245 rfl 0 rfl ?_
      refine Own.istore W184 at_245 247 rfl #[.val (.int p0), .val (.int p1), .val (.int p2), .val (.int p3), .val (.int p4), .val (.int 3), .val (.int (cc p1)), .val (.int (cc p2)), .val (.int (cc p3)), .val (.int (cc p4)), .val (.ref o166), .val (.ref o171), .val (.int 0)] rfl ?_
      refine Own.newO W184 (tw hw 1 rfl) (tw hw 2 rfl) (tw hw 3 rfl) at_247 250 rfl 3 11 (by decide) (by decide) (by decide) (by decide) ?_
      intro T265 h265 o265 g265 W265 E265 A265 D265 s265 k265
      have F265_value : Fld G.Z h265 o265 "java/lang/String" "value" "[B" .null := D265 (Or.inr (tw hw 16 rfl)) (ty := (.array .byte)) (by decide)
      have F265_coder : Fld G.Z h265 o265 "java/lang/String" "coder" "B" (.int 0) := D265 (Or.inr (tw hw 17 rfl)) (ty := .byte) (by decide)
      refine Own.dup W265 at_250 251 rfl rfl ?_
      refine Own.aload W265 at_251 253 rfl (.ref o171) rfl rfl ?_
      by_cases hw255 : (255 : Int32) < (cc p1) ∨ (255 : Int32) < (cc p2) ∨ (255 : Int32) < (cc p3)
      · skip
        have X266 : Ext h h171 := Own.Ext.tr X177 E171
        have X267 : Ext h h172 := Own.Ext.wr' X266 Q172 (Nat.le_trans X177.1 (Nat.le_of_eq g171.symm))
        have X268 : Ext h h178 := Own.Ext.wr' X267 Q178 (Nat.le_trans X177.1 (Nat.le_of_eq g171.symm))
        have X269 : Ext h h179 := Own.Ext.wr' X268 Q179 (Nat.le_trans X177.1 (Nat.le_of_eq g171.symm))
        have X270 : Ext h179 h265 := E265
        refine Own.callX W265 rfl (tw hw 4 rfl) (tw hw 5 rfl) (tw hw 6 rfl) (by decide) (argsL := [(.ref o171)]) (rest := [(.ref o265)]) (Own.Con.pay (con_w13 hw hEL hmem hS hcz TA TH TL hEN6 hw255 (r16c _) (r16c _) (r16c _) W265.old (Nat.le_trans W0.n0 (Nat.le_trans X269.1 (Nat.le_of_eq g265.symm))) A265 F265_value F265_coder (V179.ext X270)) W265 (tw hw 6 rfl) (tw hw 3 rfl) (len := 3) (wd := 1) (by decide) (by decide) (fun y hy => by cases List.mem_singleton.mp hy; exact ⟨A265.lt, s265⟩)) rfl (lenOf pd_17 rfl) rfl (lb rfl) at_253 256 rfl 5 20 (lb rfl) (lb rfl) (lb rfl) (lb rfl) ?_
        intro v271 T271 h271 u271 W271 R271 hq
        obtain ⟨rfl, K271, F271⟩ := hq
        have UUF271 : Own.Uni G.Z h271 o265 [(cc p1), (cc p2), (cc p3)] := Or.inr F271
        show Own.Go _ _ _ _ _ 256 #[.val (.int p0), .val (.int p1), .val (.int p2), .val (.int p3), .val (.int p4), .val (.int 3), .val (.int (cc p1)), .val (.int (cc p2)), .val (.int (cc p3)), .val (.int (cc p4)), .val (.ref o166), .val (.ref o171), .val (.int 0)] [(.ref o265)]
        refine Own.callS W271 (tw hw 22 rfl) (tw hw 23 rfl) (tw hw 24 rfl) (tw hw 25 rfl) (by decide) (argsL := [(.ref o265)]) (rest := []) (Own.Con.pay (con_ist3 hw hEL hmem hS hcz SF rfm TA TH TL W271.old UUF271) W271 (tw hw 25 rfl) (tw hw 24 rfl) (len := 3) (wd := 0) (by decide) (by decide) (fun _ q => nomatch q)) rfl (lenOf pd_18 rfl) rfl (lb rfl) at_256 259 rfl 5 20 (lb rfl) (lb rfl) (lb rfl) (lb rfl) ?_
        intro v272 T272 h272 u272 W272 R272 hq
        obtain ⟨rfl, eh272⟩ := hq
        have ei272 := eh272.symm; subst ei272
        have X273 : Ext h170 h265 := Own.Ext.tr X183 E265
        have X274 : Ext h170 h271 := Own.Ext.kp X273 K271 (allS (Nat.le_trans X183.1 (Nat.le_of_eq g265.symm)) all0)
        have sf275 := R272.safe (V170.ext X274).lt (R271.safe (V170.ext X273).lt (k265 o166 sf185))
        have X276 : Ext h179 h271 := Own.Ext.kp X270 K271 (allS (Nat.le_of_eq g265.symm) all0)
        have sf277 := R272.safe (V179.ext X276).lt (R271.safe (V179.ext X270).lt (k265 o171 sf186))
        have sf278 := R272.safe (A265.keep K271).lt (R271.safe A265.lt s265)
        rw [show b2i (uns [(cc p1), (cc p2), (cc p3)]) = (0 : Int32) from by rw [pure3 (cc p1) (cc p2) (cc p3), eq_false_of_ne_true hO0]; simp [b2i]]
        show Own.Go _ _ _ _ _ 259 #[.val (.int p0), .val (.int p1), .val (.int p2), .val (.int p3), .val (.int p4), .val (.int 3), .val (.int (cc p1)), .val (.int (cc p2)), .val (.int (cc p3)), .val (.int (cc p4)), .val (.ref o166), .val (.ref o171), .val (.int 0)] [.int 0]
        refine Own.iload W272 at_259 261 rfl 0 rfl ?_
        refine Own.icmpNo W272 at_261 264 (by decide) rfl ?_
        refine Own.iconst W272 at_264 265 rfl 1 rfl ?_
        refine Own.goto W272 at_265 269 (by decide) (by decide) ?_
        exact Own.retB W272 (by decide) (by decide) rfl at_269 rfl rfl
      · skip
        have X279 : Ext h h171 := Own.Ext.tr X177 E171
        have X280 : Ext h h172 := Own.Ext.wr' X279 Q172 (Nat.le_trans X177.1 (Nat.le_of_eq g171.symm))
        have X281 : Ext h h178 := Own.Ext.wr' X280 Q178 (Nat.le_trans X177.1 (Nat.le_of_eq g171.symm))
        have X282 : Ext h h179 := Own.Ext.wr' X281 Q179 (Nat.le_trans X177.1 (Nat.le_of_eq g171.symm))
        have X283 : Ext h179 h265 := E265
        refine Own.callX W265 rfl (tw hw 4 rfl) (tw hw 5 rfl) (tw hw 6 rfl) (by decide) (argsL := [(.ref o171)]) (rest := [(.ref o265)]) (Own.payStr (wS hw) hEL hmem W265 (cs := [(cc p1), (cc p2), (cc p3)]) (z := (3 : Int32)) (cz := cz) (Nat.le_trans W0.n0 (Nat.le_trans X282.1 (Nat.le_of_eq g265.symm))) s265 A265 F265_value F265_coder ((V179.ext X283)) rfl (by intro c hc; simp only [List.mem_cons, List.not_mem_nil, or_false] at hc; rcases hc with rfl | rfl | rfl; exact ⟨(r16c _).1, fun q => hw255 (Or.inl q)⟩; exact ⟨(r16c _).1, fun q => hw255 (Or.inr (Or.inl q))⟩; exact ⟨(r16c _).1, fun q => hw255 (Or.inr (Or.inr (q)))⟩) (lb rfl) hS hcz (len := 3) (wd := 1) (by decide) (by decide)) rfl (lenOf pd_17 rfl) rfl (lb rfl) at_253 256 rfl 7 22 (lb rfl) (lb rfl) (lb rfl) (lb rfl) ?_
        intro v284 T284 h284 u284 W284 R284 hq
        obtain ⟨rfl, K284, F284⟩ := hq
        show Own.Go _ _ _ _ _ 256 #[.val (.int p0), .val (.int p1), .val (.int p2), .val (.int p3), .val (.int p4), .val (.int 3), .val (.int (cc p1)), .val (.int (cc p2)), .val (.int (cc p3)), .val (.int (cc p4)), .val (.ref o166), .val (.ref o171), .val (.int 0)] [(.ref o265)]
        have UUF284 : Own.Uni G.Z h284 o265 [(cc p1), (cc p2), (cc p3)] := Or.inl F284
        show Own.Go _ _ _ _ _ 256 #[.val (.int p0), .val (.int p1), .val (.int p2), .val (.int p3), .val (.int p4), .val (.int 3), .val (.int (cc p1)), .val (.int (cc p2)), .val (.int (cc p3)), .val (.int (cc p4)), .val (.ref o166), .val (.ref o171), .val (.int 0)] [(.ref o265)]
        refine Own.callS W284 (tw hw 22 rfl) (tw hw 23 rfl) (tw hw 24 rfl) (tw hw 25 rfl) (by decide) (argsL := [(.ref o265)]) (rest := []) (Own.Con.pay (con_ist3 hw hEL hmem hS hcz SF rfm TA TH TL W284.old UUF284) W284 (tw hw 25 rfl) (tw hw 24 rfl) (len := 3) (wd := 0) (by decide) (by decide) (fun _ q => nomatch q)) rfl (lenOf pd_18 rfl) rfl (lb rfl) at_256 259 rfl 7 22 (lb rfl) (lb rfl) (lb rfl) (lb rfl) ?_
        intro v285 T285 h285 u285 W285 R285 hq
        obtain ⟨rfl, eh285⟩ := hq
        have ei285 := eh285.symm; subst ei285
        have X286 : Ext h170 h265 := Own.Ext.tr X183 E265
        have X287 : Ext h170 h284 := Own.Ext.kp X286 K284 (allS (Nat.le_trans X183.1 (Nat.le_of_eq g265.symm)) all0)
        have sf288 := R285.safe (V170.ext X287).lt (R284.safe (V170.ext X286).lt (k265 o166 sf185))
        rw [show b2i (uns [(cc p1), (cc p2), (cc p3)]) = (0 : Int32) from by rw [pure3 (cc p1) (cc p2) (cc p3), eq_false_of_ne_true hO0]; simp [b2i]]
        show Own.Go _ _ _ _ _ 259 #[.val (.int p0), .val (.int p1), .val (.int p2), .val (.int p3), .val (.int p4), .val (.int 3), .val (.int (cc p1)), .val (.int (cc p2)), .val (.int (cc p3)), .val (.int (cc p4)), .val (.ref o166), .val (.ref o171), .val (.int 0)] [.int 0]
        refine Own.iload W285 at_259 261 rfl 0 rfl ?_
        refine Own.icmpNo W285 at_261 264 (by decide) rfl ?_
        refine Own.iconst W285 at_264 265 rfl 1 rfl ?_
        refine Own.goto W285 at_265 269 (by decide) (by decide) ?_
        exact Own.retB W285 (by decide) (by decide) rfl at_269 rfl rfl
  · skip
    rw [en]
    show Own.Go _ _ _ _ _ 9 #[.val (.int p0), .val (.int p1), .val (.int p2), .val (.int p3), .val (.int p4), .val (.int 4), .unset, .unset, .unset, .unset, .unset, .unset, .unset] []
    refine Own.iload W0 at_9 11 rfl 4 rfl ?_
    refine Own.iconst W0 at_11 12 rfl 5 rfl ?_
    refine Own.icmpYes W0 at_12 20 (by decide) (by decide) (by decide) ?_
    refine Own.iloadN W0 at_20 21 rfl p1 rfl ?_
    refine Own.i2c W0 at_21 22 rfl ?_
    refine Own.istore W0 at_22 24 rfl #[.val (.int p0), .val (.int p1), .val (.int p2), .val (.int p3), .val (.int p4), .val (.int 4), .val (.int (cc p1)), .unset, .unset, .unset, .unset, .unset, .unset] rfl ?_
    refine Own.iloadN W0 at_24 25 rfl p2 rfl ?_
    refine Own.i2c W0 at_25 26 rfl ?_
    refine Own.istore W0 at_26 28 rfl #[.val (.int p0), .val (.int p1), .val (.int p2), .val (.int p3), .val (.int p4), .val (.int 4), .val (.int (cc p1)), .val (.int (cc p2)), .unset, .unset, .unset, .unset, .unset] rfl ?_
    refine Own.iloadN W0 at_28 29 rfl p3 rfl ?_
    refine Own.i2c W0 at_29 30 rfl ?_
    refine Own.istore W0 at_30 32 rfl #[.val (.int p0), .val (.int p1), .val (.int p2), .val (.int p3), .val (.int p4), .val (.int 4), .val (.int (cc p1)), .val (.int (cc p2)), .val (.int (cc p3)), .unset, .unset, .unset, .unset] rfl ?_
    refine Own.iload W0 at_32 34 rfl p4 rfl ?_
    refine Own.i2c W0 at_34 35 rfl ?_
    refine Own.istore W0 at_35 37 rfl #[.val (.int p0), .val (.int p1), .val (.int p2), .val (.int p3), .val (.int p4), .val (.int 4), .val (.int (cc p1)), .val (.int (cc p2)), .val (.int (cc p3)), .val (.int (cc p4)), .unset, .unset, .unset] rfl ?_
    refine Own.iconst W0 at_37 38 rfl 4 rfl ?_
    refine Own.newA W0 (tw hw 0 rfl) at_38 40 rfl (by decide) 4 (by decide) (by decide) 1 4 (by decide) (by decide) (by decide) (by decide) ?_
    intro T289 h289 o289 c289 g289 W289 E289 A289 s289 k289
    have V289 : Arv G.Z h289 o289 c289 .char (4 : Int32) [.int 0, .int 0, .int 0, .int 0] (.int 0) := A289
    refine Own.dup W289 at_40 41 rfl rfl ?_
    refine Own.iconst W289 at_41 42 rfl 0 rfl ?_
    refine Own.iload W289 at_42 44 rfl (cc p1) rfl ?_
    refine Own.castore W289 V289 0 (by decide) (by decide) (lb rfl) (Nat.le_trans W0.n0 (Nat.le_of_eq g289.symm)) (x' := (cc p1)) (Own.narCh (r16c _)) at_44 45 rfl ?_
    intro T290 h290 W290 Q290 A290 k290
    have V290 : Arv G.Z h290 o289 c289 .char (4 : Int32) [(.int (cc p1)), .int 0, .int 0, .int 0] (.int 0) := A290
    refine Own.dup W290 at_45 46 rfl rfl ?_
    refine Own.iconst W290 at_46 47 rfl 1 rfl ?_
    refine Own.iload W290 at_47 49 rfl (cc p2) rfl ?_
    refine Own.castore W290 V290 1 (by decide) (by decide) (lb rfl) (Nat.le_trans W0.n0 (Nat.le_of_eq g289.symm)) (x' := (cc p2)) (Own.narCh (r16c _)) at_49 50 rfl ?_
    intro T291 h291 W291 Q291 A291 k291
    have V291 : Arv G.Z h291 o289 c289 .char (4 : Int32) [(.int (cc p1)), (.int (cc p2)), .int 0, .int 0] (.int 0) := A291
    refine Own.dup W291 at_50 51 rfl rfl ?_
    refine Own.iconst W291 at_51 52 rfl 2 rfl ?_
    refine Own.iload W291 at_52 54 rfl (cc p3) rfl ?_
    refine Own.castore W291 V291 2 (by decide) (by decide) (lb rfl) (Nat.le_trans W0.n0 (Nat.le_of_eq g289.symm)) (x' := (cc p3)) (Own.narCh (r16c _)) at_54 55 rfl ?_
    intro T292 h292 W292 Q292 A292 k292
    have V292 : Arv G.Z h292 o289 c289 .char (4 : Int32) [(.int (cc p1)), (.int (cc p2)), (.int (cc p3)), .int 0] (.int 0) := A292
    refine Own.dup W292 at_55 56 rfl rfl ?_
    refine Own.iconst W292 at_56 57 rfl 3 rfl ?_
    refine Own.iload W292 at_57 59 rfl (cc p4) rfl ?_
    refine Own.castore W292 V292 3 (by decide) (by decide) (lb rfl) (Nat.le_trans W0.n0 (Nat.le_of_eq g289.symm)) (x' := (cc p4)) (Own.narCh (r16c _)) at_59 60 rfl ?_
    intro T293 h293 W293 Q293 A293 k293
    have V293 : Arv G.Z h293 o289 c289 .char (4 : Int32) [(.int (cc p1)), (.int (cc p2)), (.int (cc p3)), (.int (cc p4))] (.int 0) := A293
    refine Own.astore W293 at_60 62 rfl rfl #[.val (.int p0), .val (.int p1), .val (.int p2), .val (.int p3), .val (.int p4), .val (.int 4), .val (.int (cc p1)), .val (.int (cc p2)), .val (.int (cc p3)), .val (.int (cc p4)), .val (.ref o289), .unset, .unset] rfl ?_
    refine Own.iload W293 at_62 64 rfl 4 rfl ?_
    refine Own.ifYes W293 at_64 75 (by decide) (by decide) (by decide) ?_
    refine Own.iload W293 at_75 77 rfl 4 rfl ?_
    refine Own.iconst W293 at_77 78 rfl 1 rfl ?_
    refine Own.icmpYes W293 at_78 94 (by decide) (by decide) (by decide) ?_
    refine Own.iload W293 at_94 96 rfl 4 rfl ?_
    refine Own.iconst W293 at_96 97 rfl 2 rfl ?_
    refine Own.icmpYes W293 at_97 118 (by decide) (by decide) (by decide) ?_
    refine Own.iload W293 at_118 120 rfl 4 rfl ?_
    refine Own.iconst W293 at_120 121 rfl 3 rfl ?_
    refine Own.icmpYes W293 at_121 147 (by decide) (by decide) (by decide) ?_
    refine Own.iconst W293 at_147 148 rfl 4 rfl ?_
    refine Own.newA W293 (tw hw 0 rfl) at_148 150 rfl (by decide) 4 (by decide) (by decide) 2 8 (by decide) (by decide) (by decide) (by decide) ?_
    intro T294 h294 o294 c294 g294 W294 E294 A294 s294 k294
    have V294 : Arv G.Z h294 o294 c294 .char (4 : Int32) [.int 0, .int 0, .int 0, .int 0] (.int 0) := A294
    refine Own.dup W294 at_150 151 rfl rfl ?_
    refine Own.iconst W294 at_151 152 rfl 0 rfl ?_
    refine Own.iload W294 at_152 154 rfl (cc p1) rfl ?_
    have X296 : Ext h h289 := E289
    have X297 : Ext h h290 := Own.Ext.wr' X296 Q290 (Nat.le_of_eq g289.symm)
    have X298 : Ext h h291 := Own.Ext.wr' X297 Q291 (Nat.le_of_eq g289.symm)
    have X299 : Ext h h292 := Own.Ext.wr' X298 Q292 (Nat.le_of_eq g289.symm)
    have X300 : Ext h h293 := Own.Ext.wr' X299 Q293 (Nat.le_of_eq g289.symm)
    refine Own.castore W294 V294 0 (by decide) (by decide) (lb rfl) (Nat.le_trans W0.n0 (Nat.le_trans X300.1 (Nat.le_of_eq g294.symm))) (x' := (cc p1)) (Own.narCh (r16c _)) at_154 155 rfl ?_
    intro T295 h295 W295 Q295 A295 k295
    have V295 : Arv G.Z h295 o294 c294 .char (4 : Int32) [(.int (cc p1)), .int 0, .int 0, .int 0] (.int 0) := A295
    refine Own.dup W295 at_155 156 rfl rfl ?_
    refine Own.iconst W295 at_156 157 rfl 1 rfl ?_
    refine Own.iload W295 at_157 159 rfl (cc p2) rfl ?_
    refine Own.castore W295 V295 1 (by decide) (by decide) (lb rfl) (Nat.le_trans W0.n0 (Nat.le_trans X300.1 (Nat.le_of_eq g294.symm))) (x' := (cc p2)) (Own.narCh (r16c _)) at_159 160 rfl ?_
    intro T301 h301 W301 Q301 A301 k301
    have V301 : Arv G.Z h301 o294 c294 .char (4 : Int32) [(.int (cc p1)), (.int (cc p2)), .int 0, .int 0] (.int 0) := A301
    refine Own.dup W301 at_160 161 rfl rfl ?_
    refine Own.iconst W301 at_161 162 rfl 2 rfl ?_
    refine Own.iload W301 at_162 164 rfl (cc p3) rfl ?_
    refine Own.castore W301 V301 2 (by decide) (by decide) (lb rfl) (Nat.le_trans W0.n0 (Nat.le_trans X300.1 (Nat.le_of_eq g294.symm))) (x' := (cc p3)) (Own.narCh (r16c _)) at_164 165 rfl ?_
    intro T302 h302 W302 Q302 A302 k302
    have V302 : Arv G.Z h302 o294 c294 .char (4 : Int32) [(.int (cc p1)), (.int (cc p2)), (.int (cc p3)), .int 0] (.int 0) := A302
    refine Own.dup W302 at_165 166 rfl rfl ?_
    refine Own.iconst W302 at_166 167 rfl 3 rfl ?_
    refine Own.iload W302 at_167 169 rfl (cc p4) rfl ?_
    refine Own.castore W302 V302 3 (by decide) (by decide) (lb rfl) (Nat.le_trans W0.n0 (Nat.le_trans X300.1 (Nat.le_of_eq g294.symm))) (x' := (cc p4)) (Own.narCh (r16c _)) at_169 170 rfl ?_
    intro T303 h303 W303 Q303 A303 k303
    have V303 : Arv G.Z h303 o294 c294 .char (4 : Int32) [(.int (cc p1)), (.int (cc p2)), (.int (cc p3)), (.int (cc p4))] (.int 0) := A303
    refine Own.astore W303 at_170 172 rfl rfl #[.val (.int p0), .val (.int p1), .val (.int p2), .val (.int p3), .val (.int p4), .val (.int 4), .val (.int (cc p1)), .val (.int (cc p2)), .val (.int (cc p3)), .val (.int (cc p4)), .val (.ref o289), .val (.ref o294), .unset] rfl ?_
    refine Own.iload W303 at_172 174 rfl 4 rfl ?_
    refine Own.iconst W303 at_174 175 rfl 1 rfl ?_
    refine Own.icmpNo W303 at_175 178 (by decide) rfl ?_
    refine Own.aload W303 at_178 180 rfl (.ref o289) rfl rfl ?_
    refine Own.iconst W303 at_180 181 rfl 0 rfl ?_
    refine Own.iload W303 at_181 183 rfl 4 rfl ?_
    have X304 : Ext h293 h294 := E294
    have X305 : Ext h293 h295 := Own.Ext.wr' X304 Q295 (Nat.le_of_eq g294.symm)
    have X306 : Ext h293 h301 := Own.Ext.wr' X305 Q301 (Nat.le_of_eq g294.symm)
    have X307 : Ext h293 h302 := Own.Ext.wr' X306 Q302 (Nat.le_of_eq g294.symm)
    have X308 : Ext h293 h303 := Own.Ext.wr' X307 Q303 (Nat.le_of_eq g294.symm)
    refine Own.callS W303 (tw hw 40 rfl) (tw hw 41 rfl) (tw hw 42 rfl) (tw hw 43 rfl) (by decide) (argsL := [(.ref o289), .int 0, .int 4]) (rest := []) (Own.Con.pay (con_ok4_0 hw hEL rfl rfl W303.old (V293.ext X308)) W303 (tw hw 43 rfl) (tw hw 42 rfl) (len := 3) (wd := 0) (by decide) (by decide) (fun _ q => nomatch q)) rfl (lenOf pd_19 rfl) rfl (lb rfl) at_183 186 rfl 2 8 (lb rfl) (lb rfl) (lb rfl) (lb rfl) ?_
    intro v309 T309 h309 u309 W309 R309 hq
    obtain ⟨rfl, eh309⟩ := hq
    have ei309 := eh309.symm; subst ei309
    have sf310 := R309.safe (V293.ext X308).lt (k303 o289 (k302 o289 (k301 o289 (k295 o289 (k294 o289 (k293 o289 (k292 o289 (k291 o289 (k290 o289 s289)))))))))
    have sf311 := R309.safe V303.lt (k303 o294 (k302 o294 (k301 o294 (k295 o294 s294))))
    by_cases hO0 : (okB (decide ((cc p1) = 0)) (hB (cc p1)) (lB (cc p1)) (lB (cc p2)) false) = true
    · skip
      rw [b2i_t hO0]
      show Own.Go _ _ _ _ _ 186 #[.val (.int p0), .val (.int p1), .val (.int p2), .val (.int p3), .val (.int p4), .val (.int 4), .val (.int (cc p1)), .val (.int (cc p2)), .val (.int (cc p3)), .val (.int (cc p4)), .val (.ref o289), .val (.ref o294), .unset] [.int 1]
      refine Own.ifNo W309 at_186 189 (by decide) rfl ?_
      refine Own.iload W309 at_189 191 rfl 4 rfl ?_
      refine Own.iconst W309 at_191 192 rfl 2 rfl ?_
      refine Own.icmpNo W309 at_192 195 (by decide) rfl ?_
      refine Own.aload W309 at_195 197 rfl (.ref o289) rfl rfl ?_
      refine Own.iconst W309 at_197 198 rfl 1 rfl ?_
      refine Own.iload W309 at_198 200 rfl 4 rfl ?_
      refine Own.callS W309 (tw hw 40 rfl) (tw hw 41 rfl) (tw hw 42 rfl) (tw hw 43 rfl) (by decide) (argsL := [(.ref o289), .int 1, .int 4]) (rest := []) (Own.Con.pay (con_ok4_1 hw hEL rfl rfl W309.old (V293.ext X308)) W309 (tw hw 43 rfl) (tw hw 42 rfl) (len := 3) (wd := 0) (by decide) (by decide) (fun _ q => nomatch q)) rfl (lenOf pd_19 rfl) rfl (lb rfl) at_200 203 rfl 2 8 (lb rfl) (lb rfl) (lb rfl) (lb rfl) ?_
      intro v312 T312 h312 u312 W312 R312 hq
      obtain ⟨rfl, eh312⟩ := hq
      have ei312 := eh312.symm; subst ei312
      have sf313 := R312.safe (V293.ext X308).lt sf310
      have sf314 := R312.safe V303.lt sf311
      by_cases hO1 : (okB (decide ((cc p2) = 0)) (hB (cc p2)) (lB (cc p2)) (lB (cc p3)) (hB (cc p1))) = true
      · skip
        rw [b2i_t hO1]
        show Own.Go _ _ _ _ _ 203 #[.val (.int p0), .val (.int p1), .val (.int p2), .val (.int p3), .val (.int p4), .val (.int 4), .val (.int (cc p1)), .val (.int (cc p2)), .val (.int (cc p3)), .val (.int (cc p4)), .val (.ref o289), .val (.ref o294), .unset] [.int 1]
        refine Own.ifNo W312 at_203 206 (by decide) rfl ?_
        refine Own.iload W312 at_206 208 rfl 4 rfl ?_
        refine Own.iconst W312 at_208 209 rfl 3 rfl ?_
        refine Own.icmpNo W312 at_209 212 (by decide) rfl ?_
        refine Own.aload W312 at_212 214 rfl (.ref o289) rfl rfl ?_
        refine Own.iconst W312 at_214 215 rfl 2 rfl ?_
        refine Own.iload W312 at_215 217 rfl 4 rfl ?_
        refine Own.callS W312 (tw hw 40 rfl) (tw hw 41 rfl) (tw hw 42 rfl) (tw hw 43 rfl) (by decide) (argsL := [(.ref o289), .int 2, .int 4]) (rest := []) (Own.Con.pay (con_ok4_2 hw hEL rfl rfl W312.old (V293.ext X308)) W312 (tw hw 43 rfl) (tw hw 42 rfl) (len := 3) (wd := 0) (by decide) (by decide) (fun _ q => nomatch q)) rfl (lenOf pd_19 rfl) rfl (lb rfl) at_217 220 rfl 2 8 (lb rfl) (lb rfl) (lb rfl) (lb rfl) ?_
        intro v315 T315 h315 u315 W315 R315 hq
        obtain ⟨rfl, eh315⟩ := hq
        have ei315 := eh315.symm; subst ei315
        have sf316 := R315.safe (V293.ext X308).lt sf313
        have sf317 := R315.safe V303.lt sf314
        by_cases hO2 : (okB (decide ((cc p3) = 0)) (hB (cc p3)) (lB (cc p3)) (lB (cc p4)) (hB (cc p2))) = true
        · skip
          rw [b2i_t hO2]
          show Own.Go _ _ _ _ _ 220 #[.val (.int p0), .val (.int p1), .val (.int p2), .val (.int p3), .val (.int p4), .val (.int 4), .val (.int (cc p1)), .val (.int (cc p2)), .val (.int (cc p3)), .val (.int (cc p4)), .val (.ref o289), .val (.ref o294), .unset] [.int 1]
          refine Own.ifNo W315 at_220 223 (by decide) rfl ?_
          refine Own.iload W315 at_223 225 rfl 4 rfl ?_
          refine Own.iconst W315 at_225 226 rfl 4 rfl ?_
          refine Own.icmpNo W315 at_226 229 (by decide) rfl ?_
          refine Own.aload W315 at_229 231 rfl (.ref o289) rfl rfl ?_
          refine Own.iconst W315 at_231 232 rfl 3 rfl ?_
          refine Own.iload W315 at_232 234 rfl 4 rfl ?_
          refine Own.callS W315 (tw hw 40 rfl) (tw hw 41 rfl) (tw hw 42 rfl) (tw hw 43 rfl) (by decide) (argsL := [(.ref o289), .int 3, .int 4]) (rest := []) (Own.Con.pay (con_ok4_3 hw hEL rfl rfl W315.old (V293.ext X308)) W315 (tw hw 43 rfl) (tw hw 42 rfl) (len := 3) (wd := 0) (by decide) (by decide) (fun _ q => nomatch q)) rfl (lenOf pd_19 rfl) rfl (lb rfl) at_234 237 rfl 2 8 (lb rfl) (lb rfl) (lb rfl) (lb rfl) ?_
          intro v318 T318 h318 u318 W318 R318 hq
          obtain ⟨rfl, eh318⟩ := hq
          have ei318 := eh318.symm; subst ei318
          have sf319 := R318.safe (V293.ext X308).lt sf316
          have sf320 := R318.safe V303.lt sf317
          by_cases hO3 : (okB (decide ((cc p4) = 0)) (hB (cc p4)) (lB (cc p4)) false (hB (cc p3))) = true
          · skip
            rw [b2i_t hO3]
            show Own.Go _ _ _ _ _ 237 #[.val (.int p0), .val (.int p1), .val (.int p2), .val (.int p3), .val (.int p4), .val (.int 4), .val (.int (cc p1)), .val (.int (cc p2)), .val (.int (cc p3)), .val (.int (cc p4)), .val (.ref o289), .val (.ref o294), .unset] [.int 1]
            refine Own.ifNo W318 at_237 240 (by decide) rfl ?_
            refine Own.iconst W318 at_240 241 rfl 1 rfl ?_
            refine Own.goto W318 at_241 245 (by decide) (by decide) ?_
            refine Own.istore W318 at_245 247 rfl #[.val (.int p0), .val (.int p1), .val (.int p2), .val (.int p3), .val (.int p4), .val (.int 4), .val (.int (cc p1)), .val (.int (cc p2)), .val (.int (cc p3)), .val (.int (cc p4)), .val (.ref o289), .val (.ref o294), .val (.int 1)] rfl ?_
            refine Own.newO W318 (tw hw 1 rfl) (tw hw 2 rfl) (tw hw 3 rfl) at_247 250 rfl 3 12 (by decide) (by decide) (by decide) (by decide) ?_
            intro T321 h321 o321 g321 W321 E321 A321 D321 s321 k321
            have F321_value : Fld G.Z h321 o321 "java/lang/String" "value" "[B" .null := D321 (Or.inr (tw hw 16 rfl)) (ty := (.array .byte)) (by decide)
            have F321_coder : Fld G.Z h321 o321 "java/lang/String" "coder" "B" (.int 0) := D321 (Or.inr (tw hw 17 rfl)) (ty := .byte) (by decide)
            refine Own.dup W321 at_250 251 rfl rfl ?_
            refine Own.aload W321 at_251 253 rfl (.ref o294) rfl rfl ?_
            by_cases hw255 : (255 : Int32) < (cc p1) ∨ (255 : Int32) < (cc p2) ∨ (255 : Int32) < (cc p3) ∨ (255 : Int32) < (cc p4)
            · skip
              have X322 : Ext h h294 := Own.Ext.tr X300 E294
              have X323 : Ext h h295 := Own.Ext.wr' X322 Q295 (Nat.le_trans X300.1 (Nat.le_of_eq g294.symm))
              have X324 : Ext h h301 := Own.Ext.wr' X323 Q301 (Nat.le_trans X300.1 (Nat.le_of_eq g294.symm))
              have X325 : Ext h h302 := Own.Ext.wr' X324 Q302 (Nat.le_trans X300.1 (Nat.le_of_eq g294.symm))
              have X326 : Ext h h303 := Own.Ext.wr' X325 Q303 (Nat.le_trans X300.1 (Nat.le_of_eq g294.symm))
              have X327 : Ext h303 h321 := E321
              refine Own.callX W321 rfl (tw hw 4 rfl) (tw hw 5 rfl) (tw hw 6 rfl) (by decide) (argsL := [(.ref o294)]) (rest := [(.ref o321)]) (Own.Con.pay (con_w14 hw hEL hmem hS hcz TA TH TL hEN8 hw255 (r16c _) (r16c _) (r16c _) (r16c _) W321.old (Nat.le_trans W0.n0 (Nat.le_trans X326.1 (Nat.le_of_eq g321.symm))) A321 F321_value F321_coder (V303.ext X327)) W321 (tw hw 6 rfl) (tw hw 3 rfl) (len := 3) (wd := 1) (by decide) (by decide) (fun y hy => by cases List.mem_singleton.mp hy; exact ⟨A321.lt, s321⟩)) rfl (lenOf pd_17 rfl) rfl (lb rfl) at_253 256 rfl 5 24 (lb rfl) (lb rfl) (lb rfl) (lb rfl) ?_
              intro v328 T328 h328 u328 W328 R328 hq
              obtain ⟨rfl, K328, F328⟩ := hq
              have UUF328 : Own.Uni G.Z h328 o321 [(cc p1), (cc p2), (cc p3), (cc p4)] := Or.inr F328
              show Own.Go _ _ _ _ _ 256 #[.val (.int p0), .val (.int p1), .val (.int p2), .val (.int p3), .val (.int p4), .val (.int 4), .val (.int (cc p1)), .val (.int (cc p2)), .val (.int (cc p3)), .val (.int (cc p4)), .val (.ref o289), .val (.ref o294), .val (.int 1)] [(.ref o321)]
              refine Own.callS W328 (tw hw 22 rfl) (tw hw 23 rfl) (tw hw 24 rfl) (tw hw 25 rfl) (by decide) (argsL := [(.ref o321)]) (rest := []) (Own.Con.pay (con_ist4 hw hEL hmem hS hcz SF rfm TA TH TL W328.old UUF328) W328 (tw hw 25 rfl) (tw hw 24 rfl) (len := 3) (wd := 0) (by decide) (by decide) (fun _ q => nomatch q)) rfl (lenOf pd_18 rfl) rfl (lb rfl) at_256 259 rfl 5 24 (lb rfl) (lb rfl) (lb rfl) (lb rfl) ?_
              intro v329 T329 h329 u329 W329 R329 hq
              obtain ⟨rfl, eh329⟩ := hq
              have ei329 := eh329.symm; subst ei329
              have X330 : Ext h293 h321 := Own.Ext.tr X308 E321
              have X331 : Ext h293 h328 := Own.Ext.kp X330 K328 (allS (Nat.le_trans X308.1 (Nat.le_of_eq g321.symm)) all0)
              have sf332 := R329.safe (V293.ext X331).lt (R328.safe (V293.ext X330).lt (k321 o289 sf319))
              have X333 : Ext h303 h328 := Own.Ext.kp X327 K328 (allS (Nat.le_of_eq g321.symm) all0)
              have sf334 := R329.safe (V303.ext X333).lt (R328.safe (V303.ext X327).lt (k321 o294 sf320))
              have sf335 := R329.safe (A321.keep K328).lt (R328.safe A321.lt s321)
              rw [show b2i (uns [(cc p1), (cc p2), (cc p3), (cc p4)]) = (1 : Int32) from by rw [pure4 (cc p1) (cc p2) (cc p3) (cc p4), hO0, hO1, hO2, hO3]; rfl]
              show Own.Go _ _ _ _ _ 259 #[.val (.int p0), .val (.int p1), .val (.int p2), .val (.int p3), .val (.int p4), .val (.int 4), .val (.int (cc p1)), .val (.int (cc p2)), .val (.int (cc p3)), .val (.int (cc p4)), .val (.ref o289), .val (.ref o294), .val (.int 1)] [.int 1]
              refine Own.iload W329 at_259 261 rfl 1 rfl ?_
              refine Own.icmpNo W329 at_261 264 (by decide) rfl ?_
              refine Own.iconst W329 at_264 265 rfl 1 rfl ?_
              refine Own.goto W329 at_265 269 (by decide) (by decide) ?_
              exact Own.retB W329 (by decide) (by decide) rfl at_269 rfl rfl
            · skip
              have X336 : Ext h h294 := Own.Ext.tr X300 E294
              have X337 : Ext h h295 := Own.Ext.wr' X336 Q295 (Nat.le_trans X300.1 (Nat.le_of_eq g294.symm))
              have X338 : Ext h h301 := Own.Ext.wr' X337 Q301 (Nat.le_trans X300.1 (Nat.le_of_eq g294.symm))
              have X339 : Ext h h302 := Own.Ext.wr' X338 Q302 (Nat.le_trans X300.1 (Nat.le_of_eq g294.symm))
              have X340 : Ext h h303 := Own.Ext.wr' X339 Q303 (Nat.le_trans X300.1 (Nat.le_of_eq g294.symm))
              have X341 : Ext h303 h321 := E321
              refine Own.callX W321 rfl (tw hw 4 rfl) (tw hw 5 rfl) (tw hw 6 rfl) (by decide) (argsL := [(.ref o294)]) (rest := [(.ref o321)]) (Own.payStr (wS hw) hEL hmem W321 (cs := [(cc p1), (cc p2), (cc p3), (cc p4)]) (z := (4 : Int32)) (cz := cz) (Nat.le_trans W0.n0 (Nat.le_trans X340.1 (Nat.le_of_eq g321.symm))) s321 A321 F321_value F321_coder ((V303.ext X341)) rfl (by intro c hc; simp only [List.mem_cons, List.not_mem_nil, or_false] at hc; rcases hc with rfl | rfl | rfl | rfl; exact ⟨(r16c _).1, fun q => hw255 (Or.inl q)⟩; exact ⟨(r16c _).1, fun q => hw255 (Or.inr (Or.inl q))⟩; exact ⟨(r16c _).1, fun q => hw255 (Or.inr (Or.inr (Or.inl q)))⟩; exact ⟨(r16c _).1, fun q => hw255 (Or.inr (Or.inr (Or.inr (q))))⟩) (lb rfl) hS hcz (len := 3) (wd := 1) (by decide) (by decide)) rfl (lenOf pd_17 rfl) rfl (lb rfl) at_253 256 rfl 7 24 (lb rfl) (lb rfl) (lb rfl) (lb rfl) ?_
              intro v342 T342 h342 u342 W342 R342 hq
              obtain ⟨rfl, K342, F342⟩ := hq
              show Own.Go _ _ _ _ _ 256 #[.val (.int p0), .val (.int p1), .val (.int p2), .val (.int p3), .val (.int p4), .val (.int 4), .val (.int (cc p1)), .val (.int (cc p2)), .val (.int (cc p3)), .val (.int (cc p4)), .val (.ref o289), .val (.ref o294), .val (.int 1)] [(.ref o321)]
              have UUF342 : Own.Uni G.Z h342 o321 [(cc p1), (cc p2), (cc p3), (cc p4)] := Or.inl F342
              show Own.Go _ _ _ _ _ 256 #[.val (.int p0), .val (.int p1), .val (.int p2), .val (.int p3), .val (.int p4), .val (.int 4), .val (.int (cc p1)), .val (.int (cc p2)), .val (.int (cc p3)), .val (.int (cc p4)), .val (.ref o289), .val (.ref o294), .val (.int 1)] [(.ref o321)]
              refine Own.callS W342 (tw hw 22 rfl) (tw hw 23 rfl) (tw hw 24 rfl) (tw hw 25 rfl) (by decide) (argsL := [(.ref o321)]) (rest := []) (Own.Con.pay (con_ist4 hw hEL hmem hS hcz SF rfm TA TH TL W342.old UUF342) W342 (tw hw 25 rfl) (tw hw 24 rfl) (len := 3) (wd := 0) (by decide) (by decide) (fun _ q => nomatch q)) rfl (lenOf pd_18 rfl) rfl (lb rfl) at_256 259 rfl 7 24 (lb rfl) (lb rfl) (lb rfl) (lb rfl) ?_
              intro v343 T343 h343 u343 W343 R343 hq
              obtain ⟨rfl, eh343⟩ := hq
              have ei343 := eh343.symm; subst ei343
              have X344 : Ext h293 h321 := Own.Ext.tr X308 E321
              have X345 : Ext h293 h342 := Own.Ext.kp X344 K342 (allS (Nat.le_trans X308.1 (Nat.le_of_eq g321.symm)) all0)
              have sf346 := R343.safe (V293.ext X345).lt (R342.safe (V293.ext X344).lt (k321 o289 sf319))
              rw [show b2i (uns [(cc p1), (cc p2), (cc p3), (cc p4)]) = (1 : Int32) from by rw [pure4 (cc p1) (cc p2) (cc p3) (cc p4), hO0, hO1, hO2, hO3]; rfl]
              show Own.Go _ _ _ _ _ 259 #[.val (.int p0), .val (.int p1), .val (.int p2), .val (.int p3), .val (.int p4), .val (.int 4), .val (.int (cc p1)), .val (.int (cc p2)), .val (.int (cc p3)), .val (.int (cc p4)), .val (.ref o289), .val (.ref o294), .val (.int 1)] [.int 1]
              refine Own.iload W343 at_259 261 rfl 1 rfl ?_
              refine Own.icmpNo W343 at_261 264 (by decide) rfl ?_
              refine Own.iconst W343 at_264 265 rfl 1 rfl ?_
              refine Own.goto W343 at_265 269 (by decide) (by decide) ?_
              exact Own.retB W343 (by decide) (by decide) rfl at_269 rfl rfl
          · skip
            rw [b2i_f hO3]
            show Own.Go _ _ _ _ _ 237 #[.val (.int p0), .val (.int p1), .val (.int p2), .val (.int p3), .val (.int p4), .val (.int 4), .val (.int (cc p1)), .val (.int (cc p2)), .val (.int (cc p3)), .val (.int (cc p4)), .val (.ref o289), .val (.ref o294), .unset] [.int 0]
            refine Own.ifYes W318 at_237 244 (by decide) (by decide) (by decide) ?_
            refine Own.iconst W318 at_244 245 rfl 0 rfl ?_
            refine Own.istore W318 at_245 247 rfl #[.val (.int p0), .val (.int p1), .val (.int p2), .val (.int p3), .val (.int p4), .val (.int 4), .val (.int (cc p1)), .val (.int (cc p2)), .val (.int (cc p3)), .val (.int (cc p4)), .val (.ref o289), .val (.ref o294), .val (.int 0)] rfl ?_
            refine Own.newO W318 (tw hw 1 rfl) (tw hw 2 rfl) (tw hw 3 rfl) at_247 250 rfl 3 12 (by decide) (by decide) (by decide) (by decide) ?_
            intro T347 h347 o347 g347 W347 E347 A347 D347 s347 k347
            have F347_value : Fld G.Z h347 o347 "java/lang/String" "value" "[B" .null := D347 (Or.inr (tw hw 16 rfl)) (ty := (.array .byte)) (by decide)
            have F347_coder : Fld G.Z h347 o347 "java/lang/String" "coder" "B" (.int 0) := D347 (Or.inr (tw hw 17 rfl)) (ty := .byte) (by decide)
            refine Own.dup W347 at_250 251 rfl rfl ?_
            refine Own.aload W347 at_251 253 rfl (.ref o294) rfl rfl ?_
            by_cases hw255 : (255 : Int32) < (cc p1) ∨ (255 : Int32) < (cc p2) ∨ (255 : Int32) < (cc p3) ∨ (255 : Int32) < (cc p4)
            · skip
              have X348 : Ext h h294 := Own.Ext.tr X300 E294
              have X349 : Ext h h295 := Own.Ext.wr' X348 Q295 (Nat.le_trans X300.1 (Nat.le_of_eq g294.symm))
              have X350 : Ext h h301 := Own.Ext.wr' X349 Q301 (Nat.le_trans X300.1 (Nat.le_of_eq g294.symm))
              have X351 : Ext h h302 := Own.Ext.wr' X350 Q302 (Nat.le_trans X300.1 (Nat.le_of_eq g294.symm))
              have X352 : Ext h h303 := Own.Ext.wr' X351 Q303 (Nat.le_trans X300.1 (Nat.le_of_eq g294.symm))
              have X353 : Ext h303 h347 := E347
              refine Own.callX W347 rfl (tw hw 4 rfl) (tw hw 5 rfl) (tw hw 6 rfl) (by decide) (argsL := [(.ref o294)]) (rest := [(.ref o347)]) (Own.Con.pay (con_w14 hw hEL hmem hS hcz TA TH TL hEN8 hw255 (r16c _) (r16c _) (r16c _) (r16c _) W347.old (Nat.le_trans W0.n0 (Nat.le_trans X352.1 (Nat.le_of_eq g347.symm))) A347 F347_value F347_coder (V303.ext X353)) W347 (tw hw 6 rfl) (tw hw 3 rfl) (len := 3) (wd := 1) (by decide) (by decide) (fun y hy => by cases List.mem_singleton.mp hy; exact ⟨A347.lt, s347⟩)) rfl (lenOf pd_17 rfl) rfl (lb rfl) at_253 256 rfl 5 24 (lb rfl) (lb rfl) (lb rfl) (lb rfl) ?_
              intro v354 T354 h354 u354 W354 R354 hq
              obtain ⟨rfl, K354, F354⟩ := hq
              have UUF354 : Own.Uni G.Z h354 o347 [(cc p1), (cc p2), (cc p3), (cc p4)] := Or.inr F354
              show Own.Go _ _ _ _ _ 256 #[.val (.int p0), .val (.int p1), .val (.int p2), .val (.int p3), .val (.int p4), .val (.int 4), .val (.int (cc p1)), .val (.int (cc p2)), .val (.int (cc p3)), .val (.int (cc p4)), .val (.ref o289), .val (.ref o294), .val (.int 0)] [(.ref o347)]
              refine Own.callS W354 (tw hw 22 rfl) (tw hw 23 rfl) (tw hw 24 rfl) (tw hw 25 rfl) (by decide) (argsL := [(.ref o347)]) (rest := []) (Own.Con.pay (con_ist4 hw hEL hmem hS hcz SF rfm TA TH TL W354.old UUF354) W354 (tw hw 25 rfl) (tw hw 24 rfl) (len := 3) (wd := 0) (by decide) (by decide) (fun _ q => nomatch q)) rfl (lenOf pd_18 rfl) rfl (lb rfl) at_256 259 rfl 5 24 (lb rfl) (lb rfl) (lb rfl) (lb rfl) ?_
              intro v355 T355 h355 u355 W355 R355 hq
              obtain ⟨rfl, eh355⟩ := hq
              have ei355 := eh355.symm; subst ei355
              have X356 : Ext h293 h347 := Own.Ext.tr X308 E347
              have X357 : Ext h293 h354 := Own.Ext.kp X356 K354 (allS (Nat.le_trans X308.1 (Nat.le_of_eq g347.symm)) all0)
              have sf358 := R355.safe (V293.ext X357).lt (R354.safe (V293.ext X356).lt (k347 o289 sf319))
              have X359 : Ext h303 h354 := Own.Ext.kp X353 K354 (allS (Nat.le_of_eq g347.symm) all0)
              have sf360 := R355.safe (V303.ext X359).lt (R354.safe (V303.ext X353).lt (k347 o294 sf320))
              have sf361 := R355.safe (A347.keep K354).lt (R354.safe A347.lt s347)
              rw [show b2i (uns [(cc p1), (cc p2), (cc p3), (cc p4)]) = (0 : Int32) from by rw [pure4 (cc p1) (cc p2) (cc p3) (cc p4), hO0, hO1, hO2, eq_false_of_ne_true hO3]; simp [b2i]]
              show Own.Go _ _ _ _ _ 259 #[.val (.int p0), .val (.int p1), .val (.int p2), .val (.int p3), .val (.int p4), .val (.int 4), .val (.int (cc p1)), .val (.int (cc p2)), .val (.int (cc p3)), .val (.int (cc p4)), .val (.ref o289), .val (.ref o294), .val (.int 0)] [.int 0]
              refine Own.iload W355 at_259 261 rfl 0 rfl ?_
              refine Own.icmpNo W355 at_261 264 (by decide) rfl ?_
              refine Own.iconst W355 at_264 265 rfl 1 rfl ?_
              refine Own.goto W355 at_265 269 (by decide) (by decide) ?_
              exact Own.retB W355 (by decide) (by decide) rfl at_269 rfl rfl
            · skip
              have X362 : Ext h h294 := Own.Ext.tr X300 E294
              have X363 : Ext h h295 := Own.Ext.wr' X362 Q295 (Nat.le_trans X300.1 (Nat.le_of_eq g294.symm))
              have X364 : Ext h h301 := Own.Ext.wr' X363 Q301 (Nat.le_trans X300.1 (Nat.le_of_eq g294.symm))
              have X365 : Ext h h302 := Own.Ext.wr' X364 Q302 (Nat.le_trans X300.1 (Nat.le_of_eq g294.symm))
              have X366 : Ext h h303 := Own.Ext.wr' X365 Q303 (Nat.le_trans X300.1 (Nat.le_of_eq g294.symm))
              have X367 : Ext h303 h347 := E347
              refine Own.callX W347 rfl (tw hw 4 rfl) (tw hw 5 rfl) (tw hw 6 rfl) (by decide) (argsL := [(.ref o294)]) (rest := [(.ref o347)]) (Own.payStr (wS hw) hEL hmem W347 (cs := [(cc p1), (cc p2), (cc p3), (cc p4)]) (z := (4 : Int32)) (cz := cz) (Nat.le_trans W0.n0 (Nat.le_trans X366.1 (Nat.le_of_eq g347.symm))) s347 A347 F347_value F347_coder ((V303.ext X367)) rfl (by intro c hc; simp only [List.mem_cons, List.not_mem_nil, or_false] at hc; rcases hc with rfl | rfl | rfl | rfl; exact ⟨(r16c _).1, fun q => hw255 (Or.inl q)⟩; exact ⟨(r16c _).1, fun q => hw255 (Or.inr (Or.inl q))⟩; exact ⟨(r16c _).1, fun q => hw255 (Or.inr (Or.inr (Or.inl q)))⟩; exact ⟨(r16c _).1, fun q => hw255 (Or.inr (Or.inr (Or.inr (q))))⟩) (lb rfl) hS hcz (len := 3) (wd := 1) (by decide) (by decide)) rfl (lenOf pd_17 rfl) rfl (lb rfl) at_253 256 rfl 7 24 (lb rfl) (lb rfl) (lb rfl) (lb rfl) ?_
              intro v368 T368 h368 u368 W368 R368 hq
              obtain ⟨rfl, K368, F368⟩ := hq
              show Own.Go _ _ _ _ _ 256 #[.val (.int p0), .val (.int p1), .val (.int p2), .val (.int p3), .val (.int p4), .val (.int 4), .val (.int (cc p1)), .val (.int (cc p2)), .val (.int (cc p3)), .val (.int (cc p4)), .val (.ref o289), .val (.ref o294), .val (.int 0)] [(.ref o347)]
              have UUF368 : Own.Uni G.Z h368 o347 [(cc p1), (cc p2), (cc p3), (cc p4)] := Or.inl F368
              show Own.Go _ _ _ _ _ 256 #[.val (.int p0), .val (.int p1), .val (.int p2), .val (.int p3), .val (.int p4), .val (.int 4), .val (.int (cc p1)), .val (.int (cc p2)), .val (.int (cc p3)), .val (.int (cc p4)), .val (.ref o289), .val (.ref o294), .val (.int 0)] [(.ref o347)]
              refine Own.callS W368 (tw hw 22 rfl) (tw hw 23 rfl) (tw hw 24 rfl) (tw hw 25 rfl) (by decide) (argsL := [(.ref o347)]) (rest := []) (Own.Con.pay (con_ist4 hw hEL hmem hS hcz SF rfm TA TH TL W368.old UUF368) W368 (tw hw 25 rfl) (tw hw 24 rfl) (len := 3) (wd := 0) (by decide) (by decide) (fun _ q => nomatch q)) rfl (lenOf pd_18 rfl) rfl (lb rfl) at_256 259 rfl 7 24 (lb rfl) (lb rfl) (lb rfl) (lb rfl) ?_
              intro v369 T369 h369 u369 W369 R369 hq
              obtain ⟨rfl, eh369⟩ := hq
              have ei369 := eh369.symm; subst ei369
              have X370 : Ext h293 h347 := Own.Ext.tr X308 E347
              have X371 : Ext h293 h368 := Own.Ext.kp X370 K368 (allS (Nat.le_trans X308.1 (Nat.le_of_eq g347.symm)) all0)
              have sf372 := R369.safe (V293.ext X371).lt (R368.safe (V293.ext X370).lt (k347 o289 sf319))
              rw [show b2i (uns [(cc p1), (cc p2), (cc p3), (cc p4)]) = (0 : Int32) from by rw [pure4 (cc p1) (cc p2) (cc p3) (cc p4), hO0, hO1, hO2, eq_false_of_ne_true hO3]; simp [b2i]]
              show Own.Go _ _ _ _ _ 259 #[.val (.int p0), .val (.int p1), .val (.int p2), .val (.int p3), .val (.int p4), .val (.int 4), .val (.int (cc p1)), .val (.int (cc p2)), .val (.int (cc p3)), .val (.int (cc p4)), .val (.ref o289), .val (.ref o294), .val (.int 0)] [.int 0]
              refine Own.iload W369 at_259 261 rfl 0 rfl ?_
              refine Own.icmpNo W369 at_261 264 (by decide) rfl ?_
              refine Own.iconst W369 at_264 265 rfl 1 rfl ?_
              refine Own.goto W369 at_265 269 (by decide) (by decide) ?_
              exact Own.retB W369 (by decide) (by decide) rfl at_269 rfl rfl
        · skip
          rw [b2i_f hO2]
          show Own.Go _ _ _ _ _ 220 #[.val (.int p0), .val (.int p1), .val (.int p2), .val (.int p3), .val (.int p4), .val (.int 4), .val (.int (cc p1)), .val (.int (cc p2)), .val (.int (cc p3)), .val (.int (cc p4)), .val (.ref o289), .val (.ref o294), .unset] [.int 0]
          refine Own.ifYes W315 at_220 244 (by decide) (by decide) (by decide) ?_
          refine Own.iconst W315 at_244 245 rfl 0 rfl ?_
          refine Own.istore W315 at_245 247 rfl #[.val (.int p0), .val (.int p1), .val (.int p2), .val (.int p3), .val (.int p4), .val (.int 4), .val (.int (cc p1)), .val (.int (cc p2)), .val (.int (cc p3)), .val (.int (cc p4)), .val (.ref o289), .val (.ref o294), .val (.int 0)] rfl ?_
          refine Own.newO W315 (tw hw 1 rfl) (tw hw 2 rfl) (tw hw 3 rfl) at_247 250 rfl 3 12 (by decide) (by decide) (by decide) (by decide) ?_
          intro T373 h373 o373 g373 W373 E373 A373 D373 s373 k373
          have F373_value : Fld G.Z h373 o373 "java/lang/String" "value" "[B" .null := D373 (Or.inr (tw hw 16 rfl)) (ty := (.array .byte)) (by decide)
          have F373_coder : Fld G.Z h373 o373 "java/lang/String" "coder" "B" (.int 0) := D373 (Or.inr (tw hw 17 rfl)) (ty := .byte) (by decide)
          refine Own.dup W373 at_250 251 rfl rfl ?_
          refine Own.aload W373 at_251 253 rfl (.ref o294) rfl rfl ?_
          by_cases hw255 : (255 : Int32) < (cc p1) ∨ (255 : Int32) < (cc p2) ∨ (255 : Int32) < (cc p3) ∨ (255 : Int32) < (cc p4)
          · skip
            have X374 : Ext h h294 := Own.Ext.tr X300 E294
            have X375 : Ext h h295 := Own.Ext.wr' X374 Q295 (Nat.le_trans X300.1 (Nat.le_of_eq g294.symm))
            have X376 : Ext h h301 := Own.Ext.wr' X375 Q301 (Nat.le_trans X300.1 (Nat.le_of_eq g294.symm))
            have X377 : Ext h h302 := Own.Ext.wr' X376 Q302 (Nat.le_trans X300.1 (Nat.le_of_eq g294.symm))
            have X378 : Ext h h303 := Own.Ext.wr' X377 Q303 (Nat.le_trans X300.1 (Nat.le_of_eq g294.symm))
            have X379 : Ext h303 h373 := E373
            refine Own.callX W373 rfl (tw hw 4 rfl) (tw hw 5 rfl) (tw hw 6 rfl) (by decide) (argsL := [(.ref o294)]) (rest := [(.ref o373)]) (Own.Con.pay (con_w14 hw hEL hmem hS hcz TA TH TL hEN8 hw255 (r16c _) (r16c _) (r16c _) (r16c _) W373.old (Nat.le_trans W0.n0 (Nat.le_trans X378.1 (Nat.le_of_eq g373.symm))) A373 F373_value F373_coder (V303.ext X379)) W373 (tw hw 6 rfl) (tw hw 3 rfl) (len := 3) (wd := 1) (by decide) (by decide) (fun y hy => by cases List.mem_singleton.mp hy; exact ⟨A373.lt, s373⟩)) rfl (lenOf pd_17 rfl) rfl (lb rfl) at_253 256 rfl 5 24 (lb rfl) (lb rfl) (lb rfl) (lb rfl) ?_
            intro v380 T380 h380 u380 W380 R380 hq
            obtain ⟨rfl, K380, F380⟩ := hq
            have UUF380 : Own.Uni G.Z h380 o373 [(cc p1), (cc p2), (cc p3), (cc p4)] := Or.inr F380
            show Own.Go _ _ _ _ _ 256 #[.val (.int p0), .val (.int p1), .val (.int p2), .val (.int p3), .val (.int p4), .val (.int 4), .val (.int (cc p1)), .val (.int (cc p2)), .val (.int (cc p3)), .val (.int (cc p4)), .val (.ref o289), .val (.ref o294), .val (.int 0)] [(.ref o373)]
            refine Own.callS W380 (tw hw 22 rfl) (tw hw 23 rfl) (tw hw 24 rfl) (tw hw 25 rfl) (by decide) (argsL := [(.ref o373)]) (rest := []) (Own.Con.pay (con_ist4 hw hEL hmem hS hcz SF rfm TA TH TL W380.old UUF380) W380 (tw hw 25 rfl) (tw hw 24 rfl) (len := 3) (wd := 0) (by decide) (by decide) (fun _ q => nomatch q)) rfl (lenOf pd_18 rfl) rfl (lb rfl) at_256 259 rfl 5 24 (lb rfl) (lb rfl) (lb rfl) (lb rfl) ?_
            intro v381 T381 h381 u381 W381 R381 hq
            obtain ⟨rfl, eh381⟩ := hq
            have ei381 := eh381.symm; subst ei381
            have X382 : Ext h293 h373 := Own.Ext.tr X308 E373
            have X383 : Ext h293 h380 := Own.Ext.kp X382 K380 (allS (Nat.le_trans X308.1 (Nat.le_of_eq g373.symm)) all0)
            have sf384 := R381.safe (V293.ext X383).lt (R380.safe (V293.ext X382).lt (k373 o289 sf316))
            have X385 : Ext h303 h380 := Own.Ext.kp X379 K380 (allS (Nat.le_of_eq g373.symm) all0)
            have sf386 := R381.safe (V303.ext X385).lt (R380.safe (V303.ext X379).lt (k373 o294 sf317))
            have sf387 := R381.safe (A373.keep K380).lt (R380.safe A373.lt s373)
            rw [show b2i (uns [(cc p1), (cc p2), (cc p3), (cc p4)]) = (0 : Int32) from by rw [pure4 (cc p1) (cc p2) (cc p3) (cc p4), hO0, hO1, eq_false_of_ne_true hO2]; simp [b2i]]
            show Own.Go _ _ _ _ _ 259 #[.val (.int p0), .val (.int p1), .val (.int p2), .val (.int p3), .val (.int p4), .val (.int 4), .val (.int (cc p1)), .val (.int (cc p2)), .val (.int (cc p3)), .val (.int (cc p4)), .val (.ref o289), .val (.ref o294), .val (.int 0)] [.int 0]
            refine Own.iload W381 at_259 261 rfl 0 rfl ?_
            refine Own.icmpNo W381 at_261 264 (by decide) rfl ?_
            refine Own.iconst W381 at_264 265 rfl 1 rfl ?_
            refine Own.goto W381 at_265 269 (by decide) (by decide) ?_
            exact Own.retB W381 (by decide) (by decide) rfl at_269 rfl rfl
          · skip
            have X388 : Ext h h294 := Own.Ext.tr X300 E294
            have X389 : Ext h h295 := Own.Ext.wr' X388 Q295 (Nat.le_trans X300.1 (Nat.le_of_eq g294.symm))
            have X390 : Ext h h301 := Own.Ext.wr' X389 Q301 (Nat.le_trans X300.1 (Nat.le_of_eq g294.symm))
            have X391 : Ext h h302 := Own.Ext.wr' X390 Q302 (Nat.le_trans X300.1 (Nat.le_of_eq g294.symm))
            have X392 : Ext h h303 := Own.Ext.wr' X391 Q303 (Nat.le_trans X300.1 (Nat.le_of_eq g294.symm))
            have X393 : Ext h303 h373 := E373
            refine Own.callX W373 rfl (tw hw 4 rfl) (tw hw 5 rfl) (tw hw 6 rfl) (by decide) (argsL := [(.ref o294)]) (rest := [(.ref o373)]) (Own.payStr (wS hw) hEL hmem W373 (cs := [(cc p1), (cc p2), (cc p3), (cc p4)]) (z := (4 : Int32)) (cz := cz) (Nat.le_trans W0.n0 (Nat.le_trans X392.1 (Nat.le_of_eq g373.symm))) s373 A373 F373_value F373_coder ((V303.ext X393)) rfl (by intro c hc; simp only [List.mem_cons, List.not_mem_nil, or_false] at hc; rcases hc with rfl | rfl | rfl | rfl; exact ⟨(r16c _).1, fun q => hw255 (Or.inl q)⟩; exact ⟨(r16c _).1, fun q => hw255 (Or.inr (Or.inl q))⟩; exact ⟨(r16c _).1, fun q => hw255 (Or.inr (Or.inr (Or.inl q)))⟩; exact ⟨(r16c _).1, fun q => hw255 (Or.inr (Or.inr (Or.inr (q))))⟩) (lb rfl) hS hcz (len := 3) (wd := 1) (by decide) (by decide)) rfl (lenOf pd_17 rfl) rfl (lb rfl) at_253 256 rfl 7 24 (lb rfl) (lb rfl) (lb rfl) (lb rfl) ?_
            intro v394 T394 h394 u394 W394 R394 hq
            obtain ⟨rfl, K394, F394⟩ := hq
            show Own.Go _ _ _ _ _ 256 #[.val (.int p0), .val (.int p1), .val (.int p2), .val (.int p3), .val (.int p4), .val (.int 4), .val (.int (cc p1)), .val (.int (cc p2)), .val (.int (cc p3)), .val (.int (cc p4)), .val (.ref o289), .val (.ref o294), .val (.int 0)] [(.ref o373)]
            have UUF394 : Own.Uni G.Z h394 o373 [(cc p1), (cc p2), (cc p3), (cc p4)] := Or.inl F394
            show Own.Go _ _ _ _ _ 256 #[.val (.int p0), .val (.int p1), .val (.int p2), .val (.int p3), .val (.int p4), .val (.int 4), .val (.int (cc p1)), .val (.int (cc p2)), .val (.int (cc p3)), .val (.int (cc p4)), .val (.ref o289), .val (.ref o294), .val (.int 0)] [(.ref o373)]
            refine Own.callS W394 (tw hw 22 rfl) (tw hw 23 rfl) (tw hw 24 rfl) (tw hw 25 rfl) (by decide) (argsL := [(.ref o373)]) (rest := []) (Own.Con.pay (con_ist4 hw hEL hmem hS hcz SF rfm TA TH TL W394.old UUF394) W394 (tw hw 25 rfl) (tw hw 24 rfl) (len := 3) (wd := 0) (by decide) (by decide) (fun _ q => nomatch q)) rfl (lenOf pd_18 rfl) rfl (lb rfl) at_256 259 rfl 7 24 (lb rfl) (lb rfl) (lb rfl) (lb rfl) ?_
            intro v395 T395 h395 u395 W395 R395 hq
            obtain ⟨rfl, eh395⟩ := hq
            have ei395 := eh395.symm; subst ei395
            have X396 : Ext h293 h373 := Own.Ext.tr X308 E373
            have X397 : Ext h293 h394 := Own.Ext.kp X396 K394 (allS (Nat.le_trans X308.1 (Nat.le_of_eq g373.symm)) all0)
            have sf398 := R395.safe (V293.ext X397).lt (R394.safe (V293.ext X396).lt (k373 o289 sf316))
            rw [show b2i (uns [(cc p1), (cc p2), (cc p3), (cc p4)]) = (0 : Int32) from by rw [pure4 (cc p1) (cc p2) (cc p3) (cc p4), hO0, hO1, eq_false_of_ne_true hO2]; simp [b2i]]
            show Own.Go _ _ _ _ _ 259 #[.val (.int p0), .val (.int p1), .val (.int p2), .val (.int p3), .val (.int p4), .val (.int 4), .val (.int (cc p1)), .val (.int (cc p2)), .val (.int (cc p3)), .val (.int (cc p4)), .val (.ref o289), .val (.ref o294), .val (.int 0)] [.int 0]
            refine Own.iload W395 at_259 261 rfl 0 rfl ?_
            refine Own.icmpNo W395 at_261 264 (by decide) rfl ?_
            refine Own.iconst W395 at_264 265 rfl 1 rfl ?_
            refine Own.goto W395 at_265 269 (by decide) (by decide) ?_
            exact Own.retB W395 (by decide) (by decide) rfl at_269 rfl rfl
      · skip
        rw [b2i_f hO1]
        show Own.Go _ _ _ _ _ 203 #[.val (.int p0), .val (.int p1), .val (.int p2), .val (.int p3), .val (.int p4), .val (.int 4), .val (.int (cc p1)), .val (.int (cc p2)), .val (.int (cc p3)), .val (.int (cc p4)), .val (.ref o289), .val (.ref o294), .unset] [.int 0]
        refine Own.ifYes W312 at_203 244 (by decide) (by decide) (by decide) ?_
        refine Own.iconst W312 at_244 245 rfl 0 rfl ?_
        refine Own.istore W312 at_245 247 rfl #[.val (.int p0), .val (.int p1), .val (.int p2), .val (.int p3), .val (.int p4), .val (.int 4), .val (.int (cc p1)), .val (.int (cc p2)), .val (.int (cc p3)), .val (.int (cc p4)), .val (.ref o289), .val (.ref o294), .val (.int 0)] rfl ?_
        refine Own.newO W312 (tw hw 1 rfl) (tw hw 2 rfl) (tw hw 3 rfl) at_247 250 rfl 3 12 (by decide) (by decide) (by decide) (by decide) ?_
        intro T399 h399 o399 g399 W399 E399 A399 D399 s399 k399
        have F399_value : Fld G.Z h399 o399 "java/lang/String" "value" "[B" .null := D399 (Or.inr (tw hw 16 rfl)) (ty := (.array .byte)) (by decide)
        have F399_coder : Fld G.Z h399 o399 "java/lang/String" "coder" "B" (.int 0) := D399 (Or.inr (tw hw 17 rfl)) (ty := .byte) (by decide)
        refine Own.dup W399 at_250 251 rfl rfl ?_
        refine Own.aload W399 at_251 253 rfl (.ref o294) rfl rfl ?_
        by_cases hw255 : (255 : Int32) < (cc p1) ∨ (255 : Int32) < (cc p2) ∨ (255 : Int32) < (cc p3) ∨ (255 : Int32) < (cc p4)
        · skip
          have X400 : Ext h h294 := Own.Ext.tr X300 E294
          have X401 : Ext h h295 := Own.Ext.wr' X400 Q295 (Nat.le_trans X300.1 (Nat.le_of_eq g294.symm))
          have X402 : Ext h h301 := Own.Ext.wr' X401 Q301 (Nat.le_trans X300.1 (Nat.le_of_eq g294.symm))
          have X403 : Ext h h302 := Own.Ext.wr' X402 Q302 (Nat.le_trans X300.1 (Nat.le_of_eq g294.symm))
          have X404 : Ext h h303 := Own.Ext.wr' X403 Q303 (Nat.le_trans X300.1 (Nat.le_of_eq g294.symm))
          have X405 : Ext h303 h399 := E399
          refine Own.callX W399 rfl (tw hw 4 rfl) (tw hw 5 rfl) (tw hw 6 rfl) (by decide) (argsL := [(.ref o294)]) (rest := [(.ref o399)]) (Own.Con.pay (con_w14 hw hEL hmem hS hcz TA TH TL hEN8 hw255 (r16c _) (r16c _) (r16c _) (r16c _) W399.old (Nat.le_trans W0.n0 (Nat.le_trans X404.1 (Nat.le_of_eq g399.symm))) A399 F399_value F399_coder (V303.ext X405)) W399 (tw hw 6 rfl) (tw hw 3 rfl) (len := 3) (wd := 1) (by decide) (by decide) (fun y hy => by cases List.mem_singleton.mp hy; exact ⟨A399.lt, s399⟩)) rfl (lenOf pd_17 rfl) rfl (lb rfl) at_253 256 rfl 5 24 (lb rfl) (lb rfl) (lb rfl) (lb rfl) ?_
          intro v406 T406 h406 u406 W406 R406 hq
          obtain ⟨rfl, K406, F406⟩ := hq
          have UUF406 : Own.Uni G.Z h406 o399 [(cc p1), (cc p2), (cc p3), (cc p4)] := Or.inr F406
          show Own.Go _ _ _ _ _ 256 #[.val (.int p0), .val (.int p1), .val (.int p2), .val (.int p3), .val (.int p4), .val (.int 4), .val (.int (cc p1)), .val (.int (cc p2)), .val (.int (cc p3)), .val (.int (cc p4)), .val (.ref o289), .val (.ref o294), .val (.int 0)] [(.ref o399)]
          refine Own.callS W406 (tw hw 22 rfl) (tw hw 23 rfl) (tw hw 24 rfl) (tw hw 25 rfl) (by decide) (argsL := [(.ref o399)]) (rest := []) (Own.Con.pay (con_ist4 hw hEL hmem hS hcz SF rfm TA TH TL W406.old UUF406) W406 (tw hw 25 rfl) (tw hw 24 rfl) (len := 3) (wd := 0) (by decide) (by decide) (fun _ q => nomatch q)) rfl (lenOf pd_18 rfl) rfl (lb rfl) at_256 259 rfl 5 24 (lb rfl) (lb rfl) (lb rfl) (lb rfl) ?_
          intro v407 T407 h407 u407 W407 R407 hq
          obtain ⟨rfl, eh407⟩ := hq
          have ei407 := eh407.symm; subst ei407
          have X408 : Ext h293 h399 := Own.Ext.tr X308 E399
          have X409 : Ext h293 h406 := Own.Ext.kp X408 K406 (allS (Nat.le_trans X308.1 (Nat.le_of_eq g399.symm)) all0)
          have sf410 := R407.safe (V293.ext X409).lt (R406.safe (V293.ext X408).lt (k399 o289 sf313))
          have X411 : Ext h303 h406 := Own.Ext.kp X405 K406 (allS (Nat.le_of_eq g399.symm) all0)
          have sf412 := R407.safe (V303.ext X411).lt (R406.safe (V303.ext X405).lt (k399 o294 sf314))
          have sf413 := R407.safe (A399.keep K406).lt (R406.safe A399.lt s399)
          rw [show b2i (uns [(cc p1), (cc p2), (cc p3), (cc p4)]) = (0 : Int32) from by rw [pure4 (cc p1) (cc p2) (cc p3) (cc p4), hO0, eq_false_of_ne_true hO1]; simp [b2i]]
          show Own.Go _ _ _ _ _ 259 #[.val (.int p0), .val (.int p1), .val (.int p2), .val (.int p3), .val (.int p4), .val (.int 4), .val (.int (cc p1)), .val (.int (cc p2)), .val (.int (cc p3)), .val (.int (cc p4)), .val (.ref o289), .val (.ref o294), .val (.int 0)] [.int 0]
          refine Own.iload W407 at_259 261 rfl 0 rfl ?_
          refine Own.icmpNo W407 at_261 264 (by decide) rfl ?_
          refine Own.iconst W407 at_264 265 rfl 1 rfl ?_
          refine Own.goto W407 at_265 269 (by decide) (by decide) ?_
          exact Own.retB W407 (by decide) (by decide) rfl at_269 rfl rfl
        · skip
          have X414 : Ext h h294 := Own.Ext.tr X300 E294
          have X415 : Ext h h295 := Own.Ext.wr' X414 Q295 (Nat.le_trans X300.1 (Nat.le_of_eq g294.symm))
          have X416 : Ext h h301 := Own.Ext.wr' X415 Q301 (Nat.le_trans X300.1 (Nat.le_of_eq g294.symm))
          have X417 : Ext h h302 := Own.Ext.wr' X416 Q302 (Nat.le_trans X300.1 (Nat.le_of_eq g294.symm))
          have X418 : Ext h h303 := Own.Ext.wr' X417 Q303 (Nat.le_trans X300.1 (Nat.le_of_eq g294.symm))
          have X419 : Ext h303 h399 := E399
          refine Own.callX W399 rfl (tw hw 4 rfl) (tw hw 5 rfl) (tw hw 6 rfl) (by decide) (argsL := [(.ref o294)]) (rest := [(.ref o399)]) (Own.payStr (wS hw) hEL hmem W399 (cs := [(cc p1), (cc p2), (cc p3), (cc p4)]) (z := (4 : Int32)) (cz := cz) (Nat.le_trans W0.n0 (Nat.le_trans X418.1 (Nat.le_of_eq g399.symm))) s399 A399 F399_value F399_coder ((V303.ext X419)) rfl (by intro c hc; simp only [List.mem_cons, List.not_mem_nil, or_false] at hc; rcases hc with rfl | rfl | rfl | rfl; exact ⟨(r16c _).1, fun q => hw255 (Or.inl q)⟩; exact ⟨(r16c _).1, fun q => hw255 (Or.inr (Or.inl q))⟩; exact ⟨(r16c _).1, fun q => hw255 (Or.inr (Or.inr (Or.inl q)))⟩; exact ⟨(r16c _).1, fun q => hw255 (Or.inr (Or.inr (Or.inr (q))))⟩) (lb rfl) hS hcz (len := 3) (wd := 1) (by decide) (by decide)) rfl (lenOf pd_17 rfl) rfl (lb rfl) at_253 256 rfl 7 24 (lb rfl) (lb rfl) (lb rfl) (lb rfl) ?_
          intro v420 T420 h420 u420 W420 R420 hq
          obtain ⟨rfl, K420, F420⟩ := hq
          show Own.Go _ _ _ _ _ 256 #[.val (.int p0), .val (.int p1), .val (.int p2), .val (.int p3), .val (.int p4), .val (.int 4), .val (.int (cc p1)), .val (.int (cc p2)), .val (.int (cc p3)), .val (.int (cc p4)), .val (.ref o289), .val (.ref o294), .val (.int 0)] [(.ref o399)]
          have UUF420 : Own.Uni G.Z h420 o399 [(cc p1), (cc p2), (cc p3), (cc p4)] := Or.inl F420
          show Own.Go _ _ _ _ _ 256 #[.val (.int p0), .val (.int p1), .val (.int p2), .val (.int p3), .val (.int p4), .val (.int 4), .val (.int (cc p1)), .val (.int (cc p2)), .val (.int (cc p3)), .val (.int (cc p4)), .val (.ref o289), .val (.ref o294), .val (.int 0)] [(.ref o399)]
          refine Own.callS W420 (tw hw 22 rfl) (tw hw 23 rfl) (tw hw 24 rfl) (tw hw 25 rfl) (by decide) (argsL := [(.ref o399)]) (rest := []) (Own.Con.pay (con_ist4 hw hEL hmem hS hcz SF rfm TA TH TL W420.old UUF420) W420 (tw hw 25 rfl) (tw hw 24 rfl) (len := 3) (wd := 0) (by decide) (by decide) (fun _ q => nomatch q)) rfl (lenOf pd_18 rfl) rfl (lb rfl) at_256 259 rfl 7 24 (lb rfl) (lb rfl) (lb rfl) (lb rfl) ?_
          intro v421 T421 h421 u421 W421 R421 hq
          obtain ⟨rfl, eh421⟩ := hq
          have ei421 := eh421.symm; subst ei421
          have X422 : Ext h293 h399 := Own.Ext.tr X308 E399
          have X423 : Ext h293 h420 := Own.Ext.kp X422 K420 (allS (Nat.le_trans X308.1 (Nat.le_of_eq g399.symm)) all0)
          have sf424 := R421.safe (V293.ext X423).lt (R420.safe (V293.ext X422).lt (k399 o289 sf313))
          rw [show b2i (uns [(cc p1), (cc p2), (cc p3), (cc p4)]) = (0 : Int32) from by rw [pure4 (cc p1) (cc p2) (cc p3) (cc p4), hO0, eq_false_of_ne_true hO1]; simp [b2i]]
          show Own.Go _ _ _ _ _ 259 #[.val (.int p0), .val (.int p1), .val (.int p2), .val (.int p3), .val (.int p4), .val (.int 4), .val (.int (cc p1)), .val (.int (cc p2)), .val (.int (cc p3)), .val (.int (cc p4)), .val (.ref o289), .val (.ref o294), .val (.int 0)] [.int 0]
          refine Own.iload W421 at_259 261 rfl 0 rfl ?_
          refine Own.icmpNo W421 at_261 264 (by decide) rfl ?_
          refine Own.iconst W421 at_264 265 rfl 1 rfl ?_
          refine Own.goto W421 at_265 269 (by decide) (by decide) ?_
          exact Own.retB W421 (by decide) (by decide) rfl at_269 rfl rfl
    · skip
      rw [b2i_f hO0]
      show Own.Go _ _ _ _ _ 186 #[.val (.int p0), .val (.int p1), .val (.int p2), .val (.int p3), .val (.int p4), .val (.int 4), .val (.int (cc p1)), .val (.int (cc p2)), .val (.int (cc p3)), .val (.int (cc p4)), .val (.ref o289), .val (.ref o294), .unset] [.int 0]
      refine Own.ifYes W309 at_186 244 (by decide) (by decide) (by decide) ?_
      refine Own.iconst W309 at_244 245 rfl 0 rfl ?_
      refine Own.istore W309 at_245 247 rfl #[.val (.int p0), .val (.int p1), .val (.int p2), .val (.int p3), .val (.int p4), .val (.int 4), .val (.int (cc p1)), .val (.int (cc p2)), .val (.int (cc p3)), .val (.int (cc p4)), .val (.ref o289), .val (.ref o294), .val (.int 0)] rfl ?_
      refine Own.newO W309 (tw hw 1 rfl) (tw hw 2 rfl) (tw hw 3 rfl) at_247 250 rfl 3 12 (by decide) (by decide) (by decide) (by decide) ?_
      intro T425 h425 o425 g425 W425 E425 A425 D425 s425 k425
      have F425_value : Fld G.Z h425 o425 "java/lang/String" "value" "[B" .null := D425 (Or.inr (tw hw 16 rfl)) (ty := (.array .byte)) (by decide)
      have F425_coder : Fld G.Z h425 o425 "java/lang/String" "coder" "B" (.int 0) := D425 (Or.inr (tw hw 17 rfl)) (ty := .byte) (by decide)
      refine Own.dup W425 at_250 251 rfl rfl ?_
      refine Own.aload W425 at_251 253 rfl (.ref o294) rfl rfl ?_
      by_cases hw255 : (255 : Int32) < (cc p1) ∨ (255 : Int32) < (cc p2) ∨ (255 : Int32) < (cc p3) ∨ (255 : Int32) < (cc p4)
      · skip
        have X426 : Ext h h294 := Own.Ext.tr X300 E294
        have X427 : Ext h h295 := Own.Ext.wr' X426 Q295 (Nat.le_trans X300.1 (Nat.le_of_eq g294.symm))
        have X428 : Ext h h301 := Own.Ext.wr' X427 Q301 (Nat.le_trans X300.1 (Nat.le_of_eq g294.symm))
        have X429 : Ext h h302 := Own.Ext.wr' X428 Q302 (Nat.le_trans X300.1 (Nat.le_of_eq g294.symm))
        have X430 : Ext h h303 := Own.Ext.wr' X429 Q303 (Nat.le_trans X300.1 (Nat.le_of_eq g294.symm))
        have X431 : Ext h303 h425 := E425
        refine Own.callX W425 rfl (tw hw 4 rfl) (tw hw 5 rfl) (tw hw 6 rfl) (by decide) (argsL := [(.ref o294)]) (rest := [(.ref o425)]) (Own.Con.pay (con_w14 hw hEL hmem hS hcz TA TH TL hEN8 hw255 (r16c _) (r16c _) (r16c _) (r16c _) W425.old (Nat.le_trans W0.n0 (Nat.le_trans X430.1 (Nat.le_of_eq g425.symm))) A425 F425_value F425_coder (V303.ext X431)) W425 (tw hw 6 rfl) (tw hw 3 rfl) (len := 3) (wd := 1) (by decide) (by decide) (fun y hy => by cases List.mem_singleton.mp hy; exact ⟨A425.lt, s425⟩)) rfl (lenOf pd_17 rfl) rfl (lb rfl) at_253 256 rfl 5 24 (lb rfl) (lb rfl) (lb rfl) (lb rfl) ?_
        intro v432 T432 h432 u432 W432 R432 hq
        obtain ⟨rfl, K432, F432⟩ := hq
        have UUF432 : Own.Uni G.Z h432 o425 [(cc p1), (cc p2), (cc p3), (cc p4)] := Or.inr F432
        show Own.Go _ _ _ _ _ 256 #[.val (.int p0), .val (.int p1), .val (.int p2), .val (.int p3), .val (.int p4), .val (.int 4), .val (.int (cc p1)), .val (.int (cc p2)), .val (.int (cc p3)), .val (.int (cc p4)), .val (.ref o289), .val (.ref o294), .val (.int 0)] [(.ref o425)]
        refine Own.callS W432 (tw hw 22 rfl) (tw hw 23 rfl) (tw hw 24 rfl) (tw hw 25 rfl) (by decide) (argsL := [(.ref o425)]) (rest := []) (Own.Con.pay (con_ist4 hw hEL hmem hS hcz SF rfm TA TH TL W432.old UUF432) W432 (tw hw 25 rfl) (tw hw 24 rfl) (len := 3) (wd := 0) (by decide) (by decide) (fun _ q => nomatch q)) rfl (lenOf pd_18 rfl) rfl (lb rfl) at_256 259 rfl 5 24 (lb rfl) (lb rfl) (lb rfl) (lb rfl) ?_
        intro v433 T433 h433 u433 W433 R433 hq
        obtain ⟨rfl, eh433⟩ := hq
        have ei433 := eh433.symm; subst ei433
        have X434 : Ext h293 h425 := Own.Ext.tr X308 E425
        have X435 : Ext h293 h432 := Own.Ext.kp X434 K432 (allS (Nat.le_trans X308.1 (Nat.le_of_eq g425.symm)) all0)
        have sf436 := R433.safe (V293.ext X435).lt (R432.safe (V293.ext X434).lt (k425 o289 sf310))
        have X437 : Ext h303 h432 := Own.Ext.kp X431 K432 (allS (Nat.le_of_eq g425.symm) all0)
        have sf438 := R433.safe (V303.ext X437).lt (R432.safe (V303.ext X431).lt (k425 o294 sf311))
        have sf439 := R433.safe (A425.keep K432).lt (R432.safe A425.lt s425)
        rw [show b2i (uns [(cc p1), (cc p2), (cc p3), (cc p4)]) = (0 : Int32) from by rw [pure4 (cc p1) (cc p2) (cc p3) (cc p4), eq_false_of_ne_true hO0]; simp [b2i]]
        show Own.Go _ _ _ _ _ 259 #[.val (.int p0), .val (.int p1), .val (.int p2), .val (.int p3), .val (.int p4), .val (.int 4), .val (.int (cc p1)), .val (.int (cc p2)), .val (.int (cc p3)), .val (.int (cc p4)), .val (.ref o289), .val (.ref o294), .val (.int 0)] [.int 0]
        refine Own.iload W433 at_259 261 rfl 0 rfl ?_
        refine Own.icmpNo W433 at_261 264 (by decide) rfl ?_
        refine Own.iconst W433 at_264 265 rfl 1 rfl ?_
        refine Own.goto W433 at_265 269 (by decide) (by decide) ?_
        exact Own.retB W433 (by decide) (by decide) rfl at_269 rfl rfl
      · skip
        have X440 : Ext h h294 := Own.Ext.tr X300 E294
        have X441 : Ext h h295 := Own.Ext.wr' X440 Q295 (Nat.le_trans X300.1 (Nat.le_of_eq g294.symm))
        have X442 : Ext h h301 := Own.Ext.wr' X441 Q301 (Nat.le_trans X300.1 (Nat.le_of_eq g294.symm))
        have X443 : Ext h h302 := Own.Ext.wr' X442 Q302 (Nat.le_trans X300.1 (Nat.le_of_eq g294.symm))
        have X444 : Ext h h303 := Own.Ext.wr' X443 Q303 (Nat.le_trans X300.1 (Nat.le_of_eq g294.symm))
        have X445 : Ext h303 h425 := E425
        refine Own.callX W425 rfl (tw hw 4 rfl) (tw hw 5 rfl) (tw hw 6 rfl) (by decide) (argsL := [(.ref o294)]) (rest := [(.ref o425)]) (Own.payStr (wS hw) hEL hmem W425 (cs := [(cc p1), (cc p2), (cc p3), (cc p4)]) (z := (4 : Int32)) (cz := cz) (Nat.le_trans W0.n0 (Nat.le_trans X444.1 (Nat.le_of_eq g425.symm))) s425 A425 F425_value F425_coder ((V303.ext X445)) rfl (by intro c hc; simp only [List.mem_cons, List.not_mem_nil, or_false] at hc; rcases hc with rfl | rfl | rfl | rfl; exact ⟨(r16c _).1, fun q => hw255 (Or.inl q)⟩; exact ⟨(r16c _).1, fun q => hw255 (Or.inr (Or.inl q))⟩; exact ⟨(r16c _).1, fun q => hw255 (Or.inr (Or.inr (Or.inl q)))⟩; exact ⟨(r16c _).1, fun q => hw255 (Or.inr (Or.inr (Or.inr (q))))⟩) (lb rfl) hS hcz (len := 3) (wd := 1) (by decide) (by decide)) rfl (lenOf pd_17 rfl) rfl (lb rfl) at_253 256 rfl 7 24 (lb rfl) (lb rfl) (lb rfl) (lb rfl) ?_
        intro v446 T446 h446 u446 W446 R446 hq
        obtain ⟨rfl, K446, F446⟩ := hq
        show Own.Go _ _ _ _ _ 256 #[.val (.int p0), .val (.int p1), .val (.int p2), .val (.int p3), .val (.int p4), .val (.int 4), .val (.int (cc p1)), .val (.int (cc p2)), .val (.int (cc p3)), .val (.int (cc p4)), .val (.ref o289), .val (.ref o294), .val (.int 0)] [(.ref o425)]
        have UUF446 : Own.Uni G.Z h446 o425 [(cc p1), (cc p2), (cc p3), (cc p4)] := Or.inl F446
        show Own.Go _ _ _ _ _ 256 #[.val (.int p0), .val (.int p1), .val (.int p2), .val (.int p3), .val (.int p4), .val (.int 4), .val (.int (cc p1)), .val (.int (cc p2)), .val (.int (cc p3)), .val (.int (cc p4)), .val (.ref o289), .val (.ref o294), .val (.int 0)] [(.ref o425)]
        refine Own.callS W446 (tw hw 22 rfl) (tw hw 23 rfl) (tw hw 24 rfl) (tw hw 25 rfl) (by decide) (argsL := [(.ref o425)]) (rest := []) (Own.Con.pay (con_ist4 hw hEL hmem hS hcz SF rfm TA TH TL W446.old UUF446) W446 (tw hw 25 rfl) (tw hw 24 rfl) (len := 3) (wd := 0) (by decide) (by decide) (fun _ q => nomatch q)) rfl (lenOf pd_18 rfl) rfl (lb rfl) at_256 259 rfl 7 24 (lb rfl) (lb rfl) (lb rfl) (lb rfl) ?_
        intro v447 T447 h447 u447 W447 R447 hq
        obtain ⟨rfl, eh447⟩ := hq
        have ei447 := eh447.symm; subst ei447
        have X448 : Ext h293 h425 := Own.Ext.tr X308 E425
        have X449 : Ext h293 h446 := Own.Ext.kp X448 K446 (allS (Nat.le_trans X308.1 (Nat.le_of_eq g425.symm)) all0)
        have sf450 := R447.safe (V293.ext X449).lt (R446.safe (V293.ext X448).lt (k425 o289 sf310))
        rw [show b2i (uns [(cc p1), (cc p2), (cc p3), (cc p4)]) = (0 : Int32) from by rw [pure4 (cc p1) (cc p2) (cc p3) (cc p4), eq_false_of_ne_true hO0]; simp [b2i]]
        show Own.Go _ _ _ _ _ 259 #[.val (.int p0), .val (.int p1), .val (.int p2), .val (.int p3), .val (.int p4), .val (.int 4), .val (.int (cc p1)), .val (.int (cc p2)), .val (.int (cc p3)), .val (.int (cc p4)), .val (.ref o289), .val (.ref o294), .val (.int 0)] [.int 0]
        refine Own.iload W447 at_259 261 rfl 0 rfl ?_
        refine Own.icmpNo W447 at_261 264 (by decide) rfl ?_
        refine Own.iconst W447 at_264 265 rfl 1 rfl ?_
        refine Own.goto W447 at_265 269 (by decide) (by decide) ?_
        exact Own.retB W447 (by decide) (by decide) rfl at_269 rfl rfl
  · skip
    rw [en]
    show Own.Go _ _ _ _ _ 9 #[.val (.int p0), .val (.int p1), .val (.int p2), .val (.int p3), .val (.int p4), .val (.int 5), .unset, .unset, .unset, .unset, .unset, .unset, .unset] []
    refine Own.iload W0 at_9 11 rfl 5 rfl ?_
    refine Own.iconst W0 at_11 12 rfl 5 rfl ?_
    refine Own.icmpNo W0 at_12 15 (by decide) rfl ?_
    refine Own.aconstNull W0 at_15 16 rfl ?_
    refine Own.callS W0 (tw hw 22 rfl) (tw hw 23 rfl) (tw hw 24 rfl) (tw hw 25 rfl) (by decide) (argsL := [.null]) (rest := []) (Own.Con.pay (con_istN hw hEL W0.old) W0 (tw hw 25 rfl) (tw hw 24 rfl) (len := 3) (wd := 0) (by decide) (by decide) (fun _ q => nomatch q)) rfl (lenOf pd_18 rfl) rfl (lb rfl) at_16 19 rfl 0 0 (lb rfl) (lb rfl) (lb rfl) (lb rfl) ?_
    intro v451 T451 h451 u451 W451 R451 hq
    obtain ⟨rfl, eh451⟩ := hq
    have ei451 := eh451.symm; subst ei451
    show Own.Go _ _ _ _ _ 19 #[.val (.int p0), .val (.int p1), .val (.int p2), .val (.int p3), .val (.int p4), .val (.int 5), .unset, .unset, .unset, .unset, .unset, .unset, .unset] [.int 1]
    exact Own.retB W451 (by decide) (by decide) rfl at_19 rfl rfl
theorem elW {G : Own.Gl} (hw : ∀ d ∈ tables_1, d.before G.a0 G.Z = true) : EW G.Z G.a0 consts_1 := (EW.cons (tw hw 14 rfl) (by decide +kernel) EW.nil)
theorem enW2 {G : Own.Gl} (hw : ∀ d ∈ tables_1, d.before G.a0 G.Z = true) : Own.EN G.Z G.a0 consts_1 2 := (Own.EN.cons (tw hw 14 rfl) (by decide +kernel) (by decide +kernel) Own.EN.nil)
theorem enW4 {G : Own.Gl} (hw : ∀ d ∈ tables_1, d.before G.a0 G.Z = true) : Own.EN G.Z G.a0 consts_1 4 := (Own.EN.cons (tw hw 14 rfl) (by decide +kernel) (by decide +kernel) Own.EN.nil)
theorem enW6 {G : Own.Gl} (hw : ∀ d ∈ tables_1, d.before G.a0 G.Z = true) : Own.EN G.Z G.a0 consts_1 6 := (Own.EN.cons (tw hw 14 rfl) (by decide +kernel) (by decide +kernel) Own.EN.nil)
theorem enW8 {G : Own.Gl} (hw : ∀ d ∈ tables_1, d.before G.a0 G.Z = true) : Own.EN G.Z G.a0 consts_1 8 := (Own.EN.cons (tw hw 14 rfl) (by decide +kernel) (by decide +kernel) Own.EN.nil)
set_option maxRecDepth 65536 in
set_option maxHeartbeats 40000000 in
theorem comes_1 {Post : Tables → Env → Array Value → State → Outcome → State → Prop} (hpost : ∀ tb e args s v u, (limb_1_1.after args s (.returned v) u = true ∧ limb_1_2.after args s (.returned v) u = true ∧ True) → ReturnedEndW s (.returned v) u (Jvm.fieldLocs frame_1_writes args s ++ Jvm.arrayLocs frame_1_arrays args s ++ Jvm.staticLocs frame_1_statics s) 24 1152 → Post tb e args s (.returned v) u) :
    ArmFor flags0 classFile x code maxLocals ret World_1 tables_1 room_1 Calls_1 rest_1 Pre_1 Post := by
  intro l hfl _ _ p e ha hc hk s m args below hf hA hF happ hP
  obtain ⟨hcalls, hrest, hpre⟩ := hP
  obtain ⟨-, -, -, hnamed, -, -, -, hat⟩ := (Spec.applies_iff hf).mp happ
  obtain ⟨hg, hn⟩ := and_e (Cond.before_iff.mp (show (Jvm.Cond.and given_1 narrow_1).before args s = true from hpre))
  obtain ⟨hcnt, g1⟩ := and_e hg
  obtain ⟨a0, g2⟩ := and_e g1
  obtain ⟨a1, g3⟩ := and_e g2
  obtain ⟨a2, g4⟩ := and_e g3
  obtain ⟨a3, g5⟩ := and_e g4
  have a4 := g5
  obtain ⟨w0, w1, w2, w3, w4, rfl⟩ : ∃ w0 w1 w2 w3 w4 : Value, args = #[w0, w1, w2, w3, w4] := by
    have hs : args.size = 5 := by simpa [Cond.value, given_1] using hcnt
    obtain ⟨L⟩ := args
    match L, hs with
    | [w0, w1, w2, w3, w4], _ => exact ⟨w0, w1, w2, w3, w4, rfl⟩
  have hw := fun d (hd : d ∈ tables_1) => atoms_spec (ws := Jvm.Cond.code x code maxLocals ret :: tables_1) hat d (List.mem_cons_of_mem _ hd)
  have hfit : Fit s := fun {y c} hc i hi => by
    obtain ⟨ha, rfl⟩ := Array.getElem?_eq_some_iff.mp hc
    have q := List.all_eq_true.mp ((Array.all_eq_true_iff_forall_mem.mp hF) _ (Array.getElem_mem ha)) i (List.mem_range.mpr hi)
    simpa [Array.getElem?_eq_getElem hi] using q
  obtain ⟨hsets, hown0⟩ := atoms_of _ (rest_1_c_eq ▸ (show rest_1_c.before _ s = true from hrest))
  obtain ⟨i0, ei0⟩ := is_v a0
  obtain rfl : w0 = (.int i0) := Option.some.inj ei0
  obtain ⟨i1, ei1⟩ := is_v a1
  obtain rfl : w1 = (.int i1) := Option.some.inj ei1
  obtain ⟨i2, ei2⟩ := is_v a2
  obtain rfl : w2 = (.int i2) := Option.some.inj ei2
  obtain ⟨i3, ei3⟩ := is_v a3
  obtain rfl : w3 = (.int i3) := Option.some.inj ei3
  obtain ⟨i4, ei4⟩ := is_v a4
  obtain rfl : w4 = (.int i4) := Option.some.inj ei4
  have n3 := not_v (Cond.before_iff.mp (hsets _ (List.mem_of_getElem? (i := 2) rfl)))
  obtain ⟨cz, ecz⟩ := is_v (Cond.before_iff.mp (hsets _ (List.mem_of_getElem? (i := 1) rfl)))
  have S8 : Sta s s.heap "java/lang/String" "COMPACT_STRINGS" "Z" (.int cz) := Sta.start ecz (Or.inl (hsets _ (List.mem_of_getElem? (i := 0) rfl)))
  have hcz : ¬ (cz = (0 : Int32)) := gotF (Cond.eq_ints ecz (Term.int_eval (0))) n3
  obtain ⟨fm, efm, rfm⟩ := isR_v (Cond.before_iff.mp (hsets _ (List.mem_of_getElem? (i := 8) rfl)))
  have SF : Sta s s.heap "jdk/internal/util/Preconditions" "SIOOBE_FORMATTER" "Ljava/util/function/BiFunction;" fm := Sta.start efm (Or.inl (hsets _ (List.mem_of_getElem? (i := 7) rfl)))
  let G : Own.Gl := (l, s, #[(.int i0), (.int i1), (.int i2), (.int i3), (.int i4)], consts_1, s.heap.size)
  have hw' : ∀ d ∈ tables_1, d.before G.a0 G.Z = true := hw
  have hEL : EW G.Z G.a0 G.EL := elW hw'
  have hcw : Jvm.Lit.compactW.before G.a0 G.Z = true := hsets _ (List.mem_of_getElem? (i := 2) rfl)
  have hCH : CHv G.Z G.EL G.Z.vm G.Z.heap := CHv.start hEL (fun q hq => hcalls.1 q hq) hcw (tw hw' 15 rfl) (tw hw' 2 rfl)
  have TA : Sta s s.heap "java/lang/StringUTF16" "$assertionsDisabled" "Z" (.int 1) := Sta.start (Own.eqI (Cond.before_iff.mp (hsets _ (List.mem_of_getElem? (i := 12) rfl)))) (Or.inl (hsets _ (List.mem_of_getElem? (i := 11) rfl)))
  have TH : Sta s s.heap "java/lang/StringUTF16" "HI_BYTE_SHIFT" "I" (.int 0) := Sta.start (Own.eqI (Cond.before_iff.mp (hsets _ (List.mem_of_getElem? (i := 15) rfl)))) (Or.inl (hsets _ (List.mem_of_getElem? (i := 14) rfl)))
  have TL : Sta s s.heap "java/lang/StringUTF16" "LO_BYTE_SHIFT" "I" (.int 8) := Sta.start (Own.eqI (Cond.before_iff.mp (hsets _ (List.mem_of_getElem? (i := 18) rfl)))) (Or.inl (hsets _ (List.mem_of_getElem? (i := 17) rfl)))
  obtain ⟨n, o, h1, h2, h3, v, L, rfl, ⟨hv, N, -⟩, -, hq⟩ := con_law (G := G) hw' hEL (by show (Own.ST, 7) ∈ consts_1; decide) S8 hcz SF rfm TA TH TL (enW2 hw') (enW4 hw') (enW6 hw') (enW8 hw') i0 i1 i2 i3 i4 (Old.start s) p e ha hc hk s m _ below hf ((Spec.applies_iff_loose hf).mp happ).1 ⟨rfl, State.Warmed39.refl s, rfl, hCH, fun _ q => nomatch q⟩ trivial
  subst hv
  exact ⟨n, _, h1, h2, h3, hpost _ _ _ _ _ _ ⟨Cond.after_iff.mpr rfl, Cond.after_iff.mpr (eq_i res_at (Term.int_eval (1)) rfl), trivial⟩ ⟨hq.1, hq.2.1, hq.2.2.1, (hq.2.2.2.sift fun y hy => Or.inr (N y hy)).mono (by decide) (by decide)⟩⟩
theorem main_1_1 : Claimed_1_1 := comes_1 fun _ _ _ _ _ _ h hF => ⟨h.1, hF⟩
theorem main_1_2 : Claimed_1_2 := comes_1 fun _ _ _ _ _ _ h hF => ⟨h.2.1, hF⟩
end Jvm.Pilot.@@N@@
namespace Jvm.Pilot.@@N@@
open Jvm Jvm.ClassFile Sem Op Lib Jvm.Free Jvm.Stand Jvm.Pilot.@@N@@.Jvm.D
/-! MADE BY PROGRAM (witnessworld.py) out of the Statement's table words and the real class files: 21 classes; the members and pool entries that the words name. The judged class is class 1, her method 4. -/
namespace start1
open Jvm.ClassFile
def u (s : String) : CpInfo := .utf8 (stringToUtf16 s)
/-- a pool by its gaps: so many unusable entries, then the entry; so many at the end -/
def gap : Nat → List CpInfo → List CpInfo
  | 0, r => r
  | n + 1, r => .unusable :: gap n r
def poolList (es : List (Nat × CpInfo)) (last : Nat) : List CpInfo := es.foldr (fun e r => gap e.1 (e.2 :: r)) (gap last [])
def pool (es : List (Nat × CpInfo)) (last : Nat) : Array CpInfo := ⟨poolList es last⟩
def fileOf (pool : Array CpInfo) (this : Nat) (attrs : Array Attribute := #[]) (ms : Array MethodInfo := #[]) (fl : Nat := 33) (sup : Nat := 0) (ifs : Array Nat := #[]) (fds : Array FieldInfo := #[]) : ClassFile where
  minorVersion := 0
  majorVersion := 65
  constantPool := pool
  accessFlags := fl
  thisClass := this
  superClass := sup
  interfaces := ifs
  fields := fds
  methods := ms
  attributes := attrs
def plain (name : String) (sup : Option ClassId) : Class where
  name := name
  kind := .ordinary
  loader := none
  accessFlags := 33
  super := sup
  interfaces := #[]
  cf := none
  fields := #[]
  methods := #[]
  instanceTypes := #[]
  staticTypes := #[]
  resolved := #[]
  callSites := []
  init := .initialized
  statics := none
  mirror := none

def pool0 : Array CpInfo := pool [(5, u "<init>"), (0, u "()V"), (1, .class_ 10), (1, u "java/lang/Object")] 113

def k0c0 : Code := { maxStack := 0, maxLocals := 1, code := object_method_1_code, exceptionTable := #[], attributes := #[] }
def k0m0 : Method := { name := "<init>", desc := "()V", sig := { parameters := [], returnType := none }, accessFlags := 1, code := some k0c0 }
/-- java/lang/Object -/
def k0 : Class := { plain "java/lang/Object" none with
  accessFlags := 33
  interfaces := #[]
  cf := some (fileOf pool0 8 #[] #[{ accessFlags := 1, nameIndex := 5, descriptorIndex := 6, attributes := #[] }] 33 0 #[] #[])
  fields := #[]
  methods := #[k0m0]
  instanceTypes := #[]
  staticTypes := #[]
  resolved := Array.replicate 124 none
  statics := none }

def pool1 : Array CpInfo := pool [(2, .class_ 4), (1, u "java/lang/Object"), (0, u "<init>"), (0, u "()V"), (0, .integer 55296), (0, .integer 56319), (0, .integer 56320), (0, .integer 57343), (0, .methodref 12 13), (0, .class_ 14), (0, .nameAndType 15 16), (0, u "com/example/drudge/drudge/task/StorableTextIsStorablePinLaw"), (0, u "high"), (0, u "(C)Z"), (0, .methodref 12 18), (0, .nameAndType 19 16), (0, u "low"), (0, .methodref 21 22), (0, .class_ 23), (0, .nameAndType 24 25), (0, u "com/example/drudge/drudge/task/StorableText"), (0, u "isStorable"), (0, u "(Ljava/lang/String;)Z"), (0, .methodref 12 27), (0, .nameAndType 28 29), (0, u "ok"), (0, u "([CII)Z"), (0, .class_ 31), (0, u "java/lang/String"), (0, .methodref 30 33), (0, .nameAndType 5 34), (0, u "([C)V"), (3, u "law"), (0, u "(IIIII)Z")] 4

def k1m0 : Method := { name := "<init>", desc := "()V", sig := { parameters := [], returnType := none }, accessFlags := 2, code := none }
def k1c1 : Code := { maxStack := 2, maxLocals := 1, code := method_2_code, exceptionTable := #[], attributes := #[] }
def k1m1 : Method := { name := "high", desc := "(C)Z", sig := { parameters := [.char], returnType := some .boolean }, accessFlags := 10, code := some k1c1 }
def k1c2 : Code := { maxStack := 2, maxLocals := 1, code := method_3_code, exceptionTable := #[], attributes := #[] }
def k1m2 : Method := { name := "low", desc := "(C)Z", sig := { parameters := [.char], returnType := some .boolean }, accessFlags := 10, code := some k1c2 }
def k1c3 : Code := { maxStack := 3, maxLocals := 4, code := method_4_code, exceptionTable := #[], attributes := #[] }
def k1m3 : Method := { name := "ok", desc := "([CII)Z", sig := { parameters := [(.array .char), .int, .int], returnType := some .boolean }, accessFlags := 10, code := some k1c3 }
def k1c4 : Code := { maxStack := 4, maxLocals := 13, code := code, exceptionTable := #[], attributes := #[] }
def k1m4 : Method := { name := "law", desc := "(IIIII)Z", sig := { parameters := [.int, .int, .int, .int, .int], returnType := some .boolean }, accessFlags := 9, code := some k1c4 }
/-- com/example/drudge/drudge/task/StorableTextIsStorablePinLaw -/
def k1 : Class := { plain "com/example/drudge/drudge/task/StorableTextIsStorablePinLaw" (some 0) with
  accessFlags := 49
  interfaces := #[]
  cf := some (fileOf pool1 12 #[] #[{ accessFlags := 2, nameIndex := 5, descriptorIndex := 6, attributes := #[] }, { accessFlags := 10, nameIndex := 15, descriptorIndex := 16, attributes := #[] }, { accessFlags := 10, nameIndex := 19, descriptorIndex := 16, attributes := #[] }, { accessFlags := 10, nameIndex := 28, descriptorIndex := 29, attributes := #[] }, { accessFlags := 9, nameIndex := 38, descriptorIndex := 39, attributes := #[] }] 49 2 #[] #[])
  fields := #[]
  methods := #[k1m0, k1m1, k1m2, k1m3, k1m4]
  instanceTypes := #[]
  staticTypes := #[]
  resolved := Array.replicate 44 none
  statics := none }

def pool2 : Array CpInfo := pool [(1, .class_ 2), (0, u "java/io/Serializable"), (0, .class_ 4), (0, u "java/lang/Object")] 2

/-- java/io/Serializable -/
def k2 : Class := { plain "java/io/Serializable" (some 0) with
  accessFlags := 1537
  interfaces := #[]
  cf := some (fileOf pool2 1 #[] #[] 1537 3 #[] #[])
  fields := #[]
  methods := #[]
  instanceTypes := #[]
  staticTypes := #[]
  resolved := Array.replicate 7 none
  statics := none }

def pool3 : Array CpInfo := pool [(1, .class_ 2), (0, u "java/lang/Comparable"), (0, .class_ 4), (0, u "java/lang/Object")] 7

/-- java/lang/Comparable -/
def k3 : Class := { plain "java/lang/Comparable" (some 0) with
  accessFlags := 1537
  interfaces := #[]
  cf := some (fileOf pool3 1 #[] #[] 1537 3 #[] #[])
  fields := #[]
  methods := #[]
  instanceTypes := #[]
  staticTypes := #[]
  resolved := Array.replicate 12 none
  statics := none }

def pool4 : Array CpInfo := pool [(2, .class_ 4), (1, u "java/lang/CharSequence"), (42, .class_ 48), (0, u "java/lang/CharSequence$1CodePointIterator"), (10, .class_ 60), (0, u "java/lang/CharSequence$1CharIterator"), (5, .class_ 67), (0, u "java/lang/Object")] 63

/-- java/lang/CharSequence -/
def k4 : Class := { plain "java/lang/CharSequence" (some 0) with
  accessFlags := 1537
  interfaces := #[]
  cf := some (fileOf pool4 2 #[.nestMembers #[47, 59]] #[] 1537 66 #[] #[])
  fields := #[]
  methods := #[]
  instanceTypes := #[]
  staticTypes := #[]
  resolved := Array.replicate 131 none
  statics := none }

def pool5 : Array CpInfo := pool [(1, .class_ 2), (0, u "java/lang/constant/Constable"), (0, .class_ 4), (0, u "java/lang/Object")] 6

/-- java/lang/constant/Constable -/
def k5 : Class := { plain "java/lang/constant/Constable" (some 0) with
  accessFlags := 1537
  interfaces := #[]
  cf := some (fileOf pool5 1 #[] #[] 1537 3 #[] #[])
  fields := #[]
  methods := #[]
  instanceTypes := #[]
  staticTypes := #[]
  resolved := Array.replicate 11 none
  statics := none }

def pool6 : Array CpInfo := pool [(1, .class_ 2), (0, u "java/lang/constant/ConstantDesc"), (0, .class_ 4), (0, u "java/lang/Object")] 32

/-- java/lang/constant/ConstantDesc -/
def k6 : Class := { plain "java/lang/constant/ConstantDesc" (some 0) with
  accessFlags := 1537
  interfaces := #[]
  cf := some (fileOf pool6 1 #[] #[] 1537 3 #[] #[])
  fields := #[]
  methods := #[]
  instanceTypes := #[]
  staticTypes := #[]
  resolved := Array.replicate 37 none
  statics := none }

def pool7 : Array CpInfo := pool [(1, .methodref 2 3), (0, .class_ 4), (0, .nameAndType 5 6), (0, u "java/lang/Object"), (0, u "<init>"), (0, u "()V"), (0, .string 8), (0, u ""), (0, .fieldref 10 11), (0, .class_ 12), (0, .nameAndType 13 14), (0, u "java/lang/String"), (0, u "value"), (0, u "[B"), (0, .fieldref 10 16), (0, .nameAndType 17 18), (0, u "coder"), (0, u "B"), (2, u "hash"), (0, u "I"), (2, u "hashIsZero"), (0, u "Z"), (0, .methodref 10 28), (0, .nameAndType 5 29), (0, u "([CIILjava/lang/Void;)V"), (8, .fieldref 10 39), (0, .nameAndType 40 26), (0, u "COMPACT_STRINGS"), (1, .class_ 44), (1, u "java/lang/StringUTF16"), (0, u "compress"), (1, .methodref 42 48), (0, .nameAndType 49 50), (0, u "coderFromArrayLen"), (0, u "([BI)B"), (56, .class_ 109), (1, u "java/lang/StringLatin1"), (32, u "()Z"), (34, .methodref 42 178), (0, .nameAndType 45 179), (0, u "([CII)[B"), (154, u "()I"), (0, .methodref 10 336), (0, .nameAndType 17 337), (0, u "()B"), (25, u "([BI)C"), (27, u "(II)V"), (35, u "(I)C"), (64, .methodref 10 493), (0, .nameAndType 494 142), (0, u "isLatin1"), (0, .methodref 107 496), (0, .nameAndType 497 363), (0, u "charAt"), (0, .methodref 42 496), (2, u "checkIndex"), (5, u "length"), (67, .class_ 576), (0, u "java/lang/CharSequence"), (22, u "CASE_INSENSITIVE_ORDER"), (0, u "Ljava/util/Comparator;"), (409, u "([C)V"), (42, .fieldref 1054 1055), (0, .class_ 1056), (0, .nameAndType 1057 1058), (0, u "jdk/internal/util/Preconditions"), (0, u "SIOOBE_FORMATTER"), (0, u "Ljava/util/function/BiFunction;"), (0, .methodref 1054 1060), (0, .nameAndType 501 1061), (0, u "(IILjava/util/function/BiFunction;)I"), (39, u "serialPersistentFields"), (0, u "[Ljava/io/ObjectStreamField;"), (0, .class_ 1104), (0, u "java/lang/String$CaseInsensitiveComparator"), (1, .class_ 1107), (0, u "java/io/Serializable"), (0, .class_ 1109), (0, u "java/lang/Comparable"), (0, .class_ 1111), (0, u "java/lang/constant/Constable"), (0, .class_ 1113), (0, u "java/lang/constant/ConstantDesc"), (2, u "serialVersionUID"), (0, u "J"), (3, u "REPL"), (0, u "C"), (2, u "LATIN1"), (1, u "UTF16")] 323

def k7m0 : Method := { name := "<init>", desc := "()V", sig := { parameters := [], returnType := none }, accessFlags := 1, code := none }
def k7c1 : Code := { maxStack := 5, maxLocals := 2, code := jdk_42_method_3_code, exceptionTable := #[], attributes := #[] }
def k7m1 : Method := { name := "<init>", desc := "([C)V", sig := { parameters := [(.array .char)], returnType := none }, accessFlags := 1, code := some k7c1 }
def k7c2 : Code := { maxStack := 2, maxLocals := 1, code := jdk_42_method_54_code, exceptionTable := #[], attributes := #[] }
def k7m2 : Method := { name := "length", desc := "()I", sig := { parameters := [], returnType := some .int }, accessFlags := 1, code := some k7c2 }
def k7c3 : Code := { maxStack := 2, maxLocals := 2, code := jdk_42_method_56_code, exceptionTable := #[], attributes := #[] }
def k7m3 : Method := { name := "charAt", desc := "(I)C", sig := { parameters := [.int], returnType := some .char }, accessFlags := 1, code := some k7c3 }
def k7c4 : Code := { maxStack := 4, maxLocals := 6, code := jdk_42_method_149_code, exceptionTable := #[], attributes := #[] }
def k7m4 : Method := { name := "<init>", desc := "([CIILjava/lang/Void;)V", sig := { parameters := [(.array .char), .int, .int, (.object "java/lang/Void")], returnType := none }, accessFlags := 2, code := some k7c4 }
def k7c5 : Code := { maxStack := 1, maxLocals := 1, code := jdk_42_method_152_code, exceptionTable := #[], attributes := #[] }
def k7m5 : Method := { name := "coder", desc := "()B", sig := { parameters := [], returnType := some .byte }, accessFlags := 0, code := some k7c5 }
def k7c6 : Code := { maxStack := 1, maxLocals := 1, code := jdk_42_method_154_code, exceptionTable := #[], attributes := #[] }
def k7m6 : Method := { name := "isLatin1", desc := "()Z", sig := { parameters := [], returnType := some .boolean }, accessFlags := 0, code := some k7c6 }
def k7c7 : Code := { maxStack := 3, maxLocals := 2, code := jdk_42_method_155_code, exceptionTable := #[], attributes := #[] }
def k7m7 : Method := { name := "checkIndex", desc := "(II)V", sig := { parameters := [.int, .int], returnType := none }, accessFlags := 8, code := some k7c7 }
/-- java/lang/String -/
def k7 : Class := { plain "java/lang/String" (some 0) with
  accessFlags := 49
  interfaces := #[2, 3, 4, 5, 6]
  cf := some (fileOf pool7 10 #[.nestMembers #[1103]] #[{ accessFlags := 1, nameIndex := 5, descriptorIndex := 6, attributes := #[] }, { accessFlags := 1, nameIndex := 5, descriptorIndex := 1010, attributes := #[] }, { accessFlags := 1, nameIndex := 507, descriptorIndex := 334, attributes := #[] }, { accessFlags := 1, nameIndex := 497, descriptorIndex := 427, attributes := #[] }, { accessFlags := 2, nameIndex := 5, descriptorIndex := 29, attributes := #[] }, { accessFlags := 0, nameIndex := 17, descriptorIndex := 337, attributes := #[] }, { accessFlags := 0, nameIndex := 494, descriptorIndex := 142, attributes := #[] }, { accessFlags := 8, nameIndex := 501, descriptorIndex := 391, attributes := #[] }] 49 2 #[1106, 1108, 575, 1110, 1112] #[{ accessFlags := 18, nameIndex := 13, descriptorIndex := 14, attributes := #[] }, { accessFlags := 18, nameIndex := 17, descriptorIndex := 18, attributes := #[] }, { accessFlags := 2, nameIndex := 21, descriptorIndex := 22, attributes := #[] }, { accessFlags := 2, nameIndex := 25, descriptorIndex := 26, attributes := #[] }, { accessFlags := 26, nameIndex := 1116, descriptorIndex := 1117, attributes := #[] }, { accessFlags := 24, nameIndex := 40, descriptorIndex := 26, attributes := #[] }, { accessFlags := 26, nameIndex := 1101, descriptorIndex := 1102, attributes := #[] }, { accessFlags := 26, nameIndex := 1121, descriptorIndex := 1122, attributes := #[] }, { accessFlags := 25, nameIndex := 599, descriptorIndex := 600, attributes := #[] }, { accessFlags := 24, nameIndex := 1125, descriptorIndex := 18, attributes := #[] }, { accessFlags := 24, nameIndex := 1127, descriptorIndex := 18, attributes := #[] }])
  fields := #[{ name := "value", type := (.array .byte), accessFlags := 18, slot := 0, constantValue := 0 }, { name := "coder", type := .byte, accessFlags := 18, slot := 1, constantValue := 0 }, { name := "hash", type := .int, accessFlags := 2, slot := 2, constantValue := 0 }, { name := "hashIsZero", type := .boolean, accessFlags := 2, slot := 3, constantValue := 0 }, { name := "serialVersionUID", type := .long, accessFlags := 26, slot := 0, constantValue := 0 }, { name := "COMPACT_STRINGS", type := .boolean, accessFlags := 24, slot := 1, constantValue := 0 }, { name := "serialPersistentFields", type := (.array (.object "java/io/ObjectStreamField")), accessFlags := 26, slot := 2, constantValue := 0 }, { name := "REPL", type := .char, accessFlags := 26, slot := 3, constantValue := 0 }, { name := "CASE_INSENSITIVE_ORDER", type := (.object "java/util/Comparator"), accessFlags := 25, slot := 4, constantValue := 0 }, { name := "LATIN1", type := .byte, accessFlags := 24, slot := 5, constantValue := 0 }, { name := "UTF16", type := .byte, accessFlags := 24, slot := 6, constantValue := 0 }]
  methods := #[k7m0, k7m1, k7m2, k7m3, k7m4, k7m5, k7m6, k7m7]
  instanceTypes := #[(.array .byte), .byte, .int, .boolean]
  staticTypes := #[.long, .boolean, (.array (.object "java/io/ObjectStreamField")), .char, (.object "java/util/Comparator"), .byte, .byte]
  resolved := Array.replicate 1451 none
  statics := some 0 }

def pool8 : Array CpInfo := pool [(2, .class_ 4), (1, u "java/lang/Object"), (0, u "<init>"), (0, u "()V"), (0, .methodref 8 9), (0, .class_ 10), (0, .nameAndType 11 12), (0, u "com/example/drudge/drudge/task/StorableText"), (0, u "unstorableAt"), (0, u "(Ljava/lang/String;I)I"), (2, u "isStorable"), (0, u "(Ljava/lang/String;)Z"), (21, .methodref 39 40), (0, .class_ 41), (0, .nameAndType 42 43), (0, u "java/lang/String"), (0, u "length"), (0, u "()I"), (0, .methodref 39 45), (0, .nameAndType 46 47), (0, u "charAt"), (0, u "(I)C"), (0, .methodref 49 50), (0, .class_ 51), (0, .nameAndType 52 53), (0, u "java/lang/Character"), (0, u "isHighSurrogate"), (0, u "(C)Z"), (0, .methodref 49 55), (0, .nameAndType 56 53), (0, u "isLowSurrogate"), (0, .methodref 49 58), (0, .nameAndType 59 53), (0, u "isSurrogate"), (0, u "UNSTORABLE"), (0, u "Ljava/lang/String;")] 26

def k8m0 : Method := { name := "<init>", desc := "()V", sig := { parameters := [], returnType := none }, accessFlags := 2, code := none }
def k8c1 : Code := { maxStack := 2, maxLocals := 1, code := prog_60_method_2_code, exceptionTable := #[], attributes := #[] }
def k8m1 : Method := { name := "isStorable", desc := "(Ljava/lang/String;)Z", sig := { parameters := [(.object "java/lang/String")], returnType := some .boolean }, accessFlags := 9, code := some k8c1 }
def k8c2 : Code := { maxStack := 3, maxLocals := 5, code := prog_60_method_5_code, exceptionTable := #[], attributes := #[] }
def k8m2 : Method := { name := "unstorableAt", desc := "(Ljava/lang/String;I)I", sig := { parameters := [(.object "java/lang/String"), .int], returnType := some .int }, accessFlags := 10, code := some k8c2 }
/-- com/example/drudge/drudge/task/StorableText -/
def k8 : Class := { plain "com/example/drudge/drudge/task/StorableText" (some 0) with
  accessFlags := 49
  interfaces := #[]
  cf := some (fileOf pool8 8 #[] #[{ accessFlags := 2, nameIndex := 5, descriptorIndex := 6, attributes := #[] }, { accessFlags := 9, nameIndex := 15, descriptorIndex := 16, attributes := #[] }, { accessFlags := 10, nameIndex := 11, descriptorIndex := 12, attributes := #[] }] 49 2 #[] #[{ accessFlags := 24, nameIndex := 60, descriptorIndex := 61, attributes := #[] }])
  fields := #[{ name := "UNSTORABLE", type := (.object "java/lang/String"), accessFlags := 24, slot := 0, constantValue := 0 }]
  methods := #[k8m0, k8m1, k8m2]
  instanceTypes := #[]
  staticTypes := #[(.object "java/lang/String")]
  resolved := Array.replicate 88 none
  statics := none }

def pool9 : Array CpInfo := pool [(3, .class_ 4), (0, u "java/lang/String"), (1, .class_ 8), (1, u "java/lang/Object"), (0, u "<init>"), (0, u "()V"), (0, .methodref 12 13), (0, .class_ 14), (0, .nameAndType 15 16), (0, u "java/lang/StringUTF16"), (0, u "newBytesLength"), (0, u "(I)I"), (3, .integer 1073741823), (23, .fieldref 12 45), (0, .nameAndType 46 47), (0, u "$assertionsDisabled"), (0, u "Z"), (0, .methodref 12 49), (0, .nameAndType 50 51), (0, u "length"), (0, u "([B)I"), (7, .fieldref 12 60), (0, .nameAndType 61 62), (0, u "HI_BYTE_SHIFT"), (0, u "I"), (0, .fieldref 12 64), (0, .nameAndType 65 62), (0, u "LO_BYTE_SHIFT"), (1, .methodref 12 68), (0, .nameAndType 69 70), (0, u "checkIndex"), (0, u "(I[B)V"), (0, .methodref 12 72), (0, .nameAndType 73 74), (0, u "getChar"), (0, u "([BI)C"), (32, .methodref 12 108), (0, .nameAndType 109 110), (0, u "newBytesFor"), (0, u "(I)[B"), (0, .methodref 12 112), (0, .nameAndType 113 114), (0, u "putChar"), (0, u "([BII)V"), (0, .methodref 12 116), (0, .nameAndType 117 118), (0, u "compress"), (0, u "([CI[BII)I"), (0, .methodref 12 120), (0, .nameAndType 121 122), (0, u "toBytes"), (0, u "([CII)[B"), (138, u "coderFromArrayLen"), (0, u "([BI)B"), (106, .class_ 371), (1, u "java/lang/StringUTF16$LinesSpliterator"), (20, u "charAt"), (21, .methodref 3 415), (0, .nameAndType 69 416), (0, u "(II)V"), (13, u "MAX_LENGTH"), (196, .class_ 628), (0, u "java/lang/StringUTF16$CodePointsSpliterator"), (0, .class_ 630), (0, u "java/lang/StringUTF16$CharsSpliterator")] 4

def k9m0 : Method := { name := "<init>", desc := "()V", sig := { parameters := [], returnType := none }, accessFlags := 0, code := none }
def k9c1 : Code := { maxStack := 1, maxLocals := 1, code := jdk_52_method_2_code, exceptionTable := #[], attributes := #[] }
def k9m1 : Method := { name := "newBytesFor", desc := "(I)[B", sig := { parameters := [.int], returnType := some (.array .byte) }, accessFlags := 9, code := some k9c1 }
def k9c2 : Code := { maxStack := 4, maxLocals := 1, code := jdk_52_method_3_code, exceptionTable := #[], attributes := #[] }
def k9m2 : Method := { name := "newBytesLength", desc := "(I)I", sig := { parameters := [.int], returnType := some .int }, accessFlags := 9, code := some k9c2 }
def k9c3 : Code := { maxStack := 4, maxLocals := 3, code := jdk_52_method_4_code, exceptionTable := #[], attributes := #[] }
def k9m3 : Method := { name := "putChar", desc := "([BII)V", sig := { parameters := [(.array .byte), .int, .int], returnType := none }, accessFlags := 8, code := some k9c3 }
def k9c4 : Code := { maxStack := 3, maxLocals := 2, code := jdk_52_method_5_code, exceptionTable := #[], attributes := #[] }
def k9m4 : Method := { name := "getChar", desc := "([BI)C", sig := { parameters := [(.array .byte), .int], returnType := some .char }, accessFlags := 8, code := some k9c4 }
def k9c5 : Code := { maxStack := 2, maxLocals := 1, code := jdk_52_method_6_code, exceptionTable := #[], attributes := #[] }
def k9m5 : Method := { name := "length", desc := "([B)I", sig := { parameters := [(.array .byte)], returnType := some .int }, accessFlags := 9, code := some k9c5 }
def k9c6 : Code := { maxStack := 4, maxLocals := 5, code := jdk_52_method_14_code, exceptionTable := #[], attributes := #[] }
def k9m6 : Method := { name := "toBytes", desc := "([CII)[B", sig := { parameters := [(.array .char), .int, .int], returnType := some (.array .byte) }, accessFlags := 9, code := some k9c6 }
def k9c7 : Code := { maxStack := 2, maxLocals := 2, code := jdk_52_method_15_code, exceptionTable := #[], attributes := #[] }
def k9m7 : Method := { name := "coderFromArrayLen", desc := "([BI)B", sig := { parameters := [(.array .byte), .int], returnType := some .byte }, accessFlags := 8, code := some k9c7 }
def k9c8 : Code := { maxStack := 5, maxLocals := 6, code := jdk_52_method_16_code, exceptionTable := #[], attributes := #[] }
def k9m8 : Method := { name := "compress", desc := "([CII)[B", sig := { parameters := [(.array .char), .int, .int], returnType := some (.array .byte) }, accessFlags := 9, code := some k9c8 }
def k9c9 : Code := { maxStack := 3, maxLocals := 7, code := jdk_52_method_21_code, exceptionTable := #[], attributes := #[] }
def k9m9 : Method := { name := "compress", desc := "([CI[BII)I", sig := { parameters := [(.array .char), .int, (.array .byte), .int, .int], returnType := some .int }, accessFlags := 9, code := some k9c9 }
def k9c10 : Code := { maxStack := 2, maxLocals := 2, code := jdk_52_method_83_code, exceptionTable := #[], attributes := #[] }
def k9m10 : Method := { name := "charAt", desc := "([BI)C", sig := { parameters := [(.array .byte), .int], returnType := some .char }, accessFlags := 9, code := some k9c10 }
def k9c11 : Code := { maxStack := 2, maxLocals := 2, code := jdk_52_method_91_code, exceptionTable := #[], attributes := #[] }
def k9m11 : Method := { name := "checkIndex", desc := "(I[B)V", sig := { parameters := [.int, (.array .byte)], returnType := none }, accessFlags := 9, code := some k9c11 }
/-- java/lang/StringUTF16 -/
def k9 : Class := { plain "java/lang/StringUTF16" (some 0) with
  accessFlags := 48
  interfaces := #[]
  cf := some (fileOf pool9 12 #[.nestMembers #[627, 629, 369]] #[{ accessFlags := 0, nameIndex := 9, descriptorIndex := 10, attributes := #[] }, { accessFlags := 9, nameIndex := 109, descriptorIndex := 110, attributes := #[] }, { accessFlags := 9, nameIndex := 15, descriptorIndex := 16, attributes := #[] }, { accessFlags := 8, nameIndex := 113, descriptorIndex := 114, attributes := #[] }, { accessFlags := 8, nameIndex := 73, descriptorIndex := 74, attributes := #[] }, { accessFlags := 9, nameIndex := 50, descriptorIndex := 51, attributes := #[] }, { accessFlags := 9, nameIndex := 121, descriptorIndex := 122, attributes := #[] }, { accessFlags := 8, nameIndex := 261, descriptorIndex := 262, attributes := #[] }, { accessFlags := 9, nameIndex := 117, descriptorIndex := 122, attributes := #[] }, { accessFlags := 9, nameIndex := 117, descriptorIndex := 118, attributes := #[] }, { accessFlags := 9, nameIndex := 392, descriptorIndex := 74, attributes := #[] }, { accessFlags := 9, nameIndex := 69, descriptorIndex := 70, attributes := #[] }] 48 6 #[] #[{ accessFlags := 26, nameIndex := 61, descriptorIndex := 62, attributes := #[] }, { accessFlags := 26, nameIndex := 65, descriptorIndex := 62, attributes := #[] }, { accessFlags := 24, nameIndex := 430, descriptorIndex := 62, attributes := #[] }, { accessFlags := 4120, nameIndex := 46, descriptorIndex := 47, attributes := #[] }])
  fields := #[{ name := "HI_BYTE_SHIFT", type := .int, accessFlags := 26, slot := 0, constantValue := 0 }, { name := "LO_BYTE_SHIFT", type := .int, accessFlags := 26, slot := 1, constantValue := 0 }, { name := "MAX_LENGTH", type := .int, accessFlags := 24, slot := 2, constantValue := 0 }, { name := "$assertionsDisabled", type := .boolean, accessFlags := 4120, slot := 3, constantValue := 0 }]
  methods := #[k9m0, k9m1, k9m2, k9m3, k9m4, k9m5, k9m6, k9m7, k9m8, k9m9, k9m10, k9m11]
  instanceTypes := #[]
  staticTypes := #[.int, .int, .int, .boolean]
  resolved := Array.replicate 635 none
  statics := some 1 }

def pool10 : Array CpInfo := pool [(1, .class_ 2), (0, u "java/lang/String"), (1, .class_ 6), (1, u "java/lang/Object"), (0, u "<init>"), (0, u "()V"), (0, .methodref 1 10), (0, .nameAndType 11 12), (0, u "checkIndex"), (0, u "(II)V"), (1, .class_ 16), (1, u "java/lang/StringLatin1"), (36, u "([BI)C"), (67, u "$assertionsDisabled"), (0, u "Z"), (98, .class_ 223), (1, u "java/lang/StringLatin1$LinesSpliterator"), (28, u "charAt"), (137, .class_ 391), (0, u "java/lang/StringLatin1$CharsSpliterator")] 3

def k10m0 : Method := { name := "<init>", desc := "()V", sig := { parameters := [], returnType := none }, accessFlags := 0, code := none }
def k10c1 : Code := { maxStack := 2, maxLocals := 2, code := jdk_43_method_2_code, exceptionTable := #[], attributes := #[] }
def k10m1 : Method := { name := "charAt", desc := "([BI)C", sig := { parameters := [(.array .byte), .int], returnType := some .char }, accessFlags := 9, code := some k10c1 }
/-- java/lang/StringLatin1 -/
def k10 : Class := { plain "java/lang/StringLatin1" (some 0) with
  accessFlags := 48
  interfaces := #[]
  cf := some (fileOf pool10 14 #[.nestMembers #[390, 221]] #[{ accessFlags := 0, nameIndex := 7, descriptorIndex := 8, attributes := #[] }, { accessFlags := 9, nameIndex := 252, descriptorIndex := 53, attributes := #[] }] 48 4 #[] #[{ accessFlags := 4120, nameIndex := 121, descriptorIndex := 122, attributes := #[] }])
  fields := #[{ name := "$assertionsDisabled", type := .boolean, accessFlags := 4120, slot := 0, constantValue := 0 }]
  methods := #[k10m0, k10m1]
  instanceTypes := #[]
  staticTypes := #[.boolean]
  resolved := Array.replicate 395 none
  statics := none }

def pool11 : Array CpInfo := pool [(2, .class_ 4), (1, u "java/lang/Object"), (0, u "<init>"), (0, u "()V"), (17, .class_ 26), (1, u "jdk/internal/util/Preconditions"), (6, u "checkIndex"), (21, .class_ 56), (0, u "jdk/internal/util/Preconditions$4"), (57, .class_ 115), (0, u "jdk/internal/util/Preconditions$1"), (7, u "SIOOBE_FORMATTER"), (0, u "Ljava/util/function/BiFunction;"), (0, .class_ 126), (0, u "jdk/internal/util/Preconditions$2"), (3, u "AIOOBE_FORMATTER"), (0, .class_ 132), (0, u "jdk/internal/util/Preconditions$3"), (3, u "IOOBE_FORMATTER"), (41, u "(IILjava/util/function/BiFunction;)I")] 15

def k11m0 : Method := { name := "<init>", desc := "()V", sig := { parameters := [], returnType := none }, accessFlags := 1, code := none }
def k11c1 : Code := { maxStack := 3, maxLocals := 3, code := jdk_41_method_11_code, exceptionTable := #[], attributes := #[] }
def k11m1 : Method := { name := "checkIndex", desc := "(IILjava/util/function/BiFunction;)I", sig := { parameters := [.int, .int, (.object "java/util/function/BiFunction")], returnType := some .int }, accessFlags := 9, code := some k11c1 }
/-- jdk/internal/util/Preconditions -/
def k11 : Class := { plain "jdk/internal/util/Preconditions" (some 0) with
  accessFlags := 33
  interfaces := #[]
  cf := some (fileOf pool11 24 #[.nestMembers #[55, 131, 125, 114]] #[{ accessFlags := 1, nameIndex := 5, descriptorIndex := 6, attributes := #[] }, { accessFlags := 9, nameIndex := 33, descriptorIndex := 178, attributes := #[] }] 33 2 #[] #[{ accessFlags := 25, nameIndex := 123, descriptorIndex := 124, attributes := #[] }, { accessFlags := 25, nameIndex := 130, descriptorIndex := 124, attributes := #[] }, { accessFlags := 25, nameIndex := 136, descriptorIndex := 124, attributes := #[] }])
  fields := #[{ name := "SIOOBE_FORMATTER", type := (.object "java/util/function/BiFunction"), accessFlags := 25, slot := 0, constantValue := 0 }, { name := "AIOOBE_FORMATTER", type := (.object "java/util/function/BiFunction"), accessFlags := 25, slot := 1, constantValue := 0 }, { name := "IOOBE_FORMATTER", type := (.object "java/util/function/BiFunction"), accessFlags := 25, slot := 2, constantValue := 0 }]
  methods := #[k11m0, k11m1]
  instanceTypes := #[]
  staticTypes := #[(.object "java/util/function/BiFunction"), (.object "java/util/function/BiFunction"), (.object "java/util/function/BiFunction")]
  resolved := Array.replicate 194 none
  statics := some 2 }

def pool12 : Array CpInfo := pool [(1, .class_ 2), (0, u "java/lang/Character"), (18, u "value"), (0, u "C"), (19, .class_ 44), (1, u "java/lang/Object"), (3, .class_ 50), (1, u "java/lang/Character$CharacterCache"), (24, .integer 55296), (0, .integer 56320), (0, .integer 57344), (2, u "isHighSurrogate"), (0, u "(C)Z"), (2, u "isLowSurrogate"), (199, u "$assertionsDisabled"), (0, u "Z"), (21, .class_ 309), (1, u "java/lang/Character$UnicodeBlock"), (73, u "TYPE"), (0, u "Ljava/lang/Class;"), (0, .class_ 386), (0, u "java/io/Serializable"), (0, .class_ 388), (0, u "java/lang/Comparable"), (0, .class_ 390), (0, u "java/lang/constant/Constable"), (0, u "MIN_RADIX"), (0, u "I"), (2, u "MAX_RADIX"), (1, u "MIN_VALUE"), (1, u "MAX_VALUE"), (3, u "UNASSIGNED"), (0, u "B"), (0, u "UPPERCASE_LETTER"), (1, u "LOWERCASE_LETTER"), (0, u "TITLECASE_LETTER"), (1, u "MODIFIER_LETTER"), (1, u "OTHER_LETTER"), (1, u "NON_SPACING_MARK"), (1, u "ENCLOSING_MARK"), (1, u "COMBINING_SPACING_MARK"), (1, u "DECIMAL_DIGIT_NUMBER"), (1, u "LETTER_NUMBER"), (1, u "OTHER_NUMBER"), (1, u "SPACE_SEPARATOR"), (1, u "LINE_SEPARATOR"), (1, u "PARAGRAPH_SEPARATOR"), (1, u "CONTROL"), (1, u "FORMAT"), (1, u "PRIVATE_USE"), (1, u "SURROGATE"), (1, u "DASH_PUNCTUATION"), (1, u "START_PUNCTUATION"), (1, u "END_PUNCTUATION"), (1, u "CONNECTOR_PUNCTUATION"), (1, u "OTHER_PUNCTUATION"), (1, u "MATH_SYMBOL"), (1, u "CURRENCY_SYMBOL"), (1, u "MODIFIER_SYMBOL"), (1, u "OTHER_SYMBOL"), (1, u "INITIAL_QUOTE_PUNCTUATION"), (1, u "FINAL_QUOTE_PUNCTUATION"), (1, u "ERROR"), (1, u "DIRECTIONALITY_UNDEFINED"), (0, u "DIRECTIONALITY_LEFT_TO_RIGHT"), (0, u "DIRECTIONALITY_RIGHT_TO_LEFT"), (0, u "DIRECTIONALITY_RIGHT_TO_LEFT_ARABIC"), (0, u "DIRECTIONALITY_EUROPEAN_NUMBER"), (0, u "DIRECTIONALITY_EUROPEAN_NUMBER_SEPARATOR"), (0, u "DIRECTIONALITY_EUROPEAN_NUMBER_TERMINATOR"), (0, u "DIRECTIONALITY_ARABIC_NUMBER"), (0, u "DIRECTIONALITY_COMMON_NUMBER_SEPARATOR"), (0, u "DIRECTIONALITY_NONSPACING_MARK"), (0, u "DIRECTIONALITY_BOUNDARY_NEUTRAL"), (0, u "DIRECTIONALITY_PARAGRAPH_SEPARATOR"), (0, u "DIRECTIONALITY_SEGMENT_SEPARATOR"), (0, u "DIRECTIONALITY_WHITESPACE"), (0, u "DIRECTIONALITY_OTHER_NEUTRALS"), (0, u "DIRECTIONALITY_LEFT_TO_RIGHT_EMBEDDING"), (0, u "DIRECTIONALITY_LEFT_TO_RIGHT_OVERRIDE"), (0, u "DIRECTIONALITY_RIGHT_TO_LEFT_EMBEDDING"), (0, u "DIRECTIONALITY_RIGHT_TO_LEFT_OVERRIDE"), (1, u "DIRECTIONALITY_POP_DIRECTIONAL_FORMAT"), (0, u "DIRECTIONALITY_LEFT_TO_RIGHT_ISOLATE"), (0, u "DIRECTIONALITY_RIGHT_TO_LEFT_ISOLATE"), (0, u "DIRECTIONALITY_FIRST_STRONG_ISOLATE"), (0, u "DIRECTIONALITY_POP_DIRECTIONAL_ISOLATE"), (0, u "MIN_HIGH_SURROGATE"), (0, u "MAX_HIGH_SURROGATE"), (1, u "MIN_LOW_SURROGATE"), (0, u "MAX_LOW_SURROGATE"), (1, u "MIN_SURROGATE"), (0, u "MAX_SURROGATE"), (0, u "MIN_SUPPLEMENTARY_CODE_POINT"), (0, u "MIN_CODE_POINT"), (0, u "MAX_CODE_POINT"), (1, u "serialVersionUID"), (0, u "J"), (2, u "SIZE"), (0, u "BYTES"), (24, u "isSurrogate"), (63, .class_ 596), (0, u "java/lang/Character$UnicodeScript"), (0, .class_ 598), (0, u "java/lang/Character$Subset")] 5

def k12c0 : Code := { maxStack := 2, maxLocals := 1, code := jdk_89_method_14_code, exceptionTable := #[], attributes := #[] }
def k12m0 : Method := { name := "isHighSurrogate", desc := "(C)Z", sig := { parameters := [.char], returnType := some .boolean }, accessFlags := 9, code := some k12c0 }
def k12c1 : Code := { maxStack := 2, maxLocals := 1, code := jdk_89_method_15_code, exceptionTable := #[], attributes := #[] }
def k12m1 : Method := { name := "isLowSurrogate", desc := "(C)Z", sig := { parameters := [.char], returnType := some .boolean }, accessFlags := 9, code := some k12c1 }
def k12c2 : Code := { maxStack := 2, maxLocals := 1, code := jdk_89_method_16_code, exceptionTable := #[], attributes := #[] }
def k12m2 : Method := { name := "isSurrogate", desc := "(C)Z", sig := { parameters := [.char], returnType := some .boolean }, accessFlags := 9, code := some k12c2 }
/-- java/lang/Character -/
def k12 : Class := { plain "java/lang/Character" (some 0) with
  accessFlags := 49
  interfaces := #[2, 3, 5]
  cf := some (fileOf pool12 1 #[.nestMembers #[48, 595, 307, 597]] #[{ accessFlags := 9, nameIndex := 80, descriptorIndex := 81, attributes := #[] }, { accessFlags := 9, nameIndex := 84, descriptorIndex := 81, attributes := #[] }, { accessFlags := 9, nameIndex := 531, descriptorIndex := 81, attributes := #[] }] 49 42 #[385, 387, 389] #[{ accessFlags := 25, nameIndex := 391, descriptorIndex := 392, attributes := #[] }, { accessFlags := 25, nameIndex := 395, descriptorIndex := 392, attributes := #[] }, { accessFlags := 25, nameIndex := 397, descriptorIndex := 22, attributes := #[] }, { accessFlags := 25, nameIndex := 399, descriptorIndex := 22, attributes := #[] }, { accessFlags := 25, nameIndex := 383, descriptorIndex := 384, attributes := #[] }, { accessFlags := 25, nameIndex := 403, descriptorIndex := 404, attributes := #[] }, { accessFlags := 25, nameIndex := 405, descriptorIndex := 404, attributes := #[] }, { accessFlags := 25, nameIndex := 407, descriptorIndex := 404, attributes := #[] }, { accessFlags := 25, nameIndex := 408, descriptorIndex := 404, attributes := #[] }, { accessFlags := 25, nameIndex := 410, descriptorIndex := 404, attributes := #[] }, { accessFlags := 25, nameIndex := 412, descriptorIndex := 404, attributes := #[] }, { accessFlags := 25, nameIndex := 414, descriptorIndex := 404, attributes := #[] }, { accessFlags := 25, nameIndex := 416, descriptorIndex := 404, attributes := #[] }, { accessFlags := 25, nameIndex := 418, descriptorIndex := 404, attributes := #[] }, { accessFlags := 25, nameIndex := 420, descriptorIndex := 404, attributes := #[] }, { accessFlags := 25, nameIndex := 422, descriptorIndex := 404, attributes := #[] }, { accessFlags := 25, nameIndex := 424, descriptorIndex := 404, attributes := #[] }, { accessFlags := 25, nameIndex := 426, descriptorIndex := 404, attributes := #[] }, { accessFlags := 25, nameIndex := 428, descriptorIndex := 404, attributes := #[] }, { accessFlags := 25, nameIndex := 430, descriptorIndex := 404, attributes := #[] }, { accessFlags := 25, nameIndex := 432, descriptorIndex := 404, attributes := #[] }, { accessFlags := 25, nameIndex := 434, descriptorIndex := 404, attributes := #[] }, { accessFlags := 25, nameIndex := 436, descriptorIndex := 404, attributes := #[] }, { accessFlags := 25, nameIndex := 438, descriptorIndex := 404, attributes := #[] }, { accessFlags := 25, nameIndex := 440, descriptorIndex := 404, attributes := #[] }, { accessFlags := 25, nameIndex := 442, descriptorIndex := 404, attributes := #[] }, { accessFlags := 25, nameIndex := 444, descriptorIndex := 404, attributes := #[] }, { accessFlags := 25, nameIndex := 446, descriptorIndex := 404, attributes := #[] }, { accessFlags := 25, nameIndex := 448, descriptorIndex := 404, attributes := #[] }, { accessFlags := 25, nameIndex := 450, descriptorIndex := 404, attributes := #[] }, { accessFlags := 25, nameIndex := 452, descriptorIndex := 404, attributes := #[] }, { accessFlags := 25, nameIndex := 454, descriptorIndex := 404, attributes := #[] }, { accessFlags := 25, nameIndex := 456, descriptorIndex := 404, attributes := #[] }, { accessFlags := 25, nameIndex := 458, descriptorIndex := 404, attributes := #[] }, { accessFlags := 25, nameIndex := 460, descriptorIndex := 404, attributes := #[] }, { accessFlags := 24, nameIndex := 462, descriptorIndex := 392, attributes := #[] }, { accessFlags := 25, nameIndex := 464, descriptorIndex := 404, attributes := #[] }, { accessFlags := 25, nameIndex := 465, descriptorIndex := 404, attributes := #[] }, { accessFlags := 25, nameIndex := 466, descriptorIndex := 404, attributes := #[] }, { accessFlags := 25, nameIndex := 467, descriptorIndex := 404, attributes := #[] }, { accessFlags := 25, nameIndex := 468, descriptorIndex := 404, attributes := #[] }, { accessFlags := 25, nameIndex := 469, descriptorIndex := 404, attributes := #[] }, { accessFlags := 25, nameIndex := 470, descriptorIndex := 404, attributes := #[] }, { accessFlags := 25, nameIndex := 471, descriptorIndex := 404, attributes := #[] }, { accessFlags := 25, nameIndex := 472, descriptorIndex := 404, attributes := #[] }, { accessFlags := 25, nameIndex := 473, descriptorIndex := 404, attributes := #[] }, { accessFlags := 25, nameIndex := 474, descriptorIndex := 404, attributes := #[] }, { accessFlags := 25, nameIndex := 475, descriptorIndex := 404, attributes := #[] }, { accessFlags := 25, nameIndex := 476, descriptorIndex := 404, attributes := #[] }, { accessFlags := 25, nameIndex := 477, descriptorIndex := 404, attributes := #[] }, { accessFlags := 25, nameIndex := 478, descriptorIndex := 404, attributes := #[] }, { accessFlags := 25, nameIndex := 479, descriptorIndex := 404, attributes := #[] }, { accessFlags := 25, nameIndex := 480, descriptorIndex := 404, attributes := #[] }, { accessFlags := 25, nameIndex := 481, descriptorIndex := 404, attributes := #[] }, { accessFlags := 25, nameIndex := 482, descriptorIndex := 404, attributes := #[] }, { accessFlags := 25, nameIndex := 484, descriptorIndex := 404, attributes := #[] }, { accessFlags := 25, nameIndex := 485, descriptorIndex := 404, attributes := #[] }, { accessFlags := 25, nameIndex := 486, descriptorIndex := 404, attributes := #[] }, { accessFlags := 25, nameIndex := 487, descriptorIndex := 404, attributes := #[] }, { accessFlags := 25, nameIndex := 488, descriptorIndex := 404, attributes := #[] }, { accessFlags := 25, nameIndex := 489, descriptorIndex := 22, attributes := #[] }, { accessFlags := 25, nameIndex := 490, descriptorIndex := 22, attributes := #[] }, { accessFlags := 25, nameIndex := 492, descriptorIndex := 22, attributes := #[] }, { accessFlags := 25, nameIndex := 493, descriptorIndex := 22, attributes := #[] }, { accessFlags := 25, nameIndex := 495, descriptorIndex := 22, attributes := #[] }, { accessFlags := 25, nameIndex := 496, descriptorIndex := 22, attributes := #[] }, { accessFlags := 25, nameIndex := 497, descriptorIndex := 392, attributes := #[] }, { accessFlags := 25, nameIndex := 498, descriptorIndex := 392, attributes := #[] }, { accessFlags := 25, nameIndex := 499, descriptorIndex := 392, attributes := #[] }, { accessFlags := 18, nameIndex := 21, descriptorIndex := 22, attributes := #[] }, { accessFlags := 26, nameIndex := 501, descriptorIndex := 502, attributes := #[] }, { accessFlags := 25, nameIndex := 505, descriptorIndex := 392, attributes := #[] }, { accessFlags := 25, nameIndex := 506, descriptorIndex := 392, attributes := #[] }, { accessFlags := 4120, nameIndex := 284, descriptorIndex := 285, attributes := #[] }])
  fields := #[{ name := "MIN_RADIX", type := .int, accessFlags := 25, slot := 0, constantValue := 0 }, { name := "MAX_RADIX", type := .int, accessFlags := 25, slot := 1, constantValue := 0 }, { name := "MIN_VALUE", type := .char, accessFlags := 25, slot := 2, constantValue := 0 }, { name := "MAX_VALUE", type := .char, accessFlags := 25, slot := 3, constantValue := 0 }, { name := "TYPE", type := (.object "java/lang/Class"), accessFlags := 25, slot := 4, constantValue := 0 }, { name := "UNASSIGNED", type := .byte, accessFlags := 25, slot := 5, constantValue := 0 }, { name := "UPPERCASE_LETTER", type := .byte, accessFlags := 25, slot := 6, constantValue := 0 }, { name := "LOWERCASE_LETTER", type := .byte, accessFlags := 25, slot := 7, constantValue := 0 }, { name := "TITLECASE_LETTER", type := .byte, accessFlags := 25, slot := 8, constantValue := 0 }, { name := "MODIFIER_LETTER", type := .byte, accessFlags := 25, slot := 9, constantValue := 0 }, { name := "OTHER_LETTER", type := .byte, accessFlags := 25, slot := 10, constantValue := 0 }, { name := "NON_SPACING_MARK", type := .byte, accessFlags := 25, slot := 11, constantValue := 0 }, { name := "ENCLOSING_MARK", type := .byte, accessFlags := 25, slot := 12, constantValue := 0 }, { name := "COMBINING_SPACING_MARK", type := .byte, accessFlags := 25, slot := 13, constantValue := 0 }, { name := "DECIMAL_DIGIT_NUMBER", type := .byte, accessFlags := 25, slot := 14, constantValue := 0 }, { name := "LETTER_NUMBER", type := .byte, accessFlags := 25, slot := 15, constantValue := 0 }, { name := "OTHER_NUMBER", type := .byte, accessFlags := 25, slot := 16, constantValue := 0 }, { name := "SPACE_SEPARATOR", type := .byte, accessFlags := 25, slot := 17, constantValue := 0 }, { name := "LINE_SEPARATOR", type := .byte, accessFlags := 25, slot := 18, constantValue := 0 }, { name := "PARAGRAPH_SEPARATOR", type := .byte, accessFlags := 25, slot := 19, constantValue := 0 }, { name := "CONTROL", type := .byte, accessFlags := 25, slot := 20, constantValue := 0 }, { name := "FORMAT", type := .byte, accessFlags := 25, slot := 21, constantValue := 0 }, { name := "PRIVATE_USE", type := .byte, accessFlags := 25, slot := 22, constantValue := 0 }, { name := "SURROGATE", type := .byte, accessFlags := 25, slot := 23, constantValue := 0 }, { name := "DASH_PUNCTUATION", type := .byte, accessFlags := 25, slot := 24, constantValue := 0 }, { name := "START_PUNCTUATION", type := .byte, accessFlags := 25, slot := 25, constantValue := 0 }, { name := "END_PUNCTUATION", type := .byte, accessFlags := 25, slot := 26, constantValue := 0 }, { name := "CONNECTOR_PUNCTUATION", type := .byte, accessFlags := 25, slot := 27, constantValue := 0 }, { name := "OTHER_PUNCTUATION", type := .byte, accessFlags := 25, slot := 28, constantValue := 0 }, { name := "MATH_SYMBOL", type := .byte, accessFlags := 25, slot := 29, constantValue := 0 }, { name := "CURRENCY_SYMBOL", type := .byte, accessFlags := 25, slot := 30, constantValue := 0 }, { name := "MODIFIER_SYMBOL", type := .byte, accessFlags := 25, slot := 31, constantValue := 0 }, { name := "OTHER_SYMBOL", type := .byte, accessFlags := 25, slot := 32, constantValue := 0 }, { name := "INITIAL_QUOTE_PUNCTUATION", type := .byte, accessFlags := 25, slot := 33, constantValue := 0 }, { name := "FINAL_QUOTE_PUNCTUATION", type := .byte, accessFlags := 25, slot := 34, constantValue := 0 }, { name := "ERROR", type := .int, accessFlags := 24, slot := 35, constantValue := 0 }, { name := "DIRECTIONALITY_UNDEFINED", type := .byte, accessFlags := 25, slot := 36, constantValue := 0 }, { name := "DIRECTIONALITY_LEFT_TO_RIGHT", type := .byte, accessFlags := 25, slot := 37, constantValue := 0 }, { name := "DIRECTIONALITY_RIGHT_TO_LEFT", type := .byte, accessFlags := 25, slot := 38, constantValue := 0 }, { name := "DIRECTIONALITY_RIGHT_TO_LEFT_ARABIC", type := .byte, accessFlags := 25, slot := 39, constantValue := 0 }, { name := "DIRECTIONALITY_EUROPEAN_NUMBER", type := .byte, accessFlags := 25, slot := 40, constantValue := 0 }, { name := "DIRECTIONALITY_EUROPEAN_NUMBER_SEPARATOR", type := .byte, accessFlags := 25, slot := 41, constantValue := 0 }, { name := "DIRECTIONALITY_EUROPEAN_NUMBER_TERMINATOR", type := .byte, accessFlags := 25, slot := 42, constantValue := 0 }, { name := "DIRECTIONALITY_ARABIC_NUMBER", type := .byte, accessFlags := 25, slot := 43, constantValue := 0 }, { name := "DIRECTIONALITY_COMMON_NUMBER_SEPARATOR", type := .byte, accessFlags := 25, slot := 44, constantValue := 0 }, { name := "DIRECTIONALITY_NONSPACING_MARK", type := .byte, accessFlags := 25, slot := 45, constantValue := 0 }, { name := "DIRECTIONALITY_BOUNDARY_NEUTRAL", type := .byte, accessFlags := 25, slot := 46, constantValue := 0 }, { name := "DIRECTIONALITY_PARAGRAPH_SEPARATOR", type := .byte, accessFlags := 25, slot := 47, constantValue := 0 }, { name := "DIRECTIONALITY_SEGMENT_SEPARATOR", type := .byte, accessFlags := 25, slot := 48, constantValue := 0 }, { name := "DIRECTIONALITY_WHITESPACE", type := .byte, accessFlags := 25, slot := 49, constantValue := 0 }, { name := "DIRECTIONALITY_OTHER_NEUTRALS", type := .byte, accessFlags := 25, slot := 50, constantValue := 0 }, { name := "DIRECTIONALITY_LEFT_TO_RIGHT_EMBEDDING", type := .byte, accessFlags := 25, slot := 51, constantValue := 0 }, { name := "DIRECTIONALITY_LEFT_TO_RIGHT_OVERRIDE", type := .byte, accessFlags := 25, slot := 52, constantValue := 0 }, { name := "DIRECTIONALITY_RIGHT_TO_LEFT_EMBEDDING", type := .byte, accessFlags := 25, slot := 53, constantValue := 0 }, { name := "DIRECTIONALITY_RIGHT_TO_LEFT_OVERRIDE", type := .byte, accessFlags := 25, slot := 54, constantValue := 0 }, { name := "DIRECTIONALITY_POP_DIRECTIONAL_FORMAT", type := .byte, accessFlags := 25, slot := 55, constantValue := 0 }, { name := "DIRECTIONALITY_LEFT_TO_RIGHT_ISOLATE", type := .byte, accessFlags := 25, slot := 56, constantValue := 0 }, { name := "DIRECTIONALITY_RIGHT_TO_LEFT_ISOLATE", type := .byte, accessFlags := 25, slot := 57, constantValue := 0 }, { name := "DIRECTIONALITY_FIRST_STRONG_ISOLATE", type := .byte, accessFlags := 25, slot := 58, constantValue := 0 }, { name := "DIRECTIONALITY_POP_DIRECTIONAL_ISOLATE", type := .byte, accessFlags := 25, slot := 59, constantValue := 0 }, { name := "MIN_HIGH_SURROGATE", type := .char, accessFlags := 25, slot := 60, constantValue := 0 }, { name := "MAX_HIGH_SURROGATE", type := .char, accessFlags := 25, slot := 61, constantValue := 0 }, { name := "MIN_LOW_SURROGATE", type := .char, accessFlags := 25, slot := 62, constantValue := 0 }, { name := "MAX_LOW_SURROGATE", type := .char, accessFlags := 25, slot := 63, constantValue := 0 }, { name := "MIN_SURROGATE", type := .char, accessFlags := 25, slot := 64, constantValue := 0 }, { name := "MAX_SURROGATE", type := .char, accessFlags := 25, slot := 65, constantValue := 0 }, { name := "MIN_SUPPLEMENTARY_CODE_POINT", type := .int, accessFlags := 25, slot := 66, constantValue := 0 }, { name := "MIN_CODE_POINT", type := .int, accessFlags := 25, slot := 67, constantValue := 0 }, { name := "MAX_CODE_POINT", type := .int, accessFlags := 25, slot := 68, constantValue := 0 }, { name := "value", type := .char, accessFlags := 18, slot := 0, constantValue := 0 }, { name := "serialVersionUID", type := .long, accessFlags := 26, slot := 69, constantValue := 0 }, { name := "SIZE", type := .int, accessFlags := 25, slot := 70, constantValue := 0 }, { name := "BYTES", type := .int, accessFlags := 25, slot := 71, constantValue := 0 }, { name := "$assertionsDisabled", type := .boolean, accessFlags := 4120, slot := 72, constantValue := 0 }]
  methods := #[k12m0, k12m1, k12m2]
  instanceTypes := #[.char]
  staticTypes := #[.int, .int, .char, .char, (.object "java/lang/Class"), .byte, .byte, .byte, .byte, .byte, .byte, .byte, .byte, .byte, .byte, .byte, .byte, .byte, .byte, .byte, .byte, .byte, .byte, .byte, .byte, .byte, .byte, .byte, .byte, .byte, .byte, .byte, .byte, .byte, .byte, .int, .byte, .byte, .byte, .byte, .byte, .byte, .byte, .byte, .byte, .byte, .byte, .byte, .byte, .byte, .byte, .byte, .byte, .byte, .byte, .byte, .byte, .byte, .byte, .byte, .char, .char, .char, .char, .char, .char, .int, .int, .int, .long, .int, .int, .boolean]
  resolved := Array.replicate 604 none
  statics := none }

def pool13 : Array CpInfo := pool [(9, u "<init>"), (6, .class_ 18), (1, u "java/lang/Object"), (0, u "()V"), (1, .class_ 23), (1, u "jdk/internal/util/ArraysSupport"), (0, u "LOG2_ARRAY_LONG_INDEX_SCALE"), (0, u "I"), (2, u "U"), (0, u "Ljdk/internal/misc/Unsafe;"), (8, u "BIG_ENDIAN"), (0, u "Z"), (8, u "LOG2_BYTE_BIT_SIZE"), (4, u "LOG2_ARRAY_INT_INDEX_SCALE"), (54, u "JLA"), (0, u "Ljdk/internal/access/JavaLangAccess;"), (11, u "LOG2_ARRAY_BOOLEAN_INDEX_SCALE"), (9, u "LOG2_ARRAY_BYTE_INDEX_SCALE"), (5, u "LOG2_ARRAY_CHAR_INDEX_SCALE"), (5, u "LOG2_ARRAY_SHORT_INDEX_SCALE"), (18, u "LOG2_ARRAY_FLOAT_INDEX_SCALE"), (24, u "LOG2_ARRAY_DOUBLE_INDEX_SCALE"), (89, u "T_BOOLEAN"), (2, u "T_CHAR"), (1, u "T_FLOAT"), (1, u "T_DOUBLE"), (1, u "T_BYTE"), (1, u "T_SHORT"), (1, u "T_INT"), (1, u "T_LONG"), (1, u "SOFT_MAX_ARRAY_LENGTH")] 83

def k13m0 : Method := { name := "<init>", desc := "()V", sig := { parameters := [], returnType := none }, accessFlags := 2, code := none }
/-- jdk/internal/util/ArraysSupport -/
def k13 : Class := { plain "jdk/internal/util/ArraysSupport" (some 0) with
  accessFlags := 33
  interfaces := #[]
  cf := some (fileOf pool13 21 #[] #[{ accessFlags := 2, nameIndex := 9, descriptorIndex := 19, attributes := #[] }] 33 16 #[] #[{ accessFlags := 24, nameIndex := 28, descriptorIndex := 29, attributes := #[] }, { accessFlags := 26, nameIndex := 38, descriptorIndex := 39, attributes := #[] }, { accessFlags := 25, nameIndex := 121, descriptorIndex := 25, attributes := #[] }, { accessFlags := 25, nameIndex := 131, descriptorIndex := 25, attributes := #[] }, { accessFlags := 25, nameIndex := 137, descriptorIndex := 25, attributes := #[] }, { accessFlags := 25, nameIndex := 143, descriptorIndex := 25, attributes := #[] }, { accessFlags := 25, nameIndex := 53, descriptorIndex := 25, attributes := #[] }, { accessFlags := 25, nameIndex := 24, descriptorIndex := 25, attributes := #[] }, { accessFlags := 25, nameIndex := 162, descriptorIndex := 25, attributes := #[] }, { accessFlags := 25, nameIndex := 187, descriptorIndex := 25, attributes := #[] }, { accessFlags := 26, nameIndex := 48, descriptorIndex := 25, attributes := #[] }, { accessFlags := 25, nameIndex := 277, descriptorIndex := 25, attributes := #[] }, { accessFlags := 25, nameIndex := 280, descriptorIndex := 25, attributes := #[] }, { accessFlags := 25, nameIndex := 282, descriptorIndex := 25, attributes := #[] }, { accessFlags := 25, nameIndex := 284, descriptorIndex := 25, attributes := #[] }, { accessFlags := 25, nameIndex := 286, descriptorIndex := 25, attributes := #[] }, { accessFlags := 25, nameIndex := 288, descriptorIndex := 25, attributes := #[] }, { accessFlags := 25, nameIndex := 290, descriptorIndex := 25, attributes := #[] }, { accessFlags := 25, nameIndex := 292, descriptorIndex := 25, attributes := #[] }, { accessFlags := 26, nameIndex := 108, descriptorIndex := 109, attributes := #[] }, { accessFlags := 25, nameIndex := 294, descriptorIndex := 25, attributes := #[] }])
  fields := #[{ name := "U", type := (.object "jdk/internal/misc/Unsafe"), accessFlags := 24, slot := 0, constantValue := 0 }, { name := "BIG_ENDIAN", type := .boolean, accessFlags := 26, slot := 1, constantValue := 0 }, { name := "LOG2_ARRAY_BOOLEAN_INDEX_SCALE", type := .int, accessFlags := 25, slot := 2, constantValue := 0 }, { name := "LOG2_ARRAY_BYTE_INDEX_SCALE", type := .int, accessFlags := 25, slot := 3, constantValue := 0 }, { name := "LOG2_ARRAY_CHAR_INDEX_SCALE", type := .int, accessFlags := 25, slot := 4, constantValue := 0 }, { name := "LOG2_ARRAY_SHORT_INDEX_SCALE", type := .int, accessFlags := 25, slot := 5, constantValue := 0 }, { name := "LOG2_ARRAY_INT_INDEX_SCALE", type := .int, accessFlags := 25, slot := 6, constantValue := 0 }, { name := "LOG2_ARRAY_LONG_INDEX_SCALE", type := .int, accessFlags := 25, slot := 7, constantValue := 0 }, { name := "LOG2_ARRAY_FLOAT_INDEX_SCALE", type := .int, accessFlags := 25, slot := 8, constantValue := 0 }, { name := "LOG2_ARRAY_DOUBLE_INDEX_SCALE", type := .int, accessFlags := 25, slot := 9, constantValue := 0 }, { name := "LOG2_BYTE_BIT_SIZE", type := .int, accessFlags := 26, slot := 10, constantValue := 0 }, { name := "T_BOOLEAN", type := .int, accessFlags := 25, slot := 11, constantValue := 0 }, { name := "T_CHAR", type := .int, accessFlags := 25, slot := 12, constantValue := 0 }, { name := "T_FLOAT", type := .int, accessFlags := 25, slot := 13, constantValue := 0 }, { name := "T_DOUBLE", type := .int, accessFlags := 25, slot := 14, constantValue := 0 }, { name := "T_BYTE", type := .int, accessFlags := 25, slot := 15, constantValue := 0 }, { name := "T_SHORT", type := .int, accessFlags := 25, slot := 16, constantValue := 0 }, { name := "T_INT", type := .int, accessFlags := 25, slot := 17, constantValue := 0 }, { name := "T_LONG", type := .int, accessFlags := 25, slot := 18, constantValue := 0 }, { name := "JLA", type := (.object "jdk/internal/access/JavaLangAccess"), accessFlags := 26, slot := 19, constantValue := 0 }, { name := "SOFT_MAX_ARRAY_LENGTH", type := .int, accessFlags := 25, slot := 20, constantValue := 0 }]
  methods := #[k13m0]
  instanceTypes := #[]
  staticTypes := #[(.object "jdk/internal/misc/Unsafe"), .boolean, .int, .int, .int, .int, .int, .int, .int, .int, .int, .int, .int, .int, .int, .int, .int, .int, .int, (.object "jdk/internal/access/JavaLangAccess"), .int]
  resolved := Array.replicate 378 none
  statics := none }

def pool14 : Array CpInfo := pool [(1, u "java/lang/Cloneable"), (0, .class_ 1), (0, u "java/lang/Object"), (0, .class_ 3)] 3

/-- java/lang/Cloneable -/
def k14 : Class := { plain "java/lang/Cloneable" (some 0) with
  accessFlags := 1537
  interfaces := #[]
  cf := some (fileOf pool14 2 #[] #[] 1537 4 #[] #[])
  fields := #[]
  methods := #[]
  instanceTypes := #[]
  staticTypes := #[]
  resolved := Array.replicate 8 none
  statics := none }

/-- the primitive byte -/
def k15 : Class := { plain "byte" none with kind := .primitive 'B', accessFlags := 0x411 }
/-- [B -/
def k16 : Class := { plain "[B" (some 0) with kind := .array 15 .byte, interfaces := #[14, 2], accessFlags := 1041 }

/-- the primitive char -/
def k17 : Class := { plain "char" none with kind := .primitive 'C', accessFlags := 0x411 }
/-- [C -/
def k18 : Class := { plain "[C" (some 0) with kind := .array 17 .char, interfaces := #[14, 2], accessFlags := 1041 }

/-- the primitive int -/
def k19 : Class := { plain "int" none with kind := .primitive 'I', accessFlags := 0x411 }
/-- [I -/
def k20 : Class := { plain "[I" (some 0) with kind := .array 19 .int, interfaces := #[14, 2], accessFlags := 1041 }

def heap : Heap := #[{ cls := 7, slots := #[.long 0, .int 1, .null, .int 0, .null, .int 0, .int 0], vm := .statics 7 },
  { cls := 9, slots := #[.int 0, .int 8, .int 0, .int 1], vm := .statics 9 },
  { cls := 11, slots := #[.null, .null, .null], vm := .statics 11 }]
def classes : Array Class := #[k0, k1, k2, k3, k4, k5, k6, k7, k8, k9, k10, k11, k12, k13, k14, k15, k16, k17, k18, k19, k20]
def interned : List (Array UInt16 × Addr) := []
def slotsUsed : Nat := 14
def theMethod : MethodId := ⟨1, 4⟩
def args0 : Array Value := #[.int 3, .int 65, .int 66, .int 67, .int 68]
def aboutOver (below : List Frame) : State where
  vm := { classes := classes, interned := interned.toArray }
  heap := heap
  slotsUsed := slotsUsed
  threads := #[{ frames := .invoking theMethod args0 :: below }]
def below0 : List Frame := [.native { method := ⟨0, 0⟩, args := #[] }]
def about1 : State := aboutOver below0
def p0 : Program := .bare "" "" ""
def e0 : Env := launch0.env 0 0 0
theorem w_frames : about1.frames = Frame.invoking theMethod args0 :: below0 := rfl
set_option maxRecDepth 65536 in
theorem w_args : argsFit about1.vm theMethod args0 = true := by decide +kernel
set_option maxRecDepth 65536 in
theorem w_heap : heapFits about1 = true := by decide +kernel
set_option maxRecDepth 65536 in
theorem w_runnable : about1.curStatus? = some .runnable := by decide +kernel
set_option maxRecDepth 65536 in
theorem w_alone : about1.alone = true := by decide +kernel
set_option maxRecDepth 65536 in
theorem w_named : about1.methodNamed? x = some theMethod := by decide +kernel
set_option maxRecDepth 65536 in
theorem w_hears : about1.hears theMethod below0 = true := by decide +kernel
set_option maxRecDepth 65536 in
theorem w_ripe : about1.ripe theMethod args0 below0 = true := by decide +kernel
theorem w_running : about1.status = .running := rfl
set_option maxRecDepth 65536 in
theorem w_room : about1.hasRoom e0.platform room_1 = true :=
  launch0.hasRoom_least _ room_1 (by decide +kernel) (by decide +kernel) (by decide +kernel) (by decide +kernel) (by decide +kernel) (by decide +kernel)
theorem allAtoms_all (ts : List Jvm.Cond) (a : Array Jvm.Value) (st : Jvm.State) : (allAtoms ts).before a st = ts.all (fun c => c.before a st) := by
  induction ts with
  | nil => rfl
  | cons c t ih =>
    show (Jvm.Cond.and c (allAtoms t)).before a st = _
    rw [Jvm.Cond.before_and, ih, List.all_cons]
def words1 : List Jvm.Cond := Jvm.Cond.code x code maxLocals ret :: tables_1
/-- a 'code' word, met by the world's own term for the bytes: nothing is compared byte by byte -/
theorem code_word {y : MethodName} {bytes : ByteArray} {mx : Nat} {rt : Option FieldType} {a : Array Value} {s : State} {m : MethodId} {meth : Method} {c : Code} (h1 : s.methodNamed? y = some m) (h2 : s.vm.method? m = some meth) (h3 : meth.code = some c) (h4 : c.code = bytes)
    (h5 : (c.maxLocals == mx && c.exceptionTable.isEmpty && decide (c.maxStack ≤ mostOperands) && decide (meth.sig.returnType = rt) && !meth.locks && decide (parseMethodDescriptor y.desc = some meth.sig)) = true) : (Jvm.Cond.code y bytes mx rt).before a s = true := by
  simp only [Bool.and_eq_true, beq_iff_eq, Bool.not_eq_true', decide_eq_true_eq] at h5
  obtain ⟨⟨⟨⟨⟨g1, g2⟩, g3⟩, g4⟩, g5⟩, g6⟩ := h5
  simp [Cond.before, Cond.holds, Cond.value, h1, h2, h3, h4, g1, g2, g3, g4, g5, g6]
def isCode : Jvm.Cond → Bool
  | .code _ _ _ _ => true
  | _ => false
theorem all_split {L : List Jvm.Cond} {P : Jvm.Cond → Bool} (h1 : L.all (fun c => isCode c || P c) = true) (h2 : ∀ c ∈ L.filter isCode, P c = true) : L.all P = true := by
  refine List.all_eq_true.mpr fun c hc => ?_
  have h := List.all_eq_true.mp h1 c hc
  rcases Bool.eq_false_or_eq_true (isCode c) with hi | hi
  · exact h2 c (List.mem_filter.mpr ⟨hc, hi⟩)
  · simpa [hi] using h
set_option maxRecDepth 65536 in
theorem w_c0 : (Jvm.Cond.code x code maxLocals ret).before args0 about1 = true := code_word (m := ⟨1, 4⟩) (meth := k1m4) (c := k1c4) (by decide +kernel) rfl rfl rfl (by decide +kernel)
set_option maxRecDepth 65536 in
theorem w_c1 : (Jvm.Cond.code ({ cls := "java/lang/String", name := "<init>", desc := "([C)V" } : Jvm.MethodName) jdk_42_method_3_code (2 : Nat) (Option.none : Option Jvm.ClassFile.FieldType)).before args0 about1 = true := code_word (m := ⟨7, 1⟩) (meth := k7m1) (c := k7c1) (by decide +kernel) rfl rfl rfl (by decide +kernel)
set_option maxRecDepth 65536 in
theorem w_c2 : (Jvm.Cond.code ({ cls := "java/lang/String", name := "<init>", desc := "([CIILjava/lang/Void;)V" } : Jvm.MethodName) jdk_42_method_149_code (6 : Nat) (Option.none : Option Jvm.ClassFile.FieldType)).before args0 about1 = true := code_word (m := ⟨7, 4⟩) (meth := k7m4) (c := k7c4) (by decide +kernel) rfl rfl rfl (by decide +kernel)
set_option maxRecDepth 65536 in
theorem w_c3 : (Jvm.Cond.code ({ cls := "java/lang/Object", name := "<init>", desc := "()V" } : Jvm.MethodName) object_method_1_code (1 : Nat) (Option.none : Option Jvm.ClassFile.FieldType)).before args0 about1 = true := code_word (m := ⟨0, 0⟩) (meth := k0m0) (c := k0c0) (by decide +kernel) rfl rfl rfl (by decide +kernel)
set_option maxRecDepth 65536 in
theorem w_c4 : (Jvm.Cond.code ({ cls := "com/example/drudge/drudge/task/StorableText", name := "isStorable", desc := "(Ljava/lang/String;)Z" } : Jvm.MethodName) prog_60_method_2_code (1 : Nat) (Option.some Jvm.ClassFile.FieldType.boolean)).before args0 about1 = true := code_word (m := ⟨8, 1⟩) (meth := k8m1) (c := k8c1) (by decide +kernel) rfl rfl rfl (by decide +kernel)
set_option maxRecDepth 65536 in
theorem w_c5 : (Jvm.Cond.code ({ cls := "com/example/drudge/drudge/task/StorableText", name := "unstorableAt", desc := "(Ljava/lang/String;I)I" } : Jvm.MethodName) prog_60_method_5_code (5 : Nat) (Option.some Jvm.ClassFile.FieldType.int)).before args0 about1 = true := code_word (m := ⟨8, 2⟩) (meth := k8m2) (c := k8c2) (by decide +kernel) rfl rfl rfl (by decide +kernel)
set_option maxRecDepth 65536 in
theorem w_c6 : (Jvm.Cond.code ({ cls := "java/lang/String", name := "length", desc := "()I" } : Jvm.MethodName) jdk_42_method_54_code (1 : Nat) (Option.some Jvm.ClassFile.FieldType.int)).before args0 about1 = true := code_word (m := ⟨7, 2⟩) (meth := k7m2) (c := k7c2) (by decide +kernel) rfl rfl rfl (by decide +kernel)
set_option maxRecDepth 65536 in
theorem w_c7 : (Jvm.Cond.code ({ cls := "java/lang/String", name := "coder", desc := "()B" } : Jvm.MethodName) jdk_42_method_152_code (1 : Nat) (Option.some Jvm.ClassFile.FieldType.byte)).before args0 about1 = true := code_word (m := ⟨7, 5⟩) (meth := k7m5) (c := k7c5) (by decide +kernel) rfl rfl rfl (by decide +kernel)
set_option maxRecDepth 65536 in
theorem w_c8 : (Jvm.Cond.code ({ cls := "com/example/drudge/drudge/task/StorableTextIsStorablePinLaw", name := "ok", desc := "([CII)Z" } : Jvm.MethodName) method_4_code (4 : Nat) (Option.some Jvm.ClassFile.FieldType.boolean)).before args0 about1 = true := code_word (m := ⟨1, 3⟩) (meth := k1m3) (c := k1c3) (by decide +kernel) rfl rfl rfl (by decide +kernel)
set_option maxRecDepth 65536 in
theorem w_c9 : (Jvm.Cond.code ({ cls := "com/example/drudge/drudge/task/StorableTextIsStorablePinLaw", name := "high", desc := "(C)Z" } : Jvm.MethodName) method_2_code (1 : Nat) (Option.some Jvm.ClassFile.FieldType.boolean)).before args0 about1 = true := code_word (m := ⟨1, 1⟩) (meth := k1m1) (c := k1c1) (by decide +kernel) rfl rfl rfl (by decide +kernel)
set_option maxRecDepth 65536 in
theorem w_c10 : (Jvm.Cond.code ({ cls := "com/example/drudge/drudge/task/StorableTextIsStorablePinLaw", name := "low", desc := "(C)Z" } : Jvm.MethodName) method_3_code (1 : Nat) (Option.some Jvm.ClassFile.FieldType.boolean)).before args0 about1 = true := code_word (m := ⟨1, 2⟩) (meth := k1m2) (c := k1c2) (by decide +kernel) rfl rfl rfl (by decide +kernel)
set_option maxRecDepth 65536 in
theorem w_c11 : (Jvm.Cond.code ({ cls := "java/lang/StringUTF16", name := "compress", desc := "([CII)[B" } : Jvm.MethodName) jdk_52_method_16_code (6 : Nat) (Option.some (Jvm.ClassFile.FieldType.array Jvm.ClassFile.FieldType.byte))).before args0 about1 = true := code_word (m := ⟨9, 8⟩) (meth := k9m8) (c := k9c8) (by decide +kernel) rfl rfl rfl (by decide +kernel)
set_option maxRecDepth 65536 in
theorem w_c12 : (Jvm.Cond.code ({ cls := "java/lang/StringUTF16", name := "compress", desc := "([CI[BII)I" } : Jvm.MethodName) jdk_52_method_21_code (7 : Nat) (Option.some Jvm.ClassFile.FieldType.int)).before args0 about1 = true := code_word (m := ⟨9, 9⟩) (meth := k9m9) (c := k9c9) (by decide +kernel) rfl rfl rfl (by decide +kernel)
set_option maxRecDepth 65536 in
theorem w_c13 : (Jvm.Cond.code ({ cls := "java/lang/StringUTF16", name := "coderFromArrayLen", desc := "([BI)B" } : Jvm.MethodName) jdk_52_method_15_code (2 : Nat) (Option.some Jvm.ClassFile.FieldType.byte)).before args0 about1 = true := code_word (m := ⟨9, 7⟩) (meth := k9m7) (c := k9c7) (by decide +kernel) rfl rfl rfl (by decide +kernel)
set_option maxRecDepth 65536 in
theorem w_c14 : (Jvm.Cond.code ({ cls := "java/lang/String", name := "charAt", desc := "(I)C" } : Jvm.MethodName) jdk_42_method_56_code (2 : Nat) (Option.some Jvm.ClassFile.FieldType.char)).before args0 about1 = true := code_word (m := ⟨7, 3⟩) (meth := k7m3) (c := k7c3) (by decide +kernel) rfl rfl rfl (by decide +kernel)
set_option maxRecDepth 65536 in
theorem w_c15 : (Jvm.Cond.code ({ cls := "java/lang/String", name := "isLatin1", desc := "()Z" } : Jvm.MethodName) jdk_42_method_154_code (1 : Nat) (Option.some Jvm.ClassFile.FieldType.boolean)).before args0 about1 = true := code_word (m := ⟨7, 6⟩) (meth := k7m6) (c := k7c6) (by decide +kernel) rfl rfl rfl (by decide +kernel)
set_option maxRecDepth 65536 in
theorem w_c16 : (Jvm.Cond.code ({ cls := "java/lang/StringLatin1", name := "charAt", desc := "([BI)C" } : Jvm.MethodName) jdk_43_method_2_code (2 : Nat) (Option.some Jvm.ClassFile.FieldType.char)).before args0 about1 = true := code_word (m := ⟨10, 1⟩) (meth := k10m1) (c := k10c1) (by decide +kernel) rfl rfl rfl (by decide +kernel)
set_option maxRecDepth 65536 in
theorem w_c17 : (Jvm.Cond.code ({ cls := "java/lang/String", name := "checkIndex", desc := "(II)V" } : Jvm.MethodName) jdk_42_method_155_code (2 : Nat) (Option.none : Option Jvm.ClassFile.FieldType)).before args0 about1 = true := code_word (m := ⟨7, 7⟩) (meth := k7m7) (c := k7c7) (by decide +kernel) rfl rfl rfl (by decide +kernel)
set_option maxRecDepth 65536 in
theorem w_c18 : (Jvm.Cond.code ({ cls := "jdk/internal/util/Preconditions", name := "checkIndex", desc := "(IILjava/util/function/BiFunction;)I" } : Jvm.MethodName) jdk_41_method_11_code (3 : Nat) (Option.some Jvm.ClassFile.FieldType.int)).before args0 about1 = true := code_word (m := ⟨11, 1⟩) (meth := k11m1) (c := k11c1) (by decide +kernel) rfl rfl rfl (by decide +kernel)
set_option maxRecDepth 65536 in
theorem w_c19 : (Jvm.Cond.code ({ cls := "java/lang/Character", name := "isHighSurrogate", desc := "(C)Z" } : Jvm.MethodName) jdk_89_method_14_code (1 : Nat) (Option.some Jvm.ClassFile.FieldType.boolean)).before args0 about1 = true := code_word (m := ⟨12, 0⟩) (meth := k12m0) (c := k12c0) (by decide +kernel) rfl rfl rfl (by decide +kernel)
set_option maxRecDepth 65536 in
theorem w_c20 : (Jvm.Cond.code ({ cls := "java/lang/Character", name := "isSurrogate", desc := "(C)Z" } : Jvm.MethodName) jdk_89_method_16_code (1 : Nat) (Option.some Jvm.ClassFile.FieldType.boolean)).before args0 about1 = true := code_word (m := ⟨12, 2⟩) (meth := k12m2) (c := k12c2) (by decide +kernel) rfl rfl rfl (by decide +kernel)
set_option maxRecDepth 65536 in
theorem w_c21 : (Jvm.Cond.code ({ cls := "java/lang/StringUTF16", name := "toBytes", desc := "([CII)[B" } : Jvm.MethodName) jdk_52_method_14_code (5 : Nat) (Option.some (Jvm.ClassFile.FieldType.array Jvm.ClassFile.FieldType.byte))).before args0 about1 = true := code_word (m := ⟨9, 6⟩) (meth := k9m6) (c := k9c6) (by decide +kernel) rfl rfl rfl (by decide +kernel)
set_option maxRecDepth 65536 in
theorem w_c22 : (Jvm.Cond.code ({ cls := "java/lang/StringUTF16", name := "newBytesFor", desc := "(I)[B" } : Jvm.MethodName) jdk_52_method_2_code (1 : Nat) (Option.some (Jvm.ClassFile.FieldType.array Jvm.ClassFile.FieldType.byte))).before args0 about1 = true := code_word (m := ⟨9, 1⟩) (meth := k9m1) (c := k9c1) (by decide +kernel) rfl rfl rfl (by decide +kernel)
set_option maxRecDepth 65536 in
theorem w_c23 : (Jvm.Cond.code ({ cls := "java/lang/StringUTF16", name := "newBytesLength", desc := "(I)I" } : Jvm.MethodName) jdk_52_method_3_code (1 : Nat) (Option.some Jvm.ClassFile.FieldType.int)).before args0 about1 = true := code_word (m := ⟨9, 2⟩) (meth := k9m2) (c := k9c2) (by decide +kernel) rfl rfl rfl (by decide +kernel)
set_option maxRecDepth 65536 in
theorem w_c24 : (Jvm.Cond.code ({ cls := "java/lang/StringUTF16", name := "putChar", desc := "([BII)V" } : Jvm.MethodName) jdk_52_method_4_code (3 : Nat) (Option.none : Option Jvm.ClassFile.FieldType)).before args0 about1 = true := code_word (m := ⟨9, 3⟩) (meth := k9m3) (c := k9c3) (by decide +kernel) rfl rfl rfl (by decide +kernel)
set_option maxRecDepth 65536 in
theorem w_c25 : (Jvm.Cond.code ({ cls := "java/lang/StringUTF16", name := "getChar", desc := "([BI)C" } : Jvm.MethodName) jdk_52_method_5_code (2 : Nat) (Option.some Jvm.ClassFile.FieldType.char)).before args0 about1 = true := code_word (m := ⟨9, 4⟩) (meth := k9m4) (c := k9c4) (by decide +kernel) rfl rfl rfl (by decide +kernel)
set_option maxRecDepth 65536 in
theorem w_c26 : (Jvm.Cond.code ({ cls := "java/lang/StringUTF16", name := "charAt", desc := "([BI)C" } : Jvm.MethodName) jdk_52_method_83_code (2 : Nat) (Option.some Jvm.ClassFile.FieldType.char)).before args0 about1 = true := code_word (m := ⟨9, 10⟩) (meth := k9m10) (c := k9c10) (by decide +kernel) rfl rfl rfl (by decide +kernel)
set_option maxRecDepth 65536 in
theorem w_c27 : (Jvm.Cond.code ({ cls := "java/lang/StringUTF16", name := "checkIndex", desc := "(I[B)V" } : Jvm.MethodName) jdk_52_method_91_code (2 : Nat) (Option.none : Option Jvm.ClassFile.FieldType)).before args0 about1 = true := code_word (m := ⟨9, 11⟩) (meth := k9m11) (c := k9c11) (by decide +kernel) rfl rfl rfl (by decide +kernel)
set_option maxRecDepth 65536 in
theorem w_c28 : (Jvm.Cond.code ({ cls := "java/lang/StringUTF16", name := "length", desc := "([B)I" } : Jvm.MethodName) jdk_52_method_6_code (1 : Nat) (Option.some Jvm.ClassFile.FieldType.int)).before args0 about1 = true := code_word (m := ⟨9, 5⟩) (meth := k9m5) (c := k9c5) (by decide +kernel) rfl rfl rfl (by decide +kernel)
set_option maxRecDepth 65536 in
theorem w_c29 : (Jvm.Cond.code ({ cls := "java/lang/Character", name := "isLowSurrogate", desc := "(C)Z" } : Jvm.MethodName) jdk_89_method_15_code (1 : Nat) (Option.some Jvm.ClassFile.FieldType.boolean)).before args0 about1 = true := code_word (m := ⟨12, 1⟩) (meth := k12m1) (c := k12c1) (by decide +kernel) rfl rfl rfl (by decide +kernel)
def codes1 : List Jvm.Cond := [Jvm.Cond.code x code maxLocals ret, Jvm.Cond.code ({ cls := "java/lang/String", name := "<init>", desc := "([C)V" } : Jvm.MethodName) jdk_42_method_3_code (2 : Nat) (Option.none : Option Jvm.ClassFile.FieldType), Jvm.Cond.code ({ cls := "java/lang/String", name := "<init>", desc := "([CIILjava/lang/Void;)V" } : Jvm.MethodName) jdk_42_method_149_code (6 : Nat) (Option.none : Option Jvm.ClassFile.FieldType), Jvm.Cond.code ({ cls := "java/lang/Object", name := "<init>", desc := "()V" } : Jvm.MethodName) object_method_1_code (1 : Nat) (Option.none : Option Jvm.ClassFile.FieldType), Jvm.Cond.code ({ cls := "com/example/drudge/drudge/task/StorableText", name := "isStorable", desc := "(Ljava/lang/String;)Z" } : Jvm.MethodName) prog_60_method_2_code (1 : Nat) (Option.some Jvm.ClassFile.FieldType.boolean), Jvm.Cond.code ({ cls := "com/example/drudge/drudge/task/StorableText", name := "unstorableAt", desc := "(Ljava/lang/String;I)I" } : Jvm.MethodName) prog_60_method_5_code (5 : Nat) (Option.some Jvm.ClassFile.FieldType.int), Jvm.Cond.code ({ cls := "java/lang/String", name := "length", desc := "()I" } : Jvm.MethodName) jdk_42_method_54_code (1 : Nat) (Option.some Jvm.ClassFile.FieldType.int), Jvm.Cond.code ({ cls := "java/lang/String", name := "coder", desc := "()B" } : Jvm.MethodName) jdk_42_method_152_code (1 : Nat) (Option.some Jvm.ClassFile.FieldType.byte), Jvm.Cond.code ({ cls := "com/example/drudge/drudge/task/StorableTextIsStorablePinLaw", name := "ok", desc := "([CII)Z" } : Jvm.MethodName) method_4_code (4 : Nat) (Option.some Jvm.ClassFile.FieldType.boolean), Jvm.Cond.code ({ cls := "com/example/drudge/drudge/task/StorableTextIsStorablePinLaw", name := "high", desc := "(C)Z" } : Jvm.MethodName) method_2_code (1 : Nat) (Option.some Jvm.ClassFile.FieldType.boolean), Jvm.Cond.code ({ cls := "com/example/drudge/drudge/task/StorableTextIsStorablePinLaw", name := "low", desc := "(C)Z" } : Jvm.MethodName) method_3_code (1 : Nat) (Option.some Jvm.ClassFile.FieldType.boolean), Jvm.Cond.code ({ cls := "java/lang/StringUTF16", name := "compress", desc := "([CII)[B" } : Jvm.MethodName) jdk_52_method_16_code (6 : Nat) (Option.some (Jvm.ClassFile.FieldType.array Jvm.ClassFile.FieldType.byte)), Jvm.Cond.code ({ cls := "java/lang/StringUTF16", name := "compress", desc := "([CI[BII)I" } : Jvm.MethodName) jdk_52_method_21_code (7 : Nat) (Option.some Jvm.ClassFile.FieldType.int), Jvm.Cond.code ({ cls := "java/lang/StringUTF16", name := "coderFromArrayLen", desc := "([BI)B" } : Jvm.MethodName) jdk_52_method_15_code (2 : Nat) (Option.some Jvm.ClassFile.FieldType.byte), Jvm.Cond.code ({ cls := "java/lang/String", name := "charAt", desc := "(I)C" } : Jvm.MethodName) jdk_42_method_56_code (2 : Nat) (Option.some Jvm.ClassFile.FieldType.char), Jvm.Cond.code ({ cls := "java/lang/String", name := "isLatin1", desc := "()Z" } : Jvm.MethodName) jdk_42_method_154_code (1 : Nat) (Option.some Jvm.ClassFile.FieldType.boolean), Jvm.Cond.code ({ cls := "java/lang/StringLatin1", name := "charAt", desc := "([BI)C" } : Jvm.MethodName) jdk_43_method_2_code (2 : Nat) (Option.some Jvm.ClassFile.FieldType.char), Jvm.Cond.code ({ cls := "java/lang/String", name := "checkIndex", desc := "(II)V" } : Jvm.MethodName) jdk_42_method_155_code (2 : Nat) (Option.none : Option Jvm.ClassFile.FieldType), Jvm.Cond.code ({ cls := "jdk/internal/util/Preconditions", name := "checkIndex", desc := "(IILjava/util/function/BiFunction;)I" } : Jvm.MethodName) jdk_41_method_11_code (3 : Nat) (Option.some Jvm.ClassFile.FieldType.int), Jvm.Cond.code ({ cls := "java/lang/Character", name := "isHighSurrogate", desc := "(C)Z" } : Jvm.MethodName) jdk_89_method_14_code (1 : Nat) (Option.some Jvm.ClassFile.FieldType.boolean), Jvm.Cond.code ({ cls := "java/lang/Character", name := "isSurrogate", desc := "(C)Z" } : Jvm.MethodName) jdk_89_method_16_code (1 : Nat) (Option.some Jvm.ClassFile.FieldType.boolean), Jvm.Cond.code ({ cls := "java/lang/StringUTF16", name := "toBytes", desc := "([CII)[B" } : Jvm.MethodName) jdk_52_method_14_code (5 : Nat) (Option.some (Jvm.ClassFile.FieldType.array Jvm.ClassFile.FieldType.byte)), Jvm.Cond.code ({ cls := "java/lang/StringUTF16", name := "newBytesFor", desc := "(I)[B" } : Jvm.MethodName) jdk_52_method_2_code (1 : Nat) (Option.some (Jvm.ClassFile.FieldType.array Jvm.ClassFile.FieldType.byte)), Jvm.Cond.code ({ cls := "java/lang/StringUTF16", name := "newBytesLength", desc := "(I)I" } : Jvm.MethodName) jdk_52_method_3_code (1 : Nat) (Option.some Jvm.ClassFile.FieldType.int), Jvm.Cond.code ({ cls := "java/lang/StringUTF16", name := "putChar", desc := "([BII)V" } : Jvm.MethodName) jdk_52_method_4_code (3 : Nat) (Option.none : Option Jvm.ClassFile.FieldType), Jvm.Cond.code ({ cls := "java/lang/StringUTF16", name := "getChar", desc := "([BI)C" } : Jvm.MethodName) jdk_52_method_5_code (2 : Nat) (Option.some Jvm.ClassFile.FieldType.char), Jvm.Cond.code ({ cls := "java/lang/StringUTF16", name := "charAt", desc := "([BI)C" } : Jvm.MethodName) jdk_52_method_83_code (2 : Nat) (Option.some Jvm.ClassFile.FieldType.char), Jvm.Cond.code ({ cls := "java/lang/StringUTF16", name := "checkIndex", desc := "(I[B)V" } : Jvm.MethodName) jdk_52_method_91_code (2 : Nat) (Option.none : Option Jvm.ClassFile.FieldType), Jvm.Cond.code ({ cls := "java/lang/StringUTF16", name := "length", desc := "([B)I" } : Jvm.MethodName) jdk_52_method_6_code (1 : Nat) (Option.some Jvm.ClassFile.FieldType.int), Jvm.Cond.code ({ cls := "java/lang/Character", name := "isLowSurrogate", desc := "(C)Z" } : Jvm.MethodName) jdk_89_method_15_code (1 : Nat) (Option.some Jvm.ClassFile.FieldType.boolean)]
set_option maxRecDepth 65536 in
theorem codes_eq : words1.filter isCode = codes1 := rfl
theorem w_codes : ∀ c ∈ words1.filter isCode, c.before args0 about1 = true := by
  rw [codes_eq]
  intro c hc
  simp only [codes1, List.mem_cons, List.not_mem_nil, or_false] at hc
  rcases hc with rfl | rfl | rfl | rfl | rfl | rfl | rfl | rfl | rfl | rfl | rfl | rfl | rfl | rfl | rfl | rfl | rfl | rfl | rfl | rfl | rfl | rfl | rfl | rfl | rfl | rfl | rfl | rfl | rfl | rfl
  · exact w_c0
  · exact w_c1
  · exact w_c2
  · exact w_c3
  · exact w_c4
  · exact w_c5
  · exact w_c6
  · exact w_c7
  · exact w_c8
  · exact w_c9
  · exact w_c10
  · exact w_c11
  · exact w_c12
  · exact w_c13
  · exact w_c14
  · exact w_c15
  · exact w_c16
  · exact w_c17
  · exact w_c18
  · exact w_c19
  · exact w_c20
  · exact w_c21
  · exact w_c22
  · exact w_c23
  · exact w_c24
  · exact w_c25
  · exact w_c26
  · exact w_c27
  · exact w_c28
  · exact w_c29
set_option maxRecDepth 65536 in
theorem w_t1 : (words1.take 24).all (fun c => isCode c || c.before args0 about1) = true := by decide +kernel
set_option maxRecDepth 65536 in
theorem w_t2 : ((words1.drop 24).take 24).all (fun c => isCode c || c.before args0 about1) = true := by decide +kernel
set_option maxRecDepth 65536 in
theorem w_t3 : (((words1.drop 24).drop 24).take 24).all (fun c => isCode c || c.before args0 about1) = true := by decide +kernel
set_option maxRecDepth 65536 in
theorem w_t4 : ((((words1.drop 24).drop 24).drop 24).take 24).all (fun c => isCode c || c.before args0 about1) = true := by decide +kernel
set_option maxRecDepth 65536 in
theorem w_t5 : (((((words1.drop 24).drop 24).drop 24).drop 24).take 24).all (fun c => isCode c || c.before args0 about1) = true := by decide +kernel
set_option maxRecDepth 65536 in
theorem w_t6 : (((((words1.drop 24).drop 24).drop 24).drop 24).drop 24).all (fun c => isCode c || c.before args0 about1) = true := by decide +kernel
theorem w_tables : (allAtoms (Jvm.Cond.code x code maxLocals ret :: tables_1)).before args0 about1 = true := by
  rw [allAtoms_all]
  show words1.all (fun c => c.before args0 about1) = true
  refine all_split ?_ w_codes
  rw [← List.take_append_drop 24 words1, List.all_append, w_t1, ← List.take_append_drop 24 (words1.drop 24), List.all_append, w_t2, ← List.take_append_drop 24 ((words1.drop 24).drop 24), List.all_append, w_t3, ← List.take_append_drop 24 (((words1.drop 24).drop 24).drop 24), List.all_append, w_t4, ← List.take_append_drop 24 ((((words1.drop 24).drop 24).drop 24).drop 24), List.all_append, w_t5, w_t6]
  rfl
set_option maxRecDepth 65536 in
theorem w_rest : rest_1_c.before args0 about1 = true := by decide +kernel
set_option maxRecDepth 65536 in
theorem w_case : (Jvm.Cond.and given_1 narrow_1).before args0 about1 = true := by decide +kernel
set_option maxRecDepth 65536 in
theorem w_consts : constsHeld consts_1 about1 := Jvm.Lit.constsHeldB_iff.mp (by decide +kernel)
theorem w_applies : (headSpec (Jvm.Cond.code x code maxLocals ret :: tables_1) room_1).applies x e0.platform about1 = true :=
  (Spec.applies_iff w_frames).mpr ⟨w_running, w_runnable, w_alone, w_named, w_hears, w_ripe, w_room, w_tables⟩
theorem atStart : AtStart classFile x code maxLocals ret World_1 tables_1 room_1 Calls_1 rest_1 Pre_1 launch0 p0 e0 about1 theMethod args0 below0 :=
  ⟨lists_1, trivial, launch0.admits_env _ _ _, launch0.least_env, fairChoices_fair.cas, fairChoices_fair.clock, w_frames, w_args, w_heap, w_applies, ⟨w_consts, trivial⟩, w_rest, w_case⟩
end start1
theorem witness_1 : WitnessClaimed_1 := ⟨start1.p0, start1.e0, start1.about1, start1.theMethod, start1.args0, start1.below0, start1.atStart⟩
end Jvm.Pilot.@@N@@
