import JvmDerived
import JvmDerived.Pilot.@@N@@Statement
import JvmDerived.Pilot.@@N@@Code
set_option linter.unusedVariables false
set_option linter.unusedSimpArgs false
/- laws to paste: Road.backV, Road.lenW (cut by pick.py; bodies as the Statement names them) -/
namespace Jvm.Pilot.@@N@@
namespace StrChars
open Jvm Sem ClassFile Op Lib Jvm.Stand Jvm.Free.XT Jvm.Free.ALB Jvm.Free.JM Jvm.Free
open Jvm.Lib.Cold (StaticIs)
/-- a char array whose places are chars -/
def Ch (a : Addr) (A : Cell) (U : State) : Prop := Arr .char a A U ∧ Typed .char A
theorem Ch.mv {a : Addr} {A : Cell} {U U' : State} (h : Ch a A U) (hal : U.vm.Alike U'.vm) (hh : U'.heap = U.heap) : Ch a A U' := ⟨h.1.mv hal hh, h.2⟩
theorem Ch.keep {a : Addr} {A : Cell} {U U' : State} (h : Ch a A U) (hal : U.vm.Alike U'.vm) (hk : U'.heap[a]? = some A) : Ch a A U' := ⟨h.1.keep hal hk, h.2⟩
/-- what place i of a char[]'s cell holds -/
def cv (A : Cell) (i : Nat) : Int32 := match A.slots[i]? with | some (.int x) => x | _ => 0
theorem Ch.get {a : Addr} {A : Cell} {U : State} (h : Ch a A U) {i : Nat} (hi : i < A.slots.size) : A.slots[i]? = some (.int (cv A i)) := by
  have e := Array.getElem?_eq_getElem hi
  have f := h.2 i _ e
  unfold cv; rw [e]
  generalize A.slots[i] = v at f
  cases v <;> simp [fits] at f ⊢
/-- the byte that i2b leaves of a char -/
def lo8 (x : Int32) : Int32 := x.toInt8.toInt32
theorem fits_lo8 (y : Int32) : fits .byte (.int (lo8 y)) = true := by
  have h1 := y.toInt8.le_toInt
  have h2 := y.toInt8.toInt_lt
  simp only [lo8, fits, Bool.and_eq_true, decide_eq_true_eq, Int32.le_iff_toInt_le, Int8.toInt_toInt32, show (-128 : Int32).toInt = -128 from by decide, show (127 : Int32).toInt = 127 from by decide]
  omega
/-- A' is A but that each place j of lo .. hi - 1 holds f j -/
def Laid (A A' : Cell) (lo hi : Nat) (f : Nat → Value) : Prop := A'.cls = A.cls ∧ A'.vm = A.vm ∧ A'.slots.size = A.slots.size ∧ ∀ i, A'.slots[i]? = if lo ≤ i ∧ i < hi then some (f i) else A.slots[i]?
theorem Laid.zero (A : Cell) (lo : Nat) (f : Nat → Value) : Laid A A lo (lo + 0) f := ⟨rfl, rfl, rfl, fun i => by rw [if_neg (by omega)]⟩
theorem Laid.step {A Ak : Cell} {lo k : Nat} {f : Nat → Value} {v : Value} (h : Laid A Ak lo k f) (hlo : lo ≤ k) (hk : k < Ak.slots.size) (hv : v = f k) : Laid A (Ak.setSlot k v) lo (k + 1) f := by
  refine ⟨h.1, h.2.1, by simpa [Cell.setSlot] using h.2.2.1, fun i => ?_⟩
  by_cases e : k = i
  · subst e; rw [Cell.slots_setSlot_self v hk, if_pos (by omega), hv]
  · rw [Cell.slots_setSlot_ne v e, h.2.2.2 i]
    by_cases q : lo ≤ i ∧ i < k
    · rw [if_pos q, if_pos (by omega)]
    · rw [if_neg q, if_neg (by omega)]
def U16 : String := "java/lang/StringUTF16"
namespace Cmp5
def yN : MethodName := ⟨"java/lang/StringUTF16", "compress", "([CI[BII)I"⟩
abbrev yB : ByteArray := jdk_52_method_21_code
theorem d0 : decode yB 0 = .ok (.iconst 0, 1) := by decide +kernel
theorem d1 : decode yB 1 = .ok (.istore 5, 2) := by decide +kernel
theorem d3 : decode yB 3 = .ok (.iload 5, 2) := by decide +kernel
theorem d5 : decode yB 5 = .ok (.iload 4, 2) := by decide +kernel
theorem d7 : decode yB 7 = .ok (.if_icmp (.ge) 37, 3) := by decide +kernel
theorem d10 : decode yB 10 = .ok (.aload_n 0, 1) := by decide +kernel
theorem d11 : decode yB 11 = .ok (.iload_n 1, 1) := by decide +kernel
theorem d12 : decode yB 12 = .ok (.caload, 1) := by decide +kernel
theorem d13 : decode yB 13 = .ok (.istore 6, 2) := by decide +kernel
theorem d15 : decode yB 15 = .ok (.iload 6, 2) := by decide +kernel
theorem d17 : decode yB 17 = .ok (.sipush 255, 3) := by decide +kernel
theorem d20 : decode yB 20 = .ok (.if_icmp (.le) 6, 3) := by decide +kernel
theorem d26 : decode yB 26 = .ok (.aload_n 2, 1) := by decide +kernel
theorem d27 : decode yB 27 = .ok (.iload_n 3, 1) := by decide +kernel
theorem d28 : decode yB 28 = .ok (.iload 6, 2) := by decide +kernel
theorem d30 : decode yB 30 = .ok (.i2b, 1) := by decide +kernel
theorem d31 : decode yB 31 = .ok (.bastore, 1) := by decide +kernel
theorem d32 : decode yB 32 = .ok (.iinc 1 1, 3) := by decide +kernel
theorem d35 : decode yB 35 = .ok (.iinc 3 1, 3) := by decide +kernel
theorem d38 : decode yB 38 = .ok (.iinc 5 1, 3) := by decide +kernel
theorem d41 : decode yB 41 = .ok (.goto (-38), 3) := by decide +kernel
theorem d44 : decode yB 44 = .ok (.iload 4, 2) := by decide +kernel
theorem d46 : decode yB 46 = .ok (.ireturn, 1) := by decide +kernel
def site : List Cond := []
def tab : Cond := tabOf yN yB 7 (some .int) site
def P (b : Addr) (A : Cell) (d : Addr) (B : Cell) (o q len : Nat) (args : Array Value) (s : State) : Prop := args = #[.ref b, .int (Int32.ofNat o), .ref d, .int (Int32.ofNat q), .int (Int32.ofNat len)] ∧ Ch b A s ∧ Arr .byte d B s ∧ b ≠ d ∧ o + len ≤ A.slots.size ∧ q + len ≤ B.slots.size ∧ ∀ i, i < len → ¬ 255 < cv A (o + i)
def E (b : Addr) (A : Cell) (d : Addr) (B : Cell) (o q len : Nat) (r : Option Value) (s u : State) : Prop := r = some (.int (Int32.ofNat len)) ∧ ∃ B', Put d B' s u ∧ Laid B B' q (q + len) (fun j => Value.int (lo8 (cv A (o + (j - q)))))
/-- no char of the range above 255: len; the places written hold each char's low byte -/
theorem law (l : Launch) (b : Addr) (A : Cell) (d : Addr) (B : Cell) (o q len : Nat) : Law l yN 5 5 0 0 yB 7 (some .int) site (P b A d B o q len) (E b A d B o q len) (copyLocs d q len) 0 0 := by
  refine Law.of_walk (plainFor_of_name (by decide +kernel)) (by decide +kernel) (by decide +kernel) (by decide) (fun _ _ h => by rw [h.1]; rfl) (fun _ U U' hal hh h => ⟨h.1, h.2.1.mv hal hh, h.2.2.1.mv hal hh, h.2.2.2⟩) (fun r U U' V V' h1 hal h2 h => ⟨h.1, h.2.elim fun B' q => ⟨B', q.1.mv h1 h2, q.2⟩⟩) ?_
  intro p e s m args below meth c s₁ X0 hexec hbytes hml hret hlk hnm hown hh0 W hP
  obtain ⟨rfl, hA, hB, hne, l1, l2, hp⟩ := hP
  have c1 : Steps p.tables e below (s₁.setTop (entryFrame m #[.ref b, .int (Int32.ofNat o), .ref d, .int (Int32.ofNat q), .int (Int32.ofNat len)] 7)) (s₁.setTop (mkF m 0 #[.val (.ref b), .val (.int (Int32.ofNat o)), .val (.ref d), .val (.int (Int32.ofNat q)), .val (.int (Int32.ofNat len)), .unset, .unset] [])) := entry rfl
  have hA0 := hA.1.mv X0.warmed.alike hh0
  have hB0 := hB.mv X0.warmed.alike hh0
  have a31 := hA.1.2.2.2
  have c2 : Steps p.tables e below (s₁.setTop (entryFrame m #[.ref b, .int (Int32.ofNat o), .ref d, .int (Int32.ofNat q), .int (Int32.ofNat len)] 7)) (s₁.setTop (mkF m 3 #[.val (.ref b), .val (.int (Int32.ofNat o)), .val (.ref d), .val (.int (Int32.ofNat q)), .val (.int (Int32.ofNat len)), .val (.int 0), .unset] [])) := c1.trans (by
    refine iconstV X0.here hexec rfl 0 (hb hbytes d0) (by decide) ?_
    refine XS.istore X0.here hexec rfl (hb hbytes d1) rfl rfl ?_
    exact Steps.refl _)
  have loop : ∀ (r i : Nat), i + r = len → ∀ (z : Slot), (z = .unset ∨ ∃ w, z = .val w ∧ w.category = 1) → ∀ (Tl : State) (Bk : Cell), Stand p l e { frames := 0, locals := 0, cells := 0, slots := 0 } s m #[.ref b, .int (Int32.ofNat o), .ref d, .int (Int32.ofNat q), .int (Int32.ofNat len)] below meth c Tl ([] ++ copyLocs d q i) 0 0 → Put d Bk s₁ Tl → Laid B Bk q (q + i) (fun j => Value.int (lo8 (cv A (o + (j - q))))) →
      Steps p.tables e below (s₁.setTop (entryFrame m #[.ref b, .int (Int32.ofNat o), .ref d, .int (Int32.ofNat q), .int (Int32.ofNat len)] 7)) (Tl.setTop (mkF m 3 #[.val (.ref b), .val (.int (Int32.ofNat (o + i))), .val (.ref d), .val (.int (Int32.ofNat (q + i))), .val (.int (Int32.ofNat len)), .val (.int (Int32.ofNat i)), z] [])) → ∃ (T' : State) (B' : Cell) (z' : Slot), Stand p l e { frames := 0, locals := 0, cells := 0, slots := 0 } s m #[.ref b, .int (Int32.ofNat o), .ref d, .int (Int32.ofNat q), .int (Int32.ofNat len)] below meth c T' ([] ++ copyLocs d q len) 0 0 ∧ Put d B' s₁ T' ∧ Laid B B' q (q + len) (fun j => Value.int (lo8 (cv A (o + (j - q))))) ∧
      Steps p.tables e below (s₁.setTop (entryFrame m #[.ref b, .int (Int32.ofNat o), .ref d, .int (Int32.ofNat q), .int (Int32.ofNat len)] 7)) (T'.setTop (mkF m 3 #[.val (.ref b), .val (.int (Int32.ofNat (o + len))), .val (.ref d), .val (.int (Int32.ofNat (q + len))), .val (.int (Int32.ofNat len)), .val (.int (Int32.ofNat len)), z'] [])) := by
    intro r
    induction r with
    | zero =>
      intro i hi z hz Tl Bk Xl pl fl cl
      have hil : i = len := by omega
      rw [hil] at Xl fl cl
      exact ⟨Tl, Bk, z, Xl, pl, fl, cl⟩
    | succ r ih =>
      intro i hi z hz Tl Bk Xl pl fl cl
      have all := X0.warmed.alike.symm.trans Xl.warmed.alike
      have hAl := hA0.keep all (pl.other hne hA0.1)
      have hBk := hB0.like all pl.1 fl.1 fl.2.1 fl.2.2.1
      have hlt : q + i < Bk.slots.size := by rw [fl.2.2.1]; omega
      have c3 : Steps p.tables e below (s₁.setTop (entryFrame m #[.ref b, .int (Int32.ofNat o), .ref d, .int (Int32.ofNat q), .int (Int32.ofNat len)] 7)) (Tl.setTop (mkF m 12 #[.val (.ref b), .val (.int (Int32.ofNat (o + i))), .val (.ref d), .val (.int (Int32.ofNat (q + i))), .val (.int (Int32.ofNat len)), .val (.int (Int32.ofNat i)), z] [.int (Int32.ofNat (o + i)), .ref b])) := cl.trans (by
        refine XS.iload Xl.here hexec rfl (hb hbytes d3) rfl ?_
        refine XS.iload Xl.here hexec rfl (hb hbytes d5) rfl ?_
        refine XS.icmpNo Xl.here hexec rfl (hb hbytes d7) rfl (ii_ge_f (lt32 (by omega) (by omega))) ?_
        refine XS.aloadN Xl.here hexec rfl (hb hbytes d10) rfl rfl ?_
        refine XS.iloadN Xl.here hexec rfl (hb hbytes d11) rfl ?_
        exact Steps.refl _)
      have c4 : Steps p.tables e below (s₁.setTop (entryFrame m #[.ref b, .int (Int32.ofNat o), .ref d, .int (Int32.ofNat q), .int (Int32.ofNat len)] 7)) (Tl.setTop (mkF m 13 #[.val (.ref b), .val (.int (Int32.ofNat (o + i))), .val (.ref d), .val (.int (Int32.ofNat (q + i))), .val (.int (Int32.ofNat len)), .val (.int (Int32.ofNat i)), z] [.int (cv A (o + i))])) := c3.trans (by
        refine Xl.aget hexec hAl rfl (hA.get (i := o + i) (by omega)) rfl rfl (hb hbytes d12) ?_
        exact Steps.refl _)
      have c5 : Steps p.tables e below (s₁.setTop (entryFrame m #[.ref b, .int (Int32.ofNat o), .ref d, .int (Int32.ofNat q), .int (Int32.ofNat len)] 7)) (Tl.setTop (mkF m 15 #[.val (.ref b), .val (.int (Int32.ofNat (o + i))), .val (.ref d), .val (.int (Int32.ofNat (q + i))), .val (.int (Int32.ofNat len)), .val (.int (Int32.ofNat i)), .val (.int (cv A (o + i)))] [])) := c4.trans (by
        refine XS.istoreS Xl.here hexec rfl (hb hbytes d13) rfl rfl hz ?_
        exact Steps.refl _)
      have c6 : Steps p.tables e below (s₁.setTop (entryFrame m #[.ref b, .int (Int32.ofNat o), .ref d, .int (Int32.ofNat q), .int (Int32.ofNat len)] 7)) (Tl.setTop (mkF m 31 #[.val (.ref b), .val (.int (Int32.ofNat (o + i))), .val (.ref d), .val (.int (Int32.ofNat (q + i))), .val (.int (Int32.ofNat len)), .val (.int (Int32.ofNat i)), .val (.int (cv A (o + i)))] [.int (lo8 (cv A (o + i))), .int (Int32.ofNat (q + i)), .ref d])) := c5.trans (by
        refine XS.iload Xl.here hexec rfl (hb hbytes d15) rfl ?_
        refine sipushV Xl.here hexec rfl 255 (hb hbytes d17) (by decide) ?_
        refine XS.icmpYes Xl.here hexec rfl (pc0 := 20) rfl (hb hbytes d20) rfl (ii_le_t (hp i (by omega))) (by decide) rfl ?_
        refine XS.aloadN Xl.here hexec rfl (hb hbytes d26) rfl rfl ?_
        refine XS.iloadN Xl.here hexec rfl (hb hbytes d27) rfl ?_
        refine XS.iload Xl.here hexec rfl (hb hbytes d28) rfl ?_
        refine i2b Xl.here hexec rfl (hb hbytes d30) rfl ?_
        exact Steps.refl _)
      obtain ⟨T7, X7, p7, st7⟩ := Xl.aput hexec hBk rfl hlt rfl (fits_lo8 (cv A (o + i))) (g := (mkF m 31 #[.val (.ref b), .val (.int (Int32.ofNat (o + i))), .val (.ref d), .val (.int (Int32.ofNat (q + i))), .val (.int (Int32.ofNat len)), .val (.int (Int32.ofNat i)), .val (.int (cv A (o + i)))] [.int (lo8 (cv A (o + i))), .int (Int32.ofNat (q + i)), .ref d])) rfl (rest := []) rfl (hb hbytes d31)
      have c8 : Steps p.tables e below (s₁.setTop (entryFrame m #[.ref b, .int (Int32.ofNat o), .ref d, .int (Int32.ofNat q), .int (Int32.ofNat len)] 7)) (T7.setTop (mkF m 32 #[.val (.ref b), .val (.int (Int32.ofNat (o + i))), .val (.ref d), .val (.int (Int32.ofNat (q + i))), .val (.int (Int32.ofNat len)), .val (.int (Int32.ofNat i)), .val (.int (cv A (o + i)))] [])) := c6.trans (st7 _ (Steps.refl _))
      have c9 : Steps p.tables e below (s₁.setTop (entryFrame m #[.ref b, .int (Int32.ofNat o), .ref d, .int (Int32.ofNat q), .int (Int32.ofNat len)] 7)) (T7.setTop (mkF m 3 #[.val (.ref b), .val (.int (Int32.ofNat (o + i) + 1)), .val (.ref d), .val (.int (Int32.ofNat (q + i) + 1)), .val (.int (Int32.ofNat len)), .val (.int (Int32.ofNat i + 1)), .val (.int (cv A (o + i)))] [])) := c8.trans (by
        refine iincV X7.here hexec rfl 1 (hb hbytes d32) (by decide) rfl rfl ?_
        refine iincV X7.here hexec rfl 1 (hb hbytes d35) (by decide) rfl rfl ?_
        refine iincV X7.here hexec rfl 1 (hb hbytes d38) (by decide) rfl rfl ?_
        refine XS.goto X7.here hexec rfl (pc0 := 41) rfl (hb hbytes d41) (by decide) rfl ?_
        exact Steps.refl _)
      have c10 : Steps p.tables e below (s₁.setTop (entryFrame m #[.ref b, .int (Int32.ofNat o), .ref d, .int (Int32.ofNat q), .int (Int32.ofNat len)] 7)) (T7.setTop (mkF m 3 #[.val (.ref b), .val (.int (Int32.ofNat (o + (i + 1)))), .val (.ref d), .val (.int (Int32.ofNat (q + (i + 1)))), .val (.int (Int32.ofNat len)), .val (.int (Int32.ofNat (i + 1))), .val (.int (cv A (o + i)))] [])) := by
        have := c9
        rw [succ32, succ32, succ32] at this
        exact this
      exact ih (i + 1) (by omega) _ (Or.inr ⟨_, rfl, rfl⟩) T7 _ (by rw [copyLocs_step, ← List.append_assoc]; exact X7) (pl.trans p7) (fl.step (by omega) hlt (by simp)) c10
  obtain ⟨T9, B9, z9, X9, p9, f9, g9⟩ := loop len 0 (by omega) .unset (Or.inl rfl) s₁ B (by simpa [copyLocs] using X0) ⟨hB0.1, fun _ _ => rfl, rfl⟩ (Laid.zero _ _ _) c2
  have c11 : Steps p.tables e below (s₁.setTop (entryFrame m #[.ref b, .int (Int32.ofNat o), .ref d, .int (Int32.ofNat q), .int (Int32.ofNat len)] 7)) (T9.setTop (mkF m 46 #[.val (.ref b), .val (.int (Int32.ofNat (o + len))), .val (.ref d), .val (.int (Int32.ofNat (q + len))), .val (.int (Int32.ofNat len)), .val (.int (Int32.ofNat len)), z9] [.int (Int32.ofNat len)])) := g9.trans (by
    refine XS.iload X9.here hexec rfl (hb hbytes d3) rfl ?_
    refine XS.iload X9.here hexec rfl (hb hbytes d5) rfl ?_
    refine XS.icmpYes X9.here hexec rfl (pc0 := 7) rfl (hb hbytes d7) rfl (ii_ge_t (nlt32 (by omega) (Nat.le_refl _))) (by decide) rfl ?_
    refine XS.iload X9.here hexec rfl (hb hbytes d44) rfl ?_
    exact Steps.refl _)
  exact ⟨T9, some (.int (Int32.ofNat len)), _, _, _, X9, by simp, rfl, rfl, (fun h => by cases h), ⟨rfl, B9, p9.from hh0, f9⟩, fun fs hl => c11.trans (X9.ireturnOut hexec hret rfl (Or.inl rfl) (hb hbytes d46) hl)⟩
end Cmp5
namespace Cmp3
def yN : MethodName := ⟨"java/lang/StringUTF16", "compress", "([CII)[B"⟩
abbrev yB : ByteArray := jdk_52_method_16_code
theorem d0 : decode yB 0 = .ok (.iload_n 2, 1) := by decide +kernel
theorem d1 : decode yB 1 = .ok (.newarray .byte, 2) := by decide +kernel
theorem d3 : decode yB 3 = .ok (.astore_n 3, 1) := by decide +kernel
theorem d4 : decode yB 4 = .ok (.aload_n 0, 1) := by decide +kernel
theorem d5 : decode yB 5 = .ok (.iload_n 1, 1) := by decide +kernel
theorem d6 : decode yB 6 = .ok (.aload_n 3, 1) := by decide +kernel
theorem d7 : decode yB 7 = .ok (.iconst 0, 1) := by decide +kernel
theorem d8 : decode yB 8 = .ok (.iload_n 2, 1) := by decide +kernel
theorem d9 : decode yB 9 = .ok (.invokestatic 115, 3) := by decide +kernel
theorem d12 : decode yB 12 = .ok (.istore 4, 2) := by decide +kernel
theorem d14 : decode yB 14 = .ok (.iload 4, 2) := by decide +kernel
theorem d16 : decode yB 16 = .ok (.iload_n 2, 1) := by decide +kernel
theorem d17 : decode yB 17 = .ok (.if_icmp (.eq) 40, 3) := by decide +kernel
theorem d57 : decode yB 57 = .ok (.aload_n 3, 1) := by decide +kernel
theorem d58 : decode yB 58 = .ok (.areturn, 1) := by decide +kernel
def site : List Cond := [.arrayClass .byte, Cmp5.tab] ++ staticW U16 115 Cmp5.yN
def tab : Cond := tabOf yN yB 6 (some (.array .byte)) site
def P (b : Addr) (A : Cell) (o len : Nat) (args : Array Value) (s : State) : Prop := args = #[.ref b, .int (Int32.ofNat o), .int (Int32.ofNat len)] ∧ Ch b A s ∧ o + len ≤ A.slots.size ∧ len ≤ 536870912 ∧ ∀ i, i < len → ¬ 255 < cv A (o + i)
def E (b : Addr) (A : Cell) (o len : Nat) (r : Option Value) (s u : State) : Prop := NewArr .byte "[B" len (fun j => .int (lo8 (cv A (o + j)))) r s u ∧ u.heap.size = s.heap.size + 1
/-- no char of the range above 255: a new byte[] of their low bytes -/
theorem law (l : Launch) (b : Addr) (A : Cell) (o len : Nat) : Law l yN 3 3 1 18 yB 6 (some (.array .byte)) site (P b A o len) (E b A o len) [] 1 len := by
  refine Law.of_walk (plainFor_of_name (by decide +kernel)) (by decide +kernel) (by decide +kernel) (by decide) (fun _ _ h => by rw [h.1]; rfl) (fun _ U U' hal hh h => ⟨h.1, h.2.1.mv hal hh, h.2.2⟩) (fun r U U' V V' h1 hal h2 h => ⟨NewArr.mv r U U' V V' h1 hal h2 h.1, by rw [h1, h2]; exact h.2⟩) ?_
  intro p e s m args below meth c s₁ X0 hexec hbytes hml hret hlk hnm hown hh0 W hP
  obtain ⟨rfl, hA, l1, l2, hp⟩ := hP
  have a31 := hA.1.2.2.2
  have c1 : Steps p.tables e below (s₁.setTop (entryFrame m #[.ref b, .int (Int32.ofNat o), .int (Int32.ofNat len)] 6)) (s₁.setTop (mkF m 0 #[.val (.ref b), .val (.int (Int32.ofNat o)), .val (.int (Int32.ofNat len)), .unset, .unset, .unset] [])) := entry rfl
  have c2 : Steps p.tables e below (s₁.setTop (entryFrame m #[.ref b, .int (Int32.ofNat o), .int (Int32.ofNat len)] 6)) (s₁.setTop (mkF m 1 #[.val (.ref b), .val (.int (Int32.ofNat o)), .val (.int (Int32.ofNat len)), .unset, .unset, .unset] [.int (Int32.ofNat len)])) := c1.trans (by
    refine XS.iloadN X0.here hexec rfl (hb hbytes d0) rfl ?_
    exact Steps.refl _)
  obtain ⟨T3, B3, X3, ba3, bs3, bv3, bh3, bf3, st3⟩ := X0.anew hexec (atype := .byte) (wk W (.arrayClass .byte)) rfl (by show len * 1 ≤ _; omega) (by omega) (g := (mkF m 1 #[.val (.ref b), .val (.int (Int32.ofNat o)), .val (.int (Int32.ofNat len)), .unset, .unset, .unset] [.int (Int32.ofNat len)])) rfl (hb hbytes d1) (rest := []) rfl (Nat.le_refl _) (by show 0 + len ≤ len; omega)
  rw [hh0] at ba3 st3
  have kp3 : XT.Kept s T3 := (XT.Kept.of_eq hh0).push bh3
  have hA3 := hA.keep X3.warmed.alike (kp3 _ _ hA.1.1)
  have hne : b ≠ s.heap.size := hA.1.ne
  have c4 : Steps p.tables e below (s₁.setTop (entryFrame m #[.ref b, .int (Int32.ofNat o), .int (Int32.ofNat len)] 6)) (T3.setTop (mkF m 3 #[.val (.ref b), .val (.int (Int32.ofNat o)), .val (.int (Int32.ofNat len)), .unset, .unset, .unset] [.ref s.heap.size])) := c2.trans (st3 _ (Steps.refl _))
  have c5 : Steps p.tables e below (s₁.setTop (entryFrame m #[.ref b, .int (Int32.ofNat o), .int (Int32.ofNat len)] 6)) (T3.setTop (mkF m 9 #[.val (.ref b), .val (.int (Int32.ofNat o)), .val (.int (Int32.ofNat len)), .val (.ref s.heap.size), .unset, .unset] [.int (Int32.ofNat len), .int 0, .ref s.heap.size, .int (Int32.ofNat o), .ref b])) := c4.trans (by
    refine XS.astoreN X3.here hexec rfl (hb hbytes d3) rfl rfl rfl ?_
    refine XS.aloadN X3.here hexec rfl (hb hbytes d4) rfl rfl ?_
    refine XS.iloadN X3.here hexec rfl (hb hbytes d5) rfl ?_
    refine XS.aloadN X3.here hexec rfl (hb hbytes d6) rfl rfl ?_
    refine iconstV X3.here hexec rfl 0 (hb hbytes d7) (by decide) ?_
    refine XS.iloadN X3.here hexec rfl (hb hbytes d8) rfl ?_
    exact Steps.refl _)
  obtain ⟨v6, T6, X6, E6, g6⟩ := X3.callS hexec (Cmp5.law l b A s.heap.size B3 o 0 len) hown (wks W (staticW U16 115 Cmp5.yN)) (wk W Cmp5.tab) (W := 0) (Nat.le_of_ble_eq_true rfl) (Nat.le_of_ble_eq_true rfl) (Nat.le_refl _) (by show 0 + len + 0 ≤ len; omega) (g := (mkF m 9 #[.val (.ref b), .val (.int (Int32.ofNat o)), .val (.int (Int32.ofNat len)), .val (.ref s.heap.size), .unset, .unset] [.int (Int32.ofNat len), .int (Int32.ofNat 0), .ref s.heap.size, .int (Int32.ofNat o), .ref b])) rfl (by rw [hml]; rfl) c5 (argsL := [.ref b, .int (Int32.ofNat o), .ref s.heap.size, .int (Int32.ofNat 0), .int (Int32.ofNat len)]) (rest := []) rfl rfl (by show 2 * 0 + 0 ≤ _; decide) (hb hbytes d9) (⟨rfl, hA3, ba3, hne, l1, by rw [bs3]; simp, hp⟩)
  obtain ⟨rfl, B6, p6, f6⟩ := E6
  have c7 : Steps p.tables e below (s₁.setTop (entryFrame m #[.ref b, .int (Int32.ofNat o), .int (Int32.ofNat len)] 6)) (T6.setTop (mkF m 12 #[.val (.ref b), .val (.int (Int32.ofNat o)), .val (.int (Int32.ofNat len)), .val (.ref s.heap.size), .unset, .unset] [.int (Int32.ofNat len)])) := g6
  have c8 : Steps p.tables e below (s₁.setTop (entryFrame m #[.ref b, .int (Int32.ofNat o), .int (Int32.ofNat len)] 6)) (T6.setTop (mkF m 58 #[.val (.ref b), .val (.int (Int32.ofNat o)), .val (.int (Int32.ofNat len)), .val (.ref s.heap.size), .val (.int (Int32.ofNat len)), .unset] [.ref s.heap.size])) := c7.trans (by
    refine XS.istore X6.here hexec rfl (hb hbytes d12) rfl rfl ?_
    refine XS.iload X6.here hexec rfl (hb hbytes d14) rfl ?_
    refine XS.iloadN X6.here hexec rfl (hb hbytes d16) rfl ?_
    refine XS.icmpYes X6.here hexec rfl (pc0 := 17) rfl (hb hbytes d17) rfl (ii_eq_t rfl) (by decide) rfl ?_
    refine XS.aloadN X6.here hexec rfl (hb hbytes d57) rfl rfl ?_
    exact Steps.refl _)
  have X8 := X6.wide (L' := []) (cells' := 1) (slots' := len) (fun x hx hlt => by
    simp only [List.nil_append, copyLocs, List.mem_map, List.mem_range] at hx
    obtain ⟨i, -, rfl⟩ := hx
    exact absurd hlt (Nat.lt_irrefl _)) (Nat.le_refl _) (by omega)
  exact ⟨T6, some (.ref s.heap.size), _, _, _, X8, rfl, rfl, rfl, (fun h => by cases h), ⟨⟨rfl, B6, ba3.like (X3.warmed.alike.symm.trans X6.warmed.alike) p6.1 f6.1 f6.2.1 f6.2.2.1, f6.2.1.trans bv3, by rw [X6.warmed.alike.findClass, f6.1]; exact bf3, by rw [f6.2.2.1, bs3]; simp, fun j hj => by rw [f6.2.2.2 j, if_pos (by omega)]; rfl, kp3.put p6 (Nat.le_refl _)⟩, by rw [p6.2.2, bh3, hh0]; simp⟩, fun fs hl => c8.trans (X8.areturnOut hexec rfl hret rfl (hb hbytes d58) hl)⟩
end Cmp3
namespace CodL
def yN : MethodName := ⟨"java/lang/StringUTF16", "coderFromArrayLen", "([BI)B"⟩
abbrev yB : ByteArray := jdk_52_method_15_code
theorem d0 : decode yB 0 = .ok (.iload_n 1, 1) := by decide +kernel
theorem d1 : decode yB 1 = .ok (.aload_n 0, 1) := by decide +kernel
theorem d2 : decode yB 2 = .ok (.arraylength, 1) := by decide +kernel
theorem d3 : decode yB 3 = .ok (.isub, 1) := by decide +kernel
theorem d4 : decode yB 4 = .ok (.bipush 31, 2) := by decide +kernel
theorem d6 : decode yB 6 = .ok (.iushr, 1) := by decide +kernel
theorem d7 : decode yB 7 = .ok (.i2b, 1) := by decide +kernel
theorem d8 : decode yB 8 = .ok (.ireturn, 1) := by decide +kernel
def site : List Cond := []
def tab : Cond := tabOf yN yB 2 (some .byte) site
def P (d : Addr) (B : Cell) (args : Array Value) (s : State) : Prop := args = #[.ref d, .int (Int32.ofNat B.slots.size)] ∧ Arr .byte d B s
def E (r : Option Value) (s u : State) : Prop := XT.PureE (some (.int 0)) r s u
/-- an array as long as the number of chars: LATIN1 -/
theorem law (l : Launch) (d : Addr) (B : Cell) : Law l yN 2 2 0 0 yB 2 (some .byte) site (P d B) E [] 0 0 := by
  refine Law.of_walk (plainFor_of_name (by decide +kernel)) (by decide +kernel) (by decide +kernel) (by decide) (fun _ _ h => by rw [h.1]; rfl) (fun _ U U' hal hh h => ⟨h.1, h.2.mv hal hh⟩) (fun r U U' V V' h1 hal h2 h => XT.PureE.mv r U U' V V' h1 hal h2 h) ?_
  intro p e s m args below meth c s₁ X0 hexec hbytes hml hret hlk hnm hown hh0 W hP
  obtain ⟨rfl, hB⟩ := hP
  have hB0 := hB.mv X0.warmed.alike hh0
  have c1 : Steps p.tables e below (s₁.setTop (entryFrame m #[.ref d, .int (Int32.ofNat B.slots.size)] 2)) (s₁.setTop (mkF m 0 #[.val (.ref d), .val (.int (Int32.ofNat B.slots.size))] [])) := entry rfl
  have c2 : Steps p.tables e below (s₁.setTop (entryFrame m #[.ref d, .int (Int32.ofNat B.slots.size)] 2)) (s₁.setTop (mkF m 2 #[.val (.ref d), .val (.int (Int32.ofNat B.slots.size))] [.ref d, .int (Int32.ofNat B.slots.size)])) := c1.trans (by
    refine XS.iloadN X0.here hexec rfl (hb hbytes d0) rfl ?_
    refine XS.aloadN X0.here hexec rfl (hb hbytes d1) rfl rfl ?_
    exact Steps.refl _)
  have c3 : Steps p.tables e below (s₁.setTop (entryFrame m #[.ref d, .int (Int32.ofNat B.slots.size)] 2)) (s₁.setTop (mkF m 8 #[.val (.ref d), .val (.int (Int32.ofNat B.slots.size))] [.int (lo8 (ushr (Int32.ofNat B.slots.size - Int32.ofNat B.slots.size) 31))])) := c2.trans (by
    refine X0.alen hexec hB0 rfl rfl (hb hbytes d2) ?_
    refine XS.isub X0.here hexec rfl (hb hbytes d3) rfl ?_
    refine bipushV X0.here hexec rfl 31 (hb hbytes d4) (by decide) ?_
    refine iushr X0.here hexec rfl (hb hbytes d6) rfl ?_
    refine i2b X0.here hexec rfl (hb hbytes d7) rfl ?_
    exact Steps.refl _)
  have e0 : lo8 (ushr (Int32.ofNat B.slots.size - Int32.ofNat B.slots.size) 31) = 0 := by rw [Int32.sub_self]; decide
  rw [e0] at c3
  exact ⟨s₁, some (.int 0), _, _, _, X0, rfl, rfl, rfl, (fun h => by cases h), ⟨rfl, hh0⟩, fun fs hl => c3.trans (X0.ireturnOut hexec hret rfl (Or.inr (Or.inr (Or.inl rfl))) (hb hbytes d8) hl)⟩
end CodL
/-- the String at a is Latin-1 over a new byte[] (the heap's one new cell): the low bytes of the len chars of A from o on; every cell but a is kept -/
def Got (a : Addr) (D : Cell) (fV fC : Field) (A : Cell) (o len : Nat) (r : Option Value) (s u : State) : Prop := r = none ∧ ∃ D' V : Cell, Blank "java/lang/String" a D' u ∧ Same D D' [fV.slot, fC.slot] ∧ D'.slots[fV.slot]? = some (.ref s.heap.size) ∧ D'.slots[fC.slot]? = some (.int 0) ∧ Arr .byte s.heap.size V u ∧ V.vm = .none ∧ u.vm.findClass "[B" = some V.cls ∧ V.slots.size = len ∧ (∀ j, j < len → V.slots[j]? = some (.int (lo8 (cv A (o + j))))) ∧ (∀ (y : Addr) (c : Cell), y ≠ a → s.heap[y]? = some c → u.heap[y]? = some c) ∧ u.heap.size = s.heap.size + 1
theorem Got.mv {a : Addr} {D A : Cell} {fV fC : Field} {o len : Nat} : ∀ r (U U' V V' : State), U'.heap = U.heap → V.vm.Alike V'.vm → V'.heap = V.heap → Got a D fV fC A o len r U V → Got a D fV fC A o len r U' V' :=
  fun r U U' V V' h1 hal h2 ⟨e0, D', X, a1, a2, a3, a4, a5, a6, a7, a8, a9, a10, a11⟩ => ⟨e0, D', X, a1.mv hal h2, a2, by rw [h1]; exact a3, a4, by rw [h1]; exact a5.mv hal h2, a6, by rw [hal.findClass]; exact a7, a8, a9, by rw [h1, h2]; exact a10, by rw [h1, h2]; exact a11⟩
namespace New4
def yN : MethodName := ⟨"java/lang/String", "<init>", "([CIILjava/lang/Void;)V"⟩
abbrev yB : ByteArray := jdk_42_method_149_code
theorem d0 : decode yB 0 = .ok (.aload_n 0, 1) := by decide +kernel
theorem d1 : decode yB 1 = .ok (.invokespecial 1, 3) := by decide +kernel
theorem d4 : decode yB 4 = .ok (.iload_n 3, 1) := by decide +kernel
theorem d5 : decode yB 5 = .ok (.ifCond (.ne) 22, 3) := by decide +kernel
theorem d27 : decode yB 27 = .ok (.getstatic 38, 3) := by decide +kernel
theorem d30 : decode yB 30 = .ok (.ifCond (.eq) 28, 3) := by decide +kernel
theorem d33 : decode yB 33 = .ok (.aload_n 1, 1) := by decide +kernel
theorem d34 : decode yB 34 = .ok (.iload_n 2, 1) := by decide +kernel
theorem d35 : decode yB 35 = .ok (.iload_n 3, 1) := by decide +kernel
theorem d36 : decode yB 36 = .ok (.invokestatic 177, 3) := by decide +kernel
theorem d39 : decode yB 39 = .ok (.astore 5, 2) := by decide +kernel
theorem d41 : decode yB 41 = .ok (.aload_n 0, 1) := by decide +kernel
theorem d42 : decode yB 42 = .ok (.aload 5, 2) := by decide +kernel
theorem d44 : decode yB 44 = .ok (.iload_n 3, 1) := by decide +kernel
theorem d45 : decode yB 45 = .ok (.invokestatic 47, 3) := by decide +kernel
theorem d48 : decode yB 48 = .ok (.putfield 15, 3) := by decide +kernel
theorem d51 : decode yB 51 = .ok (.aload_n 0, 1) := by decide +kernel
theorem d52 : decode yB 52 = .ok (.aload 5, 2) := by decide +kernel
theorem d54 : decode yB 54 = .ok (.putfield 9, 3) := by decide +kernel
theorem d57 : decode yB 57 = .ok (.return_, 1) := by decide +kernel
def site : List Cond := [.fieldLink "java/lang/String" 38 "java/lang/String" "COMPACT_STRINGS" "Z", Cmp3.tab, CodL.tab, .laysFinal "java/lang/String" "java/lang/String" "value" "[B", .fieldLink "java/lang/String" 9 "java/lang/String" "value" "[B", .laysFinal "java/lang/String" "java/lang/String" "coder" "B", .fieldLink "java/lang/String" 15 "java/lang/String" "coder" "B"] ++ objW "java/lang/String" 1 ++ staticW "java/lang/String" 177 Cmp3.yN ++ staticW "java/lang/String" 47 CodL.yN
def tab : Cond := tabOf yN yB 6 none site
def P (a : Addr) (D : Cell) (fV fC : Field) (b : Addr) (A : Cell) (z : Int32) (o len : Nat) (args : Array Value) (s : State) : Prop := args = #[.ref a, .ref b, .int (Int32.ofNat o), .int (Int32.ofNat len), .null] ∧ Blank "java/lang/String" a D s ∧ Found "java/lang/String" "value" "[B" fV s ∧ Found "java/lang/String" "coder" "B" fC s ∧ Ch b A s ∧ StaticIs s "java/lang/String" "COMPACT_STRINGS" "Z" (.int z) ∧ ¬ z = 0 ∧ 0 < len ∧ o + len ≤ A.slots.size ∧ len ≤ 536870912 ∧ ∀ i, i < len → ¬ 255 < cv A (o + i)
def E (a : Addr) (D : Cell) (fV fC : Field) (A : Cell) (o len : Nat) (r : Option Value) (s u : State) : Prop := Got a D fV fC A o len r s u
/-- len > 0, no char of the range above 255: a Latin-1 String of their low bytes -/
theorem law (l : Launch) (a : Addr) (D : Cell) (fV fC : Field) (b : Addr) (A : Cell) (z : Int32) (o len : Nat) : Law l yN 5 4 2 35 yB 6 none site (P a D fV fC b A z o len) (E a D fV fC A o len) [⟨a, fC.slot⟩, ⟨a, fV.slot⟩] 1 len := by
  refine Law.of_walk (plainFor_of_name (by decide +kernel)) (by decide +kernel) (by decide +kernel) (by decide) (fun _ _ h => by rw [h.1]; rfl) (fun _ U U' hal hh h => ⟨h.1, h.2.1.mv hal hh, h.2.2.1.al hal, h.2.2.2.1.al hal, h.2.2.2.2.1.mv hal hh, h.2.2.2.2.2.1.there hal hh, h.2.2.2.2.2.2⟩) (fun r U U' V V' h1 hal h2 h => Got.mv r U U' V V' h1 hal h2 h) ?_
  intro p e s m args below meth c s₁ X0 hexec hbytes hml hret hlk hnm hown hh0 W hP
  obtain ⟨rfl, hB, f1, f2, hA, s1, hz, l0, l1, l2, hp⟩ := hP
  have a31 := hA.1.2.2.2
  have c1 : Steps p.tables e below (s₁.setTop (entryFrame m #[.ref a, .ref b, .int (Int32.ofNat o), .int (Int32.ofNat len), .null] 6)) (s₁.setTop (mkF m 0 #[.val (.ref a), .val (.ref b), .val (.int (Int32.ofNat o)), .val (.int (Int32.ofNat len)), .val .null, .unset] [])) := entry rfl
  have c2 : Steps p.tables e below (s₁.setTop (entryFrame m #[.ref a, .ref b, .int (Int32.ofNat o), .int (Int32.ofNat len), .null] 6)) (s₁.setTop (mkF m 1 #[.val (.ref a), .val (.ref b), .val (.int (Int32.ofNat o)), .val (.int (Int32.ofNat len)), .val .null, .unset] [.ref a])) := c1.trans (by
    refine XS.aloadN X0.here hexec rfl (hb hbytes d0) rfl rfl ?_
    exact Steps.refl _)
  obtain ⟨T3, X3, q3, st3⟩ := X0.oinit hexec hown (wks W (objW "java/lang/String" 1)) (g := (mkF m 1 #[.val (.ref a), .val (.ref b), .val (.int (Int32.ofNat o)), .val (.int (Int32.ofNat len)), .val .null, .unset] [.ref a])) rfl (by rw [hml]; rfl) (rest := []) rfl (hb hbytes d1) (W := 0) (by show 2 * 0 + 0 ≤ _; decide) (Nat.le_of_ble_eq_true rfl) (Nat.le_of_ble_eq_true rfl)
  have hh3 := q3.trans hh0
  have c4 : Steps p.tables e below (s₁.setTop (entryFrame m #[.ref a, .ref b, .int (Int32.ofNat o), .int (Int32.ofNat len), .null] 6)) (T3.setTop (mkF m 27 #[.val (.ref a), .val (.ref b), .val (.int (Int32.ofNat o)), .val (.int (Int32.ofNat len)), .val .null, .unset] [])) := (c2.trans (st3 _ (Steps.refl _))).trans (by
    refine XS.iloadN X3.here hexec rfl (hb hbytes d4) rfl ?_
    refine XS.ifYes X3.here hexec rfl (pc0 := 5) rfl (hb hbytes d5) rfl (i0_ne_t (nz32 (by omega) l0)) (by decide) rfl ?_
    exact Steps.refl _)
  obtain ⟨T5, X5, q5, st5⟩ := X3.sget hexec hown (wk W (.fieldLink "java/lang/String" 38 "java/lang/String" "COMPACT_STRINGS" "Z")) s1 (fun _ _ h => by rw [hh3]; exact h) (g := (mkF m 27 #[.val (.ref a), .val (.ref b), .val (.int (Int32.ofNat o)), .val (.int (Int32.ofNat len)), .val .null, .unset] [])) rfl (hb hbytes d27)
  have hh5 := q5.trans hh3
  have c6 : Steps p.tables e below (s₁.setTop (entryFrame m #[.ref a, .ref b, .int (Int32.ofNat o), .int (Int32.ofNat len), .null] 6)) (T5.setTop (mkF m 30 #[.val (.ref a), .val (.ref b), .val (.int (Int32.ofNat o)), .val (.int (Int32.ofNat len)), .val .null, .unset] [.int z])) := c4.trans (st5 _ (Steps.refl _))
  have c7 : Steps p.tables e below (s₁.setTop (entryFrame m #[.ref a, .ref b, .int (Int32.ofNat o), .int (Int32.ofNat len), .null] 6)) (T5.setTop (mkF m 36 #[.val (.ref a), .val (.ref b), .val (.int (Int32.ofNat o)), .val (.int (Int32.ofNat len)), .val .null, .unset] [.int (Int32.ofNat len), .int (Int32.ofNat o), .ref b])) := c6.trans (by
    refine XS.ifNo X5.here hexec rfl (hb hbytes d30) rfl (i0_eq_f hz) ?_
    refine XS.aloadN X5.here hexec rfl (hb hbytes d33) rfl rfl ?_
    refine XS.iloadN X5.here hexec rfl (hb hbytes d34) rfl ?_
    refine XS.iloadN X5.here hexec rfl (hb hbytes d35) rfl ?_
    exact Steps.refl _)
  obtain ⟨v8, T8, X8, E8, g8⟩ := X5.callS hexec (Cmp3.law l b A o len) hown (wks W (staticW "java/lang/String" 177 Cmp3.yN)) (wk W Cmp3.tab) (W := 0) (Nat.le_of_ble_eq_true rfl) (Nat.le_of_ble_eq_true rfl) (Nat.le_refl _) (by show 0 + len ≤ len; omega) (g := (mkF m 36 #[.val (.ref a), .val (.ref b), .val (.int (Int32.ofNat o)), .val (.int (Int32.ofNat len)), .val .null, .unset] [.int (Int32.ofNat len), .int (Int32.ofNat o), .ref b])) rfl (by rw [hml]; rfl) c7 (argsL := [.ref b, .int (Int32.ofNat o), .int (Int32.ofNat len)]) (rest := []) rfl rfl (by show 2 * 0 + 0 ≤ _; decide) (hb hbytes d36) (⟨rfl, hA.mv X5.warmed.alike hh5, l1, l2, hp⟩)
  obtain ⟨e8, z8⟩ := E8
  obtain ⟨rfl, N, n1, n2, n3, n4, n5, n6⟩ := NewArr.mv _ T5 s _ _ hh5.symm (Vm.Alike.refl _) rfl e8
  rw [hh5] at z8
  have hB1 := hB.keep X8.warmed.alike (n6 _ _ hB.1)
  have hne : s.heap.size ≠ a := (Nat.ne_of_lt (Array.getElem?_eq_some_iff.mp hB.1).1).symm
  have c9 : Steps p.tables e below (s₁.setTop (entryFrame m #[.ref a, .ref b, .int (Int32.ofNat o), .int (Int32.ofNat len), .null] 6)) (T8.setTop (mkF m 39 #[.val (.ref a), .val (.ref b), .val (.int (Int32.ofNat o)), .val (.int (Int32.ofNat len)), .val .null, .unset] [.ref s.heap.size])) := g8
  have c10 : Steps p.tables e below (s₁.setTop (entryFrame m #[.ref a, .ref b, .int (Int32.ofNat o), .int (Int32.ofNat len), .null] 6)) (T8.setTop (mkF m 45 #[.val (.ref a), .val (.ref b), .val (.int (Int32.ofNat o)), .val (.int (Int32.ofNat len)), .val .null, .val (.ref s.heap.size)] [.int (Int32.ofNat N.slots.size), .ref s.heap.size, .ref a])) := by
    have hc : Steps p.tables e below (s₁.setTop (entryFrame m #[.ref a, .ref b, .int (Int32.ofNat o), .int (Int32.ofNat len), .null] 6)) (T8.setTop (mkF m 45 #[.val (.ref a), .val (.ref b), .val (.int (Int32.ofNat o)), .val (.int (Int32.ofNat len)), .val .null, .val (.ref s.heap.size)] [.int (Int32.ofNat len), .ref s.heap.size, .ref a])) := c9.trans (by
      refine XS.astore X8.here hexec rfl (hb hbytes d39) rfl rfl rfl ?_
      refine XS.aloadN X8.here hexec rfl (hb hbytes d41) rfl rfl ?_
      refine XS.aload X8.here hexec rfl (hb hbytes d42) rfl rfl ?_
      refine XS.iloadN X8.here hexec rfl (hb hbytes d44) rfl ?_
      exact Steps.refl _)
    rw [n4]; exact hc
  obtain ⟨v11, T11, X11, E11, g11⟩ := X8.callS hexec (CodL.law l s.heap.size N) hown (wks W (staticW "java/lang/String" 47 CodL.yN)) (wk W CodL.tab) (W := 1) (Nat.le_of_ble_eq_true rfl) (Nat.le_of_ble_eq_true rfl) (Nat.le_refl _) (by show 0 + len + 0 ≤ len; omega) (g := (mkF m 45 #[.val (.ref a), .val (.ref b), .val (.int (Int32.ofNat o)), .val (.int (Int32.ofNat len)), .val .null, .val (.ref s.heap.size)] [.int (Int32.ofNat N.slots.size), .ref s.heap.size, .ref a])) rfl (by rw [hml]; rfl) c10 (argsL := [.ref s.heap.size, .int (Int32.ofNat N.slots.size)]) (rest := [.ref a]) rfl rfl (by show 2 * 0 + (1 + 0) ≤ _; decide) (hb hbytes d45) (⟨rfl, n1⟩)
  obtain ⟨rfl, q11⟩ := E11
  have hB11 := hB1.mv (X8.warmed.alike.symm.trans X11.warmed.alike) q11
  have c12 : Steps p.tables e below (s₁.setTop (entryFrame m #[.ref a, .ref b, .int (Int32.ofNat o), .int (Int32.ofNat len), .null] 6)) (T11.setTop (mkF m 48 #[.val (.ref a), .val (.ref b), .val (.int (Int32.ofNat o)), .val (.int (Int32.ofNat len)), .val .null, .val (.ref s.heap.size)] [.int 0, .ref a])) := g11
  obtain ⟨T13, X13, p13, bl13, sl13, st13⟩ := X11.finit hexec hown (wk W (.fieldLink "java/lang/String" 15 "java/lang/String" "coder" "B")) (Or.inr ⟨_, (wk W (.laysFinal "java/lang/String" "java/lang/String" "coder" "B"))⟩) (Or.inl ⟨rfl, hnm⟩) f2 (Or.inl rfl) hB11 (t := .byte) (by decide +kernel) rfl (g := (mkF m 48 #[.val (.ref a), .val (.ref b), .val (.int (Int32.ofNat o)), .val (.int (Int32.ofNat len)), .val .null, .val (.ref s.heap.size)] [.int 0, .ref a])) rfl (rest := []) rfl (hb hbytes d48)
  have c14 : Steps p.tables e below (s₁.setTop (entryFrame m #[.ref a, .ref b, .int (Int32.ofNat o), .int (Int32.ofNat len), .null] 6)) (T13.setTop (mkF m 54 #[.val (.ref a), .val (.ref b), .val (.int (Int32.ofNat o)), .val (.int (Int32.ofNat len)), .val .null, .val (.ref s.heap.size)] [.ref s.heap.size, .ref a])) := (c12.trans (st13 _ (Steps.refl _))).trans (by
    refine XS.aloadN X13.here hexec rfl (hb hbytes d51) rfl rfl ?_
    refine XS.aload X13.here hexec rfl (hb hbytes d52) rfl rfl ?_
    exact Steps.refl _)
  obtain ⟨T15, X15, p15, bl15, sl15, st15⟩ := X13.finit hexec hown (wk W (.fieldLink "java/lang/String" 9 "java/lang/String" "value" "[B")) (Or.inr ⟨_, (wk W (.laysFinal "java/lang/String" "java/lang/String" "value" "[B"))⟩) (Or.inl ⟨rfl, hnm⟩) f1 (Or.inl rfl) bl13 (t := (.array .byte)) (by decide +kernel) rfl (g := (mkF m 54 #[.val (.ref a), .val (.ref b), .val (.int (Int32.ofNat o)), .val (.int (Int32.ofNat len)), .val .null, .val (.ref s.heap.size)] [.ref s.heap.size, .ref a])) rfl (rest := []) rfl (hb hbytes d54)
  have c16 : Steps p.tables e below (s₁.setTop (entryFrame m #[.ref a, .ref b, .int (Int32.ofNat o), .int (Int32.ofNat len), .null] 6)) (T15.setTop (mkF m 57 #[.val (.ref a), .val (.ref b), .val (.int (Int32.ofNat o)), .val (.int (Int32.ofNat len)), .val .null, .val (.ref s.heap.size)] [])) := c14.trans (st15 _ (Steps.refl _))
  have ap := apart (Or.inr ⟨_, (wk W (.laysFinal "java/lang/String" "java/lang/String" "value" "[B"))⟩) (Or.inr ⟨_, (wk W (.laysFinal "java/lang/String" "java/lang/String" "coder" "B"))⟩) f1 f2 (t₁ := .array .byte) (t₂ := .byte) (by decide +kernel) (by decide +kernel) (by decide)
  have al := X8.warmed.alike.symm.trans X15.warmed.alike
  have n7 : T11.heap[s.heap.size]? = some N := by rw [q11]; exact n1.1
  exact ⟨T15, none, _, _, _, X15, by simp, rfl, by omega, (fun _ => rfl), ⟨rfl, _, N, bl15, ((Same.refl D _).set _ (by simp)).set _ (by simp), sl15, (Cell.slots_setSlot_ne _ ap).trans sl13, n1.keep al (p15.other hne (p13.other hne n7)), n2, by rw [al.findClass]; exact n3, n4, n5, fun y c h1 h2 => p15.other h1 (p13.other h1 (by rw [q11]; exact n6 y c h2)), by rw [p15.2.2, p13.2.2, q11]; exact z8⟩, fun fs hl => c16.trans (X15.returnOut hexec hret (hb hbytes d57) hl)⟩
end New4
namespace New1
def yN : MethodName := ⟨"java/lang/String", "<init>", "([C)V"⟩
abbrev yB : ByteArray := jdk_42_method_3_code
theorem d0 : decode yB 0 = .ok (.aload_n 0, 1) := by decide +kernel
theorem d1 : decode yB 1 = .ok (.aload_n 1, 1) := by decide +kernel
theorem d2 : decode yB 2 = .ok (.iconst 0, 1) := by decide +kernel
theorem d3 : decode yB 3 = .ok (.aload_n 1, 1) := by decide +kernel
theorem d4 : decode yB 4 = .ok (.arraylength, 1) := by decide +kernel
theorem d5 : decode yB 5 = .ok (.aconst_null, 1) := by decide +kernel
theorem d6 : decode yB 6 = .ok (.invokespecial 27, 3) := by decide +kernel
theorem d9 : decode yB 9 = .ok (.return_, 1) := by decide +kernel
def site : List Cond := [New4.tab] ++ initW "java/lang/String" 27 New4.yN
def tab : Cond := tabOf yN yB 2 none site
def P (a : Addr) (D : Cell) (fV fC : Field) (b : Addr) (A : Cell) (z : Int32) (args : Array Value) (s : State) : Prop := args = #[.ref a, .ref b] ∧ Blank "java/lang/String" a D s ∧ Found "java/lang/String" "value" "[B" fV s ∧ Found "java/lang/String" "coder" "B" fC s ∧ Ch b A s ∧ StaticIs s "java/lang/String" "COMPACT_STRINGS" "Z" (.int z) ∧ ¬ z = 0 ∧ 0 < A.slots.size ∧ A.slots.size ≤ 536870912 ∧ ∀ i, i < A.slots.size → ¬ 255 < cv A i
def E (a : Addr) (D : Cell) (fV fC : Field) (A : Cell) (r : Option Value) (s u : State) : Prop := Got a D fV fC A 0 A.slots.size r s u
/-- new String(chars), not empty, no char above 255: a Latin-1 String of their low bytes -/
theorem law (l : Launch) (a : Addr) (D : Cell) (fV fC : Field) (b : Addr) (A : Cell) (z : Int32) : Law l yN 2 1 3 52 yB 2 none site (P a D fV fC b A z) (E a D fV fC A) [⟨a, fC.slot⟩, ⟨a, fV.slot⟩] 1 A.slots.size := by
  refine Law.of_walk (plainFor_of_name (by decide +kernel)) (by decide +kernel) (by decide +kernel) (by decide) (fun _ _ h => by rw [h.1]; rfl) (fun _ U U' hal hh h => ⟨h.1, h.2.1.mv hal hh, h.2.2.1.al hal, h.2.2.2.1.al hal, h.2.2.2.2.1.mv hal hh, h.2.2.2.2.2.1.there hal hh, h.2.2.2.2.2.2⟩) (fun r U U' V V' h1 hal h2 h => Got.mv r U U' V V' h1 hal h2 h) ?_
  intro p e s m args below meth c s₁ X0 hexec hbytes hml hret hlk hnm hown hh0 W hP
  obtain ⟨rfl, hB, f1, f2, hA, s1, hz, l0, l2, hp⟩ := hP
  have c1 : Steps p.tables e below (s₁.setTop (entryFrame m #[.ref a, .ref b] 2)) (s₁.setTop (mkF m 0 #[.val (.ref a), .val (.ref b)] [])) := entry rfl
  have c2 : Steps p.tables e below (s₁.setTop (entryFrame m #[.ref a, .ref b] 2)) (s₁.setTop (mkF m 6 #[.val (.ref a), .val (.ref b)] [.null, .int (Int32.ofNat A.slots.size), .int 0, .ref b, .ref a])) := c1.trans (by
    refine XS.aloadN X0.here hexec rfl (hb hbytes d0) rfl rfl ?_
    refine XS.aloadN X0.here hexec rfl (hb hbytes d1) rfl rfl ?_
    refine iconstV X0.here hexec rfl 0 (hb hbytes d2) (by decide) ?_
    refine XS.aloadN X0.here hexec rfl (hb hbytes d3) rfl rfl ?_
    refine X0.alen hexec (hA.1.mv X0.warmed.alike hh0) rfl rfl (hb hbytes d4) ?_
    refine XS.aconstNull X0.here hexec rfl (hb hbytes d5) ?_
    exact Steps.refl _)
  obtain ⟨v3, T3, X3, E3, g3⟩ := X0.callN hexec (New4.law l a D fV fC b A z 0 A.slots.size) rfl hown (wks W (initW "java/lang/String" 27 New4.yN)) (W New4.tab (by simp only [site, List.mem_cons, List.mem_append, true_or, or_true])) (W := 0) (Nat.le_of_ble_eq_true rfl) (Nat.le_of_ble_eq_true rfl) (Nat.le_refl _) (by show 0 + A.slots.size ≤ A.slots.size; omega) (g := (mkF m 6 #[.val (.ref a), .val (.ref b)] [.null, .int (Int32.ofNat A.slots.size), .int (Int32.ofNat 0), .ref b, .ref a])) rfl (by rw [hml]; rfl) c2 (argsL := [.ref b, .int (Int32.ofNat 0), .int (Int32.ofNat A.slots.size), .null]) (rest := []) rfl rfl (by show 2 * 0 + 0 ≤ _; decide) (hb hbytes d6) (⟨rfl, hB.mv X0.warmed.alike hh0, f1.al X0.warmed.alike, f2.al X0.warmed.alike, hA.mv X0.warmed.alike hh0, s1.there X0.warmed.alike hh0, hz, l0, by omega, l2, fun i hi => by rw [Nat.zero_add]; exact hp i hi⟩)
  have e0 := Got.mv _ s₁ s _ _ hh0.symm (Vm.Alike.refl _) rfl E3
  obtain rfl := e0.1
  have c4 : Steps p.tables e below (s₁.setTop (entryFrame m #[.ref a, .ref b] 2)) (T3.setTop (mkF m 9 #[.val (.ref a), .val (.ref b)] [])) := g3
  exact ⟨T3, none, _, _, _, X3, by simp, rfl, by omega, (fun _ => rfl), e0, fun fs hl => c4.trans (X3.returnOut hexec hret (hb hbytes d9) hl)⟩
theorem pays {l : Launch} {R : Room} {p : Program} {e : Env} {below : List Frame} {s : State} {sargs : Array Value} {len W : Nat} (a : Addr) (D : Cell) (fV fC : Field) (b : Addr) (A : Cell) (z : Int32) (htab : tab.before sargs s = true) (hfr : 4 ≤ R.frames) (hlo : W + 65 ≤ R.locals) :
    Back l R p e below s sargs yN len W (fun A₁ a₁ => A₁.cells + 1 ≤ R.cells ∧ A₁.slots + A.slots.size ≤ R.slots ∧ P a D fV fC b A z a₁ A₁.U) (fun A₁ _ v₁ B₁ => E a D fV fC A v₁ A₁.U B₁.U ∧ B₁.locs = A₁.locs ++ [⟨a, fC.slot⟩, ⟨a, fV.slot⟩] ∧ B₁.cells = A₁.cells + 1 ∧ B₁.slots = A₁.slots + A.slots.size) :=
  (law l a D fV fC b A z).pays htab hfr (by omega)
end New1
end StrChars
namespace StrChars.Road
open Jvm Sem ClassFile Op Lib Jvm.Stand Jvm.Free Jvm.Free.XT
open Jvm.Lib.Cold (StaticIs)
abbrev ST : String := "java/lang/String"
/-- every table word that New1's law asks, flat -/
abbrev words : List Jvm.Cond := [.code New1.yN New1.yB 2 none, .initialized ST, .methodLink ST 27 New4.yN, .instanceMethod New4.yN,
  .code New4.yN New4.yB 6 none, .fieldLink ST 38 ST "COMPACT_STRINGS" "Z", .laysFinal ST ST "value" "[B", .fieldLink ST 9 ST "value" "[B", .laysFinal ST ST "coder" "B", .fieldLink ST 15 ST "coder" "B",
  .methodLink ST 1 Lib.objectInit, .instanceMethod Lib.objectInit, .code Lib.objectInit ⟨#[0xb1]⟩ 1 none, .methodLink ST 177 Cmp3.yN, .static Cmp3.yN, .methodLink ST 47 CodL.yN, .static CodL.yN,
  .code Cmp3.yN Cmp3.yB 6 (some (.array .byte)), .initialized U16, .arrayClass .byte, .methodLink U16 115 Cmp5.yN, .static Cmp5.yN, .code Cmp5.yN Cmp5.yB 7 (some .int), .code CodL.yN CodL.yB 2 (some .byte)]
theorem tab_of {a : Array Value} {s : State} (h : ∀ w ∈ words, w.before a s = true) : New1.tab.before a s = true := by
  have h5 : Cmp5.tab.before a s = true := unparts (wk h (.code Cmp5.yN Cmp5.yB 7 (some .int))) (wks h (.initialized Cmp5.yN.cls :: Cmp5.site))
  have hc : CodL.tab.before a s = true := unparts (wk h (.code CodL.yN CodL.yB 2 (some .byte))) (wks h (.initialized CodL.yN.cls :: CodL.site))
  have q5 : ∀ w ∈ Cmp5.tab :: words, w.before a s = true := fun w hw => (List.mem_cons.mp hw).elim (fun e => e ▸ h5) (h w)
  have h3 : Cmp3.tab.before a s = true := unparts (wk q5 (.code Cmp3.yN Cmp3.yB 6 (some (.array .byte)))) (wks q5 (.initialized Cmp3.yN.cls :: Cmp3.site))
  have q3 : ∀ w ∈ Cmp3.tab :: CodL.tab :: words, w.before a s = true := fun w hw => (List.mem_cons.mp hw).elim (fun e => e ▸ h3) fun hw => (List.mem_cons.mp hw).elim (fun e => e ▸ hc) (h w)
  have h4 : New4.tab.before a s = true := unparts (wk q3 (.code New4.yN New4.yB 6 none)) (wks q3 (.initialized New4.yN.cls :: New4.site))
  have q4 : ∀ w ∈ New4.tab :: words, w.before a s = true := fun w hw => (List.mem_cons.mp hw).elim (fun e => e ▸ h4) (h w)
  exact unparts (wk q4 (.code New1.yN New1.yB 2 none)) (wks q4 (.initialized New1.yN.cls :: New1.site))
/-- the words ride from the start Z to the walk's own state -/
theorem moved {Z s : State} {a0 args : Array Value} (hZ : Z.Warmed39 s.vm) (hw : ∀ d ∈ words, d.before a0 Z = true) : ∀ d ∈ words, d.before args s = true := fun d hd => by
  have q := hw d hd
  have t : ∀ d ∈ words, d = .arrayClass .byte ∨ (d.onTables && d.keepsFace) = true := by decide +kernel
  rcases t d hd with rfl | t
  · exact RoadKit.mvA hZ q
  · exact RoadKit.mv hZ q t
/-- WHAT COMES BACK, over the tables of the start Z: h the heap at the call, h' behind it -/
def Q (Z : State) (x : Addr) (A : Cell) (h : Heap) (v : Option Value) (h' : Heap) (L : List Loc) : Prop := v = none ∧ (∀ y ∈ L, y.base = x) ∧ RoadKit.Keep h h' [x] ∧ h'.size = h.size + 1 ∧ RoadKit.Exa Z h' x ST ∧ RoadKit.Fld Z h' x ST "value" "[B" (.ref h.size) ∧ RoadKit.Fld Z h' x ST "coder" "B" (.int 0) ∧
  (∃ V : Cell, RoadKit.Arr Z h' h.size V .byte ∧ V.vm = .none ∧ Z.vm.findClass "[B" = some V.cls ∧ V.slots.size = A.slots.size ∧ ∀ j, j < A.slots.size → V.slots[j]? = some (.int (lo8 (cv A j)))) ∧
  ∀ (O n d : String) (w : Value), RoadKit.Fld Z h x O n d w → RoadKit.slotOf Z O n d ≠ RoadKit.slotOf Z ST "value" "[B" → RoadKit.slotOf Z O n d ≠ RoadKit.slotOf Z ST "coder" "B" → RoadKit.Fld Z h' x O n d w
/-- **new String(chars) AT A CALL, IN THE ROAD'S FORM**: for specialBack behind newO: x the fresh String, b the char[] with the cell A -/
theorem back {p : Program} {l : Launch} {e : Env} {R : Room} {s : State} {args : Array Value} {below : List Frame} {len W : Nat} {Z : State} {a0 : Array Value} {h : Heap} (hZ : Z.Warmed39 s.vm) (hw : ∀ d ∈ words, d.before a0 Z = true) {kI : Nat} (wi : (Jvm.Cond.instantiable ST kI).before a0 Z = true)
    {x b : Addr} {A : Cell} {z : Int32} {v0 c0 : Value} (E : RoadKit.Exa Z h x ST) (V : RoadKit.Fld Z h x ST "value" "[B" v0) (C : RoadKit.Fld Z h x ST "coder" "B" c0) (K : RoadKit.Arr Z h b A .char) (hty : Typed .char A) (S : RoadKit.Sta Z h ST "COMPACT_STRINGS" "Z" (.int z)) (hz : ¬ z = 0)
    (l0 : 0 < A.slots.size) (l2 : A.slots.size ≤ 536870912) (hp : ∀ i, i < A.slots.size → ¬ 255 < cv A i) (hfr : 4 ≤ R.frames) (hlo : W + 65 ≤ R.locals) :
    Back l R p e below s args New1.yN len W (fun P a => a = #[.ref x, .ref b] ∧ P.U.heap = h ∧ P.cells + 1 ≤ R.cells ∧ P.slots + A.slots.size ≤ R.slots)
      (fun P _ v B => ∃ L, Q Z x A h v B.U.heap L ∧ B.locs = P.locs ++ L ∧ B.cells = P.cells + 1 ∧ B.slots = P.slots + A.slots.size) := by
  intro m meth c P g ig mk a X hg hsize hdg hW hn hp'
  obtain ⟨rfl, rfl, r1, r2⟩ := hp'
  have al : Z.vm.Alike P.U.vm := hZ.alike.trans X.warmed.alike
  obtain ⟨D, cfV, kV, iV, fV, hD, gV, stV, knV, obV, asV, slV⟩ := id V
  obtain ⟨D', cfC, kC, iC, fC, hD', gC, stC, -, -, asC, slC⟩ := id C
  cases hD.symm.trans hD'
  obtain ⟨D2, kD, e1, e2, e3, e4, e5⟩ := id E
  cases hD.symm.trans e1
  obtain ⟨c2, k2, i1, i2, i3, -⟩ := Cond.instantiable_spec wi
  cases e2.symm.trans i1
  cases e3.symm.trans i2
  obtain ⟨kU, u1, u2⟩ := al.2.2 _ _ e3
  have hB : Blank ST x D P.U := ⟨hD, ⟨knV, fun q hq => by rw [hq] at obV; cases obV⟩, by rw [al.findClass]; exact e2, kU, u1, by rw [u2]; exact i3, by rw [u2]; exact e5 i3⟩
  have F1 : Found ST "value" "[B" fV P.U := ⟨SBG.found_only al ⟨cfV, kV, iV, gV⟩, stV⟩
  have F2 : Found ST "coder" "B" fC P.U := ⟨SBG.found_only al ⟨cfC, kC, iC, gC⟩, stC⟩
  have hA : Ch b A P.U := ⟨⟨K.1, State.isArrayOf_alike al K.2.1, K.2.2, by omega⟩, hty⟩
  have hS : StaticIs P.U ST "COMPACT_STRINGS" "Z" (.int z) := by
    obtain ⟨cfS, iS, kS, fS, st, cS, t1, t2, t3, t4, t5, t6, t7⟩ := S
    exact StaticIs.there (s := { Z with heap := P.U.heap }) ⟨cfS, iS, kS, fS, st, cS, t1, t2, t3, t4, t5, (fun q => by rw [q] at t6; cases t6), t7⟩ al rfl
  obtain ⟨v, B, X', ⟨⟨hv, E', V', q1, q2, q3, q4, q5, q6, q7, q8, q9, q10, q11⟩, hl, hc, hs⟩, st⟩ := New1.pays x D fV fC b A z (tab_of (moved hZ hw)) hfr hlo m meth c P g ig mk _ X hg hsize hdg hW hn ⟨r1, r2, rfl, hB, F1, F2, hA, hS, hz, l0, l2, hp⟩
  have al' : Z.vm.Alike B.U.vm := hZ.alike.trans X'.warmed.alike
  have hsz : E'.slots.size = D.slots.size := by
    obtain ⟨-, -, -, kB, w1, w2, w3⟩ := q1
    obtain ⟨kB', y1, y2⟩ := al'.2.2 _ _ e3
    rw [q2.2.1] at w1
    cases w1.symm.trans y1
    rw [w3, e5 i3, y2]
  refine ⟨v, B, X', ⟨_, ⟨hv, ?_, ⟨by omega, fun y cy hy hn' => q10 y cy (by simpa using hn') hy, fun y cy hy => ?_⟩, q11, ⟨E', _, q1.1, by rw [q2.2.1]; exact e2, by rw [q2.2.1]; exact e3, by rw [q2.1]; exact obV, fun _ => by rw [hsz]; exact e5 i3⟩,
    ⟨E', cfV, kV, iV, fV, q1.1, gV, stV, by rw [q2.1]; exact knV, by rw [q2.1]; exact obV, by rw [q2.2.1]; exact asV, q3⟩, ⟨E', cfC, kC, iC, fC, q1.1, gC, stC, by rw [q2.1]; exact knV, by rw [q2.1]; exact obV, by rw [q2.2.1]; exact asC, q4⟩,
    ⟨V', ⟨q5.1, State.isArrayOf_alike al'.symm q5.2.1, q5.2.2.1⟩, q6, by rw [← al'.findClass]; exact q7, q8, fun j hj => by have := q9 j hj; rwa [Nat.zero_add] at this⟩, fun O n d w F n1 n2 => ?_⟩, hl, hc, hs⟩, st⟩
  · intro y hy
    simp only [List.mem_cons, List.not_mem_nil, or_false] at hy
    rcases hy with rfl | rfl <;> rfl
  · by_cases q : y = x
    · subst q
      cases hD.symm.trans hy
      exact ⟨E', q1.1, q2.2.1, q2.1, hsz⟩
    · exact ⟨cy, q10 y cy q hy, rfl, rfl, rfl⟩
  · obtain ⟨D3, cf, k, i, f, g1, g2, g3, g4, g5, g6, g7⟩ := F
    cases hD.symm.trans g1
    simp only [RoadKit.slotOf, g2, gV, gC, Option.map_some, Option.getD_some] at n1 n2
    exact ⟨E', cf, k, i, f, q1.1, g2, g3, by rw [q2.1]; exact g4, by rw [q2.1]; exact g5, by rw [q2.2.1]; exact g6, by rw [q2.2.2 f.slot (by simp [n1, n2])]; exact g7⟩
end StrChars.Road
namespace StrChars.Road
open Jvm Sem ClassFile Op Lib Jvm.Stand Jvm.Free Jvm.Free.XT
/-- WHAT COMES BACK, the byte[] as a list of values -/
def QA (Z : State) (x : Addr) (zn : Int32) (cs : List Int32) (h : Heap) (v : Option Value) (h' : Heap) (L : List Loc) : Prop := v = none ∧ (∀ y ∈ L, y.base = x) ∧ RoadKit.Keep h h' [x] ∧ h'.size = h.size + 1 ∧ RoadKit.Exa Z h' x ST ∧ RoadKit.Fld Z h' x ST "value" "[B" (.ref h.size) ∧ RoadKit.Fld Z h' x ST "coder" "B" (.int 0) ∧
  (∃ kb, Z.vm.findClass "[B" = some kb ∧ RoadKit.Arv Z h' h.size kb .byte zn (cs.map fun c => .int (lo8 c)) (.int 0)) ∧
  ∀ (O n d : String) (w : Value), RoadKit.Fld Z h x O n d w → RoadKit.slotOf Z O n d ≠ RoadKit.slotOf Z ST "value" "[B" → RoadKit.slotOf Z O n d ≠ RoadKit.slotOf Z ST "coder" "B" → RoadKit.Fld Z h' x O n d w
/-- **new String(chars) AT A CALL, THE ARRAYS AS LISTS**: the char[] at b holds cs, not empty, no char above 255 -/
theorem backArv {p : Program} {l : Launch} {e : Env} {R : Room} {s : State} {args : Array Value} {below : List Frame} {len W : Nat} {Z : State} {a0 : Array Value} {h : Heap} (hZ : Z.Warmed39 s.vm) (hw : ∀ d ∈ words, d.before a0 Z = true) {kI : Nat} (wi : (Jvm.Cond.instantiable ST kI).before a0 Z = true)
    {x b : Addr} {k : ClassId} {zn z : Int32} {cs : List Int32} {dv v0 c0 : Value} (E : RoadKit.Exa Z h x ST) (V : RoadKit.Fld Z h x ST "value" "[B" v0) (C : RoadKit.Fld Z h x ST "coder" "B" c0) (K : RoadKit.Arv Z h b k .char zn (cs.map Value.int) dv) (S : RoadKit.Sta Z h ST "COMPACT_STRINGS" "Z" (.int z)) (hz : ¬ z = 0)
    (hlen : zn.toNatClampNeg = cs.length) (h0 : 0 < cs.length) (hbig : cs.length ≤ 536870912) (hall : ∀ c ∈ cs, ¬ 255 < c) (hfr : 4 ≤ R.frames) (hlo : W + 65 ≤ R.locals) :
    Back l R p e below s args New1.yN len W (fun P a => a = #[.ref x, .ref b] ∧ P.U.heap = h ∧ P.cells + 1 ≤ R.cells ∧ P.slots + cs.length ≤ R.slots)
      (fun P _ v B => ∃ L, QA Z x zn cs h v B.U.heap L ∧ B.locs = P.locs ++ L ∧ B.cells = P.cells + 1 ∧ B.slots = P.slots + cs.length) := by
  obtain ⟨A, K1, K2, K3, K4, K5, K6⟩ := K
  have e : A.slots.size = cs.length := K3.trans hlen
  have hat : ∀ (i : Nat) (hi : i < cs.length), A.slots[i]? = some (.int cs[i]) := fun i hi => by rw [K5 i (by omega)]; simp [List.getD_eq_getElem?_getD, hi]
  have hcv : ∀ (i : Nat) (hi : i < cs.length), cv A i = cs[i] := fun i hi => by unfold cv; rw [hat i hi]
  have hty : Typed .char A := fun i v hv => by
    have hi : i < A.slots.size := (Array.getElem?_eq_some_iff.mp hv).1
    have q := K5 i hi
    rw [hv] at q
    rw [Option.some.inj q]
    exact K6 i hi
  refine Back.mono (back hZ hw wi E V C K1 hty S hz (by omega) (by omega) (fun i hi => by rw [hcv i (by omega)]; exact hall _ (List.getElem_mem _)) hfr hlo) (fun P a hp => ⟨hp.1, hp.2.1, hp.2.2.1, by rw [e]; exact hp.2.2.2⟩) (fun P a v B hp hq => ?_)
  obtain ⟨L, ⟨q1, q2, q3, q4, q5, q6, q7, ⟨V', v1, v2, v3, v4, v5⟩, q9⟩, hl, hc, hs⟩ := hq
  refine ⟨L, ⟨q1, q2, q3, q4, q5, q6, q7, ⟨V'.cls, v3, V', v1, rfl, by rw [v4, e, hlen], K4, fun i hi => ?_, fun i hi => ?_⟩, q9⟩, hl, hc, by rw [hs, e]⟩
  · have hi' : i < cs.length := by omega
    rw [v5 i (by omega), hcv i hi']; simp [List.getD_eq_getElem?_getD, hi']
  · have hi' : i < cs.length := by omega
    simp only [List.getD_eq_getElem?_getD, List.getElem?_map, List.getElem?_eq_getElem hi', Option.map_some, Option.getD_some]
    exact fits_lo8 _
end StrChars.Road
namespace StrChars.Road
open Jvm Sem ClassFile Op Lib Jvm.Stand Jvm.Free Jvm.Free.XT
/-- WHAT COMES BACK, in the writer's own shape -/
def QV (Z : State) (x : Addr) (N : Int32) (bs : List Int32) (h : Heap) (n0 : Nat) (v : Option Value) (h' : Heap) (L : List Loc) : Prop := v = none ∧ RoadKit.Fr n0 L ∧ RoadKit.Keep h h' [x] ∧ RoadKit.Exa Z h' x ST ∧ RoadKit.Fld Z h' x ST "coder" "B" (.int 0) ∧
  ∃ (t : Addr) (kb : ClassId), n0 ≤ t ∧ h.size ≤ t ∧ ¬ t = x ∧ RoadKit.Fld Z h' x ST "value" "[B" (.ref t) ∧ RoadKit.Arv Z h' t kb .byte N (bs.map Value.int) (.int 0)
/-- **new String(chars) AT A CALL, FOR THE WRITER**: a char[] of n known ints, each 0 to 255 -/
theorem backV {p : Program} {l : Launch} {e : Env} {R : Room} {s : State} {args : Array Value} {below : List Frame} {len W : Nat} {Z : State} {a0 : Array Value} {h : Heap} (hZ : Z.Warmed39 s.vm) (hw : ∀ d ∈ words, d.before a0 Z = true) {kI : Nat} (wi : (Jvm.Cond.instantiable ST kI).before a0 Z = true)
    {x b : Addr} {kC : ClassId} {cs bs : List Int32} {d v0 c0 : Value} {z N : Int32} {n n0 : Nat} (hx0 : n0 ≤ x) (hh0 : n0 ≤ h.size) (E : RoadKit.Exa Z h x ST) (V : RoadKit.Fld Z h x ST "value" "[B" v0) (C : RoadKit.Fld Z h x ST "coder" "B" c0) (K : RoadKit.Arv Z h b kC .char N (cs.map Value.int) d) (S : RoadKit.Sta Z h ST "COMPACT_STRINGS" "Z" (.int z)) (hz : ¬ z = 0)
    (hn : cs.length = n) (hN : N = Int32.ofNat n) (l0 : 0 < n) (l2 : n ≤ 4000) (hp : ∀ c ∈ cs, ¬ c < 0 ∧ ¬ (255 : Int32) < c) (hb : bs = cs.map (fun c => c.toInt8.toInt32)) (hfr : 4 ≤ R.frames) (hlo : W + 65 ≤ R.locals) :
    Back l R p e below s args (⟨"java/lang/String", "<init>", "([C)V"⟩ : MethodName) len W (fun P a => a = #[.ref x, .ref b] ∧ P.U.heap = h ∧ P.cells + 1 ≤ R.cells ∧ P.slots + n ≤ R.slots)
      (fun P _ v B => ∃ L, QV Z x N bs h n0 v B.U.heap L ∧ B.locs = P.locs ++ L ∧ B.cells = P.cells + 1 ∧ B.slots = P.slots + n) := by
  subst hn hN hb
  refine Back.mono (backArv hZ hw wi E V C K S hz (n32 (by omega)) l0 (by omega) (fun c hc => (hp c hc).2) hfr hlo) (fun P a hp => hp) (fun P a v B hp hq => ?_)
  obtain ⟨L, ⟨q1, q2, q3, q4, q5, q6, q7, ⟨kb, v1, v2⟩, q9⟩, hl, hc, hs⟩ := hq
  exact ⟨L, ⟨q1, fun y hy => by rw [q2 y hy]; exact hx0, q3, q5, q7, h.size, kb, hh0, Nat.le_refl _, Nat.ne_of_gt E.lt, q6, by rw [List.map_map]; exact v2⟩, hl, hc, hs⟩
end StrChars.Road
namespace StrChars
open Jvm Sem ClassFile Op Lib Jvm.Stand Jvm.Free.XT Jvm.Free.ALB Jvm.Free.JM Jvm.Free
open Jvm.Lib.Cold (StaticIs)
def hi8 (x : Int32) : Int32 := lo8 (x >>> ((8 : Int32) &&& 31))
theorem shr0 (c : Int32) : c >>> ((0 : Int32) &&& 31) = c := by
  have e : ((0 : Int32) &&& 31) = 0 := by decide
  rw [e]
  apply Int32.toBitVec_inj.mp
  rw [Int32.toBitVec_shiftRight]
  have e1 : ((0 : Int32).toBitVec.smod 32) = 0#32 := by decide
  rw [e1, BitVec.sshiftRight_eq']
  exact BitVec.sshiftRight_zero
end StrChars
namespace StrChars
open Jvm Sem ClassFile Op Lib Jvm.Stand Jvm.Free.XT Jvm.Free.ALB Jvm.Free.JM Jvm.Free
open Jvm.Lib.Cold (StaticIs)
theorem shr1 {n : Nat} (h : 2 * n < 2 ^ 31) : Int32.ofNat (2 * n) >>> ((1 : Int32) &&& 31) = Int32.ofNat n := by
  have e : ((1 : Int32) &&& 31) = 1 := by decide
  rw [e]
  apply Int32.toBitVec_inj.mp
  rw [Int32.toBitVec_shiftRight]
  have e1 : ((1 : Int32).toBitVec.smod 32) = 1#32 := by decide
  have hm : (BitVec.ofNat 32 (2 * n)).toNat = 2 * n := by rw [BitVec.toNat_ofNat, Nat.mod_eq_of_lt (by omega)]
  rw [e1, BitVec.sshiftRight_eq']
  apply BitVec.eq_of_toNat_eq
  show ((BitVec.ofNat 32 (2 * n)).sshiftRight 1).toNat = (BitVec.ofNat 32 n).toNat
  rw [BitVec.toNat_sshiftRight_of_msb_false (by rw [BitVec.msb_eq_false_iff_two_mul_lt, hm]; omega), hm, BitVec.toNat_ofNat, Nat.shiftRight_eq_div_pow]
  omega
/-- the array's cell V codes the n chars f 0 .. f (n - 1) by the coder cd, as the JDK does: coder 1 just where some char is above 255 -/
def Cod (cd : Int32) (n : Nat) (f : Nat → Int32) (V : Cell) : Prop := (cd = 0 ∧ V.slots.size = n ∧ ∀ j, j < n → V.slots[j]? = some (.int (lo8 (f j))) ∧ ¬ 255 < f j) ∨ (cd = 1 ∧ V.slots.size = 2 * n ∧ (∀ j, j < n → V.slots[2 * j]? = some (.int (lo8 (f j))) ∧ V.slots[2 * j + 1]? = some (.int (hi8 (f j)))) ∧ ∃ j, j < n ∧ 255 < f j)
theorem Cod.cd {cd : Int32} {n : Nat} {f : Nat → Int32} {V : Cell} (h : Cod cd n f V) : cd = 0 ∨ cd = 1 := h.imp (fun q => q.1) fun q => q.1
theorem Cod.len {cd : Int32} {n : Nat} {f : Nat → Int32} {V : Cell} (h : Cod cd n f V) (hs : V.slots.size < 2 ^ 31) : Int32.ofNat V.slots.size >>> (cd &&& 31) = Int32.ofNat n := by
  rcases h with ⟨rfl, h, -⟩ | ⟨rfl, h, -⟩
  · rw [shr0, h]
  · rw [h, shr1 (by omega)]
/-- **x is a String of the n chars f 0 .. f (n - 1)**, Latin-1 or UTF-16; its array at t has the cell V -/
def Txt (x t : Addr) (V : Cell) (cd : Int32) (n : Nat) (f : Nat → Int32) (U : State) : Prop := Exact "java/lang/String" x U ∧ Has x "java/lang/String" "value" "[B" (.ref t) U ∧ Has x "java/lang/String" "coder" "B" (.int cd) U ∧ XT.Arr .byte t V U ∧ Cod cd n f V ∧ ∀ j, j < n → ¬ f j < 0 ∧ ¬ 65535 < f j
theorem Txt.mv {x t : Addr} {V : Cell} {cd : Int32} {n : Nat} {f : Nat → Int32} {U U' : State} (h : Txt x t V cd n f U) (hal : U.vm.Alike U'.vm) (hh : U'.heap = U.heap) : Txt x t V cd n f U' := ⟨h.1.mv hal hh, h.2.1.mv hal hh, h.2.2.1.mv hal hh, h.2.2.2.1.mv hal hh, h.2.2.2.2⟩
namespace Cdr
def yN : MethodName := ⟨"java/lang/String", "coder", "()B"⟩
abbrev yB : ByteArray := jdk_42_method_152_code
theorem d0 : decode yB 0 = .ok (.getstatic 38, 3) := by decide +kernel
theorem d3 : decode yB 3 = .ok (.ifCond (.eq) 10, 3) := by decide +kernel
theorem d6 : decode yB 6 = .ok (.aload_n 0, 1) := by decide +kernel
theorem d7 : decode yB 7 = .ok (.getfield 15, 3) := by decide +kernel
theorem d10 : decode yB 10 = .ok (.goto 4, 3) := by decide +kernel
theorem d14 : decode yB 14 = .ok (.ireturn, 1) := by decide +kernel
def site : List Cond := [.fieldLink "java/lang/String" 38 "java/lang/String" "COMPACT_STRINGS" "Z", .fieldLink "java/lang/String" 15 "java/lang/String" "coder" "B"]
def tab : Cond := tabOf yN yB 1 (some .byte) site
def P (x : Addr) (cd z : Int32) (args : Array Value) (s : State) : Prop := args = #[.ref x] ∧ Has x "java/lang/String" "coder" "B" (.int cd) s ∧ (cd = 0 ∨ cd = 1) ∧ StaticIs s "java/lang/String" "COMPACT_STRINGS" "Z" (.int z) ∧ ¬ z = 0
def E (cd : Int32) (r : Option Value) (s u : State) : Prop := XT.PureE (some (.int cd)) r s u
theorem law (l : Launch) (x : Addr) (cd z : Int32) : Law l yN 1 0 0 0 yB 1 (some .byte) site (P x cd z) (E cd) [] 0 0 := by
  refine Law.of_walk (plainFor_of_name (by decide +kernel)) (by decide +kernel) (by decide +kernel) (by decide) (fun _ _ h => by rw [h.1]; rfl) (fun _ U U' hal hh h => ⟨h.1, h.2.1.mv hal hh, h.2.2.1, h.2.2.2.1.there hal hh, h.2.2.2.2⟩) (fun r U U' V V' h1 hal h2 h => XT.PureE.mv r U U' V V' h1 hal h2 h) ?_
  intro p e s m args below meth c s₁ X0 hexec hbytes hml hret hlk hnm hown hh0 W hP
  obtain ⟨rfl, hx, hc, s1, hz⟩ := hP
  have c1 : Steps p.tables e below (s₁.setTop (entryFrame m #[.ref x] 1)) (s₁.setTop (mkF m 0 #[.val (.ref x)] [])) := entry rfl
  obtain ⟨T2, X2, q2, st2⟩ := X0.sget hexec hown (wk W (.fieldLink "java/lang/String" 38 "java/lang/String" "COMPACT_STRINGS" "Z")) s1 (fun _ _ h => by rw [hh0]; exact h) (g := (mkF m 0 #[.val (.ref x)] [])) rfl (hb hbytes d0)
  have hh2 := q2.trans hh0
  have c3 : Steps p.tables e below (s₁.setTop (entryFrame m #[.ref x] 1)) (T2.setTop (mkF m 7 #[.val (.ref x)] [.ref x])) := (c1.trans (st2 _ (Steps.refl _))).trans (by
    refine XS.ifNo X2.here hexec rfl (hb hbytes d3) rfl (i0_eq_f hz) ?_
    refine XS.aloadN X2.here hexec rfl (hb hbytes d6) rfl rfl ?_
    exact Steps.refl _)
  obtain ⟨T4, X4, q4, st4⟩ := X2.hget hexec hown (wk W (.fieldLink "java/lang/String" 15 "java/lang/String" "coder" "B")) (hx.mv X2.warmed.alike hh2) (g := (mkF m 7 #[.val (.ref x)] [.ref x])) rfl (rest := []) rfl (hb hbytes d7)
  have c5 : Steps p.tables e below (s₁.setTop (entryFrame m #[.ref x] 1)) (T4.setTop (mkF m 14 #[.val (.ref x)] [.int cd])) := (c3.trans (st4 _ (Steps.refl _))).trans (by
    refine XS.goto X4.here hexec rfl (pc0 := 10) rfl (hb hbytes d10) (by decide) rfl ?_
    exact Steps.refl _)
  exact ⟨T4, some (.int cd), _, _, _, X4, rfl, rfl, rfl, (fun h => by cases h), ⟨rfl, q4.trans hh2⟩, fun fs hl => c5.trans (X4.ireturnOut hexec hret (by rcases hc with rfl | rfl <;> rfl) (Or.inr (Or.inr (Or.inl rfl))) (hb hbytes d14) hl)⟩
end Cdr
namespace Len
def yN : MethodName := ⟨"java/lang/String", "length", "()I"⟩
abbrev yB : ByteArray := jdk_42_method_54_code
theorem d0 : decode yB 0 = .ok (.aload_n 0, 1) := by decide +kernel
theorem d1 : decode yB 1 = .ok (.getfield 9, 3) := by decide +kernel
theorem d4 : decode yB 4 = .ok (.arraylength, 1) := by decide +kernel
theorem d5 : decode yB 5 = .ok (.aload_n 0, 1) := by decide +kernel
theorem d6 : decode yB 6 = .ok (.invokevirtual 335, 3) := by decide +kernel
theorem d9 : decode yB 9 = .ok (.ishr, 1) := by decide +kernel
theorem d10 : decode yB 10 = .ok (.ireturn, 1) := by decide +kernel
def site : List Cond := [.fieldLink "java/lang/String" 9 "java/lang/String" "value" "[B", Cdr.tab] ++ virtW "java/lang/String" 335 "java/lang/String" Cdr.yN Cdr.yN
def tab : Cond := tabOf yN yB 1 (some .int) site
def P (x t : Addr) (V : Cell) (cd : Int32) (n : Nat) (f : Nat → Int32) (z : Int32) (args : Array Value) (s : State) : Prop := args = #[.ref x] ∧ Txt x t V cd n f s ∧ StaticIs s "java/lang/String" "COMPACT_STRINGS" "Z" (.int z) ∧ ¬ z = 0
def E (n : Nat) (r : Option Value) (s u : State) : Prop := XT.PureE (some (.int (Int32.ofNat n))) r s u
/-- length() of a String of n chars, in either coding -/
theorem law (l : Launch) (x t : Addr) (V : Cell) (cd : Int32) (n : Nat) (f : Nat → Int32) (z : Int32) : Law l yN 1 0 1 13 yB 1 (some .int) site (P x t V cd n f z) (E n) [] 0 0 := by
  refine Law.of_walk (plainFor_of_name (by decide +kernel)) (by decide +kernel) (by decide +kernel) (by decide) (fun _ _ h => by rw [h.1]; rfl) (fun _ U U' hal hh h => ⟨h.1, h.2.1.mv hal hh, h.2.2.1.there hal hh, h.2.2.2⟩) (fun r U U' V V' h1 hal h2 h => XT.PureE.mv r U U' V V' h1 hal h2 h) ?_
  intro p e s m args below meth c s₁ X0 hexec hbytes hml hret hlk hnm hown hh0 W hP
  obtain ⟨rfl, hx, s1, hz⟩ := hP
  have v31 := hx.2.2.2.1.2.2.2
  have c1 : Steps p.tables e below (s₁.setTop (entryFrame m #[.ref x] 1)) (s₁.setTop (mkF m 1 #[.val (.ref x)] [.ref x])) := Steps.trans (entry rfl) (by
    show Steps p.tables e below (s₁.setTop (mkF m 0 #[.val (.ref x)] [])) _
    refine XS.aloadN X0.here hexec rfl (hb hbytes d0) rfl rfl ?_
    exact Steps.refl _)
  obtain ⟨T2, X2, q2, st2⟩ := X0.hget hexec hown (wk W (.fieldLink "java/lang/String" 9 "java/lang/String" "value" "[B")) (hx.mv X0.warmed.alike hh0).2.1 (g := (mkF m 1 #[.val (.ref x)] [.ref x])) rfl (rest := []) rfl (hb hbytes d1)
  have hh2 := q2.trans hh0
  have hx2 := hx.mv X2.warmed.alike hh2
  have c3 : Steps p.tables e below (s₁.setTop (entryFrame m #[.ref x] 1)) (T2.setTop (mkF m 6 #[.val (.ref x)] [.ref x, .int (Int32.ofNat V.slots.size)])) := (c1.trans (st2 _ (Steps.refl _))).trans (by
    refine X2.alen hexec hx2.2.2.2.1 rfl rfl (hb hbytes d4) ?_
    refine XS.aloadN X2.here hexec rfl (hb hbytes d5) rfl rfl ?_
    exact Steps.refl _)
  obtain ⟨v4, T4, X4, E4, g4⟩ := X2.callV hexec (Cdr.law l x cd z) hown (wks W (virtW "java/lang/String" 335 "java/lang/String" Cdr.yN Cdr.yN)) rfl (by decide) (wk W Cdr.tab) (W := 1) (Nat.le_of_ble_eq_true rfl) (Nat.le_of_ble_eq_true rfl) (Nat.le_refl _) (Nat.le_refl _) (hx2.1.fc X2.warmed.alike) hx2.1.is (g := (mkF m 6 #[.val (.ref x)] [.ref x, .int (Int32.ofNat V.slots.size)])) rfl (by rw [hml]; rfl) c3 (argsL := []) (rest := [.int (Int32.ofNat V.slots.size)]) rfl rfl (by show 2 * 0 + (1 + 0) ≤ _; decide) (hb hbytes d6) (⟨rfl, hx2.2.2.1, hx.2.2.2.2.1.cd, s1.there X2.warmed.alike hh2, hz⟩)
  obtain ⟨rfl, q4⟩ := E4
  have c5 : Steps p.tables e below (s₁.setTop (entryFrame m #[.ref x] 1)) (T4.setTop (mkF m 10 #[.val (.ref x)] [.int (Int32.ofNat V.slots.size >>> (cd &&& 31))])) := Steps.trans g4 (by
    refine ishr X4.here hexec rfl (hb hbytes d9) rfl ?_
    exact Steps.refl _)
  rw [hx.2.2.2.2.1.len v31] at c5
  exact ⟨T4, some (.int (Int32.ofNat n)), _, _, _, X4, rfl, rfl, rfl, (fun h => by cases h), ⟨rfl, q4.trans hh2⟩, fun fs hl => c5.trans (X4.ireturnOut hexec hret rfl (Or.inl rfl) (hb hbytes d10) hl)⟩
theorem pays {l : Launch} {R : Room} {p : Program} {e : Env} {below : List Frame} {s : State} {sargs : Array Value} {len W : Nat} (x t : Addr) (V : Cell) (cd : Int32) (n : Nat) (f : Nat → Int32) (z : Int32) (htab : tab.before sargs s = true) (hfr : 2 ≤ R.frames) (hlo : W + 25 ≤ R.locals) :
    Back l R p e below s sargs yN len W (fun A₁ a₁ => A₁.cells + 0 ≤ R.cells ∧ A₁.slots + 0 ≤ R.slots ∧ P x t V cd n f z a₁ A₁.U) (fun A₁ _ v₁ B₁ => E n v₁ A₁.U B₁.U ∧ B₁.locs = A₁.locs ++ [] ∧ B₁.cells = A₁.cells + 0 ∧ B₁.slots = A₁.slots + 0) :=
  (law l x t V cd n f z).pays htab hfr (by omega)
end Len
end StrChars
namespace StrChars.Road
open Jvm Sem ClassFile Op Lib Jvm.Stand Jvm.Free Jvm.Free.XT
open Jvm.Lib.Cold (StaticIs)
theorem consq {a : Array Value} {s : State} {c : Jvm.Cond} {L : List Jvm.Cond} (h0 : c.before a s = true) (h : ∀ w ∈ L, w.before a s = true) : ∀ w ∈ c :: L, w.before a s = true := fun w hw => (List.mem_cons.mp hw).elim (fun e => e ▸ h0) (h w)
/-- the words of String.length(), either coding -/
abbrev wordsLen : List Jvm.Cond := [.code Len.yN Len.yB 1 (some .int), .initialized ST, .fieldLink ST 9 ST "value" "[B", .fieldLink ST 38 ST "COMPACT_STRINGS" "Z", .fieldLink ST 15 ST "coder" "B", .code Cdr.yN Cdr.yB 1 (some .byte), .methodLink ST 335 Cdr.yN, .declares Cdr.yN, .selects ST Cdr.yN Cdr.yN, .instanceMethod Cdr.yN]
theorem tabLen_of {a : Array Value} {s : State} (h : ∀ w ∈ wordsLen, w.before a s = true) : Len.tab.before a s = true := by
  have hc : Cdr.tab.before a s = true := unparts (wk h (.code Cdr.yN Cdr.yB 1 (some .byte))) (wks h (.initialized Cdr.yN.cls :: Cdr.site))
  have q := consq hc h
  exact unparts (wk q (.code Len.yN Len.yB 1 (some .int))) (wks q (.initialized Len.yN.cls :: Len.site))
theorem movedLen {Z s : State} {a0 args : Array Value} (hZ : Z.Warmed39 s.vm) (hw : ∀ d ∈ wordsLen, d.before a0 Z = true) : ∀ d ∈ wordsLen, d.before args s = true := fun d hd => by
  have q := hw d hd
  have t : ∀ d ∈ wordsLen, d = .arrayClass .byte ∨ (d.onTables && d.keepsFace) = true := by decide +kernel
  rcases t d hd with rfl | t
  · exact RoadKit.mvA hZ q
  · exact RoadKit.mv hZ q t
/-- the bytes of the chars cs, low before high -/
def wideBytes : List Int32 → List Value
  | [] => []
  | c :: cs => .int (lo8 c) :: .int (hi8 c) :: wideBytes cs
theorem wide_lo (d : Value) : ∀ (cs : List Int32) (j : Nat), j < cs.length → (wideBytes cs).getD (2 * j) d = .int (lo8 (cs.getD j 0))
  | [], j, h => absurd h (Nat.not_lt_zero j)
  | c :: cs, 0, _ => rfl
  | c :: cs, j + 1, h => by
    have q := wide_lo d cs j (by simpa using h)
    rw [show 2 * (j + 1) = 2 * j + 1 + 1 from by omega]
    simpa [wideBytes] using q
theorem wide_hi (d : Value) : ∀ (cs : List Int32) (j : Nat), j < cs.length → (wideBytes cs).getD (2 * j + 1) d = .int (hi8 (cs.getD j 0))
  | [], j, h => absurd h (Nat.not_lt_zero j)
  | c :: cs, 0, _ => rfl
  | c :: cs, j + 1, h => by
    have q := wide_hi d cs j (by simpa using h)
    rw [show 2 * (j + 1) + 1 = 2 * j + 1 + 1 + 1 from by omega]
    simpa [wideBytes] using q
theorem low_at (d : Value) (cs : List Int32) (j : Nat) (h : j < cs.length) : (cs.map fun c => Value.int (lo8 c)).getD j d = .int (lo8 (cs.getD j 0)) := by
  simp [List.getD_eq_getElem?_getD, h]
/-- an array of N2 bytes vs codes the chars cs by the coder cd -/
def CodA (cs : List Int32) (cd N2 : Int32) (vs : List Value) : Prop := (cd = 0 ∧ N2 = Int32.ofNat cs.length ∧ vs = (cs.map fun c => Value.int (lo8 c)) ∧ ∀ c ∈ cs, ¬ 255 < c) ∨ (cd = 1 ∧ N2 = Int32.ofNat (2 * cs.length) ∧ vs = wideBytes cs ∧ ∃ c ∈ cs, 255 < c)
theorem CodA.cod {cs : List Int32} {cd N2 : Int32} {vs : List Value} {V : Cell} (h : CodA cs cd N2 vs) (hn : 2 * cs.length < 2 ^ 31) (hs : V.slots.size = N2.toNatClampNeg) (hv : RoadKit.Has V vs (.int 0)) : Cod cd cs.length (fun j => cs.getD j 0) V := by
  rcases h with ⟨rfl, rfl, rfl, h⟩ | ⟨rfl, rfl, rfl, c, hc, hw⟩
  · rw [n32 (by omega)] at hs
    exact Or.inl ⟨rfl, hs, fun j hj => ⟨by rw [hv j (by omega), low_at _ _ _ hj], by
      have e : cs.getD j 0 = cs[j] := by simp [List.getD_eq_getElem?_getD, hj]
      show ¬ 255 < cs.getD j 0
      rw [e]; exact h _ (List.getElem_mem _)⟩⟩
  · rw [n32 (by omega)] at hs
    obtain ⟨j, hj, rfl⟩ := List.getElem_of_mem hc
    exact Or.inr ⟨rfl, hs, fun j hj => ⟨by rw [hv _ (by omega), wide_lo _ _ _ hj], by rw [hv _ (by omega), wide_hi _ _ _ hj]⟩, j, hj, by
      have e : cs.getD j 0 = cs[j] := by simp [List.getD_eq_getElem?_getD, hj]
      show 255 < cs.getD j 0
      rw [e]; exact hw⟩
/-- an object of exactly java/lang/String, its two fields found: as the laws ask it -/
theorem strObj {Z U : State} {a0 : Array Value} {kI : Nat} (wi : (Jvm.Cond.instantiable ST kI).before a0 Z = true) (al : Z.vm.Alike U.vm) {x : Addr} {v0 c0 : Value} (E : RoadKit.Exa Z U.heap x ST) (V : RoadKit.Fld Z U.heap x ST "value" "[B" v0) (C : RoadKit.Fld Z U.heap x ST "coder" "B" c0) :
    ∃ (D : Cell) (fV fC : Field), Blank ST x D U ∧ Found ST "value" "[B" fV U ∧ Found ST "coder" "B" fC U ∧ D.slots[fV.slot]? = some v0 ∧ D.slots[fC.slot]? = some c0 ∧ RoadKit.slotOf Z ST "value" "[B" = fV.slot ∧ RoadKit.slotOf Z ST "coder" "B" = fC.slot := by
  obtain ⟨D, cfV, kV, iV, fV, hD, gV, stV, knV, obV, asV, slV⟩ := V
  obtain ⟨D', cfC, kC, iC, fC, hD', gC, stC, -, -, asC, slC⟩ := C
  cases hD.symm.trans hD'
  obtain ⟨D2, kD, e1, e2, e3, e4, e5⟩ := E
  cases hD.symm.trans e1
  obtain ⟨c2, k2, i1, i2, i3, -⟩ := Cond.instantiable_spec wi
  cases e2.symm.trans i1
  cases e3.symm.trans i2
  obtain ⟨kU, u1, u2⟩ := al.2.2 _ _ e3
  exact ⟨D, fV, fC, ⟨hD, ⟨knV, fun q hq => by rw [hq] at obV; cases obV⟩, by rw [al.findClass]; exact e2, kU, u1, by rw [u2]; exact i3, by rw [u2]; exact e5 i3⟩, ⟨SBG.found_only al ⟨cfV, kV, iV, gV⟩, stV⟩, ⟨SBG.found_only al ⟨cfC, kC, iC, gC⟩, stC⟩, slV, slC, by simp [RoadKit.slotOf, gV], by simp [RoadKit.slotOf, gC]⟩
theorem sta_is {Z U : State} (al : Z.vm.Alike U.vm) {C n d : String} {v : Value} (S : RoadKit.Sta Z U.heap C n d v) : StaticIs U C n d v := by
  obtain ⟨cfS, iS, kS, fS, st, cS, t1, t2, t3, t4, t5, t6, t7⟩ := S
  exact StaticIs.there (s := { Z with heap := U.heap }) ⟨cfS, iS, kS, fS, st, cS, t1, t2, t3, t4, t5, (fun q => by rw [q] at t6; cases t6), t7⟩ al rfl
/-- **length() OF SUCH A STRING** -/
theorem lenW {p : Program} {l : Launch} {e : Env} {R : Room} {s : State} {args : Array Value} {below : List Frame} {len W : Nat} {Z : State} {a0 : Array Value} {h : Heap} (hZ : Z.Warmed39 s.vm) (hw : ∀ d ∈ wordsLen, d.before a0 Z = true) {kI : Nat} (wi : (Jvm.Cond.instantiable ST kI).before a0 Z = true)
    {x t : Addr} {kb : ClassId} {cs : List Int32} {cd N2 z : Int32} {vs : List Value} (E : RoadKit.Exa Z h x ST) (V : RoadKit.Fld Z h x ST "value" "[B" (.ref t)) (C : RoadKit.Fld Z h x ST "coder" "B" (.int cd)) (K : RoadKit.Arv Z h t kb .byte N2 vs (.int 0)) (hc : CodA cs cd N2 vs) (hb : ∀ c ∈ cs, ¬ c < 0 ∧ ¬ (65535 : Int32) < c)
    (S : RoadKit.Sta Z h ST "COMPACT_STRINGS" "Z" (.int z)) (hz : ¬ z = 0) (l2 : cs.length ≤ 4000) (hfr : 2 ≤ R.frames) (hlo : W + 25 ≤ R.locals) :
    Back l R p e below s args (⟨"java/lang/String", "length", "()I"⟩ : MethodName) len W (fun P a => a = #[.ref x] ∧ P.U.heap = h ∧ P.cells + 0 ≤ R.cells ∧ P.slots + 0 ≤ R.slots)
      (fun P _ v B => ∃ L, (v = some (.int (Int32.ofNat cs.length)) ∧ L = [] ∧ B.U.heap = h) ∧ B.locs = P.locs ++ L ∧ B.cells = P.cells + 0 ∧ B.slots = P.slots + 0) := by
  obtain ⟨A, K1, K2, K3, K4, K5, K6⟩ := K
  have hcod := hc.cod (by omega) K3 K5
  intro m meth c P g ig mk a X hg hsize hdg hW hn hp'
  obtain ⟨rfl, rfl, r1, r2⟩ := hp'
  have al : Z.vm.Alike P.U.vm := hZ.alike.trans X.warmed.alike
  obtain ⟨D, fV, fC, hB, F1, F2, g1, g2, -, -⟩ := strObj wi al E V C
  have hx : Txt x t A cd cs.length (fun j => cs.getD j 0) P.U := ⟨⟨_, hB.2.2.1, D, hB.1, rfl, by cases q : D.vm <;> first | rfl | exact absurd q (hB.2.1.2 _)⟩, Has.of hB F1 g1, Has.of hB F2 g2, ⟨K1.1, State.isArrayOf_alike al K1.2.1, K1.2.2, by rcases hcod with ⟨-, q, -⟩ | ⟨-, q, -⟩ <;> omega⟩, hcod, fun j hj => by
    have e : cs.getD j 0 = cs[j] := by simp [List.getD_eq_getElem?_getD, hj]
    show ¬ cs.getD j 0 < 0 ∧ ¬ 65535 < cs.getD j 0
    rw [e]; exact hb _ (List.getElem_mem _)⟩
  obtain ⟨v, B, X', ⟨⟨hv, hh⟩, hl, hk, hs⟩, st⟩ := Len.pays x t A cd cs.length (fun j => cs.getD j 0) z (tabLen_of (movedLen hZ hw)) hfr hlo m meth c P g ig mk _ X hg hsize hdg hW hn ⟨r1, r2, rfl, hx, sta_is al S, hz⟩
  exact ⟨v, B, X', ⟨[], ⟨hv, rfl, hh⟩, hl, hk, hs⟩, st⟩
end StrChars.Road
end Jvm.Pilot.@@N@@
namespace Jvm.Pilot.@@N@@
namespace Own
open Jvm Jvm.ClassFile Sem Op Lib Jvm.Free Jvm.Stand Jvm.LawKit Jvm.RoadKit
/-- what stays through a whole case: the launch, the start, its arguments, the assumed constants, the start heap's size -/
def Gl : Type := Launch × State × Array Value × List (String × Nat) × Nat
def Gl.l (G : Gl) : Launch := G.1
def Gl.Z (G : Gl) : State := G.2.1
def Gl.a0 (G : Gl) : Array Value := G.2.2.1
def Gl.EL (G : Gl) : List (String × Nat) := G.2.2.2.1
def Gl.n0 (G : Gl) : Nat := G.2.2.2.2
/-- one run of one body -/
def Rn : Type := Program × Env × State × MethodId × Array Value × List Frame × Method × Code
def Rn.p (X : Rn) : Program := X.1
def Rn.e (X : Rn) : Env := X.2.1
def Rn.s (X : Rn) : State := X.2.2.1
def Rn.m (X : Rn) : MethodId := X.2.2.2.1
def Rn.args (X : Rn) : Array Value := X.2.2.2.2.1
def Rn.below (X : Rn) : List Frame := X.2.2.2.2.2.1
def Rn.meth (X : Rn) : Method := X.2.2.2.2.2.2.1
def Rn.c (X : Rn) : Code := X.2.2.2.2.2.2.2
/-- one body: its name, bytes, locals, what it returns, its room -/
def Bo : Type := MethodName × ByteArray × Nat × Option FieldType × Room
abbrev Bo.y (M : Bo) : MethodName := M.1
abbrev Bo.bytes (M : Bo) : ByteArray := M.2.1
abbrev Bo.maxL (M : Bo) : Nat := M.2.2.1
abbrev Bo.ret (M : Bo) : Option FieldType := M.2.2.2.1
abbrev Bo.R (M : Bo) : Room := M.2.2.2.2
/-- what is known of a run's body throughout -/
def Fixd (G : Gl) (X : Rn) (M : Bo) : Prop := X.p.tables.exec = Jvm.exec ∧ X.c.code = M.bytes ∧ X.c.maxLocals = M.maxL ∧ X.meth.sig.returnType = M.ret ∧ X.meth.locks = false ∧ X.meth.name = M.y.name ∧ EW G.Z G.a0 G.EL
/-- WHERE A WALK STANDS: the tables of its base vm, the state T, its heap h, at most C new cells of S slots -/
def Here (G : Gl) (X : Rn) (M : Bo) (vm : Vm) (T : State) (h : Heap) (C S : Nat) : Prop :=
  Fixd G X M ∧ ∃ (k0 : Nat) (locs : List Loc) (cells slots : Nat), Stand X.p G.l X.e M.R (X.s.setVm vm) X.m X.args X.below X.meth X.c T locs cells slots ∧ T.heap = h ∧ X.s.Since vm k0 ∧ k0 ≤ h.size ∧ G.Z.Warmed39 vm ∧ vm.findClass M.y.cls = some X.m.cls ∧
    CHr G.Z G.EL X.s.vm X.s.heap vm h ∧ Fr G.n0 locs ∧ Old G.Z G.n0 h ∧ cells ≤ C ∧ slots ≤ S
/-- THE GOAL: from this frame the body comes to its end, and there Q holds -/
def Go (G : Gl) (X : Rn) (M : Bo) (Q : Option Value → Heap → Prop) (T : State) (pc : Nat) (Ls : Array Slot) (st : List Value) : Prop :=
  ∃ s₂ o, Steps X.p.tables X.e X.below (T.setTop (mkF X.m pc Ls st)) s₂ ∧ s₂.status = .running ∧ Ended s₂ X.below o ∧ ∃ v L, o = .returned v ∧ (Q v s₂.heap ∧ Fr G.n0 L ∧ Old G.Z G.n0 s₂.heap) ∧ CHr G.Z G.EL X.s.vm X.s.heap s₂.vm s₂.heap ∧ ReturnedEndW X.s o s₂ L M.R.cells M.R.slots
/-- A BODY's CONTRACT: called with as' in the heap h (the places sf not booked by a constant), it returns and Q holds -/
def Con (G : Gl) (ws : List Jvm.Cond) (M : Bo) (as' : Array Value) (h : Heap) (sf : List Addr) (Q : Option Value → Heap → Prop) : Prop :=
  MetFree G.l M.y (head1 (Jvm.Cond.code M.y M.bytes M.maxL M.ret :: ws) M.R) (fun a U => a = as' ∧ G.Z.Warmed39 U.vm ∧ U.heap = h ∧ CHv G.Z G.EL U.vm h ∧ ∀ x ∈ sf, Safe G.Z G.EL U.vm h x) (fun _ _ _ _ _ => True)
    (fun _ U o U' => ∃ v L, o = .returned v ∧ (Q v U'.heap ∧ Fr G.n0 L ∧ Old G.Z G.n0 U'.heap) ∧ CHr G.Z G.EL U.vm U.heap U'.vm U'.heap ∧ ReturnedEndW U o U' L M.R.cells M.R.slots)
/-- A CALL THAT IS PAID -/
def Pay (G : Gl) (X : Rn) (M : Bo) (vm : Vm) (h : Heap) (y : MethodName) (len W : Nat) (as' : Array Value) (kc ks : Nat) (Q : Option Value → Heap → Prop) : Prop :=
  BackS G.l M.R X.p X.e X.below (X.s.setVm vm) X.args y len W (fun A a => a = as' ∧ A.U.heap = h ∧ A.cells + kc ≤ M.R.cells ∧ A.slots + ks ≤ M.R.slots)
    (fun A _ v B => ∃ L, (Q v B.U.heap ∧ Fr G.n0 L ∧ Old G.Z G.n0 B.U.heap) ∧ B.locs = A.locs ++ L ∧ B.cells ≤ A.cells + kc ∧ B.slots ≤ A.slots + ks ∧ CHr G.Z G.EL vm h B.U.vm B.U.heap)
section Kit
variable {G : Gl} {X : Rn} {M : Bo} {vm : Vm} {T : State} {h : Heap} {C S : Nat} {Q : Option Value → Heap → Prop} {pc pc' : Nat} {Ls Ls' : Array Slot} {st : List Value}
theorem Go.stp {T' : State} {st' : List Value} (hs : ∀ t, Steps X.p.tables X.e X.below (T'.setTop (mkF X.m pc' Ls' st')) t → Steps X.p.tables X.e X.below (T.setTop (mkF X.m pc Ls st)) t) (k : Go G X M Q T' pc' Ls' st') : Go G X M Q T pc Ls st := by
  obtain ⟨s₂, o, h1, r⟩ := k
  exact ⟨s₂, o, hs _ h1, r⟩
theorem Here.x (W : Here G X M vm T h C S) : X.p.tables.exec = Jvm.exec := W.1.1
theorem Here.d (W : Here G X M vm T h C S) {pc : Nat} {r : Except ClassFile.DecodeError (ClassFile.Instr × Nat)} (h2 : ClassFile.decode M.bytes pc = r) : ClassFile.decode X.c.code pc = r := hb W.1.2.1 h2
theorem Here.at (W : Here G X M vm T h C S) : Jvm.At T X.m X.c X.below := by obtain ⟨-, _, _, _, _, X1, -⟩ := W; exact X1.here
theorem Here.old (W : Here G X M vm T h C S) : Old G.Z G.n0 h := by obtain ⟨-, _, _, _, _, -, -, -, -, -, -, -, -, o, -⟩ := W; exact o
theorem Here.ch (W : Here G X M vm T h C S) : CHv G.Z G.EL vm h := by obtain ⟨-, _, _, _, _, -, -, -, -, -, -, q, -⟩ := W; exact q.1
theorem Here.wz (W : Here G X M vm T h C S) : G.Z.Warmed39 vm := by obtain ⟨-, _, _, _, _, -, -, -, -, q, -⟩ := W; exact q
theorem Here.le (W : Here G X M vm T h C S) {C' S' : Nat} (hc : C ≤ C') (hs : S ≤ S') : Here G X M vm T h C' S' := by
  obtain ⟨F, k0, L, c, s, h1, h2, h3, h4, h5, h6, h7, h8, h9, h10, h11⟩ := W
  exact ⟨F, k0, L, c, s, h1, h2, h3, h4, h5, h6, h7, h8, h9, Nat.le_trans h10 hc, Nat.le_trans h11 hs⟩
theorem Here.n0 (W : Here G X M vm T h C S) : G.n0 ≤ h.size := W.old.1 ▸ W.old.2.1
/-- the start heap's fact, now -/
theorem Here.sta (W : Here G X M vm T h C S) {c n d : String} {v : Value} (F : Sta G.Z G.Z.heap c n d v) : Sta G.Z h c n d v := F.ext W.old.2
/-! ### plain steps -/
theorem iconst (W : Here G X M vm T h C S) {i : Int} (hd : decode M.bytes pc = .ok (.iconst i, 1)) (pc' : Nat) (hp : pc + 1 = pc') (v : Int32) (hv : Int32.ofInt i = v) (k : Go G X M Q T pc' Ls (.int v :: st)) : Go G X M Q T pc Ls st := by
  subst hp hv; exact Go.stp (fun t r => XS.iconst W.at W.x rfl (W.d hd) r) k
theorem bipush (W : Here G X M vm T h C S) {i : Int} (hd : decode M.bytes pc = .ok (.bipush i, 2)) (pc' : Nat) (hp : pc + 2 = pc') (v : Int32) (hv : (Int8.ofInt i).toInt32 = v) (k : Go G X M Q T pc' Ls (.int v :: st)) : Go G X M Q T pc Ls st := by
  subst hp hv; exact Go.stp (fun t r => XS.bipush W.at W.x rfl (W.d hd) r) k
theorem sipush (W : Here G X M vm T h C S) {i : Int} (hd : decode M.bytes pc = .ok (.sipush i, 3)) (pc' : Nat) (hp : pc + 3 = pc') (v : Int32) (hv : (Int16.ofInt i).toInt32 = v) (k : Go G X M Q T pc' Ls (.int v :: st)) : Go G X M Q T pc Ls st := by
  subst hp hv; exact Go.stp (fun t r => XS.sipush W.at W.x rfl (W.d hd) r) k
theorem aconstNull (W : Here G X M vm T h C S) (hd : decode M.bytes pc = .ok (.aconst_null, 1)) (pc' : Nat) (hp : pc + 1 = pc') (k : Go G X M Q T pc' Ls (.null :: st)) : Go G X M Q T pc Ls st := by
  subst hp; exact Go.stp (fun t r => XS.aconstNull W.at W.x rfl (W.d hd) r) k
theorem iloadN (W : Here G X M vm T h C S) {j : Fin 4} (hd : decode M.bytes pc = .ok (.iload_n j, 1)) (pc' : Nat) (hp : pc + 1 = pc') (v : Int32) (hl : Ls[j.val]? = some (.val (.int v))) (k : Go G X M Q T pc' Ls (.int v :: st)) : Go G X M Q T pc Ls st := by
  subst hp; exact Go.stp (fun t r => XS.iloadN W.at W.x rfl (W.d hd) hl r) k
theorem iload (W : Here G X M vm T h C S) {j : Nat} (hd : decode M.bytes pc = .ok (.iload j, 2)) (pc' : Nat) (hp : pc + 2 = pc') (v : Int32) (hl : Ls[j]? = some (.val (.int v))) (k : Go G X M Q T pc' Ls (.int v :: st)) : Go G X M Q T pc Ls st := by
  subst hp; exact Go.stp (fun t r => XS.iload W.at W.x rfl (W.d hd) hl r) k
theorem aloadN (W : Here G X M vm T h C S) {j : Fin 4} (hd : decode M.bytes pc = .ok (.aload_n j, 1)) (pc' : Nat) (hp : pc + 1 = pc') (v : Value) (hl : Ls[j.val]? = some (.val v)) (hv : v.isRef = true) (k : Go G X M Q T pc' Ls (v :: st)) : Go G X M Q T pc Ls st := by
  subst hp; exact Go.stp (fun t r => XS.aloadN W.at W.x rfl (W.d hd) hl hv r) k
theorem aload (W : Here G X M vm T h C S) {j : Nat} (hd : decode M.bytes pc = .ok (.aload j, 2)) (pc' : Nat) (hp : pc + 2 = pc') (v : Value) (hl : Ls[j]? = some (.val v)) (hv : v.isRef = true) (k : Go G X M Q T pc' Ls (v :: st)) : Go G X M Q T pc Ls st := by
  subst hp; exact Go.stp (fun t r => XS.aload W.at W.x rfl (W.d hd) hl hv r) k
theorem istoreN (W : Here G X M vm T h C S) {j : Fin 4} {x : Int32} (hd : decode M.bytes pc = .ok (.istore_n j, 1)) (pc' : Nat) (hp : pc + 1 = pc') (Ls' : Array Slot) (hl : storeLocals Ls j.val (.int x) = some Ls') (k : Go G X M Q T pc' Ls' st) : Go G X M Q T pc Ls (.int x :: st) := by
  subst hp; exact Go.stp (fun t r => XS.istoreN W.at W.x rfl (W.d hd) rfl hl r) k
theorem istore (W : Here G X M vm T h C S) {j : Nat} {x : Int32} (hd : decode M.bytes pc = .ok (.istore j, 2)) (pc' : Nat) (hp : pc + 2 = pc') (Ls' : Array Slot) (hl : storeLocals Ls j (.int x) = some Ls') (k : Go G X M Q T pc' Ls' st) : Go G X M Q T pc Ls (.int x :: st) := by
  subst hp; exact Go.stp (fun t r => XS.istore W.at W.x rfl (W.d hd) rfl hl r) k
theorem astoreN (W : Here G X M vm T h C S) {j : Fin 4} {x : Value} (hd : decode M.bytes pc = .ok (.astore_n j, 1)) (pc' : Nat) (hp : pc + 1 = pc') (hv : x.isRef = true) (Ls' : Array Slot) (hl : storeLocals Ls j.val x = some Ls') (k : Go G X M Q T pc' Ls' st) : Go G X M Q T pc Ls (x :: st) := by
  subst hp; exact Go.stp (fun t r => XS.astoreN W.at W.x rfl (W.d hd) rfl hv hl r) k
theorem astore (W : Here G X M vm T h C S) {j : Nat} {x : Value} (hd : decode M.bytes pc = .ok (.astore j, 2)) (pc' : Nat) (hp : pc + 2 = pc') (hv : x.isRef = true) (Ls' : Array Slot) (hl : storeLocals Ls j x = some Ls') (k : Go G X M Q T pc' Ls' st) : Go G X M Q T pc Ls (x :: st) := by
  subst hp; exact Go.stp (fun t r => XS.astore W.at W.x rfl (W.d hd) rfl hv hl r) k
theorem iinc (W : Here G X M vm T h C S) {j : Nat} {cst : Int} {x : Int32} (hd : decode M.bytes pc = .ok (.iinc j cst, 3)) (pc' : Nat) (hp : pc + 3 = pc') (hl : Ls[j]? = some (.val (.int x))) (Ls' : Array Slot) (hl' : storeLocals Ls j (.int (x + Int32.ofInt cst)) = some Ls') (k : Go G X M Q T pc' Ls' st) : Go G X M Q T pc Ls st := by
  subst hp; exact Go.stp (fun t r => XS.iinc W.at W.x rfl (W.d hd) hl hl' r) k
theorem iadd (W : Here G X M vm T h C S) {x y : Int32} (hd : decode M.bytes pc = .ok (.iadd, 1)) (pc' : Nat) (hp : pc + 1 = pc') (k : Go G X M Q T pc' Ls (.int (x + y) :: st)) : Go G X M Q T pc Ls (.int y :: .int x :: st) := by
  subst hp; exact Go.stp (fun t r => XS.iadd W.at W.x rfl (W.d hd) rfl r) k
theorem isub (W : Here G X M vm T h C S) {x y : Int32} (hd : decode M.bytes pc = .ok (.isub, 1)) (pc' : Nat) (hp : pc + 1 = pc') (k : Go G X M Q T pc' Ls (.int (x - y) :: st)) : Go G X M Q T pc Ls (.int y :: .int x :: st) := by
  subst hp; exact Go.stp (fun t r => XS.isub W.at W.x rfl (W.d hd) rfl r) k
theorem iand (W : Here G X M vm T h C S) {x y : Int32} (hd : decode M.bytes pc = .ok (.iand, 1)) (pc' : Nat) (hp : pc + 1 = pc') (k : Go G X M Q T pc' Ls (.int (x &&& y) :: st)) : Go G X M Q T pc Ls (.int y :: .int x :: st) := by
  subst hp; exact Go.stp (fun t r => XS.iand W.at W.x rfl (W.d hd) rfl r) k
theorem ixor (W : Here G X M vm T h C S) {x y : Int32} (hd : decode M.bytes pc = .ok (.ixor, 1)) (pc' : Nat) (hp : pc + 1 = pc') (k : Go G X M Q T pc' Ls (.int (x ^^^ y) :: st)) : Go G X M Q T pc Ls (.int y :: .int x :: st) := by
  subst hp; exact Go.stp (fun t r => XS.ixor W.at W.x rfl (W.d hd) rfl r) k
theorem iushr (W : Here G X M vm T h C S) {x y : Int32} (hd : decode M.bytes pc = .ok (.iushr, 1)) (pc' : Nat) (hp : pc + 1 = pc') (k : Go G X M Q T pc' Ls (.int ((x.toUInt32 >>> (y &&& 31).toUInt32).toInt32) :: st)) : Go G X M Q T pc Ls (.int y :: .int x :: st) := by
  subst hp; exact Go.stp (fun t r => XS.iushr W.at W.x rfl (W.d hd) rfl r) k
theorem ineg (W : Here G X M vm T h C S) {x : Int32} (hd : decode M.bytes pc = .ok (.ineg, 1)) (pc' : Nat) (hp : pc + 1 = pc') (k : Go G X M Q T pc' Ls (.int (-x) :: st)) : Go G X M Q T pc Ls (.int x :: st) := by
  subst hp; exact Go.stp (fun t r => XS.ineg W.at W.x rfl (W.d hd) rfl r) k
theorem i2c (W : Here G X M vm T h C S) {x : Int32} (hd : decode M.bytes pc = .ok (.i2c, 1)) (pc' : Nat) (hp : pc + 1 = pc') (k : Go G X M Q T pc' Ls (.int x.toUInt32.toUInt16.toUInt32.toInt32 :: st)) : Go G X M Q T pc Ls (.int x :: st) := by
  subst hp; exact Go.stp (fun t r => XS.i2c W.at W.x rfl (W.d hd) rfl r) k
theorem i2b (W : Here G X M vm T h C S) {x : Int32} (hd : decode M.bytes pc = .ok (.i2b, 1)) (pc' : Nat) (hp : pc + 1 = pc') (k : Go G X M Q T pc' Ls (.int x.toInt8.toInt32 :: st)) : Go G X M Q T pc Ls (.int x :: st) := by
  subst hp; exact Go.stp (fun t r => XS.i2b W.at W.x rfl (W.d hd) rfl r) k
theorem irem (W : Here G X M vm T h C S) {x y : Int32} (hd : decode M.bytes pc = .ok (.irem, 1)) (pc' : Nat) (hp : pc + 1 = pc') (hy : y ≠ 0) (k : Go G X M Q T pc' Ls (.int (x % y) :: st)) : Go G X M Q T pc Ls (.int y :: .int x :: st) := by
  subst hp
  obtain ⟨F, k0, L, c, s, X1, -⟩ := id W
  exact Go.stp (fun t r => iremM X1 W.x rfl (W.d hd) rfl hy r) k
theorem dup (W : Here G X M vm T h C S) {x : Value} (hd : decode M.bytes pc = .ok (.dup, 1)) (pc' : Nat) (hp : pc + 1 = pc') (hc : x.category = 1) (k : Go G X M Q T pc' Ls (x :: x :: st)) : Go G X M Q T pc Ls (x :: st) := by
  subst hp; exact Go.stp (fun t r => XS.dup W.at W.x rfl (W.d hd) rfl hc r) k
theorem pop (W : Here G X M vm T h C S) {x : Value} (hd : decode M.bytes pc = .ok (.pop, 1)) (pc' : Nat) (hp : pc + 1 = pc') (hc : x.category = 1) (k : Go G X M Q T pc' Ls st) : Go G X M Q T pc Ls (x :: st) := by
  subst hp; exact Go.stp (fun t r => XS.pop W.at W.x rfl (W.d hd) rfl hc r) k
theorem goto (W : Here G X M vm T h C S) {o : Int} (hd : decode M.bytes pc = .ok (.goto o, 3)) (pc' : Nat) (ho : 0 ≤ (pc : Int) + o) (hp : ((pc : Int) + o).toNat = pc') (k : Go G X M Q T pc' Ls st) : Go G X M Q T pc Ls st :=
  Go.stp (fun t r => XS.goto W.at W.x rfl (pc0 := pc) (pc' := pc') rfl (W.d hd) ho hp r) k
theorem ifYes (W : Here G X M vm T h C S) {cd : ClassFile.Cond} {x : Int32} {o : Int} (hd : decode M.bytes pc = .ok (.ifCond cd o, 3)) (pc' : Nat) (hc : ifCond.holds cd x = true) (ho : 0 ≤ (pc : Int) + o) (hp : ((pc : Int) + o).toNat = pc') (k : Go G X M Q T pc' Ls st) : Go G X M Q T pc Ls (.int x :: st) :=
  Go.stp (fun t r => XS.ifYes W.at W.x rfl (pc0 := pc) (pc' := pc') rfl (W.d hd) rfl hc ho hp r) k
theorem ifNo (W : Here G X M vm T h C S) {cd : ClassFile.Cond} {x : Int32} {o : Int} (hd : decode M.bytes pc = .ok (.ifCond cd o, 3)) (pc' : Nat) (hc : ifCond.holds cd x = false) (hp : pc + 3 = pc') (k : Go G X M Q T pc' Ls st) : Go G X M Q T pc Ls (.int x :: st) := by
  subst hp; exact Go.stp (fun t r => XS.ifNo W.at W.x rfl (W.d hd) rfl hc r) k
theorem icmpYes (W : Here G X M vm T h C S) {cd : ClassFile.Cond} {x y : Int32} {o : Int} (hd : decode M.bytes pc = .ok (.if_icmp cd o, 3)) (pc' : Nat) (hc : if_icmp.holds cd x y = true) (ho : 0 ≤ (pc : Int) + o) (hp : ((pc : Int) + o).toNat = pc') (k : Go G X M Q T pc' Ls st) : Go G X M Q T pc Ls (.int y :: .int x :: st) :=
  Go.stp (fun t r => XS.icmpYes W.at W.x rfl (pc0 := pc) (pc' := pc') rfl (W.d hd) rfl hc ho hp r) k
theorem icmpNo (W : Here G X M vm T h C S) {cd : ClassFile.Cond} {x y : Int32} {o : Int} (hd : decode M.bytes pc = .ok (.if_icmp cd o, 3)) (pc' : Nat) (hc : if_icmp.holds cd x y = false) (hp : pc + 3 = pc') (k : Go G X M Q T pc' Ls st) : Go G X M Q T pc Ls (.int y :: .int x :: st) := by
  subst hp; exact Go.stp (fun t r => XS.icmpNo W.at W.x rfl (W.d hd) rfl hc r) k
theorem ifnullYes (W : Here G X M vm T h C S) {o : Int} (hd : decode M.bytes pc = .ok (.ifnull o, 3)) (pc' : Nat) (ho : 0 ≤ (pc : Int) + o) (hp : ((pc : Int) + o).toNat = pc') (k : Go G X M Q T pc' Ls st) : Go G X M Q T pc Ls (.null :: st) :=
  Go.stp (fun t r => XS.ifnullYes W.at W.x rfl (pc0 := pc) (pc' := pc') rfl (W.d hd) rfl ho hp r) k
theorem ifnullNo (W : Here G X M vm T h C S) {o : Int} {b : Addr} (hd : decode M.bytes pc = .ok (.ifnull o, 3)) (pc' : Nat) (hp : pc + 3 = pc') (k : Go G X M Q T pc' Ls st) : Go G X M Q T pc Ls (.ref b :: st) := by
  subst hp; exact Go.stp (fun t r => XS.ifnullNo W.at W.x rfl (W.d hd) rfl r) k
theorem ifnonnullYes (W : Here G X M vm T h C S) {o : Int} {b : Addr} (hd : decode M.bytes pc = .ok (.ifnonnull o, 3)) (pc' : Nat) (ho : 0 ≤ (pc : Int) + o) (hp : ((pc : Int) + o).toNat = pc') (k : Go G X M Q T pc' Ls st) : Go G X M Q T pc Ls (.ref b :: st) :=
  Go.stp (fun t r => XT.nonnullYes W.at W.x rfl (pc0 := pc) (pc' := pc') rfl (W.d hd) rfl rfl (fun q => nomatch q) ho hp r) k
theorem ifnonnullNo (W : Here G X M vm T h C S) {o : Int} (hd : decode M.bytes pc = .ok (.ifnonnull o, 3)) (pc' : Nat) (hp : pc + 3 = pc') (k : Go G X M Q T pc' Ls st) : Go G X M Q T pc Ls (.null :: st) := by
  subst hp; exact Go.stp (fun t r => XT.nonnullNo W.at W.x rfl (W.d hd) rfl rfl r) k
theorem acmp (W : Here G X M vm T h C S) {cd : ACond} {x y : Value} {o : Int} (hd : decode M.bytes pc = .ok (.if_acmp cd o, 3)) (pc' : Nat) (h1 : x.isRef = true) (h2 : y.isRef = true) (same : Bool) (hs : decide (x = y) = same) (ho : 0 ≤ (pc : Int) + o) (hp : pc' = if acV cd same = true then ((pc : Int) + o).toNat else pc + 3) (k : Go G X M Q T pc' Ls st) : Go G X M Q T pc Ls (y :: x :: st) := by
  obtain ⟨F, k0, L, c, s, X1, -⟩ := id W
  exact Go.stp (fun t r => Jvm.RoadKit.acmp (g := mkF X.m pc Ls (y :: x :: st)) X1 W.x rfl h1 h2 (pc0 := pc) (pc' := pc') (same := same) rfl (W.d hd) rfl hs ho hp r) k
end Kit
end Own
end Jvm.Pilot.@@N@@
namespace Jvm.Pilot.@@N@@
namespace Own
open Jvm Jvm.ClassFile Sem Op Lib Jvm.Free Jvm.Stand Jvm.LawKit Jvm.RoadKit
section Kit2
variable {G : Gl} {X : Rn} {M : Bo} {vm : Vm} {T : State} {h : Heap} {C S : Nat} {Q : Option Value → Heap → Prop} {pc pc' : Nat} {Ls Ls' : Array Slot} {st : List Value}
theorem Ext.rfl' (h : Heap) : Ext h h := ⟨Nat.le_refl _, fun _ _ q => q⟩
theorem Ext.tr {h1 h2 h3 : Heap} (a : Ext h1 h2) (b : Ext h2 h3) : Ext h1 h3 := ⟨Nat.le_trans a.1 b.1, fun x c q => b.2 x c (a.2 x c q)⟩
theorem Ext.wr' {h1 h2 h3 : Heap} {a : Addr} {sl : Nat} {v : Value} (e : Ext h1 h2) (w : Wr h2 h3 a sl v) (ha : h1.size ≤ a) : Ext h1 h3 := ⟨Nat.le_trans e.1 (Keep.of_wr w).1, fun x c q => (Keep.of_wr w).2.1 x c (e.2 x c q) fun z => by
  cases List.mem_singleton.mp z; exact absurd (Array.getElem?_eq_some_iff.mp q).1 (Nat.not_lt.mpr ha)⟩
theorem Ext.kp {h1 h2 h3 : Heap} {ws : List Addr} (e : Ext h1 h2) (k : Keep h2 h3 ws) (ha : ∀ x ∈ ws, h1.size ≤ x) : Ext h1 h3 := ⟨Nat.le_trans e.1 k.1, fun x c q => k.2.1 x c (e.2 x c q) fun z => absurd (Array.getElem?_eq_some_iff.mp q).1 (Nat.not_lt.mpr (ha x z))⟩
theorem Ext.keep {h1 h2 : Heap} (e : Ext h1 h2) : Keep h1 h2 [] := ⟨e.1, fun x c q _ => e.2 x c q, fun x c q => ⟨c, e.2 x c q, rfl, rfl, rfl⟩⟩
/-! ### the end -/
theorem Go.retW (W : Here G X M vm T h C S) (hC : C ≤ M.R.cells) (hS : S ≤ M.R.slots) {v : Option Value} (hv : M.ret = none → v = none)
    (hst : ∀ fs, (∀ (f : JFrame) (acts : List Action), f.method = X.m → f.locked = none → f.entered = [] → (doReturn X.e (T.setTop f) acts v).1 = T.setFrames fs) → Steps X.p.tables X.e X.below (T.setTop (mkF X.m pc Ls st)) (T.setFrames fs)) (hQ : Q v h) : Go G X M Q T pc Ls st := by
  obtain ⟨⟨hx, hby, hml, hret, hlk, hnm, hEL⟩, k0, L, c, s, X1, e1, S1, hk, hZ, hown, hCH, N, O, c1, s1⟩ := W
  obtain ⟨fs, hr, hrun, hended, h1, h2, h3, h4⟩ := X1.leaveW S1 (by rw [e1]; exact hk) (v := v) (fun q => hv (hret.symm.trans q)) hlk
  refine ⟨_, _, hst fs hr, hrun, hended, v, L, rfl, ⟨?_, N, ?_⟩, ?_, h1, h2, h3, h4.mono (Nat.le_trans c1 hC) (Nat.le_trans s1 hS)⟩
  · show Q v T.heap
    rw [e1]; exact hQ
  · show Old G.Z G.n0 T.heap
    rw [e1]; exact O
  · show CHr G.Z G.EL X.s.vm X.s.heap T.vm T.heap
    rw [e1]; exact hCH.trans (CHv.at X1 hZ hEL hCH.1)
theorem retI (W : Here G X M vm T h C S) (hC : C ≤ M.R.cells) (hS : S ≤ M.R.slots) (hr : M.ret = some .int) (hd : decode M.bytes pc = .ok (.ireturn, 1)) {z : Int32} (hQ : Q (some (.int z)) h) : Go G X M Q T pc Ls (.int z :: st) := by
  obtain ⟨F, k0, L, c, s, X1, -⟩ := id W
  exact Go.retW W hC hS (fun q => by rw [hr] at q; cases q) (fun fs q => retOut X1 W.x (F.2.2.2.1.trans hr) rfl (Or.inl ⟨rfl, Or.inl rfl, z, rfl⟩) (W.d hd) q) hQ
theorem retB (W : Here G X M vm T h C S) (hC : C ≤ M.R.cells) (hS : S ≤ M.R.slots) (hr : M.ret = some .boolean) (hd : decode M.bytes pc = .ok (.ireturn, 1)) {z : Int32} (hz : narrow .boolean (.int z) = .int z) (hQ : Q (some (.int z)) h) : Go G X M Q T pc Ls (.int z :: st) := by
  obtain ⟨F, k0, L, c, s, X1, -⟩ := id W
  exact Go.retW W hC hS (fun q => by rw [hr] at q; cases q) (fun fs q => retOut X1 W.x (F.2.2.2.1.trans hr) hz (Or.inl ⟨rfl, Or.inr (Or.inl rfl), z, rfl⟩) (W.d hd) q) hQ
theorem retC (W : Here G X M vm T h C S) (hC : C ≤ M.R.cells) (hS : S ≤ M.R.slots) (hr : M.ret = some .char) (hd : decode M.bytes pc = .ok (.ireturn, 1)) {z : Int32} (hz : narrow .char (.int z) = .int z) (hQ : Q (some (.int z)) h) : Go G X M Q T pc Ls (.int z :: st) := by
  obtain ⟨F, k0, L, c, s, X1, -⟩ := id W
  exact Go.retW W hC hS (fun q => by rw [hr] at q; cases q) (fun fs q => retOut X1 W.x (F.2.2.2.1.trans hr) hz (Or.inl ⟨rfl, Or.inr (Or.inr (Or.inr (Or.inl rfl))), z, rfl⟩) (W.d hd) q) hQ
theorem retY (W : Here G X M vm T h C S) (hC : C ≤ M.R.cells) (hS : S ≤ M.R.slots) (hr : M.ret = some .byte) (hd : decode M.bytes pc = .ok (.ireturn, 1)) {z : Int32} (hz : narrow .byte (.int z) = .int z) (hQ : Q (some (.int z)) h) : Go G X M Q T pc Ls (.int z :: st) := by
  obtain ⟨F, k0, L, c, s, X1, -⟩ := id W
  exact Go.retW W hC hS (fun q => by rw [hr] at q; cases q) (fun fs q => retOut X1 W.x (F.2.2.2.1.trans hr) hz (Or.inl ⟨rfl, Or.inr (Or.inr (Or.inl rfl)), z, rfl⟩) (W.d hd) q) hQ
theorem retA (W : Here G X M vm T h C S) (hC : C ≤ M.R.cells) (hS : S ≤ M.R.slots) {t : FieldType} (hr : M.ret = some t) (ht : t.isReference = true) {w : Value} (hw : w.isRef = true) (hd : decode M.bytes pc = .ok (.areturn, 1)) (hQ : Q (some w) h) : Go G X M Q T pc Ls (w :: st) := by
  obtain ⟨F, k0, L, c, s, X1, -⟩ := id W
  refine Go.retW W hC hS (fun q => by rw [hr] at q; cases q) (fun fs q => retOut X1 W.x (F.2.2.2.1.trans hr) ?_ (Or.inr (Or.inr (Or.inr (Or.inr ⟨rfl, ht, hw⟩)))) (W.d hd) q) hQ
  rcases ref_cases hw with rfl | ⟨b, rfl⟩ <;> cases t <;> first | rfl | cases ht
theorem retL (W : Here G X M vm T h C S) (hC : C ≤ M.R.cells) (hS : S ≤ M.R.slots) (hr : M.ret = some .long) (hd : decode M.bytes pc = .ok (.lreturn, 1)) {z : Int64} (hQ : Q (some (.long z)) h) : Go G X M Q T pc Ls (.long z :: st) := by
  obtain ⟨F, k0, L, c, s, X1, -⟩ := id W
  exact Go.retW W hC hS (fun q => by rw [hr] at q; cases q) (fun fs q => retOut X1 W.x (F.2.2.2.1.trans hr) rfl (Or.inr (Or.inl ⟨rfl, rfl, z, rfl⟩)) (W.d hd) q) hQ
theorem retV (W : Here G X M vm T h C S) (hC : C ≤ M.R.cells) (hS : S ≤ M.R.slots) (hr : M.ret = none) (hd : decode M.bytes pc = .ok (.return_, 1)) (hQ : Q none h) : Go G X M Q T pc Ls [] := by
  obtain ⟨F, k0, L, c, s, X1, -⟩ := id W
  exact Go.retW W hC hS (fun _ => rfl) (fun fs q => X1.returnOut W.x (F.2.2.2.1.trans hr) (W.d hd) q) hQ
/-! ### the entry -/
theorem Con.intro {ws : List Jvm.Cond} {as' : Array Value} {sf : List Addr} (hpn : plainFor M.y = true) (hO : Old G.Z G.n0 h) (hEL : EW G.Z G.a0 G.EL) (Ls0 : Array Slot) (hef : ∀ m, entryFrame m as' M.maxL = mkF m 0 Ls0 [])
    (body : ∀ (X : Rn) (T : State), Here G X M X.s.vm T h 0 0 → (∀ x ∈ sf, Safe G.Z G.EL X.s.vm h x) → Go G X M Q T 0 Ls0 []) : Con G ws M as' h sf Q := by
  refine MetFree.of_bodySF hpn hisR ?_
  intro p e s m args below meth c s₁ Bd hml0 hP hK
  obtain ⟨rfl, hZ, rfl, hCH, hsf⟩ := hP
  have hown : s.vm.findClass M.y.cls = some m.cls := findClass_of_methodNamed Bd.named
  have hnm := (name_of_methodNamed Bd.named Bd.method).1
  have X0 : Stand p G.l e M.R s m args below meth c s₁ [] 0 0 := Stand.of_body Bd
  have e0 : s₁.heap = s.heap := by rw [Bd.state]; rfl
  have q := body (p, e, s, m, args, below, meth, c) s₁ ⟨⟨Bd.exec, Bd.bytes, hml0, Bd.returns, Bd.notSynchronized, hnm, hEL⟩, s.heap.size, [], 0, 0, X0, e0, (State.WarmedH.refl s).since _, Nat.le_refl _, hZ, hown, CHr.refl hCH, Fr.nil _, hO, Nat.le_refl 0, Nat.le_refl 0⟩ hsf
  rw [hef m]
  exact q
/-! ### calls -/
theorem Con.pay {N : Bo} {as' : Array Value} {sf : List Addr} {Qy : Option Value → Heap → Prop} (K : Con G [] N as' h sf Qy) (W : Here G X M vm T h C S) (wc : (Jvm.Cond.code N.y N.bytes N.maxL N.ret).before G.a0 G.Z = true) (wz : (Jvm.Cond.initialized N.y.cls).before G.a0 G.Z = true) {len wd : Nat}
    (hf : N.R.frames + 1 ≤ M.R.frames) (hl : wd + (N.maxL + 11) + N.R.locals ≤ M.R.locals) (hsf : ∀ x ∈ sf, x < h.size ∧ Safe G.Z G.EL vm h x) : Pay G X M vm h N.y len wd as' N.R.cells N.R.slots Qy := by
  have hZ := W.wz
  have hEL := W.1.2.2.2.2.2.2
  have H := W.ch
  exact BackS.of_freeW (bytes := N.bytes) (maxL := N.maxL) (ret := N.ret) (E := fun _ first o t L k n => k = N.R.cells ∧ n = N.R.slots ∧ (∃ v, o = .returned v ∧ Qy v t.heap ∧ Fr G.n0 L ∧ Old G.Z G.n0 t.heap) ∧ CHr G.Z G.EL first.vm first.heap t.vm t.heap) K hf hl
    (fun m meth c A a Y hp => have hU : G.Z.Warmed39 A.U.vm := wtrans (s := X.s.setVm vm) hZ Y.warmed
      ⟨by show (Cond.and _ .tt).before a A.U = true; rw [Cond.before_and, mv hU wc]; rfl, mv hU wc, mv hU wz, hp.2.2.1, hp.2.2.2⟩)
    (fun m meth c A a g mk Y hp => ⟨hp.1, wtrans (s := X.s.setVm vm) hZ Y.warmed, hp.2.1, (CHv.at Y hZ hEL H).1, fun x hx => (CHv.at Y hZ hEL H).safe (hsf x hx).1 (hsf x hx).2⟩) (fun _ _ _ _ _ _ _ _ _ => trivial)
    (fun _ _ _ _ ⟨v, L, h1, h2, h3, h4⟩ => ⟨L, _, _, h4, rfl, rfl, ⟨v, h1, h2⟩, h3⟩)
    (fun m meth c A a g mk v t L k n Y hp _ _ ⟨e1, e2, ⟨v', e3, e4⟩, e5⟩ => by
      cases e3; subst e1 e2
      refine ⟨L, e4, rfl, Nat.le_refl _, Nat.le_refl _, (CHv.at Y hZ hEL H).trans ?_⟩
      rw [← hp.2.1]; exact e5)
/-- a law of the other shape pays too: its callee interns nothing -/
theorem payB {y : MethodName} {len wd kc ks : Nat} {as' : Array Value} {Qy : Option Value → Heap → List Loc → Prop} {Q' : Option Value → Heap → Prop}
    (B : Back G.l M.R X.p X.e X.below (X.s.setVm vm) X.args y len wd (fun P a => a = as' ∧ P.U.heap = h ∧ P.cells + kc ≤ M.R.cells ∧ P.slots + ks ≤ M.R.slots) (fun P _ v B => ∃ L, Qy v B.U.heap L ∧ B.locs = P.locs ++ L ∧ B.cells = P.cells + kc ∧ B.slots = P.slots + ks))
    (W : Here G X M vm T h C S) (hq : ∀ v h' L, Qy v h' L → Q' v h' ∧ Fr G.n0 L ∧ Old G.Z G.n0 h' ∧ CHr G.Z G.EL vm h vm h') : Pay G X M vm h y len wd as' kc ks Q' := by
  intro m meth c A g ig mk a X1 hg hsize hdg hW hn hp
  obtain ⟨v, B', X', ⟨L, q, e1, e2, e3⟩, st⟩ := B m meth c A g ig mk a X1 hg hsize hdg hW hn hp
  obtain ⟨q1, q2, q3, q4⟩ := hq _ _ _ q
  refine ⟨v, B', X'.retabled X'.warmed.wide, X'.warmed.since _, ?_, ⟨L, ⟨q1, q2, q3⟩, e1, Nat.le_of_eq e2, Nat.le_of_eq e3, q4.trans (CHv.at X' W.wz W.1.2.2.2.2.2.2 q4.1)⟩, st⟩
  rw [hp.2.1]; exact q4.2.1
theorem Here.call (W : Here G X M vm T h C S) {kc ks C' S' : Nat} {v : Option Value} {Qy : Option Value → Heap → Prop} (hc : C + kc ≤ C') (hs : S + ks ≤ S')
    {k0 : Nat} {locs : List Loc} {cells slots : Nat} (hS : X.s.Since vm k0) (hk : k0 ≤ h.size) (hown : vm.findClass M.y.cls = some X.m.cls) (hCH : CHr G.Z G.EL X.s.vm X.s.heap vm h) (hF : Fr G.n0 locs) (c1 : cells ≤ C) (s1 : slots ≤ S) {B : Pt}
    (X' : Stand X.p G.l X.e M.R ((X.s.setVm vm).setVm B.U.vm) X.m X.args X.below X.meth X.c B.U B.locs B.cells B.slots) (h2 : (X.s.setVm vm).Since B.U.vm B.U.heap.size) (hg : h.size ≤ B.U.heap.size) {L : List Loc}
    (hq : (Qy v B.U.heap ∧ Fr G.n0 L ∧ Old G.Z G.n0 B.U.heap) ∧ B.locs = locs ++ L ∧ B.cells ≤ cells + kc ∧ B.slots ≤ slots + ks ∧ CHr G.Z G.EL vm h B.U.vm B.U.heap) : Here G X M B.U.vm B.U B.U.heap C' S' := by
  obtain ⟨X2, S2, Z2, o2⟩ := rebS hS hk X' h2 hg W.wz hown
  obtain ⟨⟨-, q2, q3⟩, e1, e2, e3, q4⟩ := hq
  refine ⟨W.1, _, _, _, _, X2, rfl, S2, Nat.le_refl _, Z2, o2, hCH.trans q4, ?_, q3, ?_, ?_⟩
  · rw [e1]; exact hF.app q2
  · omega
  · omega
theorem callS (W : Here G X M vm T h C S) {y : MethodName} {idx : Nat} {bytes : ByteArray} {maxL : Nat} {ret : Option FieldType} (w1 : (Jvm.Cond.methodLink M.y.cls idx y).before G.a0 G.Z = true) (w2 : (Jvm.Cond.static y).before G.a0 G.Z = true) (w3 : (Jvm.Cond.initialized y.cls).before G.a0 G.Z = true) (w4 : (Jvm.Cond.code y bytes maxL ret).before G.a0 G.Z = true)
    (hy : y.cls ≠ "java/lang/invoke/MethodHandle" ∧ y.cls ≠ "java/lang/invoke/VarHandle") {wd kc ks : Nat} {argsL rest : List Value} {Qy : Option Value → Heap → Prop} (P : Pay G X M vm h y 3 wd argsL.toArray kc ks Qy) (hsz : Ls.size = M.maxL) (hlen : ∀ sig, parseMethodDescriptor y.desc = some sig → argsL.length = sig.parameters.length)
    (hstk : st = argsL.reverse ++ rest) (hwd : (rest.map fun v => v.category).sum ≤ wd) (hd : decode M.bytes pc = .ok (.invokestatic idx, 3)) (pc' : Nat) (hp : pc + 3 = pc') (C' S' : Nat) (hc : C + kc ≤ C') (hs : S + ks ≤ S') (hc' : C' ≤ M.R.cells) (hs' : S' ≤ M.R.slots)
    (k : ∀ (vm' : Vm) (T' : State) (h' : Heap) (v : Option Value), Here G X M vm' T' h' C' S' → CHr G.Z G.EL vm h vm' h' → Qy v h' → Go G X M Q T' pc' Ls (v.toList ++ rest)) : Go G X M Q T pc Ls st := by
  subst hp hstk
  obtain ⟨F, k0, locs, cells, slots, X1, e1, hS, hk, hZ, hown, hCH, hF, O, c1, s1⟩ := id W
  subst e1
  obtain ⟨v, vm₁, B, -, X', h2, hg, ⟨L, hq⟩, st'⟩ := callSS X1 W.x (y := y) hown (mv (s := X.s.setVm vm) hZ w1) (mv (s := X.s.setVm vm) hZ w2) (mv (s := X.s.setVm vm) hZ w3) (mv (s := X.s.setVm vm) hZ w4) hy P (g := mkF X.m pc Ls (argsL.reverse ++ rest)) rfl (hsz.trans F.2.2.1.symm) (argsL := argsL) (rest := rest) hlen rfl (by show 2 * 0 + _ ≤ _; omega) (W.d hd) (fun _ _ => ⟨rfl, rfl, by show cells + kc ≤ _; omega, by show slots + ks ≤ _; omega⟩)
  exact Go.stp (fun t r => st'.trans r) (k B.U.vm B.U B.U.heap v (Here.call W hc hs hS hk hown hCH hF c1 s1 X' h2 hg hq) hq.2.2.2.2 hq.1.1)
theorem callX (W : Here G X M vm T h C S) {y : MethodName} {idx : Nat} {bytes : ByteArray} {maxL : Nat} (hy1 : y.name = "<init>") (w1 : (Jvm.Cond.methodLink M.y.cls idx y).before G.a0 G.Z = true) (w2 : (Jvm.Cond.instanceMethod y).before G.a0 G.Z = true) (w4 : (Jvm.Cond.code y bytes maxL none).before G.a0 G.Z = true)
    (hy : y.cls ≠ "java/lang/invoke/MethodHandle" ∧ y.cls ≠ "java/lang/invoke/VarHandle") {wd kc ks : Nat} {a : Addr} {argsL rest : List Value} {Qy : Option Value → Heap → Prop} (P : Pay G X M vm h y 3 wd (.ref a :: argsL).toArray kc ks Qy) (hsz : Ls.size = M.maxL) (hlen : ∀ sig, parseMethodDescriptor y.desc = some sig → argsL.length = sig.parameters.length)
    (hstk : st = argsL.reverse ++ .ref a :: rest) (hwd : (rest.map fun v => v.category).sum ≤ wd) (hd : decode M.bytes pc = .ok (.invokespecial idx, 3)) (pc' : Nat) (hp : pc + 3 = pc') (C' S' : Nat) (hc : C + kc ≤ C') (hs : S + ks ≤ S') (hc' : C' ≤ M.R.cells) (hs' : S' ≤ M.R.slots)
    (k : ∀ (vm' : Vm) (T' : State) (h' : Heap) (v : Option Value), Here G X M vm' T' h' C' S' → CHr G.Z G.EL vm h vm' h' → Qy v h' → Go G X M Q T' pc' Ls (v.toList ++ rest)) : Go G X M Q T pc Ls st := by
  subst hp hstk
  obtain ⟨F, k0, locs, cells, slots, X1, e1, hS, hk, hZ, hown, hCH, hF, O, c1, s1⟩ := id W
  subst e1
  obtain ⟨v, vm₁, B, -, X', h2, hg, ⟨L, hq⟩, st'⟩ := X1.specialBackS W.x (y := y) hy1 hown (mv (s := X.s.setVm vm) hZ w1) (mv (s := X.s.setVm vm) hZ w2) (mv (s := X.s.setVm vm) hZ w4) hy P (g := mkF X.m pc Ls (argsL.reverse ++ .ref a :: rest)) rfl (hsz.trans F.2.2.1.symm) (Steps.refl _) (a := a) (argsL := argsL) (rest := rest) hlen rfl (by show 2 * 0 + _ ≤ _; omega) (W.d hd) (fun _ _ => ⟨rfl, rfl, by show cells + kc ≤ _; omega, by show slots + ks ≤ _; omega⟩)
  exact Go.stp (fun t r => st'.trans r) (k B.U.vm B.U B.U.heap v (Here.call W hc hs hS hk hown hCH hF c1 s1 X' h2 hg hq) hq.2.2.2.2 hq.1.1)
theorem callV (W : Here G X M vm T h C S) {y z : MethodName} {idx : Nat} {cl : String} (w1 : (Jvm.Cond.methodLink M.y.cls idx y).before G.a0 G.Z = true) (w2 : (Jvm.Cond.declares y).before G.a0 G.Z = true) (nf : ∀ s : State, G.Z.Warmed39 s.vm → NotFace s y) (w3 : (Jvm.Cond.selects cl y z).before G.a0 G.Z = true) (w4 : (Jvm.Cond.instanceMethod z).before G.a0 G.Z = true)
    (hy : y.cls ≠ "java/lang/invoke/MethodHandle" ∧ y.cls ≠ "java/lang/invoke/VarHandle") {wd kc ks : Nat} {a : Addr} {argsL rest : List Value} {Qy : Option Value → Heap → Prop} (P : Pay G X M vm h z 3 wd (.ref a :: argsL).toArray kc ks Qy) (E : Exa G.Z h a cl) (hsz : Ls.size = M.maxL) (hlen : ∀ sig, parseMethodDescriptor y.desc = some sig → argsL.length = sig.parameters.length)
    (hstk : st = argsL.reverse ++ .ref a :: rest) (hwd : (rest.map fun v => v.category).sum ≤ wd) (hd : decode M.bytes pc = .ok (.invokevirtual idx, 3)) (pc' : Nat) (hp : pc + 3 = pc') (C' S' : Nat) (hc : C + kc ≤ C') (hs : S + ks ≤ S') (hc' : C' ≤ M.R.cells) (hs' : S' ≤ M.R.slots)
    (k : ∀ (vm' : Vm) (T' : State) (h' : Heap) (v : Option Value), Here G X M vm' T' h' C' S' → CHr G.Z G.EL vm h vm' h' → Qy v h' → Go G X M Q T' pc' Ls (v.toList ++ rest)) : Go G X M Q T pc Ls st := by
  subst hp hstk
  obtain ⟨F, k0, locs, cells, slots, X1, e1, hS, hk, hZ, hown, hCH, hF, O, c1, s1⟩ := id W
  obtain ⟨cq, kq, qa, qb, qc⟩ := isOf (s := X.s.setVm vm) hZ e1 E
  subst e1
  obtain ⟨v, vm₁, B, -, X', h2, hg, ⟨L, hq⟩, st'⟩ := X1.virtualBackS W.x (y := y) (z := z) hown (mv (s := X.s.setVm vm) hZ w1) (mv (s := X.s.setVm vm) hZ w2) (nf _ hZ) (mv (s := X.s.setVm vm) hZ w3) (mv (s := X.s.setVm vm) hZ w4) hy P qa qc (g := mkF X.m pc Ls (argsL.reverse ++ .ref a :: rest)) rfl (hsz.trans F.2.2.1.symm) (Steps.refl _) (argsL := argsL) (rest := rest) hlen rfl (by show 2 * 0 + _ ≤ _; omega) (W.d hd) (fun _ _ => ⟨rfl, rfl, by show cells + kc ≤ _; omega, by show slots + ks ≤ _; omega⟩)
  exact Go.stp (fun t r => st'.trans r) (k B.U.vm B.U B.U.heap v (Here.call W hc hs hS hk hown hCH hF c1 s1 X' h2 hg hq) hq.2.2.2.2 hq.1.1)
theorem callI (W : Here G X M vm T h C S) {y z : MethodName} {idx count : Nat} {cl : String} (w1 : (Jvm.Cond.methodLink M.y.cls idx y).before G.a0 G.Z = true) (w2 : (Jvm.Cond.declares y).before G.a0 G.Z = true) (wf : (Jvm.Cond.interfaceMethod y.cls y.cls y.name y.desc).before G.a0 G.Z = true) (hfa : ((Jvm.Cond.interfaceMethod y.cls y.cls y.name y.desc).onTables && (Jvm.Cond.interfaceMethod y.cls y.cls y.name y.desc).keepsFace) = true) (w3 : (Jvm.Cond.selects cl y z).before G.a0 G.Z = true) (w4 : (Jvm.Cond.instanceMethod z).before G.a0 G.Z = true)
    (w5 : (Jvm.Cond.publicMethod z).before G.a0 G.Z = true) (w6 : (Jvm.Cond.unhidden cl y.name y.desc).before G.a0 G.Z = true) (w7 : (Jvm.Cond.castable cl y.cls).before G.a0 G.Z = true)
    (hy : y.cls ≠ "java/lang/invoke/MethodHandle" ∧ y.cls ≠ "java/lang/invoke/VarHandle") {wd kc ks : Nat} {a : Addr} {argsL rest : List Value} {Qy : Option Value → Heap → Prop} (P : Pay G X M vm h z 5 wd (.ref a :: argsL).toArray kc ks Qy) (E : Exa G.Z h a cl) (hsz : Ls.size = M.maxL) (hlen : ∀ sig, parseMethodDescriptor y.desc = some sig → argsL.length = sig.parameters.length)
    (hstk : st = argsL.reverse ++ .ref a :: rest) (hwd : (rest.map fun v => v.category).sum ≤ wd) (hd : decode M.bytes pc = .ok (.invokeinterface idx count, 5)) (pc' : Nat) (hp : pc + 5 = pc') (C' S' : Nat) (hc : C + kc ≤ C') (hs : S + ks ≤ S') (hc' : C' ≤ M.R.cells) (hs' : S' ≤ M.R.slots)
    (k : ∀ (vm' : Vm) (T' : State) (h' : Heap) (v : Option Value), Here G X M vm' T' h' C' S' → CHr G.Z G.EL vm h vm' h' → Qy v h' → Go G X M Q T' pc' Ls (v.toList ++ rest)) : Go G X M Q T pc Ls st := by
  subst hp hstk
  obtain ⟨F, k0, locs, cells, slots, X1, e1, hS, hk, hZ, hown, hCH, hF, O, c1, s1⟩ := id W
  obtain ⟨cq, kq, qa, qb, qc⟩ := isOf (s := X.s.setVm vm) hZ e1 E
  subst e1
  obtain ⟨v, vm₁, B, -, X', h2, hg, ⟨L, hq⟩, st'⟩ := X1.interfaceBackS W.x (xi := y) (y := z) hown (mv (s := X.s.setVm vm) hZ w1) (mv (s := X.s.setVm vm) hZ w2) (mv (s := X.s.setVm vm) hZ wf hfa) (mv (s := X.s.setVm vm) hZ w3) (mv (s := X.s.setVm vm) hZ w4) (mv (s := X.s.setVm vm) hZ w5) (mv (s := X.s.setVm vm) hZ w6) (mv (s := X.s.setVm vm) hZ w7) hy P qa qb qc (g := mkF X.m pc Ls (argsL.reverse ++ .ref a :: rest)) rfl (hsz.trans F.2.2.1.symm) (Steps.refl _) (argsL := argsL) (rest := rest) hlen rfl (by show 2 * 0 + _ ≤ _; omega) (W.d hd) (fun _ _ => ⟨rfl, rfl, by show cells + kc ≤ _; omega, by show slots + ks ≤ _; omega⟩)
  exact Go.stp (fun t r => st'.trans r) (k B.U.vm B.U B.U.heap v (Here.call W hc hs hS hk hown hCH hF c1 s1 X' h2 hg hq) hq.2.2.2.2 hq.1.1)
/-! ### steps on the heap -/
theorem Here.ext (W : Here G X M vm T h C S) {T' : State} {h' : Heap} {k0 : Nat} {locs : List Loc} {cells slots C' S' : Nat} (hS : X.s.Since vm k0) (hk : k0 ≤ h.size) (hown : vm.findClass M.y.cls = some X.m.cls) (hCH : CHr G.Z G.EL X.s.vm X.s.heap vm h) (hF : Fr G.n0 locs)
    (X' : Stand X.p G.l X.e M.R (X.s.setVm vm) X.m X.args X.below X.meth X.c T' locs cells slots) (e' : T'.heap = h') (E : Ext h h') (hc : cells ≤ C') (hs : slots ≤ S') : Here G X M vm T' h' C' S' :=
  ⟨W.1, k0, locs, cells, slots, X', e', hS, Nat.le_trans hk E.1, W.wz, hown, hCH.trans (CHr.ext E hCH.1), hF, W.old.ext E, hc, hs⟩
theorem newO (W : Here G X M vm T h C S) {cl : String} {idx n : Nat} (w : (Jvm.Cond.classLink M.y.cls idx cl).before G.a0 G.Z = true) (wi : (Jvm.Cond.instantiable cl n).before G.a0 G.Z = true) (wz : (Jvm.Cond.initialized cl).before G.a0 G.Z = true) (hd : decode M.bytes pc = .ok (.new idx, 3)) (pc' : Nat) (hp : pc + 3 = pc') (C' S' : Nat) (hc : C + 1 ≤ C') (hs : S + n ≤ S') (hc' : C' ≤ M.R.cells) (hs' : S' ≤ M.R.slots)
    (k : ∀ (T' : State) (h' : Heap) (a : Addr), a = h.size → Here G X M vm T' h' C' S' → Ext h h' → Exa G.Z h' a cl → (∀ {O nm d : String} {ty : FieldType}, Laid G.Z G.a0 cl O nm d → parseFieldDescriptor d = some ty → Fld G.Z h' a O nm d (defaultValue ty)) → Safe G.Z G.EL vm h' a → (∀ y, Safe G.Z G.EL vm h y → Safe G.Z G.EL vm h' y) → Go G X M Q T' pc' Ls (.ref a :: st)) : Go G X M Q T pc Ls st := by
  subst hp
  obtain ⟨F, k0, locs, cells, slots, X1, e1, hS, hk, hZ, hown, hCH, hF, O, c1, s1⟩ := id W
  obtain ⟨T', h', X', e', E, A, D, -, st'⟩ := RoadKit.newO X1 W.x hZ hown w wi wz e1 (g := mkF X.m pc Ls st) rfl (W.d hd) (by omega) (by omega)
  exact Go.stp (fun t r => st' t r) (k T' h' h.size rfl (Here.ext W hS hk hown hCH hF X' e' E (by omega) (by omega)) E A D (Safe.ext E hCH.1 (Safe.new (Nat.le_refl _))) (fun y q => Safe.ext E hCH.1 q))
theorem newA (W : Here G X M vm T h C S) {aty : ArrayType} {n : Int32} (w : (Jvm.Cond.arrayClass (newarray.typeOf aty)).before G.a0 G.Z = true) (hd : decode M.bytes pc = .ok (.newarray aty, 2)) (pc' : Nat) (hp : pc + 2 = pc') (hn : ¬ n < 0) (cap : Nat) (hcap : n.toNatClampNeg ≤ cap) (hb : cap * 8 ≤ 536870912) (C' S' : Nat) (hc : C + 1 ≤ C') (hs : S + cap ≤ S') (hc' : C' ≤ M.R.cells) (hs' : S' ≤ M.R.slots)
    (k : ∀ (T' : State) (h' : Heap) (a : Addr) (kA : ClassId), a = h.size → Here G X M vm T' h' C' S' → Ext h h' → Arv G.Z h' a kA (newarray.typeOf aty) n (List.replicate cap (defaultValue (newarray.typeOf aty))) (defaultValue (newarray.typeOf aty)) → Safe G.Z G.EL vm h' a → (∀ y, Safe G.Z G.EL vm h y → Safe G.Z G.EL vm h' y) → Go G X M Q T' pc' Ls (.ref a :: st)) : Go G X M Q T pc Ls (.int n :: st) := by
  subst hp
  obtain ⟨F, k0, locs, cells, slots, X1, e1, hS, hk, hZ, hown, hCH, hF, O, c1, s1⟩ := id W
  obtain ⟨T', h', kA, X', e', E, A, st'⟩ := RoadKit.newP X1 W.x hZ w e1 (g := mkF X.m pc Ls (.int n :: st)) rfl (W.d hd) rfl hn hcap hb (by omega) (by omega)
  exact Go.stp (fun t r => st' t r) (k T' h' h.size kA rfl (Here.ext W hS hk hown hCH hF X' e' E (by omega) (by omega)) E ((Arv.new A hn).pad (pad_rep [] _ cap)) (Safe.ext E hCH.1 (Safe.new (Nat.le_refl _))) (fun y q => Safe.ext E hCH.1 q))
theorem getF (W : Here G X M vm T h C S) {R0 O n d : String} {idx : Nat} {a : Addr} {v : Value} (w : (Jvm.Cond.fieldLink M.y.cls idx R0 n d).before G.a0 G.Z = true) (via : Via G.Z R0 O n d) (F : Fld G.Z h a O n d v) (hd : decode M.bytes pc = .ok (.getfield idx, 3)) (pc' : Nat) (hp : pc + 3 = pc')
    (k : ∀ T' : State, Here G X M vm T' h C S → Go G X M Q T' pc' Ls (v :: st)) : Go G X M Q T pc Ls (.ref a :: st) := by
  subst hp
  obtain ⟨F', k0, locs, cells, slots, X1, e1, hS, hk, hZ, hown, hCH, hF, O', c1, s1⟩ := id W
  obtain ⟨T', X', e', st'⟩ := RoadKit.getF X1 W.x hZ hown (host := "") (Or.inl w) via e1 F (g := mkF X.m pc Ls (.ref a :: st)) rfl rfl (W.d hd)
  exact Go.stp (fun t r => st' t r) (k T' (Here.ext W hS hk hown hCH hF X' e' (Ext.rfl' h) c1 s1))
theorem getS (W : Here G X M vm T h C S) {R0 O n d : String} {idx : Nat} {v : Value} (w : (Jvm.Cond.fieldLink M.y.cls idx R0 n d).before G.a0 G.Z = true) (via : Via G.Z R0 O n d) (F : Sta G.Z h O n d v) (hd : decode M.bytes pc = .ok (.getstatic idx, 3)) (pc' : Nat) (hp : pc + 3 = pc')
    (k : ∀ T' : State, Here G X M vm T' h C S → Go G X M Q T' pc' Ls (v :: st)) : Go G X M Q T pc Ls st := by
  subst hp
  obtain ⟨F', k0, locs, cells, slots, X1, e1, hS, hk, hZ, hown, hCH, hF, O', c1, s1⟩ := id W
  obtain ⟨T', X', e', st'⟩ := RoadKit.getS X1 W.x hZ (host := "") hown w via e1 F (g := mkF X.m pc Ls st) rfl (W.d hd)
  exact Go.stp (fun t r => st' t r) (k T' (Here.ext W hS hk hown hCH hF X' e' (Ext.rfl' h) c1 s1))
theorem castY (W : Here G X M vm T h C S) {K : String} {idx : Nat} {a : Addr} (w : (Jvm.Cond.classLink M.y.cls idx K).before G.a0 G.Z = true) (F : Ins G.Z h a K true) (hd : decode M.bytes pc = .ok (.checkcast idx, 3)) (pc' : Nat) (hp : pc + 3 = pc')
    (k : ∀ T' : State, Here G X M vm T' h C S → Go G X M Q T' pc' Ls (.ref a :: st)) : Go G X M Q T pc Ls (.ref a :: st) := by
  subst hp
  obtain ⟨F', k0, locs, cells, slots, X1, e1, hS, hk, hZ, hown, hCH, hF, O', c1, s1⟩ := id W
  obtain ⟨T', X', e', st'⟩ := RoadKit.castY X1 W.x hZ hown w e1 F (g := mkF X.m pc Ls (.ref a :: st)) rfl rfl (W.d hd)
  exact Go.stp (fun t r => st' t r) (k T' (Here.ext W hS hk hown hCH hF X' e' (Ext.rfl' h) c1 s1))
theorem instY (W : Here G X M vm T h C S) {K : String} {idx : Nat} {a : Addr} (w : (Jvm.Cond.classLink M.y.cls idx K).before G.a0 G.Z = true) (F : Ins G.Z h a K true) (hd : decode M.bytes pc = .ok (.instanceof idx, 3)) (pc' : Nat) (hp : pc + 3 = pc')
    (k : ∀ T' : State, Here G X M vm T' h C S → Go G X M Q T' pc' Ls (.int 1 :: st)) : Go G X M Q T pc Ls (.ref a :: st) := by
  subst hp
  obtain ⟨F', k0, locs, cells, slots, X1, e1, hS, hk, hZ, hown, hCH, hF, O', c1, s1⟩ := id W
  obtain ⟨T', X', e', st'⟩ := RoadKit.instY X1 W.x hZ hown w e1 F (g := mkF X.m pc Ls (.ref a :: st)) rfl rfl (W.d hd)
  exact Go.stp (fun t r => st' t r) (k T' (Here.ext W hS hk hown hCH hF X' e' (Ext.rfl' h) c1 s1))
theorem instNo (W : Here G X M vm T h C S) {K c0 : String} {idx : Nat} {a : Addr} (w : (Jvm.Cond.classLink M.y.cls idx K).before G.a0 G.Z = true) (E : Exa G.Z h a c0) (F : ∃ c t, G.Z.vm.findClass c0 = some c ∧ G.Z.vm.findClass K = some t ∧ G.Z.vm.assignable c t = false) (hd : decode M.bytes pc = .ok (.instanceof idx, 3)) (pc' : Nat) (hp : pc + 3 = pc')
    (k : ∀ T' : State, Here G X M vm T' h C S → Go G X M Q T' pc' Ls (.int 0 :: st)) : Go G X M Q T pc Ls (.ref a :: st) := by
  subst hp
  obtain ⟨F', k0, locs, cells, slots, X1, e1, hS, hk, hZ, hown, hCH, hF, O', c1, s1⟩ := id W
  obtain ⟨T', X', e', st'⟩ := RoadKit.instNo X1 W.x hZ hown w e1 E F (g := mkF X.m pc Ls (.ref a :: st)) rfl rfl (W.d hd)
  exact Go.stp (fun t r => st' t r) (k T' (Here.ext W hS hk hown hCH hF X' e' (Ext.rfl' h) c1 s1))
theorem instNull (W : Here G X M vm T h C S) {idx : Nat} (hd : decode M.bytes pc = .ok (.instanceof idx, 3)) (pc' : Nat) (hp : pc + 3 = pc') (k : Go G X M Q T pc' Ls (.int 0 :: st)) : Go G X M Q T pc Ls (.null :: st) := by
  subst hp
  obtain ⟨F', k0, locs, cells, slots, X1, -⟩ := id W
  exact Go.stp (fun t r => X1.instanceofNull W.x (g := mkF X.m pc Ls (.null :: st)) rfl rfl (W.d hd) t r) k
theorem castNull (W : Here G X M vm T h C S) {idx : Nat} (hd : decode M.bytes pc = .ok (.checkcast idx, 3)) (pc' : Nat) (hp : pc + 3 = pc') (k : Go G X M Q T pc' Ls (.null :: st)) : Go G X M Q T pc Ls (.null :: st) := by
  subst hp
  obtain ⟨F', k0, locs, cells, slots, X1, -⟩ := id W
  exact Go.stp (fun t r => X1.checkcastNull W.x (g := mkF X.m pc Ls (.null :: st)) rfl rfl (W.d hd) t r) k
theorem Here.wr (W : Here G X M vm T h C S) {T' : State} {h' : Heap} {k0 : Nat} {locs : List Loc} {cells slots : Nat} {a : Addr} {sl : Nat} {v : Value} (hS : X.s.Since vm k0) (hk : k0 ≤ h.size) (hown : vm.findClass M.y.cls = some X.m.cls) (hCH : CHr G.Z G.EL X.s.vm X.s.heap vm h) (hF : Fr G.n0 locs) (ha : G.n0 ≤ a) (sf : Safe G.Z G.EL vm h a)
    (X' : Stand X.p G.l X.e M.R (X.s.setVm vm) X.m X.args X.below X.meth X.c T' (locs ++ [⟨a, sl⟩]) cells slots) (e' : T'.heap = h') (E : Wr h h' a sl v) (hc : cells ≤ C) (hs : slots ≤ S) : Here G X M vm T' h' C S :=
  ⟨W.1, k0, _, cells, slots, X', e', hS, by rw [E.size]; exact hk, W.wz, hown, hCH.trans (CHr.wr E sf hCH.1), Fr.snoc X' hF ha, W.old.wr E ha, hc, hs⟩
theorem putF (W : Here G X M vm T h C S) {R0 O n d cl : String} {idx kk : Nat} {ty : FieldType} {a : Addr} {v v' old : Value} (w : (Jvm.Cond.fieldLink M.y.cls idx R0 n d).before G.a0 G.Z = true) (via : Via G.Z R0 O n d) (F : Fld G.Z h a O n d old) (E : Exa G.Z h a cl)
    (L : (Jvm.Cond.lays cl O n d).before G.a0 G.Z = true ∨ ((Jvm.Cond.laysFinal cl O n d).before G.a0 G.Z = true ∧ M.y.cls = O ∧ M.y.name = "<init>")) (wi : (Jvm.Cond.instantiable cl kk).before G.a0 G.Z = true) (hty : parseFieldDescriptor d = some ty) (hn : narrow ty v = v') (hf : fits ty v' = true) (ha : G.n0 ≤ a) (sf : Safe G.Z G.EL vm h a)
    (hd : decode M.bytes pc = .ok (.putfield idx, 3)) (pc' : Nat) (hp : pc + 3 = pc') (k : ∀ (T' : State) (h' : Heap), Here G X M vm T' h' C S → Wr h h' a (RoadKit.slotOf G.Z O n d) v' → (∀ y, Safe G.Z G.EL vm h y → Safe G.Z G.EL vm h' y) → Go G X M Q T' pc' Ls st) : Go G X M Q T pc Ls (v :: .ref a :: st) := by
  subst hp
  obtain ⟨F', k0, locs, cells, slots, X1, e1, hS, hk, hZ, hown, hCH, hF, O', c1, s1⟩ := id W
  obtain ⟨T', h', X', e', Wq, st'⟩ := RoadKit.putFN X1 W.x hZ hown w via e1 F E (L.imp id fun q => ⟨q.1, q.2.1, F'.2.2.2.2.2.1.trans q.2.2⟩) wi hty hn hf (g := mkF X.m pc Ls (v :: .ref a :: st)) rfl rfl (W.d hd)
  exact Go.stp (fun t r => st' t r) (k T' h' (Here.wr W hS hk hown hCH hF ha sf X' e' Wq c1 s1) Wq (fun y q => Safe.wr Wq sf hCH.1 q))
theorem castore (W : Here G X M vm T h C S) {a : Addr} {kA : ClassId} {z j x : Int32} {vs : List Value} {dv : Value} (A : Arv G.Z h a kA .char z vs dv) (i : Nat) (hj : j.toNatClampNeg = i) (hj0 : ¬ j < 0 ∧ j < z) (hi : i < vs.length) (ha : G.n0 ≤ a) {x' : Int32} (hx' : nar .char x = x') (hd : decode M.bytes pc = .ok (.castore, 1)) (pc' : Nat) (hp : pc + 1 = pc')
    (k : ∀ (T' : State) (h' : Heap), Here G X M vm T' h' C S → Wr h h' a i (.int x') → Arv G.Z h' a kA .char z (vs.set i (.int x')) dv → (∀ y, Safe G.Z G.EL vm h y → Safe G.Z G.EL vm h' y) → Go G X M Q T' pc' Ls st) : Go G X M Q T pc Ls (.int x :: .int j :: .ref a :: st) := by
  subst hp hj hx'
  obtain ⟨F', k0, locs, cells, slots, X1, e1, hS, hk, hZ, hown, hCH, hF, O', c1, s1⟩ := id W
  have sf : Safe G.Z G.EL vm h a := Safe.arv hZ.alike A (by decide)
  obtain ⟨cl, A1, q, Sz, Nz, H, Gz⟩ := A
  obtain ⟨T', h', X', e', Wq, st'⟩ := RoadKit.stC X1 W.x hZ e1 A1 (j := j) (inb_of Sz hj0) (g := mkF X.m pc Ls (.int x :: .int j :: .ref a :: st)) rfl rfl (W.d hd)
  exact Go.stp (fun t r => st' t r) (k T' h' (Here.wr W hS hk hown hCH hF ha sf X' e' Wq c1 s1) Wq (Arv.set A1 q Sz Nz H Gz (fits_nar_char _) Wq _ rfl hi) (fun y q => Safe.wr Wq sf hCH.1 q))
theorem arrlen (W : Here G X M vm T h C S) {a : Addr} {kA : ClassId} {ty : FieldType} {z : Int32} {vs : List Value} {dv : Value} (A : Arv G.Z h a kA ty z vs dv) (hd : decode M.bytes pc = .ok (.arraylength, 1)) (pc' : Nat) (hp : pc + 1 = pc') (k : Go G X M Q T pc' Ls (.int z :: st)) : Go G X M Q T pc Ls (.ref a :: st) := by
  subst hp
  obtain ⟨F', k0, locs, cells, slots, X1, e1, hS, hk, hZ, hown, hCH, hF, O', c1, s1⟩ := id W
  obtain ⟨cl, A1, q, Sz, Nz, H, Gz⟩ := A
  rw [← len_of Sz Nz] at k
  exact Go.stp (fun t r => X1.arraylength W.x (by rw [e1]; exact A1.1) (State.isArrayOf_alike (T := X.s.setVm vm) hZ.alike A1.2.1) (g := mkF X.m pc Ls (.ref a :: st)) rfl rfl (W.d hd) t r) k
theorem caload (W : Here G X M vm T h C S) {a : Addr} {kA : ClassId} {z j : Int32} {vs : List Value} {dv : Value} (A : Arv G.Z h a kA .char z vs dv) (hj0 : ¬ j < 0 ∧ j < z) (v : Value) (hv : vs.getD j.toNatClampNeg dv = v) (hd : decode M.bytes pc = .ok (.caload, 1)) (pc' : Nat) (hp : pc + 1 = pc') (k : Go G X M Q T pc' Ls (v :: st)) : Go G X M Q T pc Ls (.int j :: .ref a :: st) := by
  subst hp
  obtain ⟨F', k0, locs, cells, slots, X1, e1, hS, hk, hZ, hown, hCH, hF, O', c1, s1⟩ := id W
  obtain ⟨cl, A1, q, Sz, Nz, H, Gz⟩ := A
  exact Go.stp (fun t r => X1.caload W.x (by rw [e1]; exact A1.1) (State.isArrayOf_alike (T := X.s.setVm vm) hZ.alike A1.2.1) A1.2.2 (inb_of Sz hj0) (H.at (inb_of Sz hj0) hv) (g := mkF X.m pc Ls (.int j :: .ref a :: st)) rfl rfl (W.d hd) t r) k
theorem bastore (W : Here G X M vm T h C S) {a : Addr} {kA : ClassId} {z j x : Int32} {vs : List Value} {dv : Value} (A : Arv G.Z h a kA .byte z vs dv) (i : Nat) (hj : j.toNatClampNeg = i) (hj0 : ¬ j < 0 ∧ j < z) (hi : i < vs.length) (ha : G.n0 ≤ a) (sf : Safe G.Z G.EL vm h a) {x' : Int32} (hx' : nar .byte x = x') (hd : decode M.bytes pc = .ok (.bastore, 1)) (pc' : Nat) (hp : pc + 1 = pc')
    (k : ∀ (T' : State) (h' : Heap), Here G X M vm T' h' C S → Wr h h' a i (.int x') → Arv G.Z h' a kA .byte z (vs.set i (.int x')) dv → (∀ y, Safe G.Z G.EL vm h y → Safe G.Z G.EL vm h' y) → Go G X M Q T' pc' Ls st) : Go G X M Q T pc Ls (.int x :: .int j :: .ref a :: st) := by
  subst hp hj hx'
  obtain ⟨F', k0, locs, cells, slots, X1, e1, hS, hk, hZ, hown, hCH, hF, O', c1, s1⟩ := id W
  obtain ⟨cl, A1, q, Sz, Nz, H, Gz⟩ := A
  obtain ⟨T', h', X', e', Wq, st'⟩ := RoadKit.stB X1 W.x hZ e1 A1 (j := j) (inb_of Sz hj0) (g := mkF X.m pc Ls (.int x :: .int j :: .ref a :: st)) rfl rfl (W.d hd)
  exact Go.stp (fun t r => st' t r) (k T' h' (Here.wr W hS hk hown hCH hF ha sf X' e' Wq c1 s1) Wq (Arv.set A1 q Sz Nz H Gz (fits_nar_byte _) Wq _ rfl hi) (fun y q => Safe.wr Wq sf hCH.1 q))
theorem baload (W : Here G X M vm T h C S) {a : Addr} {kA : ClassId} {z j : Int32} {vs : List Value} {dv : Value} (A : Arv G.Z h a kA .byte z vs dv) (hj0 : ¬ j < 0 ∧ j < z) (v : Value) (hv : vs.getD j.toNatClampNeg dv = v) (hd : decode M.bytes pc = .ok (.baload, 1)) (pc' : Nat) (hp : pc + 1 = pc') (k : Go G X M Q T pc' Ls (v :: st)) : Go G X M Q T pc Ls (.int j :: .ref a :: st) := by
  subst hp
  obtain ⟨F', k0, locs, cells, slots, X1, e1, hS, hk, hZ, hown, hCH, hF, O', c1, s1⟩ := id W
  obtain ⟨cl, A1, q, Sz, Nz, H, Gz⟩ := A
  exact Go.stp (fun t r => X1.baloadBytes W.x (by rw [e1]; exact A1.1) (State.isArrayOf_alike (T := X.s.setVm vm) hZ.alike A1.2.1) A1.2.2 (inb_of Sz hj0) (H.at (inb_of Sz hj0) hv) (g := mkF X.m pc Ls (.int j :: .ref a :: st)) rfl rfl (W.d hd) t r) k
theorem initO (W : Here G X M vm T h C S) {idx : Nat} {a : Addr} (w1 : (Jvm.Cond.methodLink M.y.cls idx Lib.objectInit).before G.a0 G.Z = true) (w2 : (Jvm.Cond.instanceMethod Lib.objectInit).before G.a0 G.Z = true) (w3 : (Jvm.Cond.code Lib.objectInit ⟨#[0xb1]⟩ 1 none).before G.a0 G.Z = true) (hsz : Ls.size = M.maxL)
    (hd : decode M.bytes pc = .ok (.invokespecial idx, 3)) (pc' : Nat) (hp : pc + 3 = pc') (hf : 1 ≤ M.R.frames) (hl : (st.map fun v => v.category).sum + 12 ≤ M.R.locals) (k : ∀ T' : State, Here G X M vm T' h C S → Go G X M Q T' pc' Ls st) : Go G X M Q T pc Ls (.ref a :: st) := by
  subst hp
  obtain ⟨F', k0, locs, cells, slots, X1, e1, hS, hk, hZ, hown, hCH, hF, O', c1, s1⟩ := id W
  obtain ⟨T', X', e', st'⟩ := RoadKit.initO X1 W.x hZ hown w1 w2 w3 e1 (g := mkF X.m pc Ls (.ref a :: st)) rfl (hsz.trans F'.2.2.1.symm) rfl (W.d hd) hf (W := (st.map fun v => v.category).sum) (by show 2 * 0 + _ ≤ _; omega) hl
  exact Go.stp (fun t r => st' t r) (k T' (Here.ext W hS hk hown hCH hF X' e' (Ext.rfl' h) c1 s1))
/-! ### more plain steps -/
theorem imul (W : Here G X M vm T h C S) {x y : Int32} (hd : decode M.bytes pc = .ok (.imul, 1)) (pc' : Nat) (hp : pc + 1 = pc') (k : Go G X M Q T pc' Ls (.int (x * y) :: st)) : Go G X M Q T pc Ls (.int y :: .int x :: st) := by
  subst hp; exact Go.stp (fun t r => XS.imul W.at W.x rfl (W.d hd) rfl r) k
theorem ior (W : Here G X M vm T h C S) {x y : Int32} (hd : decode M.bytes pc = .ok (.ior, 1)) (pc' : Nat) (hp : pc + 1 = pc') (k : Go G X M Q T pc' Ls (.int (x ||| y) :: st)) : Go G X M Q T pc Ls (.int y :: .int x :: st) := by
  subst hp; exact Go.stp (fun t r => XS.ior W.at W.x rfl (W.d hd) rfl r) k
theorem ishr (W : Here G X M vm T h C S) {x y : Int32} (hd : decode M.bytes pc = .ok (.ishr, 1)) (pc' : Nat) (hp : pc + 1 = pc') (k : Go G X M Q T pc' Ls (.int (x >>> (y &&& 31)) :: st)) : Go G X M Q T pc Ls (.int y :: .int x :: st) := by
  subst hp; exact Go.stp (fun t r => XS.ishr W.at W.x rfl (W.d hd) rfl r) k
theorem ishl (W : Here G X M vm T h C S) {x y : Int32} (hd : decode M.bytes pc = .ok (.ishl, 1)) (pc' : Nat) (hp : pc + 1 = pc') (k : Go G X M Q T pc' Ls (.int (x <<< (y &&& 31)) :: st)) : Go G X M Q T pc Ls (.int y :: .int x :: st) := by
  subst hp; exact Go.stp (fun t r => XS.ishl W.at W.x rfl (W.d hd) rfl r) k
theorem ladd (W : Here G X M vm T h C S) {x y : Int64} (hd : decode M.bytes pc = .ok (.ladd, 1)) (pc' : Nat) (hp : pc + 1 = pc') (k : Go G X M Q T pc' Ls (.long (x + y) :: st)) : Go G X M Q T pc Ls (.long y :: .long x :: st) := by
  subst hp; exact Go.stp (fun t r => XS.ladd W.at W.x rfl (W.d hd) rfl r) k
theorem lsub (W : Here G X M vm T h C S) {x y : Int64} (hd : decode M.bytes pc = .ok (.lsub, 1)) (pc' : Nat) (hp : pc + 1 = pc') (k : Go G X M Q T pc' Ls (.long (x - y) :: st)) : Go G X M Q T pc Ls (.long y :: .long x :: st) := by
  subst hp; exact Go.stp (fun t r => XS.lsub W.at W.x rfl (W.d hd) rfl r) k
theorem lcmp (W : Here G X M vm T h C S) {x y : Int64} (hd : decode M.bytes pc = .ok (.lcmp, 1)) (pc' : Nat) (hp : pc + 1 = pc') (k : Go G X M Q T pc' Ls (.int (XT.cmpL x y) :: st)) : Go G X M Q T pc Ls (.long y :: .long x :: st) := by
  subst hp; exact Go.stp (fun t r => XS.lcmp W.at W.x rfl (W.d hd) rfl r) k
theorem lneg (W : Here G X M vm T h C S) {x : Int64} (hd : decode M.bytes pc = .ok (.lneg, 1)) (pc' : Nat) (hp : pc + 1 = pc') (k : Go G X M Q T pc' Ls (.long (-x) :: st)) : Go G X M Q T pc Ls (.long x :: st) := by
  subst hp; exact Go.stp (fun t r => XS.lneg W.at W.x rfl (W.d hd) rfl r) k
theorem i2l (W : Here G X M vm T h C S) {x : Int32} (hd : decode M.bytes pc = .ok (.i2l, 1)) (pc' : Nat) (hp : pc + 1 = pc') (k : Go G X M Q T pc' Ls (.long x.toInt64 :: st)) : Go G X M Q T pc Ls (.int x :: st) := by
  subst hp; exact Go.stp (fun t r => XS.i2l W.at W.x rfl (W.d hd) rfl r) k
theorem l2i (W : Here G X M vm T h C S) {x : Int64} (hd : decode M.bytes pc = .ok (.l2i, 1)) (pc' : Nat) (hp : pc + 1 = pc') (k : Go G X M Q T pc' Ls (.int x.toInt32 :: st)) : Go G X M Q T pc Ls (.long x :: st) := by
  subst hp; exact Go.stp (fun t r => XS.l2i W.at W.x rfl (W.d hd) rfl r) k
theorem lushr (W : Here G X M vm T h C S) {x : Int64} {y : Int32} (hd : decode M.bytes pc = .ok (.lushr, 1)) (pc' : Nat) (hp : pc + 1 = pc') (k : Go G X M Q T pc' Ls (.long ((x.toUInt64 >>> (y &&& 0x3f).toInt64.toUInt64).toInt64) :: st)) : Go G X M Q T pc Ls (.int y :: .long x :: st) := by
  subst hp; exact Go.stp (fun t r => XS.lushr W.at W.x rfl (W.d hd) rfl r) k
theorem idiv (W : Here G X M vm T h C S) {x y : Int32} (hd : decode M.bytes pc = .ok (.idiv, 1)) (pc' : Nat) (hp : pc + 1 = pc') (hy : y ≠ 0) (k : Go G X M Q T pc' Ls (.int (x / y) :: st)) : Go G X M Q T pc Ls (.int y :: .int x :: st) := by
  subst hp; exact Go.stp (fun t r => XS.idiv W.at W.x rfl (W.d hd) rfl hy r) k
theorem lconst (W : Here G X M vm T h C S) {j : Fin 2} (hd : decode M.bytes pc = .ok (.lconst j, 1)) (pc' : Nat) (hp : pc + 1 = pc') (v : Int64) (hv : Int64.ofNat j = v) (k : Go G X M Q T pc' Ls (.long v :: st)) : Go G X M Q T pc Ls st := by
  subst hp hv; exact Go.stp (fun t r => XS.lconst W.at W.x rfl (W.d hd) r) k
theorem lloadN (W : Here G X M vm T h C S) {j : Fin 4} (hd : decode M.bytes pc = .ok (.lload_n j, 1)) (pc' : Nat) (hp : pc + 1 = pc') (v : Int64) (hl : Ls[j.val]? = some (.val (.long v))) (k : Go G X M Q T pc' Ls (.long v :: st)) : Go G X M Q T pc Ls st := by
  subst hp; exact Go.stp (fun t r => XS.lloadN W.at W.x rfl (W.d hd) hl r) k
theorem lload (W : Here G X M vm T h C S) {j : Nat} (hd : decode M.bytes pc = .ok (.lload j, 2)) (pc' : Nat) (hp : pc + 2 = pc') (v : Int64) (hl : Ls[j]? = some (.val (.long v))) (k : Go G X M Q T pc' Ls (.long v :: st)) : Go G X M Q T pc Ls st := by
  subst hp; exact Go.stp (fun t r => XS.lload W.at W.x rfl (W.d hd) hl r) k
theorem lstoreN (W : Here G X M vm T h C S) {j : Fin 4} {x : Int64} (hd : decode M.bytes pc = .ok (.lstore_n j, 1)) (pc' : Nat) (hp : pc + 1 = pc') (Ls' : Array Slot) (hl : storeLocals Ls j.val (.long x) = some Ls') (k : Go G X M Q T pc' Ls' st) : Go G X M Q T pc Ls (.long x :: st) := by
  subst hp; exact Go.stp (fun t r => XS.lstoreN W.at W.x rfl (W.d hd) rfl hl r) k
theorem lstore (W : Here G X M vm T h C S) {j : Nat} {x : Int64} (hd : decode M.bytes pc = .ok (.lstore j, 2)) (pc' : Nat) (hp : pc + 2 = pc') (Ls' : Array Slot) (hl : storeLocals Ls j (.long x) = some Ls') (k : Go G X M Q T pc' Ls' st) : Go G X M Q T pc Ls (.long x :: st) := by
  subst hp; exact Go.stp (fun t r => XS.lstore W.at W.x rfl (W.d hd) rfl hl r) k
theorem ldcI (W : Here G X M vm T h C S) {idx : Nat} {v : Int32} (w : (Jvm.Cond.constant M.y.cls idx v).before G.a0 G.Z = true) (hd : decode M.bytes pc = .ok (.ldc idx, 2)) (pc' : Nat) (hp : pc + 2 = pc') (k : Go G X M Q T pc' Ls (.int v :: st)) : Go G X M Q T pc Ls st := by
  subst hp
  obtain ⟨F', k0, locs, cells, slots, X1, e1, hS, hk, hZ, hown, -⟩ := id W
  exact Go.stp (fun t r => X1.ldcInt W.x hown (mv (s := X.s.setVm vm) hZ w) (g := mkF X.m pc Ls st) rfl (W.d hd) t r) k
theorem ldc2 (W : Here G X M vm T h C S) {idx : Nat} {v : Int64} (w : (Jvm.Cond.constantLong M.y.cls idx v).before G.a0 G.Z = true) (hd : decode M.bytes pc = .ok (.ldc2_w idx, 3)) (pc' : Nat) (hp : pc + 3 = pc') (k : Go G X M Q T pc' Ls (.long v :: st)) : Go G X M Q T pc Ls st := by
  subst hp
  obtain ⟨F', k0, locs, cells, slots, X1, e1, hS, hk, hZ, hown, -⟩ := id W
  exact Go.stp (fun t r => X1.ldc2Long W.x hown (mv (s := X.s.setVm vm) hZ w) (g := mkF X.m pc Ls st) rfl (W.d hd) t r) k
/-! ### String constants -/
theorem ldcR (W : Here G X M vm T h C S) {idx : Nat} {text : String} (w : (Jvm.Cond.stringLink M.y.cls idx text).before G.a0 G.Z = true) (wS : ∀ a ∈ Bundle.stringAtoms, a.before G.a0 G.Z = true) (hmem : (M.y.cls, idx) ∈ G.EL) {vs : List Value} {z : Int32} (ht : (∀ c ∈ text.toList, c.toNat < 256) ∧ text.toList.map (fun c => Value.int (Jvm.Lit.byteI c.toNat.toUInt16)) = vs) (hz : ¬ z < 0) (hl : z.toNatClampNeg = vs.length)
    (hd : decode M.bytes pc = .ok (.ldc idx, 2)) (pc' : Nat) (hp : pc + 2 = pc') (n : Nat) (hn : 4 * text.toList.length ≤ n) (hbig : n ≤ 536870912) (C' S' : Nat) (hc : C + 2 ≤ C') (hs : S + (n + 4) ≤ S') (hc' : C' ≤ M.R.cells) (hs' : S' ≤ M.R.slots)
    (k : ∀ (vm' : Vm) (T' : State) (h' : Heap) (a b : Addr) (kb : ClassId), Here G X M vm' T' h' C' S' → CHr G.Z G.EL vm h vm' h' → Ext h h' → Exa G.Z h' a "java/lang/String" → Fld G.Z h' a "java/lang/String" "coder" "B" (.int 0) → Fld G.Z h' a "java/lang/String" "value" "[B" (.ref b) → Arv G.Z h' b kb .byte z vs (.int 0) → (∀ x, Safe G.Z G.EL vm' h' x → x ≠ a ∧ x ≠ b) → Go G X M Q T' pc' Ls (.ref a :: st)) : Go G X M Q T pc Ls st := by
  subst hp
  obtain ⟨F', k0, locs, cells, slots, X1, e1, hS, hk, hZ, hown, hCH, hF, O', c1, s1⟩ := id W
  obtain ⟨a, T', h', k1, b, kb, X', e', E, hS', hk', hZ', ho', f1, f2, f3, f4, -, -, r1, -, r2, st'⟩ := ldcCH X1 W.x hZ hown w wS e1 hS hk F'.2.2.2.2.2.2 hmem hCH.1 ht hz hl (g := mkF X.m pc Ls st) rfl (W.d hd) hn hbig (by omega) (by omega)
  exact Go.stp (fun t r => st' t r) (k T'.vm T' h' a b kb ⟨F', k1, locs, _, _, X', e', hS', hk', hZ', ho', hCH.trans r1, hF, O'.ext E, by omega, by omega⟩ r1 E f1 f2 f3 f4 r2)
theorem ldcO (W : Here G X M vm T h C S) {idx : Nat} {text : String} (w : (Jvm.Cond.stringLink M.y.cls idx text).before G.a0 G.Z = true) (wS : ∀ a ∈ Bundle.stringAtoms, a.before G.a0 G.Z = true)
    (hd : decode M.bytes pc = .ok (.ldc idx, 2)) (pc' : Nat) (hp : pc + 2 = pc') (n : Nat) (hn : 4 * text.toList.length ≤ n) (hbig : n ≤ 536870912) (C' S' : Nat) (hc : C + 2 ≤ C') (hs : S + (n + 4) ≤ S') (hc' : C' ≤ M.R.cells) (hs' : S' ≤ M.R.slots)
    (k : ∀ (vm' : Vm) (T' : State) (h' : Heap) (a : Addr), Here G X M vm' T' h' C' S' → CHr G.Z G.EL vm h vm' h' → Ext h h' → Go G X M Q T' pc' Ls (.ref a :: st)) : Go G X M Q T pc Ls st := by
  subst hp
  obtain ⟨F', k0, locs, cells, slots, X1, e1, hS, hk, hZ, hown, hCH, hF, O', c1, s1⟩ := id W
  obtain ⟨a, T', h', k1, X', e', E, hS', hk', hZ', ho', r1, -, st'⟩ := ldcOH X1 W.x hZ hown w wS e1 hS hk F'.2.2.2.2.2.2 hCH.1 (g := mkF X.m pc Ls st) rfl (W.d hd) hn hbig (by omega) (by omega)
  exact Go.stp (fun t r => st' t r) (k T'.vm T' h' a ⟨F', k1, locs, _, _, X', e', hS', hk', hZ', ho', hCH.trans r1, hF, O'.ext E, by omega, by omega⟩ r1 E)
end Kit2
end Own
end Jvm.Pilot.@@N@@
namespace Jvm.Pilot.@@N@@
namespace Own
open Jvm Jvm.ClassFile Sem Op Lib Jvm.Free Jvm.Stand Jvm.LawKit Jvm.RoadKit
abbrev ST : String := "java/lang/String"
/-- a String that spells the chars cs, each 0 to 255 -/
def Str (Z : State) (h : Heap) (a : Addr) (cs : List Int32) : Prop := Exa Z h a ST ∧ Fld Z h a ST "coder" "B" (.int 0) ∧ (∀ c ∈ cs, ¬ c < 0 ∧ ¬ (255 : Int32) < c) ∧ cs.length ≤ 4000 ∧
  ∃ (b : Addr) (kb : ClassId), Fld Z h a ST "value" "[B" (.ref b) ∧ Arv Z h b kb .byte (Int32.ofNat cs.length) ((cs.map fun c => c.toInt8.toInt32).map Value.int) (.int 0)
theorem Str.ext {Z : State} {h h' : Heap} {a : Addr} {cs : List Int32} (F : Str Z h a cs) (E : Ext h h') : Str Z h' a cs := by
  obtain ⟨h1, h2, h3, h4, b, kb, h5, h6⟩ := F
  exact ⟨h1.ext E, h2.ext E, h3, h4, b, kb, h5.ext E, h6.ext E⟩
theorem Str.lt {Z : State} {h : Heap} {a : Addr} {cs : List Int32} (F : Str Z h a cs) : a < h.size := F.1.lt
theorem Str.exa {Z : State} {h : Heap} {a : Addr} {cs : List Int32} (F : Str Z h a cs) : Exa Z h a ST := F.1
/-- over a change of other objects, none of them a String or a byte[] -/
theorem Str.keep {Z : State} {h h' : Heap} {a : Addr} {cs : List Int32} {ws : List Addr} (F : Str Z h a cs) (K : Keep h h' ws) (ha : a ∉ ws) (hb : ∀ x ∈ ws, ∀ (cl : Cell), ¬ Arr Z h x cl .byte) : Str Z h' a cs := by
  obtain ⟨h1, h2, h3, h4, b, kb, h5, h6⟩ := F
  refine ⟨h1.keep K, h2.keep K ha, h3, h4, b, kb, h5.keep K ha, h6.keep K fun q => ?_⟩
  obtain ⟨cl, A, -⟩ := h6
  exact hb b q cl A
theorem codS {cs : List Int32} (hb : ∀ c ∈ cs, ¬ c < 0 ∧ ¬ (255 : Int32) < c) : StrChars.Road.CodA cs 0 (Int32.ofNat cs.length) ((cs.map fun c => c.toInt8.toInt32).map Value.int) :=
  Or.inl ⟨rfl, rfl, by rw [List.map_map]; rfl, fun c hc => (hb c hc).2⟩
theorem wide16 {cs : List Int32} (hb : ∀ c ∈ cs, ¬ c < 0 ∧ ¬ (255 : Int32) < c) : ∀ c ∈ cs, ¬ c < 0 ∧ ¬ (65535 : Int32) < c := fun c hc => ⟨(hb c hc).1, fun q => (hb c hc).2 (Int32.lt_trans (by decide) q)⟩
/-- the words of a String constant's load, and of the empty road of new String(char[]) -/
abbrev wordsS : List Jvm.Cond := StrChars.Road.words ++ [.initialized ST, .instantiable ST 4, .soleField ST "value", .soleField ST "coder", .stringLink ST 7 ""]
section Kit3
variable {G : Gl} {X : Rn} {M : Bo} {vm : Vm} {T : State} {h : Heap} {C S : Nat} {Q : Option Value → Heap → Prop} {pc pc' : Nat} {Ls Ls' : Array Slot} {st : List Value}
theorem sAtoms (hw : ∀ d ∈ wordsS, d.before G.a0 G.Z = true) : ∀ a ∈ Bundle.stringAtoms, a.before G.a0 G.Z = true := fun d hd => hw d ((by decide +kernel : ∀ d ∈ Bundle.stringAtoms, d ∈ wordsS) d hd)
theorem w1 (hw : ∀ d ∈ wordsS, d.before G.a0 G.Z = true) (d : Jvm.Cond) (hd : d ∈ wordsS := by decide +kernel) : d.before G.a0 G.Z = true := hw d hd
abbrev bNew4 : Bo := (StrChars.New4.yN, StrChars.New4.yB, 6, none, ({ frames := 1, cells := 4, slots := 8, locals := 12 } : Room))
abbrev bNew1 : Bo := (StrChars.New1.yN, StrChars.New1.yB, 2, none, ({ frames := 2, cells := 4, slots := 8, locals := 29 } : Room))
theorem e4_8 : decode StrChars.New4.yB 8 = .ok (.aload_n 0, 1) := by decide +kernel
theorem e4_9 : decode StrChars.New4.yB 9 = .ok (.ldc 7, 2) := by decide +kernel
theorem e4_11 : decode StrChars.New4.yB 11 = .ok (.getfield 9, 3) := by decide +kernel
theorem e4_14 : decode StrChars.New4.yB 14 = .ok (.putfield 9, 3) := by decide +kernel
theorem e4_17 : decode StrChars.New4.yB 17 = .ok (.aload_n 0, 1) := by decide +kernel
theorem e4_18 : decode StrChars.New4.yB 18 = .ok (.ldc 7, 2) := by decide +kernel
theorem e4_20 : decode StrChars.New4.yB 20 = .ok (.getfield 15, 3) := by decide +kernel
theorem e4_23 : decode StrChars.New4.yB 23 = .ok (.putfield 15, 3) := by decide +kernel
theorem e4_26 : decode StrChars.New4.yB 26 = .ok (.return_, 1) := by decide +kernel
theorem pnST : plainName "java/lang/String" = true := by first | (simp [plainName, overriddenIn]; done) | decide +kernel
theorem pd4 : parseMethodDescriptor "([CIILjava/lang/Void;)V" = some ⟨[.array .char, .int, .int, .object "java/lang/Void"], none⟩ := by decide +kernel
theorem pd1 : parseMethodDescriptor "([C)V" = some ⟨[.array .char], none⟩ := by decide +kernel
theorem ef4 (m : MethodId) (x b : Addr) : entryFrame m #[.ref x, .ref b, .int 0, .int 0, .null] 6 = mkF m 0 #[.val (.ref x), .val (.ref b), .val (.int 0), .val (.int 0), .val .null, .unset] [] := by first | (simp [entryFrame, mkF, argsToLocals, Value.category]; done) | rfl
theorem ef1 (m : MethodId) (x b : Addr) : entryFrame m #[.ref x, .ref b] 2 = mkF m 0 #[.val (.ref x), .val (.ref b)] [] := by first | (simp [entryFrame, mkF, argsToLocals, Value.category]; done) | rfl
set_option maxRecDepth 65536 in
set_option maxHeartbeats 4000000 in
theorem con_new4e (hw : ∀ d ∈ wordsS, d.before G.a0 G.Z = true) (hEL : EW G.Z G.a0 G.EL) (hmem : (ST, 7) ∈ G.EL) {x b : Addr} {v0 c0 : Value} (hO : Old G.Z G.n0 h) (hx0 : G.n0 ≤ x) (E : Exa G.Z h x ST) (V : Fld G.Z h x ST "value" "[B" v0) (Cd : Fld G.Z h x ST "coder" "B" c0) :
    Con G [] bNew4 #[.ref x, .ref b, .int 0, .int 0, .null] h [x] (fun v h' => v = none ∧ Keep h h' [x] ∧ Str G.Z h' x []) := by
  refine Con.intro (plainFor_of_name pnST) hO hEL _ (fun m => ef4 m x b) ?_
  intro X T W sf
  have sx := sf x (List.mem_singleton.mpr rfl)
  have wS := sAtoms hw
  refine aloadN W StrChars.New4.d0 1 rfl _ rfl rfl ?_
  refine initO W (w1 hw (.methodLink ST 1 Lib.objectInit)) (w1 hw (.instanceMethod Lib.objectInit)) (w1 hw (.code Lib.objectInit ⟨#[0xb1]⟩ 1 none)) rfl StrChars.New4.d1 4 rfl (by decide) (by decide) ?_
  intro T1 W1
  refine iloadN W1 StrChars.New4.d4 5 rfl _ rfl ?_
  refine ifNo W1 StrChars.New4.d5 8 (by decide) rfl ?_
  refine aloadN W1 e4_8 9 rfl _ rfl rfl ?_
  refine ldcR W1 (w1 hw (.stringLink ST 7 "")) wS hmem (vs := []) (z := 0) ⟨by decide, by decide⟩ (by decide) (by decide) e4_9 11 rfl 0 (by decide) (by decide) 2 4 (by decide) (by decide) (by decide) (by decide) ?_
  intro vm2 T2 h2 a2 b2 kb2 W2 R2 E2 fa fc fv fb hne
  have sx2 : Safe G.Z G.EL vm2 h2 x := R2.safe E.lt sx
  have ne2 := hne x sx2
  refine getF W2 (w1 hw (.fieldLink ST 9 ST "value" "[B")) Via.refl fv e4_11 14 rfl ?_
  intro T3 W3
  refine putF W3 (w1 hw (.fieldLink ST 9 ST "value" "[B")) Via.refl (V.ext E2) (E.ext E2) (Or.inr ⟨w1 hw (.laysFinal ST ST "value" "[B"), rfl, rfl⟩) (w1 hw (.instantiable ST 4)) (ty := .array .byte) (by decide) rfl rfl hx0 sx2 e4_14 17 rfl ?_
  intro T4 h4 W4 Wr4 k4
  refine aloadN W4 e4_17 18 rfl _ rfl rfl ?_
  refine ldcR W4 (w1 hw (.stringLink ST 7 "")) wS hmem (vs := []) (z := 0) ⟨by decide, by decide⟩ (by decide) (by decide) e4_18 20 rfl 0 (by decide) (by decide) 4 8 (by decide) (by decide) (by decide) (by decide) ?_
  intro vm5 T5 h5 a5 b5 kb5 W5 R5 E5 ga gc gv gb hne5
  have x4 : x < h4.size := by rw [Wr4.size]; exact (E.ext E2).lt
  have sx4 : Safe G.Z G.EL vm2 h4 x := k4 x sx2
  have sx5 : Safe G.Z G.EL vm5 h5 x := R5.safe x4 sx4
  refine getF W5 (w1 hw (.fieldLink ST 15 ST "coder" "B")) Via.refl gc e4_20 23 rfl ?_
  intro T6 W6
  have Ex5 : Exa G.Z h5 x ST := ((E.ext E2).wr Wr4).ext E5
  have sne : RoadKit.slotOf G.Z ST "coder" "B" ≠ RoadKit.slotOf G.Z ST "value" "[B" := slot_ne (Or.inr (w1 hw (.laysFinal ST ST "coder" "B"))) (Or.inr (w1 hw (.laysFinal ST ST "value" "[B"))) (by decide) (t := .byte) (t' := .array .byte) (by decide) (by decide)
  have Cd5 : Fld G.Z h5 x ST "coder" "B" c0 := ((Cd.ext E2).other Wr4 (Or.inr sne)).ext E5
  have V5 : Fld G.Z h5 x ST "value" "[B" (.ref b2) := ((V.ext E2).same Wr4).ext E5
  have B5 : Arv G.Z h5 b2 kb2 .byte 0 [] (.int 0) := (fb.other Wr4 (Ne.symm ne2.2)).ext E5
  refine putF W6 (w1 hw (.fieldLink ST 15 ST "coder" "B")) Via.refl Cd5 Ex5 (Or.inr ⟨w1 hw (.laysFinal ST ST "coder" "B"), rfl, rfl⟩) (w1 hw (.instantiable ST 4)) (ty := .byte) (v' := .int 0) (by decide) rfl rfl hx0 sx5 e4_23 26 rfl ?_
  intro T7 h7 W7 Wr7 _
  refine retV W7 (by decide) (by decide) rfl e4_26 ⟨rfl, ?_, ?_⟩
  · exact ((((Keep.refl h [x]).ext E2).wr Wr4 (Or.inl (List.mem_singleton.mpr rfl))).ext E5).wr Wr7 (Or.inl (List.mem_singleton.mpr rfl))
  · have nb : b2 ≠ x := Ne.symm ne2.2
    exact ⟨Ex5.wr Wr7, Cd5.same Wr7, by simp, by simp, b2, kb2, V5.other Wr7 (Or.inr (Ne.symm sne)), B5.other Wr7 nb⟩
set_option maxRecDepth 65536 in
set_option maxHeartbeats 4000000 in
theorem con_new1e (hw : ∀ d ∈ wordsS, d.before G.a0 G.Z = true) (hEL : EW G.Z G.a0 G.EL) (hmem : (ST, 7) ∈ G.EL) {x b : Addr} {kC : ClassId} {v0 c0 dv : Value} {vs : List Value} (hO : Old G.Z G.n0 h) (hx0 : G.n0 ≤ x) (E : Exa G.Z h x ST) (V : Fld G.Z h x ST "value" "[B" v0) (Cd : Fld G.Z h x ST "coder" "B" c0) (A : Arv G.Z h b kC .char 0 vs dv) :
    Con G [] bNew1 #[.ref x, .ref b] h [x] (fun v h' => v = none ∧ Keep h h' [x] ∧ Str G.Z h' x []) := by
  refine Con.intro (plainFor_of_name pnST) hO hEL _ (fun m => ef1 m x b) ?_
  intro X T W sf
  have sx := sf x (List.mem_singleton.mpr rfl)
  refine aloadN W StrChars.New1.d0 1 rfl _ rfl rfl ?_
  refine aloadN W StrChars.New1.d1 2 rfl _ rfl rfl ?_
  refine iconst W StrChars.New1.d2 3 rfl 0 rfl ?_
  refine aloadN W StrChars.New1.d3 4 rfl _ rfl rfl ?_
  refine arrlen W A StrChars.New1.d4 5 rfl ?_
  refine aconstNull W StrChars.New1.d5 6 rfl ?_
  refine callX W (y := StrChars.New4.yN) rfl (w1 hw (.methodLink ST 27 StrChars.New4.yN)) (w1 hw (.instanceMethod StrChars.New4.yN)) (w1 hw (.code StrChars.New4.yN StrChars.New4.yB 6 none)) (by decide) (argsL := [.ref b, .int 0, .int 0, .null]) (rest := [])
    (Con.pay (con_new4e hw hEL hmem hO hx0 E V Cd) W (w1 hw (.code StrChars.New4.yN StrChars.New4.yB 6 none)) (w1 hw (.initialized ST)) (len := 3) (wd := 0) (by decide) (by decide) (fun y hy => by cases List.mem_singleton.mp hy; exact ⟨E.lt, sx⟩)) rfl (lenOf pd4 rfl) rfl (by decide) StrChars.New1.d6 9 rfl 4 8 (by decide) (by decide) (by decide) (by decide) ?_
  intro vm1 T1 h1 v W1 R1 hq
  obtain ⟨rfl, K, F⟩ := hq
  exact retV W1 (by decide) (by decide) rfl StrChars.New1.d9 ⟨rfl, K, F⟩
/-- **new String(char[]) AT ITS CALL**: x the fresh String, b the char[] that holds cs -/
theorem payStr (hw : ∀ d ∈ wordsS, d.before G.a0 G.Z = true) (hEL : EW G.Z G.a0 G.EL) (hmem : (ST, 7) ∈ G.EL) (W : Here G X M vm T h C S) {x b : Addr} {kC : ClassId} {v0 c0 dv : Value} {cs : List Int32} {z cz : Int32} (hx0 : G.n0 ≤ x) (sx : Safe G.Z G.EL vm h x) (E : Exa G.Z h x ST) (V : Fld G.Z h x ST "value" "[B" v0) (Cd : Fld G.Z h x ST "coder" "B" c0)
    (A : Arv G.Z h b kC .char z (cs.map Value.int) dv) (hz : z = Int32.ofNat cs.length) (hcs : ∀ c ∈ cs, ¬ c < 0 ∧ ¬ (255 : Int32) < c) (hl : cs.length ≤ 4000) (hS : Sta G.Z G.Z.heap ST "COMPACT_STRINGS" "Z" (.int cz)) (hcz : ¬ cz = 0) {len wd : Nat} (hf : 4 ≤ M.R.frames) (hlo : wd + 65 ≤ M.R.locals) :
    Pay G X M vm h StrChars.New1.yN len wd #[.ref x, .ref b] 4 (8 + cs.length) (fun v h' => v = none ∧ Keep h h' [x] ∧ Str G.Z h' x cs) := by
  have hO := W.old
  subst hz
  match cs, A, hcs, hl with
  | [], A, _, _ =>
    exact Con.pay (con_new1e hw hEL hmem hO hx0 E V Cd A) W (w1 hw (.code StrChars.New1.yN StrChars.New1.yB 2 none)) (w1 hw (.initialized ST)) (by show 2 + 1 ≤ _; omega) (by show wd + (2 + 11) + 29 ≤ _; omega) (fun y hy => by cases List.mem_singleton.mp hy; exact ⟨E.lt, sx⟩)
  | c :: cs, A, hcs, hl =>
    have B := StrChars.Road.backV (p := X.p) (l := G.l) (e := X.e) (R := M.R) (s := X.s.setVm vm) (args := X.args) (below := X.below) (len := len) (W := wd) (Z := G.Z) (a0 := G.a0) W.wz (fun d hd => hw d (List.mem_append_left _ hd)) (kI := 4) (w1 hw (.instantiable ST 4)) hx0 W.n0 E V Cd A (W.sta hS) hcz (n := (c :: cs).length) rfl rfl (by simp) hl hcs rfl hf hlo
    have P := payB (Q' := fun v h' => v = none ∧ Keep h h' [x] ∧ Str G.Z h' x (c :: cs)) B W (fun v h' L q => by
      obtain ⟨q1, q2, q3, q4, q5, t, kb, q6, q7, q8, q9, q10⟩ := q
      have ks : ∀ y ∈ [x], Safe G.Z G.EL vm h y := fun y hy => by cases List.mem_singleton.mp hy; exact sx
      exact ⟨⟨q1, q3, q4, q5, hcs, hl, t, kb, q9, q10⟩, q2, hO.keep q3 (fun y hy => by cases List.mem_singleton.mp hy; exact hx0), CHr.keep q3 ks W.ch⟩)
    intro m meth c' A' g ig mk a X1 hg hsize hdg hW hn hp
    obtain ⟨v, B', r1, r2, r3, ⟨L, r4, r5, r6, r7, r8⟩, r9⟩ := P m meth c' A' g ig mk a X1 hg hsize hdg hW hn ⟨hp.1, hp.2.1, by have := hp.2.2.1; omega, by have := hp.2.2.2; omega⟩
    exact ⟨v, B', r1, r2, r3, ⟨L, r4, r5, by omega, by omega, r8⟩, r9⟩
end Kit3
/-! ### chars -/
def chr (x : Int32) : Int32 := x.toUInt32.toUInt16.toUInt32.toInt32
def us (x k : Int32) : Int32 := (x.toUInt32 >>> (k &&& 31).toUInt32).toInt32
/-- the low eight bits, as a char -/
def lo (x : Int32) : Int32 := chr (x &&& 255)
theorem chr_id {x : Int32} (h0 : 0 ≤ x.toInt) (h1 : x.toInt < 65536) : chr x = x := Int32.toInt_inj.mp (by
  have q := c_i2c x
  unfold chr
  omega)
theorem and255 (x : Int32) : 0 ≤ (x &&& 255).toInt ∧ (x &&& 255).toInt ≤ 255 := c_and x 255 (by decide)
theorem lo_eq (x : Int32) : lo x = x &&& 255 := chr_id (and255 x).1 (by have := (and255 x).2; omega)
theorem lo_rng (x : Int32) : ¬ lo x < 0 ∧ ¬ (255 : Int32) < lo x := by
  rw [lo_eq, Int32.lt_iff_toInt_lt, Int32.lt_iff_toInt_lt]
  have q := and255 x
  have e1 : (0 : Int32).toInt = 0 := by decide
  have e2 : (255 : Int32).toInt = 255 := by decide
  rw [e1, e2]; omega
theorem nar_of {c : Int32} (q : ¬ c < 0 ∧ ¬ (255 : Int32) < c) : nar .char c = c := by
  rw [Int32.lt_iff_toInt_lt, Int32.lt_iff_toInt_lt] at q
  have e1 : (0 : Int32).toInt = 0 := by decide
  have e2 : (255 : Int32).toInt = 255 := by decide
  rw [e1, e2] at q
  show chr c = c
  exact chr_id (by omega) (by omega)
theorem nar_b8 (x : Int32) : nar .byte x.toInt8.toInt32 = x.toInt8.toInt32 := by
  show (x.toInt8.toInt32).toInt8.toInt32 = x.toInt8.toInt32
  simp
theorem nar_lo (x : Int32) : nar .char (lo x) = lo x := by
  show chr (lo x) = lo x
  rw [lo_eq]; exact chr_id (and255 x).1 (by have := (and255 x).2; omega)
end Own
end Jvm.Pilot.@@N@@
namespace Jvm.Pilot.@@N@@
namespace Own
open Jvm Jvm.ClassFile Sem Op Lib Jvm.Free Jvm.Stand Jvm.LawKit Jvm.RoadKit
theorem payLen {G : Gl} {X : Rn} {M : Bo} {vm : Vm} {T : State} {h : Heap} {C S : Nat} {cs : List Int32} {x : Addr} {cz : Int32} (hwE : ∀ d ∈ StrChars.Road.wordsLen, d.before G.a0 G.Z = true) {kI : Nat} (wi : (Jvm.Cond.instantiable ST kI).before G.a0 G.Z = true) (W : Here G X M vm T h C S) (F : Str G.Z h x cs)
    (hS : Sta G.Z G.Z.heap ST "COMPACT_STRINGS" "Z" (.int cz)) (hcz : ¬ cz = 0) {len wd : Nat} (hf : 2 ≤ M.R.frames) (hlo : wd + 25 ≤ M.R.locals) :
    Pay G X M vm h ⟨"java/lang/String", "length", "()I"⟩ len wd #[.ref x] 0 0 (fun v h' => v = some (.int (Int32.ofNat cs.length)) ∧ h' = h) := by
  obtain ⟨h1, h2, h3, h4, b, kb, h5, h6⟩ := F
  exact payB (Qy := fun v h' L => v = some (.int (Int32.ofNat cs.length)) ∧ L = [] ∧ h' = h) (StrChars.Road.lenW (p := X.p) (l := G.l) (e := X.e) (R := M.R) (s := X.s.setVm vm) (args := X.args) (below := X.below) (len := len) (W := wd) W.wz hwE wi h1 h5 h2 h6 (codS h3) (wide16 h3) (W.sta hS) hcz h4 hf hlo) W (fun v h' L q => by
    obtain ⟨q1, rfl, q3⟩ := q
    subst q3
    exact ⟨⟨q1, rfl⟩, Fr.nil _, W.old, CHr.refl W.ch⟩)
end Own
end Jvm.Pilot.@@N@@
namespace Jvm.Pilot.@@N@@
open Jvm Jvm.ClassFile Sem Op Lib Jvm.Free Jvm.Stand Jvm.LawKit Jvm.RoadKit Bundle Jvm.Pilot.@@N@@.Jvm.D
theorem tw {G : Own.Gl} (hw : ∀ d ∈ tables_1, d.before G.a0 G.Z = true) (i : Nat) {d : Jvm.Cond} (h : tables_1[i]? = some d) : d.before G.a0 G.Z = true := hw d (List.mem_of_getElem? h)
theorem wS_in : ∀ d ∈ Own.wordsS, d ∈ tables_1 := by decide +kernel
theorem wS {G : Own.Gl} (hw : ∀ d ∈ tables_1, d.before G.a0 G.Z = true) : ∀ d ∈ Own.wordsS, d.before G.a0 G.Z = true := fun d hd => hw d (wS_in d hd)
theorem wL_in : ∀ d ∈ StrChars.Road.wordsLen, d ∈ tables_1 := by decide +kernel
theorem wL {G : Own.Gl} (hw : ∀ d ∈ tables_1, d.before G.a0 G.Z = true) : ∀ d ∈ StrChars.Road.wordsLen, d.before G.a0 G.Z = true := fun d hd => hw d (wL_in d hd)
theorem d1_0 : decode method_3_code 0 = .ok (.iload_n 0, 1) := by decide +kernel
theorem d1_1 : decode method_3_code 1 = .ok (.ifCond .ne 5, 3) := by decide +kernel
theorem d1_4 : decode method_3_code 4 = .ok (.iload_n 1, 1) := by decide +kernel
theorem d1_5 : decode method_3_code 5 = .ok (.ireturn, 1) := by decide +kernel
theorem d1_6 : decode method_3_code 6 = .ok (.iload_n 0, 1) := by decide +kernel
theorem d1_7 : decode method_3_code 7 = .ok (.iconst 1, 1) := by decide +kernel
theorem d1_8 : decode method_3_code 8 = .ok (.if_icmp .ne 8, 3) := by decide +kernel
theorem d1_11 : decode method_3_code 11 = .ok (.iload_n 1, 1) := by decide +kernel
theorem d1_12 : decode method_3_code 12 = .ok (.bipush 32, 2) := by decide +kernel
theorem d1_14 : decode method_3_code 14 = .ok (.ixor, 1) := by decide +kernel
theorem d1_15 : decode method_3_code 15 = .ok (.ireturn, 1) := by decide +kernel
theorem d1_16 : decode method_3_code 16 = .ok (.iload_n 2, 1) := by decide +kernel
theorem d1_17 : decode method_3_code 17 = .ok (.ireturn, 1) := by decide +kernel
theorem d2_0 : decode method_5_code 0 = .ok (.iload_n 0, 1) := by decide +kernel
theorem d2_1 : decode method_5_code 1 = .ok (.ifCond .ne 14, 3) := by decide +kernel
theorem d2_4 : decode method_5_code 4 = .ok (.new 30, 3) := by decide +kernel
theorem d2_7 : decode method_5_code 7 = .ok (.dup, 1) := by decide +kernel
theorem d2_8 : decode method_5_code 8 = .ok (.iconst 0, 1) := by decide +kernel
theorem d2_9 : decode method_5_code 9 = .ok (.newarray .char, 2) := by decide +kernel
theorem d2_11 : decode method_5_code 11 = .ok (.invokespecial 32, 3) := by decide +kernel
theorem d2_14 : decode method_5_code 14 = .ok (.areturn, 1) := by decide +kernel
theorem d2_15 : decode method_5_code 15 = .ok (.iload_n 0, 1) := by decide +kernel
theorem d2_16 : decode method_5_code 16 = .ok (.iconst 1, 1) := by decide +kernel
theorem d2_17 : decode method_5_code 17 = .ok (.if_icmp .ne 24, 3) := by decide +kernel
theorem d2_20 : decode method_5_code 20 = .ok (.iconst 1, 1) := by decide +kernel
theorem d2_21 : decode method_5_code 21 = .ok (.newarray .char, 2) := by decide +kernel
theorem d2_23 : decode method_5_code 23 = .ok (.astore 4, 2) := by decide +kernel
theorem d2_25 : decode method_5_code 25 = .ok (.aload 4, 2) := by decide +kernel
theorem d2_27 : decode method_5_code 27 = .ok (.iconst 0, 1) := by decide +kernel
theorem d2_28 : decode method_5_code 28 = .ok (.iload_n 1, 1) := by decide +kernel
theorem d2_29 : decode method_5_code 29 = .ok (.i2c, 1) := by decide +kernel
theorem d2_30 : decode method_5_code 30 = .ok (.castore, 1) := by decide +kernel
theorem d2_31 : decode method_5_code 31 = .ok (.new 30, 3) := by decide +kernel
theorem d2_34 : decode method_5_code 34 = .ok (.dup, 1) := by decide +kernel
theorem d2_35 : decode method_5_code 35 = .ok (.aload 4, 2) := by decide +kernel
theorem d2_37 : decode method_5_code 37 = .ok (.invokespecial 32, 3) := by decide +kernel
theorem d2_40 : decode method_5_code 40 = .ok (.areturn, 1) := by decide +kernel
theorem d2_41 : decode method_5_code 41 = .ok (.iload_n 0, 1) := by decide +kernel
theorem d2_42 : decode method_5_code 42 = .ok (.iconst 2, 1) := by decide +kernel
theorem d2_43 : decode method_5_code 43 = .ok (.if_icmp .ne 30, 3) := by decide +kernel
theorem d2_46 : decode method_5_code 46 = .ok (.iconst 2, 1) := by decide +kernel
theorem d2_47 : decode method_5_code 47 = .ok (.newarray .char, 2) := by decide +kernel
theorem d2_49 : decode method_5_code 49 = .ok (.astore 4, 2) := by decide +kernel
theorem d2_51 : decode method_5_code 51 = .ok (.aload 4, 2) := by decide +kernel
theorem d2_53 : decode method_5_code 53 = .ok (.iconst 0, 1) := by decide +kernel
theorem d2_54 : decode method_5_code 54 = .ok (.iload_n 1, 1) := by decide +kernel
theorem d2_55 : decode method_5_code 55 = .ok (.i2c, 1) := by decide +kernel
theorem d2_56 : decode method_5_code 56 = .ok (.castore, 1) := by decide +kernel
theorem d2_57 : decode method_5_code 57 = .ok (.aload 4, 2) := by decide +kernel
theorem d2_59 : decode method_5_code 59 = .ok (.iconst 1, 1) := by decide +kernel
theorem d2_60 : decode method_5_code 60 = .ok (.iload_n 2, 1) := by decide +kernel
theorem d2_61 : decode method_5_code 61 = .ok (.i2c, 1) := by decide +kernel
theorem d2_62 : decode method_5_code 62 = .ok (.castore, 1) := by decide +kernel
theorem d2_63 : decode method_5_code 63 = .ok (.new 30, 3) := by decide +kernel
theorem d2_66 : decode method_5_code 66 = .ok (.dup, 1) := by decide +kernel
theorem d2_67 : decode method_5_code 67 = .ok (.aload 4, 2) := by decide +kernel
theorem d2_69 : decode method_5_code 69 = .ok (.invokespecial 32, 3) := by decide +kernel
theorem d2_72 : decode method_5_code 72 = .ok (.areturn, 1) := by decide +kernel
theorem d2_73 : decode method_5_code 73 = .ok (.iconst 3, 1) := by decide +kernel
theorem d2_74 : decode method_5_code 74 = .ok (.newarray .char, 2) := by decide +kernel
theorem d2_76 : decode method_5_code 76 = .ok (.astore 4, 2) := by decide +kernel
theorem d2_78 : decode method_5_code 78 = .ok (.aload 4, 2) := by decide +kernel
theorem d2_80 : decode method_5_code 80 = .ok (.iconst 0, 1) := by decide +kernel
theorem d2_81 : decode method_5_code 81 = .ok (.iload_n 1, 1) := by decide +kernel
theorem d2_82 : decode method_5_code 82 = .ok (.i2c, 1) := by decide +kernel
theorem d2_83 : decode method_5_code 83 = .ok (.castore, 1) := by decide +kernel
theorem d2_84 : decode method_5_code 84 = .ok (.aload 4, 2) := by decide +kernel
theorem d2_86 : decode method_5_code 86 = .ok (.iconst 1, 1) := by decide +kernel
theorem d2_87 : decode method_5_code 87 = .ok (.iload_n 2, 1) := by decide +kernel
theorem d2_88 : decode method_5_code 88 = .ok (.i2c, 1) := by decide +kernel
theorem d2_89 : decode method_5_code 89 = .ok (.castore, 1) := by decide +kernel
theorem d2_90 : decode method_5_code 90 = .ok (.aload 4, 2) := by decide +kernel
theorem d2_92 : decode method_5_code 92 = .ok (.iconst 2, 1) := by decide +kernel
theorem d2_93 : decode method_5_code 93 = .ok (.iload_n 3, 1) := by decide +kernel
theorem d2_94 : decode method_5_code 94 = .ok (.i2c, 1) := by decide +kernel
theorem d2_95 : decode method_5_code 95 = .ok (.castore, 1) := by decide +kernel
theorem d2_96 : decode method_5_code 96 = .ok (.new 30, 3) := by decide +kernel
theorem d2_99 : decode method_5_code 99 = .ok (.dup, 1) := by decide +kernel
theorem d2_100 : decode method_5_code 100 = .ok (.aload 4, 2) := by decide +kernel
theorem d2_102 : decode method_5_code 102 = .ok (.invokespecial 32, 3) := by decide +kernel
theorem d2_105 : decode method_5_code 105 = .ok (.areturn, 1) := by decide +kernel
theorem d9_0 : decode prog_19_method_1_code 0 = .ok (.aload_n 0, 1) := by decide +kernel
theorem d9_1 : decode prog_19_method_1_code 1 = .ok (.invokespecial 1, 3) := by decide +kernel
theorem d9_4 : decode prog_19_method_1_code 4 = .ok (.aload_n 0, 1) := by decide +kernel
theorem d9_5 : decode prog_19_method_1_code 5 = .ok (.aload_n 1, 1) := by decide +kernel
theorem d9_6 : decode prog_19_method_1_code 6 = .ok (.putfield 7, 3) := by decide +kernel
theorem d9_9 : decode prog_19_method_1_code 9 = .ok (.aload_n 0, 1) := by decide +kernel
theorem d9_10 : decode prog_19_method_1_code 10 = .ok (.iload_n 2, 1) := by decide +kernel
theorem d9_11 : decode prog_19_method_1_code 11 = .ok (.putfield 13, 3) := by decide +kernel
theorem d9_14 : decode prog_19_method_1_code 14 = .ok (.aload_n 0, 1) := by decide +kernel
theorem d9_15 : decode prog_19_method_1_code 15 = .ok (.lload_n 3, 1) := by decide +kernel
theorem d9_16 : decode prog_19_method_1_code 16 = .ok (.putfield 17, 3) := by decide +kernel
theorem d9_19 : decode prog_19_method_1_code 19 = .ok (.return_, 1) := by decide +kernel
theorem d10_0 : decode jdk_30_method_1_code 0 = .ok (.aload_n 0, 1) := by decide +kernel
theorem d10_1 : decode jdk_30_method_1_code 1 = .ok (.invokespecial 1, 3) := by decide +kernel
theorem d10_4 : decode jdk_30_method_1_code 4 = .ok (.return_, 1) := by decide +kernel
theorem d11_0 : decode prog_19_method_3_code 0 = .ok (.aload_n 0, 1) := by decide +kernel
theorem d11_1 : decode prog_19_method_3_code 1 = .ok (.getfield 13, 3) := by decide +kernel
theorem d11_4 : decode prog_19_method_3_code 4 = .ok (.ifCond .eq 18, 3) := by decide +kernel
theorem d11_7 : decode prog_19_method_3_code 7 = .ok (.aload_n 0, 1) := by decide +kernel
theorem d11_8 : decode prog_19_method_3_code 8 = .ok (.getfield 7, 3) := by decide +kernel
theorem d11_11 : decode prog_19_method_3_code 11 = .ok (.aload_n 1, 1) := by decide +kernel
theorem d11_12 : decode prog_19_method_3_code 12 = .ok (.invokevirtual 21, 3) := by decide +kernel
theorem d11_15 : decode prog_19_method_3_code 15 = .ok (.ifCond .eq 7, 3) := by decide +kernel
theorem d11_18 : decode prog_19_method_3_code 18 = .ok (.iconst 1, 1) := by decide +kernel
theorem d11_19 : decode prog_19_method_3_code 19 = .ok (.goto 4, 3) := by decide +kernel
theorem d11_22 : decode prog_19_method_3_code 22 = .ok (.iconst 0, 1) := by decide +kernel
theorem d11_23 : decode prog_19_method_3_code 23 = .ok (.ireturn, 1) := by decide +kernel
theorem d12_0 : decode method_4_code 0 = .ok (.iload_n 0, 1) := by decide +kernel
theorem d12_1 : decode method_4_code 1 = .ok (.bipush 65, 2) := by decide +kernel
theorem d12_3 : decode method_4_code 3 = .ok (.if_icmp .lt 14, 3) := by decide +kernel
theorem d12_6 : decode method_4_code 6 = .ok (.iload_n 0, 1) := by decide +kernel
theorem d12_7 : decode method_4_code 7 = .ok (.bipush 90, 2) := by decide +kernel
theorem d12_9 : decode method_4_code 9 = .ok (.if_icmp .gt 8, 3) := by decide +kernel
theorem d12_12 : decode method_4_code 12 = .ok (.iload_n 0, 1) := by decide +kernel
theorem d12_13 : decode method_4_code 13 = .ok (.bipush 32, 2) := by decide +kernel
theorem d12_15 : decode method_4_code 15 = .ok (.iadd, 1) := by decide +kernel
theorem d12_16 : decode method_4_code 16 = .ok (.ireturn, 1) := by decide +kernel
theorem d12_17 : decode method_4_code 17 = .ok (.iload_n 0, 1) := by decide +kernel
theorem d12_18 : decode method_4_code 18 = .ok (.sipush 192, 3) := by decide +kernel
theorem d12_21 : decode method_4_code 21 = .ok (.if_icmp .lt 22, 3) := by decide +kernel
theorem d12_24 : decode method_4_code 24 = .ok (.iload_n 0, 1) := by decide +kernel
theorem d12_25 : decode method_4_code 25 = .ok (.sipush 222, 3) := by decide +kernel
theorem d12_28 : decode method_4_code 28 = .ok (.if_icmp .gt 15, 3) := by decide +kernel
theorem d12_31 : decode method_4_code 31 = .ok (.iload_n 0, 1) := by decide +kernel
theorem d12_32 : decode method_4_code 32 = .ok (.sipush 215, 3) := by decide +kernel
theorem d12_35 : decode method_4_code 35 = .ok (.if_icmp .eq 8, 3) := by decide +kernel
theorem d12_38 : decode method_4_code 38 = .ok (.iload_n 0, 1) := by decide +kernel
theorem d12_39 : decode method_4_code 39 = .ok (.bipush 32, 2) := by decide +kernel
theorem d12_41 : decode method_4_code 41 = .ok (.iadd, 1) := by decide +kernel
theorem d12_42 : decode method_4_code 42 = .ok (.ireturn, 1) := by decide +kernel
theorem d12_43 : decode method_4_code 43 = .ok (.iload_n 0, 1) := by decide +kernel
theorem d12_44 : decode method_4_code 44 = .ok (.ireturn, 1) := by decide +kernel
theorem d13_0 : decode jdk_42_method_70_code 0 = .ok (.aload_n 0, 1) := by decide +kernel
theorem d13_1 : decode jdk_42_method_70_code 1 = .ok (.aload_n 1, 1) := by decide +kernel
theorem d13_2 : decode jdk_42_method_70_code 2 = .ok (.if_acmp .ne 7, 3) := by decide +kernel
theorem d13_9 : decode jdk_42_method_70_code 9 = .ok (.aload_n 1, 1) := by decide +kernel
theorem d13_10 : decode jdk_42_method_70_code 10 = .ok (.ifnull 33, 3) := by decide +kernel
theorem d13_13 : decode jdk_42_method_70_code 13 = .ok (.aload_n 1, 1) := by decide +kernel
theorem d13_14 : decode jdk_42_method_70_code 14 = .ok (.invokevirtual 505, 3) := by decide +kernel
theorem d13_17 : decode jdk_42_method_70_code 17 = .ok (.aload_n 0, 1) := by decide +kernel
theorem d13_18 : decode jdk_42_method_70_code 18 = .ok (.invokevirtual 505, 3) := by decide +kernel
theorem d13_21 : decode jdk_42_method_70_code 21 = .ok (.if_icmp .ne 22, 3) := by decide +kernel
theorem d13_24 : decode jdk_42_method_70_code 24 = .ok (.aload_n 0, 1) := by decide +kernel
theorem d13_25 : decode jdk_42_method_70_code 25 = .ok (.iconst 1, 1) := by decide +kernel
theorem d13_26 : decode jdk_42_method_70_code 26 = .ok (.iconst 0, 1) := by decide +kernel
theorem d13_27 : decode jdk_42_method_70_code 27 = .ok (.aload_n 1, 1) := by decide +kernel
theorem d13_28 : decode jdk_42_method_70_code 28 = .ok (.iconst 0, 1) := by decide +kernel
theorem d13_29 : decode jdk_42_method_70_code 29 = .ok (.aload_n 0, 1) := by decide +kernel
theorem d13_30 : decode jdk_42_method_70_code 30 = .ok (.invokevirtual 505, 3) := by decide +kernel
theorem d13_33 : decode jdk_42_method_70_code 33 = .ok (.invokevirtual 582, 3) := by decide +kernel
theorem d13_36 : decode jdk_42_method_70_code 36 = .ok (.ifCond .eq 7, 3) := by decide +kernel
theorem d13_39 : decode jdk_42_method_70_code 39 = .ok (.iconst 1, 1) := by decide +kernel
theorem d13_40 : decode jdk_42_method_70_code 40 = .ok (.goto 4, 3) := by decide +kernel
theorem d13_43 : decode jdk_42_method_70_code 43 = .ok (.iconst 0, 1) := by decide +kernel
theorem d13_44 : decode jdk_42_method_70_code 44 = .ok (.ireturn, 1) := by decide +kernel
theorem d15_0 : decode jdk_42_method_152_code 0 = .ok (.getstatic 38, 3) := by decide +kernel
theorem d15_3 : decode jdk_42_method_152_code 3 = .ok (.ifCond .eq 10, 3) := by decide +kernel
theorem d15_6 : decode jdk_42_method_152_code 6 = .ok (.aload_n 0, 1) := by decide +kernel
theorem d15_7 : decode jdk_42_method_152_code 7 = .ok (.getfield 15, 3) := by decide +kernel
theorem d15_10 : decode jdk_42_method_152_code 10 = .ok (.goto 4, 3) := by decide +kernel
theorem d15_14 : decode jdk_42_method_152_code 14 = .ok (.ireturn, 1) := by decide +kernel
theorem d16_0 : decode jdk_42_method_74_code 0 = .ok (.iload_n 1, 1) := by decide +kernel
theorem d16_1 : decode jdk_42_method_74_code 1 = .ok (.ifCond .ne 14, 3) := by decide +kernel
theorem d16_15 : decode jdk_42_method_74_code 15 = .ok (.iload 4, 2) := by decide +kernel
theorem d16_17 : decode jdk_42_method_74_code 17 = .ok (.ifCond .lt 38, 3) := by decide +kernel
theorem d16_20 : decode jdk_42_method_74_code 20 = .ok (.iload_n 2, 1) := by decide +kernel
theorem d16_21 : decode jdk_42_method_74_code 21 = .ok (.ifCond .lt 34, 3) := by decide +kernel
theorem d16_24 : decode jdk_42_method_74_code 24 = .ok (.iload_n 2, 1) := by decide +kernel
theorem d16_25 : decode jdk_42_method_74_code 25 = .ok (.i2l, 1) := by decide +kernel
theorem d16_26 : decode jdk_42_method_74_code 26 = .ok (.aload_n 0, 1) := by decide +kernel
theorem d16_27 : decode jdk_42_method_74_code 27 = .ok (.invokevirtual 505, 3) := by decide +kernel
theorem d16_30 : decode jdk_42_method_74_code 30 = .ok (.i2l, 1) := by decide +kernel
theorem d16_31 : decode jdk_42_method_74_code 31 = .ok (.iload 5, 2) := by decide +kernel
theorem d16_33 : decode jdk_42_method_74_code 33 = .ok (.i2l, 1) := by decide +kernel
theorem d16_34 : decode jdk_42_method_74_code 34 = .ok (.lsub, 1) := by decide +kernel
theorem d16_35 : decode jdk_42_method_74_code 35 = .ok (.lcmp, 1) := by decide +kernel
theorem d16_36 : decode jdk_42_method_74_code 36 = .ok (.ifCond .gt 19, 3) := by decide +kernel
theorem d16_39 : decode jdk_42_method_74_code 39 = .ok (.iload 4, 2) := by decide +kernel
theorem d16_41 : decode jdk_42_method_74_code 41 = .ok (.i2l, 1) := by decide +kernel
theorem d16_42 : decode jdk_42_method_74_code 42 = .ok (.aload_n 3, 1) := by decide +kernel
theorem d16_43 : decode jdk_42_method_74_code 43 = .ok (.invokevirtual 505, 3) := by decide +kernel
theorem d16_46 : decode jdk_42_method_74_code 46 = .ok (.i2l, 1) := by decide +kernel
theorem d16_47 : decode jdk_42_method_74_code 47 = .ok (.iload 5, 2) := by decide +kernel
theorem d16_49 : decode jdk_42_method_74_code 49 = .ok (.i2l, 1) := by decide +kernel
theorem d16_50 : decode jdk_42_method_74_code 50 = .ok (.lsub, 1) := by decide +kernel
theorem d16_51 : decode jdk_42_method_74_code 51 = .ok (.lcmp, 1) := by decide +kernel
theorem d16_52 : decode jdk_42_method_74_code 52 = .ok (.ifCond .le 5, 3) := by decide +kernel
theorem d16_57 : decode jdk_42_method_74_code 57 = .ok (.aload_n 0, 1) := by decide +kernel
theorem d16_58 : decode jdk_42_method_74_code 58 = .ok (.getfield 9, 3) := by decide +kernel
theorem d16_61 : decode jdk_42_method_74_code 61 = .ok (.astore 6, 2) := by decide +kernel
theorem d16_63 : decode jdk_42_method_74_code 63 = .ok (.aload_n 3, 1) := by decide +kernel
theorem d16_64 : decode jdk_42_method_74_code 64 = .ok (.getfield 9, 3) := by decide +kernel
theorem d16_67 : decode jdk_42_method_74_code 67 = .ok (.astore 7, 2) := by decide +kernel
theorem d16_69 : decode jdk_42_method_74_code 69 = .ok (.aload_n 0, 1) := by decide +kernel
theorem d16_70 : decode jdk_42_method_74_code 70 = .ok (.invokevirtual 335, 3) := by decide +kernel
theorem d16_73 : decode jdk_42_method_74_code 73 = .ok (.istore 8, 2) := by decide +kernel
theorem d16_75 : decode jdk_42_method_74_code 75 = .ok (.iload 8, 2) := by decide +kernel
theorem d16_77 : decode jdk_42_method_74_code 77 = .ok (.aload_n 3, 1) := by decide +kernel
theorem d16_78 : decode jdk_42_method_74_code 78 = .ok (.invokevirtual 335, 3) := by decide +kernel
theorem d16_81 : decode jdk_42_method_74_code 81 = .ok (.if_icmp .ne 36, 3) := by decide +kernel
theorem d16_84 : decode jdk_42_method_74_code 84 = .ok (.iload 8, 2) := by decide +kernel
theorem d16_86 : decode jdk_42_method_74_code 86 = .ok (.ifCond .ne 18, 3) := by decide +kernel
theorem d16_89 : decode jdk_42_method_74_code 89 = .ok (.aload 6, 2) := by decide +kernel
theorem d16_91 : decode jdk_42_method_74_code 91 = .ok (.iload_n 2, 1) := by decide +kernel
theorem d16_92 : decode jdk_42_method_74_code 92 = .ok (.aload 7, 2) := by decide +kernel
theorem d16_94 : decode jdk_42_method_74_code 94 = .ok (.iload 4, 2) := by decide +kernel
theorem d16_96 : decode jdk_42_method_74_code 96 = .ok (.iload 5, 2) := by decide +kernel
theorem d16_98 : decode jdk_42_method_74_code 98 = .ok (.invokestatic 613, 3) := by decide +kernel
theorem d16_101 : decode jdk_42_method_74_code 101 = .ok (.goto 15, 3) := by decide +kernel
theorem d16_116 : decode jdk_42_method_74_code 116 = .ok (.ireturn, 1) := by decide +kernel
theorem d17_0 : decode jdk_43_method_30_code 0 = .ok (.iload_n 1, 1) := by decide +kernel
theorem d17_1 : decode jdk_43_method_30_code 1 = .ok (.iload 4, 2) := by decide +kernel
theorem d17_3 : decode jdk_43_method_30_code 3 = .ok (.iadd, 1) := by decide +kernel
theorem d17_4 : decode jdk_43_method_30_code 4 = .ok (.istore 5, 2) := by decide +kernel
theorem d17_6 : decode jdk_43_method_30_code 6 = .ok (.iload_n 1, 1) := by decide +kernel
theorem d17_7 : decode jdk_43_method_30_code 7 = .ok (.iload 5, 2) := by decide +kernel
theorem d17_9 : decode jdk_43_method_30_code 9 = .ok (.if_icmp .ge 34, 3) := by decide +kernel
theorem d17_12 : decode jdk_43_method_30_code 12 = .ok (.aload_n 0, 1) := by decide +kernel
theorem d17_13 : decode jdk_43_method_30_code 13 = .ok (.iload_n 1, 1) := by decide +kernel
theorem d17_14 : decode jdk_43_method_30_code 14 = .ok (.iinc 1 1, 3) := by decide +kernel
theorem d17_17 : decode jdk_43_method_30_code 17 = .ok (.baload, 1) := by decide +kernel
theorem d17_18 : decode jdk_43_method_30_code 18 = .ok (.istore 6, 2) := by decide +kernel
theorem d17_20 : decode jdk_43_method_30_code 20 = .ok (.aload_n 2, 1) := by decide +kernel
theorem d17_21 : decode jdk_43_method_30_code 21 = .ok (.iload_n 3, 1) := by decide +kernel
theorem d17_22 : decode jdk_43_method_30_code 22 = .ok (.iinc 3 1, 3) := by decide +kernel
theorem d17_25 : decode jdk_43_method_30_code 25 = .ok (.baload, 1) := by decide +kernel
theorem d17_26 : decode jdk_43_method_30_code 26 = .ok (.istore 7, 2) := by decide +kernel
theorem d17_28 : decode jdk_43_method_30_code 28 = .ok (.iload 6, 2) := by decide +kernel
theorem d17_30 : decode jdk_43_method_30_code 30 = .ok (.iload 7, 2) := by decide +kernel
theorem d17_32 : decode jdk_43_method_30_code 32 = .ok (.invokestatic 153, 3) := by decide +kernel
theorem d17_35 : decode jdk_43_method_30_code 35 = .ok (.ifCond .eq 6, 3) := by decide +kernel
theorem d17_38 : decode jdk_43_method_30_code 38 = .ok (.goto (-32), 3) := by decide +kernel
theorem d17_41 : decode jdk_43_method_30_code 41 = .ok (.iconst 0, 1) := by decide +kernel
theorem d17_42 : decode jdk_43_method_30_code 42 = .ok (.ireturn, 1) := by decide +kernel
theorem d17_43 : decode jdk_43_method_30_code 43 = .ok (.iconst 1, 1) := by decide +kernel
theorem d17_44 : decode jdk_43_method_30_code 44 = .ok (.ireturn, 1) := by decide +kernel
theorem d18_0 : decode jdk_116_method_22_code 0 = .ok (.iload_n 0, 1) := by decide +kernel
theorem d18_1 : decode jdk_116_method_22_code 1 = .ok (.iload_n 1, 1) := by decide +kernel
theorem d18_2 : decode jdk_116_method_22_code 2 = .ok (.if_icmp .ne 5, 3) := by decide +kernel
theorem d18_5 : decode jdk_116_method_22_code 5 = .ok (.iconst 1, 1) := by decide +kernel
theorem d18_6 : decode jdk_116_method_22_code 6 = .ok (.ireturn, 1) := by decide +kernel
theorem d18_7 : decode jdk_116_method_22_code 7 = .ok (.iload_n 0, 1) := by decide +kernel
theorem d18_8 : decode jdk_116_method_22_code 8 = .ok (.sipush 223, 3) := by decide +kernel
theorem d18_11 : decode jdk_116_method_22_code 11 = .ok (.iand, 1) := by decide +kernel
theorem d18_12 : decode jdk_116_method_22_code 12 = .ok (.istore_n 2, 1) := by decide +kernel
theorem d18_13 : decode jdk_116_method_22_code 13 = .ok (.iload_n 2, 1) := by decide +kernel
theorem d18_14 : decode jdk_116_method_22_code 14 = .ok (.bipush 65, 2) := by decide +kernel
theorem d18_16 : decode jdk_116_method_22_code 16 = .ok (.if_icmp .ge 5, 3) := by decide +kernel
theorem d18_19 : decode jdk_116_method_22_code 19 = .ok (.iconst 0, 1) := by decide +kernel
theorem d18_20 : decode jdk_116_method_22_code 20 = .ok (.ireturn, 1) := by decide +kernel
theorem d18_21 : decode jdk_116_method_22_code 21 = .ok (.iload_n 2, 1) := by decide +kernel
theorem d18_22 : decode jdk_116_method_22_code 22 = .ok (.bipush 90, 2) := by decide +kernel
theorem d18_24 : decode jdk_116_method_22_code 24 = .ok (.if_icmp .le 24, 3) := by decide +kernel
theorem d18_27 : decode jdk_116_method_22_code 27 = .ok (.iload_n 2, 1) := by decide +kernel
theorem d18_28 : decode jdk_116_method_22_code 28 = .ok (.sipush 192, 3) := by decide +kernel
theorem d18_31 : decode jdk_116_method_22_code 31 = .ok (.if_icmp .lt 30, 3) := by decide +kernel
theorem d18_34 : decode jdk_116_method_22_code 34 = .ok (.iload_n 2, 1) := by decide +kernel
theorem d18_35 : decode jdk_116_method_22_code 35 = .ok (.sipush 222, 3) := by decide +kernel
theorem d18_38 : decode jdk_116_method_22_code 38 = .ok (.if_icmp .gt 23, 3) := by decide +kernel
theorem d18_41 : decode jdk_116_method_22_code 41 = .ok (.iload_n 2, 1) := by decide +kernel
theorem d18_42 : decode jdk_116_method_22_code 42 = .ok (.sipush 215, 3) := by decide +kernel
theorem d18_45 : decode jdk_116_method_22_code 45 = .ok (.if_icmp .eq 16, 3) := by decide +kernel
theorem d18_48 : decode jdk_116_method_22_code 48 = .ok (.iload_n 2, 1) := by decide +kernel
theorem d18_49 : decode jdk_116_method_22_code 49 = .ok (.iload_n 1, 1) := by decide +kernel
theorem d18_50 : decode jdk_116_method_22_code 50 = .ok (.sipush 223, 3) := by decide +kernel
theorem d18_53 : decode jdk_116_method_22_code 53 = .ok (.iand, 1) := by decide +kernel
theorem d18_54 : decode jdk_116_method_22_code 54 = .ok (.if_icmp .ne 7, 3) := by decide +kernel
theorem d18_57 : decode jdk_116_method_22_code 57 = .ok (.iconst 1, 1) := by decide +kernel
theorem d18_58 : decode jdk_116_method_22_code 58 = .ok (.goto 4, 3) := by decide +kernel
theorem d18_61 : decode jdk_116_method_22_code 61 = .ok (.iconst 0, 1) := by decide +kernel
theorem d18_62 : decode jdk_116_method_22_code 62 = .ok (.ireturn, 1) := by decide +kernel
theorem pd_0 : parseMethodDescriptor "([C)V" = some ⟨[(.array .char)], none⟩ := by decide +kernel
theorem pd_1 : parseMethodDescriptor "()V" = some ⟨[], none⟩ := by decide +kernel
theorem pd_2 : parseMethodDescriptor "()I" = some ⟨[], some .int⟩ := by decide +kernel
theorem pd_3 : parseMethodDescriptor "()B" = some ⟨[], some .byte⟩ := by decide +kernel
theorem pd_4 : parseMethodDescriptor "([BI[BII)Z" = some ⟨[(.array .byte), .int, (.array .byte), .int, .int], some .boolean⟩ := by decide +kernel
theorem pd_5 : parseMethodDescriptor "(BB)Z" = some ⟨[.byte, .byte], some .boolean⟩ := by decide +kernel
theorem pd_6 : parseMethodDescriptor "(ZILjava/lang/String;II)Z" = some ⟨[.boolean, .int, (.object "java/lang/String"), .int, .int], some .boolean⟩ := by decide +kernel
theorem pd_7 : parseMethodDescriptor "(Ljava/lang/String;)Z" = some ⟨[(.object "java/lang/String")], some .boolean⟩ := by decide +kernel
theorem pd_8 : parseMethodDescriptor "(III)I" = some ⟨[.int, .int, .int], some .int⟩ := by decide +kernel
theorem pd_9 : parseMethodDescriptor "(IIII)Ljava/lang/String;" = some ⟨[.int, .int, .int, .int], some (.object "java/lang/String")⟩ := by decide +kernel
theorem pd_10 : parseMethodDescriptor "(Ljava/lang/String;ZJ)V" = some ⟨[(.object "java/lang/String"), .boolean, .long], none⟩ := by decide +kernel
theorem pd_11 : parseMethodDescriptor "(I)I" = some ⟨[.int], some .int⟩ := by decide +kernel
theorem pn_0 : plainName "java/lang/Record" = true := by first | (simp [plainName, overriddenIn]; done) | decide +kernel
theorem pn_1 : plainName "java/lang/String" = true := by first | (simp [plainName, overriddenIn]; done) | decide +kernel
theorem pn_2 : plainName "com/example/lopa/lopa/trec/TagClosesPinLaw" = true := by first | (simp [plainName, overriddenIn]; done) | decide +kernel
theorem pn_3 : plainName "com/example/lopa/lopa/trec/SgmlScanner$Tag" = true := by first | (simp [plainName, overriddenIn]; done) | decide +kernel
theorem pn_4 : plainName "java/lang/CharacterDataLatin1" = true := by first | (simp [plainName, overriddenIn]; done) | decide +kernel
theorem pn_5 : plainName "java/lang/StringLatin1" = true := by first | (simp [plainName, overriddenIn]; done) | decide +kernel
theorem ef_bRec (m : MethodId) (a : Addr) : entryFrame m #[(.ref a)] 1 = mkF m 0 #[.val (.ref a)] [] := by first | (simp [entryFrame, mkF, argsToLocals, Value.category]; done) | rfl
theorem ef_bCdr (m : MethodId) (x : Addr) : entryFrame m #[(.ref x)] 1 = mkF m 0 #[.val (.ref x)] [] := by first | (simp [entryFrame, mkF, argsToLocals, Value.category]; done) | rfl
theorem ef_bFold (m : MethodId) (ch : Int32) : entryFrame m #[(.int ch)] 1 = mkF m 0 #[.val (.int ch)] [] := by first | (simp [entryFrame, mkF, argsToLocals, Value.category]; done) | rfl
theorem ef_bPick (m : MethodId) (s : Int32) (n : Int32) (o : Int32) : entryFrame m #[(.int s), (.int n), (.int o)] 3 = mkF m 0 #[.val (.int s), .val (.int n), .val (.int o)] [] := by first | (simp [entryFrame, mkF, argsToLocals, Value.category]; done) | rfl
theorem ef_bMk (m : MethodId) (n : Int32) (a : Int32) (b : Int32) (c : Int32) : entryFrame m #[(.int n), (.int a), (.int b), (.int c)] 5 = mkF m 0 #[.val (.int n), .val (.int a), .val (.int b), .val (.int c), .unset] [] := by first | (simp [entryFrame, mkF, argsToLocals, Value.category]; done) | rfl
theorem ef_bTag (m : MethodId) (a : Addr) (nm : Addr) (cl : Int32) (ln : Int64) : entryFrame m #[(.ref a), (.ref nm), (.int cl), (.long ln)] 5 = mkF m 0 #[.val (.ref a), .val (.ref nm), .val (.int cl), .val (.long ln), .second] [] := by first | (simp [entryFrame, mkF, argsToLocals, Value.category]; done) | rfl
theorem ef_bEqI (m : MethodId) (u : Int32) (v : Int32) : entryFrame m #[(.int u), (.int v)] 3 = mkF m 0 #[.val (.int u), .val (.int v), .unset] [] := by first | (simp [entryFrame, mkF, argsToLocals, Value.category]; done) | rfl
theorem ef_bRci (m : MethodId) (t : Addr) (i0 : Int32) (t' : Addr) (j0 : Int32) (n : Int32) : entryFrame m #[(.ref t), (.int i0), (.ref t'), (.int j0), (.int n)] 8 = mkF m 0 #[.val (.ref t), .val (.int i0), .val (.ref t'), .val (.int j0), .val (.int n), .unset, .unset, .unset] [] := by first | (simp [entryFrame, mkF, argsToLocals, Value.category]; done) | rfl
theorem ef_bRm (m : MethodId) (x : Addr) (ic : Int32) (i0 : Int32) (y : Addr) (j0 : Int32) (n : Int32) : entryFrame m #[(.ref x), (.int ic), (.int i0), (.ref y), (.int j0), (.int n)] 9 = mkF m 0 #[.val (.ref x), .val (.int ic), .val (.int i0), .val (.ref y), .val (.int j0), .val (.int n), .unset, .unset, .unset] [] := by first | (simp [entryFrame, mkF, argsToLocals, Value.category]; done) | rfl
theorem ef_bEic (m : MethodId) (x : Addr) (y : Addr) : entryFrame m #[(.ref x), (.ref y)] 2 = mkF m 0 #[.val (.ref x), .val (.ref y)] [] := by first | (simp [entryFrame, mkF, argsToLocals, Value.category]; done) | rfl
theorem ef_bClo (m : MethodId) (a : Addr) (y : Addr) : entryFrame m #[(.ref a), (.ref y)] 2 = mkF m 0 #[.val (.ref a), .val (.ref y)] [] := by first | (simp [entryFrame, mkF, argsToLocals, Value.category]; done) | rfl
theorem ef_law (m : MethodId) (p0 : Int32) (p1 : Int32) (p2 : Int32) (p3 : Int64) : entryFrame m #[(.int p0), (.int p1), (.int p2), (.long p3)] maxLocals = mkF m 0 #[.val (.int p0), .val (.int p1), .val (.int p2), .val (.long p3), .second, .unset, .unset, .unset, .unset, .unset, .unset, .unset, .unset, .unset, .unset, .unset, .unset, .unset, .unset] [] := by first | (simp [entryFrame, mkF, argsToLocals, Value.category, maxLocals]; done) | rfl
def isL (u : Int32) : Prop := ¬ u < 65 ∧ (¬ (90 : Int32) < u ∨ (¬ u < 192 ∧ ¬ (222 : Int32) < u ∧ ¬ u = 215))
instance (u : Int32) : Decidable (isL u) := by unfold isL; infer_instance
def foldF (c : Int32) : Int32 := if c < 65 then (if c < 192 then c else if (222 : Int32) < c then c else if c = 215 then c else c + 32) else if (90 : Int32) < c then (if c < 192 then c else if (222 : Int32) < c then c else if c = 215 then c else c + 32) else c + 32
theorem byN {P : Int32 → Prop} (h : ∀ n : Fin 256, P (Int32.ofNat n.val)) {c : Int32} (hc : ¬ c < 0 ∧ ¬ (255 : Int32) < c) : P c := by
  rw [Int32.lt_iff_toInt_lt, Int32.lt_iff_toInt_lt] at hc
  have e1 : (0 : Int32).toInt = 0 := by decide
  have e2 : (255 : Int32).toInt = 255 := by decide
  rw [e1, e2] at hc
  have hn : c.toInt.toNat < 256 := by omega
  have q := h ⟨c.toInt.toNat, hn⟩
  have e : Int32.ofNat c.toInt.toNat = c := Int32.toInt_inj.mp (by rw [Int32.toInt_ofNat_small (by omega)]; omega)
  rw [← e]; exact q
set_option maxRecDepth 100000 in
theorem t1 : ∀ n : Fin 256, (Int32.ofNat n.val).toInt8.toInt32 &&& 223 = (Int32.ofNat n.val) &&& 223 ∧ (Int32.ofNat n.val).toInt8.toInt32 &&& 255 = Int32.ofNat n.val ∧ (isL ((Int32.ofNat n.val) &&& 223) → foldF (Int32.ofNat n.val) = ((Int32.ofNat n.val) &&& 223) + 32 ∧ (((Int32.ofNat n.val) &&& 223) + 32) &&& 223 = (Int32.ofNat n.val) &&& 223) ∧ (¬ isL ((Int32.ofNat n.val) &&& 223) → foldF (Int32.ofNat n.val) = Int32.ofNat n.val) ∧ (¬ (Int32.ofNat n.val) ^^^ 32 < 0 ∧ ¬ (255 : Int32) < (Int32.ofNat n.val) ^^^ 32) := by decide +kernel
theorem eqI_spec {c d : Int32} (hc : ¬ c < 0 ∧ ¬ (255 : Int32) < c) (hd : ¬ d < 0 ∧ ¬ (255 : Int32) < d) : foldF c = foldF d ↔ (c.toInt8.toInt32 = d.toInt8.toInt32 ∨ (isL (c.toInt8.toInt32 &&& 223) ∧ c.toInt8.toInt32 &&& 223 = d.toInt8.toInt32 &&& 223)) := by
  obtain ⟨a1, a2, a3, a4, -⟩ := byN (P := fun c => c.toInt8.toInt32 &&& 223 = c &&& 223 ∧ c.toInt8.toInt32 &&& 255 = c ∧ (isL (c &&& 223) → foldF c = (c &&& 223) + 32 ∧ ((c &&& 223) + 32) &&& 223 = c &&& 223) ∧ (¬ isL (c &&& 223) → foldF c = c) ∧ (¬ c ^^^ 32 < 0 ∧ ¬ (255 : Int32) < c ^^^ 32)) t1 hc
  obtain ⟨b1, b2, b3, b4, -⟩ := byN (P := fun c => c.toInt8.toInt32 &&& 223 = c &&& 223 ∧ c.toInt8.toInt32 &&& 255 = c ∧ (isL (c &&& 223) → foldF c = (c &&& 223) + 32 ∧ ((c &&& 223) + 32) &&& 223 = c &&& 223) ∧ (¬ isL (c &&& 223) → foldF c = c) ∧ (¬ c ^^^ 32 < 0 ∧ ¬ (255 : Int32) < c ^^^ 32)) t1 hd
  rw [a1, b1]
  have e : c.toInt8.toInt32 = d.toInt8.toInt32 ↔ c = d := ⟨fun q => by rw [← a2, ← b2, q], fun q => by rw [q]⟩
  rw [e]
  constructor
  · intro q
    by_cases hL : isL (c &&& 223)
    · by_cases hM : isL (d &&& 223)
      · rw [(a3 hL).1, (b3 hM).1] at q
        exact Or.inr ⟨hL, by rw [← (a3 hL).2, ← (b3 hM).2, q]⟩
      · rw [(a3 hL).1, b4 hM] at q
        have z := (a3 hL).2
        rw [q] at z
        rw [← z] at hL
        exact absurd hL hM
    · by_cases hM : isL (d &&& 223)
      · rw [a4 hL, (b3 hM).1] at q
        have z := (b3 hM).2
        rw [← q] at z
        rw [← z] at hM
        exact absurd hM hL
      · rw [a4 hL, b4 hM] at q
        exact Or.inl q
  · rintro (rfl | ⟨hL, q⟩)
    · rfl
    · rw [(a3 hL).1, (b3 (q ▸ hL)).1, q]
theorem xor_rng {c : Int32} (hc : ¬ c < 0 ∧ ¬ (255 : Int32) < c) : ¬ c ^^^ 32 < 0 ∧ ¬ (255 : Int32) < c ^^^ 32 := (byN (P := fun c => c.toInt8.toInt32 &&& 223 = c &&& 223 ∧ c.toInt8.toInt32 &&& 255 = c ∧ (isL (c &&& 223) → foldF c = (c &&& 223) + 32 ∧ ((c &&& 223) + 32) &&& 223 = c &&& 223) ∧ (¬ isL (c &&& 223) → foldF c = c) ∧ (¬ c ^^^ 32 < 0 ∧ ¬ (255 : Int32) < c ^^^ 32)) t1 hc).2.2.2.2
def pickF (s n o : Int32) : Int32 := if s = 0 then n else if s = 1 then n ^^^ 32 else o
theorem pick_rng {s n o : Int32} (hn : ¬ n < 0 ∧ ¬ (255 : Int32) < n) (ho : ¬ o < 0 ∧ ¬ (255 : Int32) < o) : ¬ pickF s n o < 0 ∧ ¬ (255 : Int32) < pickF s n o := by
  unfold pickF
  split
  · exact hn
  · split
    · exact xor_rng hn
    · exact ho
def mkCs (n a b c : Int32) : List Int32 := if n = 0 then [] else if n = 1 then [a] else if n = 2 then [a, b] else [a, b, c]
theorem and_rng (x : Int32) : ¬ x &&& 255 < 0 ∧ ¬ (255 : Int32) < x &&& 255 := by have := Own.lo_rng x; rwa [Own.lo_eq] at this
theorem and3_rng (x : Int32) : x &&& 3 = 0 ∨ x &&& 3 = 1 ∨ x &&& 3 = 2 ∨ x &&& 3 = 3 := by
  have h := c_and x 3 (by decide)
  have q : ∀ k : Int32, (x &&& 3).toInt = k.toInt → x &&& 3 = k := fun k e => Int32.toInt_inj.mp e
  have e0 : (0 : Int32).toInt = 0 := by decide
  have e1 : (1 : Int32).toInt = 1 := by decide
  have e2 : (2 : Int32).toInt = 2 := by decide
  have e3 : (3 : Int32).toInt = 3 := by decide
  rw [e3] at h
  have hm : (x &&& 3).toInt = 0 ∨ (x &&& 3).toInt = 1 ∨ (x &&& 3).toInt = 2 ∨ (x &&& 3).toInt = 3 := by omega
  rcases hm with m | m | m | m
  · exact Or.inl (q 0 (m.trans e0.symm))
  · exact Or.inr (Or.inl (q 1 (m.trans e1.symm)))
  · exact Or.inr (Or.inr (Or.inl (q 2 (m.trans e2.symm))))
  · exact Or.inr (Or.inr (Or.inr (q 3 (m.trans e3.symm))))
theorem key {n m a b c a' b' c' : Int32} (hn : n = 0 ∨ n = 1 ∨ n = 2 ∨ n = 3) (hm : m = 0 ∨ m = 1 ∨ m = 2 ∨ m = 3) : (mkCs n a b c).map foldF = (mkCs m a' b' c').map foldF ↔ (n = m ∧ (n < 1 ∨ foldF a = foldF a') ∧ (n < 2 ∨ foldF b = foldF b') ∧ (n < 3 ∨ foldF c = foldF c')) := by
  rcases hn with rfl | rfl | rfl | rfl <;> rcases hm with rfl | rfl | rfl | rfl <;> simp [mkCs]
  all_goals first | decide | (constructor <;> intro q <;> simp_all) | skip
theorem mkCs_rng {n a b c : Int32} (ha : ¬ a < 0 ∧ ¬ (255 : Int32) < a) (hb : ¬ b < 0 ∧ ¬ (255 : Int32) < b) (hc : ¬ c < 0 ∧ ¬ (255 : Int32) < c) : ∀ x ∈ mkCs n a b c, ¬ x < 0 ∧ ¬ (255 : Int32) < x := by
  intro x hx
  unfold mkCs at hx
  split at hx
  · cases hx
  · split at hx
    · cases List.mem_singleton.mp hx; exact ha
    · split at hx
      · simp only [List.mem_cons, List.not_mem_nil, or_false] at hx
        rcases hx with rfl | rfl
        · exact ha
        · exact hb
      · simp only [List.mem_cons, List.not_mem_nil, or_false] at hx
        rcases hx with rfl | rfl | rfl
        · exact ha
        · exact hb
        · exact hc
theorem mkCs_len {n a b c : Int32} : (mkCs n a b c).length ≤ 3 := by
  unfold mkCs
  split
  · simp
  · split
    · simp
    · split <;> simp
theorem shapes {cs ds : List Int32} (h : cs.length = ds.length) (hl : cs.length ≤ 3) : (cs = [] ∧ ds = []) ∨ (∃ a a', cs = [a] ∧ ds = [a']) ∨ (∃ a b a' b', cs = [a, b] ∧ ds = [a', b']) ∨ (∃ a b c a' b' c', cs = [a, b, c] ∧ ds = [a', b', c']) := by
  match cs, ds, h, hl with
  | [], [], _, _ => exact Or.inl ⟨rfl, rfl⟩
  | [a], [a'], _, _ => exact Or.inr (Or.inl ⟨a, a', rfl, rfl⟩)
  | [a, b], [a', b'], _, _ => exact Or.inr (Or.inr (Or.inl ⟨a, b, a', b', rfl, rfl⟩))
  | [a, b, c], [a', b', c'], _, _ => exact Or.inr (Or.inr (Or.inr ⟨a, b, c, a', b', c', rfl, rfl⟩))
  | [], _ :: _, h, _ => simp at h
  | _ :: _, [], h, _ => simp at h
  | [_], _ :: _ :: _, h, _ => simp at h
  | _ :: _ :: _, [_], h, _ => simp at h
  | [_, _], _ :: _ :: _ :: _, h, _ => simp at h
  | _ :: _ :: _ :: _, [_, _], h, _ => simp at h
  | [_, _, _], _ :: _ :: _ :: _ :: _, h, _ => simp at h
  | _ :: _ :: _ :: _ :: _, _, _, hl => simp at hl
theorem len_ne {cs ds : List Int32} (hl : cs.length ≤ 3) (hl' : ds.length ≤ 3) (q : ¬ Int32.ofNat ds.length = Int32.ofNat cs.length) : ¬ cs.length = ds.length := fun e => q (by rw [e])
theorem len_eq {cs ds : List Int32} (hl : cs.length ≤ 3) (hl' : ds.length ≤ 3) (q : Int32.ofNat ds.length = Int32.ofNat cs.length) : cs.length = ds.length := by
  have z := congrArg Int32.toInt q
  rw [Int32.toInt_ofNat_small (by omega), Int32.toInt_ofNat_small (by omega)] at z
  omega
abbrev bRec : Own.Bo := (⟨"java/lang/Record", "<init>", "()V"⟩, jdk_30_method_1_code, 1, none, ({ frames := 1, cells := 0, slots := 0, locals := 12 } : Room))
abbrev bCdr : Own.Bo := (⟨"java/lang/String", "coder", "()B"⟩, jdk_42_method_152_code, 1, (some .byte), ({ frames := 0, cells := 0, slots := 0, locals := 0 } : Room))
abbrev bFold : Own.Bo := (⟨"com/example/lopa/lopa/trec/TagClosesPinLaw", "fold", "(I)I"⟩, method_4_code, 1, (some .int), ({ frames := 0, cells := 0, slots := 0, locals := 0 } : Room))
abbrev bPick : Own.Bo := (⟨"com/example/lopa/lopa/trec/TagClosesPinLaw", "pick", "(III)I"⟩, method_3_code, 3, (some .int), ({ frames := 0, cells := 0, slots := 0, locals := 0 } : Room))
abbrev bMk : Own.Bo := (⟨"com/example/lopa/lopa/trec/TagClosesPinLaw", "make", "(IIII)Ljava/lang/String;"⟩, method_5_code, 5, (some (.object "java/lang/String")), ({ frames := 4, cells := 6, slots := 18, locals := 66 } : Room))
abbrev bTag : Own.Bo := (⟨"com/example/lopa/lopa/trec/SgmlScanner$Tag", "<init>", "(Ljava/lang/String;ZJ)V"⟩, prog_19_method_1_code, 5, none, ({ frames := 2, cells := 0, slots := 0, locals := 24 } : Room))
abbrev bEqI : Own.Bo := (⟨"java/lang/CharacterDataLatin1", "equalsIgnoreCase", "(BB)Z"⟩, jdk_116_method_22_code, 3, (some .boolean), ({ frames := 0, cells := 0, slots := 0, locals := 0 } : Room))
abbrev bRci : Own.Bo := (⟨"java/lang/StringLatin1", "regionMatchesCI", "([BI[BII)Z"⟩, jdk_43_method_30_code, 8, (some .boolean), ({ frames := 1, cells := 0, slots := 0, locals := 14 } : Room))
abbrev bRm : Own.Bo := (⟨"java/lang/String", "regionMatches", "(ZILjava/lang/String;II)Z"⟩, jdk_42_method_74_code, 9, (some .boolean), ({ frames := 2, cells := 0, slots := 0, locals := 33 } : Room))
abbrev bEic : Own.Bo := (⟨"java/lang/String", "equalsIgnoreCase", "(Ljava/lang/String;)Z"⟩, jdk_42_method_70_code, 2, (some .boolean), ({ frames := 3, cells := 0, slots := 0, locals := 60 } : Room))
abbrev bClo : Own.Bo := (⟨"com/example/lopa/lopa/trec/SgmlScanner$Tag", "closes", "(Ljava/lang/String;)Z"⟩, prog_19_method_3_code, 2, (some .boolean), ({ frames := 4, cells := 0, slots := 0, locals := 73 } : Room))
abbrev bLaw : Own.Bo := (x, code, maxLocals, ret, room_1)
set_option maxRecDepth 65536 in
set_option maxHeartbeats 40000000 in
theorem con_rec {G : Own.Gl} (hw : ∀ d ∈ tables_1, d.before G.a0 G.Z = true) (hEL : EW G.Z G.a0 G.EL) (a : Addr) {h : Heap} (hO : Old G.Z G.n0 h) :
    Own.Con G [] bRec #[.ref a] h [] (fun v h' => v = none ∧ h' = h) := by
  refine Own.Con.intro (plainFor_of_name pn_0) hO hEL _ (fun m => ef_bRec m a) ?_
  intro X T0 W0 sf
  refine Own.aloadN W0 d10_0 1 rfl (.ref a) rfl rfl ?_
  refine Own.initO W0 (tw hw 48 rfl) (tw hw 19 rfl) (tw hw 20 rfl) rfl d10_1 4 rfl (by decide) (by decide) ?_
  intro T1 W1
  exact Own.retV W1 (by decide) (by decide) rfl d10_4 ⟨rfl, rfl⟩
set_option maxRecDepth 65536 in
set_option maxHeartbeats 40000000 in
theorem con_cdr {G : Own.Gl} (hw : ∀ d ∈ tables_1, d.before G.a0 G.Z = true) (hEL : EW G.Z G.a0 G.EL) (hmem : (Own.ST, 7) ∈ G.EL) {cz : Int32} (hS : Sta G.Z G.Z.heap Own.ST "COMPACT_STRINGS" "Z" (.int cz)) (hcz : ¬ cz = 0) {x : Addr} {h : Heap} (hO : Old G.Z G.n0 h) (F : Fld G.Z h x "java/lang/String" "coder" "B" (.int 0)) :
    Own.Con G [] bCdr #[.ref x] h [] (fun v h' => v = some (.int 0) ∧ h' = h) := by
  refine Own.Con.intro (plainFor_of_name pn_1) hO hEL _ (fun m => ef_bCdr m x) ?_
  intro X T0 W0 sf
  refine Own.getS W0 (tw hw 21 rfl) Via.refl (W0.sta hS) d15_0 3 rfl ?_
  intro T1 W1
  refine Own.ifNo W1 d15_3 6 (XT.i0_eq_f hcz) rfl ?_
  refine Own.aloadN W1 d15_6 7 rfl (.ref x) rfl rfl ?_
  refine Own.getF W1 (tw hw 33 rfl) Via.refl F d15_7 10 rfl ?_
  intro T2 W2
  refine Own.goto W2 d15_10 14 (by decide) (by decide) ?_
  exact Own.retY W2 (by decide) (by decide) rfl d15_14 rfl ⟨rfl, rfl⟩
set_option maxRecDepth 65536 in
set_option maxHeartbeats 40000000 in
theorem con_fold {G : Own.Gl} (hw : ∀ d ∈ tables_1, d.before G.a0 G.Z = true) (hEL : EW G.Z G.a0 G.EL) (ch : Int32) {h : Heap} (hO : Old G.Z G.n0 h) :
    Own.Con G [] bFold #[.int ch] h [] (fun v h' => v = some (.int (foldF ch)) ∧ h' = h) := by
  refine Own.Con.intro (plainFor_of_name pn_2) hO hEL _ (fun m => ef_bFold m ch) ?_
  intro X T0 W0 sf
  refine Own.iloadN W0 d12_0 1 rfl ch rfl ?_
  refine Own.bipush W0 d12_1 3 rfl (65 : Int32) rfl ?_
  by_cases f0 : ch < (65 : Int32)
  · skip
    refine Own.icmpYes W0 d12_3 17 (XT.ii_lt_t f0) (by decide) (by decide) ?_
    refine Own.iloadN W0 d12_17 18 rfl ch rfl ?_
    refine Own.sipush W0 d12_18 21 rfl (192 : Int32) rfl ?_
    by_cases f1 : ch < (192 : Int32)
    · skip
      refine Own.icmpYes W0 d12_21 43 (XT.ii_lt_t f1) (by decide) (by decide) ?_
      refine Own.iloadN W0 d12_43 44 rfl ch rfl ?_
      exact Own.retI W0 (by decide) (by decide) rfl d12_44 ⟨by unfold foldF; rw [if_pos f0, if_pos f1], rfl⟩
    · skip
      refine Own.icmpNo W0 d12_21 24 (XT.ii_lt_f f1) rfl ?_
      refine Own.iloadN W0 d12_24 25 rfl ch rfl ?_
      refine Own.sipush W0 d12_25 28 rfl (222 : Int32) rfl ?_
      by_cases f2 : (222 : Int32) < ch
      · skip
        refine Own.icmpYes W0 d12_28 43 (XT.ii_gt_t f2) (by decide) (by decide) ?_
        refine Own.iloadN W0 d12_43 44 rfl ch rfl ?_
        exact Own.retI W0 (by decide) (by decide) rfl d12_44 ⟨by unfold foldF; rw [if_pos f0, if_neg f1, if_pos f2], rfl⟩
      · skip
        refine Own.icmpNo W0 d12_28 31 (XT.ii_gt_f f2) rfl ?_
        refine Own.iloadN W0 d12_31 32 rfl ch rfl ?_
        refine Own.sipush W0 d12_32 35 rfl (215 : Int32) rfl ?_
        by_cases f3 : ch = (215 : Int32)
        · skip
          refine Own.icmpYes W0 d12_35 43 (XT.ii_eq_t f3) (by decide) (by decide) ?_
          refine Own.iloadN W0 d12_43 44 rfl ch rfl ?_
          exact Own.retI W0 (by decide) (by decide) rfl d12_44 ⟨by unfold foldF; rw [if_pos f0, if_neg f1, if_neg f2, if_pos f3], rfl⟩
        · skip
          refine Own.icmpNo W0 d12_35 38 (XT.ii_eq_f f3) rfl ?_
          refine Own.iloadN W0 d12_38 39 rfl ch rfl ?_
          refine Own.bipush W0 d12_39 41 rfl (32 : Int32) rfl ?_
          refine Own.iadd W0 d12_41 42 rfl ?_
          exact Own.retI W0 (by decide) (by decide) rfl d12_42 ⟨by unfold foldF; rw [if_pos f0, if_neg f1, if_neg f2, if_neg f3], rfl⟩
  · skip
    refine Own.icmpNo W0 d12_3 6 (XT.ii_lt_f f0) rfl ?_
    refine Own.iloadN W0 d12_6 7 rfl ch rfl ?_
    refine Own.bipush W0 d12_7 9 rfl (90 : Int32) rfl ?_
    by_cases f1 : (90 : Int32) < ch
    · skip
      refine Own.icmpYes W0 d12_9 17 (XT.ii_gt_t f1) (by decide) (by decide) ?_
      refine Own.iloadN W0 d12_17 18 rfl ch rfl ?_
      refine Own.sipush W0 d12_18 21 rfl (192 : Int32) rfl ?_
      by_cases f2 : ch < (192 : Int32)
      · skip
        refine Own.icmpYes W0 d12_21 43 (XT.ii_lt_t f2) (by decide) (by decide) ?_
        refine Own.iloadN W0 d12_43 44 rfl ch rfl ?_
        exact Own.retI W0 (by decide) (by decide) rfl d12_44 ⟨by unfold foldF; rw [if_neg f0, if_pos f1, if_pos f2], rfl⟩
      · skip
        refine Own.icmpNo W0 d12_21 24 (XT.ii_lt_f f2) rfl ?_
        refine Own.iloadN W0 d12_24 25 rfl ch rfl ?_
        refine Own.sipush W0 d12_25 28 rfl (222 : Int32) rfl ?_
        by_cases f3 : (222 : Int32) < ch
        · skip
          refine Own.icmpYes W0 d12_28 43 (XT.ii_gt_t f3) (by decide) (by decide) ?_
          refine Own.iloadN W0 d12_43 44 rfl ch rfl ?_
          exact Own.retI W0 (by decide) (by decide) rfl d12_44 ⟨by unfold foldF; rw [if_neg f0, if_pos f1, if_neg f2, if_pos f3], rfl⟩
        · skip
          refine Own.icmpNo W0 d12_28 31 (XT.ii_gt_f f3) rfl ?_
          refine Own.iloadN W0 d12_31 32 rfl ch rfl ?_
          refine Own.sipush W0 d12_32 35 rfl (215 : Int32) rfl ?_
          by_cases f4 : ch = (215 : Int32)
          · skip
            refine Own.icmpYes W0 d12_35 43 (XT.ii_eq_t f4) (by decide) (by decide) ?_
            refine Own.iloadN W0 d12_43 44 rfl ch rfl ?_
            exact Own.retI W0 (by decide) (by decide) rfl d12_44 ⟨by unfold foldF; rw [if_neg f0, if_pos f1, if_neg f2, if_neg f3, if_pos f4], rfl⟩
          · skip
            refine Own.icmpNo W0 d12_35 38 (XT.ii_eq_f f4) rfl ?_
            refine Own.iloadN W0 d12_38 39 rfl ch rfl ?_
            refine Own.bipush W0 d12_39 41 rfl (32 : Int32) rfl ?_
            refine Own.iadd W0 d12_41 42 rfl ?_
            exact Own.retI W0 (by decide) (by decide) rfl d12_42 ⟨by unfold foldF; rw [if_neg f0, if_pos f1, if_neg f2, if_neg f3, if_neg f4], rfl⟩
    · skip
      refine Own.icmpNo W0 d12_9 12 (XT.ii_gt_f f1) rfl ?_
      refine Own.iloadN W0 d12_12 13 rfl ch rfl ?_
      refine Own.bipush W0 d12_13 15 rfl (32 : Int32) rfl ?_
      refine Own.iadd W0 d12_15 16 rfl ?_
      exact Own.retI W0 (by decide) (by decide) rfl d12_16 ⟨by unfold foldF; rw [if_neg f0, if_neg f1], rfl⟩
set_option maxRecDepth 65536 in
set_option maxHeartbeats 40000000 in
theorem con_pick {G : Own.Gl} (hw : ∀ d ∈ tables_1, d.before G.a0 G.Z = true) (hEL : EW G.Z G.a0 G.EL) (s n o : Int32) {h : Heap} (hO : Old G.Z G.n0 h) :
    Own.Con G [] bPick #[.int s, .int n, .int o] h [] (fun v h' => v = some (.int (pickF s n o)) ∧ h' = h) := by
  refine Own.Con.intro (plainFor_of_name pn_2) hO hEL _ (fun m => ef_bPick m s n o) ?_
  intro X T0 W0 sf
  refine Own.iloadN W0 d1_0 1 rfl s rfl ?_
  by_cases s0 : s = (0 : Int32)
  · skip
    refine Own.ifNo W0 d1_1 4 (XT.i0_ne_f s0) rfl ?_
    refine Own.iloadN W0 d1_4 5 rfl n rfl ?_
    exact Own.retI W0 (by decide) (by decide) rfl d1_5 ⟨by unfold pickF; rw [if_pos s0], rfl⟩
  · skip
    refine Own.ifYes W0 d1_1 6 (XT.i0_ne_t s0) (by decide) (by decide) ?_
    refine Own.iloadN W0 d1_6 7 rfl s rfl ?_
    refine Own.iconst W0 d1_7 8 rfl (1 : Int32) rfl ?_
    by_cases s1 : s = (1 : Int32)
    · skip
      refine Own.icmpNo W0 d1_8 11 (XT.ii_ne_f s1) rfl ?_
      refine Own.iloadN W0 d1_11 12 rfl n rfl ?_
      refine Own.bipush W0 d1_12 14 rfl (32 : Int32) rfl ?_
      refine Own.ixor W0 d1_14 15 rfl ?_
      exact Own.retI W0 (by decide) (by decide) rfl d1_15 ⟨by unfold pickF; rw [if_neg s0, if_pos s1], rfl⟩
    · skip
      refine Own.icmpYes W0 d1_8 16 (XT.ii_ne_t s1) (by decide) (by decide) ?_
      refine Own.iloadN W0 d1_16 17 rfl o rfl ?_
      exact Own.retI W0 (by decide) (by decide) rfl d1_17 ⟨by unfold pickF; rw [if_neg s0, if_neg s1], rfl⟩
set_option maxRecDepth 65536 in
set_option maxHeartbeats 40000000 in
theorem con_mk {G : Own.Gl} (hw : ∀ d ∈ tables_1, d.before G.a0 G.Z = true) (hEL : EW G.Z G.a0 G.EL) (hmem : (Own.ST, 7) ∈ G.EL) {cz : Int32} (hS : Sta G.Z G.Z.heap Own.ST "COMPACT_STRINGS" "Z" (.int cz)) (hcz : ¬ cz = 0) (n a b c : Int32) (ha : (¬ a < 0 ∧ ¬ (255 : Int32) < a)) (hb : (¬ b < 0 ∧ ¬ (255 : Int32) < b)) (hc : (¬ c < 0 ∧ ¬ (255 : Int32) < c)) {h : Heap} (hO : Old G.Z G.n0 h) :
    Own.Con G [] bMk #[.int n, .int a, .int b, .int c] h [] (fun v h' => ∃ o : Addr, v = some (.ref o) ∧ Ext h h' ∧ h.size ≤ o ∧ Own.Str G.Z h' o (mkCs n a b c)) := by
  refine Own.Con.intro (plainFor_of_name pn_2) hO hEL _ (fun m => ef_bMk m n a b c) ?_
  intro X T0 W0 sf
  refine Own.iloadN W0 d2_0 1 rfl n rfl ?_
  by_cases hn0 : n = (0 : Int32)
  · skip
    refine Own.ifNo W0 d2_1 4 (XT.i0_ne_f hn0) rfl ?_
    refine Own.newO W0 (tw hw 8 rfl) (tw hw 9 rfl) (tw hw 10 rfl) d2_4 7 rfl 1 4 (by decide) (by decide) (by decide) (by decide) ?_
    intro T1 h1 o1 g1 W1 E1 A1 D1 s1 k1
    have F1_coder : Fld G.Z h1 o1 "java/lang/String" "coder" "B" (.int (0 : Int32)) := D1 (Or.inr (tw hw 34 rfl)) (ty := .byte) (by decide)
    have F1_value : Fld G.Z h1 o1 "java/lang/String" "value" "[B" .null := D1 (Or.inr (tw hw 36 rfl)) (ty := (.array .byte)) (by decide)
    refine Own.dup W1 d2_7 8 rfl rfl ?_
    refine Own.iconst W1 d2_8 9 rfl (0 : Int32) rfl ?_
    refine Own.newA W1 (tw hw 7 rfl) d2_9 11 rfl (by decide) 0 (by decide) (by decide) 2 4 (by decide) (by decide) (by decide) (by decide) ?_
    intro T2 h2 o2 c2 g2 W2 E2 A2 s2 k2
    have V2 : Arv G.Z h2 o2 c2 .char (0 : Int32) [] (.int (0 : Int32)) := A2
    have X3 : Ext h1 h2 := E2
    refine Own.callX W2 rfl (tw hw 11 rfl) (tw hw 12 rfl) (tw hw 13 rfl) (by decide) (argsL := [(.ref o2)]) (rest := [(.ref o1)]) (Own.payStr (wS hw) hEL hmem W2 (cs := []) (z := (0 : Int32)) (cz := cz) (Nat.le_trans W0.n0 (Nat.le_of_eq g1.symm)) (k2 o1 s1) (A1.ext X3) (F1_value.ext X3) (F1_coder.ext X3) (V2) rfl (by intro c hc; cases hc) (Nat.le_of_ble_eq_true rfl) hS hcz (len := 3) (wd := 1) (by decide) (by decide)) rfl (lenOf pd_0 rfl) rfl (Nat.le_of_ble_eq_true rfl) d2_11 14 rfl 6 12 (Nat.le_of_ble_eq_true rfl) (Nat.le_of_ble_eq_true rfl) (Nat.le_of_ble_eq_true rfl) (Nat.le_of_ble_eq_true rfl) ?_
    intro v4 T4 h4 u4 W4 R4 hq
    obtain ⟨rfl, K4, F4⟩ := hq
    show Own.Go _ _ _ _ _ 14 #[.val (.int n), .val (.int a), .val (.int b), .val (.int c), .unset] [(.ref o1)]
    have X5 : Ext h h1 := E1
    have X6 : Ext h h2 := Own.Ext.tr X5 E2
    have X7 : Ext h h4 := Own.Ext.kp X6 K4 (allS (Nat.le_of_eq g1.symm) all0)
    exact Own.retA W4 (by decide) (by decide) rfl rfl rfl d2_14 ⟨o1, rfl, X7, (Nat.le_of_eq g1.symm), by unfold mkCs; rw [if_pos hn0]; exact F4⟩
  · skip
    refine Own.ifYes W0 d2_1 15 (XT.i0_ne_t hn0) (by decide) (by decide) ?_
    refine Own.iloadN W0 d2_15 16 rfl n rfl ?_
    refine Own.iconst W0 d2_16 17 rfl (1 : Int32) rfl ?_
    by_cases hn1 : n = (1 : Int32)
    · skip
      refine Own.icmpNo W0 d2_17 20 (XT.ii_ne_f hn1) rfl ?_
      refine Own.iconst W0 d2_20 21 rfl (1 : Int32) rfl ?_
      refine Own.newA W0 (tw hw 7 rfl) d2_21 23 rfl (by decide) 1 (by decide) (by decide) 1 1 (by decide) (by decide) (by decide) (by decide) ?_
      intro T8 h8 o8 c8 g8 W8 E8 A8 s8 k8
      have V8 : Arv G.Z h8 o8 c8 .char (1 : Int32) [(.int (0 : Int32))] (.int (0 : Int32)) := A8
      refine Own.astore W8 d2_23 25 rfl rfl #[.val (.int n), .val (.int a), .val (.int b), .val (.int c), .val (.ref o8)] rfl ?_
      refine Own.aload W8 d2_25 27 rfl (.ref o8) rfl rfl ?_
      refine Own.iconst W8 d2_27 28 rfl (0 : Int32) rfl ?_
      refine Own.iloadN W8 d2_28 29 rfl a rfl ?_
      refine Own.i2c W8 d2_29 30 rfl ?_
      refine Own.castore W8 V8 0 (by decide) (by decide) (Nat.le_of_ble_eq_true rfl) (Nat.le_trans W0.n0 (Nat.le_of_eq g8.symm)) (x' := a) (by show Own.chr (Own.chr a) = a; rw [show Own.chr a = a from Own.nar_of ha]; exact Own.nar_of ha) d2_30 31 rfl ?_
      intro T9 h9 W9 Q9 A9 k9
      have V9 : Arv G.Z h9 o8 c8 .char (1 : Int32) [(.int a)] (.int (0 : Int32)) := A9
      refine Own.newO W9 (tw hw 8 rfl) (tw hw 9 rfl) (tw hw 10 rfl) d2_31 34 rfl 2 5 (by decide) (by decide) (by decide) (by decide) ?_
      intro T10 h10 o10 g10 W10 E10 A10 D10 s10 k10
      have F10_coder : Fld G.Z h10 o10 "java/lang/String" "coder" "B" (.int (0 : Int32)) := D10 (Or.inr (tw hw 34 rfl)) (ty := .byte) (by decide)
      have F10_value : Fld G.Z h10 o10 "java/lang/String" "value" "[B" .null := D10 (Or.inr (tw hw 36 rfl)) (ty := (.array .byte)) (by decide)
      refine Own.dup W10 d2_34 35 rfl rfl ?_
      refine Own.aload W10 d2_35 37 rfl (.ref o8) rfl rfl ?_
      have X11 : Ext h h8 := E8
      have X12 : Ext h h9 := Own.Ext.wr' X11 Q9 (Nat.le_of_eq g8.symm)
      have X13 : Ext h9 h10 := E10
      refine Own.callX W10 rfl (tw hw 11 rfl) (tw hw 12 rfl) (tw hw 13 rfl) (by decide) (argsL := [(.ref o8)]) (rest := [(.ref o10)]) (Own.payStr (wS hw) hEL hmem W10 (cs := [a]) (z := (1 : Int32)) (cz := cz) (Nat.le_trans W0.n0 (Nat.le_trans X12.1 (Nat.le_of_eq g10.symm))) s10 A10 F10_value F10_coder ((V9.ext X13)) rfl (by intro x hx; simp only [List.mem_cons, List.not_mem_nil, or_false] at hx; rcases hx with rfl; exact ha) (Nat.le_of_ble_eq_true rfl) hS hcz (len := 3) (wd := 1) (by decide) (by decide)) rfl (lenOf pd_0 rfl) rfl (Nat.le_of_ble_eq_true rfl) d2_37 40 rfl 6 14 (Nat.le_of_ble_eq_true rfl) (Nat.le_of_ble_eq_true rfl) (Nat.le_of_ble_eq_true rfl) (Nat.le_of_ble_eq_true rfl) ?_
      intro v14 T14 h14 u14 W14 R14 hq
      obtain ⟨rfl, K14, F14⟩ := hq
      show Own.Go _ _ _ _ _ 40 #[.val (.int n), .val (.int a), .val (.int b), .val (.int c), .val (.ref o8)] [(.ref o10)]
      have X15 : Ext h h10 := Own.Ext.tr X12 E10
      have X16 : Ext h h14 := Own.Ext.kp X15 K14 (allS (Nat.le_trans X12.1 (Nat.le_of_eq g10.symm)) all0)
      exact Own.retA W14 (by decide) (by decide) rfl rfl rfl d2_40 ⟨o10, rfl, X16, (Nat.le_trans X12.1 (Nat.le_of_eq g10.symm)), by unfold mkCs; rw [if_neg hn0, if_pos hn1]; exact F14⟩
    · skip
      refine Own.icmpYes W0 d2_17 41 (XT.ii_ne_t hn1) (by decide) (by decide) ?_
      refine Own.iloadN W0 d2_41 42 rfl n rfl ?_
      refine Own.iconst W0 d2_42 43 rfl (2 : Int32) rfl ?_
      by_cases hn2 : n = (2 : Int32)
      · skip
        refine Own.icmpNo W0 d2_43 46 (XT.ii_ne_f hn2) rfl ?_
        refine Own.iconst W0 d2_46 47 rfl (2 : Int32) rfl ?_
        refine Own.newA W0 (tw hw 7 rfl) d2_47 49 rfl (by decide) 2 (by decide) (by decide) 1 2 (by decide) (by decide) (by decide) (by decide) ?_
        intro T17 h17 o17 c17 g17 W17 E17 A17 s17 k17
        have V17 : Arv G.Z h17 o17 c17 .char (2 : Int32) [(.int (0 : Int32)), (.int (0 : Int32))] (.int (0 : Int32)) := A17
        refine Own.astore W17 d2_49 51 rfl rfl #[.val (.int n), .val (.int a), .val (.int b), .val (.int c), .val (.ref o17)] rfl ?_
        refine Own.aload W17 d2_51 53 rfl (.ref o17) rfl rfl ?_
        refine Own.iconst W17 d2_53 54 rfl (0 : Int32) rfl ?_
        refine Own.iloadN W17 d2_54 55 rfl a rfl ?_
        refine Own.i2c W17 d2_55 56 rfl ?_
        refine Own.castore W17 V17 0 (by decide) (by decide) (Nat.le_of_ble_eq_true rfl) (Nat.le_trans W0.n0 (Nat.le_of_eq g17.symm)) (x' := a) (by show Own.chr (Own.chr a) = a; rw [show Own.chr a = a from Own.nar_of ha]; exact Own.nar_of ha) d2_56 57 rfl ?_
        intro T18 h18 W18 Q18 A18 k18
        have V18 : Arv G.Z h18 o17 c17 .char (2 : Int32) [(.int a), (.int (0 : Int32))] (.int (0 : Int32)) := A18
        refine Own.aload W18 d2_57 59 rfl (.ref o17) rfl rfl ?_
        refine Own.iconst W18 d2_59 60 rfl (1 : Int32) rfl ?_
        refine Own.iloadN W18 d2_60 61 rfl b rfl ?_
        refine Own.i2c W18 d2_61 62 rfl ?_
        refine Own.castore W18 V18 1 (by decide) (by decide) (Nat.le_of_ble_eq_true rfl) (Nat.le_trans W0.n0 (Nat.le_of_eq g17.symm)) (x' := b) (by show Own.chr (Own.chr b) = b; rw [show Own.chr b = b from Own.nar_of hb]; exact Own.nar_of hb) d2_62 63 rfl ?_
        intro T19 h19 W19 Q19 A19 k19
        have V19 : Arv G.Z h19 o17 c17 .char (2 : Int32) [(.int a), (.int b)] (.int (0 : Int32)) := A19
        refine Own.newO W19 (tw hw 8 rfl) (tw hw 9 rfl) (tw hw 10 rfl) d2_63 66 rfl 2 6 (by decide) (by decide) (by decide) (by decide) ?_
        intro T20 h20 o20 g20 W20 E20 A20 D20 s20 k20
        have F20_coder : Fld G.Z h20 o20 "java/lang/String" "coder" "B" (.int (0 : Int32)) := D20 (Or.inr (tw hw 34 rfl)) (ty := .byte) (by decide)
        have F20_value : Fld G.Z h20 o20 "java/lang/String" "value" "[B" .null := D20 (Or.inr (tw hw 36 rfl)) (ty := (.array .byte)) (by decide)
        refine Own.dup W20 d2_66 67 rfl rfl ?_
        refine Own.aload W20 d2_67 69 rfl (.ref o17) rfl rfl ?_
        have X21 : Ext h h17 := E17
        have X22 : Ext h h18 := Own.Ext.wr' X21 Q18 (Nat.le_of_eq g17.symm)
        have X23 : Ext h h19 := Own.Ext.wr' X22 Q19 (Nat.le_of_eq g17.symm)
        have X24 : Ext h19 h20 := E20
        refine Own.callX W20 rfl (tw hw 11 rfl) (tw hw 12 rfl) (tw hw 13 rfl) (by decide) (argsL := [(.ref o17)]) (rest := [(.ref o20)]) (Own.payStr (wS hw) hEL hmem W20 (cs := [a, b]) (z := (2 : Int32)) (cz := cz) (Nat.le_trans W0.n0 (Nat.le_trans X23.1 (Nat.le_of_eq g20.symm))) s20 A20 F20_value F20_coder ((V19.ext X24)) rfl (by intro x hx; simp only [List.mem_cons, List.not_mem_nil, or_false] at hx; rcases hx with rfl | rfl; exact ha; exact hb) (Nat.le_of_ble_eq_true rfl) hS hcz (len := 3) (wd := 1) (by decide) (by decide)) rfl (lenOf pd_0 rfl) rfl (Nat.le_of_ble_eq_true rfl) d2_69 72 rfl 6 16 (Nat.le_of_ble_eq_true rfl) (Nat.le_of_ble_eq_true rfl) (Nat.le_of_ble_eq_true rfl) (Nat.le_of_ble_eq_true rfl) ?_
        intro v25 T25 h25 u25 W25 R25 hq
        obtain ⟨rfl, K25, F25⟩ := hq
        show Own.Go _ _ _ _ _ 72 #[.val (.int n), .val (.int a), .val (.int b), .val (.int c), .val (.ref o17)] [(.ref o20)]
        have X26 : Ext h h20 := Own.Ext.tr X23 E20
        have X27 : Ext h h25 := Own.Ext.kp X26 K25 (allS (Nat.le_trans X23.1 (Nat.le_of_eq g20.symm)) all0)
        exact Own.retA W25 (by decide) (by decide) rfl rfl rfl d2_72 ⟨o20, rfl, X27, (Nat.le_trans X23.1 (Nat.le_of_eq g20.symm)), by unfold mkCs; rw [if_neg hn0, if_neg hn1, if_pos hn2]; exact F25⟩
      · skip
        refine Own.icmpYes W0 d2_43 73 (XT.ii_ne_t hn2) (by decide) (by decide) ?_
        refine Own.iconst W0 d2_73 74 rfl (3 : Int32) rfl ?_
        refine Own.newA W0 (tw hw 7 rfl) d2_74 76 rfl (by decide) 3 (by decide) (by decide) 1 3 (by decide) (by decide) (by decide) (by decide) ?_
        intro T28 h28 o28 c28 g28 W28 E28 A28 s28 k28
        have V28 : Arv G.Z h28 o28 c28 .char (3 : Int32) [(.int (0 : Int32)), (.int (0 : Int32)), (.int (0 : Int32))] (.int (0 : Int32)) := A28
        refine Own.astore W28 d2_76 78 rfl rfl #[.val (.int n), .val (.int a), .val (.int b), .val (.int c), .val (.ref o28)] rfl ?_
        refine Own.aload W28 d2_78 80 rfl (.ref o28) rfl rfl ?_
        refine Own.iconst W28 d2_80 81 rfl (0 : Int32) rfl ?_
        refine Own.iloadN W28 d2_81 82 rfl a rfl ?_
        refine Own.i2c W28 d2_82 83 rfl ?_
        refine Own.castore W28 V28 0 (by decide) (by decide) (Nat.le_of_ble_eq_true rfl) (Nat.le_trans W0.n0 (Nat.le_of_eq g28.symm)) (x' := a) (by show Own.chr (Own.chr a) = a; rw [show Own.chr a = a from Own.nar_of ha]; exact Own.nar_of ha) d2_83 84 rfl ?_
        intro T29 h29 W29 Q29 A29 k29
        have V29 : Arv G.Z h29 o28 c28 .char (3 : Int32) [(.int a), (.int (0 : Int32)), (.int (0 : Int32))] (.int (0 : Int32)) := A29
        refine Own.aload W29 d2_84 86 rfl (.ref o28) rfl rfl ?_
        refine Own.iconst W29 d2_86 87 rfl (1 : Int32) rfl ?_
        refine Own.iloadN W29 d2_87 88 rfl b rfl ?_
        refine Own.i2c W29 d2_88 89 rfl ?_
        refine Own.castore W29 V29 1 (by decide) (by decide) (Nat.le_of_ble_eq_true rfl) (Nat.le_trans W0.n0 (Nat.le_of_eq g28.symm)) (x' := b) (by show Own.chr (Own.chr b) = b; rw [show Own.chr b = b from Own.nar_of hb]; exact Own.nar_of hb) d2_89 90 rfl ?_
        intro T30 h30 W30 Q30 A30 k30
        have V30 : Arv G.Z h30 o28 c28 .char (3 : Int32) [(.int a), (.int b), (.int (0 : Int32))] (.int (0 : Int32)) := A30
        refine Own.aload W30 d2_90 92 rfl (.ref o28) rfl rfl ?_
        refine Own.iconst W30 d2_92 93 rfl (2 : Int32) rfl ?_
        refine Own.iloadN W30 d2_93 94 rfl c rfl ?_
        refine Own.i2c W30 d2_94 95 rfl ?_
        refine Own.castore W30 V30 2 (by decide) (by decide) (Nat.le_of_ble_eq_true rfl) (Nat.le_trans W0.n0 (Nat.le_of_eq g28.symm)) (x' := c) (by show Own.chr (Own.chr c) = c; rw [show Own.chr c = c from Own.nar_of hc]; exact Own.nar_of hc) d2_95 96 rfl ?_
        intro T31 h31 W31 Q31 A31 k31
        have V31 : Arv G.Z h31 o28 c28 .char (3 : Int32) [(.int a), (.int b), (.int c)] (.int (0 : Int32)) := A31
        refine Own.newO W31 (tw hw 8 rfl) (tw hw 9 rfl) (tw hw 10 rfl) d2_96 99 rfl 2 7 (by decide) (by decide) (by decide) (by decide) ?_
        intro T32 h32 o32 g32 W32 E32 A32 D32 s32 k32
        have F32_coder : Fld G.Z h32 o32 "java/lang/String" "coder" "B" (.int (0 : Int32)) := D32 (Or.inr (tw hw 34 rfl)) (ty := .byte) (by decide)
        have F32_value : Fld G.Z h32 o32 "java/lang/String" "value" "[B" .null := D32 (Or.inr (tw hw 36 rfl)) (ty := (.array .byte)) (by decide)
        refine Own.dup W32 d2_99 100 rfl rfl ?_
        refine Own.aload W32 d2_100 102 rfl (.ref o28) rfl rfl ?_
        have X33 : Ext h h28 := E28
        have X34 : Ext h h29 := Own.Ext.wr' X33 Q29 (Nat.le_of_eq g28.symm)
        have X35 : Ext h h30 := Own.Ext.wr' X34 Q30 (Nat.le_of_eq g28.symm)
        have X36 : Ext h h31 := Own.Ext.wr' X35 Q31 (Nat.le_of_eq g28.symm)
        have X37 : Ext h31 h32 := E32
        refine Own.callX W32 rfl (tw hw 11 rfl) (tw hw 12 rfl) (tw hw 13 rfl) (by decide) (argsL := [(.ref o28)]) (rest := [(.ref o32)]) (Own.payStr (wS hw) hEL hmem W32 (cs := [a, b, c]) (z := (3 : Int32)) (cz := cz) (Nat.le_trans W0.n0 (Nat.le_trans X36.1 (Nat.le_of_eq g32.symm))) s32 A32 F32_value F32_coder ((V31.ext X37)) rfl (by intro x hx; simp only [List.mem_cons, List.not_mem_nil, or_false] at hx; rcases hx with rfl | rfl | rfl; exact ha; exact hb; exact hc) (Nat.le_of_ble_eq_true rfl) hS hcz (len := 3) (wd := 1) (by decide) (by decide)) rfl (lenOf pd_0 rfl) rfl (Nat.le_of_ble_eq_true rfl) d2_102 105 rfl 6 18 (Nat.le_of_ble_eq_true rfl) (Nat.le_of_ble_eq_true rfl) (Nat.le_of_ble_eq_true rfl) (Nat.le_of_ble_eq_true rfl) ?_
        intro v38 T38 h38 u38 W38 R38 hq
        obtain ⟨rfl, K38, F38⟩ := hq
        show Own.Go _ _ _ _ _ 105 #[.val (.int n), .val (.int a), .val (.int b), .val (.int c), .val (.ref o28)] [(.ref o32)]
        have X39 : Ext h h32 := Own.Ext.tr X36 E32
        have X40 : Ext h h38 := Own.Ext.kp X39 K38 (allS (Nat.le_trans X36.1 (Nat.le_of_eq g32.symm)) all0)
        exact Own.retA W38 (by decide) (by decide) rfl rfl rfl d2_105 ⟨o32, rfl, X40, (Nat.le_trans X36.1 (Nat.le_of_eq g32.symm)), by unfold mkCs; rw [if_neg hn0, if_neg hn1, if_neg hn2]; exact F38⟩
set_option maxRecDepth 65536 in
set_option maxHeartbeats 40000000 in
theorem con_tag {G : Own.Gl} (hw : ∀ d ∈ tables_1, d.before G.a0 G.Z = true) (hEL : EW G.Z G.a0 G.EL) {a : Addr} (nm : Addr) (cl : Int32) (hnar : narrow .boolean (.int cl) = .int cl) (hfit : fits .boolean (.int cl) = true) (ln : Int64) {h : Heap} (hO : Old G.Z G.n0 h) (hn_a : G.n0 ≤ a) (E : Exa G.Z h a "com/example/lopa/lopa/trec/SgmlScanner$Tag") {u_name : Value} (F_name : Fld G.Z h a "com/example/lopa/lopa/trec/SgmlScanner$Tag" "name" "Ljava/lang/String;" u_name) {u_closing : Value} (F_closing : Fld G.Z h a "com/example/lopa/lopa/trec/SgmlScanner$Tag" "closing" "Z" u_closing) {u_line : Value} (F_line : Fld G.Z h a "com/example/lopa/lopa/trec/SgmlScanner$Tag" "line" "J" u_line) :
    Own.Con G [] bTag #[.ref a, .ref nm, .int cl, .long ln] h [] (fun v h' => v = none ∧ Keep h h' [a] ∧ Exa G.Z h' a "com/example/lopa/lopa/trec/SgmlScanner$Tag" ∧ Fld G.Z h' a "com/example/lopa/lopa/trec/SgmlScanner$Tag" "name" "Ljava/lang/String;" (.ref nm) ∧ Fld G.Z h' a "com/example/lopa/lopa/trec/SgmlScanner$Tag" "closing" "Z" (.int cl) ∧ Fld G.Z h' a "com/example/lopa/lopa/trec/SgmlScanner$Tag" "line" "J" (.long ln)) := by
  refine Own.Con.intro (plainFor_of_name pn_3) hO hEL _ (fun m => ef_bTag m a nm cl ln) ?_
  intro X T0 W0 sf
  refine Own.aloadN W0 d9_0 1 rfl (.ref a) rfl rfl ?_
  refine Own.callX W0 rfl (tw hw 43 rfl) (tw hw 44 rfl) (tw hw 47 rfl) (by decide) (argsL := []) (rest := []) (Own.Con.pay (con_rec hw hEL a W0.old) W0 (tw hw 47 rfl) (tw hw 46 rfl) (len := 3) (wd := 0) (by decide) (by decide) (fun _ q => nomatch q)) rfl (lenOf pd_1 rfl) rfl (Nat.le_of_ble_eq_true rfl) d9_1 4 rfl 0 0 (Nat.le_of_ble_eq_true rfl) (Nat.le_of_ble_eq_true rfl) (Nat.le_of_ble_eq_true rfl) (Nat.le_of_ble_eq_true rfl) ?_
  intro v1 T1 h1 u1 W1 R1 hq
  obtain ⟨rfl, eh1⟩ := hq
  have ei1 := eh1.symm; subst ei1
  show Own.Go _ _ _ _ _ 4 #[.val (.ref a), .val (.ref nm), .val (.int cl), .val (.long ln), .second] []
  refine Own.aloadN W1 d9_4 5 rfl (.ref a) rfl rfl ?_
  refine Own.aloadN W1 d9_5 6 rfl (.ref nm) rfl rfl ?_
  refine Own.putF W1 (tw hw 49 rfl) Via.refl F_name E (Or.inr ⟨(tw hw 50 rfl), rfl, rfl⟩) (tw hw 38 rfl) (ty := (.object "java/lang/String")) (v' := (.ref nm)) (by decide) rfl rfl hn_a (Safe.exa W1.wz.alike E (by decide) (by decide)) d9_6 9 rfl ?_
  intro T2 h2 W2 Q2 k2
  have F2_name := Fld.same Q2 F_name
  refine Own.aloadN W2 d9_9 10 rfl (.ref a) rfl rfl ?_
  refine Own.iloadN W2 d9_10 11 rfl cl rfl ?_
  refine Own.putF W2 (tw hw 51 rfl) Via.refl (F_closing.other Q2 (Or.inr (slot_ne (Or.inr (tw hw 52 rfl)) (Or.inr (tw hw 50 rfl)) (by decide) (t := .boolean) (t' := (.object "java/lang/String")) (by decide) (by decide)))) (E.wr Q2) (Or.inr ⟨(tw hw 52 rfl), rfl, rfl⟩) (tw hw 38 rfl) (ty := .boolean) (v' := (.int cl)) (by decide) hnar hfit hn_a (Safe.exa W2.wz.alike (E.wr Q2) (by decide) (by decide)) d9_11 14 rfl ?_
  intro T3 h3 W3 Q3 k3
  have F3_closing := Fld.same Q3 (F_closing.other Q2 (Or.inr (slot_ne (Or.inr (tw hw 52 rfl)) (Or.inr (tw hw 50 rfl)) (by decide) (t := .boolean) (t' := (.object "java/lang/String")) (by decide) (by decide))))
  refine Own.aloadN W3 d9_14 15 rfl (.ref a) rfl rfl ?_
  refine Own.lloadN W3 d9_15 16 rfl ln rfl ?_
  refine Own.putF W3 (tw hw 53 rfl) Via.refl ((F_line.other Q2 (Or.inr (slot_ne (Or.inr (tw hw 54 rfl)) (Or.inr (tw hw 50 rfl)) (by decide) (t := .long) (t' := (.object "java/lang/String")) (by decide) (by decide)))).other Q3 (Or.inr (slot_ne (Or.inr (tw hw 54 rfl)) (Or.inr (tw hw 52 rfl)) (by decide) (t := .long) (t' := .boolean) (by decide) (by decide)))) ((E.wr Q2).wr Q3) (Or.inr ⟨(tw hw 54 rfl), rfl, rfl⟩) (tw hw 38 rfl) (ty := .long) (v' := (.long ln)) (by decide) rfl rfl hn_a (Safe.exa W3.wz.alike ((E.wr Q2).wr Q3) (by decide) (by decide)) d9_16 19 rfl ?_
  intro T4 h4 W4 Q4 k4
  have F4_line := Fld.same Q4 ((F_line.other Q2 (Or.inr (slot_ne (Or.inr (tw hw 54 rfl)) (Or.inr (tw hw 50 rfl)) (by decide) (t := .long) (t' := (.object "java/lang/String")) (by decide) (by decide)))).other Q3 (Or.inr (slot_ne (Or.inr (tw hw 54 rfl)) (Or.inr (tw hw 52 rfl)) (by decide) (t := .long) (t' := .boolean) (by decide) (by decide))))
  exact Own.retV W4 (by decide) (by decide) rfl d9_19 ⟨rfl, (Keep.wr (Keep.wr (Keep.wr (Keep.refl h [a]) Q2 (Or.inl (List.mem_singleton.mpr rfl))) Q3 (Or.inl (List.mem_singleton.mpr rfl))) Q4 (Or.inl (List.mem_singleton.mpr rfl))), (((E.wr Q2).wr Q3).wr Q4), ((F2_name.other Q3 (Or.inr (slot_ne (Or.inr (tw hw 50 rfl)) (Or.inr (tw hw 52 rfl)) (by decide) (t := (.object "java/lang/String")) (t' := .boolean) (by decide) (by decide)))).other Q4 (Or.inr (slot_ne (Or.inr (tw hw 50 rfl)) (Or.inr (tw hw 54 rfl)) (by decide) (t := (.object "java/lang/String")) (t' := .long) (by decide) (by decide)))), (F3_closing.other Q4 (Or.inr (slot_ne (Or.inr (tw hw 52 rfl)) (Or.inr (tw hw 54 rfl)) (by decide) (t := .boolean) (t' := .long) (by decide) (by decide)))), F4_line⟩
set_option maxRecDepth 65536 in
set_option maxHeartbeats 40000000 in
theorem con_eqI {G : Own.Gl} (hw : ∀ d ∈ tables_1, d.before G.a0 G.Z = true) (hEL : EW G.Z G.a0 G.EL) (ch dh : Int32) (hch : (¬ ch < 0 ∧ ¬ (255 : Int32) < ch)) (hdh : (¬ dh < 0 ∧ ¬ (255 : Int32) < dh)) {h : Heap} (hO : Old G.Z G.n0 h) :
    Own.Con G [] bEqI #[.int ch.toInt8.toInt32, .int dh.toInt8.toInt32] h [] (fun v h' => ((v = some (.int 1) ∧ foldF ch = foldF dh) ∨ (v = some (.int 0) ∧ ¬ foldF ch = foldF dh)) ∧ h' = h) := by
  refine Own.Con.intro (plainFor_of_name pn_4) hO hEL _ (fun m => ef_bEqI m ch.toInt8.toInt32 dh.toInt8.toInt32) ?_
  intro X T0 W0 sf
  refine Own.iloadN W0 d18_0 1 rfl ch.toInt8.toInt32 rfl ?_
  refine Own.iloadN W0 d18_1 2 rfl dh.toInt8.toInt32 rfl ?_
  by_cases x1 : ch.toInt8.toInt32 = dh.toInt8.toInt32
  · skip
    refine Own.icmpNo W0 d18_2 5 (XT.ii_ne_f x1) rfl ?_
    refine Own.iconst W0 d18_5 6 rfl (1 : Int32) rfl ?_
    exact Own.retB W0 (by decide) (by decide) rfl d18_6 rfl ⟨Or.inl ⟨rfl, (eqI_spec hch hdh).mpr (Or.inl x1)⟩, rfl⟩
  · skip
    refine Own.icmpYes W0 d18_2 7 (XT.ii_ne_t x1) (by decide) (by decide) ?_
    refine Own.iloadN W0 d18_7 8 rfl ch.toInt8.toInt32 rfl ?_
    refine Own.sipush W0 d18_8 11 rfl (223 : Int32) rfl ?_
    refine Own.iand W0 d18_11 12 rfl ?_
    refine Own.istoreN W0 d18_12 13 rfl #[.val (.int ch.toInt8.toInt32), .val (.int dh.toInt8.toInt32), .val (.int (ch.toInt8.toInt32 &&& (223 : Int32)))] rfl ?_
    refine Own.iloadN W0 d18_13 14 rfl (ch.toInt8.toInt32 &&& (223 : Int32)) rfl ?_
    refine Own.bipush W0 d18_14 16 rfl (65 : Int32) rfl ?_
    by_cases x2 : (ch.toInt8.toInt32 &&& (223 : Int32)) < (65 : Int32)
    · skip
      refine Own.icmpNo W0 d18_16 19 (XT.ii_ge_f x2) rfl ?_
      refine Own.iconst W0 d18_19 20 rfl (0 : Int32) rfl ?_
      exact Own.retB W0 (by decide) (by decide) rfl d18_20 rfl ⟨Or.inr ⟨rfl, fun q => ((eqI_spec hch hdh).mp q).elim (fun z => absurd z x1) (fun z => absurd x2 z.1.1)⟩, rfl⟩
    · skip
      refine Own.icmpYes W0 d18_16 21 (XT.ii_ge_t x2) (by decide) (by decide) ?_
      refine Own.iloadN W0 d18_21 22 rfl (ch.toInt8.toInt32 &&& (223 : Int32)) rfl ?_
      refine Own.bipush W0 d18_22 24 rfl (90 : Int32) rfl ?_
      by_cases x3 : (90 : Int32) < (ch.toInt8.toInt32 &&& (223 : Int32))
      · skip
        refine Own.icmpNo W0 d18_24 27 (XT.ii_le_f x3) rfl ?_
        refine Own.iloadN W0 d18_27 28 rfl (ch.toInt8.toInt32 &&& (223 : Int32)) rfl ?_
        refine Own.sipush W0 d18_28 31 rfl (192 : Int32) rfl ?_
        by_cases x4 : (ch.toInt8.toInt32 &&& (223 : Int32)) < (192 : Int32)
        · skip
          refine Own.icmpYes W0 d18_31 61 (XT.ii_lt_t x4) (by decide) (by decide) ?_
          refine Own.iconst W0 d18_61 62 rfl (0 : Int32) rfl ?_
          exact Own.retB W0 (by decide) (by decide) rfl d18_62 rfl ⟨Or.inr ⟨rfl, fun q => ((eqI_spec hch hdh).mp q).elim (fun z => absurd z x1) (fun z => z.1.2.elim (fun k => absurd x3 k) (fun k => absurd x4 k.1))⟩, rfl⟩
        · skip
          refine Own.icmpNo W0 d18_31 34 (XT.ii_lt_f x4) rfl ?_
          refine Own.iloadN W0 d18_34 35 rfl (ch.toInt8.toInt32 &&& (223 : Int32)) rfl ?_
          refine Own.sipush W0 d18_35 38 rfl (222 : Int32) rfl ?_
          by_cases x5 : (222 : Int32) < (ch.toInt8.toInt32 &&& (223 : Int32))
          · skip
            refine Own.icmpYes W0 d18_38 61 (XT.ii_gt_t x5) (by decide) (by decide) ?_
            refine Own.iconst W0 d18_61 62 rfl (0 : Int32) rfl ?_
            exact Own.retB W0 (by decide) (by decide) rfl d18_62 rfl ⟨Or.inr ⟨rfl, fun q => ((eqI_spec hch hdh).mp q).elim (fun z => absurd z x1) (fun z => z.1.2.elim (fun k => absurd x3 k) (fun k => absurd x5 k.2.1))⟩, rfl⟩
          · skip
            refine Own.icmpNo W0 d18_38 41 (XT.ii_gt_f x5) rfl ?_
            refine Own.iloadN W0 d18_41 42 rfl (ch.toInt8.toInt32 &&& (223 : Int32)) rfl ?_
            refine Own.sipush W0 d18_42 45 rfl (215 : Int32) rfl ?_
            by_cases x6 : (ch.toInt8.toInt32 &&& (223 : Int32)) = (215 : Int32)
            · skip
              refine Own.icmpYes W0 d18_45 61 (XT.ii_eq_t x6) (by decide) (by decide) ?_
              refine Own.iconst W0 d18_61 62 rfl (0 : Int32) rfl ?_
              exact Own.retB W0 (by decide) (by decide) rfl d18_62 rfl ⟨Or.inr ⟨rfl, fun q => ((eqI_spec hch hdh).mp q).elim (fun z => absurd z x1) (fun z => z.1.2.elim (fun k => absurd x3 k) (fun k => absurd x6 k.2.2))⟩, rfl⟩
            · skip
              refine Own.icmpNo W0 d18_45 48 (XT.ii_eq_f x6) rfl ?_
              refine Own.iloadN W0 d18_48 49 rfl (ch.toInt8.toInt32 &&& (223 : Int32)) rfl ?_
              refine Own.iloadN W0 d18_49 50 rfl dh.toInt8.toInt32 rfl ?_
              refine Own.sipush W0 d18_50 53 rfl (223 : Int32) rfl ?_
              refine Own.iand W0 d18_53 54 rfl ?_
              by_cases x9 : (ch.toInt8.toInt32 &&& (223 : Int32)) = (dh.toInt8.toInt32 &&& (223 : Int32))
              · skip
                refine Own.icmpNo W0 d18_54 57 (XT.ii_ne_f x9) rfl ?_
                refine Own.iconst W0 d18_57 58 rfl (1 : Int32) rfl ?_
                refine Own.goto W0 d18_58 62 (by decide) (by decide) ?_
                exact Own.retB W0 (by decide) (by decide) rfl d18_62 rfl ⟨Or.inl ⟨rfl, (eqI_spec hch hdh).mpr (Or.inr ⟨⟨x2, Or.inr ⟨x4, x5, x6⟩⟩, x9⟩)⟩, rfl⟩
              · skip
                refine Own.icmpYes W0 d18_54 61 (XT.ii_ne_t x9) (by decide) (by decide) ?_
                refine Own.iconst W0 d18_61 62 rfl (0 : Int32) rfl ?_
                exact Own.retB W0 (by decide) (by decide) rfl d18_62 rfl ⟨Or.inr ⟨rfl, fun q => ((eqI_spec hch hdh).mp q).elim (fun z => absurd z x1) (fun z => absurd z.2 x9)⟩, rfl⟩
      · skip
        refine Own.icmpYes W0 d18_24 48 (XT.ii_le_t x3) (by decide) (by decide) ?_
        refine Own.iloadN W0 d18_48 49 rfl (ch.toInt8.toInt32 &&& (223 : Int32)) rfl ?_
        refine Own.iloadN W0 d18_49 50 rfl dh.toInt8.toInt32 rfl ?_
        refine Own.sipush W0 d18_50 53 rfl (223 : Int32) rfl ?_
        refine Own.iand W0 d18_53 54 rfl ?_
        by_cases x9 : (ch.toInt8.toInt32 &&& (223 : Int32)) = (dh.toInt8.toInt32 &&& (223 : Int32))
        · skip
          refine Own.icmpNo W0 d18_54 57 (XT.ii_ne_f x9) rfl ?_
          refine Own.iconst W0 d18_57 58 rfl (1 : Int32) rfl ?_
          refine Own.goto W0 d18_58 62 (by decide) (by decide) ?_
          exact Own.retB W0 (by decide) (by decide) rfl d18_62 rfl ⟨Or.inl ⟨rfl, (eqI_spec hch hdh).mpr (Or.inr ⟨⟨x2, Or.inl x3⟩, x9⟩)⟩, rfl⟩
        · skip
          refine Own.icmpYes W0 d18_54 61 (XT.ii_ne_t x9) (by decide) (by decide) ?_
          refine Own.iconst W0 d18_61 62 rfl (0 : Int32) rfl ?_
          exact Own.retB W0 (by decide) (by decide) rfl d18_62 rfl ⟨Or.inr ⟨rfl, fun q => ((eqI_spec hch hdh).mp q).elim (fun z => absurd z x1) (fun z => absurd z.2 x9)⟩, rfl⟩
set_option maxRecDepth 65536 in
set_option maxHeartbeats 40000000 in
theorem con_rci0 {G : Own.Gl} (hw : ∀ d ∈ tables_1, d.before G.a0 G.Z = true) (hEL : EW G.Z G.a0 G.EL) {t t' : Addr} {kb kb' : ClassId} {h : Heap} (hO : Old G.Z G.n0 h) (A1 : Arv G.Z h t kb .byte 0 [] (.int 0)) (A2 : Arv G.Z h t' kb' .byte 0 [] (.int 0)) :
    Own.Con G [] bRci #[.ref t, .int 0, .ref t', .int 0, .int 0] h [] (fun v h' => ((v = some (.int 1) ∧ ([] : List Int32).map foldF = ([] : List Int32).map foldF) ∨ (v = some (.int 0) ∧ ¬ ([] : List Int32).map foldF = ([] : List Int32).map foldF)) ∧ h' = h) := by
  refine Own.Con.intro (plainFor_of_name pn_5) hO hEL _ (fun m => ef_bRci m t 0 t' 0 0) ?_
  intro X T0 W0 sf
  refine Own.iloadN W0 d17_0 1 rfl (0 : Int32) rfl ?_
  refine Own.iload W0 d17_1 3 rfl (0 : Int32) rfl ?_
  refine Own.iadd W0 d17_3 4 rfl ?_
  refine Own.istore W0 d17_4 6 rfl #[.val (.ref t), .val (.int (0 : Int32)), .val (.ref t'), .val (.int (0 : Int32)), .val (.int (0 : Int32)), .val (.int (0 : Int32)), .unset, .unset] rfl ?_
  refine Own.iloadN W0 d17_6 7 rfl (0 : Int32) rfl ?_
  refine Own.iload W0 d17_7 9 rfl (0 : Int32) rfl ?_
  refine Own.icmpYes W0 d17_9 43 (by decide) (by decide) (by decide) ?_
  refine Own.iconst W0 d17_43 44 rfl (1 : Int32) rfl ?_
  exact Own.retB W0 (by decide) (by decide) rfl d17_44 rfl ⟨Or.inl ⟨rfl, by simp []⟩, rfl⟩
set_option maxRecDepth 65536 in
set_option maxHeartbeats 40000000 in
theorem con_rm0 {G : Own.Gl} (hw : ∀ d ∈ tables_1, d.before G.a0 G.Z = true) (hEL : EW G.Z G.a0 G.EL) (hmem : (Own.ST, 7) ∈ G.EL) {cz : Int32} (hS : Sta G.Z G.Z.heap Own.ST "COMPACT_STRINGS" "Z" (.int cz)) (hcz : ¬ cz = 0) {x y : Addr} {h : Heap} (hO : Old G.Z G.n0 h) (S1 : Own.Str G.Z h x []) (S2 : Own.Str G.Z h y []) :
    Own.Con G [] bRm #[.ref x, .int 1, .int 0, .ref y, .int 0, .int 0] h [] (fun v h' => ((v = some (.int 1) ∧ ([] : List Int32).map foldF = ([] : List Int32).map foldF) ∨ (v = some (.int 0) ∧ ¬ ([] : List Int32).map foldF = ([] : List Int32).map foldF)) ∧ h' = h) := by
  refine Own.Con.intro (plainFor_of_name pn_1) hO hEL _ (fun m => ef_bRm m x 1 0 y 0 0) ?_
  intro X T0 W0 sf
  obtain ⟨E1, C1, R1, L1, t1, k1, V1, B1⟩ := id S1
  have A1 : Arv G.Z h t1 k1 .byte (0 : Int32) [] (.int 0) := B1
  obtain ⟨E2, C2, R2, L2, t2, k2, V2, B2⟩ := id S2
  have A2 : Arv G.Z h t2 k2 .byte (0 : Int32) [] (.int 0) := B2
  refine Own.iloadN W0 d16_0 1 rfl (1 : Int32) rfl ?_
  refine Own.ifYes W0 d16_1 15 (by decide) (by decide) (by decide) ?_
  refine Own.iload W0 d16_15 17 rfl (0 : Int32) rfl ?_
  refine Own.ifNo W0 d16_17 20 (by decide) rfl ?_
  refine Own.iloadN W0 d16_20 21 rfl (0 : Int32) rfl ?_
  refine Own.ifNo W0 d16_21 24 (by decide) rfl ?_
  refine Own.iloadN W0 d16_24 25 rfl (0 : Int32) rfl ?_
  refine Own.i2l W0 d16_25 26 rfl ?_
  refine Own.aloadN W0 d16_26 27 rfl (.ref x) rfl rfl ?_
  refine Own.callV W0 (tw hw 71 rfl) (tw hw 72 rfl) (fun s q => notFace_of_selects (args := #[]) (mvT (s := s) q (tw hw 74 rfl))) (tw hw 74 rfl) (tw hw 73 rfl) (by decide) (argsL := []) (rest := [(.long ((0 : Int32).toInt64))]) (Own.payLen (wL hw) (kI := 4) (tw hw 9 rfl) W0 S1 hS hcz (len := 3) (wd := 2) (by decide) (by decide)) E1 rfl (lenOf pd_2 rfl) rfl (Nat.le_of_ble_eq_true rfl) d16_27 30 rfl 0 0 (Nat.le_of_ble_eq_true rfl) (Nat.le_of_ble_eq_true rfl) (Nat.le_of_ble_eq_true rfl) (Nat.le_of_ble_eq_true rfl) ?_
  intro v1 T1 h1 u1 W1 R1 hq
  obtain ⟨rfl, eh1⟩ := hq
  have ei1 := eh1.symm; subst ei1
  show Own.Go _ _ _ _ _ 30 #[.val (.ref x), .val (.int (1 : Int32)), .val (.int (0 : Int32)), .val (.ref y), .val (.int (0 : Int32)), .val (.int (0 : Int32)), .unset, .unset, .unset] [(.int (0 : Int32)), (.long ((0 : Int32).toInt64))]
  refine Own.i2l W1 d16_30 31 rfl ?_
  refine Own.iload W1 d16_31 33 rfl (0 : Int32) rfl ?_
  refine Own.i2l W1 d16_33 34 rfl ?_
  refine Own.lsub W1 d16_34 35 rfl ?_
  refine Own.lcmp W1 d16_35 36 rfl ?_
  refine Own.ifNo W1 d16_36 39 (by decide) rfl ?_
  refine Own.iload W1 d16_39 41 rfl (0 : Int32) rfl ?_
  refine Own.i2l W1 d16_41 42 rfl ?_
  refine Own.aloadN W1 d16_42 43 rfl (.ref y) rfl rfl ?_
  refine Own.callV W1 (tw hw 71 rfl) (tw hw 72 rfl) (fun s q => notFace_of_selects (args := #[]) (mvT (s := s) q (tw hw 74 rfl))) (tw hw 74 rfl) (tw hw 73 rfl) (by decide) (argsL := []) (rest := [(.long ((0 : Int32).toInt64))]) (Own.payLen (wL hw) (kI := 4) (tw hw 9 rfl) W1 S2 hS hcz (len := 3) (wd := 2) (by decide) (by decide)) E2 rfl (lenOf pd_2 rfl) rfl (Nat.le_of_ble_eq_true rfl) d16_43 46 rfl 0 0 (Nat.le_of_ble_eq_true rfl) (Nat.le_of_ble_eq_true rfl) (Nat.le_of_ble_eq_true rfl) (Nat.le_of_ble_eq_true rfl) ?_
  intro v2 T2 h2 u2 W2 R2 hq
  obtain ⟨rfl, eh2⟩ := hq
  have ei2 := eh2.symm; subst ei2
  show Own.Go _ _ _ _ _ 46 #[.val (.ref x), .val (.int (1 : Int32)), .val (.int (0 : Int32)), .val (.ref y), .val (.int (0 : Int32)), .val (.int (0 : Int32)), .unset, .unset, .unset] [(.int (0 : Int32)), (.long ((0 : Int32).toInt64))]
  refine Own.i2l W2 d16_46 47 rfl ?_
  refine Own.iload W2 d16_47 49 rfl (0 : Int32) rfl ?_
  refine Own.i2l W2 d16_49 50 rfl ?_
  refine Own.lsub W2 d16_50 51 rfl ?_
  refine Own.lcmp W2 d16_51 52 rfl ?_
  refine Own.ifYes W2 d16_52 57 (by decide) (by decide) (by decide) ?_
  refine Own.aloadN W2 d16_57 58 rfl (.ref x) rfl rfl ?_
  refine Own.getF W2 (tw hw 35 rfl) Via.refl V1 d16_58 61 rfl ?_
  intro T3 W3
  refine Own.astore W3 d16_61 63 rfl rfl #[.val (.ref x), .val (.int (1 : Int32)), .val (.int (0 : Int32)), .val (.ref y), .val (.int (0 : Int32)), .val (.int (0 : Int32)), .val (.ref t1), .unset, .unset] rfl ?_
  refine Own.aloadN W3 d16_63 64 rfl (.ref y) rfl rfl ?_
  refine Own.getF W3 (tw hw 35 rfl) Via.refl V2 d16_64 67 rfl ?_
  intro T4 W4
  refine Own.astore W4 d16_67 69 rfl rfl #[.val (.ref x), .val (.int (1 : Int32)), .val (.int (0 : Int32)), .val (.ref y), .val (.int (0 : Int32)), .val (.int (0 : Int32)), .val (.ref t1), .val (.ref t2), .unset] rfl ?_
  refine Own.aloadN W4 d16_69 70 rfl (.ref x) rfl rfl ?_
  refine Own.callV W4 (tw hw 76 rfl) (tw hw 77 rfl) (fun s q => notFace_of_selects (args := #[]) (mvT (s := s) q (tw hw 79 rfl))) (tw hw 79 rfl) (tw hw 78 rfl) (by decide) (argsL := []) (rest := []) (Own.Con.pay (con_cdr hw hEL hmem hS hcz W4.old C1) W4 (tw hw 80 rfl) (tw hw 10 rfl) (len := 3) (wd := 0) (by decide) (by decide) (fun _ q => nomatch q)) E1 rfl (lenOf pd_3 rfl) rfl (Nat.le_of_ble_eq_true rfl) d16_70 73 rfl 0 0 (Nat.le_of_ble_eq_true rfl) (Nat.le_of_ble_eq_true rfl) (Nat.le_of_ble_eq_true rfl) (Nat.le_of_ble_eq_true rfl) ?_
  intro v5 T5 h5 u5 W5 R5 hq
  obtain ⟨rfl, eh5⟩ := hq
  have ei5 := eh5.symm; subst ei5
  show Own.Go _ _ _ _ _ 73 #[.val (.ref x), .val (.int (1 : Int32)), .val (.int (0 : Int32)), .val (.ref y), .val (.int (0 : Int32)), .val (.int (0 : Int32)), .val (.ref t1), .val (.ref t2), .unset] [(.int (0 : Int32))]
  refine Own.istore W5 d16_73 75 rfl #[.val (.ref x), .val (.int (1 : Int32)), .val (.int (0 : Int32)), .val (.ref y), .val (.int (0 : Int32)), .val (.int (0 : Int32)), .val (.ref t1), .val (.ref t2), .val (.int (0 : Int32))] rfl ?_
  refine Own.iload W5 d16_75 77 rfl (0 : Int32) rfl ?_
  refine Own.aloadN W5 d16_77 78 rfl (.ref y) rfl rfl ?_
  refine Own.callV W5 (tw hw 76 rfl) (tw hw 77 rfl) (fun s q => notFace_of_selects (args := #[]) (mvT (s := s) q (tw hw 79 rfl))) (tw hw 79 rfl) (tw hw 78 rfl) (by decide) (argsL := []) (rest := [(.int (0 : Int32))]) (Own.Con.pay (con_cdr hw hEL hmem hS hcz W5.old C2) W5 (tw hw 80 rfl) (tw hw 10 rfl) (len := 3) (wd := 1) (by decide) (by decide) (fun _ q => nomatch q)) E2 rfl (lenOf pd_3 rfl) rfl (Nat.le_of_ble_eq_true rfl) d16_78 81 rfl 0 0 (Nat.le_of_ble_eq_true rfl) (Nat.le_of_ble_eq_true rfl) (Nat.le_of_ble_eq_true rfl) (Nat.le_of_ble_eq_true rfl) ?_
  intro v6 T6 h6 u6 W6 R6 hq
  obtain ⟨rfl, eh6⟩ := hq
  have ei6 := eh6.symm; subst ei6
  show Own.Go _ _ _ _ _ 81 #[.val (.ref x), .val (.int (1 : Int32)), .val (.int (0 : Int32)), .val (.ref y), .val (.int (0 : Int32)), .val (.int (0 : Int32)), .val (.ref t1), .val (.ref t2), .val (.int (0 : Int32))] [(.int (0 : Int32)), (.int (0 : Int32))]
  refine Own.icmpNo W6 d16_81 84 (by decide) rfl ?_
  refine Own.iload W6 d16_84 86 rfl (0 : Int32) rfl ?_
  refine Own.ifNo W6 d16_86 89 (by decide) rfl ?_
  refine Own.aload W6 d16_89 91 rfl (.ref t1) rfl rfl ?_
  refine Own.iloadN W6 d16_91 92 rfl (0 : Int32) rfl ?_
  refine Own.aload W6 d16_92 94 rfl (.ref t2) rfl rfl ?_
  refine Own.iload W6 d16_94 96 rfl (0 : Int32) rfl ?_
  refine Own.iload W6 d16_96 98 rfl (0 : Int32) rfl ?_
  refine Own.callS W6 (tw hw 86 rfl) (tw hw 87 rfl) (tw hw 88 rfl) (tw hw 89 rfl) (by decide) (argsL := [(.ref t1), (.int (0 : Int32)), (.ref t2), (.int (0 : Int32)), (.int (0 : Int32))]) (rest := []) (Own.Con.pay (con_rci0 hw hEL W6.old A1 A2) W6 (tw hw 89 rfl) (tw hw 88 rfl) (len := 3) (wd := 0) (by decide) (by decide) (fun _ q => nomatch q)) rfl (lenOf pd_4 rfl) rfl (Nat.le_of_ble_eq_true rfl) d16_98 101 rfl 0 0 (Nat.le_of_ble_eq_true rfl) (Nat.le_of_ble_eq_true rfl) (Nat.le_of_ble_eq_true rfl) (Nat.le_of_ble_eq_true rfl) ?_
  intro v7 T7 h7 u7 W7 R7 hq
  obtain ⟨hv7, eh7⟩ := hq
  have ei7 := eh7.symm; subst ei7
  rcases hv7 with ⟨rfl, q⟩ | ⟨rfl, q⟩
  · skip
    show Own.Go _ _ _ _ _ 101 #[.val (.ref x), .val (.int (1 : Int32)), .val (.int (0 : Int32)), .val (.ref y), .val (.int (0 : Int32)), .val (.int (0 : Int32)), .val (.ref t1), .val (.ref t2), .val (.int (0 : Int32))] [(.int (1 : Int32))]
    refine Own.goto W7 d16_101 116 (by decide) (by decide) ?_
    exact Own.retB W7 (by decide) (by decide) rfl d16_116 rfl ⟨Or.inl ⟨rfl, q⟩, rfl⟩
  · skip
    show Own.Go _ _ _ _ _ 101 #[.val (.ref x), .val (.int (1 : Int32)), .val (.int (0 : Int32)), .val (.ref y), .val (.int (0 : Int32)), .val (.int (0 : Int32)), .val (.ref t1), .val (.ref t2), .val (.int (0 : Int32))] [(.int (0 : Int32))]
    refine Own.goto W7 d16_101 116 (by decide) (by decide) ?_
    exact Own.retB W7 (by decide) (by decide) rfl d16_116 rfl ⟨Or.inr ⟨rfl, q⟩, rfl⟩
set_option maxRecDepth 65536 in
set_option maxHeartbeats 40000000 in
theorem con_rci1 {G : Own.Gl} (hw : ∀ d ∈ tables_1, d.before G.a0 G.Z = true) (hEL : EW G.Z G.a0 G.EL) {t t' : Addr} {kb kb' : ClassId} {a a' : Int32} (h0 : (¬ a < 0 ∧ ¬ (255 : Int32) < a)) (g0 : (¬ a' < 0 ∧ ¬ (255 : Int32) < a')) {h : Heap} (hO : Old G.Z G.n0 h) (A1 : Arv G.Z h t kb .byte 1 [(.int a.toInt8.toInt32)] (.int 0)) (A2 : Arv G.Z h t' kb' .byte 1 [(.int a'.toInt8.toInt32)] (.int 0)) :
    Own.Con G [] bRci #[.ref t, .int 0, .ref t', .int 0, .int 1] h [] (fun v h' => ((v = some (.int 1) ∧ ([a] : List Int32).map foldF = ([a'] : List Int32).map foldF) ∨ (v = some (.int 0) ∧ ¬ ([a] : List Int32).map foldF = ([a'] : List Int32).map foldF)) ∧ h' = h) := by
  refine Own.Con.intro (plainFor_of_name pn_5) hO hEL _ (fun m => ef_bRci m t 0 t' 0 1) ?_
  intro X T0 W0 sf
  refine Own.iloadN W0 d17_0 1 rfl (0 : Int32) rfl ?_
  refine Own.iload W0 d17_1 3 rfl (1 : Int32) rfl ?_
  refine Own.iadd W0 d17_3 4 rfl ?_
  refine Own.istore W0 d17_4 6 rfl #[.val (.ref t), .val (.int (0 : Int32)), .val (.ref t'), .val (.int (0 : Int32)), .val (.int (1 : Int32)), .val (.int (1 : Int32)), .unset, .unset] rfl ?_
  refine Own.iloadN W0 d17_6 7 rfl (0 : Int32) rfl ?_
  refine Own.iload W0 d17_7 9 rfl (1 : Int32) rfl ?_
  refine Own.icmpNo W0 d17_9 12 (by decide) rfl ?_
  refine Own.aloadN W0 d17_12 13 rfl (.ref t) rfl rfl ?_
  refine Own.iloadN W0 d17_13 14 rfl (0 : Int32) rfl ?_
  refine Own.iinc W0 d17_14 17 rfl rfl #[.val (.ref t), .val (.int (1 : Int32)), .val (.ref t'), .val (.int (0 : Int32)), .val (.int (1 : Int32)), .val (.int (1 : Int32)), .unset, .unset] rfl ?_
  refine Own.baload W0 A1 (by decide) (.int a.toInt8.toInt32) rfl d17_17 18 rfl ?_
  refine Own.istore W0 d17_18 20 rfl #[.val (.ref t), .val (.int (1 : Int32)), .val (.ref t'), .val (.int (0 : Int32)), .val (.int (1 : Int32)), .val (.int (1 : Int32)), .val (.int a.toInt8.toInt32), .unset] rfl ?_
  refine Own.aloadN W0 d17_20 21 rfl (.ref t') rfl rfl ?_
  refine Own.iloadN W0 d17_21 22 rfl (0 : Int32) rfl ?_
  refine Own.iinc W0 d17_22 25 rfl rfl #[.val (.ref t), .val (.int (1 : Int32)), .val (.ref t'), .val (.int (1 : Int32)), .val (.int (1 : Int32)), .val (.int (1 : Int32)), .val (.int a.toInt8.toInt32), .unset] rfl ?_
  refine Own.baload W0 A2 (by decide) (.int a'.toInt8.toInt32) rfl d17_25 26 rfl ?_
  refine Own.istore W0 d17_26 28 rfl #[.val (.ref t), .val (.int (1 : Int32)), .val (.ref t'), .val (.int (1 : Int32)), .val (.int (1 : Int32)), .val (.int (1 : Int32)), .val (.int a.toInt8.toInt32), .val (.int a'.toInt8.toInt32)] rfl ?_
  refine Own.iload W0 d17_28 30 rfl a.toInt8.toInt32 rfl ?_
  refine Own.iload W0 d17_30 32 rfl a'.toInt8.toInt32 rfl ?_
  refine Own.callS W0 (tw hw 90 rfl) (tw hw 91 rfl) (tw hw 92 rfl) (tw hw 93 rfl) (by decide) (argsL := [(.int a.toInt8.toInt32), (.int a'.toInt8.toInt32)]) (rest := []) (Own.Con.pay (con_eqI hw hEL a a' h0 g0 W0.old) W0 (tw hw 93 rfl) (tw hw 92 rfl) (len := 3) (wd := 0) (by decide) (by decide) (fun _ q => nomatch q)) rfl (lenOf pd_5 rfl) rfl (Nat.le_of_ble_eq_true rfl) d17_32 35 rfl 0 0 (Nat.le_of_ble_eq_true rfl) (Nat.le_of_ble_eq_true rfl) (Nat.le_of_ble_eq_true rfl) (Nat.le_of_ble_eq_true rfl) ?_
  intro v1 T1 h1 u1 W1 R1 hq
  obtain ⟨hv1, eh1⟩ := hq
  have ei1 := eh1.symm; subst ei1
  rcases hv1 with ⟨rfl, q0⟩ | ⟨rfl, q0⟩
  · skip
    show Own.Go _ _ _ _ _ 35 #[.val (.ref t), .val (.int (1 : Int32)), .val (.ref t'), .val (.int (1 : Int32)), .val (.int (1 : Int32)), .val (.int (1 : Int32)), .val (.int a.toInt8.toInt32), .val (.int a'.toInt8.toInt32)] [(.int (1 : Int32))]
    refine Own.ifNo W1 d17_35 38 (by decide) rfl ?_
    refine Own.goto W1 d17_38 6 (by decide) (by decide) ?_
    refine Own.iloadN W1 d17_6 7 rfl (1 : Int32) rfl ?_
    refine Own.iload W1 d17_7 9 rfl (1 : Int32) rfl ?_
    refine Own.icmpYes W1 d17_9 43 (by decide) (by decide) (by decide) ?_
    refine Own.iconst W1 d17_43 44 rfl (1 : Int32) rfl ?_
    exact Own.retB W1 (by decide) (by decide) rfl d17_44 rfl ⟨Or.inl ⟨rfl, by simp [q0]⟩, rfl⟩
  · skip
    show Own.Go _ _ _ _ _ 35 #[.val (.ref t), .val (.int (1 : Int32)), .val (.ref t'), .val (.int (1 : Int32)), .val (.int (1 : Int32)), .val (.int (1 : Int32)), .val (.int a.toInt8.toInt32), .val (.int a'.toInt8.toInt32)] [(.int (0 : Int32))]
    refine Own.ifYes W1 d17_35 41 (by decide) (by decide) (by decide) ?_
    refine Own.iconst W1 d17_41 42 rfl (0 : Int32) rfl ?_
    exact Own.retB W1 (by decide) (by decide) rfl d17_42 rfl ⟨Or.inr ⟨rfl, fun q => q0 (by simp at q; simp [q])⟩, rfl⟩
set_option maxRecDepth 65536 in
set_option maxHeartbeats 40000000 in
theorem con_rm1 {G : Own.Gl} (hw : ∀ d ∈ tables_1, d.before G.a0 G.Z = true) (hEL : EW G.Z G.a0 G.EL) (hmem : (Own.ST, 7) ∈ G.EL) {cz : Int32} (hS : Sta G.Z G.Z.heap Own.ST "COMPACT_STRINGS" "Z" (.int cz)) (hcz : ¬ cz = 0) {x y : Addr} {a a' : Int32} (h0 : (¬ a < 0 ∧ ¬ (255 : Int32) < a)) (g0 : (¬ a' < 0 ∧ ¬ (255 : Int32) < a')) {h : Heap} (hO : Old G.Z G.n0 h) (S1 : Own.Str G.Z h x [a]) (S2 : Own.Str G.Z h y [a']) :
    Own.Con G [] bRm #[.ref x, .int 1, .int 0, .ref y, .int 0, .int 1] h [] (fun v h' => ((v = some (.int 1) ∧ ([a] : List Int32).map foldF = ([a'] : List Int32).map foldF) ∨ (v = some (.int 0) ∧ ¬ ([a] : List Int32).map foldF = ([a'] : List Int32).map foldF)) ∧ h' = h) := by
  refine Own.Con.intro (plainFor_of_name pn_1) hO hEL _ (fun m => ef_bRm m x 1 0 y 0 1) ?_
  intro X T0 W0 sf
  obtain ⟨E1, C1, R1, L1, t1, k1, V1, B1⟩ := id S1
  have A1 : Arv G.Z h t1 k1 .byte (1 : Int32) [(.int a.toInt8.toInt32)] (.int 0) := B1
  obtain ⟨E2, C2, R2, L2, t2, k2, V2, B2⟩ := id S2
  have A2 : Arv G.Z h t2 k2 .byte (1 : Int32) [(.int a'.toInt8.toInt32)] (.int 0) := B2
  refine Own.iloadN W0 d16_0 1 rfl (1 : Int32) rfl ?_
  refine Own.ifYes W0 d16_1 15 (by decide) (by decide) (by decide) ?_
  refine Own.iload W0 d16_15 17 rfl (0 : Int32) rfl ?_
  refine Own.ifNo W0 d16_17 20 (by decide) rfl ?_
  refine Own.iloadN W0 d16_20 21 rfl (0 : Int32) rfl ?_
  refine Own.ifNo W0 d16_21 24 (by decide) rfl ?_
  refine Own.iloadN W0 d16_24 25 rfl (0 : Int32) rfl ?_
  refine Own.i2l W0 d16_25 26 rfl ?_
  refine Own.aloadN W0 d16_26 27 rfl (.ref x) rfl rfl ?_
  refine Own.callV W0 (tw hw 71 rfl) (tw hw 72 rfl) (fun s q => notFace_of_selects (args := #[]) (mvT (s := s) q (tw hw 74 rfl))) (tw hw 74 rfl) (tw hw 73 rfl) (by decide) (argsL := []) (rest := [(.long ((0 : Int32).toInt64))]) (Own.payLen (wL hw) (kI := 4) (tw hw 9 rfl) W0 S1 hS hcz (len := 3) (wd := 2) (by decide) (by decide)) E1 rfl (lenOf pd_2 rfl) rfl (Nat.le_of_ble_eq_true rfl) d16_27 30 rfl 0 0 (Nat.le_of_ble_eq_true rfl) (Nat.le_of_ble_eq_true rfl) (Nat.le_of_ble_eq_true rfl) (Nat.le_of_ble_eq_true rfl) ?_
  intro v1 T1 h1 u1 W1 R1 hq
  obtain ⟨rfl, eh1⟩ := hq
  have ei1 := eh1.symm; subst ei1
  show Own.Go _ _ _ _ _ 30 #[.val (.ref x), .val (.int (1 : Int32)), .val (.int (0 : Int32)), .val (.ref y), .val (.int (0 : Int32)), .val (.int (1 : Int32)), .unset, .unset, .unset] [(.int (1 : Int32)), (.long ((0 : Int32).toInt64))]
  refine Own.i2l W1 d16_30 31 rfl ?_
  refine Own.iload W1 d16_31 33 rfl (1 : Int32) rfl ?_
  refine Own.i2l W1 d16_33 34 rfl ?_
  refine Own.lsub W1 d16_34 35 rfl ?_
  refine Own.lcmp W1 d16_35 36 rfl ?_
  refine Own.ifNo W1 d16_36 39 (by decide) rfl ?_
  refine Own.iload W1 d16_39 41 rfl (0 : Int32) rfl ?_
  refine Own.i2l W1 d16_41 42 rfl ?_
  refine Own.aloadN W1 d16_42 43 rfl (.ref y) rfl rfl ?_
  refine Own.callV W1 (tw hw 71 rfl) (tw hw 72 rfl) (fun s q => notFace_of_selects (args := #[]) (mvT (s := s) q (tw hw 74 rfl))) (tw hw 74 rfl) (tw hw 73 rfl) (by decide) (argsL := []) (rest := [(.long ((0 : Int32).toInt64))]) (Own.payLen (wL hw) (kI := 4) (tw hw 9 rfl) W1 S2 hS hcz (len := 3) (wd := 2) (by decide) (by decide)) E2 rfl (lenOf pd_2 rfl) rfl (Nat.le_of_ble_eq_true rfl) d16_43 46 rfl 0 0 (Nat.le_of_ble_eq_true rfl) (Nat.le_of_ble_eq_true rfl) (Nat.le_of_ble_eq_true rfl) (Nat.le_of_ble_eq_true rfl) ?_
  intro v2 T2 h2 u2 W2 R2 hq
  obtain ⟨rfl, eh2⟩ := hq
  have ei2 := eh2.symm; subst ei2
  show Own.Go _ _ _ _ _ 46 #[.val (.ref x), .val (.int (1 : Int32)), .val (.int (0 : Int32)), .val (.ref y), .val (.int (0 : Int32)), .val (.int (1 : Int32)), .unset, .unset, .unset] [(.int (1 : Int32)), (.long ((0 : Int32).toInt64))]
  refine Own.i2l W2 d16_46 47 rfl ?_
  refine Own.iload W2 d16_47 49 rfl (1 : Int32) rfl ?_
  refine Own.i2l W2 d16_49 50 rfl ?_
  refine Own.lsub W2 d16_50 51 rfl ?_
  refine Own.lcmp W2 d16_51 52 rfl ?_
  refine Own.ifYes W2 d16_52 57 (by decide) (by decide) (by decide) ?_
  refine Own.aloadN W2 d16_57 58 rfl (.ref x) rfl rfl ?_
  refine Own.getF W2 (tw hw 35 rfl) Via.refl V1 d16_58 61 rfl ?_
  intro T3 W3
  refine Own.astore W3 d16_61 63 rfl rfl #[.val (.ref x), .val (.int (1 : Int32)), .val (.int (0 : Int32)), .val (.ref y), .val (.int (0 : Int32)), .val (.int (1 : Int32)), .val (.ref t1), .unset, .unset] rfl ?_
  refine Own.aloadN W3 d16_63 64 rfl (.ref y) rfl rfl ?_
  refine Own.getF W3 (tw hw 35 rfl) Via.refl V2 d16_64 67 rfl ?_
  intro T4 W4
  refine Own.astore W4 d16_67 69 rfl rfl #[.val (.ref x), .val (.int (1 : Int32)), .val (.int (0 : Int32)), .val (.ref y), .val (.int (0 : Int32)), .val (.int (1 : Int32)), .val (.ref t1), .val (.ref t2), .unset] rfl ?_
  refine Own.aloadN W4 d16_69 70 rfl (.ref x) rfl rfl ?_
  refine Own.callV W4 (tw hw 76 rfl) (tw hw 77 rfl) (fun s q => notFace_of_selects (args := #[]) (mvT (s := s) q (tw hw 79 rfl))) (tw hw 79 rfl) (tw hw 78 rfl) (by decide) (argsL := []) (rest := []) (Own.Con.pay (con_cdr hw hEL hmem hS hcz W4.old C1) W4 (tw hw 80 rfl) (tw hw 10 rfl) (len := 3) (wd := 0) (by decide) (by decide) (fun _ q => nomatch q)) E1 rfl (lenOf pd_3 rfl) rfl (Nat.le_of_ble_eq_true rfl) d16_70 73 rfl 0 0 (Nat.le_of_ble_eq_true rfl) (Nat.le_of_ble_eq_true rfl) (Nat.le_of_ble_eq_true rfl) (Nat.le_of_ble_eq_true rfl) ?_
  intro v5 T5 h5 u5 W5 R5 hq
  obtain ⟨rfl, eh5⟩ := hq
  have ei5 := eh5.symm; subst ei5
  show Own.Go _ _ _ _ _ 73 #[.val (.ref x), .val (.int (1 : Int32)), .val (.int (0 : Int32)), .val (.ref y), .val (.int (0 : Int32)), .val (.int (1 : Int32)), .val (.ref t1), .val (.ref t2), .unset] [(.int (0 : Int32))]
  refine Own.istore W5 d16_73 75 rfl #[.val (.ref x), .val (.int (1 : Int32)), .val (.int (0 : Int32)), .val (.ref y), .val (.int (0 : Int32)), .val (.int (1 : Int32)), .val (.ref t1), .val (.ref t2), .val (.int (0 : Int32))] rfl ?_
  refine Own.iload W5 d16_75 77 rfl (0 : Int32) rfl ?_
  refine Own.aloadN W5 d16_77 78 rfl (.ref y) rfl rfl ?_
  refine Own.callV W5 (tw hw 76 rfl) (tw hw 77 rfl) (fun s q => notFace_of_selects (args := #[]) (mvT (s := s) q (tw hw 79 rfl))) (tw hw 79 rfl) (tw hw 78 rfl) (by decide) (argsL := []) (rest := [(.int (0 : Int32))]) (Own.Con.pay (con_cdr hw hEL hmem hS hcz W5.old C2) W5 (tw hw 80 rfl) (tw hw 10 rfl) (len := 3) (wd := 1) (by decide) (by decide) (fun _ q => nomatch q)) E2 rfl (lenOf pd_3 rfl) rfl (Nat.le_of_ble_eq_true rfl) d16_78 81 rfl 0 0 (Nat.le_of_ble_eq_true rfl) (Nat.le_of_ble_eq_true rfl) (Nat.le_of_ble_eq_true rfl) (Nat.le_of_ble_eq_true rfl) ?_
  intro v6 T6 h6 u6 W6 R6 hq
  obtain ⟨rfl, eh6⟩ := hq
  have ei6 := eh6.symm; subst ei6
  show Own.Go _ _ _ _ _ 81 #[.val (.ref x), .val (.int (1 : Int32)), .val (.int (0 : Int32)), .val (.ref y), .val (.int (0 : Int32)), .val (.int (1 : Int32)), .val (.ref t1), .val (.ref t2), .val (.int (0 : Int32))] [(.int (0 : Int32)), (.int (0 : Int32))]
  refine Own.icmpNo W6 d16_81 84 (by decide) rfl ?_
  refine Own.iload W6 d16_84 86 rfl (0 : Int32) rfl ?_
  refine Own.ifNo W6 d16_86 89 (by decide) rfl ?_
  refine Own.aload W6 d16_89 91 rfl (.ref t1) rfl rfl ?_
  refine Own.iloadN W6 d16_91 92 rfl (0 : Int32) rfl ?_
  refine Own.aload W6 d16_92 94 rfl (.ref t2) rfl rfl ?_
  refine Own.iload W6 d16_94 96 rfl (0 : Int32) rfl ?_
  refine Own.iload W6 d16_96 98 rfl (1 : Int32) rfl ?_
  refine Own.callS W6 (tw hw 86 rfl) (tw hw 87 rfl) (tw hw 88 rfl) (tw hw 89 rfl) (by decide) (argsL := [(.ref t1), (.int (0 : Int32)), (.ref t2), (.int (0 : Int32)), (.int (1 : Int32))]) (rest := []) (Own.Con.pay (con_rci1 hw hEL h0 g0 W6.old A1 A2) W6 (tw hw 89 rfl) (tw hw 88 rfl) (len := 3) (wd := 0) (by decide) (by decide) (fun _ q => nomatch q)) rfl (lenOf pd_4 rfl) rfl (Nat.le_of_ble_eq_true rfl) d16_98 101 rfl 0 0 (Nat.le_of_ble_eq_true rfl) (Nat.le_of_ble_eq_true rfl) (Nat.le_of_ble_eq_true rfl) (Nat.le_of_ble_eq_true rfl) ?_
  intro v7 T7 h7 u7 W7 R7 hq
  obtain ⟨hv7, eh7⟩ := hq
  have ei7 := eh7.symm; subst ei7
  rcases hv7 with ⟨rfl, q⟩ | ⟨rfl, q⟩
  · skip
    show Own.Go _ _ _ _ _ 101 #[.val (.ref x), .val (.int (1 : Int32)), .val (.int (0 : Int32)), .val (.ref y), .val (.int (0 : Int32)), .val (.int (1 : Int32)), .val (.ref t1), .val (.ref t2), .val (.int (0 : Int32))] [(.int (1 : Int32))]
    refine Own.goto W7 d16_101 116 (by decide) (by decide) ?_
    exact Own.retB W7 (by decide) (by decide) rfl d16_116 rfl ⟨Or.inl ⟨rfl, q⟩, rfl⟩
  · skip
    show Own.Go _ _ _ _ _ 101 #[.val (.ref x), .val (.int (1 : Int32)), .val (.int (0 : Int32)), .val (.ref y), .val (.int (0 : Int32)), .val (.int (1 : Int32)), .val (.ref t1), .val (.ref t2), .val (.int (0 : Int32))] [(.int (0 : Int32))]
    refine Own.goto W7 d16_101 116 (by decide) (by decide) ?_
    exact Own.retB W7 (by decide) (by decide) rfl d16_116 rfl ⟨Or.inr ⟨rfl, q⟩, rfl⟩
set_option maxRecDepth 65536 in
set_option maxHeartbeats 40000000 in
theorem con_rci2 {G : Own.Gl} (hw : ∀ d ∈ tables_1, d.before G.a0 G.Z = true) (hEL : EW G.Z G.a0 G.EL) {t t' : Addr} {kb kb' : ClassId} {a b a' b' : Int32} (h0 : (¬ a < 0 ∧ ¬ (255 : Int32) < a)) (g0 : (¬ a' < 0 ∧ ¬ (255 : Int32) < a')) (h1 : (¬ b < 0 ∧ ¬ (255 : Int32) < b)) (g1 : (¬ b' < 0 ∧ ¬ (255 : Int32) < b')) {h : Heap} (hO : Old G.Z G.n0 h) (A1 : Arv G.Z h t kb .byte 2 [(.int a.toInt8.toInt32), (.int b.toInt8.toInt32)] (.int 0)) (A2 : Arv G.Z h t' kb' .byte 2 [(.int a'.toInt8.toInt32), (.int b'.toInt8.toInt32)] (.int 0)) :
    Own.Con G [] bRci #[.ref t, .int 0, .ref t', .int 0, .int 2] h [] (fun v h' => ((v = some (.int 1) ∧ ([a, b] : List Int32).map foldF = ([a', b'] : List Int32).map foldF) ∨ (v = some (.int 0) ∧ ¬ ([a, b] : List Int32).map foldF = ([a', b'] : List Int32).map foldF)) ∧ h' = h) := by
  refine Own.Con.intro (plainFor_of_name pn_5) hO hEL _ (fun m => ef_bRci m t 0 t' 0 2) ?_
  intro X T0 W0 sf
  refine Own.iloadN W0 d17_0 1 rfl (0 : Int32) rfl ?_
  refine Own.iload W0 d17_1 3 rfl (2 : Int32) rfl ?_
  refine Own.iadd W0 d17_3 4 rfl ?_
  refine Own.istore W0 d17_4 6 rfl #[.val (.ref t), .val (.int (0 : Int32)), .val (.ref t'), .val (.int (0 : Int32)), .val (.int (2 : Int32)), .val (.int (2 : Int32)), .unset, .unset] rfl ?_
  refine Own.iloadN W0 d17_6 7 rfl (0 : Int32) rfl ?_
  refine Own.iload W0 d17_7 9 rfl (2 : Int32) rfl ?_
  refine Own.icmpNo W0 d17_9 12 (by decide) rfl ?_
  refine Own.aloadN W0 d17_12 13 rfl (.ref t) rfl rfl ?_
  refine Own.iloadN W0 d17_13 14 rfl (0 : Int32) rfl ?_
  refine Own.iinc W0 d17_14 17 rfl rfl #[.val (.ref t), .val (.int (1 : Int32)), .val (.ref t'), .val (.int (0 : Int32)), .val (.int (2 : Int32)), .val (.int (2 : Int32)), .unset, .unset] rfl ?_
  refine Own.baload W0 A1 (by decide) (.int a.toInt8.toInt32) rfl d17_17 18 rfl ?_
  refine Own.istore W0 d17_18 20 rfl #[.val (.ref t), .val (.int (1 : Int32)), .val (.ref t'), .val (.int (0 : Int32)), .val (.int (2 : Int32)), .val (.int (2 : Int32)), .val (.int a.toInt8.toInt32), .unset] rfl ?_
  refine Own.aloadN W0 d17_20 21 rfl (.ref t') rfl rfl ?_
  refine Own.iloadN W0 d17_21 22 rfl (0 : Int32) rfl ?_
  refine Own.iinc W0 d17_22 25 rfl rfl #[.val (.ref t), .val (.int (1 : Int32)), .val (.ref t'), .val (.int (1 : Int32)), .val (.int (2 : Int32)), .val (.int (2 : Int32)), .val (.int a.toInt8.toInt32), .unset] rfl ?_
  refine Own.baload W0 A2 (by decide) (.int a'.toInt8.toInt32) rfl d17_25 26 rfl ?_
  refine Own.istore W0 d17_26 28 rfl #[.val (.ref t), .val (.int (1 : Int32)), .val (.ref t'), .val (.int (1 : Int32)), .val (.int (2 : Int32)), .val (.int (2 : Int32)), .val (.int a.toInt8.toInt32), .val (.int a'.toInt8.toInt32)] rfl ?_
  refine Own.iload W0 d17_28 30 rfl a.toInt8.toInt32 rfl ?_
  refine Own.iload W0 d17_30 32 rfl a'.toInt8.toInt32 rfl ?_
  refine Own.callS W0 (tw hw 90 rfl) (tw hw 91 rfl) (tw hw 92 rfl) (tw hw 93 rfl) (by decide) (argsL := [(.int a.toInt8.toInt32), (.int a'.toInt8.toInt32)]) (rest := []) (Own.Con.pay (con_eqI hw hEL a a' h0 g0 W0.old) W0 (tw hw 93 rfl) (tw hw 92 rfl) (len := 3) (wd := 0) (by decide) (by decide) (fun _ q => nomatch q)) rfl (lenOf pd_5 rfl) rfl (Nat.le_of_ble_eq_true rfl) d17_32 35 rfl 0 0 (Nat.le_of_ble_eq_true rfl) (Nat.le_of_ble_eq_true rfl) (Nat.le_of_ble_eq_true rfl) (Nat.le_of_ble_eq_true rfl) ?_
  intro v1 T1 h1 u1 W1 R1 hq
  obtain ⟨hv1, eh1⟩ := hq
  have ei1 := eh1.symm; subst ei1
  rcases hv1 with ⟨rfl, q0⟩ | ⟨rfl, q0⟩
  · skip
    show Own.Go _ _ _ _ _ 35 #[.val (.ref t), .val (.int (1 : Int32)), .val (.ref t'), .val (.int (1 : Int32)), .val (.int (2 : Int32)), .val (.int (2 : Int32)), .val (.int a.toInt8.toInt32), .val (.int a'.toInt8.toInt32)] [(.int (1 : Int32))]
    refine Own.ifNo W1 d17_35 38 (by decide) rfl ?_
    refine Own.goto W1 d17_38 6 (by decide) (by decide) ?_
    refine Own.iloadN W1 d17_6 7 rfl (1 : Int32) rfl ?_
    refine Own.iload W1 d17_7 9 rfl (2 : Int32) rfl ?_
    refine Own.icmpNo W1 d17_9 12 (by decide) rfl ?_
    refine Own.aloadN W1 d17_12 13 rfl (.ref t) rfl rfl ?_
    refine Own.iloadN W1 d17_13 14 rfl (1 : Int32) rfl ?_
    refine Own.iinc W1 d17_14 17 rfl rfl #[.val (.ref t), .val (.int (2 : Int32)), .val (.ref t'), .val (.int (1 : Int32)), .val (.int (2 : Int32)), .val (.int (2 : Int32)), .val (.int a.toInt8.toInt32), .val (.int a'.toInt8.toInt32)] rfl ?_
    refine Own.baload W1 A1 (by decide) (.int b.toInt8.toInt32) rfl d17_17 18 rfl ?_
    refine Own.istore W1 d17_18 20 rfl #[.val (.ref t), .val (.int (2 : Int32)), .val (.ref t'), .val (.int (1 : Int32)), .val (.int (2 : Int32)), .val (.int (2 : Int32)), .val (.int b.toInt8.toInt32), .val (.int a'.toInt8.toInt32)] rfl ?_
    refine Own.aloadN W1 d17_20 21 rfl (.ref t') rfl rfl ?_
    refine Own.iloadN W1 d17_21 22 rfl (1 : Int32) rfl ?_
    refine Own.iinc W1 d17_22 25 rfl rfl #[.val (.ref t), .val (.int (2 : Int32)), .val (.ref t'), .val (.int (2 : Int32)), .val (.int (2 : Int32)), .val (.int (2 : Int32)), .val (.int b.toInt8.toInt32), .val (.int a'.toInt8.toInt32)] rfl ?_
    refine Own.baload W1 A2 (by decide) (.int b'.toInt8.toInt32) rfl d17_25 26 rfl ?_
    refine Own.istore W1 d17_26 28 rfl #[.val (.ref t), .val (.int (2 : Int32)), .val (.ref t'), .val (.int (2 : Int32)), .val (.int (2 : Int32)), .val (.int (2 : Int32)), .val (.int b.toInt8.toInt32), .val (.int b'.toInt8.toInt32)] rfl ?_
    refine Own.iload W1 d17_28 30 rfl b.toInt8.toInt32 rfl ?_
    refine Own.iload W1 d17_30 32 rfl b'.toInt8.toInt32 rfl ?_
    refine Own.callS W1 (tw hw 90 rfl) (tw hw 91 rfl) (tw hw 92 rfl) (tw hw 93 rfl) (by decide) (argsL := [(.int b.toInt8.toInt32), (.int b'.toInt8.toInt32)]) (rest := []) (Own.Con.pay (con_eqI hw hEL b b' h1 g1 W1.old) W1 (tw hw 93 rfl) (tw hw 92 rfl) (len := 3) (wd := 0) (by decide) (by decide) (fun _ q => nomatch q)) rfl (lenOf pd_5 rfl) rfl (Nat.le_of_ble_eq_true rfl) d17_32 35 rfl 0 0 (Nat.le_of_ble_eq_true rfl) (Nat.le_of_ble_eq_true rfl) (Nat.le_of_ble_eq_true rfl) (Nat.le_of_ble_eq_true rfl) ?_
    intro v2 T2 h2 u2 W2 R2 hq
    obtain ⟨hv2, eh2⟩ := hq
    have ei2 := eh2.symm; subst ei2
    rcases hv2 with ⟨rfl, q1⟩ | ⟨rfl, q1⟩
    · skip
      show Own.Go _ _ _ _ _ 35 #[.val (.ref t), .val (.int (2 : Int32)), .val (.ref t'), .val (.int (2 : Int32)), .val (.int (2 : Int32)), .val (.int (2 : Int32)), .val (.int b.toInt8.toInt32), .val (.int b'.toInt8.toInt32)] [(.int (1 : Int32))]
      refine Own.ifNo W2 d17_35 38 (by decide) rfl ?_
      refine Own.goto W2 d17_38 6 (by decide) (by decide) ?_
      refine Own.iloadN W2 d17_6 7 rfl (2 : Int32) rfl ?_
      refine Own.iload W2 d17_7 9 rfl (2 : Int32) rfl ?_
      refine Own.icmpYes W2 d17_9 43 (by decide) (by decide) (by decide) ?_
      refine Own.iconst W2 d17_43 44 rfl (1 : Int32) rfl ?_
      exact Own.retB W2 (by decide) (by decide) rfl d17_44 rfl ⟨Or.inl ⟨rfl, by simp [q0, q1]⟩, rfl⟩
    · skip
      show Own.Go _ _ _ _ _ 35 #[.val (.ref t), .val (.int (2 : Int32)), .val (.ref t'), .val (.int (2 : Int32)), .val (.int (2 : Int32)), .val (.int (2 : Int32)), .val (.int b.toInt8.toInt32), .val (.int b'.toInt8.toInt32)] [(.int (0 : Int32))]
      refine Own.ifYes W2 d17_35 41 (by decide) (by decide) (by decide) ?_
      refine Own.iconst W2 d17_41 42 rfl (0 : Int32) rfl ?_
      exact Own.retB W2 (by decide) (by decide) rfl d17_42 rfl ⟨Or.inr ⟨rfl, fun q => q1 (by simp at q; simp [q])⟩, rfl⟩
  · skip
    show Own.Go _ _ _ _ _ 35 #[.val (.ref t), .val (.int (1 : Int32)), .val (.ref t'), .val (.int (1 : Int32)), .val (.int (2 : Int32)), .val (.int (2 : Int32)), .val (.int a.toInt8.toInt32), .val (.int a'.toInt8.toInt32)] [(.int (0 : Int32))]
    refine Own.ifYes W1 d17_35 41 (by decide) (by decide) (by decide) ?_
    refine Own.iconst W1 d17_41 42 rfl (0 : Int32) rfl ?_
    exact Own.retB W1 (by decide) (by decide) rfl d17_42 rfl ⟨Or.inr ⟨rfl, fun q => q0 (by simp at q; simp [q])⟩, rfl⟩
set_option maxRecDepth 65536 in
set_option maxHeartbeats 40000000 in
theorem con_rm2 {G : Own.Gl} (hw : ∀ d ∈ tables_1, d.before G.a0 G.Z = true) (hEL : EW G.Z G.a0 G.EL) (hmem : (Own.ST, 7) ∈ G.EL) {cz : Int32} (hS : Sta G.Z G.Z.heap Own.ST "COMPACT_STRINGS" "Z" (.int cz)) (hcz : ¬ cz = 0) {x y : Addr} {a b a' b' : Int32} (h0 : (¬ a < 0 ∧ ¬ (255 : Int32) < a)) (g0 : (¬ a' < 0 ∧ ¬ (255 : Int32) < a')) (h1 : (¬ b < 0 ∧ ¬ (255 : Int32) < b)) (g1 : (¬ b' < 0 ∧ ¬ (255 : Int32) < b')) {h : Heap} (hO : Old G.Z G.n0 h) (S1 : Own.Str G.Z h x [a, b]) (S2 : Own.Str G.Z h y [a', b']) :
    Own.Con G [] bRm #[.ref x, .int 1, .int 0, .ref y, .int 0, .int 2] h [] (fun v h' => ((v = some (.int 1) ∧ ([a, b] : List Int32).map foldF = ([a', b'] : List Int32).map foldF) ∨ (v = some (.int 0) ∧ ¬ ([a, b] : List Int32).map foldF = ([a', b'] : List Int32).map foldF)) ∧ h' = h) := by
  refine Own.Con.intro (plainFor_of_name pn_1) hO hEL _ (fun m => ef_bRm m x 1 0 y 0 2) ?_
  intro X T0 W0 sf
  obtain ⟨E1, C1, R1, L1, t1, k1, V1, B1⟩ := id S1
  have A1 : Arv G.Z h t1 k1 .byte (2 : Int32) [(.int a.toInt8.toInt32), (.int b.toInt8.toInt32)] (.int 0) := B1
  obtain ⟨E2, C2, R2, L2, t2, k2, V2, B2⟩ := id S2
  have A2 : Arv G.Z h t2 k2 .byte (2 : Int32) [(.int a'.toInt8.toInt32), (.int b'.toInt8.toInt32)] (.int 0) := B2
  refine Own.iloadN W0 d16_0 1 rfl (1 : Int32) rfl ?_
  refine Own.ifYes W0 d16_1 15 (by decide) (by decide) (by decide) ?_
  refine Own.iload W0 d16_15 17 rfl (0 : Int32) rfl ?_
  refine Own.ifNo W0 d16_17 20 (by decide) rfl ?_
  refine Own.iloadN W0 d16_20 21 rfl (0 : Int32) rfl ?_
  refine Own.ifNo W0 d16_21 24 (by decide) rfl ?_
  refine Own.iloadN W0 d16_24 25 rfl (0 : Int32) rfl ?_
  refine Own.i2l W0 d16_25 26 rfl ?_
  refine Own.aloadN W0 d16_26 27 rfl (.ref x) rfl rfl ?_
  refine Own.callV W0 (tw hw 71 rfl) (tw hw 72 rfl) (fun s q => notFace_of_selects (args := #[]) (mvT (s := s) q (tw hw 74 rfl))) (tw hw 74 rfl) (tw hw 73 rfl) (by decide) (argsL := []) (rest := [(.long ((0 : Int32).toInt64))]) (Own.payLen (wL hw) (kI := 4) (tw hw 9 rfl) W0 S1 hS hcz (len := 3) (wd := 2) (by decide) (by decide)) E1 rfl (lenOf pd_2 rfl) rfl (Nat.le_of_ble_eq_true rfl) d16_27 30 rfl 0 0 (Nat.le_of_ble_eq_true rfl) (Nat.le_of_ble_eq_true rfl) (Nat.le_of_ble_eq_true rfl) (Nat.le_of_ble_eq_true rfl) ?_
  intro v1 T1 h1 u1 W1 R1 hq
  obtain ⟨rfl, eh1⟩ := hq
  have ei1 := eh1.symm; subst ei1
  show Own.Go _ _ _ _ _ 30 #[.val (.ref x), .val (.int (1 : Int32)), .val (.int (0 : Int32)), .val (.ref y), .val (.int (0 : Int32)), .val (.int (2 : Int32)), .unset, .unset, .unset] [(.int (2 : Int32)), (.long ((0 : Int32).toInt64))]
  refine Own.i2l W1 d16_30 31 rfl ?_
  refine Own.iload W1 d16_31 33 rfl (2 : Int32) rfl ?_
  refine Own.i2l W1 d16_33 34 rfl ?_
  refine Own.lsub W1 d16_34 35 rfl ?_
  refine Own.lcmp W1 d16_35 36 rfl ?_
  refine Own.ifNo W1 d16_36 39 (by decide) rfl ?_
  refine Own.iload W1 d16_39 41 rfl (0 : Int32) rfl ?_
  refine Own.i2l W1 d16_41 42 rfl ?_
  refine Own.aloadN W1 d16_42 43 rfl (.ref y) rfl rfl ?_
  refine Own.callV W1 (tw hw 71 rfl) (tw hw 72 rfl) (fun s q => notFace_of_selects (args := #[]) (mvT (s := s) q (tw hw 74 rfl))) (tw hw 74 rfl) (tw hw 73 rfl) (by decide) (argsL := []) (rest := [(.long ((0 : Int32).toInt64))]) (Own.payLen (wL hw) (kI := 4) (tw hw 9 rfl) W1 S2 hS hcz (len := 3) (wd := 2) (by decide) (by decide)) E2 rfl (lenOf pd_2 rfl) rfl (Nat.le_of_ble_eq_true rfl) d16_43 46 rfl 0 0 (Nat.le_of_ble_eq_true rfl) (Nat.le_of_ble_eq_true rfl) (Nat.le_of_ble_eq_true rfl) (Nat.le_of_ble_eq_true rfl) ?_
  intro v2 T2 h2 u2 W2 R2 hq
  obtain ⟨rfl, eh2⟩ := hq
  have ei2 := eh2.symm; subst ei2
  show Own.Go _ _ _ _ _ 46 #[.val (.ref x), .val (.int (1 : Int32)), .val (.int (0 : Int32)), .val (.ref y), .val (.int (0 : Int32)), .val (.int (2 : Int32)), .unset, .unset, .unset] [(.int (2 : Int32)), (.long ((0 : Int32).toInt64))]
  refine Own.i2l W2 d16_46 47 rfl ?_
  refine Own.iload W2 d16_47 49 rfl (2 : Int32) rfl ?_
  refine Own.i2l W2 d16_49 50 rfl ?_
  refine Own.lsub W2 d16_50 51 rfl ?_
  refine Own.lcmp W2 d16_51 52 rfl ?_
  refine Own.ifYes W2 d16_52 57 (by decide) (by decide) (by decide) ?_
  refine Own.aloadN W2 d16_57 58 rfl (.ref x) rfl rfl ?_
  refine Own.getF W2 (tw hw 35 rfl) Via.refl V1 d16_58 61 rfl ?_
  intro T3 W3
  refine Own.astore W3 d16_61 63 rfl rfl #[.val (.ref x), .val (.int (1 : Int32)), .val (.int (0 : Int32)), .val (.ref y), .val (.int (0 : Int32)), .val (.int (2 : Int32)), .val (.ref t1), .unset, .unset] rfl ?_
  refine Own.aloadN W3 d16_63 64 rfl (.ref y) rfl rfl ?_
  refine Own.getF W3 (tw hw 35 rfl) Via.refl V2 d16_64 67 rfl ?_
  intro T4 W4
  refine Own.astore W4 d16_67 69 rfl rfl #[.val (.ref x), .val (.int (1 : Int32)), .val (.int (0 : Int32)), .val (.ref y), .val (.int (0 : Int32)), .val (.int (2 : Int32)), .val (.ref t1), .val (.ref t2), .unset] rfl ?_
  refine Own.aloadN W4 d16_69 70 rfl (.ref x) rfl rfl ?_
  refine Own.callV W4 (tw hw 76 rfl) (tw hw 77 rfl) (fun s q => notFace_of_selects (args := #[]) (mvT (s := s) q (tw hw 79 rfl))) (tw hw 79 rfl) (tw hw 78 rfl) (by decide) (argsL := []) (rest := []) (Own.Con.pay (con_cdr hw hEL hmem hS hcz W4.old C1) W4 (tw hw 80 rfl) (tw hw 10 rfl) (len := 3) (wd := 0) (by decide) (by decide) (fun _ q => nomatch q)) E1 rfl (lenOf pd_3 rfl) rfl (Nat.le_of_ble_eq_true rfl) d16_70 73 rfl 0 0 (Nat.le_of_ble_eq_true rfl) (Nat.le_of_ble_eq_true rfl) (Nat.le_of_ble_eq_true rfl) (Nat.le_of_ble_eq_true rfl) ?_
  intro v5 T5 h5 u5 W5 R5 hq
  obtain ⟨rfl, eh5⟩ := hq
  have ei5 := eh5.symm; subst ei5
  show Own.Go _ _ _ _ _ 73 #[.val (.ref x), .val (.int (1 : Int32)), .val (.int (0 : Int32)), .val (.ref y), .val (.int (0 : Int32)), .val (.int (2 : Int32)), .val (.ref t1), .val (.ref t2), .unset] [(.int (0 : Int32))]
  refine Own.istore W5 d16_73 75 rfl #[.val (.ref x), .val (.int (1 : Int32)), .val (.int (0 : Int32)), .val (.ref y), .val (.int (0 : Int32)), .val (.int (2 : Int32)), .val (.ref t1), .val (.ref t2), .val (.int (0 : Int32))] rfl ?_
  refine Own.iload W5 d16_75 77 rfl (0 : Int32) rfl ?_
  refine Own.aloadN W5 d16_77 78 rfl (.ref y) rfl rfl ?_
  refine Own.callV W5 (tw hw 76 rfl) (tw hw 77 rfl) (fun s q => notFace_of_selects (args := #[]) (mvT (s := s) q (tw hw 79 rfl))) (tw hw 79 rfl) (tw hw 78 rfl) (by decide) (argsL := []) (rest := [(.int (0 : Int32))]) (Own.Con.pay (con_cdr hw hEL hmem hS hcz W5.old C2) W5 (tw hw 80 rfl) (tw hw 10 rfl) (len := 3) (wd := 1) (by decide) (by decide) (fun _ q => nomatch q)) E2 rfl (lenOf pd_3 rfl) rfl (Nat.le_of_ble_eq_true rfl) d16_78 81 rfl 0 0 (Nat.le_of_ble_eq_true rfl) (Nat.le_of_ble_eq_true rfl) (Nat.le_of_ble_eq_true rfl) (Nat.le_of_ble_eq_true rfl) ?_
  intro v6 T6 h6 u6 W6 R6 hq
  obtain ⟨rfl, eh6⟩ := hq
  have ei6 := eh6.symm; subst ei6
  show Own.Go _ _ _ _ _ 81 #[.val (.ref x), .val (.int (1 : Int32)), .val (.int (0 : Int32)), .val (.ref y), .val (.int (0 : Int32)), .val (.int (2 : Int32)), .val (.ref t1), .val (.ref t2), .val (.int (0 : Int32))] [(.int (0 : Int32)), (.int (0 : Int32))]
  refine Own.icmpNo W6 d16_81 84 (by decide) rfl ?_
  refine Own.iload W6 d16_84 86 rfl (0 : Int32) rfl ?_
  refine Own.ifNo W6 d16_86 89 (by decide) rfl ?_
  refine Own.aload W6 d16_89 91 rfl (.ref t1) rfl rfl ?_
  refine Own.iloadN W6 d16_91 92 rfl (0 : Int32) rfl ?_
  refine Own.aload W6 d16_92 94 rfl (.ref t2) rfl rfl ?_
  refine Own.iload W6 d16_94 96 rfl (0 : Int32) rfl ?_
  refine Own.iload W6 d16_96 98 rfl (2 : Int32) rfl ?_
  refine Own.callS W6 (tw hw 86 rfl) (tw hw 87 rfl) (tw hw 88 rfl) (tw hw 89 rfl) (by decide) (argsL := [(.ref t1), (.int (0 : Int32)), (.ref t2), (.int (0 : Int32)), (.int (2 : Int32))]) (rest := []) (Own.Con.pay (con_rci2 hw hEL h0 g0 h1 g1 W6.old A1 A2) W6 (tw hw 89 rfl) (tw hw 88 rfl) (len := 3) (wd := 0) (by decide) (by decide) (fun _ q => nomatch q)) rfl (lenOf pd_4 rfl) rfl (Nat.le_of_ble_eq_true rfl) d16_98 101 rfl 0 0 (Nat.le_of_ble_eq_true rfl) (Nat.le_of_ble_eq_true rfl) (Nat.le_of_ble_eq_true rfl) (Nat.le_of_ble_eq_true rfl) ?_
  intro v7 T7 h7 u7 W7 R7 hq
  obtain ⟨hv7, eh7⟩ := hq
  have ei7 := eh7.symm; subst ei7
  rcases hv7 with ⟨rfl, q⟩ | ⟨rfl, q⟩
  · skip
    show Own.Go _ _ _ _ _ 101 #[.val (.ref x), .val (.int (1 : Int32)), .val (.int (0 : Int32)), .val (.ref y), .val (.int (0 : Int32)), .val (.int (2 : Int32)), .val (.ref t1), .val (.ref t2), .val (.int (0 : Int32))] [(.int (1 : Int32))]
    refine Own.goto W7 d16_101 116 (by decide) (by decide) ?_
    exact Own.retB W7 (by decide) (by decide) rfl d16_116 rfl ⟨Or.inl ⟨rfl, q⟩, rfl⟩
  · skip
    show Own.Go _ _ _ _ _ 101 #[.val (.ref x), .val (.int (1 : Int32)), .val (.int (0 : Int32)), .val (.ref y), .val (.int (0 : Int32)), .val (.int (2 : Int32)), .val (.ref t1), .val (.ref t2), .val (.int (0 : Int32))] [(.int (0 : Int32))]
    refine Own.goto W7 d16_101 116 (by decide) (by decide) ?_
    exact Own.retB W7 (by decide) (by decide) rfl d16_116 rfl ⟨Or.inr ⟨rfl, q⟩, rfl⟩
set_option maxRecDepth 65536 in
set_option maxHeartbeats 40000000 in
theorem con_rci3 {G : Own.Gl} (hw : ∀ d ∈ tables_1, d.before G.a0 G.Z = true) (hEL : EW G.Z G.a0 G.EL) {t t' : Addr} {kb kb' : ClassId} {a b c a' b' c' : Int32} (h0 : (¬ a < 0 ∧ ¬ (255 : Int32) < a)) (g0 : (¬ a' < 0 ∧ ¬ (255 : Int32) < a')) (h1 : (¬ b < 0 ∧ ¬ (255 : Int32) < b)) (g1 : (¬ b' < 0 ∧ ¬ (255 : Int32) < b')) (h2 : (¬ c < 0 ∧ ¬ (255 : Int32) < c)) (g2 : (¬ c' < 0 ∧ ¬ (255 : Int32) < c')) {h : Heap} (hO : Old G.Z G.n0 h) (A1 : Arv G.Z h t kb .byte 3 [(.int a.toInt8.toInt32), (.int b.toInt8.toInt32), (.int c.toInt8.toInt32)] (.int 0)) (A2 : Arv G.Z h t' kb' .byte 3 [(.int a'.toInt8.toInt32), (.int b'.toInt8.toInt32), (.int c'.toInt8.toInt32)] (.int 0)) :
    Own.Con G [] bRci #[.ref t, .int 0, .ref t', .int 0, .int 3] h [] (fun v h' => ((v = some (.int 1) ∧ ([a, b, c] : List Int32).map foldF = ([a', b', c'] : List Int32).map foldF) ∨ (v = some (.int 0) ∧ ¬ ([a, b, c] : List Int32).map foldF = ([a', b', c'] : List Int32).map foldF)) ∧ h' = h) := by
  refine Own.Con.intro (plainFor_of_name pn_5) hO hEL _ (fun m => ef_bRci m t 0 t' 0 3) ?_
  intro X T0 W0 sf
  refine Own.iloadN W0 d17_0 1 rfl (0 : Int32) rfl ?_
  refine Own.iload W0 d17_1 3 rfl (3 : Int32) rfl ?_
  refine Own.iadd W0 d17_3 4 rfl ?_
  refine Own.istore W0 d17_4 6 rfl #[.val (.ref t), .val (.int (0 : Int32)), .val (.ref t'), .val (.int (0 : Int32)), .val (.int (3 : Int32)), .val (.int (3 : Int32)), .unset, .unset] rfl ?_
  refine Own.iloadN W0 d17_6 7 rfl (0 : Int32) rfl ?_
  refine Own.iload W0 d17_7 9 rfl (3 : Int32) rfl ?_
  refine Own.icmpNo W0 d17_9 12 (by decide) rfl ?_
  refine Own.aloadN W0 d17_12 13 rfl (.ref t) rfl rfl ?_
  refine Own.iloadN W0 d17_13 14 rfl (0 : Int32) rfl ?_
  refine Own.iinc W0 d17_14 17 rfl rfl #[.val (.ref t), .val (.int (1 : Int32)), .val (.ref t'), .val (.int (0 : Int32)), .val (.int (3 : Int32)), .val (.int (3 : Int32)), .unset, .unset] rfl ?_
  refine Own.baload W0 A1 (by decide) (.int a.toInt8.toInt32) rfl d17_17 18 rfl ?_
  refine Own.istore W0 d17_18 20 rfl #[.val (.ref t), .val (.int (1 : Int32)), .val (.ref t'), .val (.int (0 : Int32)), .val (.int (3 : Int32)), .val (.int (3 : Int32)), .val (.int a.toInt8.toInt32), .unset] rfl ?_
  refine Own.aloadN W0 d17_20 21 rfl (.ref t') rfl rfl ?_
  refine Own.iloadN W0 d17_21 22 rfl (0 : Int32) rfl ?_
  refine Own.iinc W0 d17_22 25 rfl rfl #[.val (.ref t), .val (.int (1 : Int32)), .val (.ref t'), .val (.int (1 : Int32)), .val (.int (3 : Int32)), .val (.int (3 : Int32)), .val (.int a.toInt8.toInt32), .unset] rfl ?_
  refine Own.baload W0 A2 (by decide) (.int a'.toInt8.toInt32) rfl d17_25 26 rfl ?_
  refine Own.istore W0 d17_26 28 rfl #[.val (.ref t), .val (.int (1 : Int32)), .val (.ref t'), .val (.int (1 : Int32)), .val (.int (3 : Int32)), .val (.int (3 : Int32)), .val (.int a.toInt8.toInt32), .val (.int a'.toInt8.toInt32)] rfl ?_
  refine Own.iload W0 d17_28 30 rfl a.toInt8.toInt32 rfl ?_
  refine Own.iload W0 d17_30 32 rfl a'.toInt8.toInt32 rfl ?_
  refine Own.callS W0 (tw hw 90 rfl) (tw hw 91 rfl) (tw hw 92 rfl) (tw hw 93 rfl) (by decide) (argsL := [(.int a.toInt8.toInt32), (.int a'.toInt8.toInt32)]) (rest := []) (Own.Con.pay (con_eqI hw hEL a a' h0 g0 W0.old) W0 (tw hw 93 rfl) (tw hw 92 rfl) (len := 3) (wd := 0) (by decide) (by decide) (fun _ q => nomatch q)) rfl (lenOf pd_5 rfl) rfl (Nat.le_of_ble_eq_true rfl) d17_32 35 rfl 0 0 (Nat.le_of_ble_eq_true rfl) (Nat.le_of_ble_eq_true rfl) (Nat.le_of_ble_eq_true rfl) (Nat.le_of_ble_eq_true rfl) ?_
  intro v1 T1 h1 u1 W1 R1 hq
  obtain ⟨hv1, eh1⟩ := hq
  have ei1 := eh1.symm; subst ei1
  rcases hv1 with ⟨rfl, q0⟩ | ⟨rfl, q0⟩
  · skip
    show Own.Go _ _ _ _ _ 35 #[.val (.ref t), .val (.int (1 : Int32)), .val (.ref t'), .val (.int (1 : Int32)), .val (.int (3 : Int32)), .val (.int (3 : Int32)), .val (.int a.toInt8.toInt32), .val (.int a'.toInt8.toInt32)] [(.int (1 : Int32))]
    refine Own.ifNo W1 d17_35 38 (by decide) rfl ?_
    refine Own.goto W1 d17_38 6 (by decide) (by decide) ?_
    refine Own.iloadN W1 d17_6 7 rfl (1 : Int32) rfl ?_
    refine Own.iload W1 d17_7 9 rfl (3 : Int32) rfl ?_
    refine Own.icmpNo W1 d17_9 12 (by decide) rfl ?_
    refine Own.aloadN W1 d17_12 13 rfl (.ref t) rfl rfl ?_
    refine Own.iloadN W1 d17_13 14 rfl (1 : Int32) rfl ?_
    refine Own.iinc W1 d17_14 17 rfl rfl #[.val (.ref t), .val (.int (2 : Int32)), .val (.ref t'), .val (.int (1 : Int32)), .val (.int (3 : Int32)), .val (.int (3 : Int32)), .val (.int a.toInt8.toInt32), .val (.int a'.toInt8.toInt32)] rfl ?_
    refine Own.baload W1 A1 (by decide) (.int b.toInt8.toInt32) rfl d17_17 18 rfl ?_
    refine Own.istore W1 d17_18 20 rfl #[.val (.ref t), .val (.int (2 : Int32)), .val (.ref t'), .val (.int (1 : Int32)), .val (.int (3 : Int32)), .val (.int (3 : Int32)), .val (.int b.toInt8.toInt32), .val (.int a'.toInt8.toInt32)] rfl ?_
    refine Own.aloadN W1 d17_20 21 rfl (.ref t') rfl rfl ?_
    refine Own.iloadN W1 d17_21 22 rfl (1 : Int32) rfl ?_
    refine Own.iinc W1 d17_22 25 rfl rfl #[.val (.ref t), .val (.int (2 : Int32)), .val (.ref t'), .val (.int (2 : Int32)), .val (.int (3 : Int32)), .val (.int (3 : Int32)), .val (.int b.toInt8.toInt32), .val (.int a'.toInt8.toInt32)] rfl ?_
    refine Own.baload W1 A2 (by decide) (.int b'.toInt8.toInt32) rfl d17_25 26 rfl ?_
    refine Own.istore W1 d17_26 28 rfl #[.val (.ref t), .val (.int (2 : Int32)), .val (.ref t'), .val (.int (2 : Int32)), .val (.int (3 : Int32)), .val (.int (3 : Int32)), .val (.int b.toInt8.toInt32), .val (.int b'.toInt8.toInt32)] rfl ?_
    refine Own.iload W1 d17_28 30 rfl b.toInt8.toInt32 rfl ?_
    refine Own.iload W1 d17_30 32 rfl b'.toInt8.toInt32 rfl ?_
    refine Own.callS W1 (tw hw 90 rfl) (tw hw 91 rfl) (tw hw 92 rfl) (tw hw 93 rfl) (by decide) (argsL := [(.int b.toInt8.toInt32), (.int b'.toInt8.toInt32)]) (rest := []) (Own.Con.pay (con_eqI hw hEL b b' h1 g1 W1.old) W1 (tw hw 93 rfl) (tw hw 92 rfl) (len := 3) (wd := 0) (by decide) (by decide) (fun _ q => nomatch q)) rfl (lenOf pd_5 rfl) rfl (Nat.le_of_ble_eq_true rfl) d17_32 35 rfl 0 0 (Nat.le_of_ble_eq_true rfl) (Nat.le_of_ble_eq_true rfl) (Nat.le_of_ble_eq_true rfl) (Nat.le_of_ble_eq_true rfl) ?_
    intro v2 T2 h2 u2 W2 R2 hq
    obtain ⟨hv2, eh2⟩ := hq
    have ei2 := eh2.symm; subst ei2
    rcases hv2 with ⟨rfl, q1⟩ | ⟨rfl, q1⟩
    · skip
      show Own.Go _ _ _ _ _ 35 #[.val (.ref t), .val (.int (2 : Int32)), .val (.ref t'), .val (.int (2 : Int32)), .val (.int (3 : Int32)), .val (.int (3 : Int32)), .val (.int b.toInt8.toInt32), .val (.int b'.toInt8.toInt32)] [(.int (1 : Int32))]
      refine Own.ifNo W2 d17_35 38 (by decide) rfl ?_
      refine Own.goto W2 d17_38 6 (by decide) (by decide) ?_
      refine Own.iloadN W2 d17_6 7 rfl (2 : Int32) rfl ?_
      refine Own.iload W2 d17_7 9 rfl (3 : Int32) rfl ?_
      refine Own.icmpNo W2 d17_9 12 (by decide) rfl ?_
      refine Own.aloadN W2 d17_12 13 rfl (.ref t) rfl rfl ?_
      refine Own.iloadN W2 d17_13 14 rfl (2 : Int32) rfl ?_
      refine Own.iinc W2 d17_14 17 rfl rfl #[.val (.ref t), .val (.int (3 : Int32)), .val (.ref t'), .val (.int (2 : Int32)), .val (.int (3 : Int32)), .val (.int (3 : Int32)), .val (.int b.toInt8.toInt32), .val (.int b'.toInt8.toInt32)] rfl ?_
      refine Own.baload W2 A1 (by decide) (.int c.toInt8.toInt32) rfl d17_17 18 rfl ?_
      refine Own.istore W2 d17_18 20 rfl #[.val (.ref t), .val (.int (3 : Int32)), .val (.ref t'), .val (.int (2 : Int32)), .val (.int (3 : Int32)), .val (.int (3 : Int32)), .val (.int c.toInt8.toInt32), .val (.int b'.toInt8.toInt32)] rfl ?_
      refine Own.aloadN W2 d17_20 21 rfl (.ref t') rfl rfl ?_
      refine Own.iloadN W2 d17_21 22 rfl (2 : Int32) rfl ?_
      refine Own.iinc W2 d17_22 25 rfl rfl #[.val (.ref t), .val (.int (3 : Int32)), .val (.ref t'), .val (.int (3 : Int32)), .val (.int (3 : Int32)), .val (.int (3 : Int32)), .val (.int c.toInt8.toInt32), .val (.int b'.toInt8.toInt32)] rfl ?_
      refine Own.baload W2 A2 (by decide) (.int c'.toInt8.toInt32) rfl d17_25 26 rfl ?_
      refine Own.istore W2 d17_26 28 rfl #[.val (.ref t), .val (.int (3 : Int32)), .val (.ref t'), .val (.int (3 : Int32)), .val (.int (3 : Int32)), .val (.int (3 : Int32)), .val (.int c.toInt8.toInt32), .val (.int c'.toInt8.toInt32)] rfl ?_
      refine Own.iload W2 d17_28 30 rfl c.toInt8.toInt32 rfl ?_
      refine Own.iload W2 d17_30 32 rfl c'.toInt8.toInt32 rfl ?_
      refine Own.callS W2 (tw hw 90 rfl) (tw hw 91 rfl) (tw hw 92 rfl) (tw hw 93 rfl) (by decide) (argsL := [(.int c.toInt8.toInt32), (.int c'.toInt8.toInt32)]) (rest := []) (Own.Con.pay (con_eqI hw hEL c c' h2 g2 W2.old) W2 (tw hw 93 rfl) (tw hw 92 rfl) (len := 3) (wd := 0) (by decide) (by decide) (fun _ q => nomatch q)) rfl (lenOf pd_5 rfl) rfl (Nat.le_of_ble_eq_true rfl) d17_32 35 rfl 0 0 (Nat.le_of_ble_eq_true rfl) (Nat.le_of_ble_eq_true rfl) (Nat.le_of_ble_eq_true rfl) (Nat.le_of_ble_eq_true rfl) ?_
      intro v3 T3 h3 u3 W3 R3 hq
      obtain ⟨hv3, eh3⟩ := hq
      have ei3 := eh3.symm; subst ei3
      rcases hv3 with ⟨rfl, q2⟩ | ⟨rfl, q2⟩
      · skip
        show Own.Go _ _ _ _ _ 35 #[.val (.ref t), .val (.int (3 : Int32)), .val (.ref t'), .val (.int (3 : Int32)), .val (.int (3 : Int32)), .val (.int (3 : Int32)), .val (.int c.toInt8.toInt32), .val (.int c'.toInt8.toInt32)] [(.int (1 : Int32))]
        refine Own.ifNo W3 d17_35 38 (by decide) rfl ?_
        refine Own.goto W3 d17_38 6 (by decide) (by decide) ?_
        refine Own.iloadN W3 d17_6 7 rfl (3 : Int32) rfl ?_
        refine Own.iload W3 d17_7 9 rfl (3 : Int32) rfl ?_
        refine Own.icmpYes W3 d17_9 43 (by decide) (by decide) (by decide) ?_
        refine Own.iconst W3 d17_43 44 rfl (1 : Int32) rfl ?_
        exact Own.retB W3 (by decide) (by decide) rfl d17_44 rfl ⟨Or.inl ⟨rfl, by simp [q0, q1, q2]⟩, rfl⟩
      · skip
        show Own.Go _ _ _ _ _ 35 #[.val (.ref t), .val (.int (3 : Int32)), .val (.ref t'), .val (.int (3 : Int32)), .val (.int (3 : Int32)), .val (.int (3 : Int32)), .val (.int c.toInt8.toInt32), .val (.int c'.toInt8.toInt32)] [(.int (0 : Int32))]
        refine Own.ifYes W3 d17_35 41 (by decide) (by decide) (by decide) ?_
        refine Own.iconst W3 d17_41 42 rfl (0 : Int32) rfl ?_
        exact Own.retB W3 (by decide) (by decide) rfl d17_42 rfl ⟨Or.inr ⟨rfl, fun q => q2 (by simp at q; simp [q])⟩, rfl⟩
    · skip
      show Own.Go _ _ _ _ _ 35 #[.val (.ref t), .val (.int (2 : Int32)), .val (.ref t'), .val (.int (2 : Int32)), .val (.int (3 : Int32)), .val (.int (3 : Int32)), .val (.int b.toInt8.toInt32), .val (.int b'.toInt8.toInt32)] [(.int (0 : Int32))]
      refine Own.ifYes W2 d17_35 41 (by decide) (by decide) (by decide) ?_
      refine Own.iconst W2 d17_41 42 rfl (0 : Int32) rfl ?_
      exact Own.retB W2 (by decide) (by decide) rfl d17_42 rfl ⟨Or.inr ⟨rfl, fun q => q1 (by simp at q; simp [q])⟩, rfl⟩
  · skip
    show Own.Go _ _ _ _ _ 35 #[.val (.ref t), .val (.int (1 : Int32)), .val (.ref t'), .val (.int (1 : Int32)), .val (.int (3 : Int32)), .val (.int (3 : Int32)), .val (.int a.toInt8.toInt32), .val (.int a'.toInt8.toInt32)] [(.int (0 : Int32))]
    refine Own.ifYes W1 d17_35 41 (by decide) (by decide) (by decide) ?_
    refine Own.iconst W1 d17_41 42 rfl (0 : Int32) rfl ?_
    exact Own.retB W1 (by decide) (by decide) rfl d17_42 rfl ⟨Or.inr ⟨rfl, fun q => q0 (by simp at q; simp [q])⟩, rfl⟩
set_option maxRecDepth 65536 in
set_option maxHeartbeats 40000000 in
theorem con_rm3 {G : Own.Gl} (hw : ∀ d ∈ tables_1, d.before G.a0 G.Z = true) (hEL : EW G.Z G.a0 G.EL) (hmem : (Own.ST, 7) ∈ G.EL) {cz : Int32} (hS : Sta G.Z G.Z.heap Own.ST "COMPACT_STRINGS" "Z" (.int cz)) (hcz : ¬ cz = 0) {x y : Addr} {a b c a' b' c' : Int32} (h0 : (¬ a < 0 ∧ ¬ (255 : Int32) < a)) (g0 : (¬ a' < 0 ∧ ¬ (255 : Int32) < a')) (h1 : (¬ b < 0 ∧ ¬ (255 : Int32) < b)) (g1 : (¬ b' < 0 ∧ ¬ (255 : Int32) < b')) (h2 : (¬ c < 0 ∧ ¬ (255 : Int32) < c)) (g2 : (¬ c' < 0 ∧ ¬ (255 : Int32) < c')) {h : Heap} (hO : Old G.Z G.n0 h) (S1 : Own.Str G.Z h x [a, b, c]) (S2 : Own.Str G.Z h y [a', b', c']) :
    Own.Con G [] bRm #[.ref x, .int 1, .int 0, .ref y, .int 0, .int 3] h [] (fun v h' => ((v = some (.int 1) ∧ ([a, b, c] : List Int32).map foldF = ([a', b', c'] : List Int32).map foldF) ∨ (v = some (.int 0) ∧ ¬ ([a, b, c] : List Int32).map foldF = ([a', b', c'] : List Int32).map foldF)) ∧ h' = h) := by
  refine Own.Con.intro (plainFor_of_name pn_1) hO hEL _ (fun m => ef_bRm m x 1 0 y 0 3) ?_
  intro X T0 W0 sf
  obtain ⟨E1, C1, R1, L1, t1, k1, V1, B1⟩ := id S1
  have A1 : Arv G.Z h t1 k1 .byte (3 : Int32) [(.int a.toInt8.toInt32), (.int b.toInt8.toInt32), (.int c.toInt8.toInt32)] (.int 0) := B1
  obtain ⟨E2, C2, R2, L2, t2, k2, V2, B2⟩ := id S2
  have A2 : Arv G.Z h t2 k2 .byte (3 : Int32) [(.int a'.toInt8.toInt32), (.int b'.toInt8.toInt32), (.int c'.toInt8.toInt32)] (.int 0) := B2
  refine Own.iloadN W0 d16_0 1 rfl (1 : Int32) rfl ?_
  refine Own.ifYes W0 d16_1 15 (by decide) (by decide) (by decide) ?_
  refine Own.iload W0 d16_15 17 rfl (0 : Int32) rfl ?_
  refine Own.ifNo W0 d16_17 20 (by decide) rfl ?_
  refine Own.iloadN W0 d16_20 21 rfl (0 : Int32) rfl ?_
  refine Own.ifNo W0 d16_21 24 (by decide) rfl ?_
  refine Own.iloadN W0 d16_24 25 rfl (0 : Int32) rfl ?_
  refine Own.i2l W0 d16_25 26 rfl ?_
  refine Own.aloadN W0 d16_26 27 rfl (.ref x) rfl rfl ?_
  refine Own.callV W0 (tw hw 71 rfl) (tw hw 72 rfl) (fun s q => notFace_of_selects (args := #[]) (mvT (s := s) q (tw hw 74 rfl))) (tw hw 74 rfl) (tw hw 73 rfl) (by decide) (argsL := []) (rest := [(.long ((0 : Int32).toInt64))]) (Own.payLen (wL hw) (kI := 4) (tw hw 9 rfl) W0 S1 hS hcz (len := 3) (wd := 2) (by decide) (by decide)) E1 rfl (lenOf pd_2 rfl) rfl (Nat.le_of_ble_eq_true rfl) d16_27 30 rfl 0 0 (Nat.le_of_ble_eq_true rfl) (Nat.le_of_ble_eq_true rfl) (Nat.le_of_ble_eq_true rfl) (Nat.le_of_ble_eq_true rfl) ?_
  intro v1 T1 h1 u1 W1 R1 hq
  obtain ⟨rfl, eh1⟩ := hq
  have ei1 := eh1.symm; subst ei1
  show Own.Go _ _ _ _ _ 30 #[.val (.ref x), .val (.int (1 : Int32)), .val (.int (0 : Int32)), .val (.ref y), .val (.int (0 : Int32)), .val (.int (3 : Int32)), .unset, .unset, .unset] [(.int (3 : Int32)), (.long ((0 : Int32).toInt64))]
  refine Own.i2l W1 d16_30 31 rfl ?_
  refine Own.iload W1 d16_31 33 rfl (3 : Int32) rfl ?_
  refine Own.i2l W1 d16_33 34 rfl ?_
  refine Own.lsub W1 d16_34 35 rfl ?_
  refine Own.lcmp W1 d16_35 36 rfl ?_
  refine Own.ifNo W1 d16_36 39 (by decide) rfl ?_
  refine Own.iload W1 d16_39 41 rfl (0 : Int32) rfl ?_
  refine Own.i2l W1 d16_41 42 rfl ?_
  refine Own.aloadN W1 d16_42 43 rfl (.ref y) rfl rfl ?_
  refine Own.callV W1 (tw hw 71 rfl) (tw hw 72 rfl) (fun s q => notFace_of_selects (args := #[]) (mvT (s := s) q (tw hw 74 rfl))) (tw hw 74 rfl) (tw hw 73 rfl) (by decide) (argsL := []) (rest := [(.long ((0 : Int32).toInt64))]) (Own.payLen (wL hw) (kI := 4) (tw hw 9 rfl) W1 S2 hS hcz (len := 3) (wd := 2) (by decide) (by decide)) E2 rfl (lenOf pd_2 rfl) rfl (Nat.le_of_ble_eq_true rfl) d16_43 46 rfl 0 0 (Nat.le_of_ble_eq_true rfl) (Nat.le_of_ble_eq_true rfl) (Nat.le_of_ble_eq_true rfl) (Nat.le_of_ble_eq_true rfl) ?_
  intro v2 T2 h2 u2 W2 R2 hq
  obtain ⟨rfl, eh2⟩ := hq
  have ei2 := eh2.symm; subst ei2
  show Own.Go _ _ _ _ _ 46 #[.val (.ref x), .val (.int (1 : Int32)), .val (.int (0 : Int32)), .val (.ref y), .val (.int (0 : Int32)), .val (.int (3 : Int32)), .unset, .unset, .unset] [(.int (3 : Int32)), (.long ((0 : Int32).toInt64))]
  refine Own.i2l W2 d16_46 47 rfl ?_
  refine Own.iload W2 d16_47 49 rfl (3 : Int32) rfl ?_
  refine Own.i2l W2 d16_49 50 rfl ?_
  refine Own.lsub W2 d16_50 51 rfl ?_
  refine Own.lcmp W2 d16_51 52 rfl ?_
  refine Own.ifYes W2 d16_52 57 (by decide) (by decide) (by decide) ?_
  refine Own.aloadN W2 d16_57 58 rfl (.ref x) rfl rfl ?_
  refine Own.getF W2 (tw hw 35 rfl) Via.refl V1 d16_58 61 rfl ?_
  intro T3 W3
  refine Own.astore W3 d16_61 63 rfl rfl #[.val (.ref x), .val (.int (1 : Int32)), .val (.int (0 : Int32)), .val (.ref y), .val (.int (0 : Int32)), .val (.int (3 : Int32)), .val (.ref t1), .unset, .unset] rfl ?_
  refine Own.aloadN W3 d16_63 64 rfl (.ref y) rfl rfl ?_
  refine Own.getF W3 (tw hw 35 rfl) Via.refl V2 d16_64 67 rfl ?_
  intro T4 W4
  refine Own.astore W4 d16_67 69 rfl rfl #[.val (.ref x), .val (.int (1 : Int32)), .val (.int (0 : Int32)), .val (.ref y), .val (.int (0 : Int32)), .val (.int (3 : Int32)), .val (.ref t1), .val (.ref t2), .unset] rfl ?_
  refine Own.aloadN W4 d16_69 70 rfl (.ref x) rfl rfl ?_
  refine Own.callV W4 (tw hw 76 rfl) (tw hw 77 rfl) (fun s q => notFace_of_selects (args := #[]) (mvT (s := s) q (tw hw 79 rfl))) (tw hw 79 rfl) (tw hw 78 rfl) (by decide) (argsL := []) (rest := []) (Own.Con.pay (con_cdr hw hEL hmem hS hcz W4.old C1) W4 (tw hw 80 rfl) (tw hw 10 rfl) (len := 3) (wd := 0) (by decide) (by decide) (fun _ q => nomatch q)) E1 rfl (lenOf pd_3 rfl) rfl (Nat.le_of_ble_eq_true rfl) d16_70 73 rfl 0 0 (Nat.le_of_ble_eq_true rfl) (Nat.le_of_ble_eq_true rfl) (Nat.le_of_ble_eq_true rfl) (Nat.le_of_ble_eq_true rfl) ?_
  intro v5 T5 h5 u5 W5 R5 hq
  obtain ⟨rfl, eh5⟩ := hq
  have ei5 := eh5.symm; subst ei5
  show Own.Go _ _ _ _ _ 73 #[.val (.ref x), .val (.int (1 : Int32)), .val (.int (0 : Int32)), .val (.ref y), .val (.int (0 : Int32)), .val (.int (3 : Int32)), .val (.ref t1), .val (.ref t2), .unset] [(.int (0 : Int32))]
  refine Own.istore W5 d16_73 75 rfl #[.val (.ref x), .val (.int (1 : Int32)), .val (.int (0 : Int32)), .val (.ref y), .val (.int (0 : Int32)), .val (.int (3 : Int32)), .val (.ref t1), .val (.ref t2), .val (.int (0 : Int32))] rfl ?_
  refine Own.iload W5 d16_75 77 rfl (0 : Int32) rfl ?_
  refine Own.aloadN W5 d16_77 78 rfl (.ref y) rfl rfl ?_
  refine Own.callV W5 (tw hw 76 rfl) (tw hw 77 rfl) (fun s q => notFace_of_selects (args := #[]) (mvT (s := s) q (tw hw 79 rfl))) (tw hw 79 rfl) (tw hw 78 rfl) (by decide) (argsL := []) (rest := [(.int (0 : Int32))]) (Own.Con.pay (con_cdr hw hEL hmem hS hcz W5.old C2) W5 (tw hw 80 rfl) (tw hw 10 rfl) (len := 3) (wd := 1) (by decide) (by decide) (fun _ q => nomatch q)) E2 rfl (lenOf pd_3 rfl) rfl (Nat.le_of_ble_eq_true rfl) d16_78 81 rfl 0 0 (Nat.le_of_ble_eq_true rfl) (Nat.le_of_ble_eq_true rfl) (Nat.le_of_ble_eq_true rfl) (Nat.le_of_ble_eq_true rfl) ?_
  intro v6 T6 h6 u6 W6 R6 hq
  obtain ⟨rfl, eh6⟩ := hq
  have ei6 := eh6.symm; subst ei6
  show Own.Go _ _ _ _ _ 81 #[.val (.ref x), .val (.int (1 : Int32)), .val (.int (0 : Int32)), .val (.ref y), .val (.int (0 : Int32)), .val (.int (3 : Int32)), .val (.ref t1), .val (.ref t2), .val (.int (0 : Int32))] [(.int (0 : Int32)), (.int (0 : Int32))]
  refine Own.icmpNo W6 d16_81 84 (by decide) rfl ?_
  refine Own.iload W6 d16_84 86 rfl (0 : Int32) rfl ?_
  refine Own.ifNo W6 d16_86 89 (by decide) rfl ?_
  refine Own.aload W6 d16_89 91 rfl (.ref t1) rfl rfl ?_
  refine Own.iloadN W6 d16_91 92 rfl (0 : Int32) rfl ?_
  refine Own.aload W6 d16_92 94 rfl (.ref t2) rfl rfl ?_
  refine Own.iload W6 d16_94 96 rfl (0 : Int32) rfl ?_
  refine Own.iload W6 d16_96 98 rfl (3 : Int32) rfl ?_
  refine Own.callS W6 (tw hw 86 rfl) (tw hw 87 rfl) (tw hw 88 rfl) (tw hw 89 rfl) (by decide) (argsL := [(.ref t1), (.int (0 : Int32)), (.ref t2), (.int (0 : Int32)), (.int (3 : Int32))]) (rest := []) (Own.Con.pay (con_rci3 hw hEL h0 g0 h1 g1 h2 g2 W6.old A1 A2) W6 (tw hw 89 rfl) (tw hw 88 rfl) (len := 3) (wd := 0) (by decide) (by decide) (fun _ q => nomatch q)) rfl (lenOf pd_4 rfl) rfl (Nat.le_of_ble_eq_true rfl) d16_98 101 rfl 0 0 (Nat.le_of_ble_eq_true rfl) (Nat.le_of_ble_eq_true rfl) (Nat.le_of_ble_eq_true rfl) (Nat.le_of_ble_eq_true rfl) ?_
  intro v7 T7 h7 u7 W7 R7 hq
  obtain ⟨hv7, eh7⟩ := hq
  have ei7 := eh7.symm; subst ei7
  rcases hv7 with ⟨rfl, q⟩ | ⟨rfl, q⟩
  · skip
    show Own.Go _ _ _ _ _ 101 #[.val (.ref x), .val (.int (1 : Int32)), .val (.int (0 : Int32)), .val (.ref y), .val (.int (0 : Int32)), .val (.int (3 : Int32)), .val (.ref t1), .val (.ref t2), .val (.int (0 : Int32))] [(.int (1 : Int32))]
    refine Own.goto W7 d16_101 116 (by decide) (by decide) ?_
    exact Own.retB W7 (by decide) (by decide) rfl d16_116 rfl ⟨Or.inl ⟨rfl, q⟩, rfl⟩
  · skip
    show Own.Go _ _ _ _ _ 101 #[.val (.ref x), .val (.int (1 : Int32)), .val (.int (0 : Int32)), .val (.ref y), .val (.int (0 : Int32)), .val (.int (3 : Int32)), .val (.ref t1), .val (.ref t2), .val (.int (0 : Int32))] [(.int (0 : Int32))]
    refine Own.goto W7 d16_101 116 (by decide) (by decide) ?_
    exact Own.retB W7 (by decide) (by decide) rfl d16_116 rfl ⟨Or.inr ⟨rfl, q⟩, rfl⟩
set_option maxRecDepth 65536 in
set_option maxHeartbeats 40000000 in
theorem con_eic {G : Own.Gl} (hw : ∀ d ∈ tables_1, d.before G.a0 G.Z = true) (hEL : EW G.Z G.a0 G.EL) (hmem : (Own.ST, 7) ∈ G.EL) {cz : Int32} (hS : Sta G.Z G.Z.heap Own.ST "COMPACT_STRINGS" "Z" (.int cz)) (hcz : ¬ cz = 0) {x y : Addr} (hxy : x ≠ y) {cs ds : List Int32} (hl : cs.length ≤ 3) (hl' : ds.length ≤ 3) {h : Heap} (hO : Old G.Z G.n0 h) (S1 : Own.Str G.Z h x cs) (S2 : Own.Str G.Z h y ds) :
    Own.Con G [] bEic #[.ref x, .ref y] h [] (fun v h' => ((v = some (.int 1) ∧ cs.map foldF = ds.map foldF) ∨ (v = some (.int 0) ∧ ¬ cs.map foldF = ds.map foldF)) ∧ h' = h) := by
  refine Own.Con.intro (plainFor_of_name pn_1) hO hEL _ (fun m => ef_bEic m x y) ?_
  intro X T0 W0 sf
  have E1 := S1.exa
  have E2 := S2.exa
  refine Own.aloadN W0 d13_0 1 rfl (.ref x) rfl rfl ?_
  refine Own.aloadN W0 d13_1 2 rfl (.ref y) rfl rfl ?_
  refine Own.acmp W0 d13_2 9 rfl rfl false (decide_eq_false fun q => hxy (Value.ref.inj q)) (by decide) rfl ?_
  refine Own.aloadN W0 d13_9 10 rfl (.ref y) rfl rfl ?_
  refine Own.ifnullNo W0 d13_10 13 rfl ?_
  refine Own.aloadN W0 d13_13 14 rfl (.ref y) rfl rfl ?_
  refine Own.callV W0 (tw hw 71 rfl) (tw hw 72 rfl) (fun s q => notFace_of_selects (args := #[]) (mvT (s := s) q (tw hw 74 rfl))) (tw hw 74 rfl) (tw hw 73 rfl) (by decide) (argsL := []) (rest := []) (Own.payLen (wL hw) (kI := 4) (tw hw 9 rfl) W0 S2 hS hcz (len := 3) (wd := 0) (by decide) (by decide)) E2 rfl (lenOf pd_2 rfl) rfl (Nat.le_of_ble_eq_true rfl) d13_14 17 rfl 0 0 (Nat.le_of_ble_eq_true rfl) (Nat.le_of_ble_eq_true rfl) (Nat.le_of_ble_eq_true rfl) (Nat.le_of_ble_eq_true rfl) ?_
  intro v1 T1 h1 u1 W1 R1 hq
  obtain ⟨rfl, eh1⟩ := hq
  have ei1 := eh1.symm; subst ei1
  show Own.Go _ _ _ _ _ 17 #[.val (.ref x), .val (.ref y)] [(.int (Int32.ofNat ds.length))]
  refine Own.aloadN W1 d13_17 18 rfl (.ref x) rfl rfl ?_
  refine Own.callV W1 (tw hw 71 rfl) (tw hw 72 rfl) (fun s q => notFace_of_selects (args := #[]) (mvT (s := s) q (tw hw 74 rfl))) (tw hw 74 rfl) (tw hw 73 rfl) (by decide) (argsL := []) (rest := [(.int (Int32.ofNat ds.length))]) (Own.payLen (wL hw) (kI := 4) (tw hw 9 rfl) W1 S1 hS hcz (len := 3) (wd := 1) (by decide) (by decide)) E1 rfl (lenOf pd_2 rfl) rfl (Nat.le_of_ble_eq_true rfl) d13_18 21 rfl 0 0 (Nat.le_of_ble_eq_true rfl) (Nat.le_of_ble_eq_true rfl) (Nat.le_of_ble_eq_true rfl) (Nat.le_of_ble_eq_true rfl) ?_
  intro v2 T2 h2 u2 W2 R2 hq
  obtain ⟨rfl, eh2⟩ := hq
  have ei2 := eh2.symm; subst ei2
  show Own.Go _ _ _ _ _ 21 #[.val (.ref x), .val (.ref y)] [(.int (Int32.ofNat cs.length)), (.int (Int32.ofNat ds.length))]
  by_cases ql : (Int32.ofNat ds.length) = (Int32.ofNat cs.length)
  · skip
    refine Own.icmpNo W2 d13_21 24 (XT.ii_ne_f ql) rfl ?_
    rcases shapes (len_eq hl hl' ql) hl with ⟨rfl, rfl⟩ | ⟨a, a', rfl, rfl⟩ | ⟨a, b, a', b', rfl, rfl⟩ | ⟨a, b, c, a', b', c', rfl, rfl⟩
    · skip
      refine Own.aloadN W2 d13_24 25 rfl (.ref x) rfl rfl ?_
      refine Own.iconst W2 d13_25 26 rfl (1 : Int32) rfl ?_
      refine Own.iconst W2 d13_26 27 rfl (0 : Int32) rfl ?_
      refine Own.aloadN W2 d13_27 28 rfl (.ref y) rfl rfl ?_
      refine Own.iconst W2 d13_28 29 rfl (0 : Int32) rfl ?_
      refine Own.aloadN W2 d13_29 30 rfl (.ref x) rfl rfl ?_
      refine Own.callV W2 (tw hw 71 rfl) (tw hw 72 rfl) (fun s q => notFace_of_selects (args := #[]) (mvT (s := s) q (tw hw 74 rfl))) (tw hw 74 rfl) (tw hw 73 rfl) (by decide) (argsL := []) (rest := [(.int (0 : Int32)), (.ref y), (.int (0 : Int32)), (.int (1 : Int32)), (.ref x)]) (Own.payLen (wL hw) (kI := 4) (tw hw 9 rfl) W2 S1 hS hcz (len := 3) (wd := 5) (by decide) (by decide)) E1 rfl (lenOf pd_2 rfl) rfl (Nat.le_of_ble_eq_true rfl) d13_30 33 rfl 0 0 (Nat.le_of_ble_eq_true rfl) (Nat.le_of_ble_eq_true rfl) (Nat.le_of_ble_eq_true rfl) (Nat.le_of_ble_eq_true rfl) ?_
      intro v3 T3 h3 u3 W3 R3 hq
      obtain ⟨rfl, eh3⟩ := hq
      have ei3 := eh3.symm; subst ei3
      show Own.Go _ _ _ _ _ 33 #[.val (.ref x), .val (.ref y)] [(.int (Int32.ofNat [].length)), (.int (0 : Int32)), (.ref y), (.int (0 : Int32)), (.int (1 : Int32)), (.ref x)]
      show Own.Go _ _ _ _ _ 33 #[.val (.ref x), .val (.ref y)] [(.int (0 : Int32)), (.int (0 : Int32)), (.ref y), (.int (0 : Int32)), (.int (1 : Int32)), (.ref x)]
      refine Own.callV W3 (tw hw 81 rfl) (tw hw 82 rfl) (fun s q => notFace_of_selects (args := #[]) (mvT (s := s) q (tw hw 84 rfl))) (tw hw 84 rfl) (tw hw 83 rfl) (by decide) (argsL := [(.int (1 : Int32)), (.int (0 : Int32)), (.ref y), (.int (0 : Int32)), (.int (0 : Int32))]) (rest := []) (Own.Con.pay (con_rm0 hw hEL hmem hS hcz W3.old S1 S2) W3 (tw hw 85 rfl) (tw hw 10 rfl) (len := 3) (wd := 0) (by decide) (by decide) (fun _ q => nomatch q)) E1 rfl (lenOf pd_6 rfl) rfl (Nat.le_of_ble_eq_true rfl) d13_33 36 rfl 0 0 (Nat.le_of_ble_eq_true rfl) (Nat.le_of_ble_eq_true rfl) (Nat.le_of_ble_eq_true rfl) (Nat.le_of_ble_eq_true rfl) ?_
      intro v4 T4 h4 u4 W4 R4 hq
      obtain ⟨hv4, eh4⟩ := hq
      have ei4 := eh4.symm; subst ei4
      rcases hv4 with ⟨rfl, q⟩ | ⟨rfl, q⟩
      · skip
        show Own.Go _ _ _ _ _ 36 #[.val (.ref x), .val (.ref y)] [(.int (1 : Int32))]
        refine Own.ifNo W4 d13_36 39 (by decide) rfl ?_
        refine Own.iconst W4 d13_39 40 rfl (1 : Int32) rfl ?_
        refine Own.goto W4 d13_40 44 (by decide) (by decide) ?_
        exact Own.retB W4 (by decide) (by decide) rfl d13_44 rfl ⟨Or.inl ⟨rfl, q⟩, rfl⟩
      · skip
        show Own.Go _ _ _ _ _ 36 #[.val (.ref x), .val (.ref y)] [(.int (0 : Int32))]
        refine Own.ifYes W4 d13_36 43 (by decide) (by decide) (by decide) ?_
        refine Own.iconst W4 d13_43 44 rfl (0 : Int32) rfl ?_
        exact Own.retB W4 (by decide) (by decide) rfl d13_44 rfl ⟨Or.inr ⟨rfl, q⟩, rfl⟩
    · skip
      refine Own.aloadN W2 d13_24 25 rfl (.ref x) rfl rfl ?_
      refine Own.iconst W2 d13_25 26 rfl (1 : Int32) rfl ?_
      refine Own.iconst W2 d13_26 27 rfl (0 : Int32) rfl ?_
      refine Own.aloadN W2 d13_27 28 rfl (.ref y) rfl rfl ?_
      refine Own.iconst W2 d13_28 29 rfl (0 : Int32) rfl ?_
      refine Own.aloadN W2 d13_29 30 rfl (.ref x) rfl rfl ?_
      refine Own.callV W2 (tw hw 71 rfl) (tw hw 72 rfl) (fun s q => notFace_of_selects (args := #[]) (mvT (s := s) q (tw hw 74 rfl))) (tw hw 74 rfl) (tw hw 73 rfl) (by decide) (argsL := []) (rest := [(.int (0 : Int32)), (.ref y), (.int (0 : Int32)), (.int (1 : Int32)), (.ref x)]) (Own.payLen (wL hw) (kI := 4) (tw hw 9 rfl) W2 S1 hS hcz (len := 3) (wd := 5) (by decide) (by decide)) E1 rfl (lenOf pd_2 rfl) rfl (Nat.le_of_ble_eq_true rfl) d13_30 33 rfl 0 0 (Nat.le_of_ble_eq_true rfl) (Nat.le_of_ble_eq_true rfl) (Nat.le_of_ble_eq_true rfl) (Nat.le_of_ble_eq_true rfl) ?_
      intro v5 T5 h5 u5 W5 R5 hq
      obtain ⟨rfl, eh5⟩ := hq
      have ei5 := eh5.symm; subst ei5
      show Own.Go _ _ _ _ _ 33 #[.val (.ref x), .val (.ref y)] [(.int (Int32.ofNat [a].length)), (.int (0 : Int32)), (.ref y), (.int (0 : Int32)), (.int (1 : Int32)), (.ref x)]
      show Own.Go _ _ _ _ _ 33 #[.val (.ref x), .val (.ref y)] [(.int (1 : Int32)), (.int (0 : Int32)), (.ref y), (.int (0 : Int32)), (.int (1 : Int32)), (.ref x)]
      refine Own.callV W5 (tw hw 81 rfl) (tw hw 82 rfl) (fun s q => notFace_of_selects (args := #[]) (mvT (s := s) q (tw hw 84 rfl))) (tw hw 84 rfl) (tw hw 83 rfl) (by decide) (argsL := [(.int (1 : Int32)), (.int (0 : Int32)), (.ref y), (.int (0 : Int32)), (.int (1 : Int32))]) (rest := []) (Own.Con.pay (con_rm1 hw hEL hmem hS hcz (S1.2.2.1 a (by simp)) (S2.2.2.1 a' (by simp)) W5.old S1 S2) W5 (tw hw 85 rfl) (tw hw 10 rfl) (len := 3) (wd := 0) (by decide) (by decide) (fun _ q => nomatch q)) E1 rfl (lenOf pd_6 rfl) rfl (Nat.le_of_ble_eq_true rfl) d13_33 36 rfl 0 0 (Nat.le_of_ble_eq_true rfl) (Nat.le_of_ble_eq_true rfl) (Nat.le_of_ble_eq_true rfl) (Nat.le_of_ble_eq_true rfl) ?_
      intro v6 T6 h6 u6 W6 R6 hq
      obtain ⟨hv6, eh6⟩ := hq
      have ei6 := eh6.symm; subst ei6
      rcases hv6 with ⟨rfl, q⟩ | ⟨rfl, q⟩
      · skip
        show Own.Go _ _ _ _ _ 36 #[.val (.ref x), .val (.ref y)] [(.int (1 : Int32))]
        refine Own.ifNo W6 d13_36 39 (by decide) rfl ?_
        refine Own.iconst W6 d13_39 40 rfl (1 : Int32) rfl ?_
        refine Own.goto W6 d13_40 44 (by decide) (by decide) ?_
        exact Own.retB W6 (by decide) (by decide) rfl d13_44 rfl ⟨Or.inl ⟨rfl, q⟩, rfl⟩
      · skip
        show Own.Go _ _ _ _ _ 36 #[.val (.ref x), .val (.ref y)] [(.int (0 : Int32))]
        refine Own.ifYes W6 d13_36 43 (by decide) (by decide) (by decide) ?_
        refine Own.iconst W6 d13_43 44 rfl (0 : Int32) rfl ?_
        exact Own.retB W6 (by decide) (by decide) rfl d13_44 rfl ⟨Or.inr ⟨rfl, q⟩, rfl⟩
    · skip
      refine Own.aloadN W2 d13_24 25 rfl (.ref x) rfl rfl ?_
      refine Own.iconst W2 d13_25 26 rfl (1 : Int32) rfl ?_
      refine Own.iconst W2 d13_26 27 rfl (0 : Int32) rfl ?_
      refine Own.aloadN W2 d13_27 28 rfl (.ref y) rfl rfl ?_
      refine Own.iconst W2 d13_28 29 rfl (0 : Int32) rfl ?_
      refine Own.aloadN W2 d13_29 30 rfl (.ref x) rfl rfl ?_
      refine Own.callV W2 (tw hw 71 rfl) (tw hw 72 rfl) (fun s q => notFace_of_selects (args := #[]) (mvT (s := s) q (tw hw 74 rfl))) (tw hw 74 rfl) (tw hw 73 rfl) (by decide) (argsL := []) (rest := [(.int (0 : Int32)), (.ref y), (.int (0 : Int32)), (.int (1 : Int32)), (.ref x)]) (Own.payLen (wL hw) (kI := 4) (tw hw 9 rfl) W2 S1 hS hcz (len := 3) (wd := 5) (by decide) (by decide)) E1 rfl (lenOf pd_2 rfl) rfl (Nat.le_of_ble_eq_true rfl) d13_30 33 rfl 0 0 (Nat.le_of_ble_eq_true rfl) (Nat.le_of_ble_eq_true rfl) (Nat.le_of_ble_eq_true rfl) (Nat.le_of_ble_eq_true rfl) ?_
      intro v7 T7 h7 u7 W7 R7 hq
      obtain ⟨rfl, eh7⟩ := hq
      have ei7 := eh7.symm; subst ei7
      show Own.Go _ _ _ _ _ 33 #[.val (.ref x), .val (.ref y)] [(.int (Int32.ofNat [a, b].length)), (.int (0 : Int32)), (.ref y), (.int (0 : Int32)), (.int (1 : Int32)), (.ref x)]
      show Own.Go _ _ _ _ _ 33 #[.val (.ref x), .val (.ref y)] [(.int (2 : Int32)), (.int (0 : Int32)), (.ref y), (.int (0 : Int32)), (.int (1 : Int32)), (.ref x)]
      refine Own.callV W7 (tw hw 81 rfl) (tw hw 82 rfl) (fun s q => notFace_of_selects (args := #[]) (mvT (s := s) q (tw hw 84 rfl))) (tw hw 84 rfl) (tw hw 83 rfl) (by decide) (argsL := [(.int (1 : Int32)), (.int (0 : Int32)), (.ref y), (.int (0 : Int32)), (.int (2 : Int32))]) (rest := []) (Own.Con.pay (con_rm2 hw hEL hmem hS hcz (S1.2.2.1 a (by simp)) (S2.2.2.1 a' (by simp)) (S1.2.2.1 b (by simp)) (S2.2.2.1 b' (by simp)) W7.old S1 S2) W7 (tw hw 85 rfl) (tw hw 10 rfl) (len := 3) (wd := 0) (by decide) (by decide) (fun _ q => nomatch q)) E1 rfl (lenOf pd_6 rfl) rfl (Nat.le_of_ble_eq_true rfl) d13_33 36 rfl 0 0 (Nat.le_of_ble_eq_true rfl) (Nat.le_of_ble_eq_true rfl) (Nat.le_of_ble_eq_true rfl) (Nat.le_of_ble_eq_true rfl) ?_
      intro v8 T8 h8 u8 W8 R8 hq
      obtain ⟨hv8, eh8⟩ := hq
      have ei8 := eh8.symm; subst ei8
      rcases hv8 with ⟨rfl, q⟩ | ⟨rfl, q⟩
      · skip
        show Own.Go _ _ _ _ _ 36 #[.val (.ref x), .val (.ref y)] [(.int (1 : Int32))]
        refine Own.ifNo W8 d13_36 39 (by decide) rfl ?_
        refine Own.iconst W8 d13_39 40 rfl (1 : Int32) rfl ?_
        refine Own.goto W8 d13_40 44 (by decide) (by decide) ?_
        exact Own.retB W8 (by decide) (by decide) rfl d13_44 rfl ⟨Or.inl ⟨rfl, q⟩, rfl⟩
      · skip
        show Own.Go _ _ _ _ _ 36 #[.val (.ref x), .val (.ref y)] [(.int (0 : Int32))]
        refine Own.ifYes W8 d13_36 43 (by decide) (by decide) (by decide) ?_
        refine Own.iconst W8 d13_43 44 rfl (0 : Int32) rfl ?_
        exact Own.retB W8 (by decide) (by decide) rfl d13_44 rfl ⟨Or.inr ⟨rfl, q⟩, rfl⟩
    · skip
      refine Own.aloadN W2 d13_24 25 rfl (.ref x) rfl rfl ?_
      refine Own.iconst W2 d13_25 26 rfl (1 : Int32) rfl ?_
      refine Own.iconst W2 d13_26 27 rfl (0 : Int32) rfl ?_
      refine Own.aloadN W2 d13_27 28 rfl (.ref y) rfl rfl ?_
      refine Own.iconst W2 d13_28 29 rfl (0 : Int32) rfl ?_
      refine Own.aloadN W2 d13_29 30 rfl (.ref x) rfl rfl ?_
      refine Own.callV W2 (tw hw 71 rfl) (tw hw 72 rfl) (fun s q => notFace_of_selects (args := #[]) (mvT (s := s) q (tw hw 74 rfl))) (tw hw 74 rfl) (tw hw 73 rfl) (by decide) (argsL := []) (rest := [(.int (0 : Int32)), (.ref y), (.int (0 : Int32)), (.int (1 : Int32)), (.ref x)]) (Own.payLen (wL hw) (kI := 4) (tw hw 9 rfl) W2 S1 hS hcz (len := 3) (wd := 5) (by decide) (by decide)) E1 rfl (lenOf pd_2 rfl) rfl (Nat.le_of_ble_eq_true rfl) d13_30 33 rfl 0 0 (Nat.le_of_ble_eq_true rfl) (Nat.le_of_ble_eq_true rfl) (Nat.le_of_ble_eq_true rfl) (Nat.le_of_ble_eq_true rfl) ?_
      intro v9 T9 h9 u9 W9 R9 hq
      obtain ⟨rfl, eh9⟩ := hq
      have ei9 := eh9.symm; subst ei9
      show Own.Go _ _ _ _ _ 33 #[.val (.ref x), .val (.ref y)] [(.int (Int32.ofNat [a, b, c].length)), (.int (0 : Int32)), (.ref y), (.int (0 : Int32)), (.int (1 : Int32)), (.ref x)]
      show Own.Go _ _ _ _ _ 33 #[.val (.ref x), .val (.ref y)] [(.int (3 : Int32)), (.int (0 : Int32)), (.ref y), (.int (0 : Int32)), (.int (1 : Int32)), (.ref x)]
      refine Own.callV W9 (tw hw 81 rfl) (tw hw 82 rfl) (fun s q => notFace_of_selects (args := #[]) (mvT (s := s) q (tw hw 84 rfl))) (tw hw 84 rfl) (tw hw 83 rfl) (by decide) (argsL := [(.int (1 : Int32)), (.int (0 : Int32)), (.ref y), (.int (0 : Int32)), (.int (3 : Int32))]) (rest := []) (Own.Con.pay (con_rm3 hw hEL hmem hS hcz (S1.2.2.1 a (by simp)) (S2.2.2.1 a' (by simp)) (S1.2.2.1 b (by simp)) (S2.2.2.1 b' (by simp)) (S1.2.2.1 c (by simp)) (S2.2.2.1 c' (by simp)) W9.old S1 S2) W9 (tw hw 85 rfl) (tw hw 10 rfl) (len := 3) (wd := 0) (by decide) (by decide) (fun _ q => nomatch q)) E1 rfl (lenOf pd_6 rfl) rfl (Nat.le_of_ble_eq_true rfl) d13_33 36 rfl 0 0 (Nat.le_of_ble_eq_true rfl) (Nat.le_of_ble_eq_true rfl) (Nat.le_of_ble_eq_true rfl) (Nat.le_of_ble_eq_true rfl) ?_
      intro v10 T10 h10 u10 W10 R10 hq
      obtain ⟨hv10, eh10⟩ := hq
      have ei10 := eh10.symm; subst ei10
      rcases hv10 with ⟨rfl, q⟩ | ⟨rfl, q⟩
      · skip
        show Own.Go _ _ _ _ _ 36 #[.val (.ref x), .val (.ref y)] [(.int (1 : Int32))]
        refine Own.ifNo W10 d13_36 39 (by decide) rfl ?_
        refine Own.iconst W10 d13_39 40 rfl (1 : Int32) rfl ?_
        refine Own.goto W10 d13_40 44 (by decide) (by decide) ?_
        exact Own.retB W10 (by decide) (by decide) rfl d13_44 rfl ⟨Or.inl ⟨rfl, q⟩, rfl⟩
      · skip
        show Own.Go _ _ _ _ _ 36 #[.val (.ref x), .val (.ref y)] [(.int (0 : Int32))]
        refine Own.ifYes W10 d13_36 43 (by decide) (by decide) (by decide) ?_
        refine Own.iconst W10 d13_43 44 rfl (0 : Int32) rfl ?_
        exact Own.retB W10 (by decide) (by decide) rfl d13_44 rfl ⟨Or.inr ⟨rfl, q⟩, rfl⟩
  · skip
    refine Own.icmpYes W2 d13_21 43 (XT.ii_ne_t ql) (by decide) (by decide) ?_
    refine Own.iconst W2 d13_43 44 rfl (0 : Int32) rfl ?_
    exact Own.retB W2 (by decide) (by decide) rfl d13_44 rfl ⟨Or.inr ⟨rfl, fun q => len_ne hl hl' ql (by have z := congrArg List.length q; simpa using z)⟩, rfl⟩
set_option maxRecDepth 65536 in
set_option maxHeartbeats 40000000 in
theorem con_clo {G : Own.Gl} (hw : ∀ d ∈ tables_1, d.before G.a0 G.Z = true) (hEL : EW G.Z G.a0 G.EL) (hmem : (Own.ST, 7) ∈ G.EL) {cz : Int32} (hS : Sta G.Z G.Z.heap Own.ST "COMPACT_STRINGS" "Z" (.int cz)) (hcz : ¬ cz = 0) {a x y : Addr} {cl : Int32} (hxy : x ≠ y) {cs ds : List Int32} (hl : cs.length ≤ 3) (hl' : ds.length ≤ 3) {h : Heap} (hO : Old G.Z G.n0 h) (Fc : Fld G.Z h a "com/example/lopa/lopa/trec/SgmlScanner$Tag" "closing" "Z" (.int cl)) (Fn : Fld G.Z h a "com/example/lopa/lopa/trec/SgmlScanner$Tag" "name" "Ljava/lang/String;" (.ref x)) (S1 : Own.Str G.Z h x cs) (S2 : Own.Str G.Z h y ds) :
    Own.Con G [] bClo #[.ref a, .ref y] h [] (fun v h' => ((v = some (.int 1) ∧ ¬ cl = 0 ∧ cs.map foldF = ds.map foldF) ∨ (v = some (.int 0) ∧ ¬ (¬ cl = 0 ∧ cs.map foldF = ds.map foldF))) ∧ h' = h) := by
  refine Own.Con.intro (plainFor_of_name pn_3) hO hEL _ (fun m => ef_bClo m a y) ?_
  intro X T0 W0 sf
  have E1 := S1.exa
  refine Own.aloadN W0 d11_0 1 rfl (.ref a) rfl rfl ?_
  refine Own.getF W0 (tw hw 51 rfl) Via.refl Fc d11_1 4 rfl ?_
  intro T1 W1
  by_cases hz : cl = (0 : Int32)
  · skip
    refine Own.ifYes W1 d11_4 22 (XT.i0_eq_t hz) (by decide) (by decide) ?_
    refine Own.iconst W1 d11_22 23 rfl (0 : Int32) rfl ?_
    exact Own.retB W1 (by decide) (by decide) rfl d11_23 rfl ⟨Or.inr ⟨rfl, fun q => q.1 hz⟩, rfl⟩
  · skip
    refine Own.ifNo W1 d11_4 7 (XT.i0_eq_f hz) rfl ?_
    refine Own.aloadN W1 d11_7 8 rfl (.ref a) rfl rfl ?_
    refine Own.getF W1 (tw hw 49 rfl) Via.refl Fn d11_8 11 rfl ?_
    intro T2 W2
    refine Own.aloadN W2 d11_11 12 rfl (.ref y) rfl rfl ?_
    refine Own.callV W2 (tw hw 66 rfl) (tw hw 67 rfl) (fun s q => notFace_of_selects (args := #[]) (mvT (s := s) q (tw hw 69 rfl))) (tw hw 69 rfl) (tw hw 68 rfl) (by decide) (argsL := [(.ref y)]) (rest := []) (Own.Con.pay (con_eic hw hEL hmem hS hcz hxy hl hl' W2.old S1 S2) W2 (tw hw 70 rfl) (tw hw 10 rfl) (len := 3) (wd := 0) (by decide) (by decide) (fun _ q => nomatch q)) E1 rfl (lenOf pd_7 rfl) rfl (Nat.le_of_ble_eq_true rfl) d11_12 15 rfl 0 0 (Nat.le_of_ble_eq_true rfl) (Nat.le_of_ble_eq_true rfl) (Nat.le_of_ble_eq_true rfl) (Nat.le_of_ble_eq_true rfl) ?_
    intro v3 T3 h3 u3 W3 R3 hq
    obtain ⟨hv3, eh3⟩ := hq
    have ei3 := eh3.symm; subst ei3
    rcases hv3 with ⟨rfl, q⟩ | ⟨rfl, q⟩
    · skip
      show Own.Go _ _ _ _ _ 15 #[.val (.ref a), .val (.ref y)] [(.int (1 : Int32))]
      refine Own.ifNo W3 d11_15 18 (by decide) rfl ?_
      refine Own.iconst W3 d11_18 19 rfl (1 : Int32) rfl ?_
      refine Own.goto W3 d11_19 23 (by decide) (by decide) ?_
      exact Own.retB W3 (by decide) (by decide) rfl d11_23 rfl ⟨Or.inl ⟨rfl, hz, q⟩, rfl⟩
    · skip
      show Own.Go _ _ _ _ _ 15 #[.val (.ref a), .val (.ref y)] [(.int (0 : Int32))]
      refine Own.ifYes W3 d11_15 22 (by decide) (by decide) (by decide) ?_
      refine Own.iconst W3 d11_22 23 rfl (0 : Int32) rfl ?_
      exact Own.retB W3 (by decide) (by decide) rfl d11_23 rfl ⟨Or.inr ⟨rfl, fun z => q z.2⟩, rfl⟩
set_option maxRecDepth 65536 in
set_option maxHeartbeats 40000000 in
theorem con_law {G : Own.Gl} (hw : ∀ d ∈ tables_1, d.before G.a0 G.Z = true) (hEL : EW G.Z G.a0 G.EL) (hmem : (Own.ST, 7) ∈ G.EL) {cz : Int32} (hS : Sta G.Z G.Z.heap Own.ST "COMPACT_STRINGS" "Z" (.int cz)) (hcz : ¬ cz = 0) (p0 : Int32) (p1 : Int32) (p2 : Int32) (p3 : Int64) {h : Heap} (hO : Old G.Z G.n0 h) :
    Own.Con G tables_1 bLaw #[.int p0, .int p1, .int p2, .long p3] h [] (fun v h' => v = some (.int 1)) := by
  refine Own.Con.intro (plainFor_of_name pn_2) hO hEL _ (fun m => ef_law m p0 p1 p2 p3) ?_
  intro X T0 W0 sf
  refine Own.iloadN W0 at_0 1 rfl p2 rfl ?_
  refine Own.iconst W0 at_1 2 rfl (1 : Int32) rfl ?_
  refine Own.iand W0 at_2 3 rfl ?_
  have J11 : ∀ (b5 : Int32), (b5 = 0 ∨ b5 = 1) → Own.Go G X bLaw (fun v h' => v = some (.int 1)) T0 11 #[.val (.int p0), .val (.int p1), .val (.int p2), .val (.long p3), .second, .unset, .unset, .unset, .unset, .unset, .unset, .unset, .unset, .unset, .unset, .unset, .unset, .unset, .unset] [(.int b5)] := by
    intro b5 hb5
    refine Own.istore W0 at_11 13 rfl #[.val (.int p0), .val (.int p1), .val (.int p2), .val (.long p3), .second, .val (.int b5), .unset, .unset, .unset, .unset, .unset, .unset, .unset, .unset, .unset, .unset, .unset, .unset, .unset] rfl ?_
    refine Own.iloadN W0 at_13 14 rfl p2 rfl ?_
    refine Own.iconst W0 at_14 15 rfl (1 : Int32) rfl ?_
    refine Own.iushr W0 at_15 16 rfl ?_
    refine Own.iconst W0 at_16 17 rfl (3 : Int32) rfl ?_
    refine Own.iand W0 at_17 18 rfl ?_
    refine Own.istore W0 at_18 20 rfl #[.val (.int p0), .val (.int p1), .val (.int p2), .val (.long p3), .second, .val (.int b5), .val (.int (Own.us p2 1 &&& 3)), .unset, .unset, .unset, .unset, .unset, .unset, .unset, .unset, .unset, .unset, .unset, .unset] rfl ?_
    refine Own.iloadN W0 at_20 21 rfl p2 rfl ?_
    refine Own.iconst W0 at_21 22 rfl (3 : Int32) rfl ?_
    refine Own.iushr W0 at_22 23 rfl ?_
    refine Own.iconst W0 at_23 24 rfl (1 : Int32) rfl ?_
    refine Own.iand W0 at_24 25 rfl ?_
    have J38 : ∀ (tl : Int32), (tl = 0 ∨ tl = 1 ∨ tl = 2 ∨ tl = 3) → Own.Go G X bLaw (fun v h' => v = some (.int 1)) T0 38 #[.val (.int p0), .val (.int p1), .val (.int p2), .val (.long p3), .second, .val (.int b5), .val (.int (Own.us p2 1 &&& 3)), .unset, .unset, .unset, .unset, .unset, .unset, .unset, .unset, .unset, .unset, .unset, .unset] [(.int tl)] := by
      intro tl htl
      refine Own.istore W0 at_38 40 rfl #[.val (.int p0), .val (.int p1), .val (.int p2), .val (.long p3), .second, .val (.int b5), .val (.int (Own.us p2 1 &&& 3)), .val (.int tl), .unset, .unset, .unset, .unset, .unset, .unset, .unset, .unset, .unset, .unset, .unset] rfl ?_
      refine Own.iloadN W0 at_40 41 rfl p0 rfl ?_
      refine Own.sipush W0 at_41 44 rfl (255 : Int32) rfl ?_
      refine Own.iand W0 at_44 45 rfl ?_
      refine Own.istore W0 at_45 47 rfl #[.val (.int p0), .val (.int p1), .val (.int p2), .val (.long p3), .second, .val (.int b5), .val (.int (Own.us p2 1 &&& 3)), .val (.int tl), .val (.int (p0 &&& 255)), .unset, .unset, .unset, .unset, .unset, .unset, .unset, .unset, .unset, .unset] rfl ?_
      refine Own.iloadN W0 at_47 48 rfl p0 rfl ?_
      refine Own.bipush W0 at_48 50 rfl (8 : Int32) rfl ?_
      refine Own.iushr W0 at_50 51 rfl ?_
      refine Own.sipush W0 at_51 54 rfl (255 : Int32) rfl ?_
      refine Own.iand W0 at_54 55 rfl ?_
      refine Own.istore W0 at_55 57 rfl #[.val (.int p0), .val (.int p1), .val (.int p2), .val (.long p3), .second, .val (.int b5), .val (.int (Own.us p2 1 &&& 3)), .val (.int tl), .val (.int (p0 &&& 255)), .val (.int (Own.us p0 8 &&& 255)), .unset, .unset, .unset, .unset, .unset, .unset, .unset, .unset, .unset] rfl ?_
      refine Own.iloadN W0 at_57 58 rfl p0 rfl ?_
      refine Own.bipush W0 at_58 60 rfl (16 : Int32) rfl ?_
      refine Own.iushr W0 at_60 61 rfl ?_
      refine Own.sipush W0 at_61 64 rfl (255 : Int32) rfl ?_
      refine Own.iand W0 at_64 65 rfl ?_
      refine Own.istore W0 at_65 67 rfl #[.val (.int p0), .val (.int p1), .val (.int p2), .val (.long p3), .second, .val (.int b5), .val (.int (Own.us p2 1 &&& 3)), .val (.int tl), .val (.int (p0 &&& 255)), .val (.int (Own.us p0 8 &&& 255)), .val (.int (Own.us p0 16 &&& 255)), .unset, .unset, .unset, .unset, .unset, .unset, .unset, .unset] rfl ?_
      refine Own.iloadN W0 at_67 68 rfl p2 rfl ?_
      refine Own.bipush W0 at_68 70 rfl (6 : Int32) rfl ?_
      refine Own.iushr W0 at_70 71 rfl ?_
      refine Own.iconst W0 at_71 72 rfl (3 : Int32) rfl ?_
      refine Own.iand W0 at_72 73 rfl ?_
      refine Own.iload W0 at_73 75 rfl (p0 &&& 255) rfl ?_
      refine Own.iloadN W0 at_75 76 rfl p1 rfl ?_
      refine Own.sipush W0 at_76 79 rfl (255 : Int32) rfl ?_
      refine Own.iand W0 at_79 80 rfl ?_
      refine Own.callS W0 (tw hw 0 rfl) (tw hw 1 rfl) (tw hw 2 rfl) (tw hw 3 rfl) (by decide) (argsL := [(.int (((p2.toUInt32 >>> ((6 : Int32) &&& 31).toUInt32).toInt32) &&& (3 : Int32))), (.int (p0 &&& 255)), (.int (p1 &&& (255 : Int32)))]) (rest := []) (Own.Con.pay (con_pick hw hEL (((p2.toUInt32 >>> ((6 : Int32) &&& 31).toUInt32).toInt32) &&& (3 : Int32)) (p0 &&& 255) (p1 &&& (255 : Int32)) W0.old) W0 (tw hw 3 rfl) (tw hw 2 rfl) (len := 3) (wd := 0) (by decide) (by decide) (fun _ q => nomatch q)) rfl (lenOf pd_8 rfl) rfl (Nat.le_of_ble_eq_true rfl) at_80 83 rfl 0 0 (Nat.le_of_ble_eq_true rfl) (Nat.le_of_ble_eq_true rfl) (Nat.le_of_ble_eq_true rfl) (Nat.le_of_ble_eq_true rfl) ?_
      intro v1 T1 h1 u1 W1 R1 hq
      obtain ⟨rfl, eh1⟩ := hq
      have ei1 := eh1.symm; subst ei1
      show Own.Go _ _ _ _ _ 83 #[.val (.int p0), .val (.int p1), .val (.int p2), .val (.long p3), .second, .val (.int b5), .val (.int (Own.us p2 1 &&& 3)), .val (.int tl), .val (.int (p0 &&& 255)), .val (.int (Own.us p0 8 &&& 255)), .val (.int (Own.us p0 16 &&& 255)), .unset, .unset, .unset, .unset, .unset, .unset, .unset, .unset] [(.int (pickF (((p2.toUInt32 >>> ((6 : Int32) &&& 31).toUInt32).toInt32) &&& (3 : Int32)) (p0 &&& 255) (p1 &&& (255 : Int32))))]
      obtain ⟨t0, e_t0⟩ : ∃ z, z = pickF (((p2.toUInt32 >>> ((6 : Int32) &&& 31).toUInt32).toInt32) &&& (3 : Int32)) (p0 &&& 255) (p1 &&& (255 : Int32)) := ⟨_, rfl⟩
      have hr_t0 : (¬ t0 < 0 ∧ ¬ (255 : Int32) < t0) := by rw [e_t0]; exact pick_rng (and_rng _) (and_rng _)
      rw [← e_t0]
      show Own.Go _ _ _ _ _ 83 #[.val (.int p0), .val (.int p1), .val (.int p2), .val (.long p3), .second, .val (.int b5), .val (.int (Own.us p2 1 &&& 3)), .val (.int tl), .val (.int (p0 &&& 255)), .val (.int (Own.us p0 8 &&& 255)), .val (.int (Own.us p0 16 &&& 255)), .unset, .unset, .unset, .unset, .unset, .unset, .unset, .unset] [(.int t0)]
      refine Own.istore W1 at_83 85 rfl #[.val (.int p0), .val (.int p1), .val (.int p2), .val (.long p3), .second, .val (.int b5), .val (.int (Own.us p2 1 &&& 3)), .val (.int tl), .val (.int (p0 &&& 255)), .val (.int (Own.us p0 8 &&& 255)), .val (.int (Own.us p0 16 &&& 255)), .val (.int t0), .unset, .unset, .unset, .unset, .unset, .unset, .unset] rfl ?_
      refine Own.iloadN W1 at_85 86 rfl p2 rfl ?_
      refine Own.bipush W1 at_86 88 rfl (8 : Int32) rfl ?_
      refine Own.iushr W1 at_88 89 rfl ?_
      refine Own.iconst W1 at_89 90 rfl (3 : Int32) rfl ?_
      refine Own.iand W1 at_90 91 rfl ?_
      refine Own.iload W1 at_91 93 rfl (Own.us p0 8 &&& 255) rfl ?_
      refine Own.iloadN W1 at_93 94 rfl p1 rfl ?_
      refine Own.bipush W1 at_94 96 rfl (8 : Int32) rfl ?_
      refine Own.iushr W1 at_96 97 rfl ?_
      refine Own.sipush W1 at_97 100 rfl (255 : Int32) rfl ?_
      refine Own.iand W1 at_100 101 rfl ?_
      refine Own.callS W1 (tw hw 0 rfl) (tw hw 1 rfl) (tw hw 2 rfl) (tw hw 3 rfl) (by decide) (argsL := [(.int (((p2.toUInt32 >>> ((8 : Int32) &&& 31).toUInt32).toInt32) &&& (3 : Int32))), (.int (Own.us p0 8 &&& 255)), (.int (((p1.toUInt32 >>> ((8 : Int32) &&& 31).toUInt32).toInt32) &&& (255 : Int32)))]) (rest := []) (Own.Con.pay (con_pick hw hEL (((p2.toUInt32 >>> ((8 : Int32) &&& 31).toUInt32).toInt32) &&& (3 : Int32)) (Own.us p0 8 &&& 255) (((p1.toUInt32 >>> ((8 : Int32) &&& 31).toUInt32).toInt32) &&& (255 : Int32)) W1.old) W1 (tw hw 3 rfl) (tw hw 2 rfl) (len := 3) (wd := 0) (by decide) (by decide) (fun _ q => nomatch q)) rfl (lenOf pd_8 rfl) rfl (Nat.le_of_ble_eq_true rfl) at_101 104 rfl 0 0 (Nat.le_of_ble_eq_true rfl) (Nat.le_of_ble_eq_true rfl) (Nat.le_of_ble_eq_true rfl) (Nat.le_of_ble_eq_true rfl) ?_
      intro v2 T2 h2 u2 W2 R2 hq
      obtain ⟨rfl, eh2⟩ := hq
      have ei2 := eh2.symm; subst ei2
      show Own.Go _ _ _ _ _ 104 #[.val (.int p0), .val (.int p1), .val (.int p2), .val (.long p3), .second, .val (.int b5), .val (.int (Own.us p2 1 &&& 3)), .val (.int tl), .val (.int (p0 &&& 255)), .val (.int (Own.us p0 8 &&& 255)), .val (.int (Own.us p0 16 &&& 255)), .val (.int t0), .unset, .unset, .unset, .unset, .unset, .unset, .unset] [(.int (pickF (((p2.toUInt32 >>> ((8 : Int32) &&& 31).toUInt32).toInt32) &&& (3 : Int32)) (Own.us p0 8 &&& 255) (((p1.toUInt32 >>> ((8 : Int32) &&& 31).toUInt32).toInt32) &&& (255 : Int32))))]
      obtain ⟨t1, e_t1⟩ : ∃ z, z = pickF (((p2.toUInt32 >>> ((8 : Int32) &&& 31).toUInt32).toInt32) &&& (3 : Int32)) (Own.us p0 8 &&& 255) (((p1.toUInt32 >>> ((8 : Int32) &&& 31).toUInt32).toInt32) &&& (255 : Int32)) := ⟨_, rfl⟩
      have hr_t1 : (¬ t1 < 0 ∧ ¬ (255 : Int32) < t1) := by rw [e_t1]; exact pick_rng (and_rng _) (and_rng _)
      rw [← e_t1]
      show Own.Go _ _ _ _ _ 104 #[.val (.int p0), .val (.int p1), .val (.int p2), .val (.long p3), .second, .val (.int b5), .val (.int (Own.us p2 1 &&& 3)), .val (.int tl), .val (.int (p0 &&& 255)), .val (.int (Own.us p0 8 &&& 255)), .val (.int (Own.us p0 16 &&& 255)), .val (.int t0), .unset, .unset, .unset, .unset, .unset, .unset, .unset] [(.int t1)]
      refine Own.istore W2 at_104 106 rfl #[.val (.int p0), .val (.int p1), .val (.int p2), .val (.long p3), .second, .val (.int b5), .val (.int (Own.us p2 1 &&& 3)), .val (.int tl), .val (.int (p0 &&& 255)), .val (.int (Own.us p0 8 &&& 255)), .val (.int (Own.us p0 16 &&& 255)), .val (.int t0), .val (.int t1), .unset, .unset, .unset, .unset, .unset, .unset] rfl ?_
      refine Own.iloadN W2 at_106 107 rfl p2 rfl ?_
      refine Own.bipush W2 at_107 109 rfl (10 : Int32) rfl ?_
      refine Own.iushr W2 at_109 110 rfl ?_
      refine Own.iconst W2 at_110 111 rfl (3 : Int32) rfl ?_
      refine Own.iand W2 at_111 112 rfl ?_
      refine Own.iload W2 at_112 114 rfl (Own.us p0 16 &&& 255) rfl ?_
      refine Own.iloadN W2 at_114 115 rfl p1 rfl ?_
      refine Own.bipush W2 at_115 117 rfl (16 : Int32) rfl ?_
      refine Own.iushr W2 at_117 118 rfl ?_
      refine Own.sipush W2 at_118 121 rfl (255 : Int32) rfl ?_
      refine Own.iand W2 at_121 122 rfl ?_
      refine Own.callS W2 (tw hw 0 rfl) (tw hw 1 rfl) (tw hw 2 rfl) (tw hw 3 rfl) (by decide) (argsL := [(.int (((p2.toUInt32 >>> ((10 : Int32) &&& 31).toUInt32).toInt32) &&& (3 : Int32))), (.int (Own.us p0 16 &&& 255)), (.int (((p1.toUInt32 >>> ((16 : Int32) &&& 31).toUInt32).toInt32) &&& (255 : Int32)))]) (rest := []) (Own.Con.pay (con_pick hw hEL (((p2.toUInt32 >>> ((10 : Int32) &&& 31).toUInt32).toInt32) &&& (3 : Int32)) (Own.us p0 16 &&& 255) (((p1.toUInt32 >>> ((16 : Int32) &&& 31).toUInt32).toInt32) &&& (255 : Int32)) W2.old) W2 (tw hw 3 rfl) (tw hw 2 rfl) (len := 3) (wd := 0) (by decide) (by decide) (fun _ q => nomatch q)) rfl (lenOf pd_8 rfl) rfl (Nat.le_of_ble_eq_true rfl) at_122 125 rfl 0 0 (Nat.le_of_ble_eq_true rfl) (Nat.le_of_ble_eq_true rfl) (Nat.le_of_ble_eq_true rfl) (Nat.le_of_ble_eq_true rfl) ?_
      intro v3 T3 h3 u3 W3 R3 hq
      obtain ⟨rfl, eh3⟩ := hq
      have ei3 := eh3.symm; subst ei3
      show Own.Go _ _ _ _ _ 125 #[.val (.int p0), .val (.int p1), .val (.int p2), .val (.long p3), .second, .val (.int b5), .val (.int (Own.us p2 1 &&& 3)), .val (.int tl), .val (.int (p0 &&& 255)), .val (.int (Own.us p0 8 &&& 255)), .val (.int (Own.us p0 16 &&& 255)), .val (.int t0), .val (.int t1), .unset, .unset, .unset, .unset, .unset, .unset] [(.int (pickF (((p2.toUInt32 >>> ((10 : Int32) &&& 31).toUInt32).toInt32) &&& (3 : Int32)) (Own.us p0 16 &&& 255) (((p1.toUInt32 >>> ((16 : Int32) &&& 31).toUInt32).toInt32) &&& (255 : Int32))))]
      obtain ⟨t2, e_t2⟩ : ∃ z, z = pickF (((p2.toUInt32 >>> ((10 : Int32) &&& 31).toUInt32).toInt32) &&& (3 : Int32)) (Own.us p0 16 &&& 255) (((p1.toUInt32 >>> ((16 : Int32) &&& 31).toUInt32).toInt32) &&& (255 : Int32)) := ⟨_, rfl⟩
      have hr_t2 : (¬ t2 < 0 ∧ ¬ (255 : Int32) < t2) := by rw [e_t2]; exact pick_rng (and_rng _) (and_rng _)
      rw [← e_t2]
      show Own.Go _ _ _ _ _ 125 #[.val (.int p0), .val (.int p1), .val (.int p2), .val (.long p3), .second, .val (.int b5), .val (.int (Own.us p2 1 &&& 3)), .val (.int tl), .val (.int (p0 &&& 255)), .val (.int (Own.us p0 8 &&& 255)), .val (.int (Own.us p0 16 &&& 255)), .val (.int t0), .val (.int t1), .unset, .unset, .unset, .unset, .unset, .unset] [(.int t2)]
      refine Own.istore W3 at_125 127 rfl #[.val (.int p0), .val (.int p1), .val (.int p2), .val (.long p3), .second, .val (.int b5), .val (.int (Own.us p2 1 &&& 3)), .val (.int tl), .val (.int (p0 &&& 255)), .val (.int (Own.us p0 8 &&& 255)), .val (.int (Own.us p0 16 &&& 255)), .val (.int t0), .val (.int t1), .val (.int t2), .unset, .unset, .unset, .unset, .unset] rfl ?_
      refine Own.iload W3 at_127 129 rfl (Own.us p2 1 &&& 3) rfl ?_
      refine Own.iload W3 at_129 131 rfl (p0 &&& 255) rfl ?_
      refine Own.iload W3 at_131 133 rfl (Own.us p0 8 &&& 255) rfl ?_
      refine Own.iload W3 at_133 135 rfl (Own.us p0 16 &&& 255) rfl ?_
      refine Own.callS W3 (tw hw 4 rfl) (tw hw 5 rfl) (tw hw 2 rfl) (tw hw 6 rfl) (by decide) (argsL := [(.int (Own.us p2 1 &&& 3)), (.int (p0 &&& 255)), (.int (Own.us p0 8 &&& 255)), (.int (Own.us p0 16 &&& 255))]) (rest := []) (Own.Con.pay (con_mk hw hEL hmem hS hcz (Own.us p2 1 &&& 3) (p0 &&& 255) (Own.us p0 8 &&& 255) (Own.us p0 16 &&& 255) (and_rng _) (and_rng _) (and_rng _) W3.old) W3 (tw hw 6 rfl) (tw hw 2 rfl) (len := 3) (wd := 0) (by decide) (by decide) (fun _ q => nomatch q)) rfl (lenOf pd_9 rfl) rfl (Nat.le_of_ble_eq_true rfl) at_135 138 rfl 6 18 (Nat.le_of_ble_eq_true rfl) (Nat.le_of_ble_eq_true rfl) (Nat.le_of_ble_eq_true rfl) (Nat.le_of_ble_eq_true rfl) ?_
      intro v4 T4 h4 u4 W4 R4 hq
      obtain ⟨o4, rfl, E4, g4, F4⟩ := hq
      show Own.Go _ _ _ _ _ 138 #[.val (.int p0), .val (.int p1), .val (.int p2), .val (.long p3), .second, .val (.int b5), .val (.int (Own.us p2 1 &&& 3)), .val (.int tl), .val (.int (p0 &&& 255)), .val (.int (Own.us p0 8 &&& 255)), .val (.int (Own.us p0 16 &&& 255)), .val (.int t0), .val (.int t1), .val (.int t2), .unset, .unset, .unset, .unset, .unset] [(.ref o4)]
      refine Own.astore W4 at_138 140 rfl rfl #[.val (.int p0), .val (.int p1), .val (.int p2), .val (.long p3), .second, .val (.int b5), .val (.int (Own.us p2 1 &&& 3)), .val (.int tl), .val (.int (p0 &&& 255)), .val (.int (Own.us p0 8 &&& 255)), .val (.int (Own.us p0 16 &&& 255)), .val (.int t0), .val (.int t1), .val (.int t2), .val (.ref o4), .unset, .unset, .unset, .unset] rfl ?_
      refine Own.iload W4 at_140 142 rfl tl rfl ?_
      refine Own.iload W4 at_142 144 rfl t0 rfl ?_
      refine Own.iload W4 at_144 146 rfl t1 rfl ?_
      refine Own.iload W4 at_146 148 rfl t2 rfl ?_
      refine Own.callS W4 (tw hw 4 rfl) (tw hw 5 rfl) (tw hw 2 rfl) (tw hw 6 rfl) (by decide) (argsL := [(.int tl), (.int t0), (.int t1), (.int t2)]) (rest := []) (Own.Con.pay (con_mk hw hEL hmem hS hcz tl t0 t1 t2 hr_t0 hr_t1 hr_t2 W4.old) W4 (tw hw 6 rfl) (tw hw 2 rfl) (len := 3) (wd := 0) (by decide) (by decide) (fun _ q => nomatch q)) rfl (lenOf pd_9 rfl) rfl (Nat.le_of_ble_eq_true rfl) at_148 151 rfl 12 36 (Nat.le_of_ble_eq_true rfl) (Nat.le_of_ble_eq_true rfl) (Nat.le_of_ble_eq_true rfl) (Nat.le_of_ble_eq_true rfl) ?_
      intro v5 T5 h5 u5 W5 R5 hq
      obtain ⟨o5, rfl, E5, g5, F5⟩ := hq
      show Own.Go _ _ _ _ _ 151 #[.val (.int p0), .val (.int p1), .val (.int p2), .val (.long p3), .second, .val (.int b5), .val (.int (Own.us p2 1 &&& 3)), .val (.int tl), .val (.int (p0 &&& 255)), .val (.int (Own.us p0 8 &&& 255)), .val (.int (Own.us p0 16 &&& 255)), .val (.int t0), .val (.int t1), .val (.int t2), .val (.ref o4), .unset, .unset, .unset, .unset] [(.ref o5)]
      refine Own.astore W5 at_151 153 rfl rfl #[.val (.int p0), .val (.int p1), .val (.int p2), .val (.long p3), .second, .val (.int b5), .val (.int (Own.us p2 1 &&& 3)), .val (.int tl), .val (.int (p0 &&& 255)), .val (.int (Own.us p0 8 &&& 255)), .val (.int (Own.us p0 16 &&& 255)), .val (.int t0), .val (.int t1), .val (.int t2), .val (.ref o4), .val (.ref o5), .unset, .unset, .unset] rfl ?_
      refine Own.newO W5 (tw hw 37 rfl) (tw hw 38 rfl) (tw hw 39 rfl) at_153 156 rfl 13 39 (by decide) (by decide) (by decide) (by decide) ?_
      intro T6 h6 o6 g6 W6 E6 A6 D6 s6 k6
      have F6_name : Fld G.Z h6 o6 "com/example/lopa/lopa/trec/SgmlScanner$Tag" "name" "Ljava/lang/String;" .null := D6 (Or.inr (tw hw 50 rfl)) (ty := (.object "java/lang/String")) (by decide)
      have F6_closing : Fld G.Z h6 o6 "com/example/lopa/lopa/trec/SgmlScanner$Tag" "closing" "Z" (.int (0 : Int32)) := D6 (Or.inr (tw hw 52 rfl)) (ty := .boolean) (by decide)
      have F6_line : Fld G.Z h6 o6 "com/example/lopa/lopa/trec/SgmlScanner$Tag" "line" "J" (.long (0 : Int64)) := D6 (Or.inr (tw hw 54 rfl)) (ty := .long) (by decide)
      refine Own.dup W6 at_156 157 rfl rfl ?_
      refine Own.aload W6 at_157 159 rfl (.ref o4) rfl rfl ?_
      refine Own.iload W6 at_159 161 rfl b5 rfl ?_
      refine Own.lloadN W6 at_161 162 rfl p3 rfl ?_
      have X7 : Ext h h4 := E4
      have X8 : Ext h h5 := Own.Ext.tr X7 E5
      refine Own.callX W6 rfl (tw hw 40 rfl) (tw hw 41 rfl) (tw hw 42 rfl) (by decide) (argsL := [(.ref o4), (.int b5), (.long p3)]) (rest := [(.ref o6)]) (Own.Con.pay (con_tag hw hEL o4 b5 (by rcases hb5 with rfl | rfl <;> rfl) (by rcases hb5 with rfl | rfl <;> rfl) p3 W6.old (Nat.le_trans W0.n0 (Nat.le_trans X8.1 (Nat.le_of_eq g6.symm))) A6 F6_name F6_closing F6_line) W6 (tw hw 42 rfl) (tw hw 39 rfl) (len := 3) (wd := 1) (by decide) (by decide) (fun _ q => nomatch q)) rfl (lenOf pd_10 rfl) rfl (Nat.le_of_ble_eq_true rfl) at_162 165 rfl 13 39 (Nat.le_of_ble_eq_true rfl) (Nat.le_of_ble_eq_true rfl) (Nat.le_of_ble_eq_true rfl) (Nat.le_of_ble_eq_true rfl) ?_
      intro v9 T9 h9 u9 W9 R9 hq
      obtain ⟨rfl, K9, Ex9, Fn9, Fc9, -⟩ := hq
      show Own.Go _ _ _ _ _ 165 #[.val (.int p0), .val (.int p1), .val (.int p2), .val (.long p3), .second, .val (.int b5), .val (.int (Own.us p2 1 &&& 3)), .val (.int tl), .val (.int (p0 &&& 255)), .val (.int (Own.us p0 8 &&& 255)), .val (.int (Own.us p0 16 &&& 255)), .val (.int t0), .val (.int t1), .val (.int t2), .val (.ref o4), .val (.ref o5), .unset, .unset, .unset] [(.ref o6)]
      refine Own.astore W9 at_165 167 rfl rfl #[.val (.int p0), .val (.int p1), .val (.int p2), .val (.long p3), .second, .val (.int b5), .val (.int (Own.us p2 1 &&& 3)), .val (.int tl), .val (.int (p0 &&& 255)), .val (.int (Own.us p0 8 &&& 255)), .val (.int (Own.us p0 16 &&& 255)), .val (.int t0), .val (.int t1), .val (.int t2), .val (.ref o4), .val (.ref o5), .val (.ref o6), .unset, .unset] rfl ?_
      refine Own.aload W9 at_167 169 rfl (.ref o6) rfl rfl ?_
      refine Own.aload W9 at_169 171 rfl (.ref o5) rfl rfl ?_
      have X10 : Ext h4 h5 := E5
      have X11 : Ext h4 h6 := Own.Ext.tr X10 E6
      have X12 : Ext h4 h9 := Own.Ext.kp X11 K9 (allS (Nat.le_trans X10.1 (Nat.le_of_eq g6.symm)) all0)
      have X13 : Ext h5 h6 := E6
      have X14 : Ext h5 h9 := Own.Ext.kp X13 K9 (allS (Nat.le_of_eq g6.symm) all0)
      refine Own.callV W9 (tw hw 55 rfl) (tw hw 56 rfl) (fun s q => notFace_of_selects (args := #[]) (mvT (s := s) q (tw hw 58 rfl))) (tw hw 58 rfl) (tw hw 57 rfl) (by decide) (argsL := [(.ref o5)]) (rest := []) (Own.Con.pay (con_clo hw hEL hmem hS hcz (Nat.ne_of_lt (Nat.lt_of_lt_of_le F4.lt g5)) mkCs_len mkCs_len W9.old Fc9 Fn9 (F4.ext X12) (F5.ext X14)) W9 (tw hw 59 rfl) (tw hw 39 rfl) (len := 3) (wd := 0) (by decide) (by decide) (fun _ q => nomatch q)) Ex9 rfl (lenOf pd_7 rfl) rfl (Nat.le_of_ble_eq_true rfl) at_171 174 rfl 13 39 (Nat.le_of_ble_eq_true rfl) (Nat.le_of_ble_eq_true rfl) (Nat.le_of_ble_eq_true rfl) (Nat.le_of_ble_eq_true rfl) ?_
      intro v15 T15 h15 u15 W15 R15 hq
      obtain ⟨hv15, eh15⟩ := hq
      have ei15 := eh15.symm; subst ei15
      rw [key (and3_rng _) htl] at hv15
      obtain ⟨b17, hb17⟩ : ∃ z : Int32, u15 = some (.int z) ∧ ((z = 1 ∧ ¬ b5 = 0 ∧ ((Own.us p2 1 &&& 3) = tl ∧ ((Own.us p2 1 &&& 3) < 1 ∨ foldF (p0 &&& 255) = foldF t0) ∧ ((Own.us p2 1 &&& 3) < 2 ∨ foldF (Own.us p0 8 &&& 255) = foldF t1) ∧ ((Own.us p2 1 &&& 3) < 3 ∨ foldF (Own.us p0 16 &&& 255) = foldF t2))) ∨ (z = 0 ∧ ¬ (¬ b5 = 0 ∧ ((Own.us p2 1 &&& 3) = tl ∧ ((Own.us p2 1 &&& 3) < 1 ∨ foldF (p0 &&& 255) = foldF t0) ∧ ((Own.us p2 1 &&& 3) < 2 ∨ foldF (Own.us p0 8 &&& 255) = foldF t1) ∧ ((Own.us p2 1 &&& 3) < 3 ∨ foldF (Own.us p0 16 &&& 255) = foldF t2))))) := by rcases hv15 with ⟨rfl, q⟩ | ⟨rfl, q⟩; exact ⟨1, rfl, Or.inl ⟨rfl, q⟩⟩; exact ⟨0, rfl, Or.inr ⟨rfl, q⟩⟩
      obtain ⟨rfl, hb17⟩ := hb17
      show Own.Go _ _ _ _ _ 174 #[.val (.int p0), .val (.int p1), .val (.int p2), .val (.long p3), .second, .val (.int b5), .val (.int (Own.us p2 1 &&& 3)), .val (.int tl), .val (.int (p0 &&& 255)), .val (.int (Own.us p0 8 &&& 255)), .val (.int (Own.us p0 16 &&& 255)), .val (.int t0), .val (.int t1), .val (.int t2), .val (.ref o4), .val (.ref o5), .val (.ref o6), .unset, .unset] [(.int b17)]
      refine Own.istore W15 at_174 176 rfl #[.val (.int p0), .val (.int p1), .val (.int p2), .val (.long p3), .second, .val (.int b5), .val (.int (Own.us p2 1 &&& 3)), .val (.int tl), .val (.int (p0 &&& 255)), .val (.int (Own.us p0 8 &&& 255)), .val (.int (Own.us p0 16 &&& 255)), .val (.int t0), .val (.int t1), .val (.int t2), .val (.ref o4), .val (.ref o5), .val (.ref o6), .val (.int b17), .unset] rfl ?_
      refine Own.iload W15 at_176 178 rfl (Own.us p2 1 &&& 3) rfl ?_
      refine Own.iload W15 at_178 180 rfl tl rfl ?_
      have J245 : ∀ (vJ245 : Vm) (TJ245 : State) (b18 : Int32), Own.Here G X bLaw vJ245 TJ245 h9 13 39 → (b18 = 1 ∧ ((Own.us p2 1 &&& 3) = tl ∧ ((Own.us p2 1 &&& 3) < 1 ∨ foldF (p0 &&& 255) = foldF t0) ∧ ((Own.us p2 1 &&& 3) < 2 ∨ foldF (Own.us p0 8 &&& 255) = foldF t1) ∧ ((Own.us p2 1 &&& 3) < 3 ∨ foldF (Own.us p0 16 &&& 255) = foldF t2)) ∨ b18 = 0 ∧ ¬ ((Own.us p2 1 &&& 3) = tl ∧ ((Own.us p2 1 &&& 3) < 1 ∨ foldF (p0 &&& 255) = foldF t0) ∧ ((Own.us p2 1 &&& 3) < 2 ∨ foldF (Own.us p0 8 &&& 255) = foldF t1) ∧ ((Own.us p2 1 &&& 3) < 3 ∨ foldF (Own.us p0 16 &&& 255) = foldF t2))) → Own.Go G X bLaw (fun v h' => v = some (.int 1)) TJ245 245 #[.val (.int p0), .val (.int p1), .val (.int p2), .val (.long p3), .second, .val (.int b5), .val (.int (Own.us p2 1 &&& 3)), .val (.int tl), .val (.int (p0 &&& 255)), .val (.int (Own.us p0 8 &&& 255)), .val (.int (Own.us p0 16 &&& 255)), .val (.int t0), .val (.int t1), .val (.int t2), .val (.ref o4), .val (.ref o5), .val (.ref o6), .val (.int b17), .unset] [(.int b18)] := by
        intro vJ245 TJ245 b18 WJ245 hb18
        refine Own.istore WJ245 at_245 247 rfl #[.val (.int p0), .val (.int p1), .val (.int p2), .val (.long p3), .second, .val (.int b5), .val (.int (Own.us p2 1 &&& 3)), .val (.int tl), .val (.int (p0 &&& 255)), .val (.int (Own.us p0 8 &&& 255)), .val (.int (Own.us p0 16 &&& 255)), .val (.int t0), .val (.int t1), .val (.int t2), .val (.ref o4), .val (.ref o5), .val (.ref o6), .val (.int b17), .val (.int b18)] rfl ?_
        refine Own.iload WJ245 at_247 249 rfl b17 rfl ?_
        refine Own.iload WJ245 at_249 251 rfl b5 rfl ?_
        by_cases h5 : b5 = (0 : Int32)
        · skip
          refine Own.ifYes WJ245 at_251 263 (XT.i0_eq_t h5) (by decide) (by decide) ?_
          refine Own.iconst WJ245 at_263 264 rfl (0 : Int32) rfl ?_
          rcases hb17 with ⟨rfl, hq, -⟩ | ⟨rfl, -⟩
          · skip
            exact absurd h5 hq
          · skip
            refine Own.icmpNo WJ245 at_264 267 (by decide) rfl ?_
            refine Own.iconst WJ245 at_267 268 rfl (1 : Int32) rfl ?_
            refine Own.goto WJ245 at_268 272 (by decide) (by decide) ?_
            exact Own.retB WJ245 (by decide) (by decide) rfl at_272 rfl rfl
        · skip
          refine Own.ifNo WJ245 at_251 254 (XT.i0_eq_f h5) rfl ?_
          rcases hb18 with ⟨rfl, hP⟩ | ⟨rfl, hP⟩
          · skip
            refine Own.iload WJ245 at_254 256 rfl (1 : Int32) rfl ?_
            refine Own.ifNo WJ245 at_256 259 (by decide) rfl ?_
            refine Own.iconst WJ245 at_259 260 rfl (1 : Int32) rfl ?_
            refine Own.goto WJ245 at_260 264 (by decide) (by decide) ?_
            rcases hb17 with ⟨rfl, hq⟩ | ⟨rfl, hq⟩
            · skip
              refine Own.icmpNo WJ245 at_264 267 (by decide) rfl ?_
              refine Own.iconst WJ245 at_267 268 rfl (1 : Int32) rfl ?_
              refine Own.goto WJ245 at_268 272 (by decide) (by decide) ?_
              exact Own.retB WJ245 (by decide) (by decide) rfl at_272 rfl rfl
            · skip
              exact absurd ⟨h5, hP⟩ hq
          · skip
            refine Own.iload WJ245 at_254 256 rfl (0 : Int32) rfl ?_
            refine Own.ifYes WJ245 at_256 263 (by decide) (by decide) (by decide) ?_
            refine Own.iconst WJ245 at_263 264 rfl (0 : Int32) rfl ?_
            rcases hb17 with ⟨rfl, hq⟩ | ⟨rfl, hq⟩
            · skip
              exact absurd hq.2 hP
            · skip
              refine Own.icmpNo WJ245 at_264 267 (by decide) rfl ?_
              refine Own.iconst WJ245 at_267 268 rfl (1 : Int32) rfl ?_
              refine Own.goto WJ245 at_268 272 (by decide) (by decide) ?_
              exact Own.retB WJ245 (by decide) (by decide) rfl at_272 rfl rfl
      by_cases hl : (Own.us p2 1 &&& 3) = tl
      · skip
        refine Own.icmpNo W15 at_180 183 (XT.ii_ne_f hl) rfl ?_
        refine Own.iload W15 at_183 185 rfl (Own.us p2 1 &&& 3) rfl ?_
        refine Own.iconst W15 at_185 186 rfl (1 : Int32) rfl ?_
        by_cases hl0 : (Own.us p2 1 &&& 3) < (1 : Int32)
        · skip
          refine Own.icmpYes W15 at_186 202 (XT.ii_lt_t hl0) (by decide) (by decide) ?_
          refine Own.iload W15 at_202 204 rfl (Own.us p2 1 &&& 3) rfl ?_
          refine Own.iconst W15 at_204 205 rfl (2 : Int32) rfl ?_
          by_cases hl1 : (Own.us p2 1 &&& 3) < (2 : Int32)
          · skip
            refine Own.icmpYes W15 at_205 221 (XT.ii_lt_t hl1) (by decide) (by decide) ?_
            refine Own.iload W15 at_221 223 rfl (Own.us p2 1 &&& 3) rfl ?_
            refine Own.iconst W15 at_223 224 rfl (3 : Int32) rfl ?_
            by_cases hl2 : (Own.us p2 1 &&& 3) < (3 : Int32)
            · skip
              refine Own.icmpYes W15 at_224 240 (XT.ii_lt_t hl2) (by decide) (by decide) ?_
              refine Own.iconst W15 at_240 241 rfl (1 : Int32) rfl ?_
              refine Own.goto W15 at_241 245 (by decide) (by decide) ?_
              exact J245 _ _ 1 W15 (Or.inl ⟨rfl, hl, Or.inl hl0, Or.inl hl1, Or.inl hl2⟩)
            · skip
              refine Own.icmpNo W15 at_224 227 (XT.ii_lt_f hl2) rfl ?_
              refine Own.iload W15 at_227 229 rfl (Own.us p0 16 &&& 255) rfl ?_
              refine Own.callS W15 (tw hw 60 rfl) (tw hw 61 rfl) (tw hw 2 rfl) (tw hw 62 rfl) (by decide) (argsL := [(.int (Own.us p0 16 &&& 255))]) (rest := []) (Own.Con.pay (con_fold hw hEL (Own.us p0 16 &&& 255) W15.old) W15 (tw hw 62 rfl) (tw hw 2 rfl) (len := 3) (wd := 0) (by decide) (by decide) (fun _ q => nomatch q)) rfl (lenOf pd_11 rfl) rfl (Nat.le_of_ble_eq_true rfl) at_229 232 rfl 13 39 (Nat.le_of_ble_eq_true rfl) (Nat.le_of_ble_eq_true rfl) (Nat.le_of_ble_eq_true rfl) (Nat.le_of_ble_eq_true rfl) ?_
              intro v16 T16 h16 u16 W16 R16 hq
              obtain ⟨rfl, eh16⟩ := hq
              have ei16 := eh16.symm; subst ei16
              show Own.Go _ _ _ _ _ 232 #[.val (.int p0), .val (.int p1), .val (.int p2), .val (.long p3), .second, .val (.int b5), .val (.int (Own.us p2 1 &&& 3)), .val (.int tl), .val (.int (p0 &&& 255)), .val (.int (Own.us p0 8 &&& 255)), .val (.int (Own.us p0 16 &&& 255)), .val (.int t0), .val (.int t1), .val (.int t2), .val (.ref o4), .val (.ref o5), .val (.ref o6), .val (.int b17), .unset] [(.int (foldF (Own.us p0 16 &&& 255)))]
              refine Own.iload W16 at_232 234 rfl t2 rfl ?_
              refine Own.callS W16 (tw hw 60 rfl) (tw hw 61 rfl) (tw hw 2 rfl) (tw hw 62 rfl) (by decide) (argsL := [(.int t2)]) (rest := [(.int (foldF (Own.us p0 16 &&& 255)))]) (Own.Con.pay (con_fold hw hEL t2 W16.old) W16 (tw hw 62 rfl) (tw hw 2 rfl) (len := 3) (wd := 1) (by decide) (by decide) (fun _ q => nomatch q)) rfl (lenOf pd_11 rfl) rfl (Nat.le_of_ble_eq_true rfl) at_234 237 rfl 13 39 (Nat.le_of_ble_eq_true rfl) (Nat.le_of_ble_eq_true rfl) (Nat.le_of_ble_eq_true rfl) (Nat.le_of_ble_eq_true rfl) ?_
              intro v17 T17 h17 u17 W17 R17 hq
              obtain ⟨rfl, eh17⟩ := hq
              have ei17 := eh17.symm; subst ei17
              show Own.Go _ _ _ _ _ 237 #[.val (.int p0), .val (.int p1), .val (.int p2), .val (.long p3), .second, .val (.int b5), .val (.int (Own.us p2 1 &&& 3)), .val (.int tl), .val (.int (p0 &&& 255)), .val (.int (Own.us p0 8 &&& 255)), .val (.int (Own.us p0 16 &&& 255)), .val (.int t0), .val (.int t1), .val (.int t2), .val (.ref o4), .val (.ref o5), .val (.ref o6), .val (.int b17), .unset] [(.int (foldF t2)), (.int (foldF (Own.us p0 16 &&& 255)))]
              by_cases hd2 : (foldF (Own.us p0 16 &&& 255)) = (foldF t2)
              · skip
                refine Own.icmpNo W17 at_237 240 (XT.ii_ne_f hd2) rfl ?_
                refine Own.iconst W17 at_240 241 rfl (1 : Int32) rfl ?_
                refine Own.goto W17 at_241 245 (by decide) (by decide) ?_
                exact J245 _ _ 1 W17 (Or.inl ⟨rfl, hl, Or.inl hl0, Or.inl hl1, Or.inr hd2⟩)
              · skip
                refine Own.icmpYes W17 at_237 244 (XT.ii_ne_t hd2) (by decide) (by decide) ?_
                refine Own.iconst W17 at_244 245 rfl (0 : Int32) rfl ?_
                exact J245 _ _ 0 W17 (Or.inr ⟨rfl, fun z => z.2.2.2.elim hl2 hd2⟩)
          · skip
            refine Own.icmpNo W15 at_205 208 (XT.ii_lt_f hl1) rfl ?_
            refine Own.iload W15 at_208 210 rfl (Own.us p0 8 &&& 255) rfl ?_
            refine Own.callS W15 (tw hw 60 rfl) (tw hw 61 rfl) (tw hw 2 rfl) (tw hw 62 rfl) (by decide) (argsL := [(.int (Own.us p0 8 &&& 255))]) (rest := []) (Own.Con.pay (con_fold hw hEL (Own.us p0 8 &&& 255) W15.old) W15 (tw hw 62 rfl) (tw hw 2 rfl) (len := 3) (wd := 0) (by decide) (by decide) (fun _ q => nomatch q)) rfl (lenOf pd_11 rfl) rfl (Nat.le_of_ble_eq_true rfl) at_210 213 rfl 13 39 (Nat.le_of_ble_eq_true rfl) (Nat.le_of_ble_eq_true rfl) (Nat.le_of_ble_eq_true rfl) (Nat.le_of_ble_eq_true rfl) ?_
            intro v18 T18 h18 u18 W18 R18 hq
            obtain ⟨rfl, eh18⟩ := hq
            have ei18 := eh18.symm; subst ei18
            show Own.Go _ _ _ _ _ 213 #[.val (.int p0), .val (.int p1), .val (.int p2), .val (.long p3), .second, .val (.int b5), .val (.int (Own.us p2 1 &&& 3)), .val (.int tl), .val (.int (p0 &&& 255)), .val (.int (Own.us p0 8 &&& 255)), .val (.int (Own.us p0 16 &&& 255)), .val (.int t0), .val (.int t1), .val (.int t2), .val (.ref o4), .val (.ref o5), .val (.ref o6), .val (.int b17), .unset] [(.int (foldF (Own.us p0 8 &&& 255)))]
            refine Own.iload W18 at_213 215 rfl t1 rfl ?_
            refine Own.callS W18 (tw hw 60 rfl) (tw hw 61 rfl) (tw hw 2 rfl) (tw hw 62 rfl) (by decide) (argsL := [(.int t1)]) (rest := [(.int (foldF (Own.us p0 8 &&& 255)))]) (Own.Con.pay (con_fold hw hEL t1 W18.old) W18 (tw hw 62 rfl) (tw hw 2 rfl) (len := 3) (wd := 1) (by decide) (by decide) (fun _ q => nomatch q)) rfl (lenOf pd_11 rfl) rfl (Nat.le_of_ble_eq_true rfl) at_215 218 rfl 13 39 (Nat.le_of_ble_eq_true rfl) (Nat.le_of_ble_eq_true rfl) (Nat.le_of_ble_eq_true rfl) (Nat.le_of_ble_eq_true rfl) ?_
            intro v19 T19 h19 u19 W19 R19 hq
            obtain ⟨rfl, eh19⟩ := hq
            have ei19 := eh19.symm; subst ei19
            show Own.Go _ _ _ _ _ 218 #[.val (.int p0), .val (.int p1), .val (.int p2), .val (.long p3), .second, .val (.int b5), .val (.int (Own.us p2 1 &&& 3)), .val (.int tl), .val (.int (p0 &&& 255)), .val (.int (Own.us p0 8 &&& 255)), .val (.int (Own.us p0 16 &&& 255)), .val (.int t0), .val (.int t1), .val (.int t2), .val (.ref o4), .val (.ref o5), .val (.ref o6), .val (.int b17), .unset] [(.int (foldF t1)), (.int (foldF (Own.us p0 8 &&& 255)))]
            by_cases hd1 : (foldF (Own.us p0 8 &&& 255)) = (foldF t1)
            · skip
              refine Own.icmpNo W19 at_218 221 (XT.ii_ne_f hd1) rfl ?_
              refine Own.iload W19 at_221 223 rfl (Own.us p2 1 &&& 3) rfl ?_
              refine Own.iconst W19 at_223 224 rfl (3 : Int32) rfl ?_
              by_cases hl2 : (Own.us p2 1 &&& 3) < (3 : Int32)
              · skip
                refine Own.icmpYes W19 at_224 240 (XT.ii_lt_t hl2) (by decide) (by decide) ?_
                refine Own.iconst W19 at_240 241 rfl (1 : Int32) rfl ?_
                refine Own.goto W19 at_241 245 (by decide) (by decide) ?_
                exact J245 _ _ 1 W19 (Or.inl ⟨rfl, hl, Or.inl hl0, Or.inr hd1, Or.inl hl2⟩)
              · skip
                refine Own.icmpNo W19 at_224 227 (XT.ii_lt_f hl2) rfl ?_
                refine Own.iload W19 at_227 229 rfl (Own.us p0 16 &&& 255) rfl ?_
                refine Own.callS W19 (tw hw 60 rfl) (tw hw 61 rfl) (tw hw 2 rfl) (tw hw 62 rfl) (by decide) (argsL := [(.int (Own.us p0 16 &&& 255))]) (rest := []) (Own.Con.pay (con_fold hw hEL (Own.us p0 16 &&& 255) W19.old) W19 (tw hw 62 rfl) (tw hw 2 rfl) (len := 3) (wd := 0) (by decide) (by decide) (fun _ q => nomatch q)) rfl (lenOf pd_11 rfl) rfl (Nat.le_of_ble_eq_true rfl) at_229 232 rfl 13 39 (Nat.le_of_ble_eq_true rfl) (Nat.le_of_ble_eq_true rfl) (Nat.le_of_ble_eq_true rfl) (Nat.le_of_ble_eq_true rfl) ?_
                intro v20 T20 h20 u20 W20 R20 hq
                obtain ⟨rfl, eh20⟩ := hq
                have ei20 := eh20.symm; subst ei20
                show Own.Go _ _ _ _ _ 232 #[.val (.int p0), .val (.int p1), .val (.int p2), .val (.long p3), .second, .val (.int b5), .val (.int (Own.us p2 1 &&& 3)), .val (.int tl), .val (.int (p0 &&& 255)), .val (.int (Own.us p0 8 &&& 255)), .val (.int (Own.us p0 16 &&& 255)), .val (.int t0), .val (.int t1), .val (.int t2), .val (.ref o4), .val (.ref o5), .val (.ref o6), .val (.int b17), .unset] [(.int (foldF (Own.us p0 16 &&& 255)))]
                refine Own.iload W20 at_232 234 rfl t2 rfl ?_
                refine Own.callS W20 (tw hw 60 rfl) (tw hw 61 rfl) (tw hw 2 rfl) (tw hw 62 rfl) (by decide) (argsL := [(.int t2)]) (rest := [(.int (foldF (Own.us p0 16 &&& 255)))]) (Own.Con.pay (con_fold hw hEL t2 W20.old) W20 (tw hw 62 rfl) (tw hw 2 rfl) (len := 3) (wd := 1) (by decide) (by decide) (fun _ q => nomatch q)) rfl (lenOf pd_11 rfl) rfl (Nat.le_of_ble_eq_true rfl) at_234 237 rfl 13 39 (Nat.le_of_ble_eq_true rfl) (Nat.le_of_ble_eq_true rfl) (Nat.le_of_ble_eq_true rfl) (Nat.le_of_ble_eq_true rfl) ?_
                intro v21 T21 h21 u21 W21 R21 hq
                obtain ⟨rfl, eh21⟩ := hq
                have ei21 := eh21.symm; subst ei21
                show Own.Go _ _ _ _ _ 237 #[.val (.int p0), .val (.int p1), .val (.int p2), .val (.long p3), .second, .val (.int b5), .val (.int (Own.us p2 1 &&& 3)), .val (.int tl), .val (.int (p0 &&& 255)), .val (.int (Own.us p0 8 &&& 255)), .val (.int (Own.us p0 16 &&& 255)), .val (.int t0), .val (.int t1), .val (.int t2), .val (.ref o4), .val (.ref o5), .val (.ref o6), .val (.int b17), .unset] [(.int (foldF t2)), (.int (foldF (Own.us p0 16 &&& 255)))]
                by_cases hd2 : (foldF (Own.us p0 16 &&& 255)) = (foldF t2)
                · skip
                  refine Own.icmpNo W21 at_237 240 (XT.ii_ne_f hd2) rfl ?_
                  refine Own.iconst W21 at_240 241 rfl (1 : Int32) rfl ?_
                  refine Own.goto W21 at_241 245 (by decide) (by decide) ?_
                  exact J245 _ _ 1 W21 (Or.inl ⟨rfl, hl, Or.inl hl0, Or.inr hd1, Or.inr hd2⟩)
                · skip
                  refine Own.icmpYes W21 at_237 244 (XT.ii_ne_t hd2) (by decide) (by decide) ?_
                  refine Own.iconst W21 at_244 245 rfl (0 : Int32) rfl ?_
                  exact J245 _ _ 0 W21 (Or.inr ⟨rfl, fun z => z.2.2.2.elim hl2 hd2⟩)
            · skip
              refine Own.icmpYes W19 at_218 244 (XT.ii_ne_t hd1) (by decide) (by decide) ?_
              refine Own.iconst W19 at_244 245 rfl (0 : Int32) rfl ?_
              exact J245 _ _ 0 W19 (Or.inr ⟨rfl, fun z => z.2.2.1.elim hl1 hd1⟩)
        · skip
          refine Own.icmpNo W15 at_186 189 (XT.ii_lt_f hl0) rfl ?_
          refine Own.iload W15 at_189 191 rfl (p0 &&& 255) rfl ?_
          refine Own.callS W15 (tw hw 60 rfl) (tw hw 61 rfl) (tw hw 2 rfl) (tw hw 62 rfl) (by decide) (argsL := [(.int (p0 &&& 255))]) (rest := []) (Own.Con.pay (con_fold hw hEL (p0 &&& 255) W15.old) W15 (tw hw 62 rfl) (tw hw 2 rfl) (len := 3) (wd := 0) (by decide) (by decide) (fun _ q => nomatch q)) rfl (lenOf pd_11 rfl) rfl (Nat.le_of_ble_eq_true rfl) at_191 194 rfl 13 39 (Nat.le_of_ble_eq_true rfl) (Nat.le_of_ble_eq_true rfl) (Nat.le_of_ble_eq_true rfl) (Nat.le_of_ble_eq_true rfl) ?_
          intro v22 T22 h22 u22 W22 R22 hq
          obtain ⟨rfl, eh22⟩ := hq
          have ei22 := eh22.symm; subst ei22
          show Own.Go _ _ _ _ _ 194 #[.val (.int p0), .val (.int p1), .val (.int p2), .val (.long p3), .second, .val (.int b5), .val (.int (Own.us p2 1 &&& 3)), .val (.int tl), .val (.int (p0 &&& 255)), .val (.int (Own.us p0 8 &&& 255)), .val (.int (Own.us p0 16 &&& 255)), .val (.int t0), .val (.int t1), .val (.int t2), .val (.ref o4), .val (.ref o5), .val (.ref o6), .val (.int b17), .unset] [(.int (foldF (p0 &&& 255)))]
          refine Own.iload W22 at_194 196 rfl t0 rfl ?_
          refine Own.callS W22 (tw hw 60 rfl) (tw hw 61 rfl) (tw hw 2 rfl) (tw hw 62 rfl) (by decide) (argsL := [(.int t0)]) (rest := [(.int (foldF (p0 &&& 255)))]) (Own.Con.pay (con_fold hw hEL t0 W22.old) W22 (tw hw 62 rfl) (tw hw 2 rfl) (len := 3) (wd := 1) (by decide) (by decide) (fun _ q => nomatch q)) rfl (lenOf pd_11 rfl) rfl (Nat.le_of_ble_eq_true rfl) at_196 199 rfl 13 39 (Nat.le_of_ble_eq_true rfl) (Nat.le_of_ble_eq_true rfl) (Nat.le_of_ble_eq_true rfl) (Nat.le_of_ble_eq_true rfl) ?_
          intro v23 T23 h23 u23 W23 R23 hq
          obtain ⟨rfl, eh23⟩ := hq
          have ei23 := eh23.symm; subst ei23
          show Own.Go _ _ _ _ _ 199 #[.val (.int p0), .val (.int p1), .val (.int p2), .val (.long p3), .second, .val (.int b5), .val (.int (Own.us p2 1 &&& 3)), .val (.int tl), .val (.int (p0 &&& 255)), .val (.int (Own.us p0 8 &&& 255)), .val (.int (Own.us p0 16 &&& 255)), .val (.int t0), .val (.int t1), .val (.int t2), .val (.ref o4), .val (.ref o5), .val (.ref o6), .val (.int b17), .unset] [(.int (foldF t0)), (.int (foldF (p0 &&& 255)))]
          by_cases hd0 : (foldF (p0 &&& 255)) = (foldF t0)
          · skip
            refine Own.icmpNo W23 at_199 202 (XT.ii_ne_f hd0) rfl ?_
            refine Own.iload W23 at_202 204 rfl (Own.us p2 1 &&& 3) rfl ?_
            refine Own.iconst W23 at_204 205 rfl (2 : Int32) rfl ?_
            by_cases hl1 : (Own.us p2 1 &&& 3) < (2 : Int32)
            · skip
              refine Own.icmpYes W23 at_205 221 (XT.ii_lt_t hl1) (by decide) (by decide) ?_
              refine Own.iload W23 at_221 223 rfl (Own.us p2 1 &&& 3) rfl ?_
              refine Own.iconst W23 at_223 224 rfl (3 : Int32) rfl ?_
              by_cases hl2 : (Own.us p2 1 &&& 3) < (3 : Int32)
              · skip
                refine Own.icmpYes W23 at_224 240 (XT.ii_lt_t hl2) (by decide) (by decide) ?_
                refine Own.iconst W23 at_240 241 rfl (1 : Int32) rfl ?_
                refine Own.goto W23 at_241 245 (by decide) (by decide) ?_
                exact J245 _ _ 1 W23 (Or.inl ⟨rfl, hl, Or.inr hd0, Or.inl hl1, Or.inl hl2⟩)
              · skip
                refine Own.icmpNo W23 at_224 227 (XT.ii_lt_f hl2) rfl ?_
                refine Own.iload W23 at_227 229 rfl (Own.us p0 16 &&& 255) rfl ?_
                refine Own.callS W23 (tw hw 60 rfl) (tw hw 61 rfl) (tw hw 2 rfl) (tw hw 62 rfl) (by decide) (argsL := [(.int (Own.us p0 16 &&& 255))]) (rest := []) (Own.Con.pay (con_fold hw hEL (Own.us p0 16 &&& 255) W23.old) W23 (tw hw 62 rfl) (tw hw 2 rfl) (len := 3) (wd := 0) (by decide) (by decide) (fun _ q => nomatch q)) rfl (lenOf pd_11 rfl) rfl (Nat.le_of_ble_eq_true rfl) at_229 232 rfl 13 39 (Nat.le_of_ble_eq_true rfl) (Nat.le_of_ble_eq_true rfl) (Nat.le_of_ble_eq_true rfl) (Nat.le_of_ble_eq_true rfl) ?_
                intro v24 T24 h24 u24 W24 R24 hq
                obtain ⟨rfl, eh24⟩ := hq
                have ei24 := eh24.symm; subst ei24
                show Own.Go _ _ _ _ _ 232 #[.val (.int p0), .val (.int p1), .val (.int p2), .val (.long p3), .second, .val (.int b5), .val (.int (Own.us p2 1 &&& 3)), .val (.int tl), .val (.int (p0 &&& 255)), .val (.int (Own.us p0 8 &&& 255)), .val (.int (Own.us p0 16 &&& 255)), .val (.int t0), .val (.int t1), .val (.int t2), .val (.ref o4), .val (.ref o5), .val (.ref o6), .val (.int b17), .unset] [(.int (foldF (Own.us p0 16 &&& 255)))]
                refine Own.iload W24 at_232 234 rfl t2 rfl ?_
                refine Own.callS W24 (tw hw 60 rfl) (tw hw 61 rfl) (tw hw 2 rfl) (tw hw 62 rfl) (by decide) (argsL := [(.int t2)]) (rest := [(.int (foldF (Own.us p0 16 &&& 255)))]) (Own.Con.pay (con_fold hw hEL t2 W24.old) W24 (tw hw 62 rfl) (tw hw 2 rfl) (len := 3) (wd := 1) (by decide) (by decide) (fun _ q => nomatch q)) rfl (lenOf pd_11 rfl) rfl (Nat.le_of_ble_eq_true rfl) at_234 237 rfl 13 39 (Nat.le_of_ble_eq_true rfl) (Nat.le_of_ble_eq_true rfl) (Nat.le_of_ble_eq_true rfl) (Nat.le_of_ble_eq_true rfl) ?_
                intro v25 T25 h25 u25 W25 R25 hq
                obtain ⟨rfl, eh25⟩ := hq
                have ei25 := eh25.symm; subst ei25
                show Own.Go _ _ _ _ _ 237 #[.val (.int p0), .val (.int p1), .val (.int p2), .val (.long p3), .second, .val (.int b5), .val (.int (Own.us p2 1 &&& 3)), .val (.int tl), .val (.int (p0 &&& 255)), .val (.int (Own.us p0 8 &&& 255)), .val (.int (Own.us p0 16 &&& 255)), .val (.int t0), .val (.int t1), .val (.int t2), .val (.ref o4), .val (.ref o5), .val (.ref o6), .val (.int b17), .unset] [(.int (foldF t2)), (.int (foldF (Own.us p0 16 &&& 255)))]
                by_cases hd2 : (foldF (Own.us p0 16 &&& 255)) = (foldF t2)
                · skip
                  refine Own.icmpNo W25 at_237 240 (XT.ii_ne_f hd2) rfl ?_
                  refine Own.iconst W25 at_240 241 rfl (1 : Int32) rfl ?_
                  refine Own.goto W25 at_241 245 (by decide) (by decide) ?_
                  exact J245 _ _ 1 W25 (Or.inl ⟨rfl, hl, Or.inr hd0, Or.inl hl1, Or.inr hd2⟩)
                · skip
                  refine Own.icmpYes W25 at_237 244 (XT.ii_ne_t hd2) (by decide) (by decide) ?_
                  refine Own.iconst W25 at_244 245 rfl (0 : Int32) rfl ?_
                  exact J245 _ _ 0 W25 (Or.inr ⟨rfl, fun z => z.2.2.2.elim hl2 hd2⟩)
            · skip
              refine Own.icmpNo W23 at_205 208 (XT.ii_lt_f hl1) rfl ?_
              refine Own.iload W23 at_208 210 rfl (Own.us p0 8 &&& 255) rfl ?_
              refine Own.callS W23 (tw hw 60 rfl) (tw hw 61 rfl) (tw hw 2 rfl) (tw hw 62 rfl) (by decide) (argsL := [(.int (Own.us p0 8 &&& 255))]) (rest := []) (Own.Con.pay (con_fold hw hEL (Own.us p0 8 &&& 255) W23.old) W23 (tw hw 62 rfl) (tw hw 2 rfl) (len := 3) (wd := 0) (by decide) (by decide) (fun _ q => nomatch q)) rfl (lenOf pd_11 rfl) rfl (Nat.le_of_ble_eq_true rfl) at_210 213 rfl 13 39 (Nat.le_of_ble_eq_true rfl) (Nat.le_of_ble_eq_true rfl) (Nat.le_of_ble_eq_true rfl) (Nat.le_of_ble_eq_true rfl) ?_
              intro v26 T26 h26 u26 W26 R26 hq
              obtain ⟨rfl, eh26⟩ := hq
              have ei26 := eh26.symm; subst ei26
              show Own.Go _ _ _ _ _ 213 #[.val (.int p0), .val (.int p1), .val (.int p2), .val (.long p3), .second, .val (.int b5), .val (.int (Own.us p2 1 &&& 3)), .val (.int tl), .val (.int (p0 &&& 255)), .val (.int (Own.us p0 8 &&& 255)), .val (.int (Own.us p0 16 &&& 255)), .val (.int t0), .val (.int t1), .val (.int t2), .val (.ref o4), .val (.ref o5), .val (.ref o6), .val (.int b17), .unset] [(.int (foldF (Own.us p0 8 &&& 255)))]
              refine Own.iload W26 at_213 215 rfl t1 rfl ?_
              refine Own.callS W26 (tw hw 60 rfl) (tw hw 61 rfl) (tw hw 2 rfl) (tw hw 62 rfl) (by decide) (argsL := [(.int t1)]) (rest := [(.int (foldF (Own.us p0 8 &&& 255)))]) (Own.Con.pay (con_fold hw hEL t1 W26.old) W26 (tw hw 62 rfl) (tw hw 2 rfl) (len := 3) (wd := 1) (by decide) (by decide) (fun _ q => nomatch q)) rfl (lenOf pd_11 rfl) rfl (Nat.le_of_ble_eq_true rfl) at_215 218 rfl 13 39 (Nat.le_of_ble_eq_true rfl) (Nat.le_of_ble_eq_true rfl) (Nat.le_of_ble_eq_true rfl) (Nat.le_of_ble_eq_true rfl) ?_
              intro v27 T27 h27 u27 W27 R27 hq
              obtain ⟨rfl, eh27⟩ := hq
              have ei27 := eh27.symm; subst ei27
              show Own.Go _ _ _ _ _ 218 #[.val (.int p0), .val (.int p1), .val (.int p2), .val (.long p3), .second, .val (.int b5), .val (.int (Own.us p2 1 &&& 3)), .val (.int tl), .val (.int (p0 &&& 255)), .val (.int (Own.us p0 8 &&& 255)), .val (.int (Own.us p0 16 &&& 255)), .val (.int t0), .val (.int t1), .val (.int t2), .val (.ref o4), .val (.ref o5), .val (.ref o6), .val (.int b17), .unset] [(.int (foldF t1)), (.int (foldF (Own.us p0 8 &&& 255)))]
              by_cases hd1 : (foldF (Own.us p0 8 &&& 255)) = (foldF t1)
              · skip
                refine Own.icmpNo W27 at_218 221 (XT.ii_ne_f hd1) rfl ?_
                refine Own.iload W27 at_221 223 rfl (Own.us p2 1 &&& 3) rfl ?_
                refine Own.iconst W27 at_223 224 rfl (3 : Int32) rfl ?_
                by_cases hl2 : (Own.us p2 1 &&& 3) < (3 : Int32)
                · skip
                  refine Own.icmpYes W27 at_224 240 (XT.ii_lt_t hl2) (by decide) (by decide) ?_
                  refine Own.iconst W27 at_240 241 rfl (1 : Int32) rfl ?_
                  refine Own.goto W27 at_241 245 (by decide) (by decide) ?_
                  exact J245 _ _ 1 W27 (Or.inl ⟨rfl, hl, Or.inr hd0, Or.inr hd1, Or.inl hl2⟩)
                · skip
                  refine Own.icmpNo W27 at_224 227 (XT.ii_lt_f hl2) rfl ?_
                  refine Own.iload W27 at_227 229 rfl (Own.us p0 16 &&& 255) rfl ?_
                  refine Own.callS W27 (tw hw 60 rfl) (tw hw 61 rfl) (tw hw 2 rfl) (tw hw 62 rfl) (by decide) (argsL := [(.int (Own.us p0 16 &&& 255))]) (rest := []) (Own.Con.pay (con_fold hw hEL (Own.us p0 16 &&& 255) W27.old) W27 (tw hw 62 rfl) (tw hw 2 rfl) (len := 3) (wd := 0) (by decide) (by decide) (fun _ q => nomatch q)) rfl (lenOf pd_11 rfl) rfl (Nat.le_of_ble_eq_true rfl) at_229 232 rfl 13 39 (Nat.le_of_ble_eq_true rfl) (Nat.le_of_ble_eq_true rfl) (Nat.le_of_ble_eq_true rfl) (Nat.le_of_ble_eq_true rfl) ?_
                  intro v28 T28 h28 u28 W28 R28 hq
                  obtain ⟨rfl, eh28⟩ := hq
                  have ei28 := eh28.symm; subst ei28
                  show Own.Go _ _ _ _ _ 232 #[.val (.int p0), .val (.int p1), .val (.int p2), .val (.long p3), .second, .val (.int b5), .val (.int (Own.us p2 1 &&& 3)), .val (.int tl), .val (.int (p0 &&& 255)), .val (.int (Own.us p0 8 &&& 255)), .val (.int (Own.us p0 16 &&& 255)), .val (.int t0), .val (.int t1), .val (.int t2), .val (.ref o4), .val (.ref o5), .val (.ref o6), .val (.int b17), .unset] [(.int (foldF (Own.us p0 16 &&& 255)))]
                  refine Own.iload W28 at_232 234 rfl t2 rfl ?_
                  refine Own.callS W28 (tw hw 60 rfl) (tw hw 61 rfl) (tw hw 2 rfl) (tw hw 62 rfl) (by decide) (argsL := [(.int t2)]) (rest := [(.int (foldF (Own.us p0 16 &&& 255)))]) (Own.Con.pay (con_fold hw hEL t2 W28.old) W28 (tw hw 62 rfl) (tw hw 2 rfl) (len := 3) (wd := 1) (by decide) (by decide) (fun _ q => nomatch q)) rfl (lenOf pd_11 rfl) rfl (Nat.le_of_ble_eq_true rfl) at_234 237 rfl 13 39 (Nat.le_of_ble_eq_true rfl) (Nat.le_of_ble_eq_true rfl) (Nat.le_of_ble_eq_true rfl) (Nat.le_of_ble_eq_true rfl) ?_
                  intro v29 T29 h29 u29 W29 R29 hq
                  obtain ⟨rfl, eh29⟩ := hq
                  have ei29 := eh29.symm; subst ei29
                  show Own.Go _ _ _ _ _ 237 #[.val (.int p0), .val (.int p1), .val (.int p2), .val (.long p3), .second, .val (.int b5), .val (.int (Own.us p2 1 &&& 3)), .val (.int tl), .val (.int (p0 &&& 255)), .val (.int (Own.us p0 8 &&& 255)), .val (.int (Own.us p0 16 &&& 255)), .val (.int t0), .val (.int t1), .val (.int t2), .val (.ref o4), .val (.ref o5), .val (.ref o6), .val (.int b17), .unset] [(.int (foldF t2)), (.int (foldF (Own.us p0 16 &&& 255)))]
                  by_cases hd2 : (foldF (Own.us p0 16 &&& 255)) = (foldF t2)
                  · skip
                    refine Own.icmpNo W29 at_237 240 (XT.ii_ne_f hd2) rfl ?_
                    refine Own.iconst W29 at_240 241 rfl (1 : Int32) rfl ?_
                    refine Own.goto W29 at_241 245 (by decide) (by decide) ?_
                    exact J245 _ _ 1 W29 (Or.inl ⟨rfl, hl, Or.inr hd0, Or.inr hd1, Or.inr hd2⟩)
                  · skip
                    refine Own.icmpYes W29 at_237 244 (XT.ii_ne_t hd2) (by decide) (by decide) ?_
                    refine Own.iconst W29 at_244 245 rfl (0 : Int32) rfl ?_
                    exact J245 _ _ 0 W29 (Or.inr ⟨rfl, fun z => z.2.2.2.elim hl2 hd2⟩)
              · skip
                refine Own.icmpYes W27 at_218 244 (XT.ii_ne_t hd1) (by decide) (by decide) ?_
                refine Own.iconst W27 at_244 245 rfl (0 : Int32) rfl ?_
                exact J245 _ _ 0 W27 (Or.inr ⟨rfl, fun z => z.2.2.1.elim hl1 hd1⟩)
          · skip
            refine Own.icmpYes W23 at_199 244 (XT.ii_ne_t hd0) (by decide) (by decide) ?_
            refine Own.iconst W23 at_244 245 rfl (0 : Int32) rfl ?_
            exact J245 _ _ 0 W23 (Or.inr ⟨rfl, fun z => z.2.1.elim hl0 hd0⟩)
      · skip
        refine Own.icmpYes W15 at_180 244 (XT.ii_ne_t hl) (by decide) (by decide) ?_
        refine Own.iconst W15 at_244 245 rfl (0 : Int32) rfl ?_
        exact J245 _ _ 0 W15 (Or.inr ⟨rfl, fun z => hl z.1⟩)
    by_cases e38 : (((p2.toUInt32 >>> ((3 : Int32) &&& 31).toUInt32).toInt32) &&& (1 : Int32)) = (0 : Int32)
    · skip
      refine Own.ifNo W0 at_25 28 (XT.i0_ne_f e38) rfl ?_
      refine Own.iload W0 at_28 30 rfl (Own.us p2 1 &&& 3) rfl ?_
      refine Own.goto W0 at_30 38 (by decide) (by decide) ?_
      exact J38 (Own.us p2 1 &&& 3) (and3_rng _)
    · skip
      refine Own.ifYes W0 at_25 33 (XT.i0_ne_t e38) (by decide) (by decide) ?_
      refine Own.iloadN W0 at_33 34 rfl p2 rfl ?_
      refine Own.iconst W0 at_34 35 rfl (4 : Int32) rfl ?_
      refine Own.iushr W0 at_35 36 rfl ?_
      refine Own.iconst W0 at_36 37 rfl (3 : Int32) rfl ?_
      refine Own.iand W0 at_37 38 rfl ?_
      exact J38 (Own.us p2 4 &&& 3) (and3_rng _)
  by_cases e11 : (p2 &&& (1 : Int32)) = (0 : Int32)
  · skip
    refine Own.ifYes W0 at_3 10 (XT.i0_eq_t e11) (by decide) (by decide) ?_
    refine Own.iconst W0 at_10 11 rfl (0 : Int32) rfl ?_
    exact J11 0 (Or.inl rfl)
  · skip
    refine Own.ifNo W0 at_3 6 (XT.i0_eq_f e11) rfl ?_
    refine Own.iconst W0 at_6 7 rfl (1 : Int32) rfl ?_
    refine Own.goto W0 at_7 11 (by decide) (by decide) ?_
    exact J11 1 (Or.inr rfl)
theorem elW {G : Own.Gl} (hw : ∀ d ∈ tables_1, d.before G.a0 G.Z = true) : EW G.Z G.a0 consts_1 := (EW.cons (tw hw 63 rfl) (by decide) EW.nil)
set_option maxRecDepth 65536 in
set_option maxHeartbeats 40000000 in
theorem comes_1 {Post : Tables → Env → Array Value → State → Outcome → State → Prop} (hpost : ∀ tb e args s v u, (limb_1_1.after args s (.returned v) u = true ∧ limb_1_2.after args s (.returned v) u = true ∧ True) → ReturnedEndW s (.returned v) u (Jvm.fieldLocs frame_1_writes args s ++ Jvm.arrayLocs frame_1_arrays args s ++ Jvm.staticLocs frame_1_statics s) 24 1152 → Post tb e args s (.returned v) u) :
    ArmFor flags0 classFile x code maxLocals ret World_1 tables_1 room_1 Calls_1 rest_1 Pre_1 Post := by
  intro l hfl _ _ p e ha hc hk s m args below hf hA hF happ hP
  obtain ⟨hcalls, hrest, hpre⟩ := hP
  obtain ⟨-, -, -, hnamed, -, -, -, hat⟩ := (Spec.applies_iff hf).mp happ
  obtain ⟨hg, hn⟩ := and_e (Cond.before_iff.mp (show (Jvm.Cond.and given_1 narrow_1).before args s = true from hpre))
  obtain ⟨hcnt, g1⟩ := and_e hg
  obtain ⟨a0, g2⟩ := and_e g1
  obtain ⟨a1, g3⟩ := and_e g2
  obtain ⟨a2, g4⟩ := and_e g3
  have a3 := g4
  obtain ⟨w0, w1, w2, w3, rfl⟩ : ∃ w0 w1 w2 w3 : Value, args = #[w0, w1, w2, w3] := by
    have hs : args.size = 4 := by simpa [Cond.value, given_1] using hcnt
    obtain ⟨L⟩ := args
    match L, hs with
    | [w0, w1, w2, w3], _ => exact ⟨w0, w1, w2, w3, rfl⟩
  have hw := fun d (hd : d ∈ tables_1) => atoms_spec (ws := Jvm.Cond.code x code maxLocals ret :: tables_1) hat d (List.mem_cons_of_mem _ hd)
  obtain ⟨hsets, hown0⟩ := atoms_of _ (rest_1_c_eq ▸ (show rest_1_c.before _ s = true from hrest))
  obtain ⟨i0, ei0⟩ := is_v a0
  obtain rfl : w0 = (.int i0) := Option.some.inj ei0
  obtain ⟨i1, ei1⟩ := is_v a1
  obtain rfl : w1 = (.int i1) := Option.some.inj ei1
  obtain ⟨i2, ei2⟩ := is_v a2
  obtain rfl : w2 = (.int i2) := Option.some.inj ei2
  obtain ⟨i3, ei3⟩ := isL_v a3
  obtain rfl : w3 = (.long i3) := Option.some.inj ei3
  have n3 := not_v (Cond.before_iff.mp (hsets _ (List.mem_of_getElem? (i := 2) rfl)))
  obtain ⟨cz, ecz⟩ := is_v (Cond.before_iff.mp (hsets _ (List.mem_of_getElem? (i := 1) rfl)))
  have S8 : Sta s s.heap "java/lang/String" "COMPACT_STRINGS" "Z" (.int cz) := Sta.start ecz (Or.inl (hsets _ (List.mem_of_getElem? (i := 0) rfl)))
  have hcz : ¬ (cz = (0 : Int32)) := gotF (Cond.eq_ints ecz (Term.int_eval (0))) n3
  let G : Own.Gl := (l, s, #[(.int i0), (.int i1), (.int i2), (.long i3)], consts_1, s.heap.size)
  have hw' : ∀ d ∈ tables_1, d.before G.a0 G.Z = true := hw
  have hEL : EW G.Z G.a0 G.EL := elW hw'
  have hcw : Jvm.Lit.compactW.before G.a0 G.Z = true := hsets _ (List.mem_of_getElem? (i := 2) rfl)
  have hCH : CHv G.Z G.EL G.Z.vm G.Z.heap := CHv.start hEL (fun q hq => hcalls.1 q hq) hcw (tw hw' 26 rfl) (tw hw' 9 rfl)
  obtain ⟨n, o, h1, h2, h3, v, L, rfl, ⟨hv, N, -⟩, -, hq⟩ := con_law (G := G) hw' hEL (by show (Own.ST, 7) ∈ consts_1; decide) S8 hcz i0 i1 i2 i3 (Old.start s) p e ha hc hk s m _ below hf ((Spec.applies_iff_loose hf).mp happ).1 ⟨rfl, State.Warmed39.refl s, rfl, hCH, fun _ q => nomatch q⟩ trivial
  subst hv
  exact ⟨n, _, h1, h2, h3, hpost _ _ _ _ _ _ ⟨Cond.after_iff.mpr rfl, Cond.after_iff.mpr (eq_i res_at (Term.int_eval (1)) rfl), trivial⟩ ⟨hq.1, hq.2.1, hq.2.2.1, (hq.2.2.2.sift fun y hy => Or.inr (N y hy)).mono (by decide) (by decide)⟩⟩
theorem main_1_1 : Claimed_1_1 := comes_1 fun _ _ _ _ _ _ h hF => ⟨h.1, hF⟩
theorem main_1_2 : Claimed_1_2 := comes_1 fun _ _ _ _ _ _ h hF => ⟨h.2.1, hF⟩
end Jvm.Pilot.@@N@@
namespace Jvm.Pilot.@@N@@
open Jvm Jvm.ClassFile Sem Op Lib Jvm.Free Jvm.Stand Jvm.Pilot.@@N@@.Jvm.D
/-! MADE BY PROGRAM (witnessworld.py) out of the Statement's table words and the real class files: 24 classes; the members and pool entries that the words name. The judged class is class 1, her method 1. -/
namespace start1
open Jvm.ClassFile
def u (s : String) : CpInfo := .utf8 (stringToUtf16 s)
/-- a pool by its gaps: so many unusable entries, then the entry; so many at the end -/
def gap : Nat → List CpInfo → List CpInfo
  | 0, r => r
  | n + 1, r => .unusable :: gap n r
def poolList (es : List (Nat × CpInfo)) (last : Nat) : List CpInfo := es.foldr (fun e r => gap e.1 (e.2 :: r)) (gap last [])
def pool (es : List (Nat × CpInfo)) (last : Nat) : Array CpInfo := ⟨poolList es last⟩
def fileOf (pool : Array CpInfo) (this : Nat) (attrs : Array Attribute := #[]) (ms : Array MethodInfo := #[]) (fl : Nat := 33) (sup : Nat := 0) (ifs : Array Nat := #[]) (fds : Array FieldInfo := #[]) : ClassFile where
  minorVersion := 0
  majorVersion := 65
  constantPool := pool
  accessFlags := fl
  thisClass := this
  superClass := sup
  interfaces := ifs
  fields := fds
  methods := ms
  attributes := attrs
def plain (name : String) (sup : Option ClassId) : Class where
  name := name
  kind := .ordinary
  loader := none
  accessFlags := 33
  super := sup
  interfaces := #[]
  cf := none
  fields := #[]
  methods := #[]
  instanceTypes := #[]
  staticTypes := #[]
  resolved := #[]
  callSites := []
  init := .initialized
  statics := none
  mirror := none

def pool0 : Array CpInfo := pool [(5, u "<init>"), (0, u "()V"), (1, .class_ 10), (1, u "java/lang/Object")] 113

def k0c0 : Code := { maxStack := 0, maxLocals := 1, code := object_method_1_code, exceptionTable := #[], attributes := #[] }
def k0m0 : Method := { name := "<init>", desc := "()V", sig := { parameters := [], returnType := none }, accessFlags := 1, code := some k0c0 }
/-- java/lang/Object -/
def k0 : Class := { plain "java/lang/Object" none with
  accessFlags := 33
  interfaces := #[]
  cf := some (fileOf pool0 8 #[] #[{ accessFlags := 1, nameIndex := 5, descriptorIndex := 6, attributes := #[] }] 33 0 #[] #[])
  fields := #[]
  methods := #[k0m0]
  instanceTypes := #[]
  staticTypes := #[]
  resolved := Array.replicate 124 none
  statics := none }

def pool1 : Array CpInfo := pool [(2, .class_ 4), (1, u "java/lang/Object"), (0, u "<init>"), (0, u "()V"), (0, .methodref 8 9), (0, .class_ 10), (0, .nameAndType 11 12), (0, u "com/example/lopa/lopa/trec/TagClosesPinLaw"), (0, u "pick"), (0, u "(III)I"), (0, .methodref 8 14), (0, .nameAndType 15 16), (0, u "make"), (0, u "(IIII)Ljava/lang/String;"), (0, .class_ 18), (0, u "com/example/lopa/lopa/trec/SgmlScanner$Tag"), (0, .methodref 17 20), (0, .nameAndType 5 21), (0, u "(Ljava/lang/String;ZJ)V"), (0, .methodref 17 23), (0, .nameAndType 24 25), (0, u "closes"), (0, u "(Ljava/lang/String;)Z"), (0, .methodref 8 27), (0, .nameAndType 28 29), (0, u "fold"), (0, u "(I)I"), (0, .class_ 31), (0, u "java/lang/String"), (0, .methodref 30 33), (0, .nameAndType 5 34), (0, u "([C)V"), (2, u "law"), (0, u "(IIIJ)Z")] 7

def k1m0 : Method := { name := "<init>", desc := "()V", sig := { parameters := [], returnType := none }, accessFlags := 1, code := none }
def k1c1 : Code := { maxStack := 6, maxLocals := 19, code := code, exceptionTable := #[], attributes := #[] }
def k1m1 : Method := { name := "law", desc := "(IIIJ)Z", sig := { parameters := [.int, .int, .int, .long], returnType := some .boolean }, accessFlags := 9, code := some k1c1 }
def k1c2 : Code := { maxStack := 2, maxLocals := 3, code := method_3_code, exceptionTable := #[], attributes := #[] }
def k1m2 : Method := { name := "pick", desc := "(III)I", sig := { parameters := [.int, .int, .int], returnType := some .int }, accessFlags := 10, code := some k1c2 }
def k1c3 : Code := { maxStack := 2, maxLocals := 1, code := method_4_code, exceptionTable := #[], attributes := #[] }
def k1m3 : Method := { name := "fold", desc := "(I)I", sig := { parameters := [.int], returnType := some .int }, accessFlags := 10, code := some k1c3 }
def k1c4 : Code := { maxStack := 3, maxLocals := 5, code := method_5_code, exceptionTable := #[], attributes := #[] }
def k1m4 : Method := { name := "make", desc := "(IIII)Ljava/lang/String;", sig := { parameters := [.int, .int, .int, .int], returnType := some (.object "java/lang/String") }, accessFlags := 10, code := some k1c4 }
/-- com/example/lopa/lopa/trec/TagClosesPinLaw -/
def k1 : Class := { plain "com/example/lopa/lopa/trec/TagClosesPinLaw" (some 0) with
  accessFlags := 49
  interfaces := #[]
  cf := some (fileOf pool1 8 #[] #[{ accessFlags := 1, nameIndex := 5, descriptorIndex := 6, attributes := #[] }, { accessFlags := 9, nameIndex := 37, descriptorIndex := 38, attributes := #[] }, { accessFlags := 10, nameIndex := 11, descriptorIndex := 12, attributes := #[] }, { accessFlags := 10, nameIndex := 28, descriptorIndex := 29, attributes := #[] }, { accessFlags := 10, nameIndex := 15, descriptorIndex := 16, attributes := #[] }] 49 2 #[] #[])
  fields := #[]
  methods := #[k1m0, k1m1, k1m2, k1m3, k1m4]
  instanceTypes := #[]
  staticTypes := #[]
  resolved := Array.replicate 46 none
  statics := none }

def pool2 : Array CpInfo := pool [(1, .class_ 2), (0, u "java/io/Serializable"), (0, .class_ 4), (0, u "java/lang/Object")] 2

/-- java/io/Serializable -/
def k2 : Class := { plain "java/io/Serializable" (some 0) with
  accessFlags := 1537
  interfaces := #[]
  cf := some (fileOf pool2 1 #[] #[] 1537 3 #[] #[])
  fields := #[]
  methods := #[]
  instanceTypes := #[]
  staticTypes := #[]
  resolved := Array.replicate 7 none
  statics := none }

def pool3 : Array CpInfo := pool [(1, .class_ 2), (0, u "java/lang/Comparable"), (0, .class_ 4), (0, u "java/lang/Object")] 7

/-- java/lang/Comparable -/
def k3 : Class := { plain "java/lang/Comparable" (some 0) with
  accessFlags := 1537
  interfaces := #[]
  cf := some (fileOf pool3 1 #[] #[] 1537 3 #[] #[])
  fields := #[]
  methods := #[]
  instanceTypes := #[]
  staticTypes := #[]
  resolved := Array.replicate 12 none
  statics := none }

def pool4 : Array CpInfo := pool [(2, .class_ 4), (1, u "java/lang/CharSequence"), (42, .class_ 48), (0, u "java/lang/CharSequence$1CodePointIterator"), (10, .class_ 60), (0, u "java/lang/CharSequence$1CharIterator"), (5, .class_ 67), (0, u "java/lang/Object")] 63

/-- java/lang/CharSequence -/
def k4 : Class := { plain "java/lang/CharSequence" (some 0) with
  accessFlags := 1537
  interfaces := #[]
  cf := some (fileOf pool4 2 #[.nestMembers #[47, 59]] #[] 1537 66 #[] #[])
  fields := #[]
  methods := #[]
  instanceTypes := #[]
  staticTypes := #[]
  resolved := Array.replicate 131 none
  statics := none }

def pool5 : Array CpInfo := pool [(1, .class_ 2), (0, u "java/lang/constant/Constable"), (0, .class_ 4), (0, u "java/lang/Object")] 6

/-- java/lang/constant/Constable -/
def k5 : Class := { plain "java/lang/constant/Constable" (some 0) with
  accessFlags := 1537
  interfaces := #[]
  cf := some (fileOf pool5 1 #[] #[] 1537 3 #[] #[])
  fields := #[]
  methods := #[]
  instanceTypes := #[]
  staticTypes := #[]
  resolved := Array.replicate 11 none
  statics := none }

def pool6 : Array CpInfo := pool [(1, .class_ 2), (0, u "java/lang/constant/ConstantDesc"), (0, .class_ 4), (0, u "java/lang/Object")] 32

/-- java/lang/constant/ConstantDesc -/
def k6 : Class := { plain "java/lang/constant/ConstantDesc" (some 0) with
  accessFlags := 1537
  interfaces := #[]
  cf := some (fileOf pool6 1 #[] #[] 1537 3 #[] #[])
  fields := #[]
  methods := #[]
  instanceTypes := #[]
  staticTypes := #[]
  resolved := Array.replicate 37 none
  statics := none }

def pool7 : Array CpInfo := pool [(1, .methodref 2 3), (0, .class_ 4), (0, .nameAndType 5 6), (0, u "java/lang/Object"), (0, u "<init>"), (0, u "()V"), (0, .string 8), (0, u ""), (0, .fieldref 10 11), (0, .class_ 12), (0, .nameAndType 13 14), (0, u "java/lang/String"), (0, u "value"), (0, u "[B"), (0, .fieldref 10 16), (0, .nameAndType 17 18), (0, u "coder"), (0, u "B"), (2, u "hash"), (0, u "I"), (2, u "hashIsZero"), (0, u "Z"), (0, .methodref 10 28), (0, .nameAndType 5 29), (0, u "([CIILjava/lang/Void;)V"), (8, .fieldref 10 39), (0, .nameAndType 40 26), (0, u "COMPACT_STRINGS"), (1, .class_ 44), (1, u "java/lang/StringUTF16"), (0, u "compress"), (1, .methodref 42 48), (0, .nameAndType 49 50), (0, u "coderFromArrayLen"), (0, u "([BI)B"), (56, .class_ 109), (1, u "java/lang/StringLatin1"), (67, .methodref 42 178), (0, .nameAndType 45 179), (0, u "([CII)[B"), (154, u "()I"), (0, .methodref 10 336), (0, .nameAndType 17 337), (0, u "()B"), (167, .methodref 10 506), (0, .nameAndType 507 334), (0, u "length"), (67, .class_ 576), (0, u "java/lang/CharSequence"), (5, .methodref 10 583), (0, .nameAndType 584 585), (0, u "regionMatches"), (0, u "(ZILjava/lang/String;II)Z"), (13, u "CASE_INSENSITIVE_ORDER"), (0, u "Ljava/util/Comparator;"), (12, .methodref 107 614), (0, .nameAndType 615 616), (0, u "regionMatchesCI"), (0, u "([BI[BII)Z"), (393, u "([C)V"), (90, u "serialPersistentFields"), (0, u "[Ljava/io/ObjectStreamField;"), (0, .class_ 1104), (0, u "java/lang/String$CaseInsensitiveComparator"), (1, .class_ 1107), (0, u "java/io/Serializable"), (0, .class_ 1109), (0, u "java/lang/Comparable"), (0, .class_ 1111), (0, u "java/lang/constant/Constable"), (0, .class_ 1113), (0, u "java/lang/constant/ConstantDesc"), (2, u "serialVersionUID"), (0, u "J"), (3, u "REPL"), (0, u "C"), (2, u "LATIN1"), (1, u "UTF16"), (128, u "equalsIgnoreCase"), (0, u "(Ljava/lang/String;)Z")] 193

def k7m0 : Method := { name := "<init>", desc := "()V", sig := { parameters := [], returnType := none }, accessFlags := 1, code := none }
def k7c1 : Code := { maxStack := 5, maxLocals := 2, code := jdk_42_method_3_code, exceptionTable := #[], attributes := #[] }
def k7m1 : Method := { name := "<init>", desc := "([C)V", sig := { parameters := [(.array .char)], returnType := none }, accessFlags := 1, code := some k7c1 }
def k7c2 : Code := { maxStack := 2, maxLocals := 1, code := jdk_42_method_54_code, exceptionTable := #[], attributes := #[] }
def k7m2 : Method := { name := "length", desc := "()I", sig := { parameters := [], returnType := some .int }, accessFlags := 1, code := some k7c2 }
def k7c3 : Code := { maxStack := 6, maxLocals := 2, code := jdk_42_method_70_code, exceptionTable := #[], attributes := #[] }
def k7m3 : Method := { name := "equalsIgnoreCase", desc := "(Ljava/lang/String;)Z", sig := { parameters := [(.object "java/lang/String")], returnType := some .boolean }, accessFlags := 1, code := some k7c3 }
def k7c4 : Code := { maxStack := 6, maxLocals := 9, code := jdk_42_method_74_code, exceptionTable := #[], attributes := #[] }
def k7m4 : Method := { name := "regionMatches", desc := "(ZILjava/lang/String;II)Z", sig := { parameters := [.boolean, .int, (.object "java/lang/String"), .int, .int], returnType := some .boolean }, accessFlags := 1, code := some k7c4 }
def k7c5 : Code := { maxStack := 4, maxLocals := 6, code := jdk_42_method_149_code, exceptionTable := #[], attributes := #[] }
def k7m5 : Method := { name := "<init>", desc := "([CIILjava/lang/Void;)V", sig := { parameters := [(.array .char), .int, .int, (.object "java/lang/Void")], returnType := none }, accessFlags := 2, code := some k7c5 }
def k7c6 : Code := { maxStack := 1, maxLocals := 1, code := jdk_42_method_152_code, exceptionTable := #[], attributes := #[] }
def k7m6 : Method := { name := "coder", desc := "()B", sig := { parameters := [], returnType := some .byte }, accessFlags := 0, code := some k7c6 }
/-- java/lang/String -/
def k7 : Class := { plain "java/lang/String" (some 0) with
  accessFlags := 49
  interfaces := #[2, 3, 4, 5, 6]
  cf := some (fileOf pool7 10 #[.nestMembers #[1103]] #[{ accessFlags := 1, nameIndex := 5, descriptorIndex := 6, attributes := #[] }, { accessFlags := 1, nameIndex := 5, descriptorIndex := 1010, attributes := #[] }, { accessFlags := 1, nameIndex := 507, descriptorIndex := 334, attributes := #[] }, { accessFlags := 1, nameIndex := 1256, descriptorIndex := 1257, attributes := #[] }, { accessFlags := 1, nameIndex := 584, descriptorIndex := 585, attributes := #[] }, { accessFlags := 2, nameIndex := 5, descriptorIndex := 29, attributes := #[] }, { accessFlags := 0, nameIndex := 17, descriptorIndex := 337, attributes := #[] }] 49 2 #[1106, 1108, 575, 1110, 1112] #[{ accessFlags := 18, nameIndex := 13, descriptorIndex := 14, attributes := #[] }, { accessFlags := 18, nameIndex := 17, descriptorIndex := 18, attributes := #[] }, { accessFlags := 2, nameIndex := 21, descriptorIndex := 22, attributes := #[] }, { accessFlags := 2, nameIndex := 25, descriptorIndex := 26, attributes := #[] }, { accessFlags := 26, nameIndex := 1116, descriptorIndex := 1117, attributes := #[] }, { accessFlags := 24, nameIndex := 40, descriptorIndex := 26, attributes := #[] }, { accessFlags := 26, nameIndex := 1101, descriptorIndex := 1102, attributes := #[] }, { accessFlags := 26, nameIndex := 1121, descriptorIndex := 1122, attributes := #[] }, { accessFlags := 25, nameIndex := 599, descriptorIndex := 600, attributes := #[] }, { accessFlags := 24, nameIndex := 1125, descriptorIndex := 18, attributes := #[] }, { accessFlags := 24, nameIndex := 1127, descriptorIndex := 18, attributes := #[] }])
  fields := #[{ name := "value", type := (.array .byte), accessFlags := 18, slot := 0, constantValue := 0 }, { name := "coder", type := .byte, accessFlags := 18, slot := 1, constantValue := 0 }, { name := "hash", type := .int, accessFlags := 2, slot := 2, constantValue := 0 }, { name := "hashIsZero", type := .boolean, accessFlags := 2, slot := 3, constantValue := 0 }, { name := "serialVersionUID", type := .long, accessFlags := 26, slot := 0, constantValue := 0 }, { name := "COMPACT_STRINGS", type := .boolean, accessFlags := 24, slot := 1, constantValue := 0 }, { name := "serialPersistentFields", type := (.array (.object "java/io/ObjectStreamField")), accessFlags := 26, slot := 2, constantValue := 0 }, { name := "REPL", type := .char, accessFlags := 26, slot := 3, constantValue := 0 }, { name := "CASE_INSENSITIVE_ORDER", type := (.object "java/util/Comparator"), accessFlags := 25, slot := 4, constantValue := 0 }, { name := "LATIN1", type := .byte, accessFlags := 24, slot := 5, constantValue := 0 }, { name := "UTF16", type := .byte, accessFlags := 24, slot := 6, constantValue := 0 }]
  methods := #[k7m0, k7m1, k7m2, k7m3, k7m4, k7m5, k7m6]
  instanceTypes := #[(.array .byte), .byte, .int, .boolean]
  staticTypes := #[.long, .boolean, (.array (.object "java/io/ObjectStreamField")), .char, (.object "java/util/Comparator"), .byte, .byte]
  resolved := Array.replicate 1451 none
  statics := some 0 }

def pool8 : Array CpInfo := pool [(6, .class_ 8), (1, u "java/lang/Object"), (0, u "<init>"), (0, u "()V"), (1, .class_ 14), (1, u "java/lang/StringUTF16"), (31, u "$assertionsDisabled"), (0, u "Z"), (13, u "HI_BYTE_SHIFT"), (0, u "I"), (2, u "LO_BYTE_SHIFT"), (49, .methodref 12 116), (0, .nameAndType 117 118), (0, u "compress"), (0, u "([CI[BII)I"), (3, u "([CII)[B"), (138, u "coderFromArrayLen"), (0, u "([BI)B"), (106, .class_ 371), (1, u "java/lang/StringUTF16$LinesSpliterator"), (58, u "MAX_LENGTH"), (196, .class_ 628), (0, u "java/lang/StringUTF16$CodePointsSpliterator"), (0, .class_ 630), (0, u "java/lang/StringUTF16$CharsSpliterator")] 4

def k8m0 : Method := { name := "<init>", desc := "()V", sig := { parameters := [], returnType := none }, accessFlags := 0, code := none }
def k8c1 : Code := { maxStack := 2, maxLocals := 2, code := jdk_52_method_15_code, exceptionTable := #[], attributes := #[] }
def k8m1 : Method := { name := "coderFromArrayLen", desc := "([BI)B", sig := { parameters := [(.array .byte), .int], returnType := some .byte }, accessFlags := 8, code := some k8c1 }
def k8c2 : Code := { maxStack := 5, maxLocals := 6, code := jdk_52_method_16_code, exceptionTable := #[], attributes := #[] }
def k8m2 : Method := { name := "compress", desc := "([CII)[B", sig := { parameters := [(.array .char), .int, .int], returnType := some (.array .byte) }, accessFlags := 9, code := some k8c2 }
def k8c3 : Code := { maxStack := 3, maxLocals := 7, code := jdk_52_method_21_code, exceptionTable := #[], attributes := #[] }
def k8m3 : Method := { name := "compress", desc := "([CI[BII)I", sig := { parameters := [(.array .char), .int, (.array .byte), .int, .int], returnType := some .int }, accessFlags := 9, code := some k8c3 }
/-- java/lang/StringUTF16 -/
def k8 : Class := { plain "java/lang/StringUTF16" (some 0) with
  accessFlags := 48
  interfaces := #[]
  cf := some (fileOf pool8 12 #[.nestMembers #[627, 629, 369]] #[{ accessFlags := 0, nameIndex := 9, descriptorIndex := 10, attributes := #[] }, { accessFlags := 8, nameIndex := 261, descriptorIndex := 262, attributes := #[] }, { accessFlags := 9, nameIndex := 117, descriptorIndex := 122, attributes := #[] }, { accessFlags := 9, nameIndex := 117, descriptorIndex := 118, attributes := #[] }] 48 6 #[] #[{ accessFlags := 26, nameIndex := 61, descriptorIndex := 62, attributes := #[] }, { accessFlags := 26, nameIndex := 65, descriptorIndex := 62, attributes := #[] }, { accessFlags := 24, nameIndex := 430, descriptorIndex := 62, attributes := #[] }, { accessFlags := 4120, nameIndex := 46, descriptorIndex := 47, attributes := #[] }])
  fields := #[{ name := "HI_BYTE_SHIFT", type := .int, accessFlags := 26, slot := 0, constantValue := 0 }, { name := "LO_BYTE_SHIFT", type := .int, accessFlags := 26, slot := 1, constantValue := 0 }, { name := "MAX_LENGTH", type := .int, accessFlags := 24, slot := 2, constantValue := 0 }, { name := "$assertionsDisabled", type := .boolean, accessFlags := 4120, slot := 3, constantValue := 0 }]
  methods := #[k8m0, k8m1, k8m2, k8m3]
  instanceTypes := #[]
  staticTypes := #[.int, .int, .int, .boolean]
  resolved := Array.replicate 635 none
  statics := none }

def pool9 : Array CpInfo := pool [(1, .methodref 2 3), (0, .class_ 4), (0, .nameAndType 5 6), (0, u "java/lang/Object"), (0, u "<init>"), (0, u "()V"), (0, .class_ 8), (0, u "java/lang/Record")] 13

def k9c0 : Code := { maxStack := 1, maxLocals := 1, code := jdk_30_method_1_code, exceptionTable := #[], attributes := #[] }
def k9m0 : Method := { name := "<init>", desc := "()V", sig := { parameters := [], returnType := none }, accessFlags := 4, code := some k9c0 }
/-- java/lang/Record -/
def k9 : Class := { plain "java/lang/Record" (some 0) with
  accessFlags := 1057
  interfaces := #[]
  cf := some (fileOf pool9 7 #[] #[{ accessFlags := 4, nameIndex := 5, descriptorIndex := 6, attributes := #[] }] 1057 2 #[] #[])
  fields := #[]
  methods := #[k9m0]
  instanceTypes := #[]
  staticTypes := #[]
  resolved := Array.replicate 22 none
  statics := none }

def pool10 : Array CpInfo := pool [(1, .class_ 2), (0, u "com/example/lopa/lopa/trec/SgmlScanner$Token"), (0, .class_ 4), (0, u "java/lang/Object"), (3, .class_ 9), (0, u "com/example/lopa/lopa/trec/SgmlScanner")] 9

/-- com/example/lopa/lopa/trec/SgmlScanner$Token -/
def k10 : Class := { plain "com/example/lopa/lopa/trec/SgmlScanner$Token" (some 0) with
  accessFlags := 1536
  interfaces := #[]
  cf := some (fileOf pool10 1 #[.nestHost 8] #[] 1536 3 #[] #[])
  fields := #[]
  methods := #[]
  instanceTypes := #[]
  staticTypes := #[]
  resolved := Array.replicate 19 none
  statics := none }

def pool11 : Array CpInfo := pool [(1, .methodref 2 3), (0, .class_ 4), (0, .nameAndType 5 6), (0, u "java/lang/Record"), (0, u "<init>"), (0, u "()V"), (0, .fieldref 8 9), (0, .class_ 10), (0, .nameAndType 11 12), (0, u "com/example/lopa/lopa/trec/SgmlScanner$Tag"), (0, u "name"), (0, u "Ljava/lang/String;"), (0, .fieldref 8 14), (0, .nameAndType 15 16), (0, u "closing"), (0, u "Z"), (0, .fieldref 8 18), (0, .nameAndType 19 20), (0, u "line"), (0, u "J"), (0, .methodref 22 23), (0, .class_ 24), (0, .nameAndType 25 26), (0, u "java/lang/String"), (0, u "equalsIgnoreCase"), (0, u "(Ljava/lang/String;)Z"), (16, .class_ 44), (0, u "com/example/lopa/lopa/trec/SgmlScanner$Token"), (0, u "(Ljava/lang/String;ZJ)V"), (5, u "closes"), (9, .class_ 62), (0, u "com/example/lopa/lopa/trec/SgmlScanner")] 30

def k11c0 : Code := { maxStack := 3, maxLocals := 5, code := prog_19_method_1_code, exceptionTable := #[], attributes := #[] }
def k11m0 : Method := { name := "<init>", desc := "(Ljava/lang/String;ZJ)V", sig := { parameters := [(.object "java/lang/String"), .boolean, .long], returnType := none }, accessFlags := 0, code := some k11c0 }
def k11c1 : Code := { maxStack := 2, maxLocals := 2, code := prog_19_method_3_code, exceptionTable := #[], attributes := #[] }
def k11m1 : Method := { name := "closes", desc := "(Ljava/lang/String;)Z", sig := { parameters := [(.object "java/lang/String")], returnType := some .boolean }, accessFlags := 0, code := some k11c1 }
/-- com/example/lopa/lopa/trec/SgmlScanner$Tag -/
def k11 : Class := { plain "com/example/lopa/lopa/trec/SgmlScanner$Tag" (some 9) with
  accessFlags := 48
  interfaces := #[10]
  cf := some (fileOf pool11 8 #[.nestHost 61] #[{ accessFlags := 0, nameIndex := 5, descriptorIndex := 45, attributes := #[] }, { accessFlags := 0, nameIndex := 51, descriptorIndex := 26, attributes := #[] }] 48 2 #[43] #[{ accessFlags := 18, nameIndex := 11, descriptorIndex := 12, attributes := #[] }, { accessFlags := 18, nameIndex := 15, descriptorIndex := 16, attributes := #[] }, { accessFlags := 18, nameIndex := 19, descriptorIndex := 20, attributes := #[] }])
  fields := #[{ name := "name", type := (.object "java/lang/String"), accessFlags := 18, slot := 0, constantValue := 0 }, { name := "closing", type := .boolean, accessFlags := 18, slot := 1, constantValue := 0 }, { name := "line", type := .long, accessFlags := 18, slot := 2, constantValue := 0 }]
  methods := #[k11m0, k11m1]
  instanceTypes := #[(.object "java/lang/String"), .boolean, .long]
  staticTypes := #[]
  resolved := Array.replicate 93 none
  statics := none }

def pool12 : Array CpInfo := pool [(4, .class_ 6), (1, u "java/lang/Object"), (0, u "<init>"), (0, u "()V"), (5, .class_ 16), (1, u "java/lang/StringLatin1"), (50, .class_ 69), (1, u "java/lang/CharacterDataLatin1"), (51, u "$assertionsDisabled"), (0, u "Z"), (30, .methodref 67 154), (0, .nameAndType 155 156), (0, u "equalsIgnoreCase"), (0, u "(BB)Z"), (64, .class_ 223), (1, u "java/lang/StringLatin1$LinesSpliterator"), (116, u "regionMatchesCI"), (0, u "([BI[BII)Z"), (48, .class_ 391), (0, u "java/lang/StringLatin1$CharsSpliterator")] 3

def k12m0 : Method := { name := "<init>", desc := "()V", sig := { parameters := [], returnType := none }, accessFlags := 0, code := none }
def k12c1 : Code := { maxStack := 2, maxLocals := 8, code := jdk_43_method_30_code, exceptionTable := #[], attributes := #[] }
def k12m1 : Method := { name := "regionMatchesCI", desc := "([BI[BII)Z", sig := { parameters := [(.array .byte), .int, (.array .byte), .int, .int], returnType := some .boolean }, accessFlags := 9, code := some k12c1 }
/-- java/lang/StringLatin1 -/
def k12 : Class := { plain "java/lang/StringLatin1" (some 0) with
  accessFlags := 48
  interfaces := #[]
  cf := some (fileOf pool12 14 #[.nestMembers #[390, 221]] #[{ accessFlags := 0, nameIndex := 7, descriptorIndex := 8, attributes := #[] }, { accessFlags := 9, nameIndex := 340, descriptorIndex := 341, attributes := #[] }] 48 4 #[] #[{ accessFlags := 4120, nameIndex := 121, descriptorIndex := 122, attributes := #[] }])
  fields := #[{ name := "$assertionsDisabled", type := .boolean, accessFlags := 4120, slot := 0, constantValue := 0 }]
  methods := #[k12m0, k12m1]
  instanceTypes := #[]
  staticTypes := #[.boolean]
  resolved := Array.replicate 395 none
  statics := none }

def pool13 : Array CpInfo := pool [(2, .class_ 4), (1, u "java/lang/Object"), (0, u "<init>"), (0, u "()V"), (1, .class_ 10), (1, u "java/lang/CharacterData")] 75

def k13m0 : Method := { name := "<init>", desc := "()V", sig := { parameters := [], returnType := none }, accessFlags := 0, code := none }
/-- java/lang/CharacterData -/
def k13 : Class := { plain "java/lang/CharacterData" (some 0) with
  accessFlags := 1056
  interfaces := #[]
  cf := some (fileOf pool13 8 #[] #[{ accessFlags := 0, nameIndex := 5, descriptorIndex := 6, attributes := #[] }] 1056 2 #[] #[])
  fields := #[]
  methods := #[k13m0]
  instanceTypes := #[]
  staticTypes := #[]
  resolved := Array.replicate 86 none
  statics := none }

def pool14 : Array CpInfo := pool [(2, .class_ 4), (1, u "java/lang/CharacterDataLatin1"), (0, u "A"), (0, u "[I"), (2, u "B"), (0, u "[C"), (16, u "DIGITS"), (0, u "[B"), (8, u "sharpsMap"), (1, .class_ 41), (1, u "java/lang/CharacterData"), (0, u "<init>"), (0, u "()V"), (3, u "instance"), (0, u "Ljava/lang/CharacterDataLatin1;"), (66, u "equalsIgnoreCase"), (0, u "(BB)Z")] 24

def k14c0 : Code := { maxStack := 3, maxLocals := 3, code := jdk_116_method_22_code, exceptionTable := #[], attributes := #[] }
def k14m0 : Method := { name := "equalsIgnoreCase", desc := "(BB)Z", sig := { parameters := [.byte, .byte], returnType := some .boolean }, accessFlags := 8, code := some k14c0 }
def k14m1 : Method := { name := "<init>", desc := "()V", sig := { parameters := [], returnType := none }, accessFlags := 2, code := none }
/-- java/lang/CharacterDataLatin1 -/
def k14 : Class := { plain "java/lang/CharacterDataLatin1" (some 13) with
  accessFlags := 32
  interfaces := #[]
  cf := some (fileOf pool14 2 #[] #[{ accessFlags := 8, nameIndex := 115, descriptorIndex := 116, attributes := #[] }, { accessFlags := 2, nameIndex := 42, descriptorIndex := 43, attributes := #[] }] 32 39 #[] #[{ accessFlags := 26, nameIndex := 27, descriptorIndex := 28, attributes := #[] }, { accessFlags := 8, nameIndex := 37, descriptorIndex := 10, attributes := #[] }, { accessFlags := 24, nameIndex := 47, descriptorIndex := 48, attributes := #[] }, { accessFlags := 24, nameIndex := 5, descriptorIndex := 6, attributes := #[] }, { accessFlags := 24, nameIndex := 9, descriptorIndex := 10, attributes := #[] }])
  fields := #[{ name := "DIGITS", type := (.array .byte), accessFlags := 26, slot := 0, constantValue := 0 }, { name := "sharpsMap", type := (.array .char), accessFlags := 8, slot := 1, constantValue := 0 }, { name := "instance", type := (.object "java/lang/CharacterDataLatin1"), accessFlags := 24, slot := 2, constantValue := 0 }, { name := "A", type := (.array .int), accessFlags := 24, slot := 3, constantValue := 0 }, { name := "B", type := (.array .char), accessFlags := 24, slot := 4, constantValue := 0 }]
  methods := #[k14m0, k14m1]
  instanceTypes := #[]
  staticTypes := #[(.array .byte), (.array .char), (.object "java/lang/CharacterDataLatin1"), (.array .int), (.array .char)]
  resolved := Array.replicate 141 none
  statics := none }

def pool15 : Array CpInfo := pool [(2, .class_ 4), (1, u "java/lang/Object"), (0, u "<init>"), (0, u "()V"), (17, .class_ 26), (1, u "jdk/internal/util/Preconditions"), (28, .class_ 56), (0, u "jdk/internal/util/Preconditions$4"), (57, .class_ 115), (0, u "jdk/internal/util/Preconditions$1"), (7, u "SIOOBE_FORMATTER"), (0, u "Ljava/util/function/BiFunction;"), (0, .class_ 126), (0, u "jdk/internal/util/Preconditions$2"), (3, u "AIOOBE_FORMATTER"), (0, .class_ 132), (0, u "jdk/internal/util/Preconditions$3"), (3, u "IOOBE_FORMATTER")] 57

def k15m0 : Method := { name := "<init>", desc := "()V", sig := { parameters := [], returnType := none }, accessFlags := 1, code := none }
/-- jdk/internal/util/Preconditions -/
def k15 : Class := { plain "jdk/internal/util/Preconditions" (some 0) with
  accessFlags := 33
  interfaces := #[]
  cf := some (fileOf pool15 24 #[.nestMembers #[55, 131, 125, 114]] #[{ accessFlags := 1, nameIndex := 5, descriptorIndex := 6, attributes := #[] }] 33 2 #[] #[{ accessFlags := 25, nameIndex := 123, descriptorIndex := 124, attributes := #[] }, { accessFlags := 25, nameIndex := 130, descriptorIndex := 124, attributes := #[] }, { accessFlags := 25, nameIndex := 136, descriptorIndex := 124, attributes := #[] }])
  fields := #[{ name := "SIOOBE_FORMATTER", type := (.object "java/util/function/BiFunction"), accessFlags := 25, slot := 0, constantValue := 0 }, { name := "AIOOBE_FORMATTER", type := (.object "java/util/function/BiFunction"), accessFlags := 25, slot := 1, constantValue := 0 }, { name := "IOOBE_FORMATTER", type := (.object "java/util/function/BiFunction"), accessFlags := 25, slot := 2, constantValue := 0 }]
  methods := #[k15m0]
  instanceTypes := #[]
  staticTypes := #[(.object "java/util/function/BiFunction"), (.object "java/util/function/BiFunction"), (.object "java/util/function/BiFunction")]
  resolved := Array.replicate 194 none
  statics := some 1 }

def pool16 : Array CpInfo := pool [(9, u "<init>"), (6, .class_ 18), (1, u "java/lang/Object"), (0, u "()V"), (1, .class_ 23), (1, u "jdk/internal/util/ArraysSupport"), (0, u "LOG2_ARRAY_LONG_INDEX_SCALE"), (0, u "I"), (2, u "U"), (0, u "Ljdk/internal/misc/Unsafe;"), (8, u "BIG_ENDIAN"), (0, u "Z"), (8, u "LOG2_BYTE_BIT_SIZE"), (4, u "LOG2_ARRAY_INT_INDEX_SCALE"), (54, u "JLA"), (0, u "Ljdk/internal/access/JavaLangAccess;"), (11, u "LOG2_ARRAY_BOOLEAN_INDEX_SCALE"), (9, u "LOG2_ARRAY_BYTE_INDEX_SCALE"), (5, u "LOG2_ARRAY_CHAR_INDEX_SCALE"), (5, u "LOG2_ARRAY_SHORT_INDEX_SCALE"), (18, u "LOG2_ARRAY_FLOAT_INDEX_SCALE"), (24, u "LOG2_ARRAY_DOUBLE_INDEX_SCALE"), (89, u "T_BOOLEAN"), (2, u "T_CHAR"), (1, u "T_FLOAT"), (1, u "T_DOUBLE"), (1, u "T_BYTE"), (1, u "T_SHORT"), (1, u "T_INT"), (1, u "T_LONG"), (1, u "SOFT_MAX_ARRAY_LENGTH")] 83

def k16m0 : Method := { name := "<init>", desc := "()V", sig := { parameters := [], returnType := none }, accessFlags := 2, code := none }
/-- jdk/internal/util/ArraysSupport -/
def k16 : Class := { plain "jdk/internal/util/ArraysSupport" (some 0) with
  accessFlags := 33
  interfaces := #[]
  cf := some (fileOf pool16 21 #[] #[{ accessFlags := 2, nameIndex := 9, descriptorIndex := 19, attributes := #[] }] 33 16 #[] #[{ accessFlags := 24, nameIndex := 28, descriptorIndex := 29, attributes := #[] }, { accessFlags := 26, nameIndex := 38, descriptorIndex := 39, attributes := #[] }, { accessFlags := 25, nameIndex := 121, descriptorIndex := 25, attributes := #[] }, { accessFlags := 25, nameIndex := 131, descriptorIndex := 25, attributes := #[] }, { accessFlags := 25, nameIndex := 137, descriptorIndex := 25, attributes := #[] }, { accessFlags := 25, nameIndex := 143, descriptorIndex := 25, attributes := #[] }, { accessFlags := 25, nameIndex := 53, descriptorIndex := 25, attributes := #[] }, { accessFlags := 25, nameIndex := 24, descriptorIndex := 25, attributes := #[] }, { accessFlags := 25, nameIndex := 162, descriptorIndex := 25, attributes := #[] }, { accessFlags := 25, nameIndex := 187, descriptorIndex := 25, attributes := #[] }, { accessFlags := 26, nameIndex := 48, descriptorIndex := 25, attributes := #[] }, { accessFlags := 25, nameIndex := 277, descriptorIndex := 25, attributes := #[] }, { accessFlags := 25, nameIndex := 280, descriptorIndex := 25, attributes := #[] }, { accessFlags := 25, nameIndex := 282, descriptorIndex := 25, attributes := #[] }, { accessFlags := 25, nameIndex := 284, descriptorIndex := 25, attributes := #[] }, { accessFlags := 25, nameIndex := 286, descriptorIndex := 25, attributes := #[] }, { accessFlags := 25, nameIndex := 288, descriptorIndex := 25, attributes := #[] }, { accessFlags := 25, nameIndex := 290, descriptorIndex := 25, attributes := #[] }, { accessFlags := 25, nameIndex := 292, descriptorIndex := 25, attributes := #[] }, { accessFlags := 26, nameIndex := 108, descriptorIndex := 109, attributes := #[] }, { accessFlags := 25, nameIndex := 294, descriptorIndex := 25, attributes := #[] }])
  fields := #[{ name := "U", type := (.object "jdk/internal/misc/Unsafe"), accessFlags := 24, slot := 0, constantValue := 0 }, { name := "BIG_ENDIAN", type := .boolean, accessFlags := 26, slot := 1, constantValue := 0 }, { name := "LOG2_ARRAY_BOOLEAN_INDEX_SCALE", type := .int, accessFlags := 25, slot := 2, constantValue := 0 }, { name := "LOG2_ARRAY_BYTE_INDEX_SCALE", type := .int, accessFlags := 25, slot := 3, constantValue := 0 }, { name := "LOG2_ARRAY_CHAR_INDEX_SCALE", type := .int, accessFlags := 25, slot := 4, constantValue := 0 }, { name := "LOG2_ARRAY_SHORT_INDEX_SCALE", type := .int, accessFlags := 25, slot := 5, constantValue := 0 }, { name := "LOG2_ARRAY_INT_INDEX_SCALE", type := .int, accessFlags := 25, slot := 6, constantValue := 0 }, { name := "LOG2_ARRAY_LONG_INDEX_SCALE", type := .int, accessFlags := 25, slot := 7, constantValue := 0 }, { name := "LOG2_ARRAY_FLOAT_INDEX_SCALE", type := .int, accessFlags := 25, slot := 8, constantValue := 0 }, { name := "LOG2_ARRAY_DOUBLE_INDEX_SCALE", type := .int, accessFlags := 25, slot := 9, constantValue := 0 }, { name := "LOG2_BYTE_BIT_SIZE", type := .int, accessFlags := 26, slot := 10, constantValue := 0 }, { name := "T_BOOLEAN", type := .int, accessFlags := 25, slot := 11, constantValue := 0 }, { name := "T_CHAR", type := .int, accessFlags := 25, slot := 12, constantValue := 0 }, { name := "T_FLOAT", type := .int, accessFlags := 25, slot := 13, constantValue := 0 }, { name := "T_DOUBLE", type := .int, accessFlags := 25, slot := 14, constantValue := 0 }, { name := "T_BYTE", type := .int, accessFlags := 25, slot := 15, constantValue := 0 }, { name := "T_SHORT", type := .int, accessFlags := 25, slot := 16, constantValue := 0 }, { name := "T_INT", type := .int, accessFlags := 25, slot := 17, constantValue := 0 }, { name := "T_LONG", type := .int, accessFlags := 25, slot := 18, constantValue := 0 }, { name := "JLA", type := (.object "jdk/internal/access/JavaLangAccess"), accessFlags := 26, slot := 19, constantValue := 0 }, { name := "SOFT_MAX_ARRAY_LENGTH", type := .int, accessFlags := 25, slot := 20, constantValue := 0 }]
  methods := #[k16m0]
  instanceTypes := #[]
  staticTypes := #[(.object "jdk/internal/misc/Unsafe"), .boolean, .int, .int, .int, .int, .int, .int, .int, .int, .int, .int, .int, .int, .int, .int, .int, .int, .int, (.object "jdk/internal/access/JavaLangAccess"), .int]
  resolved := Array.replicate 378 none
  statics := none }

def pool17 : Array CpInfo := pool [(1, u "java/lang/Cloneable"), (0, .class_ 1), (0, u "java/lang/Object"), (0, .class_ 3)] 3

/-- java/lang/Cloneable -/
def k17 : Class := { plain "java/lang/Cloneable" (some 0) with
  accessFlags := 1537
  interfaces := #[]
  cf := some (fileOf pool17 2 #[] #[] 1537 4 #[] #[])
  fields := #[]
  methods := #[]
  instanceTypes := #[]
  staticTypes := #[]
  resolved := Array.replicate 8 none
  statics := none }

/-- the primitive byte -/
def k18 : Class := { plain "byte" none with kind := .primitive 'B', accessFlags := 0x411 }
/-- [B -/
def k19 : Class := { plain "[B" (some 0) with kind := .array 18 .byte, interfaces := #[17, 2], accessFlags := 1041 }

/-- the primitive char -/
def k20 : Class := { plain "char" none with kind := .primitive 'C', accessFlags := 0x411 }
/-- [C -/
def k21 : Class := { plain "[C" (some 0) with kind := .array 20 .char, interfaces := #[17, 2], accessFlags := 1041 }

/-- the primitive int -/
def k22 : Class := { plain "int" none with kind := .primitive 'I', accessFlags := 0x411 }
/-- [I -/
def k23 : Class := { plain "[I" (some 0) with kind := .array 22 .int, interfaces := #[17, 2], accessFlags := 1041 }

def heap : Heap := #[{ cls := 7, slots := #[.long 0, .int 1, .null, .int 0, .null, .int 0, .int 0], vm := .statics 7 },
  { cls := 15, slots := #[.null, .null, .null], vm := .statics 15 }]
def classes : Array Class := #[k0, k1, k2, k3, k4, k5, k6, k7, k8, k9, k10, k11, k12, k13, k14, k15, k16, k17, k18, k19, k20, k21, k22, k23]
def interned : List (Array UInt16 × Addr) := []
def slotsUsed : Nat := 10
def theMethod : MethodId := ⟨1, 1⟩
def args0 : Array Value := #[.int 5, .int 6, .int 7, .long 9]
def aboutOver (below : List Frame) : State where
  vm := { classes := classes, interned := interned.toArray }
  heap := heap
  slotsUsed := slotsUsed
  threads := #[{ frames := .invoking theMethod args0 :: below }]
def below0 : List Frame := [.native { method := ⟨0, 0⟩, args := #[] }]
def about1 : State := aboutOver below0
def p0 : Program := .bare "" "" ""
def e0 : Env := launch0.env 0 0 0
theorem w_frames : about1.frames = Frame.invoking theMethod args0 :: below0 := rfl
set_option maxRecDepth 65536 in
theorem w_args : argsFit about1.vm theMethod args0 = true := by decide +kernel
set_option maxRecDepth 65536 in
theorem w_heap : heapFits about1 = true := by decide +kernel
set_option maxRecDepth 65536 in
theorem w_runnable : about1.curStatus? = some .runnable := by decide +kernel
set_option maxRecDepth 65536 in
theorem w_alone : about1.alone = true := by decide +kernel
set_option maxRecDepth 65536 in
theorem w_named : about1.methodNamed? x = some theMethod := by decide +kernel
set_option maxRecDepth 65536 in
theorem w_hears : about1.hears theMethod below0 = true := by decide +kernel
set_option maxRecDepth 65536 in
theorem w_ripe : about1.ripe theMethod args0 below0 = true := by decide +kernel
theorem w_running : about1.status = .running := rfl
set_option maxRecDepth 65536 in
theorem w_room : about1.hasRoom e0.platform room_1 = true :=
  launch0.hasRoom_least _ room_1 (by decide +kernel) (by decide +kernel) (by decide +kernel) (by decide +kernel) (by decide +kernel) (by decide +kernel)
theorem allAtoms_all (ts : List Jvm.Cond) (a : Array Jvm.Value) (st : Jvm.State) : (allAtoms ts).before a st = ts.all (fun c => c.before a st) := by
  induction ts with
  | nil => rfl
  | cons c t ih =>
    show (Jvm.Cond.and c (allAtoms t)).before a st = _
    rw [Jvm.Cond.before_and, ih, List.all_cons]
def words1 : List Jvm.Cond := Jvm.Cond.code x code maxLocals ret :: tables_1
/-- a 'code' word, met by the world's own term for the bytes: nothing is compared byte by byte -/
theorem code_word {y : MethodName} {bytes : ByteArray} {mx : Nat} {rt : Option FieldType} {a : Array Value} {s : State} {m : MethodId} {meth : Method} {c : Code} (h1 : s.methodNamed? y = some m) (h2 : s.vm.method? m = some meth) (h3 : meth.code = some c) (h4 : c.code = bytes)
    (h5 : (c.maxLocals == mx && c.exceptionTable.isEmpty && decide (c.maxStack ≤ mostOperands) && decide (meth.sig.returnType = rt) && !meth.locks && decide (parseMethodDescriptor y.desc = some meth.sig)) = true) : (Jvm.Cond.code y bytes mx rt).before a s = true := by
  simp only [Bool.and_eq_true, beq_iff_eq, Bool.not_eq_true', decide_eq_true_eq] at h5
  obtain ⟨⟨⟨⟨⟨g1, g2⟩, g3⟩, g4⟩, g5⟩, g6⟩ := h5
  simp [Cond.before, Cond.holds, Cond.value, h1, h2, h3, h4, g1, g2, g3, g4, g5, g6]
def isCode : Jvm.Cond → Bool
  | .code _ _ _ _ => true
  | _ => false
theorem all_split {L : List Jvm.Cond} {P : Jvm.Cond → Bool} (h1 : L.all (fun c => isCode c || P c) = true) (h2 : ∀ c ∈ L.filter isCode, P c = true) : L.all P = true := by
  refine List.all_eq_true.mpr fun c hc => ?_
  have h := List.all_eq_true.mp h1 c hc
  rcases Bool.eq_false_or_eq_true (isCode c) with hi | hi
  · exact h2 c (List.mem_filter.mpr ⟨hc, hi⟩)
  · simpa [hi] using h
set_option maxRecDepth 65536 in
theorem w_c0 : (Jvm.Cond.code x code maxLocals ret).before args0 about1 = true := code_word (m := ⟨1, 1⟩) (meth := k1m1) (c := k1c1) (by decide +kernel) rfl rfl rfl (by decide +kernel)
set_option maxRecDepth 65536 in
theorem w_c1 : (Jvm.Cond.code ({ cls := "com/example/lopa/lopa/trec/TagClosesPinLaw", name := "pick", desc := "(III)I" } : Jvm.MethodName) method_3_code (3 : Nat) (Option.some Jvm.ClassFile.FieldType.int)).before args0 about1 = true := code_word (m := ⟨1, 2⟩) (meth := k1m2) (c := k1c2) (by decide +kernel) rfl rfl rfl (by decide +kernel)
set_option maxRecDepth 65536 in
theorem w_c2 : (Jvm.Cond.code ({ cls := "com/example/lopa/lopa/trec/TagClosesPinLaw", name := "make", desc := "(IIII)Ljava/lang/String;" } : Jvm.MethodName) method_5_code (5 : Nat) (Option.some (Jvm.ClassFile.FieldType.object "java/lang/String"))).before args0 about1 = true := code_word (m := ⟨1, 4⟩) (meth := k1m4) (c := k1c4) (by decide +kernel) rfl rfl rfl (by decide +kernel)
set_option maxRecDepth 65536 in
theorem w_c3 : (Jvm.Cond.code ({ cls := "java/lang/String", name := "<init>", desc := "([C)V" } : Jvm.MethodName) jdk_42_method_3_code (2 : Nat) (Option.none : Option Jvm.ClassFile.FieldType)).before args0 about1 = true := code_word (m := ⟨7, 1⟩) (meth := k7m1) (c := k7c1) (by decide +kernel) rfl rfl rfl (by decide +kernel)
set_option maxRecDepth 65536 in
theorem w_c4 : (Jvm.Cond.code ({ cls := "java/lang/String", name := "<init>", desc := "([CIILjava/lang/Void;)V" } : Jvm.MethodName) jdk_42_method_149_code (6 : Nat) (Option.none : Option Jvm.ClassFile.FieldType)).before args0 about1 = true := code_word (m := ⟨7, 5⟩) (meth := k7m5) (c := k7c5) (by decide +kernel) rfl rfl rfl (by decide +kernel)
set_option maxRecDepth 65536 in
theorem w_c5 : (Jvm.Cond.code ({ cls := "java/lang/Object", name := "<init>", desc := "()V" } : Jvm.MethodName) object_method_1_code (1 : Nat) (Option.none : Option Jvm.ClassFile.FieldType)).before args0 about1 = true := code_word (m := ⟨0, 0⟩) (meth := k0m0) (c := k0c0) (by decide +kernel) rfl rfl rfl (by decide +kernel)
set_option maxRecDepth 65536 in
theorem w_c6 : (Jvm.Cond.code ({ cls := "java/lang/StringUTF16", name := "compress", desc := "([CII)[B" } : Jvm.MethodName) jdk_52_method_16_code (6 : Nat) (Option.some (Jvm.ClassFile.FieldType.array Jvm.ClassFile.FieldType.byte))).before args0 about1 = true := code_word (m := ⟨8, 2⟩) (meth := k8m2) (c := k8c2) (by decide +kernel) rfl rfl rfl (by decide +kernel)
set_option maxRecDepth 65536 in
theorem w_c7 : (Jvm.Cond.code ({ cls := "java/lang/StringUTF16", name := "compress", desc := "([CI[BII)I" } : Jvm.MethodName) jdk_52_method_21_code (7 : Nat) (Option.some Jvm.ClassFile.FieldType.int)).before args0 about1 = true := code_word (m := ⟨8, 3⟩) (meth := k8m3) (c := k8c3) (by decide +kernel) rfl rfl rfl (by decide +kernel)
set_option maxRecDepth 65536 in
theorem w_c8 : (Jvm.Cond.code ({ cls := "java/lang/StringUTF16", name := "coderFromArrayLen", desc := "([BI)B" } : Jvm.MethodName) jdk_52_method_15_code (2 : Nat) (Option.some Jvm.ClassFile.FieldType.byte)).before args0 about1 = true := code_word (m := ⟨8, 1⟩) (meth := k8m1) (c := k8c1) (by decide +kernel) rfl rfl rfl (by decide +kernel)
set_option maxRecDepth 65536 in
theorem w_c9 : (Jvm.Cond.code ({ cls := "com/example/lopa/lopa/trec/SgmlScanner$Tag", name := "<init>", desc := "(Ljava/lang/String;ZJ)V" } : Jvm.MethodName) prog_19_method_1_code (5 : Nat) (Option.none : Option Jvm.ClassFile.FieldType)).before args0 about1 = true := code_word (m := ⟨11, 0⟩) (meth := k11m0) (c := k11c0) (by decide +kernel) rfl rfl rfl (by decide +kernel)
set_option maxRecDepth 65536 in
theorem w_c10 : (Jvm.Cond.code ({ cls := "java/lang/Record", name := "<init>", desc := "()V" } : Jvm.MethodName) jdk_30_method_1_code (1 : Nat) (Option.none : Option Jvm.ClassFile.FieldType)).before args0 about1 = true := code_word (m := ⟨9, 0⟩) (meth := k9m0) (c := k9c0) (by decide +kernel) rfl rfl rfl (by decide +kernel)
set_option maxRecDepth 65536 in
theorem w_c11 : (Jvm.Cond.code ({ cls := "com/example/lopa/lopa/trec/SgmlScanner$Tag", name := "closes", desc := "(Ljava/lang/String;)Z" } : Jvm.MethodName) prog_19_method_3_code (2 : Nat) (Option.some Jvm.ClassFile.FieldType.boolean)).before args0 about1 = true := code_word (m := ⟨11, 1⟩) (meth := k11m1) (c := k11c1) (by decide +kernel) rfl rfl rfl (by decide +kernel)
set_option maxRecDepth 65536 in
theorem w_c12 : (Jvm.Cond.code ({ cls := "com/example/lopa/lopa/trec/TagClosesPinLaw", name := "fold", desc := "(I)I" } : Jvm.MethodName) method_4_code (1 : Nat) (Option.some Jvm.ClassFile.FieldType.int)).before args0 about1 = true := code_word (m := ⟨1, 3⟩) (meth := k1m3) (c := k1c3) (by decide +kernel) rfl rfl rfl (by decide +kernel)
set_option maxRecDepth 65536 in
theorem w_c13 : (Jvm.Cond.code ({ cls := "java/lang/String", name := "equalsIgnoreCase", desc := "(Ljava/lang/String;)Z" } : Jvm.MethodName) jdk_42_method_70_code (2 : Nat) (Option.some Jvm.ClassFile.FieldType.boolean)).before args0 about1 = true := code_word (m := ⟨7, 3⟩) (meth := k7m3) (c := k7c3) (by decide +kernel) rfl rfl rfl (by decide +kernel)
set_option maxRecDepth 65536 in
theorem w_c14 : (Jvm.Cond.code ({ cls := "java/lang/String", name := "length", desc := "()I" } : Jvm.MethodName) jdk_42_method_54_code (1 : Nat) (Option.some Jvm.ClassFile.FieldType.int)).before args0 about1 = true := code_word (m := ⟨7, 2⟩) (meth := k7m2) (c := k7c2) (by decide +kernel) rfl rfl rfl (by decide +kernel)
set_option maxRecDepth 65536 in
theorem w_c15 : (Jvm.Cond.code ({ cls := "java/lang/String", name := "coder", desc := "()B" } : Jvm.MethodName) jdk_42_method_152_code (1 : Nat) (Option.some Jvm.ClassFile.FieldType.byte)).before args0 about1 = true := code_word (m := ⟨7, 6⟩) (meth := k7m6) (c := k7c6) (by decide +kernel) rfl rfl rfl (by decide +kernel)
set_option maxRecDepth 65536 in
theorem w_c16 : (Jvm.Cond.code ({ cls := "java/lang/String", name := "regionMatches", desc := "(ZILjava/lang/String;II)Z" } : Jvm.MethodName) jdk_42_method_74_code (9 : Nat) (Option.some Jvm.ClassFile.FieldType.boolean)).before args0 about1 = true := code_word (m := ⟨7, 4⟩) (meth := k7m4) (c := k7c4) (by decide +kernel) rfl rfl rfl (by decide +kernel)
set_option maxRecDepth 65536 in
theorem w_c17 : (Jvm.Cond.code ({ cls := "java/lang/StringLatin1", name := "regionMatchesCI", desc := "([BI[BII)Z" } : Jvm.MethodName) jdk_43_method_30_code (8 : Nat) (Option.some Jvm.ClassFile.FieldType.boolean)).before args0 about1 = true := code_word (m := ⟨12, 1⟩) (meth := k12m1) (c := k12c1) (by decide +kernel) rfl rfl rfl (by decide +kernel)
set_option maxRecDepth 65536 in
theorem w_c18 : (Jvm.Cond.code ({ cls := "java/lang/CharacterDataLatin1", name := "equalsIgnoreCase", desc := "(BB)Z" } : Jvm.MethodName) jdk_116_method_22_code (3 : Nat) (Option.some Jvm.ClassFile.FieldType.boolean)).before args0 about1 = true := code_word (m := ⟨14, 0⟩) (meth := k14m0) (c := k14c0) (by decide +kernel) rfl rfl rfl (by decide +kernel)
def codes1 : List Jvm.Cond := [Jvm.Cond.code x code maxLocals ret, Jvm.Cond.code ({ cls := "com/example/lopa/lopa/trec/TagClosesPinLaw", name := "pick", desc := "(III)I" } : Jvm.MethodName) method_3_code (3 : Nat) (Option.some Jvm.ClassFile.FieldType.int), Jvm.Cond.code ({ cls := "com/example/lopa/lopa/trec/TagClosesPinLaw", name := "make", desc := "(IIII)Ljava/lang/String;" } : Jvm.MethodName) method_5_code (5 : Nat) (Option.some (Jvm.ClassFile.FieldType.object "java/lang/String")), Jvm.Cond.code ({ cls := "java/lang/String", name := "<init>", desc := "([C)V" } : Jvm.MethodName) jdk_42_method_3_code (2 : Nat) (Option.none : Option Jvm.ClassFile.FieldType), Jvm.Cond.code ({ cls := "java/lang/String", name := "<init>", desc := "([CIILjava/lang/Void;)V" } : Jvm.MethodName) jdk_42_method_149_code (6 : Nat) (Option.none : Option Jvm.ClassFile.FieldType), Jvm.Cond.code ({ cls := "java/lang/Object", name := "<init>", desc := "()V" } : Jvm.MethodName) object_method_1_code (1 : Nat) (Option.none : Option Jvm.ClassFile.FieldType), Jvm.Cond.code ({ cls := "java/lang/StringUTF16", name := "compress", desc := "([CII)[B" } : Jvm.MethodName) jdk_52_method_16_code (6 : Nat) (Option.some (Jvm.ClassFile.FieldType.array Jvm.ClassFile.FieldType.byte)), Jvm.Cond.code ({ cls := "java/lang/StringUTF16", name := "compress", desc := "([CI[BII)I" } : Jvm.MethodName) jdk_52_method_21_code (7 : Nat) (Option.some Jvm.ClassFile.FieldType.int), Jvm.Cond.code ({ cls := "java/lang/StringUTF16", name := "coderFromArrayLen", desc := "([BI)B" } : Jvm.MethodName) jdk_52_method_15_code (2 : Nat) (Option.some Jvm.ClassFile.FieldType.byte), Jvm.Cond.code ({ cls := "com/example/lopa/lopa/trec/SgmlScanner$Tag", name := "<init>", desc := "(Ljava/lang/String;ZJ)V" } : Jvm.MethodName) prog_19_method_1_code (5 : Nat) (Option.none : Option Jvm.ClassFile.FieldType), Jvm.Cond.code ({ cls := "java/lang/Record", name := "<init>", desc := "()V" } : Jvm.MethodName) jdk_30_method_1_code (1 : Nat) (Option.none : Option Jvm.ClassFile.FieldType), Jvm.Cond.code ({ cls := "com/example/lopa/lopa/trec/SgmlScanner$Tag", name := "closes", desc := "(Ljava/lang/String;)Z" } : Jvm.MethodName) prog_19_method_3_code (2 : Nat) (Option.some Jvm.ClassFile.FieldType.boolean), Jvm.Cond.code ({ cls := "com/example/lopa/lopa/trec/TagClosesPinLaw", name := "fold", desc := "(I)I" } : Jvm.MethodName) method_4_code (1 : Nat) (Option.some Jvm.ClassFile.FieldType.int), Jvm.Cond.code ({ cls := "java/lang/String", name := "equalsIgnoreCase", desc := "(Ljava/lang/String;)Z" } : Jvm.MethodName) jdk_42_method_70_code (2 : Nat) (Option.some Jvm.ClassFile.FieldType.boolean), Jvm.Cond.code ({ cls := "java/lang/String", name := "length", desc := "()I" } : Jvm.MethodName) jdk_42_method_54_code (1 : Nat) (Option.some Jvm.ClassFile.FieldType.int), Jvm.Cond.code ({ cls := "java/lang/String", name := "coder", desc := "()B" } : Jvm.MethodName) jdk_42_method_152_code (1 : Nat) (Option.some Jvm.ClassFile.FieldType.byte), Jvm.Cond.code ({ cls := "java/lang/String", name := "regionMatches", desc := "(ZILjava/lang/String;II)Z" } : Jvm.MethodName) jdk_42_method_74_code (9 : Nat) (Option.some Jvm.ClassFile.FieldType.boolean), Jvm.Cond.code ({ cls := "java/lang/StringLatin1", name := "regionMatchesCI", desc := "([BI[BII)Z" } : Jvm.MethodName) jdk_43_method_30_code (8 : Nat) (Option.some Jvm.ClassFile.FieldType.boolean), Jvm.Cond.code ({ cls := "java/lang/CharacterDataLatin1", name := "equalsIgnoreCase", desc := "(BB)Z" } : Jvm.MethodName) jdk_116_method_22_code (3 : Nat) (Option.some Jvm.ClassFile.FieldType.boolean)]
set_option maxRecDepth 65536 in
theorem codes_eq : words1.filter isCode = codes1 := rfl
theorem w_codes : ∀ c ∈ words1.filter isCode, c.before args0 about1 = true := by
  rw [codes_eq]
  intro c hc
  simp only [codes1, List.mem_cons, List.not_mem_nil, or_false] at hc
  rcases hc with rfl | rfl | rfl | rfl | rfl | rfl | rfl | rfl | rfl | rfl | rfl | rfl | rfl | rfl | rfl | rfl | rfl | rfl | rfl
  · exact w_c0
  · exact w_c1
  · exact w_c2
  · exact w_c3
  · exact w_c4
  · exact w_c5
  · exact w_c6
  · exact w_c7
  · exact w_c8
  · exact w_c9
  · exact w_c10
  · exact w_c11
  · exact w_c12
  · exact w_c13
  · exact w_c14
  · exact w_c15
  · exact w_c16
  · exact w_c17
  · exact w_c18
set_option maxRecDepth 65536 in
theorem w_t1 : (words1.take 24).all (fun c => isCode c || c.before args0 about1) = true := by decide +kernel
set_option maxRecDepth 65536 in
theorem w_t2 : ((words1.drop 24).take 24).all (fun c => isCode c || c.before args0 about1) = true := by decide +kernel
set_option maxRecDepth 65536 in
theorem w_t3 : (((words1.drop 24).drop 24).take 24).all (fun c => isCode c || c.before args0 about1) = true := by decide +kernel
set_option maxRecDepth 65536 in
theorem w_t4 : (((words1.drop 24).drop 24).drop 24).all (fun c => isCode c || c.before args0 about1) = true := by decide +kernel
theorem w_tables : (allAtoms (Jvm.Cond.code x code maxLocals ret :: tables_1)).before args0 about1 = true := by
  rw [allAtoms_all]
  show words1.all (fun c => c.before args0 about1) = true
  refine all_split ?_ w_codes
  rw [← List.take_append_drop 24 words1, List.all_append, w_t1, ← List.take_append_drop 24 (words1.drop 24), List.all_append, w_t2, ← List.take_append_drop 24 ((words1.drop 24).drop 24), List.all_append, w_t3, w_t4]
  rfl
set_option maxRecDepth 65536 in
theorem w_rest : rest_1_c.before args0 about1 = true := by decide +kernel
set_option maxRecDepth 65536 in
theorem w_case : (Jvm.Cond.and given_1 narrow_1).before args0 about1 = true := by decide +kernel
set_option maxRecDepth 65536 in
theorem w_consts : constsHeld consts_1 about1 := Jvm.Lit.constsHeldB_iff.mp (by decide +kernel)
theorem w_applies : (headSpec (Jvm.Cond.code x code maxLocals ret :: tables_1) room_1).applies x e0.platform about1 = true :=
  (Spec.applies_iff w_frames).mpr ⟨w_running, w_runnable, w_alone, w_named, w_hears, w_ripe, w_room, w_tables⟩
theorem atStart : AtStart classFile x code maxLocals ret World_1 tables_1 room_1 Calls_1 rest_1 Pre_1 launch0 p0 e0 about1 theMethod args0 below0 :=
  ⟨lists_1, trivial, launch0.admits_env _ _ _, launch0.least_env, fairChoices_fair.cas, fairChoices_fair.clock, w_frames, w_args, w_heap, w_applies, ⟨w_consts, trivial⟩, w_rest, w_case⟩
end start1
theorem witness_1 : WitnessClaimed_1 := ⟨start1.p0, start1.e0, start1.about1, start1.theMethod, start1.args0, start1.below0, start1.atStart⟩
end Jvm.Pilot.@@N@@
